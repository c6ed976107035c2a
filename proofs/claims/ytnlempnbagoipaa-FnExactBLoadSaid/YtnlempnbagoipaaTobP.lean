/- Contracts of functions of the program, proved by walking through their code. Conditions: those that each theorem names. -/
import Derived.Test.YtnlempnbagoipaaProg
import Derived.Laws.StructEq
import Derived.Test.YtnlempnbagoipaaToCc
import Derived.Test.YtnlempnbagoipaaTocL
namespace Go.Bt
open Go Go.Proofs Go.Proofs.Try
set_option maxRecDepth 20000
set_option maxHeartbeats 4000000
set_option linter.unusedVariables false

theorem st35 : StT Try.prog 35 [(0,1),(1,1)] [.int .i64 0,.int .i64 0] := ⟨⟨_,underlying35,fun w => by simp [Array.mapM_eq_mapM_toList,sizeOf3]⟩,zeroValue35⟩
theorem st44 : StT Try.prog 44 [(0,2),(2,1)] [.int .i64 0,.int .i64 0,.bool false] := ⟨⟨_,underlying44,fun w => by simp [Array.mapM_eq_mapM_toList,sizeOf4,sizeOf35]⟩,zeroValue44⟩

theorem rank_spec {B : World} {H : Mem} {v : Value} {ord : List Int} {k : Int} (ho : InS EN H v ord) (hl : ord.length < 4611686018427387904) :
    Fn Try.prog B 69 [v,.int .i64 k] H (fun r H' => r = .int .i64 (rank ord k) ∧ H' = H) := by
  obtain ⟨a,c,rfl⟩ := ho.len
  refine fn_of func69 rfl ntmps69 ?_
  refine (show Go' _ _ _ _ 21 [(0,_),(1,_)] [.code _] _ from ?_)
  refine Go'.seq ?_
  refine Go'.region [(0,0)] rfl ?_
  refine O.asg rfl rfl rfl rfl rfl ?_
  refine Pl.fin [(0,_),(1,_),(4,_)] ⟨rfl,rfl,rfl,trivial⟩ ?_
  refine Go'.seq ?_
  refine Go'.region [(0,0),(1,0),(2,0)] rfl ?_
  refine O.mv rfl rfl rfl rfl rfl ?_
  refine O.len rfl rfl rfl rfl underlying22 rfl ?_
  refine O.asg rfl rfl rfl rfl rfl ?_
  refine Pl.fin [(0,_),(1,_),(4,_),(5,_)] ⟨rfl,rfl,rfl,rfl,trivial⟩ ?_
  refine Go'.seq ?_
  refine Go'.seq ?_
  by_cases h0 : ord.length = 0
  · skip
    refine Go'.region [(0,0),(1,0)] rfl ?_
    refine O.mv rfl rfl rfl rfl rfl ?_
    refine O.cmp rfl rfl rfl rfl rfl rfl (eqlT (by omega)) ?_
    refine Pl.fin [(0,_),(1,_),(4,_),(5,_),(9,_)] ⟨rfl,rfl,rfl,rfl,rfl,trivial⟩ ?_
    refine Go'.condT rfl ?_
    refine Go'.seq ?_
    refine Go'.region [(0,0),(1,0)] rfl ?_
    refine O.mv rfl rfl rfl rfl rfl ?_
    refine O.asg rfl rfl rfl rfl rfl ?_
    refine Pl.fin [(0,_),(1,_),(4,_),(5,_)] ⟨rfl,rfl,rfl,rfl,trivial⟩ ?_
    refine Go'.ret (vs := [_]) func69 results69 ⟨rfl,trivial⟩ ?_
    refine ⟨?_,rfl⟩
    unfold rank; rw [if_pos h0]; rfl
  · skip
    have hp : (0 : Int) < ord.length := by omega
    have b1 := Int.tmod_lt_of_pos k hp
    have b2 : -(ord.length : Int) < k.tmod ord.length := by
      have := Int.lt_tmod_of_pos k hp
      omega
    have b3 := Int.tmod_lt_of_pos (k.tmod ord.length + ord.length) hp
    have b4 : 0 ≤ (k.tmod ord.length + ord.length).tmod ord.length := Int.tmod_nonneg _ (by omega)
    obtain ⟨j,hj⟩ := Int.eq_ofNat_of_zero_le b4
    obtain ⟨z,hz⟩ : ∃ z,ord[j]? = some z := ⟨ord[j]'(by omega),List.getElem?_eq_getElem (by omega)⟩
    obtain ⟨b,o,c',e,hr⟩ := ho.at hz
    cases e
    refine Go'.region [(0,0),(1,0)] rfl ?_
    refine O.mv rfl rfl rfl rfl rfl ?_
    refine O.cmp rfl rfl rfl rfl rfl rfl (eqlF (by omega)) ?_
    refine Pl.fin [(0,_),(1,_),(4,_),(5,_),(9,_)] ⟨rfl,rfl,rfl,rfl,rfl,trivial⟩ ?_
    refine Go'.condF rfl ?_
    refine Go'.skip ?_
    refine Go'.seq ?_
    refine Go'.region [(0,0),(1,0),(2,0),(3,0),(4,0),(5,0),(6,0),(7,0),(8,0),(9,1),(10,0)] rfl ?_
    refine O.mv rfl rfl rfl rfl rfl ?_
    refine O.mv rfl rfl rfl rfl rfl ?_
    refine O.mv rfl rfl rfl rfl rfl ?_
    refine O.rem (k.tmod ord.length) rfl rfl rfl rfl rfl rfl (by omega) rfl ?_
    refine O.mv rfl rfl rfl rfl rfl ?_
    refine O.add ((k.tmod ord.length + ord.length)) rfl rfl rfl rfl rfl rfl (by omega) (by omega) ?_
    refine O.mv rfl rfl rfl rfl rfl ?_
    refine O.rem ((j : Int)) rfl rfl rfl rfl rfl rfl (by omega) hj ?_
    refine O.ix (j := j) rfl rfl rfl rfl underlying22 sizeOf3 rfl rfl (by omega) (by omega) ?_
    refine O.ld rfl rfl rfl (fun w => ⟨isAgg3 w,sizeOf3 w⟩) rfl (hr 0 _ rfl) ?_
    refine O.asg rfl rfl rfl rfl rfl ?_
    refine Pl.fin [(4,_)] ⟨rfl,trivial⟩ ?_
    refine Go'.ret (vs := [_]) func69 results69 ⟨rfl,trivial⟩ ?_
    refine ⟨?_,rfl⟩
    unfold rank; rw [if_neg h0,hj,Int.toNat_natCast,List.getD_eq_getElem?_getD,hz]; rfl

theorem before_spec {B : World} {H : Mem} {v : Value} {ord : List Int} {x y : Int × Int} (ho : InS EN H v ord) (hl : ord.length < 4611686018427387904) :
    Fn Try.prog B 45 [v,.agg (EJ.enc x).toArray,.agg (EJ.enc y).toArray] H (fun r H' => r = .bool ((OO ord).lt x y) ∧ Fr nowhere H H') := by
  have hF : Fr nowhere H H := Fr.refl _ _
  refine fn_of func45 rfl ntmps45 ?_
  refine (show Go' _ _ _ _ 16 [(0,_),(1,_),(2,_)] [.code _] _ from ?_)
  refine Go'.seq ?_
  refine Go'.region [(0,2),(1,2),(2,0)] rfl ?_
  refine O.box rfl rfl rfl rfl ?_
  intro H1 M1
  refine ⟨trivial,?_⟩
  replace ho := ho.fr (M1.fr nowhere)
  replace hF := hF.trans' (M1.fr nowhere) (fun _ _ _ h => h) (fun _ _ _ h => h.elim)
  have mi : Rd H1 H.size 0 (EJ.enc x) := M1.rd _ [] (by simp [Value.cells])
  refine O.box rfl rfl rfl rfl ?_
  intro H2 M2
  refine ⟨trivial,?_⟩
  replace ho := ho.fr (M2.fr nowhere)
  replace mi := (M2.fr nowhere).rd mi (fun _ _ => nw)
  replace hF := hF.trans' (M2.fr nowhere) (fun _ _ _ h => h) (fun _ _ _ h => h.elim)
  have mj : Rd H2 H1.size 0 (EJ.enc y) := M2.rd _ [] (by simp [Value.cells])
  refine O.asg rfl rfl rfl rfl rfl ?_
  refine Pl.fin [(0,_),(4,_),(5,_),(6,_)] ⟨rfl,rfl,rfl,rfl,trivial⟩ ?_
  refine Go'.seq ?_
  refine Go'.draw (fun H' => Rd H' H.size 0 (EJ.enc x) ∧ Rd H' H1.size 0 (EJ.enc y)) [(0,0),(1,0),(2,1),(4,0),(5,0),(6,0),(3,2),(7,2),(8,0),(9,0)] (by kernel_rfl) (by kernel_rfl) (⟨mi,mj⟩) ?_
  refine O.mv rfl rfl rfl rfl rfl ?_
  refine O.faz rfl rfl rfl rfl ⟨_,_,_,underlying35,rfl,rfl,sizeOf3⟩ rfl ?_
  refine O.ld rfl rfl rfl (fun w => ⟨isAgg3 w,sizeOf3 w⟩) rfl (mi 0 _ rfl) ?_
  refine O.mv rfl rfl rfl rfl rfl ?_
  refine O.faz rfl rfl rfl rfl ⟨_,_,_,underlying35,rfl,rfl,sizeOf3⟩ rfl ?_
  refine O.ldC rfl rfl rfl (fun w => ⟨isAgg3 w,sizeOf3 w⟩) rfl (fun _ h => h.2 0 _ rfl) ?_
  refine O.callQ rfl rfl rfl call69 rfl (rank_spec ho hl) ⟨mi,mj⟩ ?_
  refine O.callQ rfl rfl rfl call69 rfl (rank_spec ho hl) ⟨mi,mj⟩ ?_
  refine O.cmp rfl rfl rfl rfl rfl rfl (show cmpOf .lss _ _ = some ((OO ord).lt x y) from rfl) ?_
  refine O.asg rfl rfl rfl rfl rfl ?_
  refine Pl.fin [(6,_)] ⟨rfl,trivial⟩ ?_
  refine Go'.ret (vs := [_]) func45 results45 ⟨rfl,trivial⟩ ?_
  exact ⟨rfl,hF⟩

theorem place_spec {B : World} {H : Mem} {v u : Value} {ord : List Int} {l : List (Int × Int)} {x : Int × Int} (ho : InS EN H v ord) (hl : ord.length < 4611686018427387904) (hi : InS EJ H u l) (hs : Pl.Srt (OO ord) l) (hll : l.length < 4611686018427387904) :
    Fn Try.prog B 61 [v,u,.agg (EJ.enc x).toArray] H (fun r H' => r = .tuple #[.int .i64 ((Pl.pos (OO ord) x l : Nat) : Int),.bool (Pl.fnd (OO ord) x l)] ∧ Fr nowhere H H') := by
  have hF : Fr nowhere H H := Fr.refl _ _
  obtain ⟨a,c,hu⟩ := hi.len
  subst hu
  refine fn_of func61 rfl ntmps61 ?_
  refine (show Go' _ _ _ _ 39 [(0,_),(1,_),(2,_)] [.code _] _ from ?_)
  refine Go'.seq ?_
  refine Go'.region [(0,2),(1,0),(2,0)] rfl ?_
  refine O.box rfl rfl rfl rfl ?_
  intro H1 M1
  refine ⟨trivial,?_⟩
  replace ho := ho.fr (M1.fr nowhere)
  replace hi := hi.fr (M1.fr nowhere)
  replace hF := hF.trans' (M1.fr nowhere) (fun _ _ _ h => h) (fun _ _ _ h => h.elim)
  have mi : Rd H1 H.size 0 (EJ.enc x) := M1.rd _ [] (by simp [Value.cells])
  refine O.asg rfl rfl rfl rfl rfl ?_
  refine O.asg rfl rfl rfl rfl rfl ?_
  refine Pl.fin [(0,_),(1,_),(5,_),(6,_),(7,_)] ⟨rfl,rfl,rfl,rfl,rfl,trivial⟩ ?_
  refine Go'.seq ?_
  refine Go'.region [(0,0)] rfl ?_
  refine O.asg rfl rfl rfl rfl rfl ?_
  refine Pl.fin [(0,_),(1,_),(5,_),(6,_),(7,_),(8,_)] ⟨rfl,rfl,rfl,rfl,rfl,rfl,trivial⟩ ?_
  refine Go'.seq ?_
  refine Go'.block ?_
  refine Go'.loop ?_
  refine Go'.keep [(0,_),(1,_),(5,_),(8,_)] ⟨rfl,rfl,rfl,rfl,trivial⟩ ?_
  refine Go'.ind (σ := Nat) (fun j => l.length - j) (fun j H' => Fr nowhere H1 H' ∧ j ≤ l.length ∧ ∀ i y,l[i]? = some y → i < j → (OO ord).lt y x = true)
    (fun j => [(0,v),(1,.slice a l.length c),(5,.pointer (some ⟨H.size,0,none⟩)),(8,.int .i64 (j : Int))]) 0 ⟨Fr.refl _ _,Nat.zero_le _,fun i y _ h => by omega⟩ rfl ?_
  rintro j H2 ⟨hF2,hjl,hlo⟩ ih
  replace ho := ho.fr hF2
  replace hi := hi.fr hF2
  replace mi := hF2.rd mi (fun _ _ => nw)
  replace hF := hF.trans hF2
  refine Go'.seq ?_
  refine Go'.seq ?_
  by_cases hlt : j < l.length
  · skip
    obtain ⟨y,hy⟩ : ∃ y,l[j]? = some y := ⟨l[j],List.getElem?_eq_getElem hlt⟩
    obtain ⟨b,o,c',e,hr⟩ := hi.at hy
    cases e
    refine Go'.draw (fun _ => True) [(0,0),(1,0),(2,0),(3,0),(4,0),(5,0),(6,0),(7,0),(8,0),(9,1),(10,1),(11,2),(12,0)] (by kernel_rfl) (by kernel_rfl) (trivial) ?_
    refine O.mv rfl rfl rfl rfl rfl ?_
    refine O.mv rfl rfl rfl rfl rfl ?_
    refine O.len rfl rfl rfl rfl underlying25 rfl ?_
    refine O.cmp rfl rfl rfl rfl rfl rfl (lssT (by omega)) ?_
    refine O.mv rfl rfl rfl rfl rfl ?_
    refine O.mv rfl rfl rfl rfl rfl ?_
    refine O.mv rfl rfl rfl rfl rfl ?_
    refine O.mv rfl rfl rfl rfl rfl ?_
    refine O.ix (j := j) rfl rfl rfl rfl underlying25 sizeOf35 rfl rfl (by omega) hlt ?_
    refine O.lds rfl rfl rfl (fun w => ⟨isAgg35 w,sizeOf35 w⟩) rfl rfl hr ?_
    refine O.lds rfl rfl rfl (fun w => ⟨isAgg35 w,sizeOf35 w⟩) rfl rfl mi ?_
    refine O.call rfl rfl rfl call45 rfl (before_spec ho hl) ?_
    rintro _ H3 ⟨rfl,hF3⟩
    refine ⟨trivial,?_⟩
    refine O.pick rfl rfl rfl rfl rfl rfl ?_
    refine Pl.fin [(0,_),(1,_),(5,_),(8,_),(21,_)] ⟨rfl,rfl,rfl,rfl,rfl,trivial⟩ ?_
    cases hyx : (OO ord).lt y x
    · -- the place
      refine Go'.condF rfl ?_
      refine Go'.exit rfl ?_
      refine Go'.seq ?_
      replace ho := ho.fr hF3
      replace hr := hF3.rd hr (fun _ _ => nw)
      replace mi := hF3.rd mi (fun _ _ => nw)
      replace hF := hF.trans hF3
      have hpos : Pl.pos (OO ord) x l = j := by
        have e : l = l.take j ++ y :: l.drop (j + 1) := Bt.split_item hy
        have h2 := Pl.pos_eq (OO ord) (x := x) (a := l.take j) (b := y :: l.drop (j + 1)) (fun z hz => by
          obtain ⟨i,hi2,rfl⟩ := List.mem_iff_getElem.1 hz
          rw [List.length_take] at hi2
          exact hlo i _ (by rw [List.getElem?_eq_getElem (by omega),List.getElem_take]) (by omega)) (fun z hz => by simp only [List.head?_cons,Option.some.injEq] at hz; subst hz; exact hyx)
        rw [← e,List.length_take] at h2
        omega
      have hfnd : Pl.fnd (OO ord) x l = !(OO ord).lt x y := by unfold Pl.fnd; rw [hpos,hy]
      refine Go'.draw (fun _ => True) [(0,0),(1,0),(2,0),(3,0),(4,0),(5,0),(6,0),(7,1),(8,0),(9,0),(10,0),(11,1),(12,2),(13,0),(14,0),(15,0),(16,0)] (by kernel_rfl) (by kernel_rfl) (trivial) ?_
      refine O.mv rfl rfl rfl rfl rfl ?_
      refine O.mv rfl rfl rfl rfl rfl ?_
      refine O.mv rfl rfl rfl rfl rfl ?_
      refine O.len rfl rfl rfl rfl underlying25 rfl ?_
      refine O.cmp rfl rfl rfl rfl rfl rfl (lssT (by omega)) ?_
      refine O.mv rfl rfl rfl rfl rfl ?_
      refine O.mv rfl rfl rfl rfl rfl ?_
      refine O.lds rfl rfl rfl (fun w => ⟨isAgg35 w,sizeOf35 w⟩) rfl rfl mi ?_
      refine O.mv rfl rfl rfl rfl rfl ?_
      refine O.mv rfl rfl rfl rfl rfl ?_
      refine O.ix (j := j) rfl rfl rfl rfl underlying25 sizeOf35 rfl rfl (by omega) hlt ?_
      refine O.lds rfl rfl rfl (fun w => ⟨isAgg35 w,sizeOf35 w⟩) rfl rfl hr ?_
      refine O.call rfl rfl rfl call45 rfl (before_spec ho hl) ?_
      rintro _ H4 ⟨rfl,hF4⟩
      refine ⟨trivial,?_⟩
      refine O.not rfl rfl rfl rfl rfl ?_
      refine O.pick rfl rfl rfl rfl rfl rfl ?_
      refine O.asg rfl rfl rfl rfl rfl ?_
      refine O.asg rfl rfl rfl rfl rfl ?_
      refine Pl.fin [(6,_),(7,_)] ⟨rfl,rfl,trivial⟩ ?_
      refine Go'.ret (vs := [_,_]) func61 results61 ⟨rfl,rfl,trivial⟩ ?_
      exact ⟨by rw [hpos,hfnd]; rfl,hF.trans hF4⟩
    · -- on
      refine Go'.condT rfl ?_
      refine Go'.skip ?_
      refine Go'.block ?_
      refine Go'.region [(0,0),(1,0),(2,0)] rfl ?_
      refine O.mv rfl rfl rfl rfl rfl ?_
      refine O.add (((j + 1 : Nat) : Int)) rfl rfl rfl rfl rfl rfl (by omega) (by omega) ?_
      refine O.asg rfl rfl rfl rfl rfl ?_
      refine Pl.fin [(0,_),(1,_),(5,_),(8,_),(21,_)] ⟨rfl,rfl,rfl,rfl,rfl,trivial⟩ ?_
      refine Go'.inBlock ?_
      refine Go'.keep [(0,_),(1,_),(5,_),(8,_)] ⟨rfl,rfl,rfl,rfl,trivial⟩ ?_
      refine Go'.inLoop ?_
      exact ih (j + 1) H3 ⟨hF2.trans hF3,hlt,fun i z hz hij => by
        rcases Nat.lt_or_ge i j with h | h
        · exact hlo i z hz h
        · obtain rfl : i = j := by omega
          rw [hy] at hz; cases hz; exact hyx⟩ (by omega)
  · -- behind all
    obtain rfl : j = l.length := by omega
    have hpos : Pl.pos (OO ord) x l = l.length := by
      have h2 := Pl.pos_eq (OO ord) (x := x) (a := l) (b := []) (fun z hz => by
        obtain ⟨i,hi2,rfl⟩ := List.mem_iff_getElem.1 hz
        exact hlo i _ (List.getElem?_eq_getElem hi2) hi2) (fun z hz => by simp at hz)
      rw [List.append_nil] at h2
      exact h2
    have hfnd : Pl.fnd (OO ord) x l = false := by unfold Pl.fnd; rw [hpos,List.getElem?_eq_none (Nat.le_refl _)]
    refine Go'.draw (fun _ => True) [(0,0),(1,0),(2,0),(3,0),(4,0),(5,0),(6,0),(7,0),(8,0),(9,1),(10,1),(11,2),(12,0)] (by kernel_rfl) (by kernel_rfl) (trivial) ?_
    refine O.mv rfl rfl rfl rfl rfl ?_
    refine O.mv rfl rfl rfl rfl rfl ?_
    refine O.len rfl rfl rfl rfl underlying25 rfl ?_
    refine O.cmp rfl rfl rfl rfl rfl rfl (lssF (by omega)) ?_
    refine O.mv rfl rfl rfl rfl rfl ?_
    refine Pl.pass rfl rfl rfl rfl ?_
    refine Pl.pass rfl rfl rfl rfl ?_
    refine Pl.pass rfl rfl rfl rfl ?_
    refine Pl.pass rfl rfl rfl rfl ?_
    refine Pl.pass rfl rfl rfl rfl ?_
    refine Pl.pass rfl rfl rfl rfl ?_
    refine Pl.pass2 rfl rfl rfl rfl trivial ?_
    refine O.pick rfl rfl rfl rfl rfl rfl ?_
    refine Pl.fin [(0,_),(1,_),(5,_),(8,_),(21,_)] ⟨rfl,rfl,rfl,rfl,rfl,trivial⟩ ?_
    refine Go'.condF rfl ?_
    refine Go'.exit rfl ?_
    refine Go'.seq ?_
    refine Go'.draw (fun _ => True) [(0,0),(1,0),(2,0),(3,0),(4,0),(5,0),(6,0),(7,1),(8,0),(9,0),(10,0),(11,1),(12,2),(13,0),(14,0),(15,0),(16,0)] (by kernel_rfl) (by kernel_rfl) (trivial) ?_
    refine O.mv rfl rfl rfl rfl rfl ?_
    refine O.mv rfl rfl rfl rfl rfl ?_
    refine O.mv rfl rfl rfl rfl rfl ?_
    refine O.len rfl rfl rfl rfl underlying25 rfl ?_
    refine O.cmp rfl rfl rfl rfl rfl rfl (lssF (by omega)) ?_
    refine O.mv rfl rfl rfl rfl rfl ?_
    refine Pl.pass rfl rfl rfl rfl ?_
    refine Pl.pass rfl rfl rfl rfl ?_
    refine Pl.pass rfl rfl rfl rfl ?_
    refine Pl.pass rfl rfl rfl rfl ?_
    refine Pl.pass rfl rfl rfl rfl ?_
    refine Pl.pass rfl rfl rfl rfl ?_
    refine Pl.pass2 rfl rfl rfl rfl trivial ?_
    refine Pl.pass rfl rfl rfl rfl ?_
    refine O.pick rfl rfl rfl rfl rfl rfl ?_
    refine O.asg rfl rfl rfl rfl rfl ?_
    refine O.asg rfl rfl rfl rfl rfl ?_
    refine Pl.fin [(6,_),(7,_)] ⟨rfl,rfl,trivial⟩ ?_
    refine Go'.ret (vs := [_,_]) func61 results61 ⟨rfl,rfl,trivial⟩ ?_
    exact ⟨by rw [hpos,hfnd]; rfl,hF⟩

end Go.Bt
namespace Go.Bt
open Go Go.Proofs Go.Proofs.Try
set_option maxRecDepth 20000
set_option maxHeartbeats 4000000
set_option linter.unusedVariables false

theorem put_specA {B : World} {H : Mem} {v u : Value} {ord : List Int} {l : List (Int × Int)} {x : Int × Int} (ho : InS EN H v ord) (hl : ord.length < 4611686018427387904) (hi : InS EJ H u l) (hs : Pl.Srt (OO ord) l) (hll : l.length ≤ 4294967296) :
    Fn Try.prog B 68 [v,u,.agg (EJ.enc x).toArray] H (fun r H' => ∃ sv,r = .tuple #[sv,FV (Pl.got (OO ord) x l)] ∧ Acc EJ (fun b => H.size ≤ b) H' sv (Pl.put (OO ord) x l) ∧ Fr nowhere H H') := by
  have hF : Fr nowhere H H := Fr.refl _ _
  have hple := Pl.pos_le (OO ord) x l
  have hi0 := hi
  refine fn_of func68 rfl ntmps68 ?_
  refine (show Go' _ _ _ _ 45 [(0,_),(1,_),(2,_)] [.code _] _ from ?_)
  refine Go'.seq ?_
  refine Go'.region [(0,2),(1,0),(2,2)] rfl ?_
  refine O.box rfl rfl rfl rfl ?_
  intro H1 M1
  refine ⟨trivial,?_⟩
  have hs1 := M1.size
  replace ho := ho.fr (M1.fr nowhere)
  replace hi := hi.fr (M1.fr nowhere)
  replace hF := hF.trans' (M1.fr nowhere) (fun _ _ _ h => h) (fun _ _ _ h => h.elim)
  have mi : Rd H1 H.size 0 (EJ.enc x) := M1.rd _ [] (by simp [Value.cells])
  refine O.asg rfl rfl rfl rfl rfl ?_
  refine O.alloc rfl rfl rfl zeroValue44 ?_
  intro H2 M2
  refine ⟨trivial,?_⟩
  have hs2 := M2.size
  replace ho := ho.fr (M2.fr nowhere)
  replace hi := hi.fr (M2.fr nowhere)
  replace mi := (M2.fr nowhere).rd mi (fun _ _ => nw)
  replace hF := hF.trans' (M2.fr nowhere) (fun _ _ _ h => h) (fun _ _ _ h => h.elim)
  have m7 : Wr H2 H1.size 0 3 := M2.wr 3 (by decide)
  refine Pl.fin [(0,_),(1,_),(5,_),(6,_),(7,_)] ⟨rfl,rfl,rfl,rfl,rfl,trivial⟩ ?_
  refine Go'.seq ?_
  refine Go'.region [(0,0),(1,0),(2,1),(3,2),(4,0),(5,0),(6,0),(7,0),(8,0)] rfl ?_
  refine O.mv rfl rfl rfl rfl rfl ?_
  refine O.mv rfl rfl rfl rfl rfl ?_
  refine O.lds rfl rfl rfl (fun w => ⟨isAgg35 w,sizeOf35 w⟩) rfl rfl mi ?_
  refine O.call rfl rfl rfl call61 rfl (place_spec ho hl hi hs (by omega)) ?_
  rintro _ H3 ⟨rfl,hF3⟩
  have hs3 := hF3.size
  replace ho := ho.fr hF3
  replace hi := hi.fr hF3
  replace mi := hF3.rd mi (fun _ _ => nw)
  replace m7 := hF3.wr m7
  replace hF := hF.trans' hF3 (fun _ _ _ h => h) (fun _ _ _ h => h.elim)
  refine ⟨trivial,?_⟩
  refine O.mv rfl rfl rfl rfl rfl ?_
  refine O.ext rfl rfl rfl rfl rfl rfl ?_
  refine O.ext rfl rfl rfl rfl rfl rfl ?_
  refine O.asg rfl rfl rfl rfl rfl ?_
  refine O.asg rfl rfl rfl rfl rfl ?_
  refine Pl.fin [(1,_),(5,_),(6,_),(7,_),(8,_),(9,_)] ⟨rfl,rfl,rfl,rfl,rfl,rfl,trivial⟩ ?_
  refine Go'.seq ?_
  generalize hpi : Pl.pos (OO ord) x l = i at *
  refine Go'.region [(0,2),(1,0),(2,0),(3,0),(4,2),(5,0)] rfl ?_
  refine O.bsl (cs := []) rfl rfl rfl ⟨underlying25,sizeOf35,zeroValue35,⟨_,typeInfo35,rfl⟩,rfl,by decide,by decide⟩ rfl (by decide) (by kernel_rfl) ?_
  intro H4 M4
  have hs4 := M4.size
  replace ho := ho.fr (M4.fr nowhere)
  replace hi := hi.fr (M4.fr nowhere)
  replace mi := (M4.fr nowhere).rd mi (fun _ _ => nw)
  replace m7 := (M4.fr nowhere).wr m7
  replace hF := hF.trans' (M4.fr nowhere) (fun _ _ _ h => h) (fun _ _ _ h => h.elim)
  refine ⟨trivial,?_⟩
  refine O.mv rfl rfl rfl rfl rfl ?_
  refine O.mv rfl rfl rfl rfl rfl ?_
  refine O.slcIn (E := EJ) (jl := 0) (jh := i) rfl rfl rfl rfl underlying25 sizeOf35 rfl hi ⟨_,by rfl⟩ rfl (by omega) (by omega) ?_
  intro v1 hv1
  rw [List.drop_zero,Nat.sub_zero] at hv1
  have hl1 : (l.take i).length = i := by rw [List.length_take]; omega
  refine O.app (m := (l.take i).length) (news := (row EJ (l.take i))) rfl rfl rfl ⟨underlying25,sizeOf35,zeroValue35,⟨_,typeInfo35,rfl⟩,rfl,by decide,by decide⟩ rfl (Sl.none _ _ _ _) rfl hv1.src (row_len EJ _) (row_ones EJ _) (Nat.le_trans (Nat.mul_le_mul_left _ (Nat.le_of_ble_eq_true (n := _) (m := 4096) rfl)) (by omega)) (by omega) ?_
  intro b1 o1 c1 H5 ha
  have hsz5 := ha.fr.size
  have hsl1 : SlE EJ H5 b1 o1 c1 (l.take i) := SlE.of ha.sl (by rw [List.nil_append]) (Nat.zero_add _)
  have hb1 : H.size + 2 ≤ b1 := by rcases ha.place with ⟨r,_⟩ | ⟨r,_⟩ <;> omega
  replace ho := ho.fr ha.quiet
  replace hi := hi.fr ha.quiet
  replace mi := ha.quiet.rd mi (fun _ _ => nw)
  replace m7 := ha.quiet.wr m7
  replace hF := hF.trans' ha.quiet (fun _ _ _ h => h) (fun _ _ _ h => h.elim)
  refine ⟨trivial,?_⟩
  refine O.asg rfl rfl rfl rfl rfl ?_
  refine Pl.fin [(1,_),(5,_),(6,_),(7,_),(8,_),(9,_),(10,_)] ⟨rfl,rfl,rfl,rfl,rfl,rfl,rfl,trivial⟩ ?_
  refine Go'.seq ?_
  rw [Nat.zero_add]
  refine Go'.region [(0,0),(1,1),(2,2),(3,2),(4,0)] rfl ?_
  refine O.mv rfl rfl rfl rfl rfl ?_
  refine O.lds rfl rfl rfl (fun w => ⟨isAgg35 w,sizeOf35 w⟩) rfl rfl mi ?_
  refine O.bsl (cs := (EJ.enc x)) rfl rfl rfl ⟨underlying25,sizeOf35,zeroValue35,⟨_,typeInfo35,rfl⟩,rfl,by decide,by decide⟩ rfl (by decide) (by kernel_rfl) ?_
  intro H6 M6
  have hs6 := M6.size
  replace ho := ho.fr (M6.fr nowhere)
  replace hi := hi.fr (M6.fr nowhere)
  replace mi := (M6.fr nowhere).rd mi (fun _ _ => nw)
  replace m7 := (M6.fr nowhere).wr m7
  replace hF := hF.trans' (M6.fr nowhere) (fun _ _ _ h => h) (fun _ _ _ h => h.elim)
  replace hsl1 := hsl1.fr (M6.fr nowhere) (fun _ _ _ => nw)
  have m6 : Rd H6 H5.size 0 (EJ.enc x) := M6.rd _ [] (by simp)
  refine ⟨trivial,?_⟩
  refine O.app (m := 1) (news := (EJ.enc x)) rfl rfl rfl ⟨underlying25,sizeOf35,zeroValue35,⟨_,typeInfo35,rfl⟩,rfl,by decide,by decide⟩ rfl hsl1 rfl (.inl ⟨_,_,_,rfl,m6⟩) rfl rfl (Nat.le_trans (Nat.mul_le_mul_left _ (Nat.le_of_ble_eq_true (n := _) (m := 4096) rfl)) (by omega)) (by omega) ?_
  intro b2 o2 c2 H7 ha2
  have hsz7 := ha2.fr.size
  have hsl2 : Sl H7 b2 o2 ((l.take i).length + 1) c2 2 (row EJ (l.take i ++ [x])) := by rw [row_append,row_one]; exact ha2.sl
  have hb2 : H.size + 2 ≤ b2 := by rcases ha2.place with ⟨r,_⟩ | ⟨r,_⟩ <;> omega
  replace m7 := ha2.fr.wr m7
  replace hF := hF.trans' ha2.fr (fun _ _ _ h => h) (fun b o hb hz => by have h1 := hz.1; omega)
  replace hi := hi0.fr hF
  refine ⟨trivial,?_⟩
  refine O.asg rfl rfl rfl rfl rfl ?_
  refine Pl.fin [(1,_),(6,_),(7,_),(8,_),(9,_),(10,_)] ⟨rfl,rfl,rfl,rfl,rfl,rfl,trivial⟩ ?_
  refine Go'.seq ?_
  refine Go'.seq ?_
  refine Go'.region [(0,0)] rfl ?_
  refine O.mv rfl rfl rfl rfl rfl ?_
  refine Pl.fin [(1,_),(6,_),(7,_),(8,_),(10,_),(27,_)] ⟨rfl,rfl,rfl,rfl,rfl,rfl,trivial⟩ ?_
  cases hfd : Pl.fnd (OO ord) x l
  · -- new
    refine Go'.condF rfl ?_
    refine Go'.skip ?_
    refine Go'.seq ?_
    refine Go'.region [(0,0),(1,0),(2,0),(3,0),(4,2),(5,0),(6,0),(7,2)] rfl ?_
    refine O.mv rfl rfl rfl rfl rfl ?_
    refine O.mv rfl rfl rfl rfl rfl ?_
    refine O.mv rfl rfl rfl rfl rfl ?_
    refine O.slcIn (E := EJ) (jl := i) (jh := l.length) rfl rfl rfl rfl underlying25 sizeOf35 rfl hi rfl ⟨_,by rfl⟩ (by omega) (by omega) ?_
    intro v2 hv2
    rw [List.take_of_length_le (by rw [List.length_drop]; omega)] at hv2
    refine O.app (m := (l.drop i).length) (news := (row EJ (l.drop i))) rfl rfl rfl ⟨underlying25,sizeOf35,zeroValue35,⟨_,typeInfo35,rfl⟩,rfl,by decide,by decide⟩ rfl hsl2 rfl hv2.src (row_len EJ _) (row_ones EJ _) (Nat.le_trans (Nat.mul_le_mul_left _ (Nat.le_of_ble_eq_true (n := _) (m := 4096) rfl)) (by rw [List.length_drop]; omega)) (by rw [List.length_drop]; omega) ?_
    intro b3 o3 c3 H8 ha3
    have hsz8 := ha3.fr.size
    have hsl3 : SlE EJ H8 b3 o3 c3 (l.take i ++ [x] ++ l.drop i) := SlE.of ha3.sl (by rw [← row_append]) (by rw [List.length_append,List.length_append]; rfl)
    have hb3 : H.size + 2 ≤ b3 := by rcases ha3.place with ⟨r,_⟩ | ⟨r,_⟩ <;> omega
    replace m7 := ha3.fr.wr m7
    replace hF := hF.trans' ha3.fr (fun _ _ _ h => h) (fun b o hb hz => by have h1 := hz.1; omega)
    refine ⟨trivial,?_⟩
    refine O.bld (cs := (fvs none)) rfl rfl rfl rfl (st44) rfl (by kernel_rfl) ?_
    refine O.asg rfl rfl rfl rfl rfl ?_
    refine O.st rfl rfl sizeOf44 rfl rfl rfl rfl rfl m7 ?_
    intro H9 W9
    replace hsl3 := hsl3.fr W9.fr (fun _ _ _ => nr (.inl (by omega)))
    replace hF := hF.trans' W9.fr (fun _ _ _ h => h) (fun b o hb hz => by have h1 := hz.1; omega)
    have hfin : Pl.put (OO ord) x l = l.take i ++ [x] ++ l.drop (i + (Pl.fnd (OO ord) x l).toNat) := by unfold Pl.put; rw [hpi]; simp
    refine ⟨trivial,?_⟩
    refine Pl.fin [(6,_),(7,_)] ⟨rfl,rfl,trivial⟩ ?_
    refine Go'.ret (vs := [_,_]) func68 results68 ⟨rfl,⟨_,_,rfl,fun _ _ => run_loadVar_agg (fun w => ⟨isAgg44 w,sizeOf44 w⟩) rfl W9.all⟩,trivial⟩ ?_
    refine ⟨_,by rw [Pl.got_none _ hfd]; rfl,.inr ⟨b3,o3,c3,?_,by omega,hsl3.lt (by have h1 := hsl3.hle; simp only [List.length_append,List.length_cons,List.length_nil] at h1; show 0 < c3 * 2; omega),?_⟩,hF⟩
    · rw [hfin,hfd]; simp only [Bool.toNat_false,Nat.add_zero,List.length_append]; rfl
    · rw [hfin,hfd]; exact hsl3
  · -- there is one
    refine Go'.condT rfl ?_
    refine Go'.seq ?_
    obtain ⟨y,hy,_,_⟩ := Pl.fnd_at (OO ord) hs hfd
    rw [hpi] at hy
    have hil : i < l.length := (List.getElem?_eq_some_iff.1 hy).1
    obtain ⟨bl,ol,cl',hue,hir⟩ := hi.at hy
    have hbl : bl < H.size := by
      obtain ⟨b0,o0,c0,hue0,hir0⟩ := hi0.at hy
      rw [hue] at hue0
      cases hue0
      exact cl_lt (hir0 0 _ rfl)
    subst hue
    refine Go'.draw (fun H' => Rd H' bl (ol + i * 2) (EJ.enc y)) [(0,0),(1,0),(2,0),(3,0),(4,0),(6,0),(7,0),(8,0),(9,0),(10,0),(5,2),(11,0),(12,3)] (by kernel_rfl) (by kernel_rfl) (hir) ?_
    refine O.mv rfl rfl rfl rfl rfl ?_
    refine O.mv rfl rfl rfl rfl rfl ?_
    refine O.mv rfl rfl rfl rfl rfl ?_
    refine O.add (((i + 1 : Nat) : Int)) rfl rfl rfl rfl rfl rfl (by omega) (by omega) ?_
    refine O.slcIn (E := EJ) (jl := i + 1) (jh := l.length) rfl rfl rfl rfl underlying25 sizeOf35 rfl hi rfl ⟨_,by rfl⟩ (by omega) (by omega) ?_
    intro v2 hv2
    rw [List.take_of_length_le (by rw [List.length_drop]; omega)] at hv2
    refine O.mv rfl rfl rfl rfl rfl ?_
    refine O.mv rfl rfl rfl rfl rfl ?_
    refine O.ix (j := i) rfl rfl rfl rfl underlying25 sizeOf35 rfl rfl (by omega) (by omega) ?_
    refine O.ldsC rfl rfl rfl (fun w => ⟨isAgg35 w,sizeOf35 w⟩) rfl rfl (fun _ h => h) ?_
    refine O.bld (cs := (fvs (some y))) rfl rfl rfl rfl (st44) rfl (by kernel_rfl) ?_
    refine O.app (m := (l.drop (i + 1)).length) (news := (row EJ (l.drop (i + 1)))) rfl rfl rfl ⟨underlying25,sizeOf35,zeroValue35,⟨_,typeInfo35,rfl⟩,rfl,by decide,by decide⟩ rfl hsl2 rfl hv2.src (row_len EJ _) (row_ones EJ _) (Nat.le_trans (Nat.mul_le_mul_left _ (Nat.le_of_ble_eq_true (n := _) (m := 4096) rfl)) (by rw [List.length_drop]; omega)) (by rw [List.length_drop]; omega) ?_
    intro b3 o3 c3 H8 ha3
    have hsz8 := ha3.fr.size
    have hsl3 : SlE EJ H8 b3 o3 c3 (l.take i ++ [x] ++ l.drop (i + 1)) := SlE.of ha3.sl (by rw [← row_append]) (by rw [List.length_append,List.length_append]; rfl)
    have hb3 : H.size + 2 ≤ b3 := by rcases ha3.place with ⟨r,_⟩ | ⟨r,_⟩ <;> omega
    replace m7 := ha3.fr.wr m7
    replace hF := hF.trans' ha3.fr (fun _ _ _ h => h) (fun b o hb hz => by have h1 := hz.1; omega)
    replace hir := ha3.fr.rd hir (fun _ _ => nr (.inl (by omega)))
    refine ⟨hir,?_⟩
    refine O.asg rfl rfl rfl rfl rfl ?_
    refine O.st3 rfl rfl sizeOf44 rfl rfl rfl rfl rfl m7 ?_
    intro H9 W9
    replace hsl3 := hsl3.fr W9.fr (fun _ _ _ => nr (.inl (by omega)))
    replace hF := hF.trans' W9.fr (fun _ _ _ h => h) (fun b o hb hz => by have h1 := hz.1; omega)
    have hfin : Pl.put (OO ord) x l = l.take i ++ [x] ++ l.drop (i + (Pl.fnd (OO ord) x l).toNat) := by unfold Pl.put; rw [hpi]; simp
    refine Pl.fin [(1,_),(6,_),(7,_),(8,_),(10,_)] ⟨rfl,rfl,rfl,rfl,rfl,trivial⟩ ?_
    refine Go'.ret (vs := [_,_]) func68 results68 ⟨rfl,⟨_,_,rfl,fun _ _ => run_loadVar_agg (fun w => ⟨isAgg44 w,sizeOf44 w⟩) rfl W9.all⟩,trivial⟩ ?_
    refine ⟨_,by rw [Pl.got_some _ hfd,hpi,hy]; rfl,.inr ⟨b3,o3,c3,?_,by omega,hsl3.lt (by have h1 := hsl3.hle; simp only [List.length_append,List.length_cons,List.length_nil] at h1; show 0 < c3 * 2; omega),?_⟩,hF⟩
    · rw [hfin,hfd]; simp only [Bool.toNat_true,List.length_append]; rfl
    · rw [hfin,hfd]; exact hsl3

end Go.Bt
namespace Go.Bt
open Go Go.Proofs Go.Proofs.Try
set_option maxRecDepth 20000
set_option maxHeartbeats 4000000
set_option linter.unusedVariables false

end Go.Bt
namespace Go.Bt.FB
open Go Go.Proofs Go.Proofs.Try
set_option maxRecDepth 20000
set_option maxHeartbeats 4000000
set_option linter.unusedVariables false
set_option linter.unusedSectionVars false

@[reducible] def nilCx : Inhabited Cx := ⟨⟨[],0,0,.bool false,0,fun _ => False⟩⟩
def exl : List (Int × Int) := [(5,1),(3,2),(9,3),(3,4),(1,5),(7,6),(8,7)]
def fitsb (z : Int) : Bool := decide (z = 0) || (decide (2 ≤ z) && decide (z ≤ 128))
theorem fits_spec {B : World} {H : Mem} {z : Int} : Fn Try.prog B 15 [.int .i64 z] H (fun r H' => r = .bool (fitsb z) ∧ H' = H) := by
  refine fn_of func15 rfl ntmps15 ?_
  refine (show Go' _ _ _ _ 13 [(0,_)] [.code _] _ from ?_)
  refine Go'.seq ?_
  refine Go'.region [(0,0)] rfl ?_
  refine O.asg rfl rfl rfl rfl rfl ?_
  refine Pl.fin [(0,_),(2,_)] ⟨rfl,rfl,trivial⟩ ?_
  refine Go'.seq ?_
  by_cases h0 : z = 0
  · skip
    refine Go'.region [(0,0),(1,0),(2,0),(3,0),(4,0),(5,0),(6,0),(7,0),(8,0),(9,0),(10,0)] rfl ?_
    refine O.mv rfl rfl rfl rfl rfl ?_
    refine O.cmp rfl rfl rfl rfl rfl rfl (eqlT (by omega)) ?_
    refine O.mv rfl rfl rfl rfl rfl ?_
    refine Pl.pass rfl rfl rfl rfl ?_
    refine Pl.pass rfl rfl rfl rfl ?_
    refine Pl.pass rfl rfl rfl rfl ?_
    refine Pl.pass rfl rfl rfl rfl ?_
    refine Pl.pass rfl rfl rfl rfl ?_
    refine Pl.pass rfl rfl rfl rfl ?_
    refine O.pick rfl rfl rfl rfl rfl rfl ?_
    refine O.asg rfl rfl rfl rfl rfl ?_
    refine Pl.fin [(2,_)] ⟨rfl,trivial⟩ ?_
    refine Go'.ret (vs := [_]) func15 results15 ⟨rfl,trivial⟩ ?_
    subst h0; exact ⟨rfl,rfl⟩
  by_cases h2 : 2 ≤ z
  · skip
    by_cases h3 : z ≤ 128
    · skip
      refine Go'.region [(0,0),(1,0),(2,0),(3,0),(4,0),(5,0),(6,0),(7,0),(8,0),(9,0),(10,0)] rfl ?_
      refine O.mv rfl rfl rfl rfl rfl ?_
      refine O.cmp rfl rfl rfl rfl rfl rfl (eqlF (by omega)) ?_
      refine O.mv rfl rfl rfl rfl rfl ?_
      refine O.mv rfl rfl rfl rfl rfl ?_
      refine O.cmp rfl rfl rfl rfl rfl rfl (geqT (by omega)) ?_
      refine O.mv rfl rfl rfl rfl rfl ?_
      refine O.mv rfl rfl rfl rfl rfl ?_
      refine O.cmp rfl rfl rfl rfl rfl rfl (leqT (by omega)) ?_
      refine O.pick rfl rfl rfl rfl rfl rfl ?_
      refine O.pick rfl rfl rfl rfl rfl rfl ?_
      refine O.asg rfl rfl rfl rfl rfl ?_
      refine Pl.fin [(2,_)] ⟨rfl,trivial⟩ ?_
      refine Go'.ret (vs := [_]) func15 results15 ⟨rfl,trivial⟩ ?_
      exact ⟨by unfold fitsb; rw [decide_eq_false h0,decide_eq_true h2,decide_eq_true h3]; rfl,rfl⟩
    · skip
      refine Go'.region [(0,0),(1,0),(2,0),(3,0),(4,0),(5,0),(6,0),(7,0),(8,0),(9,0),(10,0)] rfl ?_
      refine O.mv rfl rfl rfl rfl rfl ?_
      refine O.cmp rfl rfl rfl rfl rfl rfl (eqlF (by omega)) ?_
      refine O.mv rfl rfl rfl rfl rfl ?_
      refine O.mv rfl rfl rfl rfl rfl ?_
      refine O.cmp rfl rfl rfl rfl rfl rfl (geqT (by omega)) ?_
      refine O.mv rfl rfl rfl rfl rfl ?_
      refine O.mv rfl rfl rfl rfl rfl ?_
      refine O.cmp rfl rfl rfl rfl rfl rfl (leqF (by omega)) ?_
      refine O.pick rfl rfl rfl rfl rfl rfl ?_
      refine O.pick rfl rfl rfl rfl rfl rfl ?_
      refine O.asg rfl rfl rfl rfl rfl ?_
      refine Pl.fin [(2,_)] ⟨rfl,trivial⟩ ?_
      refine Go'.ret (vs := [_]) func15 results15 ⟨rfl,trivial⟩ ?_
      exact ⟨by unfold fitsb; rw [decide_eq_false h0,decide_eq_true h2,decide_eq_false h3]; rfl,rfl⟩
  · skip
    refine Go'.region [(0,0),(1,0),(2,0),(3,0),(4,0),(5,0),(6,0),(7,0),(8,0),(9,0),(10,0)] rfl ?_
    refine O.mv rfl rfl rfl rfl rfl ?_
    refine O.cmp rfl rfl rfl rfl rfl rfl (eqlF (by omega)) ?_
    refine O.mv rfl rfl rfl rfl rfl ?_
    refine O.mv rfl rfl rfl rfl rfl ?_
    refine O.cmp rfl rfl rfl rfl rfl rfl (geqF (by omega)) ?_
    refine O.mv rfl rfl rfl rfl rfl ?_
    refine Pl.pass rfl rfl rfl rfl ?_
    refine Pl.pass rfl rfl rfl rfl ?_
    refine O.pick rfl rfl rfl rfl rfl rfl ?_
    refine O.pick rfl rfl rfl rfl rfl rfl ?_
    refine O.asg rfl rfl rfl rfl rfl ?_
    refine Pl.fin [(2,_)] ⟨rfl,trivial⟩ ?_
    refine Go'.ret (vs := [_]) func15 results15 ⟨rfl,trivial⟩ ?_
    exact ⟨by unfold fitsb; rw [decide_eq_false h0,decide_eq_false h2]; rfl,rfl⟩

theorem fits_spec' {B : World} {H : Mem} {z : Int} {b : Bool} (h : fitsb z = b) : Fn Try.prog B 15 [.int .i64 z] H (fun r H' => r = .bool b ∧ H' = H) := h ▸ fits_spec
theorem fitsb_nat {z : Int} (h : fitsb z = true) : ∃ d : Nat,z = (d : Int) ∧ (d = 0 ∨ 2 ≤ d ∧ d ≤ 128) := by
  unfold fitsb at h
  simp only [Bool.or_eq_true,Bool.and_eq_true,decide_eq_true_eq] at h
  exact ⟨z.toNat,by omega,by omega⟩

theorem st24 : StT Try.prog 24 [(0,1),(1,1),(2,1)] [.slice none 0 0,.int .i64 0,.bool false] := ⟨⟨_,underlying24,fun w => by simp [Array.mapM_eq_mapM_toList,sizeOf3,sizeOf4,sizeOf22]⟩,zeroValue24⟩

theorem exMake_spec {B : World} {H : Mem} : Fn Try.prog B 13 [] H (fun r H' => r = .agg #[.slice none 0 0,.int .i64 ((2 : Nat) : Int),.bool false] ∧ Fr nowhere H H') := by
  refine fn_of func13 rfl ntmps13 ?_
  refine (show Go' _ _ _ _ 2 [] [.code _] _ from ?_)
  refine Go'.seq ?_
  refine Go'.region [(0,2)] rfl ?_
  refine O.alloc rfl rfl rfl zeroValue24 ?_
  intro H1 M1
  refine ⟨trivial,?_⟩
  have mw : Wr H1 H.size 0 3 := M1.wr 3 (by decide)
  refine Pl.fin [(0,_)] ⟨rfl,trivial⟩ ?_
  refine Go'.seq ?_
  refine Go'.region [(0,0),(1,2)] rfl ?_
  refine O.bld (cs := [.slice none 0 0,.int .i64 ((2 : Nat) : Int),.bool false]) rfl rfl rfl rfl (st24) rfl (by kernel_rfl) ?_
  refine O.st rfl rfl sizeOf24 rfl rfl rfl rfl rfl mw ?_
  intro H2 W2
  refine ⟨trivial,?_⟩
  refine Pl.fin [(0,_)] ⟨rfl,trivial⟩ ?_
  refine Go'.ret (vs := [_]) func13 results13 ⟨⟨_,_,rfl,fun _ _ => run_loadVar_agg (fun w => ⟨isAgg24 w,sizeOf24 w⟩) rfl W2.all⟩,trivial⟩ ?_
  exact ⟨rfl,(M1.fr nowhere).trans' W2.fr (fun _ _ _ h => h) (fun b o hb h => by have h' := h.1; omega)⟩

theorem zzFits1_spec {B : World} {H : Mem} {v : Value} {z : Int} {nl : Bool} {ord : List Int} {b : Bool} (ho : InS EN H v ord) (hb : decide (ord.length ≤ 2147483647) = b) : Fn Try.prog B 11 [.agg #[v,.int .i64 z,.bool nl]] H (fun r H' => r = .bool b ∧ Fr nowhere H H') := by
  obtain ⟨av,cv,hv⟩ := ho.len
  generalize hmv : ord.length = mv at *
  subst hv
  have hF : Fr nowhere H H := Fr.refl _ _
  refine fn_of func11 rfl ntmps11 ?_
  refine (show Go' _ _ _ _ 7 [(0,_)] [.code _] _ from ?_)
  refine Go'.seq ?_
  refine Go'.region [(0,2),(1,0)] rfl ?_
  refine O.box rfl rfl rfl rfl ?_
  intro B1 MB1
  refine ⟨trivial,?_⟩
  have hsB1 := MB1.size
  replace hF := hF.trans (MB1.fr nowhere)
  have mx : Rd B1 H.size 0 [.slice av mv cv,.int .i64 z,.bool nl] := MB1.rd _ [] (by simp [Value.cells])
  have mx0 : cl B1 H.size 0 = some (.slice av mv cv) := mx 0 _ rfl
  have mx1 : cl B1 H.size (0 + 1) = some (.int .i64 z) := mx 1 _ rfl
  refine O.asg rfl rfl rfl rfl rfl ?_
  refine Pl.fin [(1,_),(2,_)] ⟨rfl,rfl,trivial⟩ ?_
  refine Go'.seq ?_
  refine Go'.seq ?_
  cases b
  · skip
    refine Go'.region [(0,0),(1,1),(2,0),(3,0)] rfl ?_
    refine O.faz rfl rfl rfl rfl ⟨_,_,_,underlying24,rfl,rfl,sizeOf22⟩ rfl ?_
    refine O.ld rfl rfl rfl (fun w => ⟨isAgg22 w,sizeOf22 w⟩) rfl mx0 ?_
    refine O.len rfl rfl rfl rfl underlying22 rfl ?_
    refine O.cmp rfl rfl rfl rfl rfl rfl (gtrT (by have := of_decide_eq_false hb; omega)) ?_
    refine Pl.fin [(2,_),(6,_)] ⟨rfl,rfl,trivial⟩ ?_
    refine Go'.condT rfl ?_
    refine Go'.seq ?_
    refine Go'.region [(0,0)] rfl ?_
    refine O.asg rfl rfl rfl rfl rfl ?_
    refine Pl.fin [(2,_)] ⟨rfl,trivial⟩ ?_
    refine Go'.ret (vs := [_]) func11 results11 ⟨rfl,trivial⟩ ?_
    exact ⟨rfl,hF⟩
  · skip
    refine Go'.region [(0,0),(1,1),(2,0),(3,0)] rfl ?_
    refine O.faz rfl rfl rfl rfl ⟨_,_,_,underlying24,rfl,rfl,sizeOf22⟩ rfl ?_
    refine O.ld rfl rfl rfl (fun w => ⟨isAgg22 w,sizeOf22 w⟩) rfl mx0 ?_
    refine O.len rfl rfl rfl rfl underlying22 rfl ?_
    refine O.cmp rfl rfl rfl rfl rfl rfl (gtrF (by have := of_decide_eq_true hb; omega)) ?_
    refine Pl.fin [(2,_),(6,_)] ⟨rfl,rfl,trivial⟩ ?_
    refine Go'.condF rfl ?_
    refine Go'.skip ?_
    refine Go'.seq ?_
    refine Go'.region [(0,0)] rfl ?_
    refine O.asg rfl rfl rfl rfl rfl ?_
    refine Pl.fin [(2,_)] ⟨rfl,trivial⟩ ?_
    refine Go'.ret (vs := [_]) func11 results11 ⟨rfl,trivial⟩ ?_
    exact ⟨rfl,hF⟩

theorem foundAny_spec {B : World} {H : Mem} (o : Option (Int × Int)) : Fn Try.prog B 56 [PV o] H (fun r H' => r = FV o ∧ Fr nowhere H H') := by
  have hF : Fr nowhere H H := Fr.refl _ _
  cases o with
  | none =>
    show Fn _ _ _ [.nilIface] _ _
    refine fn_of func56 rfl ntmps56 ?_
    refine (show Go' _ _ _ _ 9 [(0,_)] [.code _] _ from ?_)
    refine Go'.seq ?_
    refine Go'.region [(0,2)] rfl ?_
    refine O.alloc rfl rfl rfl zeroValue44 ?_
    intro B1 MB1
    refine ⟨trivial,?_⟩
    have hsB1 := MB1.size
    replace hF := hF.trans (MB1.fr nowhere)
    have mw0 : Wr B1 H.size 0 3 := MB1.wr 3 (by decide)
    refine Pl.fin [(0,_),(2,_)] ⟨rfl,rfl,trivial⟩ ?_
    refine Go'.seq ?_
    refine Go'.seq ?_
    refine Go'.region [(0,0),(1,0)] rfl ?_
    refine O.mv rfl rfl rfl rfl rfl ?_
    refine O.bin rfl rfl rfl rfl rfl rfl (run_eqNil_nil underlying20) ?_
    refine Pl.fin [(0,_),(2,_),(4,_)] ⟨rfl,rfl,rfl,trivial⟩ ?_
    refine Go'.condT rfl ?_
    refine Go'.seq ?_
    refine Go'.region [(0,0),(1,2)] rfl ?_
    refine O.bld (cs := [.int .i64 0,.int .i64 0,.bool false]) rfl rfl rfl rfl (st44) rfl (by kernel_rfl) ?_
    refine O.st (vs := (fvs none)) rfl rfl sizeOf44 rfl rfl rfl rfl rfl mw0 ?_
    intro H3 W3
    replace hF := hF.trans' W3.fr (fun _ _ _ h => h) (fun b o hb h => by have h' := h.1; omega)
    replace mw0 := W3.fr.wr mw0
    refine ⟨trivial,?_⟩
    refine Pl.fin [(0,_),(2,_)] ⟨rfl,rfl,trivial⟩ ?_
    refine Go'.ret (vs := [_]) func56 results56 ⟨⟨_,_,rfl,fun _ _ => run_loadVar_agg (fun w => ⟨isAgg44 w,sizeOf44 w⟩) rfl W3.all⟩,trivial⟩ ?_
    exact ⟨rfl,hF⟩
  | some y =>
    show Fn _ _ _ [iv y] _ _
    refine fn_of func56 rfl ntmps56 ?_
    refine (show Go' _ _ _ _ 9 [(0,_)] [.code _] _ from ?_)
    refine Go'.seq ?_
    refine Go'.region [(0,2)] rfl ?_
    refine O.alloc rfl rfl rfl zeroValue44 ?_
    intro B1 MB1
    refine ⟨trivial,?_⟩
    have hsB1 := MB1.size
    replace hF := hF.trans (MB1.fr nowhere)
    have mw0 : Wr B1 H.size 0 3 := MB1.wr 3 (by decide)
    refine Pl.fin [(0,_),(2,_)] ⟨rfl,rfl,trivial⟩ ?_
    refine Go'.seq ?_
    refine Go'.seq ?_
    refine Go'.region [(0,0),(1,0)] rfl ?_
    refine O.mv rfl rfl rfl rfl rfl ?_
    refine O.bin rfl rfl rfl rfl rfl rfl (run_eqNil_iface underlying20) ?_
    refine Pl.fin [(0,_),(2,_),(4,_)] ⟨rfl,rfl,rfl,trivial⟩ ?_
    refine Go'.condF rfl ?_
    refine Go'.skip ?_
    refine Go'.seq ?_
    refine Go'.region [(0,0),(1,0),(2,0),(3,2)] rfl ?_
    refine O.mv rfl rfl rfl rfl rfl ?_
    refine O.tya rfl rfl rfl rfl rfl (run_assert_is underlying35 rfl) ?_
    refine O.bld (cs := [.int .i64 y.1,.int .i64 y.2,.bool true]) rfl rfl rfl rfl (st44) rfl (by kernel_rfl) ?_
    refine O.st (vs := (fvs (some y))) rfl rfl sizeOf44 rfl rfl rfl rfl rfl mw0 ?_
    intro H3 W3
    replace hF := hF.trans' W3.fr (fun _ _ _ h => h) (fun b o hb h => by have h' := h.1; omega)
    replace mw0 := W3.fr.wr mw0
    refine ⟨trivial,?_⟩
    refine Pl.fin [(2,_)] ⟨rfl,trivial⟩ ?_
    refine Go'.ret (vs := [_]) func56 results56 ⟨⟨_,_,rfl,fun _ _ => run_loadVar_agg (fun w => ⟨isAgg44 w,sizeOf44 w⟩) rfl W3.all⟩,trivial⟩ ?_
    exact ⟨rfl,hF⟩

end Go.Bt.FB
namespace Go.Bt.FB
open Go Go.Proofs Go.Proofs.Try
set_option maxRecDepth 20000
set_option maxHeartbeats 4000000
set_option linter.unusedVariables false
set_option linter.unusedSectionVars false

theorem fields35 : Try.prog.underlying 35 = some (.struct (Try.prog.fieldsOf 35)) := by unfold Program.fieldsOf; rw [underlying35]
theorem fields44 : Try.prog.underlying 44 = some (.struct (Try.prog.fieldsOf 44)) := by unfold Program.fieldsOf; rw [underlying44]
theorem item_eq (d : Nat) (x : Int × Int) (w : World) : (Op.equalIn (d + 2) 35 (.agg #[.int .i64 x.1,.int .i64 x.2]) (.agg #[.int .i64 x.1,.int .i64 x.2])).run Try.prog w = .ok true w := by
  rw [run_equalIn_agg w (d + 1) 35 _ _ fields35 Try.stoodInHeld35]
  simp [Op.eqFields,Program.fieldsOf,underlying35,part,isAgg3,run_equalIn_int w d 3 _ _ _ _ underlying3]
theorem found_eq (o : Option (Int × Int)) (x y : Operand) (w : World) : (eqGuard .eql 44 x y (.agg (fvs o).toArray) (.agg (fvs o).toArray)).run Try.prog w = .ok () w ∧ (binOp .eql 44 (.agg (fvs o).toArray) (.agg (fvs o).toArray)).run Try.prog w = .ok (.bool true) w := by
  refine ⟨run_eqGuard_agg w _ _ _ _ _ _ Try.eqGuardType44,?_⟩
  rw [run_eql_struct,run_equalIn_agg w 9999 44 _ _ fields44 Try.stoodInHeld44]
  have h : ∀ x y : Int,(Op.equalIn 9999 35 (.agg #[.int .i64 x,.int .i64 y]) (.agg #[.int .i64 x,.int .i64 y])).run Try.prog w = .ok true w := fun x y => item_eq 9997 (x,y) w
  have hb : ∀ b : Bool,(Op.equalIn 9999 4 (.bool b) (.bool b)).run Try.prog w = .ok true w := fun b => by
    have := run_equalIn_bool' w 9998 4 b b underlying4
    simpa using this
  cases o with
  | none => simp [fvs,Op.eqFields,Program.fieldsOf,underlying44,part,isAgg35,sizeOf35,isAgg4,h,hb]
  | some y => simp [fvs,Op.eqFields,Program.fieldsOf,underlying44,part,isAgg35,sizeOf35,isAgg4,h,hb]

theorem found_neq (o : Option (Int × Int)) (a b : Operand) (w : World) : (eqGuard .neq 44 a b (.agg (fvs o).toArray) (.agg (fvs o).toArray)).run Try.prog w = .ok () w ∧ (binOp .neq 44 (.agg (fvs o).toArray) (.agg (fvs o).toArray)).run Try.prog w = .ok (.bool false) w := by
  refine ⟨run_eqGuard_agg w _ _ _ _ _ _ Try.eqGuardType44,?_⟩
  rw [run_neq_struct]
  have h := (found_eq o a b w).2
  rw [run_eql_struct] at h
  have h2 : (Op.equalIn 10000 44 (.agg (fvs o).toArray) (.agg (fvs o).toArray)).run Try.prog w = .ok true w := by
    cases hh : (Op.equalIn 10000 44 (.agg (fvs o).toArray) (.agg (fvs o).toArray)).run Try.prog w with
    | ok x w2 => rw [hh] at h; simp [Result.andThen] at h; obtain ⟨h1,h2⟩ := h; rw [h1,h2]
    | _ => rw [hh] at h; simp [Result.andThen] at h
  rw [h2]; rfl

theorem item_neq (x : Int × Int) (a b : Operand) (w : World) : (eqGuard .neq 35 a b (.agg (EJ.enc x).toArray) (.agg (EJ.enc x).toArray)).run Try.prog w = .ok () w ∧ (binOp .neq 35 (.agg (EJ.enc x).toArray) (.agg (EJ.enc x).toArray)).run Try.prog w = .ok (.bool false) w := by
  refine ⟨run_eqGuard_agg w _ _ _ _ _ _ Try.eqGuardType35,?_⟩
  rw [run_neq_struct]
  have h : (Op.equalIn 10000 35 (.agg (EJ.enc x).toArray) (.agg (EJ.enc x).toArray)).run Try.prog w = .ok true w := item_eq 9998 x w
  rw [h]; rfl
theorem eqFounds_spec {B : World} {H : Mem} {u v : Value} {l : List (Option (Int × Int))} (hu : InS EF H u l) (hv : InS EF H v l) (hll : l.length ≤ 4294967296) :
    Fn Try.prog B 35 [u,v] H (fun r H' => r = .bool true ∧ H' = H) := by
  obtain ⟨a,c,e⟩ := hu.len
  subst e
  obtain ⟨a',c',e⟩ := hv.len
  subst e
  refine fn_of func35 rfl ntmps35 ?_
  refine (show Go' _ _ _ _ 26 [(0,_),(1,_)] [.code _] _ from ?_)
  refine Go'.seq ?_
  refine Go'.region [(0,0)] rfl ?_
  refine O.asg rfl rfl rfl rfl rfl ?_
  refine Pl.fin [(0,_),(1,_),(4,_)] ⟨rfl,rfl,rfl,trivial⟩ ?_
  refine Go'.seq ?_
  refine Go'.seq ?_
  refine Go'.region [(0,0),(1,0),(2,0),(3,0),(4,0)] rfl ?_
  refine O.mv rfl rfl rfl rfl rfl ?_
  refine O.len rfl rfl rfl rfl underlying48 rfl ?_
  refine O.mv rfl rfl rfl rfl rfl ?_
  refine O.len rfl rfl rfl rfl underlying48 rfl ?_
  refine O.cmp rfl rfl rfl rfl rfl rfl (neqF (by omega)) ?_
  refine Pl.fin [(0,_),(1,_),(4,_),(10,_)] ⟨rfl,rfl,rfl,rfl,trivial⟩ ?_
  refine Go'.condF rfl ?_
  refine Go'.skip ?_
  refine Go'.seq ?_
  refine Go'.seq ?_
  refine Go'.region [(0,0),(1,0),(2,0)] rfl ?_
  refine O.mv rfl rfl rfl rfl rfl ?_
  refine O.len rfl rfl rfl rfl underlying48 rfl ?_
  refine O.mv rfl rfl rfl rfl rfl ?_
  refine Pl.fin [(0,_),(1,_),(4,_),(12,_),(13,_)] ⟨rfl,rfl,rfl,rfl,rfl,trivial⟩ ?_
  refine Go'.block ?_
  refine Go'.loop ?_
  refine Go'.keep [(0,_),(1,_),(4,_),(12,_),(13,_)] ⟨rfl,rfl,rfl,rfl,rfl,trivial⟩ ?_
  refine Go'.ind (σ := Nat) (fun j => l.length - j) (fun j H' => H' = H ∧ j ≤ l.length)
    (fun j => [(0,.slice a l.length c),(1,.slice a' l.length c'),(4,.bool false),(12,.int .i64 (l.length : Int)),(13,.int .i64 (j : Int))]) 0 ⟨rfl,Nat.zero_le _⟩ rfl ?_
  rintro j H2 ⟨hHH,hjl⟩ ih
  have eH : H = H2 := hHH.symm
  subst eH
  clear hHH
  refine Go'.seq ?_
  by_cases hlt : j < l.length
  · skip
    obtain ⟨y,hy⟩ : ∃ y,l[j]? = some y := ⟨l[j],List.getElem?_eq_getElem hlt⟩
    obtain ⟨b,o,cc,e,hr⟩ := hu.at hy
    cases e
    obtain ⟨b',o',cc',e,hr'⟩ := hv.at hy
    cases e
    refine Go'.region [(0,0)] rfl ?_
    refine O.cmp rfl rfl rfl rfl rfl rfl (lssT (by omega)) ?_
    refine Pl.fin [(0,_),(1,_),(4,_),(12,_),(13,_),(14,_)] ⟨rfl,rfl,rfl,rfl,rfl,rfl,trivial⟩ ?_
    refine Go'.seq ?_
    refine Go'.condT rfl ?_
    refine Go'.skip ?_
    refine Go'.seq ?_
    refine Go'.block ?_
    refine Go'.seq ?_
    refine Go'.region [(0,0),(1,0)] rfl ?_
    refine O.mv rfl rfl rfl rfl rfl ?_
    refine O.asg rfl rfl rfl rfl rfl ?_
    refine Pl.fin [(0,_),(1,_),(4,_),(5,_),(12,_),(13,_),(14,_)] ⟨rfl,rfl,rfl,rfl,rfl,rfl,rfl,trivial⟩ ?_
    refine Go'.seq ?_
    refine Go'.draw (fun _ => True) [(0,0),(1,0),(2,0),(3,1),(4,0),(5,0),(6,0),(7,1),(8,0)] (by kernel_rfl) (by kernel_rfl) (trivial) ?_
    refine O.mv rfl rfl rfl rfl rfl ?_
    refine O.mv rfl rfl rfl rfl rfl ?_
    refine O.ix (j := j) rfl rfl rfl rfl underlying48 sizeOf44 rfl rfl (by omega) hlt ?_
    refine O.lds rfl rfl rfl (fun w => ⟨isAgg44 w,sizeOf44 w⟩) rfl (by cases y <;> rfl) hr ?_
    refine O.mv rfl rfl rfl rfl rfl ?_
    refine O.mv rfl rfl rfl rfl rfl ?_
    refine O.ix (j := j) rfl rfl rfl rfl underlying48 sizeOf44 rfl rfl (by omega) hlt ?_
    refine O.lds rfl rfl rfl (fun w => ⟨isAgg44 w,sizeOf44 w⟩) rfl (by cases y <;> rfl) hr' ?_
    refine O.bin rfl rfl rfl rfl rfl rfl (found_neq y _ _) ?_
    refine Pl.fin [(0,_),(1,_),(4,_),(5,_),(12,_),(13,_),(14,_),(24,_)] ⟨rfl,rfl,rfl,rfl,rfl,rfl,rfl,rfl,trivial⟩ ?_
    refine Go'.condF rfl ?_
    refine Go'.skip ?_
    refine Go'.inBlock ?_
    refine Go'.region [(0,0),(1,0)] rfl ?_
    refine O.add (((j + 1 : Nat) : Int)) rfl rfl rfl rfl rfl rfl (by omega) (by omega) ?_
    refine O.mv rfl rfl rfl rfl rfl ?_
    refine Pl.fin [(0,_),(1,_),(4,_),(5,_),(12,_),(13,_),(14,_),(24,_)] ⟨rfl,rfl,rfl,rfl,rfl,rfl,rfl,rfl,trivial⟩ ?_
    refine Go'.keep [(0,_),(1,_),(4,_),(12,_),(13,_)] ⟨rfl,rfl,rfl,rfl,rfl,trivial⟩ ?_
    refine Go'.inLoop ?_
    exact ih (j + 1) H ⟨rfl,hlt⟩ (by omega)
  · skip
    refine Go'.region [(0,0)] rfl ?_
    refine O.cmp rfl rfl rfl rfl rfl rfl (lssF (by omega)) ?_
    refine Pl.fin [(0,_),(1,_),(4,_),(12,_),(13,_),(14,_)] ⟨rfl,rfl,rfl,rfl,rfl,rfl,trivial⟩ ?_
    refine Go'.seq ?_
    refine Go'.condF rfl ?_
    refine Go'.exit rfl ?_
    refine Go'.seq ?_
    refine Go'.region [(0,0)] rfl ?_
    refine O.asg rfl rfl rfl rfl rfl ?_
    refine Pl.fin [(4,_)] ⟨rfl,trivial⟩ ?_
    refine Go'.ret (vs := [_]) func35 results35 ⟨rfl,trivial⟩ ?_
    exact ⟨rfl,rfl⟩

theorem eqItems_spec {B : World} {H : Mem} {u v : Value} {l : List (Int × Int)} (hu : InS EJ H u l) (hv : InS EJ H v l) (hll : l.length ≤ 4294967296) :
    Fn Try.prog B 39 [u,v] H (fun r H' => r = .bool true ∧ H' = H) := by
  obtain ⟨a,c,e⟩ := hu.len
  subst e
  obtain ⟨a',c',e⟩ := hv.len
  subst e
  refine fn_of func39 rfl ntmps39 ?_
  refine (show Go' _ _ _ _ 26 [(0,_),(1,_)] [.code _] _ from ?_)
  refine Go'.seq ?_
  refine Go'.region [(0,0)] rfl ?_
  refine O.asg rfl rfl rfl rfl rfl ?_
  refine Pl.fin [(0,_),(1,_),(4,_)] ⟨rfl,rfl,rfl,trivial⟩ ?_
  refine Go'.seq ?_
  refine Go'.seq ?_
  refine Go'.region [(0,0),(1,0),(2,0),(3,0),(4,0)] rfl ?_
  refine O.mv rfl rfl rfl rfl rfl ?_
  refine O.len rfl rfl rfl rfl underlying25 rfl ?_
  refine O.mv rfl rfl rfl rfl rfl ?_
  refine O.len rfl rfl rfl rfl underlying25 rfl ?_
  refine O.cmp rfl rfl rfl rfl rfl rfl (neqF (by omega)) ?_
  refine Pl.fin [(0,_),(1,_),(4,_),(10,_)] ⟨rfl,rfl,rfl,rfl,trivial⟩ ?_
  refine Go'.condF rfl ?_
  refine Go'.skip ?_
  refine Go'.seq ?_
  refine Go'.seq ?_
  refine Go'.region [(0,0),(1,0),(2,0)] rfl ?_
  refine O.mv rfl rfl rfl rfl rfl ?_
  refine O.len rfl rfl rfl rfl underlying25 rfl ?_
  refine O.mv rfl rfl rfl rfl rfl ?_
  refine Pl.fin [(0,_),(1,_),(4,_),(12,_),(13,_)] ⟨rfl,rfl,rfl,rfl,rfl,trivial⟩ ?_
  refine Go'.block ?_
  refine Go'.loop ?_
  refine Go'.keep [(0,_),(1,_),(4,_),(12,_),(13,_)] ⟨rfl,rfl,rfl,rfl,rfl,trivial⟩ ?_
  refine Go'.ind (σ := Nat) (fun j => l.length - j) (fun j H' => H' = H ∧ j ≤ l.length)
    (fun j => [(0,.slice a l.length c),(1,.slice a' l.length c'),(4,.bool false),(12,.int .i64 (l.length : Int)),(13,.int .i64 (j : Int))]) 0 ⟨rfl,Nat.zero_le _⟩ rfl ?_
  rintro j H2 ⟨hHH,hjl⟩ ih
  have eH : H = H2 := hHH.symm
  subst eH
  clear hHH
  refine Go'.seq ?_
  by_cases hlt : j < l.length
  · skip
    obtain ⟨y,hy⟩ : ∃ y,l[j]? = some y := ⟨l[j],List.getElem?_eq_getElem hlt⟩
    obtain ⟨b,o,cc,e,hr⟩ := hu.at hy
    cases e
    obtain ⟨b',o',cc',e,hr'⟩ := hv.at hy
    cases e
    refine Go'.region [(0,0)] rfl ?_
    refine O.cmp rfl rfl rfl rfl rfl rfl (lssT (by omega)) ?_
    refine Pl.fin [(0,_),(1,_),(4,_),(12,_),(13,_),(14,_)] ⟨rfl,rfl,rfl,rfl,rfl,rfl,trivial⟩ ?_
    refine Go'.seq ?_
    refine Go'.condT rfl ?_
    refine Go'.skip ?_
    refine Go'.seq ?_
    refine Go'.block ?_
    refine Go'.seq ?_
    refine Go'.region [(0,0),(1,0)] rfl ?_
    refine O.mv rfl rfl rfl rfl rfl ?_
    refine O.asg rfl rfl rfl rfl rfl ?_
    refine Pl.fin [(0,_),(1,_),(4,_),(5,_),(12,_),(13,_),(14,_)] ⟨rfl,rfl,rfl,rfl,rfl,rfl,rfl,trivial⟩ ?_
    refine Go'.seq ?_
    refine Go'.draw (fun _ => True) [(0,0),(1,0),(2,0),(3,1),(4,0),(5,0),(6,0),(7,1),(8,0)] (by kernel_rfl) (by kernel_rfl) (trivial) ?_
    refine O.mv rfl rfl rfl rfl rfl ?_
    refine O.mv rfl rfl rfl rfl rfl ?_
    refine O.ix (j := j) rfl rfl rfl rfl underlying25 sizeOf35 rfl rfl (by omega) hlt ?_
    refine O.lds rfl rfl rfl (fun w => ⟨isAgg35 w,sizeOf35 w⟩) rfl rfl hr ?_
    refine O.mv rfl rfl rfl rfl rfl ?_
    refine O.mv rfl rfl rfl rfl rfl ?_
    refine O.ix (j := j) rfl rfl rfl rfl underlying25 sizeOf35 rfl rfl (by omega) hlt ?_
    refine O.lds rfl rfl rfl (fun w => ⟨isAgg35 w,sizeOf35 w⟩) rfl rfl hr' ?_
    refine O.bin rfl rfl rfl rfl rfl rfl (item_neq y _ _) ?_
    refine Pl.fin [(0,_),(1,_),(4,_),(5,_),(12,_),(13,_),(14,_),(24,_)] ⟨rfl,rfl,rfl,rfl,rfl,rfl,rfl,rfl,trivial⟩ ?_
    refine Go'.condF rfl ?_
    refine Go'.skip ?_
    refine Go'.inBlock ?_
    refine Go'.region [(0,0),(1,0)] rfl ?_
    refine O.add (((j + 1 : Nat) : Int)) rfl rfl rfl rfl rfl rfl (by omega) (by omega) ?_
    refine O.mv rfl rfl rfl rfl rfl ?_
    refine Pl.fin [(0,_),(1,_),(4,_),(5,_),(12,_),(13,_),(14,_),(24,_)] ⟨rfl,rfl,rfl,rfl,rfl,rfl,rfl,rfl,trivial⟩ ?_
    refine Go'.keep [(0,_),(1,_),(4,_),(12,_),(13,_)] ⟨rfl,rfl,rfl,rfl,rfl,trivial⟩ ?_
    refine Go'.inLoop ?_
    exact ih (j + 1) H ⟨rfl,hlt⟩ (by omega)
  · skip
    refine Go'.region [(0,0)] rfl ?_
    refine O.cmp rfl rfl rfl rfl rfl rfl (lssF (by omega)) ?_
    refine Pl.fin [(0,_),(1,_),(4,_),(12,_),(13,_),(14,_)] ⟨rfl,rfl,rfl,rfl,rfl,rfl,trivial⟩ ?_
    refine Go'.seq ?_
    refine Go'.condF rfl ?_
    refine Go'.exit rfl ?_
    refine Go'.seq ?_
    refine Go'.region [(0,0)] rfl ?_
    refine O.asg rfl rfl rfl rfl rfl ?_
    refine Pl.fin [(4,_)] ⟨rfl,trivial⟩ ?_
    refine Go'.ret (vs := [_]) func39 results39 ⟨rfl,trivial⟩ ?_
    exact ⟨rfl,rfl⟩

theorem FVe (o : Option (Int × Int)) : FV o = .agg (fvs o).toArray := FV_eq o
end Go.Bt.FB
