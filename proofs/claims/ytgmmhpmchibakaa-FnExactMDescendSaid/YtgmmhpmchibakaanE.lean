/- Contracts of functions of the program, proved by walking through their code. Conditions: those that each theorem names. -/
import Derived.Test.YtgmmhpmchibakaanD
import Derived.Test.YtgmmhpmchibakaanC
namespace Go.Bt
open Go Go.Proofs
set_option maxRecDepth 20000
set_option maxHeartbeats 4000000
set_option linter.unusedVariables false

theorem len_spec {B : World} {H : Mem} {tr : Nat} {P : Ps} {S : Nat → Prop} {l : List (Int × Int)} (hM : MapM H tr P S l) :
    Fn Try.prog B 97 [.pointer (some ⟨tr, 0, none⟩)] H (fun r H' => r = .int .i64 (l.length : Int) ∧ H' = H) := by
  refine fn_of Go.Proofs.Try.func97 rfl Go.Proofs.Try.ntmps97 ?_
  refine (show Go' _ _ _ _ 7 [(0, _)] [.code _] _ from ?_)
  refine Go'.seq ?_
  -- region 0 (map.go:335)
  refine Go'.region [(0, 0)] rfl ?_
  refine O.asg rfl rfl rfl rfl rfl ?_
  refine Pl.fin [(0, _), (2, _)] ⟨rfl, rfl, trivial⟩ ?_
  refine Go'.seq ?_
  -- region 1 (map.go:336)
  refine Go'.region [(0, 0), (1, 0), (2, 0), (3, 1), (4, 0)] rfl ?_
  refine O.mv rfl rfl rfl rfl rfl ?_
  refine O.nc rfl rfl rfl rfl rfl ?_
  refine O.fa0 (off := 3) rfl rfl rfl rfl ⟨_, _, _, Go.Proofs.Try.underlying105, rfl, rfl, Go.Proofs.Try.sizeOf3⟩ rfl ?_
  refine O.ld rfl rfl rfl (fun w => ⟨Go.Proofs.Try.isAgg3 w, Go.Proofs.Try.sizeOf3 w⟩) rfl hM.cnt ?_
  refine O.asg rfl rfl rfl rfl rfl ?_
  refine Pl.fin [(2, _)] ⟨rfl, trivial⟩ ?_
  refine Go'.ret (vs := [_]) Go.Proofs.Try.func97 Go.Proofs.Try.results97 ⟨rfl, trivial⟩ ?_
  exact ⟨rfl, rfl⟩

theorem values_spec {B : World} {H : Mem} {tr : Nat} {P : Ps} (hP : PsOk P) {S : Nat → Prop} {l : List (Int × Int)} (hM : MapM H tr P S l) (mt : Bool) (hll : l.length ≤ 4294967296) :
    Fn Try.prog B 99 [.pointer (some ⟨tr, 0, none⟩), .bool mt] H (fun r H' => OutS EN H' r (l.map (fun x : Int × Int => x.2)) ∧ Fr nowhere H H') := by
  have htl : tr < H.size := hM.lt tr hM.own
  have lt0 := hM.lt
  refine fn_of Go.Proofs.Try.func99 rfl Go.Proofs.Try.ntmps99 ?_
  refine (show Go' _ _ _ _ 22 [(0, _), (1, _)] [.code _] _ from ?_)
  refine Go'.seq ?_
  -- region 0 (map.go:1125)
  refine Go'.region [(0, 0)] rfl ?_
  refine O.asg rfl rfl rfl rfl rfl ?_
  refine Pl.fin [(0, _), (1, _), (4, _)] ⟨rfl, rfl, rfl, trivial⟩ ?_
  refine Go'.seq ?_
  -- region 1 (map.go:1126)
  refine Go'.region [(0, 0), (1, 2), (2, 2), (3, 0)] rfl ?_
  refine O.mv rfl rfl rfl rfl rfl ?_
  refine O.callQ rfl rfl rfl Go.Proofs.Try.call97 rfl (len_spec hM) trivial ?_
  refine O.mks (j := 0) (c := l.length) rfl rfl rfl ⟨Go.Proofs.Try.underlying39, Go.Proofs.Try.sizeOf3, Go.Proofs.Try.zeroValue3, ⟨_, Go.Proofs.Try.typeInfo3, rfl⟩, rfl, by decide⟩ rfl rfl rfl rfl (by omega) (Nat.le_trans (Nat.mul_le_mul_right _ (Nat.le_of_ble_eq_true (n := _) (m := 4096) rfl)) (by omega)) (by omega) ?_
  intro H1 M1
  have hs1 := M1.size
  have hsl : SlE EN H1 H.size 0 l.length ([] : List Int) := ⟨rfl, Nat.zero_le _, Rd.nil _ _ _, M1.wr _ (by rw [zeroRow_size]; exact Nat.le_refl _)⟩
  replace hM := hM.fr (M1.fr nowhere) (fun _ _ _ => nw)
  refine ⟨trivial, ?_⟩
  refine O.asg rfl rfl rfl rfl rfl ?_
  refine Pl.fin [(0, _), (1, _), (4, _), (5, _)] ⟨rfl, rfl, rfl, rfl, trivial⟩ ?_
  refine Go'.seq ?_
  refine Go'.seq ?_
  obtain ⟨tc, srt, cnt, own, lt, hr⟩ := hM
  rcases hr with ⟨rfl, hptr⟩ | ⟨h, t, hg, hx1, e, hc, hnt, hown⟩
  · skip
    -- region 2 (map.go:1127)
    refine Go'.region [(0, 0), (1, 0), (2, 0), (3, 1), (4, 0)] rfl ?_
    refine O.mv rfl rfl rfl rfl rfl ?_
    refine O.nc rfl rfl rfl rfl rfl ?_
    refine O.fa0 (off := 2) rfl rfl rfl rfl ⟨_, _, _, Go.Proofs.Try.underlying105, rfl, rfl, Go.Proofs.Try.sizeOf103⟩ rfl ?_
    refine O.ld rfl rfl rfl (fun w => ⟨Go.Proofs.Try.isAgg103 w, Go.Proofs.Try.sizeOf103 w⟩) rfl hptr ?_
    refine O.notNil rfl rfl rfl rfl Go.Proofs.Try.underlying103 rfl rfl ?_
    refine Pl.fin [(0, _), (1, _), (4, _), (5, _), (13, _)] ⟨rfl, rfl, rfl, rfl, rfl, trivial⟩ ?_
    refine Go'.condF rfl ?_
    refine Go'.skip ?_
    refine Go'.seq ?_
    -- region 4 (map.go:1130)
    refine Go'.region [(0, 0), (1, 0)] rfl ?_
    refine O.mv rfl rfl rfl rfl rfl ?_
    refine O.asg rfl rfl rfl rfl rfl ?_
    refine Pl.fin [(4, _)] ⟨rfl, trivial⟩ ?_
    refine Go'.ret (vs := [_]) Go.Proofs.Try.func99 Go.Proofs.Try.results99 ⟨rfl, trivial⟩ ?_
    exact ⟨.inr ⟨H.size, 0, _, rfl, hsl⟩, M1.fr nowhere⟩
  · skip
    have hptr : cl H1 tr 2 = some (.pointer (some ⟨Gt.p h t, 0, none⟩)) := hc
    have hnb : ∀ y, ¬ Gt.af h t H.size y := fun y hy => absurd (lt0 _ (hown _ _ hy)) (Nat.lt_irrefl _)
    -- region 2 (map.go:1127)
    refine Go'.region [(0, 0), (1, 0), (2, 0), (3, 1), (4, 0)] rfl ?_
    refine O.mv rfl rfl rfl rfl rfl ?_
    refine O.nc rfl rfl rfl rfl rfl ?_
    refine O.fa0 (off := 2) rfl rfl rfl rfl ⟨_, _, _, Go.Proofs.Try.underlying105, rfl, rfl, Go.Proofs.Try.sizeOf103⟩ rfl ?_
    refine O.ld rfl rfl rfl (fun w => ⟨Go.Proofs.Try.isAgg103 w, Go.Proofs.Try.sizeOf103 w⟩) rfl hptr ?_
    refine O.notNil rfl rfl rfl rfl Go.Proofs.Try.underlying103 rfl rfl ?_
    refine Pl.fin [(0, _), (1, _), (4, _), (5, _), (13, _)] ⟨rfl, rfl, rfl, rfl, rfl, trivial⟩ ?_
    refine Go'.condT rfl ?_
    -- region 3 (map.go:1128)
    refine Go'.region [(0, 0), (1, 0), (2, 0), (3, 0), (4, 0), (5, 0), (6, 2), (7, 0)] rfl ?_
    refine O.mv rfl rfl rfl rfl rfl ?_
    refine O.mv rfl rfl rfl rfl rfl ?_
    refine O.nc rfl rfl rfl rfl rfl ?_
    refine O.fa0 (off := 2) rfl rfl rfl rfl ⟨_, _, _, Go.Proofs.Try.underlying105, rfl, rfl, Go.Proofs.Try.sizeOf103⟩ rfl ?_
    refine O.mv rfl rfl rfl rfl rfl ?_
    refine O.mv rfl rfl rfl rfl rfl ?_
    refine O.call rfl rfl rfl Go.Proofs.Try.call118 rfl (nval hP mt h (acc := []) ⟨tc, hg, hc, hnb, by omega, by omega, hsl, by rw [e]; simpa using hll⟩) ?_
    rintro _ H2 ⟨b2, o2, c2, rfl, hs2, f2, p2⟩
    refine ⟨trivial, ?_⟩
    refine O.asg rfl rfl rfl rfl rfl ?_
    refine Pl.fin [(4, _), (5, _)] ⟨rfl, rfl, trivial⟩ ?_
    refine Go'.seq ?_
    -- region 4 (map.go:1130)
    refine Go'.region [(0, 0), (1, 0)] rfl ?_
    refine O.mv rfl rfl rfl rfl rfl ?_
    refine O.asg rfl rfl rfl rfl rfl ?_
    refine Pl.fin [(4, _)] ⟨rfl, trivial⟩ ?_
    refine Go'.ret (vs := [_]) Go.Proofs.Try.func99 Go.Proofs.Try.results99 ⟨rfl, trivial⟩ ?_
    rw [List.nil_append, e] at hs2
    exact ⟨.inr ⟨b2, o2, c2, by rw [List.nil_append, e]; rfl, hs2⟩, (M1.fr nowhere).trans' f2 (fun _ _ _ h => h) (fun x y hx hz => by have hz' : x = H.size := hz; omega)⟩

theorem valuesMut_spec {B : World} {H : Mem} {tr : Nat} {P : Ps} (hP : PsOk P) {S : Nat → Prop} {l : List (Int × Int)} (hM : MapM H tr P S l) (hll : l.length ≤ 4294967296) :
    Fn Try.prog B 78 [.pointer (some ⟨tr, 0, none⟩)] H (fun r H' => OutS EN H' r (l.map (fun x : Int × Int => x.2)) ∧ Fr nowhere H H') := by
  refine fn_of Go.Proofs.Try.func78 rfl Go.Proofs.Try.ntmps78 ?_
  refine (show Go' _ _ _ _ 5 [(0, _)] [.code _] _ from ?_)
  refine Go'.seq ?_
  -- region 0 (map.go:1121)
  refine Go'.region [(0, 0)] rfl ?_
  refine O.asg rfl rfl rfl rfl rfl ?_
  refine Pl.fin [(0, _), (2, _)] ⟨rfl, rfl, trivial⟩ ?_
  refine Go'.seq ?_
  -- region 1 (map.go:1122)
  refine Go'.region [(0, 0), (1, 2), (2, 0)] rfl ?_
  refine O.mv rfl rfl rfl rfl rfl ?_
  refine O.call rfl rfl rfl Go.Proofs.Try.call99 rfl (values_spec hP hM true hll) ?_
  rintro r H2 ⟨hr, hF2⟩
  refine ⟨trivial, ?_⟩
  refine O.asg rfl rfl rfl rfl rfl ?_
  refine Pl.fin [(2, _)] ⟨rfl, trivial⟩ ?_
  refine Go'.ret (vs := [_]) Go.Proofs.Try.func78 Go.Proofs.Try.results78 ⟨rfl, trivial⟩ ?_
  exact ⟨hr, hF2⟩

theorem mvaluesMut_spec {B : World} {H : Mem} {d : Nat} {u : Value} {l : List (Int × Int)} (hd : 2 ≤ d ∧ d ≤ 128) (hi : InS EJ H u l) (hll : l.length ≤ 4294967296) :
    Fn Try.prog B 46 [.int .i64 (d : Int), u] H (fun r H' => OutS EN H' r ((Pl.puts OI l).map (fun x : Int × Int => x.2)) ∧ Fr nowhere H H') := by
  have hP : PsOk ⟨0, 2 * d - 1, d - 1⟩ := ⟨by show 2 * d - 1 = 2 * (d - 1) + 1; omega, by show 1 ≤ d - 1; omega, by show 2 * d - 1 ≤ 255; omega⟩
  have hpl := Pl.puts_length OI l
  refine fn_of Go.Proofs.Try.func46 rfl Go.Proofs.Try.ntmps46 ?_
  refine (show Go' _ _ _ _ 9 [(0, _), (1, _)] [.code _] _ from ?_)
  refine Go'.seq ?_
  -- region 0 (map.go:173)
  refine Go'.region [(0, 0)] rfl ?_
  refine O.asg rfl rfl rfl rfl rfl ?_
  refine Pl.fin [(0, _), (1, _), (4, _)] ⟨rfl, rfl, rfl, trivial⟩ ?_
  refine Go'.seq ?_
  -- region 1 (map.go:174)
  refine Go'.region [(0, 0), (1, 0), (2, 2), (3, 2), (4, 0)] rfl ?_
  refine O.mv rfl rfl rfl rfl rfl ?_
  refine O.mv rfl rfl rfl rfl rfl ?_
  refine O.call rfl rfl rfl Go.Proofs.Try.call52 rfl (growMap_spec hd hi hll) ?_
  rintro _ H2 ⟨tr, S, rfl, hM, hF2, _⟩
  refine ⟨trivial, ?_⟩
  refine O.call rfl rfl rfl Go.Proofs.Try.call78 rfl (valuesMut_spec hP hM (by omega)) ?_
  rintro r H3 ⟨hr, hF3⟩
  refine ⟨trivial, ?_⟩
  refine O.asg rfl rfl rfl rfl rfl ?_
  refine Pl.fin [(4, _)] ⟨rfl, trivial⟩ ?_
  refine Go'.ret (vs := [_]) Go.Proofs.Try.func46 Go.Proofs.Try.results46 ⟨rfl, trivial⟩ ?_
  exact ⟨hr, hF2.trans hF3⟩

theorem specValues_spec {B : World} {H : Mem} {u : Value} {l : List (Int × Int)} (hi : InS EJ H u l) (hll : l.length ≤ 4294967296) :
    Fn Try.prog B 34 [u] H (fun r H' => OutS EN H' r (l.map (fun x : Int × Int => x.2)) ∧ Fr nowhere H H') := by
  obtain ⟨a, c, hu⟩ := hi.len
  subst hu
  refine fn_of Go.Proofs.Try.func34 rfl Go.Proofs.Try.ntmps34 ?_
  refine (show Go' _ _ _ _ 19 [(0, _)] [.code _] _ from ?_)
  refine Go'.seq ?_
  -- region 0 (list.go:183)
  refine Go'.region [(0, 0)] rfl ?_
  refine O.asg rfl rfl rfl rfl rfl ?_
  refine Pl.fin [(0, _), (2, _)] ⟨rfl, rfl, trivial⟩ ?_
  refine Go'.seq ?_
  -- region 1 (list.go:184)
  refine Go'.region [(0, 0)] rfl ?_
  refine O.asg rfl rfl rfl rfl rfl ?_
  refine Pl.fin [(0, _), (2, _), (3, _)] ⟨rfl, rfl, rfl, trivial⟩ ?_
  refine Go'.seq ?_
  refine Go'.seq ?_
  -- region 2 (list.go:185)
  refine Go'.region [(0, 0), (1, 0), (2, 0)] rfl ?_
  refine O.mv rfl rfl rfl rfl rfl ?_
  refine O.len rfl rfl rfl rfl Go.Proofs.Try.underlying22 rfl ?_
  refine O.mv rfl rfl rfl rfl rfl ?_
  refine Pl.fin [(2, _), (3, _), (6, _), (7, _), (8, _)] ⟨rfl, rfl, rfl, rfl, rfl, trivial⟩ ?_
  refine Go'.block ?_
  refine Go'.loop ?_
  refine Go'.keep [(3, _), (6, _), (7, _), (8, _)] ⟨rfl, rfl, rfl, rfl, trivial⟩ ?_
  refine Go'.ind (σ := Nat × Value) (fun s => l.length - s.1) (fun s H' => Fr nowhere H H' ∧ s.1 ≤ l.length ∧ OutS EN H' s.2 ((l.take s.1).map (fun x : Int × Int => x.2)) ∧ (s.2 = .slice none 0 0 ∧ s.1 = 0 ∨ ∃ b o c, s.2 = .slice (some ⟨b, o, none⟩) s.1 c ∧ H.size ≤ b ∧ Sl H' b o s.1 c 1 (row EN ((l.take s.1).map (fun x : Int × Int => x.2)))))
    (fun s => [(3, s.2), (6, .slice a l.length c), (7, .int .i64 (l.length : Int)), (8, .int .i64 (s.1 : Int))]) (0, .slice none 0 0) ⟨Fr.refl _ _, Nat.zero_le _, .inl ⟨rfl, rfl⟩, .inl ⟨rfl, rfl⟩⟩ rfl ?_
  rintro ⟨j, sv⟩ H2 ⟨hF, hjl, hsv, hcase⟩ ih
  simp only at hjl hsv hcase
  have hi2 := hi.fr hF
  refine Go'.seq ?_
  by_cases hlt : j < l.length
  · skip
    obtain ⟨y, hy⟩ : ∃ y, l[j]? = some y := ⟨l[j], List.getElem?_eq_getElem hlt⟩
    obtain ⟨b, o, c', e, hr⟩ := hi2.at hy
    cases e
    have hx : (l.take (j + 1)).map (fun x : Int × Int => x.2) = (l.take j).map (fun x : Int × Int => x.2) ++ [(fun x : Int × Int => x.2) y] := by rw [List.take_add_one, hy, List.map_append]; rfl
    have hl1 : ((l.take (j + 1)).map (fun x : Int × Int => x.2)).length = j + 1 := by rw [List.length_map, List.length_take]; omega
    -- region 3 (list.go:185)
    refine Go'.region [(0, 0)] rfl ?_
    refine O.cmp rfl rfl rfl rfl rfl rfl (lssT (by omega)) ?_
    refine Pl.fin [(3, _), (6, _), (7, _), (8, _), (9, _)] ⟨rfl, rfl, rfl, rfl, rfl, trivial⟩ ?_
    refine Go'.seq ?_
    refine Go'.condT rfl ?_
    refine Go'.skip ?_
    refine Go'.seq ?_
    refine Go'.block ?_
    refine Go'.seq ?_
    -- region 4 (list.go:185)
    refine Go'.region [(0, 0), (1, 1), (2, 2), (3, 2)] rfl ?_
    refine O.ix (j := j) rfl rfl rfl rfl Go.Proofs.Try.underlying22 Go.Proofs.Try.sizeOf35 rfl rfl (by omega) hlt ?_
    refine O.lds rfl rfl rfl (fun w => ⟨Go.Proofs.Try.isAgg35 w, Go.Proofs.Try.sizeOf35 w⟩) rfl rfl hr ?_
    refine O.alloc rfl rfl rfl Go.Proofs.Try.zeroValue35 ?_
    intro H3 M3
    refine ⟨trivial, ?_⟩
    have hs3 := M3.size
    have m7 : Wr H3 H2.size 0 2 := M3.wr 2 (by decide)
    refine O.st rfl rfl Go.Proofs.Try.sizeOf35 rfl rfl rfl rfl rfl m7 ?_
    intro H4 W4
    have hs4 := W4.size
    have hf4 : Fr nowhere H2 H4 := (M3.fr nowhere).trans' W4.fr (fun _ _ _ h => h) (fun b o hb hz => by have h1 := hz.1; omega)
    have k1 : cl H4 H2.size 1 = some (.int .i64 ((fun x : Int × Int => x.2) y)) := W4.all 1 _ rfl
    refine ⟨trivial, ?_⟩
    refine Pl.fin [(3, _), (5, _), (6, _), (7, _), (8, _), (9, _)] ⟨rfl, rfl, rfl, rfl, rfl, rfl, trivial⟩ ?_
    rcases hcase with ⟨rfl, rfl⟩ | ⟨b1, o1, c1, rfl, hb1, hs1⟩
    · skip
      -- region 5 (list.go:186)
      refine Go'.region [(0, 0), (1, 0), (2, 1), (3, 2), (4, 2), (5, 0)] rfl ?_
      refine O.mv rfl rfl rfl rfl rfl ?_
      refine O.fa0 (off := 1) rfl rfl rfl rfl ⟨_, _, _, Go.Proofs.Try.underlying35, rfl, rfl, Go.Proofs.Try.sizeOf3⟩ rfl ?_
      refine O.ld rfl rfl rfl (fun w => ⟨Go.Proofs.Try.isAgg3 w, Go.Proofs.Try.sizeOf3 w⟩) rfl k1 ?_
      refine O.bsl (cs := (EN.enc ((fun x : Int × Int => x.2) y))) rfl rfl rfl ⟨Go.Proofs.Try.underlying39, Go.Proofs.Try.sizeOf3, Go.Proofs.Try.zeroValue3, ⟨_, Go.Proofs.Try.typeInfo3, rfl⟩, rfl, by decide⟩ rfl (by decide) (by kernel_rfl) ?_
      intro H5 M5
      have hs5 := M5.size
      have m5 : Rd H5 H4.size 0 (EN.enc ((fun x : Int × Int => x.2) y)) := M5.rd _ [] (by simp)
      refine ⟨trivial, ?_⟩
      refine O.appN (m := 1) (news := (EN.enc ((fun x : Int × Int => x.2) y))) rfl rfl rfl ⟨Go.Proofs.Try.underlying39, Go.Proofs.Try.sizeOf3, Go.Proofs.Try.zeroValue3, ⟨_, Go.Proofs.Try.typeInfo3, rfl⟩, rfl, by decide⟩ rfl rfl ⟨_, _, _, rfl, m5⟩ rfl (Nat.le_trans (Nat.mul_le_mul_left _ (Nat.le_of_ble_eq_true (n := _) (m := 4096) rfl)) (by omega)) (by omega) (by omega) ?_
      intro c2 H6 hsl6 fa hs6
      have hF6 : Fr nowhere H H6 := ((hF.trans hf4).trans (M5.fr nowhere)).trans fa
      have hrow : row EN ((l.take (0 + 1)).map (fun x : Int × Int => x.2)) = EN.enc ((fun x : Int × Int => x.2) y) := by rw [hx]; simp [row]
      have hsz := hF.size
      refine ⟨trivial, ?_⟩
      refine O.asg rfl rfl rfl rfl rfl ?_
      refine Pl.fin [(3, _), (5, _), (6, _), (7, _), (8, _), (9, _)] ⟨rfl, rfl, rfl, rfl, rfl, rfl, trivial⟩ ?_
      refine Go'.inBlock ?_
      -- region 6 (list.go:185)
      refine Go'.region [(0, 0), (1, 0)] rfl ?_
      refine O.add (((0 + 1 : Nat) : Int)) rfl rfl rfl rfl rfl rfl (by omega) (by omega) ?_
      refine O.mv rfl rfl rfl rfl rfl ?_
      refine Pl.fin [(3, _), (5, _), (6, _), (7, _), (8, _), (9, _)] ⟨rfl, rfl, rfl, rfl, rfl, rfl, trivial⟩ ?_
      refine Go'.keep [(3, _), (6, _), (7, _), (8, _)] ⟨rfl, rfl, rfl, rfl, trivial⟩ ?_
      refine Go'.inLoop ?_
      refine ih (1, .slice (some ⟨H5.size, 0, none⟩) 1 c2) H6 ⟨hF6, by simp only; omega, .inr ⟨H5.size, 0, c2, by rw [hl1], SlE.of (hrow ▸ hsl6) rfl hl1.symm⟩, .inr ⟨H5.size, 0, c2, rfl, by omega, hrow ▸ hsl6⟩⟩ (by simp only; omega)
    · skip
      -- region 5 (list.go:186)
      refine Go'.region [(0, 0), (1, 0), (2, 1), (3, 2), (4, 2), (5, 0)] rfl ?_
      refine O.mv rfl rfl rfl rfl rfl ?_
      refine O.fa0 (off := 1) rfl rfl rfl rfl ⟨_, _, _, Go.Proofs.Try.underlying35, rfl, rfl, Go.Proofs.Try.sizeOf3⟩ rfl ?_
      refine O.ld rfl rfl rfl (fun w => ⟨Go.Proofs.Try.isAgg3 w, Go.Proofs.Try.sizeOf3 w⟩) rfl k1 ?_
      refine O.bsl (cs := (EN.enc ((fun x : Int × Int => x.2) y))) rfl rfl rfl ⟨Go.Proofs.Try.underlying39, Go.Proofs.Try.sizeOf3, Go.Proofs.Try.zeroValue3, ⟨_, Go.Proofs.Try.typeInfo3, rfl⟩, rfl, by decide⟩ rfl (by decide) (by kernel_rfl) ?_
      intro H5 M5
      have hs5 := M5.size
      have m5 : Rd H5 H4.size 0 (EN.enc ((fun x : Int × Int => x.2) y)) := M5.rd _ [] (by simp)
      replace hs1 := hs1.fr (hf4.trans (M5.fr nowhere)) (fun _ _ => nw)
      refine ⟨trivial, ?_⟩
      refine O.app (m := 1) (news := (EN.enc ((fun x : Int × Int => x.2) y))) rfl rfl rfl ⟨Go.Proofs.Try.underlying39, Go.Proofs.Try.sizeOf3, Go.Proofs.Try.zeroValue3, ⟨_, Go.Proofs.Try.typeInfo3, rfl⟩, rfl, by decide⟩ rfl hs1 rfl (.inl ⟨_, _, _, rfl, m5⟩) rfl rfl (Nat.le_trans (Nat.mul_le_mul_left _ (Nat.le_of_ble_eq_true (n := _) (m := 4096) rfl)) (by omega)) (by omega) ?_
      intro b2 o2 c2 H6 ha
      obtain ⟨fa, pa⟩ : Fr (fun x _ => x = b1) H5 H6 ∧ (b2 = b1 ∨ H5.size ≤ b2) := ha.rp
      have hsz := hF.size
      have hF6 : Fr nowhere H H6 := ((hF.trans hf4).trans (M5.fr nowhere)).trans' fa (fun _ _ _ h => h) (fun x o hx hz => by have hz' : x = b1 := hz; omega)
      have hsl6 : Sl H6 b2 o2 (j + 1) c2 1 (row EN ((l.take (j + 1)).map (fun x : Int × Int => x.2))) := by rw [hx, row_append, row_one]; exact ha.sl
      refine ⟨trivial, ?_⟩
      refine O.asg rfl rfl rfl rfl rfl ?_
      refine Pl.fin [(3, _), (5, _), (6, _), (7, _), (8, _), (9, _)] ⟨rfl, rfl, rfl, rfl, rfl, rfl, trivial⟩ ?_
      refine Go'.inBlock ?_
      -- region 6 (list.go:185)
      refine Go'.region [(0, 0), (1, 0)] rfl ?_
      refine O.add (((j + 1 : Nat) : Int)) rfl rfl rfl rfl rfl rfl (by omega) (by omega) ?_
      refine O.mv rfl rfl rfl rfl rfl ?_
      refine Pl.fin [(3, _), (5, _), (6, _), (7, _), (8, _), (9, _)] ⟨rfl, rfl, rfl, rfl, rfl, rfl, trivial⟩ ?_
      refine Go'.keep [(3, _), (6, _), (7, _), (8, _)] ⟨rfl, rfl, rfl, rfl, trivial⟩ ?_
      refine Go'.inLoop ?_
      refine ih (j + 1, .slice (some ⟨b2, o2, none⟩) (j + 1) c2) H6 ⟨hF6, by simp only; omega, .inr ⟨b2, o2, c2, by rw [hl1], SlE.of hsl6 rfl hl1.symm⟩, .inr ⟨b2, o2, c2, rfl, by omega, hsl6⟩⟩ (by simp only; omega)
  · skip
    obtain rfl : j = l.length := by omega
    -- region 3 (list.go:185)
    refine Go'.region [(0, 0)] rfl ?_
    refine O.cmp rfl rfl rfl rfl rfl rfl (lssF (by omega)) ?_
    refine Pl.fin [(3, _), (6, _), (7, _), (8, _), (9, _)] ⟨rfl, rfl, rfl, rfl, rfl, trivial⟩ ?_
    refine Go'.seq ?_
    refine Go'.condF rfl ?_
    refine Go'.exit rfl ?_
    refine Go'.seq ?_
    -- region 7 (list.go:188)
    refine Go'.region [(0, 0), (1, 0)] rfl ?_
    refine O.mv rfl rfl rfl rfl rfl ?_
    refine O.asg rfl rfl rfl rfl rfl ?_
    refine Pl.fin [(2, _)] ⟨rfl, trivial⟩ ?_
    refine Go'.ret (vs := [_]) Go.Proofs.Try.func34 Go.Proofs.Try.results34 ⟨rfl, trivial⟩ ?_
    rw [List.take_length] at hsv
    exact ⟨hsv, hF⟩

theorem specKeys_spec {B : World} {H : Mem} {u : Value} {l : List (Int × Int)} (hi : InS EJ H u l) (hll : l.length ≤ 4294967296) :
    Fn Try.prog B 33 [u] H (fun r H' => OutS EN H' r (l.map (fun x : Int × Int => x.1)) ∧ Fr nowhere H H') := by
  obtain ⟨a, c, hu⟩ := hi.len
  subst hu
  refine fn_of Go.Proofs.Try.func33 rfl Go.Proofs.Try.ntmps33 ?_
  refine (show Go' _ _ _ _ 19 [(0, _)] [.code _] _ from ?_)
  refine Go'.seq ?_
  -- region 0 (list.go:175)
  refine Go'.region [(0, 0)] rfl ?_
  refine O.asg rfl rfl rfl rfl rfl ?_
  refine Pl.fin [(0, _), (2, _)] ⟨rfl, rfl, trivial⟩ ?_
  refine Go'.seq ?_
  -- region 1 (list.go:176)
  refine Go'.region [(0, 0)] rfl ?_
  refine O.asg rfl rfl rfl rfl rfl ?_
  refine Pl.fin [(0, _), (2, _), (3, _)] ⟨rfl, rfl, rfl, trivial⟩ ?_
  refine Go'.seq ?_
  refine Go'.seq ?_
  -- region 2 (list.go:177)
  refine Go'.region [(0, 0), (1, 0), (2, 0)] rfl ?_
  refine O.mv rfl rfl rfl rfl rfl ?_
  refine O.len rfl rfl rfl rfl Go.Proofs.Try.underlying22 rfl ?_
  refine O.mv rfl rfl rfl rfl rfl ?_
  refine Pl.fin [(2, _), (3, _), (6, _), (7, _), (8, _)] ⟨rfl, rfl, rfl, rfl, rfl, trivial⟩ ?_
  refine Go'.block ?_
  refine Go'.loop ?_
  refine Go'.keep [(3, _), (6, _), (7, _), (8, _)] ⟨rfl, rfl, rfl, rfl, trivial⟩ ?_
  refine Go'.ind (σ := Nat × Value) (fun s => l.length - s.1) (fun s H' => Fr nowhere H H' ∧ s.1 ≤ l.length ∧ OutS EN H' s.2 ((l.take s.1).map (fun x : Int × Int => x.1)) ∧ (s.2 = .slice none 0 0 ∧ s.1 = 0 ∨ ∃ b o c, s.2 = .slice (some ⟨b, o, none⟩) s.1 c ∧ H.size ≤ b ∧ Sl H' b o s.1 c 1 (row EN ((l.take s.1).map (fun x : Int × Int => x.1)))))
    (fun s => [(3, s.2), (6, .slice a l.length c), (7, .int .i64 (l.length : Int)), (8, .int .i64 (s.1 : Int))]) (0, .slice none 0 0) ⟨Fr.refl _ _, Nat.zero_le _, .inl ⟨rfl, rfl⟩, .inl ⟨rfl, rfl⟩⟩ rfl ?_
  rintro ⟨j, sv⟩ H2 ⟨hF, hjl, hsv, hcase⟩ ih
  simp only at hjl hsv hcase
  have hi2 := hi.fr hF
  refine Go'.seq ?_
  by_cases hlt : j < l.length
  · skip
    obtain ⟨y, hy⟩ : ∃ y, l[j]? = some y := ⟨l[j], List.getElem?_eq_getElem hlt⟩
    obtain ⟨b, o, c', e, hr⟩ := hi2.at hy
    cases e
    have hx : (l.take (j + 1)).map (fun x : Int × Int => x.1) = (l.take j).map (fun x : Int × Int => x.1) ++ [(fun x : Int × Int => x.1) y] := by rw [List.take_add_one, hy, List.map_append]; rfl
    have hl1 : ((l.take (j + 1)).map (fun x : Int × Int => x.1)).length = j + 1 := by rw [List.length_map, List.length_take]; omega
    -- region 3 (list.go:177)
    refine Go'.region [(0, 0)] rfl ?_
    refine O.cmp rfl rfl rfl rfl rfl rfl (lssT (by omega)) ?_
    refine Pl.fin [(3, _), (6, _), (7, _), (8, _), (9, _)] ⟨rfl, rfl, rfl, rfl, rfl, trivial⟩ ?_
    refine Go'.seq ?_
    refine Go'.condT rfl ?_
    refine Go'.skip ?_
    refine Go'.seq ?_
    refine Go'.block ?_
    refine Go'.seq ?_
    -- region 4 (list.go:177)
    refine Go'.region [(0, 0), (1, 1), (2, 2), (3, 2)] rfl ?_
    refine O.ix (j := j) rfl rfl rfl rfl Go.Proofs.Try.underlying22 Go.Proofs.Try.sizeOf35 rfl rfl (by omega) hlt ?_
    refine O.lds rfl rfl rfl (fun w => ⟨Go.Proofs.Try.isAgg35 w, Go.Proofs.Try.sizeOf35 w⟩) rfl rfl hr ?_
    refine O.alloc rfl rfl rfl Go.Proofs.Try.zeroValue35 ?_
    intro H3 M3
    refine ⟨trivial, ?_⟩
    have hs3 := M3.size
    have m7 : Wr H3 H2.size 0 2 := M3.wr 2 (by decide)
    refine O.st rfl rfl Go.Proofs.Try.sizeOf35 rfl rfl rfl rfl rfl m7 ?_
    intro H4 W4
    have hs4 := W4.size
    have hf4 : Fr nowhere H2 H4 := (M3.fr nowhere).trans' W4.fr (fun _ _ _ h => h) (fun b o hb hz => by have h1 := hz.1; omega)
    have k1 : cl H4 H2.size 0 = some (.int .i64 ((fun x : Int × Int => x.1) y)) := W4.all 0 _ rfl
    refine ⟨trivial, ?_⟩
    refine Pl.fin [(3, _), (5, _), (6, _), (7, _), (8, _), (9, _)] ⟨rfl, rfl, rfl, rfl, rfl, rfl, trivial⟩ ?_
    rcases hcase with ⟨rfl, rfl⟩ | ⟨b1, o1, c1, rfl, hb1, hs1⟩
    · skip
      -- region 5 (list.go:178)
      refine Go'.region [(0, 0), (1, 0), (2, 1), (3, 2), (4, 2), (5, 0)] rfl ?_
      refine O.mv rfl rfl rfl rfl rfl ?_
      refine O.faz rfl rfl rfl rfl ⟨_, _, _, Go.Proofs.Try.underlying35, rfl, rfl, Go.Proofs.Try.sizeOf3⟩ rfl ?_
      refine O.ld rfl rfl rfl (fun w => ⟨Go.Proofs.Try.isAgg3 w, Go.Proofs.Try.sizeOf3 w⟩) rfl k1 ?_
      refine O.bsl (cs := (EN.enc ((fun x : Int × Int => x.1) y))) rfl rfl rfl ⟨Go.Proofs.Try.underlying39, Go.Proofs.Try.sizeOf3, Go.Proofs.Try.zeroValue3, ⟨_, Go.Proofs.Try.typeInfo3, rfl⟩, rfl, by decide⟩ rfl (by decide) (by kernel_rfl) ?_
      intro H5 M5
      have hs5 := M5.size
      have m5 : Rd H5 H4.size 0 (EN.enc ((fun x : Int × Int => x.1) y)) := M5.rd _ [] (by simp)
      refine ⟨trivial, ?_⟩
      refine O.appN (m := 1) (news := (EN.enc ((fun x : Int × Int => x.1) y))) rfl rfl rfl ⟨Go.Proofs.Try.underlying39, Go.Proofs.Try.sizeOf3, Go.Proofs.Try.zeroValue3, ⟨_, Go.Proofs.Try.typeInfo3, rfl⟩, rfl, by decide⟩ rfl rfl ⟨_, _, _, rfl, m5⟩ rfl (Nat.le_trans (Nat.mul_le_mul_left _ (Nat.le_of_ble_eq_true (n := _) (m := 4096) rfl)) (by omega)) (by omega) (by omega) ?_
      intro c2 H6 hsl6 fa hs6
      have hF6 : Fr nowhere H H6 := ((hF.trans hf4).trans (M5.fr nowhere)).trans fa
      have hrow : row EN ((l.take (0 + 1)).map (fun x : Int × Int => x.1)) = EN.enc ((fun x : Int × Int => x.1) y) := by rw [hx]; simp [row]
      have hsz := hF.size
      refine ⟨trivial, ?_⟩
      refine O.asg rfl rfl rfl rfl rfl ?_
      refine Pl.fin [(3, _), (5, _), (6, _), (7, _), (8, _), (9, _)] ⟨rfl, rfl, rfl, rfl, rfl, rfl, trivial⟩ ?_
      refine Go'.inBlock ?_
      -- region 6 (list.go:177)
      refine Go'.region [(0, 0), (1, 0)] rfl ?_
      refine O.add (((0 + 1 : Nat) : Int)) rfl rfl rfl rfl rfl rfl (by omega) (by omega) ?_
      refine O.mv rfl rfl rfl rfl rfl ?_
      refine Pl.fin [(3, _), (5, _), (6, _), (7, _), (8, _), (9, _)] ⟨rfl, rfl, rfl, rfl, rfl, rfl, trivial⟩ ?_
      refine Go'.keep [(3, _), (6, _), (7, _), (8, _)] ⟨rfl, rfl, rfl, rfl, trivial⟩ ?_
      refine Go'.inLoop ?_
      refine ih (1, .slice (some ⟨H5.size, 0, none⟩) 1 c2) H6 ⟨hF6, by simp only; omega, .inr ⟨H5.size, 0, c2, by rw [hl1], SlE.of (hrow ▸ hsl6) rfl hl1.symm⟩, .inr ⟨H5.size, 0, c2, rfl, by omega, hrow ▸ hsl6⟩⟩ (by simp only; omega)
    · skip
      -- region 5 (list.go:178)
      refine Go'.region [(0, 0), (1, 0), (2, 1), (3, 2), (4, 2), (5, 0)] rfl ?_
      refine O.mv rfl rfl rfl rfl rfl ?_
      refine O.faz rfl rfl rfl rfl ⟨_, _, _, Go.Proofs.Try.underlying35, rfl, rfl, Go.Proofs.Try.sizeOf3⟩ rfl ?_
      refine O.ld rfl rfl rfl (fun w => ⟨Go.Proofs.Try.isAgg3 w, Go.Proofs.Try.sizeOf3 w⟩) rfl k1 ?_
      refine O.bsl (cs := (EN.enc ((fun x : Int × Int => x.1) y))) rfl rfl rfl ⟨Go.Proofs.Try.underlying39, Go.Proofs.Try.sizeOf3, Go.Proofs.Try.zeroValue3, ⟨_, Go.Proofs.Try.typeInfo3, rfl⟩, rfl, by decide⟩ rfl (by decide) (by kernel_rfl) ?_
      intro H5 M5
      have hs5 := M5.size
      have m5 : Rd H5 H4.size 0 (EN.enc ((fun x : Int × Int => x.1) y)) := M5.rd _ [] (by simp)
      replace hs1 := hs1.fr (hf4.trans (M5.fr nowhere)) (fun _ _ => nw)
      refine ⟨trivial, ?_⟩
      refine O.app (m := 1) (news := (EN.enc ((fun x : Int × Int => x.1) y))) rfl rfl rfl ⟨Go.Proofs.Try.underlying39, Go.Proofs.Try.sizeOf3, Go.Proofs.Try.zeroValue3, ⟨_, Go.Proofs.Try.typeInfo3, rfl⟩, rfl, by decide⟩ rfl hs1 rfl (.inl ⟨_, _, _, rfl, m5⟩) rfl rfl (Nat.le_trans (Nat.mul_le_mul_left _ (Nat.le_of_ble_eq_true (n := _) (m := 4096) rfl)) (by omega)) (by omega) ?_
      intro b2 o2 c2 H6 ha
      obtain ⟨fa, pa⟩ : Fr (fun x _ => x = b1) H5 H6 ∧ (b2 = b1 ∨ H5.size ≤ b2) := ha.rp
      have hsz := hF.size
      have hF6 : Fr nowhere H H6 := ((hF.trans hf4).trans (M5.fr nowhere)).trans' fa (fun _ _ _ h => h) (fun x o hx hz => by have hz' : x = b1 := hz; omega)
      have hsl6 : Sl H6 b2 o2 (j + 1) c2 1 (row EN ((l.take (j + 1)).map (fun x : Int × Int => x.1))) := by rw [hx, row_append, row_one]; exact ha.sl
      refine ⟨trivial, ?_⟩
      refine O.asg rfl rfl rfl rfl rfl ?_
      refine Pl.fin [(3, _), (5, _), (6, _), (7, _), (8, _), (9, _)] ⟨rfl, rfl, rfl, rfl, rfl, rfl, trivial⟩ ?_
      refine Go'.inBlock ?_
      -- region 6 (list.go:177)
      refine Go'.region [(0, 0), (1, 0)] rfl ?_
      refine O.add (((j + 1 : Nat) : Int)) rfl rfl rfl rfl rfl rfl (by omega) (by omega) ?_
      refine O.mv rfl rfl rfl rfl rfl ?_
      refine Pl.fin [(3, _), (5, _), (6, _), (7, _), (8, _), (9, _)] ⟨rfl, rfl, rfl, rfl, rfl, rfl, trivial⟩ ?_
      refine Go'.keep [(3, _), (6, _), (7, _), (8, _)] ⟨rfl, rfl, rfl, rfl, trivial⟩ ?_
      refine Go'.inLoop ?_
      refine ih (j + 1, .slice (some ⟨b2, o2, none⟩) (j + 1) c2) H6 ⟨hF6, by simp only; omega, .inr ⟨b2, o2, c2, by rw [hl1], SlE.of hsl6 rfl hl1.symm⟩, .inr ⟨b2, o2, c2, rfl, by omega, hsl6⟩⟩ (by simp only; omega)
  · skip
    obtain rfl : j = l.length := by omega
    -- region 3 (list.go:177)
    refine Go'.region [(0, 0)] rfl ?_
    refine O.cmp rfl rfl rfl rfl rfl rfl (lssF (by omega)) ?_
    refine Pl.fin [(3, _), (6, _), (7, _), (8, _), (9, _)] ⟨rfl, rfl, rfl, rfl, rfl, trivial⟩ ?_
    refine Go'.seq ?_
    refine Go'.condF rfl ?_
    refine Go'.exit rfl ?_
    refine Go'.seq ?_
    -- region 7 (list.go:180)
    refine Go'.region [(0, 0), (1, 0)] rfl ?_
    refine O.mv rfl rfl rfl rfl rfl ?_
    refine O.asg rfl rfl rfl rfl rfl ?_
    refine Pl.fin [(2, _)] ⟨rfl, trivial⟩ ?_
    refine Go'.ret (vs := [_]) Go.Proofs.Try.func33 Go.Proofs.Try.results33 ⟨rfl, trivial⟩ ?_
    rw [List.take_length] at hsv
    exact ⟨hsv, hF⟩

theorem eqInts_spec {B : World} {H : Mem} {u v : Value} {l : List Int} (hu : InS EN H u l) (hv : InS EN H v l) (hll : l.length ≤ 4294967296) :
    Fn Try.prog B 30 [u, v] H (fun r H' => r = .bool true ∧ H' = H) := by
  obtain ⟨a, c, e⟩ := hu.len
  subst e
  obtain ⟨a', c', e⟩ := hv.len
  subst e
  refine fn_of Go.Proofs.Try.func30 rfl Go.Proofs.Try.ntmps30 ?_
  refine (show Go' _ _ _ _ 26 [(0, _), (1, _)] [.code _] _ from ?_)
  refine Go'.seq ?_
  -- region 0 (slices.go:20)
  refine Go'.region [(0, 0)] rfl ?_
  refine O.asg rfl rfl rfl rfl rfl ?_
  refine Pl.fin [(0, _), (1, _), (4, _)] ⟨rfl, rfl, rfl, trivial⟩ ?_
  refine Go'.seq ?_
  refine Go'.seq ?_
  -- region 1 (slices.go:21)
  refine Go'.region [(0, 0), (1, 0), (2, 0), (3, 0), (4, 0)] rfl ?_
  refine O.mv rfl rfl rfl rfl rfl ?_
  refine O.len rfl rfl rfl rfl Go.Proofs.Try.underlying39 rfl ?_
  refine O.mv rfl rfl rfl rfl rfl ?_
  refine O.len rfl rfl rfl rfl Go.Proofs.Try.underlying39 rfl ?_
  refine O.cmp rfl rfl rfl rfl rfl rfl (neqF (by omega)) ?_
  refine Pl.fin [(0, _), (1, _), (4, _), (10, _)] ⟨rfl, rfl, rfl, rfl, trivial⟩ ?_
  refine Go'.condF rfl ?_
  refine Go'.skip ?_
  refine Go'.seq ?_
  refine Go'.seq ?_
  -- region 3 (slices.go:24)
  refine Go'.region [(0, 0), (1, 0), (2, 0)] rfl ?_
  refine O.mv rfl rfl rfl rfl rfl ?_
  refine O.len rfl rfl rfl rfl Go.Proofs.Try.underlying39 rfl ?_
  refine O.mv rfl rfl rfl rfl rfl ?_
  refine Pl.fin [(0, _), (1, _), (4, _), (12, _), (13, _)] ⟨rfl, rfl, rfl, rfl, rfl, trivial⟩ ?_
  refine Go'.block ?_
  refine Go'.loop ?_
  refine Go'.keep [(0, _), (1, _), (4, _), (12, _), (13, _)] ⟨rfl, rfl, rfl, rfl, rfl, trivial⟩ ?_
  refine Go'.ind (σ := Nat) (fun j => l.length - j) (fun j H' => H' = H ∧ j ≤ l.length)
    (fun j => [(0, .slice a l.length c), (1, .slice a' l.length c'), (4, .bool false), (12, .int .i64 (l.length : Int)), (13, .int .i64 (j : Int))]) 0 ⟨rfl, Nat.zero_le _⟩ rfl ?_
  rintro j H2 ⟨hHH, hjl⟩ ih
  have eH : H = H2 := hHH.symm
  subst eH
  clear hHH
  refine Go'.seq ?_
  by_cases hlt : j < l.length
  · skip
    obtain ⟨y, hy⟩ : ∃ y, l[j]? = some y := ⟨l[j], List.getElem?_eq_getElem hlt⟩
    obtain ⟨b, o, cc, e, hr⟩ := hu.at hy
    cases e
    obtain ⟨b', o', cc', e, hr'⟩ := hv.at hy
    cases e
    -- region 4 (slices.go:24)
    refine Go'.region [(0, 0)] rfl ?_
    refine O.cmp rfl rfl rfl rfl rfl rfl (lssT (by omega)) ?_
    refine Pl.fin [(0, _), (1, _), (4, _), (12, _), (13, _), (14, _)] ⟨rfl, rfl, rfl, rfl, rfl, rfl, trivial⟩ ?_
    refine Go'.seq ?_
    refine Go'.condT rfl ?_
    refine Go'.skip ?_
    refine Go'.seq ?_
    refine Go'.block ?_
    refine Go'.seq ?_
    -- region 5 (slices.go:24)
    refine Go'.region [(0, 0), (1, 0)] rfl ?_
    refine O.mv rfl rfl rfl rfl rfl ?_
    refine O.asg rfl rfl rfl rfl rfl ?_
    refine Pl.fin [(0, _), (1, _), (4, _), (5, _), (12, _), (13, _), (14, _)] ⟨rfl, rfl, rfl, rfl, rfl, rfl, rfl, trivial⟩ ?_
    refine Go'.seq ?_
    -- region 6 (slices.go:25)
    refine Go'.draw (fun _ => True) [(0, 0), (1, 0), (2, 0), (3, 1), (4, 0), (5, 0), (6, 0), (7, 1), (8, 0)] (by kernel_rfl) (by kernel_rfl) (trivial) ?_
    refine O.mv rfl rfl rfl rfl rfl ?_
    refine O.mv rfl rfl rfl rfl rfl ?_
    refine O.ix (j := j) rfl rfl rfl rfl Go.Proofs.Try.underlying39 Go.Proofs.Try.sizeOf3 rfl rfl (by omega) hlt ?_
    refine O.ld rfl rfl rfl (fun w => ⟨Go.Proofs.Try.isAgg3 w, Go.Proofs.Try.sizeOf3 w⟩) rfl (hr 0 _ rfl) ?_
    refine O.mv rfl rfl rfl rfl rfl ?_
    refine O.mv rfl rfl rfl rfl rfl ?_
    refine O.ix (j := j) rfl rfl rfl rfl Go.Proofs.Try.underlying39 Go.Proofs.Try.sizeOf3 rfl rfl (by omega) hlt ?_
    refine O.ld rfl rfl rfl (fun w => ⟨Go.Proofs.Try.isAgg3 w, Go.Proofs.Try.sizeOf3 w⟩) rfl (hr' 0 _ rfl) ?_
    refine O.cmp rfl rfl rfl rfl rfl rfl (neqF rfl) ?_
    refine Pl.fin [(0, _), (1, _), (4, _), (5, _), (12, _), (13, _), (14, _), (24, _)] ⟨rfl, rfl, rfl, rfl, rfl, rfl, rfl, rfl, trivial⟩ ?_
    refine Go'.condF rfl ?_
    refine Go'.skip ?_
    refine Go'.inBlock ?_
    -- region 8 (slices.go:24)
    refine Go'.region [(0, 0), (1, 0)] rfl ?_
    refine O.add (((j + 1 : Nat) : Int)) rfl rfl rfl rfl rfl rfl (by omega) (by omega) ?_
    refine O.mv rfl rfl rfl rfl rfl ?_
    refine Pl.fin [(0, _), (1, _), (4, _), (5, _), (12, _), (13, _), (14, _), (24, _)] ⟨rfl, rfl, rfl, rfl, rfl, rfl, rfl, rfl, trivial⟩ ?_
    refine Go'.keep [(0, _), (1, _), (4, _), (12, _), (13, _)] ⟨rfl, rfl, rfl, rfl, rfl, trivial⟩ ?_
    refine Go'.inLoop ?_
    exact ih (j + 1) H ⟨rfl, hlt⟩ (by omega)
  · skip
    -- region 4 (slices.go:24)
    refine Go'.region [(0, 0)] rfl ?_
    refine O.cmp rfl rfl rfl rfl rfl rfl (lssF (by omega)) ?_
    refine Pl.fin [(0, _), (1, _), (4, _), (12, _), (13, _), (14, _)] ⟨rfl, rfl, rfl, rfl, rfl, rfl, trivial⟩ ?_
    refine Go'.seq ?_
    refine Go'.condF rfl ?_
    refine Go'.exit rfl ?_
    refine Go'.seq ?_
    -- region 9 (slices.go:29)
    refine Go'.region [(0, 0)] rfl ?_
    refine O.asg rfl rfl rfl rfl rfl ?_
    refine Pl.fin [(4, _)] ⟨rfl, trivial⟩ ?_
    refine Go'.ret (vs := [_]) Go.Proofs.Try.func30 Go.Proofs.Try.results30 ⟨rfl, trivial⟩ ?_
    exact ⟨rfl, rfl⟩

end Go.Bt