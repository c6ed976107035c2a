/- Contracts of functions of the program, proved by walking through their code. Conditions: those that each theorem names. -/
import Derived.Test.YtmboghgpakhceaaToiB
import Derived.Test.YtmboghgpakhceaaToiE
import Derived.Test.YtmboghgpakhceaaTogR
namespace Go.Bt.FG
open Go Go.Proofs
set_option maxRecDepth 20000
set_option maxHeartbeats 4000000
set_option linter.unusedVariables false
set_option linter.unusedSectionVars false

theorem Pl.runs_cons {α β γ : Type} (f : List α → β → List α × γ) (l : List α) (k : β) (ks : List β) : Pl.runs f l (k :: ks) = ((Pl.runs f (f l k).1 ks).1, (f l k).2 :: (Pl.runs f (f l k).1 ks).2) := by
  have h : ∀ (ks : List β) (m : List α) (A B : List γ), ks.foldl (fun s k => ((f s.1 k).1, s.2 ++ [(f s.1 k).2])) (m, A ++ B) = ((ks.foldl (fun s k => ((f s.1 k).1, s.2 ++ [(f s.1 k).2])) (m, B)).1, A ++ (ks.foldl (fun s k => ((f s.1 k).1, s.2 ++ [(f s.1 k).2])) (m, B)).2) := by
    intro ks
    induction ks with
    | nil => intros; rfl
    | cons k ks ih =>
      intro m A B
      simp only [List.foldl_cons, List.append_assoc]
      exact ih _ A _
  exact h ks (f l k).1 [(f l k).2] []
theorem Pl.runs_last {α : Type} : ∀ (n : Nat) (l : List α), l.length = n → Pl.runs Pl.popk l (List.replicate (n + 1) true) = ([], l.reverse.map some ++ [none])
  | 0, l, h => by
    obtain rfl := List.length_eq_zero_iff.1 h
    rfl
  | n + 1, l, h => by
    obtain ⟨l', x, rfl⟩ : ∃ l' x, l = l' ++ [x] := by
      rcases List.eq_nil_or_concat l with rfl | ⟨a, b, e⟩
      · simp at h
      · exact ⟨a, b, by simpa using e⟩
    have hn' : l'.length = n := by simpa using h
    have e1 : Pl.popk (l' ++ [x]) true = (l', some x) := by simp [Pl.popk]
    rw [List.replicate_succ, Pl.runs_cons, e1, Pl.runs_last n l' hn']
    simp
theorem Pl.runs_first {α : Type} : ∀ (l : List α), Pl.runs Pl.popk l (List.replicate (l.length + 1) false) = ([], l.map some ++ [none])
  | [] => rfl
  | x :: l => by
    rw [List.length_cons, List.replicate_succ, Pl.runs_cons, show Pl.popk (x :: l) false = (l, some x) from rfl, Pl.runs_first l]
    rfl
theorem ins_rep {H : Mem} {eb n : Nat} {e : Bool} (h : ∀ k, k < n → cl H eb k = some (.bool e)) : InS EB H (.slice (some ⟨eb, 0, none⟩) n n) (List.replicate n e) := by
  refine .inl ⟨eb, 0, n, by rw [List.length_replicate], by rw [List.length_replicate]; exact Nat.le_refl _, ?_⟩
  have hr : row EB (List.replicate n e) = List.replicate n (.bool e) := by
    induction n with
    | zero => rfl
    | succ n ih =>
      rw [List.replicate_succ, List.replicate_succ, ← ih fun k hk => h k (by omega)]
      rfl
  rw [hr]
  intro i x hx
  rw [List.getElem?_replicate] at hx
  split at hx
  · cases hx
    rw [Nat.zero_add]
    exact h i (by assumption)
  · cases hx

theorem insK {α : Type} {E : Elt α} {H H' : Mem} {v : Value} {l : List α} {eb : Nat} (hi : InS E H v l) (h0 : H.size ≤ eb) (hf : Fr (fun b _ => b = eb) H H') : InS E H' v l := by
  rcases hi with ⟨b, o, c, h1, h2, h3⟩ | h
  · exact .inl ⟨b, o, c, h1, h2, fun i x hi => hf.keep (h3 i x hi) fun h => by have := cl_lt (h3 i x hi); have h' : b = eb := h; omega⟩
  · exact .inr h

theorem fnGPopAll {B : World} {H : Mem} {z : Int} {nl : Bool} {v u : Value} {ord : List Int} {l : List (Int × Int)} {e : Bool} (ho : InS EN H v ord) (hi : InS EJ H u l) :
    Fn Try.prog B 19 [.agg #[v, .int .i64 z, .bool nl], u, .bool e] H (fun r H' => r = .bool true ∧ Fr nowhere H H') := by
  obtain ⟨a, c, hu⟩ := hi.len
  subst hu
  obtain ⟨av, mv, cv, hv⟩ := InS.form ho
  subst hv
  have hF : Fr nowhere H H := Fr.refl _ _
  refine fn_of Try.func19 rfl Try.ntmps19 ?_
  refine (show Go' _ _ _ _ 89 [(0, _), (1, _), (2, _)] [.code _] _ from ?_)
  refine Go'.seq ?_
  -- region 0 (trees.go:274)
  refine Go'.region [(0, 2), (1, 0)] rfl ?_
  refine O.box rfl rfl rfl rfl ?_
  intro B1 MB1
  refine ⟨trivial, ?_⟩
  have hsB1 := MB1.size
  replace hF := hF.trans (MB1.fr nowhere)
  have mm : Rd B1 H.size 0 [.slice av mv cv, .int .i64 z, .bool nl] := MB1.rd _ [] (by simp [Value.cells])
  have mm0 : cl B1 H.size 0 = some (.slice av mv cv) := mm 0 _ rfl
  have mm1 : cl B1 H.size (0 + 1) = some (.int .i64 z) := mm 1 _ rfl
  refine O.asg rfl rfl rfl rfl rfl ?_
  refine Pl.fin [(1, _), (2, _), (3, _), (6, _)] ⟨rfl, rfl, rfl, rfl, trivial⟩ ?_
  refine Go'.seq ?_
  refine Go'.seq ?_
  cases hoz : decide (ord.length ≤ 2147483647)
  · skip
    -- region 1 (trees.go:275)
    refine Go'.region [(0, 1), (1, 2), (2, 0), (3, 0), (4, 0), (5, 0), (6, 0), (7, 0)] rfl ?_
    refine O.lds rfl rfl rfl (fun w => ⟨Try.isAgg24 w, Try.sizeOf24 w⟩) rfl rfl mm ?_
    refine O.call rfl rfl rfl Try.call23 rfl (zzFits1_spec (ho.fr hF) hoz) ?_
    rintro _ Hz ⟨rfl, hFz⟩
    replace hF := hF.trans hFz
    replace mm := hFz.rd mm (fun _ _ => nw)
    replace mm0 := hFz.keep mm0 nw
    replace mm1 := hFz.keep mm1 nw
    refine ⟨trivial, ?_⟩
    refine O.not rfl rfl rfl rfl rfl ?_
    refine O.mv rfl rfl rfl rfl rfl ?_
    refine Pl.pass rfl rfl rfl rfl ?_
    refine Pl.pass rfl rfl rfl rfl ?_
    refine Pl.pass rfl rfl rfl rfl ?_
    refine O.pick rfl rfl rfl rfl rfl rfl ?_
    refine Pl.fin [(1, _), (2, _), (3, _), (6, _), (21, _)] ⟨rfl, rfl, rfl, rfl, rfl, trivial⟩ ?_
    refine Go'.condT rfl ?_
    refine Go'.seq ?_
    -- region 2 (trees.go:276)
    refine Go'.region [(0, 0)] rfl ?_
    refine O.asg rfl rfl rfl rfl rfl ?_
    refine Pl.fin [(1, _), (2, _), (3, _), (6, _)] ⟨rfl, rfl, rfl, rfl, trivial⟩ ?_
    refine Go'.ret (vs := [_]) Try.func19 Try.results19 ⟨rfl, trivial⟩ ?_
    exact ⟨rfl, hF⟩
  · skip
    have hoz2 := of_decide_eq_true hoz
    by_cases hb_lenl : (2147483647 : Int) < (l.length : Int)
    · skip
      -- region 1 (trees.go:275)
      refine Go'.region [(0, 1), (1, 2), (2, 0), (3, 0), (4, 0), (5, 0), (6, 0), (7, 0)] rfl ?_
      refine O.lds rfl rfl rfl (fun w => ⟨Try.isAgg24 w, Try.sizeOf24 w⟩) rfl rfl mm ?_
      refine O.call rfl rfl rfl Try.call23 rfl (zzFits1_spec (ho.fr hF) hoz) ?_
      rintro _ Hz ⟨rfl, hFz⟩
      replace hF := hF.trans hFz
      replace mm := hFz.rd mm (fun _ _ => nw)
      replace mm0 := hFz.keep mm0 nw
      replace mm1 := hFz.keep mm1 nw
      refine ⟨trivial, ?_⟩
      refine O.not rfl rfl rfl rfl rfl ?_
      refine O.mv rfl rfl rfl rfl rfl ?_
      refine O.mv rfl rfl rfl rfl rfl ?_
      refine O.len rfl rfl rfl rfl Try.underlying25 rfl ?_
      refine O.cmp rfl rfl rfl rfl rfl rfl (gtrT (by omega)) ?_
      refine O.pick rfl rfl rfl rfl rfl rfl ?_
      refine Pl.fin [(1, _), (2, _), (3, _), (6, _), (21, _)] ⟨rfl, rfl, rfl, rfl, rfl, trivial⟩ ?_
      refine Go'.condT rfl ?_
      refine Go'.seq ?_
      -- region 2 (trees.go:276)
      refine Go'.region [(0, 0)] rfl ?_
      refine O.asg rfl rfl rfl rfl rfl ?_
      refine Pl.fin [(1, _), (2, _), (3, _), (6, _)] ⟨rfl, rfl, rfl, rfl, trivial⟩ ?_
      refine Go'.ret (vs := [_]) Try.func19 Try.results19 ⟨rfl, trivial⟩ ?_
      exact ⟨rfl, hF⟩
    · skip
      -- region 1 (trees.go:275)
      refine Go'.region [(0, 1), (1, 2), (2, 0), (3, 0), (4, 0), (5, 0), (6, 0), (7, 0)] rfl ?_
      refine O.lds rfl rfl rfl (fun w => ⟨Try.isAgg24 w, Try.sizeOf24 w⟩) rfl rfl mm ?_
      refine O.call rfl rfl rfl Try.call23 rfl (zzFits1_spec (ho.fr hF) hoz) ?_
      rintro _ Hz ⟨rfl, hFz⟩
      replace hF := hF.trans hFz
      replace mm := hFz.rd mm (fun _ _ => nw)
      replace mm0 := hFz.keep mm0 nw
      replace mm1 := hFz.keep mm1 nw
      refine ⟨trivial, ?_⟩
      refine O.not rfl rfl rfl rfl rfl ?_
      refine O.mv rfl rfl rfl rfl rfl ?_
      refine O.mv rfl rfl rfl rfl rfl ?_
      refine O.len rfl rfl rfl rfl Try.underlying25 rfl ?_
      refine O.cmp rfl rfl rfl rfl rfl rfl (gtrF (by omega)) ?_
      refine O.pick rfl rfl rfl rfl rfl rfl ?_
      refine Pl.fin [(1, _), (2, _), (3, _), (6, _), (21, _)] ⟨rfl, rfl, rfl, rfl, rfl, trivial⟩ ?_
      refine Go'.condF rfl ?_
      refine Go'.skip ?_
      refine Go'.seq ?_
      refine Go'.seq ?_
      have hpl := Pl.puts_length (OO ord) l
      cases hfz : fitsb z
      · skip
        -- region 3 (trees.go:278)
        refine Go'.region [(0, 1), (1, 2), (2, 0)] rfl ?_
        refine O.lds rfl rfl rfl (fun w => ⟨Try.isAgg24 w, Try.sizeOf24 w⟩) rfl rfl mm ?_
        refine O.call rfl rfl rfl Try.call24 rfl (lfits_spec ⟨_, _, _, rfl⟩ hfz) ?_
        rintro _ H6 ⟨rfl, hF6⟩
        replace hF := hF.trans hF6
        replace mm := hF6.rd mm (fun _ _ => nw)
        replace mm0 := hF6.keep mm0 nw
        replace mm1 := hF6.keep mm1 nw
        refine ⟨trivial, ?_⟩
        refine O.not rfl rfl rfl rfl rfl ?_
        refine Pl.fin [(1, _), (2, _), (3, _), (6, _), (24, _)] ⟨rfl, rfl, rfl, rfl, rfl, trivial⟩ ?_
        refine Go'.condT rfl ?_
        refine Go'.seq ?_
        -- region 4 (trees.go:279)
        refine Go'.region [(0, 2), (1, 0)] rfl ?_
        refine O.call rfl rfl rfl Try.call25 rfl alive_spec ?_
        rintro _ Hv ⟨rfl, hFv⟩
        replace hF := hF.trans hFv
        replace mm := hFv.rd mm (fun _ _ => nw)
        replace mm0 := hFv.keep mm0 nw
        replace mm1 := hFv.keep mm1 nw
        refine ⟨trivial, ?_⟩
        refine O.asg rfl rfl rfl rfl rfl ?_
        refine Pl.fin [(1, _), (2, _), (3, _), (6, _)] ⟨rfl, rfl, rfl, rfl, trivial⟩ ?_
        refine Go'.ret (vs := [_]) Try.func19 Try.results19 ⟨rfl, trivial⟩ ?_
        exact ⟨rfl, hF⟩
      · skip
        obtain ⟨d, rfl, hd⟩ := fitsb_nat hfz
        -- region 3 (trees.go:278)
        refine Go'.region [(0, 1), (1, 2), (2, 0)] rfl ?_
        refine O.lds rfl rfl rfl (fun w => ⟨Try.isAgg24 w, Try.sizeOf24 w⟩) rfl rfl mm ?_
        refine O.call rfl rfl rfl Try.call24 rfl (lfits_spec ⟨_, _, _, rfl⟩ hfz) ?_
        rintro _ H6 ⟨rfl, hF6⟩
        replace hF := hF.trans hF6
        replace mm := hF6.rd mm (fun _ _ => nw)
        replace mm0 := hF6.keep mm0 nw
        replace mm1 := hF6.keep mm1 nw
        refine ⟨trivial, ?_⟩
        refine O.not rfl rfl rfl rfl rfl ?_
        refine Pl.fin [(1, _), (2, _), (3, _), (6, _), (24, _)] ⟨rfl, rfl, rfl, rfl, rfl, trivial⟩ ?_
        refine Go'.condF rfl ?_
        refine Go'.skip ?_
        refine Go'.seq ?_
        -- region 5 (trees.go:281)
        refine Go'.region [(0, 1), (1, 0), (2, 2), (3, 0)] rfl ?_
        refine O.lds rfl rfl rfl (fun w => ⟨Try.isAgg24 w, Try.sizeOf24 w⟩) rfl rfl mm ?_
        refine O.mv rfl rfl rfl rfl rfl ?_
        refine O.call rfl rfl rfl Try.call43 rfl (igitems_spec hd (ho.fr hF) (by omega) (hi.fr hF) (by omega)) ?_
        rintro g8 H8 ⟨hg8, hF8⟩
        replace hF := hF.trans hF8
        replace mm := hF8.rd mm (fun _ _ => nw)
        replace mm0 := hF8.keep mm0 nw
        replace mm1 := hF8.keep mm1 nw
        have hI := hg8.inS
        obtain ⟨ga, gc, hge⟩ := hI.len
        subst hge
        generalize hL : Pl.puts (OO ord) l = L at *
        refine ⟨trivial, ?_⟩
        refine O.asg rfl rfl rfl rfl rfl ?_
        refine Pl.fin [(1, _), (2, _), (3, _), (6, _), (7, _)] ⟨rfl, rfl, rfl, rfl, rfl, trivial⟩ ?_
        refine Go'.seq ?_
        refine Go'.seq ?_
        cases e
        · skip
          -- region 6 (trees.go:282)
          refine Go'.region [(0, 0)] rfl ?_
          refine O.mv rfl rfl rfl rfl rfl ?_
          refine Pl.fin [(1, _), (2, _), (3, _), (6, _), (7, _), (29, _)] ⟨rfl, rfl, rfl, rfl, rfl, rfl, trivial⟩ ?_
          refine Go'.condF rfl ?_
          refine Go'.skip ?_
          refine Go'.seq ?_
          obtain ⟨IT, hIT⟩ : ∃ IT, IT = L := ⟨_, rfl⟩
          have hil : IT.length = L.length := by rw [hIT]
          rw [← hIT] at hI
          have hruns : Pl.runs Pl.popk L (List.replicate (IT.length + 1) false) = ([], IT.map some ++ [none]) := by rw [hil, hIT]; exact Pl.runs_first _
          rw [← hIT]
          have hI0 := hI
          -- region 8 (trees.go:285)
          refine Go'.region [(0, 0), (1, 0), (2, 0), (3, 2), (4, 0)] rfl ?_
          refine O.mv rfl rfl rfl rfl rfl ?_
          refine O.len rfl rfl rfl rfl Try.underlying25 rfl ?_
          refine O.add (((IT.length + 1 : Nat) : Int)) rfl rfl rfl rfl rfl rfl (by omega) (by omega) ?_
          refine O.mks (j := (IT.length + 1)) (c := (IT.length + 1)) rfl rfl rfl ⟨Try.underlying75, Try.sizeOf4, Try.zeroValue4, ⟨_, Try.typeInfo4, rfl⟩, rfl, by decide, by decide⟩ rfl rfl rfl rfl (by omega) (Nat.le_trans (Nat.mul_le_mul_right _ (Nat.le_of_ble_eq_true (n := _) (m := 4096) rfl)) (by omega)) (by omega) ?_
          intro H10 M10
          have hs10 := M10.size
          have hs00 := hF.size
          have hmlt := cl_lt mm0
          replace hF := hF.trans (M10.fr nowhere)
          replace mm := (M10.fr nowhere).rd mm (fun _ _ => nw)
          replace mm0 := (M10.fr nowhere).keep mm0 nw
          replace mm1 := (M10.fr nowhere).keep mm1 nw
          replace hI := hI.fr (M10.fr nowhere)
          obtain ⟨eb, heb⟩ : ∃ z, z = H8.size := ⟨_, rfl⟩
          have w10 : Wr H10 eb 0 (IT.length + 1) := by rw [heb]; exact M10.wr _ (by rw [zeroRow_size]; omega)
          rw [← heb]
          have hebl : eb < H10.size := by omega
          have hebH : H.size ≤ eb := by omega
          refine ⟨trivial, ?_⟩
          refine O.asg rfl rfl rfl rfl rfl ?_
          refine Pl.fin [(1, _), (2, _), (3, _), (6, _), (7, _), (8, _)] ⟨rfl, rfl, rfl, rfl, rfl, rfl, trivial⟩ ?_
          refine Go'.seq ?_
          refine Go'.seq ?_
          -- region 9 (trees.go:286)
          refine Go'.region [(0, 0), (1, 0), (2, 0)] rfl ?_
          refine O.mv rfl rfl rfl rfl rfl ?_
          refine O.len rfl rfl rfl rfl Try.underlying75 rfl ?_
          refine O.mv rfl rfl rfl rfl rfl ?_
          refine Pl.fin [(1, _), (2, _), (3, _), (6, _), (7, _), (8, _), (37, _), (38, _)] ⟨rfl, rfl, rfl, rfl, rfl, rfl, rfl, rfl, trivial⟩ ?_
          refine Go'.block ?_
          refine Go'.loop ?_
          refine Go'.keep [(1, _), (2, _), (3, _), (6, _), (7, _), (8, _), (37, _), (38, _)] ⟨rfl, rfl, rfl, rfl, rfl, rfl, rfl, rfl, trivial⟩ ?_
          refine Go'.ind (σ := Nat) (fun s => IT.length + 1 - s) (fun s H' => s ≤ IT.length + 1 ∧ Fr (fun b _ => b = eb) H10 H' ∧ ∀ k, k < s → cl H' eb k = some (.bool false))
            (fun s => [(1, .slice a l.length c), (2, .bool false), (3, .pointer (some ⟨H.size, 0, none⟩)), (6, .bool false), (7, .slice ga IT.length gc), (8, .slice (some ⟨eb, 0, none⟩) (IT.length + 1) (IT.length + 1)), (37, .int .i64 ((IT.length + 1 : Nat) : Int)), (38, .int .i64 (s : Int))]) 0 ⟨Nat.zero_le _, Fr.refl _ _, fun k hk => absurd hk (Nat.not_lt_zero _)⟩ rfl ?_
          rintro i H11 ⟨hil2, hf11, hcl⟩ ih
          refine Go'.seq ?_
          by_cases hlt : i < IT.length + 1
          · skip
            -- region 10 (trees.go:286)
            refine Go'.region [(0, 0)] rfl ?_
            refine O.cmp rfl rfl rfl rfl rfl rfl (lssT (by omega)) ?_
            refine Pl.fin [(1, _), (2, _), (3, _), (6, _), (7, _), (8, _), (37, _), (38, _), (39, _)] ⟨rfl, rfl, rfl, rfl, rfl, rfl, rfl, rfl, rfl, trivial⟩ ?_
            refine Go'.seq ?_
            refine Go'.condT rfl ?_
            refine Go'.skip ?_
            refine Go'.seq ?_
            refine Go'.block ?_
            refine Go'.seq ?_
            -- region 11 (trees.go:286)
            refine Go'.region [(0, 0), (1, 0)] rfl ?_
            refine O.mv rfl rfl rfl rfl rfl ?_
            refine O.asg rfl rfl rfl rfl rfl ?_
            refine Pl.fin [(1, _), (2, _), (3, _), (6, _), (7, _), (8, _), (9, _), (37, _), (38, _), (39, _)] ⟨rfl, rfl, rfl, rfl, rfl, rfl, rfl, rfl, rfl, rfl, trivial⟩ ?_
            -- region 12 (trees.go:287)
            refine Go'.region [(0, 0), (1, 0), (2, 0), (3, 0), (4, 2)] rfl ?_
            refine O.mv rfl rfl rfl rfl rfl ?_
            refine O.mv rfl rfl rfl rfl rfl ?_
            refine O.mv rfl rfl rfl rfl rfl ?_
            refine O.ix (j := i) rfl rfl rfl rfl Try.underlying75 Try.sizeOf4 rfl rfl (by omega) hlt ?_
            refine O.st rfl rfl Try.sizeOf4 rfl rfl rfl rfl rfl (by rw [Nat.zero_add, Nat.mul_one]; exact (hf11.wr w10).at0 i 1 (by omega)) ?_
            intro H12 W12
            rw [Nat.zero_add, Nat.mul_one] at W12
            have hf12 := hf11.trans' W12.fr (fun _ _ _ h => h) (fun b o _ h => h.1)
            refine ⟨trivial, ?_⟩
            refine Pl.fin [(1, _), (2, _), (3, _), (6, _), (7, _), (8, _), (9, _), (37, _), (38, _), (39, _)] ⟨rfl, rfl, rfl, rfl, rfl, rfl, rfl, rfl, rfl, rfl, trivial⟩ ?_
            refine Go'.inBlock ?_
            -- region 13 (trees.go:286)
            refine Go'.region [(0, 0), (1, 0)] rfl ?_
            refine O.add (((i + 1 : Nat) : Int)) rfl rfl rfl rfl rfl rfl (by omega) (by omega) ?_
            refine O.mv rfl rfl rfl rfl rfl ?_
            refine Pl.fin [(1, _), (2, _), (3, _), (6, _), (7, _), (8, _), (9, _), (37, _), (38, _), (39, _)] ⟨rfl, rfl, rfl, rfl, rfl, rfl, rfl, rfl, rfl, rfl, trivial⟩ ?_
            refine Go'.keep [(1, _), (2, _), (3, _), (6, _), (7, _), (8, _), (37, _), (38, _)] ⟨rfl, rfl, rfl, rfl, rfl, rfl, rfl, rfl, trivial⟩ ?_
            refine Go'.inLoop ?_
            refine ih (i + 1) H12 ⟨hlt, hf12, fun k hk => ?_⟩ (by omega)
            rcases Nat.lt_or_eq_of_le (Nat.le_of_lt_succ hk) with h | rfl
            · exact W12.keep1 (hcl k h) (by omega)
            · exact W12.at
          · skip
            obtain rfl : i = IT.length + 1 := by omega
            have hev := ins_rep hcl
            have hs11 := hf11.size
            have hfN : Fr nowhere H H11 := hF.trans' hf11 (fun _ _ _ h => h) (fun b o hb h => by have h' : b = eb := h; omega)
            replace hF := hfN
            replace mm := hf11.rd mm (fun _ _ h => by have h' : _ = eb := h; omega)
            replace mm0 := hf11.keep mm0 (fun h => by have h' : _ = eb := h; omega)
            replace mm1 := hf11.keep mm1 (fun h => by have h' : _ = eb := h; omega)
            have hI11 : InS EJ H11 (.slice ga IT.length gc) IT := insK hI0 (by omega) ((M10.fr nowhere).trans' hf11 (fun _ _ _ h => h.elim) (fun _ _ _ h => h))
            -- region 10 (trees.go:286)
            refine Go'.region [(0, 0)] rfl ?_
            refine O.cmp rfl rfl rfl rfl rfl rfl (lssF (by omega)) ?_
            refine Pl.fin [(1, _), (2, _), (3, _), (6, _), (7, _), (8, _), (37, _), (38, _), (39, _)] ⟨rfl, rfl, rfl, rfl, rfl, rfl, rfl, rfl, rfl, trivial⟩ ?_
            refine Go'.seq ?_
            refine Go'.condF rfl ?_
            refine Go'.exit rfl ?_
            refine Go'.seq ?_
            -- region 14 (trees.go:289)
            refine Go'.region [(0, 1), (1, 0), (2, 0), (3, 2), (4, 0), (5, 0), (6, 0), (7, 0), (8, 0)] rfl ?_
            refine O.lds rfl rfl rfl (fun w => ⟨Try.isAgg24 w, Try.sizeOf24 w⟩) rfl rfl mm ?_
            refine O.mv rfl rfl rfl rfl rfl ?_
            refine O.mv rfl rfl rfl rfl rfl ?_
            refine O.call rfl rfl rfl Try.call63 rfl (igpops_spec hd (ho.fr hF) (by omega) (hi.fr hF) (by omega) hev (by rw [List.length_replicate]; omega)) ?_
            rintro _ H13 ⟨v1, v2, rfl, hp, hlf, hF13⟩
            replace hF := hF.trans hF13
            replace mm := hF13.rd mm (fun _ _ => nw)
            replace mm0 := hF13.keep mm0 nw
            replace mm1 := hF13.keep mm1 nw
            rw [hL, hruns] at hp hlf
            replace hp := hp.inS
            replace hlf := hlf.inS
            obtain ⟨pa, pc, hpe⟩ := hp.len
            subst hpe
            obtain ⟨la, lc, hle⟩ := hlf.len
            subst hle
            have hI13 := hI11.fr hF13
            have hpn : (IT.map some ++ [none] : List (Option (Int × Int))).length = IT.length + 1 := by simp
            refine ⟨trivial, ?_⟩
            refine O.mv rfl rfl rfl rfl rfl ?_
            refine O.ext rfl rfl rfl rfl rfl rfl ?_
            refine O.ext rfl rfl rfl rfl rfl rfl ?_
            refine O.asg rfl rfl rfl rfl rfl ?_
            refine O.asg rfl rfl rfl rfl rfl ?_
            refine Pl.fin [(6, _), (7, _), (10, _), (11, _)] ⟨rfl, rfl, rfl, rfl, trivial⟩ ?_
            refine Go'.seq ?_
            refine Go'.seq ?_
            rw [hpn]
            obtain ⟨b, o, c', ee, hrn⟩ := hp.at (i := IT.length) (x := none) (by simp)
            rw [hpn] at ee
            cases ee
            simp only [List.length_nil]
            -- region 15 (trees.go:290)
            refine Go'.region [(0, 0), (1, 0), (2, 0), (3, 0), (4, 0), (5, 0), (6, 0), (7, 0), (8, 0), (9, 0), (10, 0), (11, 0), (12, 0), (13, 0), (14, 0), (15, 0), (16, 1), (17, 0), (18, 0), (19, 0)] rfl ?_
            refine O.mv rfl rfl rfl rfl rfl ?_
            refine O.len rfl rfl rfl rfl Try.underlying64 rfl ?_
            refine O.mv rfl rfl rfl rfl rfl ?_
            refine O.len rfl rfl rfl rfl Try.underlying25 rfl ?_
            refine O.add (((IT.length + 1 : Nat) : Int)) rfl rfl rfl rfl rfl rfl (by omega) (by omega) ?_
            refine O.cmp rfl rfl rfl rfl rfl rfl (neqF (by omega)) ?_
            refine O.mv rfl rfl rfl rfl rfl ?_
            refine O.mv rfl rfl rfl rfl rfl ?_
            refine O.len rfl rfl rfl rfl Try.underlying25 rfl ?_
            refine O.cmp rfl rfl rfl rfl rfl rfl (neqF (by omega)) ?_
            refine O.pick rfl rfl rfl rfl rfl rfl ?_
            refine O.mv rfl rfl rfl rfl rfl ?_
            refine O.mv rfl rfl rfl rfl rfl ?_
            refine O.mv rfl rfl rfl rfl rfl ?_
            refine O.len rfl rfl rfl rfl Try.underlying25 rfl ?_
            refine O.ix (j := IT.length) rfl rfl rfl rfl Try.underlying64 Try.sizeOf68 rfl rfl (by omega) (by omega) ?_
            refine O.lds rfl rfl rfl (fun w => ⟨Try.isAgg68 w, Try.sizeOf68 w⟩) rfl rfl hrn ?_
            refine O.bld (cs := (fvs none)) rfl rfl rfl rfl (st68) rfl (by kernel_rfl) ?_
            refine O.bin rfl rfl rfl rfl rfl rfl (found_neq none _ _) ?_
            refine O.pick rfl rfl rfl rfl rfl rfl ?_
            refine Pl.fin [(6, _), (7, _), (10, _), (72, _)] ⟨rfl, rfl, rfl, rfl, trivial⟩ ?_
            refine Go'.condF rfl ?_
            refine Go'.skip ?_
            refine Go'.seq ?_
            refine Go'.seq ?_
            -- region 17 (trees.go:293)
            refine Go'.region [(0, 0), (1, 0), (2, 0)] rfl ?_
            refine O.mv rfl rfl rfl rfl rfl ?_
            refine O.len rfl rfl rfl rfl Try.underlying25 rfl ?_
            refine O.mv rfl rfl rfl rfl rfl ?_
            refine Pl.fin [(6, _), (10, _), (73, _), (74, _), (75, _)] ⟨rfl, rfl, rfl, rfl, rfl, trivial⟩ ?_
            refine Go'.block ?_
            refine Go'.loop ?_
            refine Go'.keep [(6, _), (10, _), (73, _), (74, _), (75, _)] ⟨rfl, rfl, rfl, rfl, rfl, trivial⟩ ?_
            refine Go'.ind (σ := Nat) (fun s => IT.length - s) (fun s H' => s ≤ IT.length ∧ Fr nowhere H13 H')
              (fun s => [(6, .bool false), (10, .slice (some ⟨b, o, none⟩) (IT.length + 1) pc), (73, .slice ga IT.length gc), (74, .int .i64 (IT.length : Int)), (75, .int .i64 (s : Int))]) 0 ⟨Nat.zero_le _, Fr.refl _ _⟩ rfl ?_
            rintro i H14 ⟨hil3, hf14⟩ ih
            have hs14 := hf14.size
            refine Go'.seq ?_
            by_cases hlt : i < IT.length
            · skip
              obtain ⟨y, hy⟩ : ∃ y, IT[i]? = some y := ⟨IT[i], List.getElem?_eq_getElem hlt⟩
              obtain ⟨b2, o2, c2, ee, hr⟩ := (hI13.fr hf14).at hy
              cases ee
              obtain ⟨b3, o3, c3, ee, hr2⟩ := (hp.fr hf14).at (i := i) (x := some y) (by rw [List.getElem?_append_left (by rw [List.length_map]; exact hlt), List.getElem?_map, hy]; rfl)
              rw [hpn] at ee
              cases ee
              -- region 18 (trees.go:293)
              refine Go'.region [(0, 0)] rfl ?_
              refine O.cmp rfl rfl rfl rfl rfl rfl (lssT (by omega)) ?_
              refine Pl.fin [(6, _), (10, _), (73, _), (74, _), (75, _), (76, _)] ⟨rfl, rfl, rfl, rfl, rfl, rfl, trivial⟩ ?_
              refine Go'.seq ?_
              refine Go'.condT rfl ?_
              refine Go'.skip ?_
              refine Go'.seq ?_
              refine Go'.block ?_
              refine Go'.seq ?_
              -- region 19 (trees.go:293)
              refine Go'.region [(0, 0), (1, 0), (2, 1), (3, 2), (4, 0), (5, 2)] rfl ?_
              refine O.mv rfl rfl rfl rfl rfl ?_
              refine O.ix (j := i) rfl rfl rfl rfl Try.underlying25 Try.sizeOf27 rfl rfl (by omega) hlt ?_
              refine O.lds rfl rfl rfl (fun w => ⟨Try.isAgg27 w, Try.sizeOf27 w⟩) rfl rfl hr ?_
              refine O.alloc rfl rfl rfl Try.zeroValue27 ?_
              intro H15 M15
              refine ⟨trivial, ?_⟩
              have hs15 := M15.size
              have w15 : Wr H15 H14.size 0 2 := M15.wr 2 (by decide)
              replace hr2 := (M15.fr nowhere).rd hr2 (fun _ _ => nw)
              refine O.asg rfl rfl rfl rfl rfl ?_
              refine O.st (vs := (EJ.enc y)) rfl rfl Try.sizeOf27 rfl rfl rfl rfl rfl w15 ?_
              intro H16 W16
              have hf16 : Fr nowhere H13 H16 := (hf14.trans (M15.fr nowhere)).trans' W16.fr (fun _ _ _ h => h) (fun b o hb h => by have h' := h.1; omega)
              have k16 : Rd H16 H14.size 0 (EJ.enc y) := W16.all
              have hr2 := (hp.fr hf16).at (i := i) (x := some y) (by rw [List.getElem?_append_left (by rw [List.length_map]; exact hlt), List.getElem?_map, hy]; rfl)
              obtain ⟨b4, o4, c4, ee, hr2⟩ := hr2
              rw [hpn] at ee
              cases ee
              refine ⟨trivial, ?_⟩
              refine Pl.fin [(6, _), (10, _), (12, _), (13, _), (73, _), (74, _), (75, _), (76, _)] ⟨rfl, rfl, rfl, rfl, rfl, rfl, rfl, rfl, trivial⟩ ?_
              refine Go'.seq ?_
              -- region 20 (trees.go:294)
              refine Go'.draw (fun _ => True) [(0, 0), (1, 0), (2, 0), (3, 1), (4, 1), (5, 0), (6, 0)] (by kernel_rfl) (by kernel_rfl) (trivial) ?_
              refine O.mv rfl rfl rfl rfl rfl ?_
              refine O.mv rfl rfl rfl rfl rfl ?_
              refine O.ix (j := i) rfl rfl rfl rfl Try.underlying64 Try.sizeOf68 rfl rfl (by omega) (by omega) ?_
              refine O.lds rfl rfl rfl (fun w => ⟨Try.isAgg68 w, Try.sizeOf68 w⟩) rfl rfl hr2 ?_
              refine O.lds rfl rfl rfl (fun w => ⟨Try.isAgg27 w, Try.sizeOf27 w⟩) rfl rfl k16 ?_
              refine O.bld (cs := (fvs (some y))) rfl rfl rfl rfl (st68) rfl (by kernel_rfl) ?_
              refine O.bin rfl rfl rfl rfl rfl rfl (found_neq (some y) _ _) ?_
              refine Pl.fin [(6, _), (10, _), (12, _), (13, _), (73, _), (74, _), (75, _), (76, _), (86, _)] ⟨rfl, rfl, rfl, rfl, rfl, rfl, rfl, rfl, rfl, trivial⟩ ?_
              refine Go'.condF rfl ?_
              refine Go'.skip ?_
              refine Go'.inBlock ?_
              -- region 22 (trees.go:293)
              refine Go'.region [(0, 0), (1, 0)] rfl ?_
              refine O.add (((i + 1 : Nat) : Int)) rfl rfl rfl rfl rfl rfl (by omega) (by omega) ?_
              refine O.mv rfl rfl rfl rfl rfl ?_
              refine Pl.fin [(6, _), (10, _), (12, _), (13, _), (73, _), (74, _), (75, _), (76, _), (86, _)] ⟨rfl, rfl, rfl, rfl, rfl, rfl, rfl, rfl, rfl, trivial⟩ ?_
              refine Go'.keep [(6, _), (10, _), (73, _), (74, _), (75, _)] ⟨rfl, rfl, rfl, rfl, rfl, trivial⟩ ?_
              refine Go'.inLoop ?_
              exact ih (i + 1) H16 ⟨hlt, hf16⟩ (by omega)
            · skip
              obtain rfl : i = IT.length := by omega
              replace hF := hF.trans hf14
              -- region 18 (trees.go:293)
              refine Go'.region [(0, 0)] rfl ?_
              refine O.cmp rfl rfl rfl rfl rfl rfl (lssF (by omega)) ?_
              refine Pl.fin [(6, _), (10, _), (73, _), (74, _), (75, _), (76, _)] ⟨rfl, rfl, rfl, rfl, rfl, rfl, trivial⟩ ?_
              refine Go'.seq ?_
              refine Go'.condF rfl ?_
              refine Go'.exit rfl ?_
              refine Go'.seq ?_
              -- region 23 (trees.go:298)
              refine Go'.region [(0, 2), (1, 0)] rfl ?_
              refine O.call rfl rfl rfl Try.call25 rfl alive_spec ?_
              rintro _ Hv ⟨rfl, hFv⟩
              replace hF := hF.trans hFv
              refine ⟨trivial, ?_⟩
              refine O.asg rfl rfl rfl rfl rfl ?_
              refine Pl.fin [(6, _)] ⟨rfl, trivial⟩ ?_
              refine Go'.ret (vs := [_]) Try.func19 Try.results19 ⟨rfl, trivial⟩ ?_
              exact ⟨rfl, hF⟩
        · skip
          -- region 6 (trees.go:282)
          refine Go'.region [(0, 0)] rfl ?_
          refine O.mv rfl rfl rfl rfl rfl ?_
          refine Pl.fin [(1, _), (2, _), (3, _), (6, _), (7, _), (29, _)] ⟨rfl, rfl, rfl, rfl, rfl, rfl, trivial⟩ ?_
          refine Go'.condT rfl ?_
          -- region 7 (trees.go:283)
          refine Go'.region [(0, 0), (1, 2), (2, 0)] rfl ?_
          refine O.mv rfl rfl rfl rfl rfl ?_
          refine O.call rfl rfl rfl Try.call44 rfl (SI.turnedA_spec hI (by omega)) ?_
          rintro v9 H9 ⟨h9, hF9⟩
          replace hF := hF.trans hF9
          replace mm := hF9.rd mm (fun _ _ => nw)
          replace mm0 := hF9.keep mm0 nw
          replace mm1 := hF9.keep mm1 nw
          replace hI := h9.inS
          obtain ⟨ta, tc, hte⟩ := hI.len
          subst hte
          refine ⟨trivial, ?_⟩
          refine O.asg rfl rfl rfl rfl rfl ?_
          refine Pl.fin [(1, _), (2, _), (3, _), (6, _), (7, _)] ⟨rfl, rfl, rfl, rfl, rfl, trivial⟩ ?_
          refine Go'.seq ?_
          obtain ⟨IT, hIT⟩ : ∃ IT, IT = L.reverse := ⟨_, rfl⟩
          have hil : IT.length = L.length := by rw [hIT, List.length_reverse]
          rw [← hIT] at hI
          have hruns : Pl.runs Pl.popk L (List.replicate (IT.length + 1) true) = ([], IT.map some ++ [none]) := by rw [hil, hIT]; exact Pl.runs_last _ _ rfl
          rw [← hIT]
          have hI0 := hI
          -- region 8 (trees.go:285)
          refine Go'.region [(0, 0), (1, 0), (2, 0), (3, 2), (4, 0)] rfl ?_
          refine O.mv rfl rfl rfl rfl rfl ?_
          refine O.len rfl rfl rfl rfl Try.underlying25 rfl ?_
          refine O.add (((IT.length + 1 : Nat) : Int)) rfl rfl rfl rfl rfl rfl (by omega) (by omega) ?_
          refine O.mks (j := (IT.length + 1)) (c := (IT.length + 1)) rfl rfl rfl ⟨Try.underlying75, Try.sizeOf4, Try.zeroValue4, ⟨_, Try.typeInfo4, rfl⟩, rfl, by decide, by decide⟩ rfl rfl rfl rfl (by omega) (Nat.le_trans (Nat.mul_le_mul_right _ (Nat.le_of_ble_eq_true (n := _) (m := 4096) rfl)) (by omega)) (by omega) ?_
          intro H10 M10
          have hs10 := M10.size
          have hs00 := hF.size
          have hmlt := cl_lt mm0
          replace hF := hF.trans (M10.fr nowhere)
          replace mm := (M10.fr nowhere).rd mm (fun _ _ => nw)
          replace mm0 := (M10.fr nowhere).keep mm0 nw
          replace mm1 := (M10.fr nowhere).keep mm1 nw
          replace hI := hI.fr (M10.fr nowhere)
          obtain ⟨eb, heb⟩ : ∃ z, z = H9.size := ⟨_, rfl⟩
          have w10 : Wr H10 eb 0 (IT.length + 1) := by rw [heb]; exact M10.wr _ (by rw [zeroRow_size]; omega)
          rw [← heb]
          have hebl : eb < H10.size := by omega
          have hebH : H.size ≤ eb := by omega
          refine ⟨trivial, ?_⟩
          refine O.asg rfl rfl rfl rfl rfl ?_
          refine Pl.fin [(1, _), (2, _), (3, _), (6, _), (7, _), (8, _)] ⟨rfl, rfl, rfl, rfl, rfl, rfl, trivial⟩ ?_
          refine Go'.seq ?_
          refine Go'.seq ?_
          -- region 9 (trees.go:286)
          refine Go'.region [(0, 0), (1, 0), (2, 0)] rfl ?_
          refine O.mv rfl rfl rfl rfl rfl ?_
          refine O.len rfl rfl rfl rfl Try.underlying75 rfl ?_
          refine O.mv rfl rfl rfl rfl rfl ?_
          refine Pl.fin [(1, _), (2, _), (3, _), (6, _), (7, _), (8, _), (37, _), (38, _)] ⟨rfl, rfl, rfl, rfl, rfl, rfl, rfl, rfl, trivial⟩ ?_
          refine Go'.block ?_
          refine Go'.loop ?_
          refine Go'.keep [(1, _), (2, _), (3, _), (6, _), (7, _), (8, _), (37, _), (38, _)] ⟨rfl, rfl, rfl, rfl, rfl, rfl, rfl, rfl, trivial⟩ ?_
          refine Go'.ind (σ := Nat) (fun s => IT.length + 1 - s) (fun s H' => s ≤ IT.length + 1 ∧ Fr (fun b _ => b = eb) H10 H' ∧ ∀ k, k < s → cl H' eb k = some (.bool true))
            (fun s => [(1, .slice a l.length c), (2, .bool true), (3, .pointer (some ⟨H.size, 0, none⟩)), (6, .bool false), (7, .slice ta IT.length tc), (8, .slice (some ⟨eb, 0, none⟩) (IT.length + 1) (IT.length + 1)), (37, .int .i64 ((IT.length + 1 : Nat) : Int)), (38, .int .i64 (s : Int))]) 0 ⟨Nat.zero_le _, Fr.refl _ _, fun k hk => absurd hk (Nat.not_lt_zero _)⟩ rfl ?_
          rintro i H11 ⟨hil2, hf11, hcl⟩ ih
          refine Go'.seq ?_
          by_cases hlt : i < IT.length + 1
          · skip
            -- region 10 (trees.go:286)
            refine Go'.region [(0, 0)] rfl ?_
            refine O.cmp rfl rfl rfl rfl rfl rfl (lssT (by omega)) ?_
            refine Pl.fin [(1, _), (2, _), (3, _), (6, _), (7, _), (8, _), (37, _), (38, _), (39, _)] ⟨rfl, rfl, rfl, rfl, rfl, rfl, rfl, rfl, rfl, trivial⟩ ?_
            refine Go'.seq ?_
            refine Go'.condT rfl ?_
            refine Go'.skip ?_
            refine Go'.seq ?_
            refine Go'.block ?_
            refine Go'.seq ?_
            -- region 11 (trees.go:286)
            refine Go'.region [(0, 0), (1, 0)] rfl ?_
            refine O.mv rfl rfl rfl rfl rfl ?_
            refine O.asg rfl rfl rfl rfl rfl ?_
            refine Pl.fin [(1, _), (2, _), (3, _), (6, _), (7, _), (8, _), (9, _), (37, _), (38, _), (39, _)] ⟨rfl, rfl, rfl, rfl, rfl, rfl, rfl, rfl, rfl, rfl, trivial⟩ ?_
            -- region 12 (trees.go:287)
            refine Go'.region [(0, 0), (1, 0), (2, 0), (3, 0), (4, 2)] rfl ?_
            refine O.mv rfl rfl rfl rfl rfl ?_
            refine O.mv rfl rfl rfl rfl rfl ?_
            refine O.mv rfl rfl rfl rfl rfl ?_
            refine O.ix (j := i) rfl rfl rfl rfl Try.underlying75 Try.sizeOf4 rfl rfl (by omega) hlt ?_
            refine O.st rfl rfl Try.sizeOf4 rfl rfl rfl rfl rfl (by rw [Nat.zero_add, Nat.mul_one]; exact (hf11.wr w10).at0 i 1 (by omega)) ?_
            intro H12 W12
            rw [Nat.zero_add, Nat.mul_one] at W12
            have hf12 := hf11.trans' W12.fr (fun _ _ _ h => h) (fun b o _ h => h.1)
            refine ⟨trivial, ?_⟩
            refine Pl.fin [(1, _), (2, _), (3, _), (6, _), (7, _), (8, _), (9, _), (37, _), (38, _), (39, _)] ⟨rfl, rfl, rfl, rfl, rfl, rfl, rfl, rfl, rfl, rfl, trivial⟩ ?_
            refine Go'.inBlock ?_
            -- region 13 (trees.go:286)
            refine Go'.region [(0, 0), (1, 0)] rfl ?_
            refine O.add (((i + 1 : Nat) : Int)) rfl rfl rfl rfl rfl rfl (by omega) (by omega) ?_
            refine O.mv rfl rfl rfl rfl rfl ?_
            refine Pl.fin [(1, _), (2, _), (3, _), (6, _), (7, _), (8, _), (9, _), (37, _), (38, _), (39, _)] ⟨rfl, rfl, rfl, rfl, rfl, rfl, rfl, rfl, rfl, rfl, trivial⟩ ?_
            refine Go'.keep [(1, _), (2, _), (3, _), (6, _), (7, _), (8, _), (37, _), (38, _)] ⟨rfl, rfl, rfl, rfl, rfl, rfl, rfl, rfl, trivial⟩ ?_
            refine Go'.inLoop ?_
            refine ih (i + 1) H12 ⟨hlt, hf12, fun k hk => ?_⟩ (by omega)
            rcases Nat.lt_or_eq_of_le (Nat.le_of_lt_succ hk) with h | rfl
            · exact W12.keep1 (hcl k h) (by omega)
            · exact W12.at
          · skip
            obtain rfl : i = IT.length + 1 := by omega
            have hev := ins_rep hcl
            have hs11 := hf11.size
            have hfN : Fr nowhere H H11 := hF.trans' hf11 (fun _ _ _ h => h) (fun b o hb h => by have h' : b = eb := h; omega)
            replace hF := hfN
            replace mm := hf11.rd mm (fun _ _ h => by have h' : _ = eb := h; omega)
            replace mm0 := hf11.keep mm0 (fun h => by have h' : _ = eb := h; omega)
            replace mm1 := hf11.keep mm1 (fun h => by have h' : _ = eb := h; omega)
            have hI11 : InS EJ H11 (.slice ta IT.length tc) IT := insK hI0 (by omega) ((M10.fr nowhere).trans' hf11 (fun _ _ _ h => h.elim) (fun _ _ _ h => h))
            -- region 10 (trees.go:286)
            refine Go'.region [(0, 0)] rfl ?_
            refine O.cmp rfl rfl rfl rfl rfl rfl (lssF (by omega)) ?_
            refine Pl.fin [(1, _), (2, _), (3, _), (6, _), (7, _), (8, _), (37, _), (38, _), (39, _)] ⟨rfl, rfl, rfl, rfl, rfl, rfl, rfl, rfl, rfl, trivial⟩ ?_
            refine Go'.seq ?_
            refine Go'.condF rfl ?_
            refine Go'.exit rfl ?_
            refine Go'.seq ?_
            -- region 14 (trees.go:289)
            refine Go'.region [(0, 1), (1, 0), (2, 0), (3, 2), (4, 0), (5, 0), (6, 0), (7, 0), (8, 0)] rfl ?_
            refine O.lds rfl rfl rfl (fun w => ⟨Try.isAgg24 w, Try.sizeOf24 w⟩) rfl rfl mm ?_
            refine O.mv rfl rfl rfl rfl rfl ?_
            refine O.mv rfl rfl rfl rfl rfl ?_
            refine O.call rfl rfl rfl Try.call63 rfl (igpops_spec hd (ho.fr hF) (by omega) (hi.fr hF) (by omega) hev (by rw [List.length_replicate]; omega)) ?_
            rintro _ H13 ⟨v1, v2, rfl, hp, hlf, hF13⟩
            replace hF := hF.trans hF13
            replace mm := hF13.rd mm (fun _ _ => nw)
            replace mm0 := hF13.keep mm0 nw
            replace mm1 := hF13.keep mm1 nw
            rw [hL, hruns] at hp hlf
            replace hp := hp.inS
            replace hlf := hlf.inS
            obtain ⟨pa, pc, hpe⟩ := hp.len
            subst hpe
            obtain ⟨la, lc, hle⟩ := hlf.len
            subst hle
            have hI13 := hI11.fr hF13
            have hpn : (IT.map some ++ [none] : List (Option (Int × Int))).length = IT.length + 1 := by simp
            refine ⟨trivial, ?_⟩
            refine O.mv rfl rfl rfl rfl rfl ?_
            refine O.ext rfl rfl rfl rfl rfl rfl ?_
            refine O.ext rfl rfl rfl rfl rfl rfl ?_
            refine O.asg rfl rfl rfl rfl rfl ?_
            refine O.asg rfl rfl rfl rfl rfl ?_
            refine Pl.fin [(6, _), (7, _), (10, _), (11, _)] ⟨rfl, rfl, rfl, rfl, trivial⟩ ?_
            refine Go'.seq ?_
            refine Go'.seq ?_
            rw [hpn]
            obtain ⟨b, o, c', ee, hrn⟩ := hp.at (i := IT.length) (x := none) (by simp)
            rw [hpn] at ee
            cases ee
            simp only [List.length_nil]
            -- region 15 (trees.go:290)
            refine Go'.region [(0, 0), (1, 0), (2, 0), (3, 0), (4, 0), (5, 0), (6, 0), (7, 0), (8, 0), (9, 0), (10, 0), (11, 0), (12, 0), (13, 0), (14, 0), (15, 0), (16, 1), (17, 0), (18, 0), (19, 0)] rfl ?_
            refine O.mv rfl rfl rfl rfl rfl ?_
            refine O.len rfl rfl rfl rfl Try.underlying64 rfl ?_
            refine O.mv rfl rfl rfl rfl rfl ?_
            refine O.len rfl rfl rfl rfl Try.underlying25 rfl ?_
            refine O.add (((IT.length + 1 : Nat) : Int)) rfl rfl rfl rfl rfl rfl (by omega) (by omega) ?_
            refine O.cmp rfl rfl rfl rfl rfl rfl (neqF (by omega)) ?_
            refine O.mv rfl rfl rfl rfl rfl ?_
            refine O.mv rfl rfl rfl rfl rfl ?_
            refine O.len rfl rfl rfl rfl Try.underlying25 rfl ?_
            refine O.cmp rfl rfl rfl rfl rfl rfl (neqF (by omega)) ?_
            refine O.pick rfl rfl rfl rfl rfl rfl ?_
            refine O.mv rfl rfl rfl rfl rfl ?_
            refine O.mv rfl rfl rfl rfl rfl ?_
            refine O.mv rfl rfl rfl rfl rfl ?_
            refine O.len rfl rfl rfl rfl Try.underlying25 rfl ?_
            refine O.ix (j := IT.length) rfl rfl rfl rfl Try.underlying64 Try.sizeOf68 rfl rfl (by omega) (by omega) ?_
            refine O.lds rfl rfl rfl (fun w => ⟨Try.isAgg68 w, Try.sizeOf68 w⟩) rfl rfl hrn ?_
            refine O.bld (cs := (fvs none)) rfl rfl rfl rfl (st68) rfl (by kernel_rfl) ?_
            refine O.bin rfl rfl rfl rfl rfl rfl (found_neq none _ _) ?_
            refine O.pick rfl rfl rfl rfl rfl rfl ?_
            refine Pl.fin [(6, _), (7, _), (10, _), (72, _)] ⟨rfl, rfl, rfl, rfl, trivial⟩ ?_
            refine Go'.condF rfl ?_
            refine Go'.skip ?_
            refine Go'.seq ?_
            refine Go'.seq ?_
            -- region 17 (trees.go:293)
            refine Go'.region [(0, 0), (1, 0), (2, 0)] rfl ?_
            refine O.mv rfl rfl rfl rfl rfl ?_
            refine O.len rfl rfl rfl rfl Try.underlying25 rfl ?_
            refine O.mv rfl rfl rfl rfl rfl ?_
            refine Pl.fin [(6, _), (10, _), (73, _), (74, _), (75, _)] ⟨rfl, rfl, rfl, rfl, rfl, trivial⟩ ?_
            refine Go'.block ?_
            refine Go'.loop ?_
            refine Go'.keep [(6, _), (10, _), (73, _), (74, _), (75, _)] ⟨rfl, rfl, rfl, rfl, rfl, trivial⟩ ?_
            refine Go'.ind (σ := Nat) (fun s => IT.length - s) (fun s H' => s ≤ IT.length ∧ Fr nowhere H13 H')
              (fun s => [(6, .bool false), (10, .slice (some ⟨b, o, none⟩) (IT.length + 1) pc), (73, .slice ta IT.length tc), (74, .int .i64 (IT.length : Int)), (75, .int .i64 (s : Int))]) 0 ⟨Nat.zero_le _, Fr.refl _ _⟩ rfl ?_
            rintro i H14 ⟨hil3, hf14⟩ ih
            have hs14 := hf14.size
            refine Go'.seq ?_
            by_cases hlt : i < IT.length
            · skip
              obtain ⟨y, hy⟩ : ∃ y, IT[i]? = some y := ⟨IT[i], List.getElem?_eq_getElem hlt⟩
              obtain ⟨b2, o2, c2, ee, hr⟩ := (hI13.fr hf14).at hy
              cases ee
              obtain ⟨b3, o3, c3, ee, hr2⟩ := (hp.fr hf14).at (i := i) (x := some y) (by rw [List.getElem?_append_left (by rw [List.length_map]; exact hlt), List.getElem?_map, hy]; rfl)
              rw [hpn] at ee
              cases ee
              -- region 18 (trees.go:293)
              refine Go'.region [(0, 0)] rfl ?_
              refine O.cmp rfl rfl rfl rfl rfl rfl (lssT (by omega)) ?_
              refine Pl.fin [(6, _), (10, _), (73, _), (74, _), (75, _), (76, _)] ⟨rfl, rfl, rfl, rfl, rfl, rfl, trivial⟩ ?_
              refine Go'.seq ?_
              refine Go'.condT rfl ?_
              refine Go'.skip ?_
              refine Go'.seq ?_
              refine Go'.block ?_
              refine Go'.seq ?_
              -- region 19 (trees.go:293)
              refine Go'.region [(0, 0), (1, 0), (2, 1), (3, 2), (4, 0), (5, 2)] rfl ?_
              refine O.mv rfl rfl rfl rfl rfl ?_
              refine O.ix (j := i) rfl rfl rfl rfl Try.underlying25 Try.sizeOf27 rfl rfl (by omega) hlt ?_
              refine O.lds rfl rfl rfl (fun w => ⟨Try.isAgg27 w, Try.sizeOf27 w⟩) rfl rfl hr ?_
              refine O.alloc rfl rfl rfl Try.zeroValue27 ?_
              intro H15 M15
              refine ⟨trivial, ?_⟩
              have hs15 := M15.size
              have w15 : Wr H15 H14.size 0 2 := M15.wr 2 (by decide)
              replace hr2 := (M15.fr nowhere).rd hr2 (fun _ _ => nw)
              refine O.asg rfl rfl rfl rfl rfl ?_
              refine O.st (vs := (EJ.enc y)) rfl rfl Try.sizeOf27 rfl rfl rfl rfl rfl w15 ?_
              intro H16 W16
              have hf16 : Fr nowhere H13 H16 := (hf14.trans (M15.fr nowhere)).trans' W16.fr (fun _ _ _ h => h) (fun b o hb h => by have h' := h.1; omega)
              have k16 : Rd H16 H14.size 0 (EJ.enc y) := W16.all
              have hr2 := (hp.fr hf16).at (i := i) (x := some y) (by rw [List.getElem?_append_left (by rw [List.length_map]; exact hlt), List.getElem?_map, hy]; rfl)
              obtain ⟨b4, o4, c4, ee, hr2⟩ := hr2
              rw [hpn] at ee
              cases ee
              refine ⟨trivial, ?_⟩
              refine Pl.fin [(6, _), (10, _), (12, _), (13, _), (73, _), (74, _), (75, _), (76, _)] ⟨rfl, rfl, rfl, rfl, rfl, rfl, rfl, rfl, trivial⟩ ?_
              refine Go'.seq ?_
              -- region 20 (trees.go:294)
              refine Go'.draw (fun _ => True) [(0, 0), (1, 0), (2, 0), (3, 1), (4, 1), (5, 0), (6, 0)] (by kernel_rfl) (by kernel_rfl) (trivial) ?_
              refine O.mv rfl rfl rfl rfl rfl ?_
              refine O.mv rfl rfl rfl rfl rfl ?_
              refine O.ix (j := i) rfl rfl rfl rfl Try.underlying64 Try.sizeOf68 rfl rfl (by omega) (by omega) ?_
              refine O.lds rfl rfl rfl (fun w => ⟨Try.isAgg68 w, Try.sizeOf68 w⟩) rfl rfl hr2 ?_
              refine O.lds rfl rfl rfl (fun w => ⟨Try.isAgg27 w, Try.sizeOf27 w⟩) rfl rfl k16 ?_
              refine O.bld (cs := (fvs (some y))) rfl rfl rfl rfl (st68) rfl (by kernel_rfl) ?_
              refine O.bin rfl rfl rfl rfl rfl rfl (found_neq (some y) _ _) ?_
              refine Pl.fin [(6, _), (10, _), (12, _), (13, _), (73, _), (74, _), (75, _), (76, _), (86, _)] ⟨rfl, rfl, rfl, rfl, rfl, rfl, rfl, rfl, rfl, trivial⟩ ?_
              refine Go'.condF rfl ?_
              refine Go'.skip ?_
              refine Go'.inBlock ?_
              -- region 22 (trees.go:293)
              refine Go'.region [(0, 0), (1, 0)] rfl ?_
              refine O.add (((i + 1 : Nat) : Int)) rfl rfl rfl rfl rfl rfl (by omega) (by omega) ?_
              refine O.mv rfl rfl rfl rfl rfl ?_
              refine Pl.fin [(6, _), (10, _), (12, _), (13, _), (73, _), (74, _), (75, _), (76, _), (86, _)] ⟨rfl, rfl, rfl, rfl, rfl, rfl, rfl, rfl, rfl, trivial⟩ ?_
              refine Go'.keep [(6, _), (10, _), (73, _), (74, _), (75, _)] ⟨rfl, rfl, rfl, rfl, rfl, trivial⟩ ?_
              refine Go'.inLoop ?_
              exact ih (i + 1) H16 ⟨hlt, hf16⟩ (by omega)
            · skip
              obtain rfl : i = IT.length := by omega
              replace hF := hF.trans hf14
              -- region 18 (trees.go:293)
              refine Go'.region [(0, 0)] rfl ?_
              refine O.cmp rfl rfl rfl rfl rfl rfl (lssF (by omega)) ?_
              refine Pl.fin [(6, _), (10, _), (73, _), (74, _), (75, _), (76, _)] ⟨rfl, rfl, rfl, rfl, rfl, rfl, trivial⟩ ?_
              refine Go'.seq ?_
              refine Go'.condF rfl ?_
              refine Go'.exit rfl ?_
              refine Go'.seq ?_
              -- region 23 (trees.go:298)
              refine Go'.region [(0, 2), (1, 0)] rfl ?_
              refine O.call rfl rfl rfl Try.call25 rfl alive_spec ?_
              rintro _ Hv ⟨rfl, hFv⟩
              replace hF := hF.trans hFv
              refine ⟨trivial, ?_⟩
              refine O.asg rfl rfl rfl rfl rfl ?_
              refine Pl.fin [(6, _)] ⟨rfl, trivial⟩ ?_
              refine Go'.ret (vs := [_]) Try.func19 Try.results19 ⟨rfl, trivial⟩ ?_
              exact ⟨rfl, hF⟩

end Go.Bt.FG
