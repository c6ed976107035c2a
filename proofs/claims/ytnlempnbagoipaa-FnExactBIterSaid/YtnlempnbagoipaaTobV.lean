/- Contracts of functions of the program, proved by walking through their code. Conditions: those that each theorem names. -/
import Derived.Test.YtnlempnbagoipaaTocA
namespace Go.Bt.FB
open Go Go.Proofs Go.Proofs.Try
set_option maxRecDepth 20000
set_option maxHeartbeats 4000000
set_option linter.unusedVariables false
set_option linter.unusedSectionVars false

theorem App.rp {H H' : Mem} {b o len c m s : Nat} {xs news : List Value} {b' o' c' : Nat} (ha : App H H' b o len c m s xs news b' o' c') : Fr (fun b1 _ => b1 = b) H H' ∧ (b' = b ∨ H.size ≤ b') :=
  ⟨ha.fr.mono fun b1 o1 _ hz => hz.1,by rcases ha.place with ⟨h,_⟩ | ⟨h,_⟩ <;> omega⟩

/-- What the taker keeps: how many at most,and the list so far. -/
structure TkT (b2 b3 D : Nat) (n : Int) (acc : List (Int × Int)) (Z : Nat → Prop) (H : Mem) : Prop where
  c2 : cl H b2 0 = some (ptr D)
  c3 : cl H b3 0 = some (.int .i64 n)
  wr : Wr H D 0 1
  z2 : Z b2
  z3 : Z b3
  zD : Z D
  n2 : b2 ≠ D
  n3 : b3 ≠ D
  lt : ∀ b,Z b → b < H.size
  sl : (acc = [] ∧ cl H D 0 = some (.slice none 0 0)) ∨ ∃ b o c,cl H D 0 = some (.slice (some ⟨b,o,none⟩) acc.length c) ∧ SlE EJ H b o c acc ∧ Z b ∧ b ≠ D ∧ b ≠ b2 ∧ b ≠ b3
theorem TkT.fr {b2 b3 D : Nat} {n : Int} {acc : List (Int × Int)} {Z : Nat → Prop} {H H' : Mem} {Y : Nat → Nat → Prop} (h : TkT b2 b3 D n acc Z H) (hf : Fr Y H H') (hy : ∀ b o,Z b → ¬ Y b o) : TkT b2 b3 D n acc Z H' where
  c2 := hf.keep h.c2 (hy _ _ h.z2)
  c3 := hf.keep h.c3 (hy _ _ h.z3)
  wr := hf.wr h.wr
  z2 := h.z2
  z3 := h.z3
  zD := h.zD
  n2 := h.n2
  n3 := h.n3
  lt := fun b hb => Nat.lt_of_lt_of_le (h.lt b hb) hf.size
  sl := h.sl.elim (fun ⟨e,k⟩ => .inl ⟨e,hf.keep k (hy _ _ h.zD)⟩) fun ⟨b,o,c,k,hs,hz,r⟩ => .inr ⟨b,o,c,hf.keep k (hy _ _ h.zD),hs.fr hf (fun i _ _ => hy _ _ hz),hz,r⟩

theorem taker1_spec {B : World} {H : Mem} {b2 b3 D : Nat} {n : Int} {acc : List (Int × Int)} {Z : Nat → Prop} {x : Int × Int} (hT : TkT b2 b3 D n acc Z H) (hl : acc.length < 4294967296) :
    Fn Try.prog B 104 [.agg (EJ.enc x).toArray,ptr b2,ptr b3] H (fun r H' => r = .bool (goN n (acc ++ [x])) ∧ ∃ Z',TkT b2 b3 D n (acc ++ [x]) Z' H' ∧ Fr (fun b _ => Z b) H H' ∧ ∀ b,Z' b → Z b ∨ H.size ≤ b) := by
  unfold ptr
  refine fn_of func104 rfl ntmps104 ?_
  refine (show Go' _ _ _ _ 23 [(0,_),(1,_),(2,_)] [.code _] _ from ?_)
  refine Go'.seq ?_
  refine Go'.region [(0,2),(1,0)] rfl ?_
  refine O.box rfl rfl rfl rfl ?_
  intro H1 M1
  refine ⟨trivial,?_⟩
  have hs1 := M1.size
  have mi : Rd H1 H.size 0 (EJ.enc x) := M1.rd _ [] (by simp [Value.cells])
  have hlt := hT.lt
  replace hT := hT.fr (M1.fr nowhere) (fun _ _ _ => nw)
  obtain ⟨c2,c3,hw,z2,z3,zD,n2,n3,lt,hsl⟩ := hT
  unfold ptr at c2
  have l2 := hlt _ z2
  have l3 := hlt _ z3
  have lD := hlt _ zD
  refine O.asg rfl rfl rfl rfl rfl ?_
  refine Pl.fin [(1,_),(2,_),(3,_),(4,_)] ⟨rfl,rfl,rfl,rfl,trivial⟩ ?_
  refine Go'.seq ?_
  have hacc1 : (acc ++ [x]).length = acc.length + 1 := by simp
  rcases hsl with ⟨rfl,cD⟩ | ⟨b,o,c,cD,hs,zb,nb,nb2,nb3⟩
  · skip
    refine Go'.draw (fun H' => cl H' b2 0 = some (.pointer (some ⟨D,0,none⟩)) ∧ cl H' D 0 = some (.slice none 0 0) ∧ Rd H' H.size 0 (EJ.enc x)) [(0,0),(1,0),(2,0),(3,0),(4,1),(5,2),(6,2),(7,0),(8,3)] (by kernel_rfl) (by kernel_rfl) (⟨c2,cD,mi⟩) ?_
    refine O.ldC rfl rfl rfl (fun w => ⟨isAgg72 w,sizeOf72 w⟩) rfl (fun _ h => h.1) ?_
    refine O.ldC rfl rfl rfl (fun w => ⟨isAgg72 w,sizeOf72 w⟩) rfl (fun _ h => h.1) ?_
    refine O.nc rfl rfl rfl rfl rfl ?_
    refine O.ldC rfl rfl rfl (fun w => ⟨isAgg25 w,sizeOf25 w⟩) rfl (fun _ h => h.2.1) ?_
    refine O.lds rfl rfl rfl (fun w => ⟨isAgg35 w,sizeOf35 w⟩) rfl rfl mi ?_
    refine O.bsl (cs := (EJ.enc x)) rfl rfl rfl ⟨underlying25,sizeOf35,zeroValue35,⟨_,typeInfo35,rfl⟩,rfl,by decide,by decide⟩ rfl (by decide) (by kernel_rfl) ?_
    intro H2 M2
    have hs2 := M2.size
    replace c2 := M2.keep c2
    replace c3 := M2.keep c3
    replace cD := M2.keep cD
    replace mi := (M2.fr nowhere).rd mi (fun _ _ => nw)
    replace hw := (M2.fr nowhere).wr hw
    have m2 : Rd H2 H1.size 0 (EJ.enc x) := M2.rd _ [] (by simp)
    refine ⟨⟨c2,cD,mi⟩,?_⟩
    refine O.appN (m := 1) (news := (EJ.enc x)) rfl rfl rfl ⟨underlying25,sizeOf35,zeroValue35,⟨_,typeInfo35,rfl⟩,rfl,by decide,by decide⟩ rfl rfl ⟨_,_,_,rfl,m2⟩ rfl (Nat.le_trans (Nat.mul_le_mul_left _ (Nat.le_of_ble_eq_true (n := _) (m := 4096) rfl)) (by omega)) (by omega) (by omega) ?_
    intro cc H3 hsl3 fa hs3
    replace c2 := fa.keep c2 nw
    replace c3 := fa.keep c3 nw
    replace cD := fa.keep cD nw
    replace mi := fa.rd mi (fun _ _ => nw)
    replace hw := fa.wr hw
    refine ⟨⟨c2,cD,mi⟩,?_⟩
    refine O.nc rfl rfl rfl rfl rfl ?_
    refine O.st3 rfl rfl sizeOf25 rfl rfl rfl rfl rfl hw ?_
    intro H4 W4
    have hs4 := W4.size
    replace c2 := W4.fr.keep c2 (nr (.inl n2))
    replace c3 := W4.fr.keep c3 (nr (.inl n3))
    replace hw := W4.fr.wr hw
    clear cD
    have cD := W4.at
    refine Pl.fin [(1,_),(2,_),(4,_)] ⟨rfl,rfl,rfl,trivial⟩ ?_
    refine Go'.seq ?_
    by_cases hn : n < 1
    · skip
      refine Go'.draw (fun _ => True) [(0,1),(1,0),(2,0),(3,1),(4,0),(5,1),(6,0),(7,1),(8,0),(9,0),(10,0)] (by kernel_rfl) (by kernel_rfl) (trivial) ?_
      refine O.ld rfl rfl rfl (fun w => ⟨isAgg3 w,sizeOf3 w⟩) rfl c3 ?_
      refine O.cmp rfl rfl rfl rfl rfl rfl (lssT (by omega)) ?_
      refine O.mv rfl rfl rfl rfl rfl ?_
      refine Pl.pass rfl rfl rfl rfl ?_
      refine Pl.pass rfl rfl rfl rfl ?_
      refine Pl.pass rfl rfl rfl rfl ?_
      refine Pl.pass rfl rfl rfl rfl ?_
      refine Pl.pass rfl rfl rfl rfl ?_
      refine Pl.pass rfl rfl rfl rfl ?_
      refine O.pick rfl rfl rfl rfl rfl rfl ?_
      refine O.asg rfl rfl rfl rfl rfl ?_
      refine Pl.fin [(4,_)] ⟨rfl,trivial⟩ ?_
      refine Go'.ret (vs := [_]) func104 results104 ⟨rfl,trivial⟩ ?_
      exact ⟨by unfold goN; rw [decide_eq_true hn]; rfl,fun b => Z b ∨ (H.size ≤ b ∧ b < H4.size),⟨c2,c3,hw,.inl z2,.inl z3,.inl zD,n2,n3,fun b hb => hb.elim (fun h => by have := hlt b h; omega) (fun h => h.2),.inr ⟨H2.size,0,cc,cD,(SlE.of (l := [x]) hsl3 (by rw [row_one]) rfl).fr W4.fr (fun _ _ _ => nr (.inl (by omega))),.inr (by omega),by omega,by omega,by omega⟩⟩,(((M1.fr nowhere).trans (M2.fr nowhere)).trans fa).trans' W4.fr (fun _ _ _ h => h.elim) (fun b o _ hz => by rw [hz.1]; exact zD),fun b hb => hb.imp id (fun h => h.1)⟩
    · skip
      by_cases hn2 : (1 : Int) < n
      · skip
        refine Go'.draw (fun _ => True) [(0,1),(1,0),(2,0),(3,1),(4,0),(5,1),(6,0),(7,1),(8,0),(9,0),(10,0)] (by kernel_rfl) (by kernel_rfl) (trivial) ?_
        refine O.ld rfl rfl rfl (fun w => ⟨isAgg3 w,sizeOf3 w⟩) rfl c3 ?_
        refine O.cmp rfl rfl rfl rfl rfl rfl (lssF (by omega)) ?_
        refine O.mv rfl rfl rfl rfl rfl ?_
        refine O.ld rfl rfl rfl (fun w => ⟨isAgg72 w,sizeOf72 w⟩) rfl c2 ?_
        refine O.nc rfl rfl rfl rfl rfl ?_
        refine O.ld rfl rfl rfl (fun w => ⟨isAgg25 w,sizeOf25 w⟩) rfl cD ?_
        refine O.len rfl rfl rfl rfl underlying25 rfl ?_
        refine O.ld rfl rfl rfl (fun w => ⟨isAgg3 w,sizeOf3 w⟩) rfl c3 ?_
        refine O.cmp rfl rfl rfl rfl rfl rfl (lssT (by omega)) ?_
        refine O.pick rfl rfl rfl rfl rfl rfl ?_
        refine O.asg rfl rfl rfl rfl rfl ?_
        refine Pl.fin [(4,_)] ⟨rfl,trivial⟩ ?_
        refine Go'.ret (vs := [_]) func104 results104 ⟨rfl,trivial⟩ ?_
        exact ⟨by unfold goN; rw [decide_eq_false hn,hacc1]; rw [decide_eq_true (by simpa using hn2)]; rfl,fun b => Z b ∨ (H.size ≤ b ∧ b < H4.size),⟨c2,c3,hw,.inl z2,.inl z3,.inl zD,n2,n3,fun b hb => hb.elim (fun h => by have := hlt b h; omega) (fun h => h.2),.inr ⟨H2.size,0,cc,cD,(SlE.of (l := [x]) hsl3 (by rw [row_one]) rfl).fr W4.fr (fun _ _ _ => nr (.inl (by omega))),.inr (by omega),by omega,by omega,by omega⟩⟩,(((M1.fr nowhere).trans (M2.fr nowhere)).trans fa).trans' W4.fr (fun _ _ _ h => h.elim) (fun b o _ hz => by rw [hz.1]; exact zD),fun b hb => hb.imp id (fun h => h.1)⟩
      · skip
        refine Go'.draw (fun _ => True) [(0,1),(1,0),(2,0),(3,1),(4,0),(5,1),(6,0),(7,1),(8,0),(9,0),(10,0)] (by kernel_rfl) (by kernel_rfl) (trivial) ?_
        refine O.ld rfl rfl rfl (fun w => ⟨isAgg3 w,sizeOf3 w⟩) rfl c3 ?_
        refine O.cmp rfl rfl rfl rfl rfl rfl (lssF (by omega)) ?_
        refine O.mv rfl rfl rfl rfl rfl ?_
        refine O.ld rfl rfl rfl (fun w => ⟨isAgg72 w,sizeOf72 w⟩) rfl c2 ?_
        refine O.nc rfl rfl rfl rfl rfl ?_
        refine O.ld rfl rfl rfl (fun w => ⟨isAgg25 w,sizeOf25 w⟩) rfl cD ?_
        refine O.len rfl rfl rfl rfl underlying25 rfl ?_
        refine O.ld rfl rfl rfl (fun w => ⟨isAgg3 w,sizeOf3 w⟩) rfl c3 ?_
        refine O.cmp rfl rfl rfl rfl rfl rfl (lssF (by omega)) ?_
        refine O.pick rfl rfl rfl rfl rfl rfl ?_
        refine O.asg rfl rfl rfl rfl rfl ?_
        refine Pl.fin [(4,_)] ⟨rfl,trivial⟩ ?_
        refine Go'.ret (vs := [_]) func104 results104 ⟨rfl,trivial⟩ ?_
        exact ⟨by unfold goN; rw [decide_eq_false hn,hacc1]; rw [decide_eq_false (by simpa using hn2)]; rfl,fun b => Z b ∨ (H.size ≤ b ∧ b < H4.size),⟨c2,c3,hw,.inl z2,.inl z3,.inl zD,n2,n3,fun b hb => hb.elim (fun h => by have := hlt b h; omega) (fun h => h.2),.inr ⟨H2.size,0,cc,cD,(SlE.of (l := [x]) hsl3 (by rw [row_one]) rfl).fr W4.fr (fun _ _ _ => nr (.inl (by omega))),.inr (by omega),by omega,by omega,by omega⟩⟩,(((M1.fr nowhere).trans (M2.fr nowhere)).trans fa).trans' W4.fr (fun _ _ _ h => h.elim) (fun b o _ hz => by rw [hz.1]; exact zD),fun b hb => hb.imp id (fun h => h.1)⟩
  · skip
    have lb := hlt _ zb
    refine Go'.draw (fun H' => cl H' b2 0 = some (.pointer (some ⟨D,0,none⟩)) ∧ cl H' D 0 = some (.slice (some ⟨b,o,none⟩) acc.length c) ∧ Rd H' H.size 0 (EJ.enc x)) [(0,0),(1,0),(2,0),(3,0),(4,1),(5,2),(6,2),(7,0),(8,3)] (by kernel_rfl) (by kernel_rfl) (⟨c2,cD,mi⟩) ?_
    refine O.ldC rfl rfl rfl (fun w => ⟨isAgg72 w,sizeOf72 w⟩) rfl (fun _ h => h.1) ?_
    refine O.ldC rfl rfl rfl (fun w => ⟨isAgg72 w,sizeOf72 w⟩) rfl (fun _ h => h.1) ?_
    refine O.nc rfl rfl rfl rfl rfl ?_
    refine O.ldC rfl rfl rfl (fun w => ⟨isAgg25 w,sizeOf25 w⟩) rfl (fun _ h => h.2.1) ?_
    refine O.lds rfl rfl rfl (fun w => ⟨isAgg35 w,sizeOf35 w⟩) rfl rfl mi ?_
    refine O.bsl (cs := (EJ.enc x)) rfl rfl rfl ⟨underlying25,sizeOf35,zeroValue35,⟨_,typeInfo35,rfl⟩,rfl,by decide,by decide⟩ rfl (by decide) (by kernel_rfl) ?_
    intro H2 M2
    have hs2 := M2.size
    replace c2 := M2.keep c2
    replace c3 := M2.keep c3
    replace cD := M2.keep cD
    replace mi := (M2.fr nowhere).rd mi (fun _ _ => nw)
    replace hw := (M2.fr nowhere).wr hw
    have m2 : Rd H2 H1.size 0 (EJ.enc x) := M2.rd _ [] (by simp)
    replace hs := hs.fr (M2.fr nowhere) (fun _ _ _ => nw)
    refine ⟨⟨c2,cD,mi⟩,?_⟩
    refine O.app (m := 1) (news := (EJ.enc x)) rfl rfl rfl ⟨underlying25,sizeOf35,zeroValue35,⟨_,typeInfo35,rfl⟩,rfl,by decide,by decide⟩ rfl hs rfl (.inl ⟨_,_,_,rfl,m2⟩) rfl rfl (Nat.le_trans (Nat.mul_le_mul_left _ (Nat.le_of_ble_eq_true (n := _) (m := 4096) rfl)) (by omega)) (by omega) ?_
    intro bb oo cc H3 ha
    obtain ⟨fa,pa⟩ := (App.rp ha)
    have hs3 := fa.size
    have hsl3 := SlE.app (E := EJ) ha
    have hbb : bb < H3.size := Sl.lt hsl3 (by have := hsl3.hle; rw [hacc1] at this; exact Nat.mul_pos (by omega) EJ.pos)
    replace c2 := fa.keep c2 (fun e => nb2 e.symm)
    replace c3 := fa.keep c3 (fun e => nb3 e.symm)
    replace cD := fa.keep cD (fun e => nb e.symm)
    replace mi := fa.rd mi (fun _ _ e => by have e' : H.size = b := e; omega)
    replace hw := fa.wr hw
    refine ⟨⟨c2,cD,mi⟩,?_⟩
    refine O.nc rfl rfl rfl rfl rfl ?_
    refine O.st3 rfl rfl sizeOf25 rfl rfl rfl rfl rfl hw ?_
    intro H4 W4
    have hs4 := W4.size
    replace c2 := W4.fr.keep c2 (nr (.inl n2))
    replace c3 := W4.fr.keep c3 (nr (.inl n3))
    replace hw := W4.fr.wr hw
    clear cD
    have cD := W4.at
    refine Pl.fin [(1,_),(2,_),(4,_)] ⟨rfl,rfl,rfl,trivial⟩ ?_
    refine Go'.seq ?_
    by_cases hn : n < 1
    · skip
      refine Go'.draw (fun _ => True) [(0,1),(1,0),(2,0),(3,1),(4,0),(5,1),(6,0),(7,1),(8,0),(9,0),(10,0)] (by kernel_rfl) (by kernel_rfl) (trivial) ?_
      refine O.ld rfl rfl rfl (fun w => ⟨isAgg3 w,sizeOf3 w⟩) rfl c3 ?_
      refine O.cmp rfl rfl rfl rfl rfl rfl (lssT (by omega)) ?_
      refine O.mv rfl rfl rfl rfl rfl ?_
      refine Pl.pass rfl rfl rfl rfl ?_
      refine Pl.pass rfl rfl rfl rfl ?_
      refine Pl.pass rfl rfl rfl rfl ?_
      refine Pl.pass rfl rfl rfl rfl ?_
      refine Pl.pass rfl rfl rfl rfl ?_
      refine Pl.pass rfl rfl rfl rfl ?_
      refine O.pick rfl rfl rfl rfl rfl rfl ?_
      refine O.asg rfl rfl rfl rfl rfl ?_
      refine Pl.fin [(4,_)] ⟨rfl,trivial⟩ ?_
      refine Go'.ret (vs := [_]) func104 results104 ⟨rfl,trivial⟩ ?_
      exact ⟨by unfold goN; rw [decide_eq_true hn]; rfl,fun b => Z b ∨ (H.size ≤ b ∧ b < H4.size),⟨c2,c3,hw,.inl z2,.inl z3,.inl zD,n2,n3,fun b hb => hb.elim (fun h => by have := hlt b h; omega) (fun h => h.2),.inr ⟨bb,oo,cc,by rw [hacc1]; exact cD,hsl3.fr W4.fr (fun _ _ _ => nr (.inl (by omega))),(by rcases pa with h | h; exact .inl (h ▸ zb); exact .inr (by omega)),by omega,by omega,by omega⟩⟩,(((M1.fr nowhere).trans (M2.fr nowhere)).trans' fa (Z := fun b _ => Z b) (fun _ _ _ h => h.elim) (fun y o _ hz => by have hz' : y = b := hz; rw [hz']; exact zb)).trans' W4.fr (fun _ _ _ h => h) (fun b o _ hz => by rw [hz.1]; exact zD),fun b hb => hb.imp id (fun h => h.1)⟩
    · skip
      by_cases hn2 : ((acc.length + 1 : Nat) : Int) < n
      · skip
        refine Go'.draw (fun _ => True) [(0,1),(1,0),(2,0),(3,1),(4,0),(5,1),(6,0),(7,1),(8,0),(9,0),(10,0)] (by kernel_rfl) (by kernel_rfl) (trivial) ?_
        refine O.ld rfl rfl rfl (fun w => ⟨isAgg3 w,sizeOf3 w⟩) rfl c3 ?_
        refine O.cmp rfl rfl rfl rfl rfl rfl (lssF (by omega)) ?_
        refine O.mv rfl rfl rfl rfl rfl ?_
        refine O.ld rfl rfl rfl (fun w => ⟨isAgg72 w,sizeOf72 w⟩) rfl c2 ?_
        refine O.nc rfl rfl rfl rfl rfl ?_
        refine O.ld rfl rfl rfl (fun w => ⟨isAgg25 w,sizeOf25 w⟩) rfl cD ?_
        refine O.len rfl rfl rfl rfl underlying25 rfl ?_
        refine O.ld rfl rfl rfl (fun w => ⟨isAgg3 w,sizeOf3 w⟩) rfl c3 ?_
        refine O.cmp rfl rfl rfl rfl rfl rfl (lssT (by omega)) ?_
        refine O.pick rfl rfl rfl rfl rfl rfl ?_
        refine O.asg rfl rfl rfl rfl rfl ?_
        refine Pl.fin [(4,_)] ⟨rfl,trivial⟩ ?_
        refine Go'.ret (vs := [_]) func104 results104 ⟨rfl,trivial⟩ ?_
        exact ⟨by unfold goN; rw [decide_eq_false hn,hacc1]; rw [decide_eq_true (by simpa using hn2)]; rfl,fun b => Z b ∨ (H.size ≤ b ∧ b < H4.size),⟨c2,c3,hw,.inl z2,.inl z3,.inl zD,n2,n3,fun b hb => hb.elim (fun h => by have := hlt b h; omega) (fun h => h.2),.inr ⟨bb,oo,cc,by rw [hacc1]; exact cD,hsl3.fr W4.fr (fun _ _ _ => nr (.inl (by omega))),(by rcases pa with h | h; exact .inl (h ▸ zb); exact .inr (by omega)),by omega,by omega,by omega⟩⟩,(((M1.fr nowhere).trans (M2.fr nowhere)).trans' fa (Z := fun b _ => Z b) (fun _ _ _ h => h.elim) (fun y o _ hz => by have hz' : y = b := hz; rw [hz']; exact zb)).trans' W4.fr (fun _ _ _ h => h) (fun b o _ hz => by rw [hz.1]; exact zD),fun b hb => hb.imp id (fun h => h.1)⟩
      · skip
        refine Go'.draw (fun _ => True) [(0,1),(1,0),(2,0),(3,1),(4,0),(5,1),(6,0),(7,1),(8,0),(9,0),(10,0)] (by kernel_rfl) (by kernel_rfl) (trivial) ?_
        refine O.ld rfl rfl rfl (fun w => ⟨isAgg3 w,sizeOf3 w⟩) rfl c3 ?_
        refine O.cmp rfl rfl rfl rfl rfl rfl (lssF (by omega)) ?_
        refine O.mv rfl rfl rfl rfl rfl ?_
        refine O.ld rfl rfl rfl (fun w => ⟨isAgg72 w,sizeOf72 w⟩) rfl c2 ?_
        refine O.nc rfl rfl rfl rfl rfl ?_
        refine O.ld rfl rfl rfl (fun w => ⟨isAgg25 w,sizeOf25 w⟩) rfl cD ?_
        refine O.len rfl rfl rfl rfl underlying25 rfl ?_
        refine O.ld rfl rfl rfl (fun w => ⟨isAgg3 w,sizeOf3 w⟩) rfl c3 ?_
        refine O.cmp rfl rfl rfl rfl rfl rfl (lssF (by omega)) ?_
        refine O.pick rfl rfl rfl rfl rfl rfl ?_
        refine O.asg rfl rfl rfl rfl rfl ?_
        refine Pl.fin [(4,_)] ⟨rfl,trivial⟩ ?_
        refine Go'.ret (vs := [_]) func104 results104 ⟨rfl,trivial⟩ ?_
        exact ⟨by unfold goN; rw [decide_eq_false hn,hacc1]; rw [decide_eq_false (by simpa using hn2)]; rfl,fun b => Z b ∨ (H.size ≤ b ∧ b < H4.size),⟨c2,c3,hw,.inl z2,.inl z3,.inl zD,n2,n3,fun b hb => hb.elim (fun h => by have := hlt b h; omega) (fun h => h.2),.inr ⟨bb,oo,cc,by rw [hacc1]; exact cD,hsl3.fr W4.fr (fun _ _ _ => nr (.inl (by omega))),(by rcases pa with h | h; exact .inl (h ▸ zb); exact .inr (by omega)),by omega,by omega,by omega⟩⟩,(((M1.fr nowhere).trans (M2.fr nowhere)).trans' fa (Z := fun b _ => Z b) (fun _ _ _ h => h.elim) (fun y o _ hz => by have hz' : y = b := hz; rw [hz']; exact zb)).trans' W4.fr (fun _ _ _ h => h) (fun b o _ hz => by rw [hz.1]; exact zD),fun b hb => hb.imp id (fun h => h.1)⟩


theorem TkT.out {b2 b3 D : Nat} {n : Int} {acc : List (Int × Int)} {Z : Nat → Prop} {H : Mem} (h : TkT b2 b3 D n acc Z H) : ∃ v,cl H D 0 = some v ∧ OutS EJ H v acc := by
  rcases h.sl with ⟨e,k⟩ | ⟨b,o,c,k,hs,_⟩
  · exact ⟨_,k,.inl ⟨rfl,e⟩⟩
  · exact ⟨_,k,.inr ⟨b,o,c,rfl,hs⟩⟩
theorem taker_spec {B : World} {H : Mem} {D : Nat} {n : Int} (hD : cl H D 0 = some (.slice none 0 0)) (hw : Wr H D 0 1) :
    Fn Try.prog B 79 [ptr D,.int .i64 n] H (fun r H' => ∃ b2 b3,r = .func (.func 104) #[] #[ptr b2,ptr b3] ∧ TkT b2 b3 D n [] (fun b => b = D ∨ (H.size ≤ b ∧ b < H'.size)) H' ∧ Fr nowhere H H') := by
  have hDl := cl_lt hD
  unfold ptr
  refine fn_of func79 rfl ntmps79 ?_
  refine (show Go' _ _ _ _ 6 [(0,_),(1,_)] [.code _] _ from ?_)
  refine Go'.seq ?_
  refine Go'.region [(0,2),(1,2),(2,0)] rfl ?_
  refine O.box rfl rfl rfl rfl ?_
  intro H1 M1
  refine ⟨trivial,?_⟩
  have hs1 := M1.size
  replace hD := M1.keep hD
  replace hw := (M1.fr nowhere).wr hw
  have c2 : cl H1 H.size 0 = some (ptr D) := (M1.cl 0).trans rfl
  refine O.box rfl rfl rfl rfl ?_
  intro H2 M2
  refine ⟨trivial,?_⟩
  have hs2 := M2.size
  replace hD := M2.keep hD
  replace hw := (M2.fr nowhere).wr hw
  replace c2 := M2.keep c2
  have c3 : cl H2 H1.size 0 = some (.int .i64 n) := (M2.cl 0).trans rfl
  refine O.asg rfl rfl rfl rfl rfl ?_
  refine Pl.fin [(2,_),(3,_),(4,_)] ⟨rfl,rfl,rfl,trivial⟩ ?_
  refine Go'.seq ?_
  refine Go'.region [(0,0),(1,0)] rfl ?_
  refine O.mkf rfl rfl rfl rfl rfl rfl ?_
  refine O.asg rfl rfl rfl rfl rfl ?_
  refine Pl.fin [(4,_)] ⟨rfl,trivial⟩ ?_
  refine Go'.ret (vs := [_]) func79 results79 ⟨rfl,trivial⟩ ?_
  exact ⟨H.size,H1.size,rfl,⟨c2,c3,hw,.inr (by omega),.inr (by omega),.inl rfl,by omega,by omega,fun b hb => hb.elim (fun h => by omega) (fun h => h.2),.inl ⟨rfl,hD⟩⟩,(M1.fr nowhere).trans (M2.fr nowhere)⟩

/-- What takerAny's function keeps: the taker,and what that one keeps. -/
def PrT (pb b2 b3 D : Nat) (n : Int) (acc : List (Int × Int)) (Z : Nat → Prop) (H : Mem) : Prop :=
  ∃ Z0,TkT b2 b3 D n acc Z0 H ∧ cl H pb 0 = some (.func (.func 104) #[] #[ptr b2,ptr b3]) ∧ ¬ Z0 pb ∧ (∀ b,Z0 b → Z b) ∧ Z pb ∧ ∀ b,Z b → b < H.size
theorem any1_spec {B : World} {H : Mem} {pb b2 b3 D : Nat} {n : Int} {acc : List (Int × Int)} {Z : Nat → Prop} (x : Int × Int) (hT : PrT pb b2 b3 D n acc Z H) (hl : acc.length < 4294967296) :
    Fn Try.prog B 80 [iv x,ptr pb] H (fun r H' => r = .bool (goN n (acc ++ [x])) ∧ ∃ Z',PrT pb b2 b3 D n (acc ++ [x]) Z' H' ∧ Fr (fun b _ => Z b) H H' ∧ ∀ b,Z' b → Z b ∨ H.size ≤ b) := by
  obtain ⟨Z0,hT,cp,n0,h0,zp,lt⟩ := hT
  unfold ptr
  refine fn_of func80 rfl ntmps80 ?_
  refine (show Go' _ _ _ _ 8 [(0,_),(1,_)] [.code _] _ from ?_)
  refine Go'.seq ?_
  refine Go'.region [(0,0)] rfl ?_
  refine O.asg rfl rfl rfl rfl rfl ?_
  refine Pl.fin [(0,_),(1,_),(3,_)] ⟨rfl,rfl,rfl,trivial⟩ ?_
  refine Go'.seq ?_
  refine Go'.draw (fun _ => True) [(0,1),(1,0),(2,0),(3,2),(4,0)] (by kernel_rfl) (by kernel_rfl) (trivial) ?_
  refine O.ld rfl rfl rfl (fun w => ⟨isAgg117 w,sizeOf117 w⟩) rfl cp ?_
  refine O.mv rfl rfl rfl rfl rfl ?_
  refine O.tya rfl rfl rfl rfl rfl (run_assert_is underlying35 rfl) ?_
  refine O.callC (us := []) (caps := [ptr b2,ptr b3]) rfl rfl rfl rfl call104 rfl (taker1_spec hT hl) ?_
  rintro _ H2 ⟨rfl,Z2,hT2,hF2,hZ2⟩
  refine ⟨trivial,?_⟩
  refine O.asg rfl rfl rfl rfl rfl ?_
  refine Pl.fin [(3,_)] ⟨rfl,trivial⟩ ?_
  refine Go'.ret (vs := [_]) func80 results80 ⟨rfl,trivial⟩ ?_
  have hsz := hF2.size
  have hpb := lt pb zp
  exact ⟨rfl,fun b => Z b ∨ (H.size ≤ b ∧ b < H2.size),⟨Z2,hT2,hF2.keep cp n0,fun hz => (hZ2 _ hz).elim n0 (fun h => by omega),fun b hb => (hZ2 b hb).imp (h0 b) (fun h => ⟨h,hT2.lt b hb⟩),.inl zp,fun b hb => hb.elim (fun h => by have := lt b h; omega) (fun h => h.2)⟩,
    hF2.mono (fun b o _ h => h0 b h),fun b hb => hb.imp id (fun h => h.1)⟩

/-- takerAny's function,as a reader takes it. -/
def cbAny (B : World) (pb b2 b3 D : Nat) (n : Int) : Cb Try.prog B encIt 80 [] [ptr pb] (goN n) 4294967296 where
  T := PrT pb b2 b3 D n
  fr := fun ⟨Z0,hT,cp,n0,h0,zp,lt⟩ hf hy => ⟨Z0,hT.fr hf (fun b o hb => hy b o (h0 b hb)),hf.keep cp (hy _ _ zp),n0,h0,zp,fun b hb => Nat.lt_of_lt_of_le (lt b hb) hf.size⟩
  lt := fun ⟨_,_,_,_,_,_,lt⟩ hb => lt _ hb
  call := fun x hT hl => any1_spec x hT hl
theorem PrT.out {pb b2 b3 D : Nat} {n : Int} {acc : List (Int × Int)} {Z : Nat → Prop} {H : Mem} (h : PrT pb b2 b3 D n acc Z H) : ∃ v,cl H D 0 = some v ∧ OutS EJ H v acc := have ⟨_,h,_⟩ := h; h.out

theorem takerAny_spec {B : World} {H : Mem} {D : Nat} {n : Int} (hD : cl H D 0 = some (.slice none 0 0)) (hw : Wr H D 0 1) :
    Fn Try.prog B 54 [ptr D,.int .i64 n] H (fun r H' => ∃ pb b2 b3,r = .func (.func 80) #[] #[ptr pb] ∧ PrT pb b2 b3 D n [] (fun b => b = D ∨ (H.size ≤ b ∧ b < H'.size)) H' ∧ Fr nowhere H H') := by
  have hDl := cl_lt hD
  refine fn_of func54 rfl ntmps54 ?_
  refine (show Go' _ _ _ _ 10 [(0,_),(1,_)] [.code _] _ from ?_)
  refine Go'.seq ?_
  refine Go'.region [(0,0)] rfl ?_
  refine O.asg rfl rfl rfl rfl rfl ?_
  refine Pl.fin [(0,_),(1,_),(4,_)] ⟨rfl,rfl,rfl,trivial⟩ ?_
  refine Go'.seq ?_
  refine Go'.region [(0,0),(1,0),(2,2),(3,2),(4,2)] rfl ?_
  refine O.mv rfl rfl rfl rfl rfl ?_
  refine O.mv rfl rfl rfl rfl rfl ?_
  refine O.call rfl rfl rfl call79 rfl (taker_spec hD hw) ?_
  rintro _ H1 ⟨b2,b3,rfl,hT,hF⟩
  have hs1 := hF.size
  refine ⟨trivial,?_⟩
  refine O.alloc rfl rfl rfl zeroValue117 ?_
  intro H2 M2
  refine ⟨trivial,?_⟩
  have hs2 := M2.size
  have lt0 := hT.lt
  replace hT := hT.fr (M2.fr nowhere) (fun _ _ _ => nw)
  have m5 : Wr H2 H1.size 0 1 := M2.wr 1 (by decide)
  refine O.st rfl rfl sizeOf117 rfl rfl rfl rfl rfl m5 ?_
  intro H3 W3
  have hs3 := W3.size
  replace hT := hT.fr W3.fr (fun b o hb hz => by have := lt0 b hb; have h1 := hz.1; omega)
  have cp := W3.at
  refine ⟨trivial,?_⟩
  refine Pl.fin [(4,_),(5,_)] ⟨rfl,rfl,trivial⟩ ?_
  refine Go'.seq ?_
  refine Go'.region [(0,0),(1,0)] rfl ?_
  refine O.mkf rfl rfl rfl rfl rfl rfl ?_
  refine O.asg rfl rfl rfl rfl rfl ?_
  refine Pl.fin [(4,_)] ⟨rfl,trivial⟩ ?_
  refine Go'.ret (vs := [_]) func54 results54 ⟨rfl,trivial⟩ ?_
  exact ⟨H1.size,b2,b3,rfl,⟨_,hT,cp,fun hz => by have := lt0 _ hz; omega,fun b hb => hb.imp id (fun h => ⟨h.1,by omega⟩),.inr ⟨by omega,by omega⟩,fun b hb => hb.elim (fun h => by omega) (fun h => h.2)⟩,(hF.trans (M2.fr nowhere)).trans' W3.fr (fun _ _ _ h => h) (fun b o hb hz => by have h1 := hz.1; omega)⟩

section
variable [Inhabited Cx]
theorem scan_spec {B : World} {g : FuncId} {us cs : List Value} {go : List (Int × Int) → Bool} {M : Nat} (cb : Cb Try.prog B encIt g us cs go M) (hcall : ∀ (args : Array Value) (w : World),(callFunc g args).run Try.prog w = .ok (.enter g args) w) {tr : Nat} {P : Ps} (hP : PsOk P) (mt : Bool) {H : Mem} {S : Nat → Prop} {l : List (Int × Int)} {Z : Nat → Prop} (hM : MapM H tr P S l) (hT : cb.T [] Z H) (hd : ∀ b,S b → ¬ Z b) (hnb : ∀ b,Z b → ¬ (b < cx.base ∧ cx.own b)) (hl : l.length ≤ M) :
    Fn Try.prog B 102 [.pointer (some ⟨tr,0,none⟩),.func (.func g) us.toArray cs.toArray,.bool mt] H (fun _ H' => CbPost cb [] Z H l H') := by
  obtain ⟨tc,srt,cnt,own,lt,bs,hr⟩ := hM
  refine fn_of func102 rfl ntmps102 ?_
  refine (show Go' _ _ _ _ 23 [(0,_),(1,_),(2,_)] [.code _] _ from ?_)
  refine Go'.seq ?_
  refine Go'.seq ?_
  refine Go'.region [(0,0),(1,0),(2,2)] rfl ?_
  refine O.mv rfl rfl rfl rfl rfl ?_
  refine O.mv rfl rfl rfl rfl rfl ?_
  refine O.callQ rfl rfl rfl call111 rfl lock_spec trivial ?_
  refine Pl.fin [(0,_),(1,_),(2,_),(8,_)] ⟨rfl,rfl,rfl,rfl,trivial⟩ ?_
  refine Go'.condF rfl ?_
  refine Go'.skip ?_
  refine Go'.seq ?_
  refine Go'.seq ?_
  rcases hr with ⟨rfl,hptr⟩ | ⟨h,t,hg,hx1,e,hc,hnt,hown⟩
  · skip
    refine Go'.region [(0,0),(1,0),(2,0),(3,1),(4,0)] rfl ?_
    refine O.mv rfl rfl rfl rfl rfl ?_
    refine O.nc rfl rfl rfl rfl rfl ?_
    refine O.fa0 (off := 2) rfl rfl rfl rfl ⟨_,_,_,underlying138,rfl,rfl,sizeOf96⟩ rfl ?_
    refine O.ld rfl rfl rfl (fun w => ⟨isAgg96 w,sizeOf96 w⟩) rfl hptr ?_
    refine O.isNil rfl rfl rfl rfl underlying96 rfl rfl ?_
    refine Pl.fin [(0,_),(1,_),(2,_),(15,_)] ⟨rfl,rfl,rfl,rfl,trivial⟩ ?_
    refine Go'.condT rfl ?_
    refine Go'.ret func102 results102 (vs := []) trivial ?_
    exact ⟨Z,hT,Fr.refl _ _,fun b hb => .inl hb⟩
  · skip
    have hptr : cl H tr 2 = some (.pointer (some ⟨Gt.p h t,0,none⟩)) := hc
    refine Go'.region [(0,0),(1,0),(2,0),(3,1),(4,0)] rfl ?_
    refine O.mv rfl rfl rfl rfl rfl ?_
    refine O.nc rfl rfl rfl rfl rfl ?_
    refine O.fa0 (off := 2) rfl rfl rfl rfl ⟨_,_,_,underlying138,rfl,rfl,sizeOf96⟩ rfl ?_
    refine O.ld rfl rfl rfl (fun w => ⟨isAgg96 w,sizeOf96 w⟩) rfl hptr ?_
    refine O.isNil rfl rfl rfl rfl underlying96 rfl rfl ?_
    refine Pl.fin [(0,_),(1,_),(2,_),(15,_)] ⟨rfl,rfl,rfl,rfl,trivial⟩ ?_
    refine Go'.condF rfl ?_
    refine Go'.skip ?_
    refine Go'.region [(0,0),(1,0),(2,0),(3,0),(4,0),(5,0),(6,2)] rfl ?_
    refine O.mv rfl rfl rfl rfl rfl ?_
    refine O.mv rfl rfl rfl rfl rfl ?_
    refine O.nc rfl rfl rfl rfl rfl ?_
    refine O.fa0 (off := 2) rfl rfl rfl rfl ⟨_,_,_,underlying138,rfl,rfl,sizeOf96⟩ rfl ?_
    refine O.mv rfl rfl rfl rfl rfl ?_
    refine O.mv rfl rfl rfl rfl rfl ?_
    refine O.call rfl rfl rfl call129 rfl (nscan cb hcall hP mt h ⟨tc,hg,hc,fun b o hb => hd b (hown b o hb),hnb,hT,by rw [e]; simpa using hl⟩) ?_
    rintro _ H2 ⟨rfl,hpost⟩
    refine ⟨trivial,?_⟩
    refine Pl.fin [] trivial ?_
    refine Go'.fall func102 results102 (vs := []) trivial ?_
    rw [e] at hpost
    exact hpost

theorem Scan_spec {B : World} {g : FuncId} {us cs : List Value} {go : List (Int × Int) → Bool} {M : Nat} (cb : Cb Try.prog B encIt g us cs go M) (hcall : ∀ (args : Array Value) (w : World),(callFunc g args).run Try.prog w = .ok (.enter g args) w) {tr : Nat} {P : Ps} (hP : PsOk P) {H : Mem} {S : Nat → Prop} {l : List (Int × Int)} {Z : Nat → Prop} (hM : MapM H tr P S l) (hT : cb.T [] Z H) (hd : ∀ b,S b → ¬ Z b) (hnb : ∀ b,Z b → ¬ (b < cx.base ∧ cx.own b)) (hl : l.length ≤ M) :
    Fn Try.prog B 77 [.pointer (some ⟨tr,0,none⟩),.func (.func g) us.toArray cs.toArray] H (fun _ H' => CbPost cb [] Z H l H') := by
  refine fn_of func77 rfl ntmps77 ?_
  refine (show Go' _ _ _ _ 7 [(0,_),(1,_)] [.code _] _ from ?_)
  refine Go'.region [(0,0),(1,0),(2,2)] rfl ?_
  refine O.mv rfl rfl rfl rfl rfl ?_
  refine O.mv rfl rfl rfl rfl rfl ?_
  refine O.call rfl rfl rfl call102 rfl (scan_spec cb hcall hP false hM hT hd hnb hl) ?_
  rintro _ H2 hpost
  refine ⟨trivial,?_⟩
  refine Pl.fin [] trivial ?_
  refine Go'.fall func77 results77 (vs := []) trivial ?_
  exact hpost
end
end Go.Bt.FB
namespace Go.Bt.FB
open Go Go.Proofs Go.Proofs.Try
set_option maxRecDepth 20000
set_option maxHeartbeats 4000000
set_option linter.unusedVariables false
set_option linter.unusedSectionVars false

section
variable [Inhabited Cx]
theorem HintM.new {H H' : Mem} {c : Array Value} {e : TypeId} (M : Made H H' c e) (hu : ∀ i,i < 8 → c[i]? = some (.bool false)) (hp : ∀ i,i < 8 → c[8 + i]? = some (.int .u8 0)) (hs : 16 ≤ c.size) (he : e < 1000 := by decide) : HintM H' H.size :=
  ⟨fun i hi => ⟨false,(M.cl i).trans (hu i hi)⟩,fun i hi => ⟨0,by decide,(M.cl (8 + i)).trans (hp i hi)⟩,M.wr 16 hs he⟩
end
end Go.Bt.FB
