/- Contracts of functions of the program, proved by walking through their code. Conditions: those that each theorem names. -/
import Derived.Test.YtnlempnbagoipaaTocA
import Derived.Test.YtnlempnbagoipaaTobV
import Derived.Test.YtnlempnbagoipaaToCc
import Derived.Test.YtnlempnbagoipaaToRb
namespace Go.Bt.FB
open Go Go.Proofs Go.Proofs.Try
set_option maxRecDepth 20000
set_option maxHeartbeats 4000000
set_option linter.unusedVariables false
set_option linter.unusedSectionVars false

theorem App.rp {H H' : Mem} {b o len c m s : Nat} {xs news : List Value} {b' o' c' : Nat} (ha : App H H' b o len c m s xs news b' o' c') : Fr (fun b1 _ => b1 = b) H H' ∧ (b' = b ∨ H.size ≤ b') :=
  ⟨ha.fr.mono fun b1 o1 _ hz => hz.1,by rcases ha.place with ⟨h,_⟩ | ⟨h,_⟩ <;> omega⟩

/-- What the taker keeps: how many at most,and the list so far. -/
structure TkT (b2 b3 D : Nat) (n : Int) (acc : List (Int × Int)) (Z : Nat → Prop) (H : Mem) : Prop where
  c2 : cl H b2 0 = some (ptr D)
  c3 : cl H b3 0 = some (.int .i64 n)
  wr : Wr H D 0 1
  z2 : Z b2
  z3 : Z b3
  zD : Z D
  n2 : b2 ≠ D
  n3 : b3 ≠ D
  lt : ∀ b,Z b → b < H.size
  sl : (acc = [] ∧ cl H D 0 = some (.slice none 0 0)) ∨ ∃ b o c,cl H D 0 = some (.slice (some ⟨b,o,none⟩) acc.length c) ∧ SlE EJ H b o c acc ∧ Z b ∧ b ≠ D ∧ b ≠ b2 ∧ b ≠ b3
theorem TkT.fr {b2 b3 D : Nat} {n : Int} {acc : List (Int × Int)} {Z : Nat → Prop} {H H' : Mem} {Y : Nat → Nat → Prop} (h : TkT b2 b3 D n acc Z H) (hf : Fr Y H H') (hy : ∀ b o,Z b → ¬ Y b o) : TkT b2 b3 D n acc Z H' where
  c2 := hf.keep h.c2 (hy _ _ h.z2)
  c3 := hf.keep h.c3 (hy _ _ h.z3)
  wr := hf.wr h.wr
  z2 := h.z2
  z3 := h.z3
  zD := h.zD
  n2 := h.n2
  n3 := h.n3
  lt := fun b hb => Nat.lt_of_lt_of_le (h.lt b hb) hf.size
  sl := h.sl.elim (fun ⟨e,k⟩ => .inl ⟨e,hf.keep k (hy _ _ h.zD)⟩) fun ⟨b,o,c,k,hs,hz,r⟩ => .inr ⟨b,o,c,hf.keep k (hy _ _ h.zD),hs.fr hf (fun i _ _ => hy _ _ hz),hz,r⟩

theorem taker1_spec {B : World} {H : Mem} {b2 b3 D : Nat} {n : Int} {acc : List (Int × Int)} {Z : Nat → Prop} {x : Int × Int} (hT : TkT b2 b3 D n acc Z H) (hl : acc.length < 4294967296) :
    Fn Try.prog B 104 [.agg (EJ.enc x).toArray,ptr b2,ptr b3] H (fun r H' => r = .bool (goN n (acc ++ [x])) ∧ ∃ Z',TkT b2 b3 D n (acc ++ [x]) Z' H' ∧ Fr (fun b _ => Z b) H H' ∧ ∀ b,Z' b → Z b ∨ H.size ≤ b) := by
  unfold ptr
  refine fn_of func104 rfl ntmps104 ?_
  refine (show Go' _ _ _ _ 23 [(0,_),(1,_),(2,_)] [.code _] _ from ?_)
  refine Go'.seq ?_
  refine Go'.region [(0,2),(1,0)] rfl ?_
  refine O.box rfl rfl rfl rfl ?_
  intro H1 M1
  refine ⟨trivial,?_⟩
  have hs1 := M1.size
  have mi : Rd H1 H.size 0 (EJ.enc x) := M1.rd _ [] (by simp [Value.cells])
  have hlt := hT.lt
  replace hT := hT.fr (M1.fr nowhere) (fun _ _ _ => nw)
  obtain ⟨c2,c3,hw,z2,z3,zD,n2,n3,lt,hsl⟩ := hT
  unfold ptr at c2
  have l2 := hlt _ z2
  have l3 := hlt _ z3
  have lD := hlt _ zD
  refine O.asg rfl rfl rfl rfl rfl ?_
  refine Pl.fin [(1,_),(2,_),(3,_),(4,_)] ⟨rfl,rfl,rfl,rfl,trivial⟩ ?_
  refine Go'.seq ?_
  have hacc1 : (acc ++ [x]).length = acc.length + 1 := by simp
  rcases hsl with ⟨rfl,cD⟩ | ⟨b,o,c,cD,hs,zb,nb,nb2,nb3⟩
  · skip
    refine Go'.draw (fun H' => cl H' b2 0 = some (.pointer (some ⟨D,0,none⟩)) ∧ cl H' D 0 = some (.slice none 0 0) ∧ Rd H' H.size 0 (EJ.enc x)) [(0,0),(1,0),(2,0),(3,0),(4,1),(5,2),(6,2),(7,0),(8,3)] (by kernel_rfl) (by kernel_rfl) (⟨c2,cD,mi⟩) ?_
    refine O.ldC rfl rfl rfl (fun w => ⟨isAgg72 w,sizeOf72 w⟩) rfl (fun _ h => h.1) ?_
    refine O.ldC rfl rfl rfl (fun w => ⟨isAgg72 w,sizeOf72 w⟩) rfl (fun _ h => h.1) ?_
    refine O.nc rfl rfl rfl rfl rfl ?_
    refine O.ldC rfl rfl rfl (fun w => ⟨isAgg25 w,sizeOf25 w⟩) rfl (fun _ h => h.2.1) ?_
    refine O.lds rfl rfl rfl (fun w => ⟨isAgg35 w,sizeOf35 w⟩) rfl rfl mi ?_
    refine O.bsl (cs := (EJ.enc x)) rfl rfl rfl ⟨underlying25,sizeOf35,zeroValue35,⟨_,typeInfo35,rfl⟩,rfl,by decide,by decide⟩ rfl (by decide) (by kernel_rfl) ?_
    intro H2 M2
    have hs2 := M2.size
    replace c2 := M2.keep c2
    replace c3 := M2.keep c3
    replace cD := M2.keep cD
    replace mi := (M2.fr nowhere).rd mi (fun _ _ => nw)
    replace hw := (M2.fr nowhere).wr hw
    have m2 : Rd H2 H1.size 0 (EJ.enc x) := M2.rd _ [] (by simp)
    refine ⟨⟨c2,cD,mi⟩,?_⟩
    refine O.appN (m := 1) (news := (EJ.enc x)) rfl rfl rfl ⟨underlying25,sizeOf35,zeroValue35,⟨_,typeInfo35,rfl⟩,rfl,by decide,by decide⟩ rfl rfl ⟨_,_,_,rfl,m2⟩ rfl (Nat.le_trans (Nat.mul_le_mul_left _ (Nat.le_of_ble_eq_true (n := _) (m := 4096) rfl)) (by omega)) (by omega) (by omega) ?_
    intro cc H3 hsl3 fa hs3
    replace c2 := fa.keep c2 nw
    replace c3 := fa.keep c3 nw
    replace cD := fa.keep cD nw
    replace mi := fa.rd mi (fun _ _ => nw)
    replace hw := fa.wr hw
    refine ⟨⟨c2,cD,mi⟩,?_⟩
    refine O.nc rfl rfl rfl rfl rfl ?_
    refine O.st3 rfl rfl sizeOf25 rfl rfl rfl rfl rfl hw ?_
    intro H4 W4
    have hs4 := W4.size
    replace c2 := W4.fr.keep c2 (nr (.inl n2))
    replace c3 := W4.fr.keep c3 (nr (.inl n3))
    replace hw := W4.fr.wr hw
    clear cD
    have cD := W4.at
    refine Pl.fin [(1,_),(2,_),(4,_)] ⟨rfl,rfl,rfl,trivial⟩ ?_
    refine Go'.seq ?_
    by_cases hn : n < 1
    · skip
      refine Go'.draw (fun _ => True) [(0,1),(1,0),(2,0),(3,1),(4,0),(5,1),(6,0),(7,1),(8,0),(9,0),(10,0)] (by kernel_rfl) (by kernel_rfl) (trivial) ?_
      refine O.ld rfl rfl rfl (fun w => ⟨isAgg3 w,sizeOf3 w⟩) rfl c3 ?_
      refine O.cmp rfl rfl rfl rfl rfl rfl (lssT (by omega)) ?_
      refine O.mv rfl rfl rfl rfl rfl ?_
      refine Pl.pass rfl rfl rfl rfl ?_
      refine Pl.pass rfl rfl rfl rfl ?_
      refine Pl.pass rfl rfl rfl rfl ?_
      refine Pl.pass rfl rfl rfl rfl ?_
      refine Pl.pass rfl rfl rfl rfl ?_
      refine Pl.pass rfl rfl rfl rfl ?_
      refine O.pick rfl rfl rfl rfl rfl rfl ?_
      refine O.asg rfl rfl rfl rfl rfl ?_
      refine Pl.fin [(4,_)] ⟨rfl,trivial⟩ ?_
      refine Go'.ret (vs := [_]) func104 results104 ⟨rfl,trivial⟩ ?_
      exact ⟨by unfold goN; rw [decide_eq_true hn]; rfl,fun b => Z b ∨ (H.size ≤ b ∧ b < H4.size),⟨c2,c3,hw,.inl z2,.inl z3,.inl zD,n2,n3,fun b hb => hb.elim (fun h => by have := hlt b h; omega) (fun h => h.2),.inr ⟨H2.size,0,cc,cD,(SlE.of (l := [x]) hsl3 (by rw [row_one]) rfl).fr W4.fr (fun _ _ _ => nr (.inl (by omega))),.inr (by omega),by omega,by omega,by omega⟩⟩,(((M1.fr nowhere).trans (M2.fr nowhere)).trans fa).trans' W4.fr (fun _ _ _ h => h.elim) (fun b o _ hz => by rw [hz.1]; exact zD),fun b hb => hb.imp id (fun h => h.1)⟩
    · skip
      by_cases hn2 : (1 : Int) < n
      · skip
        refine Go'.draw (fun _ => True) [(0,1),(1,0),(2,0),(3,1),(4,0),(5,1),(6,0),(7,1),(8,0),(9,0),(10,0)] (by kernel_rfl) (by kernel_rfl) (trivial) ?_
        refine O.ld rfl rfl rfl (fun w => ⟨isAgg3 w,sizeOf3 w⟩) rfl c3 ?_
        refine O.cmp rfl rfl rfl rfl rfl rfl (lssF (by omega)) ?_
        refine O.mv rfl rfl rfl rfl rfl ?_
        refine O.ld rfl rfl rfl (fun w => ⟨isAgg72 w,sizeOf72 w⟩) rfl c2 ?_
        refine O.nc rfl rfl rfl rfl rfl ?_
        refine O.ld rfl rfl rfl (fun w => ⟨isAgg25 w,sizeOf25 w⟩) rfl cD ?_
        refine O.len rfl rfl rfl rfl underlying25 rfl ?_
        refine O.ld rfl rfl rfl (fun w => ⟨isAgg3 w,sizeOf3 w⟩) rfl c3 ?_
        refine O.cmp rfl rfl rfl rfl rfl rfl (lssT (by omega)) ?_
        refine O.pick rfl rfl rfl rfl rfl rfl ?_
        refine O.asg rfl rfl rfl rfl rfl ?_
        refine Pl.fin [(4,_)] ⟨rfl,trivial⟩ ?_
        refine Go'.ret (vs := [_]) func104 results104 ⟨rfl,trivial⟩ ?_
        exact ⟨by unfold goN; rw [decide_eq_false hn,hacc1]; rw [decide_eq_true (by simpa using hn2)]; rfl,fun b => Z b ∨ (H.size ≤ b ∧ b < H4.size),⟨c2,c3,hw,.inl z2,.inl z3,.inl zD,n2,n3,fun b hb => hb.elim (fun h => by have := hlt b h; omega) (fun h => h.2),.inr ⟨H2.size,0,cc,cD,(SlE.of (l := [x]) hsl3 (by rw [row_one]) rfl).fr W4.fr (fun _ _ _ => nr (.inl (by omega))),.inr (by omega),by omega,by omega,by omega⟩⟩,(((M1.fr nowhere).trans (M2.fr nowhere)).trans fa).trans' W4.fr (fun _ _ _ h => h.elim) (fun b o _ hz => by rw [hz.1]; exact zD),fun b hb => hb.imp id (fun h => h.1)⟩
      · skip
        refine Go'.draw (fun _ => True) [(0,1),(1,0),(2,0),(3,1),(4,0),(5,1),(6,0),(7,1),(8,0),(9,0),(10,0)] (by kernel_rfl) (by kernel_rfl) (trivial) ?_
        refine O.ld rfl rfl rfl (fun w => ⟨isAgg3 w,sizeOf3 w⟩) rfl c3 ?_
        refine O.cmp rfl rfl rfl rfl rfl rfl (lssF (by omega)) ?_
        refine O.mv rfl rfl rfl rfl rfl ?_
        refine O.ld rfl rfl rfl (fun w => ⟨isAgg72 w,sizeOf72 w⟩) rfl c2 ?_
        refine O.nc rfl rfl rfl rfl rfl ?_
        refine O.ld rfl rfl rfl (fun w => ⟨isAgg25 w,sizeOf25 w⟩) rfl cD ?_
        refine O.len rfl rfl rfl rfl underlying25 rfl ?_
        refine O.ld rfl rfl rfl (fun w => ⟨isAgg3 w,sizeOf3 w⟩) rfl c3 ?_
        refine O.cmp rfl rfl rfl rfl rfl rfl (lssF (by omega)) ?_
        refine O.pick rfl rfl rfl rfl rfl rfl ?_
        refine O.asg rfl rfl rfl rfl rfl ?_
        refine Pl.fin [(4,_)] ⟨rfl,trivial⟩ ?_
        refine Go'.ret (vs := [_]) func104 results104 ⟨rfl,trivial⟩ ?_
        exact ⟨by unfold goN; rw [decide_eq_false hn,hacc1]; rw [decide_eq_false (by simpa using hn2)]; rfl,fun b => Z b ∨ (H.size ≤ b ∧ b < H4.size),⟨c2,c3,hw,.inl z2,.inl z3,.inl zD,n2,n3,fun b hb => hb.elim (fun h => by have := hlt b h; omega) (fun h => h.2),.inr ⟨H2.size,0,cc,cD,(SlE.of (l := [x]) hsl3 (by rw [row_one]) rfl).fr W4.fr (fun _ _ _ => nr (.inl (by omega))),.inr (by omega),by omega,by omega,by omega⟩⟩,(((M1.fr nowhere).trans (M2.fr nowhere)).trans fa).trans' W4.fr (fun _ _ _ h => h.elim) (fun b o _ hz => by rw [hz.1]; exact zD),fun b hb => hb.imp id (fun h => h.1)⟩
  · skip
    have lb := hlt _ zb
    refine Go'.draw (fun H' => cl H' b2 0 = some (.pointer (some ⟨D,0,none⟩)) ∧ cl H' D 0 = some (.slice (some ⟨b,o,none⟩) acc.length c) ∧ Rd H' H.size 0 (EJ.enc x)) [(0,0),(1,0),(2,0),(3,0),(4,1),(5,2),(6,2),(7,0),(8,3)] (by kernel_rfl) (by kernel_rfl) (⟨c2,cD,mi⟩) ?_
    refine O.ldC rfl rfl rfl (fun w => ⟨isAgg72 w,sizeOf72 w⟩) rfl (fun _ h => h.1) ?_
    refine O.ldC rfl rfl rfl (fun w => ⟨isAgg72 w,sizeOf72 w⟩) rfl (fun _ h => h.1) ?_
    refine O.nc rfl rfl rfl rfl rfl ?_
    refine O.ldC rfl rfl rfl (fun w => ⟨isAgg25 w,sizeOf25 w⟩) rfl (fun _ h => h.2.1) ?_
    refine O.lds rfl rfl rfl (fun w => ⟨isAgg35 w,sizeOf35 w⟩) rfl rfl mi ?_
    refine O.bsl (cs := (EJ.enc x)) rfl rfl rfl ⟨underlying25,sizeOf35,zeroValue35,⟨_,typeInfo35,rfl⟩,rfl,by decide,by decide⟩ rfl (by decide) (by kernel_rfl) ?_
    intro H2 M2
    have hs2 := M2.size
    replace c2 := M2.keep c2
    replace c3 := M2.keep c3
    replace cD := M2.keep cD
    replace mi := (M2.fr nowhere).rd mi (fun _ _ => nw)
    replace hw := (M2.fr nowhere).wr hw
    have m2 : Rd H2 H1.size 0 (EJ.enc x) := M2.rd _ [] (by simp)
    replace hs := hs.fr (M2.fr nowhere) (fun _ _ _ => nw)
    refine ⟨⟨c2,cD,mi⟩,?_⟩
    refine O.app (m := 1) (news := (EJ.enc x)) rfl rfl rfl ⟨underlying25,sizeOf35,zeroValue35,⟨_,typeInfo35,rfl⟩,rfl,by decide,by decide⟩ rfl hs rfl (.inl ⟨_,_,_,rfl,m2⟩) rfl rfl (Nat.le_trans (Nat.mul_le_mul_left _ (Nat.le_of_ble_eq_true (n := _) (m := 4096) rfl)) (by omega)) (by omega) ?_
    intro bb oo cc H3 ha
    obtain ⟨fa,pa⟩ := (App.rp ha)
    have hs3 := fa.size
    have hsl3 := SlE.app (E := EJ) ha
    have hbb : bb < H3.size := Sl.lt hsl3 (by have := hsl3.hle; rw [hacc1] at this; exact Nat.mul_pos (by omega) EJ.pos)
    replace c2 := fa.keep c2 (fun e => nb2 e.symm)
    replace c3 := fa.keep c3 (fun e => nb3 e.symm)
    replace cD := fa.keep cD (fun e => nb e.symm)
    replace mi := fa.rd mi (fun _ _ e => by have e' : H.size = b := e; omega)
    replace hw := fa.wr hw
    refine ⟨⟨c2,cD,mi⟩,?_⟩
    refine O.nc rfl rfl rfl rfl rfl ?_
    refine O.st3 rfl rfl sizeOf25 rfl rfl rfl rfl rfl hw ?_
    intro H4 W4
    have hs4 := W4.size
    replace c2 := W4.fr.keep c2 (nr (.inl n2))
    replace c3 := W4.fr.keep c3 (nr (.inl n3))
    replace hw := W4.fr.wr hw
    clear cD
    have cD := W4.at
    refine Pl.fin [(1,_),(2,_),(4,_)] ⟨rfl,rfl,rfl,trivial⟩ ?_
    refine Go'.seq ?_
    by_cases hn : n < 1
    · skip
      refine Go'.draw (fun _ => True) [(0,1),(1,0),(2,0),(3,1),(4,0),(5,1),(6,0),(7,1),(8,0),(9,0),(10,0)] (by kernel_rfl) (by kernel_rfl) (trivial) ?_
      refine O.ld rfl rfl rfl (fun w => ⟨isAgg3 w,sizeOf3 w⟩) rfl c3 ?_
      refine O.cmp rfl rfl rfl rfl rfl rfl (lssT (by omega)) ?_
      refine O.mv rfl rfl rfl rfl rfl ?_
      refine Pl.pass rfl rfl rfl rfl ?_
      refine Pl.pass rfl rfl rfl rfl ?_
      refine Pl.pass rfl rfl rfl rfl ?_
      refine Pl.pass rfl rfl rfl rfl ?_
      refine Pl.pass rfl rfl rfl rfl ?_
      refine Pl.pass rfl rfl rfl rfl ?_
      refine O.pick rfl rfl rfl rfl rfl rfl ?_
      refine O.asg rfl rfl rfl rfl rfl ?_
      refine Pl.fin [(4,_)] ⟨rfl,trivial⟩ ?_
      refine Go'.ret (vs := [_]) func104 results104 ⟨rfl,trivial⟩ ?_
      exact ⟨by unfold goN; rw [decide_eq_true hn]; rfl,fun b => Z b ∨ (H.size ≤ b ∧ b < H4.size),⟨c2,c3,hw,.inl z2,.inl z3,.inl zD,n2,n3,fun b hb => hb.elim (fun h => by have := hlt b h; omega) (fun h => h.2),.inr ⟨bb,oo,cc,by rw [hacc1]; exact cD,hsl3.fr W4.fr (fun _ _ _ => nr (.inl (by omega))),(by rcases pa with h | h; exact .inl (h ▸ zb); exact .inr (by omega)),by omega,by omega,by omega⟩⟩,(((M1.fr nowhere).trans (M2.fr nowhere)).trans' fa (Z := fun b _ => Z b) (fun _ _ _ h => h.elim) (fun y o _ hz => by have hz' : y = b := hz; rw [hz']; exact zb)).trans' W4.fr (fun _ _ _ h => h) (fun b o _ hz => by rw [hz.1]; exact zD),fun b hb => hb.imp id (fun h => h.1)⟩
    · skip
      by_cases hn2 : ((acc.length + 1 : Nat) : Int) < n
      · skip
        refine Go'.draw (fun _ => True) [(0,1),(1,0),(2,0),(3,1),(4,0),(5,1),(6,0),(7,1),(8,0),(9,0),(10,0)] (by kernel_rfl) (by kernel_rfl) (trivial) ?_
        refine O.ld rfl rfl rfl (fun w => ⟨isAgg3 w,sizeOf3 w⟩) rfl c3 ?_
        refine O.cmp rfl rfl rfl rfl rfl rfl (lssF (by omega)) ?_
        refine O.mv rfl rfl rfl rfl rfl ?_
        refine O.ld rfl rfl rfl (fun w => ⟨isAgg72 w,sizeOf72 w⟩) rfl c2 ?_
        refine O.nc rfl rfl rfl rfl rfl ?_
        refine O.ld rfl rfl rfl (fun w => ⟨isAgg25 w,sizeOf25 w⟩) rfl cD ?_
        refine O.len rfl rfl rfl rfl underlying25 rfl ?_
        refine O.ld rfl rfl rfl (fun w => ⟨isAgg3 w,sizeOf3 w⟩) rfl c3 ?_
        refine O.cmp rfl rfl rfl rfl rfl rfl (lssT (by omega)) ?_
        refine O.pick rfl rfl rfl rfl rfl rfl ?_
        refine O.asg rfl rfl rfl rfl rfl ?_
        refine Pl.fin [(4,_)] ⟨rfl,trivial⟩ ?_
        refine Go'.ret (vs := [_]) func104 results104 ⟨rfl,trivial⟩ ?_
        exact ⟨by unfold goN; rw [decide_eq_false hn,hacc1]; rw [decide_eq_true (by simpa using hn2)]; rfl,fun b => Z b ∨ (H.size ≤ b ∧ b < H4.size),⟨c2,c3,hw,.inl z2,.inl z3,.inl zD,n2,n3,fun b hb => hb.elim (fun h => by have := hlt b h; omega) (fun h => h.2),.inr ⟨bb,oo,cc,by rw [hacc1]; exact cD,hsl3.fr W4.fr (fun _ _ _ => nr (.inl (by omega))),(by rcases pa with h | h; exact .inl (h ▸ zb); exact .inr (by omega)),by omega,by omega,by omega⟩⟩,(((M1.fr nowhere).trans (M2.fr nowhere)).trans' fa (Z := fun b _ => Z b) (fun _ _ _ h => h.elim) (fun y o _ hz => by have hz' : y = b := hz; rw [hz']; exact zb)).trans' W4.fr (fun _ _ _ h => h) (fun b o _ hz => by rw [hz.1]; exact zD),fun b hb => hb.imp id (fun h => h.1)⟩
      · skip
        refine Go'.draw (fun _ => True) [(0,1),(1,0),(2,0),(3,1),(4,0),(5,1),(6,0),(7,1),(8,0),(9,0),(10,0)] (by kernel_rfl) (by kernel_rfl) (trivial) ?_
        refine O.ld rfl rfl rfl (fun w => ⟨isAgg3 w,sizeOf3 w⟩) rfl c3 ?_
        refine O.cmp rfl rfl rfl rfl rfl rfl (lssF (by omega)) ?_
        refine O.mv rfl rfl rfl rfl rfl ?_
        refine O.ld rfl rfl rfl (fun w => ⟨isAgg72 w,sizeOf72 w⟩) rfl c2 ?_
        refine O.nc rfl rfl rfl rfl rfl ?_
        refine O.ld rfl rfl rfl (fun w => ⟨isAgg25 w,sizeOf25 w⟩) rfl cD ?_
        refine O.len rfl rfl rfl rfl underlying25 rfl ?_
        refine O.ld rfl rfl rfl (fun w => ⟨isAgg3 w,sizeOf3 w⟩) rfl c3 ?_
        refine O.cmp rfl rfl rfl rfl rfl rfl (lssF (by omega)) ?_
        refine O.pick rfl rfl rfl rfl rfl rfl ?_
        refine O.asg rfl rfl rfl rfl rfl ?_
        refine Pl.fin [(4,_)] ⟨rfl,trivial⟩ ?_
        refine Go'.ret (vs := [_]) func104 results104 ⟨rfl,trivial⟩ ?_
        exact ⟨by unfold goN; rw [decide_eq_false hn,hacc1]; rw [decide_eq_false (by simpa using hn2)]; rfl,fun b => Z b ∨ (H.size ≤ b ∧ b < H4.size),⟨c2,c3,hw,.inl z2,.inl z3,.inl zD,n2,n3,fun b hb => hb.elim (fun h => by have := hlt b h; omega) (fun h => h.2),.inr ⟨bb,oo,cc,by rw [hacc1]; exact cD,hsl3.fr W4.fr (fun _ _ _ => nr (.inl (by omega))),(by rcases pa with h | h; exact .inl (h ▸ zb); exact .inr (by omega)),by omega,by omega,by omega⟩⟩,(((M1.fr nowhere).trans (M2.fr nowhere)).trans' fa (Z := fun b _ => Z b) (fun _ _ _ h => h.elim) (fun y o _ hz => by have hz' : y = b := hz; rw [hz']; exact zb)).trans' W4.fr (fun _ _ _ h => h) (fun b o _ hz => by rw [hz.1]; exact zD),fun b hb => hb.imp id (fun h => h.1)⟩


theorem TkT.out {b2 b3 D : Nat} {n : Int} {acc : List (Int × Int)} {Z : Nat → Prop} {H : Mem} (h : TkT b2 b3 D n acc Z H) : ∃ v,cl H D 0 = some v ∧ OutS EJ H v acc := by
  rcases h.sl with ⟨e,k⟩ | ⟨b,o,c,k,hs,_⟩
  · exact ⟨_,k,.inl ⟨rfl,e⟩⟩
  · exact ⟨_,k,.inr ⟨b,o,c,rfl,hs⟩⟩
theorem taker_spec {B : World} {H : Mem} {D : Nat} {n : Int} (hD : cl H D 0 = some (.slice none 0 0)) (hw : Wr H D 0 1) :
    Fn Try.prog B 79 [ptr D,.int .i64 n] H (fun r H' => ∃ b2 b3,r = .func (.func 104) #[] #[ptr b2,ptr b3] ∧ TkT b2 b3 D n [] (fun b => b = D ∨ (H.size ≤ b ∧ b < H'.size)) H' ∧ Fr nowhere H H') := by
  have hDl := cl_lt hD
  unfold ptr
  refine fn_of func79 rfl ntmps79 ?_
  refine (show Go' _ _ _ _ 6 [(0,_),(1,_)] [.code _] _ from ?_)
  refine Go'.seq ?_
  refine Go'.region [(0,2),(1,2),(2,0)] rfl ?_
  refine O.box rfl rfl rfl rfl ?_
  intro H1 M1
  refine ⟨trivial,?_⟩
  have hs1 := M1.size
  replace hD := M1.keep hD
  replace hw := (M1.fr nowhere).wr hw
  have c2 : cl H1 H.size 0 = some (ptr D) := (M1.cl 0).trans rfl
  refine O.box rfl rfl rfl rfl ?_
  intro H2 M2
  refine ⟨trivial,?_⟩
  have hs2 := M2.size
  replace hD := M2.keep hD
  replace hw := (M2.fr nowhere).wr hw
  replace c2 := M2.keep c2
  have c3 : cl H2 H1.size 0 = some (.int .i64 n) := (M2.cl 0).trans rfl
  refine O.asg rfl rfl rfl rfl rfl ?_
  refine Pl.fin [(2,_),(3,_),(4,_)] ⟨rfl,rfl,rfl,trivial⟩ ?_
  refine Go'.seq ?_
  refine Go'.region [(0,0),(1,0)] rfl ?_
  refine O.mkf rfl rfl rfl rfl rfl rfl ?_
  refine O.asg rfl rfl rfl rfl rfl ?_
  refine Pl.fin [(4,_)] ⟨rfl,trivial⟩ ?_
  refine Go'.ret (vs := [_]) func79 results79 ⟨rfl,trivial⟩ ?_
  exact ⟨H.size,H1.size,rfl,⟨c2,c3,hw,.inr (by omega),.inr (by omega),.inl rfl,by omega,by omega,fun b hb => hb.elim (fun h => by omega) (fun h => h.2),.inl ⟨rfl,hD⟩⟩,(M1.fr nowhere).trans (M2.fr nowhere)⟩

/-- What takerAny's function keeps: the taker,and what that one keeps. -/
def PrT (pb b2 b3 D : Nat) (n : Int) (acc : List (Int × Int)) (Z : Nat → Prop) (H : Mem) : Prop :=
  ∃ Z0,TkT b2 b3 D n acc Z0 H ∧ cl H pb 0 = some (.func (.func 104) #[] #[ptr b2,ptr b3]) ∧ ¬ Z0 pb ∧ (∀ b,Z0 b → Z b) ∧ Z pb ∧ ∀ b,Z b → b < H.size
theorem any1_spec {B : World} {H : Mem} {pb b2 b3 D : Nat} {n : Int} {acc : List (Int × Int)} {Z : Nat → Prop} (x : Int × Int) (hT : PrT pb b2 b3 D n acc Z H) (hl : acc.length < 4294967296) :
    Fn Try.prog B 80 [iv x,ptr pb] H (fun r H' => r = .bool (goN n (acc ++ [x])) ∧ ∃ Z',PrT pb b2 b3 D n (acc ++ [x]) Z' H' ∧ Fr (fun b _ => Z b) H H' ∧ ∀ b,Z' b → Z b ∨ H.size ≤ b) := by
  obtain ⟨Z0,hT,cp,n0,h0,zp,lt⟩ := hT
  unfold ptr
  refine fn_of func80 rfl ntmps80 ?_
  refine (show Go' _ _ _ _ 8 [(0,_),(1,_)] [.code _] _ from ?_)
  refine Go'.seq ?_
  refine Go'.region [(0,0)] rfl ?_
  refine O.asg rfl rfl rfl rfl rfl ?_
  refine Pl.fin [(0,_),(1,_),(3,_)] ⟨rfl,rfl,rfl,trivial⟩ ?_
  refine Go'.seq ?_
  refine Go'.draw (fun _ => True) [(0,1),(1,0),(2,0),(3,2),(4,0)] (by kernel_rfl) (by kernel_rfl) (trivial) ?_
  refine O.ld rfl rfl rfl (fun w => ⟨isAgg117 w,sizeOf117 w⟩) rfl cp ?_
  refine O.mv rfl rfl rfl rfl rfl ?_
  refine O.tya rfl rfl rfl rfl rfl (run_assert_is underlying35 rfl) ?_
  refine O.callC (us := []) (caps := [ptr b2,ptr b3]) rfl rfl rfl rfl call104 rfl (taker1_spec hT hl) ?_
  rintro _ H2 ⟨rfl,Z2,hT2,hF2,hZ2⟩
  refine ⟨trivial,?_⟩
  refine O.asg rfl rfl rfl rfl rfl ?_
  refine Pl.fin [(3,_)] ⟨rfl,trivial⟩ ?_
  refine Go'.ret (vs := [_]) func80 results80 ⟨rfl,trivial⟩ ?_
  have hsz := hF2.size
  have hpb := lt pb zp
  exact ⟨rfl,fun b => Z b ∨ (H.size ≤ b ∧ b < H2.size),⟨Z2,hT2,hF2.keep cp n0,fun hz => (hZ2 _ hz).elim n0 (fun h => by omega),fun b hb => (hZ2 b hb).imp (h0 b) (fun h => ⟨h,hT2.lt b hb⟩),.inl zp,fun b hb => hb.elim (fun h => by have := lt b h; omega) (fun h => h.2)⟩,
    hF2.mono (fun b o _ h => h0 b h),fun b hb => hb.imp id (fun h => h.1)⟩

/-- takerAny's function,as a reader takes it. -/
def cbAny (B : World) (pb b2 b3 D : Nat) (n : Int) : Cb Try.prog B encIt 80 [] [ptr pb] (goN n) 4294967296 where
  T := PrT pb b2 b3 D n
  fr := fun ⟨Z0,hT,cp,n0,h0,zp,lt⟩ hf hy => ⟨Z0,hT.fr hf (fun b o hb => hy b o (h0 b hb)),hf.keep cp (hy _ _ zp),n0,h0,zp,fun b hb => Nat.lt_of_lt_of_le (lt b hb) hf.size⟩
  lt := fun ⟨_,_,_,_,_,_,lt⟩ hb => lt _ hb
  call := fun x hT hl => any1_spec x hT hl
theorem PrT.out {pb b2 b3 D : Nat} {n : Int} {acc : List (Int × Int)} {Z : Nat → Prop} {H : Mem} (h : PrT pb b2 b3 D n acc Z H) : ∃ v,cl H D 0 = some v ∧ OutS EJ H v acc := have ⟨_,h,_⟩ := h; h.out

theorem takerAny_spec {B : World} {H : Mem} {D : Nat} {n : Int} (hD : cl H D 0 = some (.slice none 0 0)) (hw : Wr H D 0 1) :
    Fn Try.prog B 54 [ptr D,.int .i64 n] H (fun r H' => ∃ pb b2 b3,r = .func (.func 80) #[] #[ptr pb] ∧ PrT pb b2 b3 D n [] (fun b => b = D ∨ (H.size ≤ b ∧ b < H'.size)) H' ∧ Fr nowhere H H') := by
  have hDl := cl_lt hD
  refine fn_of func54 rfl ntmps54 ?_
  refine (show Go' _ _ _ _ 10 [(0,_),(1,_)] [.code _] _ from ?_)
  refine Go'.seq ?_
  refine Go'.region [(0,0)] rfl ?_
  refine O.asg rfl rfl rfl rfl rfl ?_
  refine Pl.fin [(0,_),(1,_),(4,_)] ⟨rfl,rfl,rfl,trivial⟩ ?_
  refine Go'.seq ?_
  refine Go'.region [(0,0),(1,0),(2,2),(3,2),(4,2)] rfl ?_
  refine O.mv rfl rfl rfl rfl rfl ?_
  refine O.mv rfl rfl rfl rfl rfl ?_
  refine O.call rfl rfl rfl call79 rfl (taker_spec hD hw) ?_
  rintro _ H1 ⟨b2,b3,rfl,hT,hF⟩
  have hs1 := hF.size
  refine ⟨trivial,?_⟩
  refine O.alloc rfl rfl rfl zeroValue117 ?_
  intro H2 M2
  refine ⟨trivial,?_⟩
  have hs2 := M2.size
  have lt0 := hT.lt
  replace hT := hT.fr (M2.fr nowhere) (fun _ _ _ => nw)
  have m5 : Wr H2 H1.size 0 1 := M2.wr 1 (by decide)
  refine O.st rfl rfl sizeOf117 rfl rfl rfl rfl rfl m5 ?_
  intro H3 W3
  have hs3 := W3.size
  replace hT := hT.fr W3.fr (fun b o hb hz => by have := lt0 b hb; have h1 := hz.1; omega)
  have cp := W3.at
  refine ⟨trivial,?_⟩
  refine Pl.fin [(4,_),(5,_)] ⟨rfl,rfl,trivial⟩ ?_
  refine Go'.seq ?_
  refine Go'.region [(0,0),(1,0)] rfl ?_
  refine O.mkf rfl rfl rfl rfl rfl rfl ?_
  refine O.asg rfl rfl rfl rfl rfl ?_
  refine Pl.fin [(4,_)] ⟨rfl,trivial⟩ ?_
  refine Go'.ret (vs := [_]) func54 results54 ⟨rfl,trivial⟩ ?_
  exact ⟨H1.size,b2,b3,rfl,⟨_,hT,cp,fun hz => by have := lt0 _ hz; omega,fun b hb => hb.imp id (fun h => ⟨h.1,by omega⟩),.inr ⟨by omega,by omega⟩,fun b hb => hb.elim (fun h => by omega) (fun h => h.2)⟩,(hF.trans (M2.fr nowhere)).trans' W3.fr (fun _ _ _ h => h) (fun b o hb hz => by have h1 := hz.1; omega)⟩

section
variable [Inhabited Cx]
theorem scan_spec {B : World} {g : FuncId} {us cs : List Value} {go : List (Int × Int) → Bool} {M : Nat} (cb : Cb Try.prog B encIt g us cs go M) (hcall : ∀ (args : Array Value) (w : World),(callFunc g args).run Try.prog w = .ok (.enter g args) w) {tr : Nat} {P : Ps} (hP : PsOk P) (mt : Bool) {H : Mem} {S : Nat → Prop} {l : List (Int × Int)} {Z : Nat → Prop} (hM : MapM H tr P S l) (hT : cb.T [] Z H) (hd : ∀ b,S b → ¬ Z b) (hnb : ∀ b,Z b → ¬ (b < cx.base ∧ cx.own b)) (hl : l.length ≤ M) :
    Fn Try.prog B 102 [.pointer (some ⟨tr,0,none⟩),.func (.func g) us.toArray cs.toArray,.bool mt] H (fun _ H' => CbPost cb [] Z H l H') := by
  obtain ⟨tc,srt,cnt,own,lt,bs,hr⟩ := hM
  refine fn_of func102 rfl ntmps102 ?_
  refine (show Go' _ _ _ _ 23 [(0,_),(1,_),(2,_)] [.code _] _ from ?_)
  refine Go'.seq ?_
  refine Go'.seq ?_
  refine Go'.region [(0,0),(1,0),(2,2)] rfl ?_
  refine O.mv rfl rfl rfl rfl rfl ?_
  refine O.mv rfl rfl rfl rfl rfl ?_
  refine O.callQ rfl rfl rfl call111 rfl lock_spec trivial ?_
  refine Pl.fin [(0,_),(1,_),(2,_),(8,_)] ⟨rfl,rfl,rfl,rfl,trivial⟩ ?_
  refine Go'.condF rfl ?_
  refine Go'.skip ?_
  refine Go'.seq ?_
  refine Go'.seq ?_
  rcases hr with ⟨rfl,hptr⟩ | ⟨h,t,hg,hx1,e,hc,hnt,hown⟩
  · skip
    refine Go'.region [(0,0),(1,0),(2,0),(3,1),(4,0)] rfl ?_
    refine O.mv rfl rfl rfl rfl rfl ?_
    refine O.nc rfl rfl rfl rfl rfl ?_
    refine O.fa0 (off := 2) rfl rfl rfl rfl ⟨_,_,_,underlying138,rfl,rfl,sizeOf96⟩ rfl ?_
    refine O.ld rfl rfl rfl (fun w => ⟨isAgg96 w,sizeOf96 w⟩) rfl hptr ?_
    refine O.isNil rfl rfl rfl rfl underlying96 rfl rfl ?_
    refine Pl.fin [(0,_),(1,_),(2,_),(15,_)] ⟨rfl,rfl,rfl,rfl,trivial⟩ ?_
    refine Go'.condT rfl ?_
    refine Go'.ret func102 results102 (vs := []) trivial ?_
    exact ⟨Z,hT,Fr.refl _ _,fun b hb => .inl hb⟩
  · skip
    have hptr : cl H tr 2 = some (.pointer (some ⟨Gt.p h t,0,none⟩)) := hc
    refine Go'.region [(0,0),(1,0),(2,0),(3,1),(4,0)] rfl ?_
    refine O.mv rfl rfl rfl rfl rfl ?_
    refine O.nc rfl rfl rfl rfl rfl ?_
    refine O.fa0 (off := 2) rfl rfl rfl rfl ⟨_,_,_,underlying138,rfl,rfl,sizeOf96⟩ rfl ?_
    refine O.ld rfl rfl rfl (fun w => ⟨isAgg96 w,sizeOf96 w⟩) rfl hptr ?_
    refine O.isNil rfl rfl rfl rfl underlying96 rfl rfl ?_
    refine Pl.fin [(0,_),(1,_),(2,_),(15,_)] ⟨rfl,rfl,rfl,rfl,trivial⟩ ?_
    refine Go'.condF rfl ?_
    refine Go'.skip ?_
    refine Go'.region [(0,0),(1,0),(2,0),(3,0),(4,0),(5,0),(6,2)] rfl ?_
    refine O.mv rfl rfl rfl rfl rfl ?_
    refine O.mv rfl rfl rfl rfl rfl ?_
    refine O.nc rfl rfl rfl rfl rfl ?_
    refine O.fa0 (off := 2) rfl rfl rfl rfl ⟨_,_,_,underlying138,rfl,rfl,sizeOf96⟩ rfl ?_
    refine O.mv rfl rfl rfl rfl rfl ?_
    refine O.mv rfl rfl rfl rfl rfl ?_
    refine O.call rfl rfl rfl call129 rfl (nscan cb hcall hP mt h ⟨tc,hg,hc,fun b o hb => hd b (hown b o hb),hnb,hT,by rw [e]; simpa using hl⟩) ?_
    rintro _ H2 ⟨rfl,hpost⟩
    refine ⟨trivial,?_⟩
    refine Pl.fin [] trivial ?_
    refine Go'.fall func102 results102 (vs := []) trivial ?_
    rw [e] at hpost
    exact hpost

theorem Scan_spec {B : World} {g : FuncId} {us cs : List Value} {go : List (Int × Int) → Bool} {M : Nat} (cb : Cb Try.prog B encIt g us cs go M) (hcall : ∀ (args : Array Value) (w : World),(callFunc g args).run Try.prog w = .ok (.enter g args) w) {tr : Nat} {P : Ps} (hP : PsOk P) {H : Mem} {S : Nat → Prop} {l : List (Int × Int)} {Z : Nat → Prop} (hM : MapM H tr P S l) (hT : cb.T [] Z H) (hd : ∀ b,S b → ¬ Z b) (hnb : ∀ b,Z b → ¬ (b < cx.base ∧ cx.own b)) (hl : l.length ≤ M) :
    Fn Try.prog B 77 [.pointer (some ⟨tr,0,none⟩),.func (.func g) us.toArray cs.toArray] H (fun _ H' => CbPost cb [] Z H l H') := by
  refine fn_of func77 rfl ntmps77 ?_
  refine (show Go' _ _ _ _ 7 [(0,_),(1,_)] [.code _] _ from ?_)
  refine Go'.region [(0,0),(1,0),(2,2)] rfl ?_
  refine O.mv rfl rfl rfl rfl rfl ?_
  refine O.mv rfl rfl rfl rfl rfl ?_
  refine O.call rfl rfl rfl call102 rfl (scan_spec cb hcall hP false hM hT hd hnb hl) ?_
  rintro _ H2 hpost
  refine ⟨trivial,?_⟩
  refine Pl.fin [] trivial ?_
  refine Go'.fall func77 results77 (vs := []) trivial ?_
  exact hpost
end
end Go.Bt.FB
namespace Go.Bt.FB
open Go Go.Proofs Go.Proofs.Try
set_option maxRecDepth 20000
set_option maxHeartbeats 4000000
set_option linter.unusedVariables false
set_option linter.unusedSectionVars false

section
variable [Inhabited Cx]
variable {B : World} {g : FuncId} {us cs : List Value} {go : List (Int × Int) → Bool} {M : Nat}
theorem CbPost.rebase {cb : Cb Try.prog B encIt g us cs go M} {acc l : List (Int × Int)} {Z : Nat → Prop} {H H1 H' : Mem} (hf : Fr (fun b _ => Z b) H H1) (h : CbPost cb acc Z H1 l H') : CbPost cb acc Z H l H' := by
  obtain ⟨Z',h1,h2,h3⟩ := h
  exact ⟨Z',h1,hf.trans h2,fun b hb => (h3 b hb).imp id (fun h => Nat.le_trans hf.size h)⟩
/-- A function that items are handed to,with a hint beside what it keeps. -/
def cbH (cb : Cb Try.prog B encIt g us cs go M) (hv : Value) (hz : Nat → Prop) : Cb Try.prog B encIt g us cs go M where
  T := fun acc Z H => ∃ Z0,cb.T acc Z0 H ∧ HintOk H hv hz ∧ (∀ b,Z b ↔ Z0 b ∨ hz b) ∧ ∀ b,Z0 b → ¬ hz b
  fr := fun ⟨Z0,h1,h2,h3,h4⟩ hf hy => ⟨Z0,cb.fr h1 hf (fun b o hb => hy b o ((h3 b).2 (.inl hb))),h2.fr hf (fun b o hb => hy b o ((h3 b).2 (.inr hb))),h3,h4⟩
  lt := fun ⟨Z0,h1,h2,h3,_⟩ hb => ((h3 _).1 hb).elim (cb.lt h1) (fun h => (h2.base _ h).2)
  call := fun x ⟨Z0,h1,h2,h3,h4⟩ hl => (cb.call x h1 hl).mono fun _ H' ⟨e,Z1,g1,g2,g3⟩ =>
    ⟨e,fun b => Z1 b ∨ hz b,⟨Z1,g1,h2.fr g2 (fun b o hb hb2 => h4 b hb2 hb),fun _ => Iff.rfl,fun b hb hb2 => (g3 b hb).elim (fun h => h4 b h hb2) (fun h => by have := (h2.base b hb2).2; omega)⟩,
      g2.mono (fun b o _ hb => (h3 b).2 (.inl hb)),fun b hb => hb.elim (fun hb => (g3 b hb).imp (fun h => (h3 b).2 (.inl h)) id) (fun hb => .inl ((h3 b).2 (.inr hb)))⟩
theorem VPre.fr0 {cb : Cb Try.prog B encIt g us cs go M} {H H' : Mem} {tr : Nat} {P : Ps} {h : Nat} {t : Gt EA h} {bp op : Nat} {acc : List (Int × Int)} {Z : Nat → Prop} {Y : Nat → Nat → Prop} (hp : VPre cb H tr P h t bp op acc Z) (hf : Fr Y H H') (hy : ∀ b o,Y b o → Z b) (hbp : ¬ Z bp) (hst : cb.T acc Z H') : VPre cb H' tr P h t bp op acc Z :=
  ⟨hp.tc.fr hf (fun b o hb _ hz => hp.nb b (hy b o hz) hb),hp.g.fr hf (fun b o hb hz => hp.nz b o hb (hy b o hz)),hf.keep hp.cel (fun hz => hbp (hy _ _ hz)),hp.nz,hp.nb,hst,hp.len⟩
end
section
variable [Inhabited Cx]
theorem nasc0 {B : World} {g : FuncId} {us cs : List Value} {go : List (Int × Int) → Bool} {M : Nat} (cb : Cb Try.prog B encIt g us cs go M) (hcall : ∀ (args : Array Value) (w : World),(callFunc g args).run Try.prog w = .ok (.enter g args) w) {tr : Nat} {P : Ps} (hP : PsOk P) (mt : Bool) (x : Int × Int) (hv : Value) (hz : Nat → Prop) {Ha : Mem} {bp op dp : Nat} {acc : List (Int × Int)} {Z : Nat → Prop} {t : Gt EA 0} (hpa : VPre (cbH cb hv hz) Ha tr P 0 t bp op acc Z) (hs : Pl.Srt OI (Gt.L 0 t)) (hx1 : 1 ≤ (Gt.X 0 t).length) (hbp : ¬ Z bp) (hdp : dp < 4611686018427387904) :
    Fn Try.prog B 130 [.pointer (some ⟨tr,0,none⟩),.pointer (some ⟨bp,op,none⟩),iv x,hv,.int .i64 (dp : Int),.func (.func g) us.toArray cs.toArray,.bool mt] Ha (fun r H' => r = .bool (takes go acc (Pl.up OI x (Gt.L 0 t))).2 ∧ CbPost (cbH cb hv hz) acc Z Ha (Pl.up OI x (Gt.L 0 t)) H') := by
  obtain ⟨gg,X⟩ := t
  replace hx1 : 1 ≤ X.length := hx1
  have hsX : Pl.Srt OI X := hs
  refine fn_of func130 rfl ntmps130 ?_
  refine (show Go' _ _ _ _ 89 [(0,_),(1,_),(2,_),(3,_),(4,_),(5,_),(6,_)] [.code _] _ from ?_)
  refine Go'.seq ?_
  have M0 := Mk0.mk' Ha
  have hs0 := M0.size
  have hf0 := M0.fr nowhere
  have hza : ∀ b,Z b → b < Ha.size := fun b hb => (cbH cb hv hz).lt hpa.st hb
  replace hpa := hpa.fr0 hf0 (fun _ _ h => h.elim) hbp ((cbH cb hv hz).fr hpa.st hf0 (fun _ _ _ => nw))
  refine Go'.region [(0,0)] rfl ?_
  refine O.asg rfl rfl rfl rfl rfl ?_
  refine Pl.fin [(0,_),(1,_),(2,_),(3,_),(4,_),(5,_),(6,_),(14,_)] ⟨rfl,rfl,rfl,rfl,rfl,rfl,rfl,rfl,trivial⟩ ?_
  refine Go'.seq ?_
  have hNa : NodeM EA Ha gg X (.pointer none) := hpa.g.1
  have hca := hNa.c0
  rw [show gg.iso = P.iso from hpa.g.2.1] at hca
  have hxma : X.length ≤ P.mx := hpa.g.2.2.2
  have hx255a := hP.hx
  obtain ⟨Z0,hT0,hk0,hZe,hZd⟩ := hpa.st
  have hzZ : ∀ b,hz b → Z b := fun b hb => (hZe b).2 (.inr hb)
  refine Go'.region [(0,0),(1,0),(2,0),(3,2),(4,0)] rfl ?_
  refine O.mv rfl rfl rfl rfl rfl ?_
  refine O.mv rfl rfl rfl rfl rfl ?_
  refine O.mv rfl rfl rfl rfl rfl ?_
  refine O.callQ rfl rfl rfl call114 rfl (isoLoad_spec mt hpa.cel hca hpa.tc.iso) trivial ?_
  refine O.asg rfl rfl rfl rfl rfl ?_
  refine Pl.fin [(0,_),(2,_),(3,_),(4,_),(5,_),(6,_),(14,_),(15,_)] ⟨rfl,rfl,rfl,rfl,rfl,rfl,rfl,rfl,trivial⟩ ?_
  refine Go'.seq ?_
  unfold ptr
  refine Go'.region [(0,0),(1,0),(2,0),(3,0),(4,0),(5,2),(6,0),(7,0),(8,0),(9,0),(10,0)] rfl ?_
  refine O.mv rfl rfl rfl rfl rfl ?_
  refine O.mv rfl rfl rfl rfl rfl ?_
  refine O.mv rfl rfl rfl rfl rfl ?_
  refine O.mv rfl rfl rfl rfl rfl ?_
  refine O.mv rfl rfl rfl rfl rfl ?_
  refine O.call rfl rfl rfl call140 rfl (find_spec hpa.tc x hNa (hsX) (by omega) hx1 hk0 (fun b o hb hn => hpa.nz b o (hn) (hzZ b hb)) (by omega)) ?_
  rintro _ H ⟨rfl,hFf,hkf⟩
  have hff : Fr (fun b _ => Z b) Ha H := hf0.trans' hFf (fun _ _ _ h => h.elim) (fun b _ _ h => hzZ b h)
  have hp := hpa.fr0 hFf (fun b _ h => hzZ b h) hbp ⟨Z0,cb.fr hT0 hFf (fun b o hb hb2 => hZd b hb hb2),hkf,hZe,hZd⟩
  refine ⟨trivial,?_⟩
  refine O.mv rfl rfl rfl rfl rfl ?_
  refine O.ext rfl rfl rfl rfl rfl rfl ?_
  refine O.ext rfl rfl rfl rfl rfl rfl ?_
  refine O.asg rfl rfl rfl rfl rfl ?_
  refine O.asg rfl rfl rfl rfl rfl ?_
  refine Pl.fin [(0,_),(2,_),(3,_),(4,_),(5,_),(6,_),(14,_),(15,_),(16,_),(17,_)] ⟨rfl,rfl,rfl,rfl,rfl,rfl,rfl,rfl,rfl,rfl,trivial⟩ ?_
  refine Go'.seq ?_
  refine Go'.seq ?_
  refine Go'.mono (Q := fun r H' => r = .bool (takes go acc (Pl.up OI x (X))).2 ∧ CbPost (cbH cb hv hz) acc Z H (Pl.up OI x (X)) H') (fun v H' hq => ⟨hq.1,CbPost.rebase hff hq.2⟩) ?_
  have hsza := hff.size
  clear hpa hca hk0 hT0 hkf hFf hff hNa
  obtain ⟨tc,hg,hc,hnz,hntr,hst,hlen⟩ := hp
  have hN : NodeM EA H gg X (.pointer none) := hg.1
  have hiso : gg.iso = P.iso := hg.2.1
  have hxm : X.length ≤ P.mx := hg.2.2.2
  have hx255 := hP.hx
  replace hs : Pl.Srt OI X := hs
  replace hlen : acc.length + X.length ≤ M := hlen
  have hc0 := hN.c0
  rw [hiso] at hc0
  have hcat : ∀ {Z1 Z2 : Nat → Prop} {H2 H3 : Mem},Fr (fun x _ => Z x) H H2 → (∀ b,Z1 b → Z b ∨ H.size ≤ b) → Fr (fun x _ => Z1 x) H2 H3 → (∀ b,Z2 b → Z1 b ∨ H2.size ≤ b) → Fr (fun x _ => Z x) H H3 ∧ ∀ b,Z2 b → Z b ∨ H.size ≤ b := by
    intro Z1 Z2 H2 H3 hF hZ1 hF2 hZ2
    have := hF.size
    exact ⟨hF.trans' hF2 (fun _ _ _ h => h) (fun b o hb hz => (hZ1 b hz).elim id (fun h => by omega)),fun b hb => (hZ2 b hb).elim (hZ1 b) (fun h => .inr (by omega))⟩
  have hple := Pl.pos_le OI x X
  have hltN : ∀ b o,ncl EA gg b o → b < H.size := fun b o hb => NodeM.lt hN hb
  show Go' _ _ _ (fun r H' => r = .bool (takes go acc (Pl.up OI x (X))).2 ∧ CbPost (cbH cb hv hz) acc Z H (Pl.up OI x (X)) H') _ _ _ _
  have hlt1 : Pl.fnd OI x X = true → Pl.pos OI x X < X.length := Pl.fnd_pos_lt OI
  have hW : Pl.up OI x (X) = X.drop (Pl.pos OI x X) := rfl
  generalize hFULL : Pl.up OI x (X) = FULL at *
  cases hfd : Pl.fnd OI x X
  · skip
    rw [hfd] at hlt1
    generalize hpi : Pl.pos OI x X = i at *
    refine Go'.region [(0,0),(1,0)] rfl ?_
    refine O.mv rfl rfl rfl rfl rfl ?_
    refine O.not rfl rfl rfl rfl rfl ?_
    refine Pl.fin [(0,_),(2,_),(3,_),(4,_),(5,_),(6,_),(14,_),(15,_),(16,_),(32,_)] ⟨rfl,rfl,rfl,rfl,rfl,rfl,rfl,rfl,rfl,rfl,trivial⟩ ?_
    refine Go'.condT rfl ?_
    refine Go'.seq ?_
    refine Go'.region [(0,0),(1,2),(2,0)] rfl ?_
    refine O.mv rfl rfl rfl rfl rfl ?_
    refine O.callQ rfl rfl rfl call115 rfl (leaf_spec hN.c3) trivial ?_
    refine O.not rfl rfl rfl rfl rfl ?_
    refine Pl.fin [(0,_),(2,_),(3,_),(4,_),(5,_),(6,_),(14,_),(15,_),(16,_),(35,_)] ⟨rfl,rfl,rfl,rfl,rfl,rfl,rfl,rfl,rfl,rfl,trivial⟩ ?_
    refine Go'.condF rfl ?_
    refine Go'.skip ?_
    refine Go'.seq ?_
    refine Go'.block ?_
    replace hW : FULL = X.drop (i) := hW
    refine Go'.loop ?_
    refine Go'.keep [(5,_),(15,_),(16,_)] ⟨rfl,rfl,rfl,trivial⟩ ?_
    refine Go'.ind (σ := Nat × Int × (Nat → Prop) × List (Int × Int)) (fun s => X.length - s.1) (fun s H' => s.1 ≤ X.length ∧ s.2.1 = (s.1 : Int) ∧ takes go acc FULL = takes go s.2.2.2 (X.drop (s.1)) ∧ (cbH cb hv hz).T s.2.2.2 s.2.2.1 H' ∧ Fr (fun b _ => Z b) H H' ∧ (∀ b,s.2.2.1 b → Z b ∨ H.size ≤ b) ∧ s.2.2.2.length + (X.drop (s.1)).length ≤ M)
      (fun s => [(5,.func (.func g) us.toArray cs.toArray),(15,.pointer (some ⟨gg.p,0,none⟩)),(16,.int .i64 s.2.1)]) (i,(i : Int),Z,acc) ⟨by (try simp only) <;> omega,by (try simp only) <;> omega,by rw [hW],hst,Fr.refl _ _,fun b hb => .inl hb,by simp only [List.length_drop]; omega⟩ rfl ?_
    rintro ⟨j,z,Z1,A⟩ H2 ⟨hj,hz,ht,hT,hF,hZ1,hAM⟩ ih
    simp only at hj hz ht hT hZ1 hAM
    subst hz
    replace hN := NodeM.fr EA hN hF (fun x y hxy hz => hnz x y hxy hz)
    refine Go'.seq ?_
    refine Go'.seq ?_
    by_cases hlt : j < X.length
    · skip
      obtain ⟨y,hy⟩ : ∃ y,X[j]? = some y := ⟨X[j],List.getElem?_eq_getElem (by omega)⟩
      obtain ⟨hy1,hy2⟩ := List.getElem?_eq_some_iff.1 hy
      rw [← List.getElem_cons_drop (h := hy1),hy2] at ht hAM
      rw [List.length_cons] at hAM
      refine (show Go' _ _ _ _ _ [(5,.func (.func g) us.toArray cs.toArray),(15,.pointer (some ⟨gg.p,0,none⟩)),(16,.int .i64 ((j : Int)))] _ _ from ?_)
      refine Go'.region [(0,0),(1,0),(2,0),(3,0),(4,1),(5,0),(6,0)] rfl ?_
      refine O.mv rfl rfl rfl rfl rfl ?_
      refine O.mv rfl rfl rfl rfl rfl ?_
      refine O.nc rfl rfl rfl rfl rfl ?_
      refine O.fa0 (off := 2) rfl rfl rfl rfl ⟨_,_,_,underlying144,rfl,rfl,sizeOf141⟩ rfl ?_
      refine O.ld rfl rfl rfl (fun w => ⟨isAgg141 w,sizeOf141 w⟩) rfl hN.c2 ?_
      refine O.len rfl rfl rfl rfl underlying141 rfl ?_
      refine O.cmp rfl rfl rfl rfl rfl rfl (lssT (by omega)) ?_
      refine Pl.fin [(5,_),(15,_),(16,_),(59,_)] ⟨rfl,rfl,rfl,rfl,trivial⟩ ?_
      refine Go'.condT rfl ?_
      refine Go'.skip ?_
      refine Go'.seq ?_
      refine Go'.block ?_
      refine Go'.seq ?_
      refine Go'.seq ?_
      cases hgo : go (A ++ [y])
      · skip
        refine Go'.region [(0,0),(1,0),(2,0),(3,0),(4,1),(5,0),(6,0),(7,1),(8,2),(9,0)] rfl ?_
        refine O.mv rfl rfl rfl rfl rfl ?_
        refine O.mv rfl rfl rfl rfl rfl ?_
        refine O.nc rfl rfl rfl rfl rfl ?_
        refine O.fa0 (off := 2) rfl rfl rfl rfl ⟨_,_,_,underlying144,rfl,rfl,sizeOf141⟩ rfl ?_
        refine O.ld rfl rfl rfl (fun w => ⟨isAgg141 w,sizeOf141 w⟩) rfl hN.c2 ?_
        refine O.mv rfl rfl rfl rfl rfl ?_
        refine O.ix (j := j) rfl rfl rfl rfl underlying141 sizeOf20 rfl rfl (by omega) (by omega) ?_
        refine O.ld rfl rfl rfl (fun w => ⟨isAgg20 w,sizeOf20 w⟩) rfl (((hN.sl.item hy)) 0 _ rfl) ?_
        refine O.callC rfl rfl rfl rfl hcall rfl ((cbH cb hv hz).call y hT (by omega)) ?_
        rintro _ H4 ⟨rfl,Z4,hT4,hF4,hZ4⟩
        rw [hgo]
        obtain ⟨hF5,hZ5⟩ := hcat hF hZ1 hF4 hZ4
        refine ⟨trivial,?_⟩
        refine O.not rfl rfl rfl rfl rfl ?_
        refine Pl.fin [(5,_),(15,_),(16,_),(59,_),(71,_)] ⟨rfl,rfl,rfl,rfl,rfl,trivial⟩ ?_
        refine Go'.condT rfl ?_
        refine Go'.seq ?_
        refine Go'.region [(0,0)] rfl ?_
        refine O.asg rfl rfl rfl rfl rfl ?_
        refine Pl.fin [(5,_),(14,_),(15,_),(16,_),(59,_),(71,_)] ⟨rfl,rfl,rfl,rfl,rfl,rfl,trivial⟩ ?_
        refine Go'.ret (vs := [_]) func130 results130 ⟨rfl,trivial⟩ ?_
        rw [takes_cons,hgo] at ht
        unfold CbPost
        rw [ht]
        exact ⟨rfl,Z4,hT4,hF5,hZ5⟩
      · skip
        refine Go'.region [(0,0),(1,0),(2,0),(3,0),(4,1),(5,0),(6,0),(7,1),(8,2),(9,0)] rfl ?_
        refine O.mv rfl rfl rfl rfl rfl ?_
        refine O.mv rfl rfl rfl rfl rfl ?_
        refine O.nc rfl rfl rfl rfl rfl ?_
        refine O.fa0 (off := 2) rfl rfl rfl rfl ⟨_,_,_,underlying144,rfl,rfl,sizeOf141⟩ rfl ?_
        refine O.ld rfl rfl rfl (fun w => ⟨isAgg141 w,sizeOf141 w⟩) rfl hN.c2 ?_
        refine O.mv rfl rfl rfl rfl rfl ?_
        refine O.ix (j := j) rfl rfl rfl rfl underlying141 sizeOf20 rfl rfl (by omega) (by omega) ?_
        refine O.ld rfl rfl rfl (fun w => ⟨isAgg20 w,sizeOf20 w⟩) rfl (((hN.sl.item hy)) 0 _ rfl) ?_
        refine O.callC rfl rfl rfl rfl hcall rfl ((cbH cb hv hz).call y hT (by omega)) ?_
        rintro _ H4 ⟨rfl,Z4,hT4,hF4,hZ4⟩
        rw [hgo]
        obtain ⟨hF5,hZ5⟩ := hcat hF hZ1 hF4 hZ4
        refine ⟨trivial,?_⟩
        refine O.not rfl rfl rfl rfl rfl ?_
        refine Pl.fin [(5,_),(15,_),(16,_),(59,_),(71,_)] ⟨rfl,rfl,rfl,rfl,rfl,trivial⟩ ?_
        rw [takes_cons,hgo,if_pos rfl] at ht
        refine Go'.condF rfl ?_
        refine Go'.skip ?_
        refine Go'.seq ?_
        have hN5 := NodeM.fr EA hN hF4 (fun x y hxy hz => (hZ1 x hz).elim (hnz x y hxy) (fun h => by have := hltN x y hxy; omega))
        refine Go'.region [(0,0),(1,2),(2,0)] rfl ?_
        refine O.mv rfl rfl rfl rfl rfl ?_
        refine O.callQ rfl rfl rfl call115 rfl (leaf_spec hN5.c3) trivial ?_
        refine O.not rfl rfl rfl rfl rfl ?_
        refine Pl.fin [(5,_),(15,_),(16,_),(59,_),(71,_),(74,_)] ⟨rfl,rfl,rfl,rfl,rfl,rfl,trivial⟩ ?_
        refine Go'.condF rfl ?_
        refine Go'.skip ?_
        refine Go'.inBlock ?_
        refine Go'.region [(0,0),(1,0),(2,0)] rfl ?_
        refine O.mv rfl rfl rfl rfl rfl ?_
        refine O.add (((j + 1 : Nat) : Int)) rfl rfl rfl rfl rfl rfl (by omega) (by omega) ?_
        refine O.asg rfl rfl rfl rfl rfl ?_
        refine Pl.fin [(5,_),(15,_),(16,_),(59,_),(71,_),(74,_)] ⟨rfl,rfl,rfl,rfl,rfl,rfl,trivial⟩ ?_
        refine Go'.keep [(5,_),(15,_),(16,_)] ⟨rfl,rfl,rfl,trivial⟩ ?_
        refine Go'.inLoop ?_
        exact ih (j + 1,_,Z4,A ++ [y]) H4 ⟨by (try simp only) <;> omega,rfl,ht,hT4,hF5,hZ5,by simp only [List.length_append,List.length_singleton]; omega⟩ (by (try simp only) <;> omega)
    · skip
      refine (show Go' _ _ _ _ _ [(5,.func (.func g) us.toArray cs.toArray),(15,.pointer (some ⟨gg.p,0,none⟩)),(16,.int .i64 ((j : Int)))] _ _ from ?_)
      refine Go'.region [(0,0),(1,0),(2,0),(3,0),(4,1),(5,0),(6,0)] rfl ?_
      refine O.mv rfl rfl rfl rfl rfl ?_
      refine O.mv rfl rfl rfl rfl rfl ?_
      refine O.nc rfl rfl rfl rfl rfl ?_
      refine O.fa0 (off := 2) rfl rfl rfl rfl ⟨_,_,_,underlying144,rfl,rfl,sizeOf141⟩ rfl ?_
      refine O.ld rfl rfl rfl (fun w => ⟨isAgg141 w,sizeOf141 w⟩) rfl hN.c2 ?_
      refine O.len rfl rfl rfl rfl underlying141 rfl ?_
      refine O.cmp rfl rfl rfl rfl rfl rfl (lssF (by omega)) ?_
      refine Pl.fin [(5,_),(15,_),(16,_),(59,_)] ⟨rfl,rfl,rfl,rfl,trivial⟩ ?_
      rw [List.drop_of_length_le (by omega)] at ht
      refine Go'.condF rfl ?_
      refine Go'.exit rfl ?_
      refine Go'.seq ?_
      refine Go'.region [(0,0)] rfl ?_
      refine O.asg rfl rfl rfl rfl rfl ?_
      refine Pl.fin [(14,_)] ⟨rfl,trivial⟩ ?_
      refine Go'.ret (vs := [_]) func130 results130 ⟨rfl,trivial⟩ ?_
      replace ht : takes go acc FULL = (A,true) := ht
      unfold CbPost
      rw [ht]
      exact ⟨rfl,Z1,hT,hF,hZ1⟩
  · skip
    rw [hfd] at hlt1
    generalize hpi : Pl.pos OI x X = i at *
    refine Go'.region [(0,0),(1,0)] rfl ?_
    refine O.mv rfl rfl rfl rfl rfl ?_
    refine O.not rfl rfl rfl rfl rfl ?_
    refine Pl.fin [(0,_),(2,_),(3,_),(4,_),(5,_),(6,_),(14,_),(15,_),(16,_),(32,_)] ⟨rfl,rfl,rfl,rfl,rfl,rfl,rfl,rfl,rfl,rfl,trivial⟩ ?_
    refine Go'.condF rfl ?_
    refine Go'.skip ?_
    refine Go'.seq ?_
    refine Go'.block ?_
    replace hlt1 := hlt1 rfl
    replace hW : FULL = X.drop (i) := hW
    refine Go'.loop ?_
    refine Go'.keep [(5,_),(15,_),(16,_)] ⟨rfl,rfl,rfl,trivial⟩ ?_
    refine Go'.ind (σ := Nat × Int × (Nat → Prop) × List (Int × Int)) (fun s => X.length - s.1) (fun s H' => s.1 ≤ X.length ∧ s.2.1 = (s.1 : Int) ∧ takes go acc FULL = takes go s.2.2.2 (X.drop (s.1)) ∧ (cbH cb hv hz).T s.2.2.2 s.2.2.1 H' ∧ Fr (fun b _ => Z b) H H' ∧ (∀ b,s.2.2.1 b → Z b ∨ H.size ≤ b) ∧ s.2.2.2.length + (X.drop (s.1)).length ≤ M)
      (fun s => [(5,.func (.func g) us.toArray cs.toArray),(15,.pointer (some ⟨gg.p,0,none⟩)),(16,.int .i64 s.2.1)]) (i,(i : Int),Z,acc) ⟨by (try simp only) <;> omega,by (try simp only) <;> omega,by rw [hW],hst,Fr.refl _ _,fun b hb => .inl hb,by simp only [List.length_drop]; omega⟩ rfl ?_
    rintro ⟨j,z,Z1,A⟩ H2 ⟨hj,hz,ht,hT,hF,hZ1,hAM⟩ ih
    simp only at hj hz ht hT hZ1 hAM
    subst hz
    replace hN := NodeM.fr EA hN hF (fun x y hxy hz => hnz x y hxy hz)
    refine Go'.seq ?_
    refine Go'.seq ?_
    by_cases hlt : j < X.length
    · skip
      obtain ⟨y,hy⟩ : ∃ y,X[j]? = some y := ⟨X[j],List.getElem?_eq_getElem (by omega)⟩
      obtain ⟨hy1,hy2⟩ := List.getElem?_eq_some_iff.1 hy
      rw [← List.getElem_cons_drop (h := hy1),hy2] at ht hAM
      rw [List.length_cons] at hAM
      refine (show Go' _ _ _ _ _ [(5,.func (.func g) us.toArray cs.toArray),(15,.pointer (some ⟨gg.p,0,none⟩)),(16,.int .i64 ((j : Int)))] _ _ from ?_)
      refine Go'.region [(0,0),(1,0),(2,0),(3,0),(4,1),(5,0),(6,0)] rfl ?_
      refine O.mv rfl rfl rfl rfl rfl ?_
      refine O.mv rfl rfl rfl rfl rfl ?_
      refine O.nc rfl rfl rfl rfl rfl ?_
      refine O.fa0 (off := 2) rfl rfl rfl rfl ⟨_,_,_,underlying144,rfl,rfl,sizeOf141⟩ rfl ?_
      refine O.ld rfl rfl rfl (fun w => ⟨isAgg141 w,sizeOf141 w⟩) rfl hN.c2 ?_
      refine O.len rfl rfl rfl rfl underlying141 rfl ?_
      refine O.cmp rfl rfl rfl rfl rfl rfl (lssT (by omega)) ?_
      refine Pl.fin [(5,_),(15,_),(16,_),(59,_)] ⟨rfl,rfl,rfl,rfl,trivial⟩ ?_
      refine Go'.condT rfl ?_
      refine Go'.skip ?_
      refine Go'.seq ?_
      refine Go'.block ?_
      refine Go'.seq ?_
      refine Go'.seq ?_
      cases hgo : go (A ++ [y])
      · skip
        refine Go'.region [(0,0),(1,0),(2,0),(3,0),(4,1),(5,0),(6,0),(7,1),(8,2),(9,0)] rfl ?_
        refine O.mv rfl rfl rfl rfl rfl ?_
        refine O.mv rfl rfl rfl rfl rfl ?_
        refine O.nc rfl rfl rfl rfl rfl ?_
        refine O.fa0 (off := 2) rfl rfl rfl rfl ⟨_,_,_,underlying144,rfl,rfl,sizeOf141⟩ rfl ?_
        refine O.ld rfl rfl rfl (fun w => ⟨isAgg141 w,sizeOf141 w⟩) rfl hN.c2 ?_
        refine O.mv rfl rfl rfl rfl rfl ?_
        refine O.ix (j := j) rfl rfl rfl rfl underlying141 sizeOf20 rfl rfl (by omega) (by omega) ?_
        refine O.ld rfl rfl rfl (fun w => ⟨isAgg20 w,sizeOf20 w⟩) rfl (((hN.sl.item hy)) 0 _ rfl) ?_
        refine O.callC rfl rfl rfl rfl hcall rfl ((cbH cb hv hz).call y hT (by omega)) ?_
        rintro _ H4 ⟨rfl,Z4,hT4,hF4,hZ4⟩
        rw [hgo]
        obtain ⟨hF5,hZ5⟩ := hcat hF hZ1 hF4 hZ4
        refine ⟨trivial,?_⟩
        refine O.not rfl rfl rfl rfl rfl ?_
        refine Pl.fin [(5,_),(15,_),(16,_),(59,_),(71,_)] ⟨rfl,rfl,rfl,rfl,rfl,trivial⟩ ?_
        refine Go'.condT rfl ?_
        refine Go'.seq ?_
        refine Go'.region [(0,0)] rfl ?_
        refine O.asg rfl rfl rfl rfl rfl ?_
        refine Pl.fin [(5,_),(14,_),(15,_),(16,_),(59,_),(71,_)] ⟨rfl,rfl,rfl,rfl,rfl,rfl,trivial⟩ ?_
        refine Go'.ret (vs := [_]) func130 results130 ⟨rfl,trivial⟩ ?_
        rw [takes_cons,hgo] at ht
        unfold CbPost
        rw [ht]
        exact ⟨rfl,Z4,hT4,hF5,hZ5⟩
      · skip
        refine Go'.region [(0,0),(1,0),(2,0),(3,0),(4,1),(5,0),(6,0),(7,1),(8,2),(9,0)] rfl ?_
        refine O.mv rfl rfl rfl rfl rfl ?_
        refine O.mv rfl rfl rfl rfl rfl ?_
        refine O.nc rfl rfl rfl rfl rfl ?_
        refine O.fa0 (off := 2) rfl rfl rfl rfl ⟨_,_,_,underlying144,rfl,rfl,sizeOf141⟩ rfl ?_
        refine O.ld rfl rfl rfl (fun w => ⟨isAgg141 w,sizeOf141 w⟩) rfl hN.c2 ?_
        refine O.mv rfl rfl rfl rfl rfl ?_
        refine O.ix (j := j) rfl rfl rfl rfl underlying141 sizeOf20 rfl rfl (by omega) (by omega) ?_
        refine O.ld rfl rfl rfl (fun w => ⟨isAgg20 w,sizeOf20 w⟩) rfl (((hN.sl.item hy)) 0 _ rfl) ?_
        refine O.callC rfl rfl rfl rfl hcall rfl ((cbH cb hv hz).call y hT (by omega)) ?_
        rintro _ H4 ⟨rfl,Z4,hT4,hF4,hZ4⟩
        rw [hgo]
        obtain ⟨hF5,hZ5⟩ := hcat hF hZ1 hF4 hZ4
        refine ⟨trivial,?_⟩
        refine O.not rfl rfl rfl rfl rfl ?_
        refine Pl.fin [(5,_),(15,_),(16,_),(59,_),(71,_)] ⟨rfl,rfl,rfl,rfl,rfl,trivial⟩ ?_
        rw [takes_cons,hgo,if_pos rfl] at ht
        refine Go'.condF rfl ?_
        refine Go'.skip ?_
        refine Go'.seq ?_
        have hN5 := NodeM.fr EA hN hF4 (fun x y hxy hz => (hZ1 x hz).elim (hnz x y hxy) (fun h => by have := hltN x y hxy; omega))
        refine Go'.region [(0,0),(1,2),(2,0)] rfl ?_
        refine O.mv rfl rfl rfl rfl rfl ?_
        refine O.callQ rfl rfl rfl call115 rfl (leaf_spec hN5.c3) trivial ?_
        refine O.not rfl rfl rfl rfl rfl ?_
        refine Pl.fin [(5,_),(15,_),(16,_),(59,_),(71,_),(74,_)] ⟨rfl,rfl,rfl,rfl,rfl,rfl,trivial⟩ ?_
        refine Go'.condF rfl ?_
        refine Go'.skip ?_
        refine Go'.inBlock ?_
        refine Go'.region [(0,0),(1,0),(2,0)] rfl ?_
        refine O.mv rfl rfl rfl rfl rfl ?_
        refine O.add (((j + 1 : Nat) : Int)) rfl rfl rfl rfl rfl rfl (by omega) (by omega) ?_
        refine O.asg rfl rfl rfl rfl rfl ?_
        refine Pl.fin [(5,_),(15,_),(16,_),(59,_),(71,_),(74,_)] ⟨rfl,rfl,rfl,rfl,rfl,rfl,trivial⟩ ?_
        refine Go'.keep [(5,_),(15,_),(16,_)] ⟨rfl,rfl,rfl,trivial⟩ ?_
        refine Go'.inLoop ?_
        exact ih (j + 1,_,Z4,A ++ [y]) H4 ⟨by (try simp only) <;> omega,rfl,ht,hT4,hF5,hZ5,by simp only [List.length_append,List.length_singleton]; omega⟩ (by (try simp only) <;> omega)
    · skip
      refine (show Go' _ _ _ _ _ [(5,.func (.func g) us.toArray cs.toArray),(15,.pointer (some ⟨gg.p,0,none⟩)),(16,.int .i64 ((j : Int)))] _ _ from ?_)
      refine Go'.region [(0,0),(1,0),(2,0),(3,0),(4,1),(5,0),(6,0)] rfl ?_
      refine O.mv rfl rfl rfl rfl rfl ?_
      refine O.mv rfl rfl rfl rfl rfl ?_
      refine O.nc rfl rfl rfl rfl rfl ?_
      refine O.fa0 (off := 2) rfl rfl rfl rfl ⟨_,_,_,underlying144,rfl,rfl,sizeOf141⟩ rfl ?_
      refine O.ld rfl rfl rfl (fun w => ⟨isAgg141 w,sizeOf141 w⟩) rfl hN.c2 ?_
      refine O.len rfl rfl rfl rfl underlying141 rfl ?_
      refine O.cmp rfl rfl rfl rfl rfl rfl (lssF (by omega)) ?_
      refine Pl.fin [(5,_),(15,_),(16,_),(59,_)] ⟨rfl,rfl,rfl,rfl,trivial⟩ ?_
      rw [List.drop_of_length_le (by omega)] at ht
      refine Go'.condF rfl ?_
      refine Go'.exit rfl ?_
      refine Go'.seq ?_
      refine Go'.region [(0,0)] rfl ?_
      refine O.asg rfl rfl rfl rfl rfl ?_
      refine Pl.fin [(14,_)] ⟨rfl,trivial⟩ ?_
      refine Go'.ret (vs := [_]) func130 results130 ⟨rfl,trivial⟩ ?_
      replace ht : takes go acc FULL = (A,true) := ht
      unfold CbPost
      rw [ht]
      exact ⟨rfl,Z1,hT,hF,hZ1⟩

theorem nasc {B : World} {g : FuncId} {us cs : List Value} {go : List (Int × Int) → Bool} {M : Nat} (cb : Cb Try.prog B encIt g us cs go M) (hcall : ∀ (args : Array Value) (w : World),(callFunc g args).run Try.prog w = .ok (.enter g args) w) {tr : Nat} {P : Ps} (hP : PsOk P) (mt : Bool) (x : Int × Int) (hv : Value) (hz : Nat → Prop) : ∀ (h : Nat) {Ha : Mem} {bp op dp : Nat} {acc : List (Int × Int)} {Z : Nat → Prop} {t : Gt EA h},VPre (cbH cb hv hz) Ha tr P h t bp op acc Z → Pl.Srt OI (Gt.L h t) → 1 ≤ (Gt.X h t).length → ¬ Z bp → dp + h < 4611686018427387904 →
    Fn Try.prog B 130 [.pointer (some ⟨tr,0,none⟩),.pointer (some ⟨bp,op,none⟩),iv x,hv,.int .i64 (dp : Int),.func (.func g) us.toArray cs.toArray,.bool mt] Ha (fun r H' => r = .bool (takes go acc (Pl.up OI x (Gt.L h t))).2 ∧ CbPost (cbH cb hv hz) acc Z Ha (Pl.up OI x (Gt.L h t)) H')
  | 0,_,_,_,_,_,_,_,hp,hs,hx,hb,hd => nasc0 cb hcall hP mt x hv hz hp hs hx hb hd
  | h + 1,Ha,bp,op,dp,acc,Z,(gg,X,K),hpa,hs,hx1,hbp,hdp => by
    have ih := @nasc B g us cs go M cb hcall tr P hP mt x hv hz h
    replace hx1 : 1 ≤ X.length := hx1
    have hsX : Pl.Srt OI X := (show Pl.Srt OI (Pl.inter X (K.map (Gt.L h))) from hs).sublist (Pl.sublist_inter X _ (by rw [List.length_map]; have := hpa.g.2.2.2.2.2.1; simp only at this; omega))
    refine fn_of func130 rfl ntmps130 ?_
    refine (show Go' _ _ _ _ 89 [(0,_),(1,_),(2,_),(3,_),(4,_),(5,_),(6,_)] [.code _] _ from ?_)
    refine Go'.seq ?_
    have M0 := Mk0.mk' Ha
    have hs0 := M0.size
    have hf0 := M0.fr nowhere
    have hza : ∀ b,Z b → b < Ha.size := fun b hb => (cbH cb hv hz).lt hpa.st hb
    replace hpa := hpa.fr0 hf0 (fun _ _ h => h.elim) hbp ((cbH cb hv hz).fr hpa.st hf0 (fun _ _ _ => nw))
    refine Go'.region [(0,0)] rfl ?_
    refine O.asg rfl rfl rfl rfl rfl ?_
    refine Pl.fin [(0,_),(1,_),(2,_),(3,_),(4,_),(5,_),(6,_),(14,_)] ⟨rfl,rfl,rfl,rfl,rfl,rfl,rfl,rfl,trivial⟩ ?_
    refine Go'.seq ?_
    have hIa : Inn Ha P h gg X ((Gt.ps h K).map some) K := Gt.Good.inn hpa.g
    have hca := hIa.n.c0
    rw [hIa.iso] at hca
    have hxma : X.length ≤ P.mx := hpa.g.2.2.2.2.1
    have hKla : K.length = X.length + 1 := hpa.g.2.2.2.2.2.1
    have hx255a := hP.hx
    obtain ⟨Z0,hT0,hk0,hZe,hZd⟩ := hpa.st
    have hzZ : ∀ b,hz b → Z b := fun b hb => (hZe b).2 (.inr hb)
    refine Go'.region [(0,0),(1,0),(2,0),(3,2),(4,0)] rfl ?_
    refine O.mv rfl rfl rfl rfl rfl ?_
    refine O.mv rfl rfl rfl rfl rfl ?_
    refine O.mv rfl rfl rfl rfl rfl ?_
    refine O.callQ rfl rfl rfl call114 rfl (isoLoad_spec mt hpa.cel hca hpa.tc.iso) trivial ?_
    refine O.asg rfl rfl rfl rfl rfl ?_
    refine Pl.fin [(0,_),(2,_),(3,_),(4,_),(5,_),(6,_),(14,_),(15,_)] ⟨rfl,rfl,rfl,rfl,rfl,rfl,rfl,rfl,trivial⟩ ?_
    refine Go'.seq ?_
    unfold ptr
    refine Go'.region [(0,0),(1,0),(2,0),(3,0),(4,0),(5,2),(6,0),(7,0),(8,0),(9,0),(10,0)] rfl ?_
    refine O.mv rfl rfl rfl rfl rfl ?_
    refine O.mv rfl rfl rfl rfl rfl ?_
    refine O.mv rfl rfl rfl rfl rfl ?_
    refine O.mv rfl rfl rfl rfl rfl ?_
    refine O.mv rfl rfl rfl rfl rfl ?_
    refine O.call rfl rfl rfl call140 rfl (find_spec hpa.tc x hIa.n (hsX) (by omega) hx1 hk0 (fun b o hb hn => hpa.nz b o (.inl hn) (hzZ b hb)) (by omega)) ?_
    rintro _ H ⟨rfl,hFf,hkf⟩
    have hff : Fr (fun b _ => Z b) Ha H := hf0.trans' hFf (fun _ _ _ h => h.elim) (fun b _ _ h => hzZ b h)
    have hp := hpa.fr0 hFf (fun b _ h => hzZ b h) hbp ⟨Z0,cb.fr hT0 hFf (fun b o hb hb2 => hZd b hb hb2),hkf,hZe,hZd⟩
    refine ⟨trivial,?_⟩
    refine O.mv rfl rfl rfl rfl rfl ?_
    refine O.ext rfl rfl rfl rfl rfl rfl ?_
    refine O.ext rfl rfl rfl rfl rfl rfl ?_
    refine O.asg rfl rfl rfl rfl rfl ?_
    refine O.asg rfl rfl rfl rfl rfl ?_
    refine Pl.fin [(0,_),(2,_),(3,_),(4,_),(5,_),(6,_),(14,_),(15,_),(16,_),(17,_)] ⟨rfl,rfl,rfl,rfl,rfl,rfl,rfl,rfl,rfl,rfl,trivial⟩ ?_
    refine Go'.seq ?_
    refine Go'.seq ?_
    refine Go'.mono (Q := fun r H' => r = .bool (takes go acc (Pl.up OI x (Pl.inter X (K.map (Gt.L h))))).2 ∧ CbPost (cbH cb hv hz) acc Z H (Pl.up OI x (Pl.inter X (K.map (Gt.L h)))) H') (fun v H' hq => ⟨hq.1,CbPost.rebase hff hq.2⟩) ?_
    have hsza := hff.size
    clear hpa hca hk0 hT0 hkf hFf hff hIa
    obtain ⟨tc,hg,hc,hnz,hntr,hst,hlen⟩ := hp
    have hI : Inn H P h gg X ((Gt.ps h K).map some) K := hg.inn
    have hKl : K.length = X.length + 1 := hg.2.2.2.2.2.1
    have hxm : X.length ≤ P.mx := hg.2.2.2.2.1
    have hx255 := hP.hx
    have hKL : (K.map (Gt.L h)).length = X.length + 1 := by rw [List.length_map]; exact hKl
    have hol : ((Gt.ps h K).map some).length = X.length + 1 := by rw [List.length_map,Gt.ps,List.length_map]; exact hKl
    replace hlen : acc.length + (Pl.inter X (K.map (Gt.L h))).length ≤ M := hlen
    replace hs : Pl.Srt OI (Pl.inter X (K.map (Gt.L h))) := hs
    have hsX : Pl.Srt OI X := hs.sublist (Pl.sublist_inter X _ (by omega))
    have hlt : ∀ x y,innc h gg K x y → x < H.size := fun x y hb => hI.lt hb
    obtain ⟨_,_,_,hkb⟩ := hI.cells
    have htl : tr < H.size := cl_lt tc.iso
    have hc0 := hI.n.c0
    rw [hI.iso] at hc0
    have hin : ∀ H',Fr (fun x _ => Z x) H H' → Inn H' P h gg X ((Gt.ps h K).map some) K := fun H' hf => hI.fr hf (fun x y hxy hz => hnz x y hxy hz)
    have htc : ∀ H',Fr (fun x _ => Z x) H H' → TrC H' tr P.iso P.mx P.mn := fun H' hf => tc.fr hf fun b o hb _ hz => hntr b hz hb
    have hkid : ∀ {H2 : Mem} {Z1 : Nat → Prop} {A : List (Int × Int)} {j : Nat} {k : Gt EA h},K[j]? = some k → Fr (fun x _ => Z x) H H2 → (cbH cb hv hz).T A Z1 H2 → (∀ b,Z1 b → Z b ∨ H.size ≤ b) → A.length + (Gt.L h k).length ≤ M → VPre (cbH cb hv hz) H2 tr P h k gg.kb (gg.ko + j * 1) A Z1 := by
      intro H2 Z1 A j k hkk hF hT hZ1 hA
      have hkK : k ∈ K := List.mem_of_getElem? hkk
      have hI2 := hin H2 hF
      have hok : ((Gt.ps h K).map some)[j]? = some (some (Gt.p h k)) := by rw [Gt.ps,List.map_map,List.getElem?_map,hkk]; rfl
      exact ⟨htc H2 hF,(hI2.c.1 k hkK).1,hI2.k.at hok,fun b o hb hz => (hZ1 b hz).elim (fun hz => hnz b o (.inr (.inr ⟨k,hkK,hb⟩)) hz) (fun hz => by have := hlt b o (.inr (.inr ⟨k,hkK,hb⟩)); omega),
        fun b hz hb => (hZ1 b hz).elim (fun h => hntr b h hb) (fun h => by have := tc.hb; omega),hT,hA⟩
    have hcat : ∀ {Z1 Z2 : Nat → Prop} {H2 H3 : Mem},Fr (fun x _ => Z x) H H2 → (∀ b,Z1 b → Z b ∨ H.size ≤ b) → Fr (fun x _ => Z1 x) H2 H3 → (∀ b,Z2 b → Z1 b ∨ H2.size ≤ b) → Fr (fun x _ => Z x) H H3 ∧ ∀ b,Z2 b → Z b ∨ H.size ≤ b := by
      intro Z1 Z2 H2 H3 hF hZ1 hF2 hZ2
      have := hF.size
      exact ⟨hF.trans' hF2 (fun _ _ _ h => h) (fun b o hb hz => (hZ1 b hz).elim id (fun h => by omega)),fun b hb => (hZ2 b hb).elim (hZ1 b) (fun h => .inr (by omega))⟩
    have hple := Pl.pos_le OI x X
    have hfle : (Pl.up OI x (Pl.inter X (K.map (Gt.L h)))).length ≤ (Pl.inter X (K.map (Gt.L h))).length := by exact Pl.up_le OI x _
    have hkz : ¬ Z gg.kb := fun e => hnz gg.kb gg.ko (.inr (.inl (show kcl gg gg.kb gg.ko from .inr ⟨rfl,Nat.le_refl _,by have := hI.k.kc; omega⟩))) e
    show Go' _ _ _ (fun r H' => r = .bool (takes go acc (Pl.up OI x (Pl.inter X (K.map (Gt.L h))))).2 ∧ CbPost (cbH cb hv hz) acc Z H (Pl.up OI x (Pl.inter X (K.map (Gt.L h)))) H') _ _ _ _
    cases hfd : Pl.fnd OI x X
    · skip
      obtain ⟨k0,hkk0⟩ : ∃ k,K[Pl.pos OI x X]? = some k := ⟨K[Pl.pos OI x X],List.getElem?_eq_getElem (by omega)⟩
      have hkL0 : (K.map (Gt.L h))[Pl.pos OI x X]? = some (Gt.L h k0) := by rw [List.getElem?_map,hkk0]; rfl
      have hW := (Pl.dn_child OI hs hKL hfd hkL0).2
      have hsk := Pl.child_srt OI hs hKL hfd hkL0
      have hlk : (Gt.L h k0).length ≤ (Pl.inter X (K.map (Gt.L h))).length := by
        rw [(Pl.inter_child OI hs hKL hfd hkL0).1,List.length_append,List.length_append]; omega
      generalize hpi : Pl.pos OI x X = i at *
      generalize hFULL : Pl.up OI x (Pl.inter X (K.map (Gt.L h))) = FULL at *
      refine Go'.region [(0,0),(1,0)] rfl ?_
      refine O.mv rfl rfl rfl rfl rfl ?_
      refine O.not rfl rfl rfl rfl rfl ?_
      refine Pl.fin [(0,_),(2,_),(3,_),(4,_),(5,_),(6,_),(14,_),(15,_),(16,_),(32,_)] ⟨rfl,rfl,rfl,rfl,rfl,rfl,rfl,rfl,rfl,rfl,trivial⟩ ?_
      refine Go'.condT rfl ?_
      refine Go'.seq ?_
      refine Go'.region [(0,0),(1,2),(2,0)] rfl ?_
      refine O.mv rfl rfl rfl rfl rfl ?_
      refine O.callQ rfl rfl rfl call115 rfl (leaf_spec hI.n.c3) trivial ?_
      refine O.not rfl rfl rfl rfl rfl ?_
      refine Pl.fin [(0,_),(2,_),(3,_),(4,_),(5,_),(6,_),(14,_),(15,_),(16,_),(35,_)] ⟨rfl,rfl,rfl,rfl,rfl,rfl,rfl,rfl,rfl,rfl,trivial⟩ ?_
      refine Go'.condT rfl ?_
      refine Go'.seq ?_
      refine Go'.region [(0,0),(1,0),(2,0),(3,0),(4,1),(5,0),(6,1),(7,0),(8,0),(9,0),(10,0),(11,0),(12,0),(13,0),(14,0),(15,2),(16,0)] rfl ?_
      refine O.mv rfl rfl rfl rfl rfl ?_
      refine O.mv rfl rfl rfl rfl rfl ?_
      refine O.nc rfl rfl rfl rfl rfl ?_
      refine O.fa0 (off := 3) rfl rfl rfl rfl ⟨_,_,_,underlying144,rfl,rfl,sizeOf142⟩ rfl ?_
      refine O.ld rfl rfl rfl (fun w => ⟨isAgg142 w,sizeOf142 w⟩) rfl hI.n.c3 ?_
      refine O.nc rfl rfl rfl rfl rfl ?_
      refine O.ld rfl rfl rfl (fun w => ⟨isAgg145 w,sizeOf145 w⟩) rfl hI.k.c ?_
      refine O.mv rfl rfl rfl rfl rfl ?_
      refine O.ix (j := i) rfl rfl rfl rfl underlying145 sizeOf96 rfl rfl (by omega) (by omega) ?_
      refine O.mv rfl rfl rfl rfl rfl ?_
      refine O.mv rfl rfl rfl rfl rfl ?_
      refine O.mv rfl rfl rfl rfl rfl ?_
      refine O.add (((dp + 1 : Nat) : Int)) rfl rfl rfl rfl rfl rfl (by omega) (by omega) ?_
      refine O.mv rfl rfl rfl rfl rfl ?_
      refine O.mv rfl rfl rfl rfl rfl ?_
      refine O.call rfl rfl rfl call130 rfl (ih (dp := dp + 1) (hkid hkk0 (Fr.refl _ _) hst (fun b hb => .inl hb) (by omega)) hsk (Nat.le_trans hP.h1 (hI.c.1 k0 (List.mem_of_getElem? hkk0)).2.1) hkz (by omega)) ?_
      rintro _ H2 ⟨rfl,Z2,hT2,hF2,hZ2⟩
      refine ⟨trivial,?_⟩
      refine O.not rfl rfl rfl rfl rfl ?_
      refine Pl.fin [(0,_),(5,_),(6,_),(14,_),(15,_),(16,_),(52,_)] ⟨rfl,rfl,rfl,rfl,rfl,rfl,rfl,trivial⟩ ?_
      cases htk0 : (takes go acc (Pl.up OI x (Gt.L h k0))).2
      · skip
        refine Go'.condT rfl ?_
        refine Go'.seq ?_
        refine Go'.region [(0,0)] rfl ?_
        refine O.asg rfl rfl rfl rfl rfl ?_
        refine Pl.fin [(0,_),(5,_),(6,_),(14,_),(15,_),(16,_)] ⟨rfl,rfl,rfl,rfl,rfl,rfl,trivial⟩ ?_
        refine Go'.ret (vs := [_]) func130 results130 ⟨rfl,trivial⟩ ?_
        have e2 := takes_halt (r := Pl.post (X.drop (i)) ((K.map (Gt.L h)).drop (i + 1))) htk0
        rw [← hW] at e2
        unfold CbPost
        rw [e2]
        exact ⟨by rw [htk0]; rfl,Z2,hT2,hF2,hZ2⟩
      · skip
        refine Go'.condF rfl ?_
        refine Go'.skip ?_
        refine Go'.seq ?_
        refine Go'.block ?_
        have e2 := takes_rest (r := Pl.post (X.drop (i)) ((K.map (Gt.L h)).drop (i + 1))) htk0
        rw [← hW] at e2
        have htl := takes_length go (Pl.up OI x (Gt.L h k0)) acc
        rw [hW,List.length_append] at hfle
        generalize (takes go acc (Pl.up OI x (Gt.L h k0))).1 = A0 at *
        refine Go'.loop ?_
        refine Go'.keep [(0,_),(5,_),(6,_),(15,_),(16,_)] ⟨rfl,rfl,rfl,rfl,rfl,trivial⟩ ?_
        refine Go'.ind (σ := Nat × Int × (Nat → Prop) × List (Int × Int)) (fun s => X.length - s.1) (fun s H' => s.1 ≤ X.length ∧ s.2.1 = (s.1 : Int) ∧ takes go acc FULL = takes go s.2.2.2 (Pl.post (X.drop (s.1)) ((K.map (Gt.L h)).drop (s.1 + 1))) ∧ (cbH cb hv hz).T s.2.2.2 s.2.2.1 H' ∧ Fr (fun b _ => Z b) H H' ∧ (∀ b,s.2.2.1 b → Z b ∨ H.size ≤ b) ∧ s.2.2.2.length + (Pl.post (X.drop (s.1)) ((K.map (Gt.L h)).drop (s.1 + 1))).length ≤ M)
          (fun s => [(0,.pointer (some ⟨tr,0,none⟩)),(5,.func (.func g) us.toArray cs.toArray),(6,.bool mt),(15,.pointer (some ⟨gg.p,0,none⟩)),(16,.int .i64 s.2.1)]) (i,(i : Int),Z2,A0) ⟨by (try simp only) <;> omega,by (try simp only) <;> omega,e2,hT2,hF2,hZ2,by (try simp only) <;> omega⟩ rfl ?_
        rintro ⟨j,z,Z1,A⟩ H3 ⟨hj,hz,ht,hT,hF,hZ1,hAM⟩ ih2
        simp only at hj hz ht hT hZ1 hAM
        subst hz
        have hI3 := hin H3 hF
        refine Go'.seq ?_
        refine Go'.seq ?_
        by_cases hlt2 : j < X.length
        · skip
          obtain ⟨y,hy⟩ : ∃ y,X[j]? = some y := ⟨X[j],List.getElem?_eq_getElem (by omega)⟩
          obtain ⟨k,hkk⟩ : ∃ k,K[j + 1]? = some k := ⟨K[j + 1],List.getElem?_eq_getElem (by omega)⟩
          have hkL : (K.map (Gt.L h))[j + 1]? = some (Gt.L h k) := by rw [List.getElem?_map,hkk]; rfl
          rw [Pl.post_succ hy hkL] at ht hAM
          rw [List.length_cons,List.length_append] at hAM
          refine (show Go' _ _ _ _ _ [(0,.pointer (some ⟨tr,0,none⟩)),(5,.func (.func g) us.toArray cs.toArray),(6,.bool mt),(15,.pointer (some ⟨gg.p,0,none⟩)),(16,.int .i64 ((j : Int)))] _ _ from ?_)
          refine Go'.region [(0,0),(1,0),(2,0),(3,0),(4,1),(5,0),(6,0)] rfl ?_
          refine O.mv rfl rfl rfl rfl rfl ?_
          refine O.mv rfl rfl rfl rfl rfl ?_
          refine O.nc rfl rfl rfl rfl rfl ?_
          refine O.fa0 (off := 2) rfl rfl rfl rfl ⟨_,_,_,underlying144,rfl,rfl,sizeOf141⟩ rfl ?_
          refine O.ld rfl rfl rfl (fun w => ⟨isAgg141 w,sizeOf141 w⟩) rfl hI3.n.c2 ?_
          refine O.len rfl rfl rfl rfl underlying141 rfl ?_
          refine O.cmp rfl rfl rfl rfl rfl rfl (lssT (by omega)) ?_
          refine Pl.fin [(0,_),(5,_),(6,_),(15,_),(16,_),(59,_)] ⟨rfl,rfl,rfl,rfl,rfl,rfl,trivial⟩ ?_
          refine Go'.condT rfl ?_
          refine Go'.skip ?_
          refine Go'.seq ?_
          refine Go'.block ?_
          refine Go'.seq ?_
          refine Go'.seq ?_
          cases hgo : go (A ++ [y])
          · skip
            refine Go'.region [(0,0),(1,0),(2,0),(3,0),(4,1),(5,0),(6,0),(7,1),(8,2),(9,0)] rfl ?_
            refine O.mv rfl rfl rfl rfl rfl ?_
            refine O.mv rfl rfl rfl rfl rfl ?_
            refine O.nc rfl rfl rfl rfl rfl ?_
            refine O.fa0 (off := 2) rfl rfl rfl rfl ⟨_,_,_,underlying144,rfl,rfl,sizeOf141⟩ rfl ?_
            refine O.ld rfl rfl rfl (fun w => ⟨isAgg141 w,sizeOf141 w⟩) rfl hI3.n.c2 ?_
            refine O.mv rfl rfl rfl rfl rfl ?_
            refine O.ix (j := j) rfl rfl rfl rfl underlying141 sizeOf20 rfl rfl (by omega) (by omega) ?_
            refine O.ld rfl rfl rfl (fun w => ⟨isAgg20 w,sizeOf20 w⟩) rfl (((hI3.n.sl.item hy)) 0 _ rfl) ?_
            refine O.callC rfl rfl rfl rfl hcall rfl ((cbH cb hv hz).call y hT (by omega)) ?_
            rintro _ H4 ⟨rfl,Z4,hT4,hF4,hZ4⟩
            rw [hgo]
            obtain ⟨hF5,hZ5⟩ := hcat hF hZ1 hF4 hZ4
            refine ⟨trivial,?_⟩
            refine O.not rfl rfl rfl rfl rfl ?_
            refine Pl.fin [(0,_),(5,_),(6,_),(15,_),(16,_),(59,_),(71,_)] ⟨rfl,rfl,rfl,rfl,rfl,rfl,rfl,trivial⟩ ?_
            refine Go'.condT rfl ?_
            refine Go'.seq ?_
            refine Go'.region [(0,0)] rfl ?_
            refine O.asg rfl rfl rfl rfl rfl ?_
            refine Pl.fin [(0,_),(5,_),(6,_),(14,_),(15,_),(16,_),(59,_),(71,_)] ⟨rfl,rfl,rfl,rfl,rfl,rfl,rfl,rfl,trivial⟩ ?_
            refine Go'.ret (vs := [_]) func130 results130 ⟨rfl,trivial⟩ ?_
            rw [takes_cons,hgo] at ht
            unfold CbPost
            rw [ht]
            exact ⟨rfl,Z4,hT4,hF5,hZ5⟩
          · skip
            refine Go'.region [(0,0),(1,0),(2,0),(3,0),(4,1),(5,0),(6,0),(7,1),(8,2),(9,0)] rfl ?_
            refine O.mv rfl rfl rfl rfl rfl ?_
            refine O.mv rfl rfl rfl rfl rfl ?_
            refine O.nc rfl rfl rfl rfl rfl ?_
            refine O.fa0 (off := 2) rfl rfl rfl rfl ⟨_,_,_,underlying144,rfl,rfl,sizeOf141⟩ rfl ?_
            refine O.ld rfl rfl rfl (fun w => ⟨isAgg141 w,sizeOf141 w⟩) rfl hI3.n.c2 ?_
            refine O.mv rfl rfl rfl rfl rfl ?_
            refine O.ix (j := j) rfl rfl rfl rfl underlying141 sizeOf20 rfl rfl (by omega) (by omega) ?_
            refine O.ld rfl rfl rfl (fun w => ⟨isAgg20 w,sizeOf20 w⟩) rfl (((hI3.n.sl.item hy)) 0 _ rfl) ?_
            refine O.callC rfl rfl rfl rfl hcall rfl ((cbH cb hv hz).call y hT (by omega)) ?_
            rintro _ H4 ⟨rfl,Z4,hT4,hF4,hZ4⟩
            rw [hgo]
            obtain ⟨hF5,hZ5⟩ := hcat hF hZ1 hF4 hZ4
            refine ⟨trivial,?_⟩
            refine O.not rfl rfl rfl rfl rfl ?_
            refine Pl.fin [(0,_),(5,_),(6,_),(15,_),(16,_),(59,_),(71,_)] ⟨rfl,rfl,rfl,rfl,rfl,rfl,rfl,trivial⟩ ?_
            rw [takes_cons,hgo,if_pos rfl] at ht
            refine Go'.condF rfl ?_
            refine Go'.skip ?_
            refine Go'.seq ?_
            have hI4 := hin H4 hF5
            have hAy : (A ++ [y]).length = A.length + 1 := by simp
            refine Go'.region [(0,0),(1,2),(2,0)] rfl ?_
            refine O.mv rfl rfl rfl rfl rfl ?_
            refine O.callQ rfl rfl rfl call115 rfl (leaf_spec hI4.n.c3) trivial ?_
            refine O.not rfl rfl rfl rfl rfl ?_
            refine Pl.fin [(0,_),(5,_),(6,_),(15,_),(16,_),(59,_),(71,_),(74,_)] ⟨rfl,rfl,rfl,rfl,rfl,rfl,rfl,rfl,trivial⟩ ?_
            refine Go'.condT rfl ?_
            refine Go'.seq ?_
            refine Go'.region [(0,0),(1,0),(2,0),(3,0),(4,1),(5,0),(6,1),(7,0),(8,0),(9,0),(10,0),(11,0),(12,2),(13,0)] rfl ?_
            refine O.mv rfl rfl rfl rfl rfl ?_
            refine O.mv rfl rfl rfl rfl rfl ?_
            refine O.nc rfl rfl rfl rfl rfl ?_
            refine O.fa0 (off := 3) rfl rfl rfl rfl ⟨_,_,_,underlying144,rfl,rfl,sizeOf142⟩ rfl ?_
            refine O.ld rfl rfl rfl (fun w => ⟨isAgg142 w,sizeOf142 w⟩) rfl hI4.n.c3 ?_
            refine O.nc rfl rfl rfl rfl rfl ?_
            refine O.ld rfl rfl rfl (fun w => ⟨isAgg145 w,sizeOf145 w⟩) rfl hI4.k.c ?_
            refine O.mv rfl rfl rfl rfl rfl ?_
            refine O.add (((j + 1 : Nat) : Int)) rfl rfl rfl rfl rfl rfl (by omega) (by omega) ?_
            refine O.ix (j := j + 1) rfl rfl rfl rfl underlying145 sizeOf96 rfl rfl (by omega) (by omega) ?_
            refine O.mv rfl rfl rfl rfl rfl ?_
            refine O.mv rfl rfl rfl rfl rfl ?_
            refine O.call rfl rfl rfl call129 rfl (nscan (cbH cb hv hz) hcall hP mt h (hkid hkk hF5 hT4 hZ5 (by omega))) ?_
            rintro _ H6 ⟨rfl,Z6,hT6,hF6,hZ6⟩
            obtain ⟨hF7,hZ7⟩ := hcat hF5 hZ5 hF6 hZ6
            refine ⟨trivial,?_⟩
            refine O.not rfl rfl rfl rfl rfl ?_
            refine Pl.fin [(0,_),(5,_),(6,_),(15,_),(16,_),(59,_),(71,_),(74,_),(88,_)] ⟨rfl,rfl,rfl,rfl,rfl,rfl,rfl,rfl,rfl,trivial⟩ ?_
            cases htk2 : (takes go (A ++ [y]) (Gt.L h k)).2
            · skip
              refine Go'.condT rfl ?_
              refine Go'.seq ?_
              refine Go'.region [(0,0)] rfl ?_
              refine O.asg rfl rfl rfl rfl rfl ?_
              refine Pl.fin [(0,_),(5,_),(6,_),(14,_),(15,_),(16,_),(59,_),(71,_),(74,_),(88,_)] ⟨rfl,rfl,rfl,rfl,rfl,rfl,rfl,rfl,rfl,rfl,trivial⟩ ?_
              refine Go'.ret (vs := [_]) func130 results130 ⟨rfl,trivial⟩ ?_
              rw [takes_halt htk2] at ht
              unfold CbPost
              rw [ht]
              exact ⟨by rw [htk2]; rfl,Z6,hT6,hF7,hZ7⟩
            · skip
              refine Go'.condF rfl ?_
              refine Go'.skip ?_
              refine Go'.inBlock ?_
              have htl := takes_length go (Gt.L h k) (A ++ [y])
              refine Go'.region [(0,0),(1,0),(2,0)] rfl ?_
              refine O.mv rfl rfl rfl rfl rfl ?_
              refine O.add (((j + 1 : Nat) : Int)) rfl rfl rfl rfl rfl rfl (by omega) (by omega) ?_
              refine O.asg rfl rfl rfl rfl rfl ?_
              refine Pl.fin [(0,_),(5,_),(6,_),(15,_),(16,_),(59,_),(71,_),(74,_),(88,_)] ⟨rfl,rfl,rfl,rfl,rfl,rfl,rfl,rfl,rfl,trivial⟩ ?_
              refine Go'.keep [(0,_),(5,_),(6,_),(15,_),(16,_)] ⟨rfl,rfl,rfl,rfl,rfl,trivial⟩ ?_
              refine Go'.inLoop ?_
              rw [takes_rest htk2] at ht
              generalize (takes go (A ++ [y]) (Gt.L h k)).1 = A6 at *
              exact ih2 (j + 1,_,Z6,A6) H6 ⟨by (try simp only) <;> omega,rfl,ht,hT6,hF7,hZ7,by (try simp only) <;> omega⟩ (by (try simp only) <;> omega)
        · skip
          refine (show Go' _ _ _ _ _ [(0,.pointer (some ⟨tr,0,none⟩)),(5,.func (.func g) us.toArray cs.toArray),(6,.bool mt),(15,.pointer (some ⟨gg.p,0,none⟩)),(16,.int .i64 ((j : Int)))] _ _ from ?_)
          refine Go'.region [(0,0),(1,0),(2,0),(3,0),(4,1),(5,0),(6,0)] rfl ?_
          refine O.mv rfl rfl rfl rfl rfl ?_
          refine O.mv rfl rfl rfl rfl rfl ?_
          refine O.nc rfl rfl rfl rfl rfl ?_
          refine O.fa0 (off := 2) rfl rfl rfl rfl ⟨_,_,_,underlying144,rfl,rfl,sizeOf141⟩ rfl ?_
          refine O.ld rfl rfl rfl (fun w => ⟨isAgg141 w,sizeOf141 w⟩) rfl hI3.n.c2 ?_
          refine O.len rfl rfl rfl rfl underlying141 rfl ?_
          refine O.cmp rfl rfl rfl rfl rfl rfl (lssF (by omega)) ?_
          refine Pl.fin [(0,_),(5,_),(6,_),(15,_),(16,_),(59,_)] ⟨rfl,rfl,rfl,rfl,rfl,rfl,trivial⟩ ?_
          rw [List.drop_of_length_le (show X.length ≤ j by omega)] at ht
          refine Go'.condF rfl ?_
          refine Go'.exit rfl ?_
          refine Go'.seq ?_
          refine Go'.region [(0,0)] rfl ?_
          refine O.asg rfl rfl rfl rfl rfl ?_
          refine Pl.fin [(14,_)] ⟨rfl,trivial⟩ ?_
          refine Go'.ret (vs := [_]) func130 results130 ⟨rfl,trivial⟩ ?_
          replace ht : takes go acc FULL = (A,true) := ht
          unfold CbPost
          rw [ht]
          exact ⟨rfl,Z1,hT,hF,hZ1⟩
    · skip
      have hW := (Pl.dn_found OI hs hKL hfd).2
      have hlt1 := Pl.fnd_pos_lt OI hfd
      generalize hpi : Pl.pos OI x X = i at *
      generalize hFULL : Pl.up OI x (Pl.inter X (K.map (Gt.L h))) = FULL at *
      refine Go'.region [(0,0),(1,0)] rfl ?_
      refine O.mv rfl rfl rfl rfl rfl ?_
      refine O.not rfl rfl rfl rfl rfl ?_
      refine Pl.fin [(0,_),(2,_),(3,_),(4,_),(5,_),(6,_),(14,_),(15,_),(16,_),(32,_)] ⟨rfl,rfl,rfl,rfl,rfl,rfl,rfl,rfl,rfl,rfl,trivial⟩ ?_
      refine Go'.condF rfl ?_
      refine Go'.skip ?_
      refine Go'.seq ?_
      refine Go'.block ?_
      refine Go'.loop ?_
      refine Go'.keep [(0,_),(5,_),(6,_),(15,_),(16,_)] ⟨rfl,rfl,rfl,rfl,rfl,trivial⟩ ?_
      refine Go'.ind (σ := Nat × Int × (Nat → Prop) × List (Int × Int)) (fun s => X.length - s.1) (fun s H' => s.1 ≤ X.length ∧ s.2.1 = (s.1 : Int) ∧ takes go acc FULL = takes go s.2.2.2 (Pl.post (X.drop (s.1)) ((K.map (Gt.L h)).drop (s.1 + 1))) ∧ (cbH cb hv hz).T s.2.2.2 s.2.2.1 H' ∧ Fr (fun b _ => Z b) H H' ∧ (∀ b,s.2.2.1 b → Z b ∨ H.size ≤ b) ∧ s.2.2.2.length + (Pl.post (X.drop (s.1)) ((K.map (Gt.L h)).drop (s.1 + 1))).length ≤ M)
        (fun s => [(0,.pointer (some ⟨tr,0,none⟩)),(5,.func (.func g) us.toArray cs.toArray),(6,.bool mt),(15,.pointer (some ⟨gg.p,0,none⟩)),(16,.int .i64 s.2.1)]) (i,(i : Int),Z,acc) ⟨by (try simp only) <;> omega,by (try simp only) <;> omega,by rw [hW],hst,(Fr.refl _ _),fun b hb => .inl hb,by rw [hW] at hfle; simp only; omega⟩ rfl ?_
      rintro ⟨j,z,Z1,A⟩ H3 ⟨hj,hz,ht,hT,hF,hZ1,hAM⟩ ih2
      simp only at hj hz ht hT hZ1 hAM
      subst hz
      have hI3 := hin H3 hF
      refine Go'.seq ?_
      refine Go'.seq ?_
      by_cases hlt2 : j < X.length
      · skip
        obtain ⟨y,hy⟩ : ∃ y,X[j]? = some y := ⟨X[j],List.getElem?_eq_getElem (by omega)⟩
        obtain ⟨k,hkk⟩ : ∃ k,K[j + 1]? = some k := ⟨K[j + 1],List.getElem?_eq_getElem (by omega)⟩
        have hkL : (K.map (Gt.L h))[j + 1]? = some (Gt.L h k) := by rw [List.getElem?_map,hkk]; rfl
        rw [Pl.post_succ hy hkL] at ht hAM
        rw [List.length_cons,List.length_append] at hAM
        refine (show Go' _ _ _ _ _ [(0,.pointer (some ⟨tr,0,none⟩)),(5,.func (.func g) us.toArray cs.toArray),(6,.bool mt),(15,.pointer (some ⟨gg.p,0,none⟩)),(16,.int .i64 ((j : Int)))] _ _ from ?_)
        refine Go'.region [(0,0),(1,0),(2,0),(3,0),(4,1),(5,0),(6,0)] rfl ?_
        refine O.mv rfl rfl rfl rfl rfl ?_
        refine O.mv rfl rfl rfl rfl rfl ?_
        refine O.nc rfl rfl rfl rfl rfl ?_
        refine O.fa0 (off := 2) rfl rfl rfl rfl ⟨_,_,_,underlying144,rfl,rfl,sizeOf141⟩ rfl ?_
        refine O.ld rfl rfl rfl (fun w => ⟨isAgg141 w,sizeOf141 w⟩) rfl hI3.n.c2 ?_
        refine O.len rfl rfl rfl rfl underlying141 rfl ?_
        refine O.cmp rfl rfl rfl rfl rfl rfl (lssT (by omega)) ?_
        refine Pl.fin [(0,_),(5,_),(6,_),(15,_),(16,_),(59,_)] ⟨rfl,rfl,rfl,rfl,rfl,rfl,trivial⟩ ?_
        refine Go'.condT rfl ?_
        refine Go'.skip ?_
        refine Go'.seq ?_
        refine Go'.block ?_
        refine Go'.seq ?_
        refine Go'.seq ?_
        cases hgo : go (A ++ [y])
        · skip
          refine Go'.region [(0,0),(1,0),(2,0),(3,0),(4,1),(5,0),(6,0),(7,1),(8,2),(9,0)] rfl ?_
          refine O.mv rfl rfl rfl rfl rfl ?_
          refine O.mv rfl rfl rfl rfl rfl ?_
          refine O.nc rfl rfl rfl rfl rfl ?_
          refine O.fa0 (off := 2) rfl rfl rfl rfl ⟨_,_,_,underlying144,rfl,rfl,sizeOf141⟩ rfl ?_
          refine O.ld rfl rfl rfl (fun w => ⟨isAgg141 w,sizeOf141 w⟩) rfl hI3.n.c2 ?_
          refine O.mv rfl rfl rfl rfl rfl ?_
          refine O.ix (j := j) rfl rfl rfl rfl underlying141 sizeOf20 rfl rfl (by omega) (by omega) ?_
          refine O.ld rfl rfl rfl (fun w => ⟨isAgg20 w,sizeOf20 w⟩) rfl (((hI3.n.sl.item hy)) 0 _ rfl) ?_
          refine O.callC rfl rfl rfl rfl hcall rfl ((cbH cb hv hz).call y hT (by omega)) ?_
          rintro _ H4 ⟨rfl,Z4,hT4,hF4,hZ4⟩
          rw [hgo]
          obtain ⟨hF5,hZ5⟩ := hcat hF hZ1 hF4 hZ4
          refine ⟨trivial,?_⟩
          refine O.not rfl rfl rfl rfl rfl ?_
          refine Pl.fin [(0,_),(5,_),(6,_),(15,_),(16,_),(59,_),(71,_)] ⟨rfl,rfl,rfl,rfl,rfl,rfl,rfl,trivial⟩ ?_
          refine Go'.condT rfl ?_
          refine Go'.seq ?_
          refine Go'.region [(0,0)] rfl ?_
          refine O.asg rfl rfl rfl rfl rfl ?_
          refine Pl.fin [(0,_),(5,_),(6,_),(14,_),(15,_),(16,_),(59,_),(71,_)] ⟨rfl,rfl,rfl,rfl,rfl,rfl,rfl,rfl,trivial⟩ ?_
          refine Go'.ret (vs := [_]) func130 results130 ⟨rfl,trivial⟩ ?_
          rw [takes_cons,hgo] at ht
          unfold CbPost
          rw [ht]
          exact ⟨rfl,Z4,hT4,hF5,hZ5⟩
        · skip
          refine Go'.region [(0,0),(1,0),(2,0),(3,0),(4,1),(5,0),(6,0),(7,1),(8,2),(9,0)] rfl ?_
          refine O.mv rfl rfl rfl rfl rfl ?_
          refine O.mv rfl rfl rfl rfl rfl ?_
          refine O.nc rfl rfl rfl rfl rfl ?_
          refine O.fa0 (off := 2) rfl rfl rfl rfl ⟨_,_,_,underlying144,rfl,rfl,sizeOf141⟩ rfl ?_
          refine O.ld rfl rfl rfl (fun w => ⟨isAgg141 w,sizeOf141 w⟩) rfl hI3.n.c2 ?_
          refine O.mv rfl rfl rfl rfl rfl ?_
          refine O.ix (j := j) rfl rfl rfl rfl underlying141 sizeOf20 rfl rfl (by omega) (by omega) ?_
          refine O.ld rfl rfl rfl (fun w => ⟨isAgg20 w,sizeOf20 w⟩) rfl (((hI3.n.sl.item hy)) 0 _ rfl) ?_
          refine O.callC rfl rfl rfl rfl hcall rfl ((cbH cb hv hz).call y hT (by omega)) ?_
          rintro _ H4 ⟨rfl,Z4,hT4,hF4,hZ4⟩
          rw [hgo]
          obtain ⟨hF5,hZ5⟩ := hcat hF hZ1 hF4 hZ4
          refine ⟨trivial,?_⟩
          refine O.not rfl rfl rfl rfl rfl ?_
          refine Pl.fin [(0,_),(5,_),(6,_),(15,_),(16,_),(59,_),(71,_)] ⟨rfl,rfl,rfl,rfl,rfl,rfl,rfl,trivial⟩ ?_
          rw [takes_cons,hgo,if_pos rfl] at ht
          refine Go'.condF rfl ?_
          refine Go'.skip ?_
          refine Go'.seq ?_
          have hI4 := hin H4 hF5
          have hAy : (A ++ [y]).length = A.length + 1 := by simp
          refine Go'.region [(0,0),(1,2),(2,0)] rfl ?_
          refine O.mv rfl rfl rfl rfl rfl ?_
          refine O.callQ rfl rfl rfl call115 rfl (leaf_spec hI4.n.c3) trivial ?_
          refine O.not rfl rfl rfl rfl rfl ?_
          refine Pl.fin [(0,_),(5,_),(6,_),(15,_),(16,_),(59,_),(71,_),(74,_)] ⟨rfl,rfl,rfl,rfl,rfl,rfl,rfl,rfl,trivial⟩ ?_
          refine Go'.condT rfl ?_
          refine Go'.seq ?_
          refine Go'.region [(0,0),(1,0),(2,0),(3,0),(4,1),(5,0),(6,1),(7,0),(8,0),(9,0),(10,0),(11,0),(12,2),(13,0)] rfl ?_
          refine O.mv rfl rfl rfl rfl rfl ?_
          refine O.mv rfl rfl rfl rfl rfl ?_
          refine O.nc rfl rfl rfl rfl rfl ?_
          refine O.fa0 (off := 3) rfl rfl rfl rfl ⟨_,_,_,underlying144,rfl,rfl,sizeOf142⟩ rfl ?_
          refine O.ld rfl rfl rfl (fun w => ⟨isAgg142 w,sizeOf142 w⟩) rfl hI4.n.c3 ?_
          refine O.nc rfl rfl rfl rfl rfl ?_
          refine O.ld rfl rfl rfl (fun w => ⟨isAgg145 w,sizeOf145 w⟩) rfl hI4.k.c ?_
          refine O.mv rfl rfl rfl rfl rfl ?_
          refine O.add (((j + 1 : Nat) : Int)) rfl rfl rfl rfl rfl rfl (by omega) (by omega) ?_
          refine O.ix (j := j + 1) rfl rfl rfl rfl underlying145 sizeOf96 rfl rfl (by omega) (by omega) ?_
          refine O.mv rfl rfl rfl rfl rfl ?_
          refine O.mv rfl rfl rfl rfl rfl ?_
          refine O.call rfl rfl rfl call129 rfl (nscan (cbH cb hv hz) hcall hP mt h (hkid hkk hF5 hT4 hZ5 (by omega))) ?_
          rintro _ H6 ⟨rfl,Z6,hT6,hF6,hZ6⟩
          obtain ⟨hF7,hZ7⟩ := hcat hF5 hZ5 hF6 hZ6
          refine ⟨trivial,?_⟩
          refine O.not rfl rfl rfl rfl rfl ?_
          refine Pl.fin [(0,_),(5,_),(6,_),(15,_),(16,_),(59,_),(71,_),(74,_),(88,_)] ⟨rfl,rfl,rfl,rfl,rfl,rfl,rfl,rfl,rfl,trivial⟩ ?_
          cases htk2 : (takes go (A ++ [y]) (Gt.L h k)).2
          · skip
            refine Go'.condT rfl ?_
            refine Go'.seq ?_
            refine Go'.region [(0,0)] rfl ?_
            refine O.asg rfl rfl rfl rfl rfl ?_
            refine Pl.fin [(0,_),(5,_),(6,_),(14,_),(15,_),(16,_),(59,_),(71,_),(74,_),(88,_)] ⟨rfl,rfl,rfl,rfl,rfl,rfl,rfl,rfl,rfl,rfl,trivial⟩ ?_
            refine Go'.ret (vs := [_]) func130 results130 ⟨rfl,trivial⟩ ?_
            rw [takes_halt htk2] at ht
            unfold CbPost
            rw [ht]
            exact ⟨by rw [htk2]; rfl,Z6,hT6,hF7,hZ7⟩
          · skip
            refine Go'.condF rfl ?_
            refine Go'.skip ?_
            refine Go'.inBlock ?_
            have htl := takes_length go (Gt.L h k) (A ++ [y])
            refine Go'.region [(0,0),(1,0),(2,0)] rfl ?_
            refine O.mv rfl rfl rfl rfl rfl ?_
            refine O.add (((j + 1 : Nat) : Int)) rfl rfl rfl rfl rfl rfl (by omega) (by omega) ?_
            refine O.asg rfl rfl rfl rfl rfl ?_
            refine Pl.fin [(0,_),(5,_),(6,_),(15,_),(16,_),(59,_),(71,_),(74,_),(88,_)] ⟨rfl,rfl,rfl,rfl,rfl,rfl,rfl,rfl,rfl,trivial⟩ ?_
            refine Go'.keep [(0,_),(5,_),(6,_),(15,_),(16,_)] ⟨rfl,rfl,rfl,rfl,rfl,trivial⟩ ?_
            refine Go'.inLoop ?_
            rw [takes_rest htk2] at ht
            generalize (takes go (A ++ [y]) (Gt.L h k)).1 = A6 at *
            exact ih2 (j + 1,_,Z6,A6) H6 ⟨by (try simp only) <;> omega,rfl,ht,hT6,hF7,hZ7,by (try simp only) <;> omega⟩ (by (try simp only) <;> omega)
      · skip
        refine (show Go' _ _ _ _ _ [(0,.pointer (some ⟨tr,0,none⟩)),(5,.func (.func g) us.toArray cs.toArray),(6,.bool mt),(15,.pointer (some ⟨gg.p,0,none⟩)),(16,.int .i64 ((j : Int)))] _ _ from ?_)
        refine Go'.region [(0,0),(1,0),(2,0),(3,0),(4,1),(5,0),(6,0)] rfl ?_
        refine O.mv rfl rfl rfl rfl rfl ?_
        refine O.mv rfl rfl rfl rfl rfl ?_
        refine O.nc rfl rfl rfl rfl rfl ?_
        refine O.fa0 (off := 2) rfl rfl rfl rfl ⟨_,_,_,underlying144,rfl,rfl,sizeOf141⟩ rfl ?_
        refine O.ld rfl rfl rfl (fun w => ⟨isAgg141 w,sizeOf141 w⟩) rfl hI3.n.c2 ?_
        refine O.len rfl rfl rfl rfl underlying141 rfl ?_
        refine O.cmp rfl rfl rfl rfl rfl rfl (lssF (by omega)) ?_
        refine Pl.fin [(0,_),(5,_),(6,_),(15,_),(16,_),(59,_)] ⟨rfl,rfl,rfl,rfl,rfl,rfl,trivial⟩ ?_
        rw [List.drop_of_length_le (show X.length ≤ j by omega)] at ht
        refine Go'.condF rfl ?_
        refine Go'.exit rfl ?_
        refine Go'.seq ?_
        refine Go'.region [(0,0)] rfl ?_
        refine O.asg rfl rfl rfl rfl rfl ?_
        refine Pl.fin [(14,_)] ⟨rfl,trivial⟩ ?_
        refine Go'.ret (vs := [_]) func130 results130 ⟨rfl,trivial⟩ ?_
        replace ht : takes go acc FULL = (A,true) := ht
        unfold CbPost
        rw [ht]
        exact ⟨rfl,Z1,hT,hF,hZ1⟩

end
section
variable [Inhabited Cx]
theorem ascend_spec {B : World} {g : FuncId} {us cs : List Value} {go : List (Int × Int) → Bool} {M : Nat} (cb : Cb Try.prog B encIt g us cs go M) (hcall : ∀ (args : Array Value) (w : World),(callFunc g args).run Try.prog w = .ok (.enter g args) w) {tr : Nat} {P : Ps} (hP : PsOk P) (mt : Bool) (x : Int × Int) {H : Mem} {S : Nat → Prop} {l : List (Int × Int)} {Z : Nat → Prop} (hM : MapM H tr P S l) (hT : cb.T [] Z H) (hd : ∀ b,S b → ¬ Z b) (hnb : ∀ b,Z b → ¬ (b < cx.base ∧ cx.own b)) (hl : l.length ≤ M) (hM6 : M ≤ 4294967296) {hv : Value} {hz : Nat → Prop} (hk : HintOk H hv hz) (hzS : ∀ b,hz b → ¬ S b) (hzZ : ∀ b,Z b → ¬ hz b) :
    Fn Try.prog B 103 [.pointer (some ⟨tr,0,none⟩),iv x,.func (.func g) us.toArray cs.toArray,.bool mt,hv] H (fun _ H' => ∃ Z',cb.T (takes go [] (Pl.up OI x (l))).1 Z' H' ∧ Fr (fun b _ => Z b ∨ hz b) H H' ∧ ∀ b,Z' b → Z b ∨ H.size ≤ b) := by
  have hzb := hk.base
  have hTl : ∀ b,Z b → b < H.size := fun b hb => cb.lt hT hb
  refine fn_of func103 rfl ntmps103 ?_
  refine (show Go' _ _ _ _ 29 [(0,_),(1,_),(2,_),(3,_),(4,_)] [.code _] _ from ?_)
  refine Go'.seq ?_
  refine Go'.seq ?_
  have M0 := Mk0.mk' H
  have hs0 := M0.size
  have hf0 := M0.fr nowhere
  replace hM := hM.fr hf0 (fun _ _ _ => nw)
  replace hT := cb.fr hT hf0 (fun _ _ _ => nw)
  replace hk := hk.fr hf0 (fun _ _ _ => nw)
  obtain ⟨tc,srt,cnt,own,lt,bs,hr⟩ := hM
  refine Go'.region [(0,0),(1,0),(2,2)] rfl ?_
  refine O.mv rfl rfl rfl rfl rfl ?_
  refine O.mv rfl rfl rfl rfl rfl ?_
  refine O.callQ rfl rfl rfl call111 rfl lock_spec trivial ?_
  refine Pl.fin [(0,_),(1,_),(2,_),(3,_),(4,_),(12,_)] ⟨rfl,rfl,rfl,rfl,rfl,rfl,trivial⟩ ?_
  refine Go'.condF rfl ?_
  refine Go'.skip ?_
  refine Go'.seq ?_
  refine Go'.seq ?_
  rcases hr with ⟨rfl,hptr⟩ | ⟨h,t,hg,hx1,e,hc,hnt,hown⟩
  · skip
    refine Go'.region [(0,0),(1,0),(2,0),(3,1),(4,0)] rfl ?_
    refine O.mv rfl rfl rfl rfl rfl ?_
    refine O.nc rfl rfl rfl rfl rfl ?_
    refine O.fa0 (off := 2) rfl rfl rfl rfl ⟨_,_,_,underlying138,rfl,rfl,sizeOf96⟩ rfl ?_
    refine O.ld rfl rfl rfl (fun w => ⟨isAgg96 w,sizeOf96 w⟩) rfl hptr ?_
    refine O.isNil rfl rfl rfl rfl underlying96 rfl rfl ?_
    refine Pl.fin [(0,_),(1,_),(2,_),(3,_),(4,_),(19,_)] ⟨rfl,rfl,rfl,rfl,rfl,rfl,trivial⟩ ?_
    refine Go'.condT rfl ?_
    refine Go'.ret func103 results103 (vs := []) trivial ?_
    exact ⟨Z,hT,hf0.mono (fun _ _ _ h => h.elim),fun b hb => .inl hb⟩
  · skip
    have hptr : cl H tr 2 = some (.pointer (some ⟨Gt.p h t,0,none⟩)) := hc
    have hht := Gt.Good.tall hP hg hx1
    refine Go'.region [(0,0),(1,0),(2,0),(3,1),(4,0)] rfl ?_
    refine O.mv rfl rfl rfl rfl rfl ?_
    refine O.nc rfl rfl rfl rfl rfl ?_
    refine O.fa0 (off := 2) rfl rfl rfl rfl ⟨_,_,_,underlying138,rfl,rfl,sizeOf96⟩ rfl ?_
    refine O.ld rfl rfl rfl (fun w => ⟨isAgg96 w,sizeOf96 w⟩) rfl hptr ?_
    refine O.isNil rfl rfl rfl rfl underlying96 rfl rfl ?_
    refine Pl.fin [(0,_),(1,_),(2,_),(3,_),(4,_),(19,_)] ⟨rfl,rfl,rfl,rfl,rfl,rfl,trivial⟩ ?_
    refine Go'.condF rfl ?_
    refine Go'.skip ?_
    refine Go'.region [(0,0),(1,0),(2,0),(3,0),(4,0),(5,0),(6,0),(7,0),(8,2)] rfl ?_
    refine O.mv rfl rfl rfl rfl rfl ?_
    refine O.mv rfl rfl rfl rfl rfl ?_
    refine O.nc rfl rfl rfl rfl rfl ?_
    refine O.fa0 (off := 2) rfl rfl rfl rfl ⟨_,_,_,underlying138,rfl,rfl,sizeOf96⟩ rfl ?_
    refine O.mv rfl rfl rfl rfl rfl ?_
    refine O.mv rfl rfl rfl rfl rfl ?_
    refine O.mv rfl rfl rfl rfl rfl ?_
    refine O.mv rfl rfl rfl rfl rfl ?_
    refine O.call rfl rfl rfl call130 rfl (nasc cb hcall hP mt x hv hz h (dp := 0) (Z := fun b => Z b ∨ hz b) ⟨tc,hg,hc,fun b o hb hz2 => hz2.elim (hd b (hown b o hb)) (fun h => hzS b h (hown b o hb)),fun b hb => hb.elim (hnb b) (fun h => (hzb b h).1),⟨Z,hT,hk,fun _ => Iff.rfl,hzZ⟩,by rw [e]; simpa using hl⟩ (by rw [e]; exact srt) hx1 (fun h => h.elim (hd _ own) (fun h => hzS _ h own)) (by rw [e] at hht; omega)) ?_
    rintro _ H2 ⟨rfl,Z2,⟨Z3,hT3,hk3,hZ3,hZd3⟩,hF2,hZ2⟩
    refine ⟨trivial,?_⟩
    refine Pl.fin [] trivial ?_
    refine Go'.fall func103 results103 (vs := []) trivial ?_
    rw [e] at hT3
    exact ⟨Z3,hT3,hf0.trans' hF2 (fun _ _ _ h => h.elim) (fun _ _ _ h => h),fun b hb => (hZ2 b ((hZ3 b).2 (.inl hb))).elim (fun h => h.elim .inl (fun h => absurd h (hZd3 b hb))) (fun h => .inr (by omega))⟩

theorem Ascend_spec {B : World} {g : FuncId} {us cs : List Value} {go : List (Int × Int) → Bool} {M : Nat} (cb : Cb Try.prog B encIt g us cs go M) (hcall : ∀ (args : Array Value) (w : World),(callFunc g args).run Try.prog w = .ok (.enter g args) w) {tr : Nat} {P : Ps} (hP : PsOk P) (x : Int × Int) {H : Mem} {S : Nat → Prop} {l : List (Int × Int)} {Z : Nat → Prop} (hM : MapM H tr P S l) (hT : cb.T [] Z H) (hd : ∀ b,S b → ¬ Z b) (hnb : ∀ b,Z b → ¬ (b < cx.base ∧ cx.own b)) (hl : l.length ≤ M) (hM6 : M ≤ 4294967296) :
    Fn Try.prog B 78 [.pointer (some ⟨tr,0,none⟩),iv x,.func (.func g) us.toArray cs.toArray] H (fun _ H' => ∃ Z',cb.T (takes go [] (Pl.up OI x l)).1 Z' H' ∧ Fr (fun b _ => Z b) H H' ∧ ∀ b,Z' b → Z b ∨ H.size ≤ b) := by
  refine fn_of func78 rfl ntmps78 ?_
  refine (show Go' _ _ _ _ 10 [(0,_),(1,_),(2,_)] [.code _] _ from ?_)
  refine Go'.region [(0,0),(1,0),(2,0),(3,2)] rfl ?_
  refine O.mv rfl rfl rfl rfl rfl ?_
  refine O.mv rfl rfl rfl rfl rfl ?_
  refine O.mv rfl rfl rfl rfl rfl ?_
  refine O.call rfl rfl rfl call103 rfl (ascend_spec cb hcall hP false x hM hT hd hnb hl hM6 (hv := .pointer none) (hz := fun _ => False) (.inl ⟨rfl,fun _ h => h⟩) (fun _ h => h.elim) (fun _ _ h => h)) ?_
  rintro _ H2 ⟨Z2,hT2,hF2,hZ2⟩
  refine ⟨trivial,?_⟩
  refine Pl.fin [] trivial ?_
  refine Go'.fall func78 results78 (vs := []) trivial ?_
  exact ⟨Z2,hT2,hF2.mono (fun _ _ _ h => h.elim id (fun h => h.elim)),hZ2⟩

end
end Go.Bt.FB
