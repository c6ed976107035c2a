/- Contracts of functions of the program, proved by walking through their code. Conditions: those that each theorem names. -/
import Derived.Test.YtgmmhpmchibakaanH
namespace Go.Bt
open Go Go.Proofs
set_option maxRecDepth 20000
set_option maxHeartbeats 4000000
set_option linter.unusedVariables false

/-- What the function of pairs keeps: the taker, and what that one keeps. -/
def PrT (pb b2 b3 D : Nat) (n : Int) (acc : List (Int × Int)) (Z : Nat → Prop) (H : Mem) : Prop :=
  ∃ Z0, TkT b2 b3 D n acc Z0 H ∧ cl H pb 0 = some (.func (.func 117) #[] #[ptr b2, ptr b3]) ∧ ¬ Z0 pb ∧ (∀ b, Z0 b → Z b) ∧ Z pb ∧ ∀ b, Z b → b < H.size
theorem pairs1_spec {B : World} {H : Mem} {pb b2 b3 D : Nat} {n : Int} {acc : List (Int × Int)} {Z : Nat → Prop} (x : Int × Int) (hT : PrT pb b2 b3 D n acc Z H) (hl : acc.length < 4294967296) :
    Fn Try.prog B 96 [.int .i64 x.1, .int .i64 x.2, ptr pb] H (fun r H' => r = .bool (goN n (acc ++ [x])) ∧ ∃ Z', PrT pb b2 b3 D n (acc ++ [x]) Z' H' ∧ Fr (fun b _ => Z b) H H' ∧ ∀ b, Z' b → Z b ∨ H.size ≤ b) := by
  obtain ⟨Z0, hT, cp, n0, h0, zp, lt⟩ := hT
  unfold ptr
  refine fn_of Go.Proofs.Try.func96 rfl Go.Proofs.Try.ntmps96 ?_
  refine (show Go' _ _ _ _ 11 [(0, _), (1, _), (2, _)] [.code _] _ from ?_)
  refine Go'.seq ?_
  -- region 0 (map.go:30)
  refine Go'.region [(0, 0)] rfl ?_
  refine O.asg rfl rfl rfl rfl rfl ?_
  refine Pl.fin [(0, _), (1, _), (2, _), (5, _)] ⟨rfl, rfl, rfl, rfl, trivial⟩ ?_
  refine Go'.seq ?_
  -- region 1 (map.go:30)
  refine Go'.region [(0, 1), (1, 0), (2, 0), (3, 0), (4, 2), (5, 0)] rfl ?_
  refine O.ld rfl rfl rfl (fun w => ⟨Go.Proofs.Try.isAgg122 w, Go.Proofs.Try.sizeOf122 w⟩) rfl cp ?_
  refine O.mv rfl rfl rfl rfl rfl ?_
  refine O.mv rfl rfl rfl rfl rfl ?_
  refine O.bld (cs := (EJ.enc x)) rfl rfl rfl rfl (st35) rfl (by kernel_rfl) ?_
  refine O.callC (us := []) (caps := [ptr b2, ptr b3]) rfl rfl rfl rfl Go.Proofs.Try.call117 rfl (taker1_spec hT hl) ?_
  rintro _ H2 ⟨rfl, Z2, hT2, hF2, hZ2⟩
  refine ⟨trivial, ?_⟩
  refine O.asg rfl rfl rfl rfl rfl ?_
  refine Pl.fin [(5, _)] ⟨rfl, trivial⟩ ?_
  refine Go'.ret (vs := [_]) Go.Proofs.Try.func96 Go.Proofs.Try.results96 ⟨rfl, trivial⟩ ?_
  have hsz := hF2.size
  have hpb := lt pb zp
  exact ⟨rfl, fun b => Z b ∨ (H.size ≤ b ∧ b < H2.size), ⟨Z2, hT2, hF2.keep cp n0, fun hz => (hZ2 _ hz).elim n0 (fun h => by omega), fun b hb => (hZ2 b hb).imp (h0 b) (fun h => ⟨h, hT2.lt b hb⟩), .inl zp, fun b hb => hb.elim (fun h => by have := lt b h; omega) (fun h => h.2)⟩,
    hF2.mono (fun b o _ h => h0 b h), fun b hb => hb.imp id (fun h => h.1)⟩

/-- The function of pairs, as a reader takes it. -/
def cbPairs (B : World) (pb b2 b3 D : Nat) (n : Int) : Cb Try.prog B encKV 96 [] [ptr pb] (goN n) 4294967296 where
  T := PrT pb b2 b3 D n
  fr := fun ⟨Z0, hT, cp, n0, h0, zp, lt⟩ hf hy => ⟨Z0, hT.fr hf (fun b o hb => hy b o (h0 b hb)), hf.keep cp (hy _ _ zp), n0, h0, zp, fun b hb => Nat.lt_of_lt_of_le (lt b hb) hf.size⟩
  lt := fun ⟨_, _, _, _, _, _, lt⟩ hb => lt _ hb
  call := fun x hT hl => pairs1_spec x hT hl

theorem taker_spec {B : World} {H : Mem} {D : Nat} {n : Int} (hD : cl H D 0 = some (.slice none 0 0)) (hw : Wr H D 0 1) :
    Fn Try.prog B 95 [ptr D, .int .i64 n] H (fun r H' => ∃ b2 b3 Z, r = .func (.func 117) #[] #[ptr b2, ptr b3] ∧ TkT b2 b3 D n [] Z H' ∧ Fr nowhere H H' ∧ ∀ b, Z b → b = D ∨ H.size ≤ b) := by
  have hl := cl_lt hD
  refine fn_of Go.Proofs.Try.func95 rfl Go.Proofs.Try.ntmps95 ?_
  refine (show Go' _ _ _ _ 6 [(0, _), (1, _)] [.code _] _ from ?_)
  refine Go'.seq ?_
  -- region 0 (impl.go:206)
  refine Go'.region [(0, 2), (1, 2), (2, 0)] rfl ?_
  refine O.box rfl rfl rfl rfl ?_
  intro H1 M1
  refine ⟨trivial, ?_⟩
  have hs1 := M1.size
  have c2 : cl H1 H.size 0 = some (ptr D) := (M1.cl 0).trans rfl
  refine O.box rfl rfl rfl rfl ?_
  intro H2 M2
  refine ⟨trivial, ?_⟩
  have hs2 := M2.size
  have c3 : cl H2 H1.size 0 = some (.int .i64 n) := (M2.cl 0).trans rfl
  refine O.asg rfl rfl rfl rfl rfl ?_
  refine Pl.fin [(2, _), (3, _), (4, _)] ⟨rfl, rfl, rfl, trivial⟩ ?_
  refine Go'.seq ?_
  -- region 1 (impl.go:207)
  refine Go'.region [(0, 0), (1, 0)] rfl ?_
  refine O.mkf rfl rfl rfl rfl rfl rfl ?_
  refine O.asg rfl rfl rfl rfl rfl ?_
  refine Pl.fin [(4, _)] ⟨rfl, trivial⟩ ?_
  refine Go'.ret (vs := [_]) Go.Proofs.Try.func95 Go.Proofs.Try.results95 ⟨rfl, trivial⟩ ?_
  exact ⟨H.size, H1.size, fun b => b = D ∨ b = H.size ∨ b = H1.size, rfl, ⟨M2.keep c2, c3, (M2.fr nowhere).wr ((M1.fr nowhere).wr hw), .inr (.inl rfl), .inr (.inr rfl), .inl rfl, by omega, by omega, fun b hb => by omega, .inl ⟨rfl, M2.keep (M1.keep hD)⟩⟩, (M1.fr nowhere).trans (M2.fr nowhere), fun b hb => by omega⟩

theorem pairs_spec {B : World} {H : Mem} {D : Nat} {n : Int} (hD : cl H D 0 = some (.slice none 0 0)) (hw : Wr H D 0 1) :
    Fn Try.prog B 59 [ptr D, .int .i64 n] H (fun r H' => ∃ pb b2 b3 Z, r = .func (.func 96) #[] #[ptr pb] ∧ PrT pb b2 b3 D n [] Z H' ∧ Fr nowhere H H' ∧ ∀ b, Z b → b = D ∨ H.size ≤ b) := by
  have hl := cl_lt hD
  refine fn_of Go.Proofs.Try.func59 rfl Go.Proofs.Try.ntmps59 ?_
  refine (show Go' _ _ _ _ 10 [(0, _), (1, _)] [.code _] _ from ?_)
  refine Go'.seq ?_
  -- region 0 (map.go:28)
  refine Go'.region [(0, 0)] rfl ?_
  refine O.asg rfl rfl rfl rfl rfl ?_
  refine Pl.fin [(0, _), (1, _), (4, _)] ⟨rfl, rfl, rfl, trivial⟩ ?_
  refine Go'.seq ?_
  -- region 1 (map.go:29)
  refine Go'.region [(0, 0), (1, 0), (2, 2), (3, 2), (4, 2)] rfl ?_
  refine O.mv rfl rfl rfl rfl rfl ?_
  refine O.mv rfl rfl rfl rfl rfl ?_
  refine O.call rfl rfl rfl Go.Proofs.Try.call95 rfl (taker_spec hD hw) ?_
  rintro _ H1 ⟨b2, b3, Z, rfl, hT, hF, hZ⟩
  have hs1 := hF.size
  refine ⟨trivial, ?_⟩
  refine O.alloc rfl rfl rfl Go.Proofs.Try.zeroValue122 ?_
  intro H2 M2
  refine ⟨trivial, ?_⟩
  have hs2 := M2.size
  have lt0 := hT.lt
  replace hT := hT.fr (M2.fr nowhere) (fun _ _ _ => nw)
  have m5 : Wr H2 H1.size 0 1 := M2.wr 1 (by decide)
  refine O.st rfl rfl Go.Proofs.Try.sizeOf122 rfl rfl rfl rfl rfl m5 ?_
  intro H3 W3
  have hs3 := W3.size
  replace hT := hT.fr W3.fr (fun b o hb hz => by have := lt0 b hb; have h1 := hz.1; omega)
  have cp := W3.at
  refine ⟨trivial, ?_⟩
  refine Pl.fin [(4, _), (5, _)] ⟨rfl, rfl, trivial⟩ ?_
  refine Go'.seq ?_
  -- region 2 (map.go:30)
  refine Go'.region [(0, 0), (1, 0)] rfl ?_
  refine O.mkf rfl rfl rfl rfl rfl rfl ?_
  refine O.asg rfl rfl rfl rfl rfl ?_
  refine Pl.fin [(4, _)] ⟨rfl, trivial⟩ ?_
  refine Go'.ret (vs := [_]) Go.Proofs.Try.func59 Go.Proofs.Try.results59 ⟨rfl, trivial⟩ ?_
  exact ⟨H1.size, b2, b3, fun b => Z b ∨ b = H1.size, rfl, ⟨Z, hT, cp, fun hz => by have := lt0 _ hz; omega, fun b hb => .inl hb, .inr rfl, fun b hb => hb.elim (fun h => by have := lt0 b h; omega) (fun h => by omega)⟩, (hF.trans (M2.fr nowhere)).trans' W3.fr (fun _ _ _ h => h) (fun b o hb hz => by have h1 := hz.1; omega), fun b hb => hb.elim (hZ b) (fun h => .inr (by omega))⟩

end Go.Bt