/- Contracts of functions of the program, proved by walking through their code. Conditions: those that each theorem names. -/
import Derived.Test.YtmcnochofpgfbaaTogG
import Derived.Test.YtmcnochofpgfbaaToRb
set_option linter.unusedVariables false
namespace Go.Bt.FG
open Go Go.Proofs Go.Proofs.Try
set_option maxRecDepth 20000
set_option maxHeartbeats 4000000
set_option linter.unusedSectionVars false
variable [Inhabited Cx]
theorem hintsearch_spec {B:World} {H:Mem} {tr id mx mn hb dp:Nat} (tc:TrC H tr id mx mn) {g:Ng} {X:List (Int×Int)} {kp:Option Addr} (x:Int×Int) (hn:NodeM EJ H g X (.pointer kp)) (hs:Pl.Srt OI X) (hl:X.length≤255) (h1:1≤X.length)
  (hh:HintM H hb) (hbl:hb<H.size) (hbb:¬(hb<cx.base∧cx.own hb)) (hoff:∀o,¬ncl EJ g hb o) (hdp:dp<4611686018427387904):
  Fn Try.prog B 85 [.pointer (some ⟨tr,0,none⟩),.pointer (some ⟨g.p,0,none⟩),.agg (EJ.enc x).toArray,.pointer (some ⟨hb,0,none⟩),.int .i64 (dp:Int)] H (fun v H'=>v=.tuple #[.int .i64 ((Pl.pos OI x X:Nat):Int),.bool (Pl.fnd OI x X)]∧Fr (fun b _=>b=hb) H H'∧HintM H' hb):=by
 have hple:=Pl.pos_le OI x X
 refine fn_of func85 rfl ntmps85 ?_
 refine (show Go' _ _ _ _ 200 [(0,_),(1,_),(2,_),(3,_),(4,_)] [.code _] _ from ?_)
 refine Ut 1 rfl (Ur 3 2 rfl (O.box rfl rfl rfl rfl ?_))
 intro H1 M1
 refine ⟨trivial,?_⟩
 have hF1:=M1.fr nowhere
 have hs1:=M1.size
 replace tc:=tc.fr hF1 (fun _ _ _ _=>nw)
 replace hn:=NodeM.fr EJ hn hF1 (fun _ _ _=>nw)
 replace hh:=hh.fr hF1 (fun _=>nw)
 have mk:Rd H1 H.size 0 (EJ.enc x):=M1.rd _ [] (by simp [Value.cells])
 refine Uf 2 [0,1,2,3,4,7,10,11] rfl (Ut 1 rfl ?_)
 refine Go'.joinL (l:=0) (σ:=Nat×Bool) rfl (fun s H'=>s=(Pl.pos OI x X,Pl.fnd OI x X)∧Fr nowhere H1 H') (fun s=>[(1,.pointer (some ⟨g.p,0,none⟩)),(3,.pointer (some ⟨hb,0,none⟩)),(4,.int .i64 (dp:Int)),(10,.int .i64 (s.1:Int)),(11,.bool s.2)]) ?_ ?_
 ·
  rintro _ H2 ⟨rfl,hF2⟩
  replace hn:=NodeM.fr EJ hn hF2 (fun _ _ _=>nw)
  replace hh:=hh.fr hF2 (fun _=>nw)
  have hF:=hF1.trans hF2
  have hsz:=hF2.size
  simp only
  refine Ut 2 rfl ?_
  by_cases hd8:dp<8
  rotate_left
  ·
   refine Ur 2 0 rfl (Uc 1 rfl (lssF (by omega)) (Uf 0 [1,3,4,10,11,157] rfl (Go'.condF rfl (Ut 2 rfl (Ur 4 0 rfl (Uf 4 [1,3,4,10,11,157] rfl (Go'.ret (vs:=[_,_]) func85 results85 ⟨rfl,rfl,trivial⟩ ?_)))))))
   exact ⟨rfl,hF.mono (fun _ _ _ h=>h.elim),hh⟩
  ·
   refine Ur 2 0 rfl (Uc 1 rfl (lssT (by omega)) (Uf 0 [1,3,4,10,11,157] rfl (Go'.condT rfl (Ut 1 rfl (Ur 6 2048 rfl (Uq 4 rfl (O.ixr (j:=dp) rfl rfl rfl rfl underlying100 sizeOf4 rfl rfl (by omega) hd8 (O.st rfl rfl sizeOf4 rfl rfl rfl rfl rfl (by rw [Nat.zero_add,Nat.mul_one];exact hh.wr.at0 dp 1 (by omega)) ?_))))))))
   intro H3 W3
   have hs3:=W3.size
   rw [Nat.zero_add,Nat.mul_one] at W3
   replace hh:=hh.setU W3 hd8
   replace hn:=NodeM.fr EJ hn W3.fr (fun b o hb=>nr (.inl (fun e=>hoff o (e▸hb))))
   have hG:Fr (fun b _=>b=hb) H H3:=hF.trans' W3.fr (fun _ _ _ h=>h.elim) (fun b o _ h=>h.1)
   refine ⟨trivial,?_⟩
   refine Uf 0 [1,3,4,10,11,157] rfl (Ut 1 rfl (Ur 1 0 rfl (Uf 1 [1,3,4,10,11,15,157] rfl (Ut 2 rfl ?_))))
   obtain ⟨pn,hpn,hpc⟩:=hh.ps dp hd8
   have hq:∀q:Nat,q<256→q<256:=fun _ h=>h
   rcases kp with _|kq
   ·
    cases hfd:Pl.fnd OI x X
    ·
     refine Ur 5 8 rfl (Uq 1 rfl (O.callQ rfl rfl rfl call62 rfl (leaf_spec hn.c3) trivial (Uf 3 [1,3,4,10,11,15,157,167] rfl (Go'.condF rfl (Ur 3 8 rfl (Uq 1 rfl (O.cvk .u8 (v:=((Pl.pos OI x X:Nat):Int)) rfl rfl rfl (by rw [underlying3];rfl) underlying5 rfl rfl (wrap_id8 (by omega)) trivial (Uf 1 [1,3,4,10,11,15,157,167] rfl (Ut 1 rfl ?_)))))))))
     have hpc2:cl H3 hb (8+dp*1)=some (.int .u8 (pn:Int)):=by rw [Nat.mul_one];exact hpc
     by_cases hqp:Pl.pos OI x X=pn
     ·
      refine Ur 8 4096 rfl (Uq 5 rfl (O.ixr (j:=dp) rfl rfl rfl rfl underlying101 sizeOf5 rfl rfl (by omega) hd8 (Ul 0 rfl hpc2 (Uc 0 rfl (neqF (by omega)) (Uf 0 [1,3,4,10,11,15,157,167,180] rfl (Go'.condF rfl (Ut 2 rfl (Ur 4 0 rfl (Uf 4 [1,3,4,10,11,15,157,167,180] rfl (Go'.ret (vs:=[_,_]) func85 results85 ⟨rfl,rfl,trivial⟩ ?_))))))))))
      exact ⟨rfl,hG,hh⟩
     ·
      refine Ur 8 4096 rfl (Uq 5 rfl (O.ixr (j:=dp) rfl rfl rfl rfl underlying101 sizeOf5 rfl rfl (by omega) hd8 (Ul 0 rfl hpc2 (Uc 0 rfl (neqT (by omega)) (Uf 0 [1,3,4,10,11,15,157,167,180] rfl (Go'.condT rfl (Ut 1 rfl (Ur 7 8192 rfl (Uq 5 rfl (O.ixr (j:=dp) rfl rfl rfl rfl underlying101 sizeOf5 rfl rfl (by omega) hd8 (O.st rfl rfl sizeOf5 rfl rfl rfl rfl rfl (by rw [Nat.mul_one];exact hh.wr.at0 (8+dp) 1 (by omega)) ?_)))))))))))
      intro H4 W4
      have hs4:=W4.size
      rw [Nat.mul_one] at W4
      replace hh:=hh.setP (n:=Pl.pos OI x X) W4 hd8 (by omega)
      replace hG:Fr (fun b _=>b=hb) H H4:=hG.trans' W4.fr (fun _ _ _ h=>h) (fun b o _ h=>h.1)
      refine ⟨trivial,?_⟩
      refine Uf 0 [1,3,4,10,11,15,157,167,180] rfl (Ut 1 rfl (Ur 3 0 rfl (Ua 1 (((dp+1:Nat):Int)) rfl (by omega) (Uf 1 [1,3,4,10,11,15,16,157,167,180] rfl (Ut 1 rfl (Go'.loop (Uk [3,10,11,16] rfl ?_)))))))
      refine Go'.ind (σ:=Nat) (fun j=>8-j) (fun j H'=>j≤8∧Fr (fun b _=>b=hb) H H'∧HintM H' hb)
       (fun j=>[(3,.pointer (some ⟨hb,0,none⟩)),(10,.int .i64 ((Pl.pos OI x X:Nat):Int)),(11,.bool (false)),(16,.int .i64 (j:Int))]) (dp+1) ⟨hd8,hG,hh⟩ rfl ?_
      rintro j H5 ⟨hj8,hG5,hh5⟩ ih
      refine Ut 2 rfl ?_
      by_cases hj:j<8
      ·
       refine Ur 2 0 rfl (Uc 1 rfl (lssT (by omega)) (Uf 0 [3,10,11,16,190] rfl (Go'.condT rfl (Ut 3 rfl (Ur 6 2048 rfl (Uq 4 rfl (O.ixr (j:=j) rfl rfl rfl rfl underlying100 sizeOf4 rfl rfl (by omega) hj (O.st rfl rfl sizeOf4 rfl rfl rfl rfl rfl (by rw [Nat.zero_add,Nat.mul_one];exact hh5.wr.at0 j 1 (by omega)) ?_))))))))
       intro H6 W6
       rw [Nat.zero_add,Nat.mul_one] at W6
       replace hh5:=hh5.setU W6 hj
       replace hG5:Fr (fun b _=>b=hb) H H6:=hG5.trans' W6.fr (fun _ _ _ h=>h) (fun b o _ h=>h.1)
       refine ⟨trivial,?_⟩
       refine Uf 0 [3,10,11,16,190] rfl (Ut 1 rfl (Ur 3 0 rfl (Ua 1 (((j+1:Nat):Int)) rfl (by omega) (Uf 1 [3,10,11,16,190] rfl (Uk [3,10,11,16] rfl (Go'.inLoop ?_))))))
       exact ih (j+1) H6 ⟨hj,hG5,hh5⟩ (by omega)
      ·
       refine Ur 2 0 rfl (Uc 1 rfl (lssF (by omega)) (Uf 0 [3,10,11,16,190] rfl (Go'.condF rfl (Ut 2 rfl (Ur 4 0 rfl (Uf 4 [3,10,11,16,190] rfl (Go'.ret (vs:=[_,_]) func85 results85 ⟨rfl,rfl,trivial⟩ ?_)))))))
       exact ⟨rfl,hG5,hh5⟩
    ·
     have hplt:=Pl.fnd_pos_lt OI hfd
     refine Ur 5 8 rfl (Uq 1 rfl (O.callQ rfl rfl rfl call62 rfl (leaf_spec hn.c3) trivial (Uf 3 [1,3,4,10,11,15,157,167] rfl (Go'.condT rfl (Ur 4 32 rfl (Ua 1 ((((Pl.pos OI x X)+1:Nat):Int)) rfl (by omega) (O.cvk .u8 (v:=((Pl.pos OI x X+1:Nat):Int)) rfl rfl rfl (by rw [underlying3];rfl) underlying5 rfl rfl (wrap_id8 (by omega)) trivial (Uf 1 [1,3,4,10,11,15,157,167] rfl (Ut 1 rfl ?_)))))))))
     have hpc2:cl H3 hb (8+dp*1)=some (.int .u8 (pn:Int)):=by rw [Nat.mul_one];exact hpc
     by_cases hqp:Pl.pos OI x X+1=pn
     ·
      refine Ur 8 4096 rfl (Uq 5 rfl (O.ixr (j:=dp) rfl rfl rfl rfl underlying101 sizeOf5 rfl rfl (by omega) hd8 (Ul 0 rfl hpc2 (Uc 0 rfl (neqF (by omega)) (Uf 0 [1,3,4,10,11,15,157,167,180] rfl (Go'.condF rfl (Ut 2 rfl (Ur 4 0 rfl (Uf 4 [1,3,4,10,11,15,157,167,180] rfl (Go'.ret (vs:=[_,_]) func85 results85 ⟨rfl,rfl,trivial⟩ ?_))))))))))
      exact ⟨rfl,hG,hh⟩
     ·
      refine Ur 8 4096 rfl (Uq 5 rfl (O.ixr (j:=dp) rfl rfl rfl rfl underlying101 sizeOf5 rfl rfl (by omega) hd8 (Ul 0 rfl hpc2 (Uc 0 rfl (neqT (by omega)) (Uf 0 [1,3,4,10,11,15,157,167,180] rfl (Go'.condT rfl (Ut 1 rfl (Ur 7 8192 rfl (Uq 5 rfl (O.ixr (j:=dp) rfl rfl rfl rfl underlying101 sizeOf5 rfl rfl (by omega) hd8 (O.st rfl rfl sizeOf5 rfl rfl rfl rfl rfl (by rw [Nat.mul_one];exact hh.wr.at0 (8+dp) 1 (by omega)) ?_)))))))))))
      intro H4 W4
      have hs4:=W4.size
      rw [Nat.mul_one] at W4
      replace hh:=hh.setP (n:=Pl.pos OI x X+1) W4 hd8 (by omega)
      replace hG:Fr (fun b _=>b=hb) H H4:=hG.trans' W4.fr (fun _ _ _ h=>h) (fun b o _ h=>h.1)
      refine ⟨trivial,?_⟩
      refine Uf 0 [1,3,4,10,11,15,157,167,180] rfl (Ut 1 rfl (Ur 3 0 rfl (Ua 1 (((dp+1:Nat):Int)) rfl (by omega) (Uf 1 [1,3,4,10,11,15,16,157,167,180] rfl (Ut 1 rfl (Go'.loop (Uk [3,10,11,16] rfl ?_)))))))
      refine Go'.ind (σ:=Nat) (fun j=>8-j) (fun j H'=>j≤8∧Fr (fun b _=>b=hb) H H'∧HintM H' hb)
       (fun j=>[(3,.pointer (some ⟨hb,0,none⟩)),(10,.int .i64 ((Pl.pos OI x X:Nat):Int)),(11,.bool (true)),(16,.int .i64 (j:Int))]) (dp+1) ⟨hd8,hG,hh⟩ rfl ?_
      rintro j H5 ⟨hj8,hG5,hh5⟩ ih
      refine Ut 2 rfl ?_
      by_cases hj:j<8
      ·
       refine Ur 2 0 rfl (Uc 1 rfl (lssT (by omega)) (Uf 0 [3,10,11,16,190] rfl (Go'.condT rfl (Ut 3 rfl (Ur 6 2048 rfl (Uq 4 rfl (O.ixr (j:=j) rfl rfl rfl rfl underlying100 sizeOf4 rfl rfl (by omega) hj (O.st rfl rfl sizeOf4 rfl rfl rfl rfl rfl (by rw [Nat.zero_add,Nat.mul_one];exact hh5.wr.at0 j 1 (by omega)) ?_))))))))
       intro H6 W6
       rw [Nat.zero_add,Nat.mul_one] at W6
       replace hh5:=hh5.setU W6 hj
       replace hG5:Fr (fun b _=>b=hb) H H6:=hG5.trans' W6.fr (fun _ _ _ h=>h) (fun b o _ h=>h.1)
       refine ⟨trivial,?_⟩
       refine Uf 0 [3,10,11,16,190] rfl (Ut 1 rfl (Ur 3 0 rfl (Ua 1 (((j+1:Nat):Int)) rfl (by omega) (Uf 1 [3,10,11,16,190] rfl (Uk [3,10,11,16] rfl (Go'.inLoop ?_))))))
       exact ih (j+1) H6 ⟨hj,hG5,hh5⟩ (by omega)
      ·
       refine Ur 2 0 rfl (Uc 1 rfl (lssF (by omega)) (Uf 0 [3,10,11,16,190] rfl (Go'.condF rfl (Ut 2 rfl (Ur 4 0 rfl (Uf 4 [3,10,11,16,190] rfl (Go'.ret (vs:=[_,_]) func85 results85 ⟨rfl,rfl,trivial⟩ ?_)))))))
       exact ⟨rfl,hG5,hh5⟩
   ·
    refine Ur 5 8 rfl (Uq 1 rfl (O.callQ rfl rfl rfl call62 rfl (leaf_spec hn.c3) trivial (Uf 3 [1,3,4,10,11,15,157,167] rfl (Go'.condF rfl (Ur 3 8 rfl (Uq 1 rfl (O.cvk .u8 (v:=((Pl.pos OI x X:Nat):Int)) rfl rfl rfl (by rw [underlying3];rfl) underlying5 rfl rfl (wrap_id8 (by omega)) trivial (Uf 1 [1,3,4,10,11,15,157,167] rfl (Ut 1 rfl ?_)))))))))
    have hpc2:cl H3 hb (8+dp*1)=some (.int .u8 (pn:Int)):=by rw [Nat.mul_one];exact hpc
    by_cases hqp:Pl.pos OI x X=pn
    ·
     refine Ur 8 4096 rfl (Uq 5 rfl (O.ixr (j:=dp) rfl rfl rfl rfl underlying101 sizeOf5 rfl rfl (by omega) hd8 (Ul 0 rfl hpc2 (Uc 0 rfl (neqF (by omega)) (Uf 0 [1,3,4,10,11,15,157,167,180] rfl (Go'.condF rfl (Ut 2 rfl (Ur 4 0 rfl (Uf 4 [1,3,4,10,11,15,157,167,180] rfl (Go'.ret (vs:=[_,_]) func85 results85 ⟨rfl,rfl,trivial⟩ ?_))))))))))
     exact ⟨rfl,hG,hh⟩
    ·
     refine Ur 8 4096 rfl (Uq 5 rfl (O.ixr (j:=dp) rfl rfl rfl rfl underlying101 sizeOf5 rfl rfl (by omega) hd8 (Ul 0 rfl hpc2 (Uc 0 rfl (neqT (by omega)) (Uf 0 [1,3,4,10,11,15,157,167,180] rfl (Go'.condT rfl (Ut 1 rfl (Ur 7 8192 rfl (Uq 5 rfl (O.ixr (j:=dp) rfl rfl rfl rfl underlying101 sizeOf5 rfl rfl (by omega) hd8 (O.st rfl rfl sizeOf5 rfl rfl rfl rfl rfl (by rw [Nat.mul_one];exact hh.wr.at0 (8+dp) 1 (by omega)) ?_)))))))))))
     intro H4 W4
     have hs4:=W4.size
     rw [Nat.mul_one] at W4
     replace hh:=hh.setP (n:=Pl.pos OI x X) W4 hd8 (by omega)
     replace hG:Fr (fun b _=>b=hb) H H4:=hG.trans' W4.fr (fun _ _ _ h=>h) (fun b o _ h=>h.1)
     refine ⟨trivial,?_⟩
     refine Uf 0 [1,3,4,10,11,15,157,167,180] rfl (Ut 1 rfl (Ur 3 0 rfl (Ua 1 (((dp+1:Nat):Int)) rfl (by omega) (Uf 1 [1,3,4,10,11,15,16,157,167,180] rfl (Ut 1 rfl (Go'.loop (Uk [3,10,11,16] rfl ?_)))))))
     refine Go'.ind (σ:=Nat) (fun j=>8-j) (fun j H'=>j≤8∧Fr (fun b _=>b=hb) H H'∧HintM H' hb)
      (fun j=>[(3,.pointer (some ⟨hb,0,none⟩)),(10,.int .i64 ((Pl.pos OI x X:Nat):Int)),(11,.bool (Pl.fnd OI x X)),(16,.int .i64 (j:Int))]) (dp+1) ⟨hd8,hG,hh⟩ rfl ?_
     rintro j H5 ⟨hj8,hG5,hh5⟩ ih
     refine Ut 2 rfl ?_
     by_cases hj:j<8
     ·
      refine Ur 2 0 rfl (Uc 1 rfl (lssT (by omega)) (Uf 0 [3,10,11,16,190] rfl (Go'.condT rfl (Ut 3 rfl (Ur 6 2048 rfl (Uq 4 rfl (O.ixr (j:=j) rfl rfl rfl rfl underlying100 sizeOf4 rfl rfl (by omega) hj (O.st rfl rfl sizeOf4 rfl rfl rfl rfl rfl (by rw [Nat.zero_add,Nat.mul_one];exact hh5.wr.at0 j 1 (by omega)) ?_))))))))
      intro H6 W6
      rw [Nat.zero_add,Nat.mul_one] at W6
      replace hh5:=hh5.setU W6 hj
      replace hG5:Fr (fun b _=>b=hb) H H6:=hG5.trans' W6.fr (fun _ _ _ h=>h) (fun b o _ h=>h.1)
      refine ⟨trivial,?_⟩
      refine Uf 0 [3,10,11,16,190] rfl (Ut 1 rfl (Ur 3 0 rfl (Ua 1 (((j+1:Nat):Int)) rfl (by omega) (Uf 1 [3,10,11,16,190] rfl (Uk [3,10,11,16] rfl (Go'.inLoop ?_))))))
      exact ih (j+1) H6 ⟨hj,hG5,hh5⟩ (by omega)
     ·
      refine Ur 2 0 rfl (Uc 1 rfl (lssF (by omega)) (Uf 0 [3,10,11,16,190] rfl (Go'.condF rfl (Ut 2 rfl (Ur 4 0 rfl (Uf 4 [3,10,11,16,190] rfl (Go'.ret (vs:=[_,_]) func85 results85 ⟨rfl,rfl,trivial⟩ ?_)))))))
      exact ⟨rfl,hG5,hh5⟩
 ·
  intro tail
  refine Ut 1 rfl (Ur 1 0 rfl (Uf 1 [0,1,2,3,4,7,10,11,12] rfl (Ut 1 rfl (Ur 7 64 rfl (Ul 3 rfl hn.c2 (Ub 1 (((X.length:Int)-1)) rfl (by omega) (Uf 1 [0,1,2,3,4,7,10,11,12,13] rfl (Ut 2 rfl ?_))))))))
  have hXi:∀{a b:Nat} {y z:Int×Int},X[a]?=some y→X[b]?=some z→a<b→OI.lt y z=true:=fun {a b y z} ha hb' hab=>by
   have h2:=List.pairwise_iff_getElem.1 hs a b (List.getElem?_eq_some_iff.1 ha).1 (List.getElem?_eq_some_iff.1 hb').1 hab
   rwa [(List.getElem?_eq_some_iff.1 ha).2,(List.getElem?_eq_some_iff.1 hb').2] at h2
  have hge:∀{a:Nat} {y:Int×Int},X[a]?=some y→OI.lt x y=true→∀j z,X[j]?=some z→a≤j→OI.lt x z=true:=fun {a y} ha h j z hz haj=>by
   rcases Nat.lt_or_ge a j with h'|h'
   · exact OI.trans h (hXi ha hz h')
   ·
    obtain rfl:j=a:=by omega
    rw [ha] at hz;cases hz;exact h
  have hle:∀{a:Nat} {y:Int×Int},X[a]?=some y→OI.lt x y=false→∀j z,X[j]?=some z→j<a+1→OI.lt x z=false:=fun {a y} ha h j z hz haj=>by
   rcases Nat.lt_or_ge j a with h'|h'
   · exact OI.ntr h (OI.asy (hXi hz ha h'))
   ·
    obtain rfl:j=a:=by omega
    rw [ha] at hz;cases hz;exact h
  have hat:∀i,i<X.length→∃y,X[i]?=some y:=fun i hi=>⟨X[i],List.getElem?_eq_getElem hi⟩
  have hFs:=Fr.refl nowhere H1
  refine Go'.share2 (σ:=Nat×Nat) (fun s H'=>Fr nowhere H1 H'∧s.1≤s.2∧s.2≤X.length∧(∀j y,X[j]?=some y→j<s.1→OI.lt x y=false)∧(∀j y,X[j]?=some y→s.2≤j→OI.lt x y=true))
   (fun s=>[(0,.pointer (some ⟨tr,0,none⟩)),(1,.pointer (some ⟨g.p,0,none⟩)),(3,.pointer (some ⟨hb,0,none⟩)),(4,.int .i64 (dp:Int)),(7,.pointer (some ⟨H.size,0,none⟩)),(12,.int .i64 (s.1:Int)),(13,.int .i64 ((s.2:Int)-1))]) ?_ ?_
  ·
   rintro ⟨lo,hi⟩ H2 ⟨hF2,hlh,hhl,hlo,hhi⟩
   simp only at hlh hhl hlo hhi ⊢
   refine Ut 2 rfl (Go'.loop (Uk [0,1,3,4,7,12,13] rfl ?_))
   refine Go'.ind (σ:=Nat×Nat) (fun s=>s.2-s.1) (fun s H'=>Fr nowhere H1 H'∧s.1≤s.2∧s.2≤X.length∧(∀j y,X[j]?=some y→j<s.1→OI.lt x y=false)∧(∀j y,X[j]?=some y→s.2≤j→OI.lt x y=true))
    (fun s=>[(0,.pointer (some ⟨tr,0,none⟩)),(1,.pointer (some ⟨g.p,0,none⟩)),(3,.pointer (some ⟨hb,0,none⟩)),(4,.int .i64 (dp:Int)),(7,.pointer (some ⟨H.size,0,none⟩)),(12,.int .i64 (s.1:Int)),(13,.int .i64 ((s.2:Int)-1))]) (lo,hi) ⟨hF2,hlh,hhl,hlo,hhi⟩ rfl ?_
   clear hF2 hlh hhl hlo hhi lo hi H2
   rintro ⟨lo,hi⟩ H2 ⟨hF2,hlh,hhl,hlo,hhi⟩ ih
   simp only at hlh hhl hlo hhi
   replace tc:=tc.fr hF2 (fun _ _ _ _=>nw)
   replace hn:=NodeM.fr EJ hn hF2 (fun _ _ _=>nw)
   replace hh:=hh.fr hF2 (fun _=>nw)
   replace mk:=hF2.rd mk (fun _ _=>nw)
   refine Ut 2 rfl ?_
   by_cases hlt:lo<hi
   ·
    obtain ⟨m,hm⟩:∃m,m=lo+(hi-lo) / 2:=⟨_,rfl⟩
    obtain ⟨y,hy⟩:=hat m (by omega)
    refine Ur 3 0 rfl (Uc 2 rfl (leqT (by omega)) (Uf 0 [0,1,3,4,7,12,13,114] rfl (Go'.condT rfl (Ut 3 rfl (Ur 8 0 rfl (Ua 2 (((hi:Nat):Int)) rfl (by omega) (Ub 1 (((hi-lo:Nat):Int)) rfl (by omega) (O.quo ((((hi-lo) / 2:Nat):Int)) rfl rfl rfl rfl rfl rfl (by decide) (by rw [Int.tdiv_eq_ediv_of_nonneg (by omega)];omega) (by omega) (Ua 0 (((m:Nat):Int)) rfl (by omega) (Uf 1 [0,1,3,4,7,12,13,14,114] rfl (Ut 1 rfl ?_)))))))))))
    refine Ud 11 590852 (by kernel_rfl) (Us 1 rfl mk rfl (Ul 3 rfl hn.c2 (Ux 1 m rfl (by omega) (by omega) (Us 0 rfl (hn.sl.item hy) rfl (O.call rfl rfl rfl call68 rfl (Less_spec tc x y) ?_)))))
    rintro _ H3 ⟨rfl,hF3⟩
    replace tc:=tc.fr hF3 (fun _ _ _ _=>nw)
    replace hn:=NodeM.fr EJ hn hF3 (fun _ _ _=>nw)
    replace hh:=hh.fr hF3 (fun _=>nw)
    replace mk:=hF3.rd mk (fun _ _=>nw)
    replace hF2:=hF2.trans hF3
    refine ⟨trivial,?_⟩
    refine Uf 1 [0,1,3,4,7,12,13,14,114,132] rfl ?_
    cases hky:OI.lt x y
    ·
     refine Go'.condT rfl (Ur 3 0 rfl (Ua 1 (((m+1:Nat):Int)) rfl (by omega) (Uf 1 [0,1,3,4,7,12,13,14,114,132] rfl (Ut 1 rfl (Uk [0,1,3,4,7,12,13] rfl (Go'.inLoop ?_))))))
     exact ih (m+1,hi) H3 ⟨hF2,by simp only;omega,hhl,hle hy hky,hhi⟩ (by simp only;omega)
    ·
     refine Go'.condF rfl (Ur 3 0 rfl (Ub 1 (((m:Int)-1)) rfl (by omega) (Uf 1 [0,1,3,4,7,12,13,14,114,132] rfl (Ut 1 rfl (Uk [0,1,3,4,7,12,13] rfl (Go'.inLoop ?_))))))
     exact ih (lo,m) H3 ⟨hF2,by simp only;omega,by simp only;omega,hlo,hge hy hky⟩ (by simp only;omega)
   ·
    obtain rfl:hi=lo:=by omega
    refine Ur 3 0 rfl (Uc 2 rfl (leqF (by omega)) (Uf 0 [0,1,3,4,7,12,13,114] rfl (Go'.condF rfl (Ut 3 rfl ?_))))
    by_cases h0:0<hi
    ·
     obtain ⟨y,hy⟩:=hat (hi-1) (by omega)
     have hyk:=hlo (hi-1) y hy (by omega)
     refine Ud 16 155205632 (by kernel_rfl) (Uc 1 rfl (gtrT (by omega)) (Ul 5 rfl hn.c2 (Ub 1 (((hi-1:Nat):Int)) rfl (by omega) (Ux 0 (hi-1) rfl (by omega) (by omega) (Us 0 rfl (hn.sl.item hy) rfl (Us 0 rfl mk rfl (O.call rfl rfl rfl call68 rfl (Less_spec tc y x) ?_)))))))
     rintro _ H3 ⟨rfl,hF3⟩
     replace tc:=tc.fr hF3 (fun _ _ _ _=>nw)
     replace hn:=NodeM.fr EJ hn hF3 (fun _ _ _=>nw)
     replace hh:=hh.fr hF3 (fun _=>nw)
     replace mk:=hF3.rd mk (fun _ _=>nw)
     replace hF2:=hF2.trans hF3
     refine ⟨trivial,?_⟩
     refine Uf 2 [0,1,3,4,7,12,13,114,152] rfl ?_
     cases hky:OI.lt y x
     ·
      refine Go'.condT rfl (Ut 1 rfl (Ur 3 0 rfl (Ub 1 (((hi-1:Nat):Int)) rfl (by omega) (Uf 1 [0,1,3,4,7,10,12,13,114,152] rfl (Ur 1 0 rfl (Uf 1 [0,1,3,4,7,10,11,12,13,114,152] rfl (Ut 2 rfl (Uk [1,3,4,10,11] rfl ?_))))))))
      obtain ⟨e1,e2⟩:=Pl.search_found OI (x:=x) hs hy hky hyk
      exact tail (hi-1,true) H3 ⟨by rw [e1,e2],hF2⟩
     ·
      refine Go'.condF rfl (Ut 1 rfl (Ur 2 0 rfl (Uf 2 [0,1,3,4,7,10,12,13,114,152] rfl (Ur 1 0 rfl (Uf 1 [0,1,3,4,7,10,11,12,13,114,152] rfl (Ut 2 rfl (Uk [1,3,4,10,11] rfl ?_)))))))
      obtain ⟨e1,e2⟩:=Pl.search_none OI (x:=x) hs hhl (fun z _ hz=>by rw [hy] at hz;cases hz;exact hky) (fun z hz=>hhi hi z hz (Nat.le_refl _))
      exact tail (hi,false) H3 ⟨by rw [e1,e2],hF2⟩
    ·
     obtain rfl:hi=0:=by omega
     refine Ud 16 155205632 (by kernel_rfl) (Uc 1 rfl (gtrF (by omega)) (Uq 11 rfl (Pl.pass2 rfl rfl rfl rfl trivial (Uf 2 [0,1,3,4,7,12,13,114,152] rfl (Go'.condF rfl (Ut 1 rfl (Ur 2 0 rfl (Uf 2 [0,1,3,4,7,10,12,13,114,152] rfl (Ur 1 0 rfl (Uf 1 [0,1,3,4,7,10,11,12,13,114,152] rfl (Ut 2 rfl ?_)))))))))))
     refine Uk [1,3,4,10,11] rfl ?_
     obtain ⟨e1,e2⟩:=Pl.search_none OI (x:=x) hs hhl (fun z h _=>absurd rfl h) (fun z hz=>hhi 0 z hz (Nat.le_refl _))
     exact tail (0,false) H2 ⟨by rw [e1,e2],hF2⟩
  ·
   intro bs
   by_cases hd8:dp<8
   rotate_left
   ·
    refine Ur 10 65536 rfl (Uc 1 rfl (lssF (by omega)) (Uf 8 [0,1,2,3,4,7,10,11,12,13,32] rfl (Go'.condF rfl (Ut 1 rfl (Uk [0,1,3,4,7,12,13] rfl ?_)))))
    exact bs (0,X.length) H1 ⟨hFs,Nat.zero_le _,Nat.le_refl _,fun j y _ h=>by simp at h,fun j y h1 h2=>by
      have:=(List.getElem?_eq_some_iff.1 h1).1;simp only at h2;omega⟩
   ·
    obtain ⟨ub,hub⟩:=hh.us dp hd8
    obtain ⟨pn,hpn,hpc⟩:=hh.ps dp hd8
    refine Ur 10 65536 rfl (Uc 1 rfl (lssT (by omega)) (Uq 5 rfl (O.ixr (j:=dp) rfl rfl rfl rfl underlying100 sizeOf4 rfl rfl (by omega) hd8 (Ul 0 rfl (show cl _ hb (0+dp*1)=_ by rw [Nat.zero_add,Nat.mul_one];exact hub) (Uf 1 [0,1,2,3,4,7,10,11,12,13,32] rfl ?_)))))
    cases ub
    ·
     refine Go'.condF rfl (Ut 1 rfl (Uk [0,1,3,4,7,12,13] rfl ?_))
     exact bs (0,X.length) H1 ⟨hFs,Nat.zero_le _,Nat.le_refl _,fun j y _ h=>by simp at h,fun j y h1 h2=>by
       have:=(List.getElem?_eq_some_iff.1 h1).1;simp only at h2;omega⟩
    ·
     refine Go'.condT rfl (Ut 1 rfl (Ur 8 9216 rfl (Uq 4 rfl (O.ixr (j:=dp) rfl rfl rfl rfl underlying101 sizeOf5 rfl rfl (by omega) hd8 (Ul 0 rfl (show cl _ hb (8+dp*1)=_ by rw [Nat.mul_one];exact hpc) (O.cvi (v:=((pn:Nat):Int)) rfl rfl rfl (by rw [underlying5];rfl) underlying3 rfl rfl (wrap_id (by omega)) trivial (Uf 1 [0,1,2,3,4,7,10,11,12,13,32] rfl (Ut 2 rfl ?_))))))))
     by_cases hge2:X.length≤pn
     ·
      refine Ur 7 256 rfl (Ul 4 rfl hn.c2 (Uc 1 rfl (geqT (by omega)) (Uf 0 [0,1,2,3,4,7,10,11,12,13,32,46] rfl (Go'.condT rfl (Ut 2 rfl ?_)))))
      obtain ⟨u,hu⟩:=hat (X.length-1) (by omega)
      refine Ud 15 620822784 (by kernel_rfl) (Ul 4 rfl hn.c2 (Ul 3 rfl hn.c2 (Ub 1 (((X.length-1:Nat):Int)) rfl (by omega) (Ux 0 (X.length-1) rfl (by omega) (by omega) (Us 0 rfl (hn.sl.item hu) rfl (Us 0 rfl mk rfl (O.call rfl rfl rfl call68 rfl (Less_spec tc u x) ?_)))))))
      rintro _ H2 ⟨rfl,hF2⟩
      replace tc:=tc.fr hF2 (fun _ _ _ _=>nw)
      replace hn:=NodeM.fr EJ hn hF2 (fun _ _ _=>nw)
      replace hh:=hh.fr hF2 (fun _=>nw)
      replace mk:=hF2.rd mk (fun _ _=>nw)
      replace hFs:=hFs.trans hF2
      refine ⟨trivial,?_⟩
      refine Uf 0 [0,1,2,3,4,7,10,11,12,13,32,46,61] rfl ?_
      cases hux:OI.lt u x
      rotate_left
      ·
       refine Go'.condT rfl (Ut 1 rfl (Ur 6 64 rfl (Ul 3 rfl hn.c2 (Uf 2 [0,1,2,3,4,7,10,11,12,13,32,46,61] rfl (Ut 3 rfl ?_)))))
       obtain ⟨e1,e2⟩:=Pl.search_none OI (x:=x) (i:=X.length) hs (Nat.le_refl _) (fun z _ hz=>by rw [hu] at hz;cases hz;exact hux) (fun z hz=>by have:=(List.getElem?_eq_some_iff.1 hz).1;omega)
       refine Uk [1,3,4,10,11] rfl ?_
       exact tail (X.length,false) H2 ⟨by rw [e1,e2],hFs⟩
      ·
       obtain ⟨ix,hix⟩:∃ix,ix=X.length-1:=⟨_,rfl⟩
       refine Go'.condF rfl (Ut 1 rfl (Ur 7 64 rfl (Ul 3 rfl hn.c2 (Ub 1 (((ix:Nat):Int)) rfl (by omega) (Uf 1 [0,1,2,3,4,7,10,11,12,13,32,46,61] rfl (Ut 1 rfl ?_))))))
       obtain ⟨y,hy⟩:=hat ix (by omega)
       refine Ud 10 590852 (by kernel_rfl) (Us 1 rfl mk rfl (Ul 3 rfl hn.c2 (Ux 1 ix rfl (by omega) (by omega) (Us 0 rfl (hn.sl.item hy) rfl (O.call rfl rfl rfl call68 rfl (Less_spec tc x y) ?_)))))
       rintro _ H3 ⟨rfl,hF3⟩
       replace tc:=tc.fr hF3 (fun _ _ _ _=>nw)
       replace hn:=NodeM.fr EJ hn hF3 (fun _ _ _=>nw)
       replace hh:=hh.fr hF3 (fun _=>nw)
       replace mk:=hF3.rd mk (fun _ _=>nw)
       replace hFs:=hFs.trans hF3
       refine ⟨trivial,?_⟩
       refine Uf 0 [0,1,2,3,4,7,10,11,12,13,32,46,61,82] rfl ?_
       cases hxy:OI.lt x y
       rotate_left
       ·
        refine Go'.condT rfl (Ut 2 rfl ?_)
        by_cases h0:ix=0
        ·
         refine Ud 15 155205632 (by kernel_rfl) (Uc 1 rfl (eqlT (by omega)) (Uq 11 rfl (Pl.pass2 rfl rfl rfl rfl trivial (Uf 1 [0,1,2,3,4,7,10,11,12,13,32,46,61,82,97] rfl (Go'.condT rfl (Ut 3 rfl ?_))))))
         obtain ⟨e1,e2⟩:=Pl.search_none OI (x:=x) (i:=ix) hs (by omega) (fun z h _=>absurd h0 h) (fun z hz=>by rw [hy] at hz;cases hz;exact hxy)
         refine Uk [1,3,4,10,11] rfl ?_
         exact tail (ix,false) H3 ⟨by rw [e1,e2],hFs⟩
        ·
         obtain ⟨z,hz⟩:=hat (ix-1) (by omega)
         refine Ud 15 155205632 (by kernel_rfl) (Uc 1 rfl (eqlF (by omega)) (Ul 5 rfl hn.c2 (Ub 1 (((ix-1:Nat):Int)) rfl (by omega) (Ux 0 (ix-1) rfl (by omega) (by omega) (Us 0 rfl (hn.sl.item hz) rfl (Us 0 rfl mk rfl (O.call rfl rfl rfl call68 rfl (Less_spec tc z x) ?_)))))))
         rintro _ H4 ⟨rfl,hF4⟩
         replace tc:=tc.fr hF4 (fun _ _ _ _=>nw)
         replace hn:=NodeM.fr EJ hn hF4 (fun _ _ _=>nw)
         replace hh:=hh.fr hF4 (fun _=>nw)
         replace mk:=hF4.rd mk (fun _ _=>nw)
         replace hFs:=hFs.trans hF4
         refine ⟨trivial,?_⟩
         refine Uf 1 [0,1,2,3,4,7,10,11,12,13,32,46,61,82,97] rfl ?_
         cases hzx:OI.lt z x
         rotate_left
         ·
          refine Go'.condT rfl (Ut 3 rfl ?_)
          obtain ⟨e1,e2⟩:=Pl.search_none OI (x:=x) (i:=ix) hs (by omega) (fun u _ hu=>by rw [hz] at hu;cases hu;exact hzx) (fun u hu=>by rw [hy] at hu;cases hu;exact hxy)
          refine Uk [1,3,4,10,11] rfl ?_
          exact tail (ix,false) H4 ⟨by rw [e1,e2],hFs⟩
         ·
          refine Go'.condF rfl (Ut 1 rfl (Ur 3 0 rfl (Ub 1 (((ix:Int)-1)) rfl (by omega) (Uf 1 [0,1,2,3,4,7,10,11,12,13,32,46,61,82,97] rfl (Uk [0,1,3,4,7,12,13] rfl ?_)))))
          exact bs (0,ix) H4 ⟨hFs,Nat.zero_le _,by simp only;omega,fun j y _ h=>by simp at h,hge hy hxy⟩
       ·
        refine Go'.condF rfl (Ut 1 rfl (Ud 10 606464 (by kernel_rfl) (Ul 4 rfl hn.c2 (Ux 1 ix rfl (by omega) (by omega) (Us 0 rfl (hn.sl.item hy) rfl (Us 0 rfl mk rfl (O.call rfl rfl rfl call68 rfl (Less_spec tc y x) ?_)))))))
        rintro _ H4 ⟨rfl,hF4⟩
        replace tc:=tc.fr hF4 (fun _ _ _ _=>nw)
        replace hn:=NodeM.fr EJ hn hF4 (fun _ _ _=>nw)
        replace hh:=hh.fr hF4 (fun _=>nw)
        replace mk:=hF4.rd mk (fun _ _=>nw)
        replace hFs:=hFs.trans hF4
        refine ⟨trivial,?_⟩
        refine Uf 0 [0,1,2,3,4,7,10,11,12,13,32,46,61,82,109] rfl ?_
        cases hyx:OI.lt y x
        ·
         refine Go'.condF rfl (Ut 1 rfl (Ur 1 0 rfl (Uf 1 [0,1,2,3,4,7,10,11,12,13,32,46,61,82,109] rfl (Ut 3 rfl ?_))))
         obtain ⟨e1,e2⟩:=Pl.search_found OI (x:=x) hs hy hyx hxy
         refine Uk [1,3,4,10,11] rfl ?_
         exact tail (ix,true) H4 ⟨by rw [e1,e2],hFs⟩
        ·
         refine Go'.condT rfl (Ur 3 0 rfl (Ua 1 (((ix+1:Nat):Int)) rfl (by omega) (Uf 1 [0,1,2,3,4,7,10,11,12,13,32,46,61,82,109] rfl (Uk [0,1,3,4,7,12,13] rfl ?_))))
         exact bs (ix+1,X.length) H4 ⟨hFs,by simp only;omega,Nat.le_refl _,hle hy hxy,fun j y h1 h2=>by
           have:=(List.getElem?_eq_some_iff.1 h1).1;simp only at h2;omega⟩
     ·
      obtain ⟨ix,hix⟩:∃ix,ix=pn:=⟨_,rfl⟩
      subst hix
      refine Ur 7 256 rfl (Ul 4 rfl hn.c2 (Uc 1 rfl (geqF (by omega)) (Uf 0 [0,1,2,3,4,7,10,11,12,13,32,46] rfl (Go'.condF rfl (Ut 2 rfl ?_)))))
      obtain ⟨y,hy⟩:=hat ix (by omega)
      refine Ud 10 590852 (by kernel_rfl) (Us 1 rfl mk rfl (Ul 3 rfl hn.c2 (Ux 1 ix rfl (by omega) (by omega) (Us 0 rfl (hn.sl.item hy) rfl (O.call rfl rfl rfl call68 rfl (Less_spec tc x y) ?_)))))
      rintro _ H2 ⟨rfl,hF2⟩
      replace tc:=tc.fr hF2 (fun _ _ _ _=>nw)
      replace hn:=NodeM.fr EJ hn hF2 (fun _ _ _=>nw)
      replace hh:=hh.fr hF2 (fun _=>nw)
      replace mk:=hF2.rd mk (fun _ _=>nw)
      replace hFs:=hFs.trans hF2
      refine ⟨trivial,?_⟩
      refine Uf 0 [0,1,2,3,4,7,10,11,12,13,32,46,82] rfl ?_
      cases hxy:OI.lt x y
      rotate_left
      ·
       refine Go'.condT rfl (Ut 2 rfl ?_)
       by_cases h0:ix=0
       ·
        refine Ud 15 155205632 (by kernel_rfl) (Uc 1 rfl (eqlT (by omega)) (Uq 11 rfl (Pl.pass2 rfl rfl rfl rfl trivial (Uf 1 [0,1,2,3,4,7,10,11,12,13,32,46,82,97] rfl (Go'.condT rfl (Ut 3 rfl ?_))))))
        obtain ⟨e1,e2⟩:=Pl.search_none OI (x:=x) (i:=ix) hs (by omega) (fun z h _=>absurd h0 h) (fun z hz=>by rw [hy] at hz;cases hz;exact hxy)
        refine Uk [1,3,4,10,11] rfl ?_
        exact tail (ix,false) H2 ⟨by rw [e1,e2],hFs⟩
       ·
        obtain ⟨z,hz⟩:=hat (ix-1) (by omega)
        refine Ud 15 155205632 (by kernel_rfl) (Uc 1 rfl (eqlF (by omega)) (Ul 5 rfl hn.c2 (Ub 1 (((ix-1:Nat):Int)) rfl (by omega) (Ux 0 (ix-1) rfl (by omega) (by omega) (Us 0 rfl (hn.sl.item hz) rfl (Us 0 rfl mk rfl (O.call rfl rfl rfl call68 rfl (Less_spec tc z x) ?_)))))))
        rintro _ H3 ⟨rfl,hF3⟩
        replace tc:=tc.fr hF3 (fun _ _ _ _=>nw)
        replace hn:=NodeM.fr EJ hn hF3 (fun _ _ _=>nw)
        replace hh:=hh.fr hF3 (fun _=>nw)
        replace mk:=hF3.rd mk (fun _ _=>nw)
        replace hFs:=hFs.trans hF3
        refine ⟨trivial,?_⟩
        refine Uf 1 [0,1,2,3,4,7,10,11,12,13,32,46,82,97] rfl ?_
        cases hzx:OI.lt z x
        rotate_left
        ·
         refine Go'.condT rfl (Ut 3 rfl ?_)
         obtain ⟨e1,e2⟩:=Pl.search_none OI (x:=x) (i:=ix) hs (by omega) (fun u _ hu=>by rw [hz] at hu;cases hu;exact hzx) (fun u hu=>by rw [hy] at hu;cases hu;exact hxy)
         refine Uk [1,3,4,10,11] rfl ?_
         exact tail (ix,false) H3 ⟨by rw [e1,e2],hFs⟩
        ·
         refine Go'.condF rfl (Ut 1 rfl (Ur 3 0 rfl (Ub 1 (((ix:Int)-1)) rfl (by omega) (Uf 1 [0,1,2,3,4,7,10,11,12,13,32,46,82,97] rfl (Uk [0,1,3,4,7,12,13] rfl ?_)))))
         exact bs (0,ix) H3 ⟨hFs,Nat.zero_le _,by simp only;omega,fun j y _ h=>by simp at h,hge hy hxy⟩
      ·
       refine Go'.condF rfl (Ut 1 rfl (Ud 10 606464 (by kernel_rfl) (Ul 4 rfl hn.c2 (Ux 1 ix rfl (by omega) (by omega) (Us 0 rfl (hn.sl.item hy) rfl (Us 0 rfl mk rfl (O.call rfl rfl rfl call68 rfl (Less_spec tc y x) ?_)))))))
       rintro _ H3 ⟨rfl,hF3⟩
       replace tc:=tc.fr hF3 (fun _ _ _ _=>nw)
       replace hn:=NodeM.fr EJ hn hF3 (fun _ _ _=>nw)
       replace hh:=hh.fr hF3 (fun _=>nw)
       replace mk:=hF3.rd mk (fun _ _=>nw)
       replace hFs:=hFs.trans hF3
       refine ⟨trivial,?_⟩
       refine Uf 0 [0,1,2,3,4,7,10,11,12,13,32,46,82,109] rfl ?_
       cases hyx:OI.lt y x
       ·
        refine Go'.condF rfl (Ut 1 rfl (Ur 1 0 rfl (Uf 1 [0,1,2,3,4,7,10,11,12,13,32,46,82,109] rfl (Ut 3 rfl ?_))))
        obtain ⟨e1,e2⟩:=Pl.search_found OI (x:=x) hs hy hyx hxy
        refine Uk [1,3,4,10,11] rfl ?_
        exact tail (ix,true) H3 ⟨by rw [e1,e2],hFs⟩
       ·
        refine Go'.condT rfl (Ur 3 0 rfl (Ua 1 (((ix+1:Nat):Int)) rfl (by omega) (Uf 1 [0,1,2,3,4,7,10,11,12,13,32,46,82,109] rfl (Uk [0,1,3,4,7,12,13] rfl ?_))))
        exact bs (ix+1,X.length) H3 ⟨hFs,by simp only;omega,Nat.le_refl _,hle hy hxy,fun j y h1 h2=>by
          have:=(List.getElem?_eq_some_iff.1 h1).1;simp only at h2;omega⟩
theorem find_spec {B:World} {H:Mem} {tr id mx mn dp:Nat} (tc:TrC H tr id mx mn) {g:Ng} {X:List (Int×Int)} {kp:Option Addr} (x:Int×Int) (hn:NodeM EJ H g X (.pointer kp)) (hs:Pl.Srt OI X) (hl:X.length≤255) (h1:1≤X.length)
  {hv:Value} {hz:Nat→Prop} (hh:HintOk H hv hz) (hoff:∀b o,hz b→¬ncl EJ g b o) (hdp:dp<4611686018427387904):
  Fn Try.prog B 60 [.pointer (some ⟨tr,0,none⟩),.pointer (some ⟨g.p,0,none⟩),.agg (EJ.enc x).toArray,hv,.int .i64 (dp:Int)] H (fun v H'=>v=.tuple #[.int .i64 ((Pl.pos OI x X:Nat):Int),.bool (Pl.fnd OI x X)]∧Fr (fun b _=>hz b) H H'∧HintOk H' hv hz):=by
 rcases hh with ⟨rfl,hz0⟩|⟨hb,rfl,hzb,hbl,hbb,hm⟩
 ·
  refine fn_of func60 rfl ntmps60 ?_
  refine (show Go' _ _ _ _ 28 [(0,_),(1,_),(2,_),(3,_),(4,_)] [.code _] _ from ?_)
  refine Ut 1 rfl (Ur 3 2 rfl (O.box rfl rfl rfl rfl ?_))
  intro H1 M1
  refine ⟨trivial,?_⟩
  have hF1:=M1.fr nowhere
  have hs1:=M1.size
  replace tc:=tc.fr hF1 (fun _ _ _ _=>nw)
  replace hn:=NodeM.fr EJ hn hF1 (fun _ _ _=>nw)
  have mk:Rd H1 H.size 0 (EJ.enc x):=M1.rd _ [] (by simp [Value.cells])
  refine Uf 2 [0,1,3,4,7,10,11] rfl (Ut 2 rfl (Ur 2 0 rfl (Uq 1 rfl (O.isNil rfl rfl rfl rfl underlying116 rfl rfl (Uf 0 [0,1,3,4,7,10,11,13] rfl (Go'.condT rfl (Ut 1 rfl (Ur 8 144 rfl (Us 2 rfl mk rfl (O.call rfl rfl rfl call84 rfl (bsearch_spec tc x hn hs hl) ?_))))))))))
  rintro _ H2 ⟨rfl,hF2⟩
  refine ⟨trivial,?_⟩
  refine Uf 4 [0,1,3,4,7,10,11] rfl (Go'.ret (vs:=[_,_]) func60 results60 ⟨rfl,rfl,trivial⟩ ?_)
  exact ⟨rfl,(hF1.trans hF2).mono (fun _ _ _ h=>h.elim),.inl ⟨rfl,hz0⟩⟩
 ·
  refine fn_of func60 rfl ntmps60 ?_
  refine (show Go' _ _ _ _ 28 [(0,_),(1,_),(2,_),(3,_),(4,_)] [.code _] _ from ?_)
  refine Ut 1 rfl (Ur 3 2 rfl (O.box rfl rfl rfl rfl ?_))
  intro H1 M1
  refine ⟨trivial,?_⟩
  have hF1:=M1.fr nowhere
  have hs1:=M1.size
  replace tc:=tc.fr hF1 (fun _ _ _ _=>nw)
  replace hn:=NodeM.fr EJ hn hF1 (fun _ _ _=>nw)
  have mk:Rd H1 H.size 0 (EJ.enc x):=M1.rd _ [] (by simp [Value.cells])
  refine Uf 2 [0,1,3,4,7,10,11] rfl (Ut 2 rfl ?_)
  replace hm:=hm.fr hF1 (fun _=>nw)
  refine Ur 2 0 rfl (Uq 1 rfl (O.isNil rfl rfl rfl rfl underlying116 rfl rfl (Uf 0 [0,1,3,4,7,10,11,13] rfl (Go'.condF rfl (Ut 2 rfl (Ur 10 2064 rfl (Us 2 rfl mk rfl (Uq 2 rfl (O.call rfl rfl rfl call85 rfl (hintsearch_spec tc x hn hs hl h1 hm (by omega) hbb (fun o=>hoff hb o ((hzb hb).2 rfl)) hdp) ?_)))))))))
  rintro _ H2 ⟨rfl,hF2,hm2⟩
  refine ⟨trivial,?_⟩
  refine Uf 4 [10,11] rfl (Go'.ret (vs:=[_,_]) func60 results60 ⟨rfl,rfl,trivial⟩ ?_)
  exact ⟨rfl,hF1.trans' hF2 (fun _ _ _ h=>h.elim) (fun b _ _ h=>(hzb b).2 h),.inr ⟨hb,rfl,hzb,Nat.lt_of_lt_of_le (by omega) hF2.size,hbb,hm2⟩⟩
end Go.Bt.FG
namespace Go.Bt.FG
open Go Go.Proofs Go.Proofs.Try
set_option maxRecDepth 20000
set_option maxHeartbeats 4000000
set_option linter.unusedSectionVars false
variable [Inhabited Cx]
structure NPreH (H:Mem) (tr:Nat) (P:Ps) (h:Nat) (t:Gt EJ h) (bp op:Nat) (hv:Value) (hz:Nat→Prop) (dp:Nat):Prop where
 pre:NPre H tr P h t bp op
 x1:1≤(Gt.X h t).length
 hk:HintOk H hv hz
 ho:∀b o,Gt.af h t b o→¬hz b
 dp:dp+h<4611686018427387904
def SetQH (H:Mem) (P:Ps) (h:Nat) (t:Gt EJ h) (x:Int×Int) (hv:Value) (hz:Nat→Prop) (v:Value) (H':Mem):Prop:=
 HintOk H' hv hz∧∃Hm:Mem,Hm.size=H.size∧Fr (fun b _=>hz b) H Hm∧SetQ Hm P h t x v H'
theorem HintOk.cut {H H':Mem} {hv:Value} {hz:Nat→Prop} {Z:Nat→Nat→Prop} (hk:HintOk H hv hz) (hF:Fr (fun b o=>Z b o∨hz b) H H'):∃Hm:Mem,Hm.size=H.size∧Fr (fun b _=>hz b) H Hm∧Fr Z Hm H':=by
 rcases hk with ⟨_,h0⟩|⟨hb,_,h1,h2,_,_⟩
 · exact ⟨H,rfl,Fr.refl _ _,hF.mono fun b o _ h=>h.elim id fun h=>absurd h (h0 b)⟩
 ·
  obtain ⟨Hm,e,f1,f2⟩:=Fr.split (Z:=Z) h2 (hF.mono fun b o _ h=>h.imp id (h1 b).1)
  exact ⟨Hm,e,f1.mono fun b _ _ h=>(h1 b).2 h,f2⟩
theorem SetQH.mk {H H':Mem} {P:Ps} {h:Nat} {t:Gt EJ h} {x:Int×Int} {hv v:Value} {hz:Nat→Prop} {Z:Nat→Nat→Prop} (hk:HintOk H hv hz) (hF:Fr (fun b o=>Z b o∨hz b) H H') (hk':HintOk H' hv hz) (k:∀Hm:Mem,Hm.size=H.size→Fr Z Hm H'→SetQ Hm P h t x v H'):SetQH H P h t x hv hz v H':=
 have ⟨Hm,e,f1,f2⟩:=hk.cut hF
 ⟨hk',Hm,e,f1,k Hm e f2⟩
theorem SetQ.uni {H:Mem} {P:Ps} {h:Nat} {t:Gt EJ h} {x:Int×Int} {v:Value} {H':Mem} (hq:SetQ H P h t x v H'):∃pv r sp,v=.tuple #[PV pv,.bool r,.bool sp]∧
  ((sp=false∧∃t',pv=Pl.got OI x (Gt.L h t)∧r=Pl.fnd OI x (Gt.L h t)∧SetT OI H H' P h t t' x)∨(sp=true∧pv=none∧r=false∧Fr nowhere H H'∧(Gt.X h t).length=P.mx∧¬Gt.NF OI P x h t∧Ab.put OI P.mx P.mn x h (Gt.ab h t)=none)):=by
 rcases hq with ⟨t',e,hs⟩|⟨e,hs⟩
 · exact ⟨_,_,_,e,.inl ⟨rfl,t',rfl,rfl,hs⟩⟩
 · exact ⟨_,_,_,e,.inr ⟨rfl,rfl,rfl,hs⟩⟩
theorem nset0 {B:World} {H:Mem} {tr bp op dp:Nat} {P:Ps} (hP:PsOk P) {x:Int×Int} {t:Gt EJ 0} {hv:Value} {hz:Nat→Prop} (hp:NPreH H tr P 0 t bp op hv hz dp):
  Fn Try.prog B 91 [.pointer (some ⟨tr,0,none⟩),.pointer (some ⟨bp,op,none⟩),.agg (EJ.enc x).toArray,hv,.int .i64 (dp:Int)] H (SetQH H P 0 t x hv hz):=by
 obtain ⟨g,X⟩:=t
 obtain ⟨⟨tc,hg,hc,hnt,hsX,hlen⟩,hx1,hk,ho,hdp⟩:=hp
 unfold ptr at hc
 replace hsX:Pl.Srt OI X:=hsX
 replace hx1:1≤X.length:=hx1
 replace ho:∀b o,ncl EJ g b o→¬hz b:=ho
 have hN:NodeM EJ H g X (.pointer none):=hg.1
 have hiso:g.iso=P.iso:=hg.2.1
 have hcnt:g.cnt=X.length:=hg.2.2.1
 have hxm:X.length≤P.mx:=hg.2.2.2
 have hx255:=hP.hx
 have hlt:∀b o,ncl EJ g b o→b<H.size:=fun b o hb=>NodeM.lt hN hb
 obtain ⟨hpl,hil⟩:=hN.cells
 obtain ⟨hn1,hn2⟩:=offB_node hN.ic hnt
 have hpi:=hN.ne
 have htl:cx.base≤H.size:=tc.hb
 have hzb:=hk.base
 have hbpl:=cl_lt hc
 have hk0:=hk
 replace hc:cl H bp op=some (.pointer (some ⟨g.p,0,none⟩)):=hc
 have hF:Fr nowhere H H:=Fr.refl _ _
 refine fn_of func91 rfl ntmps91 ?_
 refine (show Go' _ _ _ _ 275 [(0,_),(1,_),(2,_),(3,_),(4,_)] [.code _] _ from ?_)
 refine Ut 1 rfl (Ur 4 10 rfl (O.box rfl rfl rfl rfl ?_))
 intro H0 M0
 refine ⟨trivial,?_⟩
 have hs0:=M0.size
 replace hN:=NodeM.fr EJ hN (M0.fr nowhere) (fun _ _ _=>nw)
 replace tc:=tc.fr (M0.fr nowhere) (fun _ _ _ _=>nw)
 replace hk:=hk.fr (M0.fr nowhere) (fun _ _ _=>nw)
 replace hc:=(M0.fr nowhere).keep hc nw
 replace hF:=hF.trans' (M0.fr nowhere) (fun _ _ _ h=>h) (fun _ _ _ h=>h.elim)
 have mi:Rd H0 H.size 0 (EJ.enc x):=M0.rd _ [] (by simp [Value.cells])
 refine O.alloc rfl rfl rfl zeroValue27 ?_
 intro H1 M1
 refine ⟨trivial,?_⟩
 have hs1:H1.size=H.size+2:=by have:=M1.size;omega
 replace hN:=NodeM.fr EJ hN (M1.fr nowhere) (fun _ _ _=>nw)
 replace tc:=tc.fr (M1.fr nowhere) (fun _ _ _ _=>nw)
 replace hk:=hk.fr (M1.fr nowhere) (fun _ _ _=>nw)
 replace hc:=(M1.fr nowhere).keep hc nw
 replace hF:=hF.trans' (M1.fr nowhere) (fun _ _ _ h=>h) (fun _ _ _ h=>h.elim)
 replace mi:=(M1.fr nowhere).rd mi (fun _ _=>nw)
 have mp:Wr H1 H0.size 0 2:=M1.wr 2 (by decide)
 refine Uf 2 [0,1,3,4,7,10,11,12] rfl (Ut 2 rfl ?_)
 have hc0:=hN.c0
 rw [hiso] at hc0
 refine Ud 11 263184 (by kernel_rfl) (Ul 2 rfl hc (Ul 2 rfl hc0 (Ul 3 rfl tc.iso (Uc 0 rfl (neqF (by omega)) (Uf 0 [0,1,3,4,7,10,11,12,28] rfl (Go'.condF rfl (Ut 2 rfl (Ur 5 656 rfl (Ul 2 rfl hc (O.alloc rfl rfl rfl zeroValue107 ?_))))))))))
 intro H2 M2
 refine ⟨trivial,?_⟩
 have hs2:=M2.size
 replace hN:=NodeM.fr EJ hN (M2.fr nowhere) (fun _ _ _=>nw)
 replace tc:=tc.fr (M2.fr nowhere) (fun _ _ _ _=>nw)
 replace hk:=hk.fr (M2.fr nowhere) (fun _ _ _=>nw)
 replace hc:=(M2.fr nowhere).keep hc nw
 replace mi:=(M2.fr nowhere).rd mi (fun _ _=>nw)
 replace mp:=(M2.fr nowhere).wr mp
 replace hF:=hF.trans' (M2.fr nowhere) (fun _ _ _ h=>h) (fun _ _ _ h=>h.elim)
 have m9w:Wr H2 H1.size 0 1:=M2.wr 1 (by decide)
 refine O.st rfl rfl sizeOf107 rfl rfl rfl rfl rfl m9w ?_
 intro Ha W3
 have hsa:=W3.size
 replace hN:=NodeM.fr EJ hN W3.fr (fun b o hb=>nr (.inl (by have:=hlt b o hb;omega)))
 replace tc:=tc.fr W3.fr (fun b o hb _=>nr (.inl (by omega)))
 replace hc:=W3.fr.keep hc (nr (.inl (by omega)))
 replace mi:=W3.fr.rd mi (fun _ _=>nr (.inl (by omega)))
 replace mp:=W3.fr.wr mp
 replace hk:=hk.fr W3.fr (fun b o hb=>nr (.inl (by have:=(hzb b hb).2;omega)))
 replace hF:=hF.trans' W3.fr (fun _ _ _ h=>h) (fun b o hb h=>by simp only [rng] at h;omega)
 have m9:cl Ha H1.size 0=some (.pointer (some ⟨g.p,0,none⟩)):=W3.at
 clear hc0
 refine ⟨trivial,?_⟩
 refine Uf 0 [0,3,4,7,10,11,12,13] rfl (Ut 1 rfl ?_)
 clear hc
 refine Ur 1 0 rfl (Uf 1 [0,3,4,7,10,11,12,13,14] rfl (Ut 1 rfl (Ur 1 0 rfl (Uf 1 [0,3,4,7,10,11,12,13,14,15] rfl (Ut 2 rfl ?_)))))
 generalize hi:Pl.pos OI x X=i at*
 generalize hfb:Pl.fnd OI x X=fb at*
 refine Go'.share2 (σ:=Unit) (fun _ H'=>Fr (fun b _=>hz b) Ha H'∧HintOk H' hv hz) (fun _=>[(0,.pointer (some ⟨tr,0,none⟩)),(3,hv),(4,.int .i64 (dp:Int)),(7,.pointer (some ⟨H.size,0,none⟩)),(10,.pointer (some ⟨H0.size,0,none⟩)),(13,.pointer (some ⟨H1.size,0,none⟩)),(14,.int .i64 ((i:Nat):Int)),(15,.bool fb)]) ?_ ?_
 rotate_left
 ·
  intro tail
  rcases hk with ⟨rfl,hz0⟩|⟨hb,rfl,hzq,hbl,hbb,hm⟩
  ·
   refine Ur 2 0 rfl (Uq 1 rfl (O.isNil rfl rfl rfl rfl underlying116 rfl rfl (Uf 0 [0,3,4,7,10,11,12,13,14,15,40] rfl (Go'.condT rfl (Ur 9 148 rfl (Ul 1 rfl m9 (Us 0 rfl mi rfl (O.call rfl rfl rfl call84 rfl (bsearch_spec tc x hN hsX (by omega)) ?_))))))))
   rintro _ H3 ⟨rfl,hF3⟩
   rw [hi,hfb]
   refine ⟨trivial,?_⟩
   refine Uf 5 [0,3,4,7,10,11,12,13,14,15] rfl (Uk [0,3,4,7,10,13,14,15] rfl ?_)
   exact tail () H3 ⟨hF3.mono (fun _ _ _ h=>h.elim),.inl ⟨rfl,hz0⟩⟩
  ·
   refine Ur 2 0 rfl (Uq 1 rfl (O.isNil rfl rfl rfl rfl underlying116 rfl rfl (Uf 0 [0,3,4,7,10,11,12,13,14,15,40] rfl (Go'.condF rfl (Ur 11 2068 rfl (Ul 1 rfl m9 (Us 0 rfl mi rfl (Uq 2 rfl (O.call rfl rfl rfl call85 rfl (hintsearch_spec tc x hN hsX (by omega) hx1 hm hbl hbb (fun o ho2=>ho hb o (ho2) ((hzq hb).2 rfl)) (by omega)) ?_)))))))))
   rintro _ H3 ⟨rfl,hF3,hm3⟩
   rw [hi,hfb]
   refine ⟨trivial,?_⟩
   refine Uf 5 [0,3,4,7,10,11,12,13,14,15] rfl (Uk [0,3,4,7,10,13,14,15] rfl ?_)
   exact tail () H3 ⟨hF3.mono (fun b _ _ h=>(hzq b).2 h),.inr ⟨hb,rfl,hzq,Nat.lt_of_lt_of_le hbl hF3.size,hbb,hm3⟩⟩
 clear hk
 rintro _ H3 ⟨hF3,hk⟩
 have hs3:=hF3.size
 replace hN:=NodeM.fr EJ hN hF3 (fun b o hb hz=>ho b o hb hz)
 replace tc:=tc.fr hF3 (fun b o hb _ hz=>(hzb b hz).1 hb)
 replace mi:=hF3.rd mi (fun _ _ hz=>by have:=(hzb _ hz).2;omega)
 replace mp:=hF3.wr mp
 replace m9:=hF3.keep m9 (fun hz=>by have:=(hzb _ hz).2;omega)
 replace hF:Fr (fun b _=>hz b) H H3:=hF.trans' hF3 (fun _ _ _ h=>h.elim) (fun _ _ _ h=>h)
 refine Ut 2 rfl (Ur 1 0 rfl (Uf 1 [0,3,4,7,10,13,14,57] rfl ?_))
 cases fb
 rotate_left
 ·
  have hlt9:∀b o,ncl EJ g b o→b<H.size∨H1.size<b:=fun b o hb=>.inl (hlt b o hb)
  obtain ⟨y,hy,_,_⟩:=Pl.fnd_at OI hsX hfb
  rw [hi] at hy
  have hlt':i<X.length:=(List.getElem?_eq_some_iff.1 hy).1
  refine Go'.condT rfl (Ut 1 rfl (Ur 8 36929 rfl (Ul 0 rfl m9 (Ul 2 rfl hN.c2 (Ux 1 i rfl (by omega) hlt' (Us 0 rfl (hN.sl.item hy) rfl (O.st (vs:=(EJ.enc y)) rfl rfl sizeOf27 rfl rfl rfl rfl rfl mp ?_)))))))
  intro H5 W5
  have hs5:=W5.size
  replace hN:=NodeM.fr EJ hN W5.fr (fun b o hb=>nr (.inl (by have:=hlt b o hb;omega)))
  replace tc:=tc.fr W5.fr (fun b o hb _=>nr (.inl (by omega)))
  replace mi:=W5.fr.rd mi (fun _ _=>nr (.inl (by omega)))
  replace mp:=W5.fr.wr mp
  replace m9:=W5.fr.keep m9 (nr (.inl (by omega)))
  replace hk:=hk.fr W5.fr (fun b o hb=>nr (.inl (by have:=(hzb b hb).2;omega)))
  replace hF:=hF.trans' W5.fr (fun _ _ _ h=>h) (fun b o hb h=>by simp only [rng] at h;omega)
  have mq:Rd H5 H0.size 0 (EJ.enc y):=W5.all
  refine ⟨trivial,?_⟩
  refine Uf 0 [0,3,4,7,10,13,14] rfl (Ut 1 rfl (Ud 8 50241 (by kernel_rfl) (Ul 0 rfl m9 (Ul 2 rfl hN.c2 (Us 1 rfl mi rfl (Ux 0 i rfl (by omega) hlt' (O.st3 rfl rfl sizeOf27 rfl rfl rfl rfl rfl (hN.sl.wri hlt') ?_)))))))
  intro H4 W4
  have hs4:=W4.size
  replace hk:=hk.fr W4.fr (fun b o hb0 h=>ho b o (by have:=W4.as_row.in_items hN (by rw [List.length_singleton];omega) (by rw [row_one];exact h);exact .inr this) hb0)
  replace hF:Fr (fun b o=>ncl EJ g b o∨hz b) H H4:=hF.trans' W4.fr (fun _ _ _ h=>.inr h) (fun b o hb h=>.inl (by have:=W4.as_row.in_items hN (by rw [List.length_singleton];omega) (by rw [row_one];exact h);exact .inr this))
  replace mq:=W4.fr.rd mq (fun _ _=>nr (.inl (by omega)))
  replace mp:=W4.fr.wr mp
  replace hN:=hN.set W4 hlt'
  refine Uf 0 [0,3,4,7,10,13,14] rfl (Ut 1 rfl (Ur 4 9 rfl (Us 0 rfl mq rfl (O.st (vs:=(EJ.enc y)) rfl rfl sizeOf27 rfl rfl rfl rfl rfl mp ?_))))
  intro H9 W9
  have hs9:=W9.size
  replace hk:=hk.fr W9.fr (fun b o hb=>nr (.inl (by have:=(hzb b hb).2;omega)))
  replace hF:=hF.trans' W9.fr (fun _ _ _ h=>h) (fun b o hb h=>by simp only [rng] at h;omega)
  replace hN:=NodeM.fr EJ hN W9.fr (fun b o hb=>nr (.inl (by rcases hlt9 b o hb with h|h<;>omega)))
  have mr:Rd H9 H0.size 0 (EJ.enc y):=W9.all
  refine ⟨trivial,?_⟩
  refine Uf 2 [0,3,4,7,10,11,12,13,14] rfl (Go'.ret (vs:=[_,_,_]) func91 results91 ⟨⟨_,_,rfl,fun _ _=>run_loadVar_agg (fun w=>⟨isAgg27 w,sizeOf27 w⟩) rfl mr⟩,rfl,rfl,trivial⟩ ?_)
  have hll:(X.take i++x::X.drop (i+1)).length=X.length:=by simp only [List.length_append,List.length_take,List.length_cons,List.length_drop];omega
  refine SetQH.mk hk0 hF hk fun Hm hsm hFm=>.inl ⟨((g,X.take i++x::X.drop (i+1)):Gt EJ 0),?_,⟨hFm,⟨hN,hiso,hcnt.trans hll.symm,by rw [hll];exact hxm⟩,rfl,fun b o hb=>.inl hb,?_,Nat.le_of_eq hll.symm,Ab.put_leaf_found hfb hi⟩⟩
  ·
   show _=Value.tuple #[PV (Pl.got OI x X),.bool (Pl.fnd OI x X),.bool false]
   rw [Pl.got_some OI hfb,hi,hy,hfb];rfl
  ·
   show _=Pl.put OI x X
   unfold Pl.put;rw [hfb,hi];rfl
 ·
  have hle:i≤X.length:=by rw [←hi];exact Pl.pos_le OI x X
  refine Go'.condF rfl (Ut 3 rfl (Ur 2 9 rfl (Ul 0 rfl m9 (O.callQ rfl rfl rfl call62 rfl (leaf_spec hN.c3) trivial (Uf 0 [0,3,4,7,10,13,14,74] rfl (Go'.condT rfl (Ut 2 rfl ?_)))))))
  by_cases hful:X.length=P.mx
  ·
   refine Ud 10 65601 (by kernel_rfl) (Ul 0 rfl m9 (Ul 2 rfl hN.c2 (Ul 4 rfl tc.mx' (Uc 0 rfl (eqlT (by omega)) (Uf 0 [0,3,4,7,10,13,14,84] rfl (Go'.condT rfl (Ut 1 rfl ?_)))))))
   have hlt9:∀b o,ncl EJ g b o→b<H.size∨H1.size<b:=fun b o hb=>.inl (hlt b o hb)
   refine Ur 7 576 rfl (Us 3 rfl tc.emp rfl (O.st (vs:=(EJ.enc (0,0))) rfl rfl sizeOf27 rfl rfl rfl rfl rfl mp ?_))
   intro H9 W9
   have hs9:=W9.size
   replace hk:=hk.fr W9.fr (fun b o hb=>nr (.inl (by have:=(hzb b hb).2;omega)))
   replace hF:=hF.trans' W9.fr (fun _ _ _ h=>h) (fun b o hb h=>by simp only [rng] at h;omega)
   replace hN:=NodeM.fr EJ hN W9.fr (fun b o hb=>nr (.inl (by rcases hlt9 b o hb with h|h<;>omega)))
   have mr:Rd H9 H0.size 0 (EJ.enc (0,0)):=W9.all
   refine ⟨trivial,?_⟩
   refine Uf 2 [0,3,4,7,10,11,12,13,14] rfl (Go'.ret (vs:=[_,_,_]) func91 results91 ⟨⟨_,_,rfl,fun _ _=>run_loadVar_agg (fun w=>⟨isAgg27 w,sizeOf27 w⟩) rfl mr⟩,rfl,rfl,trivial⟩ ?_)
   exact SetQH.mk (Z:=nowhere) hk0 (hF.mono fun _ _ _ h=>.inr h) hk fun Hm hsm hFm=>.inr ⟨rfl,hFm,hful,fun hh=>by have hh2:X.length<P.mx:=hh;omega,Ab.put_leaf_full hfb hful⟩
  ·
   refine Ud 10 65601 (by kernel_rfl) (Ul 0 rfl m9 (Ul 2 rfl hN.c2 (Ul 4 rfl tc.mx' (Uc 0 rfl (eqlF (by omega)) (Uf 0 [0,3,4,7,10,13,14,84] rfl (Go'.condF rfl (Ut 2 rfl (UD (fun H'=>cl H' H1.size 0=some (.pointer (some ⟨g.p,0,none⟩))∧cl H' g.p 2=some (.slice (some ⟨g.ib,g.io,none⟩) X.length g.ic)) 14 204013568 (by kernel_rfl) (⟨m9,hN.c2⟩) (UL 0 rfl (fun _ h=>h.1) (UL 0 rfl (fun _ h=>h.1) (UL 2 rfl (fun _ h=>h.2) ?_)))))))))))
   refine Us 3 rfl tc.emp rfl (O.bsl (cs:=(EJ.enc (0,0))) rfl rfl rfl ⟨underlying25,sizeOf27,zeroValue27,⟨_,typeInfo27,rfl⟩,rfl,by decide,by decide⟩ rfl (by decide) (by kernel_rfl) ?_)
   intro H4 M4
   have hs4:=M4.size
   replace hN:=NodeM.fr EJ hN (M4.fr nowhere) (fun _ _ _=>nw)
   replace tc:=tc.fr (M4.fr nowhere) (fun _ _ _ _=>nw)
   replace hk:=hk.fr (M4.fr nowhere) (fun _ _ _=>nw)
   replace mi:=(M4.fr nowhere).rd mi (fun _ _=>nw)
   replace mp:=(M4.fr nowhere).wr mp
   replace m9:=(M4.fr nowhere).keep m9 nw
   replace hF:=hF.trans' (M4.fr nowhere) (fun _ _ _ h=>h) (fun _ _ _ h=>h.elim)
   have m4:Rd H4 H3.size 0 (EJ.enc (0,0)):=M4.rd _ [] (by simp)
   refine ⟨⟨m9,hN.c2⟩,?_⟩
   refine O.app (m:=1) (news:=(EJ.enc (0,0))) rfl rfl rfl ⟨underlying25,sizeOf27,zeroValue27,⟨_,typeInfo27,rfl⟩,rfl,by decide,by decide⟩ rfl hN.sl rfl (.inl ⟨_,_,_,rfl,m4⟩) rfl rfl (Nat.le_trans (Nat.mul_le_mul_left _ (Nat.le_of_ble_eq_true (n:=_) (m:=4096) rfl)) (by omega)) (by omega) ?_
   intro b' o' c' H5 ha
   have hin:∀b o,b<H.size→(b=b'∧o'≤o∧o<o'+c'*EJ.s)→ncl EJ g b o:=fun b o hb hh=>.inr (ha.inside (by omega) hh)
   have hbn:(b'<H.size∨H1.size<b')∧cx.base≤b'∧b'≠g.p:=by rcases ha.place with ⟨r,_⟩|⟨r,_⟩<;>omega
   have hsl:=SlE.app (E:=EJ) (x:=(0,0)) ha
   have hN0:=hN
   replace hN:=hN.appd ha
   replace tc:=tc.fr ha.fr (fun b o hb _=>nr (.inl (by omega)))
   replace mi:=ha.fr.rd mi (fun _ _=>nr (.inl (by omega)))
   replace mp:=ha.fr.wr mp
   replace m9:=ha.fr.keep m9 (nr (.inl (by omega)))
   replace hk:=hk.fr (ha.in_node hN0) (fun b o hb h=>ho b o h hb)
   replace hF:Fr (fun b o=>ncl EJ g b o∨hz b) H H5:=hF.trans' (ha.in_node hN0) (fun _ _ _ h=>.inr h) (fun b o _ h=>.inl h)
   have hs5:H4.size≤H5.size:=ha.fr.size
   refine ⟨⟨m9,hN.c2⟩,?_⟩
   refine Uq 2 rfl (O.st3 rfl rfl sizeOf25 rfl rfl rfl rfl rfl (hN.wr.at0 2 1 (by omega)) ?_)
   intro H6 W6
   have hs6:=W6.size
   replace hN:=hN0.push (e:=(0,0)) ha W6
   replace tc:=tc.fr W6.fr (fun b o hb _=>nr (.inl (by omega)))
   replace mi:=W6.fr.rd mi (fun _ _=>nr (.inl (by omega)))
   replace mp:=W6.fr.wr mp
   replace m9:=W6.fr.keep m9 (nr (.inl (by omega)))
   replace hk:=hk.fr W6.fr (fun b o hb0 h=>ho b o (by have hb:=(hzb b hb0).2;exact NodeM.in1 (H:=H5) (H':=H6) (by simp) h) hb0)
   replace hF:=hF.trans' W6.fr (fun _ _ _ h=>h) (fun b o hb h=>.inl (NodeM.in1 (H:=H5) (H':=H6) (by simp) h))
   refine Uf 0 [0,3,4,7,10,13,14] rfl (Ut 1 rfl ?_)
   have hl1:(X++[((0:Int),(0:Int))]).length=X.length+1:=by simp
   have hcp:=hN.sl.hle
   rw [hl1] at hcp
   simp only at hcp
   have hh2:cl H6 g.p 2=some (.slice (some ⟨b',o',none⟩) (X.length+1) c'):=by have:=hN.c2;rwa [hl1] at this
   refine Ud 14 135282753 (by kernel_rfl) (Ul 0 rfl m9 (Ul 2 rfl hh2 (Ua 1 (((i+1:Nat):Int)) rfl (by omega) (O.slc (jl:=i+1) (jh:=X.length+1) (jm:=c') rfl rfl rfl rfl underlying25 sizeOf27 rfl rfl rfl ⟨_,by rfl⟩ (by omega) (by omega) (by simp) (by simp) ?_))))
   intro o7 ho7
   refine Ul 0 rfl m9 (Ul 2 rfl hh2 (Uq 1 rfl (O.slc (jl:=i) (jh:=X.length+1) (jm:=c') rfl rfl rfl rfl underlying25 sizeOf27 rfl rfl rfl ⟨_,by rfl⟩ (by omega) (by omega) (by simp) (by simp) ?_)))
   intro o8 ho8
   obtain rfl:=ho8 (by omega)
   refine O.copy (b:=b') (o:=(o'+(i+1)*2)) (j:=(X.length-i)) (cs:=(row EJ (X.drop i))) rfl rfl rfl ⟨underlying25,sizeOf27,zeroValue27,⟨_,typeInfo27,rfl⟩,rfl,by decide,by decide⟩ rfl rfl (show _=min _ _ by omega) ((Nat.lt_or_ge i X.length).elim (fun h=>.inl (by rw [ho7 (by omega)])) (fun h=>.inr (by omega))) (.inl ⟨_,_,_,rfl,hN.sl.tail hle⟩) (by rw [row_len,List.length_drop];rfl) (row_ones EJ _) (hN.sl.wrm (i:=i+1) (m:=X.length-i) (by rw [hl1];omega)) ?_
   intro H7 W7
   have hs7:=W7.size
   have hN1:=hN
   have hdl:(X.drop i).length=X.length-i:=List.length_drop
   replace hN:=hN.cpy (i:=i+1) (Y:=X.drop i) W7 (by rw [hl1,hdl];omega)
   replace tc:=tc.fr W7.fr (fun b o hb _=>nr (.inl (by omega)))
   replace mi:=W7.fr.rd mi (fun _ _=>nr (.inl (by omega)))
   replace mp:=W7.fr.wr mp
   replace m9:=W7.fr.keep m9 (nr (.inl (by omega)))
   replace hh2:=W7.fr.keep hh2 (nr (.inl (by omega)))
   replace hk:=hk.fr W7.fr (fun b o hb0 h=>ho b o (by have hb:=(hzb b hb0).2;exact hin b o hb (W7.in_items (i:=i+1) (Y:=X.drop i) hN1 (by rw [hl1,hdl];omega) h)) hb0)
   replace hF:=hF.trans' W7.fr (fun _ _ _ h=>h) (fun b o hb h=>.inl (hin b o hb (W7.in_items (i:=i+1) (Y:=X.drop i) hN1 (by rw [hl1,hdl];omega) h)))
   refine ⟨trivial,?_⟩
   refine Uf 0 [0,3,4,7,10,13,14] rfl (Ut 1 rfl ?_)
   have hl2:=Pl.ins_len X ((0:Int),(0:Int)) i hle
   refine Ud 8 50241 (by kernel_rfl) (Ul 0 rfl m9 (Ul 2 rfl hh2 (Us 1 rfl mi rfl (Ux 0 i rfl (by omega) (by omega) (O.st3 rfl rfl sizeOf27 rfl rfl rfl rfl rfl (hN.sl.wri (i:=i) (by rw [hl2];omega)) ?_)))))
   intro H8 W8
   have hs8:=W8.size
   have hN2:=hN
   replace hN:=hN.set (i:=i) W8 (by rw [hl2];omega)
   rw [Pl.ins_list X _ x i hle] at hN
   replace tc:=tc.fr W8.fr (fun b o hb _=>nr (.inl (by omega)))
   replace mi:=W8.fr.rd mi (fun _ _=>nr (.inl (by omega)))
   replace mp:=W8.fr.wr mp
   replace m9:=W8.fr.keep m9 (nr (.inl (by omega)))
   replace hh2:=W8.fr.keep hh2 (nr (.inl (by omega)))
   replace hk:=hk.fr W8.fr (fun b o hb0 h=>ho b o (by have hb:=(hzb b hb0).2;exact hin b o hb (W8.as_row.in_items (i:=i) hN2 (by rw [hl2,List.length_singleton];omega) (by rw [row_one];exact h))) hb0)
   replace hF:=hF.trans' W8.fr (fun _ _ _ h=>h) (fun b o hb h=>.inl (hin b o hb (W8.as_row.in_items (i:=i) hN2 (by rw [hl2,List.length_singleton];omega) (by rw [row_one];exact h))))
   refine Uf 0 [0,3,4,7,10,13,14] rfl (Ut 1 rfl ?_)
   have hc1:cl H8 g.p 1=some (.int .i64 (g.cnt:Int)):=hN.c1
   refine Ur 8 32833 rfl (Ul 0 rfl m9 (Ul 2 rfl hc1 (Ua 0 (((g.cnt+1:Nat):Int)) rfl (by omega) (Uq 2 rfl (O.st rfl rfl sizeOf3 rfl rfl rfl rfl rfl (hN.wr.at0 1 1 (by omega)) ?_)))))
   intro Hc Wc
   have hsc:=Wc.size
   replace hN:=hN.count Wc
   replace tc:=tc.fr Wc.fr (fun b o hb _=>nr (.inl (by omega)))
   replace mi:=Wc.fr.rd mi (fun _ _=>nr (.inl (by omega)))
   replace mp:=Wc.fr.wr mp
   replace m9:=Wc.fr.keep m9 (nr (.inl (by omega)))
   replace hk:=hk.fr Wc.fr (fun b o hb0 h=>ho b o (by have hb:=(hzb b hb0).2;exact NodeM.in1 (H:=H8) (H':=Hc) (by simp) h) hb0)
   replace hF:=hF.trans' Wc.fr (fun _ _ _ h=>h) (fun b o hb h=>.inl (NodeM.in1 (H:=H8) (H':=Hc) (by simp) h))
   refine ⟨trivial,?_⟩
   refine Uf 0 [0,3,4,7,10,13,14] rfl (Ut 1 rfl ?_)
   have hlt9:∀b o,ncl EJ { g with cnt:=g.cnt+1,ib:=b',io:=o',ic:=c' } b o→b<H.size∨H1.size<b:=fun b o hb=>by
    rcases hb with hb|hb
    · exact .inl (hlt b o (.inl hb))
    · rw [hb.1];exact hbn.1
   refine Ur 7 576 rfl (Us 3 rfl tc.emp rfl (O.st (vs:=(EJ.enc (0,0))) rfl rfl sizeOf27 rfl rfl rfl rfl rfl mp ?_))
   intro H9 W9
   have hs9:=W9.size
   replace hk:=hk.fr W9.fr (fun b o hb=>nr (.inl (by have:=(hzb b hb).2;omega)))
   replace hF:=hF.trans' W9.fr (fun _ _ _ h=>h) (fun b o hb h=>by simp only [rng] at h;omega)
   replace hN:=NodeM.fr EJ hN W9.fr (fun b o hb=>nr (.inl (by rcases hlt9 b o hb with h|h<;>omega)))
   have mr:Rd H9 H0.size 0 (EJ.enc (0,0)):=W9.all
   refine ⟨trivial,?_⟩
   refine Uf 2 [0,3,4,7,10,11,12,13,14] rfl (Go'.ret (vs:=[_,_,_]) func91 results91 ⟨⟨_,_,rfl,fun _ _=>run_loadVar_agg (fun w=>⟨isAgg27 w,sizeOf27 w⟩) rfl mr⟩,rfl,rfl,trivial⟩ ?_)
   have hll:(X.take i++x::X.drop i).length=X.length+1:=by simp only [List.length_append,List.length_take,List.length_cons,List.length_drop];omega
   refine SetQH.mk hk0 hF hk fun Hm hsm hFm=>.inl ⟨(({ g with cnt:=g.cnt+1,ib:=b',io:=o',ic:=c' },X.take i++x::X.drop i):Gt EJ 0),?_,⟨hFm,⟨hN,hiso,?_,by rw [hll];omega⟩,rfl,fun b o hb=>?_,?_,?_,Ab.put_leaf_room hfb hi hful⟩⟩
   ·
    show _=Value.tuple #[PV (Pl.got OI x X),.bool (Pl.fnd OI x X),.bool false]
    rw [Pl.got_none OI hfb,hfb];rfl
   · show g.cnt+1=_;rw [hll,hcnt]
   ·
    rw [hsm]
    rcases Nat.lt_or_ge b H.size with hl|hl
    ·
     left
     rcases hb with hb|hb
     · exact .inl hb
     · exact hin b o hl hb
    · exact .inr hl
   ·
    show _=Pl.put OI x X
    unfold Pl.put;rw [hfb,hi];rfl
   ·
    show X.length≤(X.take i++x::X.drop i).length
    omega
end Go.Bt.FG
