/- Contracts of functions of the program, proved by walking through their code. Conditions: those that each theorem names. -/
import Derived.Test.YtmcnochofpgfbaaTogG
import Derived.Test.YtmcnochofpgfbaaToKs
set_option linter.unusedVariables false
namespace Go.Bt.FG
open Go Go.Proofs Go.Proofs.Try
set_option maxRecDepth 20000
set_option maxHeartbeats 4000000
set_option linter.unusedSectionVars false
variable [Inhabited Cx]
theorem hintsearch_spec {B:World} {H:Mem} {tr id mx mn hb dp:Nat} (tc:TrC H tr id mx mn) {g:Ng} {X:List (Int×Int)} {kp:Option Addr} (x:Int×Int) (hn:NodeM EJ H g X (.pointer kp)) (hs:Pl.Srt OI X) (hl:X.length≤255) (h1:1≤X.length)
  (hh:HintM H hb) (hbl:hb<H.size) (hbb:¬(hb<cx.base∧cx.own hb)) (hoff:∀o,¬ncl EJ g hb o) (hdp:dp<4611686018427387904):
  Fn Try.prog B 85 [.pointer (some ⟨tr,0,none⟩),.pointer (some ⟨g.p,0,none⟩),.agg (EJ.enc x).toArray,.pointer (some ⟨hb,0,none⟩),.int .i64 (dp:Int)] H (fun v H'=>v=.tuple #[.int .i64 ((Pl.pos OI x X:Nat):Int),.bool (Pl.fnd OI x X)]∧Fr (fun b _=>b=hb) H H'∧HintM H' hb):=by
 have hple:=Pl.pos_le OI x X
 refine fn_of func85 rfl ntmps85 ?_
 refine (show Go' _ _ _ _ 200 [(0,_),(1,_),(2,_),(3,_),(4,_)] [.code _] _ from ?_)
 refine Ut 1 rfl (Ur 3 2 rfl (O.box rfl rfl rfl rfl ?_))
 intro H1 M1
 refine ⟨trivial,?_⟩
 have hF1:=M1.fr nowhere
 have hs1:=M1.size
 replace tc:=tc.fr hF1 (fun _ _ _ _=>nw)
 replace hn:=NodeM.fr EJ hn hF1 (fun _ _ _=>nw)
 replace hh:=hh.fr hF1 (fun _=>nw)
 have mk:Rd H1 H.size 0 (EJ.enc x):=M1.rd _ [] (by simp [Value.cells])
 refine Uf 2 [0,1,2,3,4,7,10,11] rfl (Ut 1 rfl ?_)
 refine Go'.joinL (l:=0) (σ:=Nat×Bool) rfl (fun s H'=>s=(Pl.pos OI x X,Pl.fnd OI x X)∧Fr nowhere H1 H') (fun s=>[(1,.pointer (some ⟨g.p,0,none⟩)),(3,.pointer (some ⟨hb,0,none⟩)),(4,.int .i64 (dp:Int)),(10,.int .i64 (s.1:Int)),(11,.bool s.2)]) ?_ ?_
 ·
  rintro _ H2 ⟨rfl,hF2⟩
  replace hn:=NodeM.fr EJ hn hF2 (fun _ _ _=>nw)
  replace hh:=hh.fr hF2 (fun _=>nw)
  have hF:=hF1.trans hF2
  have hsz:=hF2.size
  simp only
  refine Ut 2 rfl ?_
  by_cases hd8:dp<8
  rotate_left
  ·
   refine Ur 2 0 rfl (Uc 1 rfl (lssF (by omega)) (Uf 0 [1,3,4,10,11,157] rfl (Go'.condF rfl (Ut 2 rfl (Ur 4 0 rfl (Uf 4 [1,3,4,10,11,157] rfl (Go'.ret (vs:=[_,_]) func85 results85 ⟨rfl,rfl,trivial⟩ ?_)))))))
   exact ⟨rfl,hF.mono (fun _ _ _ h=>h.elim),hh⟩
  ·
   refine Ur 2 0 rfl (Uc 1 rfl (lssT (by omega)) (Uf 0 [1,3,4,10,11,157] rfl (Go'.condT rfl (Ut 1 rfl (Ur 6 2048 rfl (Uq 4 rfl (O.ixr (j:=dp) rfl rfl rfl rfl underlying100 sizeOf4 rfl rfl (by omega) hd8 (O.st rfl rfl sizeOf4 rfl rfl rfl rfl rfl (by rw [Nat.zero_add,Nat.mul_one];exact hh.wr.at0 dp 1 (by omega)) ?_))))))))
   intro H3 W3
   have hs3:=W3.size
   rw [Nat.zero_add,Nat.mul_one] at W3
   replace hh:=hh.setU W3 hd8
   replace hn:=NodeM.fr EJ hn W3.fr (fun b o hb=>nr (.inl (fun e=>hoff o (e▸hb))))
   have hG:Fr (fun b _=>b=hb) H H3:=hF.trans' W3.fr (fun _ _ _ h=>h.elim) (fun b o _ h=>h.1)
   refine ⟨trivial,?_⟩
   refine Uf 0 [1,3,4,10,11,157] rfl (Ut 1 rfl (Ur 1 0 rfl (Uf 1 [1,3,4,10,11,15,157] rfl (Ut 2 rfl ?_))))
   obtain ⟨pn,hpn,hpc⟩:=hh.ps dp hd8
   have hq:∀q:Nat,q<256→q<256:=fun _ h=>h
   rcases kp with _|kq
   ·
    cases hfd:Pl.fnd OI x X
    ·
     refine Ur 5 8 rfl (Uq 1 rfl (O.callQ rfl rfl rfl call62 rfl (leaf_spec hn.c3) trivial (Uf 3 [1,3,4,10,11,15,157,167] rfl (Go'.condF rfl (Ur 3 8 rfl (Uq 1 rfl (O.cvk .u8 (v:=((Pl.pos OI x X:Nat):Int)) rfl rfl rfl (by rw [underlying3];rfl) underlying5 rfl rfl (wrap_id8 (by omega)) trivial (Uf 1 [1,3,4,10,11,15,157,167] rfl (Ut 1 rfl ?_)))))))))
     have hpc2:cl H3 hb (8+dp*1)=some (.int .u8 (pn:Int)):=by rw [Nat.mul_one];exact hpc
     by_cases hqp:Pl.pos OI x X=pn
     ·
      refine Ur 8 4096 rfl (Uq 5 rfl (O.ixr (j:=dp) rfl rfl rfl rfl underlying101 sizeOf5 rfl rfl (by omega) hd8 (Ul 0 rfl hpc2 (Uc 0 rfl (neqF (by omega)) (Uf 0 [1,3,4,10,11,15,157,167,180] rfl (Go'.condF rfl (Ut 2 rfl (Ur 4 0 rfl (Uf 4 [1,3,4,10,11,15,157,167,180] rfl (Go'.ret (vs:=[_,_]) func85 results85 ⟨rfl,rfl,trivial⟩ ?_))))))))))
      exact ⟨rfl,hG,hh⟩
     ·
      refine Ur 8 4096 rfl (Uq 5 rfl (O.ixr (j:=dp) rfl rfl rfl rfl underlying101 sizeOf5 rfl rfl (by omega) hd8 (Ul 0 rfl hpc2 (Uc 0 rfl (neqT (by omega)) (Uf 0 [1,3,4,10,11,15,157,167,180] rfl (Go'.condT rfl (Ut 1 rfl (Ur 7 8192 rfl (Uq 5 rfl (O.ixr (j:=dp) rfl rfl rfl rfl underlying101 sizeOf5 rfl rfl (by omega) hd8 (O.st rfl rfl sizeOf5 rfl rfl rfl rfl rfl (by rw [Nat.mul_one];exact hh.wr.at0 (8+dp) 1 (by omega)) ?_)))))))))))
      intro H4 W4
      have hs4:=W4.size
      rw [Nat.mul_one] at W4
      replace hh:=hh.setP (n:=Pl.pos OI x X) W4 hd8 (by omega)
      replace hG:Fr (fun b _=>b=hb) H H4:=hG.trans' W4.fr (fun _ _ _ h=>h) (fun b o _ h=>h.1)
      refine ⟨trivial,?_⟩
      refine Uf 0 [1,3,4,10,11,15,157,167,180] rfl (Ut 1 rfl (Ur 3 0 rfl (Ua 1 (((dp+1:Nat):Int)) rfl (by omega) (Uf 1 [1,3,4,10,11,15,16,157,167,180] rfl (Ut 1 rfl (Go'.loop (Uk [3,10,11,16] rfl ?_)))))))
      refine Go'.ind (σ:=Nat) (fun j=>8-j) (fun j H'=>j≤8∧Fr (fun b _=>b=hb) H H'∧HintM H' hb)
       (fun j=>[(3,.pointer (some ⟨hb,0,none⟩)),(10,.int .i64 ((Pl.pos OI x X:Nat):Int)),(11,.bool (false)),(16,.int .i64 (j:Int))]) (dp+1) ⟨hd8,hG,hh⟩ rfl ?_
      rintro j H5 ⟨hj8,hG5,hh5⟩ ih
      refine Ut 2 rfl ?_
      by_cases hj:j<8
      ·
       refine Ur 2 0 rfl (Uc 1 rfl (lssT (by omega)) (Uf 0 [3,10,11,16,190] rfl (Go'.condT rfl (Ut 3 rfl (Ur 6 2048 rfl (Uq 4 rfl (O.ixr (j:=j) rfl rfl rfl rfl underlying100 sizeOf4 rfl rfl (by omega) hj (O.st rfl rfl sizeOf4 rfl rfl rfl rfl rfl (by rw [Nat.zero_add,Nat.mul_one];exact hh5.wr.at0 j 1 (by omega)) ?_))))))))
       intro H6 W6
       rw [Nat.zero_add,Nat.mul_one] at W6
       replace hh5:=hh5.setU W6 hj
       replace hG5:Fr (fun b _=>b=hb) H H6:=hG5.trans' W6.fr (fun _ _ _ h=>h) (fun b o _ h=>h.1)
       refine ⟨trivial,?_⟩
       refine Uf 0 [3,10,11,16,190] rfl (Ut 1 rfl (Ur 3 0 rfl (Ua 1 (((j+1:Nat):Int)) rfl (by omega) (Uf 1 [3,10,11,16,190] rfl (Uk [3,10,11,16] rfl (Go'.inLoop ?_))))))
       exact ih (j+1) H6 ⟨hj,hG5,hh5⟩ (by omega)
      ·
       refine Ur 2 0 rfl (Uc 1 rfl (lssF (by omega)) (Uf 0 [3,10,11,16,190] rfl (Go'.condF rfl (Ut 2 rfl (Ur 4 0 rfl (Uf 4 [3,10,11,16,190] rfl (Go'.ret (vs:=[_,_]) func85 results85 ⟨rfl,rfl,trivial⟩ ?_)))))))
       exact ⟨rfl,hG5,hh5⟩
    ·
     have hplt:=Pl.fnd_pos_lt OI hfd
     refine Ur 5 8 rfl (Uq 1 rfl (O.callQ rfl rfl rfl call62 rfl (leaf_spec hn.c3) trivial (Uf 3 [1,3,4,10,11,15,157,167] rfl (Go'.condT rfl (Ur 4 32 rfl (Ua 1 ((((Pl.pos OI x X)+1:Nat):Int)) rfl (by omega) (O.cvk .u8 (v:=((Pl.pos OI x X+1:Nat):Int)) rfl rfl rfl (by rw [underlying3];rfl) underlying5 rfl rfl (wrap_id8 (by omega)) trivial (Uf 1 [1,3,4,10,11,15,157,167] rfl (Ut 1 rfl ?_)))))))))
     have hpc2:cl H3 hb (8+dp*1)=some (.int .u8 (pn:Int)):=by rw [Nat.mul_one];exact hpc
     by_cases hqp:Pl.pos OI x X+1=pn
     ·
      refine Ur 8 4096 rfl (Uq 5 rfl (O.ixr (j:=dp) rfl rfl rfl rfl underlying101 sizeOf5 rfl rfl (by omega) hd8 (Ul 0 rfl hpc2 (Uc 0 rfl (neqF (by omega)) (Uf 0 [1,3,4,10,11,15,157,167,180] rfl (Go'.condF rfl (Ut 2 rfl (Ur 4 0 rfl (Uf 4 [1,3,4,10,11,15,157,167,180] rfl (Go'.ret (vs:=[_,_]) func85 results85 ⟨rfl,rfl,trivial⟩ ?_))))))))))
      exact ⟨rfl,hG,hh⟩
     ·
      refine Ur 8 4096 rfl (Uq 5 rfl (O.ixr (j:=dp) rfl rfl rfl rfl underlying101 sizeOf5 rfl rfl (by omega) hd8 (Ul 0 rfl hpc2 (Uc 0 rfl (neqT (by omega)) (Uf 0 [1,3,4,10,11,15,157,167,180] rfl (Go'.condT rfl (Ut 1 rfl (Ur 7 8192 rfl (Uq 5 rfl (O.ixr (j:=dp) rfl rfl rfl rfl underlying101 sizeOf5 rfl rfl (by omega) hd8 (O.st rfl rfl sizeOf5 rfl rfl rfl rfl rfl (by rw [Nat.mul_one];exact hh.wr.at0 (8+dp) 1 (by omega)) ?_)))))))))))
      intro H4 W4
      have hs4:=W4.size
      rw [Nat.mul_one] at W4
      replace hh:=hh.setP (n:=Pl.pos OI x X+1) W4 hd8 (by omega)
      replace hG:Fr (fun b _=>b=hb) H H4:=hG.trans' W4.fr (fun _ _ _ h=>h) (fun b o _ h=>h.1)
      refine ⟨trivial,?_⟩
      refine Uf 0 [1,3,4,10,11,15,157,167,180] rfl (Ut 1 rfl (Ur 3 0 rfl (Ua 1 (((dp+1:Nat):Int)) rfl (by omega) (Uf 1 [1,3,4,10,11,15,16,157,167,180] rfl (Ut 1 rfl (Go'.loop (Uk [3,10,11,16] rfl ?_)))))))
      refine Go'.ind (σ:=Nat) (fun j=>8-j) (fun j H'=>j≤8∧Fr (fun b _=>b=hb) H H'∧HintM H' hb)
       (fun j=>[(3,.pointer (some ⟨hb,0,none⟩)),(10,.int .i64 ((Pl.pos OI x X:Nat):Int)),(11,.bool (true)),(16,.int .i64 (j:Int))]) (dp+1) ⟨hd8,hG,hh⟩ rfl ?_
      rintro j H5 ⟨hj8,hG5,hh5⟩ ih
      refine Ut 2 rfl ?_
      by_cases hj:j<8
      ·
       refine Ur 2 0 rfl (Uc 1 rfl (lssT (by omega)) (Uf 0 [3,10,11,16,190] rfl (Go'.condT rfl (Ut 3 rfl (Ur 6 2048 rfl (Uq 4 rfl (O.ixr (j:=j) rfl rfl rfl rfl underlying100 sizeOf4 rfl rfl (by omega) hj (O.st rfl rfl sizeOf4 rfl rfl rfl rfl rfl (by rw [Nat.zero_add,Nat.mul_one];exact hh5.wr.at0 j 1 (by omega)) ?_))))))))
       intro H6 W6
       rw [Nat.zero_add,Nat.mul_one] at W6
       replace hh5:=hh5.setU W6 hj
       replace hG5:Fr (fun b _=>b=hb) H H6:=hG5.trans' W6.fr (fun _ _ _ h=>h) (fun b o _ h=>h.1)
       refine ⟨trivial,?_⟩
       refine Uf 0 [3,10,11,16,190] rfl (Ut 1 rfl (Ur 3 0 rfl (Ua 1 (((j+1:Nat):Int)) rfl (by omega) (Uf 1 [3,10,11,16,190] rfl (Uk [3,10,11,16] rfl (Go'.inLoop ?_))))))
       exact ih (j+1) H6 ⟨hj,hG5,hh5⟩ (by omega)
      ·
       refine Ur 2 0 rfl (Uc 1 rfl (lssF (by omega)) (Uf 0 [3,10,11,16,190] rfl (Go'.condF rfl (Ut 2 rfl (Ur 4 0 rfl (Uf 4 [3,10,11,16,190] rfl (Go'.ret (vs:=[_,_]) func85 results85 ⟨rfl,rfl,trivial⟩ ?_)))))))
       exact ⟨rfl,hG5,hh5⟩
   ·
    refine Ur 5 8 rfl (Uq 1 rfl (O.callQ rfl rfl rfl call62 rfl (leaf_spec hn.c3) trivial (Uf 3 [1,3,4,10,11,15,157,167] rfl (Go'.condF rfl (Ur 3 8 rfl (Uq 1 rfl (O.cvk .u8 (v:=((Pl.pos OI x X:Nat):Int)) rfl rfl rfl (by rw [underlying3];rfl) underlying5 rfl rfl (wrap_id8 (by omega)) trivial (Uf 1 [1,3,4,10,11,15,157,167] rfl (Ut 1 rfl ?_)))))))))
    have hpc2:cl H3 hb (8+dp*1)=some (.int .u8 (pn:Int)):=by rw [Nat.mul_one];exact hpc
    by_cases hqp:Pl.pos OI x X=pn
    ·
     refine Ur 8 4096 rfl (Uq 5 rfl (O.ixr (j:=dp) rfl rfl rfl rfl underlying101 sizeOf5 rfl rfl (by omega) hd8 (Ul 0 rfl hpc2 (Uc 0 rfl (neqF (by omega)) (Uf 0 [1,3,4,10,11,15,157,167,180] rfl (Go'.condF rfl (Ut 2 rfl (Ur 4 0 rfl (Uf 4 [1,3,4,10,11,15,157,167,180] rfl (Go'.ret (vs:=[_,_]) func85 results85 ⟨rfl,rfl,trivial⟩ ?_))))))))))
     exact ⟨rfl,hG,hh⟩
    ·
     refine Ur 8 4096 rfl (Uq 5 rfl (O.ixr (j:=dp) rfl rfl rfl rfl underlying101 sizeOf5 rfl rfl (by omega) hd8 (Ul 0 rfl hpc2 (Uc 0 rfl (neqT (by omega)) (Uf 0 [1,3,4,10,11,15,157,167,180] rfl (Go'.condT rfl (Ut 1 rfl (Ur 7 8192 rfl (Uq 5 rfl (O.ixr (j:=dp) rfl rfl rfl rfl underlying101 sizeOf5 rfl rfl (by omega) hd8 (O.st rfl rfl sizeOf5 rfl rfl rfl rfl rfl (by rw [Nat.mul_one];exact hh.wr.at0 (8+dp) 1 (by omega)) ?_)))))))))))
     intro H4 W4
     have hs4:=W4.size
     rw [Nat.mul_one] at W4
     replace hh:=hh.setP (n:=Pl.pos OI x X) W4 hd8 (by omega)
     replace hG:Fr (fun b _=>b=hb) H H4:=hG.trans' W4.fr (fun _ _ _ h=>h) (fun b o _ h=>h.1)
     refine ⟨trivial,?_⟩
     refine Uf 0 [1,3,4,10,11,15,157,167,180] rfl (Ut 1 rfl (Ur 3 0 rfl (Ua 1 (((dp+1:Nat):Int)) rfl (by omega) (Uf 1 [1,3,4,10,11,15,16,157,167,180] rfl (Ut 1 rfl (Go'.loop (Uk [3,10,11,16] rfl ?_)))))))
     refine Go'.ind (σ:=Nat) (fun j=>8-j) (fun j H'=>j≤8∧Fr (fun b _=>b=hb) H H'∧HintM H' hb)
      (fun j=>[(3,.pointer (some ⟨hb,0,none⟩)),(10,.int .i64 ((Pl.pos OI x X:Nat):Int)),(11,.bool (Pl.fnd OI x X)),(16,.int .i64 (j:Int))]) (dp+1) ⟨hd8,hG,hh⟩ rfl ?_
     rintro j H5 ⟨hj8,hG5,hh5⟩ ih
     refine Ut 2 rfl ?_
     by_cases hj:j<8
     ·
      refine Ur 2 0 rfl (Uc 1 rfl (lssT (by omega)) (Uf 0 [3,10,11,16,190] rfl (Go'.condT rfl (Ut 3 rfl (Ur 6 2048 rfl (Uq 4 rfl (O.ixr (j:=j) rfl rfl rfl rfl underlying100 sizeOf4 rfl rfl (by omega) hj (O.st rfl rfl sizeOf4 rfl rfl rfl rfl rfl (by rw [Nat.zero_add,Nat.mul_one];exact hh5.wr.at0 j 1 (by omega)) ?_))))))))
      intro H6 W6
      rw [Nat.zero_add,Nat.mul_one] at W6
      replace hh5:=hh5.setU W6 hj
      replace hG5:Fr (fun b _=>b=hb) H H6:=hG5.trans' W6.fr (fun _ _ _ h=>h) (fun b o _ h=>h.1)
      refine ⟨trivial,?_⟩
      refine Uf 0 [3,10,11,16,190] rfl (Ut 1 rfl (Ur 3 0 rfl (Ua 1 (((j+1:Nat):Int)) rfl (by omega) (Uf 1 [3,10,11,16,190] rfl (Uk [3,10,11,16] rfl (Go'.inLoop ?_))))))
      exact ih (j+1) H6 ⟨hj,hG5,hh5⟩ (by omega)
     ·
      refine Ur 2 0 rfl (Uc 1 rfl (lssF (by omega)) (Uf 0 [3,10,11,16,190] rfl (Go'.condF rfl (Ut 2 rfl (Ur 4 0 rfl (Uf 4 [3,10,11,16,190] rfl (Go'.ret (vs:=[_,_]) func85 results85 ⟨rfl,rfl,trivial⟩ ?_)))))))
      exact ⟨rfl,hG5,hh5⟩
 ·
  intro tail
  refine Ut 1 rfl (Ur 1 0 rfl (Uf 1 [0,1,2,3,4,7,10,11,12] rfl (Ut 1 rfl (Ur 7 64 rfl (Ul 3 rfl hn.c2 (Ub 1 (((X.length:Int)-1)) rfl (by omega) (Uf 1 [0,1,2,3,4,7,10,11,12,13] rfl (Ut 2 rfl ?_))))))))
  have hXi:∀{a b:Nat} {y z:Int×Int},X[a]?=some y→X[b]?=some z→a<b→OI.lt y z=true:=fun {a b y z} ha hb' hab=>by
   have h2:=List.pairwise_iff_getElem.1 hs a b (List.getElem?_eq_some_iff.1 ha).1 (List.getElem?_eq_some_iff.1 hb').1 hab
   rwa [(List.getElem?_eq_some_iff.1 ha).2,(List.getElem?_eq_some_iff.1 hb').2] at h2
  have hge:∀{a:Nat} {y:Int×Int},X[a]?=some y→OI.lt x y=true→∀j z,X[j]?=some z→a≤j→OI.lt x z=true:=fun {a y} ha h j z hz haj=>by
   rcases Nat.lt_or_ge a j with h'|h'
   · exact OI.trans h (hXi ha hz h')
   ·
    obtain rfl:j=a:=by omega
    rw [ha] at hz;cases hz;exact h
  have hle:∀{a:Nat} {y:Int×Int},X[a]?=some y→OI.lt x y=false→∀j z,X[j]?=some z→j<a+1→OI.lt x z=false:=fun {a y} ha h j z hz haj=>by
   rcases Nat.lt_or_ge j a with h'|h'
   · exact OI.ntr h (OI.asy (hXi hz ha h'))
   ·
    obtain rfl:j=a:=by omega
    rw [ha] at hz;cases hz;exact h
  have hat:∀i,i<X.length→∃y,X[i]?=some y:=fun i hi=>⟨X[i],List.getElem?_eq_getElem hi⟩
  have hFs:=Fr.refl nowhere H1
  refine Go'.share2 (σ:=Nat×Nat) (fun s H'=>Fr nowhere H1 H'∧s.1≤s.2∧s.2≤X.length∧(∀j y,X[j]?=some y→j<s.1→OI.lt x y=false)∧(∀j y,X[j]?=some y→s.2≤j→OI.lt x y=true))
   (fun s=>[(0,.pointer (some ⟨tr,0,none⟩)),(1,.pointer (some ⟨g.p,0,none⟩)),(3,.pointer (some ⟨hb,0,none⟩)),(4,.int .i64 (dp:Int)),(7,.pointer (some ⟨H.size,0,none⟩)),(12,.int .i64 (s.1:Int)),(13,.int .i64 ((s.2:Int)-1))]) ?_ ?_
  ·
   rintro ⟨lo,hi⟩ H2 ⟨hF2,hlh,hhl,hlo,hhi⟩
   simp only at hlh hhl hlo hhi ⊢
   refine Ut 2 rfl (Go'.loop (Uk [0,1,3,4,7,12,13] rfl ?_))
   refine Go'.ind (σ:=Nat×Nat) (fun s=>s.2-s.1) (fun s H'=>Fr nowhere H1 H'∧s.1≤s.2∧s.2≤X.length∧(∀j y,X[j]?=some y→j<s.1→OI.lt x y=false)∧(∀j y,X[j]?=some y→s.2≤j→OI.lt x y=true))
    (fun s=>[(0,.pointer (some ⟨tr,0,none⟩)),(1,.pointer (some ⟨g.p,0,none⟩)),(3,.pointer (some ⟨hb,0,none⟩)),(4,.int .i64 (dp:Int)),(7,.pointer (some ⟨H.size,0,none⟩)),(12,.int .i64 (s.1:Int)),(13,.int .i64 ((s.2:Int)-1))]) (lo,hi) ⟨hF2,hlh,hhl,hlo,hhi⟩ rfl ?_
   clear hF2 hlh hhl hlo hhi lo hi H2
   rintro ⟨lo,hi⟩ H2 ⟨hF2,hlh,hhl,hlo,hhi⟩ ih
   simp only at hlh hhl hlo hhi
   replace tc:=tc.fr hF2 (fun _ _ _ _=>nw)
   replace hn:=NodeM.fr EJ hn hF2 (fun _ _ _=>nw)
   replace hh:=hh.fr hF2 (fun _=>nw)
   replace mk:=hF2.rd mk (fun _ _=>nw)
   refine Ut 2 rfl ?_
   by_cases hlt:lo<hi
   ·
    obtain ⟨m,hm⟩:∃m,m=lo+(hi-lo) / 2:=⟨_,rfl⟩
    obtain ⟨y,hy⟩:=hat m (by omega)
    refine Ur 3 0 rfl (Uc 2 rfl (leqT (by omega)) (Uf 0 [0,1,3,4,7,12,13,114] rfl (Go'.condT rfl (Ut 3 rfl (Ur 8 0 rfl (Ua 2 (((hi:Nat):Int)) rfl (by omega) (Ub 1 (((hi-lo:Nat):Int)) rfl (by omega) (O.quo ((((hi-lo) / 2:Nat):Int)) rfl rfl rfl rfl rfl rfl (by decide) (by rw [Int.tdiv_eq_ediv_of_nonneg (by omega)];omega) (by omega) (Ua 0 (((m:Nat):Int)) rfl (by omega) (Uf 1 [0,1,3,4,7,12,13,14,114] rfl (Ut 1 rfl ?_)))))))))))
    refine Ud 11 590852 (by kernel_rfl) (Us 1 rfl mk rfl (Ul 3 rfl hn.c2 (Ux 1 m rfl (by omega) (by omega) (Us 0 rfl (hn.sl.item hy) rfl (O.call rfl rfl rfl call68 rfl (Less_spec tc x y) ?_)))))
    rintro _ H3 ⟨rfl,hF3⟩
    replace tc:=tc.fr hF3 (fun _ _ _ _=>nw)
    replace hn:=NodeM.fr EJ hn hF3 (fun _ _ _=>nw)
    replace hh:=hh.fr hF3 (fun _=>nw)
    replace mk:=hF3.rd mk (fun _ _=>nw)
    replace hF2:=hF2.trans hF3
    refine ⟨trivial,?_⟩
    refine Uf 1 [0,1,3,4,7,12,13,14,114,132] rfl ?_
    cases hky:OI.lt x y
    ·
     refine Go'.condT rfl (Ur 3 0 rfl (Ua 1 (((m+1:Nat):Int)) rfl (by omega) (Uf 1 [0,1,3,4,7,12,13,14,114,132] rfl (Ut 1 rfl (Uk [0,1,3,4,7,12,13] rfl (Go'.inLoop ?_))))))
     exact ih (m+1,hi) H3 ⟨hF2,by simp only;omega,hhl,hle hy hky,hhi⟩ (by simp only;omega)
    ·
     refine Go'.condF rfl (Ur 3 0 rfl (Ub 1 (((m:Int)-1)) rfl (by omega) (Uf 1 [0,1,3,4,7,12,13,14,114,132] rfl (Ut 1 rfl (Uk [0,1,3,4,7,12,13] rfl (Go'.inLoop ?_))))))
     exact ih (lo,m) H3 ⟨hF2,by simp only;omega,by simp only;omega,hlo,hge hy hky⟩ (by simp only;omega)
   ·
    obtain rfl:hi=lo:=by omega
    refine Ur 3 0 rfl (Uc 2 rfl (leqF (by omega)) (Uf 0 [0,1,3,4,7,12,13,114] rfl (Go'.condF rfl (Ut 3 rfl ?_))))
    by_cases h0:0<hi
    ·
     obtain ⟨y,hy⟩:=hat (hi-1) (by omega)
     have hyk:=hlo (hi-1) y hy (by omega)
     refine Ud 16 155205632 (by kernel_rfl) (Uc 1 rfl (gtrT (by omega)) (Ul 5 rfl hn.c2 (Ub 1 (((hi-1:Nat):Int)) rfl (by omega) (Ux 0 (hi-1) rfl (by omega) (by omega) (Us 0 rfl (hn.sl.item hy) rfl (Us 0 rfl mk rfl (O.call rfl rfl rfl call68 rfl (Less_spec tc y x) ?_)))))))
     rintro _ H3 ⟨rfl,hF3⟩
     replace tc:=tc.fr hF3 (fun _ _ _ _=>nw)
     replace hn:=NodeM.fr EJ hn hF3 (fun _ _ _=>nw)
     replace hh:=hh.fr hF3 (fun _=>nw)
     replace mk:=hF3.rd mk (fun _ _=>nw)
     replace hF2:=hF2.trans hF3
     refine ⟨trivial,?_⟩
     refine Uf 2 [0,1,3,4,7,12,13,114,152] rfl ?_
     cases hky:OI.lt y x
     ·
      refine Go'.condT rfl (Ut 1 rfl (Ur 3 0 rfl (Ub 1 (((hi-1:Nat):Int)) rfl (by omega) (Uf 1 [0,1,3,4,7,10,12,13,114,152] rfl (Ur 1 0 rfl (Uf 1 [0,1,3,4,7,10,11,12,13,114,152] rfl (Ut 2 rfl (Uk [1,3,4,10,11] rfl ?_))))))))
      obtain ⟨e1,e2⟩:=Pl.search_found OI (x:=x) hs hy hky hyk
      exact tail (hi-1,true) H3 ⟨by rw [e1,e2],hF2⟩
     ·
      refine Go'.condF rfl (Ut 1 rfl (Ur 2 0 rfl (Uf 2 [0,1,3,4,7,10,12,13,114,152] rfl (Ur 1 0 rfl (Uf 1 [0,1,3,4,7,10,11,12,13,114,152] rfl (Ut 2 rfl (Uk [1,3,4,10,11] rfl ?_)))))))
      obtain ⟨e1,e2⟩:=Pl.search_none OI (x:=x) hs hhl (fun z _ hz=>by rw [hy] at hz;cases hz;exact hky) (fun z hz=>hhi hi z hz (Nat.le_refl _))
      exact tail (hi,false) H3 ⟨by rw [e1,e2],hF2⟩
    ·
     obtain rfl:hi=0:=by omega
     refine Ud 16 155205632 (by kernel_rfl) (Uc 1 rfl (gtrF (by omega)) (Uq 11 rfl (Pl.pass2 rfl rfl rfl rfl trivial (Uf 2 [0,1,3,4,7,12,13,114,152] rfl (Go'.condF rfl (Ut 1 rfl (Ur 2 0 rfl (Uf 2 [0,1,3,4,7,10,12,13,114,152] rfl (Ur 1 0 rfl (Uf 1 [0,1,3,4,7,10,11,12,13,114,152] rfl (Ut 2 rfl ?_)))))))))))
     refine Uk [1,3,4,10,11] rfl ?_
     obtain ⟨e1,e2⟩:=Pl.search_none OI (x:=x) hs hhl (fun z h _=>absurd rfl h) (fun z hz=>hhi 0 z hz (Nat.le_refl _))
     exact tail (0,false) H2 ⟨by rw [e1,e2],hF2⟩
  ·
   intro bs
   by_cases hd8:dp<8
   rotate_left
   ·
    refine Ur 10 65536 rfl (Uc 1 rfl (lssF (by omega)) (Uf 8 [0,1,2,3,4,7,10,11,12,13,32] rfl (Go'.condF rfl (Ut 1 rfl (Uk [0,1,3,4,7,12,13] rfl ?_)))))
    exact bs (0,X.length) H1 ⟨hFs,Nat.zero_le _,Nat.le_refl _,fun j y _ h=>by simp at h,fun j y h1 h2=>by
      have:=(List.getElem?_eq_some_iff.1 h1).1;simp only at h2;omega⟩
   ·
    obtain ⟨ub,hub⟩:=hh.us dp hd8
    obtain ⟨pn,hpn,hpc⟩:=hh.ps dp hd8
    refine Ur 10 65536 rfl (Uc 1 rfl (lssT (by omega)) (Uq 5 rfl (O.ixr (j:=dp) rfl rfl rfl rfl underlying100 sizeOf4 rfl rfl (by omega) hd8 (Ul 0 rfl (show cl _ hb (0+dp*1)=_ by rw [Nat.zero_add,Nat.mul_one];exact hub) (Uf 1 [0,1,2,3,4,7,10,11,12,13,32] rfl ?_)))))
    cases ub
    ·
     refine Go'.condF rfl (Ut 1 rfl (Uk [0,1,3,4,7,12,13] rfl ?_))
     exact bs (0,X.length) H1 ⟨hFs,Nat.zero_le _,Nat.le_refl _,fun j y _ h=>by simp at h,fun j y h1 h2=>by
       have:=(List.getElem?_eq_some_iff.1 h1).1;simp only at h2;omega⟩
    ·
     refine Go'.condT rfl (Ut 1 rfl (Ur 8 9216 rfl (Uq 4 rfl (O.ixr (j:=dp) rfl rfl rfl rfl underlying101 sizeOf5 rfl rfl (by omega) hd8 (Ul 0 rfl (show cl _ hb (8+dp*1)=_ by rw [Nat.mul_one];exact hpc) (O.cvi (v:=((pn:Nat):Int)) rfl rfl rfl (by rw [underlying5];rfl) underlying3 rfl rfl (wrap_id (by omega)) trivial (Uf 1 [0,1,2,3,4,7,10,11,12,13,32] rfl (Ut 2 rfl ?_))))))))
     by_cases hge2:X.length≤pn
     ·
      refine Ur 7 256 rfl (Ul 4 rfl hn.c2 (Uc 1 rfl (geqT (by omega)) (Uf 0 [0,1,2,3,4,7,10,11,12,13,32,46] rfl (Go'.condT rfl (Ut 2 rfl ?_)))))
      obtain ⟨u,hu⟩:=hat (X.length-1) (by omega)
      refine Ud 15 620822784 (by kernel_rfl) (Ul 4 rfl hn.c2 (Ul 3 rfl hn.c2 (Ub 1 (((X.length-1:Nat):Int)) rfl (by omega) (Ux 0 (X.length-1) rfl (by omega) (by omega) (Us 0 rfl (hn.sl.item hu) rfl (Us 0 rfl mk rfl (O.call rfl rfl rfl call68 rfl (Less_spec tc u x) ?_)))))))
      rintro _ H2 ⟨rfl,hF2⟩
      replace tc:=tc.fr hF2 (fun _ _ _ _=>nw)
      replace hn:=NodeM.fr EJ hn hF2 (fun _ _ _=>nw)
      replace hh:=hh.fr hF2 (fun _=>nw)
      replace mk:=hF2.rd mk (fun _ _=>nw)
      replace hFs:=hFs.trans hF2
      refine ⟨trivial,?_⟩
      refine Uf 0 [0,1,2,3,4,7,10,11,12,13,32,46,61] rfl ?_
      cases hux:OI.lt u x
      rotate_left
      ·
       refine Go'.condT rfl (Ut 1 rfl (Ur 6 64 rfl (Ul 3 rfl hn.c2 (Uf 2 [0,1,2,3,4,7,10,11,12,13,32,46,61] rfl (Ut 3 rfl ?_)))))
       obtain ⟨e1,e2⟩:=Pl.search_none OI (x:=x) (i:=X.length) hs (Nat.le_refl _) (fun z _ hz=>by rw [hu] at hz;cases hz;exact hux) (fun z hz=>by have:=(List.getElem?_eq_some_iff.1 hz).1;omega)
       refine Uk [1,3,4,10,11] rfl ?_
       exact tail (X.length,false) H2 ⟨by rw [e1,e2],hFs⟩
      ·
       obtain ⟨ix,hix⟩:∃ix,ix=X.length-1:=⟨_,rfl⟩
       refine Go'.condF rfl (Ut 1 rfl (Ur 7 64 rfl (Ul 3 rfl hn.c2 (Ub 1 (((ix:Nat):Int)) rfl (by omega) (Uf 1 [0,1,2,3,4,7,10,11,12,13,32,46,61] rfl (Ut 1 rfl ?_))))))
       obtain ⟨y,hy⟩:=hat ix (by omega)
       refine Ud 10 590852 (by kernel_rfl) (Us 1 rfl mk rfl (Ul 3 rfl hn.c2 (Ux 1 ix rfl (by omega) (by omega) (Us 0 rfl (hn.sl.item hy) rfl (O.call rfl rfl rfl call68 rfl (Less_spec tc x y) ?_)))))
       rintro _ H3 ⟨rfl,hF3⟩
       replace tc:=tc.fr hF3 (fun _ _ _ _=>nw)
       replace hn:=NodeM.fr EJ hn hF3 (fun _ _ _=>nw)
       replace hh:=hh.fr hF3 (fun _=>nw)
       replace mk:=hF3.rd mk (fun _ _=>nw)
       replace hFs:=hFs.trans hF3
       refine ⟨trivial,?_⟩
       refine Uf 0 [0,1,2,3,4,7,10,11,12,13,32,46,61,82] rfl ?_
       cases hxy:OI.lt x y
       rotate_left
       ·
        refine Go'.condT rfl (Ut 2 rfl ?_)
        by_cases h0:ix=0
        ·
         refine Ud 15 155205632 (by kernel_rfl) (Uc 1 rfl (eqlT (by omega)) (Uq 11 rfl (Pl.pass2 rfl rfl rfl rfl trivial (Uf 1 [0,1,2,3,4,7,10,11,12,13,32,46,61,82,97] rfl (Go'.condT rfl (Ut 3 rfl ?_))))))
         obtain ⟨e1,e2⟩:=Pl.search_none OI (x:=x) (i:=ix) hs (by omega) (fun z h _=>absurd h0 h) (fun z hz=>by rw [hy] at hz;cases hz;exact hxy)
         refine Uk [1,3,4,10,11] rfl ?_
         exact tail (ix,false) H3 ⟨by rw [e1,e2],hFs⟩
        ·
         obtain ⟨z,hz⟩:=hat (ix-1) (by omega)
         refine Ud 15 155205632 (by kernel_rfl) (Uc 1 rfl (eqlF (by omega)) (Ul 5 rfl hn.c2 (Ub 1 (((ix-1:Nat):Int)) rfl (by omega) (Ux 0 (ix-1) rfl (by omega) (by omega) (Us 0 rfl (hn.sl.item hz) rfl (Us 0 rfl mk rfl (O.call rfl rfl rfl call68 rfl (Less_spec tc z x) ?_)))))))
         rintro _ H4 ⟨rfl,hF4⟩
         replace tc:=tc.fr hF4 (fun _ _ _ _=>nw)
         replace hn:=NodeM.fr EJ hn hF4 (fun _ _ _=>nw)
         replace hh:=hh.fr hF4 (fun _=>nw)
         replace mk:=hF4.rd mk (fun _ _=>nw)
         replace hFs:=hFs.trans hF4
         refine ⟨trivial,?_⟩
         refine Uf 1 [0,1,2,3,4,7,10,11,12,13,32,46,61,82,97] rfl ?_
         cases hzx:OI.lt z x
         rotate_left
         ·
          refine Go'.condT rfl (Ut 3 rfl ?_)
          obtain ⟨e1,e2⟩:=Pl.search_none OI (x:=x) (i:=ix) hs (by omega) (fun u _ hu=>by rw [hz] at hu;cases hu;exact hzx) (fun u hu=>by rw [hy] at hu;cases hu;exact hxy)
          refine Uk [1,3,4,10,11] rfl ?_
          exact tail (ix,false) H4 ⟨by rw [e1,e2],hFs⟩
         ·
          refine Go'.condF rfl (Ut 1 rfl (Ur 3 0 rfl (Ub 1 (((ix:Int)-1)) rfl (by omega) (Uf 1 [0,1,2,3,4,7,10,11,12,13,32,46,61,82,97] rfl (Uk [0,1,3,4,7,12,13] rfl ?_)))))
          exact bs (0,ix) H4 ⟨hFs,Nat.zero_le _,by simp only;omega,fun j y _ h=>by simp at h,hge hy hxy⟩
       ·
        refine Go'.condF rfl (Ut 1 rfl (Ud 10 606464 (by kernel_rfl) (Ul 4 rfl hn.c2 (Ux 1 ix rfl (by omega) (by omega) (Us 0 rfl (hn.sl.item hy) rfl (Us 0 rfl mk rfl (O.call rfl rfl rfl call68 rfl (Less_spec tc y x) ?_)))))))
        rintro _ H4 ⟨rfl,hF4⟩
        replace tc:=tc.fr hF4 (fun _ _ _ _=>nw)
        replace hn:=NodeM.fr EJ hn hF4 (fun _ _ _=>nw)
        replace hh:=hh.fr hF4 (fun _=>nw)
        replace mk:=hF4.rd mk (fun _ _=>nw)
        replace hFs:=hFs.trans hF4
        refine ⟨trivial,?_⟩
        refine Uf 0 [0,1,2,3,4,7,10,11,12,13,32,46,61,82,109] rfl ?_
        cases hyx:OI.lt y x
        ·
         refine Go'.condF rfl (Ut 1 rfl (Ur 1 0 rfl (Uf 1 [0,1,2,3,4,7,10,11,12,13,32,46,61,82,109] rfl (Ut 3 rfl ?_))))
         obtain ⟨e1,e2⟩:=Pl.search_found OI (x:=x) hs hy hyx hxy
         refine Uk [1,3,4,10,11] rfl ?_
         exact tail (ix,true) H4 ⟨by rw [e1,e2],hFs⟩
        ·
         refine Go'.condT rfl (Ur 3 0 rfl (Ua 1 (((ix+1:Nat):Int)) rfl (by omega) (Uf 1 [0,1,2,3,4,7,10,11,12,13,32,46,61,82,109] rfl (Uk [0,1,3,4,7,12,13] rfl ?_))))
         exact bs (ix+1,X.length) H4 ⟨hFs,by simp only;omega,Nat.le_refl _,hle hy hxy,fun j y h1 h2=>by
           have:=(List.getElem?_eq_some_iff.1 h1).1;simp only at h2;omega⟩
     ·
      obtain ⟨ix,hix⟩:∃ix,ix=pn:=⟨_,rfl⟩
      subst hix
      refine Ur 7 256 rfl (Ul 4 rfl hn.c2 (Uc 1 rfl (geqF (by omega)) (Uf 0 [0,1,2,3,4,7,10,11,12,13,32,46] rfl (Go'.condF rfl (Ut 2 rfl ?_)))))
      obtain ⟨y,hy⟩:=hat ix (by omega)
      refine Ud 10 590852 (by kernel_rfl) (Us 1 rfl mk rfl (Ul 3 rfl hn.c2 (Ux 1 ix rfl (by omega) (by omega) (Us 0 rfl (hn.sl.item hy) rfl (O.call rfl rfl rfl call68 rfl (Less_spec tc x y) ?_)))))
      rintro _ H2 ⟨rfl,hF2⟩
      replace tc:=tc.fr hF2 (fun _ _ _ _=>nw)
      replace hn:=NodeM.fr EJ hn hF2 (fun _ _ _=>nw)
      replace hh:=hh.fr hF2 (fun _=>nw)
      replace mk:=hF2.rd mk (fun _ _=>nw)
      replace hFs:=hFs.trans hF2
      refine ⟨trivial,?_⟩
      refine Uf 0 [0,1,2,3,4,7,10,11,12,13,32,46,82] rfl ?_
      cases hxy:OI.lt x y
      rotate_left
      ·
       refine Go'.condT rfl (Ut 2 rfl ?_)
       by_cases h0:ix=0
       ·
        refine Ud 15 155205632 (by kernel_rfl) (Uc 1 rfl (eqlT (by omega)) (Uq 11 rfl (Pl.pass2 rfl rfl rfl rfl trivial (Uf 1 [0,1,2,3,4,7,10,11,12,13,32,46,82,97] rfl (Go'.condT rfl (Ut 3 rfl ?_))))))
        obtain ⟨e1,e2⟩:=Pl.search_none OI (x:=x) (i:=ix) hs (by omega) (fun z h _=>absurd h0 h) (fun z hz=>by rw [hy] at hz;cases hz;exact hxy)
        refine Uk [1,3,4,10,11] rfl ?_
        exact tail (ix,false) H2 ⟨by rw [e1,e2],hFs⟩
       ·
        obtain ⟨z,hz⟩:=hat (ix-1) (by omega)
        refine Ud 15 155205632 (by kernel_rfl) (Uc 1 rfl (eqlF (by omega)) (Ul 5 rfl hn.c2 (Ub 1 (((ix-1:Nat):Int)) rfl (by omega) (Ux 0 (ix-1) rfl (by omega) (by omega) (Us 0 rfl (hn.sl.item hz) rfl (Us 0 rfl mk rfl (O.call rfl rfl rfl call68 rfl (Less_spec tc z x) ?_)))))))
        rintro _ H3 ⟨rfl,hF3⟩
        replace tc:=tc.fr hF3 (fun _ _ _ _=>nw)
        replace hn:=NodeM.fr EJ hn hF3 (fun _ _ _=>nw)
        replace hh:=hh.fr hF3 (fun _=>nw)
        replace mk:=hF3.rd mk (fun _ _=>nw)
        replace hFs:=hFs.trans hF3
        refine ⟨trivial,?_⟩
        refine Uf 1 [0,1,2,3,4,7,10,11,12,13,32,46,82,97] rfl ?_
        cases hzx:OI.lt z x
        rotate_left
        ·
         refine Go'.condT rfl (Ut 3 rfl ?_)
         obtain ⟨e1,e2⟩:=Pl.search_none OI (x:=x) (i:=ix) hs (by omega) (fun u _ hu=>by rw [hz] at hu;cases hu;exact hzx) (fun u hu=>by rw [hy] at hu;cases hu;exact hxy)
         refine Uk [1,3,4,10,11] rfl ?_
         exact tail (ix,false) H3 ⟨by rw [e1,e2],hFs⟩
        ·
         refine Go'.condF rfl (Ut 1 rfl (Ur 3 0 rfl (Ub 1 (((ix:Int)-1)) rfl (by omega) (Uf 1 [0,1,2,3,4,7,10,11,12,13,32,46,82,97] rfl (Uk [0,1,3,4,7,12,13] rfl ?_)))))
         exact bs (0,ix) H3 ⟨hFs,Nat.zero_le _,by simp only;omega,fun j y _ h=>by simp at h,hge hy hxy⟩
      ·
       refine Go'.condF rfl (Ut 1 rfl (Ud 10 606464 (by kernel_rfl) (Ul 4 rfl hn.c2 (Ux 1 ix rfl (by omega) (by omega) (Us 0 rfl (hn.sl.item hy) rfl (Us 0 rfl mk rfl (O.call rfl rfl rfl call68 rfl (Less_spec tc y x) ?_)))))))
       rintro _ H3 ⟨rfl,hF3⟩
       replace tc:=tc.fr hF3 (fun _ _ _ _=>nw)
       replace hn:=NodeM.fr EJ hn hF3 (fun _ _ _=>nw)
       replace hh:=hh.fr hF3 (fun _=>nw)
       replace mk:=hF3.rd mk (fun _ _=>nw)
       replace hFs:=hFs.trans hF3
       refine ⟨trivial,?_⟩
       refine Uf 0 [0,1,2,3,4,7,10,11,12,13,32,46,82,109] rfl ?_
       cases hyx:OI.lt y x
       ·
        refine Go'.condF rfl (Ut 1 rfl (Ur 1 0 rfl (Uf 1 [0,1,2,3,4,7,10,11,12,13,32,46,82,109] rfl (Ut 3 rfl ?_))))
        obtain ⟨e1,e2⟩:=Pl.search_found OI (x:=x) hs hy hyx hxy
        refine Uk [1,3,4,10,11] rfl ?_
        exact tail (ix,true) H3 ⟨by rw [e1,e2],hFs⟩
       ·
        refine Go'.condT rfl (Ur 3 0 rfl (Ua 1 (((ix+1:Nat):Int)) rfl (by omega) (Uf 1 [0,1,2,3,4,7,10,11,12,13,32,46,82,109] rfl (Uk [0,1,3,4,7,12,13] rfl ?_))))
        exact bs (ix+1,X.length) H3 ⟨hFs,by simp only;omega,Nat.le_refl _,hle hy hxy,fun j y h1 h2=>by
          have:=(List.getElem?_eq_some_iff.1 h1).1;simp only at h2;omega⟩
end Go.Bt.FG
namespace Go.Bt.FG
open Go Go.Proofs Go.Proofs.Try
set_option maxRecDepth 20000
set_option maxHeartbeats 4000000
set_option linter.unusedSectionVars false
variable [Inhabited Cx]
structure NPreH (H:Mem) (tr:Nat) (P:Ps) (h:Nat) (t:Gt EJ h) (bp op:Nat) (hv:Value) (hz:Nat→Prop) (dp:Nat):Prop where
 pre:NPre H tr P h t bp op
 x1:1≤(Gt.X h t).length
 hk:HintOk H hv hz
 ho:∀b o,Gt.af h t b o→¬hz b
 dp:dp+h<4611686018427387904
def SetQH (H:Mem) (P:Ps) (h:Nat) (t:Gt EJ h) (x:Int×Int) (hv:Value) (hz:Nat→Prop) (v:Value) (H':Mem):Prop:=
 HintOk H' hv hz∧∃Hm:Mem,Hm.size=H.size∧Fr (fun b _=>hz b) H Hm∧SetQ Hm P h t x v H'
theorem HintOk.cut {H H':Mem} {hv:Value} {hz:Nat→Prop} {Z:Nat→Nat→Prop} (hk:HintOk H hv hz) (hF:Fr (fun b o=>Z b o∨hz b) H H'):∃Hm:Mem,Hm.size=H.size∧Fr (fun b _=>hz b) H Hm∧Fr Z Hm H':=by
 rcases hk with ⟨_,h0⟩|⟨hb,_,h1,h2,_,_⟩
 · exact ⟨H,rfl,Fr.refl _ _,hF.mono fun b o _ h=>h.elim id fun h=>absurd h (h0 b)⟩
 ·
  obtain ⟨Hm,e,f1,f2⟩:=Fr.split (Z:=Z) h2 (hF.mono fun b o _ h=>h.imp id (h1 b).1)
  exact ⟨Hm,e,f1.mono fun b _ _ h=>(h1 b).2 h,f2⟩
theorem SetQH.mk {H H':Mem} {P:Ps} {h:Nat} {t:Gt EJ h} {x:Int×Int} {hv v:Value} {hz:Nat→Prop} {Z:Nat→Nat→Prop} (hk:HintOk H hv hz) (hF:Fr (fun b o=>Z b o∨hz b) H H') (hk':HintOk H' hv hz) (k:∀Hm:Mem,Hm.size=H.size→Fr Z Hm H'→SetQ Hm P h t x v H'):SetQH H P h t x hv hz v H':=
 have ⟨Hm,e,f1,f2⟩:=hk.cut hF
 ⟨hk',Hm,e,f1,k Hm e f2⟩
theorem SetQ.uni {H:Mem} {P:Ps} {h:Nat} {t:Gt EJ h} {x:Int×Int} {v:Value} {H':Mem} (hq:SetQ H P h t x v H'):∃pv r sp,v=.tuple #[PV pv,.bool r,.bool sp]∧
  ((sp=false∧∃t',pv=Pl.got OI x (Gt.L h t)∧r=Pl.fnd OI x (Gt.L h t)∧SetT OI H H' P h t t' x)∨(sp=true∧pv=none∧r=false∧Fr nowhere H H'∧(Gt.X h t).length=P.mx∧¬Gt.NF OI P x h t∧Ab.put OI P.mx P.mn x h (Gt.ab h t)=none)):=by
 rcases hq with ⟨t',e,hs⟩|⟨e,hs⟩
 · exact ⟨_,_,_,e,.inl ⟨rfl,t',rfl,rfl,hs⟩⟩
 · exact ⟨_,_,_,e,.inr ⟨rfl,rfl,rfl,hs⟩⟩
theorem nset0 {B:World} {H:Mem} {tr bp op dp:Nat} {P:Ps} (hP:PsOk P) {x:Int×Int} {t:Gt EJ 0} {hv:Value} {hz:Nat→Prop} (hp:NPreH H tr P 0 t bp op hv hz dp):
  Fn Try.prog B 91 [.pointer (some ⟨tr,0,none⟩),.pointer (some ⟨bp,op,none⟩),.agg (EJ.enc x).toArray,hv,.int .i64 (dp:Int)] H (SetQH H P 0 t x hv hz):=by
 obtain ⟨g,X⟩:=t
 obtain ⟨⟨tc,hg,hc,hnt,hsX,hlen⟩,hx1,hk,ho,hdp⟩:=hp
 unfold ptr at hc
 replace hsX:Pl.Srt OI X:=hsX
 replace hx1:1≤X.length:=hx1
 replace ho:∀b o,ncl EJ g b o→¬hz b:=ho
 have hN:NodeM EJ H g X (.pointer none):=hg.1
 have hiso:g.iso=P.iso:=hg.2.1
 have hcnt:g.cnt=X.length:=hg.2.2.1
 have hxm:X.length≤P.mx:=hg.2.2.2
 have hx255:=hP.hx
 have hlt:∀b o,ncl EJ g b o→b<H.size:=fun b o hb=>NodeM.lt hN hb
 obtain ⟨hpl,hil⟩:=hN.cells
 obtain ⟨hn1,hn2⟩:=offB_node hN.ic hnt
 have hpi:=hN.ne
 have htl:cx.base≤H.size:=tc.hb
 have hzb:=hk.base
 have hbpl:=cl_lt hc
 have hk0:=hk
 replace hc:cl H bp op=some (.pointer (some ⟨g.p,0,none⟩)):=hc
 have hF:Fr nowhere H H:=Fr.refl _ _
 refine fn_of func91 rfl ntmps91 ?_
 refine (show Go' _ _ _ _ 275 [(0,_),(1,_),(2,_),(3,_),(4,_)] [.code _] _ from ?_)
 refine Ut 1 rfl (Ur 4 10 rfl (O.box rfl rfl rfl rfl ?_))
 intro H0 M0
 refine ⟨trivial,?_⟩
 have hs0:=M0.size
 replace hN:=NodeM.fr EJ hN (M0.fr nowhere) (fun _ _ _=>nw)
 replace tc:=tc.fr (M0.fr nowhere) (fun _ _ _ _=>nw)
 replace hk:=hk.fr (M0.fr nowhere) (fun _ _ _=>nw)
 replace hc:=(M0.fr nowhere).keep hc nw
 replace hF:=hF.trans' (M0.fr nowhere) (fun _ _ _ h=>h) (fun _ _ _ h=>h.elim)
 have mi:Rd H0 H.size 0 (EJ.enc x):=M0.rd _ [] (by simp [Value.cells])
 refine O.alloc rfl rfl rfl zeroValue27 ?_
 intro H1 M1
 refine ⟨trivial,?_⟩
 have hs1:H1.size=H.size+2:=by have:=M1.size;omega
 replace hN:=NodeM.fr EJ hN (M1.fr nowhere) (fun _ _ _=>nw)
 replace tc:=tc.fr (M1.fr nowhere) (fun _ _ _ _=>nw)
 replace hk:=hk.fr (M1.fr nowhere) (fun _ _ _=>nw)
 replace hc:=(M1.fr nowhere).keep hc nw
 replace hF:=hF.trans' (M1.fr nowhere) (fun _ _ _ h=>h) (fun _ _ _ h=>h.elim)
 replace mi:=(M1.fr nowhere).rd mi (fun _ _=>nw)
 have mp:Wr H1 H0.size 0 2:=M1.wr 2 (by decide)
 refine Uf 2 [0,1,3,4,7,10,11,12] rfl (Ut 2 rfl ?_)
 have hc0:=hN.c0
 rw [hiso] at hc0
 refine Ud 11 263184 (by kernel_rfl) (Ul 2 rfl hc (Ul 2 rfl hc0 (Ul 3 rfl tc.iso (Uc 0 rfl (neqF (by omega)) (Uf 0 [0,1,3,4,7,10,11,12,28] rfl (Go'.condF rfl (Ut 2 rfl (Ur 5 656 rfl (Ul 2 rfl hc (O.alloc rfl rfl rfl zeroValue107 ?_))))))))))
 intro H2 M2
 refine ⟨trivial,?_⟩
 have hs2:=M2.size
 replace hN:=NodeM.fr EJ hN (M2.fr nowhere) (fun _ _ _=>nw)
 replace tc:=tc.fr (M2.fr nowhere) (fun _ _ _ _=>nw)
 replace hk:=hk.fr (M2.fr nowhere) (fun _ _ _=>nw)
 replace hc:=(M2.fr nowhere).keep hc nw
 replace mi:=(M2.fr nowhere).rd mi (fun _ _=>nw)
 replace mp:=(M2.fr nowhere).wr mp
 replace hF:=hF.trans' (M2.fr nowhere) (fun _ _ _ h=>h) (fun _ _ _ h=>h.elim)
 have m9w:Wr H2 H1.size 0 1:=M2.wr 1 (by decide)
 refine O.st rfl rfl sizeOf107 rfl rfl rfl rfl rfl m9w ?_
 intro Ha W3
 have hsa:=W3.size
 replace hN:=NodeM.fr EJ hN W3.fr (fun b o hb=>nr (.inl (by have:=hlt b o hb;omega)))
 replace tc:=tc.fr W3.fr (fun b o hb _=>nr (.inl (by omega)))
 replace hc:=W3.fr.keep hc (nr (.inl (by omega)))
 replace mi:=W3.fr.rd mi (fun _ _=>nr (.inl (by omega)))
 replace mp:=W3.fr.wr mp
 replace hk:=hk.fr W3.fr (fun b o hb=>nr (.inl (by have:=(hzb b hb).2;omega)))
 replace hF:=hF.trans' W3.fr (fun _ _ _ h=>h) (fun b o hb h=>by simp only [rng] at h;omega)
 have m9:cl Ha H1.size 0=some (.pointer (some ⟨g.p,0,none⟩)):=W3.at
 clear hc0
 refine ⟨trivial,?_⟩
 refine Uf 0 [0,3,4,7,10,11,12,13] rfl (Ut 1 rfl ?_)
 clear hc
 refine Ur 1 0 rfl (Uf 1 [0,3,4,7,10,11,12,13,14] rfl (Ut 1 rfl (Ur 1 0 rfl (Uf 1 [0,3,4,7,10,11,12,13,14,15] rfl (Ut 2 rfl ?_)))))
 generalize hi:Pl.pos OI x X=i at*
 generalize hfb:Pl.fnd OI x X=fb at*
 refine Go'.share2 (σ:=Unit) (fun _ H'=>Fr (fun b _=>hz b) Ha H'∧HintOk H' hv hz) (fun _=>[(0,.pointer (some ⟨tr,0,none⟩)),(3,hv),(4,.int .i64 (dp:Int)),(7,.pointer (some ⟨H.size,0,none⟩)),(10,.pointer (some ⟨H0.size,0,none⟩)),(13,.pointer (some ⟨H1.size,0,none⟩)),(14,.int .i64 ((i:Nat):Int)),(15,.bool fb)]) ?_ ?_
 rotate_left
 ·
  intro tail
  rcases hk with ⟨rfl,hz0⟩|⟨hb,rfl,hzq,hbl,hbb,hm⟩
  ·
   refine Ur 2 0 rfl (Uq 1 rfl (O.isNil rfl rfl rfl rfl underlying116 rfl rfl (Uf 0 [0,3,4,7,10,11,12,13,14,15,40] rfl (Go'.condT rfl (Ur 9 148 rfl (Ul 1 rfl m9 (Us 0 rfl mi rfl (O.call rfl rfl rfl call84 rfl (bsearch_spec tc x hN hsX (by omega)) ?_))))))))
   rintro _ H3 ⟨rfl,hF3⟩
   rw [hi,hfb]
   refine ⟨trivial,?_⟩
   refine Uf 5 [0,3,4,7,10,11,12,13,14,15] rfl (Uk [0,3,4,7,10,13,14,15] rfl ?_)
   exact tail () H3 ⟨hF3.mono (fun _ _ _ h=>h.elim),.inl ⟨rfl,hz0⟩⟩
  ·
   refine Ur 2 0 rfl (Uq 1 rfl (O.isNil rfl rfl rfl rfl underlying116 rfl rfl (Uf 0 [0,3,4,7,10,11,12,13,14,15,40] rfl (Go'.condF rfl (Ur 11 2068 rfl (Ul 1 rfl m9 (Us 0 rfl mi rfl (Uq 2 rfl (O.call rfl rfl rfl call85 rfl (hintsearch_spec tc x hN hsX (by omega) hx1 hm hbl hbb (fun o ho2=>ho hb o (ho2) ((hzq hb).2 rfl)) (by omega)) ?_)))))))))
   rintro _ H3 ⟨rfl,hF3,hm3⟩
   rw [hi,hfb]
   refine ⟨trivial,?_⟩
   refine Uf 5 [0,3,4,7,10,11,12,13,14,15] rfl (Uk [0,3,4,7,10,13,14,15] rfl ?_)
   exact tail () H3 ⟨hF3.mono (fun b _ _ h=>(hzq b).2 h),.inr ⟨hb,rfl,hzq,Nat.lt_of_lt_of_le hbl hF3.size,hbb,hm3⟩⟩
 clear hk
 rintro _ H3 ⟨hF3,hk⟩
 have hs3:=hF3.size
 replace hN:=NodeM.fr EJ hN hF3 (fun b o hb hz=>ho b o hb hz)
 replace tc:=tc.fr hF3 (fun b o hb _ hz=>(hzb b hz).1 hb)
 replace mi:=hF3.rd mi (fun _ _ hz=>by have:=(hzb _ hz).2;omega)
 replace mp:=hF3.wr mp
 replace m9:=hF3.keep m9 (fun hz=>by have:=(hzb _ hz).2;omega)
 replace hF:Fr (fun b _=>hz b) H H3:=hF.trans' hF3 (fun _ _ _ h=>h.elim) (fun _ _ _ h=>h)
 refine Ut 2 rfl (Ur 1 0 rfl (Uf 1 [0,3,4,7,10,13,14,57] rfl ?_))
 cases fb
 rotate_left
 ·
  have hlt9:∀b o,ncl EJ g b o→b<H.size∨H1.size<b:=fun b o hb=>.inl (hlt b o hb)
  obtain ⟨y,hy,_,_⟩:=Pl.fnd_at OI hsX hfb
  rw [hi] at hy
  have hlt':i<X.length:=(List.getElem?_eq_some_iff.1 hy).1
  refine Go'.condT rfl (Ut 1 rfl (Ur 8 36929 rfl (Ul 0 rfl m9 (Ul 2 rfl hN.c2 (Ux 1 i rfl (by omega) hlt' (Us 0 rfl (hN.sl.item hy) rfl (O.st (vs:=(EJ.enc y)) rfl rfl sizeOf27 rfl rfl rfl rfl rfl mp ?_)))))))
  intro H5 W5
  have hs5:=W5.size
  replace hN:=NodeM.fr EJ hN W5.fr (fun b o hb=>nr (.inl (by have:=hlt b o hb;omega)))
  replace tc:=tc.fr W5.fr (fun b o hb _=>nr (.inl (by omega)))
  replace mi:=W5.fr.rd mi (fun _ _=>nr (.inl (by omega)))
  replace mp:=W5.fr.wr mp
  replace m9:=W5.fr.keep m9 (nr (.inl (by omega)))
  replace hk:=hk.fr W5.fr (fun b o hb=>nr (.inl (by have:=(hzb b hb).2;omega)))
  replace hF:=hF.trans' W5.fr (fun _ _ _ h=>h) (fun b o hb h=>by simp only [rng] at h;omega)
  have mq:Rd H5 H0.size 0 (EJ.enc y):=W5.all
  refine ⟨trivial,?_⟩
  refine Uf 0 [0,3,4,7,10,13,14] rfl (Ut 1 rfl (Ud 8 50241 (by kernel_rfl) (Ul 0 rfl m9 (Ul 2 rfl hN.c2 (Us 1 rfl mi rfl (Ux 0 i rfl (by omega) hlt' (O.st3 rfl rfl sizeOf27 rfl rfl rfl rfl rfl (hN.sl.wri hlt') ?_)))))))
  intro H4 W4
  have hs4:=W4.size
  replace hk:=hk.fr W4.fr (fun b o hb0 h=>ho b o (by have:=W4.as_row.in_items hN (by rw [List.length_singleton];omega) (by rw [row_one];exact h);exact .inr this) hb0)
  replace hF:Fr (fun b o=>ncl EJ g b o∨hz b) H H4:=hF.trans' W4.fr (fun _ _ _ h=>.inr h) (fun b o hb h=>.inl (by have:=W4.as_row.in_items hN (by rw [List.length_singleton];omega) (by rw [row_one];exact h);exact .inr this))
  replace mq:=W4.fr.rd mq (fun _ _=>nr (.inl (by omega)))
  replace mp:=W4.fr.wr mp
  replace hN:=hN.set W4 hlt'
  refine Uf 0 [0,3,4,7,10,13,14] rfl (Ut 1 rfl (Ur 4 9 rfl (Us 0 rfl mq rfl (O.st (vs:=(EJ.enc y)) rfl rfl sizeOf27 rfl rfl rfl rfl rfl mp ?_))))
  intro H9 W9
  have hs9:=W9.size
  replace hk:=hk.fr W9.fr (fun b o hb=>nr (.inl (by have:=(hzb b hb).2;omega)))
  replace hF:=hF.trans' W9.fr (fun _ _ _ h=>h) (fun b o hb h=>by simp only [rng] at h;omega)
  replace hN:=NodeM.fr EJ hN W9.fr (fun b o hb=>nr (.inl (by rcases hlt9 b o hb with h|h<;>omega)))
  have mr:Rd H9 H0.size 0 (EJ.enc y):=W9.all
  refine ⟨trivial,?_⟩
  refine Uf 2 [0,3,4,7,10,11,12,13,14] rfl (Go'.ret (vs:=[_,_,_]) func91 results91 ⟨⟨_,_,rfl,fun _ _=>run_loadVar_agg (fun w=>⟨isAgg27 w,sizeOf27 w⟩) rfl mr⟩,rfl,rfl,trivial⟩ ?_)
  have hll:(X.take i++x::X.drop (i+1)).length=X.length:=by simp only [List.length_append,List.length_take,List.length_cons,List.length_drop];omega
  refine SetQH.mk hk0 hF hk fun Hm hsm hFm=>.inl ⟨((g,X.take i++x::X.drop (i+1)):Gt EJ 0),?_,⟨hFm,⟨hN,hiso,hcnt.trans hll.symm,by rw [hll];exact hxm⟩,rfl,fun b o hb=>.inl hb,?_,Nat.le_of_eq hll.symm,Ab.put_leaf_found hfb hi⟩⟩
  ·
   show _=Value.tuple #[PV (Pl.got OI x X),.bool (Pl.fnd OI x X),.bool false]
   rw [Pl.got_some OI hfb,hi,hy,hfb];rfl
  ·
   show _=Pl.put OI x X
   unfold Pl.put;rw [hfb,hi];rfl
 ·
  have hle:i≤X.length:=by rw [←hi];exact Pl.pos_le OI x X
  refine Go'.condF rfl (Ut 3 rfl (Ur 2 9 rfl (Ul 0 rfl m9 (O.callQ rfl rfl rfl call62 rfl (leaf_spec hN.c3) trivial (Uf 0 [0,3,4,7,10,13,14,74] rfl (Go'.condT rfl (Ut 2 rfl ?_)))))))
  by_cases hful:X.length=P.mx
  ·
   refine Ud 10 65601 (by kernel_rfl) (Ul 0 rfl m9 (Ul 2 rfl hN.c2 (Ul 4 rfl tc.mx' (Uc 0 rfl (eqlT (by omega)) (Uf 0 [0,3,4,7,10,13,14,84] rfl (Go'.condT rfl (Ut 1 rfl ?_)))))))
   have hlt9:∀b o,ncl EJ g b o→b<H.size∨H1.size<b:=fun b o hb=>.inl (hlt b o hb)
   refine Ur 7 576 rfl (Us 3 rfl tc.emp rfl (O.st (vs:=(EJ.enc (0,0))) rfl rfl sizeOf27 rfl rfl rfl rfl rfl mp ?_))
   intro H9 W9
   have hs9:=W9.size
   replace hk:=hk.fr W9.fr (fun b o hb=>nr (.inl (by have:=(hzb b hb).2;omega)))
   replace hF:=hF.trans' W9.fr (fun _ _ _ h=>h) (fun b o hb h=>by simp only [rng] at h;omega)
   replace hN:=NodeM.fr EJ hN W9.fr (fun b o hb=>nr (.inl (by rcases hlt9 b o hb with h|h<;>omega)))
   have mr:Rd H9 H0.size 0 (EJ.enc (0,0)):=W9.all
   refine ⟨trivial,?_⟩
   refine Uf 2 [0,3,4,7,10,11,12,13,14] rfl (Go'.ret (vs:=[_,_,_]) func91 results91 ⟨⟨_,_,rfl,fun _ _=>run_loadVar_agg (fun w=>⟨isAgg27 w,sizeOf27 w⟩) rfl mr⟩,rfl,rfl,trivial⟩ ?_)
   exact SetQH.mk (Z:=nowhere) hk0 (hF.mono fun _ _ _ h=>.inr h) hk fun Hm hsm hFm=>.inr ⟨rfl,hFm,hful,fun hh=>by have hh2:X.length<P.mx:=hh;omega,Ab.put_leaf_full hfb hful⟩
  ·
   refine Ud 10 65601 (by kernel_rfl) (Ul 0 rfl m9 (Ul 2 rfl hN.c2 (Ul 4 rfl tc.mx' (Uc 0 rfl (eqlF (by omega)) (Uf 0 [0,3,4,7,10,13,14,84] rfl (Go'.condF rfl (Ut 2 rfl (UD (fun H'=>cl H' H1.size 0=some (.pointer (some ⟨g.p,0,none⟩))∧cl H' g.p 2=some (.slice (some ⟨g.ib,g.io,none⟩) X.length g.ic)) 14 204013568 (by kernel_rfl) (⟨m9,hN.c2⟩) (UL 0 rfl (fun _ h=>h.1) (UL 0 rfl (fun _ h=>h.1) (UL 2 rfl (fun _ h=>h.2) ?_)))))))))))
   refine Us 3 rfl tc.emp rfl (O.bsl (cs:=(EJ.enc (0,0))) rfl rfl rfl ⟨underlying25,sizeOf27,zeroValue27,⟨_,typeInfo27,rfl⟩,rfl,by decide,by decide⟩ rfl (by decide) (by kernel_rfl) ?_)
   intro H4 M4
   have hs4:=M4.size
   replace hN:=NodeM.fr EJ hN (M4.fr nowhere) (fun _ _ _=>nw)
   replace tc:=tc.fr (M4.fr nowhere) (fun _ _ _ _=>nw)
   replace hk:=hk.fr (M4.fr nowhere) (fun _ _ _=>nw)
   replace mi:=(M4.fr nowhere).rd mi (fun _ _=>nw)
   replace mp:=(M4.fr nowhere).wr mp
   replace m9:=(M4.fr nowhere).keep m9 nw
   replace hF:=hF.trans' (M4.fr nowhere) (fun _ _ _ h=>h) (fun _ _ _ h=>h.elim)
   have m4:Rd H4 H3.size 0 (EJ.enc (0,0)):=M4.rd _ [] (by simp)
   refine ⟨⟨m9,hN.c2⟩,?_⟩
   refine O.app (m:=1) (news:=(EJ.enc (0,0))) rfl rfl rfl ⟨underlying25,sizeOf27,zeroValue27,⟨_,typeInfo27,rfl⟩,rfl,by decide,by decide⟩ rfl hN.sl rfl (.inl ⟨_,_,_,rfl,m4⟩) rfl rfl (Nat.le_trans (Nat.mul_le_mul_left _ (Nat.le_of_ble_eq_true (n:=_) (m:=4096) rfl)) (by omega)) (by omega) ?_
   intro b' o' c' H5 ha
   have hin:∀b o,b<H.size→(b=b'∧o'≤o∧o<o'+c'*EJ.s)→ncl EJ g b o:=fun b o hb hh=>.inr (ha.inside (by omega) hh)
   have hbn:(b'<H.size∨H1.size<b')∧cx.base≤b'∧b'≠g.p:=by rcases ha.place with ⟨r,_⟩|⟨r,_⟩<;>omega
   have hsl:=SlE.app (E:=EJ) (x:=(0,0)) ha
   have hN0:=hN
   replace hN:=hN.appd ha
   replace tc:=tc.fr ha.fr (fun b o hb _=>nr (.inl (by omega)))
   replace mi:=ha.fr.rd mi (fun _ _=>nr (.inl (by omega)))
   replace mp:=ha.fr.wr mp
   replace m9:=ha.fr.keep m9 (nr (.inl (by omega)))
   replace hk:=hk.fr (ha.in_node hN0) (fun b o hb h=>ho b o h hb)
   replace hF:Fr (fun b o=>ncl EJ g b o∨hz b) H H5:=hF.trans' (ha.in_node hN0) (fun _ _ _ h=>.inr h) (fun b o _ h=>.inl h)
   have hs5:H4.size≤H5.size:=ha.fr.size
   refine ⟨⟨m9,hN.c2⟩,?_⟩
   refine Uq 2 rfl (O.st3 rfl rfl sizeOf25 rfl rfl rfl rfl rfl (hN.wr.at0 2 1 (by omega)) ?_)
   intro H6 W6
   have hs6:=W6.size
   replace hN:=hN0.push (e:=(0,0)) ha W6
   replace tc:=tc.fr W6.fr (fun b o hb _=>nr (.inl (by omega)))
   replace mi:=W6.fr.rd mi (fun _ _=>nr (.inl (by omega)))
   replace mp:=W6.fr.wr mp
   replace m9:=W6.fr.keep m9 (nr (.inl (by omega)))
   replace hk:=hk.fr W6.fr (fun b o hb0 h=>ho b o (by have hb:=(hzb b hb0).2;exact NodeM.in1 (H:=H5) (H':=H6) (by simp) h) hb0)
   replace hF:=hF.trans' W6.fr (fun _ _ _ h=>h) (fun b o hb h=>.inl (NodeM.in1 (H:=H5) (H':=H6) (by simp) h))
   refine Uf 0 [0,3,4,7,10,13,14] rfl (Ut 1 rfl ?_)
   have hl1:(X++[((0:Int),(0:Int))]).length=X.length+1:=by simp
   have hcp:=hN.sl.hle
   rw [hl1] at hcp
   simp only at hcp
   have hh2:cl H6 g.p 2=some (.slice (some ⟨b',o',none⟩) (X.length+1) c'):=by have:=hN.c2;rwa [hl1] at this
   refine Ud 14 135282753 (by kernel_rfl) (Ul 0 rfl m9 (Ul 2 rfl hh2 (Ua 1 (((i+1:Nat):Int)) rfl (by omega) (O.slc (jl:=i+1) (jh:=X.length+1) (jm:=c') rfl rfl rfl rfl underlying25 sizeOf27 rfl rfl rfl ⟨_,by rfl⟩ (by omega) (by omega) (by simp) (by simp) ?_))))
   intro o7 ho7
   refine Ul 0 rfl m9 (Ul 2 rfl hh2 (Uq 1 rfl (O.slc (jl:=i) (jh:=X.length+1) (jm:=c') rfl rfl rfl rfl underlying25 sizeOf27 rfl rfl rfl ⟨_,by rfl⟩ (by omega) (by omega) (by simp) (by simp) ?_)))
   intro o8 ho8
   obtain rfl:=ho8 (by omega)
   refine O.copy (b:=b') (o:=(o'+(i+1)*2)) (j:=(X.length-i)) (cs:=(row EJ (X.drop i))) rfl rfl rfl ⟨underlying25,sizeOf27,zeroValue27,⟨_,typeInfo27,rfl⟩,rfl,by decide,by decide⟩ rfl rfl (show _=min _ _ by omega) ((Nat.lt_or_ge i X.length).elim (fun h=>.inl (by rw [ho7 (by omega)])) (fun h=>.inr (by omega))) (.inl ⟨_,_,_,rfl,hN.sl.tail hle⟩) (by rw [row_len,List.length_drop];rfl) (row_ones EJ _) (hN.sl.wrm (i:=i+1) (m:=X.length-i) (by rw [hl1];omega)) ?_
   intro H7 W7
   have hs7:=W7.size
   have hN1:=hN
   have hdl:(X.drop i).length=X.length-i:=List.length_drop
   replace hN:=hN.cpy (i:=i+1) (Y:=X.drop i) W7 (by rw [hl1,hdl];omega)
   replace tc:=tc.fr W7.fr (fun b o hb _=>nr (.inl (by omega)))
   replace mi:=W7.fr.rd mi (fun _ _=>nr (.inl (by omega)))
   replace mp:=W7.fr.wr mp
   replace m9:=W7.fr.keep m9 (nr (.inl (by omega)))
   replace hh2:=W7.fr.keep hh2 (nr (.inl (by omega)))
   replace hk:=hk.fr W7.fr (fun b o hb0 h=>ho b o (by have hb:=(hzb b hb0).2;exact hin b o hb (W7.in_items (i:=i+1) (Y:=X.drop i) hN1 (by rw [hl1,hdl];omega) h)) hb0)
   replace hF:=hF.trans' W7.fr (fun _ _ _ h=>h) (fun b o hb h=>.inl (hin b o hb (W7.in_items (i:=i+1) (Y:=X.drop i) hN1 (by rw [hl1,hdl];omega) h)))
   refine ⟨trivial,?_⟩
   refine Uf 0 [0,3,4,7,10,13,14] rfl (Ut 1 rfl ?_)
   have hl2:=Pl.ins_len X ((0:Int),(0:Int)) i hle
   refine Ud 8 50241 (by kernel_rfl) (Ul 0 rfl m9 (Ul 2 rfl hh2 (Us 1 rfl mi rfl (Ux 0 i rfl (by omega) (by omega) (O.st3 rfl rfl sizeOf27 rfl rfl rfl rfl rfl (hN.sl.wri (i:=i) (by rw [hl2];omega)) ?_)))))
   intro H8 W8
   have hs8:=W8.size
   have hN2:=hN
   replace hN:=hN.set (i:=i) W8 (by rw [hl2];omega)
   rw [Pl.ins_list X _ x i hle] at hN
   replace tc:=tc.fr W8.fr (fun b o hb _=>nr (.inl (by omega)))
   replace mi:=W8.fr.rd mi (fun _ _=>nr (.inl (by omega)))
   replace mp:=W8.fr.wr mp
   replace m9:=W8.fr.keep m9 (nr (.inl (by omega)))
   replace hh2:=W8.fr.keep hh2 (nr (.inl (by omega)))
   replace hk:=hk.fr W8.fr (fun b o hb0 h=>ho b o (by have hb:=(hzb b hb0).2;exact hin b o hb (W8.as_row.in_items (i:=i) hN2 (by rw [hl2,List.length_singleton];omega) (by rw [row_one];exact h))) hb0)
   replace hF:=hF.trans' W8.fr (fun _ _ _ h=>h) (fun b o hb h=>.inl (hin b o hb (W8.as_row.in_items (i:=i) hN2 (by rw [hl2,List.length_singleton];omega) (by rw [row_one];exact h))))
   refine Uf 0 [0,3,4,7,10,13,14] rfl (Ut 1 rfl ?_)
   have hc1:cl H8 g.p 1=some (.int .i64 (g.cnt:Int)):=hN.c1
   refine Ur 8 32833 rfl (Ul 0 rfl m9 (Ul 2 rfl hc1 (Ua 0 (((g.cnt+1:Nat):Int)) rfl (by omega) (Uq 2 rfl (O.st rfl rfl sizeOf3 rfl rfl rfl rfl rfl (hN.wr.at0 1 1 (by omega)) ?_)))))
   intro Hc Wc
   have hsc:=Wc.size
   replace hN:=hN.count Wc
   replace tc:=tc.fr Wc.fr (fun b o hb _=>nr (.inl (by omega)))
   replace mi:=Wc.fr.rd mi (fun _ _=>nr (.inl (by omega)))
   replace mp:=Wc.fr.wr mp
   replace m9:=Wc.fr.keep m9 (nr (.inl (by omega)))
   replace hk:=hk.fr Wc.fr (fun b o hb0 h=>ho b o (by have hb:=(hzb b hb0).2;exact NodeM.in1 (H:=H8) (H':=Hc) (by simp) h) hb0)
   replace hF:=hF.trans' Wc.fr (fun _ _ _ h=>h) (fun b o hb h=>.inl (NodeM.in1 (H:=H8) (H':=Hc) (by simp) h))
   refine ⟨trivial,?_⟩
   refine Uf 0 [0,3,4,7,10,13,14] rfl (Ut 1 rfl ?_)
   have hlt9:∀b o,ncl EJ { g with cnt:=g.cnt+1,ib:=b',io:=o',ic:=c' } b o→b<H.size∨H1.size<b:=fun b o hb=>by
    rcases hb with hb|hb
    · exact .inl (hlt b o (.inl hb))
    · rw [hb.1];exact hbn.1
   refine Ur 7 576 rfl (Us 3 rfl tc.emp rfl (O.st (vs:=(EJ.enc (0,0))) rfl rfl sizeOf27 rfl rfl rfl rfl rfl mp ?_))
   intro H9 W9
   have hs9:=W9.size
   replace hk:=hk.fr W9.fr (fun b o hb=>nr (.inl (by have:=(hzb b hb).2;omega)))
   replace hF:=hF.trans' W9.fr (fun _ _ _ h=>h) (fun b o hb h=>by simp only [rng] at h;omega)
   replace hN:=NodeM.fr EJ hN W9.fr (fun b o hb=>nr (.inl (by rcases hlt9 b o hb with h|h<;>omega)))
   have mr:Rd H9 H0.size 0 (EJ.enc (0,0)):=W9.all
   refine ⟨trivial,?_⟩
   refine Uf 2 [0,3,4,7,10,11,12,13,14] rfl (Go'.ret (vs:=[_,_,_]) func91 results91 ⟨⟨_,_,rfl,fun _ _=>run_loadVar_agg (fun w=>⟨isAgg27 w,sizeOf27 w⟩) rfl mr⟩,rfl,rfl,trivial⟩ ?_)
   have hll:(X.take i++x::X.drop i).length=X.length+1:=by simp only [List.length_append,List.length_take,List.length_cons,List.length_drop];omega
   refine SetQH.mk hk0 hF hk fun Hm hsm hFm=>.inl ⟨(({ g with cnt:=g.cnt+1,ib:=b',io:=o',ic:=c' },X.take i++x::X.drop i):Gt EJ 0),?_,⟨hFm,⟨hN,hiso,?_,by rw [hll];omega⟩,rfl,fun b o hb=>?_,?_,?_,Ab.put_leaf_room hfb hi hful⟩⟩
   ·
    show _=Value.tuple #[PV (Pl.got OI x X),.bool (Pl.fnd OI x X),.bool false]
    rw [Pl.got_none OI hfb,hfb];rfl
   · show g.cnt+1=_;rw [hll,hcnt]
   ·
    rw [hsm]
    rcases Nat.lt_or_ge b H.size with hl|hl
    ·
     left
     rcases hb with hb|hb
     · exact .inl hb
     · exact hin b o hl hb
    · exact .inr hl
   ·
    show _=Pl.put OI x X
    unfold Pl.put;rw [hfb,hi];rfl
   ·
    show X.length≤(X.take i++x::X.drop i).length
    omega
end Go.Bt.FG
namespace Go.Bt.FG
open Go Go.Proofs Go.Proofs.Try
set_option maxRecDepth 20000
set_option maxHeartbeats 4000000
set_option linter.unusedSectionVars false
variable [Inhabited Cx]
theorem SetQH.uni {H:Mem} {P:Ps} {h:Nat} {t:Gt EJ h} {x:Int×Int} {hv:Value} {hz:Nat→Prop} {v:Value} {H':Mem} (hq:SetQH H P h t x hv hz v H'):HintOk H' hv hz∧∃Hm:Mem,Hm.size=H.size∧Fr (fun b _=>hz b) H Hm∧Fr (Gt.af h t) Hm H'∧∃pv r sp,v=.tuple #[PV pv,.bool r,.bool sp]∧
  ((sp=false∧∃t',pv=Pl.got OI x (Gt.L h t)∧r=Pl.fnd OI x (Gt.L h t)∧SetT OI Hm H' P h t t' x)∨(sp=true∧pv=none∧r=false∧Fr nowhere Hm H'∧(Gt.X h t).length=P.mx∧¬Gt.NF OI P x h t∧Ab.put OI P.mx P.mn x h (Gt.ab h t)=none)):=by
 obtain ⟨h1,Hm,h2,h3,h4⟩:=hq
 obtain ⟨pv,r,sp,e,h5⟩:=h4.uni
 refine ⟨h1,Hm,h2,h3,?_,pv,r,sp,e,h5⟩
 rcases h5 with ⟨_,t',_,_,hS⟩|⟨_,_,_,hf,_⟩
 · exact hS.fr
 · exact hf.mono fun _ _ _ h=>h.elim
theorem nset_step {B:World} {tr:Nat} {P:Ps} (hP:PsOk P) {x:Int×Int} {hv:Value} {hz:Nat→Prop} {h:Nat}
  (ih:∀{H:Mem} {bp op dp:Nat} {t:Gt EJ h},NPreH H tr P h t bp op hv hz dp→Fn Try.prog B 91 [.pointer (some ⟨tr,0,none⟩),.pointer (some ⟨bp,op,none⟩),.agg (EJ.enc x).toArray,hv,.int .i64 (dp:Int)] H (SetQH H P h t x hv hz))
  {H:Mem} {bp op dp:Nat} {t:Gt EJ (h+1)} (hp:NPreH H tr P (h+1) t bp op hv hz dp)
  (hag:¬Gt.NF OI P x (h+1) t→∀{H1:Mem} {bp1 op1:Nat} {t1:Gt EJ (h+1)},NPreH H1 tr P (h+1) t1 bp1 op1 hv hz dp→Gt.NF OI P x (h+1) t1→Fn Try.prog B 91 [.pointer (some ⟨tr,0,none⟩),.pointer (some ⟨bp1,op1,none⟩),.agg (EJ.enc x).toArray,hv,.int .i64 (dp:Int)] H1 (SetQH H1 P (h+1) t1 x hv hz)):
  Fn Try.prog B 91 [.pointer (some ⟨tr,0,none⟩),.pointer (some ⟨bp,op,none⟩),.agg (EJ.enc x).toArray,hv,.int .i64 (dp:Int)] H (SetQH H P (h+1) t x hv hz):=by
 obtain ⟨g,X,K⟩:=t
 obtain ⟨⟨tc,hg,hc,hnt,hs,hlen⟩,hx1,hk,ho,hdp⟩:=hp
 have hbpl:=cl_lt hc
 replace hc:cl H bp op=some (.pointer (some ⟨g.p,0,none⟩)):=hc
 replace hx1:1≤X.length:=hx1
 replace ho:∀b o,innc h g K b o→¬hz b:=ho
 have hI:Inn H P h g X ((Gt.ps h K).map some) K:=hg.inn
 have hiso:g.iso=P.iso:=hI.iso
 have hKl:K.length=X.length+1:=hg.2.2.2.2.2.1
 have hxm:X.length≤P.mx:=hg.2.2.2.2.1
 have hmn:=hP.h1
 have hmm:=hP.hm
 have hKL:(K.map (Gt.L h)).length=X.length+1:=by rw [List.length_map];exact hKl
 replace hs:Pl.Srt OI (Pl.inter X (K.map (Gt.L h))):=hs
 replace hlen:(Pl.inter X (K.map (Gt.L h))).length<4611686018427387904:=hlen
 have hcnt:g.cnt=(Pl.inter X (K.map (Gt.L h))).length:=hg.2.2.2.1
 have hsX:Pl.Srt OI X:=hs.sublist (Pl.sublist_inter X _ (by omega))
 have hx255:=hP.hx
 have hlt:∀b o,innc h g K b o→b<H.size:=fun b o hb=>hI.lt hb
 obtain ⟨hpl,hil,hcl,hkl⟩:=hI.cells
 replace hnt:∀b o,innc h g K b o→cx.base≤b:=hnt
 obtain ⟨hn1,hn2⟩:=offB_node hI.n.ic (fun b o ho=>hnt b o (.inl ho))
 obtain ⟨hn3,hn4⟩:=offB_kids hI.k.kc (fun b o ho=>hnt b o (.inr (.inl ho)))
 have hpi:=hI.n.ne
 obtain ⟨hk1,hk2,hk3,hk4,hk5⟩:=And.intro hI.k.n1 (And.intro hI.k.n2 (And.intro hI.k.n3 (And.intro hI.k.n4 hI.k.n5)))
 have htl:cx.base≤H.size:=tc.hb
 have hzb:=hk.base
 have hk0:=hk
 have hF:Fr nowhere H H:=Fr.refl _ _
 refine fn_of func91 rfl ntmps91 ?_
 refine (show Go' _ _ _ _ 275 [(0,_),(1,_),(2,_),(3,_),(4,_)] [.code _] _ from ?_)
 refine Ut 1 rfl (Ur 4 10 rfl (O.box rfl rfl rfl rfl ?_))
 intro H0 M0
 refine ⟨trivial,?_⟩
 have hs0:=M0.size
 replace hI:=hI.fr (M0.fr nowhere) (fun _ _ _=>nw)
 replace tc:=tc.fr (M0.fr nowhere) (fun _ _ _ _=>nw)
 replace hk:=hk.fr (M0.fr nowhere) (fun _ _ _=>nw)
 replace hc:=(M0.fr nowhere).keep hc nw
 replace hF:=hF.trans' (M0.fr nowhere) (fun _ _ _ h=>h) (fun _ _ _ h=>h.elim)
 have mi:Rd H0 H.size 0 (EJ.enc x):=M0.rd _ [] (by simp [Value.cells])
 refine O.alloc rfl rfl rfl zeroValue27 ?_
 intro H1 M1
 refine ⟨trivial,?_⟩
 have hs1:H1.size=H.size+2:=by have:=M1.size;omega
 replace hI:=hI.fr (M1.fr nowhere) (fun _ _ _=>nw)
 replace tc:=tc.fr (M1.fr nowhere) (fun _ _ _ _=>nw)
 replace hk:=hk.fr (M1.fr nowhere) (fun _ _ _=>nw)
 replace hc:=(M1.fr nowhere).keep hc nw
 replace hF:=hF.trans' (M1.fr nowhere) (fun _ _ _ h=>h) (fun _ _ _ h=>h.elim)
 replace mi:=(M1.fr nowhere).rd mi (fun _ _=>nw)
 have mp:Wr H1 H0.size 0 2:=M1.wr 2 (by decide)
 refine Uf 2 [0,1,3,4,7,10,11,12] rfl (Ut 2 rfl ?_)
 have hc0:=hI.n.c0
 rw [hiso] at hc0
 refine Ud 11 263184 (by kernel_rfl) (Ul 2 rfl hc (Ul 2 rfl hc0 (Ul 3 rfl tc.iso (Uc 0 rfl (neqF (by omega)) (Uf 0 [0,1,3,4,7,10,11,12,28] rfl (Go'.condF rfl (Ut 2 rfl (Ur 5 656 rfl (Ul 2 rfl hc (O.alloc rfl rfl rfl zeroValue107 ?_))))))))))
 intro H2 M2
 refine ⟨trivial,?_⟩
 have hs2:=M2.size
 replace hI:=hI.fr (M2.fr nowhere) (fun _ _ _=>nw)
 replace tc:=tc.fr (M2.fr nowhere) (fun _ _ _ _=>nw)
 replace hk:=hk.fr (M2.fr nowhere) (fun _ _ _=>nw)
 replace hc:=(M2.fr nowhere).keep hc nw
 replace mi:=(M2.fr nowhere).rd mi (fun _ _=>nw)
 replace mp:=(M2.fr nowhere).wr mp
 replace hF:=hF.trans' (M2.fr nowhere) (fun _ _ _ h=>h) (fun _ _ _ h=>h.elim)
 have m9w:Wr H2 H1.size 0 1:=M2.wr 1 (by decide)
 refine O.st rfl rfl sizeOf107 rfl rfl rfl rfl rfl m9w ?_
 intro Ha W3
 have hsa:=W3.size
 replace hI:=hI.fr W3.fr (fun b o hb=>nr (.inl (by have:=hlt b o hb;omega)))
 replace tc:=tc.fr W3.fr (fun b o hb _=>nr (.inl (by omega)))
 replace hc:=W3.fr.keep hc (nr (.inl (by omega)))
 replace mi:=W3.fr.rd mi (fun _ _=>nr (.inl (by omega)))
 replace mp:=W3.fr.wr mp
 replace hk:=hk.fr W3.fr (fun b o hb=>nr (.inl (by have:=(hzb b hb).2;omega)))
 replace hF:=hF.trans' W3.fr (fun _ _ _ h=>h) (fun b o hb h=>by simp only [rng] at h;omega)
 have m9:cl Ha H1.size 0=some (.pointer (some ⟨g.p,0,none⟩)):=W3.at
 clear hc0
 refine ⟨trivial,?_⟩
 refine Uf 0 [0,3,4,7,10,11,12,13] rfl (Ut 1 rfl ?_)
 clear hc
 refine Ur 1 0 rfl (Uf 1 [0,3,4,7,10,11,12,13,14] rfl (Ut 1 rfl (Ur 1 0 rfl (Uf 1 [0,3,4,7,10,11,12,13,14,15] rfl (Ut 2 rfl ?_)))))
 generalize hi:Pl.pos OI x X=i at*
 generalize hfb:Pl.fnd OI x X=fb at*
 refine Go'.share2 (σ:=Unit) (fun _ H'=>Fr (fun b _=>hz b) Ha H'∧HintOk H' hv hz) (fun _=>[(0,.pointer (some ⟨tr,0,none⟩)),(3,hv),(4,.int .i64 (dp:Int)),(7,.pointer (some ⟨H.size,0,none⟩)),(10,.pointer (some ⟨H0.size,0,none⟩)),(13,.pointer (some ⟨H1.size,0,none⟩)),(14,.int .i64 ((i:Nat):Int)),(15,.bool fb)]) ?_ ?_
 rotate_left
 ·
  intro tail
  rcases hk with ⟨rfl,hz0⟩|⟨hb,rfl,hzq,hbl,hbb,hm⟩
  ·
   refine Ur 2 0 rfl (Uq 1 rfl (O.isNil rfl rfl rfl rfl underlying116 rfl rfl (Uf 0 [0,3,4,7,10,11,12,13,14,15,40] rfl (Go'.condT rfl (Ur 9 148 rfl (Ul 1 rfl m9 (Us 0 rfl mi rfl (O.call rfl rfl rfl call84 rfl (bsearch_spec tc x hI.n hsX (by omega)) ?_))))))))
   rintro _ H3 ⟨rfl,hF3⟩
   rw [hi,hfb]
   refine ⟨trivial,?_⟩
   refine Uf 5 [0,3,4,7,10,11,12,13,14,15] rfl (Uk [0,3,4,7,10,13,14,15] rfl ?_)
   exact tail () H3 ⟨hF3.mono (fun _ _ _ h=>h.elim),.inl ⟨rfl,hz0⟩⟩
  ·
   refine Ur 2 0 rfl (Uq 1 rfl (O.isNil rfl rfl rfl rfl underlying116 rfl rfl (Uf 0 [0,3,4,7,10,11,12,13,14,15,40] rfl (Go'.condF rfl (Ur 11 2068 rfl (Ul 1 rfl m9 (Us 0 rfl mi rfl (Uq 2 rfl (O.call rfl rfl rfl call85 rfl (hintsearch_spec tc x hI.n hsX (by omega) hx1 hm hbl hbb (fun o ho2=>ho hb o (.inl ho2) ((hzq hb).2 rfl)) (by omega)) ?_)))))))))
   rintro _ H3 ⟨rfl,hF3,hm3⟩
   rw [hi,hfb]
   refine ⟨trivial,?_⟩
   refine Uf 5 [0,3,4,7,10,11,12,13,14,15] rfl (Uk [0,3,4,7,10,13,14,15] rfl ?_)
   exact tail () H3 ⟨hF3.mono (fun b _ _ h=>(hzq b).2 h),.inr ⟨hb,rfl,hzq,Nat.lt_of_lt_of_le hbl hF3.size,hbb,hm3⟩⟩
 clear hk
 rintro _ H3 ⟨hF3,hk⟩
 have hs3:=hF3.size
 replace hI:=hI.fr hF3 (fun b o hb hz=>ho b o hb hz)
 replace tc:=tc.fr hF3 (fun b o hb _ hz=>(hzb b hz).1 hb)
 replace mi:=hF3.rd mi (fun _ _ hz=>by have:=(hzb _ hz).2;omega)
 replace mp:=hF3.wr mp
 replace m9:=hF3.keep m9 (fun hz=>by have:=(hzb _ hz).2;omega)
 replace hF:Fr (fun b _=>hz b) H H3:=hF.trans' hF3 (fun _ _ _ h=>h.elim) (fun _ _ _ h=>h)
 refine Ut 2 rfl (Ur 1 0 rfl (Uf 1 [0,3,4,7,10,13,14,57] rfl ?_))
 cases fb
 rotate_left
 ·
  generalize hos:(Gt.ps h K).map some=os at*
  have hlt9:∀b o,innc h g K b o→b<H.size∨H1.size<b:=fun b o hb=>.inl (hlt b o hb)
  obtain ⟨y,hy,_,_⟩:=Pl.fnd_at OI hsX hfb
  rw [hi] at hy
  have hlt':i<X.length:=(List.getElem?_eq_some_iff.1 hy).1
  refine Go'.condT rfl (Ut 1 rfl (Ur 8 36929 rfl (Ul 0 rfl m9 (Ul 2 rfl hI.n.c2 (Ux 1 i rfl (by omega) hlt' (Us 0 rfl (hI.n.sl.item hy) rfl (O.st (vs:=(EJ.enc y)) rfl rfl sizeOf27 rfl rfl rfl rfl rfl mp ?_)))))))
  intro H5 W5
  have hs5:=W5.size
  replace hI:=hI.fr W5.fr (fun b o hb=>nr (.inl (by have:=hlt b o hb;omega)))
  replace tc:=tc.fr W5.fr (fun b o hb _=>nr (.inl (by omega)))
  replace mi:=W5.fr.rd mi (fun _ _=>nr (.inl (by omega)))
  replace mp:=W5.fr.wr mp
  replace m9:=W5.fr.keep m9 (nr (.inl (by omega)))
  replace hk:=hk.fr W5.fr (fun b o hb=>nr (.inl (by have:=(hzb b hb).2;omega)))
  replace hF:=hF.trans' W5.fr (fun _ _ _ h=>h) (fun b o hb h=>by simp only [rng] at h;omega)
  have mq:Rd H5 H0.size 0 (EJ.enc y):=W5.all
  refine ⟨trivial,?_⟩
  refine Uf 0 [0,3,4,7,10,13,14] rfl (Ut 1 rfl (Ud 8 50241 (by kernel_rfl) (Ul 0 rfl m9 (Ul 2 rfl hI.n.c2 (Us 1 rfl mi rfl (Ux 0 i rfl (by omega) hlt' (O.st3 rfl rfl sizeOf27 rfl rfl rfl rfl rfl (hI.n.sl.wri hlt') ?_)))))))
  intro H4 W4
  have hs4:=W4.size
  replace hk:=hk.fr W4.fr (fun b o hb0 h=>ho b o (by have:=W4.as_row.in_items hI.n (by rw [List.length_singleton];omega) (by rw [row_one];exact h);exact .inl (.inr this)) hb0)
  replace hF:Fr (fun b o=>innc h g K b o∨hz b) H H4:=hF.trans' W4.fr (fun _ _ _ h=>.inr h) (fun b o hb h=>.inl (by have:=W4.as_row.in_items hI.n (by rw [List.length_singleton];omega) (by rw [row_one];exact h);exact .inl (.inr this)))
  replace mq:=W4.fr.rd mq (fun _ _=>nr (.inl (by omega)))
  replace mp:=W4.fr.wr mp
  replace hI:=hI.set W4 hlt'
  refine Uf 0 [0,3,4,7,10,13,14] rfl (Ut 1 rfl (Ur 4 9 rfl (Us 0 rfl mq rfl (O.st (vs:=(EJ.enc y)) rfl rfl sizeOf27 rfl rfl rfl rfl rfl mp ?_))))
  intro H9 W9
  have hs9:=W9.size
  replace hk:=hk.fr W9.fr (fun b o hb=>nr (.inl (by have:=(hzb b hb).2;omega)))
  replace hF:=hF.trans' W9.fr (fun _ _ _ h=>h) (fun b o hb h=>by simp only [rng] at h;omega)
  replace hI:=hI.fr W9.fr (fun b o hb=>nr (.inl (by rcases hlt9 b o hb with h|h<;>omega)))
  have mr:Rd H9 H0.size 0 (EJ.enc y):=W9.all
  refine ⟨trivial,?_⟩
  refine Uf 2 [0,3,4,7,10,11,12,13,14] rfl (Go'.ret (vs:=[_,_,_]) func91 results91 ⟨⟨_,_,rfl,fun _ _=>run_loadVar_agg (fun w=>⟨isAgg27 w,sizeOf27 w⟩) rfl mr⟩,rfl,rfl,trivial⟩ ?_)
  subst hos
  obtain ⟨y',hy',_,_,_,q1,q2,q3,_⟩:=Pl.inter_found OI hs hKL hfb
  rw [hi] at hy' q3
  have hll:(X.take i++x::X.drop (i+1)).length=X.length:=by simp only [List.length_append,List.length_take,List.length_cons,List.length_drop];omega
  refine SetQH.mk hk0 hF hk fun Hm hsm hFm=>.inl ⟨((g,X.take i++x::X.drop (i+1),K):Gt EJ (h+1)),?_,⟨hFm,hI.good ?_ (by rw [hll];exact hxm) (by rw [hll];exact hKl),rfl,fun b o hb=>.inl hb,q3.symm,Nat.le_of_eq hll.symm,Ab.put_found hfb hi⟩⟩
  ·
   show _=Value.tuple #[PV (Pl.got OI x (Pl.inter X (K.map (Gt.L h)))),.bool (Pl.fnd OI x (Pl.inter X (K.map (Gt.L h)))),.bool false]
   rw [q1,q2]
   obtain rfl:y'=y:=Option.some.inj (hy'.symm.trans hy)
   rfl
  · rw [hcnt,Pl.inter_length _ _ hKL,Pl.inter_length _ _ (by rw [hll];exact hKL),hll]
 ·
  have hle:i≤X.length:=by rw [←hi];exact Pl.pos_le OI x X
  obtain ⟨k,hkk⟩:∃k,K[i]?=some k:=⟨K[i],List.getElem?_eq_getElem (by omega)⟩
  have hkK:k∈K:=List.mem_of_getElem? hkk
  have hsp:K=K.take i++[k]++K.drop (i+1):=by
   have hil:i<K.length:=by omega
   rw [List.append_assoc,List.singleton_append,←(List.getElem?_eq_some_iff.1 hkk).2,List.getElem_cons_drop,List.take_append_drop]
  obtain ⟨hgk,hmk,hdk⟩:=hI.c.1 k hkK
  have hklt:∀b o,Gt.af h k b o→b<H.size:=fun b o hb=>hlt b o (.inr (.inr ⟨k,hkK,hb⟩))
  have hkL:(K.map (Gt.L h))[i]?=some (Gt.L h k):=by rw [List.getElem?_map,hkk];rfl
  obtain ⟨e1,e2,e3,e4⟩:=Pl.inter_child OI hs hKL hfb (by rw [hi];exact hkL)
  rw [hi] at e1 e2 e3 e4
  have hsk:Pl.Srt OI (Gt.L h k):=by
   rw [e1,Pl.Srt.append,Pl.Srt.append] at hs
   exact hs.1.2.1
  have hlk:(Gt.L h k).length<4611686018427387904:=by
   rw [e1,List.length_append,List.length_append] at hlen;omega
  have hok:((Gt.ps h K).map some)[i]?=some (some (Gt.p h k)):=by rw [Gt.ps,List.map_map,List.getElem?_map,hkk];rfl
  have hol:((Gt.ps h K).map some).length=K.length:=by rw [List.length_map,Gt.ps,List.length_map]
  generalize hos:(Gt.ps h K).map some=os at*
  have hf1:=Pl.fnd_mid OI e2 e3 (m:=Gt.L h k)
  have hf2:=Pl.got_mid OI e2 e3 (m:=Gt.L h k)
  have hf3:=Pl.put_mid OI e2 e3 (m:=Gt.L h k)
  rw [←e1] at hf1 hf2 hf3
  refine Go'.condF rfl (Ut 3 rfl (Ur 2 9 rfl (Ul 0 rfl m9 (O.callQ rfl rfl rfl call62 rfl (leaf_spec hI.n.c3) trivial (Uf 0 [0,3,4,7,10,13,14,74] rfl (Go'.condF rfl (Ut 2 rfl (Ud 21 137573437700 (by kernel_rfl) (Ul 1 rfl m9 (Ul 2 rfl hI.n.c3 (Ul 1 rfl hI.k.c ?_)))))))))))
  refine Ux 1 i rfl (by omega) (by omega) (Us 0 rfl mi rfl (Ua 2 (((dp+1:Nat):Int)) rfl (by omega) (O.call rfl rfl rfl call91 rfl ((ih (t:=k) (dp:=dp+1) ⟨⟨tc,hgk,hI.k.at hok,fun b o ho=>hnt b o (.inr (.inr ⟨k,hkK,ho⟩)),hsk,hlk⟩,Nat.le_trans hmn hmk,hk,fun b o hb=>ho b o (.inr (.inr ⟨k,hkK,hb⟩)),by omega⟩).mono fun _ _=>SetQH.uni) ?_)))
  rintro _ H4 ⟨hk,Hm,hsm,hFm,hFk,pv,r,sp,rfl,hq⟩
  have hs4:Hm.size≤H4.size:=hFk.size
  replace hI:=hI.fr hFm (fun b o hb hz=>ho b o hb hz)
  replace tc:=tc.fr hFm (fun b o hb _ hz=>(hzb b hz).1 hb)
  replace mi:=hFm.rd mi (fun _ _ hz=>by have:=(hzb _ hz).2;omega)
  replace mp:=hFm.wr mp
  replace m9:=hFm.keep m9 (fun hz=>by have:=(hzb _ hz).2;omega)
  replace tc:=tc.fr hFk (fun b o hb _ hz=>by have:=hnt b o (.inr (.inr ⟨k,hkK,hz⟩));omega)
  replace mi:=hFk.rd mi (fun _ _ hz=>by have:=hklt _ _ hz;omega)
  replace mp:=hFk.wr mp
  replace m9:=hFk.keep m9 (fun hz=>by have:=hklt _ _ hz;omega)
  replace hF:=hF.trans hFm
  refine ⟨trivial,?_⟩
  refine Uq 4 rfl (O.st (vs:=(EJ.enc (pv.getD (0,0)))) rfl rfl sizeOf27 rfl rfl rfl rfl rfl mp ?_)
  intro Hp Wp
  have hsp4:=Wp.size
  replace tc:=tc.fr Wp.fr (fun b o hb _=>nr (.inl (by omega)))
  replace mi:=Wp.fr.rd mi (fun _ _=>nr (.inl (by omega)))
  replace mp:=Wp.fr.wr mp
  replace m9:=Wp.fr.keep m9 (nr (.inl (by omega)))
  replace hk:=hk.fr Wp.fr (fun b o hb=>nr (.inl (by have:=(hzb b hb).2;omega)))
  have mq:Rd Hp H0.size 0 (EJ.enc (pv.getD (0,0))):=Wp.all
  refine ⟨trivial,?_⟩
  refine Uf 2 [0,3,4,7,10,11,12,13,14] rfl (Ut 2 rfl ?_)
  rcases hq with ⟨rfl,t',rfl,rfl,hS⟩|⟨rfl,rfl,rfl,hfr,hful,hnf,hpn⟩
  ·
   refine Ur 1 0 rfl (Uf 1 [0,3,4,7,10,11,12,13,14,152] rfl (Go'.condF rfl (Ut 3 rfl ?_)))
   rw [hsp] at hI
   replace hI:=hI.repl (A:=[k]) (M:=[t']) hS.fr (fun b o hz=>⟨k,List.mem_singleton.2 rfl,hz⟩) (fun m hm=>by
    rw [List.mem_singleton] at hm;subst hm
    exact ⟨hS.g,Nat.le_trans hmk hS.x,fun b o hb=>(hS.a b o hb).imp (fun h=>⟨k,List.mem_singleton.2 rfl,h⟩) id⟩) (List.pairwise_singleton _ _)
   have hos':os=(Gt.ps h (K.take i++[t']++K.drop (i+1))).map some:=by
    rw [←hos]
    conv=>lhs;rw [hsp]
    simp only [Gt.ps,List.map_append,List.map_cons,List.map_nil,hS.p]
   have hL':Pl.inter X ((K.take i++[t']++K.drop (i+1)).map (Gt.L h))=Pl.put OI x (Pl.inter X (K.map (Gt.L h))):=by
    rw [List.append_assoc,List.map_append,List.map_append,List.map_take,List.map_drop,List.map_singleton,List.singleton_append,e4,hS.l]
    exact hf3.symm
   have hKl':(K.take i++[t']++K.drop (i+1)).length=X.length+1:=by simp only [List.length_append,List.length_take,List.length_cons,List.length_drop,List.length_nil];omega
   have haf:∀b o,innc h g (K.take i++[t']++K.drop (i+1)) b o→Gt.af (h+1) ((g,X,K):Gt EJ (h+1)) b o∨H3.size≤b:=by
    intro b o hb
    rcases hb with hb|hb|⟨m,hm,hb⟩
    · exact .inl (.inl hb)
    · exact .inl (.inr (.inl hb))
    ·
     simp only [List.mem_append,List.mem_singleton] at hm
     rcases hm with (hm|hm)|hm
     · exact .inl (.inr (.inr ⟨m,List.mem_of_mem_take hm,hb⟩))
     ·
      subst hm
      exact (hS.a b o hb).elim (fun h=>.inl (.inr (.inr ⟨k,hkK,h⟩))) (fun h=>.inr (by omega))
     · exact .inl (.inr (.inr ⟨m,List.mem_of_mem_drop hm,hb⟩))
   have hlt9:∀b o,innc h g (K.take i++[t']++K.drop (i+1)) b o→b<H.size∨H1.size<b:=fun b o hb=>(haf b o hb).imp (hlt b o) (fun h=>by omega)
   replace hI:=hI.fr Wp.fr (fun b o hb=>nr (.inl (by rcases hlt9 b o hb with h|h<;>omega)))
   replace hF:Fr (fun b o=>Gt.af (h+1) ((g,X,K):Gt EJ (h+1)) b o∨hz b) H Hp:=(hF.trans' hS.fr (fun _ _ _ h=>.inr h) (fun b o _ hz=>.inl (.inr (.inr ⟨k,hkK,hz⟩)))).trans' Wp.fr (fun _ _ _ h=>h) (fun b o hb h=>by simp only [rng] at h;omega)
   have hab:Ab.put OI P.mx P.mn x (h+1) (X,K.map (Gt.ab h))=some (X,(K.take i++[t']++K.drop (i+1)).map (Gt.ab h)):=by
    rw [Ab.put_kid hfb hi (by rw [List.getElem?_map,hkk];rfl) hS.ab]
    simp only [List.map_append,List.map_take,List.map_drop,List.map_cons,List.map_nil]
    rfl
   have hlp:=Pl.length_put OI x (Pl.inter X (K.map (Gt.L h)))
   have hcc:cl Hp g.p 1=some (.int .i64 (g.cnt:Int)):=hI.n.c1
   rw [hos'] at hI
   rw [←hf1]
   refine Ur 2 0 rfl (Uf 2 [10,11,12,13,265] rfl ?_)
   cases hfk:Pl.fnd OI x (Pl.inter X (K.map (Gt.L h)))
   ·
    refine Go'.condT rfl (Ur 8 32833 rfl (Ul 0 rfl m9 (Ul 2 rfl hcc (Ua 0 (((g.cnt+1:Nat):Int)) rfl (by omega) (Uq 2 rfl (O.st rfl rfl sizeOf3 rfl rfl rfl rfl rfl (hI.n.wr.at0 1 1 (by omega)) ?_))))))
    intro H5 W5
    have hs5:=W5.size
    replace hF:=hF.trans' W5.fr (fun _ _ _ h=>h) (fun b o hb h=>.inl (.inl (NodeM.in1 (H:=Hp) (H':=H5) (by simp) h)))
    replace hk:=hk.fr W5.fr (fun b o hb0 h=>ho b o (.inl (NodeM.in1 (H:=Hp) (H':=H5) (by simp) h)) hb0)
    replace hI:=hI.count W5
    replace mq:=W5.fr.rd mq (fun _ _=>nr (.inl (by omega)))
    replace mp:=W5.fr.wr mp
    refine ⟨trivial,?_⟩
    refine Uf 0 [10,11,12] rfl (Ut 1 rfl ?_)
    replace hlt9:∀b o,innc h { g with cnt:=g.cnt+1 } (K.take i++[t']++K.drop (i+1)) b o→b<H.size∨H1.size<b:=hlt9
    refine Ur 5 33 rfl (Us 0 rfl mq rfl (Uq 1 rfl (O.st (vs:=(EJ.enc ((Pl.got OI x (Gt.L h k)).getD (0,0)))) rfl rfl sizeOf27 rfl rfl rfl rfl rfl mp ?_)))
    intro H9 W9
    have hs9:=W9.size
    replace hk:=hk.fr W9.fr (fun b o hb=>nr (.inl (by have:=(hzb b hb).2;omega)))
    replace hF:=hF.trans' W9.fr (fun _ _ _ h=>h) (fun b o hb h=>by simp only [rng] at h;omega)
    replace hI:=hI.fr W9.fr (fun b o hb=>nr (.inl (by rcases hlt9 b o hb with h|h<;>omega)))
    have mr:Rd H9 H0.size 0 (EJ.enc ((Pl.got OI x (Gt.L h k)).getD (0,0))):=W9.all
    refine ⟨trivial,?_⟩
    refine Uf 2 [10,11,12] rfl (Go'.ret (vs:=[_,_,_]) func91 results91 ⟨⟨_,_,rfl,fun _ _=>run_loadVar_agg (fun w=>⟨isAgg27 w,sizeOf27 w⟩) rfl mr⟩,rfl,rfl,trivial⟩ ?_)
    refine SetQH.mk hk0 hF hk fun Hm' hsm' hFm'=>.inl ⟨(({ g with cnt:=g.cnt+1 },X,K.take i++[t']++K.drop (i+1)):Gt EJ (h+1)),?_,⟨hFm',hI.good ?_ hxm hKl',rfl,fun b o hb=>(haf b o hb).imp id (fun h=>by omega),hL',Nat.le_refl _,hab⟩⟩
    ·
     show _=Value.tuple #[PV (Pl.got OI x (Pl.inter X (K.map (Gt.L h)))),.bool (Pl.fnd OI x (Pl.inter X (K.map (Gt.L h)))),.bool false]
     rw [hf2,hfk];rfl
    · show g.cnt+1=_;rw [hL',hlp,hfk,hcnt];rfl
   ·
    refine Go'.condF rfl (Ut 2 rfl (Ur 5 33 rfl (Us 0 rfl mq rfl (Uq 1 rfl (O.st (vs:=(EJ.enc ((Pl.got OI x (Gt.L h k)).getD (0,0)))) rfl rfl sizeOf27 rfl rfl rfl rfl rfl mp ?_)))))
    intro H9 W9
    have hs9:=W9.size
    replace hk:=hk.fr W9.fr (fun b o hb=>nr (.inl (by have:=(hzb b hb).2;omega)))
    replace hF:=hF.trans' W9.fr (fun _ _ _ h=>h) (fun b o hb h=>by simp only [rng] at h;omega)
    replace hI:=hI.fr W9.fr (fun b o hb=>nr (.inl (by rcases hlt9 b o hb with h|h<;>omega)))
    have mr:Rd H9 H0.size 0 (EJ.enc ((Pl.got OI x (Gt.L h k)).getD (0,0))):=W9.all
    refine ⟨trivial,?_⟩
    refine Uf 2 [10,11,12] rfl (Go'.ret (vs:=[_,_,_]) func91 results91 ⟨⟨_,_,rfl,fun _ _=>run_loadVar_agg (fun w=>⟨isAgg27 w,sizeOf27 w⟩) rfl mr⟩,rfl,rfl,trivial⟩ ?_)
    refine SetQH.mk hk0 hF hk fun Hm' hsm' hFm'=>.inl ⟨((g,X,K.take i++[t']++K.drop (i+1)):Gt EJ (h+1)),?_,⟨hFm',hI.good ?_ hxm hKl',rfl,fun b o hb=>(haf b o hb).imp id (fun h=>by omega),hL',Nat.le_refl _,hab⟩⟩
    ·
     show _=Value.tuple #[PV (Pl.got OI x (Pl.inter X (K.map (Gt.L h)))),.bool (Pl.fnd OI x (Pl.inter X (K.map (Gt.L h)))),.bool false]
     rw [hf2,hfk];rfl
    · rw [hL',hlp,hfk,hcnt];rfl
  ·
   refine Ur 1 0 rfl (Uf 1 [0,3,4,7,10,11,12,13,14,152] rfl (Go'.condT rfl (Ut 2 rfl ?_)))
   replace hI:=(hI.fr hfr (fun _ _ _=>nw)).fr Wp.fr (fun b o hb=>nr (.inl (by have:=hlt b o hb;omega)))
   replace hF:Fr (fun b _=>hz b) H Hp:=(hF.trans' hfr (fun _ _ _ h=>h) (fun _ _ _ h=>h.elim)).trans' Wp.fr (fun _ _ _ h=>h) (fun b o hb h=>by simp only [rng] at h;omega)
   have hlt9:∀b o,innc h g K b o→b<H.size∨H1.size<b:=fun b o hb=>.inl (hlt b o hb)
   have hNF:¬Gt.NF OI P x (h+1) ((g,X,K):Gt EJ (h+1)):=by
    rintro (hn|hn)
    ·
     have hn':Pl.fnd OI x X=true:=hn
     rw [hfb] at hn';cases hn'
    ·
     have:=hn k (by show K[Pl.pos OI x X]?=some k;rw [hi];exact hkk)
     omega
   by_cases hfu:X.length=P.mx
   ·
    refine Ud 10 65601 (by kernel_rfl) (Ul 0 rfl m9 (Ul 2 rfl hI.n.c2 (Ul 4 rfl tc.mx' (Uc 0 rfl (eqlT (by omega)) (Uf 0 [0,3,4,7,10,11,12,13,14,162] rfl (Go'.condT rfl (Ut 1 rfl (Ur 7 576 rfl (Us 3 rfl tc.emp rfl (O.st (vs:=(EJ.enc (0,0))) rfl rfl sizeOf27 rfl rfl rfl rfl rfl mp ?_))))))))))
    intro H9 W9
    have hs9:=W9.size
    replace hk:=hk.fr W9.fr (fun b o hb=>nr (.inl (by have:=(hzb b hb).2;omega)))
    replace hF:=hF.trans' W9.fr (fun _ _ _ h=>h) (fun b o hb h=>by simp only [rng] at h;omega)
    replace hI:=hI.fr W9.fr (fun b o hb=>nr (.inl (by rcases hlt9 b o hb with h|h<;>omega)))
    have mr:Rd H9 H0.size 0 (EJ.enc (0,0)):=W9.all
    refine ⟨trivial,?_⟩
    refine Uf 2 [0,3,4,7,10,11,12,13,14] rfl (Go'.ret (vs:=[_,_,_]) func91 results91 ⟨⟨_,_,rfl,fun _ _=>run_loadVar_agg (fun w=>⟨isAgg27 w,sizeOf27 w⟩) rfl mr⟩,rfl,rfl,trivial⟩ ?_)
    exact SetQH.mk (Z:=nowhere) hk0 (hF.mono fun _ _ _ h=>.inr h) hk fun Hm' hsm' hFm'=>.inr ⟨rfl,hFm',hfu,hNF,Ab.put_both hfb hi (by rw [List.getElem?_map,hkk];rfl) hpn hfu⟩
   ·
    refine Ud 10 65601 (by kernel_rfl) (Ul 0 rfl m9 (Ul 2 rfl hI.n.c2 (Ul 4 rfl tc.mx' (Uc 0 rfl (eqlF (by omega)) (Uf 0 [0,3,4,7,10,11,12,13,14,162] rfl (Go'.condF rfl (Ut 2 rfl ?_)))))))
    have hxl:X.length+1≤P.mx:=Nat.lt_of_le_of_ne hxm hfu
    replace hgk:=(hI.c.1 k hkK).1
    refine Ur 17 9129169156 rfl (Ul 1 rfl m9 (Ul 2 rfl hI.n.c3 (Ul 1 rfl hI.k.c (Ux 1 i rfl (by omega) (by omega) (Ul 0 rfl (hI.k.at hok) (O.call rfl rfl rfl call92 rfl (split_spec hP tc hgk hful (fun b o ho=>hnt b o (.inr (.inr ⟨k,hkK,ho⟩))) hlk) ?_))))))
    rintro _ H5 ⟨t1,t2,med,rfl,hS⟩
    have hs5:Hp.size≤H5.size:=hS.fr.size
    replace tc:=tc.fr hS.fr (fun b o hb _ hz=>by have:=hnt b o (.inr (.inr ⟨k,hkK,hz⟩));omega)
    replace mi:=hS.fr.rd mi (fun _ _ hz=>by have:=hklt _ _ hz;omega)
    replace mp:=hS.fr.wr mp
    replace m9:=hS.fr.keep m9 (fun hz=>by have:=hklt _ _ hz;omega)
    replace hk:=hk.fr hS.fr (fun b o hb hz=>ho b o (.inr (.inr ⟨k,hkK,hz⟩)) hb)
    replace hF:Fr (fun b o=>Gt.af (h+1) ((g,X,K):Gt EJ (h+1)) b o∨hz b) H H5:=hF.trans' hS.fr (fun _ _ _ h=>.inr h) (fun b o _ hz=>.inl (.inr (.inr ⟨k,hkK,hz⟩)))
    rw [hsp] at hI
    replace hI:=hI.repl (A:=[k]) (M:=[t1,t2]) hS.fr (fun b o hz=>⟨k,List.mem_singleton.2 rfl,hz⟩) (fun m hm=>by
     simp only [List.mem_cons,List.not_mem_nil,or_false] at hm
     rcases hm with rfl|rfl
     · exact ⟨hS.g1,Nat.le_of_eq hS.x1.symm,fun b o hb=>(hS.a1 b o hb).imp (fun h=>⟨k,List.mem_singleton.2 rfl,h⟩) id⟩
     · exact ⟨hS.g2,Nat.le_of_eq hS.x2.symm,fun b o hb=>(hS.a2 b o hb).imp (fun h=>⟨k,List.mem_singleton.2 rfl,h⟩) id⟩) (List.pairwise_pair.2 hS.dis)
    have hlt5:∀b o,innc h g (K.take i++[t1,t2]++K.drop (i+1)) b o→b<H5.size:=fun b o hb=>hI.lt hb
    have haf5:∀m∈K.take i++[t1,t2]++K.drop (i+1),∀b o,Gt.af h m b o→Gt.af (h+1) ((g,X,K):Gt EJ (h+1)) b o∨H3.size≤b:=by
     intro m hm b o hb
     simp only [List.mem_append,List.mem_cons,List.not_mem_nil,or_false] at hm
     rcases hm with (hm|rfl|rfl)|hm
     · exact .inl (.inr (.inr ⟨m,List.mem_of_mem_take hm,hb⟩))
     · exact (hS.a1 b o hb).elim (fun h=>.inl (.inr (.inr ⟨k,hkK,h⟩))) (fun h=>.inr (by omega))
     · exact (hS.a2 b o hb).elim (fun h=>.inl (.inr (.inr ⟨k,hkK,h⟩))) (fun h=>.inr (by omega))
     · exact .inl (.inr (.inr ⟨m,List.mem_of_mem_drop hm,hb⟩))
    have hnt5:∀m∈K.take i++[t1,t2]++K.drop (i+1),∀b o,Gt.af h m b o→cx.base≤b:=fun m hm b o hb=>(haf5 m hm _ _ hb).elim (hnt b o) (fun h=>by omega)
    refine ⟨trivial,?_⟩
    refine Uq 3 rfl (O.alloc rfl rfl rfl zeroValue27 ?_)
    intro H6 M6
    refine ⟨trivial,?_⟩
    have hs6:=M6.size
    replace hI:=hI.fr (M6.fr nowhere) (fun _ _ _=>nw)
    replace tc:=tc.fr (M6.fr nowhere) (fun _ _ _ _=>nw)
    replace hk:=hk.fr (M6.fr nowhere) (fun _ _ _=>nw)
    replace mi:=(M6.fr nowhere).rd mi (fun _ _=>nw)
    replace mp:=(M6.fr nowhere).wr mp
    replace m9:=(M6.fr nowhere).keep m9 nw
    replace hF:=hF.trans' (M6.fr nowhere) (fun _ _ _ h=>h) (fun _ _ _ h=>h.elim)
    have m13w:Wr H6 H5.size 0 2:=M6.wr 2 (by decide)
    refine Uq 1 rfl (O.st rfl rfl sizeOf27 rfl rfl rfl rfl rfl m13w ?_)
    intro H7 W7
    have hs7:=W7.size
    replace hI:=hI.fr W7.fr (fun b o hb=>nr (.inl (by have:=hlt5 b o hb;omega)))
    replace hk:=hk.fr W7.fr (fun b o hb=>nr (.inl (by have:=(hzb b hb).2;omega)))
    replace tc:=tc.fr W7.fr (fun b o hb _=>nr (.inl (by omega)))
    replace mi:=W7.fr.rd mi (fun _ _=>nr (.inl (by omega)))
    replace mp:=W7.fr.wr mp
    replace m9:=W7.fr.keep m9 (nr (.inl (by omega)))
    replace hF:=hF.trans' W7.fr (fun _ _ _ h=>h) (fun b o hb h=>by simp only [rng] at h;omega)
    have m13:Rd H7 H5.size 0 (EJ.enc med):=W7.all
    refine ⟨trivial,?_⟩
    refine Uf 0 [0,3,4,7,10,11,12,13,14,16,17] rfl (Ut 1 rfl ?_)
    have hkcap:=hI.k.sl.hle
    refine UD (fun H'=>cl H' H1.size 0=some (.pointer (some ⟨g.p,0,none⟩))∧cl H' g.p 3=some (.pointer (some ⟨g.cb,0,none⟩))∧cl H' g.cb 0=some (.slice (some ⟨g.kb,g.ko,none⟩) (os).length g.kc)) 14 211812352 (by kernel_rfl) (⟨m9,hI.n.c3,hI.k.c⟩) (UL 0 rfl (fun _ h=>h.1) (UL 2 rfl (fun _ h=>h.2.1) (UL 0 rfl (fun _ h=>h.1) (UL 2 rfl (fun _ h=>h.2.1) (UL 1 rfl (fun _ h=>h.2.2) (O.bsl (cs:=[.pointer none]) rfl rfl rfl ⟨underlying121,sizeOf107,zeroValue107,⟨_,typeInfo107,rfl⟩,rfl,by decide,by decide⟩ rfl (by decide) (by kernel_rfl) ?_))))))
    intro H8 M8
    have hs8:=M8.size
    replace hI:=hI.fr (M8.fr nowhere) (fun _ _ _=>nw)
    replace tc:=tc.fr (M8.fr nowhere) (fun _ _ _ _=>nw)
    replace hk:=hk.fr (M8.fr nowhere) (fun _ _ _=>nw)
    replace mi:=(M8.fr nowhere).rd mi (fun _ _=>nw)
    replace mp:=(M8.fr nowhere).wr mp
    replace m9:=(M8.fr nowhere).keep m9 nw
    replace m13:=(M8.fr nowhere).rd m13 (fun _ _=>nw)
    replace hF:=hF.trans' (M8.fr nowhere) (fun _ _ _ h=>h) (fun _ _ _ h=>h.elim)
    have m8:Rd H8 H7.size 0 [.pointer none]:=M8.rd _ [] (by simp)
    refine ⟨⟨m9,hI.n.c3,hI.k.c⟩,?_⟩
    refine O.app (m:=1) (news:=[.pointer none]) rfl rfl rfl ⟨underlying121,sizeOf107,zeroValue107,⟨_,typeInfo107,rfl⟩,rfl,by decide,by decide⟩ rfl hI.k.sl rfl (.inl ⟨_,_,_,rfl,m8⟩) rfl rfl (Nat.le_trans (Nat.mul_le_mul_left _ (Nat.le_of_ble_eq_true (n:=_) (m:=4096) rfl)) (by omega)) (by omega) ?_
    intro bk ok ck H9 ha
    have hkin:∀b o,b<H3.size→(b=bk∧ok≤o∧o<ok+ck*1)→kcl g b o:=fun b o hb hh=>.inr (by have h0:=ha.inside (by omega) hh;exact ⟨h0.1,h0.2.1,by omega⟩)
    have hbk:(bk<H.size∨H7.size<bk)∧cx.base≤bk∧bk≠g.p∧bk≠g.cb∧bk≠g.ib:=by rcases ha.place with ⟨r,_⟩|⟨r,_⟩<;>omega
    have hI0:=hI
    replace hI:=hI.kapp ha
    replace tc:=tc.fr ha.fr (fun b o hb _=>nr (.inl (by omega)))
    replace mi:=ha.fr.rd mi (fun _ _=>nr (.inl (by omega)))
    replace mp:=ha.fr.wr mp
    replace m9:=ha.fr.keep m9 (nr (.inl (by omega)))
    replace m13:=ha.fr.rd m13 (fun _ _=>nr (.inl (by omega)))
    replace hk:=hk.fr ha.fr (fun b o hb0 h=>ho b o (.inr (.inl (show kcl g b o from .inr ⟨h.1,by have:=h.2.1;omega,by have:=h.2.2;omega⟩))) hb0)
    replace hF:=hF.trans' ha.fr (fun _ _ _ h=>h) (fun b o hb h=>.inl (.inr (.inl (show kcl g b o from .inr ⟨h.1,by have:=h.2.1;omega,by have:=h.2.2;omega⟩))))
    have hs9:H8.size≤H9.size:=ha.fr.size
    refine ⟨⟨m9,hI.n.c3,hI.k.c⟩,?_⟩
    refine Uq 1 rfl (O.st3 rfl rfl sizeOf121 rfl rfl rfl rfl rfl hI.k.wr ?_)
    intro H10 W10
    have hs10:=W10.size
    replace hI:=hI0.kpush (e:=none) rfl ha W10
    replace tc:=tc.fr W10.fr (fun b o hb _=>nr (.inl (by omega)))
    replace mi:=W10.fr.rd mi (fun _ _=>nr (.inl (by omega)))
    replace mp:=W10.fr.wr mp
    replace m9:=W10.fr.keep m9 (nr (.inl (by omega)))
    replace m13:=W10.fr.rd m13 (fun _ _=>nr (.inl (by omega)))
    replace hk:=hk.fr W10.fr (fun b o hb0 h=>ho b o (by have hb:=(hzb b hb0).2;exact .inr (.inl (.inl ⟨h.1,by have:=h.2.2;simpa using this⟩))) hb0)
    replace hF:=hF.trans' W10.fr (fun _ _ _ h=>h) (fun b o hb h=>.inl (.inr (.inl (.inl ⟨h.1,by have:=h.2.2;simpa using this⟩))))
    refine Uf 0 [0,3,4,7,10,11,12,13,14,16,17] rfl (Ut 1 rfl ?_)
    have hl1:(os++[none]).length=os.length+1:=by simp
    have hcp:=hI.k.sl.hle
    rw [hl1] at hcp
    simp only at hcp
    have hh3:cl H10 g.p 3=some (.pointer (some ⟨g.cb,0,none⟩)):=hI.n.c3
    have hh4:cl H10 g.cb 0=some (.slice (some ⟨bk,ok,none⟩) (os.length+1) ck):=by have:=hI.k.c;rwa [hl1] at this
    refine Ud 18 34645214273 (by kernel_rfl) (Ul 0 rfl m9 (Ul 2 rfl hh3 (Ul 1 rfl hh4 (Ua 1 (((i+1:Nat):Int)) rfl (by omega) (O.slc (jl:=i+1) (jh:=os.length+1) (jm:=ck) rfl rfl rfl rfl underlying121 sizeOf107 rfl rfl rfl ⟨_,by rfl⟩ (by omega) (by omega) (by simp) (by simp) ?_)))))
    intro o11 ho11
    refine Ul 0 rfl m9 (Ul 2 rfl hh3 (Ul 1 rfl hh4 (Uq 1 rfl (O.slc (jl:=i) (jh:=os.length+1) (jm:=ck) rfl rfl rfl rfl underlying121 sizeOf107 rfl rfl rfl ⟨_,by rfl⟩ (by omega) (by omega) (by simp) (by simp) ?_))))
    intro o12 ho12
    obtain rfl:=ho12 (by omega)
    refine O.copy (b:=bk) (o:=(ok+(i+1)*1)) (j:=(os.length-i)) (cs:=(row EP (os.drop i))) rfl rfl rfl ⟨underlying121,sizeOf107,zeroValue107,⟨_,typeInfo107,rfl⟩,rfl,by decide,by decide⟩ rfl rfl (show _=min _ _ by omega) (.inl (by rw [ho11 (by omega)])) (.inl ⟨_,_,_,rfl,hI.k.sl.tail (by omega)⟩) (by rw [row_len,List.length_drop];rfl) (row_ones EP _) (hI.k.sl.wrm (i:=i+1) (m:=os.length-i) (by rw [hl1];omega)) ?_
    intro H11 W11
    have hs11:=W11.size
    have hdl:(os.drop i).length=os.length-i:=List.length_drop
    have hrl:(row EP (os.drop i)).length=os.length-i:=by rw [row_len,hdl];exact Nat.mul_one _
    replace hI:=hI.kcpy (i:=i+1) (Y:=os.drop i) W11 (by rw [hl1,hdl];omega)
    replace tc:=tc.fr W11.fr (fun b o hb _=>nr (.inl (by omega)))
    replace mi:=W11.fr.rd mi (fun _ _=>nr (.inl (by omega)))
    replace mp:=W11.fr.wr mp
    replace m9:=W11.fr.keep m9 (nr (.inl (by omega)))
    replace m13:=W11.fr.rd m13 (fun _ _=>nr (.inl (by omega)))
    replace hh3:=W11.fr.keep hh3 (nr (.inl (by omega)))
    replace hh4:=W11.fr.keep hh4 (nr (.inl (by omega)))
    replace hk:=hk.fr W11.fr (fun b o hb0 h=>ho b o (by have hb:=(hzb b hb0).2;exact .inr (.inl (hkin b o (by omega) ⟨h.1,by have:=h.2.1;omega,by have:=h.2.2;omega⟩))) hb0)
    replace hF:=hF.trans' W11.fr (fun _ _ _ h=>h) (fun b o hb h=>.inl (.inr (.inl (hkin b o (by omega) ⟨h.1,by have:=h.2.1;omega,by have:=h.2.2;omega⟩))))
    refine ⟨trivial,?_⟩
    refine Uf 0 [0,3,4,7,10,11,12,13,14,16,17] rfl (Ut 1 rfl ?_)
    have hl2:=Pl.ins_len os none i (by omega)
    refine Ur 11 2098241 rfl (Ul 0 rfl m9 (Ul 2 rfl hh3 (Ul 1 rfl hh4 (Ua 1 (((i+1:Nat):Int)) rfl (by omega) (Ux 1 (i+1) rfl (by omega) (by omega) (O.st rfl rfl sizeOf107 rfl rfl rfl rfl rfl (hI.k.sl.wri (i:=i+1) (by rw [hl2];omega)) ?_))))))
    intro H12 W12
    have hs12:=W12.size
    replace hI:=hI.kset (i:=i+1) (q:=some (Gt.p h t2)) W12 rfl (by rw [hl2];omega)
    rw [Pl.ins_list2 os none _ i (by omega)] at hI
    replace tc:=tc.fr W12.fr (fun b o hb _=>nr (.inl (by omega)))
    replace mi:=W12.fr.rd mi (fun _ _=>nr (.inl (by omega)))
    replace mp:=W12.fr.wr mp
    replace m9:=W12.fr.keep m9 (nr (.inl (by omega)))
    replace m13:=W12.fr.rd m13 (fun _ _=>nr (.inl (by omega)))
    replace hh3:=W12.fr.keep hh3 (nr (.inl (by omega)))
    replace hh4:=W12.fr.keep hh4 (nr (.inl (by omega)))
    replace hk:=hk.fr W12.fr (fun b o hb0 h=>ho b o (by have hb:=(hzb b hb0).2;exact .inr (.inl (hkin b o (by omega) ⟨h.1,by have:=h.2.1;omega,by have:=h.2.2;simp only [List.length_cons,List.length_nil] at this;omega⟩))) hb0)
    replace hF:=hF.trans' W12.fr (fun _ _ _ h=>h) (fun b o hb h=>.inl (.inr (.inl (hkin b o (by omega) ⟨h.1,by have:=h.2.1;omega,by have:=h.2.2;simp only [List.length_cons,List.length_nil] at this;omega⟩))))
    refine ⟨trivial,?_⟩
    refine Uf 0 [0,3,4,7,10,11,12,13,14,17] rfl (Ut 1 rfl ?_)
    have hos':os.take (i+1)++some (Gt.p h t2)::os.drop (i+1)=(Gt.ps h (K.take i++[t1,t2]++K.drop (i+1))).map some:=by
     have h1:os.take (i+1)=(Gt.ps h (K.take i)).map some++[some (Gt.p h t1)]:=by
      rw [List.take_add_one,hok,hS.p1,←hos]
      simp only [Gt.ps,List.map_take,Option.toList_some]
     have h2:os.drop (i+1)=(Gt.ps h (K.drop (i+1))).map some:=by rw [←hos];simp only [Gt.ps,List.map_drop]
     rw [h1,h2]
     simp only [Gt.ps,List.map_append,List.map_cons,List.append_assoc,List.cons_append,List.nil_append]
    rw [hos'] at hI
    generalize hK':K.take i++[t1,t2]++K.drop (i+1)=K' at*
    refine UD (fun H'=>cl H' H1.size 0=some (.pointer (some ⟨g.p,0,none⟩))∧cl H' g.p 2=some (.slice (some ⟨g.ib,g.io,none⟩) X.length g.ic)) 14 204013568 (by kernel_rfl) (⟨m9,hI.n.c2⟩) (UL 0 rfl (fun _ h=>h.1) (UL 0 rfl (fun _ h=>h.1) (UL 2 rfl (fun _ h=>h.2) (Us 3 rfl tc.emp rfl (O.bsl (cs:=(EJ.enc (0,0))) rfl rfl rfl ⟨underlying25,sizeOf27,zeroValue27,⟨_,typeInfo27,rfl⟩,rfl,by decide,by decide⟩ rfl (by decide) (by kernel_rfl) ?_)))))
    intro H13 M13
    have hs13:=M13.size
    replace hI:=hI.fr (M13.fr nowhere) (fun _ _ _=>nw)
    replace tc:=tc.fr (M13.fr nowhere) (fun _ _ _ _=>nw)
    replace hk:=hk.fr (M13.fr nowhere) (fun _ _ _=>nw)
    replace mi:=(M13.fr nowhere).rd mi (fun _ _=>nw)
    replace mp:=(M13.fr nowhere).wr mp
    replace m9:=(M13.fr nowhere).keep m9 nw
    replace m13:=(M13.fr nowhere).rd m13 (fun _ _=>nw)
    replace hF:=hF.trans' (M13.fr nowhere) (fun _ _ _ h=>h) (fun _ _ _ h=>h.elim)
    have m4:Rd H13 H12.size 0 (EJ.enc (0,0)):=M13.rd _ [] (by simp)
    refine ⟨⟨m9,hI.n.c2⟩,?_⟩
    refine O.app (m:=1) (news:=(EJ.enc (0,0))) rfl rfl rfl ⟨underlying25,sizeOf27,zeroValue27,⟨_,typeInfo27,rfl⟩,rfl,by decide,by decide⟩ rfl hI.n.sl rfl (.inl ⟨_,_,_,rfl,m4⟩) rfl rfl (Nat.le_trans (Nat.mul_le_mul_left _ (Nat.le_of_ble_eq_true (n:=_) (m:=4096) rfl)) (by omega)) (by omega) ?_
    intro b' o' c' H14 ha2
    have hin:∀b o,b<H3.size→(b=b'∧o'≤o∧o<o'+c'*EJ.s)→ncl EJ g b o:=fun b o hb hh=>.inr (ha2.inside (by omega) hh)
    have hbn:(b'<H.size∨H7.size<b')∧cx.base≤b'∧b'≠g.p:=by rcases ha2.place with ⟨r,_⟩|⟨r,_⟩<;>omega
    have hI0:=hI
    have hFa:Fr (ncl EJ g) H13 H14:=(ha2.in_node hI0.n).mono (fun b o _ h=>h)
    replace hI:=hI.app ha2
    replace tc:=tc.fr ha2.fr (fun b o hb _=>nr (.inl (by omega)))
    replace mi:=ha2.fr.rd mi (fun _ _=>nr (.inl (by omega)))
    replace mp:=ha2.fr.wr mp
    replace m9:=ha2.fr.keep m9 (nr (.inl (by omega)))
    replace m13:=ha2.fr.rd m13 (fun _ _=>nr (.inl (by omega)))
    replace hk:=hk.fr hFa (fun b o hb0 h=>ho b o (.inl h) hb0)
    replace hF:=hF.trans' hFa (fun _ _ _ h=>h) (fun b o _ h=>.inl (.inl h))
    have hs14:H13.size≤H14.size:=ha2.fr.size
    refine ⟨⟨m9,hI.n.c2⟩,?_⟩
    refine Uq 2 rfl (O.st3 rfl rfl sizeOf25 rfl rfl rfl rfl rfl (hI.n.wr.at0 2 1 (by omega)) ?_)
    intro H15 W15
    have hs15:=W15.size
    replace hI:=hI0.push (e:=(0,0)) ha2 W15
    replace tc:=tc.fr W15.fr (fun b o hb _=>nr (.inl (by omega)))
    replace mi:=W15.fr.rd mi (fun _ _=>nr (.inl (by omega)))
    replace mp:=W15.fr.wr mp
    replace m9:=W15.fr.keep m9 (nr (.inl (by omega)))
    replace m13:=W15.fr.rd m13 (fun _ _=>nr (.inl (by omega)))
    replace hk:=hk.fr W15.fr (fun b o hb0 h=>ho b o (by have hb:=(hzb b hb0).2;exact .inl (NodeM.in1 (H:=H14) (H':=H15) (by simp) h)) hb0)
    replace hF:=hF.trans' W15.fr (fun _ _ _ h=>h) (fun b o hb h=>.inl (.inl (NodeM.in1 (H:=H14) (H':=H15) (by simp) h)))
    refine Uf 0 [0,3,4,7,10,11,12,13,14,17] rfl (Ut 1 rfl ?_)
    have hl3:(X++[((0:Int),(0:Int))]).length=X.length+1:=by simp
    have hcp2:=hI.n.sl.hle
    rw [hl3] at hcp2
    simp only at hcp2
    have hh2:cl H15 g.p 2=some (.slice (some ⟨b',o',none⟩) (X.length+1) c'):=by have:=hI.n.c2;rwa [hl3] at this
    refine Ud 14 135282753 (by kernel_rfl) (Ul 0 rfl m9 (Ul 2 rfl hh2 (Ua 1 (((i+1:Nat):Int)) rfl (by omega) (O.slc (jl:=i+1) (jh:=X.length+1) (jm:=c') rfl rfl rfl rfl underlying25 sizeOf27 rfl rfl rfl ⟨_,by rfl⟩ (by omega) (by omega) (by simp) (by simp) ?_))))
    intro o16 ho16
    refine Ul 0 rfl m9 (Ul 2 rfl hh2 (Uq 1 rfl (O.slc (jl:=i) (jh:=X.length+1) (jm:=c') rfl rfl rfl rfl underlying25 sizeOf27 rfl rfl rfl ⟨_,by rfl⟩ (by omega) (by omega) (by simp) (by simp) ?_)))
    intro o17 ho17
    obtain rfl:=ho17 (by omega)
    refine O.copy (b:=b') (o:=(o'+(i+1)*2)) (j:=(X.length-i)) (cs:=(row EJ (X.drop i))) rfl rfl rfl ⟨underlying25,sizeOf27,zeroValue27,⟨_,typeInfo27,rfl⟩,rfl,by decide,by decide⟩ rfl rfl (show _=min _ _ by omega) ((Nat.lt_or_ge i X.length).elim (fun h=>.inl (by rw [ho16 (by omega)])) (fun h=>.inr (by omega))) (.inl ⟨_,_,_,rfl,hI.n.sl.tail hle⟩) (by rw [row_len,List.length_drop];rfl) (row_ones EJ _) (hI.n.sl.wrm (i:=i+1) (m:=X.length-i) (by rw [hl3];omega)) ?_
    intro H16 W16
    have hs16:=W16.size
    have hI1:=hI
    have hdl2:(X.drop i).length=X.length-i:=List.length_drop
    replace hI:=hI.cpy (i:=i+1) (Y:=X.drop i) W16 (by rw [hl3,hdl2];omega)
    replace tc:=tc.fr W16.fr (fun b o hb _=>nr (.inl (by omega)))
    replace mi:=W16.fr.rd mi (fun _ _=>nr (.inl (by omega)))
    replace mp:=W16.fr.wr mp
    replace m9:=W16.fr.keep m9 (nr (.inl (by omega)))
    replace m13:=W16.fr.rd m13 (fun _ _=>nr (.inl (by omega)))
    replace hh2:=W16.fr.keep hh2 (nr (.inl (by omega)))
    replace hk:=hk.fr W16.fr (fun b o hb0 h=>ho b o (by have hb:=(hzb b hb0).2;exact .inl (hin b o (by omega) (W16.in_items (i:=i+1) (Y:=X.drop i) hI1.n (by rw [hl3,hdl2];omega) h))) hb0)
    replace hF:=hF.trans' W16.fr (fun _ _ _ h=>h) (fun b o hb h=>.inl (.inl (hin b o (by omega) (W16.in_items (i:=i+1) (Y:=X.drop i) hI1.n (by rw [hl3,hdl2];omega) h))))
    refine ⟨trivial,?_⟩
    refine Uf 0 [0,3,4,7,10,11,12,13,14,17] rfl (Ut 1 rfl ?_)
    have hl4:=Pl.ins_len X ((0:Int),(0:Int)) i hle
    refine Ud 8 50241 (by kernel_rfl) (Ul 0 rfl m9 (Ul 2 rfl hh2 (Us 1 rfl m13 rfl (Ux 0 i rfl (by omega) (by omega) (O.st3 rfl rfl sizeOf27 rfl rfl rfl rfl rfl (hI.n.sl.wri (i:=i) (by rw [hl4];omega)) ?_)))))
    intro H17 W17
    have hs17:=W17.size
    have hI2:=hI
    replace hI:=hI.set (i:=i) W17 (by rw [hl4];omega)
    rw [Pl.ins_list X _ med i hle] at hI
    replace tc:=tc.fr W17.fr (fun b o hb _=>nr (.inl (by omega)))
    replace mi:=W17.fr.rd mi (fun _ _=>nr (.inl (by omega)))
    replace mp:=W17.fr.wr mp
    replace m9:=W17.fr.keep m9 (nr (.inl (by omega)))
    replace m13:=W17.fr.rd m13 (fun _ _=>nr (.inl (by omega)))
    replace hh2:=W17.fr.keep hh2 (nr (.inl (by omega)))
    replace hk:=hk.fr W17.fr (fun b o hb0 h=>ho b o (by have hb:=(hzb b hb0).2;exact .inl (hin b o (by omega) (W17.as_row.in_items (i:=i) hI2.n (by rw [hl4,List.length_singleton];omega) (by rw [row_one];exact h)))) hb0)
    replace hF:=hF.trans' W17.fr (fun _ _ _ h=>h) (fun b o hb h=>.inl (.inl (hin b o (by omega) (W17.as_row.in_items (i:=i) hI2.n (by rw [hl4,List.length_singleton];omega) (by rw [row_one];exact h)))))
    refine Uf 0 [0,3,4,7,10,11,12,13] rfl (Ut 1 rfl ?_)
    have hll:(X.take i++med::X.drop i).length=X.length+1:=by simp only [List.length_append,List.length_take,List.length_cons,List.length_drop];omega
    have hKl':K'.length=X.length+1+1:=by rw [←hK'];simp only [List.length_append,List.length_take,List.length_cons,List.length_drop,List.length_nil];omega
    have hLL:Pl.inter (X.take i++med::X.drop i) (K'.map (Gt.L h))=Pl.inter X (K.map (Gt.L h)):=by
     have h1:K'.map (Gt.L h)=(K.map (Gt.L h)).take i++Gt.L h t1::Gt.L h t2::(K.map (Gt.L h)).drop (i+1):=by
      rw [←hK'];simp only [List.map_append,List.map_cons,List.map_take,List.map_drop,List.append_assoc,List.cons_append,List.nil_append]
     have h2:=Pl.inter_split (X1:=X.take i) (X2:=X.drop i) (K1:=(K.map (Gt.L h)).take i) (K2:=(K.map (Gt.L h)).drop (i+1)) (a:=Gt.L h t1) (b:=Gt.L h t2) (m:=med) (by rw [List.length_take,List.length_take];omega) (by rw [List.length_drop,List.length_drop];omega)
     rw [h1,←h2,List.take_append_drop,←hS.l,e4,e1]
    have hG:=hI.good (by show g.cnt=_;rw [hLL];exact hcnt) (by rw [hll];exact hxl) (by rw [hll];exact hKl')
    clear hI hI0 hI1 hI2 ha ha2 hl4 hl2 hl3 hl1 hcp hcp2 hos' hdl hdl2 hrl hFa W17 W16 W15 W12 W11 W10
    obtain ⟨g',hgg⟩:∃g':Ng,({ p:=g.p,iso:=g.iso,cnt:=g.cnt,ib:=b',io:=o',ic:=c',cb:=g.cb,kb:=bk,ko:=ok,kc:=ck }:Ng)=g':=⟨_,rfl⟩
    rw [hgg] at hG
    have hNF':Gt.NF OI P x (h+1) ((g',X.take i++med::X.drop i,K'):Gt EJ (h+1)):=by
     right
     intro k' hk'
     have hx':=Pl.pos_ins OI (m:=med) hsX hfb
     rw [hi] at hx'
     have hk'':K'[Pl.pos OI x (X.take i++med::X.drop i)]?=some k':=hk'
     have hj1:K'[i]?=some t1:=by
      rw [←hK',List.append_assoc,List.getElem?_append_right (by rw [List.length_take];omega),List.length_take,Nat.min_eq_left (by omega),Nat.sub_self];rfl
     have hj2:K'[i+1]?=some t2:=by
      rw [←hK',List.append_assoc,List.getElem?_append_right (by rw [List.length_take];omega),List.length_take,Nat.min_eq_left (by omega),show i+1-i=1 by omega];rfl
     rcases hx' with hx'|hx'<;>rw [hx'] at hk''
     ·
      obtain rfl:=Option.some.inj (hj1.symm.trans hk'')
      rw [hS.x1];omega
     ·
      obtain rfl:=Option.some.inj (hj2.symm.trans hk'')
      rw [hS.x2];omega
    have hafn:∀b o,Gt.af (h+1) ((g',X.take i++med::X.drop i,K'):Gt EJ (h+1)) b o→Gt.af (h+1) ((g,X,K):Gt EJ (h+1)) b o∨H3.size≤b:=by
     intro b o hb
     rcases Nat.lt_or_ge b H3.size with hl|hl
     ·
      replace hb:ncl EJ g' b o∨kcl g' b o∨∃k∈K',Gt.af h k b o:=hb
      rcases hb with hb|hb|⟨m,hm,hb⟩
      ·
       left
       rw [←hgg] at hb
       rcases hb with hb|hb
       · exact .inl (.inl hb)
       · exact .inl (hin b o hl hb)
      ·
       left
       rw [←hgg] at hb
       rcases hb with hb|hb
       · exact .inr (.inl (.inl hb))
       · exact .inr (.inl (hkin b o hl ⟨hb.1,hb.2.1,by have:=hb.2.2;simp only at this;omega⟩))
      · exact haf5 m hm b o hb
     · exact .inr hl
    have hnt':∀b o,Gt.af (h+1) ((g',X.take i++med::X.drop i,K'):Gt EJ (h+1)) b o→cx.base≤b:=fun b o ho=>(hafn _ _ ho).elim (hnt b o) (fun h=>by omega)
    have ho':∀b o,Gt.af (h+1) ((g',X.take i++med::X.drop i,K'):Gt EJ (h+1)) b o→¬hz b:=fun b o hb hzz=>(hafn b o hb).elim (fun h=>ho b o h hzz) (fun h=>by have:=(hzb b hzz).2;omega)
    have hs':Pl.Srt OI (Gt.L (h+1) ((g',X.take i++med::X.drop i,K'):Gt EJ (h+1))):=by
     show Pl.Srt OI (Pl.inter (X.take i++med::X.drop i) (K'.map (Gt.L h)))
     rw [hLL];exact hs
    have hlen':(Gt.L (h+1) ((g',X.take i++med::X.drop i,K'):Gt EJ (h+1))).length<4611686018427387904:=by
     show (Pl.inter (X.take i++med::X.drop i) (K'.map (Gt.L h))).length<_
     rw [hLL];exact hlen
    have hp':g'.p=g.p:=by rw [←hgg]
    have hs18:H.size≤H17.size:=by omega
    have hs19:H3.size≤H17.size:=by omega
    refine Ur 11 131588 rfl (Us 1 rfl mi rfl (Uq 2 rfl (O.call rfl rfl rfl call91 rfl ((hag hNF (t1:=((g',X.take i++med::X.drop i,K'):Gt EJ (h+1))) (bp1:=H1.size) (op1:=0) ⟨⟨tc,hG,by show cl H17 H1.size 0=some (ptr g'.p);rw [hp'];exact m9,hnt',hs',hlen'⟩,by show 1≤(X.take i++med::X.drop i).length;omega,hk,ho',hdp⟩ hNF').mono fun _ _=>SetQH.uni) ?_)))
    rintro _ H18 ⟨hk,Hn,hsn,hFn,hFk2,pv,r,sp,rfl,hq⟩
    replace hF:=hF.trans' hFn (fun _ _ _ h=>h) (fun _ _ _ h=>.inr h)
    replace hF:=hF.trans' hFk2 (fun _ _ _ h=>h) (fun b o hb hz=>(hafn b o hz).elim .inl (fun h=>by omega))
    replace mp:=hFk2.wr (hFn.wr mp)
    have hs20:Hn.size≤H18.size:=hFk2.size
    refine ⟨trivial,?_⟩
    refine Uq 3 rfl (O.st (vs:=(EJ.enc (pv.getD (0,0)))) rfl rfl sizeOf27 rfl rfl rfl rfl rfl mp ?_)
    intro H99 W99
    have hs9:=W99.size
    replace hk:=hk.fr W99.fr (fun b o hb=>nr (.inl (by have:=(hzb b hb).2;omega)))
    replace hF:=hF.trans' W99.fr (fun _ _ _ h=>h) (fun b o hb h=>by simp only [rng] at h;omega)
    have mr:Rd H99 H0.size 0 (EJ.enc (pv.getD (0,0))):=W99.all
    refine ⟨trivial,?_⟩
    refine Uf 2 [10,11,12,13] rfl ?_
    rcases hq with ⟨rfl,t',rfl,rfl,hT⟩|⟨_,_,_,_,_,hnf2,_⟩
    rotate_left
    · exact absurd hNF' hnf2
    refine Go'.ret (vs:=[_,_,_]) func91 results91 ⟨⟨_,_,rfl,fun _ _=>run_loadVar_agg (fun w=>⟨isAgg27 w,sizeOf27 w⟩) rfl mr⟩,rfl,rfl,trivial⟩ ?_
    have hL2:Gt.L (h+1) ((g',X.take i++med::X.drop i,K'):Gt EJ (h+1))=Pl.inter X (K.map (Gt.L h)):=hLL
    have eab:Gt.ab (h+1) ((g',X.take i++med::X.drop i,K'):Gt EJ (h+1))=Ab.spl P.mn h i (X,K.map (Gt.ab h)) (Gt.ab h k) med:=by
     show (X.take i++med::X.drop i,K'.map (Gt.ab h))=(X.take i++med::X.drop i,_)
     rw [←hK']
     simp only [List.map_append,List.map_take,List.map_drop,List.map_cons,List.map_nil,hS.ab1,hS.ab2]
    have hnab:Pl.fnd OI x (Gt.ab (h+1) ((g',X.take i++med::X.drop i,K'):Gt EJ (h+1))).1=true∨∀k',(Gt.ab (h+1) ((g',X.take i++med::X.drop i,K'):Gt EJ (h+1))).2[Pl.pos OI x (Gt.ab (h+1) ((g',X.take i++med::X.drop i,K'):Gt EJ (h+1))).1]?=some k'→(Ab.X h k').length≠P.mx:=by
     refine hNF'.imp id fun hn k' hk'=>?_
     have hk2:(K'.map (Gt.ab h))[Pl.pos OI x (X.take i++med::X.drop i)]?=some k':=hk'
     rw [List.getElem?_map,Option.map_eq_some_iff] at hk2
     obtain ⟨k0,hk0',rfl⟩:=hk2
     rw [Gt.ab_X]
     exact Nat.ne_of_lt (hn k0 hk0')
    have hlt99:∀b o,Gt.af (h+1) t' b o→b<H.size∨H1.size<b:=fun b o hb=>(hT.a b o hb).elim (fun h=>(hafn b o h).imp (hlt b o) (fun h=>by omega)) (fun h=>.inr (by omega))
    have hT':=hT.g.fr W99.fr (fun b o hb=>nr (.inl (by rcases hlt99 b o hb with h|h<;>omega)))
    refine SetQH.mk hk0 hF hk fun Hm' hsm' hFm'=>.inl ⟨t',?_,⟨hFm',hT',hT.p.trans hp',fun b o hb=>(hT.a b o hb).elim (fun h=>(hafn b o h).imp id (fun h=>by omega)) (fun h=>.inr (by omega)),by rw [hT.l,hL2];rfl,?_,Ab.put_part hfb hi (by rw [List.getElem?_map,hkk];rfl) hpn hfu (by rw [Gt.ab_X];exact hS.md) (by rw [←eab];exact hT.ab) (by rw [←eab];exact hnab)⟩⟩
    · rw [hL2];rfl
    ·
     refine Nat.le_trans ?_ hT.x
     show X.length≤(X.take i++med::X.drop i).length
     omega
theorem nset {B:World} {tr:Nat} {P:Ps} (hP:PsOk P) {x:Int×Int} {hv:Value} {hz:Nat→Prop}:∀(h:Nat) {H:Mem} {bp op dp:Nat} {t:Gt EJ h},NPreH H tr P h t bp op hv hz dp→
  Fn Try.prog B 91 [.pointer (some ⟨tr,0,none⟩),.pointer (some ⟨bp,op,none⟩),.agg (EJ.enc x).toArray,hv,.int .i64 (dp:Int)] H (SetQH H P h t x hv hz)
 | 0,_,_,_,_,_,hp=>nset0 hP hp
 | h+1,_,_,_,_,_,hp=>nset_step hP (fun hp=>nset hP h hp) hp fun _ _ _ _ _ hp1 hnf=>nset_step hP (fun hp=>nset hP h hp) hp1 fun hn=>absurd hnf hn
end Go.Bt.FG
