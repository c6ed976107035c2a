/- Contracts of functions of the program, proved by walking through their code. Conditions: those that each theorem names. -/
import Derived.Test.YtmcnochofpgfbaaTojQ
import Derived.Test.YtmcnochofpgfbaaTogG
import Derived.Test.YtmcnochofpgfbaaToPe
import Derived.Test.YtmcnochofpgfbaaToqL
import Derived.Test.YtmcnochofpgfbaaToRb
import Derived.Test.YtmcnochofpgfbaaTogK
import Derived.Test.YtmcnochofpgfbaaToLgT
set_option linter.unusedVariables false
namespace Go.Bt.FG
open Go Go.Proofs Go.Proofs.Try
set_option maxRecDepth 20000
set_option maxHeartbeats 4000000
set_option linter.unusedSectionVars false
section
variable [Inhabited Cx]
theorem SlE.past {α:Type} {E:Elt α} {H H':Mem} {b o c i:Nat} {X:List α} {vs:List Value} (h:SlE E H b o c X) (W:Wrote H H' b (o+i*E.s) vs) (hi:X.length≤i):SlE E H' b o c X:=
 Sl.fr h W.fr fun j hj hz=>by
  have h1:=hz.2.1
  have h2:X.length*E.s≤i*E.s:=Nat.mul_le_mul_right _ hi
  omega
theorem SlE.wra {α:Type} {E:Elt α} {H:Mem} {b o c i:Nat} {X:List α} (h:SlE E H b o c X) (hi:i<c):Wr H b (o+i*E.s) E.s:=fun j hj=>by
 have h1:(i+1)*E.s≤c*E.s:=Nat.mul_le_mul_right _ hi
 have h2:=h.wr (i*E.s+j) (by rw [Nat.succ_mul] at h1;omega)
 rwa [←Nat.add_assoc] at h2
theorem st133:StT Try.prog 133 [(0,2),(2,1)] [.int .i64 0,.int .i64 0,.pointer none]:=⟨⟨_,underlying133,fun w=>by simp [Array.mapM_eq_mapM_toList,sizeOf27,sizeOf107]⟩,zeroValue133⟩
theorem pop_nil {B:World} {H:Mem} {dl c:Nat} {o0:Option Addr} (cq:cl H dl 3=some (.slice o0 0 c)):
  Fn Try.prog B 79 [ptr dl] H (fun r H'=>r=.tuple #[.agg (EQ.enc ((0,0),none)).toArray,.bool false]∧Fr nowhere H H'):=by
 have hdl:=cl_lt cq
 unfold ptr
 refine fn_of func79 rfl ntmps79 ?_
 refine (show Go' _ _ _ _ 155 [(0,_)] [.code _] _ from ?_)
 refine Ut 1 rfl (Ur 2 2 rfl (O.alloc rfl rfl rfl zeroValue133 ?_))
 intro H1 M1
 refine ⟨trivial,?_⟩
 have hs1:=M1.size
 replace cq:=(M1.fr nowhere).keep cq nw
 have wr:=M1.wr 3 (by decide)
 refine Uf 1 [0,2,3] rfl (Ut 2 rfl (Ur 6 64 rfl (Ul 3 rfl cq (Uc 1 rfl (eqlT (by omega)) (Uf 0 [0,2,3,14] rfl (Go'.condT rfl (Ut 1 rfl (Ur 3 8 rfl (O.bld (cs:=(EQ.enc ((0,0),none))) rfl rfl rfl rfl (st133) rfl (by kernel_rfl) (O.st rfl rfl sizeOf133 rfl rfl rfl rfl rfl wr ?_))))))))))
 intro H2 W2
 have m2:=W2.all
 refine ⟨trivial,?_⟩
 refine Uf 1 [0,2,3] rfl (Go'.ret (vs:=[_,_]) func79 results79 ⟨⟨_,_,rfl,fun _ _=>run_loadVar_agg (fun w=>⟨isAgg133 w,sizeOf133 w⟩) rfl m2⟩,rfl,trivial⟩ ?_)
 exact ⟨rfl,(M1.fr nowhere).trans' W2.fr (fun _ _ _ h=>h) (fun b o hb h=>by have:=h.1;omega)⟩
theorem pop_spec {B:World} {H:Mem} {tr ii mx mn dl b o c:Nat} {cnt np:Value} {q rest:List ((Int×Int)×Option Nat)} {e:((Int×Int)×Option Nat)} (tc:TrC H tr ii mx mn) (c0:cl H dl 0=some (.func (.func 72) #[] #[ptr cx.ob])) (c1:cl H dl 1=some cnt) (c2:cl H dl 2=some np) (cq:cl H dl 3=some (.slice (some ⟨b,o,none⟩) q.length c)) (wr:Wr H dl 0 4) (hsl:SlE EQ H b o c q)
  (hbd:b≠dl) (hdt:¬(dl<cx.base∧cx.own dl)) (hbt:¬(b<cx.base∧cx.own b)) (hq:q.length<4294967296) (he:q=e::rest):
  Fn Try.prog B 79 [ptr dl] H (fun r H'=>r=.tuple #[.agg (EQ.enc e).toArray,.bool true]∧∃q',q'.Perm rest∧(Hp.Heap OI qkey q→Hp.Heap OI qkey q')∧cl H' dl 0=some (.func (.func 72) #[] #[ptr cx.ob])∧cl H' dl 1=some cnt∧cl H' dl 2=some np∧cl H' dl 3=some (.slice (some ⟨b,o,none⟩) q'.length c)∧Wr H' dl 0 4∧SlE EQ H' b o c q'∧Fr (fun b' _=>b'=dl∨b'=b) H H'):=by
 have hdl:=cl_lt c0
 have hcap:=hsl.hle
 have hql:1≤q.length:=by rw [he];simp
 have hbl:b<H.size:=by obtain ⟨⟨v,hv⟩,_⟩:=hsl.wri (i:=0) (by omega) 0 (by decide);exact cl_lt hv
 obtain ⟨z,hz⟩:∃z,q[q.length-1]?=some z:=⟨q[q.length-1]'(by omega),List.getElem?_eq_getElem (by omega)⟩
 have h0:q[0]?=some e:=by rw [he];rfl
 obtain ⟨hpm0,hdn0⟩:=Hp.pop_start OI qkey he hz
 unfold ptr
 refine fn_of func79 rfl ntmps79 ?_
 refine (show Go' _ _ _ _ 155 [(0,_)] [.code _] _ from ?_)
 refine Ut 1 rfl ?_
 have tc0:=tc
 have hF:Fr (fun b' _=>b'=dl∨b'=b) H H:=Fr.refl _ _
 refine Ur 2 2 rfl (O.alloc rfl rfl rfl zeroValue133 ?_)
 intro H1 M1
 refine ⟨trivial,?_⟩
 have hs1:=M1.size
 replace tc:=tc.fr (M1.fr nowhere) (fun b2 o2 hb _=>nw)
 replace c0:=(M1.fr nowhere).keep c0 nw
 replace c1:=(M1.fr nowhere).keep c1 nw
 replace c2:=(M1.fr nowhere).keep c2 nw
 replace cq:=(M1.fr nowhere).keep cq nw
 replace wr:=(M1.fr nowhere).wr wr
 replace hF:=hF.trans' (M1.fr nowhere) (fun _ _ _ h=>h) (fun _ _ _ h=>h.elim)
 replace hsl:=hsl.fr (M1.fr nowhere) (fun _ _ _=>nw)
 have w1:=M1.wr 3 (by decide)
 refine Uf 1 [0,2,3] rfl (Ut 2 rfl (Ur 6 64 rfl (Ul 3 rfl cq (Uc 1 rfl (eqlF (by omega)) (Uf 0 [0,2,3,14] rfl (Go'.condF rfl (Ut 2 rfl (Ur 1 2 rfl (O.alloc rfl rfl rfl zeroValue133 ?_)))))))))
 intro H2 M2
 refine ⟨trivial,?_⟩
 have hs2:=M2.size
 replace tc:=tc.fr (M2.fr nowhere) (fun b2 o2 hb _=>nw)
 replace c0:=(M2.fr nowhere).keep c0 nw
 replace c1:=(M2.fr nowhere).keep c1 nw
 replace c2:=(M2.fr nowhere).keep c2 nw
 replace cq:=(M2.fr nowhere).keep cq nw
 replace wr:=(M2.fr nowhere).wr wr
 replace hF:=hF.trans' (M2.fr nowhere) (fun _ _ _ h=>h) (fun _ _ _ h=>h.elim)
 replace hsl:=hsl.fr (M2.fr nowhere) (fun _ _ _=>nw)
 replace w1:=(M2.fr nowhere).wr w1
 have w2:=M2.wr 3 (by decide)
 refine Uf 0 [0,2,3,4] rfl (Ut 1 rfl ?_)
 have r0:=hsl.item h0
 have rz:=hsl.item hz
 refine UD (fun H'=>cl H' dl 3=some (.slice (some ⟨b,o,none⟩) q.length c)∧Rd H' b (o+(q.length-1)*EQ.s) (EQ.enc z)) 25 879609302499328 (by kernel_rfl) (⟨cq,rz⟩) (UL 3 rfl (fun _ h=>h.1) (Ul 3 rfl cq (Ux 0 0 rfl rfl (by omega) (Us 0 rfl r0 rfl (UL 3 rfl (fun _ h=>h.1) (UL 3 rfl (fun _ h=>h.1) (Ub 1 (((q.length-1:Nat):Int)) rfl (by omega) (Ux 0 (q.length-1) rfl (by omega) (by omega) (US 0 rfl (fun _ h=>h.2) rfl (O.st (vs:=(EQ.enc e)) rfl rfl sizeOf133 rfl rfl rfl rfl (EQ_ones e) w2 ?_))))))))))
 intro H3 W3
 have hs3:=W3.size
 replace tc:=tc.fr W3.fr (fun b2 o2 hb _=>nr (.inl (by have:=hb.1;have:=tc0.hb;omega)))
 replace c0:=W3.fr.keep c0 (nr (.inl (by omega)))
 replace c1:=W3.fr.keep c1 (nr (.inl (by omega)))
 replace c2:=W3.fr.keep c2 (nr (.inl (by omega)))
 replace cq:=W3.fr.keep cq (nr (.inl (by omega)))
 replace wr:=W3.fr.wr wr
 replace hF:=hF.trans' W3.fr (fun _ _ _ h=>h) (fun b o hb h=>by have:=h.1;omega)
 replace hsl:=hsl.fr W3.fr (fun _ _ _=>nr (.inl (by omega)))
 replace w1:=W3.fr.wr w1
 have m2:=W3.all
 replace rz:=W3.fr.rd rz (fun _ _=>nr (.inl (by omega)))
 refine ⟨⟨cq,rz⟩,?_⟩
 refine Ux 0 0 rfl rfl (by omega) (O.st3 (vs:=(EQ.enc z)) rfl rfl sizeOf133 rfl rfl rfl rfl (EQ_ones z) (hsl.wri (i:=0) (by omega)) ?_)
 intro H4 W4
 have hs4:=W4.size
 replace tc:=tc.fr W4.fr (fun b2 o2 hb _=>nr (.inl (fun e2=>hbt (e2▸hb))))
 replace c0:=W4.fr.keep c0 (nr (.inl (Ne.symm hbd)))
 replace c1:=W4.fr.keep c1 (nr (.inl (Ne.symm hbd)))
 replace c2:=W4.fr.keep c2 (nr (.inl (Ne.symm hbd)))
 replace cq:=W4.fr.keep cq (nr (.inl (Ne.symm hbd)))
 replace wr:=W4.fr.wr wr
 replace hF:=hF.trans' W4.fr (fun _ _ _ h=>h) (fun b o hb h=>.inr h.1)
 have hsl4:=hsl.set (i:=0) W4 (by omega)
 rw [set_td (show 0<q.length by omega)] at hsl4
 replace w1:=W4.fr.wr w1
 replace m2:=W4.fr.rd m2 (fun _ _=>nr (.inl (by omega)))
 have hl4:(q.set 0 z).length=q.length:=List.length_set
 refine Uf 0 [0,2,3,4] rfl (Ut 1 rfl (Ud 15 805372160 (by kernel_rfl) (Ul 4 rfl cq (Ul 3 rfl cq (Ub 1 (((q.length-1:Nat):Int)) rfl (by omega) (O.slc (jl:=0) (jh:=q.length-1) (jm:=c) rfl rfl rfl rfl underlying59 sizeOf133 rfl rfl ⟨_,by rfl⟩ rfl (by omega) (by omega) (by simp) (by simp) ?_))))))
 intro oc hoc
 have hoc2:o=oc:=by rw [hoc (by omega)];simp
 subst hoc2
 rw [Nat.sub_zero]
 refine Uq 2 rfl (O.st3 rfl rfl sizeOf59 rfl rfl rfl rfl rfl (wr.at0 3 1 (by decide)) ?_)
 intro H5 W5
 have hs5:=W5.size
 replace tc:=tc.fr W5.fr (fun b2 o2 hb _=>nr (.inl (fun e2=>hdt (e2▸hb))))
 replace wr:=W5.fr.wr wr
 replace hF:=hF.trans' W5.fr (fun _ _ _ h=>h) (fun b o hb h=>.inl h.1)
 replace c0:=W5.keep1 c0 (.inr (by decide))
 replace c1:=W5.keep1 c1 (.inr (by decide))
 replace c2:=W5.keep1 c2 (.inr (by decide))
 replace cq:=W5.at
 have hsl5:=(hsl4.take (q.length-1)).fr W5.fr (fun _ _ _=>nr (.inl hbd))
 replace w1:=W5.fr.wr w1
 replace m2:=W5.fr.rd m2 (fun _ _=>nr (.inl (by omega)))
 obtain ⟨n,hn⟩:∃n,n=q.length-1:=⟨_,rfl⟩
 rw [←hn] at hsl5 cq hpm0 hdn0
 have hln:((q.set 0 z).take n).length=n:=by rw [List.length_take,hl4];omega
 refine Uf 0 [0,2,3,4] rfl (Ut 1 rfl (Ur 1 0 rfl (Uf 1 [0,2,3,4,5] rfl (Ut 2 rfl (Go'.loop (Uk [0,2,3,4,5] rfl ?_))))))
 refine Go'.ind (σ:=Nat×List ((Int×Int)×Option Nat)) (fun s=>n-s.1) (fun s H'=>s.2.length=n∧s.2.Perm rest∧(Hp.Heap OI qkey q→Hp.Dn OI qkey s.2 s.1)∧(s.1=0∨s.1<n)∧SlE EQ H' b o c s.2∧TrC H' tr ii mx mn∧cl H' dl 0=some (.func (.func 72) #[] #[ptr cx.ob])∧cl H' dl 1=some cnt∧cl H' dl 2=some np∧cl H' dl 3=some (.slice (some ⟨b,o,none⟩) n c)∧Wr H' dl 0 4∧Fr (fun b' _=>b'=dl∨b'=b) H H'∧H5.size≤H'.size∧Wr H' H.size 0 3∧Rd H' H1.size 0 (EQ.enc e))
  (fun s=>[(0,.pointer (some ⟨dl,0,none⟩)),(2,.pointer (some ⟨H.size,0,none⟩)),(3,.bool false),(4,.pointer (some ⟨H1.size,0,none⟩)),(5,.int .i64 (s.1:Int))]) (0,(q.set 0 z).take n) ⟨hln,hpm0,hdn0,.inl rfl,hsl5,tc,c0,c1,c2,cq,wr,hF,Nat.le_refl _,w1,m2⟩ rfl ?_
 clear hF wr cq c2 c1 c0 tc hsl hsl4 hsl5 r0 rz hdn0 hpm0 hln w2 w1 m2
 rintro ⟨i,q1⟩ H6 ⟨hl1,hpm,hdn,hin,hsl,tc,c0,c1,c2,cq,wr,hF,hs6,w1,m2⟩ ih
 simp only at hl1 hpm hdn hin hsl
 have hcap1:=hsl.hle
 refine Ut 2 rfl (Ur 2 0 rfl (Uf 2 [0,2,3,4,5,6] rfl (Ut 1 rfl (Ur 4 0 rfl (Uq 1 rfl (O.mul (((i*2:Nat):Int)) rfl rfl rfl rfl rfl rfl (by omega) (by omega) (Ua 0 (((i*2+1:Nat):Int)) rfl (by omega) (Uf 1 [0,2,3,4,5,6,7] rfl (Ut 1 rfl (Ur 4 0 rfl (Uq 1 rfl ?_)))))))))))
 refine O.mul (((i*2:Nat):Int)) rfl rfl rfl rfl rfl rfl (by omega) (by omega) (Ua 0 (((i*2+2:Nat):Int)) rfl (by omega) (Uf 1 [0,2,3,4,5,6,7,8] rfl (Ut 2 rfl ?_)))
 by_cases hl:i*2+1<n
 rotate_left
 ·
  refine Ud 31 162200231285358848 (by kernel_rfl) (Ul 4 rfl cq (Uc 1 rfl (lssF (by omega)) (Uq 21 rfl (Pl.pass2 rfl rfl rfl rfl trivial (Uf 2 [0,2,3,4,5,6,7,8,90] rfl (Go'.condF rfl (Ut 3 rfl ?_)))))))
  have hnl:∀x,q1[i*2+1]?=some x→False:=fun x hx=>by have:=(List.getElem?_eq_some_iff.1 hx).1;omega
  have hnr:∀x,q1[i*2+2]?=some x→False:=fun x hx=>by have:=(List.getElem?_eq_some_iff.1 hx).1;omega
  refine Ud 31 162200231285358848 (by kernel_rfl) (Ul 4 rfl cq (Uc 1 rfl (lssF (by omega)) (Uq 21 rfl (Pl.pass2 rfl rfl rfl rfl trivial (Uf 2 [0,2,3,4,5,6,7,8,90,122] rfl (Go'.condF rfl (Ut 3 rfl (Ur 3 0 rfl (Uc 2 rfl (eqlT (by omega)) (Uf 0 [0,2,3,4,5,6,7,8,90,122,126] rfl (Go'.condT rfl ?_)))))))))))
  refine Ut 2 rfl (Ur 3 9 rfl (Us 0 rfl m2 rfl (O.st (vs:=(EQ.enc e)) rfl rfl sizeOf133 rfl rfl rfl rfl (EQ_ones e) w1 ?_)))
  intro H7 W7
  have hs7:=W7.size
  replace tc:=tc.fr W7.fr (fun b2 o2 hb _=>nr (.inl (by have:=hb.1;have:=tc0.hb;omega)))
  replace c0:=W7.fr.keep c0 (nr (.inl (by omega)))
  replace c1:=W7.fr.keep c1 (nr (.inl (by omega)))
  replace c2:=W7.fr.keep c2 (nr (.inl (by omega)))
  replace cq:=W7.fr.keep cq (nr (.inl (by omega)))
  replace wr:=W7.fr.wr wr
  replace hF:=hF.trans' W7.fr (fun _ _ _ h=>h) (fun b o hb h=>by have:=h.1;omega)
  replace hsl:=hsl.fr W7.fr (fun _ _ _=>nr (.inl (by omega)))
  have m9:=W7.all
  refine ⟨trivial,?_⟩
  refine Uf 1 [2,3] rfl (Go'.ret (vs:=[_,_]) func79 results79 ⟨⟨_,_,rfl,fun _ _=>run_loadVar_agg (fun w=>⟨isAgg133 w,sizeOf133 w⟩) rfl m9⟩,rfl,trivial⟩ ?_)
  rw [←hl1] at cq
  exact ⟨rfl,q1,hpm,fun hh=>((by
   rcases Nat.eq_zero_or_pos n with h9|h9
   ·
    have:q1=[]:=List.length_eq_zero_iff.1 (by omega)
    subst this
    exact Hp.heap_nil OI qkey
   ·
    obtain ⟨xa,hxa⟩:∃x,q1[i]?=some x:=⟨q1[i]'(by omega),List.getElem?_eq_getElem (by omega)⟩
    exact (hdn hh).stop OI qkey hxa (fun x hx=>(hnl x hx).elim) (fun x hx=>(hnr x hx).elim))),c0,c1,c2,cq,wr,hsl,hF⟩
 ·
  obtain ⟨xa,hxa⟩:∃x,q1[i]?=some x:=⟨q1[i]'(by omega),List.getElem?_eq_getElem (by omega)⟩
  obtain ⟨xl,hxl⟩:∃x,q1[i*2+1]?=some x:=⟨q1[i*2+1]'(by omega),List.getElem?_eq_getElem (by omega)⟩
  have ra:=hsl.item hxa
  have rak:Rd H6 b (o+(i)*EQ.s) (EJ.enc xa.1):=fun j v hv=>ra j v (by match j,hv with|0,hv=>exact hv|1,hv=>exact hv)
  have rl:=hsl.item hxl
  have rlk:Rd H6 b (o+(i*2+1)*EQ.s) (EJ.enc xl.1):=fun j v hv=>rl j v (by match j,hv with|0,hv=>exact hv|1,hv=>exact hv)
  cases hlt:OI.lt xa.1 xl.1
  ·
   refine Ud 31 162200231285358848 (by kernel_rfl) (Ul 4 rfl cq (Uc 1 rfl (lssT (by omega)) (Ul 4 rfl c0 (Ul 3 rfl cq (Ux 1 i rfl (by omega) (by omega) (Us 1 rfl rak rfl (Ul 3 rfl cq (Ux 1 (i*2+1) rfl (by omega) (by omega) (Us 1 rfl rlk rfl (O.callC rfl rfl rfl rfl call72 rfl (less_spec tc xa.1 xl.1) ?_))))))))))
   rintro _ H7 ⟨rfl,hF7⟩
   rw [hlt]
   have hs7:=hF7.size
   replace tc:=tc.fr hF7 (fun b2 o2 hb _=>nw)
   replace c0:=hF7.keep c0 nw
   replace c1:=hF7.keep c1 nw
   replace c2:=hF7.keep c2 nw
   replace cq:=hF7.keep cq nw
   replace wr:=hF7.wr wr
   replace hF:=hF.trans' hF7 (fun _ _ _ h=>h) (fun _ _ _ h=>h.elim)
   replace hsl:=hsl.fr hF7 (fun _ _ _=>nw)
   replace w1:=hF7.wr w1
   replace m2:=hF7.rd m2 (fun _ _=>nw)
   replace ra:=hF7.rd ra (fun _ _=>nw)
   replace rak:=hF7.rd rak (fun _ _=>nw)
   replace rl:=hF7.rd rl (fun _ _=>nw)
   replace rlk:=hF7.rd rlk (fun _ _=>nw)
   refine ⟨trivial,?_⟩
   refine Uf 2 [0,2,3,4,5,6,7,8,90] rfl (Go'.condT rfl (Ur 2 0 rfl (Uf 2 [0,2,3,4,5,6,7,8,90] rfl (Ut 2 rfl ?_))))
   by_cases hr:i*2+2<n
   ·
    obtain ⟨xr,hxr⟩:∃x,q1[i*2+2]?=some x:=⟨q1[i*2+2]'(by omega),List.getElem?_eq_getElem (by omega)⟩
    have rr:=hsl.item hxr
    have rrk:Rd H7 b (o+(i*2+2)*EQ.s) (EJ.enc xr.1):=fun j v hv=>rr j v (by match j,hv with|0,hv=>exact hv|1,hv=>exact hv)
    cases hlt2:OI.lt xl.1 xr.1
    ·
     refine Ud 31 162200231285358848 (by kernel_rfl) (Ul 4 rfl cq (Uc 1 rfl (lssT (by omega)) (Ul 4 rfl c0 (Ul 3 rfl cq (Ux 1 (i*2+1) rfl (by omega) (by omega) (Us 1 rfl rlk rfl (Ul 3 rfl cq (Ux 1 (i*2+2) rfl (by omega) (by omega) (Us 1 rfl rrk rfl (O.callC rfl rfl rfl rfl call72 rfl (less_spec tc xl.1 xr.1) ?_))))))))))
     rintro _ H8 ⟨rfl,hF8⟩
     rw [hlt2]
     have hs8:=hF8.size
     replace tc:=tc.fr hF8 (fun b2 o2 hb _=>nw)
     replace c0:=hF8.keep c0 nw
     replace c1:=hF8.keep c1 nw
     replace c2:=hF8.keep c2 nw
     replace cq:=hF8.keep cq nw
     replace wr:=hF8.wr wr
     replace hF:=hF.trans' hF8 (fun _ _ _ h=>h) (fun _ _ _ h=>h.elim)
     replace hsl:=hsl.fr hF8 (fun _ _ _=>nw)
     replace w1:=hF8.wr w1
     replace m2:=hF8.rd m2 (fun _ _=>nw)
     replace ra:=hF8.rd ra (fun _ _=>nw)
     replace rak:=hF8.rd rak (fun _ _=>nw)
     replace rl:=hF8.rd rl (fun _ _=>nw)
     replace rlk:=hF8.rd rlk (fun _ _=>nw)
     replace rr:=hF8.rd rr (fun _ _=>nw)
     replace rrk:=hF8.rd rrk (fun _ _=>nw)
     refine ⟨trivial,?_⟩
     refine Uf 2 [0,2,3,4,5,6,7,8,90,122] rfl (Go'.condT rfl (Ur 2 0 rfl (Uf 2 [0,2,3,4,5,6,7,8,90,122] rfl (Ut 2 rfl (Ur 3 0 rfl (Uc 2 rfl (eqlF (by omega)) (Uf 0 [0,2,3,4,5,6,7,8,90,122,126] rfl (Go'.condF rfl (Ut 2 rfl (Ud 28 56366467960078400 (by kernel_rfl) (Ul 3 rfl cq ?_)))))))))))
     refine Ul 4 rfl cq (Ul 4 rfl cq (Ux 1 i rfl (by omega) (by omega) (Us 0 rfl ra rfl (Ul 3 rfl cq (Ux 1 (i*2+2) rfl (by omega) (by omega) (Us 0 rfl rr rfl (Ux 0 (i*2+2) rfl (by omega) (by omega) (O.st (vs:=(EQ.enc xa)) rfl rfl sizeOf133 rfl rfl rfl rfl (EQ_ones xa) (hsl.wri (i:=i*2+2) (by omega)) ?_))))))))
     intro H9 W9
     have hs9:=W9.size
     replace tc:=tc.fr W9.fr (fun b2 o2 hb _=>nr (.inl (fun e2=>hbt (e2▸hb))))
     replace c0:=W9.fr.keep c0 (nr (.inl (Ne.symm hbd)))
     replace c1:=W9.fr.keep c1 (nr (.inl (Ne.symm hbd)))
     replace c2:=W9.fr.keep c2 (nr (.inl (Ne.symm hbd)))
     replace cq:=W9.fr.keep cq (nr (.inl (Ne.symm hbd)))
     replace wr:=W9.fr.wr wr
     replace hF:=hF.trans' W9.fr (fun _ _ _ h=>h) (fun b o hb h=>.inr h.1)
     have hsl7:=hsl.set (i:=i*2+2) W9 (by omega)
     rw [set_td (show i*2+2<q1.length by omega)] at hsl7
     replace w1:=W9.fr.wr w1
     replace m2:=W9.fr.rd m2 (fun _ _=>nr (.inl (by omega)))
     refine ⟨trivial,?_⟩
     refine Ux 0 i rfl (by omega) (by omega) (O.st3 (vs:=(EQ.enc xr)) rfl rfl sizeOf133 rfl rfl rfl rfl (EQ_ones xr) (hsl7.wri (i:=i) (by rw [List.length_set];omega)) ?_)
     intro H10 W10
     have hs10:=W10.size
     replace tc:=tc.fr W10.fr (fun b2 o2 hb _=>nr (.inl (fun e2=>hbt (e2▸hb))))
     replace c0:=W10.fr.keep c0 (nr (.inl (Ne.symm hbd)))
     replace c1:=W10.fr.keep c1 (nr (.inl (Ne.symm hbd)))
     replace c2:=W10.fr.keep c2 (nr (.inl (Ne.symm hbd)))
     replace cq:=W10.fr.keep cq (nr (.inl (Ne.symm hbd)))
     replace wr:=W10.fr.wr wr
     replace hF:=hF.trans' W10.fr (fun _ _ _ h=>h) (fun b o hb h=>.inr h.1)
     have hsl8:=hsl7.set (i:=i) W10 (by rw [List.length_set];omega)
     rw [set_td (show i<(q1.set (i*2+2) xa).length by rw [List.length_set];omega)] at hsl8
     replace w1:=W10.fr.wr w1
     replace m2:=W10.fr.rd m2 (fun _ _=>nr (.inl (by omega)))
     refine Uf 0 [0,2,3,4,5,6,7,8,90,122,126] rfl (Ur 2 0 rfl (Uf 2 [0,2,3,4,5,6,7,8,90,122,126] rfl (Ut 1 rfl (Uk [0,2,3,4,5] rfl (Go'.inLoop ?_)))))
     exact ih (i*2+2,Hp.swp q1 (i*2+2) i xr xa) H10 ⟨by rw [Hp.swp_len];exact hl1,(Hp.swp_perm hxr hxa).trans hpm,fun hh=>((hdn hh).right OI qkey hxa hxr hxl (.inr ⟨hlt,hlt2⟩)),.inr (by simp only;omega),hsl8,tc,c0,c1,c2,cq,wr,hF,by omega,w1,m2⟩ (by simp only;omega)
    ·
     refine Ud 31 162200231285358848 (by kernel_rfl) (Ul 4 rfl cq (Uc 1 rfl (lssT (by omega)) (Ul 4 rfl c0 (Ul 3 rfl cq (Ux 1 (i*2+1) rfl (by omega) (by omega) (Us 1 rfl rlk rfl (Ul 3 rfl cq (Ux 1 (i*2+2) rfl (by omega) (by omega) (Us 1 rfl rrk rfl (O.callC rfl rfl rfl rfl call72 rfl (less_spec tc xl.1 xr.1) ?_))))))))))
     rintro _ H8 ⟨rfl,hF8⟩
     rw [hlt2]
     have hs8:=hF8.size
     replace tc:=tc.fr hF8 (fun b2 o2 hb _=>nw)
     replace c0:=hF8.keep c0 nw
     replace c1:=hF8.keep c1 nw
     replace c2:=hF8.keep c2 nw
     replace cq:=hF8.keep cq nw
     replace wr:=hF8.wr wr
     replace hF:=hF.trans' hF8 (fun _ _ _ h=>h) (fun _ _ _ h=>h.elim)
     replace hsl:=hsl.fr hF8 (fun _ _ _=>nw)
     replace w1:=hF8.wr w1
     replace m2:=hF8.rd m2 (fun _ _=>nw)
     replace ra:=hF8.rd ra (fun _ _=>nw)
     replace rak:=hF8.rd rak (fun _ _=>nw)
     replace rl:=hF8.rd rl (fun _ _=>nw)
     replace rlk:=hF8.rd rlk (fun _ _=>nw)
     replace rr:=hF8.rd rr (fun _ _=>nw)
     replace rrk:=hF8.rd rrk (fun _ _=>nw)
     refine ⟨trivial,?_⟩
     refine Uf 2 [0,2,3,4,5,6,7,8,90,122] rfl (Go'.condF rfl (Ut 3 rfl (Ur 3 0 rfl (Uc 2 rfl (eqlF (by omega)) (Uf 0 [0,2,3,4,5,6,7,8,90,122,126] rfl (Go'.condF rfl (Ut 2 rfl (Ud 28 56366467960078400 (by kernel_rfl) (Ul 3 rfl cq (Ul 4 rfl cq (Ul 4 rfl cq ?_)))))))))))
     refine Ux 1 i rfl (by omega) (by omega) (Us 0 rfl ra rfl (Ul 3 rfl cq (Ux 1 (i*2+1) rfl (by omega) (by omega) (Us 0 rfl rl rfl (Ux 0 (i*2+1) rfl (by omega) (by omega) (O.st (vs:=(EQ.enc xa)) rfl rfl sizeOf133 rfl rfl rfl rfl (EQ_ones xa) (hsl.wri (i:=i*2+1) (by omega)) ?_))))))
     intro H9 W9
     have hs9:=W9.size
     replace tc:=tc.fr W9.fr (fun b2 o2 hb _=>nr (.inl (fun e2=>hbt (e2▸hb))))
     replace c0:=W9.fr.keep c0 (nr (.inl (Ne.symm hbd)))
     replace c1:=W9.fr.keep c1 (nr (.inl (Ne.symm hbd)))
     replace c2:=W9.fr.keep c2 (nr (.inl (Ne.symm hbd)))
     replace cq:=W9.fr.keep cq (nr (.inl (Ne.symm hbd)))
     replace wr:=W9.fr.wr wr
     replace hF:=hF.trans' W9.fr (fun _ _ _ h=>h) (fun b o hb h=>.inr h.1)
     have hsl7:=hsl.set (i:=i*2+1) W9 (by omega)
     rw [set_td (show i*2+1<q1.length by omega)] at hsl7
     replace w1:=W9.fr.wr w1
     replace m2:=W9.fr.rd m2 (fun _ _=>nr (.inl (by omega)))
     refine ⟨trivial,?_⟩
     refine Ux 0 i rfl (by omega) (by omega) (O.st3 (vs:=(EQ.enc xl)) rfl rfl sizeOf133 rfl rfl rfl rfl (EQ_ones xl) (hsl7.wri (i:=i) (by rw [List.length_set];omega)) ?_)
     intro H10 W10
     have hs10:=W10.size
     replace tc:=tc.fr W10.fr (fun b2 o2 hb _=>nr (.inl (fun e2=>hbt (e2▸hb))))
     replace c0:=W10.fr.keep c0 (nr (.inl (Ne.symm hbd)))
     replace c1:=W10.fr.keep c1 (nr (.inl (Ne.symm hbd)))
     replace c2:=W10.fr.keep c2 (nr (.inl (Ne.symm hbd)))
     replace cq:=W10.fr.keep cq (nr (.inl (Ne.symm hbd)))
     replace wr:=W10.fr.wr wr
     replace hF:=hF.trans' W10.fr (fun _ _ _ h=>h) (fun b o hb h=>.inr h.1)
     have hsl8:=hsl7.set (i:=i) W10 (by rw [List.length_set];omega)
     rw [set_td (show i<(q1.set (i*2+1) xa).length by rw [List.length_set];omega)] at hsl8
     replace w1:=W10.fr.wr w1
     replace m2:=W10.fr.rd m2 (fun _ _=>nr (.inl (by omega)))
     refine Uf 0 [0,2,3,4,5,6,7,8,90,122,126] rfl (Ur 2 0 rfl (Uf 2 [0,2,3,4,5,6,7,8,90,122,126] rfl (Ut 1 rfl (Uk [0,2,3,4,5] rfl (Go'.inLoop ?_)))))
     exact ih (i*2+1,Hp.swp q1 (i*2+1) i xl xa) H10 ⟨by rw [Hp.swp_len];exact hl1,(Hp.swp_perm hxl hxa).trans hpm,fun hh=>((hdn hh).left OI qkey hxa hxl hlt (fun x hx=>by rw [hxr] at hx;cases hx;exact hlt2)),.inr (by simp only;omega),hsl8,tc,c0,c1,c2,cq,wr,hF,by omega,w1,m2⟩ (by simp only;omega)
   ·
    have hnr:∀x,q1[i*2+2]?=some x→False:=fun x hx=>by have:=(List.getElem?_eq_some_iff.1 hx).1;omega
    refine Ud 31 162200231285358848 (by kernel_rfl) (Ul 4 rfl cq (Uc 1 rfl (lssF (by omega)) (Uq 21 rfl (Pl.pass2 rfl rfl rfl rfl trivial (Uf 2 [0,2,3,4,5,6,7,8,90,122] rfl (Go'.condF rfl (Ut 3 rfl (Ur 3 0 rfl (Uc 2 rfl (eqlF (by omega)) (Uf 0 [0,2,3,4,5,6,7,8,90,122,126] rfl (Go'.condF rfl ?_)))))))))))
    refine Ut 2 rfl (Ud 28 56366467960078400 (by kernel_rfl) (Ul 3 rfl cq (Ul 4 rfl cq (Ul 4 rfl cq (Ux 1 i rfl (by omega) (by omega) (Us 0 rfl ra rfl (Ul 3 rfl cq (Ux 1 (i*2+1) rfl (by omega) (by omega) (Us 0 rfl rl rfl (Ux 0 (i*2+1) rfl (by omega) (by omega) (O.st (vs:=(EQ.enc xa)) rfl rfl sizeOf133 rfl rfl rfl rfl (EQ_ones xa) (hsl.wri (i:=i*2+1) (by omega)) ?_)))))))))))
    intro H8 W8
    have hs8:=W8.size
    replace tc:=tc.fr W8.fr (fun b2 o2 hb _=>nr (.inl (fun e2=>hbt (e2▸hb))))
    replace c0:=W8.fr.keep c0 (nr (.inl (Ne.symm hbd)))
    replace c1:=W8.fr.keep c1 (nr (.inl (Ne.symm hbd)))
    replace c2:=W8.fr.keep c2 (nr (.inl (Ne.symm hbd)))
    replace cq:=W8.fr.keep cq (nr (.inl (Ne.symm hbd)))
    replace wr:=W8.fr.wr wr
    replace hF:=hF.trans' W8.fr (fun _ _ _ h=>h) (fun b o hb h=>.inr h.1)
    have hsl7:=hsl.set (i:=i*2+1) W8 (by omega)
    rw [set_td (show i*2+1<q1.length by omega)] at hsl7
    replace w1:=W8.fr.wr w1
    replace m2:=W8.fr.rd m2 (fun _ _=>nr (.inl (by omega)))
    refine ⟨trivial,?_⟩
    refine Ux 0 i rfl (by omega) (by omega) (O.st3 (vs:=(EQ.enc xl)) rfl rfl sizeOf133 rfl rfl rfl rfl (EQ_ones xl) (hsl7.wri (i:=i) (by rw [List.length_set];omega)) ?_)
    intro H9 W9
    have hs9:=W9.size
    replace tc:=tc.fr W9.fr (fun b2 o2 hb _=>nr (.inl (fun e2=>hbt (e2▸hb))))
    replace c0:=W9.fr.keep c0 (nr (.inl (Ne.symm hbd)))
    replace c1:=W9.fr.keep c1 (nr (.inl (Ne.symm hbd)))
    replace c2:=W9.fr.keep c2 (nr (.inl (Ne.symm hbd)))
    replace cq:=W9.fr.keep cq (nr (.inl (Ne.symm hbd)))
    replace wr:=W9.fr.wr wr
    replace hF:=hF.trans' W9.fr (fun _ _ _ h=>h) (fun b o hb h=>.inr h.1)
    have hsl8:=hsl7.set (i:=i) W9 (by rw [List.length_set];omega)
    rw [set_td (show i<(q1.set (i*2+1) xa).length by rw [List.length_set];omega)] at hsl8
    replace w1:=W9.fr.wr w1
    replace m2:=W9.fr.rd m2 (fun _ _=>nr (.inl (by omega)))
    refine Uf 0 [0,2,3,4,5,6,7,8,90,122,126] rfl (Ur 2 0 rfl (Uf 2 [0,2,3,4,5,6,7,8,90,122,126] rfl (Ut 1 rfl (Uk [0,2,3,4,5] rfl (Go'.inLoop ?_)))))
    exact ih (i*2+1,Hp.swp q1 (i*2+1) i xl xa) H9 ⟨by rw [Hp.swp_len];exact hl1,(Hp.swp_perm hxl hxa).trans hpm,fun hh=>((hdn hh).left OI qkey hxa hxl hlt (fun x hx=>(hnr x hx).elim)),.inr (by simp only;omega),hsl8,tc,c0,c1,c2,cq,wr,hF,by omega,w1,m2⟩ (by simp only;omega)
  ·
   refine Ud 31 162200231285358848 (by kernel_rfl) (Ul 4 rfl cq (Uc 1 rfl (lssT (by omega)) (Ul 4 rfl c0 (Ul 3 rfl cq (Ux 1 i rfl (by omega) (by omega) (Us 1 rfl rak rfl (Ul 3 rfl cq (Ux 1 (i*2+1) rfl (by omega) (by omega) (Us 1 rfl rlk rfl (O.callC rfl rfl rfl rfl call72 rfl (less_spec tc xa.1 xl.1) ?_))))))))))
   rintro _ H7 ⟨rfl,hF7⟩
   rw [hlt]
   have hs7:=hF7.size
   replace tc:=tc.fr hF7 (fun b2 o2 hb _=>nw)
   replace c0:=hF7.keep c0 nw
   replace c1:=hF7.keep c1 nw
   replace c2:=hF7.keep c2 nw
   replace cq:=hF7.keep cq nw
   replace wr:=hF7.wr wr
   replace hF:=hF.trans' hF7 (fun _ _ _ h=>h) (fun _ _ _ h=>h.elim)
   replace hsl:=hsl.fr hF7 (fun _ _ _=>nw)
   replace w1:=hF7.wr w1
   replace m2:=hF7.rd m2 (fun _ _=>nw)
   replace ra:=hF7.rd ra (fun _ _=>nw)
   replace rak:=hF7.rd rak (fun _ _=>nw)
   replace rl:=hF7.rd rl (fun _ _=>nw)
   replace rlk:=hF7.rd rlk (fun _ _=>nw)
   refine ⟨trivial,?_⟩
   refine Uf 2 [0,2,3,4,5,6,7,8,90] rfl (Go'.condF rfl (Ut 3 rfl ?_))
   by_cases hr:i*2+2<n
   ·
    obtain ⟨xr,hxr⟩:∃x,q1[i*2+2]?=some x:=⟨q1[i*2+2]'(by omega),List.getElem?_eq_getElem (by omega)⟩
    have rr:=hsl.item hxr
    have rrk:Rd H7 b (o+(i*2+2)*EQ.s) (EJ.enc xr.1):=fun j v hv=>rr j v (by match j,hv with|0,hv=>exact hv|1,hv=>exact hv)
    cases hlt2:OI.lt xa.1 xr.1
    ·
     refine Ud 31 162200231285358848 (by kernel_rfl) (Ul 4 rfl cq (Uc 1 rfl (lssT (by omega)) (Ul 4 rfl c0 (Ul 3 rfl cq (Ux 1 (i) rfl (by omega) (by omega) (Us 1 rfl rak rfl (Ul 3 rfl cq (Ux 1 (i*2+2) rfl (by omega) (by omega) (Us 1 rfl rrk rfl (O.callC rfl rfl rfl rfl call72 rfl (less_spec tc xa.1 xr.1) ?_))))))))))
     rintro _ H8 ⟨rfl,hF8⟩
     rw [hlt2]
     have hs8:=hF8.size
     replace tc:=tc.fr hF8 (fun b2 o2 hb _=>nw)
     replace c0:=hF8.keep c0 nw
     replace c1:=hF8.keep c1 nw
     replace c2:=hF8.keep c2 nw
     replace cq:=hF8.keep cq nw
     replace wr:=hF8.wr wr
     replace hF:=hF.trans' hF8 (fun _ _ _ h=>h) (fun _ _ _ h=>h.elim)
     replace hsl:=hsl.fr hF8 (fun _ _ _=>nw)
     replace w1:=hF8.wr w1
     replace m2:=hF8.rd m2 (fun _ _=>nw)
     replace ra:=hF8.rd ra (fun _ _=>nw)
     replace rak:=hF8.rd rak (fun _ _=>nw)
     replace rl:=hF8.rd rl (fun _ _=>nw)
     replace rlk:=hF8.rd rlk (fun _ _=>nw)
     replace rr:=hF8.rd rr (fun _ _=>nw)
     replace rrk:=hF8.rd rrk (fun _ _=>nw)
     refine ⟨trivial,?_⟩
     refine Uf 2 [0,2,3,4,5,6,7,8,90,122] rfl (Go'.condT rfl (Ur 2 0 rfl (Uf 2 [0,2,3,4,5,6,7,8,90,122] rfl (Ut 2 rfl (Ur 3 0 rfl (Uc 2 rfl (eqlF (by omega)) (Uf 0 [0,2,3,4,5,6,7,8,90,122,126] rfl (Go'.condF rfl (Ut 2 rfl (Ud 28 56366467960078400 (by kernel_rfl) (Ul 3 rfl cq ?_)))))))))))
     refine Ul 4 rfl cq (Ul 4 rfl cq (Ux 1 i rfl (by omega) (by omega) (Us 0 rfl ra rfl (Ul 3 rfl cq (Ux 1 (i*2+2) rfl (by omega) (by omega) (Us 0 rfl rr rfl (Ux 0 (i*2+2) rfl (by omega) (by omega) (O.st (vs:=(EQ.enc xa)) rfl rfl sizeOf133 rfl rfl rfl rfl (EQ_ones xa) (hsl.wri (i:=i*2+2) (by omega)) ?_))))))))
     intro H9 W9
     have hs9:=W9.size
     replace tc:=tc.fr W9.fr (fun b2 o2 hb _=>nr (.inl (fun e2=>hbt (e2▸hb))))
     replace c0:=W9.fr.keep c0 (nr (.inl (Ne.symm hbd)))
     replace c1:=W9.fr.keep c1 (nr (.inl (Ne.symm hbd)))
     replace c2:=W9.fr.keep c2 (nr (.inl (Ne.symm hbd)))
     replace cq:=W9.fr.keep cq (nr (.inl (Ne.symm hbd)))
     replace wr:=W9.fr.wr wr
     replace hF:=hF.trans' W9.fr (fun _ _ _ h=>h) (fun b o hb h=>.inr h.1)
     have hsl7:=hsl.set (i:=i*2+2) W9 (by omega)
     rw [set_td (show i*2+2<q1.length by omega)] at hsl7
     replace w1:=W9.fr.wr w1
     replace m2:=W9.fr.rd m2 (fun _ _=>nr (.inl (by omega)))
     refine ⟨trivial,?_⟩
     refine Ux 0 i rfl (by omega) (by omega) (O.st3 (vs:=(EQ.enc xr)) rfl rfl sizeOf133 rfl rfl rfl rfl (EQ_ones xr) (hsl7.wri (i:=i) (by rw [List.length_set];omega)) ?_)
     intro H10 W10
     have hs10:=W10.size
     replace tc:=tc.fr W10.fr (fun b2 o2 hb _=>nr (.inl (fun e2=>hbt (e2▸hb))))
     replace c0:=W10.fr.keep c0 (nr (.inl (Ne.symm hbd)))
     replace c1:=W10.fr.keep c1 (nr (.inl (Ne.symm hbd)))
     replace c2:=W10.fr.keep c2 (nr (.inl (Ne.symm hbd)))
     replace cq:=W10.fr.keep cq (nr (.inl (Ne.symm hbd)))
     replace wr:=W10.fr.wr wr
     replace hF:=hF.trans' W10.fr (fun _ _ _ h=>h) (fun b o hb h=>.inr h.1)
     have hsl8:=hsl7.set (i:=i) W10 (by rw [List.length_set];omega)
     rw [set_td (show i<(q1.set (i*2+2) xa).length by rw [List.length_set];omega)] at hsl8
     replace w1:=W10.fr.wr w1
     replace m2:=W10.fr.rd m2 (fun _ _=>nr (.inl (by omega)))
     refine Uf 0 [0,2,3,4,5,6,7,8,90,122,126] rfl (Ur 2 0 rfl (Uf 2 [0,2,3,4,5,6,7,8,90,122,126] rfl (Ut 1 rfl (Uk [0,2,3,4,5] rfl (Go'.inLoop ?_)))))
     exact ih (i*2+2,Hp.swp q1 (i*2+2) i xr xa) H10 ⟨by rw [Hp.swp_len];exact hl1,(Hp.swp_perm hxr hxa).trans hpm,fun hh=>((hdn hh).right OI qkey hxa hxr hxl (.inl ⟨hlt,hlt2⟩)),.inr (by simp only;omega),hsl8,tc,c0,c1,c2,cq,wr,hF,by omega,w1,m2⟩ (by simp only;omega)
    ·
     refine Ud 31 162200231285358848 (by kernel_rfl) (Ul 4 rfl cq (Uc 1 rfl (lssT (by omega)) (Ul 4 rfl c0 (Ul 3 rfl cq (Ux 1 (i) rfl (by omega) (by omega) (Us 1 rfl rak rfl (Ul 3 rfl cq (Ux 1 (i*2+2) rfl (by omega) (by omega) (Us 1 rfl rrk rfl (O.callC rfl rfl rfl rfl call72 rfl (less_spec tc xa.1 xr.1) ?_))))))))))
     rintro _ H8 ⟨rfl,hF8⟩
     rw [hlt2]
     have hs8:=hF8.size
     replace tc:=tc.fr hF8 (fun b2 o2 hb _=>nw)
     replace c0:=hF8.keep c0 nw
     replace c1:=hF8.keep c1 nw
     replace c2:=hF8.keep c2 nw
     replace cq:=hF8.keep cq nw
     replace wr:=hF8.wr wr
     replace hF:=hF.trans' hF8 (fun _ _ _ h=>h) (fun _ _ _ h=>h.elim)
     replace hsl:=hsl.fr hF8 (fun _ _ _=>nw)
     replace w1:=hF8.wr w1
     replace m2:=hF8.rd m2 (fun _ _=>nw)
     replace ra:=hF8.rd ra (fun _ _=>nw)
     replace rak:=hF8.rd rak (fun _ _=>nw)
     replace rl:=hF8.rd rl (fun _ _=>nw)
     replace rlk:=hF8.rd rlk (fun _ _=>nw)
     replace rr:=hF8.rd rr (fun _ _=>nw)
     replace rrk:=hF8.rd rrk (fun _ _=>nw)
     refine ⟨trivial,?_⟩
     refine Uf 2 [0,2,3,4,5,6,7,8,90,122] rfl (Go'.condF rfl (Ut 3 rfl (Ur 3 0 rfl (Uc 2 rfl (eqlT (by omega)) (Uf 0 [0,2,3,4,5,6,7,8,90,122,126] rfl (Go'.condT rfl (Ut 2 rfl (Ur 3 9 rfl (Us 0 rfl m2 rfl (O.st (vs:=(EQ.enc e)) rfl rfl sizeOf133 rfl rfl rfl rfl (EQ_ones e) w1 ?_))))))))))
     intro H9 W9
     have hs9:=W9.size
     replace tc:=tc.fr W9.fr (fun b2 o2 hb _=>nr (.inl (by have:=hb.1;have:=tc0.hb;omega)))
     replace c0:=W9.fr.keep c0 (nr (.inl (by omega)))
     replace c1:=W9.fr.keep c1 (nr (.inl (by omega)))
     replace c2:=W9.fr.keep c2 (nr (.inl (by omega)))
     replace cq:=W9.fr.keep cq (nr (.inl (by omega)))
     replace wr:=W9.fr.wr wr
     replace hF:=hF.trans' W9.fr (fun _ _ _ h=>h) (fun b o hb h=>by have:=h.1;omega)
     replace hsl:=hsl.fr W9.fr (fun _ _ _=>nr (.inl (by omega)))
     have m9:=W9.all
     refine ⟨trivial,?_⟩
     refine Uf 1 [2,3] rfl (Go'.ret (vs:=[_,_]) func79 results79 ⟨⟨_,_,rfl,fun _ _=>run_loadVar_agg (fun w=>⟨isAgg133 w,sizeOf133 w⟩) rfl m9⟩,rfl,trivial⟩ ?_)
     rw [←hl1] at cq
     exact ⟨rfl,q1,hpm,fun hh=>((hdn hh).stop OI qkey hxa (fun x hx=>by rw [hxl] at hx;cases hx;exact hlt) (fun x hx=>by rw [hxr] at hx;cases hx;exact hlt2)),c0,c1,c2,cq,wr,hsl,hF⟩
   ·
    have hnr:∀x,q1[i*2+2]?=some x→False:=fun x hx=>by have:=(List.getElem?_eq_some_iff.1 hx).1;omega
    refine Ud 31 162200231285358848 (by kernel_rfl) (Ul 4 rfl cq (Uc 1 rfl (lssF (by omega)) (Uq 21 rfl (Pl.pass2 rfl rfl rfl rfl trivial (Uf 2 [0,2,3,4,5,6,7,8,90,122] rfl (Go'.condF rfl (Ut 3 rfl (Ur 3 0 rfl (Uc 2 rfl (eqlT (by omega)) (Uf 0 [0,2,3,4,5,6,7,8,90,122,126] rfl (Go'.condT rfl ?_)))))))))))
    refine Ut 2 rfl (Ur 3 9 rfl (Us 0 rfl m2 rfl (O.st (vs:=(EQ.enc e)) rfl rfl sizeOf133 rfl rfl rfl rfl (EQ_ones e) w1 ?_)))
    intro H8 W8
    have hs8:=W8.size
    replace tc:=tc.fr W8.fr (fun b2 o2 hb _=>nr (.inl (by have:=hb.1;have:=tc0.hb;omega)))
    replace c0:=W8.fr.keep c0 (nr (.inl (by omega)))
    replace c1:=W8.fr.keep c1 (nr (.inl (by omega)))
    replace c2:=W8.fr.keep c2 (nr (.inl (by omega)))
    replace cq:=W8.fr.keep cq (nr (.inl (by omega)))
    replace wr:=W8.fr.wr wr
    replace hF:=hF.trans' W8.fr (fun _ _ _ h=>h) (fun b o hb h=>by have:=h.1;omega)
    replace hsl:=hsl.fr W8.fr (fun _ _ _=>nr (.inl (by omega)))
    have m9:=W8.all
    refine ⟨trivial,?_⟩
    refine Uf 1 [2,3] rfl (Go'.ret (vs:=[_,_]) func79 results79 ⟨⟨_,_,rfl,fun _ _=>run_loadVar_agg (fun w=>⟨isAgg133 w,sizeOf133 w⟩) rfl m9⟩,rfl,trivial⟩ ?_)
    rw [←hl1] at cq
    exact ⟨rfl,q1,hpm,fun hh=>((hdn hh).stop OI qkey hxa (fun x hx=>by rw [hxl] at hx;cases hx;exact hlt) (fun x hx=>(hnr x hx).elim)),c0,c1,c2,cq,wr,hsl,hF⟩
end
end Go.Bt.FG
namespace Go.Bt.FG
open Go Go.Proofs Go.Proofs.Try
set_option maxRecDepth 20000
set_option maxHeartbeats 4000000
set_option linter.unusedSectionVars false
section
variable [Inhabited Cx]
def nodeV (o:Option Nat):Value:=match o with|some p=>ptr p|none=>.pointer none
theorem append_spec {B:World} {H:Mem} {tr ii mx mn dl cnt np k:Nat} {Z:Nat→Prop} {q:List ((Int×Int)×Option Nat)} (x:Int×Int) (o:Option Nat) (tc:TrC H tr ii mx mn) (hL:LiM H dl (.func (.func 72) #[] #[ptr cx.ob]) cnt np Z q) (hzb:∀b,b=dl∨Z b→¬(b<cx.base∧cx.own b)) (hq:q.length<4294967296)
  (ho:match o with|some p=>cl H p 1=some (.int .i64 (k:Int))∧p≠dl|none=>k=0) (hk:cnt+1+k<4611686018427387904):
  Fn Try.prog B 77 [ptr dl,.agg (EJ.enc x).toArray,nodeV o] H (fun r H'=>r=resVal []∧∃Z' q',LiM H' dl (.func (.func 72) #[] #[ptr cx.ob]) (cnt+1+k) np Z' q'∧q'.Perm (q++[(x,o)])∧(Hp.Heap OI qkey q→Hp.Heap OI qkey q')∧Fr (fun b _=>b=dl∨Z b) H H'∧(∀b,Z' b→Z b∨H.size≤b)):=by
 obtain ⟨c0,c1,c2,⟨sv,cq,hA⟩,wr,nz,zl,hcb⟩:=hL
 replace hcb:=hcb _ cq
 have hdl:=cl_lt c0
 have tc0:=tc
 have hF:Fr (fun b _=>b=dl∨Z b) H H:=Fr.refl _ _
 unfold ptr
 refine fn_of func77 rfl ntmps77 ?_
 refine (show Go' _ _ _ _ 31 [(0,_),(1,_),(2,_)] [.code _] _ from ?_)
 refine Ut 1 rfl (Ur 1 2 rfl (O.box rfl rfl rfl rfl ?_))
 intro H1 M1
 refine ⟨trivial,?_⟩
 have hs1:=M1.size
 replace tc:=tc.fr (M1.fr nowhere) (fun _ _ _ _=>nw)
 replace c0:=(M1.fr nowhere).keep c0 nw
 replace c1:=(M1.fr nowhere).keep c1 nw
 replace c2:=(M1.fr nowhere).keep c2 nw
 replace cq:=(M1.fr nowhere).keep cq nw
 replace wr:=(M1.fr nowhere).wr wr
 replace hA:=hA.fr (M1.fr nowhere) (fun _ _ _ _=>nw)
 replace hF:=hF.trans' (M1.fr nowhere) (fun _ _ _ h=>h) (fun _ _ _ h=>h.elim)
 have mi:Rd H1 H.size 0 (EJ.enc x):=M1.rd _ [] (by simp [Value.cells])
 refine Uf 0 [0,2,4] rfl (Ut 1 rfl (Ur 8 32832 rfl (Ul 3 rfl c1 (Ua 0 (((cnt+1:Nat):Int)) rfl (by omega) (Uq 2 rfl (O.st rfl rfl sizeOf3 rfl rfl rfl rfl rfl (wr.at0 1 1 (by decide)) ?_))))))
 intro H2 W2
 have hs2:=W2.size
 replace tc:=tc.fr W2.fr (fun b o hb _=>nr (.inl (fun e2=>hzb b (.inl e2) hb)))
 replace c0:=W2.keep1 c0 (.inr (by decide))
 replace c2:=W2.keep1 c2 (.inr (by decide))
 replace cq:=W2.keep1 cq (.inr (by decide))
 replace c1:=W2.at
 replace wr:=W2.fr.wr wr
 replace mi:=W2.fr.rd mi (fun _ _=>nr (.inl (by omega)))
 replace hA:=hA.fr W2.fr (fun b o _ hz=>nr (.inl (fun e2=>nz (e2▸hz))))
 replace hF:=hF.trans' W2.fr (fun _ _ _ h=>h) (fun b o _ h=>.inl h.1)
 refine ⟨trivial,?_⟩
 refine Uf 0 [0,2,4] rfl (Ut 2 rfl ?_)
 rcases o with _|p
 ·
  have hk0:k=0:=ho
  refine Ur 2 0 rfl (Uq 1 rfl (O.notNil rfl rfl rfl rfl underlying107 rfl rfl (Uf 0 [0,2,4,14] rfl (Go'.condF rfl (Ut 1 rfl (Ur 5 516 rfl (Us 1 rfl mi rfl (Uq 1 rfl (O.bld (cs:=(EQ.enc (x,none))) rfl rfl rfl rfl (st133) rfl (by kernel_rfl) (O.call rfl rfl rfl call96 rfl (push_spec (x,none) tc ⟨c0,c1,c2,⟨_,cq,hA⟩,wr,nz,fun b hb=>by have:=zl b hb;have:=hF.size;omega,fun _ e2=>by rw [cq] at e2;cases e2;exact hcb⟩ hzb hq) ?_))))))))))
  rintro _ H4 ⟨rfl,Z',q',l1,l2,l3,l4,l5⟩
  refine ⟨trivial,?_⟩
  refine Uf 0 [] rfl (Go'.fall func77 results77 (vs:=[]) trivial ?_)
  exact ⟨rfl,Z',q',by rw [hk0];exact l1,l2,l3,hF.trans' l4 (fun _ _ _ h=>h) (fun _ _ _ h=>h),fun b hb=>(l5 b hb).imp id (fun h=>by have:=hF.size;omega)⟩
 ·
  have hk1:cl H2 p 1=some (.int .i64 (k:Int)):=W2.fr.keep ((M1.fr nowhere).keep ho.1 nw) (nr (.inl ho.2))
  have hpd:=ho.2
  refine Ur 2 0 rfl (Uq 1 rfl (O.notNil rfl rfl rfl rfl underlying107 rfl rfl (Uf 0 [0,2,4,14] rfl (Go'.condT rfl (Ud 12 12599360 (by kernel_rfl) (Ul 3 rfl c1 (Ul 3 rfl hk1 (Ua 0 (((((cnt+1))+k:Nat):Int)) rfl (by omega) (Uq 2 rfl (O.st3 rfl rfl sizeOf3 rfl rfl rfl rfl rfl (wr.at0 1 1 (by decide)) ?_))))))))))
  intro H3 W3
  have hs3:=W3.size
  replace tc:=tc.fr W3.fr (fun b o hb _=>nr (.inl (fun e2=>hzb b (.inl e2) hb)))
  replace c0:=W3.keep1 c0 (.inr (by decide))
  replace c2:=W3.keep1 c2 (.inr (by decide))
  replace cq:=W3.keep1 cq (.inr (by decide))
  replace c1:=W3.at
  replace wr:=W3.fr.wr wr
  replace mi:=W3.fr.rd mi (fun _ _=>nr (.inl (by omega)))
  replace hA:=hA.fr W3.fr (fun b o _ hz=>nr (.inl (fun e2=>nz (e2▸hz))))
  replace hF:=hF.trans' W3.fr (fun _ _ _ h=>h) (fun b o _ h=>.inl h.1)
  refine Uf 0 [0,2,4] rfl (Ur 5 516 rfl (Us 1 rfl mi rfl (Uq 1 rfl (O.bld (cs:=(EQ.enc (x,some p))) rfl rfl rfl rfl (st133) rfl (by kernel_rfl) (O.call rfl rfl rfl call96 rfl (push_spec (x,some p) tc ⟨c0,c1,c2,⟨_,cq,hA⟩,wr,nz,fun b hb=>by have:=zl b hb;have:=hF.size;omega,fun _ e2=>by rw [cq] at e2;cases e2;exact hcb⟩ hzb hq) ?_)))))
  rintro _ H4 ⟨rfl,Z',q',l1,l2,l3,l4,l5⟩
  refine ⟨trivial,?_⟩
  refine Uf 0 [] rfl (Go'.fall func77 results77 (vs:=[]) trivial ?_)
  exact ⟨rfl,Z',q',l1,l2,l3,hF.trans' l4 (fun _ _ _ h=>h) (fun _ _ _ h=>h),fun b hb=>(l5 b hb).imp id (fun h=>by have:=hF.size;omega)⟩
theorem clear_spec {B:World} {H:Mem} {dl:Nat} {v:Value} (c0:cl H dl 0=some v) (c3:cl H dl 3=some (.slice none 0 0)) (wr:Wr H dl 0 4):
  Fn Try.prog B 75 [ptr dl] H (fun r H'=>r=resVal []∧Fr (fun b _=>b=dl) H H'∧Wr H' dl 0 4∧cl H' dl 1=some (.int .i64 0)∧cl H' dl 2=some (.int .i64 0)∧cl H' dl 3=some (.slice none 0 0)∧cl H' dl 0=some .nilFunc∧H'.size=H.size):=by
 have hF:Fr (fun b _=>b=dl) H H:=Fr.refl _ _
 unfold ptr
 refine fn_of func75 rfl ntmps75 ?_
 refine (show Go' _ _ _ _ 19 [(0,_)] [.code _] _ from ?_)
 refine Ut 1 rfl (Ur 4 128 rfl (Uq 3 rfl (O.st rfl rfl sizeOf58 rfl rfl rfl rfl rfl (wr.at0 0 1 (by decide)) ?_)))
 intro H1 W1
 have hs1:=W1.size
 replace wr:=W1.fr.wr wr
 replace hF:=hF.trans' W1.fr (fun _ _ _ h=>h) (fun b o _ h=>h.1)
 replace c3:=W1.keep1 c3 (.inr (by decide))
 replace c0:=W1.at
 refine ⟨trivial,?_⟩
 refine Uf 0 [0] rfl (Ut 1 rfl (Ur 9 131328 rfl (Ul 4 rfl c3 (O.slcNil rfl rfl rfl rfl underlying59 sizeOf133 rfl ⟨_,by rfl⟩ (Uq 2 rfl (O.st rfl rfl sizeOf59 rfl rfl rfl rfl rfl (wr.at0 3 1 (by decide)) ?_))))))
 intro H2 W2
 have hs2:=W2.size
 replace wr:=W2.fr.wr wr
 replace hF:=hF.trans' W2.fr (fun _ _ _ h=>h) (fun b o _ h=>h.1)
 replace c3:=W2.at
 replace c0:=W2.keep1 c0 (.inr (by decide))
 refine ⟨trivial,?_⟩
 refine Uf 0 [0] rfl (Ut 1 rfl (Ur 4 128 rfl (Uq 3 rfl (O.st rfl rfl sizeOf3 rfl rfl rfl rfl rfl (wr.at0 1 1 (by decide)) ?_))))
 intro H3 W3
 have hs3:=W3.size
 replace wr:=W3.fr.wr wr
 replace hF:=hF.trans' W3.fr (fun _ _ _ h=>h) (fun b o _ h=>h.1)
 replace c3:=W3.keep1 c3 (.inr (by decide))
 have c1:=W3.at
 replace c0:=W3.keep1 c0 (.inr (by decide))
 refine ⟨trivial,?_⟩
 refine Uf 0 [0] rfl (Ur 4 128 rfl (Uq 3 rfl (O.st rfl rfl sizeOf3 rfl rfl rfl rfl rfl (wr.at0 2 1 (by decide)) ?_)))
 intro H4 W4
 have hs4:=W4.size
 replace wr:=W4.fr.wr wr
 replace hF:=hF.trans' W4.fr (fun _ _ _ h=>h) (fun b o _ h=>h.1)
 replace c3:=W4.keep1 c3 (.inr (by decide))
 replace c1:=W4.keep1 c1 (.inr (by decide))
 replace c0:=W4.keep1 c0 (.inr (by decide))
 have c2:=W4.at
 refine ⟨trivial,?_⟩
 refine Uf 0 [] rfl (Go'.fall func75 results75 (vs:=[]) trivial ?_)
 exact ⟨rfl,hF,wr,c1,c2,c3,c0,by omega⟩
end
end Go.Bt.FG
namespace Go.Bt.FG
open Go Go.Proofs Go.Proofs.Try
set_option maxRecDepth 20000
set_option maxHeartbeats 4000000
set_option linter.unusedSectionVars false
end Go.Bt.FG
namespace Go.Bt.Pl
theorem pre_snoc {α:Type}:∀(X:List α) (K:List (List α)) (x:α) (k:List α),X.length=K.length→pre (X++[x]) (K++[k])=pre X K++(k++[x])
 | [],[],x,k,_=>by simp [pre]
 | y::X,l::K,x,k,h=>by
  simp only [List.cons_append,pre]
  rw [pre_snoc X K x k (by simpa using h)]
  simp
 | [],_::_,_,_,h=>by simp at h
 | _::_,[],_,_,h=>by simp at h
theorem inter_last {α:Type} {X:List α} {K:List (List α)} {k:List α} (hl:K.length=X.length+1) (hk:K[X.length]?=some k):inter X K=pre X (K.take X.length)++k:=by
 have hsp:K=K.take X.length++[k]:=by
  have h1:=(List.getElem?_eq_some_iff.1 hk)
  obtain ⟨h1,h2⟩:=h1
  conv=>lhs;rw [←List.take_append_drop X.length K]
  rw [←List.getElem_cons_drop (h:=h1),h2,List.drop_of_length_le (by omega)]
 have:=inter_focus X [] (K.take X.length) k [] (by rw [List.length_take];omega) rfl
 rw [List.append_nil] at this
 rw [hsp] at this ⊢
 simp only [post,List.append_nil] at this
 rw [show (List.take X.length K++[k]).take X.length=K.take X.length by rw [List.take_append_of_le_length (by rw [List.length_take];omega),List.take_take,Nat.min_self]]
 rw [show (List.take X.length K++[k]).take X.length=K.take X.length by rw [List.take_append_of_le_length (by rw [List.length_take];omega),List.take_take,Nat.min_self]] at this
 exact this
theorem inter_drop1 {α:Type} {X:List α} {K:List (List α)} {x:α} {k:List α} {j:Nat} (hx:X[j]?=some x) (hk:K[j]?=some k):inter (X.drop j) (K.drop j)=k++x::inter (X.drop (j+1)) (K.drop (j+1)):=by
 obtain ⟨h1,h2⟩:=List.getElem?_eq_some_iff.1 hx
 obtain ⟨h3,h4⟩:=List.getElem?_eq_some_iff.1 hk
 rw [←List.getElem_cons_drop (h:=h1),←List.getElem_cons_drop (h:=h3),h2,h4]
 rfl
end Go.Bt.Pl
namespace Go.Bt.FG
open Go Go.Proofs Go.Proofs.Try
set_option maxRecDepth 20000
set_option maxHeartbeats 4000000
set_option linter.unusedSectionVars false
def encIt (x:Int×Int):List Value:=[.agg (EJ.enc x).toArray]
theorem takes_stop {go:List (Int×Int)→Bool} {acc l r:List (Int×Int)} (h:(takes go acc l).2=false):takes go acc (l++r)=takes go acc l:=by rw [takes_append,h];rfl
theorem takes_on {go:List (Int×Int)→Bool} {acc l r:List (Int×Int)} (h:(takes go acc l).2=true):takes go acc (l++r)=takes go (takes go acc l).1 r:=by rw [takes_append,h];rfl
end Go.Bt.FG
namespace Go.Bt.Pl
theorem inter_pre {α:Type}:∀(j:Nat) (X:List α) (K:List (List α)),K.length=X.length+1→j≤X.length→inter X K=pre (X.take j) (K.take j)++inter (X.drop j) (K.drop j)
 | 0,X,K,_,_=>by simp [pre]
 | j+1,[],_,_,h=>by simp at h
 | j+1,_::_,[],h,_=>by simp at h
 | j+1,x::X,k::K,hl,h=>by
  simp only [List.take_succ_cons,List.drop_succ_cons,pre,inter]
  rw [inter_pre j X K (by simpa using hl) (by simpa using h)]
  simp
end Go.Bt.Pl
namespace Go.Bt.FG
open Go Go.Proofs Go.Proofs.Try
set_option maxRecDepth 20000
set_option maxHeartbeats 4000000
set_option linter.unusedSectionVars false
section
variable [Inhabited Cx]
structure VPre {P':Program} {B:World} {g:FuncId} {us cs:List Value} {go:List (Int×Int)→Bool} {M:Nat} (cb:Cb P' B encIt g us cs go M) (H:Mem) (tr:Nat) (P:Ps) (h:Nat) (t:Gt EJ h) (bp op:Nat) (acc:List (Int×Int)) (Z:Nat→Prop):Prop where
 tc:TrC H tr P.iso P.mx P.mn
 g:Gt.Good H P h t
 cel:cl H bp op=some (ptr (Gt.p h t))
 nz:∀b o,Gt.af h t b o→¬Z b
 nb:∀b,Z b→¬(b<cx.base∧cx.own b)
 st:cb.T acc Z H
 len:acc.length+(Gt.L h t).length≤M
end
end Go.Bt.FG
namespace Go.Bt.FG
open Go Go.Proofs Go.Proofs.Try
set_option maxRecDepth 20000
set_option maxHeartbeats 4000000
set_option linter.unusedSectionVars false
theorem App.rp {H H':Mem} {b o len c m s:Nat} {xs news:List Value} {b' o' c':Nat} (ha:App H H' b o len c m s xs news b' o' c'):Fr (fun b1 _=>b1=b) H H'∧(b'=b∨H.size≤b'):=
 ⟨ha.fr.mono fun b1 o1 _ hz=>hz.1,by rcases ha.place with ⟨h,_⟩|⟨h,_⟩<;>omega⟩
structure TkT (b2 b3 D:Nat) (n:Int) (acc:List (Int×Int)) (Z:Nat→Prop) (H:Mem):Prop where
 c2:cl H b2 0=some (ptr D)
 c3:cl H b3 0=some (.int .i64 n)
 wr:Wr H D 0 1
 z2:Z b2
 z3:Z b3
 zD:Z D
 n2:b2≠D
 n3:b3≠D
 lt:∀b,Z b→b<H.size
 sl:(acc=[]∧cl H D 0=some (.slice none 0 0))∨∃b o c,cl H D 0=some (.slice (some ⟨b,o,none⟩) acc.length c)∧SlE EJ H b o c acc∧Z b∧b≠D∧b≠b2∧b≠b3
theorem TkT.fr {b2 b3 D:Nat} {n:Int} {acc:List (Int×Int)} {Z:Nat→Prop} {H H':Mem} {Y:Nat→Nat→Prop} (h:TkT b2 b3 D n acc Z H) (hf:Fr Y H H') (hy:∀b o,Z b→¬Y b o):TkT b2 b3 D n acc Z H' where
 c2:=hf.keep h.c2 (hy _ _ h.z2)
 c3:=hf.keep h.c3 (hy _ _ h.z3)
 wr:=hf.wr h.wr
 z2:=h.z2
 z3:=h.z3
 zD:=h.zD
 n2:=h.n2
 n3:=h.n3
 lt:=fun b hb=>Nat.lt_of_lt_of_le (h.lt b hb) hf.size
 sl:=h.sl.elim (fun ⟨e,k⟩=>.inl ⟨e,hf.keep k (hy _ _ h.zD)⟩) fun ⟨b,o,c,k,hs,hz,r⟩=>.inr ⟨b,o,c,hf.keep k (hy _ _ h.zD),hs.fr hf (fun i _ _=>hy _ _ hz),hz,r⟩
theorem taker1_spec {B:World} {H:Mem} {b2 b3 D:Nat} {n:Int} {acc:List (Int×Int)} {Z:Nat→Prop} {x:Int×Int} (hT:TkT b2 b3 D n acc Z H) (hl:acc.length<4294967296):
  Fn Try.prog B 80 [.agg (EJ.enc x).toArray,ptr b2,ptr b3] H (fun r H'=>r=.bool (goN n (acc++[x]))∧∃Z',TkT b2 b3 D n (acc++[x]) Z' H'∧Fr (fun b _=>Z b) H H'∧∀b,Z' b→Z b∨H.size≤b):=by
 unfold ptr
 refine fn_of func80 rfl ntmps80 ?_
 refine (show Go' _ _ _ _ 23 [(0,_),(1,_),(2,_)] [.code _] _ from ?_)
 refine Ut 1 rfl (Ur 2 2 rfl (O.box rfl rfl rfl rfl ?_))
 intro H1 M1
 refine ⟨trivial,?_⟩
 have hs1:=M1.size
 have mi:Rd H1 H.size 0 (EJ.enc x):=M1.rd _ [] (by simp [Value.cells])
 have hlt:=hT.lt
 replace hT:=hT.fr (M1.fr nowhere) (fun _ _ _=>nw)
 obtain ⟨c2,c3,hw,z2,z3,zD,n2,n3,lt,hsl⟩:=hT
 unfold ptr at c2
 have l2:=hlt _ z2
 have l3:=hlt _ z3
 have lD:=hlt _ zD
 refine Uf 1 [1,2,3,4] rfl (Ut 1 rfl ?_)
 have hacc1:(acc++[x]).length=acc.length+1:=by simp
 rcases hsl with ⟨rfl,cD⟩|⟨b,o,c,cD,hs,zb,nb,nb2,nb3⟩
 ·
  refine UD (fun H'=>cl H' b2 0=some (.pointer (some ⟨D,0,none⟩))∧cl H' D 0=some (.slice none 0 0)∧Rd H' H.size 0 (EJ.enc x)) 9 207104 (by kernel_rfl) (⟨c2,cD,mi⟩) (UL 0 rfl (fun _ h=>h.1) (UL 0 rfl (fun _ h=>h.1) (UL 1 rfl (fun _ h=>h.2.1) (Us 0 rfl mi rfl (O.bsl (cs:=(EJ.enc x)) rfl rfl rfl ⟨underlying25,sizeOf27,zeroValue27,⟨_,typeInfo27,rfl⟩,rfl,by decide,by decide⟩ rfl (by decide) (by kernel_rfl) ?_)))))
  intro H2 M2
  have hs2:=M2.size
  replace c2:=M2.keep c2
  replace c3:=M2.keep c3
  replace cD:=M2.keep cD
  replace mi:=(M2.fr nowhere).rd mi (fun _ _=>nw)
  replace hw:=(M2.fr nowhere).wr hw
  have m2:Rd H2 H1.size 0 (EJ.enc x):=M2.rd _ [] (by simp)
  refine ⟨⟨c2,cD,mi⟩,?_⟩
  refine O.appN (m:=1) (news:=(EJ.enc x)) rfl rfl rfl ⟨underlying25,sizeOf27,zeroValue27,⟨_,typeInfo27,rfl⟩,rfl,by decide,by decide⟩ rfl rfl ⟨_,_,_,rfl,m2⟩ rfl (Nat.le_trans (Nat.mul_le_mul_left _ (Nat.le_of_ble_eq_true (n:=_) (m:=4096) rfl)) (by omega)) (by omega) (by omega) ?_
  intro cc H3 hsl3 fa hs3
  replace c2:=fa.keep c2 nw
  replace c3:=fa.keep c3 nw
  replace cD:=fa.keep cD nw
  replace mi:=fa.rd mi (fun _ _=>nw)
  replace hw:=fa.wr hw
  refine ⟨⟨c2,cD,mi⟩,?_⟩
  refine Uq 1 rfl (O.st3 rfl rfl sizeOf25 rfl rfl rfl rfl rfl hw ?_)
  intro H4 W4
  have hs4:=W4.size
  replace c2:=W4.fr.keep c2 (nr (.inl n2))
  replace c3:=W4.fr.keep c3 (nr (.inl n3))
  replace hw:=W4.fr.wr hw
  clear cD
  have cD:=W4.at
  refine Uf 0 [1,2,4] rfl (Ut 1 rfl ?_)
  by_cases hn:n<1
  ·
   refine Ud 11 17473 (by kernel_rfl) (Ul 0 rfl c3 (Uc 0 rfl (lssT (by omega)) (Uf 9 [4] rfl (Go'.ret (vs:=[_]) func80 results80 ⟨rfl,trivial⟩ ?_))))
   exact ⟨by unfold goN;rw [decide_eq_true hn];rfl,fun b=>Z b∨(H.size≤b∧b<H4.size),⟨c2,c3,hw,.inl z2,.inl z3,.inl zD,n2,n3,fun b hb=>hb.elim (fun h=>by have:=hlt b h;omega) (fun h=>h.2),.inr ⟨H2.size,0,cc,cD,(SlE.of (l:=[x]) hsl3 (by rw [row_one]) rfl).fr W4.fr (fun _ _ _=>nr (.inl (by omega))),.inr (by omega),by omega,by omega,by omega⟩⟩,(((M1.fr nowhere).trans (M2.fr nowhere)).trans fa).trans' W4.fr (fun _ _ _ h=>h.elim) (fun b o _ hz=>by rw [hz.1];exact zD),fun b hb=>hb.imp id (fun h=>h.1)⟩
  ·
   by_cases hn2:(1:Int)<n
   ·
    refine Ud 11 17473 (by kernel_rfl) (Ul 0 rfl c3 (Uc 0 rfl (lssF (by omega)) (Ul 1 rfl c2 (Ul 1 rfl cD (Ul 1 rfl c3 (Uc 0 rfl (lssT (by omega)) (Uf 2 [4] rfl (Go'.ret (vs:=[_]) func80 results80 ⟨rfl,trivial⟩ ?_))))))))
    exact ⟨by unfold goN;rw [decide_eq_false hn,hacc1];rw [decide_eq_true (by simpa using hn2)];rfl,fun b=>Z b∨(H.size≤b∧b<H4.size),⟨c2,c3,hw,.inl z2,.inl z3,.inl zD,n2,n3,fun b hb=>hb.elim (fun h=>by have:=hlt b h;omega) (fun h=>h.2),.inr ⟨H2.size,0,cc,cD,(SlE.of (l:=[x]) hsl3 (by rw [row_one]) rfl).fr W4.fr (fun _ _ _=>nr (.inl (by omega))),.inr (by omega),by omega,by omega,by omega⟩⟩,(((M1.fr nowhere).trans (M2.fr nowhere)).trans fa).trans' W4.fr (fun _ _ _ h=>h.elim) (fun b o _ hz=>by rw [hz.1];exact zD),fun b hb=>hb.imp id (fun h=>h.1)⟩
   ·
    refine Ud 11 17473 (by kernel_rfl) (Ul 0 rfl c3 (Uc 0 rfl (lssF (by omega)) (Ul 1 rfl c2 (Ul 1 rfl cD (Ul 1 rfl c3 (Uc 0 rfl (lssF (by omega)) (Uf 2 [4] rfl (Go'.ret (vs:=[_]) func80 results80 ⟨rfl,trivial⟩ ?_))))))))
    exact ⟨by unfold goN;rw [decide_eq_false hn,hacc1];rw [decide_eq_false (by simpa using hn2)];rfl,fun b=>Z b∨(H.size≤b∧b<H4.size),⟨c2,c3,hw,.inl z2,.inl z3,.inl zD,n2,n3,fun b hb=>hb.elim (fun h=>by have:=hlt b h;omega) (fun h=>h.2),.inr ⟨H2.size,0,cc,cD,(SlE.of (l:=[x]) hsl3 (by rw [row_one]) rfl).fr W4.fr (fun _ _ _=>nr (.inl (by omega))),.inr (by omega),by omega,by omega,by omega⟩⟩,(((M1.fr nowhere).trans (M2.fr nowhere)).trans fa).trans' W4.fr (fun _ _ _ h=>h.elim) (fun b o _ hz=>by rw [hz.1];exact zD),fun b hb=>hb.imp id (fun h=>h.1)⟩
 ·
  have lb:=hlt _ zb
  refine UD (fun H'=>cl H' b2 0=some (.pointer (some ⟨D,0,none⟩))∧cl H' D 0=some (.slice (some ⟨b,o,none⟩) acc.length c)∧Rd H' H.size 0 (EJ.enc x)) 9 207104 (by kernel_rfl) (⟨c2,cD,mi⟩) (UL 0 rfl (fun _ h=>h.1) (UL 0 rfl (fun _ h=>h.1) (UL 1 rfl (fun _ h=>h.2.1) (Us 0 rfl mi rfl (O.bsl (cs:=(EJ.enc x)) rfl rfl rfl ⟨underlying25,sizeOf27,zeroValue27,⟨_,typeInfo27,rfl⟩,rfl,by decide,by decide⟩ rfl (by decide) (by kernel_rfl) ?_)))))
  intro H2 M2
  have hs2:=M2.size
  replace c2:=M2.keep c2
  replace c3:=M2.keep c3
  replace cD:=M2.keep cD
  replace mi:=(M2.fr nowhere).rd mi (fun _ _=>nw)
  replace hw:=(M2.fr nowhere).wr hw
  have m2:Rd H2 H1.size 0 (EJ.enc x):=M2.rd _ [] (by simp)
  replace hs:=hs.fr (M2.fr nowhere) (fun _ _ _=>nw)
  refine ⟨⟨c2,cD,mi⟩,?_⟩
  refine O.app (m:=1) (news:=(EJ.enc x)) rfl rfl rfl ⟨underlying25,sizeOf27,zeroValue27,⟨_,typeInfo27,rfl⟩,rfl,by decide,by decide⟩ rfl hs rfl (.inl ⟨_,_,_,rfl,m2⟩) rfl rfl (Nat.le_trans (Nat.mul_le_mul_left _ (Nat.le_of_ble_eq_true (n:=_) (m:=4096) rfl)) (by omega)) (by omega) ?_
  intro bb oo cc H3 ha
  obtain ⟨fa,pa⟩:=(App.rp ha)
  have hs3:=fa.size
  have hsl3:=SlE.app (E:=EJ) ha
  have hbb:bb<H3.size:=Sl.lt hsl3 (by have:=hsl3.hle;rw [hacc1] at this;exact Nat.mul_pos (by omega) EJ.pos)
  replace c2:=fa.keep c2 (fun e=>nb2 e.symm)
  replace c3:=fa.keep c3 (fun e=>nb3 e.symm)
  replace cD:=fa.keep cD (fun e=>nb e.symm)
  replace mi:=fa.rd mi (fun _ _ e=>by have e':H.size=b:=e;omega)
  replace hw:=fa.wr hw
  refine ⟨⟨c2,cD,mi⟩,?_⟩
  refine Uq 1 rfl (O.st3 rfl rfl sizeOf25 rfl rfl rfl rfl rfl hw ?_)
  intro H4 W4
  have hs4:=W4.size
  replace c2:=W4.fr.keep c2 (nr (.inl n2))
  replace c3:=W4.fr.keep c3 (nr (.inl n3))
  replace hw:=W4.fr.wr hw
  clear cD
  have cD:=W4.at
  refine Uf 0 [1,2,4] rfl (Ut 1 rfl ?_)
  by_cases hn:n<1
  ·
   refine Ud 11 17473 (by kernel_rfl) (Ul 0 rfl c3 (Uc 0 rfl (lssT (by omega)) (Uf 9 [4] rfl (Go'.ret (vs:=[_]) func80 results80 ⟨rfl,trivial⟩ ?_))))
   exact ⟨by unfold goN;rw [decide_eq_true hn];rfl,fun b=>Z b∨(H.size≤b∧b<H4.size),⟨c2,c3,hw,.inl z2,.inl z3,.inl zD,n2,n3,fun b hb=>hb.elim (fun h=>by have:=hlt b h;omega) (fun h=>h.2),.inr ⟨bb,oo,cc,by rw [hacc1];exact cD,hsl3.fr W4.fr (fun _ _ _=>nr (.inl (by omega))),(by rcases pa with h|h;exact .inl (h▸zb);exact .inr (by omega)),by omega,by omega,by omega⟩⟩,(((M1.fr nowhere).trans (M2.fr nowhere)).trans' fa (Z:=fun b _=>Z b) (fun _ _ _ h=>h.elim) (fun y o _ hz=>by have hz':y=b:=hz;rw [hz'];exact zb)).trans' W4.fr (fun _ _ _ h=>h) (fun b o _ hz=>by rw [hz.1];exact zD),fun b hb=>hb.imp id (fun h=>h.1)⟩
  ·
   by_cases hn2:((acc.length+1:Nat):Int)<n
   ·
    refine Ud 11 17473 (by kernel_rfl) (Ul 0 rfl c3 (Uc 0 rfl (lssF (by omega)) (Ul 1 rfl c2 (Ul 1 rfl cD (Ul 1 rfl c3 (Uc 0 rfl (lssT (by omega)) (Uf 2 [4] rfl (Go'.ret (vs:=[_]) func80 results80 ⟨rfl,trivial⟩ ?_))))))))
    exact ⟨by unfold goN;rw [decide_eq_false hn,hacc1];rw [decide_eq_true (by simpa using hn2)];rfl,fun b=>Z b∨(H.size≤b∧b<H4.size),⟨c2,c3,hw,.inl z2,.inl z3,.inl zD,n2,n3,fun b hb=>hb.elim (fun h=>by have:=hlt b h;omega) (fun h=>h.2),.inr ⟨bb,oo,cc,by rw [hacc1];exact cD,hsl3.fr W4.fr (fun _ _ _=>nr (.inl (by omega))),(by rcases pa with h|h;exact .inl (h▸zb);exact .inr (by omega)),by omega,by omega,by omega⟩⟩,(((M1.fr nowhere).trans (M2.fr nowhere)).trans' fa (Z:=fun b _=>Z b) (fun _ _ _ h=>h.elim) (fun y o _ hz=>by have hz':y=b:=hz;rw [hz'];exact zb)).trans' W4.fr (fun _ _ _ h=>h) (fun b o _ hz=>by rw [hz.1];exact zD),fun b hb=>hb.imp id (fun h=>h.1)⟩
   ·
    refine Ud 11 17473 (by kernel_rfl) (Ul 0 rfl c3 (Uc 0 rfl (lssF (by omega)) (Ul 1 rfl c2 (Ul 1 rfl cD (Ul 1 rfl c3 (Uc 0 rfl (lssF (by omega)) (Uf 2 [4] rfl (Go'.ret (vs:=[_]) func80 results80 ⟨rfl,trivial⟩ ?_))))))))
    exact ⟨by unfold goN;rw [decide_eq_false hn,hacc1];rw [decide_eq_false (by simpa using hn2)];rfl,fun b=>Z b∨(H.size≤b∧b<H4.size),⟨c2,c3,hw,.inl z2,.inl z3,.inl zD,n2,n3,fun b hb=>hb.elim (fun h=>by have:=hlt b h;omega) (fun h=>h.2),.inr ⟨bb,oo,cc,by rw [hacc1];exact cD,hsl3.fr W4.fr (fun _ _ _=>nr (.inl (by omega))),(by rcases pa with h|h;exact .inl (h▸zb);exact .inr (by omega)),by omega,by omega,by omega⟩⟩,(((M1.fr nowhere).trans (M2.fr nowhere)).trans' fa (Z:=fun b _=>Z b) (fun _ _ _ h=>h.elim) (fun y o _ hz=>by have hz':y=b:=hz;rw [hz'];exact zb)).trans' W4.fr (fun _ _ _ h=>h) (fun b o _ hz=>by rw [hz.1];exact zD),fun b hb=>hb.imp id (fun h=>h.1)⟩
theorem TkT.out {b2 b3 D:Nat} {n:Int} {acc:List (Int×Int)} {Z:Nat→Prop} {H:Mem} (h:TkT b2 b3 D n acc Z H):∃v,cl H D 0=some v∧OutS EJ H v acc:=by
 rcases h.sl with ⟨e,k⟩|⟨b,o,c,k,hs,_⟩
 · exact ⟨_,k,.inl ⟨rfl,e⟩⟩
 · exact ⟨_,k,.inr ⟨b,o,c,rfl,hs⟩⟩
def cbTk (B:World) (b2 b3 D:Nat) (n:Int):Cb Try.prog B encIt 80 [] [ptr b2,ptr b3] (goN n) 4294967296 where
 T:=TkT b2 b3 D n
 fr:=fun h hf hz=>h.fr hf hz
 lt:=fun h hb=>h.lt _ hb
 call:=fun x hT hl=>taker1_spec hT hl
theorem taker_spec {B:World} {H:Mem} {D:Nat} {n:Int} (hD:cl H D 0=some (.slice none 0 0)) (hw:Wr H D 0 1):
  Fn Try.prog B 55 [ptr D,.int .i64 n] H (fun r H'=>∃b2 b3,r=.func (.func 80) #[] #[ptr b2,ptr b3]∧TkT b2 b3 D n [] (fun b=>b=D∨(H.size≤b∧b<H'.size)) H'∧Fr nowhere H H'):=by
 have hDl:=cl_lt hD
 unfold ptr
 refine fn_of func55 rfl ntmps55 ?_
 refine (show Go' _ _ _ _ 6 [(0,_),(1,_)] [.code _] _ from ?_)
 refine Ut 1 rfl (Ur 3 10 rfl (O.box rfl rfl rfl rfl ?_))
 intro H1 M1
 refine ⟨trivial,?_⟩
 have hs1:=M1.size
 replace hD:=M1.keep hD
 replace hw:=(M1.fr nowhere).wr hw
 have c2:cl H1 H.size 0=some (ptr D):=(M1.cl 0).trans rfl
 refine O.box rfl rfl rfl rfl ?_
 intro H2 M2
 refine ⟨trivial,?_⟩
 have hs2:=M2.size
 replace hD:=M2.keep hD
 replace hw:=(M2.fr nowhere).wr hw
 replace c2:=M2.keep c2
 have c3:cl H2 H1.size 0=some (.int .i64 n):=(M2.cl 0).trans rfl
 refine Uf 1 [2,3,4] rfl (Ut 1 rfl (Ur 2 0 rfl (O.mkf rfl rfl rfl rfl rfl rfl (Uf 1 [4] rfl (Go'.ret (vs:=[_]) func55 results55 ⟨rfl,trivial⟩ ?_)))))
 exact ⟨H.size,H1.size,rfl,⟨c2,c3,hw,.inr (by omega),.inr (by omega),.inl rfl,by omega,by omega,fun b hb=>hb.elim (fun h=>by omega) (fun h=>h.2),.inl ⟨rfl,hD⟩⟩,(M1.fr nowhere).trans (M2.fr nowhere)⟩
end Go.Bt.FG
namespace Go.Bt.FG
open Go Go.Proofs Go.Proofs.Try
set_option maxRecDepth 20000
set_option maxHeartbeats 4000000
set_option linter.unusedSectionVars false
section
variable [Inhabited Cx]
structure EPre {B:World} {g:FuncId} {us cs:List Value} {go:List (Int×Int)→Bool} {M:Nat} (cb:Cb Try.prog B encIt g us cs go M) (H:Mem) (P:Ps) (h:Nat) (t:Gt EJ h) (acc:List (Int×Int)) (Z:Nat→Prop):Prop where
 g:Gt.Good H P h t
 nz:∀b o,Gt.af h t b o→¬Z b
 st:cb.T acc Z H
 len:acc.length+(Gt.L h t).length≤M
theorem enscan0 {B:World} {g:FuncId} {us cs:List Value} {go:List (Int×Int)→Bool} {M:Nat} (cb:Cb Try.prog B encIt g us cs go M) (hcall:∀(args:Array Value) (w:World),(callFunc g args).run Try.prog w=.ok (.enter g args) w) {P:Ps} (hP:PsOk P) {H:Mem} {acc:List (Int×Int)} {Z:Nat→Prop} {t:Gt EJ 0} (hp:EPre cb H P 0 t acc Z):
  Fn Try.prog B 78 [.pointer (some ⟨Gt.p 0 t,0,none⟩),.func (.func g) us.toArray cs.toArray] H (fun r H'=>r=.bool (takes go acc (Gt.L 0 t)).2∧CbPost cb acc Z H (Gt.L 0 t) H'):=by
 obtain ⟨gg,X⟩:=t
 obtain ⟨hg,hnz,hst,hlen⟩:=hp
 have hN:NodeM EJ H gg X (.pointer none):=hg.1
 have hxm:X.length≤P.mx:=hg.2.2.2
 have hx255:=hP.hx
 replace hlen:acc.length+X.length≤M:=hlen
 show Fn _ _ _ [.pointer (some ⟨gg.p,0,none⟩),.func (.func g) us.toArray cs.toArray] _ (fun r H'=>r=.bool (takes go acc X).2∧CbPost cb acc Z H X H')
 refine fn_of func78 rfl ntmps78 ?_
 refine (show Go' _ _ _ _ 77 [(0,_),(1,_)] [.code _] _ from ?_)
 refine Ut 1 rfl (Ur 1 0 rfl (Uf 1 [0,1,4] rfl (Ut 2 rfl (Ur 2 8 rfl (Uq 1 rfl (O.callQ rfl rfl rfl call62 rfl (leaf_spec hN.c3) trivial (Uf 0 [0,1,4,8] rfl (Go'.condT rfl (Ut 2 rfl (Ur 1 0 rfl (Uf 1 [0,1,4,5] rfl ?_)))))))))))
 refine Ut 1 rfl (Go'.loop (Uk [0,1,4,5] rfl ?_))
 refine Go'.ind (σ:=Nat×(Nat→Prop)) (fun s=>X.length-s.1) (fun s H'=>s.1≤X.length∧(takes go acc (X.take s.1)).2=true∧cb.T (takes go acc (X.take s.1)).1 s.2 H'∧Fr (fun b _=>Z b) H H'∧∀b,s.2 b→Z b∨H.size≤b)
  (fun s=>[(0,.pointer (some ⟨gg.p,0,none⟩)),(1,.func (.func g) us.toArray cs.toArray),(4,.bool false),(5,.int .i64 (s.1:Int))]) (0,Z) ⟨Nat.zero_le _,by simp [takes],by simpa [takes] using hst,Fr.refl _ _,fun b hb=>.inl hb⟩ rfl ?_
 rintro ⟨j,Z1⟩ H2 ⟨hj,htk,hT,hF,hZ1⟩ ih
 simp only at hj htk hT hZ1
 replace hN:=NodeM.fr EJ hN hF (fun x y hxy hz=>hnz x y hxy hz)
 refine Ut 2 rfl ?_
 by_cases hlt:j<X.length
 ·
  obtain ⟨y,hy⟩:∃y,X[j]?=some y:=⟨X[j],List.getElem?_eq_getElem hlt⟩
  have hd:X.take (j+1)=X.take j++[y]:=by rw [List.take_add_one,hy];rfl
  have hall:X=X.take (j+1)++X.drop (j+1):=(List.take_append_drop _ _).symm
  have htl:=takes_length go (X.take j) acc
  rw [List.length_take] at htl
  have e1:takes go acc (X.take (j+1))=takes go (takes go acc (X.take j)).1 [y]:=by rw [hd,takes_on htk]
  generalize hA:(takes go acc (X.take j)).1=A at*
  refine Ur 7 256 rfl (Ul 4 rfl hN.c2 (Uc 1 rfl (lssT (by omega)) (Uf 0 [0,1,4,5,15] rfl (Go'.condT rfl (Ut 4 rfl ?_)))))
  cases hgo:go (A++[y])
  ·
   refine Ur 10 147712 rfl (Ul 4 rfl hN.c2 (Ux 1 j rfl (by omega) (by omega) (Us 0 rfl (hN.sl.item hy) rfl (O.callC rfl rfl rfl rfl hcall rfl (cb.call y hT (by omega)) ?_))))
   rintro _ H3 ⟨rfl,Z2,hT2,hF2,hZ2⟩
   rw [hgo]
   have hsz:=hF.size
   refine ⟨trivial,?_⟩
   refine Uf 1 [0,1,4,5,15,27] rfl (Go'.condT rfl (Ut 1 rfl (Ur 1 0 rfl (Uf 1 [0,1,4,5,15,27] rfl (Go'.ret (vs:=[_]) func78 results78 ⟨rfl,trivial⟩ ?_)))))
   have e2:takes go acc (X.take (j+1))=(A++[y],false):=by rw [e1];simp [takes,hgo]
   have e3:takes go acc X=(A++[y],false):=by rw [hall,takes_stop (by rw [e2]),e2]
   refine ⟨by rw [e3];rfl,Z2,by rw [e3];exact hT2,hF.trans' hF2 (fun _ _ _ h=>h) (fun b o hb hz=>(hZ1 b hz).elim id (fun h=>by omega)),fun b hb=>(hZ2 b hb).elim (hZ1 b) (fun h=>.inr (by omega))⟩
  ·
   refine Ur 10 147712 rfl (Ul 4 rfl hN.c2 (Ux 1 j rfl (by omega) (by omega) (Us 0 rfl (hN.sl.item hy) rfl (O.callC rfl rfl rfl rfl hcall rfl (cb.call y hT (by omega)) ?_))))
   rintro _ H3 ⟨rfl,Z2,hT2,hF2,hZ2⟩
   rw [hgo]
   have hsz:=hF.size
   refine ⟨trivial,?_⟩
   refine Uf 1 [0,1,4,5,15,27] rfl (Go'.condF rfl (Ut 2 rfl (Ur 3 0 rfl (Ua 1 (((j+1:Nat):Int)) rfl (by omega) (Uf 1 [0,1,4,5,15,27] rfl (Uk [0,1,4,5] rfl (Go'.inLoop ?_)))))))
   have e2:takes go acc (X.take (j+1))=(A++[y],true):=by rw [e1];simp [takes,hgo]
   exact ih (j+1,Z2) H3 ⟨by simp only;omega,by rw [e2],by rw [e2];exact hT2,hF.trans' hF2 (fun _ _ _ h=>h) (fun b o hb hz=>(hZ1 b hz).elim id (fun h=>by omega)),fun b hb=>(hZ2 b hb).elim (hZ1 b) (fun h=>.inr (by omega))⟩ (by simp only;omega)
 ·
  obtain rfl:j=X.length:=by omega
  refine Ur 7 256 rfl (Ul 4 rfl hN.c2 (Uc 1 rfl (lssF (by omega)) (Uf 0 [0,1,4,5,15] rfl (Go'.condF rfl (Ut 2 rfl (Ur 1 0 rfl (Uf 1 [0,1,4] rfl (Go'.ret (vs:=[_]) func78 results78 ⟨rfl,trivial⟩ ?_))))))))
  rw [List.take_length] at htk hT
  exact ⟨by rw [htk];rfl,Z1,hT,hF,hZ1⟩
theorem enscan {B:World} {g:FuncId} {us cs:List Value} {go:List (Int×Int)→Bool} {M:Nat} (cb:Cb Try.prog B encIt g us cs go M) (hcall:∀(args:Array Value) (w:World),(callFunc g args).run Try.prog w=.ok (.enter g args) w) {P:Ps} (hP:PsOk P):∀(h:Nat) {H:Mem} {acc:List (Int×Int)} {Z:Nat→Prop} {t:Gt EJ h},EPre cb H P h t acc Z→
  Fn Try.prog B 78 [.pointer (some ⟨Gt.p h t,0,none⟩),.func (.func g) us.toArray cs.toArray] H (fun r H'=>r=.bool (takes go acc (Gt.L h t)).2∧CbPost cb acc Z H (Gt.L h t) H')
 | 0,_,_,_,_,hp=>enscan0 cb hcall hP hp
 | h+1,H,acc,Z,(gg,X,K),hp=>by
  have ih:=@enscan B g us cs go M cb hcall P hP h
  obtain ⟨hg,hnz,hst,hlen⟩:=hp
  have hI:Inn H P h gg X ((Gt.ps h K).map some) K:=hg.inn
  have hKl:K.length=X.length+1:=hg.2.2.2.2.2.1
  have hxm:X.length≤P.mx:=hg.2.2.2.2.1
  have hx255:=hP.hx
  have hKL:(K.map (Gt.L h)).length=X.length+1:=by rw [List.length_map];exact hKl
  have hol:((Gt.ps h K).map some).length=X.length+1:=by rw [List.length_map,Gt.ps,List.length_map];exact hKl
  replace hlen:acc.length+(Pl.inter X (K.map (Gt.L h))).length≤M:=hlen
  have hlt:∀x y,innc h gg K x y→x<H.size:=fun x y hb=>hI.lt hb
  have hin:∀H',Fr (fun x _=>Z x) H H'→Inn H' P h gg X ((Gt.ps h K).map some) K:=fun H' hf=>hI.fr hf (fun x y hxy hz=>hnz x y hxy hz)
  have hkid:∀{H2:Mem} {Z1:Nat→Prop} {A:List (Int×Int)} {j:Nat} {k:Gt EJ h},K[j]?=some k→Fr (fun x _=>Z x) H H2→cb.T A Z1 H2→(∀b,Z1 b→Z b∨H.size≤b)→A.length+(Gt.L h k).length≤M→EPre cb H2 P h k A Z1:=by
   intro H2 Z1 A j k hkk hF hT hZ1 hA
   have hkK:k∈K:=List.mem_of_getElem? hkk
   have hI2:=hin H2 hF
   exact ⟨(hI2.c.1 k hkK).1,fun b o hb hz=>(hZ1 b hz).elim (fun hz=>hnz b o (.inr (.inr ⟨k,hkK,hb⟩)) hz) (fun hz=>by have:=hlt b o (.inr (.inr ⟨k,hkK,hb⟩));omega),hT,hA⟩
  have hcat:∀{Z1 Z2:Nat→Prop} {H2 H3:Mem},Fr (fun x _=>Z x) H H2→(∀b,Z1 b→Z b∨H.size≤b)→Fr (fun x _=>Z1 x) H2 H3→(∀b,Z2 b→Z1 b∨H2.size≤b)→Fr (fun x _=>Z x) H H3∧∀b,Z2 b→Z b∨H.size≤b:=by
   intro Z1 Z2 H2 H3 hF hZ1 hF2 hZ2
   have:=hF.size
   exact ⟨hF.trans' hF2 (fun _ _ _ h=>h) (fun b o hb hz=>(hZ1 b hz).elim id (fun h=>by omega)),fun b hb=>(hZ2 b hb).elim (hZ1 b) (fun h=>.inr (by omega))⟩
  obtain ⟨kn,hkn⟩:∃k,K[X.length]?=some k:=⟨K[X.length],List.getElem?_eq_getElem (by omega)⟩
  have hknL:(K.map (Gt.L h))[X.length]?=some (Gt.L h kn):=by rw [List.getElem?_map,hkn];rfl
  have hLn:Pl.inter X (K.map (Gt.L h))=Pl.pre X ((K.map (Gt.L h)).take X.length)++Gt.L h kn:=Pl.inter_last hKL hknL
  have hlast:Pl.inter (X.drop X.length) ((K.map (Gt.L h)).drop X.length)=Gt.L h kn:=by
   obtain ⟨h1,h2⟩:=List.getElem?_eq_some_iff.1 hknL
   rw [List.drop_length,←List.getElem_cons_drop (h:=h1),h2,List.drop_of_length_le (by omega)];rfl
  show Fn _ _ _ [.pointer (some ⟨gg.p,0,none⟩),.func (.func g) us.toArray cs.toArray] _ (fun r H'=>r=.bool (takes go acc (Pl.inter X (K.map (Gt.L h)))).2∧CbPost cb acc Z H (Pl.inter X (K.map (Gt.L h))) H')
  have hlenn:acc.length+(Gt.L h kn).length≤M:=by rw [hLn,List.length_append] at hlen;omega
  have hN:=hI.n
  have hk0:=hI.k
  refine fn_of func78 rfl ntmps78 ?_
  refine (show Go' _ _ _ _ 77 [(0,_),(1,_)] [.code _] _ from ?_)
  refine Ut 1 rfl (Ur 1 0 rfl (Uf 1 [0,1,4] rfl (Ut 2 rfl (Ur 2 8 rfl (Uq 1 rfl (O.callQ rfl rfl rfl call62 rfl (leaf_spec hI.n.c3) trivial (Uf 0 [0,1,4,8] rfl (Go'.condF rfl (Ut 3 rfl (Ur 1 0 rfl (Uf 1 [0,1,4,6] rfl ?_)))))))))))
  refine Ut 1 rfl (Go'.loop (Uk [0,1,4,6] rfl ?_))
  refine Go'.ind (σ:=Nat×(Nat→Prop)) (fun s=>X.length-s.1) (fun s H'=>s.1≤X.length∧(takes go acc (Pl.pre (X.take s.1) ((K.map (Gt.L h)).take s.1))).2=true∧cb.T (takes go acc (Pl.pre (X.take s.1) ((K.map (Gt.L h)).take s.1))).1 s.2 H'∧Fr (fun b _=>Z b) H H'∧∀b,s.2 b→Z b∨H.size≤b)
   (fun s=>[(0,.pointer (some ⟨gg.p,0,none⟩)),(1,.func (.func g) us.toArray cs.toArray),(4,.bool false),(6,.int .i64 (s.1:Int))]) (0,Z) ⟨Nat.zero_le _,by simp [takes,Pl.pre],by simpa [takes,Pl.pre] using hst,Fr.refl _ _,fun b hb=>.inl hb⟩ rfl ?_
  rintro ⟨j,Z1⟩ H3 ⟨hj,htk,hT,hF,hZ1⟩ ih2
  simp only at hj htk hT hZ1
  have hI3:=hin H3 hF
  obtain ⟨k,hkk⟩:∃k,K[j]?=some k:=⟨K[j],List.getElem?_eq_getElem (by omega)⟩
  have hkL:(K.map (Gt.L h))[j]?=some (Gt.L h k):=by rw [List.getElem?_map,hkk];rfl
  have hok:((Gt.ps h K).map some)[j]?=some (some (Gt.p h k)):=by rw [Gt.ps,List.map_map,List.getElem?_map,hkk];rfl
  have hall:=Pl.inter_pre j X (K.map (Gt.L h)) hKL hj
  have htl:=takes_length go (Pl.pre (X.take j) ((K.map (Gt.L h)).take j)) acc
  refine Ut 2 rfl ?_
  by_cases hlt2:j<X.length
  ·
   obtain ⟨y,hy⟩:∃y,X[j]?=some y:=⟨X[j],List.getElem?_eq_getElem hlt2⟩
   rw [Pl.inter_drop1 hy hkL] at hall
   have e1:X.take (j+1)=X.take j++[y]:=by rw [List.take_add_one,hy];rfl
   have e2:(K.map (Gt.L h)).take (j+1)=(K.map (Gt.L h)).take j++[Gt.L h k]:=by rw [List.take_add_one,hkL];rfl
   have hsn:Pl.pre (X.take (j+1)) ((K.map (Gt.L h)).take (j+1))=Pl.pre (X.take j) ((K.map (Gt.L h)).take j)++(Gt.L h k++[y]):=by rw [e1,e2,Pl.pre_snoc _ _ _ _ (by rw [List.length_take,List.length_take];omega)]
   have hlen2:=congrArg List.length hall
   simp only [List.length_append,List.length_cons] at hlen2
   have t1:=takes_on (r:=Gt.L h k++y::Pl.inter (X.drop (j+1)) ((K.map (Gt.L h)).drop (j+1))) htk
   have t2:=takes_on (r:=Gt.L h k++[y]) htk
   rw [←hall] at t1
   rw [←hsn] at t2
   generalize hA:(takes go acc (Pl.pre (X.take j) ((K.map (Gt.L h)).take j))).1=A at*
   refine Ur 7 256 rfl (Ul 4 rfl hI3.n.c2 (Uc 1 rfl (lssT (by omega)) (Uf 0 [0,1,4,6,34] rfl (Go'.condT rfl (Ut 5 rfl (Ur 12 2163776 rfl (Ul 3 rfl hI3.n.c3 (Ul 1 rfl hI3.k.c (Ux 1 j rfl (by omega) (by rw [hol];omega) (Ul 0 rfl (hI3.k.at hok) (Uq 1 rfl ?_)))))))))))
   refine O.call rfl rfl rfl call78 rfl (ih (hkid hkk hF hT hZ1 (by omega))) ?_
   rintro _ H4 ⟨rfl,Z4,hT4,hF4,hZ4⟩
   obtain ⟨hF5,hZ5⟩:=hcat hF hZ1 hF4 hZ4
   refine ⟨trivial,?_⟩
   refine Uf 1 [0,1,4,6,34,48] rfl ?_
   cases htk2:(takes go A (Gt.L h k)).2
   ·
    refine Go'.condT rfl (Ut 1 rfl (Ur 1 0 rfl (Uf 1 [0,1,4,6,34,48] rfl (Go'.ret (vs:=[_]) func78 results78 ⟨rfl,trivial⟩ ?_))))
    rw [takes_stop htk2] at t1
    unfold CbPost
    rw [t1]
    exact ⟨by rw [htk2];rfl,Z4,hT4,hF5,hZ5⟩
   ·
    refine Go'.condF rfl (Ut 2 rfl ?_)
    rw [takes_on htk2] at t1 t2
    have htl2:=takes_length go (Gt.L h k) A
    have hI4:=hin H4 hF5
    generalize hA2:(takes go A (Gt.L h k)).1=A2 at*
    cases hgo:go (A2++[y])
    ·
     refine Ur 10 147712 rfl (Ul 4 rfl hI4.n.c2 (Ux 1 j rfl (by omega) (by omega) (Us 0 rfl (hI4.n.sl.item hy) rfl (O.callC rfl rfl rfl rfl hcall rfl (cb.call y hT4 (by omega)) ?_))))
     rintro _ H6 ⟨rfl,Z6,hT6,hF6,hZ6⟩
     rw [hgo]
     obtain ⟨hF7,hZ7⟩:=hcat hF5 hZ5 hF6 hZ6
     refine ⟨trivial,?_⟩
     refine Uf 1 [0,1,4,6,34,48,58] rfl (Go'.condT rfl (Ut 1 rfl (Ur 1 0 rfl (Uf 1 [0,1,4,6,34,48,58] rfl (Go'.ret (vs:=[_]) func78 results78 ⟨rfl,trivial⟩ ?_)))))
     have e3:takes go acc (Pl.inter X (K.map (Gt.L h)))=(A2++[y],false):=by rw [t1];simp [takes,hgo]
     unfold CbPost
     rw [e3]
     exact ⟨rfl,Z6,hT6,hF7,hZ7⟩
    ·
     refine Ur 10 147712 rfl (Ul 4 rfl hI4.n.c2 (Ux 1 j rfl (by omega) (by omega) (Us 0 rfl (hI4.n.sl.item hy) rfl (O.callC rfl rfl rfl rfl hcall rfl (cb.call y hT4 (by omega)) ?_))))
     rintro _ H6 ⟨rfl,Z6,hT6,hF6,hZ6⟩
     rw [hgo]
     obtain ⟨hF7,hZ7⟩:=hcat hF5 hZ5 hF6 hZ6
     refine ⟨trivial,?_⟩
     refine Uf 1 [0,1,4,6,34,48,58] rfl (Go'.condF rfl (Ut 2 rfl (Ur 3 0 rfl (Ua 1 (((j+1:Nat):Int)) rfl (by omega) (Uf 1 [0,1,4,6,34,48,58] rfl (Uk [0,1,4,6] rfl (Go'.inLoop ?_)))))))
     have e3:takes go acc (Pl.pre (X.take (j+1)) ((K.map (Gt.L h)).take (j+1)))=(A2++[y],true):=by rw [t2];simp [takes,hgo]
     exact ih2 (j+1,Z6) H6 ⟨hlt2,by rw [e3],by rw [e3];exact hT6,hF7,hZ7⟩ (by simp only;omega)
  ·
   obtain rfl:j=X.length:=by omega
   rw [hlast] at hall
   have hlen2:=congrArg List.length hall
   simp only [List.length_append] at hlen2
   have t1:=takes_on (r:=Gt.L h k) htk
   obtain rfl:kn=k:=Option.some.inj (hkn.symm.trans hkk)
   rw [←hall] at t1
   refine Ur 7 256 rfl (Ul 4 rfl hI3.n.c2 (Uc 1 rfl (lssF (by omega)) (Uf 0 [0,1,4,6,34] rfl (Go'.condF rfl (Ut 2 rfl (Ud 19 35437937728 (by kernel_rfl) (Ul 3 rfl hI3.n.c3 (Ul 1 rfl hI3.k.c (Ul 3 rfl hI3.n.c3 (Ul 1 rfl hI3.k.c (Ub 1 (((X.length:Nat):Int)) rfl (by omega) ?_)))))))))))
   refine Ux 0 (X.length) rfl (by omega) (by rw [hol];omega) (Ul 0 rfl (hI3.k.at hok) (Uq 1 rfl (O.call rfl rfl rfl call78 rfl (ih (hkid hkk hF hT hZ1 (by omega))) ?_)))
   rintro _ H4 ⟨rfl,Z4,hT4,hF4,hZ4⟩
   obtain ⟨hF5,hZ5⟩:=hcat hF hZ1 hF4 hZ4
   refine ⟨trivial,?_⟩
   refine Uf 1 [4] rfl (Go'.ret (vs:=[_]) func78 results78 ⟨rfl,trivial⟩ ?_)
   unfold CbPost
   rw [t1]
   exact ⟨rfl,Z4,hT4,hF5,hZ5⟩
end
end Go.Bt.FG
namespace Go.Bt.FG
open Go Go.Proofs Go.Proofs.Try
set_option maxRecDepth 20000
set_option maxHeartbeats 4000000
set_option linter.unusedSectionVars false
section
variable [Inhabited Cx]
structure RtT (H:Mem) (tr:Nat) (P:Ps) (l:List (Int×Int)) (h:Nat) (t:Gt EJ h):Prop where
 tc:TrC H tr P.iso P.mx P.mn
 srt:Pl.Srt OI l
 cnt:cl H tr 3=some (.int .i64 (l.length:Int))
 g:Gt.Good H P h t
 x1:1≤(Gt.X h t).length
 e:Gt.L h t=l
 c:cl H tr 2=some (ptr (Gt.p h t))
 nt:∀b o,Gt.af h t b o→cx.base≤b
def Keeps (tr:Nat) (h:Nat) (t:Gt EJ h) (Z:Nat→Nat→Prop):Prop:=(∀b o,b<cx.base∧cx.own b→¬Z b o)∧∀b o,Gt.af h t b o→¬Z b o
theorem RtT.fr {H H':Mem} {tr:Nat} {P:Ps} {l:List (Int×Int)} {h:Nat} {t:Gt EJ h} {Z:Nat→Nat→Prop} (hR:RtT H tr P l h t) (hf:Fr Z H H') (hz:Keeps tr h t Z):RtT H' tr P l h t where
 tc:=hR.tc.fr hf fun b o hb _=>hz.1 b o hb
 srt:=hR.srt
 cnt:=hf.keep hR.cnt (hz.1 _ _ ⟨hR.tc.tb,hR.tc.tw⟩)
 g:=hR.g.fr hf hz.2
 x1:=hR.x1
 e:=hR.e
 c:=hf.keep hR.c (hz.1 _ _ ⟨hR.tc.tb,hR.tc.tw⟩)
 nt:=hR.nt
structure RtZ (H:Mem) (tr:Nat) (P:Ps):Prop where
 tc:TrC H tr P.iso P.mx P.mn
 cnt:cl H tr 3=some (.int .i64 0)
 c:cl H tr 2=some (.pointer none)
def RtQ (H H':Mem) (tr:Nat) (P:Ps) (x:Int×Int) (h:Nat) (t:Gt EJ h) (l':List (Int×Int)):Prop:=
 (l'=[]∧RtZ H' tr P)∨∃h',∃t':Gt EJ h',RtT H' tr P l' h' t'∧(∀b o,Gt.af h' t' b o→Gt.af h t b o∨H.size≤b)∧∀Q,Inf Q→Gt.Seg (Lo OI x Q) h t→Gt.Seg (Lo OI x Q) h' t'
theorem delhT_spec {B:World} {H:Mem} {tr:Nat} {P:Ps} (hP:PsOk P) {l:List (Int×Int)} {h:Nat} {t:Gt EJ h} {x:Int×Int} {hv:Value} {hz:Nat→Prop} (hR:RtT H tr P l h t) (hk:HintOk H hv hz) (ho:∀b o,Gt.af h t b o→¬hz b) (hlen:l.length<2305843009213693952) (hfx:Pl.fnd OI x l=true):
  Fn Try.prog B 61 [.pointer (some ⟨tr,0,none⟩),.agg (EJ.enc x).toArray,hv] H (fun _ H'=>RtQ H H' tr P x h t (Pl.del OI x l)∧HintOk H' hv hz∧Fr (fun b o=>Gt.af h t b o∨(b=tr∧(o=2∨o=3))∨hz b) H H'):=by
 have hh1:=hP.h1
 have hmm:=hP.hm
 obtain ⟨tc,srt,cnt,hg,hx1,e,hc,hnt⟩:=hR
 have htb:=tc.tb
 have htw:=tc.tw
 have hbs0:=tc.hb
 have hzb:=hk.base
 have hlt:∀b o,Gt.af h t b o→b<H.size:=fun b o hb=>hg.lt hb
 have hF:Fr (fun b o=>Gt.af h t b o∨(b=tr∧(o=2∨o=3))∨hz b) H H:=Fr.refl _ _
 have hht:=Gt.Good.tall hP hg hx1
 rw [e] at hht
 have hzt:∀b,hz b→b≠tr:=fun b hb e=>(hzb b hb).1 (e▸⟨htb,htw⟩)
 refine fn_of func61 rfl ntmps61 ?_
 refine (show Go' _ _ _ _ 82 [(0,_),(1,_),(2,_)] [.code _] _ from ?_)
 refine Ut 1 rfl (Ur 3 10 rfl (O.box rfl rfl rfl rfl ?_))
 intro H0 M0
 refine ⟨trivial,?_⟩
 have hs0:=M0.size
 replace tc:=tc.fr (M0.fr nowhere) (fun _ _ _ _=>nw)
 replace cnt:=(M0.fr nowhere).keep cnt nw
 replace hc:=(M0.fr nowhere).keep hc nw
 replace hk:=hk.fr (M0.fr nowhere) (fun _ _ _=>nw)
 replace hF:=hF.trans' (M0.fr nowhere) (fun _ _ _ h=>h) (fun _ _ _ h=>h.elim)
 replace hg:=hg.fr (M0.fr nowhere) (fun _ _ _=>nw)
 have mk:Rd H0 H.size 0 (EJ.enc x):=M0.rd _ [] (by simp [Value.cells])
 refine O.alloc rfl rfl rfl zeroValue27 ?_
 intro H1 M1
 refine ⟨trivial,?_⟩
 have hs1:=M1.size
 replace tc:=tc.fr (M1.fr nowhere) (fun _ _ _ _=>nw)
 replace cnt:=(M1.fr nowhere).keep cnt nw
 replace hc:=(M1.fr nowhere).keep hc nw
 replace hk:=hk.fr (M1.fr nowhere) (fun _ _ _=>nw)
 replace hF:=hF.trans' (M1.fr nowhere) (fun _ _ _ h=>h) (fun _ _ _ h=>h.elim)
 replace mk:=(M1.fr nowhere).rd mk (fun _ _=>nw)
 replace hg:=hg.fr (M1.fr nowhere) (fun _ _ _=>nw)
 have wr8:Wr H1 H0.size 0 2:=M1.wr 2 (by decide)
 refine Uf 1 [0,2,4,6,7] rfl (Ut 2 rfl (Ur 5 64 rfl (Ul 3 rfl (show cl _ tr 2=some (.pointer (some ⟨Gt.p h t,0,none⟩)) from hc) (O.isNil rfl rfl rfl rfl underlying107 rfl rfl (Uf 0 [0,2,4,6,7,14] rfl (Go'.condF rfl (Ut 2 rfl ?_)))))))
 refine Go'.draw2s (σ:=(Int×Int)×Bool×Nat) (fun H'=>Rd H' H.size 0 (EJ.enc x)) (fun s H'=>TrC H' tr P.iso P.mx P.mn∧cl H' tr 3=some (.int .i64 (l.length:Int))∧cl H' tr 2=some (ptr (Gt.p h t))∧HintOk H' hv hz∧Wr H' H0.size 0 2∧Rd H' s.2.2 0 (EJ.enc s.1)∧H1.size≤s.2.2∧s.2.2<H'.size∧Fr (fun b o=>Gt.af h t b o∨(b=tr∧(o=2∨o=3))∨hz b) H H'∧s.2.1=true∧∃L1,∃t1:Gt EJ h,Pl.dlr OI false x l=some (s.1,L1)∧Gt.Good H' P h t1∧Gt.p h t1=Gt.p h t∧(∀b o,Gt.af h t1 b o→(Gt.af h t b o∨H1.size≤b)∧b≠s.2.2∧b<H'.size)∧Gt.L h t1=L1∧SegD OI false x h t t1) (fun s=>[(0,.pointer (some ⟨tr,0,none⟩)),(6,.pointer (some ⟨H0.size,0,none⟩)),(7,.bool false),(8,.pointer (some ⟨s.2.2,0,none⟩)),(9,.bool s.2.1)]) 6 10 [(0,0),(1,0),(2,0),(3,0),(4,0),(5,0),(6,2),(7,0),(8,0),(9,0),(10,2),(11,2),(12,0)] [(0,0),(1,0),(2,0),(3,0),(4,0),(5,0),(10,2),(6,2),(7,0),(8,0),(9,0),(11,2),(12,0)] (by kernel_rfl) (by kernel_rfl) (mk) ?_ ?_ ?_
 ·
  intro _ _ _ hj
  refine US 4 rfl (fun _ h=>h) rfl (Uq 1 rfl (O.call rfl rfl rfl call86 rfl ((delH hP h (mx:=false) (x:=x) (t:=t) (dp:=0) ⟨tc,hg,hc,fun b o hb=>by have:=hnt b o hb;omega,by rw [e];exact srt,by rw [e];omega,hx1⟩ hk ho (by omega)).mono fun _ _=>DelQH.uni) ?_))
  rintro _ H2 ⟨hkc,Hm,hsm0,hFm,y,bb,rfl,hfr,hq⟩
  have hs2:=hfr.size
  have hsm:=hFm.size
  replace tc:=tc.fr hFm (fun b o hb _ hz=>(hzb b hz).1 hb)
  replace cnt:=hFm.keep cnt (fun hz=>hzt _ hz rfl)
  replace hc:=hFm.keep hc (fun hz=>hzt _ hz rfl)
  replace wr8:=hFm.wr wr8
  replace mk:=hFm.rd mk (fun _ _ hz=>by have:=(hzb _ hz).2;omega)
  replace hF:=hF.trans' hFm (fun _ _ _ h=>h) (fun b o _ hz=>.inr (.inr hz))
  replace tc:=tc.fr hfr (fun b o hb _ hz=>by have:=hnt b o hz;omega)
  replace cnt:=hfr.keep cnt (fun hz=>by have:=hnt _ _ hz;omega)
  replace hc:=hfr.keep hc (fun hz=>by have:=hnt _ _ hz;omega)
  replace wr8:=hfr.wr wr8
  replace mk:=hfr.rd mk (fun _ _ hz=>by have:=hlt _ _ hz;omega)
  replace hF:=hF.trans' hfr (fun _ _ _ h=>h) (fun b o _ hz=>.inl hz)
  replace hk:=hkc
  rw [e] at hq
  refine ⟨mk,?_⟩
  refine Uq 3 rfl (O.alloc rfl rfl rfl zeroValue27 ?_)
  intro H3 M3
  have hs3:=M3.size
  replace tc:=tc.fr (M3.fr nowhere) (fun _ _ _ _=>nw)
  replace cnt:=(M3.fr nowhere).keep cnt nw
  replace hc:=(M3.fr nowhere).keep hc nw
  replace hk:=hk.fr (M3.fr nowhere) (fun _ _ _=>nw)
  replace hF:=hF.trans' (M3.fr nowhere) (fun _ _ _ h=>h) (fun _ _ _ h=>h.elim)
  replace wr8:=(M3.fr nowhere).wr wr8
  replace mk:=(M3.fr nowhere).rd mk (fun _ _=>nw)
  have w6:Wr H3 H2.size 0 2:=M3.wr 2 (by decide)
  refine ⟨mk,?_⟩
  refine O.st (vs:=(EJ.enc y)) rfl rfl sizeOf27 rfl rfl rfl rfl rfl w6 ?_
  intro H4 W4
  have hs4:=W4.size
  replace tc:=tc.fr W4.fr (fun b o hb _=>nr (.inl (by omega)))
  replace cnt:=W4.fr.keep cnt (nr (.inl (by omega)))
  replace hc:=W4.fr.keep hc (nr (.inl (by omega)))
  replace hk:=hk.fr W4.fr (fun b o hb=>nr (.inl (by have:=(hzb b hb).2;omega)))
  replace wr8:=W4.fr.wr wr8
  replace mk:=W4.fr.rd mk (fun _ _=>nr (.inl (by omega)))
  replace hF:=hF.trans' W4.fr (fun _ _ _ h=>h) (fun b o hb h=>by have h':=h.1;omega)
  refine ⟨mk,?_⟩
  refine Uq 1 rfl ?_
  refine Pl.fin [(0,_),(6,_),(7,_),(8,_),(9,_)] ⟨rfl,rfl,rfl,rfl,rfl,trivial⟩ (hj (y,bb,H2.size) _ ?_)
  refine ⟨tc,cnt,hc,hk,wr8,W4.all,(show H1.size≤H2.size by omega),(show H2.size<H4.size by omega),hF,?_⟩
  rcases hq with ⟨h1,h2,h3⟩|⟨h1,L1,t1,h2,hT⟩
  ·
   have hgn:Pl.got OI x l=none:=by simpa [Pl.dlr] using h2
   rw [←Pl.got_isSome,hgn] at hfx
   cases hfx
  · exact ⟨h1,L1,t1,h2,(hT.g.fr (M3.fr nowhere) (fun _ _ _=>nw)).fr W4.fr (fun b o hb=>nr (.inl (by have:=hT.g.lt hb;omega))),hT.p,fun b o hb=>⟨(hT.a b o hb).imp id (fun h=>by omega),(show b≠H2.size by have:=hT.g.lt hb;omega),by have:=hT.g.lt hb;omega⟩,hT.l,hT.sd⟩
 ·
  intro _ _ _ hj
  refine US 4 rfl (fun _ h=>h) rfl (Uq 1 rfl (O.alloc rfl rfl rfl zeroValue27 ?_))
  intro H2 M2
  have hs2:=M2.size
  replace tc:=tc.fr (M2.fr nowhere) (fun _ _ _ _=>nw)
  replace cnt:=(M2.fr nowhere).keep cnt nw
  replace hc:=(M2.fr nowhere).keep hc nw
  replace hk:=hk.fr (M2.fr nowhere) (fun _ _ _=>nw)
  replace hF:=hF.trans' (M2.fr nowhere) (fun _ _ _ h=>h) (fun _ _ _ h=>h.elim)
  replace wr8:=(M2.fr nowhere).wr wr8
  replace mk:=(M2.fr nowhere).rd mk (fun _ _=>nw)
  replace hg:=hg.fr (M2.fr nowhere) (fun _ _ _=>nw)
  have w6:Wr H2 H1.size 0 2:=M2.wr 2 (by decide)
  refine ⟨mk,?_⟩
  refine O.call rfl rfl rfl call86 rfl ((delH hP h (mx:=false) (x:=x) (t:=t) (dp:=0) ⟨tc,hg,hc,fun b o hb=>by have:=hnt b o hb;omega,by rw [e];exact srt,by rw [e];omega,hx1⟩ hk ho (by omega)).mono fun _ _=>DelQH.uni) ?_
  rintro _ H3 ⟨hkc,Hm,hsm0,hFm,y,bb,rfl,hfr,hq⟩
  have hs3:=hfr.size
  have hsm:=hFm.size
  replace tc:=tc.fr hFm (fun b o hb _ hz=>(hzb b hz).1 hb)
  replace cnt:=hFm.keep cnt (fun hz=>hzt _ hz rfl)
  replace hc:=hFm.keep hc (fun hz=>hzt _ hz rfl)
  replace wr8:=hFm.wr wr8
  replace mk:=hFm.rd mk (fun _ _ hz=>by have:=(hzb _ hz).2;omega)
  replace hF:=hF.trans' hFm (fun _ _ _ h=>h) (fun b o _ hz=>.inr (.inr hz))
  replace tc:=tc.fr hfr (fun b o hb _ hz=>by have:=hnt b o hz;omega)
  replace cnt:=hfr.keep cnt (fun hz=>by have:=hnt _ _ hz;omega)
  replace hc:=hfr.keep hc (fun hz=>by have:=hnt _ _ hz;omega)
  replace wr8:=hfr.wr wr8
  replace mk:=hfr.rd mk (fun _ _ hz=>by have:=hlt _ _ hz;omega)
  replace hF:=hF.trans' hfr (fun _ _ _ h=>h) (fun b o _ hz=>.inl hz)
  replace hk:=hkc
  rw [e] at hq
  replace w6:=hfr.wr (hFm.wr w6)
  refine ⟨mk,?_⟩
  refine Uq 3 rfl (O.st (vs:=(EJ.enc y)) rfl rfl sizeOf27 rfl rfl rfl rfl rfl w6 ?_)
  intro H4 W4
  have hs4:=W4.size
  replace tc:=tc.fr W4.fr (fun b o hb _=>nr (.inl (by omega)))
  replace cnt:=W4.fr.keep cnt (nr (.inl (by omega)))
  replace hc:=W4.fr.keep hc (nr (.inl (by omega)))
  replace hk:=hk.fr W4.fr (fun b o hb=>nr (.inl (by have:=(hzb b hb).2;omega)))
  replace wr8:=W4.fr.wr wr8
  replace mk:=W4.fr.rd mk (fun _ _=>nr (.inl (by omega)))
  replace hF:=hF.trans' W4.fr (fun _ _ _ h=>h) (fun b o hb h=>by have h':=h.1;omega)
  refine ⟨mk,?_⟩
  refine Uq 1 rfl ?_
  refine Pl.fin [(0,_),(6,_),(7,_),(8,_),(9,_)] ⟨rfl,rfl,rfl,rfl,rfl,trivial⟩ (hj (y,bb,H1.size) _ ?_)
  refine ⟨tc,cnt,hc,hk,wr8,W4.all,(show H1.size≤H1.size from Nat.le_refl _),(show H1.size<H4.size by omega),hF,?_⟩
  rcases hq with ⟨h1,h2,h3⟩|⟨h1,L1,t1,h2,hT⟩
  ·
   have hgn:Pl.got OI x l=none:=by simpa [Pl.dlr] using h2
   rw [←Pl.got_isSome,hgn] at hfx
   cases hfx
  ·
   have hn:∀b o,Gt.af h t1 b o→b≠H1.size:=fun b o hb=>(hT.a b o hb).elim (fun h=>by have:=hlt b o h;omega) (fun h=>by omega)
   exact ⟨h1,L1,t1,h2,hT.g.fr W4.fr (fun b o hb=>nr (.inl (hn b o hb))),hT.p,fun b o hb=>⟨(hT.a b o hb).imp id (fun h=>by omega),hn b o hb,by have:=hT.g.lt hb;omega⟩,hT.l,hT.sd⟩
 clear hc cnt tc mk wr8 hF hk
 rintro ⟨y,bb,pb⟩ H4 ⟨tc,cnt,hc,hk,wr8,m6,hpb1,hpb2,hF,rfl,L1,t1,hd,hg1,hp1,ha1,hl1,hsd⟩
 simp only at m6 hpb1 hpb2 hd ha1
 refine Ut 2 rfl ?_
 have hgy:Pl.got OI x l=some y∧Pl.del OI x l=L1:=by
  simp only [Pl.dlr,Option.map_eq_some_iff,Prod.mk.injEq] at hd
  obtain ⟨z,hz,rfl,rfl⟩:=hd
  exact ⟨hz,rfl⟩
 have hln:=Pl.dlr_len OI hd
 have hnt1:∀b o,Gt.af h t1 b o→cx.base≤b:=fun b o hb=>(ha1 b o hb).1.elim (hnt b o) (fun h9=>by omega)
 have hne1:∀b o,Gt.af h t1 b o→b≠H0.size:=fun b o hb=>(ha1 b o hb).1.elim (fun h=>by have:=hlt b o h;omega) (fun h9=>by omega)
 have hga1:∀b o,Gt.af h t1 b o→Gt.af h t b o∨H.size≤b:=fun b o hb=>(ha1 b o hb).1.imp id (fun h=>by omega)
 have hsg1:∀Q,Inf Q→Gt.Seg (Lo OI x Q) h t→Gt.Seg (Lo OI x Q) h t1:=fun Q hQ hs=>hsd rfl Q hQ hs
 have hsrt1:Pl.Srt OI L1:=by rw [←hgy.2];exact srt.del OI
 rw [hgy.2]
 rw [←hp1] at hc
 obtain ⟨kp,hn1⟩:=hg1.node
 have hxm1:=hg1.xmx
 have hx255:=hP.hx
 have hR1:∀b o,b=tr→(o=2∨o=3)→(fun b o=>Gt.af h t b o∨(b=tr∧(o=2∨o=3))∨hz b) b o:=fun b o h1 h2=>.inr (.inl ⟨h1,h2⟩)
 have hzl:∀b,hz b→b<H.size:=fun b hb=>(hzb b hb).2
 have hfin:∀H',((L1=[]∧RtZ H' tr P)∨∃h',∃t':Gt EJ h',RtT H' tr P L1 h' t'∧(∀b o,Gt.af h' t' b o→Gt.af h t b o∨H.size≤b)∧∀Q,Inf Q→Gt.Seg (Lo OI x Q) h t→Gt.Seg (Lo OI x Q) h' t')→RtQ H H' tr P x h t L1:=fun H' hh=>hh
 generalize (fun b o=>Gt.af h t b o∨(b=tr∧(o=2∨o=3))∨hz b)=R0 at hF hR1 ⊢
 generalize Gt.af h t=A0 at hfin hga1
 generalize hS0:(fun R=>Gt.Seg R h t)=S0
 have hS1:∀R,Gt.Seg R h t=S0 R:=fun R=>by rw [←hS0]
 simp only [hS1] at hfin hsg1
 obtain ⟨G0,hG0⟩:∃G0:Mem→Prop,G0=fun H'=>RtQ H H' tr P x h t L1:=⟨_,rfl⟩
 refine Go'.mono (Q:=fun _ H'=>G0 H'∧HintOk H' hv hz∧Fr R0 H H') (fun v H' hh=>by rw [hG0] at hh;exact hh) ?_
 have hfin2:∀H',((L1=[]∧RtZ H' tr P)∨∃h',∃t':Gt EJ h',RtT H' tr P L1 h' t'∧(∀b o,Gt.af h' t' b o→A0 b o∨H.size≤b)∧∀Q,Inf Q→S0 (Lo OI x Q)→Gt.Seg (Lo OI x Q) h' t')→G0 H':=fun H' hh=>by rw [hG0];exact hfin H' hh
 clear hfin hG0 hS1 hS0 hsd hd hg hx1 hlt ha1 hp1 hht e ho hnt
 refine Ur 2 0 rfl (Uf 2 [0,6,7,8,30] rfl (Go'.condF rfl (Ut 3 rfl ?_)))
 by_cases h0:(Gt.X h t1).length=0
 ·
  match h,t1,hg1,hc,hga1,hsg1,hnt1,hne1,hl1,hn1,h0,hxm1 with
  | 0,t1,hg1,hc,hga1,hsg1,hnt1,hne1,hl1,hn1,h0,hxm1=>
   refine Ur 17 603983936 rfl (Ul 3 rfl (show cl _ tr 2=some (.pointer (some ⟨Gt.p 0 t1,0,none⟩)) from hc) (Ul 2 rfl (show cl _ (Gt.p 0 t1) 2=some (.slice (some ⟨(Gt.g 0 t1).ib,(Gt.g 0 t1).io,none⟩) (Gt.X 0 t1).length (Gt.g 0 t1).ic) from hn1.c2) (Uc 1 rfl (eqlT (by omega)) (Ul 4 rfl (show cl _ tr 2=some (.pointer (some ⟨Gt.p 0 t1,0,none⟩)) from hc) (O.callQ rfl rfl rfl call62 rfl (leaf_spec (show cl _ (Gt.p 0 t1) 3=some (.pointer none) from hg1.1.c3)) trivial (Uf 2 [0,6,7,8,51] rfl (Go'.condF rfl (Ut 2 rfl ?_))))))))
   have hL0:L1.length=0:=by rw [←hl1];exact h0
   refine Ur 8 32832 rfl (Ul 3 rfl cnt (Ub 0 (((l.length-1:Nat):Int)) rfl (by omega) (Uq 2 rfl (O.st rfl rfl sizeOf3 rfl rfl rfl rfl rfl (tc.wr.at0 3 1 (by omega)) ?_))))
   intro H6 W6
   have hs6:=W6.size
   replace tc:=tc.fr (W6.fr' 1 rfl) (fun b o hb he hz=>by have h1:=he hz.1;have h2:=hz.2.1;have h3:=hz.2.2;omega)
   replace hc:=W6.keep1 hc (by omega)
   replace hF:=hF.trans' W6.fr (fun _ _ _ h=>h) (fun b o _ h=>hR1 b o h.1 (by have h2:=h.2.1;have h3:=h.2.2;simp only [List.length_cons,List.length_nil] at h3;omega))
   replace m6:=W6.fr.rd m6 (fun _ _=>nr (.inl (by omega)))
   replace wr8:=W6.fr.wr wr8
   replace hk:=hk.fr W6.fr (fun b o hb=>nr (.inl (hzt b hb)))
   have cnt5:cl H6 tr 3=some (.int .i64 ((l.length-1:Nat):Int)):=W6.at
   refine ⟨trivial,?_⟩
   refine Uf 0 [0,6,7,8] rfl (Ut 2 rfl (Ur 5 64 rfl (Ul 3 rfl cnt5 (Uc 0 rfl (eqlT (by omega)) (Uf 0 [0,6,7,8,77] rfl (Go'.condT rfl (Ur 4 128 rfl (Uq 3 rfl (O.st rfl rfl sizeOf107 rfl rfl rfl rfl rfl (tc.wr.at0 2 1 (by omega)) ?_)))))))))
   intro H7 W7
   have hs7:=W7.size
   replace tc:=tc.fr (W7.fr' 1 rfl) (fun b o hb he hz=>by have h1:=he hz.1;have h2:=hz.2.1;have h3:=hz.2.2;omega)
   replace cnt5:=W7.keep1 cnt5 (by omega)
   replace hF:=hF.trans' W7.fr (fun _ _ _ h=>h) (fun b o _ h=>hR1 b o h.1 (by have h2:=h.2.1;have h3:=h.2.2;simp only [List.length_cons,List.length_nil] at h3;omega))
   replace m6:=W7.fr.rd m6 (fun _ _=>nr (.inl (by omega)))
   replace wr8:=W7.fr.wr wr8
   replace hk:=hk.fr W7.fr (fun b o hb=>nr (.inl (hzt b hb)))
   have hc6:cl H7 tr 2=some (.pointer none):=W7.at
   refine ⟨trivial,?_⟩
   refine Uf 0 [6,7,8] rfl (Ut 1 rfl (Ur 3 9 rfl (Us 0 rfl m6 rfl (O.st rfl rfl sizeOf27 rfl rfl rfl rfl rfl wr8 ?_))))
   intro H8 W8
   have hs8:=W8.size
   replace tc:=tc.fr W8.fr (fun b o hb _=>nr (.inl (by omega)))
   replace cnt5:=W8.fr.keep cnt5 (nr (.inl (by omega)))
   replace hc6:=W8.fr.keep hc6 (nr (.inl (by omega)))
   replace hk:=hk.fr W8.fr (fun b o hb=>nr (.inl (by have:=hzl b hb;omega)))
   replace hF:=hF.trans' W8.fr (fun _ _ _ h=>h) (fun b o hb h=>by have h':=h.1;omega)
   have m8:Rd H8 H0.size 0 (EJ.enc y):=W8.all
   refine ⟨trivial,?_⟩
   refine Uf 1 [6,7] rfl (Go'.ret (vs:=[_,_]) func61 results61 ⟨⟨_,_,rfl,fun _ _=>run_loadVar_agg (fun w=>⟨isAgg27 w,sizeOf27 w⟩) rfl m8⟩,rfl,trivial⟩ ?_)
   have hl5:L1=[]:=List.length_eq_zero_iff.1 (by omega)
   exact ⟨hfin2 _ (.inl ⟨hl5,⟨tc,by rw [show l.length-1=0 by omega] at cnt5;exact cnt5,hc6⟩⟩),hk,hF⟩
  | h+1,t1,hg1,hc,hga1,hsg1,hnt1,hne1,hl1,hn1,h0,hxm1=>
   refine Ur 17 603983936 rfl (Ul 3 rfl (show cl _ tr 2=some (.pointer (some ⟨Gt.p (h+1) t1,0,none⟩)) from hc) (Ul 2 rfl (show cl _ (Gt.p (h+1) t1) 2=some (.slice (some ⟨(Gt.g (h+1) t1).ib,(Gt.g (h+1) t1).io,none⟩) (Gt.X (h+1) t1).length (Gt.g (h+1) t1).ic) from hn1.c2) (Uc 1 rfl (eqlT (by omega)) (Ul 4 rfl (show cl _ tr 2=some (.pointer (some ⟨Gt.p (h+1) t1,0,none⟩)) from hc) (O.callQ rfl rfl rfl call62 rfl (leaf_spec (show cl _ (Gt.p (h+1) t1) 3=some (.pointer (some ⟨t1.1.cb,0,none⟩)) from hg1.1.c3)) trivial (Uf 2 [0,6,7,8,51] rfl (Go'.condT rfl ?_)))))))
   obtain ⟨g,X,K⟩:=t1
   have hX0:X=[]:=List.length_eq_zero_iff.1 h0
   subst hX0
   have hK1:K.length=1:=hg1.2.2.2.2.2.1
   obtain ⟨k,rfl⟩:∃k,K=[k]:=by
    match K,hK1 with
    | [k],_=>exact ⟨k,rfl⟩
   obtain ⟨hgz,hkm,hkd⟩:=hg1.2.2.2.2.2.2.1 k (List.mem_singleton.2 rfl)
   have hI:=Gt.Good.inn hg1
   have hk0:((Gt.ps h [k]).map some)[0]?=some (some (Gt.p h k)):=rfl
   have hlz:Gt.L h k=L1:=by rw [←hl1];rfl
   have hafk:∀b o,Gt.af h k b o→Gt.af (h+1) ((g,[],[k]):Gt EJ (h+1)) b o:=fun b o hb=>.inr (.inr ⟨k,List.mem_singleton.2 rfl,hb⟩)
   have hgaz:∀b o,Gt.af h k b o→A0 b o∨H.size≤b:=fun b o hb=>hga1 b o (hafk b o hb)
   have hsgz:∀Q,Inf Q→S0 (Lo OI x Q)→Gt.Seg (Lo OI x Q) h k:=fun Q hQ hs=>(hsg1 Q hQ hs).2 k (List.mem_singleton.2 rfl)
   have hntz:∀b o,Gt.af h k b o→cx.base≤b:=fun b o hb=>hnt1 b o (hafk _ _ hb)
   have hnez:∀b o,Gt.af h k b o→b≠H0.size:=fun b o hb=>hne1 b o (hafk _ _ hb)
   have hxz:1≤(Gt.X h k).length:=by omega
   have hne:=hgz.ne hxz
   have hL0:L1.length≠0:=by rw [←hlz];omega
   refine Ur 15 541344000 rfl (Ul 4 rfl (show cl _ tr 2=some (.pointer (some ⟨g.p,0,none⟩)) from hc) (Ul 2 rfl (show cl _ g.p 3=some (.pointer (some ⟨g.cb,0,none⟩)) from hI.n.c3) (Ul 1 rfl hI.k.c (Ux 0 0 rfl rfl (by simp [Gt.ps]) (Ul 0 rfl (hI.k.at hk0) (Uq 2 rfl (O.st rfl rfl sizeOf107 rfl rfl rfl rfl rfl (tc.wr.at0 2 1 (by omega)) ?_)))))))
   intro H5 W5
   have hs5:=W5.size
   replace tc:=tc.fr (W5.fr' 1 rfl) (fun b o hb he hz=>by have h1:=he hz.1;have h2:=hz.2.1;have h3:=hz.2.2;omega)
   replace cnt:=W5.keep1 cnt (by omega)
   replace hF:=hF.trans' W5.fr (fun _ _ _ h=>h) (fun b o _ h=>hR1 b o h.1 (by have h2:=h.2.1;have h3:=h.2.2;simp only [List.length_cons,List.length_nil] at h3;omega))
   replace m6:=W5.fr.rd m6 (fun _ _=>nr (.inl (by omega)))
   replace wr8:=W5.fr.wr wr8
   replace hk:=hk.fr W5.fr (fun b o hb=>nr (.inl (hzt b hb)))
   replace hgz:=hgz.fr W5.fr (fun b o hb=>nr (.inl (by have:=hntz b o hb;omega)))
   clear hc
   have hc:cl H5 tr 2=some (ptr (Gt.p h k)):=W5.at
   refine ⟨trivial,?_⟩
   refine Uf 0 [0,6,7,8] rfl (Ut 1 rfl (Ur 8 32832 rfl (Ul 3 rfl cnt (Ub 0 (((l.length-1:Nat):Int)) rfl (by omega) (Uq 2 rfl (O.st rfl rfl sizeOf3 rfl rfl rfl rfl rfl (tc.wr.at0 3 1 (by omega)) ?_))))))
   intro H6 W6
   have hs6:=W6.size
   replace tc:=tc.fr (W6.fr' 1 rfl) (fun b o hb he hz=>by have h1:=he hz.1;have h2:=hz.2.1;have h3:=hz.2.2;omega)
   replace hc:=W6.keep1 hc (by omega)
   replace hF:=hF.trans' W6.fr (fun _ _ _ h=>h) (fun b o _ h=>hR1 b o h.1 (by have h2:=h.2.1;have h3:=h.2.2;simp only [List.length_cons,List.length_nil] at h3;omega))
   replace m6:=W6.fr.rd m6 (fun _ _=>nr (.inl (by omega)))
   replace wr8:=W6.fr.wr wr8
   replace hk:=hk.fr W6.fr (fun b o hb=>nr (.inl (hzt b hb)))
   have cnt5:cl H6 tr 3=some (.int .i64 ((l.length-1:Nat):Int)):=W6.at
   refine ⟨trivial,?_⟩
   refine Uf 0 [0,6,7,8] rfl (Ut 2 rfl (Ur 5 64 rfl (Ul 3 rfl cnt5 (Uc 0 rfl (eqlF (by omega)) (Uf 0 [0,6,7,8,77] rfl (Go'.condF rfl (Ut 2 rfl (Ur 3 9 rfl (Us 0 rfl m6 rfl (O.st rfl rfl sizeOf27 rfl rfl rfl rfl rfl wr8 ?_))))))))))
   intro H8 W8
   have hs8:=W8.size
   replace tc:=tc.fr W8.fr (fun b o hb _=>nr (.inl (by omega)))
   replace cnt5:=W8.fr.keep cnt5 (nr (.inl (by omega)))
   replace hc:=W8.fr.keep hc (nr (.inl (by omega)))
   replace hk:=hk.fr W8.fr (fun b o hb=>nr (.inl (by have:=hzl b hb;omega)))
   replace hF:=hF.trans' W8.fr (fun _ _ _ h=>h) (fun b o hb h=>by have h':=h.1;omega)
   have m8:Rd H8 H0.size 0 (EJ.enc y):=W8.all
   refine ⟨trivial,?_⟩
   refine Uf 1 [6,7] rfl (Go'.ret (vs:=[_,_]) func61 results61 ⟨⟨_,_,rfl,fun _ _=>run_loadVar_agg (fun w=>⟨isAgg27 w,sizeOf27 w⟩) rfl m8⟩,rfl,trivial⟩ ?_)
   have hg5:=(hgz.fr W6.fr (fun b o hb=>nr (.inl (by have:=hntz b o hb;omega)))).fr W8.fr (fun b o hb=>nr (.inl (hnez b o hb)))
   have e9:l.length-1=L1.length:=by omega
   exact ⟨hfin2 _ (.inr ⟨h,k,⟨tc,hsrt1,by rw [e9] at cnt5;exact cnt5,hg5,hxz,hlz,hc,hntz⟩,hgaz,hsgz⟩),hk,hF⟩
 ·
  refine Ur 17 603983936 rfl (Ul 3 rfl (show cl _ tr 2=some (.pointer (some ⟨Gt.p h t1,0,none⟩)) from hc) (Ul 2 rfl (show cl _ (Gt.p h t1) 2=some (.slice (some ⟨(Gt.g h t1).ib,(Gt.g h t1).io,none⟩) (Gt.X h t1).length (Gt.g h t1).ic) from hn1.c2) (Uc 1 rfl (eqlF (by omega)) (Uq 5 rfl (Pl.pass2 rfl rfl rfl rfl trivial (Uf 2 [0,6,7,8,51] rfl (Go'.condF rfl (Ut 2 rfl ?_))))))))
  have hgz:=hg1
  have hlz:=hl1
  have hgaz:=hga1
  have hsgz:=hsg1
  have hntz:=hnt1
  have hnez:=hne1
  have hxz:1≤(Gt.X h t1).length:=by omega
  have hne:=hgz.ne hxz
  have hL0:L1.length≠0:=by rw [←hlz];omega
  refine Ur 8 32832 rfl (Ul 3 rfl cnt (Ub 0 (((l.length-1:Nat):Int)) rfl (by omega) (Uq 2 rfl (O.st rfl rfl sizeOf3 rfl rfl rfl rfl rfl (tc.wr.at0 3 1 (by omega)) ?_))))
  intro H6 W6
  have hs6:=W6.size
  replace tc:=tc.fr (W6.fr' 1 rfl) (fun b o hb he hz=>by have h1:=he hz.1;have h2:=hz.2.1;have h3:=hz.2.2;omega)
  replace hc:=W6.keep1 hc (by omega)
  replace hF:=hF.trans' W6.fr (fun _ _ _ h=>h) (fun b o _ h=>hR1 b o h.1 (by have h2:=h.2.1;have h3:=h.2.2;simp only [List.length_cons,List.length_nil] at h3;omega))
  replace m6:=W6.fr.rd m6 (fun _ _=>nr (.inl (by omega)))
  replace wr8:=W6.fr.wr wr8
  replace hk:=hk.fr W6.fr (fun b o hb=>nr (.inl (hzt b hb)))
  have cnt5:cl H6 tr 3=some (.int .i64 ((l.length-1:Nat):Int)):=W6.at
  refine ⟨trivial,?_⟩
  refine Uf 0 [0,6,7,8] rfl (Ut 2 rfl (Ur 5 64 rfl (Ul 3 rfl cnt5 (Uc 0 rfl (eqlF (by omega)) (Uf 0 [0,6,7,8,77] rfl (Go'.condF rfl (Ut 2 rfl (Ur 3 9 rfl (Us 0 rfl m6 rfl (O.st rfl rfl sizeOf27 rfl rfl rfl rfl rfl wr8 ?_))))))))))
  intro H8 W8
  have hs8:=W8.size
  replace tc:=tc.fr W8.fr (fun b o hb _=>nr (.inl (by omega)))
  replace cnt5:=W8.fr.keep cnt5 (nr (.inl (by omega)))
  replace hc:=W8.fr.keep hc (nr (.inl (by omega)))
  replace hk:=hk.fr W8.fr (fun b o hb=>nr (.inl (by have:=hzl b hb;omega)))
  replace hF:=hF.trans' W8.fr (fun _ _ _ h=>h) (fun b o hb h=>by have h':=h.1;omega)
  have m8:Rd H8 H0.size 0 (EJ.enc y):=W8.all
  refine ⟨trivial,?_⟩
  refine Uf 1 [6,7] rfl (Go'.ret (vs:=[_,_]) func61 results61 ⟨⟨_,_,rfl,fun _ _=>run_loadVar_agg (fun w=>⟨isAgg27 w,sizeOf27 w⟩) rfl m8⟩,rfl,trivial⟩ ?_)
  have hg5:=(hgz.fr W6.fr (fun b o hb=>nr (.inl (by have:=hntz b o hb;omega)))).fr W8.fr (fun b o hb=>nr (.inl (hnez b o hb)))
  have e9:l.length-1=L1.length:=by omega
  exact ⟨hfin2 _ (.inr ⟨h,t1,⟨tc,hsrt1,by rw [e9] at cnt5;exact cnt5,hg5,hxz,hlz,hc,hntz⟩,hgaz,hsgz⟩),hk,hF⟩
end
end Go.Bt.FG
