/- Contracts of functions of the program, proved by walking through their code. Conditions: those that each theorem names. -/
import Derived.Test.YtmcnochofpgfbaaToqC
import Derived.Test.YtmcnochofpgfbaaTogG
import Derived.Test.YtmcnochofpgfbaaToqL
import Derived.Test.YtmcnochofpgfbaaToLgT
set_option linter.unusedVariables false
namespace Go.Bt.FG
open Go Go.Proofs Go.Proofs.Try
set_option maxRecDepth 20000
set_option maxHeartbeats 4000000
set_option linter.unusedSectionVars false
section
variable [Inhabited Cx]
theorem st130:StT Try.prog 130 [(0,1),(1,1)] [.pointer none,.int .i64 0]:=⟨⟨_,underlying130,fun w=>by simp [Array.mapM_eq_mapM_toList,sizeOf3,sizeOf107]⟩,zeroValue130⟩
theorem drr_spec {B:World} {H:Mem} {tr dl:Nat} {P:Ps} (hP:PsOk P) {A R0:List (Int×Int)} {low hi:Int×Int} {ov:Value} {ex mi:Bool} {TA0:Nat→Nat→Prop} {v0:Value} (hs:Pl.Srt OI (A++R0)) (hpv:Pv OI A R0 low) (hlen:(A++R0).length<2147483648)
  (hT:(A++R0=[]∧RtZ H tr P∧∀b o,¬TA0 b o)∨∃h0,∃t0:Gt EJ h0,RtT H tr P (A++R0) h0 t0∧TA0=Gt.af h0 t0)
  (hov:(ov=.pointer none∧ex=true∧mi=false)∨∃ob,ov=.pointer (some ⟨ob,0,none⟩)∧cl H ob 0=some (.bool (!ex))∧cl H ob 1=some (.bool mi))
  (hod:∀ob,ov=.pointer (some ⟨ob,0,none⟩)→ob≠dl) (hdl:cx.base≤dl) (hda:∀b o,TA0 b o→b≠dl) (d0:cl H dl 0=some v0) (d3:cl H dl 3=some (.slice none 0 0)) (dw:Wr H dl 0 4):
  Fn Try.prog B 53 [ptr tr,.agg (EJ.enc low).toArray,.agg (EJ.enc hi).toArray,ov,ptr dl] H (fun r H'=>DrQ (dcR H TA0 tr dl hi mi ex P) A R0 r H'):=by
 obtain ⟨D,hD⟩:∃D:Dc,D=dcR H TA0 tr dl hi mi ex P:=⟨_,rfl⟩
 rw [←hD]
 unfold ptr
 refine fn_of func53 rfl ntmps53 ?_
 refine (show Go' _ _ _ _ 657 [(0,_),(1,_),(2,_),(3,_),(4,_)] [.code _] _ from ?_)
 refine Ut 1 rfl ?_
 have hdl0:dl<H.size:=cl_lt d0
 have htc:TrC H tr P.iso P.mx P.mn:=hT.elim (fun h=>h.2.1.tc) (fun ⟨_,_,h⟩=>h.1.tc)
 have htb:=htc.tb
 have hbs:=htc.hb
 have hF:Fr (fun b _=>b=dl) H H:=Fr.refl _ _
 refine Ur 4 170 rfl (O.box rfl rfl rfl rfl ?_)
 intro H1 M1
 refine ⟨trivial,?_⟩
 have hs1:=M1.size
 replace d0:=(M1.fr nowhere).keep d0 nw
 replace d3:=(M1.fr nowhere).keep d3 nw
 replace dw:=(M1.fr nowhere).wr dw
 replace hF:=hF.trans' (M1.fr nowhere) (fun _ _ _ h=>h) (fun _ _ _ h=>h.elim)
 have c5:cl H1 H.size 0=some (.pointer (some ⟨tr,0,none⟩)):=(M1.cl 0).trans rfl
 refine O.box rfl rfl rfl rfl ?_
 intro H2 M2
 refine ⟨trivial,?_⟩
 have hs2:=M2.size
 replace d0:=(M2.fr nowhere).keep d0 nw
 replace d3:=(M2.fr nowhere).keep d3 nw
 replace dw:=(M2.fr nowhere).wr dw
 replace c5:=(M2.fr nowhere).keep c5 nw
 replace hF:=hF.trans' (M2.fr nowhere) (fun _ _ _ h=>h) (fun _ _ _ h=>h.elim)
 have m6:Rd H2 H1.size 0 (EJ.enc low):=M2.rd _ [] (by simp [Value.cells])
 refine O.box rfl rfl rfl rfl ?_
 intro H3 M3
 refine ⟨trivial,?_⟩
 have hs3:=M3.size
 replace d0:=(M3.fr nowhere).keep d0 nw
 replace d3:=(M3.fr nowhere).keep d3 nw
 replace dw:=(M3.fr nowhere).wr dw
 replace c5:=(M3.fr nowhere).keep c5 nw
 replace m6:=(M3.fr nowhere).rd m6 (fun _ _=>nw)
 replace hF:=hF.trans' (M3.fr nowhere) (fun _ _ _ h=>h) (fun _ _ _ h=>h.elim)
 have m7:Rd H3 H2.size 0 (EJ.enc hi):=M3.rd _ [] (by simp [Value.cells])
 refine O.alloc rfl rfl rfl zeroValue61 ?_
 intro H4 M4
 refine ⟨trivial,?_⟩
 have hs4:=M4.size
 replace d0:=(M4.fr nowhere).keep d0 nw
 replace d3:=(M4.fr nowhere).keep d3 nw
 replace dw:=(M4.fr nowhere).wr dw
 replace c5:=(M4.fr nowhere).keep c5 nw
 replace m6:=(M4.fr nowhere).rd m6 (fun _ _=>nw)
 replace m7:=(M4.fr nowhere).rd m7 (fun _ _=>nw)
 replace hF:=hF.trans' (M4.fr nowhere) (fun _ _ _ h=>h) (fun _ _ _ h=>h.elim)
 have w10:Wr H4 H3.size 0 4:=M4.wr 4 (by decide)
 refine Uf 0 [0,1,2,3,4,5,6,7,10] rfl (Ut 3 rfl (Ur 2 9 rfl (Ul 0 rfl c5 (O.callQ rfl rfl rfl call57 rfl lock_spec trivial (Uf 0 [0,1,2,3,4,5,6,7,10,30] rfl (Go'.condF rfl (Ut 2 rfl ?_)))))))
 have hF4:Fr (fun b _=>b=dl) H H4:=hF
 refine Go'.join (σ:=Unit) (fun _ H'=>H'=H4) (fun _=>[(3,ov),(4,.pointer (some ⟨dl,0,none⟩)),(5,.pointer (some ⟨H.size,0,none⟩)),(6,.pointer (some ⟨H1.size,0,none⟩)),(7,.pointer (some ⟨H2.size,0,none⟩)),(10,.pointer (some ⟨H3.size,0,none⟩)),(11,.bool ex)]) ?_ ?_
 rotate_left
 ·
  intro tail
  rcases hov with ⟨rfl,hexx,hmii⟩|⟨ob,rfl,ho1,ho2⟩
  ·
   refine Ur 10 4096 rfl (Uq 1 rfl (O.isNil rfl rfl rfl rfl underlying63 rfl rfl (Uf 8 [0,1,2,3,4,5,6,7,10,11,30] rfl (Uk [3,4,5,6,7,10,11] rfl ?_))))
   subst hexx
   exact tail () _ rfl
  ·
   refine Ur 10 4096 rfl (Uq 1 rfl (O.isNil rfl rfl rfl rfl underlying63 rfl rfl (Ul 4 rfl (hF.keep ho1 (hod _ rfl)) (Uf 3 [0,1,2,3,4,5,6,7,10,11,30] rfl (Uk [3,4,5,6,7,10,11] rfl ?_)))))
   rw [show (!!ex)=ex by cases ex<;>rfl]
   exact tail () _ rfl
 rintro _ H' hHH
 have e:H4=H':=hHH.symm
 subst e
 clear hHH
 refine Ut 1 rfl ?_
 refine Go'.join (σ:=Unit) (fun _ H'=>Fr nowhere H4 H'∧H'.size=H4.size+1∧cl H' H4.size 0=some (.bool mi)) (fun _=>[(3,ov),(4,.pointer (some ⟨dl,0,none⟩)),(5,.pointer (some ⟨H.size,0,none⟩)),(6,.pointer (some ⟨H1.size,0,none⟩)),(7,.pointer (some ⟨H2.size,0,none⟩)),(10,.pointer (some ⟨H3.size,0,none⟩)),(11,.bool ex),(12,.pointer (some ⟨H4.size,0,none⟩))]) ?_ ?_
 rotate_left
 ·
  intro tail
  rcases hov with ⟨rfl,hexx,hmii⟩|⟨ob,rfl,ho1,ho2⟩
  ·
   refine Ur 10 659456 rfl (Uq 1 rfl (O.notNil rfl rfl rfl rfl underlying63 rfl rfl (Uq 6 rfl (O.alloc rfl rfl rfl zeroValue4 ?_))))
   intro H5 M5
   refine ⟨trivial,?_⟩
   have hs5:=M5.size
   have w12:=M5.wr 1 (by decide)
   refine O.st rfl rfl sizeOf4 rfl rfl rfl rfl rfl w12 ?_
   intro H6 W6
   have hs6:=W6.size
   refine ⟨trivial,?_⟩
   refine Uf 0 [3,4,5,6,7,10,11,12] rfl (Uk [3,4,5,6,7,10,11,12] rfl ?_)
   subst hmii
   exact tail () _ ⟨(M5.fr nowhere).trans' W6.fr (fun _ _ _ h=>h) (fun b o hb h=>by have:=h.1;omega),by omega,W6.at⟩
  ·
   refine Ur 10 659456 rfl (Uq 1 rfl (O.notNil rfl rfl rfl rfl underlying63 rfl rfl (Ul 4 rfl (hF.keep ho2 (hod _ rfl)) (Uq 1 rfl (O.alloc rfl rfl rfl zeroValue4 ?_)))))
   intro H5 M5
   refine ⟨trivial,?_⟩
   have hs5:=M5.size
   have w12:=M5.wr 1 (by decide)
   refine O.st rfl rfl sizeOf4 rfl rfl rfl rfl rfl w12 ?_
   intro H6 W6
   have hs6:=W6.size
   refine ⟨trivial,?_⟩
   refine Uf 0 [3,4,5,6,7,10,11,12] rfl (Uk [3,4,5,6,7,10,11,12] rfl ?_)
   exact tail () _ ⟨(M5.fr nowhere).trans' W6.fr (fun _ _ _ h=>h) (fun b o hb h=>by have:=h.1;omega),by omega,W6.at⟩
 rintro _ H6 ⟨hf6,hs6,c12⟩
 replace d0:=hf6.keep d0 nw
 replace d3:=hf6.keep d3 nw
 replace dw:=hf6.wr dw
 replace c5:=hf6.keep c5 nw
 replace m6:=hf6.rd m6 (fun _ _=>nw)
 replace m7:=hf6.rd m7 (fun _ _=>nw)
 replace w10:=hf6.wr w10
 replace hF:=hF.trans' hf6 (fun _ _ _ h=>h) (fun _ _ _ h=>h.elim)
 refine Ut 2 rfl (Ur 2 0 rfl (Uq 1 rfl (O.isNil rfl rfl rfl rfl underlying66 rfl rfl (Uf 0 [3,4,5,6,7,10,11,12,50] rfl (Go'.condF rfl (Ut 2 rfl (Ur 2 8 rfl (Uq 1 rfl (O.call rfl rfl rfl call75 rfl (clear_spec d0 d3 dw) ?_)))))))))
 rintro _ H7 ⟨rfl,hf7,dwn,d1,d2,d3n,d0n,hs7⟩
 have hkd:∀b o,H.size≤b→¬(fun b (_:Nat)=>b=dl) b o:=fun b o h e=>by have e2:b=dl:=e;omega
 replace c5:=hf7.keep c5 (hkd _ 0 (by omega))
 replace m6:=hf7.rd m6 (fun _ _=>hkd _ 0 (by omega))
 replace m7:=hf7.rd m7 (fun _ _=>hkd _ 0 (by omega))
 replace w10:=hf7.wr w10
 replace c12:=hf7.keep c12 (hkd _ 0 (by omega))
 replace hF:=hF.trans' hf7 (fun _ _ _ h=>h) (fun b o _ h=>h)
 clear d0 d3 dw
 refine ⟨trivial,?_⟩
 refine Uf 0 [3,4,5,6,7,10,11,12,50] rfl (Ut 1 rfl (Ur 2 0 rfl (O.mkf rfl rfl rfl rfl rfl rfl (Uf 1 [3,4,5,6,7,10,11,12,13,50] rfl (Ut 2 rfl ?_)))))
 refine Go'.join2 (σ:=Unit) (fun _ H'=>∃fn,cl H' dl 0=some fn∧(ex=true→fn=FUNV)∧ones [fn]=true∧Fr (fun b _=>b=dl) H7 H'∧Wr H' dl 0 4∧cl H' dl 1=some (.int .i64 0)∧cl H' dl 2=some (.int .i64 0)∧cl H' dl 3=some (.slice none 0 0)∧H'.size=H7.size) (fun _=>[(4,.pointer (some ⟨dl,0,none⟩)),(5,.pointer (some ⟨H.size,0,none⟩)),(6,.pointer (some ⟨H1.size,0,none⟩)),(7,.pointer (some ⟨H2.size,0,none⟩)),(10,.pointer (some ⟨H3.size,0,none⟩)),(11,.bool ex),(12,.pointer (some ⟨H4.size,0,none⟩)),(13,.func (.func 76) #[] #[.pointer (some ⟨H4.size,0,none⟩),.pointer (some ⟨H.size,0,none⟩),.pointer (some ⟨H2.size,0,none⟩)])]) ?_ ?_
 rotate_left
 ·
  intro tail
  refine Ur 1 0 rfl (Uf 1 [3,4,5,6,7,10,11,12,13,50,56] rfl ?_)
  cases hex:ex
  ·
   refine Go'.condF rfl (Ut 1 rfl (Uk [4,5,6,7,10,11,12,13] rfl ?_))
   rw [hex] at tail
   exact tail () _ ⟨.nilFunc,d0n,fun h=>Bool.noConfusion h,rfl,Fr.refl _ _,dwn,d1,d2,d3n,rfl⟩
  ·
   refine Go'.condT rfl (Ur 8 33028 rfl (Ul 1 rfl c5 (Ul 2 rfl (hF.keep htc.le (fun e=>by have e2:tr=dl:=e;omega)) (Uq 2 rfl (O.st rfl rfl sizeOf58 rfl rfl rfl rfl rfl (dwn.at0 0 1 (by decide)) ?_)))))
   intro H8 W8
   have hs8:=W8.size
   refine ⟨trivial,?_⟩
   refine Uf 0 [3,4,5,6,7,10,11,12,13,50,56] rfl (Uk [4,5,6,7,10,11,12,13] rfl ?_)
   rw [hex] at tail
   exact tail () _ ⟨FUNV,W8.at,fun _=>rfl,rfl,W8.fr.mono (fun b o _ h=>h.1),W8.fr.wr dwn,W8.keep1 d1 (.inr (by decide)),W8.keep1 d2 (.inr (by decide)),W8.keep1 d3n (.inr (by decide)),W8.size⟩
 rintro _ H8 ⟨fn,l0,hfn,hfo,hf8,lw,l1,l2,l3,hs8⟩
 clear d0n d1 d2 d3n dwn
 replace c5:=hf8.keep c5 (hkd _ 0 (by omega))
 replace m6:=hf8.rd m6 (fun _ _=>hkd _ 0 (by omega))
 replace m7:=hf8.rd m7 (fun _ _=>hkd _ 0 (by omega))
 replace w10:=hf8.wr w10
 replace c12:=hf8.keep c12 (hkd _ 0 (by omega))
 replace hF:=hF.trans' hf8 (fun _ _ _ h=>h) (fun b o _ h=>h)
 refine Ut 1 rfl (Ur 1 2 rfl (O.alloc rfl rfl rfl zeroValue103 ?_))
 intro H9 M9
 refine ⟨trivial,?_⟩
 have hs9:=M9.size
 replace c5:=(M9.fr nowhere).keep c5 nw
 replace m6:=(M9.fr nowhere).rd m6 (fun _ _=>nw)
 replace m7:=(M9.fr nowhere).rd m7 (fun _ _=>nw)
 replace w10:=(M9.fr nowhere).wr w10
 replace c12:=(M9.fr nowhere).keep c12 nw
 replace l0:=(M9.fr nowhere).keep l0 nw
 replace l1:=(M9.fr nowhere).keep l1 nw
 replace l2:=(M9.fr nowhere).keep l2 nw
 replace l3:=(M9.fr nowhere).keep l3 nw
 replace lw:=(M9.fr nowhere).wr lw
 replace hF:=hF.trans' (M9.fr nowhere) (fun _ _ _ h=>h) (fun _ _ _ h=>h.elim)
 have hk:HintM H9 H8.size:=HintM.new M9 (by intro i hi;rcases i with _|_|_|_|_|_|_|_|i<;>first|rfl|omega) (by intro i hi;rcases i with _|_|_|_|_|_|_|_|i<;>first|rfl|omega) (by decide)
 refine Uf 0 [4,5,6,7,10,11,12,13,14] rfl (Ut 1 rfl (Ur 3 41 rfl (Us 0 rfl m6 rfl (O.alloc rfl rfl rfl zeroValue27 ?_))))
 intro Ha Ma
 refine ⟨trivial,?_⟩
 have hsa:=Ma.size
 replace c5:=(Ma.fr nowhere).keep c5 nw
 replace m6:=(Ma.fr nowhere).rd m6 (fun _ _=>nw)
 replace m7:=(Ma.fr nowhere).rd m7 (fun _ _=>nw)
 replace w10:=(Ma.fr nowhere).wr w10
 replace c12:=(Ma.fr nowhere).keep c12 nw
 replace l0:=(Ma.fr nowhere).keep l0 nw
 replace l1:=(Ma.fr nowhere).keep l1 nw
 replace l2:=(Ma.fr nowhere).keep l2 nw
 replace l3:=(Ma.fr nowhere).keep l3 nw
 replace lw:=(Ma.fr nowhere).wr lw
 replace hF:=hF.trans' (Ma.fr nowhere) (fun _ _ _ h=>h) (fun _ _ _ h=>h.elim)
 replace hk:=hk.fr (Ma.fr nowhere) (fun _=>nw)
 have w15:=Ma.wr 2 (by decide)
 refine O.st rfl rfl sizeOf27 rfl rfl rfl rfl rfl w15 ?_
 intro Hb Wb
 have hsb:=Wb.size
 replace c5:=Wb.fr.keep c5 (nr (.inl (by omega)))
 replace m6:=Wb.fr.rd m6 (fun _ _=>(nr (.inl (by omega))))
 replace m7:=Wb.fr.rd m7 (fun _ _=>(nr (.inl (by omega))))
 replace w10:=Wb.fr.wr w10
 replace c12:=Wb.fr.keep c12 (nr (.inl (by omega)))
 replace l0:=Wb.fr.keep l0 (nr (.inl (by omega)))
 replace l1:=Wb.fr.keep l1 (nr (.inl (by omega)))
 replace l2:=Wb.fr.keep l2 (nr (.inl (by omega)))
 replace l3:=Wb.fr.keep l3 (nr (.inl (by omega)))
 replace lw:=Wb.fr.wr lw
 replace hF:=hF.trans' Wb.fr (fun _ _ _ h=>h) (fun b o hb h=>by have:=h.1;omega)
 replace hk:=hk.fr Wb.fr (fun _=>nr (.inl (by omega)))
 replace w15:=Wb.fr.wr w15
 have m15:=Wb.all
 refine ⟨trivial,?_⟩
 refine Uf 0 [4,5,6,7,10,11,12,13,14,15] rfl (Ut 1 rfl (Ur 1 0 rfl (Uf 1 [4,5,6,7,10,11,12,13,14,15,16] rfl (Ut 4 rfl ?_))))
 have q1:H1.size=H.size+1:=hs1
 have q2:H2.size=H.size+2:=by omega
 have q3:H3.size=H.size+3:=by omega
 have q4:H4.size=H.size+4:=by omega
 have q8:H8.size=H.size+5:=by omega
 have q9:H9.size=H.size+6:=by omega
 rw [q2] at m7
 rw [q3] at w10
 rw [q4] at c12
 rw [q8] at hk
 rw [q9] at w15 m15
 rw [q1,q2,q3,q4,q8,q9]
 have hTA0:∀b o,TA0 b o→cx.base≤b∧b<H.size:=fun b o hb=>by
  rcases hT with ⟨_,_,h9⟩|⟨h0,t0,hR,rfl⟩
  · exact absurd hb (h9 b o)
  · exact ⟨hR.nt b o hb,hR.g.lt hb⟩
 have hB:∀TA,(∀b o,TA b o→TA0 b o)→DrB D Hb low (.slice none 0 0) [] (fun _=>False) (fun _=>False) [] TA:=fun TA hTA=>by
  subst hD
  exact {
   sz:=(by show H.size+7≤_;omega)
   nb:=⟨hdl,hdl0,hbs,htb,(show H.size≤H.size+5 by omega),(show H.size+5<H.size+7 by omega),(show H.size≤H.size+6 by omega),(show H.size+6<H.size+7 by omega),(show H.size+5≠H.size+6 by omega)⟩
   ow:=(show OwR H.size tr hi mi Hb from ⟨c5,m7,c12,w10⟩)
   hk:=.inr ⟨_,rfl,fun b=>Iff.rfl,(by show H.size+5<_;omega),(fun hh=>by have h9:H.size+5<cx.base:=hh.1;omega),hk⟩
   m15:=m15
   w15:=w15
   stk:=.inl ⟨rfl,rfl⟩
   z16:=fun _ h=>h.elim
   lst:=(show LiS dl ex Hb _ [] from ⟨[],fn,0,⟨l0,l1,l2,⟨_,l3,.inl ⟨rfl,rfl⟩⟩,lw,id,fun _ h=>h.elim,fun _ e=>by rw [l3] at e;cases e;exact CapB.nil⟩,fun h=>⟨hfn h,List.Perm.refl _,Hp.heap_nil OI qkey,rfl⟩,fun _=>⟨rfl,rfl⟩,hfo⟩)
   zq:=fun _ h=>h.elim
   zz:=fun _ h=>h.elim
   pcs:=fun _ h=>absurd h List.not_mem_nil
   dj:=fun b o hb=>by
    rcases hb with hb|⟨p,hp,_⟩
    ·
     have h9:=hTA0 b o (hTA b o hb)
     refine ⟨h9.1,fun hh=>?_,by omega,.inl (hTA b o hb)⟩
     rcases hh with hh|hh|hh
     ·
      rcases hh with hh|hh
      ·
       have h8:H.size≤b:=hh.1
       omega
      · exact hda b o (hTA b o hb) hh
     · exact hh
     · exact hh
    · exact absurd hp List.not_mem_nil
   djp:=fun b o p hp=>absurd hp List.not_mem_nil
   fr0:=hF.mono fun b o _ h=>.inr (.inr h)
   srz:=fun _ h=>absurd h List.not_mem_nil }
 have J0:Jr D A R0 (.slice none 0 0) (A++R0).length Hb:=by
  refine ⟨R0,low,fun _=>False,fun _=>False,[],rfl,Dri.start OI hs,hpv,?_⟩
  have hkb:∀b o,b<cx.base∧cx.own b→¬(fun b (_:Nat)=>b=dl) b o:=fun b o hb e=>by have e2:b=dl:=e;omega
  rcases hT with ⟨h1,h2,h3⟩|⟨h0,t0,hR,hA⟩
  ·
   refine .inl ⟨h1,?_,hB _ fun _ _ h=>h.elim⟩
   rw [hD]
   exact ⟨h2.tc.fr hF fun b o hb _=>hkb b o hb,hF.keep h2.cnt (hkb _ 0 ⟨h2.tc.tb,h2.tc.tw⟩),hF.keep h2.c (hkb _ 0 ⟨h2.tc.tb,h2.tc.tw⟩)⟩
  ·
   refine .inr ⟨h0,t0,?_,hB _ (fun b o hb=>by rw [hA];exact hb),seg_start (hR.fr hF ⟨hkb,fun b o hb e=>hda b o (by rw [hA];exact hb) e⟩).g⟩
   rw [hD]
   exact hR.fr hF ⟨hkb,fun b o hb e=>hda b o (by rw [hA];exact hb) e⟩
 have hPD:PsOk D.P:=by rw [hD];exact hP
 have hDn:H.size=D.n:=by subst hD;rfl
 have hDd:dl=D.dl:=by subst hD;rfl
 have hn5:D.hb=D.n+5:=by subst hD;rfl
 have hn6:D.pb=D.n+6:=by subst hD;rfl
 have hm7:D.m=D.n+7:=by subst hD;rfl
 have hLS:∀H Zq Ts,D.LS H Zq Ts=LiS D.dl ex H Zq Ts:=by subst hD;intros;rfl
 have hLi:∀{H Zq Ts},D.LS H Zq Ts→LiS D.dl ex H Zq Ts:=fun h=>by rw [←hLS];exact h
 have hOW:∀{H},D.OW H→OwR D.n D.tr hi mi H:=by subst hD;exact fun h=>h
 have hWO:∀{H},OwR D.n D.tr hi mi H→D.OW H:=by subst hD;exact fun h=>h
 have hstp:D.stop=stopF hi mi:=by subst hD;rfl
 rw [hDn,hDd]
 rw [←hn5,←hn6]
 clear hB hTA0 hDn hDd hD hT hov hod hda htc hF hF4 hf6 hkd hf7 hf8 hfn hfo l0 l1 l2 l3 lw c5 c12 m6 m7 w10 hk w15 m15 Wb hs hpv hdl hdl0 htb hbs q1 q2 q3 q4 q8 q9 hs1 hs2 hs3 hs4 hs6 hs7 hs8 hs9 hsa hsb M1 M2 M3 M4 M9 Ma
 refine Uk [4,5,6,7,10,11,12,13,14,15,16] rfl (Go'.ind (σ:=Value×Nat) (fun s=>s.2) (fun s H'=>Jr D A R0 s.1 s.2 H') (fun s=>[(4,.pointer (some ⟨D.dl,0,none⟩)),(5,.pointer (some ⟨D.n,0,none⟩)),(6,.pointer (some ⟨D.n+1,0,none⟩)),(7,.pointer (some ⟨D.n+2,0,none⟩)),(10,.pointer (some ⟨D.n+3,0,none⟩)),(11,.bool ex),(12,.pointer (some ⟨D.n+4,0,none⟩)),(13,.func (.func 76) #[] #[.pointer (some ⟨D.n+4,0,none⟩),.pointer (some ⟨D.n,0,none⟩),.pointer (some ⟨D.n+2,0,none⟩)]),(14,.pointer (some ⟨D.hb,0,none⟩)),(15,.pointer (some ⟨D.pb,0,none⟩)),(16,s.1)]) (.slice none 0 0,(A++R0).length) J0 rfl ?_)
 clear J0
 rintro ⟨sv,m0⟩ H0 J ih0
 simp only at ih0
 obtain ⟨R,pv,Z16,Zq,Ts,hm0,dri,hpv0,hdt⟩:=J
 rcases hdt with ⟨e0,hz0,hB⟩|⟨h0,t0,hT,hB,hS⟩
 ·
  refine Ur 5 65 rfl (Ul 0 rfl (hOW hB.ow).1 (Ul 2 rfl hz0.c (O.isNil rfl rfl rfl rfl underlying107 rfl rfl (Uf 0 [4,5,6,7,10,11,12,13,14,15,16,69] rfl (Go'.condT rfl (Ut 1 rfl ?_))))))
  obtain ⟨vs,hvl,hvo,hvr⟩:=(hLi hB.lst).vals
  obtain ⟨va,vb,vc,vd,rfl⟩:∃a b c d,vs=[a,b,c,d]:=by
   match vs,hvl with
   | [a,b,c,d],_=>exact ⟨a,b,c,d,rfl⟩
  refine Ur 4 144 rfl (Uq 2 rfl (O.lds rfl rfl rfl (fun w=>⟨isAgg61 w,sizeOf61 w⟩) rfl hvl hvr (O.st (vs:=[va,vb,vc,vd]) rfl rfl sizeOf61 rfl rfl rfl hvl hvo (hOW hB.ow).2.2.2 ?_)))
  intro Hr Wr
  have hsr:=Wr.size
  refine ⟨trivial,?_⟩
  refine Uf 0 [4,5,6,7,10,11,12,13,14,15,16,69] rfl (Go'.ret (vs:=[_]) func53 results53 ⟨⟨_,_,rfl,fun _ _=>run_loadVar_agg (fun w=>⟨isAgg61 w,sizeOf61 w⟩) rfl Wr.all⟩,trivial⟩ ?_)
  exact ⟨R,pv,sv,[],Z16,Zq,Ts,dri,(fun x hx=>by rw [(List.append_eq_nil_iff.1 e0).2] at hx;cases hx),DrT.res (.inl ⟨e0,hz0,hB⟩) (by omega) Wr (hWO (OwR.res (hOW hB.ow) Wr)),[va,vb,vc,vd],rfl,hvl,Wr.fr.rd hvr (fun _ _=>nr (.inl (by have:=hB.nb.2.1;unfold Dc.n at *;omega)))⟩
 ·
  refine Ur 5 65 rfl (Ul 0 rfl (hOW hB.ow).1 (Ul 2 rfl (show cl _ D.tr 2=some (.pointer (some ⟨Gt.p h0 t0,0,none⟩)) from hT.c) (O.isNil rfl rfl rfl rfl underlying107 rfl rfl (Uf 0 [4,5,6,7,10,11,12,13,14,15,16,69] rfl (Go'.condF rfl (Ut 2 rfl ?_))))))
  obtain ⟨kp0,hn0⟩:=hT.g.node
  have hiso0:=hn0.c0
  rw [hT.g.isoe] at hiso0
  refine Ud 6 517 (by kernel_rfl) (Ul 0 rfl (hOW hB.ow).1 (Ul 0 rfl (hOW hB.ow).1 (Uq 2 rfl (O.callQ rfl rfl rfl call59 rfl (isoLoad_spec true (show cl _ D.tr 2=some (.pointer (some ⟨Gt.p h0 t0,0,none⟩)) from hT.c) hiso0 hT.tc.iso) trivial (Uf 1 [4,5,6,7,10,11,12,13,14,15,16,17,69] rfl (Ut 1 rfl (Ur 6 640 rfl (Uq 2 rfl (O.bld (cs:=(EK.enc (Gt.p h0 t0,(0:Int)))) rfl rfl rfl rfl (st130) rfl (by kernel_rfl) (O.bsl (cs:=(EK.enc (Gt.p h0 t0,(0:Int)))) rfl rfl rfl ⟨underlying129,sizeOf130,zeroValue130,⟨_,typeInfo130,rfl⟩,rfl,by decide,by decide⟩ rfl (by decide) (by kernel_rfl) ?_))))))))))
  intro Hs1 Ms1
  have hms1:=Ms1.size
  have hB1:=hB.nw (Ms1.fr nowhere)
  have rm1:Rd Hs1 _ 0 (row EK [(Gt.p h0 t0,(0:Int))]):=Ms1.rd _ [] (by simp [row])
  refine ⟨trivial,?_⟩
  refine O.appA (E:=EK) (Y:=[(Gt.p h0 t0,(0:Int))]) rfl rfl rfl ⟨underlying129,sizeOf130,zeroValue130,⟨_,typeInfo130,rfl⟩,rfl,by decide,by decide⟩ rfl hB1.stk rfl ⟨_,_,_,rfl,rm1⟩ (Nat.succ_pos _) (Nat.le_trans (Nat.mul_le_mul_left _ (Nat.le_of_ble_eq_true (n:=_) (m:=4096) rfl)) (by simp only [stI,List.length_map,List.length_cons,List.length_nil];omega)) (by simp only [stI,List.length_map,List.length_cons,List.length_nil];omega) ?_
  intro sv1 Ht1 hAt1 hFt1 hst1
  have hgt1:=hFt1.size
  have hB2:=hB1.stack (st':=[(Gt.p h0 t0,0)]) hFt1 hAt1 (fun b hb=>by
   rcases hb with hb|⟨rfl,hb⟩
   · exact ⟨.inl hb,by have:=(hB1.z16 b hb).2;omega⟩
   · exact ⟨.inr (Nat.le_refl _),hb⟩)
  have hT2:=(hT.fr (Ms1.fr nowhere) ⟨fun _ _ _ h=>h,fun _ _ _ h=>h⟩).fr hFt1 (hB1.keeps fun b o h=>.inr (.inl h))
  refine ⟨trivial,?_⟩
  refine Uf 1 [4,5,6,7,10,11,12,13,14,15,16,17,69] rfl (Ut 1 rfl ?_)
  have J:J1 D A R0 m0 sv1 (Gt.p h0 t0) ((A++R).length*(m0+1)+h0) Ht1:=
   ⟨R,pv,[],_,Zq,Ts,h0,t0,h0,t0,[],[],⟨dri,hT2,hB2,hS,.nil⟩,hpv0,⟨fun _ h=>absurd h List.not_mem_nil,fun _ h=>absurd h List.not_mem_nil⟩,rfl,Nat.le_of_eq hm0.symm,rfl⟩
  clear hB2 hT2 hB hS hT
  refine Go'.loop (Uk [4,5,6,7,10,11,12,13,14,15,16,17] rfl (Go'.ind (σ:=Value×Nat×Nat) (fun s=>s.2.2) (fun s H'=>J1 D A R0 m0 s.1 s.2.1 s.2.2 H') (fun s=>[(4,.pointer (some ⟨D.dl,0,none⟩)),(5,.pointer (some ⟨D.n,0,none⟩)),(6,.pointer (some ⟨D.n+1,0,none⟩)),(7,.pointer (some ⟨D.n+2,0,none⟩)),(10,.pointer (some ⟨D.n+3,0,none⟩)),(11,.bool ex),(12,.pointer (some ⟨D.n+4,0,none⟩)),(13,.func (.func 76) #[] #[.pointer (some ⟨D.n+4,0,none⟩),.pointer (some ⟨D.n,0,none⟩),.pointer (some ⟨D.n+2,0,none⟩)]),(14,.pointer (some ⟨D.hb,0,none⟩)),(15,.pointer (some ⟨D.pb,0,none⟩)),(16,s.1),(17,.pointer (some ⟨s.2.1,0,none⟩))]) (sv1,Gt.p h0 t0,(A++R).length*(m0+1)+h0) J rfl ?_))
  clear J
  clear dri hpv0 hm0 hAt1 hFt1 hgt1 hst1 hB1 rm1
  rintro ⟨sv,p,m1⟩ H J ih1
  simp only at ih1 J
  obtain ⟨R,pv,fs,Z16,Zq,Ts,h0,t0,h,t,A1,C1,J,hpv,hwv,rfl,hm0,hm1⟩:=J
  refine (show Go' _ _ _ _ _ [(4,.pointer (some ⟨D.dl,0,none⟩)),(5,.pointer (some ⟨D.n,0,none⟩)),(6,.pointer (some ⟨D.n+1,0,none⟩)),(7,.pointer (some ⟨D.n+2,0,none⟩)),(10,.pointer (some ⟨D.n+3,0,none⟩)),(11,.bool ex),(12,.pointer (some ⟨D.n+4,0,none⟩)),(13,.func (.func 76) #[] #[.pointer (some ⟨D.n+4,0,none⟩),.pointer (some ⟨D.n,0,none⟩),.pointer (some ⟨D.n+2,0,none⟩)]),(14,.pointer (some ⟨D.hb,0,none⟩)),(15,.pointer (some ⟨D.pb,0,none⟩)),(16,sv),(17,.pointer (some ⟨Gt.p h t,0,none⟩))] _ _ from ?_)
  refine Ut 3 rfl ?_
  obtain ⟨b16,o16,c16,rfl,hz16,hb16,hsl⟩:=Acc.stk J.B.stk
  obtain ⟨kp,hn⟩:=Gt.Good.nodeP J.good
  have hsX:=Gt.srtX J.good J.srtL
  have hx1:=J.x1 hPD
  have hxm:=J.good.xmx
  have hx255:=hPD.hx
  have hll:(A++R).length≤(A++R0).length:=by
   have:=J.dri.pm.length_eq
   simp only [List.length_append] at this ⊢
   omega
  have htl:=J.tall hPD
  refine Ur 12 8209 rfl (Ul 0 rfl (hOW J.B.ow).1 (Us 1 rfl J.B.m15 rfl (Ub 2 (((fs.length:Nat):Int)) rfl (by omega) (O.call rfl rfl rfl call60 rfl (find_spec J.T.tc pv hn hsX (by omega) hx1 J.B.hk J.off5 (dp:=fs.length) (by omega)) ?_))))
  rintro _ H1 ⟨rfl,hf1,hk1⟩
  replace J:=J.step hf1 (fun b o h=>h) hk1
  refine ⟨trivial,?_⟩
  refine Uf 5 [4,5,6,7,10,11,12,13,14,15,16,17,18,19] rfl (Ut 4 rfl (Uk [4,5,6,7,10,11,12,13,14,15,16,17,18,19] rfl ?_))
  have J':J2 D A R0 m0 m1 (.slice (some ⟨b16,o16,none⟩) (fs.length+1) c16) (Gt.p h t) (Pl.pos OI pv (Gt.X h t)) (Pl.fnd OI pv (Gt.X h t)) (2*(A++R).length+(if h=0 then 1 else 0)) H1:=
   ⟨R,pv,fs,Z16,Zq,Ts,h0,t0,h,t,A1,C1,J,rfl,hm0,rfl,J.cu hpv hwv hm1⟩
  refine Go'.ind (σ:=Value×Nat×Nat×Bool×Nat) (fun s=>s.2.2.2.2) (fun s H'=>J2 D A R0 m0 m1 s.1 s.2.1 s.2.2.1 s.2.2.2.1 s.2.2.2.2 H') (fun s=>[(4,.pointer (some ⟨D.dl,0,none⟩)),(5,.pointer (some ⟨D.n,0,none⟩)),(6,.pointer (some ⟨D.n+1,0,none⟩)),(7,.pointer (some ⟨D.n+2,0,none⟩)),(10,.pointer (some ⟨D.n+3,0,none⟩)),(11,.bool ex),(12,.pointer (some ⟨D.n+4,0,none⟩)),(13,.func (.func 76) #[] #[.pointer (some ⟨D.n+4,0,none⟩),.pointer (some ⟨D.n,0,none⟩),.pointer (some ⟨D.n+2,0,none⟩)]),(14,.pointer (some ⟨D.hb,0,none⟩)),(15,.pointer (some ⟨D.pb,0,none⟩)),(16,s.1),(17,.pointer (some ⟨s.2.1,0,none⟩)),(18,.int .i64 (s.2.2.1:Int)),(19,.bool s.2.2.2.1)]) (.slice (some ⟨b16,o16,none⟩) (fs.length+1) c16,Gt.p h t,Pl.pos OI pv (Gt.X h t),Pl.fnd OI pv (Gt.X h t),2*(A++R).length+(if h=0 then 1 else 0)) J' rfl ?_
  clear J' J hpv hwv hm0 hm1 hsl hn hsX hx1 hxm hll htl hf1 hk1
  rintro ⟨sv,p,i,fd,m2⟩ H J ih2
  simp only at ih2 J
  obtain ⟨R,pv,fs,Z16,Zq,Ts,h0,t0,h,t,A1,C1,J,rfl,hm0,hm2,hcu⟩:=J
  obtain ⟨b16,o16,c16,rfl,hz16,hb16,hsl⟩:=Acc.stk J.B.stk
  have hx1:=J.x1 hPD
  have hxm:=J.good.xmx
  have hll:(A++R).length≤(A++R0).length:=by
   have:=J.dri.pm.length_eq
   simp only [List.length_append] at this ⊢
   omega
  have htl:=J.tall hPD
  refine (show Go' _ _ _ _ _ [(4,.pointer (some ⟨D.dl,0,none⟩)),(5,.pointer (some ⟨D.n,0,none⟩)),(6,.pointer (some ⟨D.n+1,0,none⟩)),(7,.pointer (some ⟨D.n+2,0,none⟩)),(10,.pointer (some ⟨D.n+3,0,none⟩)),(11,.bool ex),(12,.pointer (some ⟨D.n+4,0,none⟩)),(13,.func (.func 76) #[] #[.pointer (some ⟨D.n+4,0,none⟩),.pointer (some ⟨D.n,0,none⟩),.pointer (some ⟨D.n+2,0,none⟩)]),(14,.pointer (some ⟨D.hb,0,none⟩)),(15,.pointer (some ⟨D.pb,0,none⟩)),(16,.slice (some ⟨b16,o16,none⟩) (fs.length+1) c16),(17,.pointer (some ⟨Gt.p h t,0,none⟩)),(18,.int .i64 (i:Int)),(19,.bool fd)] _ _ from ?_)
  rcases h with _|h
  rotate_left
  ·
   obtain ⟨g,X,K⟩:=t
   obtain ⟨k,R1,R2,hcu,hft,hff⟩:=hcu
   replace hcu:CuI A R A1 C1 ((g,X,K):Gt EJ (h+1)) i k R1 R2:=hcu
   replace hft:fd=true→R1=[]∧i<X.length:=hft
   replace hff:fd=false→Pv OI A R pv∧Pv OI A1 C1 pv∧i=Pl.pos OI pv X∧(A++R).length*(m0+1)+(h+1)≤m1:=hff
   have hI:Inn H D.P h g X ((Gt.ps h K).map some) K:=J.good.inn
   have hKl:K.length=X.length+1:=J.good.2.2.2.2.2.1
   replace hx1:1≤X.length:=hx1
   replace hxm:X.length≤D.P.mx:=hxm
   have hx255:=hPD.hx
   have hmn1:=hPD.h1
   have hil:i≤X.length:=by
    have:=(List.getElem?_eq_some_iff.1 hcu.kk).1
    have e:((g,X,K):Gt EJ (h+1)).2.2.length=K.length:=rfl
    omega
   refine Ur 5 64 rfl (Ul 3 rfl hI.n.c3 (O.notNil rfl rfl rfl rfl underlying117 rfl rfl (Uf 0 [4,5,6,7,10,11,12,13,14,15,16,17,18,19,97] rfl (Go'.condT rfl (Ut 2 rfl ?_)))))
   refine Go'.join (σ:=Bool) (fun s H'=>Fr nowhere H H'∧(s=true→∃x2,X[i+1]?=some x2∧(D.P.mn<X.length∨fs=[])∧OI.lt x2 hi=true)) (fun s=>[(4,.pointer (some ⟨D.dl,0,none⟩)),(5,.pointer (some ⟨D.n,0,none⟩)),(6,.pointer (some ⟨D.n+1,0,none⟩)),(7,.pointer (some ⟨D.n+2,0,none⟩)),(10,.pointer (some ⟨D.n+3,0,none⟩)),(11,.bool ex),(12,.pointer (some ⟨D.n+4,0,none⟩)),(13,.func (.func 76) #[] #[.pointer (some ⟨D.n+4,0,none⟩),.pointer (some ⟨D.n,0,none⟩),.pointer (some ⟨D.n+2,0,none⟩)]),(14,.pointer (some ⟨D.hb,0,none⟩)),(15,.pointer (some ⟨D.pb,0,none⟩)),(16,.slice (some ⟨b16,o16,none⟩) (fs.length+1) c16),(17,.pointer (some ⟨g.p,0,none⟩)),(18,.int .i64 (i:Int)),(19,.bool fd),(146,.bool s)]) ?_ ?_
   rotate_left
   ·
    intro tail
    by_cases c1:i+1<X.length
    rotate_left
    ·
     refine Ud 49 45808636341451435732109361408 (by kernel_rfl) (Ul 4 rfl hI.n.c2 (Ub 1 (((X.length-1:Nat):Int)) rfl (by omega) (Uc 0 rfl (lssF (by omega)) (Uq 39 rfl (Pl.pass2 rfl rfl rfl rfl trivial (Uf 1 [4,5,6,7,10,11,12,13,14,15,16,17,18,19,97,146] rfl (Uk [4,5,6,7,10,11,12,13,14,15,16,17,18,19,146] rfl ?_)))))))
     exact tail false _ ⟨Fr.refl _ _,fun e=>Bool.noConfusion e⟩
    ·
     obtain ⟨x2,hx2⟩:∃x2,X[i+1]?=some x2:=⟨X[i+1],List.getElem?_eq_getElem c1⟩
     by_cases c2:D.P.mn<X.length
     ·
      cases hlt:OI.lt x2 hi
      ·
       refine Ud 49 45808636341451435732109361408 (by kernel_rfl) (Ul 4 rfl hI.n.c2 (Ub 1 (((X.length-1:Nat):Int)) rfl (by omega) (Uc 0 rfl (lssT (by omega)) (Ul 4 rfl hI.n.c2 (Ul 1 rfl (hOW J.B.ow).1 (Ul 2 rfl J.T.tc.mn' (Uc 0 rfl (gtrT (by omega)) (Ul 15 rfl (hOW J.B.ow).1 (Ul 2 rfl J.T.tc.le (Ul 3 rfl hI.n.c2 (Ua 1 (((i+1:Nat):Int)) rfl (by omega) ?_)))))))))))
       refine Ux 0 (i+1) rfl (by omega) (by omega) (Us 0 rfl (hI.n.sl.item hx2) rfl (Us 0 rfl (hOW J.B.ow).2.1 rfl (O.callC rfl rfl rfl rfl call72 rfl (less_spec J.T.tc x2 hi) ?_)))
       rintro _ H2 ⟨rfl,hf2⟩
       rw [hlt]
       refine ⟨trivial,?_⟩
       refine Uf 1 [4,5,6,7,10,11,12,13,14,15,16,17,18,19,97,146] rfl (Uk [4,5,6,7,10,11,12,13,14,15,16,17,18,19,146] rfl ?_)
       exact tail false _ ⟨hf2,fun e=>Bool.noConfusion e⟩
      ·
       refine Ud 49 45808636341451435732109361408 (by kernel_rfl) (Ul 4 rfl hI.n.c2 (Ub 1 (((X.length-1:Nat):Int)) rfl (by omega) (Uc 0 rfl (lssT (by omega)) (Ul 4 rfl hI.n.c2 (Ul 1 rfl (hOW J.B.ow).1 (Ul 2 rfl J.T.tc.mn' (Uc 0 rfl (gtrT (by omega)) (Ul 15 rfl (hOW J.B.ow).1 (Ul 2 rfl J.T.tc.le (Ul 3 rfl hI.n.c2 (Ua 1 (((i+1:Nat):Int)) rfl (by omega) ?_)))))))))))
       refine Ux 0 (i+1) rfl (by omega) (by omega) (Us 0 rfl (hI.n.sl.item hx2) rfl (Us 0 rfl (hOW J.B.ow).2.1 rfl (O.callC rfl rfl rfl rfl call72 rfl (less_spec J.T.tc x2 hi) ?_)))
       rintro _ H2 ⟨rfl,hf2⟩
       rw [hlt]
       refine ⟨trivial,?_⟩
       refine Uf 1 [4,5,6,7,10,11,12,13,14,15,16,17,18,19,97,146] rfl (Uk [4,5,6,7,10,11,12,13,14,15,16,17,18,19,146] rfl ?_)
       exact tail true _ ⟨hf2,fun _=>⟨x2,hx2,.inl c2,hlt⟩⟩
     ·
      by_cases c3:fs=[]
      ·
       have c4:fs.length=0:=by rw [c3];rfl
       cases hlt:OI.lt x2 hi
       ·
        refine Ud 49 45808636341451435732109361408 (by kernel_rfl) (Ul 4 rfl hI.n.c2 (Ub 1 (((X.length-1:Nat):Int)) rfl (by omega) (Uc 0 rfl (lssT (by omega)) (Ul 4 rfl hI.n.c2 (Ul 1 rfl (hOW J.B.ow).1 (Ul 2 rfl J.T.tc.mn' (Uc 0 rfl (gtrF (by omega)) (Ul 4 rfl hI.n.c2 (Uc 1 rfl (gtrT (by omega)) (Uc 3 rfl (eqlT (by omega)) (Ul 4 rfl (hOW J.B.ow).1 ?_)))))))))))
        refine Ul 2 rfl J.T.tc.le (Ul 3 rfl hI.n.c2 (Ua 1 (((i+1:Nat):Int)) rfl (by omega) (Ux 0 (i+1) rfl (by omega) (by omega) (Us 0 rfl (hI.n.sl.item hx2) rfl (Us 0 rfl (hOW J.B.ow).2.1 rfl (O.callC rfl rfl rfl rfl call72 rfl (less_spec J.T.tc x2 hi) ?_))))))
        rintro _ H2 ⟨rfl,hf2⟩
        rw [hlt]
        refine ⟨trivial,?_⟩
        refine Uf 1 [4,5,6,7,10,11,12,13,14,15,16,17,18,19,97,146] rfl (Uk [4,5,6,7,10,11,12,13,14,15,16,17,18,19,146] rfl ?_)
        exact tail false _ ⟨hf2,fun e=>Bool.noConfusion e⟩
       ·
        refine Ud 49 45808636341451435732109361408 (by kernel_rfl) (Ul 4 rfl hI.n.c2 (Ub 1 (((X.length-1:Nat):Int)) rfl (by omega) (Uc 0 rfl (lssT (by omega)) (Ul 4 rfl hI.n.c2 (Ul 1 rfl (hOW J.B.ow).1 (Ul 2 rfl J.T.tc.mn' (Uc 0 rfl (gtrF (by omega)) (Ul 4 rfl hI.n.c2 (Uc 1 rfl (gtrT (by omega)) (Uc 3 rfl (eqlT (by omega)) (Ul 4 rfl (hOW J.B.ow).1 ?_)))))))))))
        refine Ul 2 rfl J.T.tc.le (Ul 3 rfl hI.n.c2 (Ua 1 (((i+1:Nat):Int)) rfl (by omega) (Ux 0 (i+1) rfl (by omega) (by omega) (Us 0 rfl (hI.n.sl.item hx2) rfl (Us 0 rfl (hOW J.B.ow).2.1 rfl (O.callC rfl rfl rfl rfl call72 rfl (less_spec J.T.tc x2 hi) ?_))))))
        rintro _ H2 ⟨rfl,hf2⟩
        rw [hlt]
        refine ⟨trivial,?_⟩
        refine Uf 1 [4,5,6,7,10,11,12,13,14,15,16,17,18,19,97,146] rfl (Uk [4,5,6,7,10,11,12,13,14,15,16,17,18,19,146] rfl ?_)
        exact tail true _ ⟨hf2,fun _=>⟨x2,hx2,.inr c3,hlt⟩⟩
      ·
       have c4:fs.length≠0:=fun e=>c3 (List.length_eq_zero_iff.1 e)
       refine Ud 49 45808636341451435732109361408 (by kernel_rfl) (Ul 4 rfl hI.n.c2 (Ub 1 (((X.length-1:Nat):Int)) rfl (by omega) (Uc 0 rfl (lssT (by omega)) (Ul 4 rfl hI.n.c2 (Ul 1 rfl (hOW J.B.ow).1 (Ul 2 rfl J.T.tc.mn' (Uc 0 rfl (gtrF (by omega)) (Ul 4 rfl hI.n.c2 (Uc 1 rfl (gtrT (by omega)) (Uc 3 rfl (eqlF (by omega)) (Uq 17 rfl ?_)))))))))))
       refine Pl.pass2 rfl rfl rfl rfl trivial (Uf 1 [4,5,6,7,10,11,12,13,14,15,16,17,18,19,97,146] rfl (Uk [4,5,6,7,10,11,12,13,14,15,16,17,18,19,146] rfl ?_))
       exact tail false _ ⟨Fr.refl _ _,fun e=>Bool.noConfusion e⟩
   rintro both H2 ⟨hf2,hboth⟩
   replace J:=J.nw hf2
   replace hI:=hI.fr hf2 (fun _ _ _ h=>h)
   clear hsl hf2
   obtain ⟨_,_,_,hsle,_,_,hsl⟩:=Acc.stk J.B.stk
   simp only [Value.slice.injEq,Option.some.injEq,Addr.mk.injEq] at hsle
   obtain ⟨⟨rfl,rfl,_⟩,_,rfl⟩:=hsle
   cases both
   rotate_left
   ·
    refine Go'.condT rfl (Ut 1 rfl ?_)
    obtain ⟨x2,hx2,hmin,hlt2⟩:=hboth rfl
    have hi2:i+1<X.length:=(List.getElem?_eq_some_iff.1 hx2).1
    obtain ⟨x,hx⟩:∃x,X[i]?=some x:=⟨X[i]'(by omega),List.getElem?_eq_getElem (by omega)⟩
    obtain ⟨k2,hk2⟩:∃k2,K[i+1]?=some k2:=⟨K[i+1]'(by omega),List.getElem?_eq_getElem (by omega)⟩
    have hk2K:=List.mem_of_getElem? hk2
    obtain ⟨os,hos⟩:∃os,os=(Gt.ps h K).map some:=⟨_,rfl⟩
    have hol:os.length=X.length+1:=by rw [hos,List.length_map,Gt.ps,List.length_map];exact hKl
    have hok2:os[i+1]?=some (some (Gt.p h k2)):=by rw [hos,Gt.ps,List.map_map,List.getElem?_map,hk2];rfl
    rw [←hos] at hI
    have hcell:∀b o,innc h g K b o→cx.base≤b∧¬(D.own b∨Z16 b∨Zq b)∧b<H2.size∧(D.TA0 b o∨D.n≤b):=fun b o hb=>J.cell hb
    have hown:∀b o,D.own b∨Z16 b∨Zq b→¬innc h g K b o:=fun b o hb hc=>(hcell b o hc).2.1 hb
    have htr0:∀o,¬innc h g K D.tr o:=fun o hc=>by have:=(hcell _ o hc).1;have:=J.T.tc.tb;omega
    have hlt0:∀b o,innc h g K b o→b<H2.size:=fun b o hc=>(hcell b o hc).2.2.1
    have hE:Fr (innc h g K) H2 H2:=Fr.refl _ _
    have hnsz:=J.B.sz
    have hicX:=hI.n.sl.hle
    have hicK:=hI.k.sl.hle
    refine Ur 9 168000 rfl (Ul 3 rfl hI.n.c2 (Ux 1 i rfl (by omega) (by omega) (Us 0 rfl (hI.n.sl.item hx) rfl (O.alloc rfl rfl rfl zeroValue27 ?_))))
    intro H3 MH3
    refine ⟨trivial,?_⟩
    have hsH3:=MH3.size
    have w20:=MH3.wr 2 (by decide)
    replace hE:=hE.trans' (MH3.fr nowhere) (fun _ _ _ h=>h) (fun _ _ _ h=>h.elim)
    replace hI:=hI.fr (MH3.fr nowhere) (fun _ _ _ h=>h)
    refine O.st rfl rfl sizeOf27 rfl rfl rfl rfl rfl w20 ?_
    intro H4 WH4
    have hsH4:=WH4.size
    have m20:=WH4.all
    replace hE:=hE.trans' WH4.fr (fun _ _ _ h=>h) (fun b o hb h=>by have:=h.1;omega)
    replace hI:=hI.fr WH4.fr (fun b o hb=>nr (.inl (by have:=hlt0 b o hb;omega)))
    refine ⟨trivial,?_⟩
    refine Uf 0 [4,5,6,7,10,11,12,13,14,15,16,17,18,19,20,146] rfl (Ut 1 rfl (Ud 14 134479936 (by kernel_rfl) (Ul 3 rfl hI.n.c2 (Uq 1 rfl (O.slc (jl:=i) (jh:=X.length) (jm:=g.ic) rfl rfl rfl rfl underlying25 sizeOf27 rfl rfl rfl ⟨_,by rfl⟩ (by omega) (by omega) (by simp) (by simp) ?_)))))
    intro od hod
    refine Ul 3 rfl hI.n.c2 (Ua 1 (((i+1:Nat):Int)) rfl (by omega) (O.slc (jl:=i+1) (jh:=X.length) (jm:=g.ic) rfl rfl rfl rfl underlying25 sizeOf27 rfl rfl rfl ⟨_,by rfl⟩ (by omega) (by omega) (by simp) (by simp) ?_))
    intro os2 hos2
    refine O.copy (b:=g.ib) (o:=(g.io+(i)*2)) (j:=(X.length-(i+1))) (cs:=(row EJ (X.drop (i+1)))) rfl rfl rfl ⟨underlying25,sizeOf27,zeroValue27,⟨_,typeInfo27,rfl⟩,rfl,by decide,by decide⟩ rfl rfl (show _=min _ _ by omega) ((Nat.lt_or_ge (i) g.ic).elim (fun h=>.inl (by rw [hod h])) (fun h=>.inr (by omega))) (.inl ⟨_,_,_,rfl,(hI.n.sl.rdDrop (i:=i+1) hos2 (by omega))⟩) (by rw [row_len];first|rfl|(congr 1;simp only [List.length_drop];try omega)) (row_ones EJ _) (hI.n.sl.wrm (i:=i) (m:=X.length-(i+1)) (by omega)) ?_
    intro H5 WH5
    have hyl:(X.drop (i+1)).length=X.length-(i+1):=by simp only [List.length_drop];try omega
    have hsH5:=WH5.size
    have fW:Fr (innc h g K) H4 H5:=(NodeM.fCpy hI.n (i:=i) (Y:=X.drop (i+1)) WH5 (by omega)).inN
    replace hI:=hI.cpy (i:=i) (Y:=X.drop (i+1)) WH5 (by omega)
    replace hE:=hE.trans' fW (fun _ _ _ h=>h) (fun _ _ _ h=>h)
    replace m20:=fW.rd m20 (fun _ _ hz=>by have:=hlt0 _ _ hz;omega)
    obtain ⟨Y5,eY5⟩:∃z,z=X.take (i)++X.drop (i+1)++X.drop (i+(X.drop (i+1)).length):=⟨_,rfl⟩
    rw [←eY5] at hI
    have lY5:Y5.length=X.length:=by rw [eY5];simp only [List.length_append,List.length_take,List.length_drop];omega
    clear fW
    clear hyl
    refine ⟨trivial,?_⟩
    refine Uf 0 [4,5,6,7,10,11,12,13,14,15,16,17,18,19,20,146] rfl (Ut 1 rfl (Ud 16 3289399360 (by kernel_rfl) (Ul 3 rfl hI.n.c2 (Ul 3 rfl hI.n.c2 (Ub 1 (((Y5.length-1:Nat):Int)) rfl (by omega) (Ul 0 rfl (hE.keep (hOW J.B.ow).1 (hown _ 0 (.inl (.inl (by omega))))) (Us 2 rfl (hE.rd J.T.tc.emp (fun _ _=>htr0 _)) rfl (Ux 0 (Y5.length-1) rfl (by omega) (by omega) (O.st3 rfl rfl sizeOf27 rfl rfl rfl rfl rfl (hI.n.sl.wri (i:=Y5.length-1) (by omega)) ?_)))))))))
    intro H6 WH6
    have hsH6:=WH6.size
    have fW:Fr (innc h g K) H5 H6:=(NodeM.fSet hI.n (i:=Y5.length-1) (x:=(0,0)) WH6 (by omega)).inN
    replace hI:=hI.set (i:=Y5.length-1) (x:=(0,0)) WH6 (by omega)
    replace hE:=hE.trans' fW (fun _ _ _ h=>h) (fun _ _ _ h=>h)
    replace m20:=fW.rd m20 (fun _ _ hz=>by have:=hlt0 _ _ hz;omega)
    obtain ⟨Y6,eY6⟩:∃z,z=Y5.take (Y5.length-1)++((0,0):Int×Int)::Y5.drop (Y5.length-1+1):=⟨_,rfl⟩
    rw [←eY6] at hI
    have lY6:Y6.length=Y5.length:=by rw [eY6];simp only [List.length_append,List.length_take,List.length_cons,List.length_drop];omega
    clear fW
    refine Uf 0 [4,5,6,7,10,11,12,13,14,15,16,17,18,19,20,146] rfl (Ut 1 rfl (Ud 15 805372160 (by kernel_rfl) (Ul 4 rfl hI.n.c2 (Ul 3 rfl hI.n.c2 (Ub 1 (((Y6.length-1:Nat):Int)) rfl (by omega) (O.slc (jl:=0) (jh:=Y6.length-1) (jm:=g.ic) rfl rfl rfl rfl underlying25 sizeOf27 rfl rfl ⟨_,by rfl⟩ rfl (by omega) (by omega) (by simp) (by simp) ?_))))))
    intro oc hoc
    have hoc2:g.io=oc:=by rw [hoc (by omega)];simp
    subst hoc2
    rw [Nat.sub_zero]
    refine Uq 2 rfl (O.st3 rfl rfl sizeOf25 rfl rfl rfl rfl rfl (hI.n.wr.at0 2 1 (by omega)) ?_)
    intro H7 WH7
    have hsH7:=WH7.size
    have fW:Fr (innc h g K) H6 H7:=(Wrote.fHdr (E:=EJ) (g:=g) WH7 (by omega)).inN
    replace hI:=hI.cut WH7 (by omega)
    replace hE:=hE.trans' fW (fun _ _ _ h=>h) (fun _ _ _ h=>h)
    replace m20:=fW.rd m20 (fun _ _ hz=>by have:=hlt0 _ _ hz;omega)
    obtain ⟨Y7,eY7⟩:∃z,z=Y6.take (Y6.length-1):=⟨_,rfl⟩
    rw [←eY7] at hI
    have lY7:Y7.length=Y6.length-1:=by rw [eY7];simp only [List.length_take];omega
    clear fW
    refine Uf 0 [4,5,6,7,10,11,12,13,14,15,16,17,18,19,20,146] rfl (Ut 1 rfl (Ur 11 263232 rfl (Ul 3 rfl hI.n.c3 (Ul 1 rfl (show cl _ g.cb 0=some (.slice (some ⟨g.kb,g.ko,none⟩) (os).length g.kc) from hI.k.c) (Ua 1 (((i+1:Nat):Int)) rfl (by omega) (Ux 0 (i+1) rfl (by omega) (by omega) (Ul 0 rfl (hI.k.at hok2) (Uf 1 [4,5,6,7,10,11,12,13,14,15,16,17,18,19,20,21,146] rfl (Ut 1 rfl (Ud 19 137724167232 (by kernel_rfl) (Ul 3 rfl hI.n.c3 ?_)))))))))))
    refine Ul 1 rfl (show cl _ g.cb 0=some (.slice (some ⟨g.kb,g.ko,none⟩) (os).length g.kc) from hI.k.c) (Ua 1 (((i+1:Nat):Int)) rfl (by omega) (O.slc (jl:=(i+1)) (jh:=os.length) (jm:=g.kc) rfl rfl rfl rfl underlying121 sizeOf107 rfl rfl rfl ⟨_,by rfl⟩ (by omega) (by omega) (by simp) (by simp) ?_))
    intro od hod
    refine Ul 3 rfl hI.n.c3 (Ul 1 rfl (show cl _ g.cb 0=some (.slice (some ⟨g.kb,g.ko,none⟩) (os).length g.kc) from hI.k.c) (Ua 1 (((i+2:Nat):Int)) rfl (by omega) (O.slc (jl:=(i+1)+1) (jh:=os.length) (jm:=g.kc) rfl rfl rfl rfl underlying121 sizeOf107 rfl rfl rfl ⟨_,by rfl⟩ (by omega) (by omega) (by simp) (by simp) ?_)))
    intro os2 hos2
    refine O.copy (b:=g.kb) (o:=(g.ko+((i+1))*1)) (j:=(os.length-((i+1)+1))) (cs:=(row EP (os.drop ((i+1)+1)))) rfl rfl rfl ⟨underlying121,sizeOf107,zeroValue107,⟨_,typeInfo107,rfl⟩,rfl,by decide,by decide⟩ rfl rfl (show _=min _ _ by omega) ((Nat.lt_or_ge ((i+1)) g.kc).elim (fun h=>.inl (by rw [hod h])) (fun h=>.inr (by omega))) (.inl ⟨_,_,_,rfl,(hI.k.sl.rdDrop (i:=(i+1)+1) hos2 (by omega))⟩) (by rw [row_len];first|rfl|(congr 1;simp only [List.length_drop];try omega)) (row_ones EP _) (hI.k.sl.wrm (i:=(i+1)) (m:=os.length-((i+1)+1)) (by omega)) ?_
    intro H8 WH8
    have hyl:(os.drop ((i+1)+1)).length=os.length-((i+1)+1):=by simp only [List.length_drop];try omega
    have hsH8:=WH8.size
    have fW:Fr (innc h g K) H7 H8:=(hI.fKcpy (i:=(i+1)) (Y:=os.drop ((i+1)+1)) WH8 (by omega))
    replace hI:=hI.kcpy (i:=(i+1)) (Y:=os.drop ((i+1)+1)) WH8 (by omega)
    replace hE:=hE.trans' fW (fun _ _ _ h=>h) (fun _ _ _ h=>h)
    replace m20:=fW.rd m20 (fun _ _ hz=>by have:=hlt0 _ _ hz;omega)
    obtain ⟨Q8,eQ8⟩:∃z,z=os.take ((i+1))++os.drop ((i+1)+1)++os.drop ((i+1)+(os.drop ((i+1)+1)).length):=⟨_,rfl⟩
    rw [←eQ8] at hI
    have lQ8:Q8.length=os.length:=by rw [eQ8];simp only [List.length_append,List.length_take,List.length_drop];omega
    clear fW
    clear hyl
    refine ⟨trivial,?_⟩
    refine Uf 0 [4,5,6,7,10,11,12,13,14,15,16,17,18,19,20,21,146] rfl (Ut 1 rfl (Ud 16 3225683008 (by kernel_rfl) (Ul 3 rfl hI.n.c3 (Ul 1 rfl (show cl _ g.cb 0=some (.slice (some ⟨g.kb,g.ko,none⟩) (Q8).length g.kc) from hI.k.c) (Ul 3 rfl hI.n.c3 (Ul 1 rfl (show cl _ g.cb 0=some (.slice (some ⟨g.kb,g.ko,none⟩) (Q8).length g.kc) from hI.k.c) (Ub 1 (((((Q8).length)-1:Nat):Int)) rfl (by omega) (Ux 0 (Q8.length-1) rfl (by omega) (by omega) (O.st3 rfl rfl sizeOf107 rfl rfl rfl rfl rfl (hI.k.sl.wri (i:=Q8.length-1) (by omega)) ?_)))))))))
    intro H9 WH9
    have hsH9:=WH9.size
    have fW:Fr (innc h g K) H8 H9:=(hI.fKset (i:=Q8.length-1) WH9 rfl (by omega))
    replace hI:=hI.kset (i:=Q8.length-1) (q:=none) WH9 rfl (by omega)
    replace hE:=hE.trans' fW (fun _ _ _ h=>h) (fun _ _ _ h=>h)
    replace m20:=fW.rd m20 (fun _ _ hz=>by have:=hlt0 _ _ hz;omega)
    obtain ⟨Q9,eQ9⟩:∃z,z=Q8.take (Q8.length-1)++(none:Option Nat)::Q8.drop (Q8.length-1+1):=⟨_,rfl⟩
    rw [←eQ9] at hI
    have lQ9:Q9.length=Q8.length:=by rw [eQ9];simp only [List.length_append,List.length_take,List.length_cons,List.length_drop];omega
    clear fW
    refine Uf 0 [4,5,6,7,10,11,12,13,14,15,16,17,18,19,20,21,146] rfl (Ut 1 rfl (Ud 21 3299676012608 (by kernel_rfl) (Ul 3 rfl hI.n.c3 (Ul 3 rfl hI.n.c3 (Ul 1 rfl (show cl _ g.cb 0=some (.slice (some ⟨g.kb,g.ko,none⟩) (Q9).length g.kc) from hI.k.c) (Ul 3 rfl hI.n.c3 (Ul 1 rfl (show cl _ g.cb 0=some (.slice (some ⟨g.kb,g.ko,none⟩) (Q9).length g.kc) from hI.k.c) (Ub 1 (((((Q9).length)-1:Nat):Int)) rfl (by omega) (O.slc (jl:=0) (jh:=Q9.length-1) (jm:=g.kc) rfl rfl rfl rfl underlying121 sizeOf107 rfl rfl ⟨_,by rfl⟩ rfl (by omega) (by omega) (by simp) (by simp) ?_)))))))))
    intro oc hoc
    have hoc2:g.ko=oc:=by rw [hoc (by omega)];simp
    subst hoc2
    rw [Nat.sub_zero]
    refine Uq 1 rfl (O.st3 rfl rfl sizeOf121 rfl rfl rfl rfl rfl (hI.k.wr) ?_)
    intro H10 WH10
    have hsH10:=WH10.size
    have fW:Fr (innc h g K) H9 H10:=(Wrote.fKhdr (g:=g) WH10)
    replace hI:=hI.kcut WH10 (by omega)
    replace hE:=hE.trans' fW (fun _ _ _ h=>h) (fun _ _ _ h=>h)
    replace m20:=fW.rd m20 (fun _ _ hz=>by have:=hlt0 _ _ hz;omega)
    obtain ⟨Q10,eQ10⟩:∃z,z=Q9.take (Q9.length-1):=⟨_,rfl⟩
    rw [←eQ10] at hI
    have lQ10:Q10.length=Q9.length-1:=by rw [eQ10];simp only [List.length_take];omega
    clear fW
    refine Uf 0 [4,5,6,7,10,11,12,13,14,15,16,17,18,19,20,21,146] rfl (Ut 2 rfl ?_)
    have hX':Y7=X.take i++X.drop (i+1):=by
     rw [eY7,lY6,lY5,eY6,lY5,eY5]
     exact Pl.cut_at X _ i (by omega)
    have hO':Q10=os.take (i+1)++os.drop (i+1+1):=by
     rw [eQ10,lQ9,lQ8,eQ9,lQ8,eQ8]
     exact Pl.cut_at os _ (i+1) (by omega)
    have hgc:=J.good.cnt
    have hccn:cl H10 (Gt.p (h+1) ((g,X,K):Gt EJ (h+1))) 1=some (.int .i64 ((Gt.L (h+1) ((g,X,K):Gt EJ (h+1))).length:Int)):=by
     rw [←hgc]
     exact hI.n.c1
    have hgk2:Gt.Good H10 D.P h k2:=(hI.c.1 k2 hk2K).1
    obtain ⟨kp2,hn2⟩:=hgk2.node
    have hd1:cl H10 (Gt.p h k2) 1=some (.int .i64 ((Gt.L h k2).length:Int)):=by
     rw [←hgk2.cnt]
     exact hn2.c1
    refine Ur 1 0 rfl (Uf 1 [4,5,6,7,10,11,12,13,14,15,16,17,18,19,20,21,22,146] rfl (Ut 1 rfl (Go'.loop (Uk [4,5,6,7,10,11,12,13,14,15,16,17,18,19,20,21,22] rfl ?_))))
    have hcq:=J.cnt (show Fr (Gt.af (h+1) ((g,X,K):Gt EJ (h+1))) _ _ from hE) hccn
    have hptn:=J.pts
    have hnd:=J.dn.nodup J.T.g
    have hslc:=hsl.fr hE (fun o _ _ hz=>hown b16 o (.inr (.inl hz16)) hz)
    obtain ⟨pts,hpts⟩:∃pts,pts=Gt.p h0 t0::fs.map Prod.fst:=⟨_,rfl⟩
    rw [←hpts] at hcq hptn hnd
    have hpl:pts.length=fs.length+1:=by rw [hpts];simp
    have hk2p:Gt.p h k2 ∉ pts:=fun hm=>by
     rw [hpts] at hm
     have hka:Gt.af (h+1) ((g,X,K):Gt EJ (h+1)) (Gt.p h k2) 1:=.inr (.inr ⟨k2,hk2K,Gt.af_p (by decide)⟩)
     by_cases e:Gt.p h k2=Gt.p (h+1) ((g,X,K):Gt EJ (h+1))
     · exact ((J.good.2.2.2.2.2.2.1 k2 hk2K).2.2 _ 1 (Gt.af_p (by decide))).1 (.inl ⟨e,by decide⟩)
     · exact J.dn.pt_off J.T.g _ hm e 1 (by decide) hka
    have hkL2:(Gt.L h k2).length+1≤(Gt.L (h+1) ((g,X,K):Gt EJ (h+1))).length:=by
     have e1:=congrArg List.length (cutN_L (g':=g) (t:=((g,X,K):Gt EJ (h+1))) hKl hcu.kk hx hk2).1
     simp only [List.length_append,List.length_cons] at e1
     omega
    have hLt:(Gt.L (h+1) ((g,X,K):Gt EJ (h+1))).length≤(A++R).length:=by
     have e9:=congrArg List.length J.eL
     have h9:(A1++Gt.L (h+1) ((g,X,K):Gt EJ (h+1))++C1).length=A1.length+(Gt.L (h+1) ((g,X,K):Gt EJ (h+1))).length+C1.length:=by rw [List.length_append,List.length_append]
     rw [h9] at e9
     omega
    have hc5c:=hE.keep (hOW J.B.ow).1 (hown _ 0 (.inl (.inl (by omega))))
    have hcnt0:=hE.keep J.T.cnt (htr0 _)
    refine Go'.ind (σ:=Nat) (fun s=>fs.length+1-s) (fun s H'=>s≤fs.length+1∧CntL H10 H' pts s ((Gt.L h k2).length+1)) (fun s=>[(4,.pointer (some ⟨D.dl,0,none⟩)),(5,.pointer (some ⟨D.n,0,none⟩)),(6,.pointer (some ⟨D.n+1,0,none⟩)),(7,.pointer (some ⟨D.n+2,0,none⟩)),(10,.pointer (some ⟨D.n+3,0,none⟩)),(11,.bool ex),(12,.pointer (some ⟨D.n+4,0,none⟩)),(13,.func (.func 76) #[] #[.pointer (some ⟨D.n+4,0,none⟩),.pointer (some ⟨D.n,0,none⟩),.pointer (some ⟨D.n+2,0,none⟩)]),(14,.pointer (some ⟨D.hb,0,none⟩)),(15,.pointer (some ⟨D.pb,0,none⟩)),(16,.slice (some ⟨b16,o16,none⟩) (fs.length+1) c16),(17,.pointer (some ⟨g.p,0,none⟩)),(18,.int .i64 (i:Int)),(19,.bool fd),(20,.pointer (some ⟨H2.size,0,none⟩)),(21,.pointer (some ⟨Gt.p h k2,0,none⟩)),(22,.int .i64 (s:Int))]) 0 ⟨by omega,CntL.start⟩ rfl ?_
    rintro j H11 ⟨hj,hcl⟩ ihc
    refine Ut 2 rfl ?_
    by_cases hjl:j<fs.length+1
    ·
     obtain ⟨⟨q,ix⟩,hq⟩:∃q,((Gt.p h0 t0,0)::fs)[j]?=some q:=⟨_,List.getElem?_eq_getElem (by simpa using hjl)⟩
     have hqp:pts[j]?=some q:=by
      have h9:(((Gt.p h0 t0,0)::fs).map Prod.fst)[j]?=some q:=by rw [List.getElem?_map,hq];rfl
      rw [hpts];exact h9
     have hqm:=List.mem_of_getElem? hqp
     obtain ⟨cc,hcc1,hcc2,hcc3,hcc4⟩:=hcq q hqm
     have hcc:=hcl.old hnd hqp hcc1
     have hsq:=(hslc.fr hcl.fr (fun o _ _ hz=>(hptn b16 (List.mem_of_mem_take hz.2)).2.1 (.inr (.inl hz16)))).cell (stI_at hq) (j:=0) rfl
     have hd1c:=hcl.fr.keep hd1 (fun hz=>hk2p (List.mem_of_mem_take hz.2))
     refine Ur 4 0 rfl (Uc 3 rfl (lssT (by omega)) (Uf 0 [4,5,6,7,10,11,12,13,14,15,16,17,18,19,20,21,22,264] rfl (Go'.condT rfl (Ut 3 rfl (Ud 17 12889112832 (by kernel_rfl) (Ux 2 j rfl (by omega) (by omega) (Ul 1 rfl hsq (Ul 2 rfl hcc (Ul 3 rfl hd1c (Ua 0 (((((Gt.L h k2).length)+1:Nat):Int)) rfl (by omega) (Ub 0 (((cc-(((Gt.L h k2).length)+1):Nat):Int)) rfl (by omega) ?_)))))))))))
     refine Uq 2 rfl (O.st3 rfl rfl sizeOf3 rfl rfl rfl rfl rfl ((hcl.fr.wr hcc4).at0 1 1 (by omega)) ?_)
     intro H12 W12
     refine Uf 0 [4,5,6,7,10,11,12,13,14,15,16,17,18,19,20,21,22,264] rfl (Ut 1 rfl (Ur 3 0 rfl (Ua 1 (((j+1:Nat):Int)) rfl (by omega) (Uf 1 [4,5,6,7,10,11,12,13,14,15,16,17,18,19,20,21,22,264] rfl (Uk [4,5,6,7,10,11,12,13,14,15,16,17,18,19,20,21,22] rfl (Go'.inLoop ?_))))))
     exact ihc (j+1) H12 ⟨by omega,hcl.step hnd hqp hcc1 W12⟩ (by omega)
    ·
     refine Ur 4 0 rfl (Uc 3 rfl (lssF (by omega)) (Uf 0 [4,5,6,7,10,11,12,13,14,15,16,17,18,19,20,21,22,264] rfl (Go'.condF rfl (Ut 2 rfl ?_))))
     obtain rfl:j=fs.length+1:=by omega
     clear ihc
     have hfc:Fr (fun b o=>o=1∧b∈pts) H10 H11:=hcl.fr.mono fun b o _ hz=>⟨hz.1,List.mem_of_mem_take hz.2⟩
     have hch:∀q∈pts,∀c:Nat,cl H10 q 1=some (.int .i64 (c:Int))→cl H11 q 1=some (.int .i64 ((c-((Gt.L h k2).length+1):Nat):Int)):=fun q hq=>hcl.ch q (by rw [List.take_of_length_le (by omega)];exact hq)
     have hE2:Fr (fun b o=>innc h g K b o∨(o=1∧b∈pts)) H2 H11:=hE.trans' hfc (fun _ _ _ h=>.inl h) (fun _ _ _ h=>.inr h)
     have hc5d:=hfc.keep hc5c (fun hz=>(hptn _ hz.2).2.1 (.inl (.inl (by omega))))
     have htrd:∀o,¬(fun b o=>o=1∧b∈pts) D.tr o:=fun o hz=>by have:=(hptn _ hz.2).1;have:=J.T.tc.tb;omega
     have hcnt1:=hfc.keep hcnt0 (htrd _)
     have hd1d:=hfc.keep hd1 (fun hz=>hk2p hz.2)
     have m20d:=hfc.rd m20 (fun _ _ hz=>by have:=(hptn _ hz.2).2.2;omega)
     refine Ud 13 50348097 (by kernel_rfl) (Ul 0 rfl hc5d (Ul 2 rfl hcnt1 (Ul 3 rfl hd1d (Ua 0 (((((Gt.L h k2).length)+1:Nat):Int)) rfl (by omega) (Ub 0 (((((A++R).length)-(((Gt.L h k2).length)+1):Nat):Int)) rfl (by omega) (Uq 2 rfl (O.st3 rfl rfl sizeOf3 rfl rfl rfl rfl rfl ((hE2.wr J.T.tc.wr).at0 3 1 (by omega)) ?_)))))))
     intro H13 W13
     refine Uf 0 [4,5,6,7,10,11,12,13,14,15,16,17,18,19,20,21,22,264] rfl (Ut 2 rfl ?_)
     rw [hX',hO',hos] at hI
     obtain ⟨R',t0',g',K',q1,q2,q3,q4,q5,q6,q7,q8,q9,q10,q11⟩:=J.cut hPD hcu hx hk2 hx2 (fun w hw=>by rw [hstp];exact stopF_lt (OI.trans hw hlt2)) hmin hI hE hpts hfc hch W13
     have m20e:=W13.fr.rd m20d (fun _ _=>nr (.inl (by have:=J.T.tc.tb;have:=J.B.nb;omega)))
     have hfl:(flat (Ts.map QT.pc)).length+(Gt.L h k2).length<4294967295:=by
      have:=J.dri.pm.length_eq
      simp only [List.length_append] at this hlen q10
      omega
     have hc5e:=(hOW q2.ow).1
     refine Go'.join2 (σ:=Unit) (fun _ H'=>∃Zq',RtT H' D.tr D.P (A++R') h0 t0'∧DrB D H' pv (.slice (some ⟨b16,o16,none⟩) (fs.length+1) c16) ((Gt.p h0 t0',0)::fs) Z16 Zq' (Ts++[(x,some ⟨h,k2⟩)]) (Gt.af h0 t0')) (fun _=>[(4,.pointer (some ⟨D.dl,0,none⟩)),(5,.pointer (some ⟨D.n,0,none⟩)),(6,.pointer (some ⟨D.n+1,0,none⟩)),(7,.pointer (some ⟨D.n+2,0,none⟩)),(10,.pointer (some ⟨D.n+3,0,none⟩)),(11,.bool ex),(12,.pointer (some ⟨D.n+4,0,none⟩)),(13,.func (.func 76) #[] #[.pointer (some ⟨D.n+4,0,none⟩),.pointer (some ⟨D.n,0,none⟩),.pointer (some ⟨D.n+2,0,none⟩)]),(14,.pointer (some ⟨D.hb,0,none⟩)),(15,.pointer (some ⟨D.pb,0,none⟩)),(16,.slice (some ⟨b16,o16,none⟩) (fs.length+1) c16),(17,.pointer (some ⟨g.p,0,none⟩)),(18,.int .i64 (i:Int)),(19,.bool fd)]) ?_ ?_
     rotate_left
     ·
      intro tail
      refine Ur 1 0 rfl (Uf 1 [4,5,6,7,10,11,12,13,14,15,16,17,18,19,20,21,22,264,295] rfl ?_)
      cases hex:ex
      ·
       rw [hex] at tail
       refine Go'.condF rfl (Ut 1 rfl (Uk [4,5,6,7,10,11,12,13,14,15,16,17,18,19] rfl ?_))
       exact tail () _ ⟨Zq,q1,q2.add hLS hex ((x,some ⟨h,k2⟩):QT) q8 q9 (show (Gt.L h k2).length<4611686018427387904 by omega)⟩
      ·
       rw [hex] at tail
       refine Go'.condT rfl (Ur 4 132 rfl (Us 1 rfl m20e rfl (Uq 1 rfl (O.call rfl rfl rfl call77 rfl (dapp_spec q1.tc hLS q2 hex ((x,some ⟨h,k2⟩):QT) q8 q9 hfl) ?_))))
       rintro _ H14 ⟨rfl,Zq',q12,q13⟩
       refine ⟨trivial,?_⟩
       refine Uf 0 [4,5,6,7,10,11,12,13,14,15,16,17,18,19,20,21,22,264,295] rfl (Uk [4,5,6,7,10,11,12,13,14,15,16,17,18,19] rfl ?_)
       exact tail () _ ⟨Zq',q1.fr q13 (q2.keeps fun b o h=>h.elim (fun e=>.inl (.inr e)) (fun e=>.inr (.inr e))),q12⟩
     rintro _ H14 ⟨Zq',T',B'⟩
     have hmap:(Ts++[((x,some ⟨h,k2⟩):QT)]).map QT.pc=Ts.map QT.pc++[(x,Gt.L h k2)]:=by rw [List.map_append];rfl
     have J':Jn D A R0 R' H14 pv (.slice (some ⟨b16,o16,none⟩) (fs.length+1) c16) fs Z16 Zq' (Ts++[(x,some ⟨h,k2⟩)]) h0 t0' (h+1) (Gt.nd g' (X.take i++X.drop (i+1)) K') A1 C1:=by
      refine ⟨by rw [hmap];exact q7,T',B',?_,q4⟩
      rw [hmap,flat_app,flat_one]
      exact q3
     refine Ut 2 rfl (Ur 1 0 rfl (Uf 1 [4,5,6,7,10,11,12,13,14,15,16,17,18,19,300] rfl ?_))
     cases fd
     rotate_left
     ·
      refine Go'.condT rfl (Ut 5 rfl (Uk [4,5,6,7,10,11,12,13,14,15,16,17,18,19] rfl ?_))
      have hi0:=(hft rfl).1
      exact ih2 (.slice (some ⟨b16,o16,none⟩) (fs.length+1) c16,g.p,i,true,2*(A++R').length) H14 ⟨R',pv,fs,Z16,Zq',_,h0,t0',h+1,_,A1,C1,J',q6.symm,by omega,rfl,k,R1,R2,q5,fun _=>⟨hi0,by show i<(X.take i++X.drop (i+1)).length;rw [List.length_append,List.length_take,List.length_drop];omega⟩,fun e=>Bool.noConfusion e⟩ (by simp only;omega)
     ·
      refine Go'.condF rfl (Ut 2 rfl ?_)
      obtain ⟨hpvA,hpv1,_,hm1⟩:=hff rfl
      have hmu:(A++R').length*(m0+1)+(h+1)<(A++R).length*(m0+1)+(h+1):=mu_lt (by omega) (by omega)
      refine Uk [4,5,6,7,10,11,12,13,14,15,16,17] rfl (Go'.inLoop ?_)
      exact ih1 (.slice (some ⟨b16,o16,none⟩) (fs.length+1) c16,g.p,(A++R').length*(m0+1)+(h+1)) H14 ⟨R',pv,fs,Z16,Zq',_,h0,t0',h+1,_,A1,C1,J',q11 _ hpvA,hpv1,q6.symm,by omega,rfl⟩ (by simp only;omega)
   ·
    refine Go'.condF rfl (Ut 3 rfl (Ur 1 0 rfl (Uf 1 [4,5,6,7,10,11,12,13,14,15,16,17,18,19,146,301] rfl ?_)))
    cases fd
    rotate_left
    ·
     refine Go'.condT rfl (Ut 2 rfl ?_)
     obtain ⟨hR1,hil2⟩:=hft rfl
     obtain ⟨x,hx⟩:∃x,X[i]?=some x:=⟨X[i],List.getElem?_eq_getElem hil2⟩
     obtain ⟨k2,hk2⟩:∃k2,K[i+1]?=some k2:=⟨K[i+1]'(by omega),List.getElem?_eq_getElem (by omega)⟩
     have eR:R=x::(Gt.L h k2++bhd ((g,X,K):Gt EJ (h+1)) (i+1)++C1):=by
      rw [hcu.r,hR1,bhd_cons (t:=((g,X,K):Gt EJ (h+1))) hx hk2];simp
     obtain ⟨R',hR'⟩:∃R',R'=Gt.L h k2++bhd ((g,X,K):Gt EJ (h+1)) (i+1)++C1:=⟨_,rfl⟩
     rw [←hR'] at eR
     clear hcu hff hft
     subst eR
     have hfl:(flat (Ts.map QT.pc)).length+(QT.pc ((x,none):QT)).2.length<4294967295:=by
      have:=J.dri.pm.length_eq
      show (flat (Ts.map QT.pc)).length+0<4294967295
      simp only [List.length_append] at this hlen
      omega
     cases hst:D.stop x
     rotate_left
     ·
      refine Ur 9 147712 rfl (Ul 4 rfl hI.n.c2 (Ux 1 i rfl (by omega) (by omega) (Us 0 rfl (hI.n.sl.item hx) rfl (O.callC rfl rfl rfl rfl call76 rfl (maxstop_spec J.T.tc (hOW J.B.ow) x) ?_))))
      rintro _ H3 ⟨rfl,hf3⟩
      rw [←hstp,hst]
      replace J:=J.nw hf3
      replace hI:=hI.fr hf3 (fun _ _ _ h=>h)
      clear hsl
      refine ⟨trivial,?_⟩
      refine Uf 0 [4,5,6,7,10,11,12,13,14,15,16,17,18,19,146,301,310] rfl (Go'.condT rfl (Ut 1 rfl ?_))
      obtain ⟨vs,hvl,hvo,hvr⟩:=(hLi J.B.lst).vals
      obtain ⟨va,vb,vc,vd,rfl⟩:∃a b c d,vs=[a,b,c,d]:=by
       match vs,hvl with
       | [a,b,c,d],_=>exact ⟨a,b,c,d,rfl⟩
      refine Ur 4 144 rfl (Uq 2 rfl (O.lds rfl rfl rfl (fun w=>⟨isAgg61 w,sizeOf61 w⟩) rfl hvl hvr (O.st (vs:=[va,vb,vc,vd]) rfl rfl sizeOf61 rfl rfl rfl hvl hvo (hOW J.B.ow).2.2.2 ?_)))
      intro Hr Wr
      have hsr:=Wr.size
      refine ⟨trivial,?_⟩
      refine Uf 0 [4,5,6,7,10,11,12,13,14,15,16,17,18,19,146,301,310] rfl (Go'.ret (vs:=[_]) func53 results53 ⟨⟨_,_,rfl,fun _ _=>run_loadVar_agg (fun w=>⟨isAgg61 w,sizeOf61 w⟩) rfl Wr.all⟩,trivial⟩ ?_)
      exact ⟨_,pv,(.slice (some ⟨b16,o16,none⟩) (fs.length+1) c16),_,Z16,Zq,Ts,J.dri,(stop_all J.T.srt hst),DrT.res (.inr ⟨h0,t0,J.T,J.B,J.seg⟩) (by omega) Wr (hWO (OwR.res (hOW J.B.ow) Wr)),[va,vb,vc,vd],rfl,hvl,Wr.fr.rd hvr (fun _ _=>nr (.inl (by have:=J.B.nb.2.1;unfold Dc.n at *;omega)))⟩
     ·
      refine Ur 9 147712 rfl (Ul 4 rfl hI.n.c2 (Ux 1 i rfl (by omega) (by omega) (Us 0 rfl (hI.n.sl.item hx) rfl (O.callC rfl rfl rfl rfl call76 rfl (maxstop_spec J.T.tc (hOW J.B.ow) x) ?_))))
      rintro _ H3 ⟨rfl,hf3⟩
      rw [←hstp,hst]
      replace J:=J.nw hf3
      replace hI:=hI.fr hf3 (fun _ _ _ h=>h)
      clear hsl
      refine ⟨trivial,?_⟩
      refine Uf 0 [4,5,6,7,10,11,12,13,14,15,16,17,18,19,146,301,310] rfl (Go'.condF rfl (Ut 2 rfl (Ur 8 36928 rfl (Ul 3 rfl hI.n.c2 (Ux 1 i rfl (by omega) (by omega) (Us 0 rfl (hI.n.sl.item hx) rfl (O.st (vs:=(EJ.enc x)) rfl rfl sizeOf27 rfl rfl rfl rfl rfl J.B.w15 ?_)))))))
      intro H4 W4
      have B4:=J.B.piv W4
      have T4:=J.T.fr W4.fr (J.B.keeps fun b o h=>.inl (.inl (by have:=h.1;omega)))
      have S4:=J.seg
      have hcell4:∀b o,Gt.af h0 t0 b o→cx.base≤b∧¬(D.own b∨Z16 b∨Zq b):=fun b o hb=>⟨(J.B.dj b o (.inl hb)).1,(J.B.dj b o (.inl hb)).2.1⟩
      have hsub4:=J.dn.sub
      replace hI:=hI.fr W4.fr (fun b o hb=>nr (.inl (fun e=>(hcell4 b o (hsub4 b o hb)).2 (.inl (.inl (by omega))))))
      refine ⟨trivial,?_⟩
      refine Uf 0 [4,5,6,7,10,11,12,13,14,15,16,17,18,19,146,301,310] rfl (Ut 2 rfl ?_)
      refine Go'.join2 (σ:=Unit) (fun _ H'=>∃Zq',RtT H' D.tr D.P (A++x::R') h0 t0∧DrB D H' x (.slice (some ⟨b16,o16,none⟩) (fs.length+1) c16) ((Gt.p h0 t0,0)::fs) Z16 Zq' (Ts++[(x,none)]) (Gt.af h0 t0)∧Fr (fun b _=>b=D.dl∨Zq b) H4 H') (fun _=>[(4,.pointer (some ⟨D.dl,0,none⟩)),(5,.pointer (some ⟨D.n,0,none⟩)),(6,.pointer (some ⟨D.n+1,0,none⟩)),(7,.pointer (some ⟨D.n+2,0,none⟩)),(10,.pointer (some ⟨D.n+3,0,none⟩)),(11,.bool ex),(12,.pointer (some ⟨D.n+4,0,none⟩)),(13,.func (.func 76) #[] #[.pointer (some ⟨D.n+4,0,none⟩),.pointer (some ⟨D.n,0,none⟩),.pointer (some ⟨D.n+2,0,none⟩)]),(14,.pointer (some ⟨D.hb,0,none⟩)),(15,.pointer (some ⟨D.pb,0,none⟩)),(16,.slice (some ⟨b16,o16,none⟩) (fs.length+1) c16),(17,.pointer (some ⟨g.p,0,none⟩)),(18,.int .i64 (i:Int)),(19,.bool true)]) ?_ ?_
      rotate_left
      ·
       intro tail
       refine Ur 1 0 rfl (Uf 1 [4,5,6,7,10,11,12,13,14,15,16,17,18,19,146,301,310,321] rfl ?_)
       cases hex:ex
       ·
        rw [hex] at tail
        refine Go'.condF rfl (Ut 1 rfl (Uk [4,5,6,7,10,11,12,13,14,15,16,17,18,19] rfl ?_))
        exact tail () _ ⟨Zq,T4,B4.add hLS hex ((x,none):QT) trivial (fun _ _ h=>h.elim) (show (0:Nat)<4611686018427387904 by omega),Fr.refl _ _⟩
       ·
        rw [hex] at tail
        refine Go'.condT rfl (Ur 9 147712 rfl (Ul 4 rfl hI.n.c2 (Ux 1 i rfl (by omega) (by omega) (Us 0 rfl (hI.n.sl.item hx) rfl (O.call rfl rfl rfl call77 rfl (dapp_spec T4.tc hLS B4 hex ((x,none):QT) trivial (fun _ _ h=>h.elim) hfl) ?_)))))
        rintro _ H5 ⟨rfl,Zq',q12,q13⟩
        refine ⟨trivial,?_⟩
        refine Uf 0 [4,5,6,7,10,11,12,13,14,15,16,17,18,19,146,301,310,321] rfl (Uk [4,5,6,7,10,11,12,13,14,15,16,17,18,19] rfl ?_)
        exact tail () _ ⟨Zq',T4.fr q13 (B4.keeps fun b o h=>h.elim (fun e=>.inl (.inr e)) (fun e=>.inr (.inr e))),q12,q13⟩
      rintro _ H5 ⟨Zq',T5,B5,hf5⟩
      replace hI:=hI.fr hf5 (fun b o hb hh=>(hcell4 b o (hsub4 b o hb)).2 (hh.elim (fun e=>.inl (.inr e)) (fun e=>.inr (.inr e))))
      have hfx:=(del_next T5.srt).2
      refine Ut 1 rfl (Ud 9 147713 (by kernel_rfl) (Ul 0 rfl (hOW B5.ow).1 (Ul 3 rfl hI.n.c2 (Ux 1 i rfl (by omega) (by omega) (Us 0 rfl (hI.n.sl.item hx) rfl (O.call rfl rfl rfl call61 rfl (delhT_spec hPD T5 B5.hk (fun b o hb e=>(B5.dj b o (.inl hb)).2.1 (.inl (.inl (by omega)))) (by omega) hfx) ?_))))))
      rintro _ H6 ⟨hq6,hk6,hF6⟩
      refine ⟨trivial,?_⟩
      refine Uf 0 [4,5,6,7,10,11,12,13,14,15,16,17,18,19] rfl (Ut 1 rfl ?_)
      obtain ⟨dri6,drt6⟩:=drt_del J.dri hst T5 B5 S4 hq6 hk6 hF6
      obtain ⟨_,B6⟩:=drt6.b
      obtain ⟨_,_,_,hsle6,hz6,hb6,hsl6⟩:=Acc.stk B6.stk
      simp only [Value.slice.injEq,Option.some.injEq,Addr.mk.injEq] at hsle6
      obtain ⟨⟨rfl,rfl,_⟩,_,rfl⟩:=hsle6
      have hstl6:(stI ((Gt.p h0 t0,0)::fs)).length=fs.length+1:=by simp [stI]
      have hcap6:=hsl6.hle
      refine Ur 3 0 rfl (Uq 1 rfl (O.slc (jl:=0) (jh:=0) (jm:=c16) rfl rfl rfl rfl underlying129 sizeOf130 rfl rfl ⟨_,by rfl⟩ rfl (by omega) (by omega) (by simp) (by simp) ?_))
      intro oc hoc
      have hoc2:o16=oc:=by rw [hoc (by omega)];simp
      subst hoc2
      refine Uf 1 [4,5,6,7,10,11,12,13,14,15,16,17,18,19] rfl (Ut 5 rfl (Uk [4,5,6,7,10,11,12,13,14,15,16] rfl ?_))
      have hac6:Acc EK Z16 H6 (.slice (some ⟨b16,o16,none⟩) 0 c16) (stI []):=Acc.take (i:=0) hsl6 hz6 hb6 (Nat.zero_le _)
      have hsrt6:=T5.srt
      exact ih0 (.slice (some ⟨b16,o16,none⟩) 0 c16,(A++R').length) H6 ⟨R',x,Z16,Zq',_,rfl,dri6,pv_next hsrt6,drt6.clr hac6⟩ (by simp only [List.length_append,List.length_cons] at hm0 ⊢;omega)
    ·
     refine Go'.condF rfl (Ut 2 rfl ?_)
     obtain ⟨hpvA,hpv1,hip,hm1⟩:=hff rfl
     have hk:K[i]?=some k:=hcu.kk
     have hkK:=List.mem_of_getElem? hk
     have hok:((Gt.ps h K).map some)[i]?=some (some (Gt.p h k)):=by rw [Gt.ps,List.map_map,List.getElem?_map,hk];rfl
     have hol:((Gt.ps h K).map some).length=X.length+1:=by rw [List.length_map,Gt.ps,List.length_map];exact hKl
     have hgk:=(hI.c.1 k hkK).1
     obtain ⟨kpk,hnk⟩:=hgk.node
     have hisok:=hnk.c0
     rw [hgk.isoe] at hisok
     have hway:=way_down (t:=((g,X,K):Gt EJ (h+1))) J.good J.srtL hpv1 hk hip
     have hdn:=J.dn.down (t:=((g,X,K):Gt EJ (h+1))) hk
     have hB:=J.B
     have hT:=J.T
     have hslen:(stI ((Gt.p h0 t0,0)::fs)).length=fs.length+1:=by simp [stI]
     refine Ud 11 528641 (by kernel_rfl) (Ul 0 rfl (hOW J.B.ow).1 (Ul 3 rfl hI.n.c3 (Ul 1 rfl hI.k.c (Ux 1 i rfl (by omega) (by omega) (O.callQ rfl rfl rfl call59 rfl (isoLoad_spec true (hI.k.at hok) hisok hT.tc.iso) trivial (Uf 1 [4,5,6,7,10,11,12,13,14,15,16,17,18,19,146,301] rfl (Ut 1 rfl (Ur 7 2560 rfl (Uq 3 rfl (O.bld (cs:=(EK.enc (Gt.p h k,(i:Int)))) rfl rfl rfl rfl (st130) rfl (by kernel_rfl) (O.bsl (cs:=(EK.enc (Gt.p h k,(i:Int)))) rfl rfl rfl ⟨underlying129,sizeOf130,zeroValue130,⟨_,typeInfo130,rfl⟩,rfl,by decide,by decide⟩ rfl (by decide) (by kernel_rfl) ?_)))))))))))
     intro Hs3 Ms3
     have hms3:=Ms3.size
     have hB1:=hB.nw (Ms3.fr nowhere)
     have rm3:Rd Hs3 _ 0 (row EK [(Gt.p h k,(i:Int))]):=Ms3.rd _ [] (by simp [row])
     refine ⟨trivial,?_⟩
     refine O.appA (E:=EK) (Y:=[(Gt.p h k,(i:Int))]) rfl rfl rfl ⟨underlying129,sizeOf130,zeroValue130,⟨_,typeInfo130,rfl⟩,rfl,by decide,by decide⟩ rfl hB1.stk rfl ⟨_,_,_,rfl,rm3⟩ (Nat.succ_pos _) (Nat.le_trans (Nat.mul_le_mul_left _ (Nat.le_of_ble_eq_true (n:=_) (m:=4096) rfl)) (by rw [hslen];simp only [List.length_cons,List.length_nil];omega)) (by rw [hslen];simp only [List.length_cons,List.length_nil];omega) ?_
     intro sv3 Ht3 hAt3 hFt3 hst3
     have hgt3:=hFt3.size
     have hse:stI ((Gt.p h0 t0,0)::fs)++[(Gt.p h k,(i:Int))]=stI ((Gt.p h0 t0,0)::(fs++[(Gt.p h k,i)])):=by simp [stI]
     rw [hse] at hAt3
     have hB2:=hB1.stack (st':=(Gt.p h0 t0,0)::(fs++[(Gt.p h k,i)])) hFt3 hAt3 (fun b hb=>by
      rcases hb with hb|⟨rfl,hb⟩
      · exact ⟨.inl hb,by have:=(hB1.z16 b hb).2;omega⟩
      · exact ⟨.inr (Nat.le_refl _),hb⟩)
     have hT2:=(hT.fr (Ms3.fr nowhere) ⟨fun _ _ _ h=>h,fun _ _ _ h=>h⟩).fr hFt3 (hB1.keeps fun b o h=>.inr (.inl h))
     refine ⟨trivial,?_⟩
     refine Uf 1 [4,5,6,7,10,11,12,13,14,15,16,17,18,19,146,301] rfl (Ut 1 rfl (Uk [4,5,6,7,10,11,12,13,14,15,16,17] rfl (Go'.inLoop ?_)))
     exact ih1 (sv3,Gt.p h k,(A++R).length*(m0+1)+h) Ht3 ⟨R,pv,fs++[(Gt.p h k,i)],_,Zq,Ts,h0,t0,h,k,_,_,⟨J.dri,hT2,hB2,J.seg,hdn⟩,hpvA,hway,rfl,hm0,rfl⟩ (by simp only;omega)
  ·
   obtain ⟨g,X⟩:=t
   obtain ⟨hA,hR,hil⟩:=hcu
   replace hA:A=A1++X.take i:=hA
   replace hR:R=X.drop i++C1:=hR
   replace hil:i≤X.length:=hil
   have hN:NodeM EJ H g X (.pointer none):=J.good.1
   replace hx1:1≤X.length:=hx1
   replace hxm:X.length≤D.P.mx:=hxm
   have hx255:=hPD.hx
   have hmn1:=hPD.h1
   have hmm:=hPD.hm
   obtain ⟨nL,hnL⟩:∃z,z=(A++R).length:=⟨_,rfl⟩
   have hnm:nL≤m0:=by omega
   have hm2':m2=2*nL+1:=by rw [hnL];simpa using hm2
   refine Ur 5 64 rfl (Ul 3 rfl hN.c3 (O.notNil rfl rfl rfl rfl underlying117 rfl rfl (Uf 0 [4,5,6,7,10,11,12,13,14,15,16,17,18,19,97] rfl (Go'.condF rfl (Ut 2 rfl (Ud 13 1065024 (by kernel_rfl) (Ul 3 rfl hN.c2 (Ub 2 (((X.length-i:Nat):Int)) rfl (by omega) (Ul 0 rfl (hOW J.B.ow).1 (Ul 2 rfl J.T.tc.mn' (Ub 0 ((((X.length-i:Nat):Int)-(D.P.mn:Int))) rfl (by omega) ?_)))))))))))
   refine Uf 1 [4,5,6,7,10,11,12,13,14,15,16,17,18,19,23,97] rfl (Ut 2 rfl ?_)
   refine Go'.join2 (σ:=Unit) (fun _ H'=>∃m,JL D A R0 nL (.slice (some ⟨b16,o16,none⟩) (fs.length+1) c16) g.p i m H') (fun _=>[(4,.pointer (some ⟨D.dl,0,none⟩)),(5,.pointer (some ⟨D.n,0,none⟩)),(6,.pointer (some ⟨D.n+1,0,none⟩)),(7,.pointer (some ⟨D.n+2,0,none⟩)),(10,.pointer (some ⟨D.n+3,0,none⟩)),(11,.bool ex),(12,.pointer (some ⟨D.n+4,0,none⟩)),(13,.func (.func 76) #[] #[.pointer (some ⟨D.n+4,0,none⟩),.pointer (some ⟨D.n,0,none⟩),.pointer (some ⟨D.n+2,0,none⟩)]),(14,.pointer (some ⟨D.hb,0,none⟩)),(15,.pointer (some ⟨D.pb,0,none⟩)),(16,.slice (some ⟨b16,o16,none⟩) (fs.length+1) c16),(17,.pointer (some ⟨g.p,0,none⟩)),(18,.int .i64 (i:Int))]) ?_ ?_
   rotate_left
   ·
    intro tail
    by_cases hbk:D.P.mn+1<X.length-i
    rotate_left
    ·
     refine Ur 2 0 rfl (Uc 1 rfl (gtrF (by omega)) (Uf 0 [4,5,6,7,10,11,12,13,14,15,16,17,18,19,23,97,371] rfl (Go'.condF rfl (Ut 1 rfl (Uk [4,5,6,7,10,11,12,13,14,15,16,17,18] rfl ?_)))))
     exact tail () _ ⟨_,R,pv,fs,Z16,Zq,Ts,h0,t0,lfN g X,A1,C1,J,rfl,Nat.le_of_eq hnL.symm,rfl,hA,hR,hil⟩
    ·
     refine Ur 2 0 rfl (Uc 1 rfl (gtrT (by omega)) (Uf 0 [4,5,6,7,10,11,12,13,14,15,16,17,18,19,23,97,371] rfl (Go'.condT rfl (Ut 1 rfl (Ur 1 0 rfl (Uf 1 [4,5,6,7,10,11,12,13,14,15,16,17,18,19,23,24,97,371] rfl (Ut 1 rfl (Ur 1 0 rfl (Uf 1 [4,5,6,7,10,11,12,13,14,15,16,17,18,19,23,24,25,97,371] rfl (Ut 2 rfl ?_))))))))))
     obtain ⟨mb,hmb⟩:∃mb,mb=X.length-i-D.P.mn:=⟨_,rfl⟩
     have hmbi:(((X.length-i:Nat):Int)-(D.P.mn:Int))=(mb:Int):=by omega
     rw [hmbi]
     refine Go'.cut2 (σ:=Bool×Nat) (fun s H'=>s.2≤mb∧(∀w∈(X.drop i).take s.2,D.stop w=false)∧(s.1=true→∃x,X[i+s.2]?=some x∧D.stop x=true)∧∃Zq',RtT H' D.tr D.P (A++R) h0 t0∧DrB D H' pv (.slice (some ⟨b16,o16,none⟩) (fs.length+1) c16) ((Gt.p h0 t0,0)::fs) Z16 Zq' (Ts++((X.drop i).take s.2).map fun e=>((e,none):QT)) (Gt.af h0 t0)) (fun s=>[(4,.pointer (some ⟨D.dl,0,none⟩)),(5,.pointer (some ⟨D.n,0,none⟩)),(6,.pointer (some ⟨D.n+1,0,none⟩)),(7,.pointer (some ⟨D.n+2,0,none⟩)),(10,.pointer (some ⟨D.n+3,0,none⟩)),(11,.bool ex),(12,.pointer (some ⟨D.n+4,0,none⟩)),(13,.func (.func 76) #[] #[.pointer (some ⟨D.n+4,0,none⟩),.pointer (some ⟨D.n,0,none⟩),.pointer (some ⟨D.n+2,0,none⟩)]),(14,.pointer (some ⟨D.hb,0,none⟩)),(15,.pointer (some ⟨D.pb,0,none⟩)),(16,.slice (some ⟨b16,o16,none⟩) (fs.length+1) c16),(17,.pointer (some ⟨g.p,0,none⟩)),(18,.int .i64 (i:Int)),(24,.bool s.1),(25,.int .i64 (s.2:Int))]) ?_ ?_
     rotate_left
     ·
      intro tail
      refine Go'.loop (Uk [4,5,6,7,10,11,12,13,14,15,16,17,18,23,24,25] rfl (Go'.ind (σ:=Nat) (fun s=>mb-s) (fun s H'=>s≤mb∧(∀w∈(X.drop i).take s,D.stop w=false)∧∃Zq',RtT H' D.tr D.P (A++R) h0 t0∧DrB D H' pv (.slice (some ⟨b16,o16,none⟩) (fs.length+1) c16) ((Gt.p h0 t0,0)::fs) Z16 Zq' (Ts++((X.drop i).take s).map fun e=>((e,none):QT)) (Gt.af h0 t0)) (fun s=>[(4,.pointer (some ⟨D.dl,0,none⟩)),(5,.pointer (some ⟨D.n,0,none⟩)),(6,.pointer (some ⟨D.n+1,0,none⟩)),(7,.pointer (some ⟨D.n+2,0,none⟩)),(10,.pointer (some ⟨D.n+3,0,none⟩)),(11,.bool ex),(12,.pointer (some ⟨D.n+4,0,none⟩)),(13,.func (.func 76) #[] #[.pointer (some ⟨D.n+4,0,none⟩),.pointer (some ⟨D.n,0,none⟩),.pointer (some ⟨D.n+2,0,none⟩)]),(14,.pointer (some ⟨D.hb,0,none⟩)),(15,.pointer (some ⟨D.pb,0,none⟩)),(16,.slice (some ⟨b16,o16,none⟩) (fs.length+1) c16),(17,.pointer (some ⟨g.p,0,none⟩)),(18,.int .i64 (i:Int)),(23,.int .i64 (mb:Int)),(24,.bool false),(25,.int .i64 (s:Int))]) 0 ⟨Nat.zero_le _,fun w hw=>by simp at hw,Zq,J.T,by simpa using J.B⟩ rfl ?_))
      rintro j H3 ⟨hjm,hns,Zq',T3,B3⟩ ihb
      refine Ut 2 rfl ?_
      have hN3:NodeM EJ H3 g X (.pointer none):=(J.dn.good T3.g).1.1
      by_cases hjb:j<mb
      rotate_left
      ·
       refine Ur 3 0 rfl (Uc 2 rfl (lssF (by omega)) (Uf 0 [4,5,6,7,10,11,12,13,14,15,16,17,18,23,24,25,374] rfl (Go'.condF rfl (Ut 1 rfl (Uk [4,5,6,7,10,11,12,13,14,15,16,17,18,24,25] rfl ?_)))))
       exact tail (false,j) _ ⟨hjm,hns,fun e=>Bool.noConfusion e,Zq',T3,B3⟩
      ·
       have hij:i+j<X.length:=by omega
       obtain ⟨x,hx⟩:∃x,X[i+j]?=some x:=⟨X[i+j],List.getElem?_eq_getElem hij⟩
       have htk:(X.drop i).take (j+1)=(X.drop i).take j++[x]:=by rw [List.take_add_one,List.getElem?_drop,hx];rfl
       refine Ur 3 0 rfl (Uc 2 rfl (lssT (by omega)) (Uf 0 [4,5,6,7,10,11,12,13,14,15,16,17,18,23,24,25,374] rfl (Go'.condT rfl (Ut 4 rfl ?_))))
       cases hst:D.stop x
       rotate_left
       ·
        refine Ur 12 2359552 rfl (Ul 4 rfl hN3.c2 (Ua 2 (((i+j:Nat):Int)) rfl (by omega) (Ux 0 (i+j) rfl (by omega) (by omega) (Us 0 rfl (hN3.sl.item hx) rfl (O.callC rfl rfl rfl rfl call76 rfl (maxstop_spec T3.tc (hOW B3.ow) x) ?_)))))
        rintro _ H4 ⟨rfl,hf4⟩
        rw [←hstp,hst]
        replace T3:=T3.fr hf4 ⟨fun _ _ _ h=>h,fun _ _ _ h=>h⟩
        replace B3:=B3.nw hf4
        replace hN3:=NodeM.fr EJ hN3 hf4 (fun _ _ _ h=>h)
        refine ⟨trivial,?_⟩
        refine Uf 1 [4,5,6,7,10,11,12,13,14,15,16,17,18,23,24,25,374] rfl (Ut 2 rfl (Ur 1 0 rfl (Uf 1 [4,5,6,7,10,11,12,13,14,15,16,17,18,23,24,25,374,388] rfl (Go'.condT rfl (Ut 1 rfl (Uk [4,5,6,7,10,11,12,13,14,15,16,17,18,24,25] rfl ?_))))))
        exact tail (true,j) _ ⟨hjm,hns,fun _=>⟨x,hx,hst⟩,Zq',T3,B3⟩
       ·
        refine Ur 12 2359552 rfl (Ul 4 rfl hN3.c2 (Ua 2 (((i+j:Nat):Int)) rfl (by omega) (Ux 0 (i+j) rfl (by omega) (by omega) (Us 0 rfl (hN3.sl.item hx) rfl (O.callC rfl rfl rfl rfl call76 rfl (maxstop_spec T3.tc (hOW B3.ow) x) ?_)))))
        rintro _ H4 ⟨rfl,hf4⟩
        rw [←hstp,hst]
        replace T3:=T3.fr hf4 ⟨fun _ _ _ h=>h,fun _ _ _ h=>h⟩
        replace B3:=B3.nw hf4
        replace hN3:=NodeM.fr EJ hN3 hf4 (fun _ _ _ h=>h)
        refine ⟨trivial,?_⟩
        refine Uf 1 [4,5,6,7,10,11,12,13,14,15,16,17,18,23,24,25,374] rfl (Ut 2 rfl (Ur 1 0 rfl (Uf 1 [4,5,6,7,10,11,12,13,14,15,16,17,18,23,24,25,374,388] rfl (Go'.condF rfl (Ut 2 rfl ?_)))))
        have hflj:(flat ((Ts++((X.drop i).take j).map fun e=>((e,none):QT)).map QT.pc)).length+(QT.pc ((x,none):QT)).2.length<4294967295:=by
         have:=J.dri.pm.length_eq
         have e8:(((X.drop i).take j).map fun e=>((e,none):QT)).map QT.pc=((X.drop i).take j).map fun e=>((e,[]):Pc (Int×Int)):=by rw [List.map_map];rfl
         rw [List.map_append,flat_app,e8,flat_ones]
         have e9:(QT.pc ((x,none):QT)).2.length=0:=rfl
         simp only [List.length_append,List.length_take,List.length_drop] at this hlen ⊢
         omega
        refine Go'.join2 (σ:=Unit) (fun _ H'=>∃Zq',RtT H' D.tr D.P (A++R) h0 t0∧DrB D H' pv (.slice (some ⟨b16,o16,none⟩) (fs.length+1) c16) ((Gt.p h0 t0,0)::fs) Z16 Zq' ((Ts++((X.drop i).take j).map fun e=>((e,none):QT))++[(x,none)]) (Gt.af h0 t0)) (fun _=>[(4,.pointer (some ⟨D.dl,0,none⟩)),(5,.pointer (some ⟨D.n,0,none⟩)),(6,.pointer (some ⟨D.n+1,0,none⟩)),(7,.pointer (some ⟨D.n+2,0,none⟩)),(10,.pointer (some ⟨D.n+3,0,none⟩)),(11,.bool ex),(12,.pointer (some ⟨D.n+4,0,none⟩)),(13,.func (.func 76) #[] #[.pointer (some ⟨D.n+4,0,none⟩),.pointer (some ⟨D.n,0,none⟩),.pointer (some ⟨D.n+2,0,none⟩)]),(14,.pointer (some ⟨D.hb,0,none⟩)),(15,.pointer (some ⟨D.pb,0,none⟩)),(16,.slice (some ⟨b16,o16,none⟩) (fs.length+1) c16),(17,.pointer (some ⟨g.p,0,none⟩)),(18,.int .i64 (i:Int)),(23,.int .i64 (mb:Int)),(24,.bool false),(25,.int .i64 (j:Int))]) ?_ ?_
        rotate_left
        ·
         intro tail2
         refine Ur 1 0 rfl (Uf 1 [4,5,6,7,10,11,12,13,14,15,16,17,18,23,24,25,374,388,389] rfl ?_)
         cases hex:ex
         ·
          rw [hex] at tail2
          refine Go'.condF rfl (Ut 1 rfl (Uk [4,5,6,7,10,11,12,13,14,15,16,17,18,23,24,25] rfl ?_))
          exact tail2 () _ ⟨Zq',T3,B3.add hLS hex ((x,none):QT) trivial (fun _ _ h=>h.elim) (show (0:Nat)<4611686018427387904 by omega)⟩
         ·
          rw [hex] at tail2
          refine Go'.condT rfl (Ur 11 2359552 rfl (Ul 4 rfl hN3.c2 (Ua 2 (((i+j:Nat):Int)) rfl (by omega) (Ux 0 (i+j) rfl (by omega) (by omega) (Us 0 rfl (hN3.sl.item hx) rfl (O.call rfl rfl rfl call77 rfl (dapp_spec T3.tc hLS B3 hex ((x,none):QT) trivial (fun _ _ h=>h.elim) hflj) ?_))))))
          rintro _ H5 ⟨rfl,Zq2,q12,q13⟩
          refine ⟨trivial,?_⟩
          refine Uf 0 [4,5,6,7,10,11,12,13,14,15,16,17,18,23,24,25,374,388,389] rfl (Uk [4,5,6,7,10,11,12,13,14,15,16,17,18,23,24,25] rfl ?_)
          exact tail2 () _ ⟨Zq2,T3.fr q13 (B3.keeps fun b o h=>h.elim (fun e=>.inl (.inr e)) (fun e=>.inr (.inr e))),q12⟩
        rintro _ H5 ⟨Zq2,T5,B5⟩
        refine Ut 1 rfl (Ur 3 0 rfl (Ua 1 (((j+1:Nat):Int)) rfl (by omega) (Uf 1 [4,5,6,7,10,11,12,13,14,15,16,17,18,23,24,25] rfl (Uk [4,5,6,7,10,11,12,13,14,15,16,17,18,23,24,25] rfl (Go'.inLoop ?_)))))
        exact ihb (j+1) H5 ⟨by omega,fun w hw=>by
         rw [htk] at hw
         rcases List.mem_append.1 hw with hw|hw
         · exact hns w hw
         · rw [List.mem_singleton] at hw;subst hw;exact hst,Zq2,T5,by rw [htk,List.map_append,←List.append_assoc];exact B5⟩ (by omega)
     rintro ⟨stop,j⟩ H5 ⟨hj,hns,hstp,Zq2,T5,B5⟩
     refine Ut 1 rfl ?_
     have hN:NodeM EJ H5 g X (.pointer none):=(J.dn.good T5.g).1.1
     simp only at hj hns hstp B5
     have M5:Jm D A R H5 pv (.slice (some ⟨b16,o16,none⟩) (fs.length+1) c16) fs Z16 Zq2 (Ts++((X.drop i).take j).map fun e=>((e,none):QT)) (flat (Ts.map QT.pc)) h0 t0 0 (lfN g X) A1 C1:=⟨T5,B5,J.seg,J.dn⟩
     have hcell:∀b o,ncl EJ g b o→cx.base≤b∧¬(D.own b∨Z16 b∨Zq2 b)∧b<H5.size∧(D.TA0 b o∨D.n≤b):=fun b o hb=>M5.cell (show Gt.af 0 (lfN g X) b o from hb)
     have hown:∀b o,D.own b∨Z16 b∨Zq2 b→¬ncl EJ g b o:=fun b o hb hc=>(hcell b o hc).2.1 hb
     have htr0:∀o,¬ncl EJ g D.tr o:=fun o hc=>by have:=(hcell _ o hc).1;have:=T5.tc.tb;omega
     have hE:Fr (ncl EJ g) H5 H5:=Fr.refl _ _
     have hnsz:=B5.sz
     have hicX:=hN.sl.hle
     clear hsl
     obtain ⟨_,_,_,hsle5,_,_,hsl⟩:=Acc.stk B5.stk
     simp only [Value.slice.injEq,Option.some.injEq,Addr.mk.injEq] at hsle5
     obtain ⟨⟨rfl,rfl,_⟩,_,rfl⟩:=hsle5
     refine Ud 15 537133120 (by kernel_rfl) (Ul 3 rfl hN.c2 (Uq 1 rfl (O.slc (jl:=i) (jh:=X.length) (jm:=g.ic) rfl rfl rfl rfl underlying25 sizeOf27 rfl rfl rfl ⟨_,by rfl⟩ (by omega) (by omega) (by simp) (by simp) ?_)))
     intro od hod
     refine Ul 3 rfl hN.c2 (Ua 2 (((i+j:Nat):Int)) rfl (by omega) (O.slc (jl:=i+j) (jh:=X.length) (jm:=g.ic) rfl rfl rfl rfl underlying25 sizeOf27 rfl rfl rfl ⟨_,by rfl⟩ (by omega) (by omega) (by simp) (by simp) ?_))
     intro os2 hos2
     refine O.copy (b:=g.ib) (o:=(g.io+(i)*2)) (j:=(X.length-(i+j))) (cs:=(row EJ (X.drop (i+j)))) rfl rfl rfl ⟨underlying25,sizeOf27,zeroValue27,⟨_,typeInfo27,rfl⟩,rfl,by decide,by decide⟩ rfl rfl (show _=min _ _ by omega) ((Nat.lt_or_ge (i) g.ic).elim (fun h=>.inl (by rw [hod h])) (fun h=>.inr (by omega))) (.inl ⟨_,_,_,rfl,(hN.sl.rdDrop (i:=i+j) hos2 (by omega))⟩) (by rw [row_len];first|rfl|(congr 1;simp only [List.length_drop];try omega)) (row_ones EJ _) (hN.sl.wrm (i:=i) (m:=X.length-(i+j)) (by omega)) ?_
     intro H6 WH6
     have hyl:(X.drop (i+j)).length=X.length-(i+j):=by simp only [List.length_drop];try omega
     have hsH6:=WH6.size
     have fW:Fr (ncl EJ g) H5 H6:=(NodeM.fCpy hN (i:=i) (Y:=X.drop (i+j)) WH6 (by omega))
     replace hN:=hN.cpy (i:=i) (Y:=X.drop (i+j)) WH6 (by omega)
     replace hE:=hE.trans' fW (fun _ _ _ h=>h) (fun _ _ _ h=>h)
     obtain ⟨Y6,eY6⟩:∃z,z=X.take i++X.drop (i+j)++X.drop (i+(X.drop (i+j)).length):=⟨_,rfl⟩
     rw [←eY6] at hN
     have lY6:Y6.length=X.length:=by rw [eY6];simp only [List.length_append,List.length_take,List.length_drop];omega
     clear fW
     clear hyl
     refine ⟨trivial,?_⟩
     refine Uf 0 [4,5,6,7,10,11,12,13,14,15,16,17,18,24,25] rfl (Ut 2 rfl (Ur 8 64 rfl (Ul 3 rfl hN.c2 (Ub 2 (((Y6.length-j:Nat):Int)) rfl (by omega) (Uf 1 [4,5,6,7,10,11,12,13,14,15,16,17,18,24,25,26] rfl (Ut 1 rfl (Go'.loop (Uk [4,5,6,7,10,11,12,13,14,15,16,17,18,24,25,26] rfl ?_))))))))
     have hi6:=hN
     refine Go'.ind (σ:=Nat×List (Int×Int)) (fun s=>X.length-s.1) (fun s H'=>s.1≤X.length∧X.length-j≤s.1∧s.2.length=X.length∧s.2.take (X.length-j)=Y6.take (X.length-j)∧NodeM EJ H' g s.2 (.pointer none)∧Fr (ncl EJ g) H5 H') (fun s=>[(4,.pointer (some ⟨D.dl,0,none⟩)),(5,.pointer (some ⟨D.n,0,none⟩)),(6,.pointer (some ⟨D.n+1,0,none⟩)),(7,.pointer (some ⟨D.n+2,0,none⟩)),(10,.pointer (some ⟨D.n+3,0,none⟩)),(11,.bool ex),(12,.pointer (some ⟨D.n+4,0,none⟩)),(13,.func (.func 76) #[] #[.pointer (some ⟨D.n+4,0,none⟩),.pointer (some ⟨D.n,0,none⟩),.pointer (some ⟨D.n+2,0,none⟩)]),(14,.pointer (some ⟨D.hb,0,none⟩)),(15,.pointer (some ⟨D.pb,0,none⟩)),(16,.slice (some ⟨b16,o16,none⟩) (fs.length+1) c16),(17,.pointer (some ⟨g.p,0,none⟩)),(18,.int .i64 (i:Int)),(24,.bool stop),(25,.int .i64 (j:Int)),(26,.int .i64 (s.1:Int))]) (Y6.length-j,Y6) ⟨by simp only;omega,by simp only;omega,by simp only;omega,rfl,hN,hE⟩ rfl ?_
     clear hi6
     clear hN hE
     rintro ⟨k,Y⟩ H7 ⟨hk1,hk2,hYl,hYt,hN,hE⟩ ihz
     simp only at hk1 hk2 hYl hYt hN
     refine Ut 2 rfl ?_
     by_cases hkz:k<X.length
     ·
      refine Ur 7 256 rfl (Ul 4 rfl hN.c2 (Uc 1 rfl (lssT (by omega)) (Uf 0 [4,5,6,7,10,11,12,13,14,15,16,17,18,24,25,26,429] rfl (Go'.condT rfl (Ut 3 rfl (Ud 11 3212352 (by kernel_rfl) (Ul 3 rfl hN.c2 (Ul 1 rfl (hE.keep (hOW B5.ow).1 (hown _ 0 (.inl (.inl (by omega))))) (Us 2 rfl (hE.rd T5.tc.emp (fun _ _=>htr0 _)) rfl (Ux 0 k rfl (by omega) (by omega) (O.st3 rfl rfl sizeOf27 rfl rfl rfl rfl rfl (hN.sl.wri (i:=k) (by omega)) ?_)))))))))))
      intro H8 W8
      refine Uf 0 [4,5,6,7,10,11,12,13,14,15,16,17,18,24,25,26,429] rfl (Ut 1 rfl (Ur 3 0 rfl (Ua 1 (((k+1:Nat):Int)) rfl (by omega) (Uf 1 [4,5,6,7,10,11,12,13,14,15,16,17,18,24,25,26,429] rfl (Uk [4,5,6,7,10,11,12,13,14,15,16,17,18,24,25,26] rfl (Go'.inLoop ?_))))))
      have hN8:=hN.set (i:=k) (x:=(0,0)) W8 (by omega)
      exact ihz (k+1,Y.take k++(0,0)::Y.drop (k+1)) H8 ⟨by simp only;omega,by simp only;omega,by simp only [List.length_append,List.length_take,List.length_cons,List.length_drop];omega,by
       simp only
       rw [List.take_append_of_le_length (by rw [List.length_take];omega),List.take_take,Nat.min_eq_left (by omega)];exact hYt,hN8,hE.trans' (NodeM.fSet hN (i:=k) (x:=(0,0)) W8 (by omega)) (fun _ _ _ h=>h) (fun _ _ _ h=>h)⟩ (by simp only;omega)
     ·
      refine Ur 7 256 rfl (Ul 4 rfl hN.c2 (Uc 1 rfl (lssF (by omega)) (Uf 0 [4,5,6,7,10,11,12,13,14,15,16,17,18,24,25,26,429] rfl (Go'.condF rfl (Ut 2 rfl ?_)))))
      clear ihz
      refine Ud 16 3221291264 (by kernel_rfl) (Ul 4 rfl hN.c2 (Ul 3 rfl hN.c2 (Ub 2 (((Y.length-j:Nat):Int)) rfl (by omega) (O.slc (jl:=0) (jh:=Y.length-j) (jm:=g.ic) rfl rfl rfl rfl underlying25 sizeOf27 rfl rfl ⟨_,by rfl⟩ rfl (by omega) (by omega) (by simp) (by simp) ?_))))
      intro oc hoc
      have hoc2:g.io=oc:=by rw [hoc (by omega)];simp
      subst hoc2
      rw [Nat.sub_zero]
      refine Uq 2 rfl (O.st3 rfl rfl sizeOf25 rfl rfl rfl rfl rfl (hN.wr.at0 2 1 (by omega)) ?_)
      intro H9 W9
      have hN9:=hN.cut W9 (by omega)
      replace hE:=hE.trans' (Wrote.fHdr (E:=EJ) (g:=g) W9 (by omega)) (fun _ _ _ h=>h) (fun _ _ _ h=>h)
      have hX':Y.take (Y.length-j)=X.take i++X.drop (i+j):=by
       have l9:(X.take i++X.drop (i+j)).length=X.length-j:=by simp only [List.length_append,List.length_take,List.length_drop];omega
       rw [hYl,hYt,eY6,←l9,List.take_left]
      rw [hX'] at hN9
      replace hN:=hN9
      refine Uf 0 [4,5,6,7,10,11,12,13,14,15,16,17,18,24,25,26,429] rfl (Ut 2 rfl ?_)
      have hgc:g.cnt=X.length:=M5.good.cnt
      have hccn:cl H9 (Gt.p 0 (lfN g X)) 1=some (.int .i64 ((Gt.L 0 (lfN g X)).length:Int)):=by
       have h9:=hN.c1
       rw [hgc] at h9
       exact h9
      have hcq:=M5.cnt (show Fr (Gt.af 0 (lfN g X)) _ _ from hE) hccn
      have hptn:=M5.pts
      have hnd:=M5.dn.nodup M5.T.g
      have hslc:=hsl.fr hE (fun o _ _ hz=>hown b16 o (.inr (.inl hz16)) hz)
      obtain ⟨pts,hpts⟩:∃pts,pts=Gt.p h0 t0::fs.map Prod.fst:=⟨_,rfl⟩
      rw [←hpts] at hcq hptn hnd
      have hc5c:=hE.keep (hOW B5.ow).1 (hown _ 0 (.inl (.inl (by omega))))
      have hcnt0:=hE.keep T5.cnt (htr0 _)
      have hLt:X.length≤(A++R).length:=by
       have e9:=congrArg List.length M5.eL
       have h9:(A1++Gt.L 0 (lfN g X)++C1).length=A1.length+X.length+C1.length:=by rw [List.length_append,List.length_append];rfl
       rw [h9] at e9
       omega
      refine Ur 1 0 rfl (Uf 1 [4,5,6,7,10,11,12,13,14,15,16,17,18,24,25,26,27,429] rfl (Ut 1 rfl (Go'.loop (Uk [4,5,6,7,10,11,12,13,14,15,16,17,18,24,25,27] rfl (Go'.ind (σ:=Nat) (fun s=>fs.length+1-s) (fun s H'=>s≤fs.length+1∧CntL H9 H' pts s j) (fun s=>[(4,.pointer (some ⟨D.dl,0,none⟩)),(5,.pointer (some ⟨D.n,0,none⟩)),(6,.pointer (some ⟨D.n+1,0,none⟩)),(7,.pointer (some ⟨D.n+2,0,none⟩)),(10,.pointer (some ⟨D.n+3,0,none⟩)),(11,.bool ex),(12,.pointer (some ⟨D.n+4,0,none⟩)),(13,.func (.func 76) #[] #[.pointer (some ⟨D.n+4,0,none⟩),.pointer (some ⟨D.n,0,none⟩),.pointer (some ⟨D.n+2,0,none⟩)]),(14,.pointer (some ⟨D.hb,0,none⟩)),(15,.pointer (some ⟨D.pb,0,none⟩)),(16,.slice (some ⟨b16,o16,none⟩) (fs.length+1) c16),(17,.pointer (some ⟨g.p,0,none⟩)),(18,.int .i64 (i:Int)),(24,.bool stop),(25,.int .i64 (j:Int)),(27,.int .i64 (s:Int))]) 0 ⟨by omega,CntL.start⟩ rfl ?_)))))
      rintro jc H21 ⟨hj,hcl⟩ ihc
      refine Ut 2 rfl ?_
      by_cases hjl:jc<fs.length+1
      ·
       obtain ⟨⟨q,ix⟩,hq⟩:∃q,((Gt.p h0 t0,0)::fs)[jc]?=some q:=⟨_,List.getElem?_eq_getElem (by simpa using hjl)⟩
       have hqp:pts[jc]?=some q:=by
        have h9:(((Gt.p h0 t0,0)::fs).map Prod.fst)[jc]?=some q:=by rw [List.getElem?_map,hq];rfl
        rw [hpts];exact h9
       have hqm:=List.mem_of_getElem? hqp
       obtain ⟨cc,hcc1,hcc2,hcc3,hcc4⟩:=hcq q hqm
       replace hcc2:X.length≤cc:=hcc2
       have hcc:=hcl.old hnd hqp hcc1
       have hsq:=(hslc.fr hcl.fr (fun o _ _ hz=>(hptn b16 (List.mem_of_mem_take hz.2)).2.1 (.inr (.inl hz16)))).cell (stI_at hq) (j:=0) rfl
       refine Ur 4 0 rfl (Uc 3 rfl (lssT (by omega)) (Uf 0 [4,5,6,7,10,11,12,13,14,15,16,17,18,24,25,27,460] rfl (Go'.condT rfl (Ut 3 rfl (Ur 13 33571072 rfl (Ux 2 jc rfl (by omega) (by omega) (Ul 1 rfl hsq (Ul 2 rfl hcc (Ub 1 (((cc-j:Nat):Int)) rfl (by omega) (Uq 2 rfl (O.st rfl rfl sizeOf3 rfl rfl rfl rfl rfl ((hcl.fr.wr hcc4).at0 1 1 (by omega)) ?_)))))))))))
       intro H22 W22
       refine ⟨trivial,?_⟩
       refine Uf 0 [4,5,6,7,10,11,12,13,14,15,16,17,18,24,25,27,460] rfl (Ut 1 rfl (Ur 3 0 rfl (Ua 1 (((jc+1:Nat):Int)) rfl (by omega) (Uf 1 [4,5,6,7,10,11,12,13,14,15,16,17,18,24,25,27,460] rfl (Uk [4,5,6,7,10,11,12,13,14,15,16,17,18,24,25,27] rfl (Go'.inLoop ?_))))))
       exact ihc (jc+1) H22 ⟨by omega,hcl.step hnd hqp hcc1 W22⟩ (by omega)
      ·
       refine Ur 4 0 rfl (Uc 3 rfl (lssF (by omega)) (Uf 0 [4,5,6,7,10,11,12,13,14,15,16,17,18,24,25,27,460] rfl (Go'.condF rfl (Ut 2 rfl ?_))))
       obtain rfl:jc=fs.length+1:=by omega
       clear ihc
       have hpl:pts.length=fs.length+1:=by rw [hpts];simp
       have hfc:Fr (fun b o=>o=1∧b∈pts) H9 H21:=hcl.fr.mono fun b o _ hz=>⟨hz.1,List.mem_of_mem_take hz.2⟩
       have hch:∀q∈pts,∀c:Nat,cl H9 q 1=some (.int .i64 (c:Int))→cl H21 q 1=some (.int .i64 ((c-j:Nat):Int)):=fun q hq=>hcl.ch q (by rw [List.take_of_length_le (by omega)];exact hq)
       have hc5d:=hfc.keep hc5c (fun hz=>(hptn _ hz.2).2.1 (.inl (.inl (by omega))))
       have htrd:∀o,¬(fun b o=>o=1∧b∈pts) D.tr o:=fun o hz=>by have:=(hptn _ hz.2).1;have:=T5.tc.tb;omega
       have hcnt1:=hfc.keep hcnt0 (htrd _)
       refine Ur 9 131137 rfl (Ul 0 rfl hc5d (Ul 2 rfl hcnt1 (Ub 1 (((((A++R).length)-j:Nat):Int)) rfl (by omega) (Uq 2 rfl (O.st rfl rfl sizeOf3 rfl rfl rfl rfl rfl ((hfc.wr (hE.wr T5.tc.wr)).at0 3 1 (by omega)) ?_)))))
       intro H23 W23
       refine ⟨trivial,?_⟩
       refine Uf 0 [4,5,6,7,10,11,12,13,14,15,16,17,18,24,25,27,460] rfl (Ut 1 rfl ?_)
       obtain ⟨R2,t0',g',q1,q2,q3,q4,q5,q6,q7,q8,q9⟩:=M5.cutL hPD hA hR (d:=j) (by omega) (by omega) hN hE hpts hfc hch W23
       have hmap:(Ts++((X.drop i).take j).map fun e=>((e,none):QT)).map QT.pc=Ts.map QT.pc++((X.drop i).take j).map fun e=>((e,[]):Pc (Int×Int)):=by rw [List.map_append,List.map_map];rfl
       have hdri:=J.dri
       rw [q8] at hdri
       have hdri2:Dri OI A ([]++(X.drop i).take j++R2) R0 (Ts.map QT.pc) D.stop:=hdri
       have hdri3:=hdri2.cuts hns
       have J':Jn D A R0 R2 H23 pv (.slice (some ⟨b16,o16,none⟩) (fs.length+1) c16) fs Z16 Zq2 (Ts++((X.drop i).take j).map fun e=>((e,none):QT)) h0 t0' 0 (lfN g' (X.take i++X.drop (i+j))) A1 C1:=by
        refine ⟨by rw [hmap];exact hdri3,q1,q2,?_,q4⟩
        rw [hmap,flat_app,flat_ones]
        exact q3
       have hlT:(X.take i).length=i:=by rw [List.length_take];omega
       have hR2:R2=X.drop (i+j)++C1:=by
        rw [q7,List.drop_append_of_le_length (by omega),List.drop_of_length_le (l:=X.take i) (by omega),List.nil_append]
       refine Ur 1 0 rfl (Uf 1 [4,5,6,7,10,11,12,13,14,15,16,17,18,24,25,27,460,483] rfl ?_)
       cases stop
       rotate_left
       ·
        refine Go'.condT rfl (Ut 1 rfl ?_)
        obtain ⟨x,hx,hst⟩:=hstp rfl
        obtain ⟨hxl,hxe⟩:=List.getElem?_eq_some_iff.1 hx
        have hR3:R2=x::(X.drop (i+j+1)++C1):=by
         rw [hR2,←List.getElem_cons_drop (h:=hxl),hxe];rfl
        have hsR:=J'.T.srt
        rw [hR3] at hsR
        obtain ⟨vs,hvl,hvo,hvr⟩:=(hLi J'.B.lst).vals
        obtain ⟨va,vb,vc,vd,rfl⟩:∃a b c d,vs=[a,b,c,d]:=by
         match vs,hvl with
         | [a,b,c,d],_=>exact ⟨a,b,c,d,rfl⟩
        refine Ur 4 144 rfl (Uq 2 rfl (O.lds rfl rfl rfl (fun w=>⟨isAgg61 w,sizeOf61 w⟩) rfl hvl hvr (O.st (vs:=[va,vb,vc,vd]) rfl rfl sizeOf61 rfl rfl rfl hvl hvo (hOW J'.B.ow).2.2.2 ?_)))
        intro Hr Wr
        have hsr:=Wr.size
        refine ⟨trivial,?_⟩
        refine Uf 0 [4,5,6,7,10,11,12,13,14,15,16,17,18,24,25,27,460,483] rfl (Go'.ret (vs:=[_]) func53 results53 ⟨⟨_,_,rfl,fun _ _=>run_loadVar_agg (fun w=>⟨isAgg61 w,sizeOf61 w⟩) rfl Wr.all⟩,trivial⟩ ?_)
        exact ⟨_,pv,_,_,_,_,_,J'.dri,(fun y hy=>by rw [hR3] at hy;exact stop_all hsR hst y hy),DrT.res (.inr ⟨h0,t0',J'.T,J'.B,J'.seg⟩) (by omega) Wr (hWO (OwR.res (hOW J'.B.ow) Wr)),[va,vb,vc,vd],rfl,hvl,Wr.fr.rd hvr (fun _ _=>nr (.inl (by have:=J'.B.nb.2.1;unfold Dc.n at *;omega)))⟩
       ·
        refine Go'.condF rfl (Ut 1 rfl (Uk [4,5,6,7,10,11,12,13,14,15,16,17,18] rfl ?_))
        exact tail () _ ⟨_,R2,pv,fs,Z16,Zq2,_,h0,t0',lfN g' (X.take i++X.drop (i+j)),A1,C1,J',q5.symm,by omega,rfl,q6,q7,(show i≤(X.take i++X.drop (i+j)).length by rw [List.length_append,List.length_take,List.length_drop];omega)⟩
   clear hA hR hil hN hx1 hxm J
   rintro _ HL ⟨mL,hJL⟩
   refine Ut 2 rfl (Go'.loop (Uk [4,5,6,7,10,11,12,13,14,15,16,17,18] rfl ?_))
   obtain ⟨sv,hsv⟩:∃sv:Value,sv=(.slice (some ⟨b16,o16,none⟩) (fs.length+1) c16):=⟨_,rfl⟩
   rw [←hsv] at hJL ⊢
   obtain ⟨p,hp9⟩:∃p,p=g.p:=⟨_,rfl⟩
   rw [←hp9] at hJL ⊢
   clear hsv hp9 hz16 hb16 hsl hll htl hm0 hm2 hnL
   refine Go'.ind (σ:=Nat) (fun s=>s) (fun s H'=>JL D A R0 nL sv p i s H') (fun _=>[(4,.pointer (some ⟨D.dl,0,none⟩)),(5,.pointer (some ⟨D.n,0,none⟩)),(6,.pointer (some ⟨D.n+1,0,none⟩)),(7,.pointer (some ⟨D.n+2,0,none⟩)),(10,.pointer (some ⟨D.n+3,0,none⟩)),(11,.bool ex),(12,.pointer (some ⟨D.n+4,0,none⟩)),(13,.func (.func 76) #[] #[.pointer (some ⟨D.n+4,0,none⟩),.pointer (some ⟨D.n,0,none⟩),.pointer (some ⟨D.n+2,0,none⟩)]),(14,.pointer (some ⟨D.hb,0,none⟩)),(15,.pointer (some ⟨D.pb,0,none⟩)),(16,sv),(17,.pointer (some ⟨p,0,none⟩)),(18,.int .i64 (i:Int))]) mL hJL rfl ?_
   clear hJL
   rintro m3 H ⟨R,pv,fs,Z16,Zq,Ts,h0,t0,t,A1,C1,J,rfl,hm0,rfl,hA,hR,hil⟩ ih3
   obtain ⟨b16,o16,c16,rfl,hz16,hb16,hsl⟩:=Acc.stk J.B.stk
   obtain ⟨g,X⟩:=t
   replace hA:A=A1++X.take i:=hA
   replace hR:R=X.drop i++C1:=hR
   replace hil:i≤X.length:=hil
   have hN:NodeM EJ H g X (.pointer none):=J.good.1
   have hx1:1≤X.length:=J.x1 hPD
   have hxm:X.length≤D.P.mx:=J.good.xmx
   have hll:(A++R).length≤(A++R0).length:=by
    have:=J.dri.pm.length_eq
    simp only [List.length_append] at this ⊢
    omega
   have htl:=J.tall hPD
   refine (show Go' _ _ _ _ _ [(4,.pointer (some ⟨D.dl,0,none⟩)),(5,.pointer (some ⟨D.n,0,none⟩)),(6,.pointer (some ⟨D.n+1,0,none⟩)),(7,.pointer (some ⟨D.n+2,0,none⟩)),(10,.pointer (some ⟨D.n+3,0,none⟩)),(11,.bool ex),(12,.pointer (some ⟨D.n+4,0,none⟩)),(13,.func (.func 76) #[] #[.pointer (some ⟨D.n+4,0,none⟩),.pointer (some ⟨D.n,0,none⟩),.pointer (some ⟨D.n+2,0,none⟩)]),(14,.pointer (some ⟨D.hb,0,none⟩)),(15,.pointer (some ⟨D.pb,0,none⟩)),(16,.slice (some ⟨b16,o16,none⟩) (fs.length+1) c16),(17,.pointer (some ⟨g.p,0,none⟩)),(18,.int .i64 (i:Int))] _ _ from ?_)
   refine Ut 2 rfl ?_
   by_cases hlt3:i<X.length
   rotate_left
   ·
    refine Ur 7 256 rfl (Ul 4 rfl hN.c2 (Uc 1 rfl (lssF (by omega)) (Uf 0 [4,5,6,7,10,11,12,13,14,15,16,17,18,493] rfl (Go'.condF rfl (Ut 2 rfl (Go'.loop (Uk [4,5,6,7,10,11,12,13,14,15,16] rfl ?_)))))))
    have hJC:JC D A R0 nL (.slice (some ⟨b16,o16,none⟩) (fs.length+1) c16) fs.length H:=⟨R,pv,fs,Z16,Zq,Ts,h0,t0,0,lfN g X,A1,C1,J,hm0,rfl,by
      have e9:X.take i=X:=List.take_of_length_le (by omega)
      rw [e9] at hA;exact hA,by
      have e9:X.drop i=[]:=List.drop_of_length_le (by omega)
      rw [e9] at hR;exact hR⟩
    refine Go'.ind (σ:=Value×Nat) (fun s=>s.2) (fun s H'=>JC D A R0 nL s.1 s.2 H') (fun s=>[(4,.pointer (some ⟨D.dl,0,none⟩)),(5,.pointer (some ⟨D.n,0,none⟩)),(6,.pointer (some ⟨D.n+1,0,none⟩)),(7,.pointer (some ⟨D.n+2,0,none⟩)),(10,.pointer (some ⟨D.n+3,0,none⟩)),(11,.bool ex),(12,.pointer (some ⟨D.n+4,0,none⟩)),(13,.func (.func 76) #[] #[.pointer (some ⟨D.n+4,0,none⟩),.pointer (some ⟨D.n,0,none⟩),.pointer (some ⟨D.n+2,0,none⟩)]),(14,.pointer (some ⟨D.hb,0,none⟩)),(15,.pointer (some ⟨D.pb,0,none⟩)),(16,s.1)]) ((.slice (some ⟨b16,o16,none⟩) (fs.length+1) c16),fs.length) hJC rfl ?_
    clear hJC hA hR hil hN hx1 hxm J hz16 hb16 hsl hll htl hm0 ih3
    rintro ⟨sv,m4⟩ H J ih4
    simp only at J ih4
    obtain ⟨R,pv,fs,Z16,Zq,Ts,h0,t0,h,t,A1,C1,J,hm0,rfl,hA,hR⟩:=J
    obtain ⟨b16,o16,c16,rfl,hz16,hb16,hsl⟩:=Acc.stk J.B.stk
    have hcap:=hsl.hle
    have hstl:(stI ((Gt.p h0 t0,0)::fs)).length=fs.length+1:=by simp [stI]
    refine (show Go' _ _ _ _ _ [(4,.pointer (some ⟨D.dl,0,none⟩)),(5,.pointer (some ⟨D.n,0,none⟩)),(6,.pointer (some ⟨D.n+1,0,none⟩)),(7,.pointer (some ⟨D.n+2,0,none⟩)),(10,.pointer (some ⟨D.n+3,0,none⟩)),(11,.bool ex),(12,.pointer (some ⟨D.n+4,0,none⟩)),(13,.func (.func 76) #[] #[.pointer (some ⟨D.n+4,0,none⟩),.pointer (some ⟨D.n,0,none⟩),.pointer (some ⟨D.n+2,0,none⟩)]),(14,.pointer (some ⟨D.hb,0,none⟩)),(15,.pointer (some ⟨D.pb,0,none⟩)),(16,.slice (some ⟨b16,o16,none⟩) (fs.length+1) c16)] _ _ from ?_)
    refine Ut 2 rfl ?_
    obtain ⟨⟨lq,lx⟩,hlq⟩:∃q,((Gt.p h0 t0,0)::fs)[fs.length]?=some q:=⟨_,List.getElem?_eq_getElem (by simp)⟩
    have hix:=hsl.cell (stI_at hlq) (j:=1) rfl
    have hll:(A++R).length≤(A++R0).length:=by
     have:=J.dri.pm.length_eq
     simp only [List.length_append] at this ⊢
     omega
    have htl:=J.tall hPD
    refine Ur 8 4096 rfl (Ub 3 (((fs.length:Nat):Int)) rfl (by omega) (Ux 0 (fs.length) rfl (by omega) (by omega) (O.fa (off:=1) rfl rfl rfl rfl ⟨_,_,_,underlying130,rfl,rfl,sizeOf3⟩ rfl (Ul 0 rfl hix (Uf 1 [4,5,6,7,10,11,12,13,14,15,16,18] rfl (Ut 1 rfl (Ur 6 0 rfl (Ub 3 (((fs.length:Nat):Int)) rfl (by omega) (O.slc (jl:=0) (jh:=fs.length) (jm:=c16) rfl rfl rfl rfl underlying129 sizeOf130 rfl rfl ⟨_,by rfl⟩ rfl (by omega) (by omega) (by simp) (by simp) ?_)))))))))
    intro oc hoc
    have hoc2:o16=oc:=by rw [hoc (by omega)];simp
    subst hoc2
    rw [Nat.sub_zero]
    refine Uf 1 [4,5,6,7,10,11,12,13,14,15,16,18] rfl (Ut 2 rfl ?_)
    by_cases hf0:fs.length=0
    ·
     refine Ur 3 0 rfl (Uc 2 rfl (eqlT (by omega)) (Uf 0 [4,5,6,7,10,11,12,13,14,15,16,18,639] rfl (Go'.condT rfl (Ut 1 rfl ?_))))
     have hRn:R=[]:=by
      rw [hR]
      have e:fs=[]:=List.length_eq_zero_iff.1 hf0
      have d:=J.dn
      clear hlq hix hsl hstl hcap htl J
      subst e
      cases d
      rfl
     obtain ⟨vs,hvl,hvo,hvr⟩:=(hLi J.B.lst).vals
     obtain ⟨va,vb,vc,vd,rfl⟩:∃a b c d,vs=[a,b,c,d]:=by
      match vs,hvl with
      | [a,b,c,d],_=>exact ⟨a,b,c,d,rfl⟩
     refine Ur 4 144 rfl (Uq 2 rfl (O.lds rfl rfl rfl (fun w=>⟨isAgg61 w,sizeOf61 w⟩) rfl hvl hvr (O.st (vs:=[va,vb,vc,vd]) rfl rfl sizeOf61 rfl rfl rfl hvl hvo (hOW J.B.ow).2.2.2 ?_)))
     intro Hr Wr
     have hsr:=Wr.size
     refine ⟨trivial,?_⟩
     refine Uf 0 [4,5,6,7,10,11,12,13,14,15,16,18,639] rfl (Go'.ret (vs:=[_]) func53 results53 ⟨⟨_,_,rfl,fun _ _=>run_loadVar_agg (fun w=>⟨isAgg61 w,sizeOf61 w⟩) rfl Wr.all⟩,trivial⟩ ?_)
     exact ⟨_,pv,_,_,Z16,Zq,Ts,J.dri,(fun x hx=>by rw [hRn] at hx;cases hx),DrT.res (.inr ⟨h0,t0,J.T,J.B,J.seg⟩) (by omega) Wr (hWO (OwR.res (hOW J.B.ow) Wr)),[va,vb,vc,vd],rfl,hvl,Wr.fr.rd hvr (fun _ _=>nr (.inl (by have:=J.B.nb.2.1;unfold Dc.n at *;omega)))⟩
    ·
     refine Ur 3 0 rfl (Uc 2 rfl (eqlF (by omega)) (Uf 0 [4,5,6,7,10,11,12,13,14,15,16,18,639] rfl (Go'.condF rfl (Ut 2 rfl ?_))))
     obtain ⟨fs2,⟨q,ix⟩,e9⟩:∃a b,fs=a++[b]:=by
      rcases List.eq_nil_or_concat fs with e|⟨a,b,e⟩
      · rw [e] at hf0;exact absurd rfl hf0
      · exact ⟨a,b,by simpa using e⟩
     have hfl2:fs.length=fs2.length+1:=by rw [e9,List.length_append];rfl
     have hlx:lx=ix:=by
      rw [e9] at hlq
      rw [show (fs2++[(q,ix)]).length=fs2.length+1 by rw [List.length_append];rfl,List.getElem?_cons_succ,List.getElem?_append_right (Nat.le_refl _),Nat.sub_self] at hlq
      simp only [List.getElem?_cons_zero,Option.some.injEq,Prod.mk.injEq] at hlq
      exact hlq.2.symm
     subst hlx
     have hdn:=J.dn
     have hgk:=J.good
     rw [e9] at hdn
     obtain ⟨t2,A2,C2,d2,hk,rfl,eA,eC⟩:=hdn.up
     have hat:=d2.at
     obtain ⟨⟨lq2,lx2⟩,hlq2⟩:∃q,((Gt.p h0 t0,0)::fs)[fs2.length]?=some q:=⟨_,List.getElem?_eq_getElem (by simp;omega)⟩
     have hlp2:lq2=Gt.p (h+1) t2:=by
      have h8:(((Gt.p h0 t0,0)::fs).map Prod.fst)[fs2.length]?=some lq2:=by rw [List.getElem?_map,hlq2];rfl
      have h7:(((Gt.p h0 t0,0)::fs).map Prod.fst)[fs2.length]?=(Gt.p h0 t0::fs2.map Prod.fst)[fs2.length]?:=by
       rw [e9,List.map_cons,List.map_append,←List.cons_append,List.getElem?_append_left (by simp)]
      rw [h7,hat] at h8
      exact (Option.some.inj h8).symm
     have hnd2:=hsl.cell (stI_at hlq2) (j:=0) rfl
     have hg2:Gt.Good H D.P (h+1) t2:=(d2.good J.T.g).1
     have hKl:t2.2.2.length=t2.2.1.length+1:=hg2.2.2.2.2.2.1
     have hil:lx≤t2.2.1.length:=by have:=(List.getElem?_eq_some_iff.1 hk).1;omega
     have hN:=hg2.1
     have hx255:=hPD.hx
     have hxm:t2.2.1.length≤D.P.mx:=hg2.2.2.2.2.1
     have hst2:(stI ((Gt.p h0 t0,0)::fs2))=(stI ((Gt.p h0 t0,0)::fs)).take fs.length:=by
      rw [e9]
      simp [stI]
     have hac2:Acc EK Z16 H (.slice (some ⟨b16,o16,none⟩) (fs2.length+1) c16) (stI ((Gt.p h0 t0,0)::fs2)):=by
      rw [hst2,←hfl2]
      exact Acc.take (i:=fs.length) hsl hz16 hb16 (by omega)
     have J2':Jn D A R0 R H pv (.slice (some ⟨b16,o16,none⟩) (fs2.length+1) c16) fs2 Z16 Zq Ts h0 t0 (h+1) t2 A2 C2:=⟨J.dri,J.T,J.B.stack (Fr.refl _ _) hac2 (fun b hb=>⟨.inl hb,(J.B.z16 b hb).2⟩),J.seg,d2⟩
     have hcu:CuI A R A2 C2 t2 lx t [] (Gt.L h t):=CuI.up hg2 hk (by rw [hA,eA];rfl) (by rw [hR,eC];rfl)
     refine Ur 8 4096 rfl (Ub 3 (((fs2.length:Nat):Int)) rfl (by omega) (Ux 0 (fs2.length) rfl (by omega) (by omega) (Ul 1 rfl (by rw [hlp2] at hnd2;exact hnd2) (Uf 1 [4,5,6,7,10,11,12,13,14,15,16,17,18,639] rfl (Ut 1 rfl ?_)))))
     by_cases hlt9:lx<t2.2.1.length
     ·
      refine Ur 7 256 rfl (Ul 4 rfl hN.c2 (Uc 1 rfl (lssT (by omega)) (Uf 0 [4,5,6,7,10,11,12,13,14,15,16,17,18,639,656] rfl (Go'.condT rfl (Ut 1 rfl (Ur 1 0 rfl (Uf 1 [4,5,6,7,10,11,12,13,14,15,16,17,18,19,639,656] rfl (Ut 5 rfl (Uk [4,5,6,7,10,11,12,13,14,15,16,17,18,19] rfl ?_)))))))))
      rw [hfl2]
      exact ih2 (.slice (some ⟨b16,o16,none⟩) (fs2.length+1) c16,Gt.p (h+1) t2,lx,true,2*(A++R).length) H ⟨R,pv,fs2,Z16,Zq,Ts,h0,t0,h+1,t2,A2,C2,J2',rfl,by omega,rfl,t,[],_,hcu,fun _=>⟨rfl,hlt9⟩,fun e=>Bool.noConfusion e⟩ (by simp only;omega)
     ·
      refine Ur 7 256 rfl (Ul 4 rfl hN.c2 (Uc 1 rfl (lssF (by omega)) (Uf 0 [4,5,6,7,10,11,12,13,14,15,16,17,18,639,656] rfl (Go'.condF rfl (Ut 2 rfl ?_)))))
      have hov:=hcu.over hg2 (by omega)
      rw [hfl2]
      refine Uk [4,5,6,7,10,11,12,13,14,15,16] rfl (Go'.inLoop ?_)
      exact ih4 (.slice (some ⟨b16,o16,none⟩) (fs2.length+1) c16,fs2.length) H ⟨R,pv,fs2,Z16,Zq,Ts,h0,t0,h+1,t2,A2,C2,J2',hm0,rfl,hov.1,hov.2⟩ (by simp only;omega)
   ·
    obtain ⟨x,hx⟩:∃x,X[i]?=some x:=⟨X[i],List.getElem?_eq_getElem hlt3⟩
    have eR:R=x::(X.drop (i+1)++C1):=by
     obtain ⟨_,h9⟩:=List.getElem?_eq_some_iff.1 hx
     rw [hR,←List.getElem_cons_drop (h:=hlt3),h9];rfl
    obtain ⟨R',hR'⟩:∃R',R'=X.drop (i+1)++C1:=⟨_,rfl⟩
    rw [←hR'] at eR
    subst eR
    have hmn1:=hPD.h1
    have hmm:=hPD.hm
    have hx255:=hPD.hx
    have hfl:(flat (Ts.map QT.pc)).length+(QT.pc ((x,none):QT)).2.length<4294967295:=by
     have:=J.dri.pm.length_eq
     show (flat (Ts.map QT.pc)).length+0<4294967295
     simp only [List.length_append] at this hlen
     omega
    refine Ur 7 256 rfl (Ul 4 rfl hN.c2 (Uc 1 rfl (lssT (by omega)) (Uf 0 [4,5,6,7,10,11,12,13,14,15,16,17,18,493] rfl (Go'.condT rfl (Ut 5 rfl ?_)))))
    cases hst:D.stop x
    rotate_left
    ·
     refine Ur 9 147712 rfl (Ul 4 rfl hN.c2 (Ux 1 i rfl (by omega) (by omega) (Us 0 rfl (hN.sl.item hx) rfl (O.callC rfl rfl rfl rfl call76 rfl (maxstop_spec J.T.tc (hOW J.B.ow) x) ?_))))
     rintro _ H3 ⟨rfl,hf3⟩
     rw [←hstp,hst]
     replace J:=J.nw hf3
     replace hN:=NodeM.fr EJ hN hf3 (fun _ _ _ h=>h)
     clear hsl
     refine ⟨trivial,?_⟩
     refine Uf 0 [4,5,6,7,10,11,12,13,14,15,16,17,18,493,504] rfl (Go'.condT rfl (Ut 1 rfl ?_))
     obtain ⟨vs,hvl,hvo,hvr⟩:=(hLi J.B.lst).vals
     obtain ⟨va,vb,vc,vd,rfl⟩:∃a b c d,vs=[a,b,c,d]:=by
      match vs,hvl with
      | [a,b,c,d],_=>exact ⟨a,b,c,d,rfl⟩
     refine Ur 4 144 rfl (Uq 2 rfl (O.lds rfl rfl rfl (fun w=>⟨isAgg61 w,sizeOf61 w⟩) rfl hvl hvr (O.st (vs:=[va,vb,vc,vd]) rfl rfl sizeOf61 rfl rfl rfl hvl hvo (hOW J.B.ow).2.2.2 ?_)))
     intro Hr Wr
     have hsr:=Wr.size
     refine ⟨trivial,?_⟩
     refine Uf 0 [4,5,6,7,10,11,12,13,14,15,16,17,18,493,504] rfl (Go'.ret (vs:=[_]) func53 results53 ⟨⟨_,_,rfl,fun _ _=>run_loadVar_agg (fun w=>⟨isAgg61 w,sizeOf61 w⟩) rfl Wr.all⟩,trivial⟩ ?_)
     exact ⟨_,pv,(.slice (some ⟨b16,o16,none⟩) (fs.length+1) c16),_,Z16,Zq,Ts,J.dri,(stop_all J.T.srt hst),DrT.res (.inr ⟨h0,t0,J.T,J.B,J.seg⟩) (by omega) Wr (hWO (OwR.res (hOW J.B.ow) Wr)),[va,vb,vc,vd],rfl,hvl,Wr.fr.rd hvr (fun _ _=>nr (.inl (by have:=J.B.nb.2.1;unfold Dc.n at *;omega)))⟩
    ·
     refine Ur 9 147712 rfl (Ul 4 rfl hN.c2 (Ux 1 i rfl (by omega) (by omega) (Us 0 rfl (hN.sl.item hx) rfl (O.callC rfl rfl rfl rfl call76 rfl (maxstop_spec J.T.tc (hOW J.B.ow) x) ?_))))
     rintro _ H3 ⟨rfl,hf3⟩
     rw [←hstp,hst]
     replace J:=J.nw hf3
     replace hN:=NodeM.fr EJ hN hf3 (fun _ _ _ h=>h)
     clear hsl
     refine ⟨trivial,?_⟩
     refine Uf 0 [4,5,6,7,10,11,12,13,14,15,16,17,18,493,504] rfl (Go'.condF rfl (Ut 2 rfl ?_))
     by_cases hmx:D.P.mn<X.length
     rotate_left
     ·
      refine Ud 10 66624 (by kernel_rfl) (Ul 3 rfl hN.c2 (Ul 1 rfl (hOW J.B.ow).1 (Ul 2 rfl J.T.tc.mn' (Uc 0 rfl (gtrF (by omega)) (Uf 0 [4,5,6,7,10,11,12,13,14,15,16,17,18,493,504,517] rfl (Go'.condF rfl (Ut 1 rfl (Ur 8 36928 rfl (Ul 3 rfl hN.c2 (Ux 1 i rfl (by omega) (by omega) (Us 0 rfl (hN.sl.item hx) rfl ?_)))))))))))
      refine O.st (vs:=(EJ.enc x)) rfl rfl sizeOf27 rfl rfl rfl rfl rfl J.B.w15 ?_
      intro H4 W4
      have B4:=J.B.piv W4
      have T4:=J.T.fr W4.fr (J.B.keeps fun b o h=>.inl (.inl (by have:=h.1;omega)))
      have S4:=J.seg
      have hcell4:∀b o,Gt.af h0 t0 b o→cx.base≤b∧¬(D.own b∨Z16 b∨Zq b):=fun b o hb=>⟨(J.B.dj b o (.inl hb)).1,(J.B.dj b o (.inl hb)).2.1⟩
      have hsub4:=J.dn.sub
      replace hN:=NodeM.fr EJ hN W4.fr (fun b o hb=>nr (.inl (fun e=>(hcell4 b o (hsub4 b o hb)).2 (.inl (.inl (by omega))))))
      refine ⟨trivial,?_⟩
      refine Uf 0 [4,5,6,7,10,11,12,13,14,15,16,17,18,493,504,517] rfl (Ut 2 rfl ?_)
      refine Go'.join2 (σ:=Unit) (fun _ H'=>∃Zq',RtT H' D.tr D.P (A++x::R') h0 t0∧DrB D H' x (.slice (some ⟨b16,o16,none⟩) (fs.length+1) c16) ((Gt.p h0 t0,0)::fs) Z16 Zq' (Ts++[(x,none)]) (Gt.af h0 t0)∧Fr (fun b _=>b=D.dl∨Zq b) H4 H') (fun _=>[(4,.pointer (some ⟨D.dl,0,none⟩)),(5,.pointer (some ⟨D.n,0,none⟩)),(6,.pointer (some ⟨D.n+1,0,none⟩)),(7,.pointer (some ⟨D.n+2,0,none⟩)),(10,.pointer (some ⟨D.n+3,0,none⟩)),(11,.bool ex),(12,.pointer (some ⟨D.n+4,0,none⟩)),(13,.func (.func 76) #[] #[.pointer (some ⟨D.n+4,0,none⟩),.pointer (some ⟨D.n,0,none⟩),.pointer (some ⟨D.n+2,0,none⟩)]),(14,.pointer (some ⟨D.hb,0,none⟩)),(15,.pointer (some ⟨D.pb,0,none⟩)),(16,.slice (some ⟨b16,o16,none⟩) (fs.length+1) c16),(17,.pointer (some ⟨g.p,0,none⟩)),(18,.int .i64 (i:Int))]) ?_ ?_
      rotate_left
      ·
       intro tail
       refine Ur 1 0 rfl (Uf 1 [4,5,6,7,10,11,12,13,14,15,16,17,18,493,504,517,604] rfl ?_)
       cases hex:ex
       ·
        rw [hex] at tail
        refine Go'.condF rfl (Ut 1 rfl (Uk [4,5,6,7,10,11,12,13,14,15,16,17,18] rfl ?_))
        exact tail () _ ⟨Zq,T4,B4.add hLS hex ((x,none):QT) trivial (fun _ _ h=>h.elim) (show (0:Nat)<4611686018427387904 by omega),Fr.refl _ _⟩
       ·
        rw [hex] at tail
        refine Go'.condT rfl (Ur 9 147712 rfl (Ul 4 rfl hN.c2 (Ux 1 i rfl (by omega) (by omega) (Us 0 rfl (hN.sl.item hx) rfl (O.call rfl rfl rfl call77 rfl (dapp_spec T4.tc hLS B4 hex ((x,none):QT) trivial (fun _ _ h=>h.elim) hfl) ?_)))))
        rintro _ H5 ⟨rfl,Zq',q12,q13⟩
        refine ⟨trivial,?_⟩
        refine Uf 0 [4,5,6,7,10,11,12,13,14,15,16,17,18,493,504,517,604] rfl (Uk [4,5,6,7,10,11,12,13,14,15,16,17,18] rfl ?_)
        exact tail () _ ⟨Zq',T4.fr q13 (B4.keeps fun b o h=>h.elim (fun e=>.inl (.inr e)) (fun e=>.inr (.inr e))),q12,q13⟩
      rintro _ H5 ⟨Zq',T5,B5,hf5⟩
      replace hN:=NodeM.fr EJ hN hf5 (fun b o hb hh=>(hcell4 b o (hsub4 b o hb)).2 (hh.elim (fun e=>.inl (.inr e)) (fun e=>.inr (.inr e))))
      have hfx:=(del_next T5.srt).2
      refine Ut 1 rfl (Ud 9 147713 (by kernel_rfl) (Ul 0 rfl (hOW B5.ow).1 (Ul 3 rfl hN.c2 (Ux 1 i rfl (by omega) (by omega) (Us 0 rfl (hN.sl.item hx) rfl (O.call rfl rfl rfl call61 rfl (delhT_spec hPD T5 B5.hk (fun b o hb e=>(B5.dj b o (.inl hb)).2.1 (.inl (.inl (by omega)))) (by omega) hfx) ?_))))))
      rintro _ H6 ⟨hq6,hk6,hF6⟩
      refine ⟨trivial,?_⟩
      refine Uf 0 [4,5,6,7,10,11,12,13,14,15,16,17,18] rfl (Ut 1 rfl ?_)
      obtain ⟨dri6,drt6⟩:=drt_del J.dri hst T5 B5 S4 hq6 hk6 hF6
      obtain ⟨_,B6⟩:=drt6.b
      obtain ⟨_,_,_,hsle6,hz6,hb6,hsl6⟩:=Acc.stk B6.stk
      simp only [Value.slice.injEq,Option.some.injEq,Addr.mk.injEq] at hsle6
      obtain ⟨⟨rfl,rfl,_⟩,_,rfl⟩:=hsle6
      have hstl6:(stI ((Gt.p h0 t0,0)::fs)).length=fs.length+1:=by simp [stI]
      have hcap6:=hsl6.hle
      refine Ur 3 0 rfl (Uq 1 rfl (O.slc (jl:=0) (jh:=0) (jm:=c16) rfl rfl rfl rfl underlying129 sizeOf130 rfl rfl ⟨_,by rfl⟩ rfl (by omega) (by omega) (by simp) (by simp) ?_))
      intro oc hoc
      have hoc2:o16=oc:=by rw [hoc (by omega)];simp
      subst hoc2
      refine Uf 1 [4,5,6,7,10,11,12,13,14,15,16,17,18] rfl (Ut 5 rfl (Uk [4,5,6,7,10,11,12,13,14,15,16] rfl ?_))
      have hac6:Acc EK Z16 H6 (.slice (some ⟨b16,o16,none⟩) 0 c16) (stI []):=Acc.take (i:=0) hsl6 hz6 hb6 (Nat.zero_le _)
      have hsrt6:=T5.srt
      exact ih0 (.slice (some ⟨b16,o16,none⟩) 0 c16,(A++R').length) H6 ⟨R',x,Z16,Zq',_,rfl,dri6,pv_next hsrt6,drt6.clr hac6⟩ (by simp only [List.length_append,List.length_cons] at hm0 ⊢;omega)
     ·
      refine Ud 10 66624 (by kernel_rfl) (Ul 3 rfl hN.c2 (Ul 1 rfl (hOW J.B.ow).1 (Ul 2 rfl J.T.tc.mn' (Uc 0 rfl (gtrT (by omega)) (Uf 0 [4,5,6,7,10,11,12,13,14,15,16,17,18,493,504,517] rfl (Go'.condT rfl (Ut 2 rfl ?_)))))))
      have hsubJ:=J.dn.sub
      have hcell3:∀b o,ncl EJ g b o→cx.base≤b∧¬(D.own b∨Z16 b∨Zq b):=fun b o hb=>⟨(J.cell (show Gt.af 0 (lfN g X) b o from hb)).1,(J.cell (show Gt.af 0 (lfN g X) b o from hb)).2.1⟩
      refine Go'.join2 (σ:=Unit) (fun _ H'=>∃Zq',RtT H' D.tr D.P (A++x::R') h0 t0∧DrB D H' pv (.slice (some ⟨b16,o16,none⟩) (fs.length+1) c16) ((Gt.p h0 t0,0)::fs) Z16 Zq' (Ts++[(x,none)]) (Gt.af h0 t0)∧Fr (fun b _=>b=D.dl∨Zq b) H3 H') (fun _=>[(4,.pointer (some ⟨D.dl,0,none⟩)),(5,.pointer (some ⟨D.n,0,none⟩)),(6,.pointer (some ⟨D.n+1,0,none⟩)),(7,.pointer (some ⟨D.n+2,0,none⟩)),(10,.pointer (some ⟨D.n+3,0,none⟩)),(11,.bool ex),(12,.pointer (some ⟨D.n+4,0,none⟩)),(13,.func (.func 76) #[] #[.pointer (some ⟨D.n+4,0,none⟩),.pointer (some ⟨D.n,0,none⟩),.pointer (some ⟨D.n+2,0,none⟩)]),(14,.pointer (some ⟨D.hb,0,none⟩)),(15,.pointer (some ⟨D.pb,0,none⟩)),(16,.slice (some ⟨b16,o16,none⟩) (fs.length+1) c16),(17,.pointer (some ⟨g.p,0,none⟩)),(18,.int .i64 (i:Int))]) ?_ ?_
      rotate_left
      ·
       intro tail
       refine Ur 1 0 rfl (Uf 1 [4,5,6,7,10,11,12,13,14,15,16,17,18,493,504,517,518] rfl ?_)
       cases hex:ex
       ·
        rw [hex] at tail
        refine Go'.condF rfl (Ut 1 rfl (Uk [4,5,6,7,10,11,12,13,14,15,16,17,18] rfl ?_))
        exact tail () _ ⟨Zq,J.T,J.B.add hLS hex ((x,none):QT) trivial (fun _ _ h=>h.elim) (show (0:Nat)<4611686018427387904 by omega),Fr.refl _ _⟩
       ·
        rw [hex] at tail
        refine Go'.condT rfl (Ur 9 147712 rfl (Ul 4 rfl hN.c2 (Ux 1 i rfl (by omega) (by omega) (Us 0 rfl (hN.sl.item hx) rfl (O.call rfl rfl rfl call77 rfl (dapp_spec J.T.tc hLS J.B hex ((x,none):QT) trivial (fun _ _ h=>h.elim) hfl) ?_)))))
        rintro _ H5 ⟨rfl,Zq',q12,q13⟩
        refine ⟨trivial,?_⟩
        refine Uf 0 [4,5,6,7,10,11,12,13,14,15,16,17,18,493,504,517,518] rfl (Uk [4,5,6,7,10,11,12,13,14,15,16,17,18] rfl ?_)
        exact tail () _ ⟨Zq',J.T.fr q13 (J.B.keeps fun b o h=>h.elim (fun e=>.inl (.inr e)) (fun e=>.inr (.inr e))),q12,q13⟩
      rintro _ H5 ⟨Zq',T5,B5,hf5⟩
      replace hN:=NodeM.fr EJ hN hf5 (fun b o hb hh=>(hcell3 b o hb).2 (hh.elim (fun e=>.inl (.inr e)) (fun e=>.inr (.inr e))))
      have M5:Jm D A (x::R') H5 pv (.slice (some ⟨b16,o16,none⟩) (fs.length+1) c16) fs Z16 Zq' (Ts++[(x,none)]) (flat (Ts.map QT.pc)) h0 t0 0 (lfN g X) A1 C1:=⟨T5,B5,J.seg,J.dn⟩
      have hcell:∀b o,ncl EJ g b o→cx.base≤b∧¬(D.own b∨Z16 b∨Zq' b)∧b<H5.size∧(D.TA0 b o∨D.n≤b):=fun b o hb=>M5.cell (show Gt.af 0 (lfN g X) b o from hb)
      have hown:∀b o,D.own b∨Z16 b∨Zq' b→¬ncl EJ g b o:=fun b o hb hc=>(hcell b o hc).2.1 hb
      have htr0:∀o,¬ncl EJ g D.tr o:=fun o hc=>by have:=(hcell _ o hc).1;have:=T5.tc.tb;omega
      have hE:Fr (ncl EJ g) H5 H5:=Fr.refl _ _
      have hnsz:=B5.sz
      have hicX:=hN.sl.hle
      obtain ⟨_,_,_,hsle5,_,_,hsl⟩:=Acc.stk B5.stk
      simp only [Value.slice.injEq,Option.some.injEq,Addr.mk.injEq] at hsle5
      obtain ⟨⟨rfl,rfl,_⟩,_,rfl⟩:=hsle5
      refine Ut 1 rfl (Ud 14 134479936 (by kernel_rfl) (Ul 3 rfl hN.c2 (Uq 1 rfl (O.slc (jl:=i) (jh:=X.length) (jm:=g.ic) rfl rfl rfl rfl underlying25 sizeOf27 rfl rfl rfl ⟨_,by rfl⟩ (by omega) (by omega) (by simp) (by simp) ?_))))
      intro od hod
      refine Ul 3 rfl hN.c2 (Ua 1 (((i+1:Nat):Int)) rfl (by omega) (O.slc (jl:=i+1) (jh:=X.length) (jm:=g.ic) rfl rfl rfl rfl underlying25 sizeOf27 rfl rfl rfl ⟨_,by rfl⟩ (by omega) (by omega) (by simp) (by simp) ?_))
      intro os2 hos2
      refine O.copy (b:=g.ib) (o:=(g.io+(i)*2)) (j:=(X.length-(i+1))) (cs:=(row EJ (X.drop (i+1)))) rfl rfl rfl ⟨underlying25,sizeOf27,zeroValue27,⟨_,typeInfo27,rfl⟩,rfl,by decide,by decide⟩ rfl rfl (show _=min _ _ by omega) ((Nat.lt_or_ge (i) g.ic).elim (fun h=>.inl (by rw [hod h])) (fun h=>.inr (by omega))) (.inl ⟨_,_,_,rfl,(hN.sl.rdDrop (i:=i+1) hos2 (by omega))⟩) (by rw [row_len];first|rfl|(congr 1;simp only [List.length_drop];try omega)) (row_ones EJ _) (hN.sl.wrm (i:=i) (m:=X.length-(i+1)) (by omega)) ?_
      intro H6 WH6
      have hyl:(X.drop (i+1)).length=X.length-(i+1):=by simp only [List.length_drop];try omega
      have hsH6:=WH6.size
      have fW:Fr (ncl EJ g) H5 H6:=(NodeM.fCpy hN (i:=i) (Y:=X.drop (i+1)) WH6 (by omega))
      replace hN:=hN.cpy (i:=i) (Y:=X.drop (i+1)) WH6 (by omega)
      replace hE:=hE.trans' fW (fun _ _ _ h=>h) (fun _ _ _ h=>h)
      obtain ⟨Y6,eY6⟩:∃z,z=X.take i++X.drop (i+1)++X.drop (i+(X.drop (i+1)).length):=⟨_,rfl⟩
      rw [←eY6] at hN
      have lY6:Y6.length=X.length:=by rw [eY6];simp only [List.length_append,List.length_take,List.length_drop];omega
      clear fW
      clear hyl
      refine ⟨trivial,?_⟩
      refine Uf 0 [4,5,6,7,10,11,12,13,14,15,16,17,18] rfl (Ut 1 rfl (Ud 16 3289399360 (by kernel_rfl) (Ul 3 rfl hN.c2 (Ul 3 rfl hN.c2 (Ub 1 (((Y6.length-1:Nat):Int)) rfl (by omega) (Ul 0 rfl (hE.keep (hOW B5.ow).1 (hown _ 0 (.inl (.inl (by omega))))) (Us 2 rfl (hE.rd T5.tc.emp (fun _ _=>htr0 _)) rfl (Ux 0 (Y6.length-1) rfl (by omega) (by omega) (O.st3 rfl rfl sizeOf27 rfl rfl rfl rfl rfl (hN.sl.wri (i:=Y6.length-1) (by omega)) ?_)))))))))
      intro H7 WH7
      have hsH7:=WH7.size
      have fW:Fr (ncl EJ g) H6 H7:=(NodeM.fSet hN (i:=Y6.length-1) (x:=(0,0)) WH7 (by omega))
      replace hN:=hN.set (i:=Y6.length-1) (x:=(0,0)) WH7 (by omega)
      replace hE:=hE.trans' fW (fun _ _ _ h=>h) (fun _ _ _ h=>h)
      obtain ⟨Y7,eY7⟩:∃z,z=Y6.take (Y6.length-1)++((0,0):Int×Int)::Y6.drop (Y6.length-1+1):=⟨_,rfl⟩
      rw [←eY7] at hN
      have lY7:Y7.length=Y6.length:=by rw [eY7];simp only [List.length_append,List.length_take,List.length_cons,List.length_drop];omega
      clear fW
      refine Uf 0 [4,5,6,7,10,11,12,13,14,15,16,17,18] rfl (Ut 1 rfl (Ud 15 805372160 (by kernel_rfl) (Ul 4 rfl hN.c2 (Ul 3 rfl hN.c2 (Ub 1 (((Y7.length-1:Nat):Int)) rfl (by omega) (O.slc (jl:=0) (jh:=Y7.length-1) (jm:=g.ic) rfl rfl rfl rfl underlying25 sizeOf27 rfl rfl ⟨_,by rfl⟩ rfl (by omega) (by omega) (by simp) (by simp) ?_))))))
      intro oc hoc
      have hoc2:g.io=oc:=by rw [hoc (by omega)];simp
      subst hoc2
      rw [Nat.sub_zero]
      refine Uq 2 rfl (O.st3 rfl rfl sizeOf25 rfl rfl rfl rfl rfl (hN.wr.at0 2 1 (by omega)) ?_)
      intro H8 WH8
      have hsH8:=WH8.size
      have fW:Fr (ncl EJ g) H7 H8:=(Wrote.fHdr (E:=EJ) (g:=g) WH8 (by omega))
      replace hN:=hN.cut WH8 (by omega)
      replace hE:=hE.trans' fW (fun _ _ _ h=>h) (fun _ _ _ h=>h)
      obtain ⟨Y8,eY8⟩:∃z,z=Y7.take (Y7.length-1):=⟨_,rfl⟩
      rw [←eY8] at hN
      have lY8:Y8.length=Y7.length-1:=by rw [eY8];simp only [List.length_take];omega
      clear fW
      refine Uf 0 [4,5,6,7,10,11,12,13,14,15,16,17,18] rfl (Ut 2 rfl ?_)
      have hX':Y8=X.take i++X.drop (i+1):=by
       rw [eY8,lY7,lY6,eY7,lY6,eY6]
       exact Pl.cut_at X _ i (by omega)
      rw [hX'] at hN
      have hgc:g.cnt=X.length:=M5.good.cnt
      have hccn:cl H8 (Gt.p 0 (lfN g X)) 1=some (.int .i64 ((Gt.L 0 (lfN g X)).length:Int)):=by
       have h9:=hN.c1
       rw [hgc] at h9
       exact h9
      have hcq:=M5.cnt (show Fr (Gt.af 0 (lfN g X)) _ _ from hE) hccn
      have hptn:=M5.pts
      have hnd:=M5.dn.nodup M5.T.g
      have hslc:=hsl.fr hE (fun o _ _ hz=>hown b16 o (.inr (.inl hz16)) hz)
      obtain ⟨pts,hpts⟩:∃pts,pts=Gt.p h0 t0::fs.map Prod.fst:=⟨_,rfl⟩
      rw [←hpts] at hcq hptn hnd
      have hc5c:=hE.keep (hOW B5.ow).1 (hown _ 0 (.inl (.inl (by omega))))
      have hcnt0:=hE.keep T5.cnt (htr0 _)
      have hLt:X.length≤(A++x::R').length:=by
       have e9:=congrArg List.length M5.eL
       have h9:(A1++Gt.L 0 (lfN g X)++C1).length=A1.length+X.length+C1.length:=by rw [List.length_append,List.length_append];rfl
       rw [h9] at e9
       omega
      refine Ur 1 0 rfl (Uf 1 [4,5,6,7,10,11,12,13,14,15,16,17,18,28] rfl (Ut 1 rfl (Go'.loop (Uk [4,5,6,7,10,11,12,13,14,15,16,17,18,28] rfl (Go'.ind (σ:=Nat) (fun s=>fs.length+1-s) (fun s H'=>s≤fs.length+1∧CntL H8 H' pts s 1) (fun s=>[(4,.pointer (some ⟨D.dl,0,none⟩)),(5,.pointer (some ⟨D.n,0,none⟩)),(6,.pointer (some ⟨D.n+1,0,none⟩)),(7,.pointer (some ⟨D.n+2,0,none⟩)),(10,.pointer (some ⟨D.n+3,0,none⟩)),(11,.bool ex),(12,.pointer (some ⟨D.n+4,0,none⟩)),(13,.func (.func 76) #[] #[.pointer (some ⟨D.n+4,0,none⟩),.pointer (some ⟨D.n,0,none⟩),.pointer (some ⟨D.n+2,0,none⟩)]),(14,.pointer (some ⟨D.hb,0,none⟩)),(15,.pointer (some ⟨D.pb,0,none⟩)),(16,.slice (some ⟨b16,o16,none⟩) (fs.length+1) c16),(17,.pointer (some ⟨g.p,0,none⟩)),(18,.int .i64 (i:Int)),(28,.int .i64 (s:Int))]) 0 ⟨by omega,CntL.start⟩ rfl ?_)))))
      rintro jc H21 ⟨hj,hcl⟩ ihc
      refine Ut 2 rfl ?_
      by_cases hjl:jc<fs.length+1
      ·
       obtain ⟨⟨q,ix⟩,hq⟩:∃q,((Gt.p h0 t0,0)::fs)[jc]?=some q:=⟨_,List.getElem?_eq_getElem (by simpa using hjl)⟩
       have hqp:pts[jc]?=some q:=by
        have h9:(((Gt.p h0 t0,0)::fs).map Prod.fst)[jc]?=some q:=by rw [List.getElem?_map,hq];rfl
        rw [hpts];exact h9
       have hqm:=List.mem_of_getElem? hqp
       obtain ⟨cc,hcc1,hcc2,hcc3,hcc4⟩:=hcq q hqm
       replace hcc2:X.length≤cc:=hcc2
       have hcc:=hcl.old hnd hqp hcc1
       have hsq:=(hslc.fr hcl.fr (fun o _ _ hz=>(hptn b16 (List.mem_of_mem_take hz.2)).2.1 (.inr (.inl hz16)))).cell (stI_at hq) (j:=0) rfl
       refine Ur 4 0 rfl (Uc 3 rfl (lssT (by omega)) (Uf 0 [4,5,6,7,10,11,12,13,14,15,16,17,18,28,574] rfl (Go'.condT rfl (Ut 3 rfl (Ur 12 8405248 rfl (Ux 2 jc rfl (by omega) (by omega) (Ul 1 rfl hsq (Ul 2 rfl hcc (Ub 0 (((cc-1:Nat):Int)) rfl (by omega) (Uq 2 rfl (O.st rfl rfl sizeOf3 rfl rfl rfl rfl rfl ((hcl.fr.wr hcc4).at0 1 1 (by omega)) ?_)))))))))))
       intro H22 W22
       refine ⟨trivial,?_⟩
       refine Uf 0 [4,5,6,7,10,11,12,13,14,15,16,17,18,28,574] rfl (Ut 1 rfl (Ur 3 0 rfl (Ua 1 (((jc+1:Nat):Int)) rfl (by omega) (Uf 1 [4,5,6,7,10,11,12,13,14,15,16,17,18,28,574] rfl (Uk [4,5,6,7,10,11,12,13,14,15,16,17,18,28] rfl (Go'.inLoop ?_))))))
       exact ihc (jc+1) H22 ⟨by omega,hcl.step hnd hqp hcc1 W22⟩ (by omega)
      ·
       refine Ur 4 0 rfl (Uc 3 rfl (lssF (by omega)) (Uf 0 [4,5,6,7,10,11,12,13,14,15,16,17,18,28,574] rfl (Go'.condF rfl (Ut 2 rfl ?_))))
       obtain rfl:jc=fs.length+1:=by omega
       clear ihc
       have hpl:pts.length=fs.length+1:=by rw [hpts];simp
       have hfc:Fr (fun b o=>o=1∧b∈pts) H8 H21:=hcl.fr.mono fun b o _ hz=>⟨hz.1,List.mem_of_mem_take hz.2⟩
       have hch:∀q∈pts,∀c:Nat,cl H8 q 1=some (.int .i64 (c:Int))→cl H21 q 1=some (.int .i64 ((c-1:Nat):Int)):=fun q hq=>hcl.ch q (by rw [List.take_of_length_le (by omega)];exact hq)
       have hc5d:=hfc.keep hc5c (fun hz=>(hptn _ hz.2).2.1 (.inl (.inl (by omega))))
       have htrd:∀o,¬(fun b o=>o=1∧b∈pts) D.tr o:=fun o hz=>by have:=(hptn _ hz.2).1;have:=T5.tc.tb;omega
       have hcnt1:=hfc.keep hcnt0 (htrd _)
       refine Ur 8 32833 rfl (Ul 0 rfl hc5d (Ul 2 rfl hcnt1 (Ub 0 (((((A++x::R').length)-1:Nat):Int)) rfl (by omega) (Uq 2 rfl (O.st rfl rfl sizeOf3 rfl rfl rfl rfl rfl ((hfc.wr (hE.wr T5.tc.wr)).at0 3 1 (by omega)) ?_)))))
       intro H23 W23
       refine ⟨trivial,?_⟩
       refine Uf 0 [4,5,6,7,10,11,12,13,14,15,16,17,18,28,574] rfl ?_
       obtain ⟨R2,t0',g',q1,q2,q3,q4,q5,q6,q7,q8,q9⟩:=M5.cutL hPD hA hR (d:=1) (by omega) (by omega) hN hE hpts hfc hch W23
       have hd1:(X.drop i).take 1=[x]:=by
        obtain ⟨_,h9⟩:=List.getElem?_eq_some_iff.1 hx
        rw [←List.getElem_cons_drop (h:=hlt3),h9];rfl
       rw [hd1] at q3 q8
       have hRe:R'=R2:=(List.cons.inj q8).2
       subst hRe
       have hmap:(Ts++[((x,none):QT)]).map QT.pc=Ts.map QT.pc++[(x,[])]:=by rw [List.map_append];rfl
       have hdri:=J.dri
       have hdri2:Dri OI A ([]++Pc.l ((x,[]):Pc (Int×Int))++R') R0 (Ts.map QT.pc) D.stop:=hdri
       have hdri3:=hdri2.cut OI Qg.one (fun w hw=>by
        have:w=x:=by simpa [Pc.l] using hw
        subst this;exact hst)
       have J':Jn D A R0 R' H23 pv (.slice (some ⟨b16,o16,none⟩) (fs.length+1) c16) fs Z16 Zq' (Ts++[(x,none)]) h0 t0' 0 (lfN g' (X.take i++X.drop (i+1))) A1 C1:=by
        refine ⟨by rw [hmap];exact hdri3,q1,q2,?_,q4⟩
        rw [hmap,flat_app,flat_one]
        exact q3
       refine Ur 3 0 rfl (Ub 1 (((i:Int)-1)) rfl (by omega) (Uf 1 [4,5,6,7,10,11,12,13,14,15,16,17,18,28,574] rfl (Ut 1 rfl (Ur 3 0 rfl (Ua 1 (((i:Nat):Int)) rfl (by omega) (Uf 1 [4,5,6,7,10,11,12,13,14,15,16,17,18,28,574] rfl (Uk [4,5,6,7,10,11,12,13,14,15,16,17,18] rfl (Go'.inLoop ?_))))))))
       exact ih3 (A++R').length H23 ⟨R',pv,fs,Z16,Zq',_,h0,t0',lfN g' (X.take i++X.drop (i+1)),A1,C1,J',q5.symm,by omega,rfl,q6,q7,(show i≤(X.take i++X.drop (i+1)).length by rw [List.length_append,List.length_take,List.length_drop];omega)⟩ (by omega)
end
end Go.Bt.FG
