/- Contracts of functions of the program, proved by walking through their code. Conditions: those that each theorem names. -/
import Derived.Test.YtmboghgpakhceaaToiM
import Derived.Test.YtmboghgpakhceaaTogD
import Derived.Test.YtmboghgpakhceaaTogK
import Derived.Test.YtmboghgpakhceaaToSv
import Derived.Test.YtmboghgpakhceaaToKi
set_option linter.unusedVariables false
namespace Go.Bt.FG
open Go Go.Proofs Go.Proofs.Try
set_option maxRecDepth 20000
set_option maxHeartbeats 4000000
set_option linter.unusedSectionVars false
section
variable [Inhabited Cx]
def DelP (H:Mem) (tr:Nat) (P:Ps) (S:Nat→Prop) (l:List (Int×Int)) (x:Int×Int) (r:Value) (H':Mem):Prop:=
 r=.tuple #[PV (Pl.got OI x l),.bool (Pl.fnd OI x l)]∧MapTo H H' tr P S (Pl.del OI x l)
theorem DelP.rebase {H H1:Mem} {tr:Nat} {P:Ps} {S:Nat→Prop} {l:List (Int×Int)} {x:Int×Int} {v:Value} {H':Mem} (hf:Fr nowhere H H1) (h:DelP H1 tr P S l x v H'):DelP H tr P S l x v H':=by
 obtain ⟨e,S',hM,hF,hS⟩:=h
 exact ⟨e,S',hM,hf.trans' hF (fun _ _ _ h=>h.elim) (fun _ _ _ h=>h),fun b hb=>(hS b hb).imp id (fun h=>Nat.le_trans hf.size h)⟩
theorem delh_spec {B:World} {H:Mem} {tr:Nat} {P:Ps} (hP:PsOk P) {S:Nat→Prop} {l:List (Int×Int)} {x:Int×Int} (hM:MapM H tr P S l) (hlen:l.length<2305843009213693952):
  Fn Try.prog B 132 [.pointer (some ⟨tr,0,none⟩),.agg (EJ.enc x).toArray,.pointer none] H (DelP H tr P S l x):=by
 have hh1:=hP.h1
 have hmm:=hP.hm
 have hSlt:=hM.lt
 have htb:=hM.tc.tb
 have hbs0:=hM.tc.hb
 refine fn_of func132 rfl ntmps132 ?_
 refine (show Go' _ _ _ _ 82 [(0,_),(1,_),(2,_)] [.code _] _ from ?_)
 refine Ut 1 rfl (Ur 3 10 rfl (O.box rfl rfl rfl rfl ?_))
 intro H0 M0
 refine ⟨trivial,?_⟩
 have hs0:=M0.size
 replace hM:=hM.fr (M0.fr nowhere) (fun _ _ _=>nw)
 have mk:Rd H0 H.size 0 (EJ.enc x):=M0.rd _ [] (by simp [Value.cells])
 refine O.alloc rfl rfl rfl zeroValue27 ?_
 intro H1 M1
 refine ⟨trivial,?_⟩
 have hs1:=M1.size
 replace hM:=hM.fr (M1.fr nowhere) (fun _ _ _=>nw)
 replace mk:=(M1.fr nowhere).rd mk (fun _ _=>nw)
 have wr8:Wr H1 H0.size 0 2:=M1.wr 2 (by decide)
 have hF:Fr (fun b _=>S b) H H1:=((M0.fr nowhere).trans (M1.fr nowhere)).mono fun _ _ _ h=>h.elim
 refine Uf 1 [0,2,4,6,7] rfl (Ut 2 rfl ?_)
 have hM0:=hM
 obtain ⟨tc,srt,cnt,own,lt,bs,hr⟩:=hM
 rcases hr with ⟨rfl,hptr⟩|⟨h,t,hg,hx1,e,hc,hnt,hown⟩
 ·
  refine Ur 5 64 rfl (Ul 3 rfl hptr (O.isNil rfl rfl rfl rfl underlying129 rfl rfl (Uf 0 [0,2,4,6,7,14] rfl (Go'.condT rfl (Ut 1 rfl (Ur 6 576 rfl (Us 3 rfl tc.emp rfl (O.st (vs:=(EJ.enc (0,0))) rfl rfl sizeOf27 rfl rfl rfl rfl rfl wr8 ?_))))))))
  intro H3 W3
  have hs3:=W3.size
  replace hF:=hF.trans' W3.fr (fun _ _ _ h=>h) (fun b o hb h=>by have h':=h.1;omega)
  refine ⟨trivial,?_⟩
  refine Uf 1 [0,2,4,6,7] rfl (Go'.ret (vs:=[_,_]) func132 results132 ⟨⟨_,_,rfl,fun _ _=>run_loadVar_agg (fun w=>⟨isAgg27 w,sizeOf27 w⟩) rfl W3.all⟩,rfl,trivial⟩ ?_)
  exact ⟨rfl,S,hM0.fr W3.fr (fun b o hb=>nr (.inl (by
   rcases hb with hb|hb
   · have:=hSlt b hb;omega
   · omega))),hF,fun b hb=>.inl hb⟩
 ·
  have hht:=Gt.Good.tall hP hg hx1
  rw [e] at hht
  have hlt:∀b o,Gt.af h t b o→b<H.size:=fun b o hb=>hSlt b (hown b o hb)
  refine Ur 5 64 rfl (Ul 3 rfl (show cl _ tr 2=some (.pointer (some ⟨Gt.p h t,0,none⟩)) from hc) (O.isNil rfl rfl rfl rfl underlying129 rfl rfl (Uf 0 [0,2,4,6,7,14] rfl (Go'.condF rfl (Ut 2 rfl ?_)))))
  refine Go'.draw2s (σ:=(Int×Int)×Bool×Nat) (fun H'=>Rd H' H.size 0 (EJ.enc x)) (fun s H'=>TrC H' tr P.iso P.mx P.mn∧cl H' tr 3=some (.int .i64 (l.length:Int))∧cl H' tr 2=some (ptr (Gt.p h t))∧Wr H' H0.size 0 2∧Rd H' s.2.2 0 (EJ.enc s.1)∧H1.size≤s.2.2∧s.2.2<H'.size∧Fr (fun b _=>S b) H H'∧((s.2.1=false∧Pl.dlr OI false x l=none∧Fr nowhere H1 H')∨(s.2.1=true∧∃L1,∃t1:Gt EJ h,Pl.dlr OI false x l=some (s.1,L1)∧Gt.Good H' P h t1∧Gt.p h t1=Gt.p h t∧(∀b o,Gt.af h t1 b o→(Gt.af h t b o∨H1.size≤b)∧b≠s.2.2∧b<H'.size)∧Gt.L h t1=L1))) (fun s=>[(0,.pointer (some ⟨tr,0,none⟩)),(6,.pointer (some ⟨H0.size,0,none⟩)),(7,.bool false),(8,.pointer (some ⟨s.2.2,0,none⟩)),(9,.bool s.2.1)]) 6 10 [(0,0),(1,0),(2,0),(3,0),(4,0),(5,0),(6,2),(7,0),(8,0),(9,0),(10,2),(11,2),(12,0)] [(0,0),(1,0),(2,0),(3,0),(4,0),(5,0),(10,2),(6,2),(7,0),(8,0),(9,0),(11,2),(12,0)] (by kernel_rfl) (by kernel_rfl) (mk) ?_ ?_ ?_
  ·
   intro _ _ _ hj
   refine US 4 rfl (fun _ h=>h) rfl (Uq 1 rfl (O.call rfl rfl rfl call181 rfl ((del hP h (mx:=false) (x:=x) (t:=t) (dp:=0) ⟨tc,hg,hc,fun b o hb=>by have:=hnt b o hb;omega,by rw [e];exact srt,by rw [e];omega,hx1⟩ (by omega)).mono fun _ _=>DelQ.uni) ?_))
   rintro _ H2 ⟨y,bb,rfl,hfr,hq⟩
   have hs2:=hfr.size
   replace tc:=tc.fr hfr (fun b o hb _ hz=>by have:=hnt b o hz;omega)
   replace cnt:=hfr.keep cnt (fun hz=>by have:=hnt _ _ hz;omega)
   replace hc:=hfr.keep hc (fun hz=>by have:=hnt _ _ hz;omega)
   replace wr8:=hfr.wr wr8
   replace mk:=hfr.rd mk (fun _ _ hz=>by have:=hlt _ _ hz;omega)
   replace hF:=hF.trans' hfr (fun _ _ _ h=>h) (fun b o _ hz=>hown b o hz)
   rw [e] at hq
   refine ⟨mk,?_⟩
   refine Uq 3 rfl (O.alloc rfl rfl rfl zeroValue27 ?_)
   intro H3 M3
   have hs3:=M3.size
   replace tc:=tc.fr (M3.fr nowhere) (fun _ _ _ _=>nw)
   replace cnt:=(M3.fr nowhere).keep cnt nw
   replace hc:=(M3.fr nowhere).keep hc nw
   replace wr8:=(M3.fr nowhere).wr wr8
   replace mk:=(M3.fr nowhere).rd mk (fun _ _=>nw)
   replace hF:=hF.trans' (M3.fr nowhere) (fun _ _ _ h=>h) (fun _ _ _ h=>h.elim)
   have w6:Wr H3 H2.size 0 2:=M3.wr 2 (by decide)
   refine ⟨mk,?_⟩
   refine O.st (vs:=(EJ.enc y)) rfl rfl sizeOf27 rfl rfl rfl rfl rfl w6 ?_
   intro H4 W4
   have hs4:=W4.size
   replace tc:=tc.fr W4.fr (fun b o hb _=>nr (.inl (by omega)))
   replace cnt:=W4.fr.keep cnt (nr (.inl (by omega)))
   replace hc:=W4.fr.keep hc (nr (.inl (by omega)))
   replace wr8:=W4.fr.wr wr8
   replace mk:=W4.fr.rd mk (fun _ _=>nr (.inl (by omega)))
   replace hF:=hF.trans' W4.fr (fun _ _ _ h=>h) (fun b o hb h=>by have h':=h.1;omega)
   refine ⟨mk,?_⟩
   refine Uq 1 rfl ?_
   refine Pl.fin [(0,_),(6,_),(7,_),(8,_),(9,_)] ⟨rfl,rfl,rfl,rfl,rfl,trivial⟩ (hj (y,bb,H2.size) _ ?_)
   refine ⟨tc,cnt,hc,wr8,W4.all,(show H1.size≤H2.size by omega),(show H2.size<H4.size by omega),hF,?_⟩
   rcases hq with ⟨h1,h2,h3⟩|⟨h1,L1,t1,h2,hT⟩
   · exact .inl ⟨h1,h2,(h3.trans (M3.fr nowhere)).trans' W4.fr (fun _ _ _ h=>h) (fun b o hb h=>by have h':=h.1;omega)⟩
   · exact .inr ⟨h1,L1,t1,h2,(hT.g.fr (M3.fr nowhere) (fun _ _ _=>nw)).fr W4.fr (fun b o hb=>nr (.inl (by have:=hT.g.lt hb;omega))),hT.p,fun b o hb=>⟨hT.a b o hb,(show b≠H2.size by have:=hT.g.lt hb;omega),by have:=hT.g.lt hb;omega⟩,hT.l⟩
  ·
   intro _ _ _ hj
   refine US 4 rfl (fun _ h=>h) rfl (Uq 1 rfl (O.alloc rfl rfl rfl zeroValue27 ?_))
   intro H2 M2
   have hs2:=M2.size
   replace tc:=tc.fr (M2.fr nowhere) (fun _ _ _ _=>nw)
   replace cnt:=(M2.fr nowhere).keep cnt nw
   replace hc:=(M2.fr nowhere).keep hc nw
   replace wr8:=(M2.fr nowhere).wr wr8
   replace mk:=(M2.fr nowhere).rd mk (fun _ _=>nw)
   replace hF:=hF.trans' (M2.fr nowhere) (fun _ _ _ h=>h) (fun _ _ _ h=>h.elim)
   have w6:Wr H2 H1.size 0 2:=M2.wr 2 (by decide)
   refine ⟨mk,?_⟩
   refine O.call rfl rfl rfl call181 rfl ((del hP h (mx:=false) (x:=x) (t:=t) (dp:=0) ⟨tc,(hg.fr (M2.fr nowhere) (fun _ _ _=>nw)),hc,fun b o hb=>by have:=hnt b o hb;omega,by rw [e];exact srt,by rw [e];omega,hx1⟩ (by omega)).mono fun _ _=>DelQ.uni) ?_
   rintro _ H3 ⟨y,bb,rfl,hfr,hq⟩
   have hs3:=hfr.size
   replace tc:=tc.fr hfr (fun b o hb _ hz=>by have:=hnt b o hz;omega)
   replace cnt:=hfr.keep cnt (fun hz=>by have:=hnt _ _ hz;omega)
   replace hc:=hfr.keep hc (fun hz=>by have:=hnt _ _ hz;omega)
   replace wr8:=hfr.wr wr8
   replace mk:=hfr.rd mk (fun _ _ hz=>by have:=hlt _ _ hz;omega)
   replace hF:=hF.trans' hfr (fun _ _ _ h=>h) (fun b o _ hz=>hown b o hz)
   rw [e] at hq
   replace w6:=hfr.wr w6
   refine ⟨mk,?_⟩
   refine Uq 3 rfl (O.st (vs:=(EJ.enc y)) rfl rfl sizeOf27 rfl rfl rfl rfl rfl w6 ?_)
   intro H4 W4
   have hs4:=W4.size
   replace tc:=tc.fr W4.fr (fun b o hb _=>nr (.inl (by omega)))
   replace cnt:=W4.fr.keep cnt (nr (.inl (by omega)))
   replace hc:=W4.fr.keep hc (nr (.inl (by omega)))
   replace wr8:=W4.fr.wr wr8
   replace mk:=W4.fr.rd mk (fun _ _=>nr (.inl (by omega)))
   replace hF:=hF.trans' W4.fr (fun _ _ _ h=>h) (fun b o hb h=>by have h':=h.1;omega)
   refine ⟨mk,?_⟩
   refine Uq 1 rfl ?_
   refine Pl.fin [(0,_),(6,_),(7,_),(8,_),(9,_)] ⟨rfl,rfl,rfl,rfl,rfl,trivial⟩ (hj (y,bb,H1.size) _ ?_)
   refine ⟨tc,cnt,hc,wr8,W4.all,(show H1.size≤H1.size from Nat.le_refl _),(show H1.size<H4.size by omega),hF,?_⟩
   rcases hq with ⟨h1,h2,h3⟩|⟨h1,L1,t1,h2,hT⟩
   · exact .inl ⟨h1,h2,((M2.fr nowhere).trans h3).trans' W4.fr (fun _ _ _ h=>h) (fun b o hb h=>by have h':=h.1;omega)⟩
   ·
    have hn:∀b o,Gt.af h t1 b o→b≠H1.size:=fun b o hb=>(hT.a b o hb).elim (fun h=>by have:=hlt b o h;omega) (fun h=>by omega)
    exact .inr ⟨h1,L1,t1,h2,hT.g.fr W4.fr (fun b o hb=>nr (.inl (hn b o hb))),hT.p,fun b o hb=>⟨(hT.a b o hb).imp id (fun h=>by omega),hn b o hb,by have:=hT.g.lt hb;omega⟩,hT.l⟩
  clear hc cnt tc mk wr8 hF
  rintro ⟨y,bb,pb⟩ H4 ⟨tc,cnt,hc,wr8,m6,hpb1,hpb2,hF,hq⟩
  simp only at m6 hpb1 hpb2 hq
  refine Ut 2 rfl ?_
  rcases hq with ⟨rfl,hd,hfn⟩|⟨rfl,L1,t1,hd,hg1,hp1,ha1,hl1⟩
  ·
   refine Ur 2 0 rfl (Uf 2 [0,6,7,8,30] rfl (Go'.condT rfl (Ut 1 rfl (Ur 6 576 rfl (Us 3 rfl tc.emp rfl (O.st (vs:=(EJ.enc (0,0))) rfl rfl sizeOf27 rfl rfl rfl rfl rfl wr8 ?_))))))
   intro H5 W5
   have hs5:=W5.size
   replace hF:=hF.trans' W5.fr (fun _ _ _ h=>h) (fun b o hb h=>by have h':=h.1;omega)
   refine ⟨trivial,?_⟩
   refine Uf 1 [0,6,7,8] rfl (Go'.ret (vs:=[_,_]) func132 results132 ⟨⟨_,_,rfl,fun _ _=>run_loadVar_agg (fun w=>⟨isAgg27 w,sizeOf27 w⟩) rfl W5.all⟩,rfl,trivial⟩ ?_)
   have hgn:Pl.got OI x l=none:=by
    simpa [Pl.dlr] using hd
   have hfd:Pl.fnd OI x l=false:=by rw [←Pl.got_isSome,hgn];rfl
   have hM5:=hM0.fr hfn (fun _ _ _=>nw)
   replace hM5:=hM5.fr W5.fr (fun b o hb=>nr (.inl (by
    rcases hb with hb|hb
    · have:=hSlt b hb;omega
    · omega)))
   refine ⟨by rw [hgn,hfd];rfl,S,by rw [Pl.del_none OI hfd];exact hM5,hF,fun b hb=>.inl hb⟩
  ·
   have hgy:Pl.got OI x l=some y∧Pl.del OI x l=L1:=by
    simp only [Pl.dlr,Option.map_eq_some_iff,Prod.mk.injEq] at hd
    obtain ⟨z,hz,rfl,rfl⟩:=hd
    exact ⟨hz,rfl⟩
   have hfd:Pl.fnd OI x l=true:=by rw [←Pl.got_isSome,hgy.1];rfl
   have hln:=Pl.dlr_len OI hd
   have hown1:∀b o,Gt.af h t1 b o→S b∨(H1.size≤b∧b<H4.size):=fun b o hb=>(ha1 b o hb).1.imp (hown b o) (fun h9=>⟨h9,(ha1 b o hb).2.2⟩)
   have hnt1:∀b o,Gt.af h t1 b o→cx.base≤b:=fun b o hb=>(ha1 b o hb).1.elim (hnt b o) (fun h9=>by omega)
   have hne1:∀b o,Gt.af h t1 b o→b≠H0.size:=fun b o hb=>(ha1 b o hb).1.elim (fun h=>by have:=hlt b o h;omega) (fun h9=>by omega)
   have hsrt1:Pl.Srt OI L1:=by rw [←hgy.2];exact srt.del OI
   rw [←hp1] at hc
   obtain ⟨kp,hn1⟩:=hg1.node
   have hxm1:=hg1.xmx
   have hx255:=hP.hx
   clear hd hg hx1 hM0 hlt ha1 hp1
   refine Ur 2 0 rfl (Uf 2 [0,6,7,8,30] rfl (Go'.condF rfl (Ut 3 rfl ?_)))
   by_cases h0:(Gt.X h t1).length=0
   ·
    match h,t1,hg1,hc,hown1,hnt1,hne1,hl1,hn1,h0,hxm1 with
    | 0,t1,hg1,hc,hown1,hnt1,hne1,hl1,hn1,h0,hxm1=>
     refine Ur 17 603983936 rfl (Ul 3 rfl (show cl _ tr 2=some (.pointer (some ⟨Gt.p 0 t1,0,none⟩)) from hc) (Ul 2 rfl (show cl _ (Gt.p 0 t1) 2=some (.slice (some ⟨(Gt.g 0 t1).ib,(Gt.g 0 t1).io,none⟩) (Gt.X 0 t1).length (Gt.g 0 t1).ic) from hn1.c2) (Uc 1 rfl (eqlT (by omega)) (Ul 4 rfl (show cl _ tr 2=some (.pointer (some ⟨Gt.p 0 t1,0,none⟩)) from hc) (O.callQ rfl rfl rfl call133 rfl (leaf_spec (show cl _ (Gt.p 0 t1) 3=some (.pointer none) from hg1.1.c3)) trivial (Uf 2 [0,6,7,8,51] rfl (Go'.condF rfl (Ut 2 rfl ?_))))))))
     have hL0:L1.length=0:=by rw [←hl1];exact h0
     refine Ur 8 32832 rfl (Ul 3 rfl cnt (Ub 0 (((l.length-1:Nat):Int)) rfl (by omega) (Uq 2 rfl (O.st rfl rfl sizeOf3 rfl rfl rfl rfl rfl (tc.wr.at0 3 1 (by omega)) ?_))))
     intro H6 W6
     have hs6:=W6.size
     replace tc:=tc.fr (W6.fr' 1 rfl) (fun b o hb he hz=>by have h1:=he hz.1;have h2:=hz.2.1;have h3:=hz.2.2;omega)
     replace hc:=W6.keep1 hc (by omega)
     replace hF:=hF.trans' W6.fr (fun _ _ _ h=>h) (fun b o _ h=>by rw [h.1];exact own)
     replace m6:=W6.fr.rd m6 (fun _ _=>nr (.inl (by omega)))
     replace wr8:=W6.fr.wr wr8
     have cnt5:cl H6 tr 3=some (.int .i64 ((l.length-1:Nat):Int)):=W6.at
     refine ⟨trivial,?_⟩
     refine Uf 0 [0,6,7,8] rfl (Ut 2 rfl (Ur 5 64 rfl (Ul 3 rfl cnt5 (Uc 0 rfl (eqlT (by omega)) (Uf 0 [0,6,7,8,77] rfl (Go'.condT rfl (Ur 4 128 rfl (Uq 3 rfl (O.st rfl rfl sizeOf129 rfl rfl rfl rfl rfl (tc.wr.at0 2 1 (by omega)) ?_)))))))))
     intro H7 W7
     have hs7:=W7.size
     replace tc:=tc.fr (W7.fr' 1 rfl) (fun b o hb he hz=>by have h1:=he hz.1;have h2:=hz.2.1;have h3:=hz.2.2;omega)
     replace cnt5:=W7.keep1 cnt5 (by omega)
     replace hF:=hF.trans' W7.fr (fun _ _ _ h=>h) (fun b o _ h=>by rw [h.1];exact own)
     replace m6:=W7.fr.rd m6 (fun _ _=>nr (.inl (by omega)))
     replace wr8:=W7.fr.wr wr8
     have hc6:cl H7 tr 2=some (.pointer none):=W7.at
     refine ⟨trivial,?_⟩
     refine Uf 0 [6,7,8] rfl (Ut 1 rfl (Ur 3 9 rfl (Us 0 rfl m6 rfl (O.st rfl rfl sizeOf27 rfl rfl rfl rfl rfl wr8 ?_))))
     intro H8 W8
     have hs8:=W8.size
     replace tc:=tc.fr W8.fr (fun b o hb _=>nr (.inl (by omega)))
     replace cnt5:=W8.fr.keep cnt5 (nr (.inl (by omega)))
     replace hc6:=W8.fr.keep hc6 (nr (.inl (by omega)))
     replace hF:=hF.trans' W8.fr (fun _ _ _ h=>h) (fun b o hb h=>by have h':=h.1;omega)
     have m8:Rd H8 H0.size 0 (EJ.enc y):=W8.all
     refine ⟨trivial,?_⟩
     refine Uf 1 [6,7] rfl (Go'.ret (vs:=[_,_]) func132 results132 ⟨⟨_,_,rfl,fun _ _=>run_loadVar_agg (fun w=>⟨isAgg27 w,sizeOf27 w⟩) rfl m8⟩,rfl,trivial⟩ ?_)
     have hl5:L1=[]:=List.length_eq_zero_iff.1 (by omega)
     unfold DelP
     rw [hgy.1,hfd,hgy.2]
     have e9:l.length-1=L1.length:=by omega
     rw [e9] at cnt5
     exact ⟨rfl,fun b=>S b∨(H.size≤b∧b<H8.size),⟨tc,hsrt1,cnt5,.inl own,fun b hb=>hb.elim (fun h9=>by have:=hSlt b h9;omega) (fun h9=>h9.2),fun b hb=>hb.elim (bs b) (fun h9=>.inr (by omega)),.inl ⟨hl5,hc6⟩⟩,hF,fun b hb=>hb.imp id (fun h9=>h9.1)⟩
    | h+1,t1,hg1,hc,hown1,hnt1,hne1,hl1,hn1,h0,hxm1=>
     refine Ur 17 603983936 rfl (Ul 3 rfl (show cl _ tr 2=some (.pointer (some ⟨Gt.p (h+1) t1,0,none⟩)) from hc) (Ul 2 rfl (show cl _ (Gt.p (h+1) t1) 2=some (.slice (some ⟨(Gt.g (h+1) t1).ib,(Gt.g (h+1) t1).io,none⟩) (Gt.X (h+1) t1).length (Gt.g (h+1) t1).ic) from hn1.c2) (Uc 1 rfl (eqlT (by omega)) (Ul 4 rfl (show cl _ tr 2=some (.pointer (some ⟨Gt.p (h+1) t1,0,none⟩)) from hc) (O.callQ rfl rfl rfl call133 rfl (leaf_spec (show cl _ (Gt.p (h+1) t1) 3=some (.pointer (some ⟨t1.1.cb,0,none⟩)) from hg1.1.c3)) trivial (Uf 2 [0,6,7,8,51] rfl (Go'.condT rfl ?_)))))))
     obtain ⟨g,X,K⟩:=t1
     have hX0:X=[]:=List.length_eq_zero_iff.1 h0
     subst hX0
     have hK1:K.length=1:=hg1.2.2.2.2.2.1
     obtain ⟨k,rfl⟩:∃k,K=[k]:=by
      match K,hK1 with
      | [k],_=>exact ⟨k,rfl⟩
     obtain ⟨hgz,hkm,hkd⟩:=hg1.2.2.2.2.2.2.1 k (List.mem_singleton.2 rfl)
     have hI:=Gt.Good.inn hg1
     have hk0:((Gt.ps h [k]).map some)[0]?=some (some (Gt.p h k)):=rfl
     have hlz:Gt.L h k=L1:=by rw [←hl1];rfl
     have hafk:∀b o,Gt.af h k b o→Gt.af (h+1) ((g,[],[k]):Gt EJ (h+1)) b o:=fun b o hb=>.inr (.inr ⟨k,List.mem_singleton.2 rfl,hb⟩)
     have hownz:∀b o,Gt.af h k b o→S b∨(H1.size≤b∧b<H4.size):=fun b o hb=>hown1 b o (hafk b o hb)
     have hntz:∀b o,Gt.af h k b o→cx.base≤b:=fun b o hb=>hnt1 b o (hafk _ _ hb)
     have hnez:∀b o,Gt.af h k b o→b≠H0.size:=fun b o hb=>hne1 b o (hafk _ _ hb)
     have hxz:1≤(Gt.X h k).length:=by omega
     have hne:=hgz.ne hxz
     have hL0:L1.length≠0:=by rw [←hlz];omega
     refine Ur 15 541344000 rfl (Ul 4 rfl (show cl _ tr 2=some (.pointer (some ⟨g.p,0,none⟩)) from hc) (Ul 2 rfl (show cl _ g.p 3=some (.pointer (some ⟨g.cb,0,none⟩)) from hI.n.c3) (Ul 1 rfl hI.k.c (Ux 0 0 rfl rfl (by simp [Gt.ps]) (Ul 0 rfl (hI.k.at hk0) (Uq 2 rfl (O.st rfl rfl sizeOf129 rfl rfl rfl rfl rfl (tc.wr.at0 2 1 (by omega)) ?_)))))))
     intro H5 W5
     have hs5:=W5.size
     replace tc:=tc.fr (W5.fr' 1 rfl) (fun b o hb he hz=>by have h1:=he hz.1;have h2:=hz.2.1;have h3:=hz.2.2;omega)
     replace cnt:=W5.keep1 cnt (by omega)
     replace hF:=hF.trans' W5.fr (fun _ _ _ h=>h) (fun b o _ h=>by rw [h.1];exact own)
     replace m6:=W5.fr.rd m6 (fun _ _=>nr (.inl (by omega)))
     replace wr8:=W5.fr.wr wr8
     replace hgz:=hgz.fr W5.fr (fun b o hb=>nr (.inl (by have:=hntz b o hb;omega)))
     clear hc
     have hc:cl H5 tr 2=some (ptr (Gt.p h k)):=W5.at
     refine ⟨trivial,?_⟩
     refine Uf 0 [0,6,7,8] rfl (Ut 1 rfl (Ur 8 32832 rfl (Ul 3 rfl cnt (Ub 0 (((l.length-1:Nat):Int)) rfl (by omega) (Uq 2 rfl (O.st rfl rfl sizeOf3 rfl rfl rfl rfl rfl (tc.wr.at0 3 1 (by omega)) ?_))))))
     intro H6 W6
     have hs6:=W6.size
     replace tc:=tc.fr (W6.fr' 1 rfl) (fun b o hb he hz=>by have h1:=he hz.1;have h2:=hz.2.1;have h3:=hz.2.2;omega)
     replace hc:=W6.keep1 hc (by omega)
     replace hF:=hF.trans' W6.fr (fun _ _ _ h=>h) (fun b o _ h=>by rw [h.1];exact own)
     replace m6:=W6.fr.rd m6 (fun _ _=>nr (.inl (by omega)))
     replace wr8:=W6.fr.wr wr8
     have cnt5:cl H6 tr 3=some (.int .i64 ((l.length-1:Nat):Int)):=W6.at
     refine ⟨trivial,?_⟩
     refine Uf 0 [0,6,7,8] rfl (Ut 2 rfl (Ur 5 64 rfl (Ul 3 rfl cnt5 (Uc 0 rfl (eqlF (by omega)) (Uf 0 [0,6,7,8,77] rfl (Go'.condF rfl (Ut 2 rfl (Ur 3 9 rfl (Us 0 rfl m6 rfl (O.st rfl rfl sizeOf27 rfl rfl rfl rfl rfl wr8 ?_))))))))))
     intro H8 W8
     have hs8:=W8.size
     replace tc:=tc.fr W8.fr (fun b o hb _=>nr (.inl (by omega)))
     replace cnt5:=W8.fr.keep cnt5 (nr (.inl (by omega)))
     replace hc:=W8.fr.keep hc (nr (.inl (by omega)))
     replace hF:=hF.trans' W8.fr (fun _ _ _ h=>h) (fun b o hb h=>by have h':=h.1;omega)
     have m8:Rd H8 H0.size 0 (EJ.enc y):=W8.all
     refine ⟨trivial,?_⟩
     refine Uf 1 [6,7] rfl (Go'.ret (vs:=[_,_]) func132 results132 ⟨⟨_,_,rfl,fun _ _=>run_loadVar_agg (fun w=>⟨isAgg27 w,sizeOf27 w⟩) rfl m8⟩,rfl,trivial⟩ ?_)
     have hg5:=(hgz.fr W6.fr (fun b o hb=>nr (.inl (by have:=hntz b o hb;omega)))).fr W8.fr (fun b o hb=>nr (.inl (hnez b o hb)))
     unfold DelP
     rw [hgy.1,hfd,hgy.2]
     have e9:l.length-1=L1.length:=by omega
     rw [e9] at cnt5
     exact ⟨rfl,fun b=>S b∨(H.size≤b∧b<H8.size),⟨tc,hsrt1,cnt5,.inl own,fun b hb=>hb.elim (fun h9=>by have:=hSlt b h9;omega) (fun h9=>h9.2),fun b hb=>hb.elim (bs b) (fun h9=>.inr (by omega)),.inr ⟨h,k,hg5,hxz,hlz,hc,hntz,fun b o hb=>(hownz b o hb).imp id (fun h=>⟨by omega,by omega⟩)⟩⟩,hF,fun b hb=>hb.imp id (fun h9=>h9.1)⟩
   ·
    refine Ur 17 603983936 rfl (Ul 3 rfl (show cl _ tr 2=some (.pointer (some ⟨Gt.p h t1,0,none⟩)) from hc) (Ul 2 rfl (show cl _ (Gt.p h t1) 2=some (.slice (some ⟨(Gt.g h t1).ib,(Gt.g h t1).io,none⟩) (Gt.X h t1).length (Gt.g h t1).ic) from hn1.c2) (Uc 1 rfl (eqlF (by omega)) (Uq 5 rfl (Pl.pass2 rfl rfl rfl rfl trivial (Uf 2 [0,6,7,8,51] rfl (Go'.condF rfl (Ut 2 rfl ?_))))))))
    have hgz:=hg1
    have hlz:=hl1
    have hownz:=hown1
    have hntz:=hnt1
    have hnez:=hne1
    have hxz:1≤(Gt.X h t1).length:=by omega
    have hne:=hgz.ne hxz
    have hL0:L1.length≠0:=by rw [←hlz];omega
    refine Ur 8 32832 rfl (Ul 3 rfl cnt (Ub 0 (((l.length-1:Nat):Int)) rfl (by omega) (Uq 2 rfl (O.st rfl rfl sizeOf3 rfl rfl rfl rfl rfl (tc.wr.at0 3 1 (by omega)) ?_))))
    intro H6 W6
    have hs6:=W6.size
    replace tc:=tc.fr (W6.fr' 1 rfl) (fun b o hb he hz=>by have h1:=he hz.1;have h2:=hz.2.1;have h3:=hz.2.2;omega)
    replace hc:=W6.keep1 hc (by omega)
    replace hF:=hF.trans' W6.fr (fun _ _ _ h=>h) (fun b o _ h=>by rw [h.1];exact own)
    replace m6:=W6.fr.rd m6 (fun _ _=>nr (.inl (by omega)))
    replace wr8:=W6.fr.wr wr8
    have cnt5:cl H6 tr 3=some (.int .i64 ((l.length-1:Nat):Int)):=W6.at
    refine ⟨trivial,?_⟩
    refine Uf 0 [0,6,7,8] rfl (Ut 2 rfl (Ur 5 64 rfl (Ul 3 rfl cnt5 (Uc 0 rfl (eqlF (by omega)) (Uf 0 [0,6,7,8,77] rfl (Go'.condF rfl (Ut 2 rfl (Ur 3 9 rfl (Us 0 rfl m6 rfl (O.st rfl rfl sizeOf27 rfl rfl rfl rfl rfl wr8 ?_))))))))))
    intro H8 W8
    have hs8:=W8.size
    replace tc:=tc.fr W8.fr (fun b o hb _=>nr (.inl (by omega)))
    replace cnt5:=W8.fr.keep cnt5 (nr (.inl (by omega)))
    replace hc:=W8.fr.keep hc (nr (.inl (by omega)))
    replace hF:=hF.trans' W8.fr (fun _ _ _ h=>h) (fun b o hb h=>by have h':=h.1;omega)
    have m8:Rd H8 H0.size 0 (EJ.enc y):=W8.all
    refine ⟨trivial,?_⟩
    refine Uf 1 [6,7] rfl (Go'.ret (vs:=[_,_]) func132 results132 ⟨⟨_,_,rfl,fun _ _=>run_loadVar_agg (fun w=>⟨isAgg27 w,sizeOf27 w⟩) rfl m8⟩,rfl,trivial⟩ ?_)
    have hg5:=(hgz.fr W6.fr (fun b o hb=>nr (.inl (by have:=hntz b o hb;omega)))).fr W8.fr (fun b o hb=>nr (.inl (hnez b o hb)))
    unfold DelP
    rw [hgy.1,hfd,hgy.2]
    have e9:l.length-1=L1.length:=by omega
    rw [e9] at cnt5
    exact ⟨rfl,fun b=>S b∨(H.size≤b∧b<H8.size),⟨tc,hsrt1,cnt5,.inl own,fun b hb=>hb.elim (fun h9=>by have:=hSlt b h9;omega) (fun h9=>h9.2),fun b hb=>hb.elim (bs b) (fun h9=>.inr (by omega)),.inr ⟨h,t1,hg5,hxz,hlz,hc,hntz,fun b o hb=>(hownz b o hb).imp id (fun h=>⟨by omega,by omega⟩)⟩⟩,hF,fun b hb=>hb.imp id (fun h9=>h9.1)⟩
theorem deleteH_spec {B:World} {H:Mem} {tr:Nat} {P:Ps} (hP:PsOk P) {S:Nat→Prop} {l:List (Int×Int)} {x:Int×Int} (hM:MapM H tr P S l) (hlen:l.length<2305843009213693952):
  Fn Try.prog B 150 [.pointer (some ⟨tr,0,none⟩),.agg (EJ.enc x).toArray,.pointer none] H (DelP H tr P S l x):=by
 have hSlt:=hM.lt
 have hbs0:=hM.tc.hb
 refine fn_of func150 rfl ntmps150 ?_
 refine (show Go' _ _ _ _ 17 [(0,_),(1,_),(2,_)] [.code _] _ from ?_)
 refine Ut 1 rfl (Ur 3 10 rfl (O.box rfl rfl rfl rfl ?_))
 intro H0 M0
 refine ⟨trivial,?_⟩
 have hs0:=M0.size
 replace hM:=hM.fr (M0.fr nowhere) (fun _ _ _=>nw)
 have mk:Rd H0 H.size 0 (EJ.enc x):=M0.rd _ [] (by simp [Value.cells])
 refine O.alloc rfl rfl rfl zeroValue27 ?_
 intro H1 M1
 refine ⟨trivial,?_⟩
 have hs1:=M1.size
 replace hM:=hM.fr (M1.fr nowhere) (fun _ _ _=>nw)
 replace mk:=(M1.fr nowhere).rd mk (fun _ _=>nw)
 have wr8:Wr H1 H0.size 0 2:=M1.wr 2 (by decide)
 refine Uf 1 [0,2,4,6,7] rfl (Ut 2 rfl (Ur 2 8 rfl (Uq 1 rfl (O.callQ rfl rfl rfl call128 rfl lock_spec trivial (Uf 0 [0,2,4,6,7,9] rfl (Go'.condF rfl (Ut 2 rfl (Ur 8 8324 rfl (Us 1 rfl mk rfl (Uq 1 rfl (O.call rfl rfl rfl call132 rfl (delh_spec hP hM hlen) ?_)))))))))))
 rintro _ H2 ⟨rfl,hq⟩
 obtain ⟨S1,hM1,hF1,hS1⟩:=hq
 have hs2:=hF1.size
 replace wr8:=hF1.wr wr8
 refine ⟨trivial,?_⟩
 refine Uq 2 rfl (O.st (vs:=(EJ.enc ((Pl.got OI x l).getD (0,0)))) rfl rfl sizeOf27 rfl rfl rfl rfl rfl wr8 ?_)
 intro H3 W3
 have hs3:=W3.size
 refine ⟨trivial,?_⟩
 refine Uf 1 [6,7] rfl (Go'.ret (vs:=[_,_]) func150 results150 ⟨⟨_,_,rfl,fun _ _=>run_loadVar_agg (fun w=>⟨isAgg27 w,sizeOf27 w⟩) rfl W3.all⟩,rfl,trivial⟩ ?_)
 refine ⟨rfl,S1,hM1.fr W3.fr (fun b o hb=>nr (.inl (by
  rcases hb with hb|hb
  ·
   rcases hS1 b hb with h9|h9
   · have:=hSlt b h9;omega
   · omega
  · omega))),?_,fun b hb=>(hS1 b hb).imp id (fun h9=>by omega)⟩
 exact (((M0.fr nowhere).trans' (M1.fr nowhere) (fun _ _ _ h=>h) (fun _ _ _ h=>h)).trans' hF1 (fun _ _ _ h=>h.elim) (fun _ _ _ h=>h)).trans' W3.fr (fun _ _ _ h=>h) (fun b o hb h=>by have h':=h.1;omega)
theorem delete_spec {B:World} {H:Mem} {tr:Nat} {P:Ps} (hP:PsOk P) {S:Nat→Prop} {l:List (Int×Int)} {x:Int×Int} (hM:MapM H tr P S l) (hlen:l.length<2305843009213693952):
  Fn Try.prog B 105 [.pointer (some ⟨tr,0,none⟩),.agg (EJ.enc x).toArray] H (DelP H tr P S l x):=by
 have hSlt:=hM.lt
 have hbs0:=hM.tc.hb
 refine fn_of func105 rfl ntmps105 ?_
 refine (show Go' _ _ _ _ 11 [(0,_),(1,_)] [.code _] _ from ?_)
 refine Ut 1 rfl (Ur 3 10 rfl (O.box rfl rfl rfl rfl ?_))
 intro H0 M0
 refine ⟨trivial,?_⟩
 have hs0:=M0.size
 replace hM:=hM.fr (M0.fr nowhere) (fun _ _ _=>nw)
 have mk:Rd H0 H.size 0 (EJ.enc x):=M0.rd _ [] (by simp [Value.cells])
 refine O.alloc rfl rfl rfl zeroValue27 ?_
 intro H1 M1
 refine ⟨trivial,?_⟩
 have hs1:=M1.size
 replace hM:=hM.fr (M1.fr nowhere) (fun _ _ _=>nw)
 replace mk:=(M1.fr nowhere).rd mk (fun _ _=>nw)
 have wr8:Wr H1 H0.size 0 2:=M1.wr 2 (by decide)
 refine Uf 1 [0,3,4,5] rfl (Ut 1 rfl (Ur 7 2084 rfl (Us 1 rfl mk rfl (O.call rfl rfl rfl call150 rfl (deleteH_spec hP hM hlen) ?_))))
 rintro _ H2 ⟨rfl,hq⟩
 obtain ⟨S1,hM1,hF1,hS1⟩:=hq
 have hs2:=hF1.size
 replace wr8:=hF1.wr wr8
 refine ⟨trivial,?_⟩
 refine Uq 2 rfl (O.st (vs:=(EJ.enc ((Pl.got OI x l).getD (0,0)))) rfl rfl sizeOf27 rfl rfl rfl rfl rfl wr8 ?_)
 intro H3 W3
 have hs3:=W3.size
 refine ⟨trivial,?_⟩
 refine Uf 1 [4,5] rfl (Go'.ret (vs:=[_,_]) func105 results105 ⟨⟨_,_,rfl,fun _ _=>run_loadVar_agg (fun w=>⟨isAgg27 w,sizeOf27 w⟩) rfl W3.all⟩,rfl,trivial⟩ ?_)
 refine ⟨rfl,S1,hM1.fr W3.fr (fun b o hb=>nr (.inl (by
  rcases hb with hb|hb
  ·
   rcases hS1 b hb with h9|h9
   · have:=hSlt b h9;omega
   · omega
  · omega))),?_,fun b hb=>(hS1 b hb).imp id (fun h9=>by omega)⟩
 exact (((M0.fr nowhere).trans' (M1.fr nowhere) (fun _ _ _ h=>h) (fun _ _ _ h=>h)).trans' hF1 (fun _ _ _ h=>h.elim) (fun _ _ _ h=>h)).trans' W3.fr (fun _ _ _ h=>h) (fun b o hb h=>by have h':=h.1;omega)
end
end Go.Bt.FG
namespace Go.Bt.FG
open Go Go.Proofs Go.Proofs.Try
set_option maxRecDepth 20000
set_option maxHeartbeats 4000000
set_option linter.unusedSectionVars false
section
variable [Inhabited Cx]
theorem MapM.zr {H H':Mem} {tr:Nat} {P:Ps} {S:Nat→Prop} {l:List (Int×Int)} (hM:MapM H tr P S l) {zr o:Nat} {vs:List Value} (hzb:cx.base≤zr) (hzS:∀b,S b→b≠zr) (W:Wrote H H' zr o vs):MapM H' tr P S l:=
 hM.fr W.fr fun b o hb=>nr (.inl (by
  rcases hb with hb|hb
  · exact hzS b hb
  · have:=hb.1;omega))
def PopP (H:Mem) (tr:Nat) (P:Ps) (S:Nat→Prop) (l:List (Int×Int)) (d:Bool) (r:Value) (H':Mem):Prop:=
 r=.tuple #[PV (Pl.popk l d).2,.bool (Pl.popk l d).2.isSome]∧MapTo H H' tr P S (Pl.popk l d).1
def PopZ (H:Mem) (tr:Nat) (P:Ps) (S:Nat→Prop) (zr:Nat) (l:List (Int×Int)) (d:Bool) (r:Value) (H':Mem):Prop:=
 r=.tuple #[PV (Pl.popk l d).2,.bool (Pl.popk l d).2.isSome]∧∃S',MapM H' tr P S' (Pl.popk l d).1∧Fr (fun b _=>S b∨b=zr) H H'∧∀b,S' b→S b∨H.size≤b
theorem PopZ.out {H H1:Mem} {tr:Nat} {P:Ps} {S:Nat→Prop} {l:List (Int×Int)} {d:Bool} {v:Value} {H':Mem} (hf:Fr nowhere H H1) (hs:∀b,S b→b<H.size) (h:PopZ H1 tr P S H.size l d v H'):PopP H tr P S l d v H':=by
 obtain ⟨e,S',hM,hF,hS⟩:=h
 exact ⟨e,S',hM,hf.trans' hF (fun _ _ _ h=>h.elim) (fun b o hb h=>h.elim id (fun h=>by omega)),fun b hb=>(hS b hb).imp id (fun h=>Nat.le_trans hf.size h)⟩
theorem popMin_spec {B:World} {H:Mem} {tr:Nat} {P:Ps} (hP:PsOk P) {S:Nat→Prop} {l:List (Int×Int)} (hM:MapM H tr P S l) (hlen:l.length<2305843009213693952):
  Fn Try.prog B 115 [.pointer (some ⟨tr,0,none⟩)] H (PopP H tr P S l false):=by
 have hSlt:=hM.lt
 have hb00:=hM.tc.hb
 have htb:=hM.tc.tb
 refine fn_of func115 rfl ntmps115 ?_
 refine (show Go' _ _ _ _ 139 [(0,_)] [.code _] _ from ?_)
 refine Ut 1 rfl (Ur 2 2 rfl (O.alloc rfl rfl rfl zeroValue27 ?_))
 intro H0 M0
 refine ⟨trivial,?_⟩
 have hR0:=M0.fr nowhere
 replace hM:=hM.fr hR0 (fun _ _ _=>nw)
 have wz:Wr H0 H.size 0 2:=M0.wr 2 (by decide)
 have hs0:=M0.size
 refine Uf 1 [0,2,3] rfl (Ut 2 rfl (Go'.mono (Q:=PopZ H0 tr P S H.size l false) (fun v H' hq=>PopZ.out hR0 hSlt hq) ?_))
 have hzS:∀b,S b→b≠H.size:=fun b hb e=>by have:=hSlt b hb;omega
 have hzb:cx.base≤H.size:=hb00
 have hzl:H.size<H0.size:=by omega
 clear hR0 hSlt hb00 hs0 M0
 generalize H.size=zr at*
 clear H
 rename Mem=>H
 refine Ur 2 8 rfl (Uq 1 rfl (O.callQ rfl rfl rfl call128 rfl lock_spec trivial (Uf 0 [0,2,3,7] rfl (Go'.condF rfl (Ut 3 rfl ?_)))))
 have hM0:=hM
 have hh1:=hP.h1
 have hmm:=hP.hm
 obtain ⟨tc,srt,cnt,own,lt,bs,hr⟩:=hM
 have htl:cx.base≤H.size:=tc.hb
 rcases hr with ⟨rfl,hptr⟩|⟨h0,t0,hg,hx0,e,hc,hnt,hown⟩
 ·
  refine Ur 5 64 rfl (Ul 3 rfl hptr (O.isNil rfl rfl rfl rfl underlying129 rfl rfl (Uf 0 [0,2,3,13] rfl (Go'.condT rfl (Ut 1 rfl (Ur 6 576 rfl (Us 3 rfl tc.emp rfl (O.st (vs:=(EJ.enc (0,0))) rfl rfl sizeOf27 rfl rfl rfl rfl rfl wz ?_))))))))
  intro Hz Wz
  refine ⟨trivial,?_⟩
  refine Uf 1 [0,2,3] rfl (Go'.ret (vs:=[_,_]) func115 results115 ⟨⟨_,_,rfl,fun _ _=>run_loadVar_agg (fun w=>⟨isAgg27 w,sizeOf27 w⟩) rfl Wz.all⟩,rfl,trivial⟩ ?_)
  exact ⟨rfl,S,hM0.zr hzb hzS Wz,Wz.fr.mono (fun b o _ h=>.inr h.1),fun b hb=>.inl hb⟩
 ·
  refine Ur 5 64 rfl (Ul 3 rfl (show cl _ tr 2=some (.pointer (some ⟨Gt.p h0 t0,0,none⟩)) from hc) (O.isNil rfl rfl rfl rfl underlying129 rfl rfl (Uf 0 [0,2,3,13] rfl (Go'.condF rfl (Ut 2 rfl ?_)))))
  obtain ⟨kp0,hn0⟩:=hg.node
  have hiso0:=hn0.c0
  rw [hg.isoe] at hiso0
  refine Ur 6 512 rfl (Uq 4 rfl (O.callQ rfl rfl rfl call130 rfl (isoLoad_spec true hc hiso0 tc.iso) trivial (Uf 1 [0,2,3,4] rfl (Ut 1 rfl (Ur 1 2 rfl (O.alloc rfl rfl rfl zeroValue27 ?_))))))
  intro H1 M1
  refine ⟨trivial,?_⟩
  have hs1:=M1.size
  have hg1:=hg.fr (M1.fr nowhere) (fun _ _ _=>nw)
  replace tc:=tc.fr (M1.fr nowhere) (fun _ _ _ _=>nw)
  replace cnt:=M1.keep cnt
  replace hc:=M1.keep hc
  have w6:Wr H1 H.size 0 2:=M1.wr 2 (by decide)
  have hb6n:∀o,¬Gt.af h0 t0 H.size o:=fun o hb=>by have:=hg.lt hb;omega
  have hF1:=M1.fr nowhere
  have hb6:H.size<H1.size:=by omega
  generalize hb6e:H.size=b6 at*
  clear M1 hn0 hiso0 hg
  have hlt0:∀b o,Gt.af h0 t0 b o→b<H1.size:=fun b o hb=>hg1.lt hb
  refine Uf 0 [0,2,3,4,5] rfl (Ut 2 rfl (Go'.loop (Uk [0,2,3,4,5] rfl ?_)))
  refine Go'.ind (σ:=(h:Nat)×Gt EJ h) (fun s=>s.1) (fun s H'=>(∃D,Spn H1 H' P false (fun n=>n-1) h0 t0 D s.1 s.2)∧Wr H' b6 0 2)
   (fun s=>[(0,.pointer (some ⟨tr,0,none⟩)),(2,.pointer (some ⟨zr,0,none⟩)),(3,.bool false),(4,.pointer (some ⟨Gt.p s.1 s.2,0,none⟩)),(5,.pointer (some ⟨b6,0,none⟩))]) ⟨h0,t0⟩ ⟨⟨_,Spn.start hg1 hx0⟩,w6⟩ rfl ?_
  clear w6
  rintro ⟨h,t⟩ H2 ⟨⟨D,hs⟩,w6⟩ ih
  simp only at hs
  have hDt:∀b,b<cx.base→¬D b:=fun b e2 hd=>by have:=hnt b 1 (Gt.sp_af ((hs.all b).2 (.inl hd)) 1 (by omega));omega
  have tc2:=tc.fr hs.fr (fun b o hb _ hz=>hDt b hb.1 hz.2)
  have cnt2:=hs.fr.keep cnt (fun hz=>hDt tr htb hz.2)
  have hc2:=hs.fr.keep hc (fun hz=>hDt tr htb hz.2)
  have hsz2:=hs.fr.size
  have hnow:=hs.now
  have hle:=hs.le
  have hcn:=(hs.g.cnOf).2
  have hne:=hs.g.ne hs.x1
  have hcc:=hs.cnt
  rw [e] at hle
  refine Ut 2 rfl ?_
  rcases h with _|h
  rotate_left
  ·
   obtain ⟨g,X,K⟩:=t
   have hI:=hnow.inn
   have hKl:K.length=X.length+1:=hnow.2.2.2.2.2.1
   obtain ⟨k,hk⟩:∃k,K[cix false K.length]?=some k:=⟨K[cix false K.length]'(cix_lt (by omega)),List.getElem?_eq_getElem (cix_lt (by omega))⟩
   have hkK:=List.mem_of_getElem? hk
   have hx255:=hnow.2.2.2.2.1
   have hP255:=hP.hx
   replace hx255:X.length≤P.mx:=hx255
   replace hcn:cnOf H1 g.p=(Gt.L (h+1) ((g,X,K):Gt EJ (h+1))).length:=hcn
   refine Ur 8 32832 rfl (Ul 3 rfl (show cl _ g.p 1=some (.int .i64 (cnOf H1 g.p:Int)) from hcc) (Ub 0 ((((cnOf H1 g.p)-1:Nat):Int)) rfl (by omega) (Uq 2 rfl (O.st rfl rfl sizeOf3 rfl rfl rfl rfl rfl (hI.n.wr.at0 1 1 (by omega)) ?_))))
   intro H3 W3
   have hs3:=hs.step (t:=(g,X,K)) hh1 hk W3
   replace hI:=hI.count W3
   have tc3:=tc2.fr W3.fr (fun b o hb _=>nr (.inl (fun e2=>by have h7:=hnt g.p 1 (hs.sub _ _ (show Gt.af (h+1) ((g,X,K):Gt EJ (h+1)) g.p 1 from .inl (.inl ⟨rfl,by omega⟩)));have h8:=hb.1;have h9:b=g.p:=e2;omega)))
   replace w6:=W3.fr.wr w6
   refine ⟨trivial,?_⟩
   refine Uf 0 [0,2,3,4,5] rfl (Ut 2 rfl (Ur 2 8 rfl (Uq 1 rfl (O.callQ rfl rfl rfl call133 rfl (leaf_spec hI.n.c3) trivial (Uf 0 [0,2,3,4,5,31] rfl (Go'.condF rfl (Ut 1 rfl ?_)))))))
   obtain ⟨hgk,_⟩:=hI.c.1 k hkK
   obtain ⟨kpk,hnk⟩:=hgk.node
   have hisok:=hnk.c0
   rw [hgk.isoe] at hisok
   have hko:((Gt.ps h K).map some)[cix false K.length]?=some (some (Gt.p h k)):=by rw [Gt.ps,List.map_map,List.getElem?_map,hk];rfl
   have hkl:((Gt.ps h K).map some).length=K.length:=by rw [List.length_map,Gt.ps,List.length_map]
   have hkc:=hI.k.c
   rw [hkl] at hkc
   refine Ur 10 135424 rfl (Ul 4 rfl (show cl _ g.p 3=some (.pointer (some ⟨g.cb,0,none⟩)) from hI.n.c3) (Ul 1 rfl (show cl _ g.cb 0=some (.slice (some ⟨g.kb,g.ko,none⟩) K.length g.kc) from hkc) (Ux 0 0 rfl rfl (by omega) (O.callQ rfl rfl rfl call130 rfl (isoLoad_spec true (hI.k.at hko) hisok tc3.iso) trivial (Uf 1 [0,2,3,4,5,31] rfl (Ut 1 rfl (Uk [0,2,3,4,5] rfl (Go'.inLoop ?_))))))))
   exact ih ⟨h,k⟩ H3 ⟨⟨_,hs3⟩,w6⟩ (by simp only;omega)
  ·
   obtain ⟨⟨np,niso,ncnt,nib,nio,nic,ncb,nkb,nko,nkc⟩,X⟩:=t
   have hn:NodeM EJ H2 (⟨np,niso,ncnt,nib,nio,nic,ncb,nkb,nko,nkc⟩:Ng) X (.pointer none):=hnow.1
   have hiso:niso=P.iso:=hnow.2.1
   have hcntX:ncnt=X.length:=hnow.2.2.1
   have hxm:X.length≤P.mx:=hnow.2.2.2
   have hx255:=hP.hx
   have hx1:1≤X.length:=hs.x1
   have hle2:X.length≤l.length:=hle
   have hlf:((⟨np,niso,ncnt,nib,nio,nic,ncb,nkb,nko,nkc⟩:Ng),X)=Gt.lf false h0 t0:=hs.lf
   have tn:∀b o,(ncl EJ (⟨np,niso,ncnt,nib,nio,nic,ncb,nkb,nko,nkc⟩:Ng)) b o→¬(b<cx.base):=fun b o hb=>by have:=hnt b o (hs.sub b o hb);omega
   have hlt:∀b o,(ncl EJ (⟨np,niso,ncnt,nib,nio,nic,ncb,nkb,nko,nkc⟩:Ng)) b o→b<H1.size∧b≠b6:=fun b o hb=>⟨hlt0 b o (hs.sub b o hb),fun e2=>hb6n o (e2▸hs.sub b o hb)⟩
   have hD:∀b,(b<cx.base)→b<H2.size:=fun b hb=>by omega
   have hic:=hn.sl.hle
   simp only at hic
   have hF:Fr (fun b o=>(ncl EJ (⟨np,niso,ncnt,nib,nio,nic,ncb,nkb,nko,nkc⟩:Ng)) b o∨b=b6∨b=tr) H2 H2:=Fr.refl _ _
   have hF2:Fr (fun b o=>(o=1∧b=np)∨b=b6) H2 H2:=Fr.refl _ _
   have sn:Gro H2 (ncl EJ (⟨np,niso,ncnt,nib,nio,nic,ncb,nkb,nko,nkc⟩:Ng)) (ncl EJ (⟨np,niso,ncnt,nib,nio,nic,ncb,nkb,nko,nkc⟩:Ng)):=Gro.refl _ _
   clear tc cnt hc
   obtain ⟨tc,cnt,hc⟩:=And.intro tc2 (And.intro cnt2 hc2)
   clear tc2 cnt2 hc2
   obtain ⟨y,hy⟩:∃y,X[0]?=some y:=⟨X[0]'(by omega),List.getElem?_eq_getElem (by omega)⟩
   refine Ur 8 32832 rfl (Ul 3 rfl (show cl _ np 1=some (.int .i64 (ncnt:Int)) from hn.c1) (Ub 0 (((ncnt-1:Nat):Int)) rfl (by omega) (Uq 2 rfl (O.st rfl rfl sizeOf3 rfl rfl rfl rfl rfl (hn.wr.at0 1 1 (by omega)) ?_))))
   intro H11 WH11
   have fW:Fr (ncl EJ (⟨np,niso,ncnt,nib,nio,nic,ncb,nkb,nko,nkc⟩:Ng)) H2 H11:=(Wrote.fHdr (E:=EJ) (g:=(⟨np,niso,ncnt,nib,nio,nic,ncb,nkb,nko,nkc⟩:Ng)) WH11 (by omega))
   replace tc:=tc.fr fW (fun b o hb _ hz=>tn b o hz hb.1)
   replace hF:=Fr.tot hF fW sn (fun _ _ h=>.inl h)
   replace w6:=Fr.wr fW w6
   replace cnt:=Fr.keep fW cnt (fun hz=>tn tr _ hz htb)
   replace hc:=Fr.keep fW hc (fun hz=>tn tr _ hz htb)
   obtain ⟨ncnt_11,encnt_11⟩:∃z,z=ncnt-1:=⟨_,rfl⟩
   rw [←encnt_11] at WH11
   replace hn:NodeM EJ H11 (⟨np,niso,ncnt_11,nib,nio,nic,ncb,nkb,nko,nkc⟩:Ng) (X) (.pointer none):=hn.count WH11
   clear fW
   replace hF2:=hF2.trans' WH11.fr (fun _ _ _ h=>h) (fun b o _ hz=>by
    have h1:=hz.1;have h2:=hz.2.1;have h3:=hz.2.2
    simp only [List.length_cons,List.length_nil] at h3
    exact .inl ⟨by omega,h1⟩)
   refine ⟨trivial,?_⟩
   refine Uf 0 [0,2,3,4,5] rfl (Ut 2 rfl (Ur 2 8 rfl (Uq 1 rfl (O.callQ rfl rfl rfl call133 rfl (leaf_spec hn.c3) trivial (Uf 0 [0,2,3,4,5,31] rfl (Go'.condT rfl (Ut 1 rfl (Ur 7 9280 rfl (Ul 3 rfl (show cl _ np 2=some (.slice (some ⟨nib,nio,none⟩) X.length nic) from hn.c2) (Ux 0 0 rfl rfl (by omega) (Us 0 rfl (hn.sl.item hy) rfl ?_)))))))))))
   refine O.st rfl rfl sizeOf27 rfl rfl rfl rfl rfl w6 ?_
   intro H12 WH12
   have hsH12:=WH12.size
   replace hn:=NodeM.fr EJ hn WH12.fr (fun b o hb=>nr (.inl (by have:=(hlt b o hb).2;omega)))
   replace tc:=tc.fr WH12.fr (fun b o hb _=>nr (.inl (by omega)))
   replace hF:=hF.trans' WH12.fr (fun _ _ _ h=>h) (fun b o hb h=>.inr (.inl h.1))
   replace w6:=Fr.wr WH12.fr w6
   have m6:Rd H12 b6 0 (EJ.enc y):=WH12.all
   replace cnt:=Fr.keep WH12.fr cnt (nr (.inl (by omega)))
   replace hc:=Fr.keep WH12.fr hc (nr (.inl (by omega)))
   replace hF2:=hF2.trans' WH12.fr (fun _ _ _ h=>h) (fun b o _ hz=>.inr hz.1)
   refine ⟨trivial,?_⟩
   refine Uf 0 [0,2,3,4,5,31] rfl (Ut 2 rfl ?_)
   by_cases hmnX:X.length=P.mn
   rotate_left
   ·
    refine Ud 10 65600 (by kernel_rfl) (Ul 3 rfl (show cl _ np 2=some (.slice (some ⟨nib,nio,none⟩) X.length nic) from hn.c2) (Ul 4 rfl tc.mn' (Uc 0 rfl (eqlF (by omega)) (Uf 0 [0,2,3,4,5,31,47] rfl (Go'.condF rfl (Ut 2 rfl ?_))))))
    have hxd:X.length-(0+1)+(0+1)=X.length:=by omega
    refine Ud 11 2162752 (by kernel_rfl) (Ul 3 rfl (show cl _ np 2=some (.slice (some ⟨nib,nio,none⟩) X.length nic) from hn.c2) (O.slc (jl:=0) (jh:=X.length) (jm:=nic) rfl rfl rfl rfl underlying25 sizeOf27 rfl rfl rfl rfl (by omega) (by omega) (by simp) (by simp) ?_))
    intro od hod
    refine Ul 3 rfl (show cl _ np 2=some (.slice (some ⟨nib,nio,none⟩) X.length nic) from hn.c2) (O.slc (jl:=0+1) (jh:=X.length) (jm:=nic) rfl rfl rfl rfl underlying25 sizeOf27 rfl rfl rfl ⟨_,by rfl⟩ (by omega) (by omega) (by simp) (by simp) ?_)
    intro os2 hos2
    refine O.copy (b:=nib) (o:=(nio+(0)*2)) (j:=(X.length-(0+1))) (cs:=(row EJ (X.drop (0+1)))) rfl rfl rfl ⟨underlying25,sizeOf27,zeroValue27,⟨_,typeInfo27,rfl⟩,rfl,by decide,by decide⟩ rfl rfl (show _=min _ _ by omega) ((Nat.lt_or_ge (0) nic).elim (fun h=>.inl (by rw [hod h])) (fun h=>.inr (by omega))) (.inl ⟨_,_,_,rfl,hn.sl.rdDrop (i:=0+1) hos2 (by omega)⟩) (by rw [row_len];first|rfl|(congr 1;simp only [List.length_drop];try omega)) (row_ones EJ _) (hn.sl.wrm (i:=0) (m:=X.length-(0+1)) (by omega)) ?_
    intro H13 WH13
    have hyl:(X.drop (0+1)).length=X.length-(0+1):=by simp only [List.length_drop];try omega
    have fW:Fr (ncl EJ (⟨np,niso,ncnt_11,nib,nio,nic,ncb,nkb,nko,nkc⟩:Ng)) H12 H13:=(NodeM.fCpy hn (i:=0) (Y:=X.drop (0+1)) WH13 (by omega))
    replace tc:=tc.fr fW (fun b o hb _ hz=>tn b o hz hb.1)
    replace hF:=Fr.tot hF fW sn (fun _ _ h=>.inl h)
    replace w6:=Fr.wr fW w6
    replace m6:=Fr.rd fW m6 (fun _ _ hz=>by have:=(hlt _ _ hz).2;omega)
    replace cnt:=Fr.keep fW cnt (fun hz=>tn tr _ hz htb)
    replace hc:=Fr.keep fW hc (fun hz=>tn tr _ hz htb)
    obtain ⟨nX1,enX1,hn⟩:∃X1,X1=X.take (0)++X.drop (0+1)++X.drop (0+(X.drop (0+1)).length)∧NodeM EJ H13 (⟨np,niso,ncnt_11,nib,nio,nic,ncb,nkb,nko,nkc⟩:Ng) (X1) (.pointer none):=⟨_,rfl,hn.cpy (i:=0) (Y:=X.drop (0+1)) WH13 (by omega)⟩
    have lnX1:nX1.length=X.length:=by rw [enX1];simp only [List.length_append,List.length_take,List.length_drop];omega
    clear fW
    clear hyl
    refine ⟨trivial,?_⟩
    refine Uf 0 [0,2,3,4,5,31,47] rfl (Ut 1 rfl (Ud 16 3288350784 (by kernel_rfl) (Ul 3 rfl (show cl _ np 2=some (.slice (some ⟨nib,nio,none⟩) nX1.length nic) from hn.c2) (Ul 3 rfl (show cl _ np 2=some (.slice (some ⟨nib,nio,none⟩) nX1.length nic) from hn.c2) (Ub 1 (((nX1.length-1:Nat):Int)) rfl (by omega) (Us 3 rfl tc.emp rfl (Ux 0 (nX1.length-1) rfl (by omega) (by omega) (O.st3 rfl rfl sizeOf27 rfl rfl rfl rfl rfl (hn.sl.wri (i:=nX1.length-1) (by omega)) ?_))))))))
    intro H14 WH14
    have fW:Fr (ncl EJ (⟨np,niso,ncnt_11,nib,nio,nic,ncb,nkb,nko,nkc⟩:Ng)) H13 H14:=(NodeM.fSet hn (i:=nX1.length-1) (x:=((0:Int),(0:Int))) WH14 (by omega))
    replace tc:=tc.fr fW (fun b o hb _ hz=>tn b o hz hb.1)
    replace hF:=Fr.tot hF fW sn (fun _ _ h=>.inl h)
    replace w6:=Fr.wr fW w6
    replace m6:=Fr.rd fW m6 (fun _ _ hz=>by have:=(hlt _ _ hz).2;omega)
    replace cnt:=Fr.keep fW cnt (fun hz=>tn tr _ hz htb)
    replace hc:=Fr.keep fW hc (fun hz=>tn tr _ hz htb)
    obtain ⟨nX2,enX2,hn⟩:∃X1,X1=nX1.take (nX1.length-1)++((0:Int),(0:Int))::nX1.drop (nX1.length-1+1)∧NodeM EJ H14 (⟨np,niso,ncnt_11,nib,nio,nic,ncb,nkb,nko,nkc⟩:Ng) (X1) (.pointer none):=⟨_,rfl,hn.set (i:=nX1.length-1) (x:=((0:Int),(0:Int))) WH14 (by omega)⟩
    have lnX2:nX2.length=nX1.length:=by rw [enX2];simp only [List.length_append,List.length_take,List.length_cons,List.length_drop];omega
    clear fW
    refine Uf 0 [0,2,3,4,5,31,47] rfl (Ut 1 rfl (Ud 15 805372160 (by kernel_rfl) (Ul 4 rfl (show cl _ np 2=some (.slice (some ⟨nib,nio,none⟩) nX2.length nic) from hn.c2) (Ul 3 rfl (show cl _ np 2=some (.slice (some ⟨nib,nio,none⟩) nX2.length nic) from hn.c2) (Ub 1 (((nX2.length-1:Nat):Int)) rfl (by omega) (O.slc (jl:=0) (jh:=nX2.length-1) (jm:=nic) rfl rfl rfl rfl underlying25 sizeOf27 rfl rfl ⟨_,by rfl⟩ rfl (by omega) (by omega) (by simp) (by simp) ?_))))))
    intro oc hoc
    have hoc2:nio=oc:=by rw [hoc (by omega)];simp
    subst hoc2
    rw [Nat.sub_zero]
    refine Uq 2 rfl (O.st3 rfl rfl sizeOf25 rfl rfl rfl rfl rfl (hn.wr.at0 2 1 (by omega)) ?_)
    intro H15 WH15
    have fW:Fr (ncl EJ (⟨np,niso,ncnt_11,nib,nio,nic,ncb,nkb,nko,nkc⟩:Ng)) H14 H15:=(Wrote.fHdr (E:=EJ) (g:=(⟨np,niso,ncnt_11,nib,nio,nic,ncb,nkb,nko,nkc⟩:Ng)) WH15 (by omega))
    replace tc:=tc.fr fW (fun b o hb _ hz=>tn b o hz hb.1)
    replace hF:=Fr.tot hF fW sn (fun _ _ h=>.inl h)
    replace w6:=Fr.wr fW w6
    replace m6:=Fr.rd fW m6 (fun _ _ hz=>by have:=(hlt _ _ hz).2;omega)
    replace cnt:=Fr.keep fW cnt (fun hz=>tn tr _ hz htb)
    replace hc:=Fr.keep fW hc (fun hz=>tn tr _ hz htb)
    obtain ⟨nX3,enX3,hn⟩:∃X1,X1=nX2.take (nX2.length-1)∧NodeM EJ H15 (⟨np,niso,ncnt_11,nib,nio,nic,ncb,nkb,nko,nkc⟩:Ng) (X1) (.pointer none):=⟨_,rfl,hn.cut WH15 (by omega)⟩
    have lnX3:nX3.length=nX2.length-1:=by rw [enX3];simp only [List.length_take];omega
    clear fW
    refine Uf 0 [0,2,3,4,5,31,47] rfl (Ut 1 rfl ?_)
    have hX:nX3=X.take 0++X.drop (0+1):=by
     rw [enX3,lnX2,lnX1,enX2,lnX1,enX1]
     exact Pl.cut_at X _ 0 (by omega)
    have hsp:bif false then X=nX3++[y] else X=y::nX3:=by rw [hX];exact Pl.head_split hy
    obtain ⟨gE1,gE2,gE3,⟨R,gE4,gE5⟩,gE6,gE7⟩:=Gt.Good.edit (d:=false) (δ:=(fun n=>n-1)) (Z:=fun b o=>(o=1∧D b)∨((ncl EJ (⟨np,niso,ncnt,nib,nio,nic,ncb,nkb,nko,nkc⟩:Ng)) b o∨b=b6∨b=tr)) (hs.fr.trans' hF (fun _ _ _ h=>.inl h) (fun _ _ _ h=>.inr h)) hn hiso (show ncnt_11=nX3.length by omega) (by omega) hg1
     (fun b o hb hz=>by
      rcases hz with ⟨ho,hd⟩|hz|rfl|rfl
      · exact .inl ⟨ho,(hs.all b).2 (.inl hd)⟩
      · exact .inr (by rw [←hlf];exact hz)
      · exact (hb6n o hb).elim
      · exact absurd (hnt _ _ hb) (by omega))
     (fun q hq hne2=>by
      rcases (hs.all q).1 hq with hd|hd
      ·
       exact hF.keep (hs.val q hd) (fun hz=>by
        rcases hz with hz|rfl|rfl
        · exact hs.off q hd hz
        · exact hb6n 1 (Gt.sp_af hq 1 (by omega))
        · exact hDt _ htb hd)
      ·
       rw [←hlf] at hne2
       exact (hne2 hd).elim)
     (by rw [←hlf]) (fun h9=>by
      have:P.mn≤X.length:=hs.mn h9
      omega)
     (by rw [←hlf];exact fun b o hb=>.inl hb) (fun n hn9=>by rw [←hlf] at hn9 ⊢;simp only at hn9 ⊢;omega)
    rw [←hlf] at gE4
    have hpk:=popk_glue (R:=R) hsp
    have ht1:l=glue false X R:=by rw [←e];exact gE4
    rw [←ht1] at hpk
    have hglen:=glue_len false nX3 R
    have hglen2:=congrArg List.length ht1
    rw [glue_len] at hglen2
    have hown1:∀b o,Gt.af h0 (Gt.ed false (fun n=>n-1) (⟨np,niso,ncnt_11,nib,nio,nic,ncb,nkb,nko,nkc⟩:Ng) nX3 h0 t0) b o→S b∨(H.size≤b∧b<H15.size):=fun b o hb=>(gE3 b o hb).imp (hown b o) (fun h9=>⟨by omega,gE1.lt hb⟩)
    have hnt1:∀b o,Gt.af h0 (Gt.ed false (fun n=>n-1) (⟨np,niso,ncnt_11,nib,nio,nic,ncb,nkb,nko,nkc⟩:Ng) nX3 h0 t0) b o→cx.base≤b:=fun b o hb=>(gE3 _ _ hb).elim (hnt b o) (fun h9=>by omega)
    have hFt:Fr (fun b _=>S b∨b=zr) H H15:=hF1.trans' (hs.fr.trans' hF (Z:=fun b o=>(o=1∧D b)∨((ncl EJ (⟨np,niso,ncnt,nib,nio,nic,ncb,nkb,nko,nkc⟩:Ng)) b o∨b=b6∨b=tr)) (fun _ _ _ h=>.inl h) (fun _ _ _ h=>.inr h)) (fun _ _ _ h=>h.elim) (fun b o hb hz=>by
     rcases hz with ⟨ho,hd⟩|hz|rfl|rfl
     · exact .inl (hown b o (ho▸Gt.sp_af ((hs.all b).2 (.inl hd)) 1 (by omega)))
     · exact .inl (hown b o (hs.sub b o hz))
     · omega
     · exact .inl own)
    have hbl6:∀b o,Gt.af h0 (Gt.ed false (fun n=>n-1) (⟨np,niso,ncnt_11,nib,nio,nic,ncb,nkb,nko,nkc⟩:Ng) nX3 h0 t0) b o→b≠tr:=fun b o hb=>by have:=hnt1 b o hb;omega
    generalize hT:Gt.ed false (fun n=>n-1) (⟨np,niso,ncnt_11,nib,nio,nic,ncb,nkb,nko,nkc⟩:Ng) nX3 h0 t0=T at*
    rw [←gE2] at hc
    have hsrt1:Pl.Srt OI (glue false nX3 R):=by
     have:=Pl.runs_popk_srt OI srt [false]
     have e9:(Pl.runs Pl.popk l [false]).1=(Pl.popk l false).1:=rfl
     rw [e9,hpk] at this
     exact this
    refine Ur 8 32832 rfl (Ul 3 rfl cnt (Ub 0 (((l.length-1:Nat):Int)) rfl (by omega) (Uq 2 rfl (O.st rfl rfl sizeOf3 rfl rfl rfl rfl rfl (tc.wr.at0 3 1 (by omega)) ?_))))
    intro Ha Wa
    have hsa:=Wa.size
    replace tc:=tc.fr (Wa.fr' 1 rfl) (fun b o hb he hz=>by have h1:=he hz.1;have h2:=hz.2.1;have h3:=hz.2.2;omega)
    replace hc:=Wa.keep1 hc (by omega)
    replace hFt:=hFt.trans' Wa.fr (fun _ _ _ h=>h) (fun b o _ h=>.inl (by rw [h.1];exact own))
    replace m6:=Wa.fr.rd m6 (fun _ _=>nr (.inl (by omega)))
    replace w6:=Wa.fr.wr w6
    have cnt5:cl Ha tr 3=some (.int .i64 ((l.length-1:Nat):Int)):=Wa.at
    replace gE1:=gE1.fr Wa.fr (fun b o hb=>nr (.inl (hbl6 b o hb)))
    refine ⟨trivial,?_⟩
    refine Uf 0 [0,2,3,4,5,31,47] rfl (Ut 2 rfl ?_)
    by_cases hl1:l.length-1=0
    ·
     refine Ur 5 64 rfl (Ul 3 rfl cnt5 (Uc 0 rfl (eqlT (by omega)) (Uf 0 [0,2,3,4,5,31,47,99] rfl (Go'.condT rfl (Ur 4 128 rfl (Uq 3 rfl (O.st rfl rfl sizeOf129 rfl rfl rfl rfl rfl (tc.wr.at0 2 1 (by omega)) ?_)))))))
     intro Hb Wb
     have hsb:=Wb.size
     replace tc:=tc.fr (Wb.fr' 1 rfl) (fun b o hb he hz=>by have h1:=he hz.1;have h2:=hz.2.1;have h3:=hz.2.2;omega)
     replace cnt5:=Wb.keep1 cnt5 (by omega)
     replace hFt:=hFt.trans' Wb.fr (fun _ _ _ h=>h) (fun b o _ h=>.inl (by rw [h.1];exact own))
     replace m6:=Wb.fr.rd m6 (fun _ _=>nr (.inl (by omega)))
     replace w6:=Wb.fr.wr w6
     have hc6:cl Hb tr 2=some (.pointer none):=Wb.at
     refine ⟨trivial,?_⟩
     refine Uf 0 [0,2,3,4,5,31,47,99] rfl (Ut 1 rfl (Ur 3 9 rfl (Us 0 rfl m6 rfl (O.st (vs:=(EJ.enc y)) rfl rfl sizeOf27 rfl rfl rfl rfl rfl (hFt.wr wz) ?_))))
     intro Hz Wz
     have hsz8:=Wz.size
     have hne9:∀b o,Gt.af h0 T b o→b≠zr:=fun b o hb=>(hown1 b o hb).elim (hzS b) (fun h=>by omega)
     replace tc:=tc.fr Wz.fr (fun b o hb _=>nr (.inl (by have:=hb.1;omega)))
     replace cnt5:=Wz.fr.keep cnt5 (nr (.inl (by omega)))
     replace hc6:=Wz.fr.keep hc6 (nr (.inl (by omega)))
     replace hFt:=hFt.trans' Wz.fr (fun _ _ _ h=>h) (fun b o _ h=>.inr h.1)
     refine ⟨trivial,?_⟩
     refine Uf 1 [0,2,3,4,5,31,47,99] rfl (Go'.ret (vs:=[_,_]) func115 results115 ⟨⟨_,_,rfl,fun _ _=>run_loadVar_agg (fun w=>⟨isAgg27 w,sizeOf27 w⟩) rfl Wz.all⟩,rfl,trivial⟩ ?_)
     unfold PopZ
     rw [hpk]
     have e9:l.length-1=(glue false nX3 R).length:=by rw [hglen];omega
     rw [e9] at cnt5
     have hsz9:=hFt.size
     exact ⟨rfl,fun b=>S b∨(H.size≤b∧b<Hz.size),⟨tc,hsrt1,cnt5,.inl own,fun b hb=>hb.elim (fun h9=>by have:=lt b h9;omega) (fun h9=>h9.2),fun b hb=>hb.elim (bs b) (fun h9=>.inr (by omega)),.inl ⟨List.length_eq_zero_iff.1 (by rw [hglen];omega),hc6⟩⟩,hFt,fun b hb=>hb.imp id (fun h9=>h9.1)⟩
    ·
     refine Ur 5 64 rfl (Ul 3 rfl cnt5 (Uc 0 rfl (eqlF (by omega)) (Uf 0 [0,2,3,4,5,31,47,99] rfl (Go'.condF rfl (Ut 2 rfl (Ur 3 9 rfl (Us 0 rfl m6 rfl (O.st (vs:=(EJ.enc y)) rfl rfl sizeOf27 rfl rfl rfl rfl rfl (hFt.wr wz) ?_))))))))
     intro Hz Wz
     have hsz8:=Wz.size
     have hne9:∀b o,Gt.af h0 T b o→b≠zr:=fun b o hb=>(hown1 b o hb).elim (hzS b) (fun h=>by omega)
     replace tc:=tc.fr Wz.fr (fun b o hb _=>nr (.inl (by have:=hb.1;omega)))
     replace cnt5:=Wz.fr.keep cnt5 (nr (.inl (by omega)))
     replace hc:=Wz.fr.keep hc (nr (.inl (by omega)))
     replace gE1:=gE1.fr Wz.fr (fun b o hb=>nr (.inl (hne9 b o hb)))
     replace hFt:=hFt.trans' Wz.fr (fun _ _ _ h=>h) (fun b o _ h=>.inr h.1)
     refine ⟨trivial,?_⟩
     refine Uf 1 [0,2,3,4,5,31,47,99] rfl (Go'.ret (vs:=[_,_]) func115 results115 ⟨⟨_,_,rfl,fun _ _=>run_loadVar_agg (fun w=>⟨isAgg27 w,sizeOf27 w⟩) rfl Wz.all⟩,rfl,trivial⟩ ?_)
     unfold PopZ
     rw [hpk]
     have e9:l.length-1=(glue false nX3 R).length:=by rw [hglen];omega
     rw [e9] at cnt5
     have hsz9:=hFt.size
     exact ⟨rfl,fun b=>S b∨(H.size≤b∧b<Hz.size),⟨tc,hsrt1,cnt5,.inl own,fun b hb=>hb.elim (fun h9=>by have:=lt b h9;omega) (fun h9=>h9.2),fun b hb=>hb.elim (bs b) (fun h9=>.inr (by omega)),.inr ⟨h0,T,gE1,by
        rcases Nat.eq_zero_or_pos h0 with h9|h9
        ·
         rw [gE7 h9]
         have h8:=gE5
         subst h9
         have:(Gt.L 0 T).length=(Gt.X 0 T).length:=rfl
         rw [gE7 rfl,gE5,hglen] at this
         omega
        · rw [gE6 h9];assumption,gE5,hc,hnt1,fun b o hb=>(hown1 b o hb).imp id (fun h9=>⟨h9.1,by omega⟩)⟩⟩,hFt,fun b hb=>hb.imp id (fun h9=>h9.1)⟩
   ·
    refine Ud 10 65600 (by kernel_rfl) (Ul 3 rfl (show cl _ np 2=some (.slice (some ⟨nib,nio,none⟩) X.length nic) from hn.c2) (Ul 4 rfl tc.mn' (Uc 0 rfl (eqlT (by omega)) (Uf 0 [0,2,3,4,5,31,47] rfl (Go'.condT rfl (Ut 2 rfl ?_))))))
    have hFb:Fr (fun b o=>(o=1∧Gt.sp false h0 t0 b)∨b=b6) H1 H12:=hs.fr.trans' hF2 (fun b o _ hz=>.inl ⟨hz.1,(hs.all b).2 (.inl hz.2)⟩) (fun b o _ hz=>by
     rcases hz with hz|hz
     · exact .inl ⟨hz.1,hz.2▸(hs.all np).2 (.inr rfl)⟩
     · exact .inr hz)
    have hvb:∀q,Gt.sp false h0 t0 q→cl H12 q 1=some (.int .i64 ((cnOf H1 q-1:Nat):Int)):=fun q hq=>by
     rcases (hs.all q).1 hq with hd|hd
     ·
      exact hF2.keep (hs.val q hd) (fun hz=>by
       rcases hz with ⟨_,rfl⟩|rfl
       · exact hs.off q hd (.inl ⟨rfl,by omega⟩)
       · exact hb6n 1 (Gt.sp_af hq 1 (by omega)))
     ·
      have hd':q=np:=hd
      subst hd'
      have hcn':cnOf H1 q=ncnt:=by rw [hcntX];exact hcn
      rw [hcn',←encnt_11]
      exact hn.c1
    have hs2:=Sp2.start (δ:=(fun n=>n-1)) hg1 hFb hb6n hvb hx0
    have hszb:=hFb.size
    have hxy:(bif false then X=X.take (X.length-1)++[y] else X=y::X.drop (0+1)):=by exact Pl.head_split hy
    clear ih
    refine Ur 5 64 rfl (Ul 3 rfl (show cl _ tr 2=some (.pointer (some ⟨Gt.p h0 t0,0,none⟩)) from hc) (Uf 1 [0,2,3,4,5] rfl (Ut 2 rfl (Go'.loop (Uk [0,2,3,4,5] rfl ?_)))))
    refine Go'.ind (σ:=(h:Nat)×Gt EJ h) (fun s=>s.1) (fun s H'=>∃D,Sp2 H1 H' P false (fun n=>n-1) h0 t0 b6 D s.1 s.2∧Fr (fun b o=>o=1∧Gt.sp false h0 t0 b) H12 H')
     (fun s=>[(0,.pointer (some ⟨tr,0,none⟩)),(2,.pointer (some ⟨zr,0,none⟩)),(3,.bool false),(4,.pointer (some ⟨Gt.p s.1 s.2,0,none⟩)),(5,.pointer (some ⟨b6,0,none⟩))]) ⟨h0,t0⟩ ⟨_,hs2,Fr.refl _ _⟩ rfl ?_
    rintro ⟨h,t⟩ H3 ⟨D2,hs3,hf3⟩ ih
    simp only at hs3
    have hcc3:=hs3.val2 _ (Gt.sp_p false)
    have hcn3:=(hs3.g.cnOf).2
    have hle3:=hs3.le
    rw [e] at hle3
    refine Ut 2 rfl ?_
    have hpos:1≤(Gt.L h t).length:=hs3.pos
    rcases h with _|h
    rotate_left
    ·
     obtain ⟨g,X3,K⟩:=t
     have hKl:K.length=X3.length+1:=hs3.g.2.2.2.2.2.1
     obtain ⟨k,hk⟩:∃k,K[cix false K.length]?=some k:=⟨K[cix false K.length]'(cix_lt (by omega)),List.getElem?_eq_getElem (cix_lt (by omega))⟩
     replace hcn3:cnOf H1 g.p=(Gt.L (h+1) ((g,X3,K):Gt EJ (h+1))).length:=hcn3
     obtain ⟨i1,i2,i3⟩:=hs3.inner (t:=(g,X3,K)) hk
     have hwr3:=hs3.fr.wr hs3.g.1.wr
     have hx3:X3.length≤P.mx:=hs3.g.2.2.2.2.1
     refine Ur 8 32832 rfl (Ul 3 rfl (show cl _ g.p 1=some (.int .i64 ((cnOf H1 g.p-1:Nat):Int)) from hcc3) (Ua 0 (((((cnOf H1 g.p-1))+1:Nat):Int)) rfl (by omega) (Uq 2 rfl (O.st rfl rfl sizeOf3 rfl rfl rfl rfl rfl (hwr3.at0 1 1 (by omega)) ?_))))
     intro H4 W4
     have ecn:cnOf H1 g.p-1+1=cnOf H1 g.p:=by omega
     rw [ecn] at W4
     have hs4:=hs3.step (t:=(g,X3,K)) hh1 hk W4
     have hf4:Fr (fun b o=>o=1∧Gt.sp false h0 t0 b) H12 H4:=hf3.trans' W4.fr (fun _ _ _ h=>h) (fun b o _ hz=>by
      have h1:=hz.1;have h2:=hz.2.1;have h3:=hz.2.2
      simp only [List.length_cons,List.length_nil] at h3
      exact ⟨by omega,h1▸(hs3.all _).2 (.inr (.inl rfl))⟩)
     have hKM:=hs3.g.2.1
     replace i1:=W4.keep1 i1 (by simp only;omega)
     replace i2:=W4.fr.keep i2 (nr (.inl (Ne.symm hKM.n2)))
     replace i3:=W4.fr.keep i3 (nr (.inl (Ne.symm hKM.n3)))
     refine ⟨trivial,?_⟩
     refine Uf 0 [0,2,3,4,5] rfl (Ut 2 rfl (Ur 2 8 rfl (Uq 1 rfl (O.callQ rfl rfl rfl call133 rfl (leaf_spec i1) trivial (Uf 0 [0,2,3,4,5,125] rfl (Go'.condF rfl (Ut 1 rfl (Ur 9 17472 rfl (Ul 3 rfl (show cl _ g.p 3=some (.pointer (some ⟨g.cb,0,none⟩)) from i1) (Ul 1 rfl (show cl _ g.cb 0=some (.slice (some ⟨g.kb,g.ko,none⟩) K.length g.kc) from i2) (Ux 0 0 rfl rfl (by omega) ?_)))))))))))
     refine Ul 0 rfl i3 (Uf 1 [0,2,3,4,5,125] rfl (Ut 1 rfl (Uk [0,2,3,4,5] rfl (Go'.inLoop ?_))))
     exact ih ⟨h,k⟩ H4 ⟨_,hs4,hf4⟩ (by simp only;omega)
    ·
     obtain ⟨g,X3⟩:=t
     replace hcn3:cnOf H1 g.p=(Gt.L 0 ((g,X3):Gt EJ 0)).length:=hcn3
     have hwr3:=hs3.fr.wr hs3.g.1.wr
     have hc3l:cl H3 g.p 3=some (.pointer none):=hs3.fr.keep hs3.g.1.c3 (fun hz=>hz.elim (fun h=>by omega) (fun h=>hs3.nb 3 (hs3.sub b6 3 (show ncl EJ g b6 3 from .inl ⟨h.symm,by omega⟩))))
     refine Ur 8 32832 rfl (Ul 3 rfl (show cl _ g.p 1=some (.int .i64 ((cnOf H1 g.p-1:Nat):Int)) from hcc3) (Ua 0 (((((cnOf H1 g.p-1))+1:Nat):Int)) rfl (by omega) (Uq 2 rfl (O.st rfl rfl sizeOf3 rfl rfl rfl rfl rfl (hwr3.at0 1 1 (by omega)) ?_))))
     intro H4 W4
     have ecn:cnOf H1 g.p-1+1=cnOf H1 g.p:=by omega
     rw [ecn] at W4
     have hgB:=hs3.fin (t:=(g,X3)) hg1 W4
     have hf4:Fr (fun b o=>o=1∧Gt.sp false h0 t0 b) H12 H4:=hf3.trans' W4.fr (fun _ _ _ h=>h) (fun b o _ hz=>by
      have h1:=hz.1;have h2:=hz.2.1;have h3:=hz.2.2
      simp only [List.length_cons,List.length_nil] at h3
      exact ⟨by omega,h1▸(hs3.all _).2 (.inr rfl)⟩)
     have hst:∀b o,b<cx.base→¬(o=1∧Gt.sp false h0 t0 b):=fun b o hb hz=>by have:=hnt b 1 (Gt.sp_af hz.2 1 (by omega));omega
     replace hc3l:=W4.keep1 hc3l (by omega)
     replace tc:=tc.fr hf4 (fun b o hb _=>hst b o hb.1)
     replace cnt:=hf4.keep cnt (hst _ _ htb)
     replace hc:=hf4.keep hc (hst _ _ htb)
     replace m6:=hf4.rd m6 (fun i _ hz=>hb6n 1 (Gt.sp_af hz.2 1 (by omega)))
     replace w6:=hf4.wr w6
     have hFB:Fr (fun b _=>S b) H H4:=hF1.trans' (hFb.trans' hf4 (Z:=fun b o=>(o=1∧Gt.sp false h0 t0 b)∨b=b6) (fun _ _ _ h=>h) (fun _ _ _ h=>.inl h)) (fun _ _ _ h=>h.elim) (fun b o hb hz=>by
      rcases hz with ⟨ho,hz⟩|hz
      · exact hown b o (ho▸Gt.sp_af hz 1 (by omega))
      · omega)
     have hszB:=hFB.size
     have hMB:MapM H4 tr P S l:=⟨tc,srt,cnt,own,fun b hb=>by have:=lt b hb;omega,bs,.inr ⟨h0,t0,hgB,hx0,e,hc,hnt,hown⟩⟩
     refine ⟨trivial,?_⟩
     refine Uf 0 [0,2,3,4,5] rfl (Ut 2 rfl (Ur 2 8 rfl (Uq 1 rfl (O.callQ rfl rfl rfl call133 rfl (leaf_spec hc3l) trivial (Uf 0 [0,2,3,4,5,125] rfl (Go'.condT rfl (Ut 2 rfl ?_)))))))
     have hgl:∃R,l=glue false X R:=hs.glue hg1 e hlf
     obtain ⟨R,hR⟩:=hgl
     have hpk:=popk_glue (d:=false) (X:=X) (X':=X.drop (0+1)) (y:=y) (R:=R) hxy
     rw [←hR] at hpk
     have hgot:Pl.got OI y l=some y∧Pl.fnd OI y l=true∧Pl.del OI y l=(Pl.popk l false).1:=by
      rw [hpk]
      have hs9:=srt
      rw [hR] at hs9 ⊢
      have hxy':X=y::X.drop (0+1):=hxy
      have e9:glue false X R=y::(X.drop (0+1)++R):=by
       show X++R=_
       conv=>lhs;rw [hxy']
       simp
      rw [e9] at hs9 ⊢
      exact Pl.got_first OI hs9
     have hb6S:∀b,S b→b≠b6:=fun b hb e2=>by have:=lt b hb;omega
     refine Ur 7 2084 rfl (Us 1 rfl m6 rfl (O.call rfl rfl rfl call132 rfl (delh_spec hP (x:=y) hMB hlen) ?_))
     rintro _ H5 ⟨rfl,S',hM5,hF5,hS5⟩
     rw [hgot.1,hgot.2.1]
     rw [hgot.2.2] at hM5
     have wz5:=hF5.wr (hFB.wr wz)
     have hs5:=hF5.size
     refine ⟨trivial,?_⟩
     refine Uq 2 rfl (O.st (vs:=(EJ.enc y)) rfl rfl sizeOf27 rfl rfl rfl rfl rfl wz5 ?_)
     intro H6 W6
     refine ⟨trivial,?_⟩
     refine Uf 1 [2,3] rfl (Go'.ret (vs:=[_,_]) func115 results115 ⟨⟨_,_,rfl,fun _ _=>run_loadVar_agg (fun w=>⟨isAgg27 w,sizeOf27 w⟩) rfl W6.all⟩,rfl,trivial⟩ ?_)
     unfold PopZ
     refine ⟨by rw [hpk];rfl,S',hM5.zr hzb (fun b hb=>(hS5 b hb).elim (hzS b) (fun h=>by omega)) W6,(hFB.trans' hF5 (Z:=fun b _=>S b∨b=zr) (fun _ _ _ h=>.inl h) (fun _ _ _ h=>.inl h)).trans' W6.fr (fun _ _ _ h=>h) (fun b o _ h=>.inr h.1),fun b hb=>(hS5 b hb).imp id (fun h=>by omega)⟩
end
end Go.Bt.FG
