/- Contracts of functions of the program, proved by walking through their code. Conditions: those that each theorem names. -/
import Derived.Test.YtmcnochofpgfbaaToqD
import Derived.Test.YtmcnochofpgfbaaTogG
import Derived.Test.YtmcnochofpgfbaaTojX
import Derived.Test.YtmcnochofpgfbaaToKs
import Derived.Test.YtmcnochofpgfbaaToqL
set_option linter.unusedVariables false
namespace Go.Bt.FG
open Go Go.Proofs Go.Proofs.Try
set_option maxRecDepth 20000
set_option maxHeartbeats 4000000
set_option linter.unusedSectionVars false
theorem st92:StT Try.prog 92 [(0,1),(1,1)] [.bool false,.bool false]:=⟨⟨_,underlying92,fun w=>by simp [Array.mapM_eq_mapM_toList,sizeOf4]⟩,zeroValue92⟩
theorem ranges_spec {B:World} {H:Mem} {pl nr mi:Bool}:
  Fn Try.prog B 29 [.agg #[.bool pl,.bool nr,.bool mi]] H (fun r H'=>Fr nowhere H H'∧((r=.pointer none∧pl=true)∨∃ob,pl=false∧H.size≤ob∧r=.pointer (some ⟨ob,0,none⟩)∧cl H' ob 0=some (.bool nr)∧cl H' ob 1=some (.bool mi))):=by
 refine fn_of func29 rfl ntmps29 ?_
 refine (show Go' _ _ _ _ 11 [(0,_)] [.code _] _ from ?_)
 refine Ut 1 rfl (Ur 2 2 rfl (O.box rfl rfl rfl rfl ?_))
 intro H1 M1
 refine ⟨trivial,?_⟩
 have hs1:=M1.size
 have c0:cl H1 H.size 0=some (.bool pl):=(M1.cl 0).trans rfl
 have c1:cl H1 H.size 1=some (.bool nr):=(M1.cl 1).trans rfl
 have c2:cl H1 H.size 2=some (.bool mi):=(M1.cl 2).trans rfl
 refine Uf 1 [1,2] rfl (Ut 2 rfl ?_)
 cases pl
 ·
  refine Ur 2 4 rfl (Ul 1 rfl c0 (Uf 0 [1,2,4] rfl (Go'.condF rfl (Ut 2 rfl (Ur 7 2116 rfl (Ul 1 rfl c1 (Ul 1 rfl c2 (O.bld (cs:=[.bool nr,.bool mi]) rfl rfl rfl rfl (st92) rfl (by kernel_rfl) (O.box rfl rfl rfl rfl ?_)))))))))
  intro H2 M2
  refine ⟨trivial,?_⟩
  have hs2:=M2.size
  have d0:cl H2 H1.size 0=some (.bool nr):=(M2.cl 0).trans rfl
  have d1:cl H2 H1.size 1=some (.bool mi):=(M2.cl 1).trans rfl
  refine Uf 1 [2] rfl (Go'.ret (vs:=[_]) func29 results29 ⟨rfl,trivial⟩ ?_)
  exact ⟨(M1.fr nowhere).trans (M2.fr nowhere),.inr ⟨H1.size,rfl,by omega,rfl,d0,d1⟩⟩
 ·
  refine Ur 2 4 rfl (Ul 1 rfl c0 (Uf 0 [1,2,4] rfl (Go'.condT rfl (Ut 1 rfl (Ur 1 0 rfl (Uf 1 [1,2] rfl (Go'.ret (vs:=[_]) func29 results29 ⟨rfl,trivial⟩ ?_)))))))
  exact ⟨M1.fr nowhere,.inl ⟨rfl,rfl⟩⟩
section
variable [Inhabited Cx]
def DrX (tr:Nat) (P:Ps) (ex:Bool) (stop:(Int×Int)→Bool) (A R0:List (Int×Int)) (n wb:Nat) (TA0:Nat→Nat→Prop) (r:Value) (R:List (Int×Int)) (Ts:List QT) (Zq:Nat→Prop) (q:List ((Int×Int)×Option Nat)) (fn:Value) (cnt:Nat) (sv:Value) (H:Mem):Prop:=
 r=.agg #[fn,.int .i64 (cnt:Int),.int .i64 ((0:Nat):Int),sv]∧Dri OI A R R0 (Ts.map QT.pc) stop∧(∀x∈R,stop x=true)∧
  ((A++R=[]∧RtZ H tr P)∨∃h0,∃t0:Gt EJ h0,RtT H tr P (A++R) h0 t0∧∀b o,Gt.af h0 t0 b o→¬Zq b∧b≠wb∧(TA0 b o∨n≤b))∧Acc EQ Zq H sv q∧(∀b,Zq b→n≤b∧b<H.size∧b≠wb)∧
  (ex=true→fn=FUNV∧q.Perm (Ts.map QT.e)∧Hp.Heap OI qkey q∧cnt=(flat (Ts.map QT.pc)).length)∧(ex=false→q=[]∧cnt=0)∧ones [fn]=true∧(∀p∈Ts,QT.ok H P p)∧(∀p∈Ts,∀b o,QT.af p b o→cx.base≤b∧¬Zq b∧b<H.size∧b≠wb∧(TA0 b o∨n≤b))∧CapB sv
def DrE (tr:Nat) (P:Ps) (ex:Bool) (stop:(Int×Int)→Bool) (A R0:List (Int×Int)) (n wb:Nat) (TA0:Nat→Nat→Prop) (r:Value) (H:Mem):Prop:=
 ∃(R:List (Int×Int)) (Ts:List QT) (Zq:Nat→Prop) (q:List ((Int×Int)×Option Nat)) (fn:Value) (cnt:Nat) (sv:Value),DrX tr P ex stop A R0 n wb TA0 r R Ts Zq q fn cnt sv H
theorem DrQ.out {Hs:Mem} {TA0:Nat→Nat→Prop} {tr dl:Nat} {hi:Int×Int} {mi ex:Bool} {P:Ps} {A R0:List (Int×Int)} {r:Value} {H:Mem} (h:DrQ (dcR Hs TA0 tr dl hi mi ex P) A R0 r H):DrE tr P ex (stopF hi mi) A R0 Hs.size dl TA0 r H∧Fr (dcR Hs TA0 tr dl hi mi ex P).R0 Hs H∧Wr H dl 0 4∧Hs.size≤H.size:=by
 obtain ⟨R,pv,sv0,st,Z16,Zq,Ts,dri,hst,drt,vs,rfl,hvl,hvr⟩:=h
 obtain ⟨TA,B⟩:=drt.b
 obtain ⟨q,fn,cnt,hL,h1,h2,hon⟩:=(show LiS dl ex H Zq Ts from B.lst)
 obtain ⟨sv,hc3,hA⟩:=hL.st
 have hv:vs=[fn,.int .i64 (cnt:Int),.int .i64 ((0:Nat):Int),sv]:=by
  match vs,hvl,hvr with
  | [a,b,c,d],_,hr=>
   have e0:=(hr 0 a rfl).symm.trans hL.c0
   have e1:=(hr 1 b rfl).symm.trans hL.c1
   have e2:=(hr 2 c rfl).symm.trans hL.c2
   have e3:=(hr 3 d rfl).symm.trans hc3
   cases e0;cases e1;cases e2;cases e3;rfl
 subst hv
 refine ⟨⟨R,Ts,Zq,q,fn,cnt,sv,rfl,dri,hst,?_,hA,fun b hb=>⟨by have h9:Hs.size+7≤b:=(B.zq b hb).1;omega,(B.zq b hb).2,fun e=>hL.nz (e▸hb)⟩,h1,h2,hon,B.pcs,fun p hp b o hb=>?_,hL.cb _ hc3⟩,B.fr0,hL.wr,by have h9:Hs.size+7≤H.size:=B.sz;omega⟩
 ·
  rcases drt with ⟨e,hz,_⟩|⟨h0,t0,hT,hB,_⟩
  · exact .inl ⟨e,hz⟩
  · exact .inr ⟨h0,t0,hT,fun b o hb=>⟨fun hq=>(hB.dj b o (.inl hb)).2.1 (.inr (.inr hq)),fun e=>(hB.dj b o (.inl hb)).2.1 (.inl (.inr e)),(hB.dj b o (.inl hb)).2.2.2⟩⟩
 ·
  obtain ⟨h3,h4,h5,h6⟩:=B.dj b o (.inr ⟨p,hp,hb⟩)
  exact ⟨h3,fun hq=>h4 (.inr (.inr hq)),h5,fun e=>h4 (.inl (.inr e)),h6⟩
theorem DrX.fr {tr:Nat} {P:Ps} {ex:Bool} {stop:(Int×Int)→Bool} {A R0:List (Int×Int)} {n wb:Nat} {TA0:Nat→Nat→Prop} {r:Value} {R:List (Int×Int)} {Ts:List QT} {Zq:Nat→Prop} {q:List ((Int×Int)×Option Nat)} {fn:Value} {cnt:Nat} {sv:Value} {H H':Mem} {Z:Nat→Nat→Prop} (h:DrX tr P ex stop A R0 n wb TA0 r R Ts Zq q fn cnt sv H) (hwb:¬(wb<cx.base∧cx.own wb)) (hf:Fr Z H H') (hz:∀b o,Z b o→b=wb∨(b<n∧¬TA0 b o∧¬(b<cx.base∧cx.own b))):DrX tr P ex stop A R0 n wb TA0 r R Ts Zq q fn cnt sv H':=by
 obtain ⟨e,dri,hst,ht,hA,hq,h1,h2,hon,hp,ha,hcb⟩:=h
 have hb:∀b o,b<cx.base∧cx.own b→¬Z b o:=fun b o hb hh=>(hz b o hh).elim (fun e=>hwb (e▸hb)) (fun h=>h.2.2 hb)
 refine ⟨e,dri,hst,?_,hA.fr hf (fun b o _ hb hh=>(hz b o hh).elim (hq b hb).2.2 (fun h=>by have:=(hq b hb).1;omega)),fun b hb=>⟨(hq b hb).1,Nat.lt_of_lt_of_le (hq b hb).2.1 hf.size,(hq b hb).2.2⟩,h1,h2,hon,
  fun p hp'=>(hp p hp').fr hf fun b o hb hh=>(hz b o hh).elim (ha p hp' b o hb).2.2.2.1 (fun h=>(ha p hp' b o hb).2.2.2.2.elim h.2.1 (fun h3=>by omega)),fun p hp' b o hb=>?_,hcb⟩
 ·
  rcases ht with ⟨e,hz0⟩|⟨h0,t0,hT,hc⟩
  · exact .inl ⟨e,⟨hz0.tc.fr hf fun b o h _=>hb b o h,hf.keep hz0.cnt (hb _ _ ⟨hz0.tc.tb,hz0.tc.tw⟩),hf.keep hz0.c (hb _ _ ⟨hz0.tc.tb,hz0.tc.tw⟩)⟩⟩
  · exact .inr ⟨h0,t0,hT.fr hf ⟨hb,fun b o h hh=>(hz b o hh).elim (hc b o h).2.1 (fun h4=>(hc b o h).2.2.elim h4.2.1 (fun h3=>by omega))⟩,hc⟩
 ·
  obtain ⟨h3,h4,h5,h6⟩:=ha p hp' b o hb
  exact ⟨h3,h4,Nat.lt_of_lt_of_le h5 hf.size,h6⟩
theorem DrE.fr {tr:Nat} {P:Ps} {ex:Bool} {stop:(Int×Int)→Bool} {A R0:List (Int×Int)} {n wb:Nat} {TA0:Nat→Nat→Prop} {r:Value} {H H':Mem} {Z:Nat→Nat→Prop} (h:DrE tr P ex stop A R0 n wb TA0 r H) (hwb:¬(wb<cx.base∧cx.own wb)) (hf:Fr Z H H') (hz:∀b o,Z b o→b=wb∨(b<n∧¬TA0 b o∧¬(b<cx.base∧cx.own b))):DrE tr P ex stop A R0 n wb TA0 r H':=by
 obtain ⟨R,Ts,Zq,q,fn,cnt,sv,h⟩:=h
 exact ⟨R,Ts,Zq,q,fn,cnt,sv,h.fr hwb hf hz⟩
theorem dr_spec {B:World} {H:Mem} {tr:Nat} {P:Ps} (hP:PsOk P) {A R0:List (Int×Int)} {low hi:Int×Int} {ov:Value} {ex mi:Bool} {TA0:Nat→Nat→Prop} (hs:Pl.Srt OI (A++R0)) (hpv:Pv OI A R0 low) (hlen:(A++R0).length<2147483648)
  (hT:(A++R0=[]∧RtZ H tr P∧∀b o,¬TA0 b o)∨∃h0,∃t0:Gt EJ h0,RtT H tr P (A++R0) h0 t0∧TA0=Gt.af h0 t0)
  (hov:(ov=.pointer none∧ex=true∧mi=false)∨∃ob,ov=.pointer (some ⟨ob,0,none⟩)∧cl H ob 0=some (.bool (!ex))∧cl H ob 1=some (.bool mi)):
  Fn Try.prog B 28 [.pointer (some ⟨tr,0,none⟩),.agg (EJ.enc low).toArray,.agg (EJ.enc hi).toArray,ov] H (fun r H'=>(∃n0 wb,H.size≤n0∧H.size≤wb∧DrE tr P ex (stopF hi mi) A R0 n0 wb TA0 r H')∧Fr (fun b o=>TA0 b o∨(b=tr∧(o=2∨o=3))) H H'):=by
 have hbs:cx.base≤H.size:=hT.elim (fun h=>h.2.1.tc.hb) (fun ⟨_,_,h⟩=>h.1.tc.hb)
 have hTl:∀b o,TA0 b o→b<H.size:=fun b o hb=>by
  rcases hT with ⟨_,_,h9⟩|⟨h0,t0,hR,rfl⟩
  · exact absurd hb (h9 b o)
  · exact hR.g.lt hb
 have hol:∀ob,ov=.pointer (some ⟨ob,0,none⟩)→ob<H.size:=fun ob e=>by
  rcases hov with ⟨e2,_⟩|⟨ob2,e2,h2,_⟩
  · rw [e] at e2;cases e2
  · rw [e] at e2;cases e2;exact cl_lt h2
 have hF:Fr nowhere H H:=Fr.refl _ _
 refine fn_of func28 rfl ntmps28 ?_
 refine (show Go' _ _ _ _ 14 [(0,_),(1,_),(2,_),(3,_)] [.code _] _ from ?_)
 refine Ut 1 rfl (Ur 3 42 rfl (O.box rfl rfl rfl rfl ?_))
 intro H1 M1
 refine ⟨trivial,?_⟩
 have hs1:=M1.size
 replace hF:=hF.trans (M1.fr nowhere)
 have m5:Rd H1 H.size 0 (EJ.enc low):=M1.rd _ [] (by simp [Value.cells])
 refine O.box rfl rfl rfl rfl ?_
 intro H2 M2
 refine ⟨trivial,?_⟩
 have hs2:=M2.size
 replace hF:=hF.trans (M2.fr nowhere)
 replace m5:=(M2.fr nowhere).rd m5 (fun _ _=>nw)
 have m6:Rd H2 H1.size 0 (EJ.enc hi):=M2.rd _ [] (by simp [Value.cells])
 refine O.alloc rfl rfl rfl zeroValue61 ?_
 intro H3 M3
 refine ⟨trivial,?_⟩
 have hs3:=M3.size
 replace hF:=hF.trans (M3.fr nowhere)
 replace m5:=(M3.fr nowhere).rd m5 (fun _ _=>nw)
 replace m6:=(M3.fr nowhere).rd m6 (fun _ _=>nw)
 have d0:cl H3 H2.size 0=some .nilFunc:=(M3.cl 0).trans rfl
 have d3:cl H3 H2.size 3=some (.slice none 0 0):=(M3.cl 3).trans rfl
 have dw:Wr H3 H2.size 0 4:=M3.wr 4 (by decide)
 refine Uf 0 [0,3,5,6,8] rfl (Ut 1 rfl ?_)
 have hT3:(A++R0=[]∧RtZ H3 tr P∧∀b o,¬TA0 b o)∨∃h0,∃t0:Gt EJ h0,RtT H3 tr P (A++R0) h0 t0∧TA0=Gt.af h0 t0:=hT.imp (fun ⟨h1,h2,h3⟩=>⟨h1,⟨h2.tc.fr hF (fun _ _ _ _=>nw),hF.keep h2.cnt nw,hF.keep h2.c nw⟩,h3⟩) (fun ⟨h0,t0,h1,h2⟩=>⟨h0,t0,h1.fr hF ⟨fun _ _ _ h=>h,fun _ _ _ h=>h⟩,h2⟩)
 have hov3:(ov=.pointer none∧ex=true∧mi=false)∨∃ob,ov=.pointer (some ⟨ob,0,none⟩)∧cl H3 ob 0=some (.bool (!ex))∧cl H3 ob 1=some (.bool mi):=hov.imp id (fun ⟨ob,h1,h2,h3⟩=>⟨ob,h1,hF.keep h2 nw,hF.keep h3 nw⟩)
 have hsp:=drr_spec (B:=B) (hi:=hi) hP hs hpv hlen hT3 hov3 (dl:=H2.size) (fun ob e he=>by have:=hol ob e;omega) (by omega) (fun b o hb he=>by have:=hTl b o hb;omega) d0 d3 dw
 refine Ur 6 2580 rfl (Us 1 rfl m5 rfl (Us 0 rfl m6 rfl (Uq 1 rfl (O.call rfl rfl rfl call53 rfl hsp ?_))))
 rintro rv H4 hq
 obtain ⟨hde,hf4,hw4,hsz4⟩:=DrQ.out hq
 replace hde:DrE tr P ex (stopF hi mi) A R0 H3.size H2.size TA0 rv H4:=hde
 obtain ⟨R,Ts,Zq,q,fn,cnt,sv,e0,hrest⟩:=hde
 subst e0
 obtain ⟨sa,sm,sc,hsv⟩:=(hrest.2.2.2.1).form
 have hon:=hrest.2.2.2.2.2.2.2.1
 refine ⟨trivial,?_⟩
 refine O.st (vs:=[fn,.int .i64 (cnt:Int),.int .i64 ((0:Nat):Int),sv]) rfl rfl sizeOf61 rfl rfl rfl rfl (by subst hsv;simp [ones] at hon ⊢;exact ⟨hon,rfl,rfl,rfl⟩) hw4 ?_
 intro H5 W5
 have hs5:=W5.size
 refine ⟨trivial,?_⟩
 refine Uf 0 [8] rfl (Go'.ret (vs:=[_]) func28 results28 ⟨⟨_,_,rfl,fun _ _=>run_loadVar_agg (fun w=>⟨isAgg61 w,sizeOf61 w⟩) rfl W5.all⟩,trivial⟩ ?_)
 have hde:DrE tr P ex (stopF hi mi) A R0 H3.size H2.size TA0 (.agg #[fn,.int .i64 (cnt:Int),.int .i64 ((0:Nat):Int),sv]) H4:=⟨R,Ts,Zq,q,fn,cnt,sv,rfl,hrest⟩
 refine ⟨⟨H3.size,H2.size,by omega,by omega,hde.fr (fun h=>by have:=h.1;omega) W5.fr (fun b o h=>.inl h.1)⟩,?_⟩
 refine (hF.trans' hf4 (fun _ _ _ h=>h.elim) (fun b o hb h=>?_)).trans' W5.fr (fun _ _ _ h=>h) (fun b o hb h=>by have:=h.1;omega)
 rcases h with h|h|h
 · exact .inl h
 · exact .inr h
 ·
  have h9:b=H2.size:=h
  omega
end
end Go.Bt.FG
namespace Go.Bt.FG
open Go Go.Proofs Go.Proofs.Try
set_option maxRecDepth 20000
set_option maxHeartbeats 4000000
set_option linter.unusedSectionVars false
section
variable [Inhabited Cx]
theorem perm_map_cons {α β:Type} {f:α→β} {e:β} {rest:List β} {Ts:List α} (h:(e::rest).Perm (Ts.map f)):∃p Ts2,Ts.Perm (p::Ts2)∧f p=e∧rest.Perm (Ts2.map f):=by
 have hm:e∈Ts.map f:=h.subset List.mem_cons_self
 obtain ⟨p,hp,rfl⟩:=List.mem_map.1 hm
 obtain ⟨s,t,rfl⟩:=List.append_of_mem hp
 refine ⟨p,s++t,List.perm_middle,rfl,?_⟩
 rw [List.map_append,List.map_cons] at h
 have h2:=h.trans (List.perm_middle (l₁:=s.map f) (l₂:=t.map f))
 rw [List.map_append]
 exact (List.perm_cons _).1 h2
theorem takes_all {α:Type} {go:List α→Bool} (hgo:∀acc,go acc=true):∀(l acc:List α),takes go acc l=(acc++l,true)
 | [],acc=>by simp [takes]
 | x::l,acc=>by simp [takes,hgo,takes_all hgo l]
theorem flat_perm {α:Type} {P Q:List (Pc α)} (h:P.Perm Q):(flat P).length=(flat Q).length:=by
 unfold flat;exact ((h.map _).flatten).length_eq
theorem lscan_spec {B:World} {g:FuncId} {us cs:List Value} {go:List (Int×Int)→Bool} {M:Nat} (cb:Cb Try.prog B encIt g us cs go M) (hcall:∀(args:Array Value) (w:World),(callFunc g args).run Try.prog w=.ok (.enter g args) w) {P:Ps} (hP:PsOk P) (hgo:∀acc,go acc=true) {H:Mem} {tr ii mx mn dl cnt:Nat} {fn sv:Value} {Zq Z:Nat→Prop} {q:List ((Int×Int)×Option Nat)} {Ts:List QT} (tc:TrC H tr ii mx mn) (c0:cl H dl 0=some fn) (c1:cl H dl 1=some (.int .i64 (cnt:Int))) (c2:cl H dl 2=some (.int .i64 ((0:Nat):Int))) (cq:cl H dl 3=some sv) (hA:Acc EQ Zq H sv q) (hcb:CapB sv) (wr:Wr H dl 0 4)
  (hfn:q≠[]→fn=FUNV) (hpm:q.Perm (Ts.map QT.e)) (hhp:Hp.Heap OI qkey q) (hok:∀p∈Ts,QT.ok H P p) (haf:∀p∈Ts,∀b o,QT.af p b o→¬Zq b∧b≠dl∧¬Z b∧b<H.size) (hT:cb.T [] Z H) (hzq:∀b,Zq b→¬Z b∧b≠dl∧¬(b<cx.base∧cx.own b)) (hzd:¬Z dl) (hdl:¬(dl<cx.base∧cx.own dl)) (hzt:∀b,Z b→¬(b<cx.base∧cx.own b)) (hlen:(flat (Ts.map QT.pc)).length≤M) (hM:(flat (Ts.map QT.pc)).length<4294967296):
  Fn Try.prog B 54 [.pointer (some ⟨dl,0,none⟩),.func (.func g) us.toArray cs.toArray] H (fun _ H'=>∃(Ts':List QT) (Z':Nat→Prop),Ts'.Perm Ts∧InO OI (Ts'.map QT.pc)∧cb.T (flat (Ts'.map QT.pc)) Z' H'∧Fr (fun b _=>b=dl∨Zq b∨Z b) H H'∧(∀b,Z' b→Z b∨H.size≤b)∧cl H' dl 1=some (.int .i64 (cnt:Int))):=by
 have hdl0:=cl_lt c0
 have hbs:=tc.hb
 rcases hA with ⟨rfl,rfl⟩|⟨b,o,c,rfl,hz,hbl,hsl⟩
 ·
  refine fn_of func54 rfl ntmps54 ?_
  refine (show Go' _ _ _ _ 98 [(0,_),(1,_)] [.code _] _ from ?_)
  refine Ut 1 rfl (Ud 11 16448 (by kernel_rfl) (Ul 3 rfl cq (Ul 3 rfl cq (O.cap rfl rfl rfl rfl underlying59 rfl (O.slcNil rfl rfl rfl rfl underlying59 sizeOf133 rfl ⟨_,by rfl⟩ (Uf 1 [0,1,4] rfl (Ut 2 rfl (Ur 1 0 rfl (Uf 1 [0,1,4,5] rfl (Ut 1 rfl (Go'.loop ?_)))))))))))
  refine Ut 2 rfl (Ur 6 256 rfl (Ul 4 rfl c2 (Uc 0 rfl (lssF (by omega)) (Uf 0 [0,1,4,5,24] rfl (Go'.condF rfl (Ut 2 rfl (Go'.loop (Ut 2 rfl (Ur 8 10248 rfl (Uq 1 rfl (O.call rfl rfl rfl call79 rfl (pop_nil cq) ?_)))))))))))
  rintro _ H1 ⟨rfl,hf1⟩
  refine ⟨trivial,?_⟩
  refine Uq 3 rfl (O.alloc rfl rfl rfl zeroValue133 ?_)
  intro H2 M2
  refine ⟨trivial,?_⟩
  have hs2:=M2.size
  have w2:=M2.wr 3 (by decide)
  refine O.st (vs:=(EQ.enc ((0,0),none))) rfl rfl sizeOf133 rfl rfl rfl rfl rfl w2 ?_
  intro H3 W3
  refine ⟨trivial,?_⟩
  refine Uf 1 [0,1,7,8] rfl (Ut 2 rfl (Ur 2 0 rfl (Uf 2 [0,1,7,8,54] rfl (Go'.condT rfl (Go'.ret func54 results54 (vs:=[]) trivial ?_)))))
  have hTs:Ts=[]:=List.map_eq_nil_iff.1 (List.nil_perm.1 hpm)
  have hf3:Fr nowhere H H3:=(hf1.trans (M2.fr nowhere)).trans' W3.fr (fun _ _ _ h=>h) (fun b o hb h=>by have:=h.1;have:=hf1.size;omega)
  subst hTs
  exact ⟨[],Z,List.Perm.refl _,List.Pairwise.nil,cb.fr hT hf3 (fun _ _ _ h=>h),hf3.mono (fun _ _ _ h=>h.elim),fun b hb=>.inl hb,hf3.keep c1 nw⟩
 ·
  have hc63:=hcb.lt
  have hcap:=hsl.hle
  refine fn_of func54 rfl ntmps54 ?_
  refine (show Go' _ _ _ _ 98 [(0,_),(1,_)] [.code _] _ from ?_)
  refine Ut 1 rfl (Ud 11 16448 (by kernel_rfl) (Ul 3 rfl cq (Ul 3 rfl cq (O.cap rfl rfl rfl rfl underlying59 rfl (O.slc (jl:=0) (jh:=c) (jm:=c) rfl rfl rfl rfl underlying59 sizeOf133 rfl rfl ⟨_,by rfl⟩ rfl (by omega) (by omega) (by simp) (by simp) ?_)))))
  intro oc hoc
  refine Uf 1 [0,1,4] rfl (Ut 2 rfl (Ur 1 0 rfl (Uf 1 [0,1,4,5] rfl (Ut 1 rfl (Go'.loop (Ut 2 rfl (Ur 6 256 rfl (Ul 4 rfl c2 (Uc 0 rfl (lssF (by omega)) (Uf 0 [0,1,4,5,24] rfl (Go'.condF rfl ?_)))))))))))
  refine Ut 2 rfl (Go'.loop (Uk [0,1] rfl ?_))
  refine Go'.ind (σ:=List QT×List QT×List ((Int×Int)×Option Nat)×(Nat→Prop)) (fun s=>s.2.1.length) (fun s H'=>(s.1++s.2.1).Perm Ts∧InO OI (s.1.map QT.pc)∧(∀p∈s.1,∀p'∈s.2.1,OI.lt (QT.pc p').1 (QT.pc p).1=false)∧cb.T (flat (s.1.map QT.pc)) s.2.2.2 H'∧s.2.2.1.Perm (s.2.1.map QT.e)∧Hp.Heap OI qkey s.2.2.1∧s.1.length+s.2.2.1.length≤c∧(s.2.2.1≠[]→fn=FUNV)∧
    cl H' dl 0=some fn∧cl H' dl 1=some (.int .i64 (cnt:Int))∧cl H' dl 2=some (.int .i64 ((s.1.length:Nat):Int))∧cl H' dl 3=some (.slice (some ⟨b,o,none⟩) s.2.2.1.length c)∧Wr H' dl 0 4∧SlE EQ H' b o c s.2.2.1∧(∀p∈Ts,QT.ok H' P p)∧TrC H' tr ii mx mn∧Fr (fun b _=>b=dl∨Zq b∨Z b) H H'∧(∀b,s.2.2.2 b→Z b∨H.size≤b))
   (fun s=>[(0,.pointer (some ⟨dl,0,none⟩)),(1,.func (.func g) us.toArray cs.toArray)]) ([],Ts,q,Z) ⟨List.Perm.refl _,List.Pairwise.nil,fun _ h=>absurd h List.not_mem_nil,hT,hpm,hhp,by simp only [List.length_nil];omega,hfn,c0,c1,c2,cq,wr,hsl,hok,tc,Fr.refl _ _,fun b hb=>.inl hb⟩ rfl ?_
  clear hpm hhp c0 c1 c2 cq wr hsl hok tc hT hfn hcap
  rintro ⟨D,T2,q,Zc⟩ H1 ⟨hpt,hino,hle,hT,hpm,hhp,hkc,hfn,c0,c1,c2,cq,wr,hsl,hok,tc,hF,hZc⟩ ih
  simp only at hpt hino hle hT hpm hhp hkc hfn c2 cq hsl hZc ih
  have hsz:=hF.size
  have hql:q.length=T2.length:=by rw [hpm.length_eq,List.length_map]
  refine Ut 2 rfl ?_
  rcases q with _|⟨e,rest⟩
  ·
   refine Ur 8 10248 rfl (Uq 1 rfl (O.call rfl rfl rfl call79 rfl (pop_nil cq) ?_))
   rintro _ H2 ⟨rfl,hf2⟩
   refine ⟨trivial,?_⟩
   refine Uq 3 rfl (O.alloc rfl rfl rfl zeroValue133 ?_)
   intro H3 M3
   refine ⟨trivial,?_⟩
   have hs3:=M3.size
   have w3:=M3.wr 3 (by decide)
   refine O.st (vs:=(EQ.enc ((0,0),none))) rfl rfl sizeOf133 rfl rfl rfl rfl rfl w3 ?_
   intro H4 W4
   refine ⟨trivial,?_⟩
   refine Uf 1 [0,1,7,8] rfl (Ut 2 rfl (Ur 2 0 rfl (Uf 2 [0,1,7,8,54] rfl (Go'.condT rfl (Go'.ret func54 results54 (vs:=[]) trivial ?_)))))
   have hT2:T2=[]:=List.length_eq_zero_iff.1 (by simpa using hql.symm)
   have hf4:Fr nowhere H1 H4:=(hf2.trans (M3.fr nowhere)).trans' W4.fr (fun _ _ _ h=>h) (fun b o hb h=>by have:=h.1;have:=hf2.size;omega)
   subst hT2
   rw [List.append_nil] at hpt
   exact ⟨D,Zc,hpt,hino,cb.fr hT hf4 (fun _ _ _ h=>h),hF.trans' hf4 (fun _ _ _ h=>h) (fun _ _ _ h=>h.elim),hZc,hf4.keep c1 nw⟩
  ·
   have hq32:(e::rest).length<4294967296:=by
    have h1:=hpt.length_eq
    have h2:=flat_len_ge Ts
    rw [List.length_append] at h1
    omega
   obtain ⟨p,T3,hp3,hpe,hpr⟩:=perm_map_cons hpm
   obtain rfl:=hfn (by simp)
   have hpk:(QT.pc p).1=qkey e:=by rw [←hpe];rfl
   have hmin:∀p'∈T3,OI.lt (QT.pc p').1 (QT.pc p).1=false:=fun p' hp'=>by
    have hm:QT.e p'∈(e::rest):=List.mem_cons_of_mem _ (hpr.symm.subset (List.mem_map.2 ⟨p',hp',rfl⟩))
    obtain ⟨j,hj⟩:=List.getElem?_of_mem hm
    have:=Hp.Heap.min OI qkey hhp rfl j _ hj
    rw [hpk];exact this
   have hpT:p∈Ts:=hpt.subset (List.mem_append_right _ (hp3.symm.subset List.mem_cons_self))
   have hafp:=haf p hpT
   have hkl:rest.length=T3.length:=by rw [hpr.length_eq,List.length_map]
   have hc1:D.length+1+rest.length≤c:=by simp only [List.length_cons] at hkc;omega
   have hpt2:((D++[p])++T3).Perm Ts:=by
    refine List.Perm.trans ?_ hpt
    rw [List.append_assoc]
    exact List.Perm.append_left D hp3.symm
   have hfl:(flat (D.map QT.pc)).length+(1+(QT.pc p).2.length)≤(flat (Ts.map QT.pc)).length:=by
    have h1:=flat_perm (hpt2.map QT.pc)
    rw [←h1,List.map_append,List.map_append,flat_app,flat_app]
    show _≤(flat (D.map QT.pc)++flat [QT.pc p]++_).length
    rw [flat_one,List.length_append,List.length_append]
    unfold Pc.l
    simp only [List.length_cons]
    omega
   have hKb:∀b':Nat,∀o':Nat,(b'=dl∨b'=b∨(∃p∈Ts,QT.af p b' o')∨(b'<cx.base∧cx.own b'))→¬Zc b'∧b'<H1.size:=fun b' o' h=>by
    rcases h with rfl|rfl|⟨r,hr,h⟩|h
    · exact ⟨fun hz=>(hZc _ hz).elim hzd (fun h=>by omega),by omega⟩
    · exact ⟨fun h2=>(hZc _ h2).elim (hzq _ hz).1 (fun h=>by omega),by omega⟩
    ·
     have h3:=haf r hr b' o' h
     exact ⟨fun h2=>(hZc _ h2).elim h3.2.2.1 (fun h=>by omega),by omega⟩
    · exact ⟨fun h2=>(hZc _ h2).elim (fun h3=>hzt _ h3 h) (fun h=>by omega),by omega⟩
   have hbd:b≠dl:=(hzq b hz).2.1
   have hbt:¬(b<cx.base∧cx.own b):=(hzq b hz).2.2
   refine Ur 8 10248 rfl (Uq 1 rfl (O.call rfl rfl rfl call79 rfl (pop_spec tc c0 c1 c2 cq wr hsl hbd hdl hbt hq32 rfl) ?_))
   rintro _ H2 ⟨rfl,q',hpq,hhq,c0,c1,c2,cq,wr,hsl,hF2⟩
   have hs2:=hF2.size
   replace hhq:=hhq hhp
   replace hok:=fun r hr=>(hok r hr).fr hF2 (fun b' o' hb' hh=>hh.elim (haf r hr b' o' hb').2.1 (fun e2=>(haf r hr b' o' hb').1 (e2▸hz)))
   replace tc:=tc.fr hF2 (fun b' o' hb' _ hh=>hh.elim (fun e2=>hdl (e2▸hb')) (fun e2=>hbt (e2▸hb')))
   replace hT:=cb.fr hT hF2 (fun b' o' hb' hh=>hh.elim (fun e2=>(hKb dl 0 (.inl rfl)).1 (e2▸hb')) (fun e2=>(hKb b 0 (.inr (.inl rfl))).1 (e2▸hb')))
   replace hF:=hF.trans' hF2 (fun _ _ _ h=>h) (fun b' o' _ hh=>hh.elim .inl (fun e2=>.inr (.inl (e2▸hz))))
   have hql2:q'.length=rest.length:=hpq.length_eq
   refine ⟨trivial,?_⟩
   refine Uq 3 rfl (O.alloc rfl rfl rfl zeroValue133 ?_)
   intro H3 M3
   refine ⟨trivial,?_⟩
   have hs3:=M3.size
   have w3:=M3.wr 3 (by decide)
   refine O.st (vs:=(EQ.enc e)) rfl rfl sizeOf133 rfl rfl rfl rfl (EQ_ones e) w3 ?_
   intro H4 W4
   have hs4:=W4.size
   have hF4:Fr (fun b' _=>b'=H2.size) H2 H4:=(M3.fr (fun b' _=>b'=H2.size)).trans' W4.fr (fun _ _ _ h=>h) (fun b' o' _ hh=>hh.1)
   have me:Rd H4 H2.size 0 (EQ.enc e):=W4.all
   have hK4:∀b' o',(b'=dl∨b'=b∨(∃p∈Ts,QT.af p b' o')∨(b'<cx.base∧cx.own b'))→¬(fun b' (_:Nat)=>b'=H2.size) b' o':=fun b' o' h hh=>by have h9:b'=H2.size:=hh;have:=(hKb b' o' h).2;omega
   replace c0:=hF4.keep c0 (hK4 _ 0 (.inl rfl))
   replace c1:=hF4.keep c1 (hK4 _ 1 (.inl rfl))
   replace c2:=hF4.keep c2 (hK4 _ 2 (.inl rfl))
   replace cq:=hF4.keep cq (hK4 _ 3 (.inl rfl))
   replace wr:=hF4.wr wr
   replace hsl:=hsl.fr hF4 (fun i _ _=>hK4 b 0 (.inr (.inl rfl)))
   replace hok:=fun p hp=>(hok p hp).fr hF4 (fun b o hb=>hK4 b o (.inr (.inr (.inl ⟨p,hp,hb⟩))))
   replace tc:=tc.fr hF4 (fun b o hb _=>hK4 b o (.inr (.inr (.inr hb))))
   have hTl:=fun b' hb'=>cb.lt (b:=b') hT hb'
   replace hT:=cb.fr hT hF4 (fun b' o' hb' hh=>by have h9:b'=H2.size:=hh;have:=hTl b' hb';omega)
   replace hF:=hF.trans' hF4 (fun _ _ _ h=>h) (fun b' o' _ hh=>by have h9:b'=H2.size:=hh;omega)
   refine ⟨trivial,?_⟩
   refine Uf 1 [0,1,7,8] rfl (Ut 2 rfl (Ur 2 0 rfl (Uf 2 [0,1,7,8,54] rfl (Go'.condF rfl (Ut 2 rfl (Ud 24 215573065646144 (by kernel_rfl) (Ul 3 rfl cq (Ul 3 rfl cq (O.cap rfl rfl rfl rfl underlying59 rfl (O.slc (jl:=0) (jh:=c) (jm:=c) rfl rfl rfl rfl underlying59 sizeOf133 rfl rfl ⟨_,by rfl⟩ rfl (by omega) (by omega) (by simp) (by simp) ?_))))))))))
   intro oc hoc
   have hoc2:o=oc:=by rw [hoc (by omega)];simp
   subst hoc2
   refine Ul 3 rfl cq (O.cap rfl rfl rfl rfl underlying59 rfl (Ul 3 rfl c2 (Ub 0 (((c-D.length:Nat):Int)) rfl (by omega) (Ub 0 (((c-D.length-1:Nat):Int)) rfl (by omega) (Us 0 rfl me rfl (Ux 0 (c-D.length-1) rfl (by omega) (by omega) (O.st3 (vs:=(EQ.enc e)) rfl rfl sizeOf133 rfl rfl rfl rfl (EQ_ones e) (SlE.wra hsl (i:=c-D.length-1) (by omega)) ?_)))))))
   intro H5 W5
   have hs5:=W5.size
   have hF5:Fr (fun b' _=>b'=b) H4 H5:=W5.fr.mono fun b' o' _ hh=>hh.1
   have hsl5:=SlE.past hsl W5 (by omega)
   have hK5:∀b' o',(b'=dl∨(∃p∈Ts,QT.af p b' o')∨(b'<cx.base∧cx.own b'))→¬(fun b' (_:Nat)=>b'=b) b' o':=fun b' o' h hh=>by
    have h9:b'=b:=hh
    subst h9
    rcases h with h|⟨r,hr,h⟩|h
    · exact hbd h
    · exact (haf r hr _ o' h).1 hz
    · exact hbt h
   replace me:=hF5.rd me (fun _ _ hh=>by have h9:H2.size=b:=hh;omega)
   replace c0:=hF5.keep c0 (hK5 _ 0 (.inl rfl))
   replace c1:=hF5.keep c1 (hK5 _ 1 (.inl rfl))
   replace c2:=hF5.keep c2 (hK5 _ 2 (.inl rfl))
   replace cq:=hF5.keep cq (hK5 _ 3 (.inl rfl))
   replace wr:=hF5.wr wr
   replace hok:=fun r hr=>(hok r hr).fr hF5 (fun b' o' hb'=>hK5 b' o' (.inr (.inl ⟨r,hr,hb'⟩)))
   replace tc:=tc.fr hF5 (fun b' o' hb' _=>hK5 b' o' (.inr (.inr hb')))
   replace hT:=cb.fr hT hF5 (fun b' o' hb' hh=>(hKb b 0 (.inr (.inl rfl))).1 ((show b'=b from hh)▸hb'))
   replace hF:=hF.trans' hF5 (fun _ _ _ h=>h) (fun b' o' _ hh=>.inr (.inl ((show b'=b from hh)▸hz)))
   replace hsl:=hsl5
   refine Uf 0 [0,1,7,8,54] rfl (Ut 1 rfl (Ur 8 32832 rfl (Ul 3 rfl c2 (Ua 0 (((D.length+1:Nat):Int)) rfl (by omega) (Uq 2 rfl (O.st rfl rfl sizeOf3 rfl rfl rfl rfl rfl (wr.at0 2 1 (by decide)) ?_))))))
   intro H6 W6
   have hs6:=W6.size
   have hF6:Fr (fun b' _=>b'=dl) H5 H6:=W6.fr.mono fun b' o' _ hh=>hh.1
   have hK6:∀b' o',(b'=b∨(∃p∈Ts,QT.af p b' o')∨(b'<cx.base∧cx.own b'))→¬(fun b' (_:Nat)=>b'=dl) b' o':=fun b' o' h hh=>by
    have h9:b'=dl:=hh
    subst h9
    rcases h with h|⟨r,hr,h⟩|h
    · exact hbd h.symm
    · exact (haf r hr _ o' h).2.1 rfl
    · exact hdl h
   replace me:=hF6.rd me (fun _ _ hh=>by have h9:H2.size=dl:=hh;omega)
   replace c0:=W6.keep1 c0 (.inr (by decide))
   replace c1:=W6.keep1 c1 (.inr (by decide))
   replace c2:=W6.at
   replace cq:=W6.keep1 cq (.inr (by decide))
   replace wr:=hF6.wr wr
   replace hsl:=hsl.fr hF6 (fun i _ _=>hK6 b 0 (.inl rfl))
   replace hok:=fun r hr=>(hok r hr).fr hF6 (fun b' o' hb'=>hK6 b' o' (.inr (.inl ⟨r,hr,hb'⟩)))
   replace tc:=tc.fr hF6 (fun b' o' hb' _=>hK6 b' o' (.inr (.inr hb')))
   replace hT:=cb.fr hT hF6 (fun b' o' hb' hh=>(hKb dl 0 (.inl rfl)).1 ((show b'=dl from hh)▸hb'))
   replace hF:=hF.trans' hF6 (fun _ _ _ h=>h) (fun b' o' _ hh=>.inl hh)
   have mk:Rd H6 H2.size 0 (EJ.enc e.1):=fun j v hv=>me j v (by match j,hv with|0,hv=>exact hv|1,hv=>exact hv)
   have hs26:H2.size<H6.size:=by omega
   have hZc6:=fun b' hb'=>cb.lt (b:=b') hT hb'
   refine ⟨trivial,?_⟩
   refine Uf 0 [0,1,7,8,54] rfl (Ut 2 rfl ?_)
   have hmeo:¬Zc H2.size:=fun hz2=>by have:=(hTl H2.size hz2);omega
   refine Ur 5 144 rfl (Us 2 rfl mk rfl (O.callC rfl rfl rfl rfl hcall rfl (cb.call e.1 hT (by omega)) ?_))
   rintro _ H7 ⟨rfl,Z7,hT7,hF7,hZ7⟩
   rw [hgo]
   have hs7:=hF7.size
   have hK7:∀b' o',(b'=dl∨b'=b∨(∃p∈Ts,QT.af p b' o')∨(b'<cx.base∧cx.own b'))→¬(fun b' (_:Nat)=>Zc b') b' o':=fun b' o' h hh=>(hKb b' o' h).1 hh
   replace c0:=hF7.keep c0 (hK7 _ 0 (.inl rfl))
   replace c1:=hF7.keep c1 (hK7 _ 1 (.inl rfl))
   replace c2:=hF7.keep c2 (hK7 _ 2 (.inl rfl))
   replace cq:=hF7.keep cq (hK7 _ 3 (.inl rfl))
   replace wr:=hF7.wr wr
   replace hsl:=hsl.fr hF7 (fun i _ _=>hK7 b 0 (.inr (.inl rfl)))
   replace hok:=fun p hp=>(hok p hp).fr hF7 (fun b o hb=>hK7 b o (.inr (.inr (.inl ⟨p,hp,hb⟩))))
   replace tc:=tc.fr hF7 (fun b o hb _=>hK7 b o (.inr (.inr (.inr hb))))
   have hn7:cl H7 H2.size 2=some (match e.2 with|some p=>ptr p|none=>.pointer none):=hF7.keep (me 2 _ rfl) hmeo
   replace hF:=hF.trans' hF7 (fun _ _ _ h=>h) (fun b' o' hb' hh=>(hZc b' hh).elim (fun h=>.inr (.inr h)) (fun h=>by omega))
   refine ⟨trivial,?_⟩
   refine Uf 1 [0,1,7,8,54,89] rfl (Go'.condF rfl (Ut 2 rfl ?_))
   have hK7b:∀b':Nat,∀o':Nat,(b'=dl∨b'=b∨(∃p∈Ts,QT.af p b' o')∨(b'<cx.base∧cx.own b'))→¬Z7 b':=fun b' o' h hh=>(hZ7 b' hh).elim (hKb b' o' h).1 (fun h2=>by have:=(hKb b' o' h).2;omega)
   have hZ7H:∀b',Z7 b'→Z b'∨H.size≤b':=fun b' hb'=>(hZ7 b' hb').elim (hZc b') (fun h=>.inr (by omega))
   have hinoD:InO OI ((D++[p]).map QT.pc):=by
    rw [List.map_append]
    refine List.pairwise_append.2 ⟨hino,List.pairwise_singleton _ _,fun a ha z hz9=>?_⟩
    obtain ⟨d9,hd9,rfl⟩:=List.mem_map.1 ha
    rw [List.map_cons,List.map_nil,List.mem_singleton] at hz9
    subst hz9
    exact hle d9 hd9 p (hp3.symm.subset List.mem_cons_self)
   have hle2:∀r∈D++[p],∀r'∈T3,OI.lt (QT.pc r').1 (QT.pc r).1=false:=fun r hr r' hr'=>by
    rcases List.mem_append.1 hr with hr|hr
    · exact hle r hr r' (hp3.symm.subset (List.mem_cons_of_mem _ hr'))
    · rw [List.mem_singleton] at hr;subst hr;exact hmin r' hr'
   have hfD:flat ((D++[p]).map QT.pc)=flat (D.map QT.pc)++(QT.pc p).1::(QT.pc p).2:=by
    rw [List.map_append,flat_app]
    show flat (D.map QT.pc)++flat [QT.pc p]=_
    rw [flat_one];rfl
   have hlD:(D++[p]).length=D.length+1:=by simp
   have hlq:q'.length=rest.length:=hpq.length_eq
   have hT3:T3.length<T2.length:=by have:=hp3.length_eq;simp only [List.length_cons] at this;omega
   have hcc:D.length+1+q'.length≤c:=by omega
   have hpe1:e.1=(QT.pc p).1:=hpk.symm
   obtain ⟨x,_|⟨hh,t⟩⟩:=p
   ·
    rw [←hpe] at hn7
    rw [hpe1] at hT7
    have hn7b:cl H7 H2.size 2=some (.pointer none):=hn7
    refine Ur 3 4 rfl (Ul 1 rfl hn7b (O.notNil rfl rfl rfl rfl underlying107 rfl rfl (Uf 0 [0,1,7,8,54,89,92] rfl (Go'.condF rfl (Ut 2 rfl (Uk [0,1] rfl (Go'.inLoop ?_)))))))
    have hTf:cb.T (flat ((D++[((x,none):QT)]).map QT.pc)) Z7 H7:=by
     rw [hfD]
     exact hT7
    exact ih (D++[((x,none):QT)],T3,q',Z7) H7 ⟨hpt2,hinoD,hle2,hTf,hpq.trans hpr,hhq,by simp only [hlD];exact hcc,fun _=>rfl,c0,c1,by simp only [hlD];exact c2,cq,wr,hsl,hok,tc,hF,hZ7H⟩ hT3
   ·
    rw [←hpe] at hn7
    rw [hpe1] at hT7
    have hn7b:cl H7 H2.size 2=some (.pointer (some ⟨Gt.p hh t,0,none⟩)):=hn7
    have hgt:Gt.Good H7 P hh t:=hok _ hpT
    refine Ur 3 4 rfl (Ul 1 rfl hn7b (O.notNil rfl rfl rfl rfl underlying107 rfl rfl (Uf 0 [0,1,7,8,54,89,92] rfl (Go'.condT rfl (Ut 1 rfl (Ur 5 132 rfl (Ul 1 rfl hn7b (Uq 1 rfl (O.call rfl rfl rfl call78 rfl (enscan cb hcall hP hh (t:=t) ⟨hgt,fun b' o' hb'=>hK7b b' o' (.inr (.inr (.inl ⟨_,hpT,hb'⟩))),hT7,by rw [List.length_append];simp only [List.length_cons,List.length_nil];exact Nat.le_trans (by simpa [QT.pc,Nat.add_assoc] using hfl) hlen⟩) ?_)))))))))
    rintro _ H8 ⟨rfl,Z8,hT8,hF8,hZ8⟩
    rw [takes_all hgo] at hT8 ⊢
    have hs8:=hF8.size
    have hK8:∀b' o',(b'=dl∨b'=b∨(∃p∈Ts,QT.af p b' o')∨(b'<cx.base∧cx.own b'))→¬(fun b' (_:Nat)=>Z7 b') b' o':=fun b' o' h hh=>hK7b b' o' h hh
    replace c0:=hF8.keep c0 (hK8 _ 0 (.inl rfl))
    replace c1:=hF8.keep c1 (hK8 _ 1 (.inl rfl))
    replace c2:=hF8.keep c2 (hK8 _ 2 (.inl rfl))
    replace cq:=hF8.keep cq (hK8 _ 3 (.inl rfl))
    replace wr:=hF8.wr wr
    replace hsl:=hsl.fr hF8 (fun i _ _=>hK8 b 0 (.inr (.inl rfl)))
    replace hok:=fun p hp=>(hok p hp).fr hF8 (fun b o hb=>hK8 b o (.inr (.inr (.inl ⟨p,hp,hb⟩))))
    replace tc:=tc.fr hF8 (fun b o hb _=>hK8 b o (.inr (.inr (.inr hb))))
    replace hF:=hF.trans' hF8 (fun _ _ _ h=>h) (fun b' o' hb' hh=>(hZ7H b' hh).elim (fun h=>.inr (.inr h)) (fun h=>by omega))
    refine ⟨trivial,?_⟩
    refine Uf 1 [0,1,7,8,54,89,92,97] rfl (Go'.condF rfl (Ut 2 rfl (Uk [0,1] rfl (Go'.inLoop ?_))))
    have hTf:cb.T (flat ((D++[((x,some ⟨hh,t⟩):QT)]).map QT.pc)) Z8 H8:=by
     rw [hfD]
     rw [List.append_assoc] at hT8;exact hT8
    exact ih (D++[((x,some ⟨hh,t⟩):QT)],T3,q',Z8) H8 ⟨hpt2,hinoD,hle2,hTf,hpq.trans hpr,hhq,by simp only [hlD];exact hcc,fun _=>rfl,c0,c1,by simp only [hlD];exact c2,cq,wr,hsl,hok,tc,hF,fun b' hb'=>(hZ8 b' hb').elim (hZ7H b') (fun h=>.inr (by omega))⟩ hT3
end
end Go.Bt.FG
namespace Go.Bt.FG
open Go Go.Proofs Go.Proofs.Try
set_option maxRecDepth 20000
set_option maxHeartbeats 4000000
set_option linter.unusedSectionVars false
end Go.Bt.FG
namespace Go.Bt.FG
open Go Go.Proofs Go.Proofs.Try
set_option maxRecDepth 20000
set_option maxHeartbeats 4000000
set_option linter.unusedSectionVars false
section
variable [Inhabited Cx]
theorem scanned_spec {B:World} {P:Ps} (hP:PsOk P) {H:Mem} {tr ii mx mn dl cnt:Nat} {fn sv:Value} {Zq:Nat→Prop} {q:List ((Int×Int)×Option Nat)} {Ts:List QT} (tc:TrC H tr ii mx mn) (c0:cl H dl 0=some fn) (c1:cl H dl 1=some (.int .i64 (cnt:Int))) (c2:cl H dl 2=some (.int .i64 ((0:Nat):Int))) (cq:cl H dl 3=some sv) (hA:Acc EQ Zq H sv q) (hcb:CapB sv) (wr:Wr H dl 0 4)
  (hfn:q≠[]→fn=FUNV) (hpm:q.Perm (Ts.map QT.e)) (hhp:Hp.Heap OI qkey q) (hok:∀p∈Ts,QT.ok H P p) (haf:∀p∈Ts,∀b o,QT.af p b o→¬Zq b∧b≠dl∧b<H.size) (hzq:∀b,Zq b→b≠dl∧¬(b<cx.base∧cx.own b)∧b<H.size) (hdl:¬(dl<cx.base∧cx.own dl)) (hlen:(flat (Ts.map QT.pc)).length<4294967296):
  Fn Try.prog B 30 [.pointer (some ⟨dl,0,none⟩)] H (fun r H'=>∃(Ts':List QT),Ts'.Perm Ts∧InO OI (Ts'.map QT.pc)∧OutS EJ H' r (flat (Ts'.map QT.pc))∧Fr (fun b _=>b=dl∨Zq b) H H'∧cl H' dl 1=some (.int .i64 (cnt:Int))):=by
 have hdl0:=cl_lt c0
 have hbs:=tc.hb
 refine fn_of func30 rfl ntmps30 ?_
 refine (show Go' _ _ _ _ 8 [(0,_)] [.code _] _ from ?_)
 refine Ut 1 rfl (Ur 1 0 rfl (Uf 1 [0,2] rfl (Ut 1 rfl (Ur 1 2 rfl (O.alloc rfl rfl rfl zeroValue25 ?_)))))
 intro H1 M1
 refine ⟨trivial,?_⟩
 have hs1:=M1.size
 have hsF:=(M1.fr nowhere).size
 replace c0:=(M1.fr nowhere).keep c0 nw
 replace c1:=(M1.fr nowhere).keep c1 nw
 replace c2:=(M1.fr nowhere).keep c2 nw
 replace cq:=(M1.fr nowhere).keep cq nw
 replace wr:=(M1.fr nowhere).wr wr
 replace hA:=hA.fr (M1.fr nowhere) (fun _ _ _ _=>nw)
 replace hok:=fun p hp=>(hok p hp).fr (M1.fr nowhere) (fun _ _ _=>nw)
 replace tc:=tc.fr (M1.fr nowhere) (fun _ _ _ _=>nw)
 clear hsF
 have hD:cl H1 H.size 0=some (.slice none 0 0):=(M1.cl 0).trans rfl
 have hw:Wr H1 H.size 0 1:=M1.wr 1 (by decide)
 refine Uf 0 [0,2,3] rfl (Ut 1 rfl (Ur 3 40 rfl (Uq 1 rfl (O.call rfl rfl rfl call55 rfl (taker_spec (n:=0) hD hw) ?_))))
 rintro _ H2 ⟨b2,b3,rfl,hT,hF2⟩
 have hs2:=hF2.size
 have hsF:=hF2.size
 replace c0:=hF2.keep c0 nw
 replace c1:=hF2.keep c1 nw
 replace c2:=hF2.keep c2 nw
 replace cq:=hF2.keep cq nw
 replace wr:=hF2.wr wr
 replace hA:=hA.fr hF2 (fun _ _ _ _=>nw)
 replace hok:=fun p hp=>(hok p hp).fr hF2 (fun _ _ _=>nw)
 replace tc:=tc.fr hF2 (fun _ _ _ _=>nw)
 clear hsF
 refine ⟨trivial,?_⟩
 refine O.call rfl rfl rfl call54 rfl (lscan_spec (cbTk B b2 b3 H.size 0) call80 hP (fun _=>rfl) tc c0 c1 c2 cq hA hcb wr hfn hpm hhp hok (fun p hp b o hb=>by have h:=haf p hp b o hb;exact ⟨h.1,h.2.1,fun hz=>hz.elim (fun e=>by omega) (fun e=>by omega),by omega⟩) hT (fun b hb=>by have h:=hzq b hb;exact ⟨fun hz=>hz.elim (fun e=>by omega) (fun e=>by omega),h.1,h.2.1⟩) (fun hz=>hz.elim (fun e=>by omega) (fun e=>by omega)) hdl (fun b hz hh=>hz.elim (fun e=>by omega) (fun e=>by omega)) (by omega) hlen) ?_
 rintro _ H3 ⟨Ts',Z3,hp3,hino,hT3,hF3,hZ3,c13⟩
 obtain ⟨ov,hv,hov⟩:=TkT.out hT3
 refine ⟨trivial,?_⟩
 refine Uf 0 [2,3] rfl (Ut 1 rfl (Ur 2 1 rfl (Ul 0 rfl hv (Uf 1 [2] rfl (Go'.ret (vs:=[_]) func30 results30 ⟨rfl,trivial⟩ ?_)))))
 exact ⟨Ts',hp3,hino,hov,((M1.fr nowhere).trans hF2).trans' hF3 (fun _ _ _ h=>h.elim) (fun b o hb hz=>hz.elim .inl (fun hz=>hz.elim .inr (fun hz=>hz.elim (fun e=>by omega) (fun e=>by omega)))),c13⟩
theorem llen_spec {B:World} {H:Mem} {dl:Nat} {v:Value} (c1:cl H dl 1=some v):
  Fn Try.prog B 31 [.pointer (some ⟨dl,0,none⟩)] H (fun r H'=>r=v∧H'=H):=by
 refine fn_of func31 rfl ntmps31 ?_
 refine (show Go' _ _ _ _ 7 [(0,_)] [.code _] _ from ?_)
 refine Ut 1 rfl (Ur 1 0 rfl (Uf 1 [0,2] rfl (Ut 1 rfl (Ur 5 64 rfl (Ul 3 rfl c1 (Uf 1 [2] rfl (Go'.ret (vs:=[_]) func31 results31 ⟨rfl,trivial⟩ ?_)))))))
 exact ⟨rfl,rfl⟩
end
end Go.Bt.FG
namespace Go.Bt.FG
open Go Go.Proofs Go.Proofs.Try
set_option maxRecDepth 20000
set_option maxHeartbeats 4000000
set_option linter.unusedSectionVars false
namespace SI
def ESl:Elt (Option Addr×Nat×Nat):={ enc:=fun x=>[.slice x.1 x.2.1 x.2.2],s:=1,len:=fun _=>rfl,one:=fun _=>rfl,pos:=by decide }
def InSS {α:Type} (E:Elt α) (H:Mem):List (Option Addr×Nat×Nat)→List (List α)→Prop
 | [],[]=>True
 | u::us,l::ls=>InS E H (.slice u.1 u.2.1 u.2.2) l∧InSS E H us ls
 | _,_=>False
theorem InSS.fr {α:Type} {E:Elt α} {H H':Mem} (hf:Fr nowhere H H'):∀{us:List (Option Addr×Nat×Nat)} {ls:List (List α)},InSS E H us ls→InSS E H' us ls
 | [],[],_=>trivial
 | u::us,l::ls,h=>⟨h.1.fr hf,InSS.fr hf h.2⟩
 | [],_::_,h=>h.elim
 | _::_,[],h=>h.elim
theorem InSS.len {α:Type} {E:Elt α} {H:Mem}:∀{us:List (Option Addr×Nat×Nat)} {ls:List (List α)},InSS E H us ls→us.length=ls.length
 | [],[],_=>rfl
 | u::us,l::ls,h=>by rw [List.length_cons,List.length_cons,InSS.len h.2]
 | [],_::_,h=>h.elim
 | _::_,[],h=>h.elim
theorem InSS.at {α:Type} {E:Elt α} {H:Mem}:∀{us:List (Option Addr×Nat×Nat)} {ls:List (List α)} (_:InSS E H us ls) {i:Nat} {u:Option Addr×Nat×Nat},us[i]?=some u→∃l,ls[i]?=some l∧InS E H (.slice u.1 u.2.1 u.2.2) l
 | [],[],_,i,u,hu=>by simp at hu
 | u::us,l::ls,h,0,v,hv=>by
  simp only [List.getElem?_cons_zero,Option.some.injEq] at hv
  subst hv
  exact ⟨l,rfl,h.1⟩
 | u::us,l::ls,h,i+1,v,hv=>by
  simp only [List.getElem?_cons_succ] at hv ⊢
  exact InSS.at h.2 hv
 | [],_::_,h,_,_,_=>h.elim
 | _::_,[],h,_,_,_=>h.elim
theorem flat_take {α:Type} (ls:List (List α)) (j:Nat):(ls.take j).flatten.length≤ls.flatten.length:=by
 conv=>rhs;rw [←List.take_append_drop j ls,List.flatten_append,List.length_append]
 omega
theorem set_td {α:Type} {X:List α} {i:Nat} {x:α} (hi:i<X.length):X.take i++x::X.drop (i+1)=X.set i x:=(List.set_eq_take_append_cons_drop.trans (if_pos hi)).symm
theorem grow_spec {B:World} {H:Mem} {n:Nat} (hn:0<n) (hll:n≤4294967296):
  Fn Try.prog B 39 [.slice none 0 0,.int .i64 (n:Int)] H (fun r H'=>AccN EJ (fun b=>H.size≤b) H' r []∧Fr nowhere H H'):=by
 refine fn_of func39 rfl ntmps39 ?_
 refine (show Go' _ _ _ _ 27 [(0,_),(1,_)] [.code _] _ from ?_)
 refine Ut 1 rfl (Ur 1 0 rfl (Uf 1 [0,1,4] rfl (Ut 2 rfl (Ur 2 0 rfl (Uc 1 rfl (lssF (by omega)) (Uf 0 [0,1,4,6] rfl (Go'.condF rfl (Ut 3 rfl (Ur 8 0 rfl (Uq 2 rfl (O.cap rfl rfl rfl rfl underlying25 rfl ?_)))))))))))
 refine Ub 2 ((0:Int)) rfl (by omega) (Ub 0 ((n:Int)) rfl (by omega) (Uf 1 [0,1,4] rfl (Ut 1 rfl (Ur 2 0 rfl (Uc 1 rfl (gtrT (by omega)) (Uf 0 [0,1,4,16] rfl (Go'.condT rfl (Ur 10 2048 rfl (Uq 2 rfl (O.cap rfl rfl rfl rfl underlying25 rfl (O.slc0 rfl rfl rfl rfl underlying25 sizeOf27 rfl ⟨_,by rfl⟩ rfl ?_)))))))))))
 intro a0
 refine Uq 1 rfl (O.appZ (m:=n) rfl rfl rfl ⟨underlying25,sizeOf27,zeroValue27,⟨_,typeInfo27,rfl⟩,rfl,by decide,by decide⟩ underlying3 rfl rfl (Nat.le_trans (Nat.mul_le_mul_left _ (Nat.le_of_ble_eq_true (n:=_) (m:=4096) rfl)) (by omega)) (by omega) hn ?_)
 intro cap' H1 hc hW hF hs
 refine ⟨trivial,?_⟩
 refine Uq 2 rfl (O.slc (jl:=0) (jh:=0) (jm:=cap') rfl rfl rfl rfl underlying25 sizeOf27 rfl rfl ⟨_,by rfl⟩ rfl (by omega) (by omega) (by omega) (by simp) ?_)
 intro o2 ho2
 refine Uf 1 [0,4] rfl (Ut 1 rfl (Ur 2 0 rfl (Uf 2 [4] rfl (Go'.ret (vs:=[_]) func39 results39 ⟨rfl,trivial⟩ ?_))))
 refine ⟨⟨H.size,o2,cap'-0,rfl,Nat.le_refl _,by omega,?_⟩,hF⟩
 obtain rfl:o2=0:=by have:=ho2 (by omega);omega
 rw [Nat.sub_zero]
 exact ⟨rfl,Nat.zero_le _,Rd.nil _ _ _,hW⟩
theorem growA_spec {B:World} {H:Mem} {n:Nat} (hll:n≤4294967296):
  Fn Try.prog B 39 [.slice none 0 0,.int .i64 (n:Int)] H (fun r H'=>Acc EJ (fun b=>H.size≤b) H' r []∧Fr nowhere H H'):=by
 rcases Nat.eq_zero_or_pos n with rfl|hn
 rotate_left
 · exact (grow_spec hn hll).mono fun _ _ h=>⟨h.1.acc,h.2⟩
 refine fn_of func39 rfl ntmps39 ?_
 refine (show Go' _ _ _ _ 27 [(0,_),(1,_)] [.code _] _ from ?_)
 refine Ut 1 rfl (Ur 1 0 rfl (Uf 1 [0,1,4] rfl (Ut 2 rfl (Ur 2 0 rfl (Uc 1 rfl (lssF (by omega)) (Uf 0 [0,1,4,6] rfl (Go'.condF rfl (Ut 3 rfl (Ur 8 0 rfl (Uq 2 rfl (O.cap rfl rfl rfl rfl underlying25 rfl ?_)))))))))))
 refine Ub 2 ((0:Int)) rfl (by omega) (Ub 0 ((0:Int)) rfl (by omega) (Uf 1 [0,1,4] rfl (Ut 1 rfl (Ur 2 0 rfl (Uc 1 rfl (gtrF (by omega)) (Uf 0 [0,1,4,16] rfl (Go'.condF rfl (Ut 2 rfl (Ur 2 0 rfl (Uf 2 [4] rfl (Go'.ret (vs:=[_]) func39 results39 ⟨rfl,trivial⟩ ?_)))))))))))
 exact ⟨Acc.nil _ _ _,Fr.refl _ _⟩
theorem concatA_spec {B:World} {H:Mem} {v:Value} {us:List (Option Addr×Nat×Nat)} {ls:List (List (Int×Int))} (hi:InS ESl H v us) (hs:InSS EJ H us ls) (hll:ls.flatten.length≤4294967296) (hul:us.length≤4294967296):
  Fn Try.prog B 14 [v] H (fun r H'=>Acc EJ (fun b=>H.size≤b) H' r ls.flatten∧Fr nowhere H H'):=by
 obtain ⟨a,c,hu⟩:=hi.len
 subst hu
 have hlen:=hs.len
 have hi00:=hi
 have hs00:=hs
 refine fn_of func14 rfl ntmps14 ?_
 refine (show Go' _ _ _ _ 36 [(0,_)] [.code _] _ from ?_)
 refine Ut 1 rfl (Ur 1 0 rfl (Uf 1 [0,2] rfl (Ut 1 rfl (Ur 1 0 rfl (Uf 1 [0,2,3] rfl (Ut 2 rfl (Ur 3 0 rfl (Uf 3 [0,2,3,9,10,11] rfl (Ut 1 rfl (Go'.loop (Uk [0,3,9,10,11] rfl ?_)))))))))))
 refine Go'.ind (σ:=Nat) (fun j=>us.length-j) (fun j H'=>H'=H∧j≤us.length)
  (fun j=>[(0,.slice a us.length c),(3,.int .i64 ((ls.take j).flatten.length:Int)),(9,.slice a us.length c),(10,.int .i64 (us.length:Int)),(11,.int .i64 (j:Int))]) 0 ⟨rfl,Nat.zero_le _⟩ rfl ?_
 rintro j H2 ⟨hHH,hjl⟩ ih
 have eH:H=H2:=hHH.symm
 subst eH
 clear hHH
 refine Ut 1 rfl ?_
 by_cases hlt:j<us.length
 ·
  obtain ⟨u,hu⟩:∃u,us[j]?=some u:=⟨us[j],List.getElem?_eq_getElem hlt⟩
  obtain ⟨b,o,cc,e,hr⟩:=hi.at hu
  cases e
  obtain ⟨l,hl,hul2⟩:=hs.at hu
  obtain ⟨a',c',e⟩:=hul2.len
  have e2:u.2.1=l.length:=by injection e
  have hx:(ls.take (j+1)).flatten.length=(ls.take j).flatten.length+l.length:=by rw [List.take_add_one,hl,List.flatten_append,List.length_append];simp
  have hft:=flat_take ls (j+1)
  refine Ur 1 0 rfl (Uc 0 rfl (lssT (by omega)) (Uf 0 [0,3,9,10,11,12] rfl (Ut 1 rfl (Go'.condT rfl (Ut 4 rfl (Ur 3 4 rfl (Ux 0 j rfl (by omega) hlt (Ul 0 rfl (hr 0 _ rfl) (Uf 1 [0,3,5,9,10,11,12] rfl (Ut 1 rfl (Ur 5 0 rfl ?_)))))))))))
  refine Ua 3 (((ls.take (j+1)).flatten.length:Int)) rfl (by omega) (Uf 1 [0,3,5,9,10,11,12] rfl (Ut 1 rfl (Ur 2 0 rfl (Uc 1 rfl (lssF (by omega)) (Uf 0 [0,3,5,9,10,11,12,20] rfl (Go'.condF rfl (Ut 2 rfl (Ur 2 0 rfl (Ua 0 (((j+1:Nat):Int)) rfl (by omega) (Uf 1 [0,3,5,9,10,11,12,20] rfl (Uk [0,3,9,10,11] rfl ?_)))))))))))
  refine Go'.inLoop ?_
  exact ih (j+1) H ⟨rfl,hlt⟩ (by omega)
 ·
  have e0:j=us.length:=by omega
  have e1:ls.take j=ls:=by rw [e0,hlen,List.take_length]
  clear ih
  subst e0
  rw [e1]
  refine Ur 1 0 rfl (Uc 0 rfl (lssF (by omega)) (Uf 0 [0,3,9,10,11,12] rfl (Ut 1 rfl (Go'.condF rfl (Ut 2 rfl (Ur 3 8 rfl (Uq 1 rfl (O.call rfl rfl rfl call39 rfl (growA_spec hll) ?_))))))))
  rintro gv H1 ⟨hA0,hF1⟩
  refine ⟨trivial,?_⟩
  refine Uf 1 [0,6] rfl (Ut 2 rfl (Ur 3 0 rfl (Uf 3 [6,25,26,27] rfl (Ut 1 rfl (Go'.loop (Uk [6,25,26,27] rfl ?_))))))
  refine Go'.ind (σ:=Nat×Value×(Nat→Prop)) (fun s=>us.length-s.1) (fun s H'=>s.1≤us.length∧Acc EJ s.2.2 H' s.2.1 ((ls.take s.1).flatten)∧Fr nowhere H H'∧Fr (fun b _=>H.size≤b) H1 H'∧∀b,s.2.2 b→H.size≤b)
   (fun s=>[(6,s.2.1),(25,.slice a us.length c),(26,.int .i64 (us.length:Int)),(27,.int .i64 (s.1:Int))]) (0,gv,fun b=>H.size≤b) ⟨Nat.zero_le _,by rw [List.take_zero];exact hA0,hF1,Fr.refl _ _,fun b hb=>hb⟩ rfl ?_
  clear hA0
  rintro ⟨j,sv,Z1⟩ H2 ⟨hj,hA,hF,hFZ,hZ1⟩ ih
  simp only at hj hA hZ1
  have hsz:=hF.size
  refine Ut 1 rfl ?_
  by_cases hlt:j<us.length
  ·
   obtain ⟨u,hu⟩:∃u,us[j]?=some u:=⟨us[j],List.getElem?_eq_getElem hlt⟩
   have hi2:=hi00.fr hF
   obtain ⟨b,o,cc,e,hr⟩:=hi2.at hu
   cases e
   obtain ⟨l,hl,hul2⟩:=(hs00.fr hF).at hu
   have hx:(ls.take (j+1)).flatten=(ls.take j).flatten++l:=by rw [List.take_add_one,hl,List.flatten_append];simp
   have hft:=flat_take ls (j+1)
   rw [hx,List.length_append] at hft
   refine Ur 1 0 rfl (Uc 0 rfl (lssT (by omega)) (Uf 0 [6,25,26,27,28] rfl (Ut 1 rfl (Go'.condT rfl (Ut 4 rfl (Ur 3 4 rfl (Ux 0 j rfl (by omega) hlt (Ul 0 rfl (hr 0 _ rfl) (Uf 1 [6,8,25,26,27,28] rfl (Ur 4 32 rfl (Uq 2 rfl ?_)))))))))))
   refine O.appAI (E:=EJ) rfl rfl rfl ⟨underlying25,sizeOf27,zeroValue27,⟨_,typeInfo27,rfl⟩,rfl,by decide,by decide⟩ rfl hA rfl hul2 (Nat.le_trans (Nat.mul_le_mul_left _ (Nat.le_of_ble_eq_true (n:=_) (m:=4096) rfl)) (by omega)) (by omega) ?_
   intro v7 H7 hA7 hF7 hs7
   rw [←hx] at hA7
   refine ⟨trivial,?_⟩
   refine Uf 1 [6,8,25,26,27,28] rfl (Ut 1 rfl (Ur 2 0 rfl (Ua 0 (((j+1:Nat):Int)) rfl (by omega) (Uf 1 [6,8,25,26,27,28] rfl (Uk [6,25,26,27] rfl (Go'.inLoop ?_))))))
   exact ih (j+1,v7,_) H7 ⟨hlt,hA7,hF.trans' hF7 (fun _ _ _ h=>h) (fun b o hb hz=>by have:=hZ1 b hz;omega),hFZ.trans' hF7 (fun _ _ _ h=>h) (fun b o hb hz=>hZ1 b hz),fun b hb=>hb.elim (hZ1 b) (fun h=>by omega)⟩ (by simp only;omega)
  ·
   have e0':j=us.length:=by omega
   have e1':ls.take j=ls:=by rw [e0',hlen,List.take_length]
   rw [e1'] at hA
   refine Ur 1 0 rfl (Uc 0 rfl (lssF (by omega)) (Uf 0 [6,25,26,27,28] rfl (Ut 1 rfl (Go'.condF rfl (Ut 2 rfl (Ur 2 0 rfl (Uf 2 [2] rfl (Go'.ret (vs:=[_]) func14 results14 ⟨rfl,trivial⟩ ?_))))))))
   exact ⟨hA.mono fun b _ hz=>hZ1 b hz,hF⟩
end SI
theorem igitems_spec {B:World} {H:Mem} {d:Nat} {nl:Bool} {v u:Value} {ord:List Int} {l:List (Int×Int)} (hd:d=0∨2≤d∧d≤128) (ho:InS EN H v ord) (hol:ord.length≤4294967296) (hi:InS EJ H u l) (hll:l.length≤4294967296):
  Fn Try.prog B 26 [.agg #[v,.int .i64 (d:Int),.bool nl],u] H (fun r H'=>OutS EJ H' r (Pl.puts (OO ord) l)∧Fr nowhere H H'):=by
 obtain ⟨a,c,hu⟩:=hi.len
 subst hu
 obtain ⟨av,mv,cv,hv⟩:=InS.form ho
 subst hv
 have hF:Fr nowhere H H:=Fr.refl _ _
 have hP:=PD_ok hd
 refine fn_of func26 rfl ntmps26 ?_
 refine (show Go' _ _ _ _ 9 [(0,_),(1,_)] [.code _] _ from ?_)
 refine Ut 1 rfl (Ur 2 2 rfl (O.box rfl rfl rfl rfl ?_))
 intro B1 MB1
 refine ⟨trivial,?_⟩
 have hsB1:=MB1.size
 replace hF:=hF.trans (MB1.fr nowhere)
 have mm:Rd B1 H.size 0 [.slice av mv cv,.int .i64 (d:Int),.bool nl]:=MB1.rd _ [] (by simp [Value.cells])
 have mm0:cl B1 H.size 0=some (.slice av mv cv):=mm 0 _ rfl
 have mm1:cl B1 H.size (0+1)=some (.int .i64 (d:Int)):=mm 1 _ rfl
 refine Uf 1 [1,2,4] rfl (Ut 1 rfl (Ur 5 161 rfl (Us 0 rfl mm rfl (Uq 1 rfl (O.call rfl rfl rfl call27 rfl (grow_spec hd (ho.fr hF) hol (hi.fr hF) hll) ?_)))))
 rintro _ H3 ⟨I,hIo,hIw,hIb,tr,S,rfl,hM,hF3,hS⟩
 have hs3:=hF3.size
 replace hF:=hF.trans hF3
 replace mm:=hF3.rd mm (fun _ _=>nw)
 replace mm0:=hF3.keep mm0 nw
 replace mm1:=hF3.keep mm1 nw
 have hSb:∀b,S b∨(b<cx.base∧cx.own b)→B1.size≤b:=fun b hb=>hb.elim (hS b) (fun h=>hIw b h.2)
 have hOO:OO ord=OI:=by rw [←hIo];rfl
 have hpl:=Pl.puts_length OI l
 have hSlt:=hM.lt
 have hbs:=hM.tc.hb
 unfold ptr
 refine ⟨trivial,?_⟩
 refine O.call rfl rfl rfl call32 rfl (Items_spec hP hM (by omega)) ?_
 rintro v4 H4 ⟨h4,hF4⟩
 replace hF:=hF.trans hF4
 replace mm:=hF4.rd mm (fun _ _=>nw)
 replace mm0:=hF4.keep mm0 nw
 replace mm1:=hF4.keep mm1 nw
 refine ⟨trivial,?_⟩
 refine Uf 1 [4] rfl (Go'.ret (vs:=[_]) func26 results26 ⟨rfl,trivial⟩ ?_)
 rw [hOO];exact ⟨h4,hF⟩
theorem alive_spec {B:World} {H:Mem}:Fn Try.prog B 9 [] H (fun r H'=>r=.bool true∧Fr nowhere H H'):=by
 have hal:(Pl.puts (OO []) ((exl.drop 0).take (3-0))).length=3:=by decide
 refine fn_of func9 rfl ntmps9 ?_
 refine (show Go' _ _ _ _ 7 [] [.code _] _ from ?_)
 refine Ut 1 rfl (Ur 1 0 rfl (Uf 1 [0] rfl (Ut 1 rfl (Ur 7 138 rfl (O.call rfl rfl rfl call22 rfl exMake_spec ?_)))))
 rintro _ H1 ⟨rfl,hF1⟩
 refine ⟨trivial,?_⟩
 refine O.call rfl rfl rfl call23 rfl exItems_spec ?_
 rintro ev H2 ⟨hev,hF2⟩
 obtain ⟨ea,ec,hee⟩:=hev.len
 subst hee
 refine ⟨trivial,?_⟩
 refine O.slcIn (E:=EJ) (jh:=3) rfl rfl rfl rfl underlying25 sizeOf27 rfl hev ⟨_,by rfl⟩ rfl (by decide) (by decide) ?_
 intro sv hsv
 refine O.call rfl rfl rfl call26 rfl (igitems_spec (d:=2) (by decide) (InS.nil EN _) (by decide) hsv (by decide)) ?_
 rintro gv H3 ⟨hg,hF3⟩
 obtain ⟨ga,gc,hge⟩:=hg.inS.len
 subst hge
 refine ⟨trivial,?_⟩
 refine Uc 1 rfl (eqlT (by rw [hal];rfl)) (Uf 1 [0] rfl (Go'.ret (vs:=[_]) func9 results9 ⟨rfl,trivial⟩ ?_))
 exact ⟨rfl,(hF1.trans hF2).trans hF3⟩
end Go.Bt.FG
namespace Go.Bt.FG
open Go Go.Proofs Go.Proofs.Try
set_option maxRecDepth 20000
set_option maxHeartbeats 4000000
set_option linter.unusedSectionVars false
def insO (O:Pl.Swo (Int×Int)) (low hi:Int×Int) (mi:Bool) (x:Int×Int):Bool:=!O.lt x low&&(O.lt x hi||(mi&&!O.lt hi x))
section
variable [Inhabited Cx]
theorem MapM.tz {H:Mem} {tr:Nat} {P:Ps} {S:Nat→Prop} {L:List (Int×Int)} (hM:MapM H tr P S L):∃TA0:Nat→Nat→Prop,((L=[]∧RtZ H tr P∧∀b o,¬TA0 b o)∨∃h0,∃t0:Gt EJ h0,RtT H tr P L h0 t0∧TA0=Gt.af h0 t0)∧∀b o,TA0 b o→S b:=by
 rcases hM.rt with ⟨e,hc⟩|⟨h,t,hg,hx1,e,hc,hnt,hown⟩
 ·
  refine ⟨fun _ _=>False,.inl ⟨e,⟨hM.tc,?_,hc⟩,fun _ _ h=>h⟩,fun _ _ h=>h.elim⟩
  have h1:=hM.cnt
  rw [e] at h1
  exact h1
 · exact ⟨Gt.af h t,.inr ⟨h,t,⟨hM.tc,hM.srt,hM.cnt,hg,hx1,e,hc,hnt⟩,rfl⟩,hown⟩
theorem drM_spec {B:World} {H:Mem} {tr:Nat} {P:Ps} (hP:PsOk P) {S:Nat→Prop} {A R0:List (Int×Int)} {low hi:Int×Int} {ov:Value} {ex mi:Bool} (hM:MapM H tr P S (A++R0)) (hpv:Pv OI A R0 low) (hlen:(A++R0).length<2147483648)
  (hov:(ov=.pointer none∧ex=true∧mi=false)∨∃ob,ov=.pointer (some ⟨ob,0,none⟩)∧cl H ob 0=some (.bool (!ex))∧cl H ob 1=some (.bool mi)):
  Fn Try.prog B 28 [.pointer (some ⟨tr,0,none⟩),.agg (EJ.enc low).toArray,.agg (EJ.enc hi).toArray,ov] H (fun r H'=>(∃n0 wb TA0,H.size≤n0∧H.size≤wb∧(∀b o,TA0 b o→S b)∧DrE tr P ex (stopF hi mi) A R0 n0 wb TA0 r H')∧Fr (fun b _=>S b) H H'):=by
 obtain ⟨TA0,hT,hS⟩:=hM.tz
 refine (dr_spec hP hM.srt hpv hlen hT hov).mono ?_
 rintro r H' ⟨⟨n0,wb,h1,h2,h3⟩,hf⟩
 exact ⟨⟨n0,wb,TA0,h1,h2,hS,h3⟩,hf.mono fun b o _ h=>h.elim (hS b o) (fun h=>by rw [h.1];exact hM.own)⟩
def OvP (H:Mem) (rv:Value) (ex mi:Bool) (n:Nat):Prop:=(rv=.pointer none∧ex=true∧mi=false)∨∃ob,rv=.pointer (some ⟨ob,0,none⟩)∧n≤ob∧cl H ob 0=some (.bool (!ex))∧cl H ob 1=some (.bool mi)
theorem OvP.fr {H H':Mem} {rv:Value} {ex mi:Bool} {n:Nat} (hf:Fr nowhere H H') (h:OvP H rv ex mi n):OvP H' rv ex mi n:=h.imp id (fun ⟨ob,h0,h1,h2,h3⟩=>⟨ob,h0,h1,hf.keep h2 nw,hf.keep h3 nw⟩)
theorem OvP.out {H:Mem} {rv:Value} {ex mi:Bool} {n:Nat} (h:OvP H rv ex mi n):(rv=.pointer none∧ex=true∧mi=false)∨∃ob,rv=.pointer (some ⟨ob,0,none⟩)∧cl H ob 0=some (.bool (!ex))∧cl H ob 1=some (.bool mi):=h.imp id (fun ⟨ob,h0,h1,h2,h3⟩=>⟨ob,h0,h2,h3⟩)
structure DrF (tr:Nat) (P:Ps) (ex:Bool) (stop:(Int×Int)→Bool) (A R0:List (Int×Int)) (n nb:Nat) (R:List (Int×Int)) (Ts:List QT) (Zq:Nat→Prop) (q:List ((Int×Int)×Option Nat)) (fn:Value) (cnt:Nat) (sv:Value) (S:Nat→Prop) (H:Mem):Prop where
 dri:Dri OI A R R0 (Ts.map QT.pc) stop
 st:∀x∈R,stop x=true
 M:MapM H tr P S (A++R)
 A:Acc EQ Zq H sv q
 cb:CapB sv
 x1:ex=true→fn=FUNV∧q.Perm (Ts.map QT.e)∧Hp.Heap OI qkey q∧cnt=(flat (Ts.map QT.pc)).length
 x0:ex=false→q=[]∧cnt=0
 ok:∀p∈Ts,QT.ok H P p
 af:∀p∈Ts,∀b o,QT.af p b o→¬Zq b∧b≠nb∧b<H.size
 zq:∀b,Zq b→b≠nb∧¬(b<cx.base∧cx.own b)∧b<H.size∧¬S b∧n≤b
 c0:cl H nb 0=some fn
 c1:cl H nb 1=some (.int .i64 (cnt:Int))
 c2:cl H nb 2=some (.int .i64 ((0:Nat):Int))
 c3:cl H nb 3=some sv
 wr:Wr H nb 0 4
 hnb:n≤nb∧¬(nb<cx.base∧cx.own nb)∧¬S nb
theorem DrX.toF {tr:Nat} {P:Ps} {ex:Bool} {stop:(Int×Int)→Bool} {A R0:List (Int×Int)} {n wb nb n1:Nat} {TA0:Nat→Nat→Prop} {r:Value} {H H':Mem} {Z:Nat→Nat→Prop} {vs:List Value} {R:List (Int×Int)} {Ts:List QT} {Zq:Nat→Prop} {q:List ((Int×Int)×Option Nat)} {fn:Value} {cnt:Nat} {sv:Value} (h:DrX tr P ex stop A R0 n wb TA0 r R Ts Zq q fn cnt sv H) (hwb:¬(wb<cx.base∧cx.own wb)) (hf:Fr Z H H') (hz:∀b o,Z b o→b<n∧¬TA0 b o∧¬(b<cx.base∧cx.own b))
  (hn1:n1≤n) (hbn:cx.base≤n) (hnb:n1≤nb∧nb≠tr∧¬(nb<cx.base∧cx.own nb)) (hnn:(nb<n∧∀o,¬TA0 nb o)∨H.size≤nb) (hr:r=.agg vs.toArray) (hrd:Rd H' nb 0 vs) (hwr:Wr H' nb 0 4):
  ∃R Ts Zq q fn cnt sv S,DrF tr P ex stop A R0 n1 nb R Ts Zq q fn cnt sv S H':=by
 have h2:=h.fr hwb hf (fun b o hh=>.inr (hz b o hh))
 obtain ⟨e1,_,_,ht1,_,hq1,_,_,_,_,ha1,_⟩:=h
 obtain ⟨_,dri,hst,_,hA,hq,hx1,hx0,hon,hp,ha,hcb⟩:=h2
 have hsz:=hf.size
 have hvs:vs=[fn,.int .i64 (cnt:Int),.int .i64 ((0:Nat):Int),sv]:=by
  have h9:=Value.agg.inj (e1.symm.trans hr)
  have h8:=congrArg Array.toList h9
  simpa using h8.symm
 subst hvs
 have hzn:¬Zq nb:=fun h=>by
  have h1:=hq1 nb h
  rcases hnn with h2|h2<;>omega
 have haf:∀p∈Ts,∀b o,QT.af p b o→¬Zq b∧b≠nb∧b<H'.size:=fun p hp' b o hb=>by
  obtain ⟨a1,a2,a3,a4,a5⟩:=ha1 p hp' b o hb
  refine ⟨a2,fun e=>?_,by omega⟩
  subst e
  rcases hnn with h2|h2
  · exact a5.elim (h2.2 o) (fun h=>by omega)
  · omega
 have key:∃S:Nat→Prop,MapM H' tr P S (A++R)∧(∀b,Zq b→¬S b)∧¬S nb:=by
  have hb:∀b o,b<cx.base∧cx.own b→¬Z b o:=fun b o hb hh=>(hz b o hh).2.2 hb
  rcases ht1 with ⟨e,hz0⟩|⟨h0,t0,hT,hc⟩
  ·
   have htb:=hz0.tc.tb
   have tc':=hz0.tc.fr hf fun b o h _=>hb b o h
   refine ⟨fun b=>b=tr,⟨tc',by rw [e];exact List.Pairwise.nil,?_,rfl,fun b hb=>by rw [hb];have:=tc'.hb;omega,fun b hb=>.inl hb,.inl ⟨e,hf.keep hz0.c (hb _ _ ⟨hz0.tc.tb,hz0.tc.tw⟩)⟩⟩,fun b hb e=>by have:=(hq b hb).1;omega,hnb.2.1⟩
   rw [e]
   exact hf.keep hz0.cnt (hb _ _ ⟨hz0.tc.tb,hz0.tc.tw⟩)
  ·
   have hT':=hT.fr hf ⟨hb,fun b o h hh=>(hc b o h).2.2.elim (hz b o hh).2.1 (fun h3=>by have:=(hz b o hh).1;omega)⟩
   have htb:=hT'.tc.tb
   have hbs:=hT'.tc.hb
   refine ⟨fun b=>b=tr∨∃o,Gt.af h0 t0 b o,⟨hT'.tc,hT'.srt,hT'.cnt,.inl rfl,fun b hb=>hb.elim (fun e=>by omega) (fun ⟨o,h⟩=>hT'.g.lt h),fun b hb=>hb.imp id (fun ⟨o,h⟩=>hT.nt b o h),.inr ⟨h0,t0,hT'.g,hT'.x1,hT'.e,hT'.c,hT'.nt,fun b o h=>.inr ⟨o,h⟩⟩⟩,fun b hb hs=>?_,fun hs=>?_⟩
   ·
    rcases hs with e|⟨o,h⟩
    · have:=(hq b hb).1;omega
    · exact (hc b o h).1 hb
   ·
    rcases hs with e|⟨o,h⟩
    · exact hnb.2.1 e
    ·
     have h3:=hT.g.lt h
     rcases hnn with h2|h2
     · exact (hc nb o h).2.2.elim (h2.2 o) (fun h=>by omega)
     · omega
 obtain ⟨S,hM,hS1,hS2⟩:=key
 exact ⟨R,Ts,Zq,q,fn,cnt,sv,S,⟨dri,hst,hM,hA,hcb,hx1,hx0,hp,haf,fun b hb=>⟨fun e=>hzn (e▸hb),fun h=>by have:=(hq b hb).1;have:=h.1;omega,(hq b hb).2.1,hS1 b hb,by have:=(hq b hb).1;omega⟩,
  hrd 0 _ rfl,hrd 1 _ rfl,hrd 2 _ rfl,hrd 3 _ rfl,hwr,hnb.1,hnb.2.2,hS2⟩⟩
def insF (low hi:Int×Int) (mi:Bool) (x:Int×Int):Bool:=!OI.lt x low&&(OI.lt x hi||(mi&&!OI.lt hi x))
theorem ins_stop {low hi:Int×Int} {mi:Bool} {x:Int×Int} (h:OI.lt x low=false):insF low hi mi x=!stopF hi mi x:=by
 unfold insF stopF
 rw [h]
 cases mi with
 | false=>simp
 | true=>
  cases h1:OI.lt x hi with
  | true=>rw [OI.asy h1];rfl
  | false=>simp
theorem Pv.split {L:List (Int×Int)} (hs:Pl.Srt OI L) (low:Int×Int):∃A R0,L=A++R0∧Pv OI A R0 low:=by
 induction L with
 | nil=>exact ⟨[],[],rfl,fun _ h=>absurd h List.not_mem_nil,fun _ h=>absurd h List.not_mem_nil⟩
 | cons x L ih=>
  obtain ⟨h1,h2⟩:=(Pl.Srt.cons OI).1 hs
  cases hx:OI.lt x low with
  | true=>
   obtain ⟨A,R0,e,hA,hR⟩:=ih h2
   refine ⟨x::A,R0,by rw [e];rfl,fun a ha=>?_,hR⟩
   rcases List.mem_cons.1 ha with rfl|ha
   · exact hx
   · exact hA a ha
  | false=>
   refine ⟨[],x::L,rfl,fun _ h=>absurd h List.not_mem_nil,fun r hr=>?_⟩
   rcases List.mem_cons.1 hr with rfl|hr
   · exact hx
   ·
    cases h3:OI.lt r low with
    | false=>rfl
    | true=>rw [OI.trans (h1 r hr) h3] at hx;cases hx
theorem Dri.law {A R R0:List (Int×Int)} {Q:List (Pc (Int×Int))} {low hi:Int×Int} {mi:Bool} (h:Dri OI A R R0 Q (stopF hi mi)) (hst:∀x∈R,stopF hi mi x=true) (hpv:Pv OI A R0 low):
  A++R=(A++R0).filter (fun x=>!insF low hi mi x)∧(InO OI Q→flat Q=(A++R0).filter (insF low hi mi))∧(flat Q).length≤R0.length:=by
 have hl:=h.left OI hst
 have hA1:A.filter (insF low hi mi)=[]:=List.filter_eq_nil_iff.2 fun a ha=>by unfold insF;rw [hpv.1 a ha];simp
 have hA2:A.filter (fun x=>!insF low hi mi x)=A:=List.filter_eq_self.2 fun a ha=>by unfold insF;rw [hpv.1 a ha];simp
 have hR1:R0.filter (insF low hi mi)=R0.filter fun x=>!stopF hi mi x:=List.filter_congr fun x hx=>ins_stop (hpv.2 x hx)
 have hR2:R0.filter (fun x=>!insF low hi mi x)=R0.filter (stopF hi mi):=List.filter_congr fun x hx=>by rw [ins_stop (hpv.2 x hx)];simp
 refine ⟨?_,fun hi'=>?_,?_⟩
 · rw [List.filter_append,hA2,hR2,←hl.1]
 ·
  rw [List.filter_append,hA1,hR1,List.nil_append]
  exact (h.fin OI hst hi').2
 ·
  have:=hl.2.length_eq
  have h3:=List.length_filter_le (fun x=>!stopF hi mi x) R0
  omega
end
theorem igdelrange_spec {B:World} {H:Mem} {d:Nat} {nl:Bool} {v u:Value} {ord:List Int} {l:List (Int×Int)} (hd:d=0∨2≤d∧d≤128) (ho:InS EN H v ord) (hol:ord.length≤4294967296) (hu0:InS EJ H u l) (hll:l.length≤2147483647) {low hi:Int×Int} {pl nor mi:Bool}:
  Fn Try.prog B 10 [.agg #[v,.int .i64 (d:Int),.bool nl],u,.agg (EJ.enc low).toArray,.agg (EJ.enc hi).toArray,.agg #[.bool pl,.bool nor,.bool mi]] H (fun r H'=>∃v1 v2 G,r=.tuple #[v1,.int .i64 ((G.length:Nat):Int),v2]∧G=(if (!pl&&nor)=true then [] else (Pl.puts (OO ord) l).filter (insO (OO ord) low hi (!pl&&mi)))∧InS EJ H' v1 G∧InS EJ H' v2 ((Pl.puts (OO ord) l).filter fun x=>!insO (OO ord) low hi (!pl&&mi) x)∧Fr nowhere H H'):=by
 obtain ⟨a,c,hu⟩:=hu0.len
 subst hu
 obtain ⟨av,mv,cv,hv⟩:=InS.form ho
 subst hv
 have hF:Fr nowhere H H:=Fr.refl _ _
 have hP:=PD_ok hd
 refine fn_of func10 rfl ntmps10 ?_
 refine (show Go' _ _ _ _ 28 [(0,_),(1,_),(2,_),(3,_),(4,_)] [.code _] _ from ?_)
 refine Ut 1 rfl (Ur 7 170 rfl (O.box rfl rfl rfl rfl ?_))
 intro B1 MB1
 refine ⟨trivial,?_⟩
 have hsB1:=MB1.size
 replace hF:=hF.trans (MB1.fr nowhere)
 have mm:Rd B1 H.size 0 [.slice av mv cv,.int .i64 (d:Int),.bool nl]:=MB1.rd _ [] (by simp [Value.cells])
 have mm0:cl B1 H.size 0=some (.slice av mv cv):=mm 0 _ rfl
 have mm1:cl B1 H.size (0+1)=some (.int .i64 (d:Int)):=mm 1 _ rfl
 refine O.box rfl rfl rfl rfl ?_
 intro B2 MB2
 refine ⟨trivial,?_⟩
 have hsB2:=MB2.size
 replace hF:=hF.trans (MB2.fr nowhere)
 replace mm:=(MB2.fr nowhere).rd mm (fun _ _=>nw)
 replace mm0:=(MB2.fr nowhere).keep mm0 nw
 replace mm1:=(MB2.fr nowhere).keep mm1 nw
 have mlow:Rd B2 B1.size 0 (EJ.enc low):=MB2.rd _ [] (by simp [Value.cells])
 refine O.box rfl rfl rfl rfl ?_
 intro B3 MB3
 refine ⟨trivial,?_⟩
 have hsB3:=MB3.size
 replace hF:=hF.trans (MB3.fr nowhere)
 replace mm:=(MB3.fr nowhere).rd mm (fun _ _=>nw)
 replace mm0:=(MB3.fr nowhere).keep mm0 nw
 replace mm1:=(MB3.fr nowhere).keep mm1 nw
 replace mlow:=(MB3.fr nowhere).rd mlow (fun _ _=>nw)
 have mhigh:Rd B3 B2.size 0 (EJ.enc hi):=MB3.rd _ [] (by simp [Value.cells])
 refine O.box rfl rfl rfl rfl ?_
 intro B4 MB4
 refine ⟨trivial,?_⟩
 have hsB4:=MB4.size
 replace hF:=hF.trans (MB4.fr nowhere)
 replace mm:=(MB4.fr nowhere).rd mm (fun _ _=>nw)
 replace mm0:=(MB4.fr nowhere).keep mm0 nw
 replace mm1:=(MB4.fr nowhere).keep mm1 nw
 replace mlow:=(MB4.fr nowhere).rd mlow (fun _ _=>nw)
 replace mhigh:=(MB4.fr nowhere).rd mhigh (fun _ _=>nw)
 have mo:Rd B4 B3.size 0 [.bool pl,.bool nor,.bool mi]:=MB4.rd _ [] (by simp [Value.cells])
 refine Uf 3 [1,5,7,8,9,10,11,12] rfl (Ut 1 rfl (Ur 4 33 rfl (Us 0 rfl mm rfl (Uq 1 rfl (O.call rfl rfl rfl call27 rfl (grow_spec hd (ho.fr hF) hol (hu0.fr hF) (by omega)) ?_)))))
 rintro _ H3 ⟨I,hIo,hIw,hIb,tr,S,rfl,hM,hF3,hS⟩
 have hs3:=hF3.size
 replace hF:=hF.trans hF3
 replace mm:=hF3.rd mm (fun _ _=>nw)
 replace mm0:=hF3.keep mm0 nw
 replace mm1:=hF3.keep mm1 nw
 replace mlow:=hF3.rd mlow (fun _ _=>nw)
 replace mhigh:=hF3.rd mhigh (fun _ _=>nw)
 replace mo:=hF3.rd mo (fun _ _=>nw)
 have hSb:∀b,S b∨(b<cx.base∧cx.own b)→B4.size≤b:=fun b hb=>hb.elim (hS b) (fun h=>hIw b h.2)
 have hOO:OO ord=OI:=by rw [←hIo];rfl
 have hpl:=Pl.puts_length OI l
 have hSlt:=hM.lt
 have hbs:=hM.tc.hb
 unfold ptr
 refine ⟨trivial,?_⟩
 refine Uf 1 [7,8,9,10,11,12,13] rfl (Ut 1 rfl ?_)
 obtain ⟨A,R0,hAR,hpv⟩:=Pv.split hM.srt low
 rw [hAR] at hM hpl
 have htr3:=hSlt tr hM.own
 obtain ⟨ex,hex⟩:∃ex,ex=!(!pl&&nor):=⟨_,rfl⟩
 obtain ⟨mi2,hmi2⟩:∃z,z=(!pl&&mi):=⟨_,rfl⟩
 refine Go'.drawT (σ:=Nat) (fun H'=>Rd H' B1.size 0 (EJ.enc low)∧Rd H' B2.size 0 (EJ.enc hi)∧Rd H' B3.size 0 [.bool pl,.bool nor,.bool mi]) (fun s H'=>Fr nowhere H H'∧∃R Ts Zq q fn cnt sv S,DrF tr (PD d) ex (stopF hi mi2) A R0 B4.size s R Ts Zq q fn cnt sv S H') (fun s=>[(13,.pointer (some ⟨tr,0,none⟩)),(14,.pointer (some ⟨s,0,none⟩))]) 6 [4,5] (.node [(0,0),(1,0),(2,0),(3,0),(6,2),(4,2),(5,2),(7,2)] [(0,0),(1,0),(2,0),(3,0),(4,2)] (.node [(6,2),(5,2),(7,2)] [(5,2)] (.leaf [(6,2),(7,2)]))) (by kernel_rfl) (by kernel_rfl) (⟨mlow,mhigh,mo⟩) ?_ ?_
 ·
  intro _ _ _ hj
  refine Tk.node ?_ ?_
  ·
   refine US 1 rfl (fun _ h=>h.1) rfl (US 0 rfl (fun _ h=>h.2.1) rfl (US 0 rfl (fun _ h=>h.2.2) rfl (O.alloc rfl rfl rfl zeroValue61 ?_)))
   intro H6 M6
   have hs6:=M6.size
   replace hF:=hF.trans (M6.fr nowhere)
   replace mm:=(M6.fr nowhere).rd mm (fun _ _=>nw)
   replace mm0:=(M6.fr nowhere).keep mm0 nw
   replace mm1:=(M6.fr nowhere).keep mm1 nw
   replace mlow:=(M6.fr nowhere).rd mlow (fun _ _=>nw)
   replace mhigh:=(M6.fr nowhere).rd mhigh (fun _ _=>nw)
   replace mo:=(M6.fr nowhere).rd mo (fun _ _=>nw)
   replace hM:=hM.fr (M6.fr nowhere) (fun _ _ _=>nw)
   have hlw:Wr H6 H3.size 0 4:=M6.wr 4 (by decide)
   refine ⟨⟨mlow,mhigh,mo⟩,?_⟩
   refine O.call rfl rfl rfl call29 rfl (ranges_spec (pl:=pl) (nr:=nor) (mi:=mi)) ?_
   rintro rv H4 ⟨hF4,hrv⟩
   have hs4:=hF4.size
   replace hF:=hF.trans hF4
   replace mm:=hF4.rd mm (fun _ _=>nw)
   replace mm0:=hF4.keep mm0 nw
   replace mm1:=hF4.keep mm1 nw
   replace mlow:=hF4.rd mlow (fun _ _=>nw)
   replace mhigh:=hF4.rd mhigh (fun _ _=>nw)
   replace mo:=hF4.rd mo (fun _ _=>nw)
   replace hM:=hM.fr hF4 (fun _ _ _=>nw)
   replace hlw:=hF4.wr hlw
   have hov:OvP H4 rv ex mi2 B4.size:=by
    rcases hrv with ⟨h1,h2⟩|⟨ob,h1,h2,h3,h4,h5⟩
    · exact .inl ⟨h1,by rw [hex,h2];rfl,by rw [hmi2,h2];rfl⟩
    ·
     refine .inr ⟨ob,h3,by omega,?_,?_⟩
     · rw [h4,hex,h1];cases nor<;>rfl
     · rw [h5,hmi2,h1];cases mi<;>rfl
   refine ⟨⟨mlow,mhigh,mo⟩,?_⟩
   refine O.call rfl rfl rfl call28 rfl (drM_spec hP hM hpv (by omega) (OvP.out hov)) ?_
   rintro rD H5 ⟨⟨n0,wb,TA0,hn0,hwb,hTA,hE⟩,hF5⟩
   have hs5:=hF5.size
   have hn0b:cx.base≤n0:=by have:=hM.tc.hb;omega
   have htrn:tr<n0:=by have:=hM.lt tr hM.own;omega
   have hTA5:∀b o,TA0 b o→B4.size≤b:=fun b o h=>hSb b (.inl (hTA b o h))
   have hTAl:∀b o,TA0 b o→b<H4.size:=fun b o h=>hM.lt b (hTA b o h)
   have hSn:∀b,b<B4.size→∀o,¬(fun b (_:Nat)=>S b) b o:=fun b hb o hh=>by have:=hSb b (.inl hh);omega
   replace hF:=hF.trans' hF5 (fun _ _ _ h=>h) (fun b o hb hh=>by have:=hSb b (.inl hh);omega)
   replace mlow:=hF5.rd mlow (fun _ _=>hSn _ (by omega) 0)
   replace mhigh:=hF5.rd mhigh (fun _ _=>hSn _ (by omega) 0)
   replace mo:=hF5.rd mo (fun _ _=>hSn _ (by omega) 0)
   replace mm:=hF5.rd mm (fun _ _=>hSn _ (by omega) 0)
   replace mm0:=hF5.keep mm0 (hSn _ (by omega) 0)
   replace mm1:=hF5.keep mm1 (hSn _ (by omega) 0)
   obtain ⟨R9,Ts9,Zq9,q9,fn9,cnt9,sv9,hX⟩:=hE
   obtain ⟨a9,m9,c9,hsv9⟩:=(hX.2.2.2.2.1).form
   have hon9:=hX.2.2.2.2.2.2.2.2.1
   have hrw:=hX.1
   subst hrw
   have hvo:ones [fn9,.int .i64 (cnt9:Int),.int .i64 ((0:Nat):Int),sv9]=true:=by subst hsv9;simp [ones] at hon9 ⊢;exact ⟨hon9,rfl,rfl,rfl⟩
   replace hlw:=hF5.wr hlw
   refine ⟨⟨mlow,mhigh,mo⟩,?_⟩
   refine O.st (vs:=[fn9,.int .i64 (cnt9:Int),.int .i64 ((0:Nat):Int),sv9]) rfl rfl sizeOf61 rfl rfl rfl rfl hvo hlw ?_
   intro H7 W7
   have hs7:=W7.size
   have hF7:Fr (fun b _=>b=H3.size) H5 H7:=W7.fr.mono fun b o _ h=>h.1
   replace hF:=hF.trans' hF7 (fun _ _ _ h=>h) (fun b o hb h=>by have h9:b=H3.size:=h;omega)
   have hwbo:¬(wb<cx.base∧cx.own wb):=fun h=>by have:=h.1;omega
   have hnbo:¬(H3.size<cx.base∧cx.own H3.size):=fun h=>by have:=h.1;omega
   refine ⟨⟨W7.fr.rd mlow (fun _ _=>nr (.inl (by omega))),W7.fr.rd mhigh (fun _ _=>nr (.inl (by omega))),W7.fr.rd mo (fun _ _=>nr (.inl (by omega)))⟩,?_⟩
   refine Pl.fin [(13,_),(14,_)] ⟨rfl,rfl,trivial⟩ (hj H3.size _ ?_)
   have hM3l:∀b o,TA0 b o→b<H3.size:=fun b o h=>hSlt b (hTA b o h)
   exact ⟨hF,hX.toF (n1:=B4.size) (nb:=H3.size) hwbo hF7 (fun b o h=>by have h9:b=H3.size:=h;subst h9;exact ⟨by omega,fun h=>by have:=hM3l _ _ h;omega,hnbo⟩) (by omega) hn0b ⟨by omega,by omega,hnbo⟩ (.inl ⟨by omega,fun o h=>by have:=hM3l _ _ h;omega⟩) rfl W7.all (W7.fr.wr hlw)⟩
  ·
   refine Ok.mv rfl rfl rfl rfl rfl (Ok.ldsC rfl rfl rfl (fun w=>⟨isAgg27 w,sizeOf27 w⟩) rfl rfl (fun _ h=>h.1) (Ok.ldsC rfl rfl rfl (fun w=>⟨isAgg27 w,sizeOf27 w⟩) rfl rfl (fun _ h=>h.2.1) (Ok.ldsC rfl rfl rfl (fun w=>⟨isAgg33 w,sizeOf33 w⟩) rfl rfl (fun _ h=>h.2.2) (Ok.call rfl rfl rfl call29 rfl (ranges_spec (pl:=pl) (nr:=nor) (mi:=mi)) ?_))))
   rintro rv H4 ⟨hF4,hrv⟩
   have hs4:=hF4.size
   replace hF:=hF.trans hF4
   replace mm:=hF4.rd mm (fun _ _=>nw)
   replace mm0:=hF4.keep mm0 nw
   replace mm1:=hF4.keep mm1 nw
   replace mlow:=hF4.rd mlow (fun _ _=>nw)
   replace mhigh:=hF4.rd mhigh (fun _ _=>nw)
   replace mo:=hF4.rd mo (fun _ _=>nw)
   replace hM:=hM.fr hF4 (fun _ _ _=>nw)
   have hov:OvP H4 rv ex mi2 B4.size:=by
    rcases hrv with ⟨h1,h2⟩|⟨ob,h1,h2,h3,h4,h5⟩
    · exact .inl ⟨h1,by rw [hex,h2];rfl,by rw [hmi2,h2];rfl⟩
    ·
     refine .inr ⟨ob,h3,by omega,?_,?_⟩
     · rw [h4,hex,h1];cases nor<;>rfl
     · rw [h5,hmi2,h1];cases mi<;>rfl
   refine ⟨⟨mlow,mhigh,mo⟩,?_⟩
   refine Pk.fin ?_
   refine Tk.node ?_ ?_
   ·
    refine O.alloc rfl rfl rfl zeroValue61 ?_
    intro H6 M6
    have hs6:=M6.size
    replace hF:=hF.trans (M6.fr nowhere)
    replace mm:=(M6.fr nowhere).rd mm (fun _ _=>nw)
    replace mm0:=(M6.fr nowhere).keep mm0 nw
    replace mm1:=(M6.fr nowhere).keep mm1 nw
    replace mlow:=(M6.fr nowhere).rd mlow (fun _ _=>nw)
    replace mhigh:=(M6.fr nowhere).rd mhigh (fun _ _=>nw)
    replace mo:=(M6.fr nowhere).rd mo (fun _ _=>nw)
    replace hM:=hM.fr (M6.fr nowhere) (fun _ _ _=>nw)
    replace hov:=OvP.fr (M6.fr nowhere) hov
    have hlw:Wr H6 H4.size 0 4:=M6.wr 4 (by decide)
    refine ⟨⟨mlow,mhigh,mo⟩,?_⟩
    refine O.call rfl rfl rfl call28 rfl (drM_spec hP hM hpv (by omega) (OvP.out hov)) ?_
    rintro rD H5 ⟨⟨n0,wb,TA0,hn0,hwb,hTA,hE⟩,hF5⟩
    have hs5:=hF5.size
    have hn0b:cx.base≤n0:=by have:=hM.tc.hb;omega
    have htrn:tr<n0:=by have:=hM.lt tr hM.own;omega
    have hTA5:∀b o,TA0 b o→B4.size≤b:=fun b o h=>hSb b (.inl (hTA b o h))
    have hTAl:∀b o,TA0 b o→b<H6.size:=fun b o h=>hM.lt b (hTA b o h)
    have hSn:∀b,b<B4.size→∀o,¬(fun b (_:Nat)=>S b) b o:=fun b hb o hh=>by have:=hSb b (.inl hh);omega
    replace hF:=hF.trans' hF5 (fun _ _ _ h=>h) (fun b o hb hh=>by have:=hSb b (.inl hh);omega)
    replace mlow:=hF5.rd mlow (fun _ _=>hSn _ (by omega) 0)
    replace mhigh:=hF5.rd mhigh (fun _ _=>hSn _ (by omega) 0)
    replace mo:=hF5.rd mo (fun _ _=>hSn _ (by omega) 0)
    replace mm:=hF5.rd mm (fun _ _=>hSn _ (by omega) 0)
    replace mm0:=hF5.keep mm0 (hSn _ (by omega) 0)
    replace mm1:=hF5.keep mm1 (hSn _ (by omega) 0)
    obtain ⟨R9,Ts9,Zq9,q9,fn9,cnt9,sv9,hX⟩:=hE
    obtain ⟨a9,m9,c9,hsv9⟩:=(hX.2.2.2.2.1).form
    have hon9:=hX.2.2.2.2.2.2.2.2.1
    have hrw:=hX.1
    subst hrw
    have hvo:ones [fn9,.int .i64 (cnt9:Int),.int .i64 ((0:Nat):Int),sv9]=true:=by subst hsv9;simp [ones] at hon9 ⊢;exact ⟨hon9,rfl,rfl,rfl⟩
    replace hlw:=hF5.wr hlw
    refine ⟨⟨mlow,mhigh,mo⟩,?_⟩
    refine O.st (vs:=[fn9,.int .i64 (cnt9:Int),.int .i64 ((0:Nat):Int),sv9]) rfl rfl sizeOf61 rfl rfl rfl rfl hvo hlw ?_
    intro H7 W7
    have hs7:=W7.size
    have hF7:Fr (fun b _=>b=H4.size) H5 H7:=W7.fr.mono fun b o _ h=>h.1
    replace hF:=hF.trans' hF7 (fun _ _ _ h=>h) (fun b o hb h=>by have h9:b=H4.size:=h;omega)
    have hwbo:¬(wb<cx.base∧cx.own wb):=fun h=>by have:=h.1;omega
    have hnbo:¬(H4.size<cx.base∧cx.own H4.size):=fun h=>by have:=h.1;omega
    refine ⟨⟨W7.fr.rd mlow (fun _ _=>nr (.inl (by omega))),W7.fr.rd mhigh (fun _ _=>nr (.inl (by omega))),W7.fr.rd mo (fun _ _=>nr (.inl (by omega)))⟩,?_⟩
    refine Pl.fin [(13,_),(14,_)] ⟨rfl,rfl,trivial⟩ (hj H4.size _ ?_)
    have hM3l:∀b o,TA0 b o→b<H3.size:=fun b o h=>hSlt b (hTA b o h)
    exact ⟨hF,hX.toF (n1:=B4.size) (nb:=H4.size) hwbo hF7 (fun b o h=>by have h9:b=H4.size:=h;subst h9;exact ⟨by omega,fun h=>by have:=hM3l _ _ h;omega,hnbo⟩) (by omega) hn0b ⟨by omega,by omega,hnbo⟩ (.inl ⟨by omega,fun o h=>by have:=hM3l _ _ h;omega⟩) rfl W7.all (W7.fr.wr hlw)⟩
   ·
    refine Ok.call rfl rfl rfl call28 rfl (drM_spec hP hM hpv (by omega) (OvP.out hov)) ?_
    rintro rD H5 ⟨⟨n0,wb,TA0,hn0,hwb,hTA,hE⟩,hF5⟩
    have hs5:=hF5.size
    have hn0b:cx.base≤n0:=by have:=hM.tc.hb;omega
    have htrn:tr<n0:=by have:=hM.lt tr hM.own;omega
    have hTA5:∀b o,TA0 b o→B4.size≤b:=fun b o h=>hSb b (.inl (hTA b o h))
    have hTAl:∀b o,TA0 b o→b<H4.size:=fun b o h=>hM.lt b (hTA b o h)
    have hSn:∀b,b<B4.size→∀o,¬(fun b (_:Nat)=>S b) b o:=fun b hb o hh=>by have:=hSb b (.inl hh);omega
    replace hF:=hF.trans' hF5 (fun _ _ _ h=>h) (fun b o hb hh=>by have:=hSb b (.inl hh);omega)
    replace mlow:=hF5.rd mlow (fun _ _=>hSn _ (by omega) 0)
    replace mhigh:=hF5.rd mhigh (fun _ _=>hSn _ (by omega) 0)
    replace mo:=hF5.rd mo (fun _ _=>hSn _ (by omega) 0)
    replace mm:=hF5.rd mm (fun _ _=>hSn _ (by omega) 0)
    replace mm0:=hF5.keep mm0 (hSn _ (by omega) 0)
    replace mm1:=hF5.keep mm1 (hSn _ (by omega) 0)
    obtain ⟨R9,Ts9,Zq9,q9,fn9,cnt9,sv9,hX⟩:=hE
    obtain ⟨a9,m9,c9,hsv9⟩:=(hX.2.2.2.2.1).form
    have hon9:=hX.2.2.2.2.2.2.2.2.1
    have hrw:=hX.1
    subst hrw
    have hvo:ones [fn9,.int .i64 (cnt9:Int),.int .i64 ((0:Nat):Int),sv9]=true:=by subst hsv9;simp [ones] at hon9 ⊢;exact ⟨hon9,rfl,rfl,rfl⟩
    refine ⟨⟨mlow,mhigh,mo⟩,?_⟩
    refine Pk.fin (Tk.leaf (O.alloc rfl rfl rfl zeroValue61 ?_))
    intro H6 M6
    have hs6:=M6.size
    replace hF:=hF.trans (M6.fr nowhere)
    replace mm:=(M6.fr nowhere).rd mm (fun _ _=>nw)
    replace mm0:=(M6.fr nowhere).keep mm0 nw
    replace mm1:=(M6.fr nowhere).keep mm1 nw
    replace mlow:=(M6.fr nowhere).rd mlow (fun _ _=>nw)
    replace mhigh:=(M6.fr nowhere).rd mhigh (fun _ _=>nw)
    replace mo:=(M6.fr nowhere).rd mo (fun _ _=>nw)
    have hlw:Wr H6 H5.size 0 4:=M6.wr 4 (by decide)
    refine ⟨⟨mlow,mhigh,mo⟩,?_⟩
    refine O.st (vs:=[fn9,.int .i64 (cnt9:Int),.int .i64 ((0:Nat):Int),sv9]) rfl rfl sizeOf61 rfl rfl rfl rfl hvo hlw ?_
    intro H7 W7
    have hs7:=W7.size
    have hF7:Fr (fun b _=>b=H5.size) H6 H7:=W7.fr.mono fun b o _ h=>h.1
    replace hF:=hF.trans' hF7 (fun _ _ _ h=>h) (fun b o hb h=>by have h9:b=H5.size:=h;omega)
    have hwbo:¬(wb<cx.base∧cx.own wb):=fun h=>by have:=h.1;omega
    have hnbo:¬(H5.size<cx.base∧cx.own H5.size):=fun h=>by have:=h.1;omega
    refine ⟨⟨W7.fr.rd mlow (fun _ _=>nr (.inl (by omega))),W7.fr.rd mhigh (fun _ _=>nr (.inl (by omega))),W7.fr.rd mo (fun _ _=>nr (.inl (by omega)))⟩,?_⟩
    refine Pl.fin [(13,_),(14,_)] ⟨rfl,rfl,trivial⟩ (hj H5.size _ ?_)
    have hM3l:∀b o,TA0 b o→b<H3.size:=fun b o h=>hSlt b (hTA b o h)
    exact ⟨hF,hX.toF (n1:=B4.size) (nb:=H5.size) hwbo ((M6.fr (fun b _=>False)).trans' hF7 (fun _ _ _ h=>h) (fun b o hb h=>by have h9:b=H5.size:=h;omega)) (fun b o h=>h.elim) (by omega) hn0b ⟨by omega,by omega,hnbo⟩ (.inr (Nat.le_refl _)) rfl W7.all (W7.fr.wr hlw)⟩
 clear hF hM mlow mhigh mo mm mm0 mm1
 rintro nb H7 ⟨hF,R,Ts,Zq,q,fn,cnt,sv,S7,D⟩
 refine Ut 1 rfl ?_
 have hlaw:=Dri.law D.dri D.st hpv
 have hb7:=D.M.tc.hb
 have hfl:(flat (Ts.map QT.pc)).length<4294967296:=by have:=hlaw.2.2;rw [List.length_append] at hpl;omega
 have hz7:∀b o,S7 b∨(b<cx.base∧cx.own b)→¬(fun b (_:Nat)=>b=nb∨Zq b) b o:=fun b o hb hh=>by
  rcases hh with rfl|hh
  · exact hb.elim D.hnb.2.2 D.hnb.2.1
  · exact hb.elim (D.zq b hh).2.2.2.1 (D.zq b hh).2.1
 cases hexc:ex
 ·
  obtain ⟨hq0,hct⟩:=D.x0 hexc
  subst hq0
  subst hct
  refine Ur 7 138 rfl (O.call rfl rfl rfl call30 rfl (scanned_spec (Ts:=[]) hP D.M.tc D.c0 D.c1 D.c2 D.c3 D.A D.cb D.wr (fun h=>absurd rfl h) (List.Perm.refl _) (Hp.heap_nil OI qkey) (fun _ h=>absurd h List.not_mem_nil) (fun _ h=>absurd h List.not_mem_nil) (fun b hb=>⟨(D.zq b hb).1,(D.zq b hb).2.1,(D.zq b hb).2.2.1⟩) D.hnb.2.1 (by decide)) ?_)
  rintro v1 H8 ⟨Ts',hp8,hin8,ho8,hF8,c18⟩
  have hs8:=hF8.size
  have hM8:=D.M.fr hF8 hz7
  replace hF:=hF.trans' hF8 (fun _ _ _ h=>h) (fun b o hb h=>h.elim (fun e=>by have:=D.hnb.1;omega) (fun h=>by have:=(D.zq b h).2.2.2.2;omega))
  refine ⟨trivial,?_⟩
  refine O.callQ rfl rfl rfl call31 rfl (llen_spec c18) trivial (Uq 1 rfl (O.call rfl rfl rfl call32 rfl (Items_spec hP hM8 (by have:=congrArg List.length hlaw.1;have:=List.length_filter_le (fun x=>!insF low hi mi2 x) (A++R0);omega)) ?_))
  rintro v2 H9 ⟨ho9,hF9⟩
  refine ⟨trivial,?_⟩
  refine Uf 3 [10,11,12] rfl (Go'.ret (vs:=[_,_,_]) func10 results10 ⟨rfl,rfl,rfl,trivial⟩ ?_)
  have hT8:Ts'=[]:=List.perm_nil.1 hp8
  subst hT8
  have hn9:(!pl&&nor)=true:=by rw [hex] at hexc;cases h9:(!pl&&nor)<;>rw [h9] at hexc<;>first|rfl|cases hexc
  rw [hlaw.1] at ho9
  refine ⟨v1,v2,[],rfl,?_,ho8.inS.fr hF9,?_,hF.trans hF9⟩
  · rw [hn9];rfl
  · rw [hOO,hAR,←hmi2];exact ho9.inS
 ·
  obtain ⟨hfn,hpm,hhp,hct⟩:=D.x1 hexc
  subst hct
  refine Ur 7 138 rfl (O.call rfl rfl rfl call30 rfl (scanned_spec hP D.M.tc D.c0 D.c1 D.c2 D.c3 D.A D.cb D.wr (fun _=>hfn) hpm hhp D.ok D.af (fun b hb=>⟨(D.zq b hb).1,(D.zq b hb).2.1,(D.zq b hb).2.2.1⟩) D.hnb.2.1 hfl) ?_)
  rintro v1 H8 ⟨Ts',hp8,hin8,ho8,hF8,c18⟩
  have hs8:=hF8.size
  have hM8:=D.M.fr hF8 hz7
  replace hF:=hF.trans' hF8 (fun _ _ _ h=>h) (fun b o hb h=>h.elim (fun e=>by have:=D.hnb.1;omega) (fun h=>by have:=(D.zq b h).2.2.2.2;omega))
  refine ⟨trivial,?_⟩
  refine O.callQ rfl rfl rfl call31 rfl (llen_spec c18) trivial (Uq 1 rfl (O.call rfl rfl rfl call32 rfl (Items_spec hP hM8 (by have:=congrArg List.length hlaw.1;have:=List.length_filter_le (fun x=>!insF low hi mi2 x) (A++R0);omega)) ?_))
  rintro v2 H9 ⟨ho9,hF9⟩
  refine ⟨trivial,?_⟩
  refine Uf 3 [10,11,12] rfl (Go'.ret (vs:=[_,_,_]) func10 results10 ⟨rfl,rfl,rfl,trivial⟩ ?_)
  have hG:flat (Ts'.map QT.pc)=(A++R0).filter (insF low hi mi2):=(Dri.law (D.dri.perm OI (hp8.map QT.pc)) D.st hpv).2.1 hin8
  rw [hG] at ho8
  have hlen9:(flat (Ts.map QT.pc)).length=((A++R0).filter (insF low hi mi2)).length:=by rw [←hG];exact (flat_perm (hp8.map QT.pc)).symm
  have hn9:(!pl&&nor)=false:=by rw [hex] at hexc;cases h9:(!pl&&nor)<;>rw [h9] at hexc<;>first|rfl|cases hexc
  rw [hlaw.1] at ho9
  refine ⟨v1,v2,(A++R0).filter (insF low hi mi2),by rw [hlen9];rfl,?_,ho8.inS.fr hF9,?_,hF.trans hF9⟩
  · rw [hOO,hAR,hn9,←hmi2];rfl
  · rw [hOO,hAR,←hmi2];exact ho9.inS
end Go.Bt.FG
namespace Go.Bt.FG
open Go Go.Proofs Go.Proofs.Try
set_option maxRecDepth 20000
set_option maxHeartbeats 4000000
set_option linter.unusedSectionVars false
theorem st33:StT Try.prog 33 [(0,1),(1,1),(2,1)] [.bool false,.bool false,.bool false]:=⟨⟨_,underlying33,fun w=>by simp [Array.mapM_eq_mapM_toList,sizeOf4]⟩,zeroValue33⟩
theorem fnGRangeRestores {B:World} {H:Mem} {z:Int} {nl:Bool} {v u:Value} {ord:List Int} {l:List (Int×Int)} {y2 y3:Int×Int} {y4:Bool} (ho:InS EN H v ord) (hi:InS EJ H u l):
  Fn Try.prog B 6 [.agg #[v,.int .i64 z,.bool nl],u,.agg (EJ.enc y2).toArray,.agg (EJ.enc y3).toArray,.bool y4] H (fun r H'=>r=.bool true∧Fr nowhere H H'):=by
 obtain ⟨a,c,hu⟩:=hi.len
 subst hu
 obtain ⟨av,mv,cv,hv⟩:=InS.form ho
 subst hv
 have hF:Fr nowhere H H:=Fr.refl _ _
 refine fn_of func6 rfl ntmps6 ?_
 refine (show Go' _ _ _ _ 63 [(0,_),(1,_),(2,_),(3,_),(4,_)] [.code _] _ from ?_)
 refine Ut 1 rfl (Ur 4 42 rfl (O.box rfl rfl rfl rfl ?_))
 intro B1 MB1
 refine ⟨trivial,?_⟩
 have hsB1:=MB1.size
 replace hF:=hF.trans (MB1.fr nowhere)
 have mm:Rd B1 H.size 0 [.slice av mv cv,.int .i64 z,.bool nl]:=MB1.rd _ [] (by simp [Value.cells])
 have mm0:cl B1 H.size 0=some (.slice av mv cv):=mm 0 _ rfl
 have mm1:cl B1 H.size (0+1)=some (.int .i64 z):=mm 1 _ rfl
 refine O.box rfl rfl rfl rfl ?_
 intro B2 MB2
 refine ⟨trivial,?_⟩
 have hsB2:=MB2.size
 replace hF:=hF.trans (MB2.fr nowhere)
 replace mm:=(MB2.fr nowhere).rd mm (fun _ _=>nw)
 replace mm0:=(MB2.fr nowhere).keep mm0 nw
 replace mm1:=(MB2.fr nowhere).keep mm1 nw
 have mlow:Rd B2 B1.size 0 (EJ.enc y2):=MB2.rd _ [] (by simp [Value.cells])
 refine O.box rfl rfl rfl rfl ?_
 intro B3 MB3
 refine ⟨trivial,?_⟩
 have hsB3:=MB3.size
 replace hF:=hF.trans (MB3.fr nowhere)
 replace mm:=(MB3.fr nowhere).rd mm (fun _ _=>nw)
 replace mm0:=(MB3.fr nowhere).keep mm0 nw
 replace mm1:=(MB3.fr nowhere).keep mm1 nw
 replace mlow:=(MB3.fr nowhere).rd mlow (fun _ _=>nw)
 have mhigh:Rd B3 B2.size 0 (EJ.enc y3):=MB3.rd _ [] (by simp [Value.cells])
 refine Uf 1 [1,4,5,7,8,10] rfl (Ut 2 rfl ?_)
 cases hoz:decide (ord.length≤2147483647)
 ·
  refine Ur 8 9 rfl (Us 0 rfl mm rfl (O.call rfl rfl rfl call7 rfl (zzFits1_spec (ho.fr hF) hoz) ?_))
  rintro _ Hz ⟨rfl,hFz⟩
  replace hF:=hF.trans hFz
  replace mm:=hFz.rd mm (fun _ _=>nw)
  replace mm0:=hFz.keep mm0 nw
  replace mm1:=hFz.keep mm1 nw
  replace mlow:=hFz.rd mlow (fun _ _=>nw)
  replace mhigh:=hFz.rd mhigh (fun _ _=>nw)
  refine ⟨trivial,?_⟩
  refine Uf 6 [1,4,5,7,8,10,23] rfl (Go'.condT rfl (Ut 1 rfl (Ur 1 0 rfl (Uf 1 [1,4,5,7,8,10] rfl (Go'.ret (vs:=[_]) func6 results6 ⟨rfl,trivial⟩ ?_)))))
  exact ⟨rfl,hF⟩
 ·
  have hoz2:=of_decide_eq_true hoz
  by_cases hb_lenl:(2147483647:Int)<(l.length:Int)
  ·
   refine Ur 8 9 rfl (Us 0 rfl mm rfl (O.call rfl rfl rfl call7 rfl (zzFits1_spec (ho.fr hF) hoz) ?_))
   rintro _ Hz ⟨rfl,hFz⟩
   replace hF:=hF.trans hFz
   replace mm:=hFz.rd mm (fun _ _=>nw)
   replace mm0:=hFz.keep mm0 nw
   replace mm1:=hFz.keep mm1 nw
   replace mlow:=hFz.rd mlow (fun _ _=>nw)
   replace mhigh:=hFz.rd mhigh (fun _ _=>nw)
   refine ⟨trivial,?_⟩
   refine Uc 4 rfl (gtrT (by omega)) (Uf 1 [1,4,5,7,8,10,23] rfl (Go'.condT rfl (Ut 1 rfl (Ur 1 0 rfl (Uf 1 [1,4,5,7,8,10] rfl (Go'.ret (vs:=[_]) func6 results6 ⟨rfl,trivial⟩ ?_))))))
   exact ⟨rfl,hF⟩
  ·
   refine Ur 8 9 rfl (Us 0 rfl mm rfl (O.call rfl rfl rfl call7 rfl (zzFits1_spec (ho.fr hF) hoz) ?_))
   rintro _ Hz ⟨rfl,hFz⟩
   replace hF:=hF.trans hFz
   replace mm:=hFz.rd mm (fun _ _=>nw)
   replace mm0:=hFz.keep mm0 nw
   replace mm1:=hFz.keep mm1 nw
   replace mlow:=hFz.rd mlow (fun _ _=>nw)
   replace mhigh:=hFz.rd mhigh (fun _ _=>nw)
   refine ⟨trivial,?_⟩
   refine Uc 4 rfl (gtrF (by omega)) (Uf 1 [1,4,5,7,8,10,23] rfl (Go'.condF rfl (Ut 3 rfl ?_)))
   have hpl:=Pl.puts_length (OO ord) l
   cases hfz:fitsb z
   ·
    refine Ur 3 9 rfl (Us 0 rfl mm rfl (O.call rfl rfl rfl call8 rfl (lfits_spec ⟨_,_,_,rfl⟩ hfz) ?_))
    rintro _ H6 ⟨rfl,hF6⟩
    replace hF:=hF.trans hF6
    replace mm:=hF6.rd mm (fun _ _=>nw)
    replace mm0:=hF6.keep mm0 nw
    replace mm1:=hF6.keep mm1 nw
    replace mlow:=hF6.rd mlow (fun _ _=>nw)
    replace mhigh:=hF6.rd mhigh (fun _ _=>nw)
    refine ⟨trivial,?_⟩
    refine Uf 1 [1,4,5,7,8,10,26] rfl (Go'.condT rfl (Ut 1 rfl (Ur 2 2 rfl (O.call rfl rfl rfl call9 rfl alive_spec ?_))))
    rintro _ Hv ⟨rfl,hFv⟩
    replace hF:=hF.trans hFv
    replace mm:=hFv.rd mm (fun _ _=>nw)
    replace mm0:=hFv.keep mm0 nw
    replace mm1:=hFv.keep mm1 nw
    replace mlow:=hFv.rd mlow (fun _ _=>nw)
    replace mhigh:=hFv.rd mhigh (fun _ _=>nw)
    refine ⟨trivial,?_⟩
    refine Uf 1 [1,4,5,7,8,10] rfl (Go'.ret (vs:=[_]) func6 results6 ⟨rfl,trivial⟩ ?_)
    exact ⟨rfl,hF⟩
   ·
    obtain ⟨d,rfl,hd⟩:=fitsb_nat hfz
    refine Ur 3 9 rfl (Us 0 rfl mm rfl (O.call rfl rfl rfl call8 rfl (lfits_spec ⟨_,_,_,rfl⟩ hfz) ?_))
    rintro _ H6 ⟨rfl,hF6⟩
    replace hF:=hF.trans hF6
    replace mm:=hF6.rd mm (fun _ _=>nw)
    replace mm0:=hF6.keep mm0 nw
    replace mm1:=hF6.keep mm1 nw
    replace mlow:=hF6.rd mlow (fun _ _=>nw)
    replace mhigh:=hF6.rd mhigh (fun _ _=>nw)
    refine ⟨trivial,?_⟩
    refine Uf 1 [1,4,5,7,8,10,26] rfl (Go'.condF rfl (Ut 2 rfl (Ur 14 8273 rfl (Us 0 rfl mm rfl (Us 1 rfl mlow rfl (Us 0 rfl mhigh rfl (Uq 1 rfl (O.bld (cs:=[.bool false,.bool false,.bool y4]) rfl rfl rfl rfl (st33) rfl (by kernel_rfl) (O.call rfl rfl rfl call10 rfl (igdelrange_spec (low:=y2) (hi:=y3) (pl:=false) (nor:=false) (mi:=y4) hd (ho.fr hF) (by omega) (hi.fr hF) (by omega)) ?_)))))))))
    rintro _ H7 ⟨v1,v2,G,rfl,hG,h1,h2,hF7⟩
    replace hF:=hF.trans hF7
    replace mm:=hF7.rd mm (fun _ _=>nw)
    replace mm0:=hF7.keep mm0 nw
    replace mm1:=hF7.keep mm1 nw
    replace mlow:=hF7.rd mlow (fun _ _=>nw)
    replace mhigh:=hF7.rd mhigh (fun _ _=>nw)
    obtain ⟨T,hT⟩:∃T,T=Pl.puts (OO ord) l:=⟨_,rfl⟩
    have hTs:Pl.Srt (OO ord) T:=by rw [hT];exact Pl.puts_srt _ _
    rw [←hT] at hG h2 hpl
    obtain ⟨L,hL⟩:∃L,L=T.filter fun x=>!insO (OO ord) y2 y3 (!false&&y4) x:=⟨_,rfl⟩
    rw [←hL] at h2
    have hG:G=T.filter (insO (OO ord) y2 y3 (!false&&y4)):=hG
    have hGs:Pl.Srt (OO ord) G:=by rw [hG];exact hTs.filter _
    have hGl:G.length≤l.length:=by have:=List.length_filter_le (insO (OO ord) y2 y3 (!false&&y4)) T;rw [hG];omega
    have hLG:(L++G).length≤l.length:=by
     have h9:=(List.filter_append_perm (insO (OO ord) y2 y3 (!false&&y4)) T).length_eq
     rw [←hG,←hL,List.length_append] at h9
     rw [List.length_append]
     omega
    have hpG:Pl.puts (OO ord) G=G:=puts_self _ hGs
    have hpL:Pl.puts (OO ord) (L++G)=T:=by rw [hL,hG];exact puts_join _ hTs _
    obtain ⟨ga,gc,hge⟩:=h1.len
    subst hge
    obtain ⟨la,lc,hle⟩:=h2.len
    subst hle
    refine ⟨trivial,?_⟩
    refine Uf 7 [1,5,10,11,13] rfl (Ut 1 rfl (Ur 8 33 rfl (Us 0 rfl mm rfl (Uq 1 rfl (O.call rfl rfl rfl call25 rfl (igload_spec hd (ho.fr hF) (by omega) h1 (by omega)) ?_)))))
    rintro _ H8 ⟨v3,v4,rfl,h4,hF8⟩
    replace hF:=hF.trans hF8
    replace mm:=hF8.rd mm (fun _ _=>nw)
    replace mm0:=hF8.keep mm0 nw
    replace mm1:=hF8.keep mm1 nw
    replace mlow:=hF8.rd mlow (fun _ _=>nw)
    replace mhigh:=hF8.rd mhigh (fun _ _=>nw)
    replace h1:=h1.fr hF8
    replace h2:=h2.fr hF8
    rw [hpG] at h4
    replace h4:=h4.inS
    refine ⟨trivial,?_⟩
    refine Uf 5 [1,5,10,11,13,15] rfl (Ut 1 rfl (Go'.draw (fun H'=>Rd H' H.size 0 [.slice av mv cv,.int .i64 (d:Int),.bool nl]) [(0,0),(1,0),(2,2),(3,0),(4,0),(5,0),(6,0),(10,0),(11,0),(7,2),(8,2),(9,2),(12,2),(13,2),(14,0),(15,0),(16,2),(17,0),(18,0)] (by kernel_rfl) (by kernel_rfl) (mm) (Uq 2 rfl (O.callQ rfl rfl rfl call12 rfl (eqItems_spec h4 h1 (by omega)) mm (US 1 rfl (fun _ h=>h) rfl (US 2 rfl (fun _ h=>h) rfl (Uq 1 rfl (O.bsl (cs:=(row SI.ESl [(la,L.length,lc),(ga,G.length,gc)])) rfl rfl rfl ⟨underlying38,sizeOf25,zeroValue25,⟨_,typeInfo25,rfl⟩,rfl,by decide,by decide⟩ rfl (by decide) (by kernel_rfl) ?_))))))))
    intro H9 M9
    have hF9:=M9.fr nowhere
    replace hF:=hF.trans hF9
    replace mm:=hF9.rd mm (fun _ _=>nw)
    replace mm0:=hF9.keep mm0 nw
    replace mm1:=hF9.keep mm1 nw
    replace mlow:=hF9.rd mlow (fun _ _=>nw)
    replace mhigh:=hF9.rd mhigh (fun _ _=>nw)
    replace h1:=h1.fr hF9
    replace h2:=h2.fr hF9
    have hev:InS SI.ESl H9 (.slice (some ⟨H8.size,0,none⟩) 2 2) [(la,L.length,lc),(ga,G.length,gc)]:=.inl ⟨H8.size,0,2,rfl,Nat.le_refl _,M9.rd _ [] (by simp [row,SI.ESl])⟩
    have hess:SI.InSS EJ H9 [(la,L.length,lc),(ga,G.length,gc)] [L,G]:=⟨h2,h1,trivial⟩
    have hcl:([L,G].flatten:List (Int×Int))=L++G:=by simp
    refine ⟨mm,?_⟩
    refine O.call rfl rfl rfl call14 rfl (SI.concatA_spec hev hess (by rw [hcl];omega) (by simp only [List.length_cons,List.length_nil];omega)) ?_
    rintro vb Ha ⟨hb,hFa⟩
    rw [hcl] at hb
    replace hF:=hF.trans hFa
    replace mm:=hFa.rd mm (fun _ _=>nw)
    replace mm0:=hFa.keep mm0 nw
    replace mm1:=hFa.keep mm1 nw
    replace mlow:=hFa.rd mlow (fun _ _=>nw)
    replace mhigh:=hFa.rd mhigh (fun _ _=>nw)
    refine ⟨mm,?_⟩
    refine O.call rfl rfl rfl call26 rfl (igitems_spec hd (ho.fr hF) (by omega) hb.inS (by omega)) ?_
    rintro gA Hb ⟨hgA,hFb⟩
    rw [hpL] at hgA
    replace hF:=hF.trans hFb
    replace mm:=hFb.rd mm (fun _ _=>nw)
    replace mm0:=hFb.keep mm0 nw
    replace mm1:=hFb.keep mm1 nw
    replace mlow:=hFb.rd mlow (fun _ _=>nw)
    replace mhigh:=hFb.rd mhigh (fun _ _=>nw)
    refine ⟨mm,?_⟩
    refine O.call rfl rfl rfl call26 rfl (igitems_spec hd (ho.fr hF) (by omega) (hi.fr hF) (by omega)) ?_
    rintro gB Hc ⟨hgB,hFc⟩
    rw [←hT] at hgB
    replace hF:=hF.trans hFc
    replace mm:=hFc.rd mm (fun _ _=>nw)
    replace mm0:=hFc.keep mm0 nw
    replace mm1:=hFc.keep mm1 nw
    replace mlow:=hFc.rd mlow (fun _ _=>nw)
    replace mhigh:=hFc.rd mhigh (fun _ _=>nw)
    refine ⟨mm,?_⟩
    refine O.callQ rfl rfl rfl call12 rfl (eqItems_spec (hgA.inS.fr hFc) hgB.inS (by omega)) mm (Uq 2 rfl (O.call rfl rfl rfl call9 rfl alive_spec ?_))
    rintro _ Hv ⟨rfl,hFv⟩
    replace hF:=hF.trans hFv
    replace mm:=hFv.rd mm (fun _ _=>nw)
    replace mm0:=hFv.keep mm0 nw
    replace mm1:=hFv.keep mm1 nw
    replace mlow:=hFv.rd mlow (fun _ _=>nw)
    replace mhigh:=hFv.rd mhigh (fun _ _=>nw)
    refine ⟨mm,?_⟩
    refine Uf 2 [10] rfl (Go'.ret (vs:=[_]) func6 results6 ⟨rfl,trivial⟩ ?_)
    exact ⟨rfl,hF⟩
end Go.Bt.FG
