/- Contracts of functions of the program, proved by walking through their code. Conditions: those that each theorem names. -/
import Derived.Test.YtmcnochofpgfbaaTogJ
import Derived.Test.YtmcnochofpgfbaaTogG
import Derived.Test.YtmcnochofpgfbaaToKs
set_option linter.unusedVariables false
namespace Go.Bt.FG
open Go Go.Proofs Go.Proofs.Try
set_option maxRecDepth 20000
set_option maxHeartbeats 4000000
set_option linter.unusedSectionVars false
variable [Inhabited Cx]
structure RootT (H:Mem) (tr:Nat) (P:Ps) (S:Nat→Prop) (l:List (Int×Int)) (h:Nat) (t:Gt EJ h):Prop where
 g:Gt.Good H P h t
 x1:1≤(Gt.X h t).length
 l:Gt.L h t=l
 c:cl H tr 2=some (ptr (Gt.p h t))
 nt:∀b o,Gt.af h t b o→cx.base≤b
 own:∀b o,Gt.af h t b o→S b
 ht:h<4611686018427387904
def SetP (H:Mem) (tr:Nat) (P:Ps) (S:Nat→Prop) (l:List (Int×Int)) (x:Int×Int) (hv:Value) (hz:Nat→Prop) (r:Value) (H':Mem):Prop:=
 HintOk H' hv hz∧r=.tuple #[PV (Pl.got OI x l),.bool (Pl.fnd OI x l)]∧∃S',MapM H' tr P S' (Pl.put OI x l)∧Fr (fun b _=>S b∨hz b) H H'∧∀b,S' b→S b∨H.size≤b
def MapT (H:Mem) (tr:Nat) (P:Ps) (S:Nat→Prop) (l:List (Int×Int)) (T:AbT (Int×Int)):Prop:=
 MapM H tr P S l∧((T=none∧l=[]∧cl H tr 2=some (.pointer none))∨∃h,∃t:Gt EJ h,RootT H tr P S l h t∧T=some ⟨h,Gt.ab h t⟩)
theorem RootT.fr {H H':Mem} {tr:Nat} {P:Ps} {S:Nat→Prop} {l:List (Int×Int)} {h:Nat} {t:Gt EJ h} (hR:RootT H tr P S l h t) (own:S tr) {Z:Nat→Nat→Prop} (hf:Fr Z H H') (hz:∀b o,S b∨(b<cx.base∧cx.own b)→¬Z b o):RootT H' tr P S l h t:=
 ⟨hR.g.fr hf fun b o hb=>hz b o (.inl (hR.own b o hb)),hR.x1,hR.l,hf.keep hR.c (hz _ _ (.inl own)),hR.nt,hR.own,hR.ht⟩
theorem MapT.fr {H H':Mem} {tr:Nat} {P:Ps} {S:Nat→Prop} {l:List (Int×Int)} {T:AbT (Int×Int)} (hM:MapT H tr P S l T) {Z:Nat→Nat→Prop} (hf:Fr Z H H') (hz:∀b o,S b∨(b<cx.base∧cx.own b)→¬Z b o):MapT H' tr P S l T:=
 ⟨hM.1.fr hf hz,hM.2.imp (fun ⟨e,e2,k⟩=>⟨e,e2,hf.keep k (hz _ _ (.inl hM.1.own))⟩) fun ⟨h,t,hR,e⟩=>⟨h,t,hR.fr hM.1.own hf hz,e⟩⟩
def SetPT (H:Mem) (tr:Nat) (P:Ps) (S:Nat→Prop) (l:List (Int×Int)) (x:Int×Int) (hv:Value) (hz:Nat→Prop) (T:AbT (Int×Int)) (r:Value) (H':Mem):Prop:=
 HintOk H' hv hz∧r=.tuple #[PV (Pl.got OI x l),.bool (Pl.fnd OI x l)]∧∃S',MapT H' tr P S' (Pl.put OI x l) (AbT.put OI P.mx P.mn x T)∧Fr (fun b _=>S b∨hz b) H H'∧∀b,S' b→S b∨H.size≤b
theorem SetPT.weak {H:Mem} {tr:Nat} {P:Ps} {S:Nat→Prop} {l:List (Int×Int)} {x:Int×Int} {hv:Value} {hz:Nat→Prop} {T:AbT (Int×Int)} {r:Value} {H':Mem} (h:SetPT H tr P S l x hv hz T r H'):SetP H tr P S l x hv hz r H':=
 have ⟨h1,h2,S',h3,h4⟩:=h
 ⟨h1,h2,S',h3.1,h4⟩
theorem Gt.Good.tall {H:Mem} {P:Ps} (hP:PsOk P):∀{h:Nat} {t:Gt EJ h},Gt.Good H P h t→1≤(Gt.X h t).length→h+1≤(Gt.L h t).length
 | 0,_,_,h1=>h1
 | h+1,(g,X,K),hg,h1=>by
  have hKl:K.length=X.length+1:=hg.2.2.2.2.2.1
  obtain ⟨k,K',rfl⟩:∃k K',K=k::K':=by
   cases K with
   | nil=>simp at hKl
   | cons k K'=>exact ⟨k,K',rfl⟩
  have hk:=hg.2.2.2.2.2.2.1 k List.mem_cons_self
  have ih:=Gt.Good.tall hP hk.1 (Nat.le_trans hP.h1 hk.2.1)
  have e:Gt.L (h+1) ((g,X,k::K'):Gt EJ (h+1))=Gt.L h k++Pl.post X (K'.map (Gt.L h)):=by
   show Pl.inter X ((k::K').map (Gt.L h))=_
   rw [List.map_cons,Pl.inter_post _ _ _ (by rw [List.length_map];simpa using hKl.symm)]
  have h2:1≤(Pl.post X (K'.map (Gt.L h))).length:=by
   obtain ⟨x,X',rfl⟩:∃x X',X=x::X':=by
    cases X with
    | nil=>exact absurd h1 (by show ¬1≤0;omega)
    | cons x X'=>exact ⟨x,X',rfl⟩
   obtain ⟨k2,K2,rfl⟩:∃k2 K2,K'=k2::K2:=by
    cases K' with
    | nil=>simp at hKl
    | cons k2 K2=>exact ⟨k2,K2,rfl⟩
   rw [List.map_cons]
   show 1≤(x::_).length
   simp only [List.length_cons];omega
  rw [e,List.length_append];omega
theorem mset_root {B:World} {H:Mem} {tr:Nat} {P:Ps} (hP:PsOk P) {S:Nat→Prop} {l:List (Int×Int)} {x:Int×Int} {hv:Value} {hz:Nat→Prop} {h:Nat} {t:Gt EJ h} (hM:MapM H tr P S l) (hR:RootT H tr P S l h t) (hlen:l.length<2305843009213693952) (hk:HintOk H hv hz) (hzS:∀b,hz b→¬S b)
  (again:(Gt.X h t).length=P.mx→∀{H1:Mem} {S1:Nat→Prop} {h1:Nat} {t1:Gt EJ h1},MapM H1 tr P S1 l→RootT H1 tr P S1 l h1 t1→(Gt.X h1 t1).length<P.mx→HintOk H1 hv hz→(∀b,hz b→¬S1 b)→Fn Try.prog B 67 [.pointer (some ⟨tr,0,none⟩),.agg (EJ.enc x).toArray,hv] H1 (SetPT H1 tr P S1 l x hv hz (some ⟨h1,Gt.ab h1 t1⟩))):
  Fn Try.prog B 67 [.pointer (some ⟨tr,0,none⟩),.agg (EJ.enc x).toArray,hv] H (SetPT H tr P S l x hv hz (some ⟨h,Gt.ab h t⟩)):=by
 obtain ⟨tc,srt,cnt,own,lt,bs,_⟩:=hM
 obtain ⟨hg,hx1,rfl,hc,hnt,hown,hht⟩:=hR
 have htl:cx.base≤H.size:=tc.hb
 have htb:tr<cx.base:=tc.tb
 have hzb:=hk.base
 have hF:Fr (fun b _=>S b∨hz b) H H:=Fr.refl _ _
 have hmm:=hP.hm
 have hh1:=hP.h1
 have hx255:=hP.hx
 have hlt:∀b o,Gt.af h t b o→b<H.size:=fun b o hb=>hg.lt hb
 have hptr:cl H tr 2=some (.pointer (some ⟨Gt.p h t,0,none⟩)):=hc
 refine fn_of func67 rfl ntmps67 ?_
 refine (show Go' _ _ _ _ 136 [(0,_),(1,_),(2,_)] [.code _] _ from ?_)
 refine Ut 1 rfl (Ur 3 10 rfl (O.box rfl rfl rfl rfl ?_))
 intro H0 M0
 refine ⟨trivial,?_⟩
 have hs0:=M0.size
 replace hg:=hg.fr (M0.fr nowhere) (fun _ _ _=>nw)
 replace tc:=tc.fr (M0.fr nowhere) (fun _ _ _ _=>nw)
 replace cnt:=(M0.fr nowhere).keep cnt nw
 replace hptr:=(M0.fr nowhere).keep hptr nw
 replace hk:=hk.fr (M0.fr nowhere) (fun _ _ _=>nw)
 replace hF:=hF.trans' (M0.fr nowhere) (fun _ _ _ h=>h) (fun _ _ _ h=>h.elim)
 have mi:Rd H0 H.size 0 (EJ.enc x):=M0.rd _ [] (by simp [Value.cells])
 refine O.alloc rfl rfl rfl zeroValue27 ?_
 intro H1 M1
 refine ⟨trivial,?_⟩
 have hs1:H1.size=H.size+2:=by have:=M1.size;omega
 replace hg:=hg.fr (M1.fr nowhere) (fun _ _ _=>nw)
 replace tc:=tc.fr (M1.fr nowhere) (fun _ _ _ _=>nw)
 replace cnt:=(M1.fr nowhere).keep cnt nw
 replace hptr:=(M1.fr nowhere).keep hptr nw
 replace hk:=hk.fr (M1.fr nowhere) (fun _ _ _=>nw)
 replace hF:=hF.trans' (M1.fr nowhere) (fun _ _ _ h=>h) (fun _ _ _ h=>h.elim)
 replace mi:=(M1.fr nowhere).rd mi (fun _ _=>nw)
 have mp:Wr H1 H0.size 0 2:=M1.wr 2 (by decide)
 refine Uf 1 [0,2,4,6,7] rfl (Ut 2 rfl (Ur 5 64 rfl (Ul 3 rfl hptr (O.isNil rfl rfl rfl rfl underlying107 rfl rfl (Uf 0 [0,2,4,6,7,16] rfl (Go'.condF rfl (Ut 2 rfl (Ud 14 8397056 (by kernel_rfl) (Us 4 rfl mi rfl (Uq 1 rfl (O.call rfl rfl rfl call91 rfl ((nset hP h (dp:=0) ⟨⟨tc,hg,hptr,hnt,srt,by omega⟩,hx1,hk,fun b o hb hzz=>hzS b hzz (hown b o hb),by omega⟩).mono fun _ _=>SetQH.uni) ?_)))))))))))
 rintro _ H3 ⟨hk,Hm,hsm,hFm,hFk,pv,r,sp,rfl,hq⟩
 have hs3:Hm.size≤H3.size:=hFk.size
 replace tc:=tc.fr hFm (fun b o hb _ hz=>(hzb b hz).1 hb)
 replace cnt:=hFm.keep cnt (fun hz=>hzS _ hz own)
 replace hptr:=hFm.keep hptr (fun hz=>hzS _ hz own)
 replace mi:=hFm.rd mi (fun _ _ hz=>by have:=(hzb _ hz).2;omega)
 replace mp:=hFm.wr mp
 replace tc:=tc.fr hFk (fun b o hb _ hz=>by have:=hnt b o hz;omega)
 replace cnt:=hFk.keep cnt (fun hz=>by have:=hnt _ _ hz;omega)
 replace hptr:=hFk.keep hptr (fun hz=>by have:=hnt _ _ hz;omega)
 replace mi:=hFk.rd mi (fun _ _ hz=>by have:=hlt _ _ hz;omega)
 replace mp:=hFk.wr mp
 replace hF:=hF.trans' hFm (fun _ _ _ h=>h) (fun _ _ _ h=>.inr h)
 refine ⟨trivial,?_⟩
 refine Uq 4 rfl (O.st (vs:=(EJ.enc (pv.getD (0,0)))) rfl rfl sizeOf27 rfl rfl rfl rfl rfl mp ?_)
 intro Hp Wp
 have hsp:=Wp.size
 replace tc:=tc.fr Wp.fr (fun b o hb _=>nr (.inl (by omega)))
 replace cnt:=Wp.fr.keep cnt (nr (.inl (by omega)))
 replace hptr:=Wp.fr.keep hptr (nr (.inl (by omega)))
 replace hk:=hk.fr Wp.fr (fun b o hb=>nr (.inl (by have:=(hzb b hb).2;omega)))
 replace mi:=Wp.fr.rd mi (fun _ _=>nr (.inl (by omega)))
 replace mp:=Wp.fr.wr mp
 have mq:Rd Hp H0.size 0 (EJ.enc (pv.getD (0,0))):=Wp.all
 refine ⟨trivial,?_⟩
 refine Uf 2 [0,2,4,6,7,8] rfl (Ut 2 rfl ?_)
 rcases hq with ⟨rfl,t',rfl,rfl,hS⟩|⟨rfl,rfl,rfl,hfr,hful,hnf,hpn⟩
 ·
  refine Ur 1 0 rfl (Uf 1 [0,2,4,6,7,58] rfl (Go'.condF rfl (Ut 3 rfl ?_)))
  replace hF:Fr (fun b _=>S b∨hz b) H Hp:=(hF.trans' hS.fr (fun _ _ _ h=>h) (fun b o _ hz=>.inl (hown b o hz))).trans' Wp.fr (fun _ _ _ h=>h) (fun b o hb h=>by have h':=h.1;omega)
  have haf:∀b o,Gt.af h t' b o→Gt.af h t b o∨H1.size≤b:=fun b o hb=>(hS.a b o hb).imp id (fun h=>by omega)
  have hlt9:∀b o,Gt.af h t' b o→b<H.size∨H1.size≤b:=fun b o hb=>(haf b o hb).imp (hlt b o) id
  have hgt:=hS.g.fr Wp.fr (fun b o hb=>nr (.inl (by rcases hlt9 b o hb with h|h<;>omega)))
  have hnt':∀b o,Gt.af h t' b o→cx.base≤b:=fun b o hb=>(haf b o hb).elim (hnt b o) (fun h=>by omega)
  have hlp:=Pl.length_put OI x (Gt.L h t)
  have hS':∀H':Mem,Hp.size≤H'.size→∀b,(S b∨(H1.size≤b∧b<H3.size))→b<H'.size:=fun H' e b hb=>hb.elim (fun h=>by have:=lt b h;omega) (fun h=>by omega)
  have hB':∀b,(S b∨(H1.size≤b∧b<H3.size))→b=tr∨cx.base≤b:=fun b hb=>hb.elim (bs b) (fun h=>.inr (by omega))
  refine Ur 1 0 rfl (Uf 1 [0,6,7,123] rfl ?_)
  cases hfd:Pl.fnd OI x (Gt.L h t)
  ·
   refine Go'.condF rfl (Ut 2 rfl (Ur 8 32832 rfl (Ul 3 rfl cnt (Ua 0 ((((Gt.L h t).length+1:Nat):Int)) rfl (by omega) (Uq 2 rfl (O.st rfl rfl sizeOf3 rfl rfl rfl rfl rfl (tc.wr.at0 3 1 (by omega)) ?_))))))
   intro H4 W4
   have hs4:=W4.size
   replace hk:=hk.fr W4.fr (fun b o hb=>nr (.inl (fun e=>hzS b hb (by rw [e];exact own))))
   replace tc:=tc.fr (W4.fr' 1 rfl) (fun b o hb he hz=>by have h1:=he hz.1;have h2:=hz.2.1;have h3:=hz.2.2;omega)
   replace hF:=hF.trans' W4.fr (fun _ _ _ h=>h) (fun b o _ h=>.inl (by rw [h.1];exact own))
   replace mi:=W4.fr.rd mi (fun _ _=>nr (.inl (by omega)))
   replace mp:=W4.fr.wr mp
   replace hptr:=W4.keep1 hptr (by omega)
   replace cnt:=W4.at
   replace hgt:=hgt.fr W4.fr (fun b o hb=>nr (.inl (by have:=hnt' b o hb;omega)))
   refine ⟨trivial,?_⟩
   refine Uf 0 [0,6,7] rfl (Ut 1 rfl (Ur 6 576 rfl (Us 3 rfl tc.emp rfl (O.st (vs:=(EJ.enc (0,0))) rfl rfl sizeOf27 rfl rfl rfl rfl rfl mp ?_))))
   intro H5 W5
   have hs5:=W5.size
   replace hk:=hk.fr W5.fr (fun b o hb=>nr (.inl (by have:=(hzb b hb).2;omega)))
   replace tc:=tc.fr W5.fr (fun b o hb _=>nr (.inl (by omega)))
   replace cnt:=W5.fr.keep cnt (nr (.inl (by omega)))
   replace hptr:=W5.fr.keep hptr (nr (.inl (by omega)))
   replace hF:=hF.trans' W5.fr (fun _ _ _ h=>h) (fun b o hb h=>by have h':=h.1;omega)
   have mr:Rd H5 H0.size 0 (EJ.enc (0,0)):=W5.all
   refine ⟨trivial,?_⟩
   refine Uf 1 [6,7] rfl ?_
   replace hgt:=hgt.fr W5.fr (fun b o hb=>nr (.inl (by rcases hlt9 b o hb with h|h<;>omega)))
   refine Go'.ret (vs:=[_,_]) func67 results67 ⟨⟨_,_,rfl,fun _ _=>run_loadVar_agg (fun w=>⟨isAgg27 w,sizeOf27 w⟩) rfl mr⟩,rfl,trivial⟩ ?_
   have hR9:RootT _ tr P (fun b=>S b∨(H1.size≤b∧b<H3.size)) (Pl.put OI x (Gt.L h t)) h t':=⟨hgt,Nat.le_trans hx1 hS.x,hS.l,by rw [hS.p];exact hptr,hnt',fun b o hb=>(haf b o hb).imp (hown b o) (fun h=>⟨h,hS.g.lt hb⟩),hht⟩
   refine ⟨hk,?_,fun b=>S b∨(H1.size≤b∧b<H3.size),⟨⟨tc,srt.put OI,?_,.inl own,hS' _ (by omega),hB',.inr ⟨h,t',hR9.g,hR9.x1,hR9.l,hR9.c,hR9.nt,hR9.own⟩⟩,.inr ⟨h,t',hR9,AbT.put_some _ _ _ hS.ab⟩⟩,hF,fun b hb=>hb.imp id (fun h=>by omega)⟩
   · rw [Pl.got_none OI hfd,hfd];rfl
   · rw [hlp,hfd];exact cnt
  ·
   refine Go'.condT rfl (Ut 1 rfl (Ur 3 9 rfl (Us 0 rfl mq rfl (O.st (vs:=(EJ.enc ((Pl.got OI x (Gt.L h t)).getD (0,0)))) rfl rfl sizeOf27 rfl rfl rfl rfl rfl mp ?_))))
   intro H5 W5
   have hs5:=W5.size
   replace hk:=hk.fr W5.fr (fun b o hb=>nr (.inl (by have:=(hzb b hb).2;omega)))
   replace tc:=tc.fr W5.fr (fun b o hb _=>nr (.inl (by omega)))
   replace cnt:=W5.fr.keep cnt (nr (.inl (by omega)))
   replace hptr:=W5.fr.keep hptr (nr (.inl (by omega)))
   replace hF:=hF.trans' W5.fr (fun _ _ _ h=>h) (fun b o hb h=>by have h':=h.1;omega)
   have mr:Rd H5 H0.size 0 (EJ.enc ((Pl.got OI x (Gt.L h t)).getD (0,0))):=W5.all
   refine ⟨trivial,?_⟩
   refine Uf 1 [0,6,7] rfl ?_
   replace hgt:=hgt.fr W5.fr (fun b o hb=>nr (.inl (by rcases hlt9 b o hb with h|h<;>omega)))
   refine Go'.ret (vs:=[_,_]) func67 results67 ⟨⟨_,_,rfl,fun _ _=>run_loadVar_agg (fun w=>⟨isAgg27 w,sizeOf27 w⟩) rfl mr⟩,rfl,trivial⟩ ?_
   have hR9:RootT _ tr P (fun b=>S b∨(H1.size≤b∧b<H3.size)) (Pl.put OI x (Gt.L h t)) h t':=⟨hgt,Nat.le_trans hx1 hS.x,hS.l,by rw [hS.p];exact hptr,hnt',fun b o hb=>(haf b o hb).imp (hown b o) (fun h=>⟨h,hS.g.lt hb⟩),hht⟩
   refine ⟨hk,?_,fun b=>S b∨(H1.size≤b∧b<H3.size),⟨⟨tc,srt.put OI,?_,.inl own,hS' _ (by omega),hB',.inr ⟨h,t',hR9.g,hR9.x1,hR9.l,hR9.c,hR9.nt,hR9.own⟩⟩,.inr ⟨h,t',hR9,AbT.put_some _ _ _ hS.ab⟩⟩,hF,fun b hb=>hb.imp id (fun h=>by omega)⟩
   · rw [hfd];rfl
   · rw [hlp,hfd];exact cnt
 ·
  refine Ur 1 0 rfl (Uf 1 [0,2,4,6,7,58] rfl (Go'.condT rfl (Ut 1 rfl ?_)))
  replace hg:=((hg.fr hFm (fun b o hb hzz=>hzS b hzz (hown b o hb))).fr hfr (fun _ _ _=>nw)).fr Wp.fr (fun b o hb=>nr (.inl (by have:=hlt b o hb;omega)))
  replace hF:Fr (fun b _=>S b∨hz b) H Hp:=(hF.trans' hfr (fun _ _ _ h=>h) (fun _ _ _ h=>h.elim)).trans' Wp.fr (fun _ _ _ h=>h) (fun b o hb h=>by have h':=h.1;omega)
  obtain ⟨kp0,hN0⟩:=hg.node
  have hc0:=hN0.c0
  rw [hg.isoe] at hc0
  refine Ur 6 512 rfl (Uq 4 rfl (O.callQ rfl rfl rfl call59 rfl (isoLoad_spec true hptr hc0 tc.iso) trivial (Uf 1 [0,2,4,6,7,9] rfl (Ut 1 rfl ?_))))
  clear hc0 hN0
  refine Ur 9 139296 rfl (Uq 2 rfl (O.call rfl rfl rfl call92 rfl (split_spec hP tc hg hful hnt (by omega)) ?_))
  rintro _ H4 ⟨t1,t2,med,rfl,hS⟩
  have hs4:Hp.size≤H4.size:=hS.fr.size
  replace tc:=tc.fr hS.fr (fun b o hb _ hz=>by have:=hnt b o hz;omega)
  replace cnt:=hS.fr.keep cnt (fun hz=>by have:=hnt _ _ hz;omega)
  replace hptr:=hS.fr.keep hptr (fun hz=>by have:=hnt _ _ hz;omega)
  replace mi:=hS.fr.rd mi (fun _ _ hz=>by have:=hlt _ _ hz;omega)
  replace mp:=hS.fr.wr mp
  replace hk:=hk.fr hS.fr (fun b o hb hzz=>hzS b hb (hown b o hzz))
  replace hF:Fr (fun b _=>S b∨hz b) H H4:=hF.trans' hS.fr (fun _ _ _ h=>h) (fun b o _ hz=>.inl (hown b o hz))
  obtain ⟨g1,g2⟩:=And.intro hS.g1 hS.g2
  have l1:∀b o,Gt.af h t1 b o→b<H4.size:=fun b o hb=>g1.lt hb
  have l2:∀b o,Gt.af h t2 b o→b<H4.size:=fun b o hb=>g2.lt hb
  have nt1:∀b o,Gt.af h t1 b o→cx.base≤b:=fun b o ho=>(hS.a1 _ _ ho).elim (hnt b o) (fun h=>by omega)
  have nt2:∀b o,Gt.af h t2 b o→cx.base≤b:=fun b o ho=>(hS.a2 _ _ ho).elim (hnt b o) (fun h=>by omega)
  have pp1:Gt.p h t1<H4.size:=l1 _ _ (Gt.af_p (o:=0) (by omega))
  have pp2:Gt.p h t2<H4.size:=l2 _ _ (Gt.af_p (o:=0) (by omega))
  have bx1:∀b o,Gt.af h t1 b o→b<H.size∨H1.size≤b:=fun b o hb=>(hS.a1 b o hb).imp (hlt b o) (fun h=>by omega)
  have bx2:∀b o,Gt.af h t2 b o→b<H.size∨H1.size≤b:=fun b o hb=>(hS.a2 b o hb).imp (hlt b o) (fun h=>by omega)
  refine ⟨trivial,?_⟩
  refine Uq 3 rfl (O.alloc rfl rfl rfl zeroValue27 ?_)
  intro H5 M5
  refine ⟨trivial,?_⟩
  have hs5:=M5.size
  replace g1:=g1.fr (M5.fr nowhere) (fun _ _ _=>nw)
  replace g2:=g2.fr (M5.fr nowhere) (fun _ _ _=>nw)
  replace tc:=tc.fr (M5.fr nowhere) (fun _ _ _ _=>nw)
  replace cnt:=(M5.fr nowhere).keep cnt nw
  replace hptr:=(M5.fr nowhere).keep hptr nw
  replace hk:=hk.fr (M5.fr nowhere) (fun _ _ _=>nw)
  replace hF:=hF.trans' (M5.fr nowhere) (fun _ _ _ h=>h) (fun _ _ _ h=>h.elim)
  replace mi:=(M5.fr nowhere).rd mi (fun _ _=>nw)
  replace mp:=(M5.fr nowhere).wr mp
  have m14w:Wr H5 H4.size 0 2:=M5.wr 2 (by decide)
  refine Uq 1 rfl (O.st rfl rfl sizeOf27 rfl rfl rfl rfl rfl m14w ?_)
  intro H6 W6
  have hs6:=W6.size
  replace g1:=g1.fr W6.fr (fun b o hb=>nr (.inl (by have:=l1 b o hb;omega)))
  replace g2:=g2.fr W6.fr (fun b o hb=>nr (.inl (by have:=l2 b o hb;omega)))
  replace tc:=tc.fr W6.fr (fun b o hb _=>nr (.inl (by omega)))
  replace cnt:=W6.fr.keep cnt (nr (.inl (by omega)))
  replace hptr:=W6.fr.keep hptr (nr (.inl (by omega)))
  replace hk:=hk.fr W6.fr (fun b o hb=>nr (.inl (by have:=(hzb b hb).2;omega)))
  replace hF:=hF.trans' W6.fr (fun _ _ _ h=>h) (fun b o hb h=>by have h':=h.1;omega)
  replace mi:=W6.fr.rd mi (fun _ _=>nr (.inl (by omega)))
  replace mp:=W6.fr.wr mp
  have m14:Rd H6 H4.size 0 (EJ.enc med):=W6.all
  refine ⟨trivial,?_⟩
  refine Uf 0 [0,2,4,6,7,9,10,11] rfl (Ut 1 rfl (Ur 6 2080 rfl (Uq 2 rfl (O.call rfl rfl rfl call90 rfl (newInner_spec tc.iso) ?_))))
  rintro _ H7 ⟨rfl,hs7,F7,q0,q1,q2,q3,qw,qh,qhw⟩
  replace g1:=g1.fr F7 (fun _ _ _=>nw)
  replace g2:=g2.fr F7 (fun _ _ _=>nw)
  replace tc:=tc.fr F7 (fun _ _ _ _=>nw)
  replace cnt:=F7.keep cnt nw
  replace hptr:=F7.keep hptr nw
  replace hk:=hk.fr F7 (fun _ _ _=>nw)
  replace hF:=hF.trans' F7 (fun _ _ _ h=>h) (fun _ _ _ h=>h.elim)
  replace mi:=F7.rd mi (fun _ _=>nw)
  replace mp:=F7.wr mp
  replace m14:=F7.rd m14 (fun _ _=>nw)
  have hqs:H6.size=H4.size+1:=by omega
  generalize hqe:H6.size=q at*
  refine ⟨trivial,?_⟩
  refine Uq 2 rfl (O.st rfl rfl sizeOf107 rfl rfl rfl rfl rfl (tc.wr.at0 2 1 (by omega)) ?_)
  intro H8 W8
  have hs8:=W8.size
  replace hk:=hk.fr W8.fr (fun b o hb=>nr (.inl (fun e=>hzS b hb (by rw [e];exact own))))
  replace tc:=tc.fr (W8.fr' 1 rfl) (fun b o hb he hz=>by have h1:=he hz.1;have h2:=hz.2.1;have h3:=hz.2.2;omega)
  replace hF:=hF.trans' W8.fr (fun _ _ _ h=>h) (fun b o _ h=>.inl (by rw [h.1];exact own))
  replace mi:=W8.fr.rd mi (fun _ _=>nr (.inl (by omega)))
  replace mp:=W8.fr.wr mp
  replace m14:=W8.fr.rd m14 (fun _ _=>nr (.inl (by omega)))
  replace q0:=W8.fr.keep q0 (nr (.inl (by omega)))
  replace q1:=W8.fr.keep q1 (nr (.inl (by omega)))
  replace q2:=W8.fr.keep q2 (nr (.inl (by omega)))
  replace q3:=W8.fr.keep q3 (nr (.inl (by omega)))
  replace qw:=W8.fr.wr qw
  replace qh:=W8.fr.keep qh (nr (.inl (by omega)))
  replace qhw:=W8.fr.wr qhw
  replace g1:=g1.fr W8.fr (fun b o hb=>nr (.inl (by have:=nt1 b o hb;omega)))
  replace g2:=g2.fr W8.fr (fun b o hb=>nr (.inl (by have:=nt2 b o hb;omega)))
  replace cnt:=W8.keep1 cnt (by omega)
  clear hptr
  have hptr:cl H8 tr 2=some (.pointer (some ⟨q,0,none⟩)):=W8.at
  replace q3:cl H8 q 3=some (.pointer (some ⟨q+1,0,none⟩)):=q3
  refine ⟨trivial,?_⟩
  refine Uf 0 [0,2,4,6,7,9,10,11] rfl (Ut 1 rfl (UD (fun H'=>cl H' tr 2=some (.pointer (some ⟨q,0,none⟩))∧cl H' q 3=some (.pointer (some ⟨q+1,0,none⟩))) 15 839909376 (by kernel_rfl) (⟨hptr,q3⟩) (UL 3 rfl (fun _ h=>h.1) (UL 2 rfl (fun _ h=>h.2) (Ul 3 rfl tc.mx' (Ua 0 (((P.mx+1:Nat):Int)) rfl (by omega) (O.mks (j:=0) (c:=(P.mx+1)) rfl rfl rfl ⟨underlying121,sizeOf107,zeroValue107,⟨_,typeInfo107,rfl⟩,rfl,by decide,by decide⟩ rfl rfl rfl rfl (by omega) (Nat.le_trans (Nat.mul_le_mul_right _ (Nat.le_of_ble_eq_true (n:=_) (m:=4096) rfl)) (by omega)) (by omega) ?_)))))))
  intro H9 M9
  have hs9:=M9.size
  replace g1:=g1.fr (M9.fr nowhere) (fun _ _ _=>nw)
  replace g2:=g2.fr (M9.fr nowhere) (fun _ _ _=>nw)
  replace tc:=tc.fr (M9.fr nowhere) (fun _ _ _ _=>nw)
  replace cnt:=(M9.fr nowhere).keep cnt nw
  replace hptr:=(M9.fr nowhere).keep hptr nw
  replace hk:=hk.fr (M9.fr nowhere) (fun _ _ _=>nw)
  replace hF:=hF.trans' (M9.fr nowhere) (fun _ _ _ h=>h) (fun _ _ _ h=>h.elim)
  replace mi:=(M9.fr nowhere).rd mi (fun _ _=>nw)
  replace mp:=(M9.fr nowhere).wr mp
  replace m14:=(M9.fr nowhere).rd m14 (fun _ _=>nw)
  replace q0:=(M9.fr nowhere).keep q0 nw
  replace q1:=(M9.fr nowhere).keep q1 nw
  replace q2:=(M9.fr nowhere).keep q2 nw
  replace q3:=(M9.fr nowhere).keep q3 nw
  replace qw:=(M9.fr nowhere).wr qw
  replace qh:=(M9.fr nowhere).keep qh nw
  replace qhw:=(M9.fr nowhere).wr qhw
  refine ⟨⟨hptr,q3⟩,?_⟩
  refine Uq 1 rfl (O.st3 rfl rfl sizeOf121 rfl rfl rfl rfl rfl qhw ?_)
  intro H10 W10
  have hs10:=W10.size
  replace g1:=g1.fr W10.fr (fun b o hb=>nr (.inl (by have:=l1 b o hb;omega)))
  replace g2:=g2.fr W10.fr (fun b o hb=>nr (.inl (by have:=l2 b o hb;omega)))
  replace tc:=tc.fr W10.fr (fun b o hb _=>nr (.inl (by omega)))
  replace cnt:=W10.fr.keep cnt (nr (.inl (by omega)))
  replace hptr:=W10.fr.keep hptr (nr (.inl (by omega)))
  replace hk:=hk.fr W10.fr (fun b o hb=>nr (.inl (by have:=(hzb b hb).2;omega)))
  replace hF:=hF.trans' W10.fr (fun _ _ _ h=>h) (fun b o hb h=>by have h':=h.1;omega)
  replace mi:=W10.fr.rd mi (fun _ _=>nr (.inl (by omega)))
  replace mp:=W10.fr.wr mp
  replace m14:=W10.fr.rd m14 (fun _ _=>nr (.inl (by omega)))
  replace q0:=W10.fr.keep q0 (nr (.inl (by omega)))
  replace q1:=W10.fr.keep q1 (nr (.inl (by omega)))
  replace q2:=W10.fr.keep q2 (nr (.inl (by omega)))
  replace q3:=W10.fr.keep q3 (nr (.inl (by omega)))
  replace qw:=W10.fr.wr qw
  replace qhw:=W10.fr.wr qhw
  replace qh:=W10.at
  refine Uf 0 [0,2,4,6,7,9,10,11] rfl (Ut 1 rfl ?_)
  refine Go'.draw2 (fun H'=>cl H' tr 2=some (.pointer (some ⟨q,0,none⟩))∧cl H' q 3=some (.pointer (some ⟨q+1,0,none⟩))) (fun Hn=>∃bk ck:Nat,H10.size≤bk∧bk<Hn.size∧2≤ck∧SlE EP Hn bk 0 ck ([Gt.p h t1,Gt.p h t2].map some)∧cl Hn (q+1) 0=some (.slice (some ⟨bk,0,none⟩) 2 ck)∧cl Hn q 2=some (.slice none 0 0)∧Gt.Good Hn P h t1∧Gt.Good Hn P h t2∧TrC Hn tr P.iso P.mx P.mn∧cl Hn tr 3=some (.int .i64 ((Gt.L h t).length:Int))∧cl Hn tr 2=some (.pointer (some ⟨q,0,none⟩))∧Fr (fun b _=>S b∨hz b) H Hn∧HintOk Hn hv hz∧Rd Hn H.size 0 (EJ.enc x)∧Wr Hn H0.size 0 2∧Rd Hn H4.size 0 (EJ.enc med)∧cl Hn q 0=some (.int .u64 (P.iso:Int))∧cl Hn q 1=some (.int .i64 0)∧cl Hn q 3=some (.pointer (some ⟨q+1,0,none⟩))∧Wr Hn q 0 4∧Wr Hn (q+1) 0 1) [(0,.pointer (some ⟨tr,0,none⟩)),(2,hv),(4,.pointer (some ⟨H.size,0,none⟩)),(6,.pointer (some ⟨H0.size,0,none⟩)),(11,.pointer (some ⟨H4.size,0,none⟩))] 7 10 [(0,0),(1,0),(2,0),(3,0),(4,0),(5,0),(6,0),(8,0),(9,0),(7,2),(10,2),(11,2),(12,0),(13,3)] [(0,0),(1,0),(2,0),(3,0),(4,0),(5,0),(6,0),(8,0),(9,0),(10,2),(7,2),(11,2),(12,0),(13,3)] (by kernel_rfl) (by kernel_rfl) (⟨hptr,q3⟩) ?_ ?_ ?_
  ·
   intro _ _ _ hj
   refine UL 3 rfl (fun _ h=>h.1) (UL 2 rfl (fun _ h=>h.2) (Uq 2 rfl (O.bsl (cs:=[]) rfl rfl rfl ⟨underlying121,sizeOf107,zeroValue107,⟨_,typeInfo107,rfl⟩,rfl,by decide,by decide⟩ rfl (by decide) (by kernel_rfl) ?_)))
   intro H11 MH11
   have hsH11:=MH11.size
   replace g1:=g1.fr (MH11.fr nowhere) (fun _ _ _=>nw)
   replace g2:=g2.fr (MH11.fr nowhere) (fun _ _ _=>nw)
   replace tc:=tc.fr (MH11.fr nowhere) (fun _ _ _ _=>nw)
   replace cnt:=(MH11.fr nowhere).keep cnt nw
   replace hptr:=(MH11.fr nowhere).keep hptr nw
   replace hk:=hk.fr (MH11.fr nowhere) (fun _ _ _=>nw)
   replace hF:=hF.trans' (MH11.fr nowhere) (fun _ _ _ h=>h) (fun _ _ _ h=>h.elim)
   replace mi:=(MH11.fr nowhere).rd mi (fun _ _=>nw)
   replace mp:=(MH11.fr nowhere).wr mp
   replace m14:=(MH11.fr nowhere).rd m14 (fun _ _=>nw)
   replace q0:=(MH11.fr nowhere).keep q0 nw
   replace q1:=(MH11.fr nowhere).keep q1 nw
   replace q2:=(MH11.fr nowhere).keep q2 nw
   replace q3:=(MH11.fr nowhere).keep q3 nw
   replace qw:=(MH11.fr nowhere).wr qw
   replace qh:=(MH11.fr nowhere).keep qh nw
   replace qhw:=(MH11.fr nowhere).wr qhw
   refine ⟨⟨hptr,q3⟩,?_⟩
   refine O.bsl (cs:=[ptr (Gt.p h t),ptr (Gt.p h t2)]) rfl rfl rfl ⟨underlying121,sizeOf107,zeroValue107,⟨_,typeInfo107,rfl⟩,rfl,by decide,by decide⟩ rfl (by decide) (by kernel_rfl) ?_
   intro H12 MH12
   have hsH12:=MH12.size
   replace g1:=g1.fr (MH12.fr nowhere) (fun _ _ _=>nw)
   replace g2:=g2.fr (MH12.fr nowhere) (fun _ _ _=>nw)
   replace tc:=tc.fr (MH12.fr nowhere) (fun _ _ _ _=>nw)
   replace cnt:=(MH12.fr nowhere).keep cnt nw
   replace hptr:=(MH12.fr nowhere).keep hptr nw
   replace hk:=hk.fr (MH12.fr nowhere) (fun _ _ _=>nw)
   replace hF:=hF.trans' (MH12.fr nowhere) (fun _ _ _ h=>h) (fun _ _ _ h=>h.elim)
   replace mi:=(MH12.fr nowhere).rd mi (fun _ _=>nw)
   replace mp:=(MH12.fr nowhere).wr mp
   replace m14:=(MH12.fr nowhere).rd m14 (fun _ _=>nw)
   replace q0:=(MH12.fr nowhere).keep q0 nw
   replace q1:=(MH12.fr nowhere).keep q1 nw
   replace q2:=(MH12.fr nowhere).keep q2 nw
   replace q3:=(MH12.fr nowhere).keep q3 nw
   replace qw:=(MH12.fr nowhere).wr qw
   replace qh:=(MH12.fr nowhere).keep qh nw
   replace qhw:=(MH12.fr nowhere).wr qhw
   have m12:Rd H12 H11.size 0 [ptr (Gt.p h t),ptr (Gt.p h t2)]:=MH12.rd _ [] (by simp)
   refine ⟨⟨hptr,q3⟩,?_⟩
   refine O.app (m:=2) (news:=[ptr (Gt.p h t),ptr (Gt.p h t2)]) rfl rfl rfl ⟨underlying121,sizeOf107,zeroValue107,⟨_,typeInfo107,rfl⟩,rfl,by decide,by decide⟩ rfl (Sl.none _ _ _ _) rfl (.inl ⟨_,_,_,rfl,m12⟩) rfl rfl (Nat.le_trans (Nat.mul_le_mul_left _ (Nat.le_of_ble_eq_true (n:=_) (m:=4096) rfl)) (by omega)) (by omega) ?_
   intro bk ok ck H13 ha
   obtain ⟨hbk,rfl,hs13,hck,fa⟩:=ha.fromNone (by decide)
   have hksl:SlE EP H13 bk 0 ck ([Gt.p h t1,Gt.p h t2].map some):=by rw [hS.p1];exact ha.sl
   replace g1:=g1.fr fa (fun _ _ _=>nw)
   replace g2:=g2.fr fa (fun _ _ _=>nw)
   replace tc:=tc.fr fa (fun _ _ _ _=>nw)
   replace cnt:=fa.keep cnt nw
   replace hptr:=fa.keep hptr nw
   replace hk:=hk.fr fa (fun _ _ _=>nw)
   replace hF:=hF.trans' fa (fun _ _ _ h=>h) (fun _ _ _ h=>h.elim)
   replace mi:=fa.rd mi (fun _ _=>nw)
   replace mp:=fa.wr mp
   replace m14:=fa.rd m14 (fun _ _=>nw)
   replace q0:=fa.keep q0 nw
   replace q1:=fa.keep q1 nw
   replace q2:=fa.keep q2 nw
   replace q3:=fa.keep q3 nw
   replace qw:=fa.wr qw
   replace qh:=fa.keep qh nw
   replace qhw:=fa.wr qhw
   refine ⟨⟨hptr,q3⟩,?_⟩
   refine Uq 1 rfl (O.st3 rfl rfl sizeOf121 rfl rfl rfl rfl rfl qhw ?_)
   intro H14 W14
   have hs14:=W14.size
   replace g1:=g1.fr W14.fr (fun b o hb=>nr (.inl (by have:=l1 b o hb;omega)))
   replace g2:=g2.fr W14.fr (fun b o hb=>nr (.inl (by have:=l2 b o hb;omega)))
   replace tc:=tc.fr W14.fr (fun b o hb _=>nr (.inl (by omega)))
   replace cnt:=W14.fr.keep cnt (nr (.inl (by omega)))
   replace hptr:=W14.fr.keep hptr (nr (.inl (by omega)))
   replace hk:=hk.fr W14.fr (fun b o hb=>nr (.inl (by have:=(hzb b hb).2;omega)))
   replace hF:=hF.trans' W14.fr (fun _ _ _ h=>h) (fun b o hb h=>by have h':=h.1;omega)
   replace mi:=W14.fr.rd mi (fun _ _=>nr (.inl (by omega)))
   replace mp:=W14.fr.wr mp
   replace m14:=W14.fr.rd m14 (fun _ _=>nr (.inl (by omega)))
   replace q0:=W14.fr.keep q0 (nr (.inl (by omega)))
   replace q1:=W14.fr.keep q1 (nr (.inl (by omega)))
   replace q2:=W14.fr.keep q2 (nr (.inl (by omega)))
   replace q3:=W14.fr.keep q3 (nr (.inl (by omega)))
   replace qw:=W14.fr.wr qw
   replace qhw:=W14.fr.wr qhw
   replace hksl:=hksl.fr W14.fr (fun _ _ _=>nr (.inl (by omega)))
   replace qh:=W14.at
   refine Pl.fin [(0,.pointer (some ⟨tr,0,none⟩)),(2,hv),(4,.pointer (some ⟨H.size,0,none⟩)),(6,.pointer (some ⟨H0.size,0,none⟩)),(11,.pointer (some ⟨H4.size,0,none⟩))] ⟨rfl,rfl,rfl,rfl,rfl,trivial⟩ (hj _ ?_)
   exact ⟨bk,ck,by omega,by omega,hck,hksl,qh,q2,g1,g2,tc,cnt,hptr,hF,hk,mi,mp,m14,q0,q1,q3,qw,qhw⟩
  ·
   intro _ _ _ hj
   refine UL 3 rfl (fun _ h=>h.1) (UL 2 rfl (fun _ h=>h.2) (Uq 2 rfl (O.bsl (cs:=[ptr (Gt.p h t),ptr (Gt.p h t2)]) rfl rfl rfl ⟨underlying121,sizeOf107,zeroValue107,⟨_,typeInfo107,rfl⟩,rfl,by decide,by decide⟩ rfl (by decide) (by kernel_rfl) ?_)))
   intro H11 MH11
   have hsH11:=MH11.size
   replace g1:=g1.fr (MH11.fr nowhere) (fun _ _ _=>nw)
   replace g2:=g2.fr (MH11.fr nowhere) (fun _ _ _=>nw)
   replace tc:=tc.fr (MH11.fr nowhere) (fun _ _ _ _=>nw)
   replace cnt:=(MH11.fr nowhere).keep cnt nw
   replace hptr:=(MH11.fr nowhere).keep hptr nw
   replace hk:=hk.fr (MH11.fr nowhere) (fun _ _ _=>nw)
   replace hF:=hF.trans' (MH11.fr nowhere) (fun _ _ _ h=>h) (fun _ _ _ h=>h.elim)
   replace mi:=(MH11.fr nowhere).rd mi (fun _ _=>nw)
   replace mp:=(MH11.fr nowhere).wr mp
   replace m14:=(MH11.fr nowhere).rd m14 (fun _ _=>nw)
   replace q0:=(MH11.fr nowhere).keep q0 nw
   replace q1:=(MH11.fr nowhere).keep q1 nw
   replace q2:=(MH11.fr nowhere).keep q2 nw
   replace q3:=(MH11.fr nowhere).keep q3 nw
   replace qw:=(MH11.fr nowhere).wr qw
   replace qh:=(MH11.fr nowhere).keep qh nw
   replace qhw:=(MH11.fr nowhere).wr qhw
   have m12:Rd H11 H10.size 0 [ptr (Gt.p h t),ptr (Gt.p h t2)]:=MH11.rd _ [] (by simp)
   refine ⟨⟨hptr,q3⟩,?_⟩
   refine O.bsl (cs:=[]) rfl rfl rfl ⟨underlying121,sizeOf107,zeroValue107,⟨_,typeInfo107,rfl⟩,rfl,by decide,by decide⟩ rfl (by decide) (by kernel_rfl) ?_
   intro H12 MH12
   have hsH12:=MH12.size
   replace g1:=g1.fr (MH12.fr nowhere) (fun _ _ _=>nw)
   replace g2:=g2.fr (MH12.fr nowhere) (fun _ _ _=>nw)
   replace tc:=tc.fr (MH12.fr nowhere) (fun _ _ _ _=>nw)
   replace cnt:=(MH12.fr nowhere).keep cnt nw
   replace hptr:=(MH12.fr nowhere).keep hptr nw
   replace hk:=hk.fr (MH12.fr nowhere) (fun _ _ _=>nw)
   replace hF:=hF.trans' (MH12.fr nowhere) (fun _ _ _ h=>h) (fun _ _ _ h=>h.elim)
   replace mi:=(MH12.fr nowhere).rd mi (fun _ _=>nw)
   replace mp:=(MH12.fr nowhere).wr mp
   replace m14:=(MH12.fr nowhere).rd m14 (fun _ _=>nw)
   replace q0:=(MH12.fr nowhere).keep q0 nw
   replace q1:=(MH12.fr nowhere).keep q1 nw
   replace q2:=(MH12.fr nowhere).keep q2 nw
   replace q3:=(MH12.fr nowhere).keep q3 nw
   replace qw:=(MH12.fr nowhere).wr qw
   replace qh:=(MH12.fr nowhere).keep qh nw
   replace qhw:=(MH12.fr nowhere).wr qhw
   replace m12:=(MH12.fr nowhere).rd m12 (fun _ _=>nw)
   refine ⟨⟨hptr,q3⟩,?_⟩
   refine O.app (m:=2) (news:=[ptr (Gt.p h t),ptr (Gt.p h t2)]) rfl rfl rfl ⟨underlying121,sizeOf107,zeroValue107,⟨_,typeInfo107,rfl⟩,rfl,by decide,by decide⟩ rfl (Sl.none _ _ _ _) rfl (.inl ⟨_,_,_,rfl,m12⟩) rfl rfl (Nat.le_trans (Nat.mul_le_mul_left _ (Nat.le_of_ble_eq_true (n:=_) (m:=4096) rfl)) (by omega)) (by omega) ?_
   intro bk ok ck H13 ha
   obtain ⟨hbk,rfl,hs13,hck,fa⟩:=ha.fromNone (by decide)
   have hksl:SlE EP H13 bk 0 ck ([Gt.p h t1,Gt.p h t2].map some):=by rw [hS.p1];exact ha.sl
   replace g1:=g1.fr fa (fun _ _ _=>nw)
   replace g2:=g2.fr fa (fun _ _ _=>nw)
   replace tc:=tc.fr fa (fun _ _ _ _=>nw)
   replace cnt:=fa.keep cnt nw
   replace hptr:=fa.keep hptr nw
   replace hk:=hk.fr fa (fun _ _ _=>nw)
   replace hF:=hF.trans' fa (fun _ _ _ h=>h) (fun _ _ _ h=>h.elim)
   replace mi:=fa.rd mi (fun _ _=>nw)
   replace mp:=fa.wr mp
   replace m14:=fa.rd m14 (fun _ _=>nw)
   replace q0:=fa.keep q0 nw
   replace q1:=fa.keep q1 nw
   replace q2:=fa.keep q2 nw
   replace q3:=fa.keep q3 nw
   replace qw:=fa.wr qw
   replace qh:=fa.keep qh nw
   replace qhw:=fa.wr qhw
   refine ⟨⟨hptr,q3⟩,?_⟩
   refine Uq 1 rfl (O.st3 rfl rfl sizeOf121 rfl rfl rfl rfl rfl qhw ?_)
   intro H14 W14
   have hs14:=W14.size
   replace g1:=g1.fr W14.fr (fun b o hb=>nr (.inl (by have:=l1 b o hb;omega)))
   replace g2:=g2.fr W14.fr (fun b o hb=>nr (.inl (by have:=l2 b o hb;omega)))
   replace tc:=tc.fr W14.fr (fun b o hb _=>nr (.inl (by omega)))
   replace cnt:=W14.fr.keep cnt (nr (.inl (by omega)))
   replace hptr:=W14.fr.keep hptr (nr (.inl (by omega)))
   replace hk:=hk.fr W14.fr (fun b o hb=>nr (.inl (by have:=(hzb b hb).2;omega)))
   replace hF:=hF.trans' W14.fr (fun _ _ _ h=>h) (fun b o hb h=>by have h':=h.1;omega)
   replace mi:=W14.fr.rd mi (fun _ _=>nr (.inl (by omega)))
   replace mp:=W14.fr.wr mp
   replace m14:=W14.fr.rd m14 (fun _ _=>nr (.inl (by omega)))
   replace q0:=W14.fr.keep q0 (nr (.inl (by omega)))
   replace q1:=W14.fr.keep q1 (nr (.inl (by omega)))
   replace q2:=W14.fr.keep q2 (nr (.inl (by omega)))
   replace q3:=W14.fr.keep q3 (nr (.inl (by omega)))
   replace qw:=W14.fr.wr qw
   replace qhw:=W14.fr.wr qhw
   replace hksl:=hksl.fr W14.fr (fun _ _ _=>nr (.inl (by omega)))
   replace qh:=W14.at
   refine Pl.fin [(0,.pointer (some ⟨tr,0,none⟩)),(2,hv),(4,.pointer (some ⟨H.size,0,none⟩)),(6,.pointer (some ⟨H0.size,0,none⟩)),(11,.pointer (some ⟨H4.size,0,none⟩))] ⟨rfl,rfl,rfl,rfl,rfl,trivial⟩ (hj _ ?_)
   exact ⟨bk,ck,by omega,by omega,hck,hksl,qh,q2,g1,g2,tc,cnt,hptr,hF,hk,mi,mp,m14,q0,q1,q3,qw,qhw⟩
  clear q2
  rintro H14 ⟨bk,ck,hbk1,hbk2,hck,hksl,qh,q2,g1,g2,tc,cnt,hptr,hF,hk,mi,mp,m14,q0,q1,q3,qw,qhw⟩
  refine Ut 1 rfl ?_
  refine Go'.draw2 (fun H'=>cl H' tr 2=some (.pointer (some ⟨q,0,none⟩))∧Rd H' H4.size 0 (EJ.enc med)) (fun Hn=>∃b' c':Nat,H14.size≤b'∧b'<Hn.size∧1≤c'∧SlE EJ Hn b' 0 c' [med]∧SlE EP Hn bk 0 ck ([Gt.p h t1,Gt.p h t2].map some)∧cl Hn (q+1) 0=some (.slice (some ⟨bk,0,none⟩) 2 ck)∧cl Hn q 2=some (.slice (some ⟨b',0,none⟩) 1 c')∧Gt.Good Hn P h t1∧Gt.Good Hn P h t2∧TrC Hn tr P.iso P.mx P.mn∧cl Hn tr 3=some (.int .i64 ((Gt.L h t).length:Int))∧cl Hn tr 2=some (.pointer (some ⟨q,0,none⟩))∧Fr (fun b _=>S b∨hz b) H Hn∧HintOk Hn hv hz∧Rd Hn H.size 0 (EJ.enc x)∧Wr Hn H0.size 0 2∧Rd Hn H4.size 0 (EJ.enc med)∧cl Hn q 0=some (.int .u64 (P.iso:Int))∧cl Hn q 1=some (.int .i64 0)∧cl Hn q 3=some (.pointer (some ⟨q+1,0,none⟩))∧Wr Hn q 0 4∧Wr Hn (q+1) 0 1) [(0,.pointer (some ⟨tr,0,none⟩)),(2,hv),(4,.pointer (some ⟨H.size,0,none⟩)),(6,.pointer (some ⟨H0.size,0,none⟩))] 4 6 [(0,0),(1,0),(2,0),(3,0),(5,0),(4,2),(6,2),(7,2),(8,0),(9,0),(10,3)] [(0,0),(1,0),(2,0),(3,0),(5,0),(6,2),(4,2),(7,2),(8,0),(9,0),(10,3)] (by kernel_rfl) (by kernel_rfl) (⟨hptr,m14⟩) ?_ ?_ ?_
  ·
   intro _ _ _ hj
   refine UL 3 rfl (fun _ h=>h.1) (US 0 rfl (fun _ h=>h.2) rfl (O.bsl (cs:=[]) rfl rfl rfl ⟨underlying25,sizeOf27,zeroValue27,⟨_,typeInfo27,rfl⟩,rfl,by decide,by decide⟩ rfl (by decide) (by kernel_rfl) ?_))
   intro H15 MH15
   have hsH15:=MH15.size
   replace g1:=g1.fr (MH15.fr nowhere) (fun _ _ _=>nw)
   replace g2:=g2.fr (MH15.fr nowhere) (fun _ _ _=>nw)
   replace tc:=tc.fr (MH15.fr nowhere) (fun _ _ _ _=>nw)
   replace cnt:=(MH15.fr nowhere).keep cnt nw
   replace hptr:=(MH15.fr nowhere).keep hptr nw
   replace hk:=hk.fr (MH15.fr nowhere) (fun _ _ _=>nw)
   replace hF:=hF.trans' (MH15.fr nowhere) (fun _ _ _ h=>h) (fun _ _ _ h=>h.elim)
   replace mi:=(MH15.fr nowhere).rd mi (fun _ _=>nw)
   replace mp:=(MH15.fr nowhere).wr mp
   replace m14:=(MH15.fr nowhere).rd m14 (fun _ _=>nw)
   replace q0:=(MH15.fr nowhere).keep q0 nw
   replace q1:=(MH15.fr nowhere).keep q1 nw
   replace q2:=(MH15.fr nowhere).keep q2 nw
   replace q3:=(MH15.fr nowhere).keep q3 nw
   replace qw:=(MH15.fr nowhere).wr qw
   replace qh:=(MH15.fr nowhere).keep qh nw
   replace qhw:=(MH15.fr nowhere).wr qhw
   replace hksl:=hksl.fr (MH15.fr nowhere) (fun _ _ _=>nw)
   refine ⟨⟨hptr,m14⟩,?_⟩
   refine O.bsl (cs:=(EJ.enc med)) rfl rfl rfl ⟨underlying25,sizeOf27,zeroValue27,⟨_,typeInfo27,rfl⟩,rfl,by decide,by decide⟩ rfl (by decide) (by kernel_rfl) ?_
   intro H16 MH16
   have hsH16:=MH16.size
   replace g1:=g1.fr (MH16.fr nowhere) (fun _ _ _=>nw)
   replace g2:=g2.fr (MH16.fr nowhere) (fun _ _ _=>nw)
   replace tc:=tc.fr (MH16.fr nowhere) (fun _ _ _ _=>nw)
   replace cnt:=(MH16.fr nowhere).keep cnt nw
   replace hptr:=(MH16.fr nowhere).keep hptr nw
   replace hk:=hk.fr (MH16.fr nowhere) (fun _ _ _=>nw)
   replace hF:=hF.trans' (MH16.fr nowhere) (fun _ _ _ h=>h) (fun _ _ _ h=>h.elim)
   replace mi:=(MH16.fr nowhere).rd mi (fun _ _=>nw)
   replace mp:=(MH16.fr nowhere).wr mp
   replace m14:=(MH16.fr nowhere).rd m14 (fun _ _=>nw)
   replace q0:=(MH16.fr nowhere).keep q0 nw
   replace q1:=(MH16.fr nowhere).keep q1 nw
   replace q2:=(MH16.fr nowhere).keep q2 nw
   replace q3:=(MH16.fr nowhere).keep q3 nw
   replace qw:=(MH16.fr nowhere).wr qw
   replace qh:=(MH16.fr nowhere).keep qh nw
   replace qhw:=(MH16.fr nowhere).wr qhw
   replace hksl:=hksl.fr (MH16.fr nowhere) (fun _ _ _=>nw)
   have m16:Rd H16 H15.size 0 (EJ.enc med):=MH16.rd _ [] (by simp)
   refine ⟨⟨hptr,m14⟩,?_⟩
   refine O.app (m:=1) (news:=(EJ.enc med)) rfl rfl rfl ⟨underlying25,sizeOf27,zeroValue27,⟨_,typeInfo27,rfl⟩,rfl,by decide,by decide⟩ rfl (Sl.none _ _ _ _) rfl (.inl ⟨_,_,_,rfl,m16⟩) rfl rfl (Nat.le_trans (Nat.mul_le_mul_left _ (Nat.le_of_ble_eq_true (n:=_) (m:=4096) rfl)) (by omega)) (by omega) ?_
   intro b' o' c' H17 ha2
   obtain ⟨hbn,rfl,hs17,hcn,fa2⟩:=ha2.fromNone (by decide)
   have hisl:SlE EJ H17 b' 0 c' [med]:=ha2.sl
   replace g1:=g1.fr fa2 (fun _ _ _=>nw)
   replace g2:=g2.fr fa2 (fun _ _ _=>nw)
   replace tc:=tc.fr fa2 (fun _ _ _ _=>nw)
   replace cnt:=fa2.keep cnt nw
   replace hptr:=fa2.keep hptr nw
   replace hk:=hk.fr fa2 (fun _ _ _=>nw)
   replace hF:=hF.trans' fa2 (fun _ _ _ h=>h) (fun _ _ _ h=>h.elim)
   replace mi:=fa2.rd mi (fun _ _=>nw)
   replace mp:=fa2.wr mp
   replace m14:=fa2.rd m14 (fun _ _=>nw)
   replace q0:=fa2.keep q0 nw
   replace q1:=fa2.keep q1 nw
   replace q2:=fa2.keep q2 nw
   replace q3:=fa2.keep q3 nw
   replace qw:=fa2.wr qw
   replace qh:=fa2.keep qh nw
   replace qhw:=fa2.wr qhw
   replace hksl:=hksl.fr fa2 (fun _ _ _=>nw)
   refine ⟨⟨hptr,m14⟩,?_⟩
   refine Uq 2 rfl (O.st3 rfl rfl sizeOf25 rfl rfl rfl rfl rfl (qw.at0 2 1 (by omega)) ?_)
   intro H18 W18
   have hs18:=W18.size
   replace g1:=g1.fr W18.fr (fun b o hb=>nr (.inl (by have:=l1 b o hb;omega)))
   replace g2:=g2.fr W18.fr (fun b o hb=>nr (.inl (by have:=l2 b o hb;omega)))
   replace tc:=tc.fr W18.fr (fun b o hb _=>nr (.inl (by omega)))
   replace cnt:=W18.fr.keep cnt (nr (.inl (by omega)))
   replace hptr:=W18.fr.keep hptr (nr (.inl (by omega)))
   replace hk:=hk.fr W18.fr (fun b o hb=>nr (.inl (by have:=(hzb b hb).2;omega)))
   replace hF:=hF.trans' W18.fr (fun _ _ _ h=>h) (fun b o hb h=>by have h':=h.1;omega)
   replace mi:=W18.fr.rd mi (fun _ _=>nr (.inl (by omega)))
   replace mp:=W18.fr.wr mp
   replace m14:=W18.fr.rd m14 (fun _ _=>nr (.inl (by omega)))
   replace qw:=W18.fr.wr qw
   replace qh:=W18.fr.keep qh (nr (.inl (by omega)))
   replace qhw:=W18.fr.wr qhw
   replace hksl:=hksl.fr W18.fr (fun _ _ _=>nr (.inl (by omega)))
   replace hisl:=hisl.fr W18.fr (fun _ _ _=>nr (.inl (by omega)))
   replace q0:=W18.keep1 q0 (by omega)
   replace q1:=W18.keep1 q1 (by omega)
   replace q2:=W18.at
   replace q3:=W18.keep1 q3 (by omega)
   refine Pl.fin [(0,.pointer (some ⟨tr,0,none⟩)),(2,hv),(4,.pointer (some ⟨H.size,0,none⟩)),(6,.pointer (some ⟨H0.size,0,none⟩))] ⟨rfl,rfl,rfl,rfl,trivial⟩ (hj _ ?_)
   exact ⟨b',c',by omega,by omega,hcn,hisl,hksl,qh,q2,g1,g2,tc,cnt,hptr,hF,hk,mi,mp,m14,q0,q1,q3,qw,qhw⟩
  ·
   intro _ _ _ hj
   refine UL 3 rfl (fun _ h=>h.1) (US 0 rfl (fun _ h=>h.2) rfl (O.bsl (cs:=(EJ.enc med)) rfl rfl rfl ⟨underlying25,sizeOf27,zeroValue27,⟨_,typeInfo27,rfl⟩,rfl,by decide,by decide⟩ rfl (by decide) (by kernel_rfl) ?_))
   intro H15 MH15
   have hsH15:=MH15.size
   replace g1:=g1.fr (MH15.fr nowhere) (fun _ _ _=>nw)
   replace g2:=g2.fr (MH15.fr nowhere) (fun _ _ _=>nw)
   replace tc:=tc.fr (MH15.fr nowhere) (fun _ _ _ _=>nw)
   replace cnt:=(MH15.fr nowhere).keep cnt nw
   replace hptr:=(MH15.fr nowhere).keep hptr nw
   replace hk:=hk.fr (MH15.fr nowhere) (fun _ _ _=>nw)
   replace hF:=hF.trans' (MH15.fr nowhere) (fun _ _ _ h=>h) (fun _ _ _ h=>h.elim)
   replace mi:=(MH15.fr nowhere).rd mi (fun _ _=>nw)
   replace mp:=(MH15.fr nowhere).wr mp
   replace m14:=(MH15.fr nowhere).rd m14 (fun _ _=>nw)
   replace q0:=(MH15.fr nowhere).keep q0 nw
   replace q1:=(MH15.fr nowhere).keep q1 nw
   replace q2:=(MH15.fr nowhere).keep q2 nw
   replace q3:=(MH15.fr nowhere).keep q3 nw
   replace qw:=(MH15.fr nowhere).wr qw
   replace qh:=(MH15.fr nowhere).keep qh nw
   replace qhw:=(MH15.fr nowhere).wr qhw
   replace hksl:=hksl.fr (MH15.fr nowhere) (fun _ _ _=>nw)
   have m16:Rd H15 H14.size 0 (EJ.enc med):=MH15.rd _ [] (by simp)
   refine ⟨⟨hptr,m14⟩,?_⟩
   refine O.bsl (cs:=[]) rfl rfl rfl ⟨underlying25,sizeOf27,zeroValue27,⟨_,typeInfo27,rfl⟩,rfl,by decide,by decide⟩ rfl (by decide) (by kernel_rfl) ?_
   intro H16 MH16
   have hsH16:=MH16.size
   replace g1:=g1.fr (MH16.fr nowhere) (fun _ _ _=>nw)
   replace g2:=g2.fr (MH16.fr nowhere) (fun _ _ _=>nw)
   replace tc:=tc.fr (MH16.fr nowhere) (fun _ _ _ _=>nw)
   replace cnt:=(MH16.fr nowhere).keep cnt nw
   replace hptr:=(MH16.fr nowhere).keep hptr nw
   replace hk:=hk.fr (MH16.fr nowhere) (fun _ _ _=>nw)
   replace hF:=hF.trans' (MH16.fr nowhere) (fun _ _ _ h=>h) (fun _ _ _ h=>h.elim)
   replace mi:=(MH16.fr nowhere).rd mi (fun _ _=>nw)
   replace mp:=(MH16.fr nowhere).wr mp
   replace m14:=(MH16.fr nowhere).rd m14 (fun _ _=>nw)
   replace q0:=(MH16.fr nowhere).keep q0 nw
   replace q1:=(MH16.fr nowhere).keep q1 nw
   replace q2:=(MH16.fr nowhere).keep q2 nw
   replace q3:=(MH16.fr nowhere).keep q3 nw
   replace qw:=(MH16.fr nowhere).wr qw
   replace qh:=(MH16.fr nowhere).keep qh nw
   replace qhw:=(MH16.fr nowhere).wr qhw
   replace hksl:=hksl.fr (MH16.fr nowhere) (fun _ _ _=>nw)
   replace m16:=(MH16.fr nowhere).rd m16 (fun _ _=>nw)
   refine ⟨⟨hptr,m14⟩,?_⟩
   refine O.app (m:=1) (news:=(EJ.enc med)) rfl rfl rfl ⟨underlying25,sizeOf27,zeroValue27,⟨_,typeInfo27,rfl⟩,rfl,by decide,by decide⟩ rfl (Sl.none _ _ _ _) rfl (.inl ⟨_,_,_,rfl,m16⟩) rfl rfl (Nat.le_trans (Nat.mul_le_mul_left _ (Nat.le_of_ble_eq_true (n:=_) (m:=4096) rfl)) (by omega)) (by omega) ?_
   intro b' o' c' H17 ha2
   obtain ⟨hbn,rfl,hs17,hcn,fa2⟩:=ha2.fromNone (by decide)
   have hisl:SlE EJ H17 b' 0 c' [med]:=ha2.sl
   replace g1:=g1.fr fa2 (fun _ _ _=>nw)
   replace g2:=g2.fr fa2 (fun _ _ _=>nw)
   replace tc:=tc.fr fa2 (fun _ _ _ _=>nw)
   replace cnt:=fa2.keep cnt nw
   replace hptr:=fa2.keep hptr nw
   replace hk:=hk.fr fa2 (fun _ _ _=>nw)
   replace hF:=hF.trans' fa2 (fun _ _ _ h=>h) (fun _ _ _ h=>h.elim)
   replace mi:=fa2.rd mi (fun _ _=>nw)
   replace mp:=fa2.wr mp
   replace m14:=fa2.rd m14 (fun _ _=>nw)
   replace q0:=fa2.keep q0 nw
   replace q1:=fa2.keep q1 nw
   replace q2:=fa2.keep q2 nw
   replace q3:=fa2.keep q3 nw
   replace qw:=fa2.wr qw
   replace qh:=fa2.keep qh nw
   replace qhw:=fa2.wr qhw
   replace hksl:=hksl.fr fa2 (fun _ _ _=>nw)
   refine ⟨⟨hptr,m14⟩,?_⟩
   refine Uq 2 rfl (O.st3 rfl rfl sizeOf25 rfl rfl rfl rfl rfl (qw.at0 2 1 (by omega)) ?_)
   intro H18 W18
   have hs18:=W18.size
   replace g1:=g1.fr W18.fr (fun b o hb=>nr (.inl (by have:=l1 b o hb;omega)))
   replace g2:=g2.fr W18.fr (fun b o hb=>nr (.inl (by have:=l2 b o hb;omega)))
   replace tc:=tc.fr W18.fr (fun b o hb _=>nr (.inl (by omega)))
   replace cnt:=W18.fr.keep cnt (nr (.inl (by omega)))
   replace hptr:=W18.fr.keep hptr (nr (.inl (by omega)))
   replace hk:=hk.fr W18.fr (fun b o hb=>nr (.inl (by have:=(hzb b hb).2;omega)))
   replace hF:=hF.trans' W18.fr (fun _ _ _ h=>h) (fun b o hb h=>by have h':=h.1;omega)
   replace mi:=W18.fr.rd mi (fun _ _=>nr (.inl (by omega)))
   replace mp:=W18.fr.wr mp
   replace m14:=W18.fr.rd m14 (fun _ _=>nr (.inl (by omega)))
   replace qw:=W18.fr.wr qw
   replace qh:=W18.fr.keep qh (nr (.inl (by omega)))
   replace qhw:=W18.fr.wr qhw
   replace hksl:=hksl.fr W18.fr (fun _ _ _=>nr (.inl (by omega)))
   replace hisl:=hisl.fr W18.fr (fun _ _ _=>nr (.inl (by omega)))
   replace q0:=W18.keep1 q0 (by omega)
   replace q1:=W18.keep1 q1 (by omega)
   replace q2:=W18.at
   replace q3:=W18.keep1 q3 (by omega)
   refine Pl.fin [(0,.pointer (some ⟨tr,0,none⟩)),(2,hv),(4,.pointer (some ⟨H.size,0,none⟩)),(6,.pointer (some ⟨H0.size,0,none⟩))] ⟨rfl,rfl,rfl,rfl,trivial⟩ (hj _ ?_)
   exact ⟨b',c',by omega,by omega,hcn,hisl,hksl,qh,q2,g1,g2,tc,cnt,hptr,hF,hk,mi,mp,m14,q0,q1,q3,qw,qhw⟩
  clear q2
  rintro H18 ⟨b',c',hbn1,hbn2,hcn,hisl,hksl,qh,q2,g1,g2,tc,cnt,hptr,hF,hk,mi,mp,m14,q0,q1,q3,qw,qhw⟩
  refine Ut 1 rfl ?_
  obtain ⟨cc1,cd1⟩:=g1.cnOf
  obtain ⟨cc2,cd2⟩:=g2.cnOf
  have hLs:(Gt.L h t).length=(Gt.L h t1).length+((Gt.L h t2).length+1):=by rw [hS.l,List.length_append,List.length_cons]
  have hsm:(([Gt.p h t1,Gt.p h t2].map (cnOf H18)).sum)=(Gt.L h t1).length+(Gt.L h t2).length:=by
   simp only [List.map_cons,List.map_nil,List.sum_cons,List.sum_nil,cd1,cd2,Nat.add_zero]
  refine Ur 5 576 rfl (Ul 3 rfl hptr ?_)
  refine O.call rfl rfl rfl call93 rfl (updInner_spec (m:=1) (qs:=[Gt.p h t1,Gt.p h t2]) (cnOf H18) (qw.at0 1 1 (by omega)) q2 q3 qh hksl (fun z hz=>by
    simp only [List.mem_cons,List.not_mem_nil,or_false] at hz
    rcases hz with rfl|rfl
    · exact ⟨cc1,by omega⟩
    · exact ⟨cc2,by omega⟩) (by omega) (by rw [hsm];omega) (by simp)) ?_
  rintro _ H19 ⟨F19,hs19,q1'⟩
  rw [hsm] at q1'
  replace g1:=g1.fr F19 (fun b o hb=>nr (.inl (by have:=l1 b o hb;omega)))
  replace g2:=g2.fr F19 (fun b o hb=>nr (.inl (by have:=l2 b o hb;omega)))
  replace tc:=tc.fr F19 (fun b o hb _=>nr (.inl (by omega)))
  replace cnt:=F19.keep cnt (nr (.inl (by omega)))
  replace hptr:=F19.keep hptr (nr (.inl (by omega)))
  replace hk:=hk.fr F19 (fun b o hb=>nr (.inl (by have:=(hzb b hb).2;omega)))
  replace hF:=hF.trans' F19 (fun _ _ _ h=>h) (fun b o hb h=>by have h':=h.1;omega)
  replace mi:=F19.rd mi (fun _ _=>nr (.inl (by omega)))
  replace mp:=F19.wr mp
  replace m14:=F19.rd m14 (fun _ _=>nr (.inl (by omega)))
  replace qw:=F19.wr qw
  replace qh:=F19.keep qh (nr (.inl (by omega)))
  replace qhw:=F19.wr qhw
  replace hksl:=hksl.fr F19 (fun _ _ _=>nr (.inl (by omega)))
  replace hisl:=hisl.fr F19 (fun _ _ _=>nr (.inl (by omega)))
  replace q0:=F19.keep q0 (nr (by omega))
  replace q2:=F19.keep q2 (nr (by omega))
  replace q3:=F19.keep q3 (nr (by omega))
  refine ⟨trivial,?_⟩
  refine Uf 0 [0,2,4,6] rfl (Ut 1 rfl ?_)
  have d1:∀b o,Gt.af h t1 b o→¬ncl EJ (⟨q,P.iso,1+((Gt.L h t1).length+(Gt.L h t2).length),b',0,c',q+1,bk,0,ck⟩:Ng) b o∧¬kcl (⟨q,P.iso,1+((Gt.L h t1).length+(Gt.L h t2).length),b',0,c',q+1,bk,0,ck⟩:Ng) b o:=fun b o hb=>by
   have:=l1 b o hb
   refine ⟨fun hn=>?_,fun hn=>?_⟩<;>rcases hn with hn|hn<;>(have h9:=hn.1;simp only at h9;omega)
  have d2:∀b o,Gt.af h t2 b o→¬ncl EJ (⟨q,P.iso,1+((Gt.L h t1).length+(Gt.L h t2).length),b',0,c',q+1,bk,0,ck⟩:Ng) b o∧¬kcl (⟨q,P.iso,1+((Gt.L h t1).length+(Gt.L h t2).length),b',0,c',q+1,bk,0,ck⟩:Ng) b o:=fun b o hb=>by
   have:=l2 b o hb
   refine ⟨fun hn=>?_,fun hn=>?_⟩<;>rcases hn with hn|hn<;>(have h9:=hn.1;simp only at h9;omega)
  have hLt:Gt.L (h+1) (((⟨q,P.iso,1+((Gt.L h t1).length+(Gt.L h t2).length),b',0,c',q+1,bk,0,ck⟩:Ng),[med],[t1,t2]):Gt EJ (h+1))=Gt.L h t:=by
   rw [hS.l];rfl
  have hG:Gt.Good H19 P (h+1) (((⟨q,P.iso,1+((Gt.L h t1).length+(Gt.L h t2).length),b',0,c',q+1,bk,0,ck⟩:Ng),[med],[t1,t2]):Gt EJ (h+1)):=by
   refine ⟨⟨q0,q1',q2,q3,qw,hisl,?_,?_⟩,⟨qh,qhw,hksl,?_,?_,?_,?_,?_,?_⟩,rfl,?_,?_,rfl,fun m hm=>?_,List.pairwise_pair.2 hS.dis⟩
   · show 0<c';omega
   · show q≠b';omega
   · show 0<ck;omega
   · show q+1≠bk;omega
   · show q≠q+1;omega
   · show q≠bk;omega
   · show b'≠q+1;omega
   · show b'≠bk;omega
   · rw [hLt,hLs];show 1+_=_;omega
   · show 1≤P.mx;omega
   ·
    simp only [List.mem_cons,List.not_mem_nil,or_false] at hm
    rcases hm with rfl|rfl
    · exact ⟨g1,Nat.le_of_eq hS.x1.symm,d1⟩
    · exact ⟨g2,Nat.le_of_eq hS.x2.symm,d2⟩
  have haf:∀b o,Gt.af (h+1) (((⟨q,P.iso,1+((Gt.L h t1).length+(Gt.L h t2).length),b',0,c',q+1,bk,0,ck⟩:Ng),[med],[t1,t2]):Gt EJ (h+1)) b o→Gt.af h t b o∨H1.size≤b:=fun b o hb=>by
   rcases hb with hb|hb|⟨m,hm,hb⟩
   · right;rcases hb with hb|hb<;>(have h9:=hb.1;simp only at h9;omega)
   · right;rcases hb with hb|hb<;>(have h9:=hb.1;simp only at h9;omega)
   ·
    simp only [List.mem_cons,List.not_mem_nil,or_false] at hm
    rcases hm with rfl|rfl
    · exact (hS.a1 b o hb).imp id (fun h=>by omega)
    · exact (hS.a2 b o hb).imp id (fun h=>by omega)
  have hown':∀b o,Gt.af (h+1) (((⟨q,P.iso,1+((Gt.L h t1).length+(Gt.L h t2).length),b',0,c',q+1,bk,0,ck⟩:Ng),[med],[t1,t2]):Gt EJ (h+1)) b o→S b∨(H1.size≤b∧b<H19.size):=fun b o hb=>(haf b o hb).imp (hown b o) (fun h=>⟨h,hG.lt hb⟩)
  have hnt':∀b o,Gt.af (h+1) (((⟨q,P.iso,1+((Gt.L h t1).length+(Gt.L h t2).length),b',0,c',q+1,bk,0,ck⟩:Ng),[med],[t1,t2]):Gt EJ (h+1)) b o→cx.base≤b:=fun b o hb=>(haf _ _ hb).elim (hnt b o) (fun h=>by omega)
  have hM1:MapM H19 tr P (fun b=>S b∨(H1.size≤b∧b<H19.size)) (Gt.L h t):=⟨tc,srt,cnt,.inl own,fun b hb=>hb.elim (fun h=>by have:=lt b h;omega) (fun h=>h.2),fun b hb=>hb.elim (bs b) (fun h=>.inr (by omega)),
   .inr ⟨h+1,_,hG,by show 1≤1;omega,hLt,hptr,hnt',hown'⟩⟩
  have hR1:RootT H19 tr P (fun b=>S b∨(H1.size≤b∧b<H19.size)) (Gt.L h t) (h+1) _:=⟨hG,by show 1≤1;omega,hLt,hptr,hnt',hown',by
   have:=Gt.Good.tall hP hG (by show 1≤1;omega)
   rw [hLt] at this;omega⟩
  have hs20:H.size≤H19.size:=by omega
  refine Ur 8 8324 rfl (Us 1 rfl mi rfl (Uq 1 rfl (O.call rfl rfl rfl call67 rfl (again hful hM1 hR1 (by show 1<P.mx;omega) hk (fun b hb hs=>hs.elim (hzS b hb) (fun h=>by have:=(hzb b hb).2;omega))) ?_)))
  rintro _ H20 ⟨hk,rfl,S',hM',hF',hS'⟩
  replace mp:=hF'.wr mp
  have hs21:=hF'.size
  refine ⟨trivial,?_⟩
  refine Uq 2 rfl (O.st (vs:=(EJ.enc ((Pl.got OI x (Gt.L h t)).getD (0,0)))) rfl rfl sizeOf27 rfl rfl rfl rfl rfl mp ?_)
  intro H99 W99
  have hs99:=W99.size
  replace hk:=hk.fr W99.fr (fun b o hb=>nr (.inl (by have:=(hzb b hb).2;omega)))
  have hSb:∀b,S' b∨(b<cx.base∧cx.own b)→b≠H0.size:=fun b hb e=>by
   rcases hb with hb|hb
   ·
    rcases hS' b hb with (h|h)|h
    · have:=lt b h;omega
    · omega
    · omega
   · omega
  replace hM':=hM'.fr W99.fr (fun b o hb=>nr (.inl (hSb b hb)))
  replace hF:=hF.trans' hF' (fun _ _ _ h=>h) (fun b o hb hz=>hz.imp (fun h=>h.elim id (fun h=>by omega)) id)
  replace hF:=hF.trans' W99.fr (fun _ _ _ h=>h) (fun b o hb h=>by have h':=h.1;omega)
  have mr:Rd H99 H0.size 0 (EJ.enc ((Pl.got OI x (Gt.L h t)).getD (0,0))):=W99.all
  refine ⟨trivial,?_⟩
  refine Uf 1 [0,6,7] rfl (Go'.ret (vs:=[_,_]) func67 results67 ⟨⟨_,_,rfl,fun _ _=>run_loadVar_agg (fun w=>⟨isAgg27 w,sizeOf27 w⟩) rfl mr⟩,rfl,trivial⟩ ?_)
  have eT:AbT.put OI P.mx P.mn x (some ⟨h+1,Gt.ab (h+1) (((⟨q,P.iso,1+((Gt.L h t1).length+(Gt.L h t2).length),b',0,c',q+1,bk,0,ck⟩:Ng),[med],[t1,t2]):Gt EJ (h+1))⟩)=AbT.put OI P.mx P.mn x (some ⟨h,Gt.ab h t⟩):=by
   show AbT.put OI P.mx P.mn x (some ⟨h+1,([med],[Gt.ab h t1,Gt.ab h t2])⟩)=_
   rw [hS.ab1,hS.ab2]
   exact AbT.put_again _ _ _ hpn (by rw [Gt.ab_X];exact hS.md) (by omega) (by rw [Gt.ab_X,List.length_take];omega) (by rw [Gt.ab_X,List.length_drop];omega)
  rw [eT] at hM'
  exact ⟨hk,rfl,S',hM',hF,fun b hb=>(hS' b hb).elim (fun h=>h.imp id (fun h=>by omega)) (fun h=>.inr (by omega))⟩
theorem mset_r {B:World} {H:Mem} {tr:Nat} {P:Ps} (hP:PsOk P) {S:Nat→Prop} {l:List (Int×Int)} {x:Int×Int} {hv:Value} {hz:Nat→Prop} {h:Nat} {t:Gt EJ h} (hM:MapM H tr P S l) (hR:RootT H tr P S l h t) (hlen:l.length<2305843009213693952) (hk:HintOk H hv hz) (hzS:∀b,hz b→¬S b):
  Fn Try.prog B 67 [.pointer (some ⟨tr,0,none⟩),.agg (EJ.enc x).toArray,hv] H (SetPT H tr P S l x hv hz (some ⟨h,Gt.ab h t⟩)):=
 mset_root hP hM hR hlen hk hzS fun _ _ _ _ _ hM1 hR1 hx hk1 hz1=>mset_root hP hM1 hR1 hlen hk1 hz1 fun hx'=>absurd hx' (by omega)
theorem init_again {B:World} {H:Mem} {tr id mx mn:Nat} {d:Int} (ht:TrC H tr id mx mn) (h1:1≤mn):
  Fn Try.prog B 70 [.pointer (some ⟨tr,0,none⟩),.int .i64 d] H (fun v H'=>v=resVal []∧H'=H):=by
 refine fn_of func70 rfl ntmps70 ?_
 refine (show Go' _ _ _ _ 49 [(0,_),(1,_)] [.code _] _ from ?_)
 refine Ut 2 rfl (Ur 5 64 rfl (Ul 3 rfl ht.mn' (Uc 0 rfl (neqT (by omega)) (Uf 0 [0,1,8] rfl (Go'.condT rfl (Go'.ret func70 results70 (vs:=[]) trivial ?_))))))
 exact ⟨rfl,rfl⟩
theorem msetT_spec {B:World} {H:Mem} {tr:Nat} {P:Ps} (hP:PsOk P) {S:Nat→Prop} {l:List (Int×Int)} {x:Int×Int} {hv:Value} {hz:Nat→Prop} {T:AbT (Int×Int)} (hM:MapT H tr P S l T) (hlen:l.length<2305843009213693952) (hk:HintOk H hv hz) (hzS:∀b,hz b→¬S b):
  Fn Try.prog B 67 [.pointer (some ⟨tr,0,none⟩),.agg (EJ.enc x).toArray,hv] H (SetPT H tr P S l x hv hz T):=by
 obtain ⟨hM0,hr⟩:=hM
 rcases hr with ⟨rfl,rfl,hptr⟩|⟨h,t,hR,rfl⟩
 rotate_left
 · exact mset_r hP hM0 hR hlen hk hzS
 obtain ⟨tc,srt,cnt,own,lt,bs,_⟩:=hM0
 have htl:cx.base≤H.size:=tc.hb
 have htb:tr<cx.base:=tc.tb
 have hzb:=hk.base
 have hF:Fr (fun b _=>S b∨hz b) H H:=Fr.refl _ _
 have hmm:=hP.hm
 have hh1:=hP.h1
 have hx255:=hP.hx
 refine fn_of func67 rfl ntmps67 ?_
 refine (show Go' _ _ _ _ 136 [(0,_),(1,_),(2,_)] [.code _] _ from ?_)
 refine Ut 1 rfl (Ur 3 10 rfl (O.box rfl rfl rfl rfl ?_))
 intro H0 M0
 refine ⟨trivial,?_⟩
 have hs0:=M0.size
 replace tc:=tc.fr (M0.fr nowhere) (fun _ _ _ _=>nw)
 replace cnt:=(M0.fr nowhere).keep cnt nw
 replace hptr:=(M0.fr nowhere).keep hptr nw
 replace hk:=hk.fr (M0.fr nowhere) (fun _ _ _=>nw)
 replace hF:=hF.trans' (M0.fr nowhere) (fun _ _ _ h=>h) (fun _ _ _ h=>h.elim)
 have mi:Rd H0 H.size 0 (EJ.enc x):=M0.rd _ [] (by simp [Value.cells])
 refine O.alloc rfl rfl rfl zeroValue27 ?_
 intro H1 M1
 refine ⟨trivial,?_⟩
 have hs1:H1.size=H.size+2:=by have:=M1.size;omega
 replace tc:=tc.fr (M1.fr nowhere) (fun _ _ _ _=>nw)
 replace cnt:=(M1.fr nowhere).keep cnt nw
 replace hptr:=(M1.fr nowhere).keep hptr nw
 replace hk:=hk.fr (M1.fr nowhere) (fun _ _ _=>nw)
 replace hF:=hF.trans' (M1.fr nowhere) (fun _ _ _ h=>h) (fun _ _ _ h=>h.elim)
 replace mi:=(M1.fr nowhere).rd mi (fun _ _=>nw)
 have mp:Wr H1 H0.size 0 2:=M1.wr 2 (by decide)
 refine Uf 1 [0,2,4,6,7] rfl (Ut 2 rfl (Ur 5 64 rfl (Ul 3 rfl hptr (O.isNil rfl rfl rfl rfl underlying107 rfl rfl (Uf 0 [0,2,4,6,7,16] rfl (Go'.condT rfl (Ut 1 rfl (Ur 2 8 rfl (Uq 1 rfl (O.callQ rfl rfl rfl call70 rfl (init_again tc hh1) trivial (Uf 0 [0,2,4,6,7] rfl ?_)))))))))))
 refine Ut 1 rfl (Ur 6 2080 rfl (Uq 2 rfl (O.call rfl rfl rfl call90 rfl (newLeaf_spec tc.iso) ?_)))
 rintro _ H3 ⟨rfl,hs3,F3,q0,q1,q2,q3,qw⟩
 replace tc:=tc.fr F3 (fun _ _ _ _=>nw)
 replace cnt:=F3.keep cnt nw
 replace hptr:=F3.keep hptr nw
 replace hk:=hk.fr F3 (fun _ _ _=>nw)
 replace hF:=hF.trans' F3 (fun _ _ _ h=>h) (fun _ _ _ h=>h.elim)
 replace mi:=F3.rd mi (fun _ _=>nw)
 replace mp:=F3.wr mp
 generalize hqe:H1.size=q at*
 refine ⟨trivial,?_⟩
 refine Uq 2 rfl (O.st rfl rfl sizeOf107 rfl rfl rfl rfl rfl (tc.wr.at0 2 1 (by omega)) ?_)
 intro H4 W4
 have hs4:=W4.size
 replace hk:=hk.fr W4.fr (fun b o hb=>nr (.inl (fun e=>hzS b hb (by rw [e];exact own))))
 replace tc:=tc.fr (W4.fr' 1 rfl) (fun b o hb he hz=>by have h1:=he hz.1;have h2:=hz.2.1;have h3:=hz.2.2;omega)
 replace hF:=hF.trans' W4.fr (fun _ _ _ h=>h) (fun b o _ h=>.inl (by rw [h.1];exact own))
 replace mi:=W4.fr.rd mi (fun _ _=>nr (.inl (by omega)))
 replace mp:=W4.fr.wr mp
 replace q0:=W4.fr.keep q0 (nr (.inl (by omega)))
 replace q1:=W4.fr.keep q1 (nr (.inl (by omega)))
 replace q2:=W4.fr.keep q2 (nr (.inl (by omega)))
 replace q3:=W4.fr.keep q3 (nr (.inl (by omega)))
 replace qw:=W4.fr.wr qw
 replace cnt:=W4.keep1 cnt (by omega)
 clear hptr
 have hptr:cl H4 tr 2=some (.pointer (some ⟨q,0,none⟩)):=W4.at
 refine ⟨trivial,?_⟩
 refine Uf 0 [0,2,4,6,7] rfl (Ut 1 rfl ?_)
 refine Go'.draw2 (fun H'=>cl H' tr 2=some (.pointer (some ⟨q,0,none⟩))∧Rd H' H.size 0 (EJ.enc x)) (fun Hn=>∃b' c':Nat,H4.size≤b'∧b'<Hn.size∧1≤c'∧SlE EJ Hn b' 0 c' [x]∧cl Hn q 2=some (.slice (some ⟨b',0,none⟩) 1 c')∧TrC Hn tr P.iso P.mx P.mn∧cl Hn tr 3=some (.int .i64 0)∧cl Hn tr 2=some (.pointer (some ⟨q,0,none⟩))∧Fr (fun b _=>S b∨hz b) H Hn∧HintOk Hn hv hz∧Rd Hn H.size 0 (EJ.enc x)∧Wr Hn H0.size 0 2∧cl Hn q 0=some (.int .u64 (P.iso:Int))∧cl Hn q 1=some (.int .i64 0)∧cl Hn q 3=some (.pointer none)∧Wr Hn q 0 4) [(0,.pointer (some ⟨tr,0,none⟩)),(4,.pointer (some ⟨H.size,0,none⟩)),(6,.pointer (some ⟨H0.size,0,none⟩))] 4 6 [(0,0),(1,0),(2,0),(3,0),(5,0),(4,2),(6,2),(7,2),(8,0),(9,0),(10,3)] [(0,0),(1,0),(2,0),(3,0),(5,0),(6,2),(4,2),(7,2),(8,0),(9,0),(10,3)] (by kernel_rfl) (by kernel_rfl) (⟨hptr,mi⟩) ?_ ?_ ?_
 ·
  intro _ _ _ hj
  refine UL 3 rfl (fun _ h=>h.1) (US 0 rfl (fun _ h=>h.2) rfl (O.bsl (cs:=[]) rfl rfl rfl ⟨underlying25,sizeOf27,zeroValue27,⟨_,typeInfo27,rfl⟩,rfl,by decide,by decide⟩ rfl (by decide) (by kernel_rfl) ?_))
  intro H5 MH5
  have hsH5:=MH5.size
  replace tc:=tc.fr (MH5.fr nowhere) (fun _ _ _ _=>nw)
  replace cnt:=(MH5.fr nowhere).keep cnt nw
  replace hptr:=(MH5.fr nowhere).keep hptr nw
  replace hk:=hk.fr (MH5.fr nowhere) (fun _ _ _=>nw)
  replace hF:=hF.trans' (MH5.fr nowhere) (fun _ _ _ h=>h) (fun _ _ _ h=>h.elim)
  replace mi:=(MH5.fr nowhere).rd mi (fun _ _=>nw)
  replace mp:=(MH5.fr nowhere).wr mp
  replace q0:=(MH5.fr nowhere).keep q0 nw
  replace q1:=(MH5.fr nowhere).keep q1 nw
  replace q2:=(MH5.fr nowhere).keep q2 nw
  replace q3:=(MH5.fr nowhere).keep q3 nw
  replace qw:=(MH5.fr nowhere).wr qw
  refine ⟨⟨hptr,mi⟩,?_⟩
  refine O.bsl (cs:=(EJ.enc x)) rfl rfl rfl ⟨underlying25,sizeOf27,zeroValue27,⟨_,typeInfo27,rfl⟩,rfl,by decide,by decide⟩ rfl (by decide) (by kernel_rfl) ?_
  intro H6 MH6
  have hsH6:=MH6.size
  replace tc:=tc.fr (MH6.fr nowhere) (fun _ _ _ _=>nw)
  replace cnt:=(MH6.fr nowhere).keep cnt nw
  replace hptr:=(MH6.fr nowhere).keep hptr nw
  replace hk:=hk.fr (MH6.fr nowhere) (fun _ _ _=>nw)
  replace hF:=hF.trans' (MH6.fr nowhere) (fun _ _ _ h=>h) (fun _ _ _ h=>h.elim)
  replace mi:=(MH6.fr nowhere).rd mi (fun _ _=>nw)
  replace mp:=(MH6.fr nowhere).wr mp
  replace q0:=(MH6.fr nowhere).keep q0 nw
  replace q1:=(MH6.fr nowhere).keep q1 nw
  replace q2:=(MH6.fr nowhere).keep q2 nw
  replace q3:=(MH6.fr nowhere).keep q3 nw
  replace qw:=(MH6.fr nowhere).wr qw
  have m6:Rd H6 H5.size 0 (EJ.enc x):=MH6.rd _ [] (by simp)
  refine ⟨⟨hptr,mi⟩,?_⟩
  refine O.app (m:=1) (news:=(EJ.enc x)) rfl rfl rfl ⟨underlying25,sizeOf27,zeroValue27,⟨_,typeInfo27,rfl⟩,rfl,by decide,by decide⟩ rfl (Sl.none _ _ _ _) rfl (.inl ⟨_,_,_,rfl,m6⟩) rfl rfl (Nat.le_trans (Nat.mul_le_mul_left _ (Nat.le_of_ble_eq_true (n:=_) (m:=4096) rfl)) (by omega)) (by omega) ?_
  intro b' o' c' H7 ha2
  obtain ⟨hbn,rfl,hs7,hcn,fa2⟩:=ha2.fromNone (by decide)
  have hisl:SlE EJ H7 b' 0 c' [x]:=ha2.sl
  replace tc:=tc.fr fa2 (fun _ _ _ _=>nw)
  replace cnt:=fa2.keep cnt nw
  replace hptr:=fa2.keep hptr nw
  replace hk:=hk.fr fa2 (fun _ _ _=>nw)
  replace hF:=hF.trans' fa2 (fun _ _ _ h=>h) (fun _ _ _ h=>h.elim)
  replace mi:=fa2.rd mi (fun _ _=>nw)
  replace mp:=fa2.wr mp
  replace q0:=fa2.keep q0 nw
  replace q1:=fa2.keep q1 nw
  replace q2:=fa2.keep q2 nw
  replace q3:=fa2.keep q3 nw
  replace qw:=fa2.wr qw
  refine ⟨⟨hptr,mi⟩,?_⟩
  refine Uq 2 rfl (O.st3 rfl rfl sizeOf25 rfl rfl rfl rfl rfl (qw.at0 2 1 (by omega)) ?_)
  intro H8 W8
  have hs8:=W8.size
  replace tc:=tc.fr W8.fr (fun b o hb _=>nr (.inl (by omega)))
  replace cnt:=W8.fr.keep cnt (nr (.inl (by omega)))
  replace hptr:=W8.fr.keep hptr (nr (.inl (by omega)))
  replace hk:=hk.fr W8.fr (fun b o hb=>nr (.inl (by have:=(hzb b hb).2;omega)))
  replace hF:=hF.trans' W8.fr (fun _ _ _ h=>h) (fun b o hb h=>by have h':=h.1;omega)
  replace mi:=W8.fr.rd mi (fun _ _=>nr (.inl (by omega)))
  replace mp:=W8.fr.wr mp
  replace q0:=W8.keep1 q0 (by omega)
  replace q1:=W8.keep1 q1 (by omega)
  replace q2:=W8.at
  replace q3:=W8.keep1 q3 (by omega)
  replace qw:=W8.fr.wr qw
  replace hisl:=hisl.fr W8.fr (fun _ _ _=>nr (.inl (by omega)))
  refine Pl.fin [(0,.pointer (some ⟨tr,0,none⟩)),(4,.pointer (some ⟨H.size,0,none⟩)),(6,.pointer (some ⟨H0.size,0,none⟩))] ⟨rfl,rfl,rfl,trivial⟩ (hj _ ?_)
  exact ⟨b',c',by omega,by omega,hcn,hisl,q2,tc,cnt,hptr,hF,hk,mi,mp,q0,q1,q3,qw⟩
 ·
  intro _ _ _ hj
  refine UL 3 rfl (fun _ h=>h.1) (US 0 rfl (fun _ h=>h.2) rfl (O.bsl (cs:=(EJ.enc x)) rfl rfl rfl ⟨underlying25,sizeOf27,zeroValue27,⟨_,typeInfo27,rfl⟩,rfl,by decide,by decide⟩ rfl (by decide) (by kernel_rfl) ?_))
  intro H5 MH5
  have hsH5:=MH5.size
  replace tc:=tc.fr (MH5.fr nowhere) (fun _ _ _ _=>nw)
  replace cnt:=(MH5.fr nowhere).keep cnt nw
  replace hptr:=(MH5.fr nowhere).keep hptr nw
  replace hk:=hk.fr (MH5.fr nowhere) (fun _ _ _=>nw)
  replace hF:=hF.trans' (MH5.fr nowhere) (fun _ _ _ h=>h) (fun _ _ _ h=>h.elim)
  replace mi:=(MH5.fr nowhere).rd mi (fun _ _=>nw)
  replace mp:=(MH5.fr nowhere).wr mp
  replace q0:=(MH5.fr nowhere).keep q0 nw
  replace q1:=(MH5.fr nowhere).keep q1 nw
  replace q2:=(MH5.fr nowhere).keep q2 nw
  replace q3:=(MH5.fr nowhere).keep q3 nw
  replace qw:=(MH5.fr nowhere).wr qw
  have m6:Rd H5 H4.size 0 (EJ.enc x):=MH5.rd _ [] (by simp)
  refine ⟨⟨hptr,mi⟩,?_⟩
  refine O.bsl (cs:=[]) rfl rfl rfl ⟨underlying25,sizeOf27,zeroValue27,⟨_,typeInfo27,rfl⟩,rfl,by decide,by decide⟩ rfl (by decide) (by kernel_rfl) ?_
  intro H6 MH6
  have hsH6:=MH6.size
  replace tc:=tc.fr (MH6.fr nowhere) (fun _ _ _ _=>nw)
  replace cnt:=(MH6.fr nowhere).keep cnt nw
  replace hptr:=(MH6.fr nowhere).keep hptr nw
  replace hk:=hk.fr (MH6.fr nowhere) (fun _ _ _=>nw)
  replace hF:=hF.trans' (MH6.fr nowhere) (fun _ _ _ h=>h) (fun _ _ _ h=>h.elim)
  replace mi:=(MH6.fr nowhere).rd mi (fun _ _=>nw)
  replace mp:=(MH6.fr nowhere).wr mp
  replace q0:=(MH6.fr nowhere).keep q0 nw
  replace q1:=(MH6.fr nowhere).keep q1 nw
  replace q2:=(MH6.fr nowhere).keep q2 nw
  replace q3:=(MH6.fr nowhere).keep q3 nw
  replace qw:=(MH6.fr nowhere).wr qw
  replace m6:=(MH6.fr nowhere).rd m6 (fun _ _=>nw)
  refine ⟨⟨hptr,mi⟩,?_⟩
  refine O.app (m:=1) (news:=(EJ.enc x)) rfl rfl rfl ⟨underlying25,sizeOf27,zeroValue27,⟨_,typeInfo27,rfl⟩,rfl,by decide,by decide⟩ rfl (Sl.none _ _ _ _) rfl (.inl ⟨_,_,_,rfl,m6⟩) rfl rfl (Nat.le_trans (Nat.mul_le_mul_left _ (Nat.le_of_ble_eq_true (n:=_) (m:=4096) rfl)) (by omega)) (by omega) ?_
  intro b' o' c' H7 ha2
  obtain ⟨hbn,rfl,hs7,hcn,fa2⟩:=ha2.fromNone (by decide)
  have hisl:SlE EJ H7 b' 0 c' [x]:=ha2.sl
  replace tc:=tc.fr fa2 (fun _ _ _ _=>nw)
  replace cnt:=fa2.keep cnt nw
  replace hptr:=fa2.keep hptr nw
  replace hk:=hk.fr fa2 (fun _ _ _=>nw)
  replace hF:=hF.trans' fa2 (fun _ _ _ h=>h) (fun _ _ _ h=>h.elim)
  replace mi:=fa2.rd mi (fun _ _=>nw)
  replace mp:=fa2.wr mp
  replace q0:=fa2.keep q0 nw
  replace q1:=fa2.keep q1 nw
  replace q2:=fa2.keep q2 nw
  replace q3:=fa2.keep q3 nw
  replace qw:=fa2.wr qw
  refine ⟨⟨hptr,mi⟩,?_⟩
  refine Uq 2 rfl (O.st3 rfl rfl sizeOf25 rfl rfl rfl rfl rfl (qw.at0 2 1 (by omega)) ?_)
  intro H8 W8
  have hs8:=W8.size
  replace tc:=tc.fr W8.fr (fun b o hb _=>nr (.inl (by omega)))
  replace cnt:=W8.fr.keep cnt (nr (.inl (by omega)))
  replace hptr:=W8.fr.keep hptr (nr (.inl (by omega)))
  replace hk:=hk.fr W8.fr (fun b o hb=>nr (.inl (by have:=(hzb b hb).2;omega)))
  replace hF:=hF.trans' W8.fr (fun _ _ _ h=>h) (fun b o hb h=>by have h':=h.1;omega)
  replace mi:=W8.fr.rd mi (fun _ _=>nr (.inl (by omega)))
  replace mp:=W8.fr.wr mp
  replace q0:=W8.keep1 q0 (by omega)
  replace q1:=W8.keep1 q1 (by omega)
  replace q2:=W8.at
  replace q3:=W8.keep1 q3 (by omega)
  replace qw:=W8.fr.wr qw
  replace hisl:=hisl.fr W8.fr (fun _ _ _=>nr (.inl (by omega)))
  refine Pl.fin [(0,.pointer (some ⟨tr,0,none⟩)),(4,.pointer (some ⟨H.size,0,none⟩)),(6,.pointer (some ⟨H0.size,0,none⟩))] ⟨rfl,rfl,rfl,trivial⟩ (hj _ ?_)
  exact ⟨b',c',by omega,by omega,hcn,hisl,q2,tc,cnt,hptr,hF,hk,mi,mp,q0,q1,q3,qw⟩
 clear q2
 rintro H8 ⟨b',c',hbn1,hbn2,hcn,hisl,q2,tc,cnt,hptr,hF,hk,mi,mp,q0,q1,q3,qw⟩
 refine Ut 1 rfl (Ur 7 8256 rfl (Ul 3 rfl hptr (Uq 2 rfl (O.st rfl rfl sizeOf3 rfl rfl rfl rfl rfl (qw.at0 1 1 (by omega)) ?_))))
 intro H9 W9
 have hs9:=W9.size
 replace tc:=tc.fr W9.fr (fun b o hb _=>nr (.inl (by omega)))
 replace cnt:=W9.fr.keep cnt (nr (.inl (by omega)))
 replace hptr:=W9.fr.keep hptr (nr (.inl (by omega)))
 replace hk:=hk.fr W9.fr (fun b o hb=>nr (.inl (by have:=(hzb b hb).2;omega)))
 replace hF:=hF.trans' W9.fr (fun _ _ _ h=>h) (fun b o hb h=>by have h':=h.1;omega)
 replace mi:=W9.fr.rd mi (fun _ _=>nr (.inl (by omega)))
 replace mp:=W9.fr.wr mp
 replace q0:=W9.keep1 q0 (by omega)
 replace q1:=W9.at
 replace q2:=W9.keep1 q2 (by omega)
 replace q3:=W9.keep1 q3 (by omega)
 replace qw:=W9.fr.wr qw
 replace hisl:=hisl.fr W9.fr (fun _ _ _=>nr (.inl (by omega)))
 refine ⟨trivial,?_⟩
 refine Uf 0 [0,4,6] rfl (Ut 1 rfl (Ur 4 128 rfl (Uq 3 rfl (O.st rfl rfl sizeOf3 rfl rfl rfl rfl rfl (tc.wr.at0 3 1 (by omega)) ?_))))
 intro H10 W10
 have hs10:=W10.size
 replace hk:=hk.fr W10.fr (fun b o hb=>nr (.inl (fun e=>hzS b hb (by rw [e];exact own))))
 replace tc:=tc.fr (W10.fr' 1 rfl) (fun b o hb he hz=>by have h1:=he hz.1;have h2:=hz.2.1;have h3:=hz.2.2;omega)
 replace hF:=hF.trans' W10.fr (fun _ _ _ h=>h) (fun b o _ h=>.inl (by rw [h.1];exact own))
 replace mi:=W10.fr.rd mi (fun _ _=>nr (.inl (by omega)))
 replace mp:=W10.fr.wr mp
 replace q0:=W10.fr.keep q0 (nr (.inl (by omega)))
 replace q1:=W10.fr.keep q1 (nr (.inl (by omega)))
 replace q2:=W10.fr.keep q2 (nr (.inl (by omega)))
 replace q3:=W10.fr.keep q3 (nr (.inl (by omega)))
 replace qw:=W10.fr.wr qw
 replace hisl:=hisl.fr W10.fr (fun _ _ _=>nr (.inl (by omega)))
 replace hptr:=W10.keep1 hptr (by omega)
 replace cnt:=W10.at
 refine ⟨trivial,?_⟩
 refine Uf 0 [0,4,6] rfl (Ut 1 rfl (Ur 6 576 rfl (Us 3 rfl tc.emp rfl (O.st (vs:=(EJ.enc (0,0))) rfl rfl sizeOf27 rfl rfl rfl rfl rfl mp ?_))))
 intro H11 W11
 have hs11:=W11.size
 replace hk:=hk.fr W11.fr (fun b o hb=>nr (.inl (by have:=(hzb b hb).2;omega)))
 replace tc:=tc.fr W11.fr (fun b o hb _=>nr (.inl (by omega)))
 replace cnt:=W11.fr.keep cnt (nr (.inl (by omega)))
 replace hptr:=W11.fr.keep hptr (nr (.inl (by omega)))
 replace hF:=hF.trans' W11.fr (fun _ _ _ h=>h) (fun b o hb h=>by have h':=h.1;omega)
 have mr:Rd H11 H0.size 0 (EJ.enc (0,0)):=W11.all
 refine ⟨trivial,?_⟩
 refine Uf 1 [0,4,6,7] rfl ?_
 replace q0:=W11.fr.keep q0 (nr (.inl (by omega)))
 replace q1:=W11.fr.keep q1 (nr (.inl (by omega)))
 replace q2:=W11.fr.keep q2 (nr (.inl (by omega)))
 replace q3:=W11.fr.keep q3 (nr (.inl (by omega)))
 replace qw:=W11.fr.wr qw
 replace hisl:=hisl.fr W11.fr (fun _ _ _=>nr (.inl (by omega)))
 refine Go'.ret (vs:=[_,_]) func67 results67 ⟨⟨_,_,rfl,fun _ _=>run_loadVar_agg (fun w=>⟨isAgg27 w,sizeOf27 w⟩) rfl mr⟩,rfl,trivial⟩ ?_
 have hG:Gt.Good H11 P 0 (((⟨q,P.iso,1,b',0,c',0,0,0,0⟩:Ng),[x]):Gt EJ 0):=⟨⟨q0,q1,q2,q3,qw,hisl,by show 0<c';omega,by show q≠b';omega⟩,rfl,rfl,by show 1≤P.mx;omega⟩
 have haf:∀b o,Gt.af 0 (((⟨q,P.iso,1,b',0,c',0,0,0,0⟩:Ng),[x]):Gt EJ 0) b o→q≤b:=fun b o hb=>by
  replace hb:ncl EJ (⟨q,P.iso,1,b',0,c',0,0,0,0⟩:Ng) b o:=hb
  rcases hb with hb|hb<;>(have h9:=hb.1;simp only at h9;omega)
 have hR9:RootT H11 tr P (fun b=>S b∨(q≤b∧b<H10.size)) [x] 0 (((⟨q,P.iso,1,b',0,c',0,0,0,0⟩:Ng),[x]):Gt EJ 0):=⟨hG,Nat.le_refl 1,rfl,hptr,fun b o ho=>by have:=haf _ _ ho;omega,fun b o hb=>.inr ⟨haf b o hb,by have:=hG.lt hb;omega⟩,by decide⟩
 exact ⟨hk,rfl,fun b=>S b∨(q≤b∧b<H10.size),⟨⟨tc,srt.put OI,cnt,.inl own,fun b hb=>hb.elim (fun h=>by have:=lt b h;omega) (fun h=>by omega),fun b hb=>hb.elim (bs b) (fun h=>.inr (by omega)),.inr ⟨0,(((⟨q,P.iso,1,b',0,c',0,0,0,0⟩:Ng),[x]):Gt EJ 0),hR9.g,hR9.x1,hR9.l,hR9.c,hR9.nt,hR9.own⟩⟩,.inr ⟨0,_,hR9,rfl⟩⟩,hF,fun b hb=>hb.imp id (fun h=>by omega)⟩
theorem MapM.shape {H:Mem} {tr:Nat} {P:Ps} {S:Nat→Prop} {l:List (Int×Int)} (hP:PsOk P) (hM:MapM H tr P S l) (hlen:l.length<2305843009213693952):∃T,MapT H tr P S l T:=by
 rcases hM.rt with ⟨e,hptr⟩|⟨h,t,hg,hx1,e,hc,hnt,hown⟩
 · exact ⟨none,hM,.inl ⟨rfl,e,hptr⟩⟩
 · exact ⟨_,hM,.inr ⟨h,t,⟨hg,hx1,e,hc,hnt,hown,by have:=Gt.Good.tall hP hg hx1;rw [e] at this;omega⟩,rfl⟩⟩
theorem setHintT_spec {B:World} {H:Mem} {tr:Nat} {P:Ps} (hP:PsOk P) {S:Nat→Prop} {l:List (Int×Int)} {x:Int×Int} {T:AbT (Int×Int)} {hv:Value} {hz:Nat→Prop} (hM:MapT H tr P S l T) (hlen:l.length<2305843009213693952) (hk:HintOk H hv hz) (hzS:∀b,hz b→¬S b):
  Fn Try.prog B 74 [.pointer (some ⟨tr,0,none⟩),.agg (EJ.enc x).toArray,hv] H (SetPT H tr P S l x hv hz T):=by
 have hb0:=hM.1.tc.hb
 have lt:=hM.1.lt
 have hzb:=hk.base
 refine fn_of func74 rfl ntmps74 ?_
 refine (show Go' _ _ _ _ 17 [(0,_),(1,_),(2,_)] [.code _] _ from ?_)
 refine Ut 1 rfl (Ur 3 10 rfl (O.box rfl rfl rfl rfl ?_))
 intro H0 M0
 refine ⟨trivial,?_⟩
 have hs0:=M0.size
 replace hM:=hM.fr (M0.fr nowhere) (fun _ _ _=>nw)
 replace hk:=hk.fr (M0.fr nowhere) (fun _ _ _=>nw)
 have mi:Rd H0 H.size 0 (EJ.enc x):=M0.rd _ [] (by simp [Value.cells])
 refine O.alloc rfl rfl rfl zeroValue27 ?_
 intro H1 M1
 refine ⟨trivial,?_⟩
 have hs1:H1.size=H.size+2:=by have:=M1.size;omega
 replace hM:=hM.fr (M1.fr nowhere) (fun _ _ _=>nw)
 replace hk:=hk.fr (M1.fr nowhere) (fun _ _ _=>nw)
 replace mi:=(M1.fr nowhere).rd mi (fun _ _=>nw)
 have mp:Wr H1 H0.size 0 2:=M1.wr 2 (by decide)
 have hF:Fr nowhere H H1:=(M0.fr nowhere).trans (M1.fr nowhere)
 refine Uf 1 [0,2,4,6,7] rfl (Ut 1 rfl (Ur 9 32900 rfl (Us 1 rfl mi rfl (Uq 1 rfl (O.call rfl rfl rfl call67 rfl (msetT_spec hP (x:=x) hM hlen hk hzS) ?_)))))
 rintro _ H2 ⟨hk,rfl,S',hM',hF',hS'⟩
 have hs2:=hF'.size
 replace mp:=hF'.wr mp
 have hSb:∀b,S' b∨(b<cx.base∧cx.own b)→b≠H0.size:=fun b hb e=>by
  rcases hb with hb|hb
  ·
   rcases hS' b hb with h|h
   · have:=lt b h;omega
   · omega
  · omega
 replace hF':=hF.trans' hF' (fun _ _ _ h=>h.elim) (fun _ _ _ h=>h)
 refine ⟨trivial,?_⟩
 refine Uq 3 rfl (O.st (vs:=(EJ.enc ((Pl.got OI x l).getD (0,0)))) rfl rfl sizeOf27 rfl rfl rfl rfl rfl mp ?_)
 intro H3 W3
 have hs3:=W3.size
 replace hk:=hk.fr W3.fr (fun b o hb=>nr (.inl (by have:=(hzb b hb).2;omega)))
 replace hM':=hM'.fr W3.fr (fun b o hb=>nr (.inl (hSb b hb)))
 replace hF':=hF'.trans' W3.fr (fun _ _ _ h=>h) (fun b o hb h=>by have h':=h.1;omega)
 replace mp:=W3.fr.wr mp
 have mr:Rd H3 H0.size 0 (EJ.enc ((Pl.got OI x l).getD (0,0))):=W3.all
 refine ⟨trivial,?_⟩
 refine Uf 1 [6,7] rfl (Ut 1 rfl (Ur 4 33 rfl (Us 0 rfl mr rfl (Uq 1 rfl (O.st (vs:=(EJ.enc ((Pl.got OI x l).getD (0,0)))) rfl rfl sizeOf27 rfl rfl rfl rfl rfl mp ?_)))))
 intro H4 W4
 have hs4:=W4.size
 replace hk:=hk.fr W4.fr (fun b o hb=>nr (.inl (by have:=(hzb b hb).2;omega)))
 replace hM':=hM'.fr W4.fr (fun b o hb=>nr (.inl (hSb b hb)))
 replace hF':=hF'.trans' W4.fr (fun _ _ _ h=>h) (fun b o hb h=>by have h':=h.1;omega)
 replace mp:=W4.fr.wr mp
 have mr:Rd H4 H0.size 0 (EJ.enc ((Pl.got OI x l).getD (0,0))):=W4.all
 refine ⟨trivial,?_⟩
 refine Uf 1 [6,7] rfl (Go'.ret (vs:=[_,_]) func74 results74 ⟨⟨_,_,rfl,fun _ _=>run_loadVar_agg (fun w=>⟨isAgg27 w,sizeOf27 w⟩) rfl mr⟩,rfl,trivial⟩ ?_)
 exact ⟨hk,rfl,S',hM',hF',fun b hb=>(hS' b hb).imp id (fun h=>by omega)⟩
theorem setT_spec {B:World} {H:Mem} {tr:Nat} {P:Ps} (hP:PsOk P) {S:Nat→Prop} {l:List (Int×Int)} {x:Int×Int} {T:AbT (Int×Int)} (hM:MapT H tr P S l T) (hlen:l.length<2305843009213693952):
  Fn Try.prog B 52 [.pointer (some ⟨tr,0,none⟩),.agg (EJ.enc x).toArray] H (SetPT H tr P S l x (.pointer none) (fun _=>False) T):=by
 have hb0:=hM.1.tc.hb
 have hzS:∀b,False→¬S b:=fun _ h=>h.elim
 have hk:HintOk H (.pointer none) (fun _=>False):=.inl ⟨rfl,fun _ h=>h⟩
 have lt:=hM.1.lt
 have hzb:=hk.base
 refine fn_of func52 rfl ntmps52 ?_
 refine (show Go' _ _ _ _ 11 [(0,_),(1,_)] [.code _] _ from ?_)
 refine Ut 1 rfl (Ur 3 10 rfl (O.box rfl rfl rfl rfl ?_))
 intro H0 M0
 refine ⟨trivial,?_⟩
 have hs0:=M0.size
 replace hM:=hM.fr (M0.fr nowhere) (fun _ _ _=>nw)
 replace hk:=hk.fr (M0.fr nowhere) (fun _ _ _=>nw)
 have mi:Rd H0 H.size 0 (EJ.enc x):=M0.rd _ [] (by simp [Value.cells])
 refine O.alloc rfl rfl rfl zeroValue27 ?_
 intro H1 M1
 refine ⟨trivial,?_⟩
 have hs1:H1.size=H.size+2:=by have:=M1.size;omega
 replace hM:=hM.fr (M1.fr nowhere) (fun _ _ _=>nw)
 replace hk:=hk.fr (M1.fr nowhere) (fun _ _ _=>nw)
 replace mi:=(M1.fr nowhere).rd mi (fun _ _=>nw)
 have mp:Wr H1 H0.size 0 2:=M1.wr 2 (by decide)
 have hF:Fr nowhere H H1:=(M0.fr nowhere).trans (M1.fr nowhere)
 refine Uf 1 [0,3,4,5] rfl (Ut 1 rfl (Ur 7 2084 rfl (Us 1 rfl mi rfl (O.call rfl rfl rfl call74 rfl (setHintT_spec hP (x:=x) hM hlen hk hzS) ?_))))
 rintro _ H2 ⟨hk,rfl,S',hM',hF',hS'⟩
 have hs2:=hF'.size
 replace mp:=hF'.wr mp
 have hSb:∀b,S' b∨(b<cx.base∧cx.own b)→b≠H0.size:=fun b hb e=>by
  rcases hb with hb|hb
  ·
   rcases hS' b hb with h|h
   · have:=lt b h;omega
   · omega
  · omega
 replace hF':=hF.trans' hF' (fun _ _ _ h=>h.elim) (fun _ _ _ h=>h)
 refine ⟨trivial,?_⟩
 refine Uq 2 rfl (O.st (vs:=(EJ.enc ((Pl.got OI x l).getD (0,0)))) rfl rfl sizeOf27 rfl rfl rfl rfl rfl mp ?_)
 intro H3 W3
 have hs3:=W3.size
 replace hk:=hk.fr W3.fr (fun b o hb=>nr (.inl (by have:=(hzb b hb).2;omega)))
 replace hM':=hM'.fr W3.fr (fun b o hb=>nr (.inl (hSb b hb)))
 replace hF':=hF'.trans' W3.fr (fun _ _ _ h=>h) (fun b o hb h=>by have h':=h.1;omega)
 replace mp:=W3.fr.wr mp
 have mr:Rd H3 H0.size 0 (EJ.enc ((Pl.got OI x l).getD (0,0))):=W3.all
 refine ⟨trivial,?_⟩
 refine Uf 1 [4,5] rfl (Go'.ret (vs:=[_,_]) func52 results52 ⟨⟨_,_,rfl,fun _ _=>run_loadVar_agg (fun w=>⟨isAgg27 w,sizeOf27 w⟩) rfl mr⟩,rfl,trivial⟩ ?_)
 exact ⟨hk,rfl,S',hM',hF',fun b hb=>(hS' b hb).imp id (fun h=>by omega)⟩
end Go.Bt.FG
namespace Go.Bt.FG
open Go Go.Proofs Go.Proofs.Try
set_option maxRecDepth 20000
set_option maxHeartbeats 4000000
set_option linter.unusedSectionVars false
def dg (d:Nat):Nat:=if d=0 then 32 else d
def PD (d:Nat):Ps:=⟨1,2*dg d-1,dg d-1⟩
theorem dg_ok {d:Nat} (hd:d=0∨2≤d∧d≤128):2≤dg d∧dg d≤128:=by unfold dg;split<;>omega
theorem PD_ok {d:Nat} (hd:d=0∨2≤d∧d≤128):PsOk (PD d):=by
 have:=dg_ok hd
 exact ⟨by show 2*dg d-1=2*(dg d-1)+1;omega,by show 1≤dg d-1;omega,by show 2*dg d-1≤255;omega⟩
structure TrN (H:Mem) (tr id mx mn:Nat) (lv:Value):Prop where
 iso:cl H tr 0=some (.int .u64 (id:Int))
 rt:cl H tr 2=some (.pointer none)
 cnt:cl H tr 3=some (.int .i64 0)
 emp:Rd H tr 7 [.int .i64 0,.int .i64 0]
 mn':cl H tr 10=some (.int .i64 (mn:Int))
 mx':cl H tr 9=some (.int .i64 (mx:Int))
 cv:cl H tr 4=some (.bool false)
 icv:cl H tr 5=some (.bool false)
 le:cl H tr 6=some lv
 wr:Wr H tr 0 11
theorem TrN.fr {H H':Mem} {tr id mx mn:Nat} {lv:Value} {Z:Nat→Nat→Prop} (h:TrN H tr id mx mn lv) (hf:Fr Z H H') (hz:∀o,¬Z tr o):TrN H' tr id mx mn lv:=
 ⟨hf.keep h.iso (hz _),hf.keep h.rt (hz _),hf.keep h.cnt (hz _),hf.rd h.emp (fun _ _=>hz _),hf.keep h.mn' (hz _),hf.keep h.mx' (hz _),hf.keep h.cv (hz _),hf.keep h.icv (hz _),hf.keep h.le (hz _),hf.wr h.wr⟩
theorem st88:StT Try.prog 88 [(0,1),(1,1)] [.int .i64 0,.bool false]:=⟨⟨_,underlying88,fun w=>by simp [Array.mapM_eq_mapM_toList,sizeOf3,sizeOf4]⟩,zeroValue88⟩
theorem degG_spec {B:World} {H:Mem} {d:Nat} (hd:d=0∨2≤d∧d≤128):
  Fn Try.prog B 94 [.int .i64 (d:Int)] H (fun v H'=>v=.tuple #[.int .i64 ((dg d-1:Nat):Int),.int .i64 ((2*dg d-1:Nat):Int)]∧H'=H):=by
 rcases hd with rfl|hd
 rotate_left
 · rw [show dg d=d by unfold dg;rw [if_neg (by omega)]];haveI:Inhabited Cx:=⟨⟨[],0,.bool false,0,fun _=>False⟩⟩;exact deg_spec hd
 refine fn_of func94 rfl ntmps94 ?_
 refine (show Go' _ _ _ _ 15 [(0,_)] [.code _] _ from ?_)
 refine Ut 1 rfl (Ur 2 0 rfl (Uf 2 [0,2,3] rfl (Ut 2 rfl (Ur 2 0 rfl (Uc 1 rfl (leqT (by omega)) (Uf 0 [0,2,3,5] rfl (Go'.condT rfl (Ur 1 0 rfl (Uf 1 [0,2,3] rfl (Ut 1 rfl (Ur 4 0 rfl ?_)))))))))))
 refine Uq 1 rfl (O.mul (((64:Nat):Int)) rfl rfl rfl rfl rfl rfl (by omega) (by omega) (Ub 0 (((63:Nat):Int)) rfl (by omega) (Uf 1 [2,3] rfl (Ut 1 rfl (Ur 3 0 rfl (Uq 1 rfl (O.quo (((31:Nat):Int)) rfl rfl rfl rfl rfl rfl (by decide) rfl (by omega) (Uf 1 [2,3] rfl (Ut 1 rfl (Ur 4 0 rfl (Uf 4 [2,3] rfl ?_)))))))))))
 refine Go'.ret (vs:=[_,_]) func94 results94 ⟨rfl,rfl,trivial⟩ ?_
 exact ⟨rfl,rfl⟩
theorem init_new {B:World} {H:Mem} {tr id d:Nat} {lv:Value} (hd:d=0∨2≤d∧d≤128) (h:TrN H tr id 0 0 lv):
  Fn Try.prog B 70 [.pointer (some ⟨tr,0,none⟩),.int .i64 (d:Int)] H (fun v H'=>v=resVal []∧H'.size=H.size∧Fr (fun b _=>b=tr) H H'∧TrN H' tr id (2*dg d-1) (dg d-1) lv):=by
 obtain ⟨h0,h2,h3,he,h6,h7,h8,h9,hle,hw⟩:=h
 have htl:tr<H.size:=cl_lt h0
 have hF:Fr (fun b _=>b=tr) H H:=Fr.refl _ _
 refine fn_of func70 rfl ntmps70 ?_
 refine (show Go' _ _ _ _ 49 [(0,_),(1,_)] [.code _] _ from ?_)
 refine Ut 2 rfl (Ur 5 64 rfl (Ul 3 rfl h6 (Uc 0 rfl (neqF (by omega)) (Uf 0 [0,1,8] rfl (Go'.condF rfl (Ut 2 rfl (Ur 13 34078848 rfl (Uq 3 rfl (O.callQ rfl rfl rfl call94 rfl (degG_spec hd) trivial (Uq 5 rfl (O.st rfl rfl sizeOf3 rfl rfl rfl rfl rfl (hw.at0 10 1 (by omega)) ?_)))))))))))
 intro H1 W1
 have hsW1:=W1.size
 replace h0:=W1.keep1 h0 (by omega)
 replace h2:=W1.keep1 h2 (by omega)
 replace h3:=W1.keep1 h3 (by omega)
 replace he:=W1.fr.rd he (fun i hi=>nr (by simp only [List.length_cons,List.length_nil] at hi ⊢;omega))
 replace h6:=W1.at
 replace h7:=W1.keep1 h7 (by omega)
 replace h8:=W1.keep1 h8 (by omega)
 replace h9:=W1.keep1 h9 (by omega)
 replace hle:=W1.keep1 hle (by omega)
 replace hw:=W1.fr.wr hw
 replace hF:=hF.trans' W1.fr (fun _ _ _ h=>h) (fun b o _ h=>h.1)
 refine ⟨trivial,?_⟩
 refine Uq 2 rfl (O.st rfl rfl sizeOf3 rfl rfl rfl rfl rfl (hw.at0 9 1 (by omega)) ?_)
 intro H2 W2
 have hsW2:=W2.size
 replace h0:=W2.keep1 h0 (by omega)
 replace h2:=W2.keep1 h2 (by omega)
 replace h3:=W2.keep1 h3 (by omega)
 replace he:=W2.fr.rd he (fun i hi=>nr (by simp only [List.length_cons,List.length_nil] at hi ⊢;omega))
 replace h6:=W2.keep1 h6 (by omega)
 replace h7:=W2.at
 replace h8:=W2.keep1 h8 (by omega)
 replace h9:=W2.keep1 h9 (by omega)
 replace hle:=W2.keep1 hle (by omega)
 replace hw:=W2.fr.wr hw
 replace hF:=hF.trans' W2.fr (fun _ _ _ h=>h) (fun b o _ h=>h.1)
 refine ⟨trivial,?_⟩
 refine Uf 0 [0] rfl (Ut 1 rfl (Ur 13 33554688 rfl (Us 4 rfl he rfl (O.mki rfl rfl rfl rfl underlying27 rfl rfl (O.tya rfl rfl rfl rfl rfl (run_assert_no' underlying152 typeInfo27 rfl zeroValue152) (Uq 5 rfl (O.st rfl rfl sizeOf4 rfl rfl rfl rfl rfl (hw.at0 4 1 (by omega)) ?_)))))))
 intro H3 W3
 have hsW3:=W3.size
 replace h0:=W3.keep1 h0 (by omega)
 replace h2:=W3.keep1 h2 (by omega)
 replace h3:=W3.keep1 h3 (by omega)
 replace he:=W3.fr.rd he (fun i hi=>nr (by simp only [List.length_cons,List.length_nil] at hi ⊢;omega))
 replace h6:=W3.keep1 h6 (by omega)
 replace h7:=W3.keep1 h7 (by omega)
 replace h8:=W3.at
 replace h9:=W3.keep1 h9 (by omega)
 replace hle:=W3.keep1 hle (by omega)
 replace hw:=W3.fr.wr hw
 replace hF:=hF.trans' W3.fr (fun _ _ _ h=>h) (fun b o _ h=>h.1)
 refine ⟨trivial,?_⟩
 refine Uf 0 [0] rfl (Ut 1 rfl (Ur 5 64 rfl (Ul 3 rfl h8 (Uf 1 [0,36] rfl (Go'.condT rfl (Ur 13 33554688 rfl (Us 4 rfl he rfl (O.mki rfl rfl rfl rfl underlying27 rfl rfl (O.tya rfl rfl rfl rfl rfl (run_assert_no' underlying155 typeInfo27 rfl zeroValue155) (Uq 5 rfl (O.st rfl rfl sizeOf4 rfl rfl rfl rfl rfl (hw.at0 5 1 (by omega)) ?_)))))))))))
 intro H4 W4
 have hsW4:=W4.size
 replace h0:=W4.keep1 h0 (by omega)
 replace h2:=W4.keep1 h2 (by omega)
 replace h3:=W4.keep1 h3 (by omega)
 replace he:=W4.fr.rd he (fun i hi=>nr (by simp only [List.length_cons,List.length_nil] at hi ⊢;omega))
 replace h6:=W4.keep1 h6 (by omega)
 replace h7:=W4.keep1 h7 (by omega)
 replace h8:=W4.keep1 h8 (by omega)
 replace h9:=W4.at
 replace hle:=W4.keep1 hle (by omega)
 replace hw:=W4.fr.wr hw
 replace hF:=hF.trans' W4.fr (fun _ _ _ h=>h) (fun b o _ h=>h.1)
 refine ⟨trivial,?_⟩
 refine Uf 0 [] rfl (Go'.fall func70 results70 (vs:=[]) trivial ?_)
 exact ⟨rfl,by omega,hF,⟨h0,h2,h3,he,h6,h7,h8,h9,hle,hw⟩⟩
theorem newIso_spec {B:World} {H:Mem} {c:Nat} (hc:cl H c 0=some (.int .u64 0)) (hw:Wr H c 0 1):
  Fn Try.prog B 69 [.pointer (some ⟨c,0,none⟩)] H (fun v H'=>v=.int .u64 ((1:Nat):Int)∧Fr (fun b _=>b=c) H H'):=by
 refine fn_of func69 rfl ntmps69 ?_
 refine (show Go' _ _ _ _ 11 [(0,_)] [.code _] _ from ?_)
 refine Ut 1 rfl (Ur 1 0 rfl (Uf 1 [0,2] rfl (Ut 1 rfl (Ur 6 2064 rfl (Ul 2 rfl hc (O.bin rfl rfl rfl rfl rfl rfl (fun w=>⟨run_eqGuard_int _ _ _ _ _ _ _ _ w,rfl⟩) (Uq 1 rfl (O.st rfl rfl sizeOf105 rfl rfl rfl rfl rfl hw ?_))))))))
 intro H1 W1
 refine ⟨trivial,?_⟩
 refine Uf 0 [0,2] rfl (Ut 1 rfl (Ur 4 16 rfl (Ul 2 rfl W1.at (Uf 1 [2] rfl (Go'.ret (vs:=[_]) func69 results69 ⟨rfl,trivial⟩ ?_)))))
 exact ⟨rfl,W1.fr.mono fun b o _ h=>h.1⟩
theorem newTree_spec {B:World} {H:Mem} {d:Nat} {nl:Bool} {g:FuncId} {ob:Nat} (hd:d=0∨2≤d∧d≤128):
  Fn Try.prog B 49 [.func (.func g) #[] #[ptr ob],.agg #[.int .i64 (d:Int),.bool nl]] H (fun r H'=>∃tr,r=ptr tr∧H.size≤tr∧tr<H'.size∧Fr nowhere H H'∧TrN H' tr 1 (2*dg d-1) (dg d-1) (.func (.func g) #[] #[ptr ob])):=by
 refine fn_of func49 rfl ntmps49 ?_
 refine (show Go' _ _ _ _ 28 [(0,_),(1,_)] [.code _] _ from ?_)
 refine Ut 1 rfl (Ur 2 2 rfl (O.box rfl rfl rfl rfl ?_))
 intro H0 M0
 refine ⟨trivial,?_⟩
 have hs0:=M0.size
 have mo:Rd H0 H.size 0 [.int .i64 (d:Int),.bool nl]:=M0.rd _ [] (by simp [Value.cells])
 refine Uf 1 [0,3,4] rfl (Ut 1 rfl (Ur 2 2 rfl (O.alloc rfl rfl rfl zeroValue109 ?_)))
 intro H1 M1
 refine ⟨trivial,?_⟩
 have hs1:=M1.size
 replace mo:=(M1.fr nowhere).rd mo (fun _ _=>nw)
 have hT0:TrN H1 H0.size 0 0 0 _:=⟨(M1.cl 0).trans rfl,(M1.cl 2).trans rfl,(M1.cl 3).trans rfl,fun i v h=>by
   match i,h with
   | 0,h=>exact (M1.cl 7).trans h
   | 1,h=>exact (M1.cl (7+1)).trans h
   | i+2,h=>simp at h,(M1.cl 10).trans rfl,(M1.cl 9).trans rfl,(M1.cl 4).trans rfl,(M1.cl 5).trans rfl,(M1.cl 6).trans rfl,M1.wr 11 (by decide)⟩
 refine Uf 1 [0,3,4,5] rfl (Ut 1 rfl (Ur 5 520 rfl (Uq 1 rfl (O.alloc rfl rfl rfl zeroValue105 ?_))))
 intro H2 M2
 refine ⟨trivial,?_⟩
 have hs2:=M2.size
 replace mo:=(M2.fr nowhere).rd mo (fun _ _=>nw)
 replace hT0:=hT0.fr (M2.fr nowhere) (fun _=>nw)
 have hc0:cl H2 H1.size 0=some (.int .u64 0):=(M2.cl 0).trans rfl
 have hcw:Wr H2 H1.size 0 1:=M2.wr 1 (by decide)
 refine Uq 2 rfl (O.st rfl rfl sizeOf106 rfl rfl rfl rfl rfl (hT0.wr.at0 1 1 (by omega)) ?_)
 intro H3 W3
 have hs3:=W3.size
 replace mo:=W3.fr.rd mo (fun _ _=>nr (.inl (by omega)))
 replace hc0:=W3.keep1 hc0 (by omega)
 replace hcw:=W3.fr.wr hcw
 have hct:cl H3 H0.size 1=some (.pointer (some ⟨H1.size,0,none⟩)):=W3.at
 have hT0:TrN H3 H0.size 0 0 0 _:=⟨(W3.keep1 hT0.iso (by omega)),(W3.keep1 hT0.rt (by omega)),(W3.keep1 hT0.cnt (by omega)),(W3.fr.rd hT0.emp (fun i hi=>nr (by simp only [List.length_cons,List.length_nil] at hi ⊢;omega))),(W3.keep1 hT0.mn' (by omega)),(W3.keep1 hT0.mx' (by omega)),(W3.keep1 hT0.cv (by omega)),(W3.keep1 hT0.icv (by omega)),(W3.keep1 hT0.le (by omega)),(W3.fr.wr hT0.wr)⟩
 refine ⟨trivial,?_⟩
 refine Uf 0 [0,3,4,5] rfl (Ut 1 rfl (Ur 9 133376 rfl (Ul 4 rfl hct (O.call rfl rfl rfl call69 rfl (newIso_spec hc0 hcw) ?_))))
 rintro _ H4 ⟨rfl,hF4⟩
 have hs4:=hF4.size
 replace mo:=hF4.rd mo (fun _ _ e=>by have e':H.size=H1.size:=e;omega)
 replace hT0:=hT0.fr hF4 (fun _ e=>by have e':H0.size=H1.size:=e;omega)
 refine ⟨trivial,?_⟩
 refine Uq 2 rfl (O.st rfl rfl sizeOf105 rfl rfl rfl rfl rfl (hT0.wr.at0 0 1 (by omega)) ?_)
 intro H5 W5
 have hs5:=W5.size
 replace mo:=W5.fr.rd mo (fun _ _=>nr (.inl (by omega)))
 have hT0:TrN H5 H0.size 1 0 0 _:=⟨W5.at,(W5.keep1 hT0.rt (by omega)),(W5.keep1 hT0.cnt (by omega)),(W5.fr.rd hT0.emp (fun i hi=>nr (by simp only [List.length_cons,List.length_nil] at hi ⊢;omega))),(W5.keep1 hT0.mn' (by omega)),(W5.keep1 hT0.mx' (by omega)),(W5.keep1 hT0.cv (by omega)),(W5.keep1 hT0.icv (by omega)),(W5.keep1 hT0.le (by omega)),(W5.fr.wr hT0.wr)⟩
 refine ⟨trivial,?_⟩
 refine Uf 0 [0,3,4,5] rfl (Ut 1 rfl (Ur 5 512 rfl (Uq 4 rfl (O.st rfl rfl sizeOf58 rfl rfl rfl rfl rfl (hT0.wr.at0 6 1 (by omega)) ?_))))
 intro H6 W6
 have hs6:=W6.size
 replace mo:=W6.fr.rd mo (fun _ _=>nr (.inl (by omega)))
 have hT0:TrN H6 H0.size 1 0 0 (.func (.func g) #[] #[ptr ob]):=⟨(W6.keep1 hT0.iso (by omega)),(W6.keep1 hT0.rt (by omega)),(W6.keep1 hT0.cnt (by omega)),(W6.fr.rd hT0.emp (fun i hi=>nr (by simp only [List.length_cons,List.length_nil] at hi ⊢;omega))),(W6.keep1 hT0.mn' (by omega)),(W6.keep1 hT0.mx' (by omega)),(W6.keep1 hT0.cv (by omega)),(W6.keep1 hT0.icv (by omega)),W6.at,(W6.fr.wr hT0.wr)⟩
 refine ⟨trivial,?_⟩
 refine Uf 0 [3,4,5] rfl (Ut 1 rfl (Ur 4 144 rfl (Ul 2 rfl (mo 0 _ rfl) (O.call rfl rfl rfl call70 rfl (init_new hd hT0) ?_))))
 rintro _ H7 ⟨rfl,hs7,hF7,hT7⟩
 refine ⟨trivial,?_⟩
 refine Uf 0 [4,5] rfl (Ut 1 rfl (Ur 2 0 rfl (Uf 2 [4] rfl (Go'.ret (vs:=[_]) func49 results49 ⟨rfl,trivial⟩ ?_))))
 refine ⟨H0.size,rfl,by omega,by omega,?_,hT7⟩
 have f1:Fr nowhere H H2:=((M0.fr nowhere).trans (M1.fr nowhere)).trans (M2.fr nowhere)
 have f3:Fr nowhere H H3:=f1.trans' W3.fr (fun _ _ _ h=>h) (fun b o hb h=>by have h':=h.1;omega)
 have f4:Fr nowhere H H4:=f3.trans' hF4 (fun _ _ _ h=>h) (fun b o hb h=>by have h':b=H1.size:=h;omega)
 have f5:Fr nowhere H H5:=f4.trans' W5.fr (fun _ _ _ h=>h) (fun b o hb h=>by have h':=h.1;omega)
 have f6:Fr nowhere H H6:=f5.trans' W6.fr (fun _ _ _ h=>h) (fun b o hb h=>by have h':=h.1;omega)
 exact f6.trans' hF7 (fun _ _ _ h=>h) (fun b o hb h=>by have h':b=H0.size:=h;omega)
theorem cloneN_spec {B:World} {H:Mem} {v:Value} {l:List Int} (hi:InS EN H v l) (hll:l.length≤4294967296):
  Fn Try.prog B 71 [v] H (fun r H'=>Acc EN (fun b=>H.size≤b) H' r l∧Fr nowhere H H'):=by
 obtain ⟨a,c,rfl⟩:=hi.len
 rcases a with _|a
 ·
  obtain rfl:l=[]:=by
   rcases hi with ⟨b,o,c',e,_⟩|⟨e,_⟩
   · cases e
   · exact e
  refine fn_of func71 rfl ntmps71 ?_
  refine (show Go' _ _ _ _ 8 [(0,_)] [.code _] _ from ?_)
  refine Ut 1 rfl (Ur 1 0 rfl (Uf 1 [0,2] rfl (Ut 2 rfl (Ur 2 0 rfl (Uq 1 rfl (O.slNil rfl rfl rfl rfl underlying22 rfl rfl (Uf 0 [0,2,4] rfl (Go'.condT rfl (Ut 1 rfl (Ur 1 0 rfl (Uf 1 [0,2] rfl ?_)))))))))))
  refine Go'.ret (vs:=[_]) func71 results71 ⟨rfl,trivial⟩ ?_
  exact ⟨Acc.nil _ _ _,Fr.refl _ _⟩
 ·
  refine fn_of func71 rfl ntmps71 ?_
  refine (show Go' _ _ _ _ 8 [(0,_)] [.code _] _ from ?_)
  refine Ut 1 rfl (Ur 1 0 rfl (Uf 1 [0,2] rfl (Ut 2 rfl (Ur 2 0 rfl (Uq 1 rfl (O.slNil rfl rfl rfl rfl underlying22 rfl rfl (Uf 0 [0,2,4] rfl (Go'.condF rfl (Ut 2 rfl (Ur 4 34 rfl (O.bsl (cs:=[]) rfl rfl rfl ⟨underlying22,sizeOf3,zeroValue3,⟨_,typeInfo3,rfl⟩,rfl,by decide,by decide⟩ rfl (by decide) (by kernel_rfl) ?_)))))))))))
  intro H1 M1
  have hs1:=M1.size
  have hA1:=AccN.made (E:=EN) M1
  refine ⟨trivial,?_⟩
  refine Uq 1 rfl (O.appI (E:=EN) rfl rfl rfl ⟨underlying22,sizeOf3,zeroValue3,⟨_,typeInfo3,rfl⟩,rfl,by decide,by decide⟩ rfl hA1 rfl (hi.fr (M1.fr nowhere)) (Nat.le_trans (Nat.mul_le_mul_left _ (Nat.le_of_ble_eq_true (n:=_) (m:=4096) rfl)) (by simp only [List.length_nil];omega)) (by simp only [List.length_nil];omega) ?_)
  intro v2 H2 hA2 hF2 hs2
  rw [List.nil_append] at hA2
  refine ⟨trivial,?_⟩
  refine Uf 1 [2] rfl (Go'.ret (vs:=[_]) func71 results71 ⟨rfl,trivial⟩ ?_)
  exact ⟨.inr (hA2.mono fun b _ hz=>hz.elim id (fun h=>by omega)),(M1.fr nowhere).trans' hF2 (fun _ _ _ h=>h) (fun b o hb hz=>by have hz':H.size≤b:=hz;omega)⟩
theorem ibefore_spec {B:World} {H:Mem} {v:Value} {ord:List Int} (ho:InS EN H v ord) (hl:ord.length≤4294967296):
  Fn Try.prog B 50 [v] H (fun r H'=>∃ob ov,r=.func (.func 72) #[] #[ptr ob]∧cl H' ob 0=some ov∧H.size≤ob∧ob<H'.size∧Acc EN (fun b=>H.size≤b∧b≠ob) H' ov ord∧Fr nowhere H H'):=by
 refine fn_of func50 rfl ntmps50 ?_
 refine (show Go' _ _ _ _ 7 [(0,_)] [.code _] _ from ?_)
 refine Ut 1 rfl (Ur 1 0 rfl (Uf 1 [0,2] rfl (Ut 1 rfl (Ur 4 168 rfl (Uq 1 rfl (O.call rfl rfl rfl call71 rfl (cloneN_spec ho hl) ?_))))))
 rintro ov H1 ⟨hA,hF1⟩
 obtain ⟨oa,om,oc,rfl⟩:=hA.form
 refine ⟨trivial,?_⟩
 refine O.alloc rfl rfl rfl zeroValue22 ?_
 intro H2 M2
 refine ⟨trivial,?_⟩
 have hs2:=M2.size
 have hA2:=(hA.mono (Y:=fun b=>H.size≤b∧b≠H1.size) (fun b hb hz=>⟨hz,by omega⟩)).fr (M2.fr nowhere) (fun _ _ _ _=>nw)
 have mw:Wr H2 H1.size 0 1:=M2.wr 1 (by decide)
 refine O.st rfl rfl sizeOf22 rfl rfl rfl rfl rfl mw ?_
 intro H3 W3
 have hs3:=W3.size
 have hA3:=hA2.fr W3.fr (fun b o _ hz=>nr (.inl hz.2))
 refine ⟨trivial,?_⟩
 refine Uf 0 [2,3] rfl (Ut 1 rfl (Ur 2 0 rfl (O.mkf rfl rfl rfl rfl rfl rfl (Uf 1 [2] rfl (Go'.ret (vs:=[_]) func50 results50 ⟨rfl,trivial⟩ ?_)))))
 exact ⟨H1.size,_,rfl,W3.at,hF1.size,by omega,hA3,(hF1.trans (M2.fr nowhere)).trans' W3.fr (fun _ _ _ h=>h) (fun b o hb h=>by have h':=h.1;have:=hF1.size;omega)⟩
theorem options_spec {B:World} {H:Mem} {v:Value} {d:Int} {nl:Bool} (hv:∃a m c,v=.slice a m c):
  Fn Try.prog B 51 [.agg #[v,.int .i64 d,.bool nl]] H (fun r H'=>r=.agg #[.int .i64 d,.bool nl]∧Fr nowhere H H'):=by
 obtain ⟨a,m,c,rfl⟩:=hv
 refine fn_of func51 rfl ntmps51 ?_
 refine (show Go' _ _ _ _ 8 [(0,_)] [.code _] _ from ?_)
 refine Ut 1 rfl (Ur 2 10 rfl (O.box rfl rfl rfl rfl ?_))
 intro H1 M1
 refine ⟨trivial,?_⟩
 have hs1:=M1.size
 have mo:Rd H1 H.size 0 [.slice a m c,.int .i64 d,.bool nl]:=M1.rd _ [] (by simp [Value.cells])
 refine O.alloc rfl rfl rfl zeroValue88 ?_
 intro H2 M2
 refine ⟨trivial,?_⟩
 have hs2:=M2.size
 replace mo:=(M2.fr nowhere).rd mo (fun _ _=>nw)
 have mw:Wr H2 H1.size 0 2:=M2.wr 2 (by decide)
 refine Uf 0 [1,2] rfl (Ut 1 rfl (Ur 6 2116 rfl (Ul 1 rfl (mo 1 _ rfl) (Ul 1 rfl (mo 2 _ rfl) (O.bld (cs:=[.int .i64 d,.bool nl]) rfl rfl rfl rfl (st88) rfl (by kernel_rfl) (O.st rfl rfl sizeOf88 rfl rfl rfl rfl rfl mw ?_))))))
 intro H3 W3
 refine ⟨trivial,?_⟩
 refine Uf 0 [2] rfl (Go'.ret (vs:=[_]) func51 results51 ⟨⟨_,_,rfl,fun _ _=>run_loadVar_agg (fun w=>⟨isAgg88 w,sizeOf88 w⟩) rfl W3.all⟩,trivial⟩ ?_)
 exact ⟨rfl,((M1.fr nowhere).trans (M2.fr nowhere)).trans' W3.fr (fun _ _ _ h=>h) (fun b o hb h=>by have h':=h.1;omega)⟩
theorem TrN.mapM {H:Mem} {H0 tr id mx mn ob:Nat} {ov:Value} {ord:List Int} (h:TrN H tr id mx mn (.func (.func 72) #[] #[ptr ob])) (hob:cl H ob 0=some ov) (hA:Acc EN (fun b=>H0≤b∧b≠ob∧b≠tr) H ov ord) (hol:ord.length<4611686018427387904) (h1:H0≤tr) (h2:H0≤ob) (h3:ob≠tr) (htl:tr<H.size):
  ∃I:Inhabited Cx,(@cx I).ord=ord∧(∀b,(@cx I).own b↔H0≤b)∧(@cx I).base=H.size∧@MapT I H tr ⟨id,mx,mn⟩ (fun b=>b=tr) [] none:=by
 refine ⟨⟨⟨ord,ob,ov,H.size,fun b=>H0≤b⟩⟩,rfl,fun _=>Iff.rfl,rfl,?_⟩
 letI I:Inhabited Cx:=⟨⟨ord,ob,ov,H.size,fun b=>H0≤b⟩⟩
 refine ⟨?_,.inl ⟨rfl,rfl,h.rt⟩⟩
 refine @MapM.mk I _ _ _ _ _ (@TrC.mk I _ _ _ _ _ h.iso h.emp h.mn' h.mx' h.cv h.icv h.le h.wr hob ?_ hol htl (cl_lt hob) h3 (Nat.le_refl _) h1 h2) List.Pairwise.nil h.cnt rfl (fun b hb=>by rw [hb];exact htl) (fun b hb=>.inl hb) (.inl ⟨rfl,h.rt⟩)
 rcases hA with ⟨rfl,rfl⟩|⟨b,o,c,rfl,hz,hb,hs⟩
 · exact .inr ⟨rfl,none,0,rfl⟩
 · exact .inl ⟨b,o,c,rfl,hs.hle,hs.rd,hb,hz.1,hz.2.2⟩
theorem InS.form {α:Type} {E:Elt α} {H:Mem} {v:Value} {l:List α} (h:InS E H v l):∃a m c,v=.slice a m c:=have ⟨a,c,e⟩:=h.len;⟨a,_,c,e⟩
theorem growT_spec {B:World} {H:Mem} {d:Nat} {nl:Bool} {v u:Value} {ord:List Int} {l:List (Int×Int)} (hd:d=0∨2≤d∧d≤128) (ho:InS EN H v ord) (hol:ord.length≤4294967296) (hi:InS EJ H u l) (hll:l.length≤4294967296):
  Fn Try.prog B 27 [.agg #[v,.int .i64 (d:Int),.bool nl],u] H (fun r H'=>∃I:Inhabited Cx,(@cx I).ord=ord∧(∀b,(@cx I).own b→H.size≤b)∧H.size≤(@cx I).base∧∃tr S,r=ptr tr∧@MapT I H' tr (PD d) S (Pl.puts (@OI I) l) (AbT.puts (@OI I) (PD d).mx (PD d).mn l)∧Fr nowhere H H'∧∀b,S b→H.size≤b):=by
 have hP:=PD_ok hd
 obtain ⟨a,c,hu⟩:=hi.len
 subst hu
 obtain ⟨av,mv,cv,hv⟩:=InS.form ho
 subst hv
 refine fn_of func27 rfl ntmps27 ?_
 refine (show Go' _ _ _ _ 25 [(0,_),(1,_)] [.code _] _ from ?_)
 refine Ut 1 rfl (Ur 2 2 rfl (O.box rfl rfl rfl rfl ?_))
 intro H1 M1
 refine ⟨trivial,?_⟩
 have hs1:=M1.size
 have mo:Rd H1 H.size 0 [.slice av mv cv,.int .i64 (d:Int),.bool nl]:=M1.rd _ [] (by simp [Value.cells])
 have ho1:=ho.fr (M1.fr nowhere)
 have mo0:cl H1 H.size 0=some (.slice av mv cv):=mo 0 _ rfl
 refine Uf 1 [1,2,4] rfl (Ut 1 rfl (Go'.draw (fun H'=>Rd H' H.size 0 [.slice av mv cv,.int .i64 (d:Int),.bool nl]) [(0,0),(1,1),(3,0),(2,2),(4,2),(5,2),(6,0)] (by kernel_rfl) (by kernel_rfl) (mo) (Ul 1 rfl mo0 (US 0 rfl (fun _ h=>h) rfl (O.call rfl rfl rfl call50 rfl (ibefore_spec ho1 hol) ?_)))))
 rintro _ H2 ⟨ob,ov,rfl,hob,hob1,hob2,hA2,hF2⟩
 have hs2:=hF2.size
 replace mo:=hF2.rd mo (fun _ _=>nw)
 replace mo0:=hF2.keep mo0 nw
 refine ⟨mo,?_⟩
 refine O.call rfl rfl rfl call51 rfl (options_spec ⟨_,_,_,rfl⟩) ?_
 rintro _ H3 ⟨rfl,hF3⟩
 have hs3:=hF3.size
 replace hob:=hF3.keep hob nw
 replace hA2:=hA2.fr hF3 (fun _ _ _ _=>nw)
 replace mo:=hF3.rd mo (fun _ _=>nw)
 replace mo0:=hF3.keep mo0 nw
 refine ⟨mo,?_⟩
 refine O.call rfl rfl rfl call49 rfl (newTree_spec hd) ?_
 rintro _ H4 ⟨tr,rfl,htr1,htr2,hF4,hT⟩
 have hs4:=hF4.size
 replace mo:=hF4.rd mo (fun _ _=>nw)
 replace mo0:=hF4.keep mo0 nw
 replace hob:=hF4.keep hob nw
 replace hA2:=(hA2.mono (Y:=fun b=>H1.size≤b∧b≠ob∧b≠tr) (fun b hb hz=>⟨hz.1,hz.2,by omega⟩)).fr hF4 (fun _ _ _ _=>nw)
 have hFa:Fr nowhere H H4:=(((M1.fr nowhere).trans hF2).trans hF3).trans hF4
 obtain ⟨I,hIo,hIw,hIb,hM1⟩:=hT.mapM (H0:=H1.size) hob hA2 (by omega) (by omega) hob1 (by omega) htr2
 unfold ptr
 refine ⟨mo,?_⟩
 refine Uf 1 [1,4,5] rfl (Ut 2 rfl ?_)
 clear hA2 hob hT hF4 hF3 hF2 ho1
 have hOI:OO ord=OI:=by rw [←hIo];rfl
 have hPD:(⟨1,2*dg d-1,dg d-1⟩:Ps)=PD d:=rfl
 rw [hPD] at hM1
 clear hPD
 refine Ur 3 0 rfl (Uf 3 [4,5,14,15,16] rfl (Ut 1 rfl (Go'.loop (Uk [4,5,14,15,16] rfl ?_))))
 refine Go'.ind (σ:=Nat) (fun j=>l.length-j) (fun j H'=>Fr nowhere H H'∧j≤l.length∧∃S,MapT H' tr (PD d) S (Pl.puts OI (l.take j)) (AbT.puts OI (PD d).mx (PD d).mn (l.take j))∧∀b,S b→H.size≤b)
  (fun j=>[(4,.pointer none),(5,.pointer (some ⟨tr,0,none⟩)),(14,.slice a l.length c),(15,.int .i64 (l.length:Int)),(16,.int .i64 (j:Int))]) 0 ⟨hFa,Nat.zero_le _,_,hM1,fun b hb=>by omega⟩ rfl ?_
 clear hM1
 rintro j H2 ⟨hF,hjl,S,hM,hS⟩ ih
 have hi2:=hi.fr hF
 refine Ut 1 rfl ?_
 by_cases hlt:j<l.length
 ·
  obtain ⟨y,hy⟩:∃y,l[j]?=some y:=⟨l[j],List.getElem?_eq_getElem hlt⟩
  obtain ⟨b,o,c',e,hr⟩:=hi2.at hy
  cases e
  have hpl:=Pl.puts_length OI (l.take j)
  rw [List.length_take] at hpl
  have hlt2:=hM.1.lt
  have hbs:=hM.1.tc.hb
  have hH2:=hF.size
  refine Ur 1 0 rfl (Uc 0 rfl (lssT (by omega)) (Uf 0 [4,5,14,15,16,17] rfl (Ut 1 rfl (Go'.condT rfl (Ut 4 rfl (Ur 4 164 rfl (Ux 0 j rfl (by omega) hlt (Us 0 rfl hr rfl (O.alloc rfl rfl rfl zeroValue27 ?_)))))))))
  intro H5 M5
  refine ⟨trivial,?_⟩
  have hs5:=M5.size
  replace hM:=hM.fr (M5.fr nowhere) (fun _ _ _=>nw)
  have m7:Wr H5 H2.size 0 2:=M5.wr 2 (by decide)
  refine O.st rfl rfl sizeOf27 rfl rfl rfl rfl rfl m7 ?_
  intro H6 W6
  have hs6:=W6.size
  replace hM:=hM.fr W6.fr (fun b o hb hz=>by have h1:=hz.1;exact hb.elim (fun hb=>by have h2:=hlt2 b hb;omega) (fun hb=>by omega))
  have hf6:Fr nowhere H H6:=hF.trans' ((M5.fr nowhere).trans' W6.fr (Z:=nowhere) (fun _ _ _ h=>h) (fun b o hb hz=>by have h1:=hz.1;omega)) (fun _ _ _ h=>h) (fun _ _ _ h=>h)
  have k0:Rd H6 H2.size 0 (EJ.enc y):=W6.all
  refine ⟨trivial,?_⟩
  refine Uf 0 [4,5,7,14,15,16,17] rfl (Ur 3 36 rfl (Us 1 rfl k0 rfl (O.call rfl rfl rfl call52 rfl (setT_spec hP (x:=y) hM (by omega)) ?_)))
  rintro _ H7 ⟨_,rfl,S',hM',hF',hS'⟩
  refine ⟨trivial,?_⟩
  refine Uf 0 [4,5,7,14,15,16,17] rfl (Ut 1 rfl (Ur 2 0 rfl (Ua 0 (((j+1:Nat):Int)) rfl (by omega) (Uf 1 [4,5,7,14,15,16,17] rfl (Uk [4,5,14,15,16] rfl (Go'.inLoop ?_))))))
  exact ih (j+1) H7 ⟨hf6.trans' hF' (fun _ _ _ h=>h) (fun b o hb hz=>hz.elim (fun hz=>by have h1:=hS b hz;omega) id),hlt,S',by
   rw [List.take_add_one,hy]
   rw [←Pl.puts_snoc,←AbT.puts_snoc] at hM'
   exact hM',fun b hb=>(hS' b hb).elim (hS b) (fun h=>by have:=hf6.size;omega)⟩ (by omega)
 ·
  obtain rfl:j=l.length:=by omega
  refine Ur 1 0 rfl (Uc 0 rfl (lssF (by omega)) (Uf 0 [4,5,14,15,16,17] rfl (Ut 1 rfl (Go'.condF rfl (Ut 2 rfl (Ur 2 0 rfl (Uf 2 [4] rfl (Go'.ret (vs:=[_]) func27 results27 ⟨rfl,trivial⟩ ?_))))))))
  rw [List.take_length] at hM
  exact ⟨I,hIo,fun b hb=>by have:=(hIw b).1 hb;omega,by rw [hIb];omega,tr,S,rfl,hM,hF,hS⟩
theorem grow_spec {B:World} {H:Mem} {d:Nat} {nl:Bool} {v u:Value} {ord:List Int} {l:List (Int×Int)} (hd:d=0∨2≤d∧d≤128) (ho:InS EN H v ord) (hol:ord.length≤4294967296) (hi:InS EJ H u l) (hll:l.length≤4294967296):
  Fn Try.prog B 27 [.agg #[v,.int .i64 (d:Int),.bool nl],u] H (fun r H'=>∃I:Inhabited Cx,(@cx I).ord=ord∧(∀b,(@cx I).own b→H.size≤b)∧H.size≤(@cx I).base∧∃tr S,r=ptr tr∧@MapM I H' tr (PD d) S (Pl.puts (@OI I) l)∧Fr nowhere H H'∧∀b,S b→H.size≤b):=
 (growT_spec hd ho hol hi hll).mono fun _ _ ⟨I,h1,h2,h3,tr,S,h4,h5,h6⟩=>⟨I,h1,h2,h3,tr,S,h4,h5.1,h6⟩
end Go.Bt.FG
