/- Contracts of functions of the program, proved by walking through their code. Conditions: those that each theorem names. -/
import Derived.Test.YtmcnochofpgfbaaToqB
import Derived.Test.YtmcnochofpgfbaaToKs
import Derived.Test.YtmcnochofpgfbaaTogD
set_option linter.unusedVariables false
namespace Go.Bt.FG
open Go Go.Proofs Go.Proofs.Try
set_option maxRecDepth 20000
set_option maxHeartbeats 4000000
set_option linter.unusedSectionVars false
section
variable [Inhabited Cx]
theorem mu_lt {a b c h h':Nat} (h1:a<b) (h2:h'<c):a*c+h'<b*c+h:=by
 have:(a+1)*c≤b*c:=Nat.mul_le_mul_right _ h1
 rw [Nat.add_mul,Nat.one_mul] at this
 omega
theorem Gt.Good.nodeP {H:Mem} {P:Ps}:∀{h:Nat} {t:Gt EJ h},Gt.Good H P h t→∃a:Option Addr,NodeM EJ H (Gt.g h t) (Gt.X h t) (.pointer a)
 | 0,_,hg=>⟨_,hg.1⟩
 | h+1,_,hg=>⟨_,hg.1⟩
theorem Gt.srtX {H:Mem} {P:Ps}:∀{h:Nat} {t:Gt EJ h},Gt.Good H P h t→Pl.Srt OI (Gt.L h t)→Pl.Srt OI (Gt.X h t)
 | 0,_,_,hs=>hs
 | h+1,t,hg,hs=>hs.sublist (Pl.sublist_inter t.2.1 _ (by rw [List.length_map];have:=hg.2.2.2.2.2.1;omega))
theorem Acc.stk {H:Mem} {Z:Nat→Prop} {v:Value} {q:Nat×Nat} {fs:List (Nat×Nat)} (h:Acc EK Z H v (stI (q::fs))):∃b o c,v=.slice (some ⟨b,o,none⟩) (fs.length+1) c∧Z b∧b<H.size∧SlE EK H b o c (stI (q::fs)):=by
 rcases h with ⟨_,e⟩|⟨b,o,c,rfl,hz,hb,hs⟩
 · cases e
 · exact ⟨b,o,c,by simp [stI],hz,hb,hs⟩
theorem DrB.res {D:Dc} {H H':Mem} {pv:Int×Int} {sv:Value} {st:List (Nat×Nat)} {Z16 Zq:Nat→Prop} {Ts:List QT} {TA:Nat→Nat→Prop} {rb:Nat} {vs:List Value} (h:DrB D H pv sv st Z16 Zq Ts TA) (hr:D.n≤rb∧rb<D.m∧rb≠D.hb∧rb≠D.pb) (W:Wrote H H' rb 0 vs) (how:D.OW H'):DrB D H' pv sv st Z16 Zq Ts TA where
 sz:=by rw [W.size];exact h.sz
 nb:=h.nb
 ow:=how
 hk:=h.hk.fr W.fr fun b o hb=>nr (.inl (by omega))
 m15:=W.fr.rd h.m15 fun _ _=>nr (.inl (by omega))
 w15:=W.fr.wr h.w15
 stk:=h.stk.fr W.fr fun b o _ hb=>nr (.inl (by have:=(h.z16 b hb).1;omega))
 z16:=fun b hb=>by rw [W.size];exact h.z16 b hb
 lst:=D.lsf h.lst W.fr fun b o hb=>nr (.inl (hb.elim (fun e=>by have:=h.nb;unfold Dc.n at *;omega) (fun e=>by have:=(h.zq b e).1;omega)))
 zq:=fun b hb=>by rw [W.size];exact h.zq b hb
 zz:=h.zz
 pcs:=fun p hp=>(h.pcs p hp).fr W.fr fun b o hb=>nr (.inl (fun e=>(h.dj b o (.inr ⟨p,hp,hb⟩)).2.1 (.inl (.inl (by omega)))))
 dj:=fun b o hb=>by rw [W.size];exact h.dj b o hb
 djp:=h.djp
 fr0:=h.fr0.trans' W.fr (fun _ _ _ hh=>hh) (fun b o hb hh=>by have:=hh.1;unfold Dc.n at *;omega)
 srz:=h.srz
def DrT (D:Dc) (A R:List (Int×Int)) (H:Mem) (pv:Int×Int) (sv:Value) (st:List (Nat×Nat)) (Z16 Zq:Nat→Prop) (Ts:List QT):Prop:=
 (A++R=[]∧RtZ H D.tr D.P∧DrB D H pv sv st Z16 Zq Ts (fun _ _=>False))∨∃h0,∃t0:Gt EJ h0,RtT H D.tr D.P (A++R) h0 t0∧DrB D H pv sv st Z16 Zq Ts (Gt.af h0 t0)∧Gt.Seg (Ra OI A (flat (Ts.map QT.pc))) h0 t0
def Jr (D:Dc) (A R0:List (Int×Int)) (sv:Value) (m:Nat) (H:Mem):Prop:=
 ∃R pv Z16 Zq Ts,m=(A++R).length∧Dri OI A R R0 (Ts.map QT.pc) D.stop∧Pv OI A R pv∧DrT D A R H pv sv [] Z16 Zq Ts
def DrQ (D:Dc) (A R0:List (Int×Int)) (r:Value) (H:Mem):Prop:=
 ∃R pv sv st Z16 Zq Ts,Dri OI A R R0 (Ts.map QT.pc) D.stop∧(∀x∈R,D.stop x=true)∧DrT D A R H pv sv st Z16 Zq Ts∧∃vs:List Value,r=.agg vs.toArray∧vs.length=4∧Rd H D.dl 0 vs
theorem DrT.b {D:Dc} {A R:List (Int×Int)} {H:Mem} {pv:Int×Int} {sv:Value} {st:List (Nat×Nat)} {Z16 Zq:Nat→Prop} {Ts:List QT} (h:DrT D A R H pv sv st Z16 Zq Ts):∃TA,DrB D H pv sv st Z16 Zq Ts TA:=h.elim (fun h=>⟨_,h.2.2⟩) (fun ⟨_,_,h⟩=>⟨_,h.2.1⟩)
theorem LiS.vals {dl:Nat} {ex:Bool} {H:Mem} {Zq:Nat→Prop} {Ts:List QT} (h:LiS dl ex H Zq Ts):∃vs:List Value,vs.length=4∧ones vs=true∧Rd H dl 0 vs:=by
 obtain ⟨q,fn,cnt,hL,_,_,hon⟩:=h
 obtain ⟨sv,h3,hA⟩:=hL.st
 obtain ⟨a,m,c,rfl⟩:=hA.form
 refine ⟨[fn,.int .i64 (cnt:Int),.int .i64 ((0:Nat):Int),.slice a m c],rfl,?_,fun i v hv=>?_⟩
 · simp [ones] at hon ⊢;exact ⟨hon,rfl,rfl,rfl⟩
 ·
  match i,hv with
  | 0,hv=>cases hv;exact hL.c0
  | 1,hv=>cases hv;exact hL.c1
  | 2,hv=>cases hv;exact hL.c2
  | 3,hv=>cases hv;exact h3
theorem DrT.res {D:Dc} {A R:List (Int×Int)} {H H':Mem} {pv:Int×Int} {sv:Value} {st:List (Nat×Nat)} {Z16 Zq:Nat→Prop} {Ts:List QT} {rb:Nat} {vs:List Value} (h:DrT D A R H pv sv st Z16 Zq Ts) (hr:D.n≤rb∧rb<D.m∧rb≠D.hb∧rb≠D.pb) (W:Wrote H H' rb 0 vs) (how:D.OW H'):DrT D A R H' pv sv st Z16 Zq Ts:=by
 rcases h with ⟨e,hz,hB⟩|⟨h0,t0,hT,hB,hS⟩
 ·
  have hkb:∀b o,b<cx.base∧cx.own b→¬rng rb 0 vs.length b o:=fun b o hb hh=>by have h1:=hh.1;have:=hB.nb;omega
  exact .inl ⟨e,⟨hz.tc.fr W.fr fun b o hb _=>hkb b o hb,W.fr.keep hz.cnt (hkb _ _ ⟨hz.tc.tb,hz.tc.tw⟩),W.fr.keep hz.c (hkb _ _ ⟨hz.tc.tb,hz.tc.tw⟩)⟩,hB.res hr W how⟩
 · exact .inr ⟨h0,t0,hT.fr W.fr (hB.keeps fun b o hh=>.inl (.inl (by have h1:=hh.1;omega))),hB.res hr W how,hS⟩
structure Jn (D:Dc) (A R0 R:List (Int×Int)) (H:Mem) (pv:Int×Int) (sv:Value) (fs:List (Nat×Nat)) (Z16 Zq:Nat→Prop) (Ts:List QT) (h0:Nat) (t0:Gt EJ h0) (h:Nat) (t:Gt EJ h) (A1 C1:List (Int×Int)):Prop where
 dri:Dri OI A R R0 (Ts.map QT.pc) D.stop
 T:RtT H D.tr D.P (A++R) h0 t0
 B:DrB D H pv sv ((Gt.p h0 t0,0)::fs) Z16 Zq Ts (Gt.af h0 t0)
 seg:Gt.Seg (Ra OI A (flat (Ts.map QT.pc))) h0 t0
 dn:Dn t0 fs t A1 C1
structure Jm (D:Dc) (A R:List (Int×Int)) (H:Mem) (pv:Int×Int) (sv:Value) (fs:List (Nat×Nat)) (Z16 Zq:Nat→Prop) (Ts:List QT) (G:List (Int×Int)) (h0:Nat) (t0:Gt EJ h0) (h:Nat) (t:Gt EJ h) (A1 C1:List (Int×Int)):Prop where
 T:RtT H D.tr D.P (A++R) h0 t0
 B:DrB D H pv sv ((Gt.p h0 t0,0)::fs) Z16 Zq Ts (Gt.af h0 t0)
 seg:Gt.Seg (Ra OI A G) h0 t0
 dn:Dn t0 fs t A1 C1
def Cu2 (A R A1 C1:List (Int×Int)) (pv:Int×Int) (i:Nat) (fd:Bool) (m0 m1:Nat):(h:Nat)→Gt EJ h→Prop
 | 0,t=>A=A1++t.2.take i∧R=t.2.drop i++C1∧i≤t.2.length
 | h+1,t=>∃k R1 R2,CuI A R A1 C1 t i k R1 R2∧(fd=true→R1=[]∧i<t.2.1.length)∧(fd=false→Pv OI A R pv∧Pv OI A1 C1 pv∧i=Pl.pos OI pv t.2.1∧(A++R).length*(m0+1)+(h+1)≤m1)
def J1 (D:Dc) (A R0:List (Int×Int)) (m0:Nat) (sv:Value) (p m:Nat) (H:Mem):Prop:=
 ∃R pv fs Z16 Zq Ts h0,∃t0:Gt EJ h0,∃h,∃t:Gt EJ h,∃A1 C1,Jn D A R0 R H pv sv fs Z16 Zq Ts h0 t0 h t A1 C1∧Pv OI A R pv∧Pv OI A1 C1 pv∧p=Gt.p h t∧(A++R).length≤m0∧m=(A++R).length*(m0+1)+h
def J2 (D:Dc) (A R0:List (Int×Int)) (m0 m1:Nat) (sv:Value) (p i:Nat) (fd:Bool) (m:Nat) (H:Mem):Prop:=
 ∃R pv fs Z16 Zq Ts h0,∃t0:Gt EJ h0,∃h,∃t:Gt EJ h,∃A1 C1,Jn D A R0 R H pv sv fs Z16 Zq Ts h0 t0 h t A1 C1∧p=Gt.p h t∧(A++R).length≤m0∧m=2*(A++R).length+(if h=0 then 1 else 0)∧Cu2 A R A1 C1 pv i fd m0 m1 h t
def JL (D:Dc) (A R0:List (Int×Int)) (m0:Nat) (sv:Value) (p i m:Nat) (H:Mem):Prop:=
 ∃R pv fs Z16 Zq Ts h0,∃t0:Gt EJ h0,∃t:Gt EJ 0,∃A1 C1,Jn D A R0 R H pv sv fs Z16 Zq Ts h0 t0 0 t A1 C1∧p=Gt.p 0 t∧(A++R).length≤m0∧m=(A++R).length∧A=A1++t.2.take i∧R=t.2.drop i++C1∧i≤t.2.length
def JC (D:Dc) (A R0:List (Int×Int)) (m0:Nat) (sv:Value) (m:Nat) (H:Mem):Prop:=
 ∃R pv fs Z16 Zq Ts h0,∃t0:Gt EJ h0,∃h,∃t:Gt EJ h,∃A1 C1,Jn D A R0 R H pv sv fs Z16 Zq Ts h0 t0 h t A1 C1∧(A++R).length≤m0∧m=fs.length∧A=A1++Gt.L h t∧R=C1
section
variable {D:Dc} {A R0 R:List (Int×Int)} {H:Mem} {pv:Int×Int} {sv:Value} {fs:List (Nat×Nat)} {Z16 Zq:Nat→Prop} {Ts:List QT} {h0:Nat} {t0:Gt EJ h0} {h:Nat} {t:Gt EJ h} {A1 C1:List (Int×Int)}
theorem Jn.good (J:Jn D A R0 R H pv sv fs Z16 Zq Ts h0 t0 h t A1 C1):Gt.Good H D.P h t:=(J.dn.good J.T.g).1
theorem Jn.eL (J:Jn D A R0 R H pv sv fs Z16 Zq Ts h0 t0 h t A1 C1):A++R=A1++Gt.L h t++C1:=by rw [←J.T.e];exact J.dn.L J.T.g
theorem Jn.x1 (hP:PsOk D.P) (J:Jn D A R0 R H pv sv fs Z16 Zq Ts h0 t0 h t A1 C1):1≤(Gt.X h t).length:=by
 rcases fs with _|⟨f,fs⟩
 ·
  have d:=J.dn
  have x:=J.T.x1
  cases d with
  | nil=>exact x
 ·
  have:=(J.dn.good J.T.g).2 (by simp)
  have:=hP.h1
  omega
theorem Jn.srtL (J:Jn D A R0 R H pv sv fs Z16 Zq Ts h0 t0 h t A1 C1):Pl.Srt OI (Gt.L h t):=by
 have h1:=J.T.srt
 rw [J.eL,Pl.Srt.append,Pl.Srt.append] at h1
 exact h1.1.2.1
theorem Jn.tall (hP:PsOk D.P) (J:Jn D A R0 R H pv sv fs Z16 Zq Ts h0 t0 h t A1 C1):h+fs.length+1≤(A++R).length:=by
 have h1:=Gt.Good.tall hP J.T.g J.T.x1
 rw [J.T.e] at h1
 have:=J.dn.le
 omega
theorem Jn.step {Z:Nat→Nat→Prop} {H':Mem} (J:Jn D A R0 R H pv sv fs Z16 Zq Ts h0 t0 h t A1 C1) (hf:Fr Z H H') (hz:∀b o,Z b o→b=D.hb) (hk:HintOk H' (.pointer (some ⟨D.hb,0,none⟩)) (fun b=>b=D.hb)):Jn D A R0 R H' pv sv fs Z16 Zq Ts h0 t0 h t A1 C1:=by
 have hn5:∀b o,Z b o→¬(Z16 b∨Zq b∨(∃p∈Ts,QT.af p b o)∨Gt.af h0 t0 b o):=fun b o hh hc=>by
  have e:=hz b o hh
  have hsz:=J.B.sz
  have hnb:=J.B.nb
  rcases hc with hc|hc|hc|hc
  · have:=(J.B.z16 b hc).1;omega
  · have:=(J.B.zq b hc).1;omega
  · exact (J.B.dj b o (.inr hc)).2.1 (.inl (.inl (by omega)))
  · exact (J.B.dj b o (.inl hc)).2.1 (.inl (.inl (by omega)))
 have hnb:=J.B.nb
 exact ⟨J.dri,J.T.fr hf (J.B.keeps fun b o hh=>.inl (.inl (by have:=hz b o hh;omega))),J.B.step hf (fun b o hc hh=>by
   rcases hc with hc|hc|hc|hc
   · exact hc.2 (hz b o hh)
   · exact hn5 b o hh (.inl hc)
   · exact hn5 b o hh (.inr (.inl hc))
   · exact hn5 b o hh (.inr (.inr (.inl hc)))) (fun b o hb hh=>by have:=hz b o hh;omega) hk (fun b o hb=>⟨.inl hb,Nat.lt_of_lt_of_le (J.B.dj b o (.inl hb)).2.2.1 hf.size⟩),J.seg,J.dn⟩
theorem Jn.nw {H':Mem} (J:Jn D A R0 R H pv sv fs Z16 Zq Ts h0 t0 h t A1 C1) (hf:Fr nowhere H H'):Jn D A R0 R H' pv sv fs Z16 Zq Ts h0 t0 h t A1 C1:=J.step hf (fun _ _ h=>h.elim) (J.B.hk.fr hf fun _ _ _ h=>h)
theorem Jn.m (J:Jn D A R0 R H pv sv fs Z16 Zq Ts h0 t0 h t A1 C1):Jm D A R H pv sv fs Z16 Zq Ts (flat (Ts.map QT.pc)) h0 t0 h t A1 C1:=⟨J.T,J.B,J.seg,J.dn⟩
section
variable {G:List (Int×Int)}
theorem Jm.good (J:Jm D A R H pv sv fs Z16 Zq Ts G h0 t0 h t A1 C1):Gt.Good H D.P h t:=(J.dn.good J.T.g).1
theorem Jm.eL (J:Jm D A R H pv sv fs Z16 Zq Ts G h0 t0 h t A1 C1):A++R=A1++Gt.L h t++C1:=by rw [←J.T.e];exact J.dn.L J.T.g
theorem Jm.srtL (J:Jm D A R H pv sv fs Z16 Zq Ts G h0 t0 h t A1 C1):Pl.Srt OI (Gt.L h t):=by
 have h1:=J.T.srt
 rw [J.eL,Pl.Srt.append,Pl.Srt.append] at h1
 exact h1.1.2.1
theorem Jm.cell (J:Jm D A R H pv sv fs Z16 Zq Ts G h0 t0 h t A1 C1) {b o:Nat} (hb:Gt.af h t b o):cx.base≤b∧¬(D.own b∨Z16 b∨Zq b)∧b<H.size∧(D.TA0 b o∨D.n≤b):=J.B.dj b o (.inl (J.dn.sub b o hb))
theorem Jm.cnt (J:Jm D A R H pv sv fs Z16 Zq Ts G h0 t0 h t A1 C1) {Hc:Mem} (hE:Fr (Gt.af h t) H Hc) (hc:cl Hc (Gt.p h t) 1=some (.int .i64 ((Gt.L h t).length:Int))):∀q∈Gt.p h0 t0::fs.map Prod.fst,∃c:Nat,cl Hc q 1=some (.int .i64 (c:Int))∧(Gt.L h t).length≤c∧c≤(A++R).length∧Wr Hc q 0 4:=fun q hq=>by
 obtain ⟨c,h1,h2,h3,h4⟩:=J.dn.cnts J.T.g q hq
 rw [J.T.e] at h3
 by_cases e:q=Gt.p h t
 ·
  refine ⟨_,by rw [e];exact hc,Nat.le_refl _,?_,hE.wr h4⟩
  omega
 · exact ⟨c,hE.keep h1 (J.dn.pt_off J.T.g q hq e 1 (by decide)),h2,h3,hE.wr h4⟩
theorem Jm.pts (J:Jm D A R H pv sv fs Z16 Zq Ts G h0 t0 h t A1 C1):∀q∈Gt.p h0 t0::fs.map Prod.fst,cx.base≤q∧¬(D.own q∨Z16 q∨Zq q)∧q<H.size:=fun q hq=>by
 obtain ⟨h1,h2,h3,_⟩:=J.B.dj q 1 (.inl (J.dn.pts q hq 1 (by decide)))
 exact ⟨h1,h2,h3⟩
theorem Jm.edit {Z:Nat→Nat→Prop} {H':Mem} (J:Jm D A R H pv sv fs Z16 Zq Ts G h0 t0 h t A1 C1) (hf:Fr Z H H') {t':Gt EJ h} {d:Nat} {R' p:List (Int×Int)} (hg':Gt.Good H' D.P h t') (hp:Gt.p h t'=Gt.p h t) (ha:∀b o,Gt.af h t' b o→Gt.af h t b o) (hd:(Gt.L h t).length=(Gt.L h t').length+d)
  (hx1:1≤(Gt.X h t').length) (hx:fs≠[]→D.P.mn≤(Gt.X h t').length) (hZ:∀b o,Z b o→Gt.af h t b o∨(o=1∧b∈Gt.p h0 t0::fs.map Prod.fst)∨(b=D.tr∧o=3))
  (hc:∀q∈Gt.p h0 t0::fs.map Prod.fst,q≠Gt.p h t→∀c:Nat,cl H q 1=some (.int .i64 (c:Int))→cl H' q 1=some (.int .i64 ((c-d:Nat):Int))) (hcnt:cl H' D.tr 3=some (.int .i64 (((A++R).length-d:Nat):Int)))
  (e:A++R'=A1++Gt.L h t'++C1) (hsub:(A++R').Sublist (A++R)) (hlo:∀w∈A1,w∈A) (hhi:∀g∈p,∀c∈C1,OI.lt g c=true)
  (hS:Gt.Seg (Ra OI A (G)) h t→Gt.Seg (Ra OI A (G++p)) h t'):
  ∃t0':Gt EJ h0,RtT H' D.tr D.P (A++R') h0 t0'∧DrB D H' pv sv ((Gt.p h0 t0',0)::fs) Z16 Zq Ts (Gt.af h0 t0')∧Gt.Seg (Ra OI A (G++p)) h0 t0'∧Dn t0' fs t' A1 C1∧∀b o,Gt.af h0 t0' b o→Gt.af h0 t0 b o∧(Gt.af h t b o→Gt.af h t' b o):=by
 have hpt:∀q∈Gt.p h0 t0::fs.map Prod.fst,Gt.af h0 t0 q 1:=fun q hq=>J.dn.pts q hq 1 (by decide)
 have hZ2:∀b o,Z b o→Gt.af h0 t0 b o∨(b=D.tr∧o=3):=fun b o hh=>by
  rcases hZ b o hh with h1|⟨rfl,h1⟩|h1
  · exact .inl (J.dn.sub b o h1)
  · exact .inl (hpt b h1)
  · exact .inr h1
 have htb:=J.T.tc.tb
 obtain ⟨t0',g',dn',p',a',l',x',s'⟩:=Dn.edit hf J.dn J.T.g hg' hp ha hd hx (fun b o hb hh=>by
  rcases hZ b o hh with h1|h1|h1
  · exact .inl h1
  · exact .inr h1
  · have:=J.T.nt b o hb;omega) hc
 have eL:Gt.L h0 t0'=A++R':=by rw [e];exact dn'.L g'
 have hl0:=congrArg List.length J.T.e
 refine ⟨t0',⟨J.T.tc.fr hf (fun b o hb ho hh=>?_),J.T.srt.sublist hsub,?_,g',?_,eL,?_,fun b o hb=>J.T.nt b o (a' b o hb).1⟩,?_,s' _ _ (segE_cut hlo hhi) hS J.seg,dn',a'⟩
 ·
  rcases hZ2 b o hh with h1|⟨rfl,rfl⟩
  · have:=J.T.nt b o h1;omega
  · have:=ho rfl;omega
 ·
  rw [eL] at l'
  rw [hl0] at l'
  rw [hcnt,show (A++R).length-d=(A++R').length by omega]
 ·
  rcases fs with _|⟨f,fs⟩
  ·
   cases dn' with
   | nil=>exact hx1
  · rw [x' (by simp)];exact J.T.x1
 ·
  rw [p']
  exact hf.keep J.T.c fun hh=>(hZ2 _ _ hh).elim (fun h1=>by have:=J.T.nt _ _ h1;omega) (fun h1=>by omega)
 ·
  have:=J.B.step (TA':=Gt.af h0 t0') hf (fun b o hb hh=>by
   rcases hZ2 b o hh with h1|⟨rfl,rfl⟩
   ·
    rcases hb with hb|hb|hb|⟨q,hq,hb⟩
    · exact (J.B.dj b o (.inl h1)).2.1 (.inl hb.1)
    · exact (J.B.dj b o (.inl h1)).2.1 (.inr (.inl hb))
    · exact (J.B.dj b o (.inl h1)).2.1 (.inr (.inr hb))
    · exact J.B.djp b o q hq hb h1
   ·
    have hnb:=J.B.nb
    rcases hb with hb|hb|hb|⟨q,hq,hb⟩
    ·
     rcases hb.1 with h2|h2
     · omega
     · omega
    · have:=(J.B.z16 _ hb).1;omega
    · have:=(J.B.zq _ hb).1;omega
    · have:=(J.B.dj _ _ (.inr ⟨q,hq,hb⟩)).1;omega) (fun b o hb hh=>by
   rcases hZ2 b o hh with h1|⟨rfl,rfl⟩
   · exact .inl ((J.B.dj b o (.inl h1)).2.2.2.elim id (fun h2=>by unfold Dc.n at *;omega))
   · exact .inr (.inl ⟨rfl,.inr rfl⟩)) (J.B.hk.fr hf fun b o hb hh=>by
   rcases hZ2 b o hh with h1|⟨rfl,rfl⟩
   · exact (J.B.dj b o (.inl h1)).2.1 (.inl (.inl (by have:=J.B.nb;omega)))
   · have:=J.B.nb;omega) (fun b o hb=>⟨.inl (a' b o hb).1,g'.lt hb⟩)
  rw [p']
  exact this
end
theorem Jn.cell (J:Jn D A R0 R H pv sv fs Z16 Zq Ts h0 t0 h t A1 C1) {b o:Nat} (hb:Gt.af h t b o):cx.base≤b∧¬(D.own b∨Z16 b∨Zq b)∧b<H.size∧(D.TA0 b o∨D.n≤b):=J.B.dj b o (.inl (J.dn.sub b o hb))
theorem Jn.off5 (J:Jn D A R0 R H pv sv fs Z16 Zq Ts h0 t0 h t A1 C1):∀b o,b=D.hb→¬ncl EJ (Gt.g h t) b o:=fun b o e hn=>by
 have ha:Gt.af h t b o:=by
  rcases h with _|h
  · exact hn
  · exact .inl hn
 have hnb:=J.B.nb
 exact (J.cell ha).2.1 (.inl (.inl (by omega)))
theorem Jn.cu (J:Jn D A R0 R H pv sv fs Z16 Zq Ts h0 t0 h t A1 C1) (hpv:Pv OI A R pv) (hw:Pv OI A1 C1 pv) {m0 m1:Nat} (hm:m1=(A++R).length*(m0+1)+h):Cu2 A R A1 C1 pv (Pl.pos OI pv (Gt.X h t)) (Pl.fnd OI pv (Gt.X h t)) m0 m1 h t:=by
 rcases h with _|h
 ·
  obtain ⟨e1,e2⟩:=cu_leaf (X:=t.2) J.eL J.T.srt hpv hw rfl
  exact ⟨e1,e2,Pl.pos_le OI pv t.2⟩
 ·
  obtain ⟨k,R1,R2,hc,hf⟩:=CuI.find J.good J.eL J.T.srt hpv hw rfl
  exact ⟨k,R1,R2,hc,fun e=>⟨hf e,Pl.fnd_pos_lt OI e⟩,fun _=>⟨hpv,hw,rfl,Nat.le_of_eq hm.symm⟩⟩
theorem Jn.cnt (J:Jn D A R0 R H pv sv fs Z16 Zq Ts h0 t0 h t A1 C1) {Hc:Mem} (hE:Fr (Gt.af h t) H Hc) (hc:cl Hc (Gt.p h t) 1=some (.int .i64 ((Gt.L h t).length:Int))):∀q∈Gt.p h0 t0::fs.map Prod.fst,∃c:Nat,cl Hc q 1=some (.int .i64 (c:Int))∧(Gt.L h t).length≤c∧c≤(A++R).length∧Wr Hc q 0 4:=fun q hq=>by
 obtain ⟨c,h1,h2,h3,h4⟩:=J.dn.cnts J.T.g q hq
 rw [J.T.e] at h3
 by_cases e:q=Gt.p h t
 ·
  refine ⟨_,by rw [e];exact hc,Nat.le_refl _,?_,hE.wr h4⟩
  omega
 · exact ⟨c,hE.keep h1 (J.dn.pt_off J.T.g q hq e 1 (by decide)),h2,h3,hE.wr h4⟩
theorem Jn.pts (J:Jn D A R0 R H pv sv fs Z16 Zq Ts h0 t0 h t A1 C1):∀q∈Gt.p h0 t0::fs.map Prod.fst,cx.base≤q∧¬(D.own q∨Z16 q∨Zq q)∧q<H.size:=fun q hq=>by
 obtain ⟨h1,h2,h3,_⟩:=J.B.dj q 1 (.inl (J.dn.pts q hq 1 (by decide)))
 exact ⟨h1,h2,h3⟩
theorem stI_at {st:List (Nat×Nat)} {k:Nat} {q:Nat×Nat} (h:st[k]?=some q):(stI st)[k]?=some (q.1,((q.2:Nat):Int)):=by unfold stI;rw [List.getElem?_map,h];rfl
theorem Jn.edit {Z:Nat→Nat→Prop} {H':Mem} (J:Jn D A R0 R H pv sv fs Z16 Zq Ts h0 t0 h t A1 C1) (hf:Fr Z H H') {t':Gt EJ h} {d:Nat} {R' p:List (Int×Int)} (hg':Gt.Good H' D.P h t') (hp:Gt.p h t'=Gt.p h t) (ha:∀b o,Gt.af h t' b o→Gt.af h t b o) (hd:(Gt.L h t).length=(Gt.L h t').length+d)
  (hx1:1≤(Gt.X h t').length) (hx:fs≠[]→D.P.mn≤(Gt.X h t').length) (hZ:∀b o,Z b o→Gt.af h t b o∨(o=1∧b∈Gt.p h0 t0::fs.map Prod.fst)∨(b=D.tr∧o=3))
  (hc:∀q∈Gt.p h0 t0::fs.map Prod.fst,q≠Gt.p h t→∀c:Nat,cl H q 1=some (.int .i64 (c:Int))→cl H' q 1=some (.int .i64 ((c-d:Nat):Int))) (hcnt:cl H' D.tr 3=some (.int .i64 (((A++R).length-d:Nat):Int)))
  (e:A++R'=A1++Gt.L h t'++C1) (hsub:(A++R').Sublist (A++R)) (hlo:∀w∈A1,w∈A) (hhi:∀g∈p,∀c∈C1,OI.lt g c=true)
  (hS:Gt.Seg (Ra OI A (flat (Ts.map QT.pc))) h t→Gt.Seg (Ra OI A (flat (Ts.map QT.pc)++p)) h t'):
  ∃t0':Gt EJ h0,RtT H' D.tr D.P (A++R') h0 t0'∧DrB D H' pv sv ((Gt.p h0 t0',0)::fs) Z16 Zq Ts (Gt.af h0 t0')∧Gt.Seg (Ra OI A (flat (Ts.map QT.pc)++p)) h0 t0'∧Dn t0' fs t' A1 C1∧∀b o,Gt.af h0 t0' b o→Gt.af h0 t0 b o∧(Gt.af h t b o→Gt.af h t' b o):=
 J.m.edit hf hg' hp ha hd hx1 hx hZ hc hcnt e hsub hlo hhi hS
theorem DrB.add {TA:Nat→Nat→Prop} {st:List (Nat×Nat)} {ex:Bool} (hLS:∀H Zq Ts,D.LS H Zq Ts=LiS D.dl ex H Zq Ts) (hB:DrB D H pv sv st Z16 Zq Ts TA) (hex:ex=false) (p:QT) (hp:QT.ok H D.P p)
  (ha:∀b o,QT.af p b o→cx.base≤b∧¬(D.own b∨Z16 b∨Zq b)∧b<H.size∧(D.TA0 b o∨D.n≤b)∧¬TA b o) (hb:(QT.pc p).2.length<4611686018427387904):DrB D H pv sv st Z16 Zq (Ts++[p]) TA:=by
 obtain ⟨q,fn,cnt,hL,h1,h2,hon⟩:=(hLS _ _ _▸hB.lst:LiS D.dl ex H Zq Ts)
 exact hB.list (Fr.refl _ _) (by rw [hLS];exact ⟨q,fn,cnt,hL,fun e=>(by rw [hex] at e;cases e),h2,hon⟩) (fun b hb=>⟨.inl hb,(hB.zq b hb).2⟩) hp ha hb
theorem Jn.cut (hPD:PsOk D.P) {g:Ng} {X:List (Int×Int)} {K:List (Gt EJ h)} {i:Nat} {k k2:Gt EJ h} {R1 R2:List (Int×Int)} {x x2:Int×Int} {Hc Hd He:Mem} {pts:List Nat} (J:Jn D A R0 R H pv sv fs Z16 Zq Ts h0 t0 (h+1) ((g,X,K):Gt EJ (h+1)) A1 C1) (hcu:CuI A R A1 C1 ((g,X,K):Gt EJ (h+1)) i k R1 R2)
  (hx:X[i]?=some x) (hk2:K[i+1]?=some k2) (hx2:X[i+1]?=some x2) (hns:∀w,OI.lt w x2=true→D.stop w=false) (hmin:D.P.mn<X.length∨fs=[]) (hI:Inn Hc D.P h g (X.take i++X.drop (i+1)) (((Gt.ps h K).map some).take (i+1)++((Gt.ps h K).map some).drop (i+1+1)) K)
  (hE:Fr (innc h g K) H Hc) (hpts:pts=Gt.p h0 t0::fs.map Prod.fst) (hfc:Fr (fun b o=>o=1∧b∈pts) Hc Hd) (hch:∀q∈pts,∀c:Nat,cl Hc q 1=some (.int .i64 (c:Int))→cl Hd q 1=some (.int .i64 ((c-((Gt.L h k2).length+1):Nat):Int)))
  (W:Wrote Hd He D.tr 3 [.int .i64 (((A++R).length-((Gt.L h k2).length+1):Nat):Int)]):
  ∃(R':List (Int×Int)) (t0':Gt EJ h0) (g':Ng) (K':List (Gt EJ h)),RtT He D.tr D.P (A++R') h0 t0'∧DrB D He pv sv ((Gt.p h0 t0',0)::fs) Z16 Zq Ts (Gt.af h0 t0')∧Gt.Seg (Ra OI A (flat (Ts.map QT.pc)++(x::Gt.L h k2))) h0 t0'∧Dn t0' fs (Gt.nd g' (X.take i++X.drop (i+1)) K') A1 C1∧
   CuI A R' A1 C1 ((g',X.take i++X.drop (i+1),K'):Gt EJ (h+1)) i k R1 R2∧g'.p=g.p∧Dri OI A R' R0 (Ts.map QT.pc++[(x,Gt.L h k2)]) D.stop∧Gt.Good He D.P h k2∧(∀b o,Gt.af h k2 b o→cx.base≤b∧¬(D.own b∨Z16 b∨Zq b)∧b<He.size∧(D.TA0 b o∨D.n≤b)∧¬Gt.af h0 t0' b o)∧
   (A++R).length=(A++R').length+((Gt.L h k2).length+1)∧(∀v,Pv OI A R v→Pv OI A R' v):=by
 have hg:=J.good
 have hKl:K.length=X.length+1:=hg.2.2.2.2.2.1
 have hgc:=hg.cnt
 have hil:=(List.getElem?_eq_some_iff.1 hx).1
 have hil2:=(List.getElem?_eq_some_iff.1 hx2).1
 have hk2K:=List.mem_of_getElem? hk2
 obtain ⟨eR,hcu'⟩:=hcu.cut (g':={ g with cnt:=g.cnt-((Gt.L h k2).length+1) }) hKl hx hk2
 obtain ⟨eL,eL'⟩:=cutN_L (g':={ g with cnt:=g.cnt-((Gt.L h k2).length+1) }) (t:=((g,X,K):Gt EJ (h+1))) hKl hcu.kk hx hk2
 have lenL:=congrArg List.length eL
 have lenL':=congrArg List.length eL'
 simp only [List.length_append,List.length_cons] at lenL lenL'
 have hsz1:=hE.size
 have hsz2:=hfc.size
 have hsz3:=W.size
 have hnt:=J.T.tc.tb
 have hcell:∀b o,innc h g K b o→cx.base≤b∧¬(D.own b∨Z16 b∨Zq b)∧b<H.size∧(D.TA0 b o∨D.n≤b):=fun b o hb=>J.cell hb
 have hsub:(K.take (i+1)++K.drop (i+2)).Sublist K:=by
  conv=>rhs;rw [←List.take_append_drop (i+1) K]
  have h9:K.drop (i+2)=(K.drop (i+1)).drop 1:=by rw [List.drop_drop]
  rw [h9]
  exact List.Sublist.append_left (List.drop_sublist _ _) _
 have hps:((Gt.ps h K).map some).take (i+1)++((Gt.ps h K).map some).drop (i+1+1)=(Gt.ps h (K.take (i+1)++K.drop (i+2))).map some:=by
  simp [Gt.ps,List.map_take,List.map_drop]
 rw [hps] at hI
 have hoff:∀b o,innc h g K b o→¬(b=g.p∧o=1)→¬(o=1∧b∈pts):=fun b o hb hn hz=>by
  obtain ⟨rfl,hm⟩:=hz
  rw [hpts] at hm
  by_cases e:b=Gt.p (h+1) ((g,X,K):Gt EJ (h+1))
  · exact hn ⟨e,rfl⟩
  · exact J.dn.pt_off J.T.g b hm e 1 (by decide) hb
 have hpm:g.p∈pts:=by rw [hpts];exact J.dn.p_mem
 have hI2:=((hI.sub hsub).recount hfc (fun b o hb=>hoff b o (innc_sub (fun m hm=>hsub.subset hm) hb)) (hch g.p hpm g.cnt hI.n.c1)).fr W.fr (fun b o hb=>nr (.inl (fun e=>by have:=(hcell b o (innc_sub (fun m hm=>hsub.subset hm) hb)).1;omega)))
 have lX:(X.take i++X.drop (i+1)).length+1=X.length:=by rw [List.length_append,List.length_take,List.length_drop];omega
 have lK:(K.take (i+1)++K.drop (i+2)).length=(X.take i++X.drop (i+1)).length+1:=by simp only [List.length_append,List.length_take,List.length_drop];omega
 have hgt':Gt.Good He D.P (h+1) (cutN { g with cnt:=g.cnt-((Gt.L h k2).length+1) } ((g,X,K):Gt EJ (h+1)) i):=hI2.good (by
   show g.cnt-_=(Gt.L (h+1) (cutN { g with cnt:=g.cnt-((Gt.L h k2).length+1) } ((g,X,K):Gt EJ (h+1)) i)).length
   have e9:(Gt.g (h+1) ((g,X,K):Gt EJ (h+1))).cnt=g.cnt:=rfl
   omega) (by have:=hg.2.2.2.2.1;have e9:((g,X,K):Gt EJ (h+1)).2.1=X:=rfl;rw [e9] at this;omega) lK
 have haf:∀b o,Gt.af (h+1) (cutN { g with cnt:=g.cnt-((Gt.L h k2).length+1) } ((g,X,K):Gt EJ (h+1)) i) b o→innc h g (K.take (i+1)++K.drop (i+2)) b o:=fun b o hb=>hb
 have eall:A++(R1++(bhd ((g,X,K):Gt EJ (h+1)) (i+1)++C1))=A1++Gt.L (h+1) (cutN { g with cnt:=g.cnt-((Gt.L h k2).length+1) } ((g,X,K):Gt EJ (h+1)) i)++C1:=by
  rw [eL',hcu.a,hcu.l];simp
 have hsubR:(A++(R1++(bhd ((g,X,K):Gt EJ (h+1)) (i+1)++C1))).Sublist (A++R):=by
  rw [eR,List.append_assoc R1]
  exact List.Sublist.append_left (List.Sublist.append_left (List.sublist_append_right _ _) _) _
 have hsrt:=J.T.srt
 have hsL:=J.srtL
 have hst2:=hsL
 rw [eL,Pl.Srt.append,Pl.Srt.append] at hst2
 have hsall:=hsrt
 rw [J.eL,eL] at hsall
 have hx2m:x2∈bhd ((g,X,K):Gt EJ (h+1)) (i+1):=by
  rw [bhd_cons (t:=((g,X,K):Gt EJ (h+1))) hx2 (List.getElem?_eq_getElem (show i+2<K.length by omega))];simp
 have hpC:∀y∈x::Gt.L h k2,∀c∈C1,OI.lt y c=true:=fun y hy c hc=>by
  rw [Pl.Srt.append] at hsall
  exact hsall.2.2 y (by simp only [List.mem_append];exact .inr (.inl (.inr hy))) c hc
 have hpx2:∀y∈x::Gt.L h k2,OI.lt y x2=true:=fun y hy=>hst2.2.2 y (List.mem_append_right _ hy) x2 hx2m
 have hstop:∀w∈Pc.l ((x,Gt.L h k2):Pc (Int×Int)),D.stop w=false:=fun w hw=>hns w (hpx2 w hw)
 have hZf:Fr (fun b o=>innc h g K b o∨(o=1∧b∈pts)∨(b=D.tr∧o=3)) H He:=(hE.trans' hfc (fun _ _ _ h=>.inl h) (fun _ _ _ h=>.inr (.inl h))).trans' W.fr (fun _ _ _ h=>h) (fun b o _ hz=>by
  have h2:=hz.2.1;have h3:=hz.2.2
  simp only [List.length_cons,List.length_nil] at h3
  exact .inr (.inr ⟨hz.1,by omega⟩))
 have htrd:∀o,¬(o=1∧D.tr∈pts):=fun o hz=>by rw [hpts] at hz;have:=(J.pts _ hz.2).1;omega
 obtain ⟨t0',q1,q2,q3,q4,q5⟩:=J.edit hZf (t':=cutN { g with cnt:=g.cnt-((Gt.L h k2).length+1) } ((g,X,K):Gt EJ (h+1)) i) (d:=(Gt.L h k2).length+1) (R':=R1++(bhd ((g,X,K):Gt EJ (h+1)) (i+1)++C1)) (p:=x::Gt.L h k2) hgt' rfl (fun b o hb=>innc_sub (fun m hm=>hsub.subset hm) hb) (by omega)
  (by show 1≤(X.take i++X.drop (i+1)).length;omega) (fun hne=>by show D.P.mn≤(X.take i++X.drop (i+1)).length;have h9:=hmin.resolve_right hne;omega)
  (fun b o hz=>by
   rcases hz with hz|hz|hz
   · exact .inl hz
   · exact .inr (.inl (by rw [←hpts];exact hz))
   · exact .inr (.inr hz)) (fun q hq hne c hc=>by
   rw [←hpts] at hq
   have h1:=hE.keep hc (fun hz=>hoff q 1 hz (fun e=>hne e.1) ⟨rfl,hq⟩)
   exact W.fr.keep (hch q hq c h1) (nr (.inl (fun e=>htrd 1 ⟨rfl,e▸hq⟩)))) W.at eall hsubR (fun w hw=>by rw [hcu.a];simp [hw]) hpC
  (seg_cutN hg hsL hcu.kk hx hk2 (fun w hw=>by rw [hcu.a];simp [hw]))
 have hxA:x ∉ A:=fun hm=>by
  rw [eR,Pl.Srt.append] at hsrt
  have:=hsrt.2.2 x hm x (by simp)
  rw [OI.irr] at this;cases this
 have hseg:=(J.dn.seg J.seg).1 i x (Gt.L h k2) hx (by show (K.map (Gt.L h))[i+1]?=_;rw [List.getElem?_map,hk2];rfl)
 have hdri:=J.dri
 rw [eR] at hdri
 have hgk2:Gt.Good Hc D.P h k2:=(hI.c.1 k2 hk2K).1
 have hko:∀b o,Gt.af h k2 b o→¬innc h g (K.take (i+1)++K.drop (i+2)) b o:=kid_off (i:=i+1) hg.inn hk2
 have hk2in:∀b o,Gt.af h k2 b o→innc h g K b o:=fun b o hb=>.inr (.inr ⟨k2,hk2K,hb⟩)
 refine ⟨_,t0',_,_,q1,q2,q3,q4,hcu',rfl,hdri.cut OI (hseg.qg hxA) hstop,(hgk2.fr hfc (fun b o hb=>hoff b o (hk2in b o hb) (fun e=>(hg.2.2.2.2.2.2.1 k2 hk2K).2.2 b o hb |>.1 (.inl ⟨e.1,by omega⟩)))).fr W.fr (fun b o hb=>nr (.inl (fun e=>by have:=(hcell b o (hk2in b o hb)).1;omega))),fun b o hb=>?_,?_,fun v hv=>?_⟩
 ·
  obtain ⟨h1,h2,h3,h4⟩:=hcell b o (hk2in b o hb)
  exact ⟨h1,h2,by omega,h4,fun hc=>hko b o hb (haf b o ((q5 b o hc).2 (hk2in b o hb)))⟩
 · rw [eR];simp only [List.length_append,List.length_cons];omega
 ·
  rw [eR] at hv
  exact hv.cut OI
theorem drt_del {st:List (Nat×Nat)} {R':List (Int×Int)} {x:Int×Int} {H':Mem} (hdri:Dri OI A (x::R') R0 (Ts.map QT.pc) D.stop) (hst:D.stop x=false) (T:RtT H D.tr D.P (A++x::R') h0 t0) (B:DrB D H pv sv st Z16 Zq (Ts++[(x,none)]) (Gt.af h0 t0)) (hS:Gt.Seg (Ra OI A (flat (Ts.map QT.pc))) h0 t0)
  (hq:RtQ H H' D.tr D.P x h0 t0 (Pl.del OI x (A++x::R'))) (hk:HintOk H' (.pointer (some ⟨D.hb,0,none⟩)) (fun b=>b=D.hb)) (hF:Fr (fun b o=>Gt.af h0 t0 b o∨(b=D.tr∧(o=2∨o=3))∨b=D.hb) H H'):
  Dri OI A R' R0 ((Ts++[((x,none):QT)]).map QT.pc) D.stop∧DrT D A R' H' pv sv st Z16 Zq (Ts++[(x,none)]):=by
 have hmap:(Ts++[((x,none):QT)]).map QT.pc=Ts.map QT.pc++[(x,[])]:=by rw [List.map_append];rfl
 have hfl:flat (Ts.map QT.pc++[(x,[])])=flat (Ts.map QT.pc)++[x]:=by rw [flat_app,flat_one];rfl
 rw [(del_next T.srt).1] at hq
 have hBs:∀TA',(∀b o,TA' b o→(Gt.af h0 t0 b o∨H.size≤b)∧b<H'.size)→DrB D H' pv sv st Z16 Zq (Ts++[(x,none)]) TA':=fun TA' ht=>B.step hF (fun b o hb hh=>by
  have hnb:=B.nb
  rcases hh with hh|hh|hh
  ·
   rcases hb with hb|hb|hb|⟨q,hq,hb⟩
   · exact (B.dj b o (.inl hh)).2.1 (.inl hb.1)
   · exact (B.dj b o (.inl hh)).2.1 (.inr (.inl hb))
   · exact (B.dj b o (.inl hh)).2.1 (.inr (.inr hb))
   · exact B.djp b o q hq hb hh
  ·
   rcases hb with hb|hb|hb|⟨q,hq,hb⟩
   ·
    rcases hb.1 with h2|h2
    · omega
    · omega
   · have:=(B.z16 _ hb).1;omega
   · have:=(B.zq _ hb).1;omega
   · have:=(B.dj _ _ (.inr ⟨q,hq,hb⟩)).1;omega
  ·
   rcases hb with hb|hb|hb|⟨q,hq,hb⟩
   · exact hb.2 hh
   · have:=(B.z16 _ hb).1;omega
   · have:=(B.zq _ hb).1;omega
   · exact (B.dj _ _ (.inr ⟨q,hq,hb⟩)).2.1 (.inl (.inl (by omega)))) (fun b o hb hh=>by
  have hnb:=B.nb
  rcases hh with hh|hh|hh
  · exact .inl ((B.dj b o (.inl hh)).2.2.2.elim id (fun h2=>by unfold Dc.n at *;omega))
  · exact .inr (.inl hh)
  · omega) hk ht
 refine ⟨?_,?_⟩
 ·
  rw [hmap]
  have h1:Dri OI A ([]++Pc.l ((x,[]):Pc (Int×Int))++R') R0 (Ts.map QT.pc) D.stop:=hdri
  exact h1.cut OI Qg.one (fun w hw=>by
   have:w=x:=by simpa [Pc.l] using hw
   subst this;exact hst)
 ·
  rcases hq with ⟨h1,h2⟩|⟨h',t',T',ha,hS'⟩
  · exact .inl ⟨h1,h2,hBs _ fun _ _ h=>h.elim⟩
  ·
   refine .inr ⟨h',t',T',hBs _ (fun b o hb=>⟨ha b o hb,T'.g.lt hb⟩),?_⟩
   rw [hmap,hfl]
   exact seg_del' T'.g T'.e T.srt (hS' _ (Qg.inf OI _) (seg_del T.g T.e T.srt hS))
theorem stop_all {x:Int×Int} {R':List (Int×Int)} (hs:Pl.Srt OI (A++x::R')) (hst:D.stop x=true):∀y∈x::R',D.stop y=true:=fun y hy=>by
 rw [Pl.Srt.append,Pl.Srt.cons] at hs
 rcases List.mem_cons.1 hy with rfl|hy
 · exact hst
 · exact D.mono x y (hs.2.1.1 y hy) hst
theorem DrT.clr {st:List (Nat×Nat)} {sv':Value} (h:DrT D A R H pv sv st Z16 Zq Ts) (ha:Acc EK Z16 H sv' (stI [])):DrT D A R H pv sv' [] Z16 Zq Ts:=by
 rcases h with ⟨h1,h2,h3⟩|⟨h0,t0,h1,h2,h3⟩
 · exact .inl ⟨h1,h2,h3.stack (Fr.refl _ _) ha fun b hb=>⟨.inl hb,(h3.z16 b hb).2⟩⟩
 · exact .inr ⟨h0,t0,h1,h2.stack (Fr.refl _ _) ha fun b hb=>⟨.inl hb,(h2.z16 b hb).2⟩,h3⟩
@[reducible] def lfN (g:Ng) (X:List (Int×Int)):Gt EJ 0:=(g,X)
theorem Jm.cutL {G:List (Int×Int)} (hPD:PsOk D.P) {g:Ng} {X:List (Int×Int)} {i d:Nat} {Hc Hd He:Mem} {pts:List Nat} (J:Jm D A R H pv sv fs Z16 Zq Ts G h0 t0 0 (lfN g X) A1 C1) (hA:A=A1++X.take i) (hR:R=X.drop i++C1) (hid:i+d≤X.length) (hmin:D.P.mn≤X.length-d)
  (hN:NodeM EJ Hc g (X.take i++X.drop (i+d)) (.pointer none)) (hE:Fr (ncl EJ g) H Hc) (hpts:pts=Gt.p h0 t0::fs.map Prod.fst) (hfc:Fr (fun b o=>o=1∧b∈pts) Hc Hd) (hch:∀q∈pts,∀c:Nat,cl Hc q 1=some (.int .i64 (c:Int))→cl Hd q 1=some (.int .i64 ((c-d:Nat):Int)))
  (W:Wrote Hd He D.tr 3 [.int .i64 (((A++R).length-d:Nat):Int)]):
  ∃(R':List (Int×Int)) (t0':Gt EJ h0) (g':Ng),RtT He D.tr D.P (A++R') h0 t0'∧DrB D He pv sv ((Gt.p h0 t0',0)::fs) Z16 Zq Ts (Gt.af h0 t0')∧Gt.Seg (Ra OI A (G++(X.drop i).take d)) h0 t0'∧Dn t0' fs (lfN g' (X.take i++X.drop (i+d))) A1 C1∧g'.p=g.p∧
   A=A1++(X.take i++X.drop (i+d)).take i∧R'=(X.take i++X.drop (i+d)).drop i++C1∧R=(X.drop i).take d++R'∧(A++R).length=(A++R').length+d:=by
 have hg:=J.good
 have hgc:=hg.cnt
 have e0:(Gt.g 0 (lfN g X)).cnt=g.cnt:=rfl
 have e1:Gt.L 0 (lfN g X)=X:=rfl
 have hsz1:=hE.size
 have hsz2:=hfc.size
 have hsz3:=W.size
 have hnt:=J.T.tc.tb
 have hmn1:=hPD.h1
 rw [e0,e1] at hgc
 have hcell:∀b o,ncl EJ g b o→cx.base≤b:=fun b o hb=>(J.cell (show Gt.af 0 (lfN g X) b o from hb)).1
 have hoff:∀b o,ncl EJ g b o→¬(b=g.p∧o=1)→¬(o=1∧b∈pts):=fun b o hb hn hz=>by
  obtain ⟨rfl,hm⟩:=hz
  rw [hpts] at hm
  by_cases e:b=Gt.p 0 (lfN g X)
  · exact hn ⟨e,rfl⟩
  · exact J.dn.pt_off J.T.g b hm e 1 (by decide) hb
 have hpm:g.p∈pts:=by rw [hpts];exact J.dn.p_mem
 have lX:(X.take i++X.drop (i+d)).length+d=X.length:=by rw [List.length_append,List.length_take,List.length_drop];omega
 have hlT:(X.take i).length=i:=by rw [List.length_take];omega
 have hN2:=NodeM.fr EJ (NodeM.recount hN hfc hoff (hch g.p hpm g.cnt hN.c1)) W.fr (fun b o hb=>nr (.inl (fun e=>by have:=hcell b o hb;omega)))
 have hgt':Gt.Good He D.P 0 (lfN { g with cnt:=g.cnt-d } (X.take i++X.drop (i+d))):=⟨hN2,hg.2.1,(show g.cnt-d=(X.take i++X.drop (i+d)).length by omega),(show (X.take i++X.drop (i+d)).length≤D.P.mx by have h9:X.length≤D.P.mx:=hg.2.2.2;omega)⟩
 have hdd:(X.drop i).drop d=X.drop (i+d):=by rw [List.drop_drop]
 have eR:R=(X.drop i).take d++(X.drop (i+d)++C1):=by
  rw [hR,←hdd,←List.append_assoc,List.take_append_drop]
 have eX:X=X.take i++(X.drop i).take d++X.drop (i+d):=by
  rw [←hdd,List.append_assoc,List.take_append_drop,List.take_append_drop]
 have hsrt:=J.T.srt
 have hsX:=J.eL
 have hsall:=hsrt
 rw [hsX,e1,Pl.Srt.append] at hsall
 have hZf:Fr (fun b o=>ncl EJ g b o∨(o=1∧b∈pts)∨(b=D.tr∧o=3)) H He:=(hE.trans' hfc (fun _ _ _ h=>.inl h) (fun _ _ _ h=>.inr (.inl h))).trans' W.fr (fun _ _ _ h=>h) (fun b o _ hz=>by
  have h2:=hz.2.1;have h3:=hz.2.2
  simp only [List.length_cons,List.length_nil] at h3
  exact .inr (.inr ⟨hz.1,by omega⟩))
 have htrd:∀o,¬(o=1∧D.tr∈pts):=fun o hz=>by rw [hpts] at hz;have:=(J.pts _ hz.2).1;omega
 have hml:∀w∈(X.drop i).take d,w∈X:=fun w hw=>List.mem_of_mem_drop (List.mem_of_mem_take hw)
 obtain ⟨t0',q1,q2,q3,q4,q5⟩:=J.edit hZf (t':=lfN { g with cnt:=g.cnt-d } (X.take i++X.drop (i+d))) (d:=d) (R':=X.drop (i+d)++C1) (p:=(X.drop i).take d) hgt' rfl (fun b o hb=>hb) (show X.length=(X.take i++X.drop (i+d)).length+d by omega)
  (show 1≤(X.take i++X.drop (i+d)).length by omega) (fun hne=>(show D.P.mn≤(X.take i++X.drop (i+d)).length by omega))
  (fun b o hz=>by
   rcases hz with hz|hz|hz
   · exact .inl hz
   · exact .inr (.inl (by rw [←hpts];exact hz))
   · exact .inr (.inr hz)) (fun q hq hne c hc=>by
   rw [←hpts] at hq
   have h1:=hE.keep hc (fun hz=>hoff q 1 hz (fun e=>hne e.1) ⟨rfl,hq⟩)
   exact W.fr.keep (hch q hq c h1) (nr (.inl (fun e=>htrd 1 ⟨rfl,e▸hq⟩)))) W.at
  (by show A++_=A1++(X.take i++X.drop (i+d))++C1;rw [hA];simp) (by rw [eR];exact List.Sublist.append_left (List.sublist_append_right _ _) _) (fun w hw=>by rw [hA];simp [hw])
  (fun y hy c hc=>hsall.2.2 y (List.mem_append_right _ (hml y hy)) c hc) (fun _=>trivial)
 have hl2:((X.drop i).take d).length=d:=by rw [List.length_take,List.length_drop];omega
 refine ⟨_,t0',_,q1,q2,q3,q4,rfl,?_,?_,eR,?_⟩
 · rw [List.take_append_of_le_length (by omega),List.take_of_length_le (l:=X.take i) (by omega)];exact hA
 · rw [List.drop_append_of_le_length (by omega),List.drop_of_length_le (l:=X.take i) (by omega),List.nil_append]
 · rw [eR];simp only [List.length_append,hl2];omega
end
end
end Go.Bt.FG
namespace Go.Bt.FG
open Go Go.Proofs Go.Proofs.Try
set_option maxRecDepth 20000
set_option maxHeartbeats 4000000
set_option linter.unusedSectionVars false
section
variable [Inhabited Cx]
structure Ak (P:Program) (B:World) (g:FuncId) (us cs:List Value) (R0:List (Int×Int)) (stop:(Int×Int)→Bool) (dl:Nat) (Hs:Mem) (W:Nat→Nat→Prop) where
 T:List (Int×Int)→(Nat→Prop)→Mem→Prop
 fr:∀{acc Zq H H'} {Z:Nat→Nat→Prop},T acc Zq H→Fr Z H H'→(∀b o,b=dl∨Zq b→¬Z b o)→T acc Zq H'
 call:∀{acc Zq H} (x:Int×Int) {R':List (Int×Int)},acc++x::R'=R0→T acc Zq H→Fr W Hs H→Fn P B g (us++[.agg (EJ.enc x).toArray]++cs) H fun r H'=>r=.int .i64 (if stop x then 0 else 2)∧∃Zq',T (acc++[x]) Zq' H'∧Fr (fun b _=>b=dl∨Zq b) H H'∧∀b,Zq' b→(Zq b∨H.size≤b)∧b<H'.size
def dcA {P0:Program} {B:World} {g:FuncId} {us cs:List Value} {R0:List (Int×Int)} {stop:(Int×Int)→Bool} {dl:Nat} {Hs:Mem} {W:Nat→Nat→Prop} (cb:Ak P0 B g us cs R0 stop dl Hs W) (mono:∀x y,OI.lt x y=true→stop x=true→stop y=true) (TA0:Nat→Nat→Prop) (tr:Nat) (P:Ps):Dc where
 Hs:=Hs
 TA0:=TA0
 tr:=tr
 dl:=dl
 m:=Hs.size+2
 hb:=Hs.size+1
 pb:=Hs.size
 P:=P
 stop:=stop
 mono:=mono
 OW:=fun _=>True
 owf:=fun _ _ _=>trivial
 LS:=fun H Zq Ts=>cb.T (flat (Ts.map QT.pc)) Zq H
 lsf:=fun h hf hz=>cb.fr h hf hz
theorem ask_spec {P0:Program} {B:World} {g:FuncId} {us cs:List Value} {R0:List (Int×Int)} {stop:(Int×Int)→Bool} {dl:Nat} {Hs:Mem} {W:Nat→Nat→Prop} {cb:Ak P0 B g us cs R0 stop dl Hs W} {D:Dc} (hD:D.Hs=Hs∧D.dl=dl∧D.stop=stop∧(∀b o,D.R0 b o→W b o)∧∀H Zq Ts,D.LS H Zq Ts=cb.T (flat (Ts.map QT.pc)) Zq H)
  {H:Mem} {pv:Int×Int} {sv:Value} {st:List (Nat×Nat)} {Z16 Zq:Nat→Prop} {Ts:List QT} {TA:Nat→Nat→Prop} (hB:DrB D H pv sv st Z16 Zq Ts TA) (x:Int×Int) {R':List (Int×Int)} (e:flat (Ts.map QT.pc)++x::R'=R0):
  Fn P0 B g (us++[.agg (EJ.enc x).toArray]++cs) H (fun r H'=>r=.int .i64 (if D.stop x then 0 else 2)∧∃Zq',DrB D H' pv sv st Z16 Zq' (Ts++[(x,none)]) TA∧Fr (fun b _=>b=D.dl∨Zq b) H H'):=by
 obtain ⟨h1,h2,h3,h4,h5⟩:=hD
 have hl:=hB.lst
 rw [h5] at hl
 refine (cb.call x e hl (by rw [←h1];exact hB.fr0.mono fun b o _ h=>h4 b o h)).mono ?_
 rintro r H' ⟨rfl,Zq',hT,hF,hZ⟩
 rw [←h2] at hF
 refine ⟨by rw [h3],Zq',hB.list hF ?_ hZ trivial (fun _ _ h=>h.elim) (show (0:Nat)<4611686018427387904 by omega),hF⟩
 rw [h5,List.map_append,flat_app,show ([((x,none):QT)]).map QT.pc=[(x,[])] from rfl,flat_one]
 exact hT
theorem fl_snoc {Ts:List QT} {x:Int×Int} {R' R0:List (Int×Int)} (e:flat (Ts.map QT.pc)++x::R'=R0):flat ((Ts++[((x,none):QT)]).map QT.pc)++R'=R0:=by
 rw [List.map_append,flat_app,show ([((x,none):QT)]).map QT.pc=[(x,[])] from rfl,flat_one]
 show flat (Ts.map QT.pc)++[x]++R'=R0
 rw [←e];simp
def Ar (D:Dc) (A R0:List (Int×Int)) (sv:Value) (m:Nat) (H:Mem):Prop:=
 ∃R pv Z16 Zq Ts,m=(A++R).length∧(Dri OI A R R0 (Ts.map QT.pc) D.stop∧flat (Ts.map QT.pc)++R=R0)∧Pv OI A R pv∧DrT D A R H pv sv [] Z16 Zq Ts
def ArQ (D:Dc) (A R0:List (Int×Int)) (H:Mem):Prop:=
 ∃R pv sv st Z16 Zq Ts E TA,Dri OI A R R0 (Ts.map QT.pc) D.stop∧flat (Ts.map QT.pc)++R=R0∧((E=[]∧R=[])∨∃x R',E=[((x,none):QT)]∧R=x::R'∧D.stop x=true)∧DrB D H pv sv st Z16 Zq (Ts++E) TA∧((A++R=[]∧RtZ H D.tr D.P)∨∃h0,∃t0:Gt EJ h0,RtT H D.tr D.P (A++R) h0 t0∧TA=Gt.af h0 t0)
def A1 (D:Dc) (A R0:List (Int×Int)) (m0:Nat) (sv:Value) (p m:Nat) (H:Mem):Prop:=
 ∃R pv fs Z16 Zq Ts h0,∃t0:Gt EJ h0,∃h,∃t:Gt EJ h,∃A1 C1,(Jn D A R0 R H pv sv fs Z16 Zq Ts h0 t0 h t A1 C1∧flat (Ts.map QT.pc)++R=R0)∧Pv OI A R pv∧Pv OI A1 C1 pv∧p=Gt.p h t∧(A++R).length≤m0∧m=(A++R).length*(m0+1)+h
def A2 (D:Dc) (A R0:List (Int×Int)) (m0 m1:Nat) (sv:Value) (p i:Nat) (fd:Bool) (m:Nat) (H:Mem):Prop:=
 ∃R pv fs Z16 Zq Ts h0,∃t0:Gt EJ h0,∃h,∃t:Gt EJ h,∃A1 C1,(Jn D A R0 R H pv sv fs Z16 Zq Ts h0 t0 h t A1 C1∧flat (Ts.map QT.pc)++R=R0)∧p=Gt.p h t∧(A++R).length≤m0∧m=2*(A++R).length+(if h=0 then 1 else 0)∧Cu2 A R A1 C1 pv i fd m0 m1 h t
def AL (D:Dc) (A R0:List (Int×Int)) (m0:Nat) (sv:Value) (p i m:Nat) (H:Mem):Prop:=
 ∃R pv fs Z16 Zq Ts h0,∃t0:Gt EJ h0,∃t:Gt EJ 0,∃A1 C1,(Jn D A R0 R H pv sv fs Z16 Zq Ts h0 t0 0 t A1 C1∧flat (Ts.map QT.pc)++R=R0)∧p=Gt.p 0 t∧(A++R).length≤m0∧m=(A++R).length∧A=A1++t.2.take i∧R=t.2.drop i++C1∧i≤t.2.length
def AC (D:Dc) (A R0:List (Int×Int)) (m0:Nat) (sv:Value) (m:Nat) (H:Mem):Prop:=
 ∃R pv fs Z16 Zq Ts h0,∃t0:Gt EJ h0,∃h,∃t:Gt EJ h,∃A1 C1,(Jn D A R0 R H pv sv fs Z16 Zq Ts h0 t0 h t A1 C1∧flat (Ts.map QT.pc)++R=R0)∧(A++R).length≤m0∧m=fs.length∧A=A1++Gt.L h t∧R=C1
end
end Go.Bt.FG
namespace Go.Bt.FG
open Go Go.Proofs Go.Proofs.Try
set_option maxRecDepth 20000
set_option maxHeartbeats 4000000
set_option linter.unusedSectionVars false
end Go.Bt.FG
namespace Go.Bt.FG
open Go Go.Proofs Go.Proofs.Try
set_option maxRecDepth 20000
set_option maxHeartbeats 4000000
set_option linter.unusedSectionVars false
namespace SI
def InSS {α:Type} (E:Elt α) (H:Mem):List (Option Addr×Nat×Nat)→List (List α)→Prop
 | [],[]=>True
 | u::us,l::ls=>InS E H (.slice u.1 u.2.1 u.2.2) l∧InSS E H us ls
 | _,_=>False
theorem InSS.fr {α:Type} {E:Elt α} {H H':Mem} (hf:Fr nowhere H H'):∀{us:List (Option Addr×Nat×Nat)} {ls:List (List α)},InSS E H us ls→InSS E H' us ls
 | [],[],_=>trivial
 | u::us,l::ls,h=>⟨h.1.fr hf,InSS.fr hf h.2⟩
 | [],_::_,h=>h.elim
 | _::_,[],h=>h.elim
theorem InSS.len {α:Type} {E:Elt α} {H:Mem}:∀{us:List (Option Addr×Nat×Nat)} {ls:List (List α)},InSS E H us ls→us.length=ls.length
 | [],[],_=>rfl
 | u::us,l::ls,h=>by rw [List.length_cons,List.length_cons,InSS.len h.2]
 | [],_::_,h=>h.elim
 | _::_,[],h=>h.elim
theorem InSS.at {α:Type} {E:Elt α} {H:Mem}:∀{us:List (Option Addr×Nat×Nat)} {ls:List (List α)} (_:InSS E H us ls) {i:Nat} {u:Option Addr×Nat×Nat},us[i]?=some u→∃l,ls[i]?=some l∧InS E H (.slice u.1 u.2.1 u.2.2) l
 | [],[],_,i,u,hu=>by simp at hu
 | u::us,l::ls,h,0,v,hv=>by
  simp only [List.getElem?_cons_zero,Option.some.injEq] at hv
  subst hv
  exact ⟨l,rfl,h.1⟩
 | u::us,l::ls,h,i+1,v,hv=>by
  simp only [List.getElem?_cons_succ] at hv ⊢
  exact InSS.at h.2 hv
 | [],_::_,h,_,_,_=>h.elim
 | _::_,[],h,_,_,_=>h.elim
theorem set_td {α:Type} {X:List α} {i:Nat} {x:α} (hi:i<X.length):X.take i++x::X.drop (i+1)=X.set i x:=(List.set_eq_take_append_cons_drop.trans (if_pos hi)).symm
end SI
theorem igitems_spec {B:World} {H:Mem} {d:Nat} {nl:Bool} {v u:Value} {ord:List Int} {l:List (Int×Int)} (hd:d=0∨2≤d∧d≤128) (ho:InS EN H v ord) (hol:ord.length≤4294967296) (hi:InS EJ H u l) (hll:l.length≤4294967296):
  Fn Try.prog B 26 [.agg #[v,.int .i64 (d:Int),.bool nl],u] H (fun r H'=>OutS EJ H' r (Pl.puts (OO ord) l)∧Fr nowhere H H'):=by
 obtain ⟨a,c,hu⟩:=hi.len
 subst hu
 obtain ⟨av,mv,cv,hv⟩:=InS.form ho
 subst hv
 have hF:Fr nowhere H H:=Fr.refl _ _
 have hP:=PD_ok hd
 refine fn_of func26 rfl ntmps26 ?_
 refine (show Go' _ _ _ _ 9 [(0,_),(1,_)] [.code _] _ from ?_)
 refine Ut 1 rfl (Ur 2 2 rfl (O.box rfl rfl rfl rfl ?_))
 intro B1 MB1
 refine ⟨trivial,?_⟩
 have hsB1:=MB1.size
 replace hF:=hF.trans (MB1.fr nowhere)
 have mm:Rd B1 H.size 0 [.slice av mv cv,.int .i64 (d:Int),.bool nl]:=MB1.rd _ [] (by simp [Value.cells])
 have mm0:cl B1 H.size 0=some (.slice av mv cv):=mm 0 _ rfl
 have mm1:cl B1 H.size (0+1)=some (.int .i64 (d:Int)):=mm 1 _ rfl
 refine Uf 1 [1,2,4] rfl (Ut 1 rfl (Ur 5 161 rfl (Us 0 rfl mm rfl (Uq 1 rfl (O.call rfl rfl rfl call27 rfl (grow_spec hd (ho.fr hF) hol (hi.fr hF) hll) ?_)))))
 rintro _ H3 ⟨I,hIo,hIw,hIb,tr,S,rfl,hM,hF3,hS⟩
 have hs3:=hF3.size
 replace hF:=hF.trans hF3
 replace mm:=hF3.rd mm (fun _ _=>nw)
 replace mm0:=hF3.keep mm0 nw
 replace mm1:=hF3.keep mm1 nw
 have hSb:∀b,S b∨(b<cx.base∧cx.own b)→B1.size≤b:=fun b hb=>hb.elim (hS b) (fun h=>hIw b h.2)
 have hOO:OO ord=OI:=by rw [←hIo];rfl
 have hpl:=Pl.puts_length OI l
 have hSlt:=hM.lt
 have hbs:=hM.tc.hb
 unfold ptr
 refine ⟨trivial,?_⟩
 refine O.call rfl rfl rfl call32 rfl (Items_spec hP hM (by omega)) ?_
 rintro v4 H4 ⟨h4,hF4⟩
 replace hF:=hF.trans hF4
 replace mm:=hF4.rd mm (fun _ _=>nw)
 replace mm0:=hF4.keep mm0 nw
 replace mm1:=hF4.keep mm1 nw
 refine ⟨trivial,?_⟩
 refine Uf 1 [4] rfl (Go'.ret (vs:=[_]) func26 results26 ⟨rfl,trivial⟩ ?_)
 rw [hOO];exact ⟨h4,hF⟩
theorem alive_spec {B:World} {H:Mem}:Fn Try.prog B 9 [] H (fun r H'=>r=.bool true∧Fr nowhere H H'):=by
 have hal:(Pl.puts (OO []) ((exl.drop 0).take (3-0))).length=3:=by decide
 refine fn_of func9 rfl ntmps9 ?_
 refine (show Go' _ _ _ _ 7 [] [.code _] _ from ?_)
 refine Ut 1 rfl (Ur 1 0 rfl (Uf 1 [0] rfl (Ut 1 rfl (Ur 7 138 rfl (O.call rfl rfl rfl call22 rfl exMake_spec ?_)))))
 rintro _ H1 ⟨rfl,hF1⟩
 refine ⟨trivial,?_⟩
 refine O.call rfl rfl rfl call23 rfl exItems_spec ?_
 rintro ev H2 ⟨hev,hF2⟩
 obtain ⟨ea,ec,hee⟩:=hev.len
 subst hee
 refine ⟨trivial,?_⟩
 refine O.slcIn (E:=EJ) (jh:=3) rfl rfl rfl rfl underlying25 sizeOf27 rfl hev ⟨_,by rfl⟩ rfl (by decide) (by decide) ?_
 intro sv hsv
 refine O.call rfl rfl rfl call26 rfl (igitems_spec (d:=2) (by decide) (InS.nil EN _) (by decide) hsv (by decide)) ?_
 rintro gv H3 ⟨hg,hF3⟩
 obtain ⟨ga,gc,hge⟩:=hg.inS.len
 subst hge
 refine ⟨trivial,?_⟩
 refine Uc 1 rfl (eqlT (by rw [hal];rfl)) (Uf 1 [0] rfl (Go'.ret (vs:=[_]) func9 results9 ⟨rfl,trivial⟩ ?_))
 exact ⟨rfl,(hF1.trans hF2).trans hF3⟩
end Go.Bt.FG
namespace Go.Bt.FG
open Go Go.Proofs Go.Proofs.Try
set_option maxRecDepth 20000
set_option maxHeartbeats 4000000
set_option linter.unusedSectionVars false
section
variable [Inhabited Cx]
theorem asc_cnt {α:Type} {O:Pl.Swo α} {acc R':List α} {x:α} {stop:α→Bool} (hs:Pl.Srt O (acc++x::R')) (mono:∀x y,O.lt x y=true→stop x=true→stop y=true) {K:Nat} (hK:K=((acc++x::R').filter fun y=>!stop y).length):(stop x=true→K≤acc.length)∧(stop x=false→acc.length+1≤K):=by
 rw [Pl.Srt.append,Pl.Srt.cons] at hs
 obtain ⟨_,⟨h1,_⟩,h2⟩:=hs
 rw [List.filter_append,List.length_append] at hK
 refine ⟨fun hx=>?_,fun hx=>?_⟩
 ·
  have e2:(x::R').filter (fun y=>!stop y)=[]:=List.filter_eq_nil_iff.2 fun y hy=>by
   rcases List.mem_cons.1 hy with rfl|hy
   · simp [hx]
   · simp [mono x y (h1 y hy) hx]
  have:=List.length_filter_le (fun y=>!stop y) acc
  rw [e2,List.length_nil] at hK
  omega
 ·
  have e1:acc.filter (fun y=>!stop y)=acc:=List.filter_eq_self.2 fun y hy=>by
   cases hy2:stop y with
   | false=>rfl
   | true=>rw [mono y x (h2 y hy x List.mem_cons_self) hy2] at hx;cases hx
  rw [e1,List.filter_cons,if_pos (by simp [hx]),List.length_cons] at hK
  omega
structure AscT (ob:Nat) (acc:List (Int×Int)) (Zq:Nat→Prop) (H:Mem):Prop where
 ex:∃v,cl H ob 0=some v∧Acc EJ Zq H v acc
 wr:Wr H ob 0 1
 nz:¬Zq ob
 lt:∀b,Zq b→b<H.size
theorem AscT.fr {ob:Nat} {acc:List (Int×Int)} {Zq:Nat→Prop} {H H':Mem} {Z:Nat→Nat→Prop} (h:AscT ob acc Zq H) (hf:Fr Z H H') (hz:∀b o,b=ob∨Zq b→¬Z b o):AscT ob acc Zq H':=
 ⟨h.ex.elim fun v h=>⟨v,hf.keep h.1 (hz _ _ (.inl rfl)),h.2.fr hf fun b o _ hb=>hz b o (.inr hb)⟩,hf.wr h.wr,h.nz,fun b hb=>Nat.lt_of_lt_of_le (h.lt b hb) hf.size⟩
theorem insFrB {α:Type} {E:Elt α} {H H':Mem} {a:Option Addr} {n c:Nat} {l:List α} {Z:Nat→Nat→Prop} (h:InS E H (.slice a n c) l) (hf:Fr Z H H') (hz:∀b o,l≠[]→a=some ⟨b,o,none⟩→∀o',¬Z b o'):InS E H' (.slice a n c) l:=by
 rcases h with ⟨b,o,c',e,h2,h3⟩|h
 ·
  have e':=e
  simp only [Value.slice.injEq] at e'
  refine .inl ⟨b,o,c',e,h2,?_⟩
  by_cases hl:l=[]
  · subst hl;exact Rd.nil _ _ _
  · exact hf.rd h3 fun _ _=>hz b o hl e'.1 _
 · exact .inr h
theorem rep_ne {K:Nat} {x:Int} (h:List.replicate K x≠[]):0<K:=by
 cases K with
 | zero=>exact absurd rfl h
 | succ n=>omega
theorem action2_spec {B:World} {H:Mem}:Fn Try.prog B 35 [.int .i64 2] H (fun r H'=>r=.int .i64 2∧H'=H):=by
 refine fn_of func35 rfl ntmps35 ?_
 refine (show Go' _ _ _ _ 8 [(0,_)] [.code _] _ from ?_)
 refine Ut 1 rfl (Ur 1 0 rfl (Uf 1 [0,2] rfl (Ut 2 rfl (Ur 1 0 rfl (Uf 1 [2,3] rfl (Ut 2 rfl (Ur 2 0 rfl (Uc 0 rfl (eqlF (by omega)) (Uf 1 [2,3,4] rfl (Go'.condF rfl (Ut 1 rfl ?_)))))))))))
 refine Ur 2 0 rfl (Uc 0 rfl (eqlF (by omega)) (Uf 1 [2,6] rfl (Go'.condF rfl (Ut 3 rfl (Ur 1 0 rfl (Uf 1 [2] rfl (Go'.ret (vs:=[_]) func35 results35 ⟨rfl,trivial⟩ ?_)))))))
 exact ⟨rfl,rfl⟩
theorem asc1_spec {B:World} {H:Mem} {ob ab K ca:Nat} {va:Option Addr} {acc:List (Int×Int)} {Zq:Nat→Prop} {x:Int×Int} (hT:AscT ob acc Zq H) (ha:cl H ab 0=some (.slice va K ca)) (hi:InS EN H (.slice va K ca) (List.replicate K 2)) (hab:ab≠ob∧¬Zq ab) (hva:∀b o,0<K→va=some ⟨b,o,none⟩→b≠ob∧¬Zq b) (hl:acc.length<4294967296) (hK:K<4294967296):
  Fn Try.prog B 34 [.agg (EJ.enc x).toArray,ptr ob,ptr ab] H (fun r H'=>r=.int .i64 (if acc.length+1≤K then 2 else 0)∧∃Zq',AscT ob (acc++[x]) Zq' H'∧Fr (fun b _=>b=ob∨Zq b) H H'∧∀b,Zq' b→(Zq b∨H.size≤b)∧b<H'.size):=by
 unfold ptr
 obtain ⟨⟨v,hv,hA⟩,hw,hnz,hlt⟩:=hT
 have hobl:=cl_lt hv
 have habl:=cl_lt ha
 obtain ⟨va2,vc,hvf⟩:=hA.inS.len
 subst hvf
 refine fn_of func34 rfl ntmps34 ?_
 refine (show Go' _ _ _ _ 21 [(0,_),(1,_),(2,_)] [.code _] _ from ?_)
 refine Ut 1 rfl ?_
 have hal1:(acc++[x]).length=acc.length+1:=by rw [List.length_append];rfl
 refine Ur 2 2 rfl (O.box rfl rfl rfl rfl ?_)
 intro H1 M1
 refine ⟨trivial,?_⟩
 have hs1:=M1.size
 have mi:Rd H1 H.size 0 (EJ.enc x):=M1.rd _ [] (by simp [Value.cells])
 replace hv:=M1.keep hv
 replace ha:=M1.keep ha
 replace hA:=hA.fr (M1.fr nowhere) (fun _ _ _ _=>nw)
 replace hw:=(M1.fr nowhere).wr hw
 replace hi:=hi.fr (M1.fr nowhere)
 refine Uf 1 [1,2,3,4] rfl (Ut 1 rfl (Ur 5 677 rfl (Ul 0 rfl hv (Us 0 rfl mi rfl (O.bsl (cs:=(EJ.enc x)) rfl rfl rfl ⟨underlying25,sizeOf27,zeroValue27,⟨_,typeInfo27,rfl⟩,rfl,by decide,by decide⟩ rfl (by decide) (by kernel_rfl) ?_)))))
 intro H2 M2
 have hs2:=M2.size
 replace hv:=(M2.fr nowhere).keep hv nw
 replace ha:=(M2.fr nowhere).keep ha nw
 replace hA:=hA.fr (M2.fr nowhere) (fun _ _ _ _=>nw)
 replace hw:=(M2.fr nowhere).wr hw
 replace hi:=hi.fr (M2.fr nowhere)
 have m2:Rd H2 H1.size 0 (row EJ [x]):=M2.rd _ [] (by simp [row])
 refine ⟨trivial,?_⟩
 refine O.appA (E:=EJ) (Y:=[x]) rfl rfl rfl ⟨underlying25,sizeOf27,zeroValue27,⟨_,typeInfo27,rfl⟩,rfl,by decide,by decide⟩ rfl hA rfl ⟨_,_,_,rfl,m2⟩ (Nat.succ_pos _) (Nat.le_trans (Nat.mul_le_mul_left _ (Nat.le_of_ble_eq_true (n:=_) (m:=4096) rfl)) (by simp only [List.length_cons,List.length_nil];omega)) (by simp only [List.length_cons,List.length_nil];omega) ?_
 intro v3 H3 hA3 hF3 hs3
 have hg3:=hF3.size
 replace ha:=hF3.keep ha hab.2
 replace hi:=insFrB hi hF3 (fun b o hn e _=>(hva b o (rep_ne hn) e).2)
 replace hw:=hF3.wr hw
 obtain ⟨a3,c3,hv3⟩:=hA3.inS.len
 subst hv3
 refine ⟨trivial,?_⟩
 refine O.st rfl rfl sizeOf25 rfl rfl rfl rfl rfl hw ?_
 intro H4 W4
 have hs4:=W4.size
 replace ha:=W4.fr.keep ha (nr (.inl hab.1))
 replace hi:=insFrB hi W4.fr (fun b o hn e _=>nr (.inl (hva b o (rep_ne hn) e).1))
 have hFF:Fr (fun b _=>b=ob∨Zq b) H H4:=((((M1.fr nowhere).trans (M2.fr nowhere)).mono fun _ _ _ h=>h.elim).trans' hF3 (fun _ _ _ h=>h) (fun b o _ h=>.inr h)).trans' W4.fr (fun _ _ _ h=>h) (fun b o _ h=>.inl h.1)
 have hq:∃Zq',AscT ob (acc++[x]) Zq' H4∧Fr (fun b _=>b=ob∨Zq b) H H4∧∀b,Zq' b→(Zq b∨H.size≤b)∧b<H4.size:=by
  have hzl:∀b,Zq b∨(b=H2.size∧b<H3.size)→(Zq b∨H.size≤b)∧b<H4.size∧b≠ob:=fun b hb=>by
   rcases hb with hb|hb
   · exact ⟨.inl hb,by have:=hlt b hb;omega,fun e=>hnz (e▸hb)⟩
   · exact ⟨.inr (by omega),by omega,by omega⟩
  exact ⟨_,⟨⟨_,W4.at,hA3.fr W4.fr fun b o _ hb=>nr (.inl (hzl b hb).2.2)⟩,W4.fr.wr hw,fun hb=>(hzl ob hb).2.2 rfl,fun b hb=>(hzl b hb).2.1⟩,hFF,fun b hb=>⟨(hzl b hb).1,(hzl b hb).2.1⟩⟩
 refine ⟨trivial,?_⟩
 refine Uf 0 [1,2,4] rfl (Ut 2 rfl ?_)
 by_cases hk:acc.length+1≤K
 ·
  obtain ⟨b,o,c',e,hr⟩:=hi.at (i:=acc.length) (x:=2) (by rw [List.getElem?_replicate,if_pos (by omega)])
  rw [List.length_replicate] at e
  cases e
  refine Ur 5 17 rfl (Ul 0 rfl W4.at (Ul 1 rfl ha (Uc 1 rfl (gtrF (by rw [hal1];omega)) (Uf 0 [1,2,4,13] rfl (Go'.condF rfl (Ut 2 rfl (Ur 8 9221 rfl (Ul 0 rfl ha (Ul 0 rfl W4.at (Ub 1 (((acc.length:Nat):Int)) rfl (by omega) (Ux 0 (acc.length) rfl (by omega) (by omega) ?_)))))))))))
  refine Ul 0 rfl (hr 0 _ rfl) (O.callQ rfl rfl rfl call35 rfl action2_spec trivial (Uf 1 [4] rfl (Go'.ret (vs:=[_]) func34 results34 ⟨rfl,trivial⟩ ?_)))
  rw [if_pos hk];exact ⟨rfl,hq⟩
 ·
  refine Ur 5 17 rfl (Ul 0 rfl W4.at (Ul 1 rfl ha (Uc 1 rfl (gtrT (by rw [hal1];omega)) (Uf 0 [1,2,4,13] rfl (Go'.condT rfl (Ut 1 rfl (Ur 1 0 rfl (Uf 1 [1,2,4] rfl (Go'.ret (vs:=[_]) func34 results34 ⟨rfl,trivial⟩ ?_)))))))))
  rw [if_neg hk];exact ⟨rfl,hq⟩
def cbAsc (B:World) {ob ab K ca:Nat} {va:Option Addr} {R0:List (Int×Int)} {stop:(Int×Int)→Bool} {Hs:Mem} {W:Nat→Nat→Prop} (hs:Pl.Srt OI R0) (hK:K=(R0.filter fun y=>!stop y).length) (mono:∀x y,OI.lt x y=true→stop x=true→stop y=true) (ha:cl Hs ab 0=some (.slice va K ca)) (hi:InS EN Hs (.slice va K ca) (List.replicate K 2)) (hab:ab≠ob∧∀o,¬W ab o) (hva:∀b o,0<K→va=some ⟨b,o,none⟩→b≠ob∧b<Hs.size∧∀o',¬W b o') (hl:R0.length<4294967296):
  Ak Try.prog B 34 [] [ptr ob,ptr ab] R0 stop ob Hs W where
 T:=fun acc Zq H=>AscT ob acc Zq H∧∀b,Zq b→Hs.size≤b
 fr:=fun h hf hz=>⟨h.1.fr hf hz,h.2⟩
 call:=by
  intro acc Zq H x R' e hT hF
  subst e
  have h3:=List.length_filter_le (fun y=>!stop y) (acc++x::R')
  rw [←hK] at h3
  have hl2:acc.length<4294967296:=by rw [List.length_append] at hl;omega
  have h1:=asc1_spec (B:=B) (x:=x) hT.1 (hF.keep ha (hab.2 _)) (insFrB hi hF fun b o hn e=>(hva b o (rep_ne hn) e).2.2) ⟨hab.1,fun h=>by have:=hT.2 _ h;have:=cl_lt ha;omega⟩ (fun b o h0 e=>⟨(hva b o h0 e).1,fun h=>by have:=hT.2 _ h;have:=(hva b o h0 e).2.1;omega⟩) hl2 (by omega)
  obtain ⟨c1,c2⟩:=asc_cnt hs mono hK
  have hsz:=hF.size
  refine h1.mono ?_
  rintro r H' ⟨rfl,Zq',h4,h5,h6⟩
  refine ⟨?_,Zq',⟨h4,fun b hb=>(h6 b hb).1.elim (hT.2 b) (fun h=>by omega)⟩,h5,h6⟩
  cases hx:stop x
  · rw [if_pos (c2 hx),if_neg (by decide)]
  · rw [if_neg (by have:=c1 hx;omega),if_pos rfl]
end
end Go.Bt.FG
namespace Go.Bt.FG
open Go Go.Proofs Go.Proofs.Try
set_option maxRecDepth 20000
set_option maxHeartbeats 4000000
set_option linter.unusedSectionVars false
section
variable [Inhabited Cx]
theorem HintM.new {H H':Mem} {c:Array Value} {e:TypeId} (M:Made H H' c e) (hu:∀i,i<8→c[i]?=some (.bool false)) (hp:∀i,i<8→c[8+i]?=some (.int .u8 0)) (hs:16≤c.size) (he:e<1000:=by decide):HintM H' H.size:=
 ⟨fun i hi=>⟨false,(M.cl i).trans (hu i hi)⟩,fun i hi=>⟨0,by decide,(M.cl (8+i)).trans (hp i hi)⟩,M.wr 16 hs he⟩
end
end Go.Bt.FG
