/- Contracts of functions of the program, proved by walking through their code. Conditions: those that each theorem names. -/
import Derived.Test.YtmcnochofpgfbaaTojX
import Derived.Test.YtmcnochofpgfbaaToLgT
import Derived.Test.YtmcnochofpgfbaaToPe
import Derived.Test.YtmcnochofpgfbaaTogG
set_option linter.unusedVariables false
namespace Go.Bt.FG
open Go Go.Proofs Go.Proofs.Try
set_option maxRecDepth 20000
set_option maxHeartbeats 4000000
set_option linter.unusedSectionVars false
section
variable [Inhabited Cx]
abbrev QT:=(Int×Int)×Option ((h:Nat)×Gt EJ h)
def QT.e (p:QT):((Int×Int)×Option Nat):=(p.1,p.2.map fun s=>Gt.p s.1 s.2)
def QT.pc (p:QT):Pc (Int×Int):=(p.1,match p.2 with|some s=>Gt.L s.1 s.2|none=>[])
def QT.af (p:QT) (b o:Nat):Prop:=match p.2 with|some s=>Gt.af s.1 s.2 b o|none=>False
def QT.ok (H:Mem) (P:Ps) (p:QT):Prop:=match p.2 with|some s=>Gt.Good H P s.1 s.2|none=>True
theorem QT.ok.fr {H H':Mem} {P:Ps} {Z:Nat→Nat→Prop} {p:QT} (h:QT.ok H P p) (hf:Fr Z H H') (hz:∀b o,QT.af p b o→¬Z b o):QT.ok H' P p:=by
 obtain ⟨x,_|⟨h1,t⟩⟩:=p
 · trivial
 · exact Gt.Good.fr (t:=t) hf h hz
def stI (st:List (Nat×Nat)):List (Nat×Int):=st.map fun q=>(q.1,((q.2:Nat):Int))
structure Dc where
 Hs:Mem
 TA0:Nat→Nat→Prop
 tr:Nat
 dl:Nat
 m:Nat
 hb:Nat
 pb:Nat
 P:Ps
 stop:(Int×Int)→Bool
 mono:∀x y,OI.lt x y=true→stop x=true→stop y=true
 OW:Mem→Prop
 owf:∀{H H':Mem} {Z:Nat→Nat→Prop},OW H→Fr Z H H'→(∀b o,Hs.size≤b∧b<m∧b≠hb∧b≠pb→¬Z b o)→OW H'
 LS:Mem→(Nat→Prop)→List QT→Prop
 lsf:∀{H H':Mem} {Z:Nat→Nat→Prop} {Zq:Nat→Prop} {Ts:List QT},LS H Zq Ts→Fr Z H H'→(∀b o,b=dl∨Zq b→¬Z b o)→LS H' Zq Ts
abbrev Dc.n (D:Dc):Nat:=D.Hs.size
def Dc.own (D:Dc) (b:Nat):Prop:=(D.n≤b∧b<D.m)∨b=D.dl
def Dc.R0 (D:Dc) (b o:Nat):Prop:=D.TA0 b o∨(b=D.tr∧(o=2∨o=3))∨b=D.dl
def FUNV:Value:=(.func (.func 72) #[] #[ptr cx.ob])
def LiS (dl:Nat) (ex:Bool) (H:Mem) (Zq:Nat→Prop) (Ts:List QT):Prop:=∃q fn cnt,LiM H dl fn cnt 0 Zq q∧(ex=true→fn=FUNV∧q.Perm (Ts.map QT.e)∧Hp.Heap OI qkey q∧cnt=(flat (Ts.map QT.pc)).length)∧(ex=false→q=[]∧cnt=0)∧ones [fn]=true
theorem LiS.fr {dl:Nat} {ex:Bool} {H H':Mem} {Zq:Nat→Prop} {Ts:List QT} {Z:Nat→Nat→Prop} (h:LiS dl ex H Zq Ts) (hf:Fr Z H H') (hz:∀b o,b=dl∨Zq b→¬Z b o):LiS dl ex H' Zq Ts:=by
 obtain ⟨q,fn,cnt,h1,h2,h3⟩:=h
 exact ⟨q,fn,cnt,h1.fr hf hz,h2,h3⟩
structure DrB (D:Dc) (H:Mem) (pv:Int×Int) (sv:Value) (st:List (Nat×Nat)) (Z16 Zq:Nat→Prop) (Ts:List QT) (TA:Nat→Nat→Prop):Prop where
 sz:D.m≤H.size
 nb:cx.base≤D.dl∧D.dl<D.n∧cx.base≤D.n∧D.tr<cx.base∧D.n≤D.hb∧D.hb<D.m∧D.n≤D.pb∧D.pb<D.m∧D.hb≠D.pb
 ow:D.OW H
 hk:HintOk H (.pointer (some ⟨D.hb,0,none⟩)) (fun b=>b=D.hb)
 m15:Rd H D.pb 0 (EJ.enc pv)
 w15:Wr H D.pb 0 2
 stk:Acc EK Z16 H sv (stI st)
 z16:∀b,Z16 b→D.m≤b∧b<H.size
 lst:D.LS H Zq Ts
 zq:∀b,Zq b→D.m≤b∧b<H.size
 zz:∀b,Z16 b→¬Zq b
 pcs:∀p∈Ts,QT.ok H D.P p
 dj:∀b o,(TA b o∨∃p∈Ts,QT.af p b o)→cx.base≤b∧¬(D.own b∨Z16 b∨Zq b)∧b<H.size∧(D.TA0 b o∨D.n≤b)
 djp:∀b o p,p∈Ts→QT.af p b o→¬TA b o
 fr0:Fr D.R0 D.Hs H
 srz:∀p∈Ts,(QT.pc p).2.length<4611686018427387904
theorem DrB.step {D:Dc} {H H':Mem} {pv:Int×Int} {sv:Value} {st:List (Nat×Nat)} {Z16 Zq:Nat→Prop} {Ts:List QT} {TA TA':Nat→Nat→Prop} {Z:Nat→Nat→Prop} (h:DrB D H pv sv st Z16 Zq Ts TA) (hf:Fr Z H H')
  (hz:∀b o,(D.own b∧b≠D.hb)∨Z16 b∨Zq b∨(∃p∈Ts,QT.af p b o)→¬Z b o) (hz0:∀b o,b<D.n→Z b o→D.R0 b o) (hk:HintOk H' (.pointer (some ⟨D.hb,0,none⟩)) (fun b=>b=D.hb))
  (ht:∀b o,TA' b o→(TA b o∨H.size≤b)∧b<H'.size):DrB D H' pv sv st Z16 Zq Ts TA' where
 sz:=Nat.le_trans h.sz hf.size
 nb:=h.nb
 ow:=D.owf h.ow hf fun b o ⟨h1,h2,h3,_⟩=>hz _ _ (.inl ⟨.inl ⟨h1,h2⟩,h3⟩)
 hk:=hk
 m15:=hf.rd h.m15 fun _ _=>hz _ _ (.inl ⟨.inl (by have:=h.nb;omega),by have:=h.nb;omega⟩)
 w15:=hf.wr h.w15
 stk:=h.stk.fr hf fun b o _ hb=>hz _ _ (.inr (.inl hb))
 z16:=fun b hb=>⟨(h.z16 b hb).1,Nat.lt_of_lt_of_le (h.z16 b hb).2 hf.size⟩
 lst:=D.lsf h.lst hf fun b o hb=>hz b o (hb.elim (fun e=>.inl ⟨.inr e,by have:=h.nb;unfold Dc.n at *;omega⟩) (fun e=>.inr (.inr (.inl e))))
 zq:=fun b hb=>⟨(h.zq b hb).1,Nat.lt_of_lt_of_le (h.zq b hb).2 hf.size⟩
 zz:=h.zz
 pcs:=fun p hp=>(h.pcs p hp).fr hf fun b o hb=>hz _ _ (.inr (.inr (.inr ⟨p,hp,hb⟩)))
 dj:=fun b o hb=>by
  have key:(TA b o∨∃p∈Ts,QT.af p b o)→cx.base≤b∧¬(D.own b∨Z16 b∨Zq b)∧b<H'.size∧(D.TA0 b o∨D.n≤b):=fun hh=>by
   obtain ⟨h1,h2,h3,h4⟩:=h.dj b o hh
   exact ⟨h1,h2,Nat.lt_of_lt_of_le h3 hf.size,h4⟩
  rcases hb with hb|hb
  ·
   obtain ⟨h1,h2⟩:=ht b o hb
   rcases h1 with h1|h1
   · exact key (.inl h1)
   ·
    have:=h.sz;have:=h.nb
    refine ⟨by omega,fun hh=>?_,h2,.inr (by unfold Dc.n at *;omega)⟩
    rcases hh with hh|hh|hh
    ·
     rcases hh with hh|hh
     · omega
     · unfold Dc.n at *;omega
    · have:=(h.z16 b hh).2;omega
    · have:=(h.zq b hh).2;omega
  · exact key (.inr hb)
 djp:=fun b o p hp hb ht'=>by
  rcases (ht b o ht').1 with h1|h1
  · exact h.djp b o p hp hb h1
  · have:=(h.dj b o (.inr ⟨p,hp,hb⟩)).2.2.1;omega
 fr0:=h.fr0.trans' hf (fun _ _ _ hh=>hh) (fun b o hb hh=>hz0 b o hb hh)
 srz:=h.srz
theorem DrB.nw {D:Dc} {H H':Mem} {pv:Int×Int} {sv:Value} {st:List (Nat×Nat)} {Z16 Zq:Nat→Prop} {Ts:List QT} {TA:Nat→Nat→Prop} (h:DrB D H pv sv st Z16 Zq Ts TA) (hf:Fr nowhere H H'):DrB D H' pv sv st Z16 Zq Ts TA:=
 h.step hf (fun _ _ _ h=>h) (fun _ _ _ h=>h.elim) (h.hk.fr hf fun _ _ _ h=>h) (fun b o hb=>⟨.inl hb,Nat.lt_of_lt_of_le (h.dj b o (.inl hb)).2.2.1 hf.size⟩)
theorem DrB.piv {D:Dc} {H H':Mem} {pv pv':Int×Int} {sv:Value} {st:List (Nat×Nat)} {Z16 Zq:Nat→Prop} {Ts:List QT} {TA:Nat→Nat→Prop} (h:DrB D H pv sv st Z16 Zq Ts TA) (W:Wrote H H' (D.pb) 0 (EJ.enc pv')):DrB D H' pv' sv st Z16 Zq Ts TA where
 sz:=by rw [W.size];exact h.sz
 nb:=h.nb
 ow:=D.owf h.ow W.fr fun b o ⟨_,_,_,h4⟩=>nr (.inl h4)
 hk:=h.hk.fr W.fr fun b o hb=>nr (.inl (by have:=h.nb;omega))
 m15:=W.rd
 w15:=W.fr.wr h.w15
 stk:=h.stk.fr W.fr fun b o _ hb=>nr (.inl (by have:=(h.z16 b hb).1;have:=h.nb;omega))
 z16:=fun b hb=>by rw [W.size];exact h.z16 b hb
 lst:=D.lsf h.lst W.fr fun b o hb=>nr (.inl (hb.elim (fun e=>by have:=h.nb;unfold Dc.n at *;omega) (fun e=>by have:=(h.zq b e).1;have:=h.nb;omega)))
 zq:=fun b hb=>by rw [W.size];exact h.zq b hb
 zz:=h.zz
 pcs:=fun p hp=>(h.pcs p hp).fr W.fr fun b o hb=>nr (.inl (fun e=>(h.dj b o (.inr ⟨p,hp,hb⟩)).2.1 (.inl (.inl (by have:=h.nb;omega)))))
 dj:=fun b o hb=>by rw [W.size];exact h.dj b o hb
 djp:=h.djp
 fr0:=h.fr0.trans' W.fr (fun _ _ _ hh=>hh) (fun b o hb hh=>by have:=hh.1;have:=h.nb;unfold Dc.n at *;omega)
 srz:=h.srz
theorem DrB.stack {D:Dc} {H H':Mem} {pv:Int×Int} {sv sv':Value} {st st':List (Nat×Nat)} {Z16 Z16' Zq:Nat→Prop} {Ts:List QT} {TA:Nat→Nat→Prop} (h:DrB D H pv sv st Z16 Zq Ts TA) (hf:Fr (fun b _=>Z16 b) H H') (hs:Acc EK Z16' H' sv' (stI st')) (hz:∀b,Z16' b→(Z16 b∨H.size≤b)∧b<H'.size):DrB D H' pv sv' st' Z16' Zq Ts TA where
 sz:=Nat.le_trans h.sz hf.size
 nb:=h.nb
 ow:=D.owf h.ow hf fun b o h1 hh=>by have:=(h.z16 _ hh).1;omega
 hk:=h.hk.fr hf fun b o hb hh=>by have:=(h.z16 _ hh).1;have:=h.nb;omega
 m15:=hf.rd h.m15 fun _ _ hh=>by have:=(h.z16 _ hh).1;have:=h.nb;omega
 w15:=hf.wr h.w15
 stk:=hs
 z16:=fun b hb=>⟨(hz b hb).1.elim (fun hh=>(h.z16 b hh).1) (fun hh=>Nat.le_trans h.sz hh),(hz b hb).2⟩
 lst:=D.lsf h.lst hf fun b o hb hh=>hb.elim (fun e=>by have:=h.nb;have:=(h.z16 _ hh).1;unfold Dc.n at *;omega) (fun e=>h.zz b hh e)
 zq:=fun b hb=>⟨(h.zq b hb).1,Nat.lt_of_lt_of_le (h.zq b hb).2 hf.size⟩
 zz:=fun b hb hq=>(hz b hb).1.elim (fun hh=>h.zz b hh hq) (fun hh=>by have:=(h.zq b hq).2;omega)
 pcs:=fun p hp=>(h.pcs p hp).fr hf fun b o hb hh=>(h.dj b o (.inr ⟨p,hp,hb⟩)).2.1 (.inr (.inl hh))
 dj:=fun b o hb=>by
  obtain ⟨h1,h2,h3,h4⟩:=h.dj b o hb
  refine ⟨h1,fun hh=>h2 ?_,Nat.lt_of_lt_of_le h3 hf.size,h4⟩
  rcases hh with hh|hh|hh
  · exact .inl hh
  · exact (hz b hh).1.elim (fun h=>.inr (.inl h)) (fun h=>by omega)
  · exact .inr (.inr hh)
 djp:=h.djp
 fr0:=h.fr0.trans' hf (fun _ _ _ hh=>hh) (fun b o hb hh=>by have:=(h.z16 b hh).1;have:=h.nb;unfold Dc.n at *;omega)
 srz:=h.srz
theorem DrB.list {D:Dc} {H H':Mem} {pv:Int×Int} {sv:Value} {st:List (Nat×Nat)} {Z16 Zq Zq':Nat→Prop} {Ts:List QT} {p:QT} {TA:Nat→Nat→Prop} (h:DrB D H pv sv st Z16 Zq Ts TA) (hf:Fr (fun b _=>b=D.dl∨Zq b) H H') (hl:D.LS H' Zq' (Ts++[p])) (hq:∀b,Zq' b→(Zq b∨H.size≤b)∧b<H'.size)
  (hp:QT.ok H D.P p) (ha:∀b o,QT.af p b o→cx.base≤b∧¬(D.own b∨Z16 b∨Zq b)∧b<H.size∧(D.TA0 b o∨D.n≤b)∧¬TA b o) (hs:(QT.pc p).2.length<4611686018427387904):DrB D H' pv sv st Z16 Zq' (Ts++[p]) TA:=by
 have hn:∀b,D.n≤b→b<D.m→¬(b=D.dl∨Zq b):=fun b h1 h2 hh=>hh.elim (fun e=>by have:=h.nb.2.1;unfold Dc.n at *;omega) (fun e=>by have:=(h.zq b e).1;omega)
 have nb:=h.nb
 exact {
  sz:=Nat.le_trans h.sz hf.size
  nb:=h.nb
  ow:=D.owf h.ow hf fun b o ⟨h1,h2,_⟩=>hn b h1 h2
  hk:=h.hk.fr hf fun b o hb=>hn b (by omega) (by omega)
  m15:=hf.rd h.m15 fun _ _=>hn _ (by omega) (by omega)
  w15:=hf.wr h.w15
  stk:=h.stk.fr hf fun b o _ hb hh=>hh.elim (fun e=>by have:=(h.z16 _ hb).1;unfold Dc.n at *;omega) (fun e=>h.zz b hb e)
  z16:=fun b hb=>⟨(h.z16 b hb).1,Nat.lt_of_lt_of_le (h.z16 b hb).2 hf.size⟩
  lst:=hl
  zq:=fun b hb=>⟨(hq b hb).1.elim (fun hh=>(h.zq b hh).1) (fun hh=>Nat.le_trans h.sz hh),(hq b hb).2⟩
  zz:=fun b hb hb2=>(hq b hb2).1.elim (fun hh=>h.zz b hb hh) (fun hh=>by have:=(h.z16 b hb).2;omega)
  pcs:=fun r hr=>by
   rcases List.mem_append.1 hr with hr|hr
   · exact (h.pcs r hr).fr hf fun b o hb hh=>(h.dj b o (.inr ⟨r,hr,hb⟩)).2.1 (hh.elim (fun e=>.inl (.inr e)) (fun e=>.inr (.inr e)))
   ·
    rw [List.mem_singleton] at hr;subst hr
    exact hp.fr hf fun b o hb hh=>(ha b o hb).2.1 (hh.elim (fun e=>.inl (.inr e)) (fun e=>.inr (.inr e)))
  dj:=fun b o hb=>by
   have key:cx.base≤b∧¬(D.own b∨Z16 b∨Zq b)∧b<H.size∧(D.TA0 b o∨D.n≤b):=by
    rcases hb with hb|⟨r,hr,hb⟩
    · exact h.dj b o (.inl hb)
    ·
     rcases List.mem_append.1 hr with hr|hr
     · exact h.dj b o (.inr ⟨r,hr,hb⟩)
     ·
      rw [List.mem_singleton] at hr;subst hr
      obtain ⟨h1,h2,h3,h4,_⟩:=ha b o hb
      exact ⟨h1,h2,h3,h4⟩
   obtain ⟨h1,h2,h3,h4⟩:=key
   refine ⟨h1,fun hh=>h2 ?_,Nat.lt_of_lt_of_le h3 hf.size,h4⟩
   rcases hh with hh|hh|hh
   · exact .inl hh
   · exact .inr (.inl hh)
   · exact (hq b hh).1.elim (fun h=>.inr (.inr h)) (fun h=>by omega)
  djp:=fun b o r hr hb=>by
   rcases List.mem_append.1 hr with hr|hr
   · exact h.djp b o r hr hb
   ·
    rw [List.mem_singleton] at hr;subst hr
    exact (ha b o hb).2.2.2.2
  fr0:=h.fr0.trans' hf (fun _ _ _ hh=>hh) (fun b o hb hh=>hh.elim (fun e=>.inr (.inr e)) (fun e=>by have:=(h.zq b e).1;unfold Dc.n at *;omega))
  srz:=fun r hr=>by
   rcases List.mem_append.1 hr with hr|hr
   · exact h.srz r hr
   · rw [List.mem_singleton] at hr;subst hr;exact hs }
theorem DrB.keeps {D:Dc} {H:Mem} {pv:Int×Int} {sv:Value} {st:List (Nat×Nat)} {Z16 Zq:Nat→Prop} {Ts:List QT} {h0:Nat} {t0:Gt EJ h0} (h:DrB D H pv sv st Z16 Zq Ts (Gt.af h0 t0)) {Z:Nat→Nat→Prop} (hz:∀b o,Z b o→D.own b∨Z16 b∨Zq b):Keeps D.tr h0 t0 Z:=
 ⟨fun b o hb hh=>by
  rcases hz b o hh with hh|hh|hh
  ·
   have:=h.nb
   rcases hh with hh|hh
   · omega
   · omega
  · have:=(h.z16 b hh).1;have:=h.nb;omega
  · have:=(h.zq b hh).1;have:=h.nb;omega,fun b o hb hh=>(h.dj b o (.inl hb)).2.1 (hz b o hh)⟩
end
end Go.Bt.FG
namespace Go.Bt.FG
open Go Go.Proofs Go.Proofs.Try
set_option maxRecDepth 20000
set_option maxHeartbeats 4000000
set_option linter.unusedSectionVars false
section
variable [Inhabited Cx]
def stopF (hi:Int×Int) (mi:Bool) (x:Int×Int):Bool:=if mi then OI.lt hi x else !OI.lt x hi
theorem stopF_mono (hi:Int×Int) (mi:Bool) (x y:Int×Int) (h1:OI.lt x y=true) (h:stopF hi mi x=true):stopF hi mi y=true:=by
 unfold stopF at h ⊢
 cases mi
 ·
  simp only [Bool.false_eq_true,if_false,Bool.not_eq_true'] at h ⊢
  cases h2:OI.lt y hi with
  | false=>rfl
  | true=>rw [OI.trans h1 h2] at h;cases h
 ·
  simp only [if_true] at h ⊢
  exact OI.trans h h1
theorem stopF_lt {hi:Int×Int} {mi:Bool} {w:Int×Int} (h:OI.lt w hi=true):stopF hi mi w=false:=by
 unfold stopF
 cases mi
 · simp [h]
 · simp [OI.asy h]
def OwR (n tr:Nat) (hi:Int×Int) (mi:Bool) (H:Mem):Prop:=cl H n 0=some (ptr tr)∧Rd H (n+2) 0 (EJ.enc hi)∧cl H (n+4) 0=some (.bool mi)∧Wr H (n+3) 0 4
theorem OwR.fr {n tr m:Nat} {hi:Int×Int} {mi:Bool} {H H':Mem} {Z:Nat→Nat→Prop} (h:OwR n tr hi mi H) (hm:m=n+7) (hf:Fr Z H H') (hz:∀b o,n≤b∧b<m∧b≠n+5∧b≠n+6→¬Z b o):OwR n tr hi mi H':=
 ⟨hf.keep h.1 (hz _ _ (by omega)),hf.rd h.2.1 fun _ _=>hz _ _ (by omega),hf.keep h.2.2.1 (hz _ _ (by omega)),hf.wr h.2.2.2⟩
theorem OwR.res {n tr:Nat} {hi:Int×Int} {mi:Bool} {H H':Mem} {vs:List Value} (h:OwR n tr hi mi H) (W:Wrote H H' (n+3) 0 vs):OwR n tr hi mi H':=
 ⟨W.fr.keep h.1 (nr (.inl (by omega))),W.fr.rd h.2.1 fun _ _=>nr (.inl (by omega)),W.fr.keep h.2.2.1 (nr (.inl (by omega))),W.fr.wr h.2.2.2⟩
def dcR (H:Mem) (TA0:Nat→Nat→Prop) (tr dl:Nat) (hi:Int×Int) (mi ex:Bool) (P:Ps):Dc where
 Hs:=H
 TA0:=TA0
 tr:=tr
 dl:=dl
 m:=H.size+7
 hb:=H.size+5
 pb:=H.size+6
 P:=P
 stop:=stopF hi mi
 mono:=stopF_mono hi mi
 OW:=OwR H.size tr hi mi
 owf:=fun h hf hz=>h.fr rfl hf hz
 LS:=fun H Zq Ts=>LiS dl ex H Zq Ts
 lsf:=fun h hf hz=>h.fr hf hz
theorem maxstop_spec {B:World} {H:Mem} {tr n ii mx mn:Nat} {hi:Int×Int} {mc:Bool} (tc:TrC H tr ii mx mn) (hO:OwR n tr hi mc H) (x:Int×Int):
  Fn Try.prog B 76 [.agg (EJ.enc x).toArray,ptr (n+4),ptr n,ptr (n+2)] H (fun r H'=>r=.bool (stopF hi mc x)∧Fr nowhere H H'):=by
 obtain ⟨c5,m7,c12,_⟩:=hO
 unfold ptr at c5 ⊢
 refine fn_of func76 rfl ntmps76 ?_
 refine (show Go' _ _ _ _ 22 [(0,_),(1,_),(2,_),(3,_)] [.code _] _ from ?_)
 refine Ut 1 rfl (Ur 2 2 rfl (O.box rfl rfl rfl rfl ?_))
 intro H1 M1
 refine ⟨trivial,?_⟩
 replace tc:=tc.fr (M1.fr nowhere) (fun _ _ _ _=>nw)
 replace c5:=(M1.fr nowhere).keep c5 nw
 replace m7:=(M1.fr nowhere).rd m7 (fun _ _=>nw)
 replace c12:=(M1.fr nowhere).keep c12 nw
 have hF:Fr nowhere H H1:=M1.fr nowhere
 have mi:Rd H1 H.size 0 (EJ.enc x):=M1.rd _ [] (by simp [Value.cells])
 refine Uf 1 [1,2,3,4,5] rfl (Ut 2 rfl ?_)
 cases hmi:mc
 ·
  rw [hmi] at c12
  refine Ur 1 1 rfl (Ul 0 rfl c12 (Uf 0 [2,3,4,5,6] rfl (Go'.condF rfl (Ut 2 rfl (Ud 9 9537 (by kernel_rfl) (Ul 0 rfl c5 (Ul 2 rfl tc.le (Us 0 rfl mi rfl (Us 0 rfl m7 rfl (O.callC rfl rfl rfl rfl call72 rfl (less_spec tc (x) (hi)) ?_))))))))))
  rintro _ H2 ⟨rfl,hF2⟩
  replace hF:=hF.trans hF2
  refine ⟨trivial,?_⟩
  refine Uf 2 [5] rfl (Go'.ret (vs:=[_]) func76 results76 ⟨rfl,trivial⟩ ?_)
  exact ⟨rfl,hF⟩
 ·
  rw [hmi] at c12
  refine Ur 1 1 rfl (Ul 0 rfl c12 (Uf 0 [2,3,4,5,6] rfl (Go'.condT rfl (Ut 1 rfl (Ud 8 9537 (by kernel_rfl) (Ul 0 rfl c5 (Ul 2 rfl tc.le (Us 0 rfl m7 rfl (Us 0 rfl mi rfl (O.callC rfl rfl rfl rfl call72 rfl (less_spec tc (hi) (x)) ?_))))))))))
  rintro _ H2 ⟨rfl,hF2⟩
  replace hF:=hF.trans hF2
  refine ⟨trivial,?_⟩
  refine Uf 1 [2,3,4,5] rfl (Go'.ret (vs:=[_]) func76 results76 ⟨rfl,trivial⟩ ?_)
  exact ⟨rfl,hF⟩
theorem flat_len_ge (Ts:List QT):Ts.length≤(flat (Ts.map QT.pc)).length:=by
 induction Ts with
 | nil=>exact Nat.le_refl _
 | cons p Ts ih=>
  rw [List.map_cons]
  show Ts.length+1≤(Pc.l (QT.pc p)++flat (Ts.map QT.pc)).length
  rw [List.length_append]
  unfold Pc.l
  rw [List.length_cons]
  omega
theorem dapp_spec {B:World} {D:Dc} {H:Mem} {ii mx mn:Nat} {pv:Int×Int} {sv:Value} {st:List (Nat×Nat)} {Z16 Zq:Nat→Prop} {Ts:List QT} {TA:Nat→Nat→Prop} (tc:TrC H D.tr ii mx mn) {ex:Bool} (hLS:∀H Zq Ts,D.LS H Zq Ts=LiS D.dl ex H Zq Ts) (hB:DrB D H pv sv st Z16 Zq Ts TA) (hex:ex=true) (p:QT) (hp:QT.ok H D.P p)
  (ha:∀b o,QT.af p b o→cx.base≤b∧¬(D.own b∨Z16 b∨Zq b)∧b<H.size∧(D.TA0 b o∨D.n≤b)∧¬TA b o) (hb:(flat (Ts.map QT.pc)).length+(QT.pc p).2.length<4294967295):
  Fn Try.prog B 77 [ptr D.dl,.agg (EJ.enc p.1).toArray,nodeV (p.2.map fun s=>Gt.p s.1 s.2)] H (fun r H'=>r=resVal []∧∃Zq',DrB D H' pv sv st Z16 Zq' (Ts++[p]) TA∧Fr (fun b _=>b=D.dl∨Zq b) H H'):=by
 obtain ⟨q,fn,cnt,hL,h1,h2,hon⟩:=(hLS _ _ _▸hB.lst:LiS D.dl ex H Zq Ts)
 obtain ⟨rfl,hpm,hhp,hcnt⟩:=h1 hex
 have hql:q.length=Ts.length:=by rw [hpm.length_eq,List.length_map]
 have hge:=flat_len_ge Ts
 have hfl:(flat ((Ts++[p]).map QT.pc)).length=(flat (Ts.map QT.pc)).length+1+(QT.pc p).2.length:=by
  rw [List.map_append,flat_app,List.length_append]
  show _+(flat [QT.pc p]).length=_
  rw [flat_one];unfold Pc.l;rw [List.length_cons];omega
 obtain ⟨k,hk⟩:∃k,k=(QT.pc p).2.length:=⟨_,rfl⟩
 have a1:∀b,b=D.dl∨Zq b→¬(b<cx.base∧cx.own b):=fun b hb hh=>by
  have:=hB.nb
  rcases hb with rfl|hb
  · omega
  · have:=(hB.zq b hb).1;omega
 rw [←hcnt] at hge hb hfl
 rw [←hk] at hb hfl
 have a2:q.length<4294967296:=by rw [hql];omega
 have a3:cnt+1+k<4611686018427387904:=by omega
 have a5:(QT.pc p).2.length<4611686018427387904:=by rw [←hk];omega
 have a4:match (p.2.map fun s=>Gt.p s.1 s.2) with|some p=>cl H p 1=some (.int .i64 (k:Int))∧p≠D.dl|none=>k=0:=by
  obtain ⟨x,_|⟨h0,t⟩⟩:=p
  · exact hk
  ·
   have hg:Gt.Good H D.P h0 t:=hp
   obtain ⟨kp,hn⟩:=hg.node
   refine ⟨?_,fun e=>(ha (Gt.p h0 t) 0 (Gt.af_p (t:=t) (by decide))).2.1 (.inl (.inr e))⟩
   have hc:=hn.c1
   rw [hg.cnt] at hc
   rw [hk]
   exact hc
 have hA:=append_spec (B:=B) p.1 (p.2.map fun s=>Gt.p s.1 s.2) tc hL a1 a2 a4 a3
 refine hA.mono ?_
 rintro r H' ⟨rfl,Zq',q',hL',hpm',hhp',hF,hZ⟩
 have hpe:q'.Perm ((Ts++[p]).map QT.e):=by
  rw [List.map_append]
  exact hpm'.trans (List.Perm.append_right _ hpm)
 refine ⟨rfl,Zq',hB.list hF (by rw [hLS];exact ⟨q',_,_,hL',fun _=>⟨rfl,hpe,hhp' hhp,hfl.symm⟩,fun e=>(by rw [hex] at e;cases e),hon⟩) (fun b hb=>⟨hZ b hb,hL'.zl b hb⟩) hp ha a5,hF⟩
end
end Go.Bt.FG
namespace Go.Bt.FG
open Go Go.Proofs Go.Proofs.Try
set_option maxRecDepth 20000
set_option maxHeartbeats 4000000
set_option linter.unusedSectionVars false
section
variable [Inhabited Cx]
theorem mu_lt {a b c h h':Nat} (h1:a<b) (h2:h'<c):a*c+h'<b*c+h:=by
 have:(a+1)*c≤b*c:=Nat.mul_le_mul_right _ h1
 rw [Nat.add_mul,Nat.one_mul] at this
 omega
theorem Gt.Good.nodeP {H:Mem} {P:Ps}:∀{h:Nat} {t:Gt EJ h},Gt.Good H P h t→∃a:Option Addr,NodeM EJ H (Gt.g h t) (Gt.X h t) (.pointer a)
 | 0,_,hg=>⟨_,hg.1⟩
 | h+1,_,hg=>⟨_,hg.1⟩
theorem Gt.srtX {H:Mem} {P:Ps}:∀{h:Nat} {t:Gt EJ h},Gt.Good H P h t→Pl.Srt OI (Gt.L h t)→Pl.Srt OI (Gt.X h t)
 | 0,_,_,hs=>hs
 | h+1,t,hg,hs=>hs.sublist (Pl.sublist_inter t.2.1 _ (by rw [List.length_map];have:=hg.2.2.2.2.2.1;omega))
theorem Acc.stk {H:Mem} {Z:Nat→Prop} {v:Value} {q:Nat×Nat} {fs:List (Nat×Nat)} (h:Acc EK Z H v (stI (q::fs))):∃b o c,v=.slice (some ⟨b,o,none⟩) (fs.length+1) c∧Z b∧b<H.size∧SlE EK H b o c (stI (q::fs)):=by
 rcases h with ⟨_,e⟩|⟨b,o,c,rfl,hz,hb,hs⟩
 · cases e
 · exact ⟨b,o,c,by simp [stI],hz,hb,hs⟩
theorem DrB.res {D:Dc} {H H':Mem} {pv:Int×Int} {sv:Value} {st:List (Nat×Nat)} {Z16 Zq:Nat→Prop} {Ts:List QT} {TA:Nat→Nat→Prop} {rb:Nat} {vs:List Value} (h:DrB D H pv sv st Z16 Zq Ts TA) (hr:D.n≤rb∧rb<D.m∧rb≠D.hb∧rb≠D.pb) (W:Wrote H H' rb 0 vs) (how:D.OW H'):DrB D H' pv sv st Z16 Zq Ts TA where
 sz:=by rw [W.size];exact h.sz
 nb:=h.nb
 ow:=how
 hk:=h.hk.fr W.fr fun b o hb=>nr (.inl (by omega))
 m15:=W.fr.rd h.m15 fun _ _=>nr (.inl (by omega))
 w15:=W.fr.wr h.w15
 stk:=h.stk.fr W.fr fun b o _ hb=>nr (.inl (by have:=(h.z16 b hb).1;omega))
 z16:=fun b hb=>by rw [W.size];exact h.z16 b hb
 lst:=D.lsf h.lst W.fr fun b o hb=>nr (.inl (hb.elim (fun e=>by have:=h.nb;unfold Dc.n at *;omega) (fun e=>by have:=(h.zq b e).1;omega)))
 zq:=fun b hb=>by rw [W.size];exact h.zq b hb
 zz:=h.zz
 pcs:=fun p hp=>(h.pcs p hp).fr W.fr fun b o hb=>nr (.inl (fun e=>(h.dj b o (.inr ⟨p,hp,hb⟩)).2.1 (.inl (.inl (by omega)))))
 dj:=fun b o hb=>by rw [W.size];exact h.dj b o hb
 djp:=h.djp
 fr0:=h.fr0.trans' W.fr (fun _ _ _ hh=>hh) (fun b o hb hh=>by have:=hh.1;unfold Dc.n at *;omega)
 srz:=h.srz
def DrT (D:Dc) (A R:List (Int×Int)) (H:Mem) (pv:Int×Int) (sv:Value) (st:List (Nat×Nat)) (Z16 Zq:Nat→Prop) (Ts:List QT):Prop:=
 (A++R=[]∧RtZ H D.tr D.P∧DrB D H pv sv st Z16 Zq Ts (fun _ _=>False))∨∃h0,∃t0:Gt EJ h0,RtT H D.tr D.P (A++R) h0 t0∧DrB D H pv sv st Z16 Zq Ts (Gt.af h0 t0)∧Gt.Seg (Ra OI A (flat (Ts.map QT.pc))) h0 t0
def Jr (D:Dc) (A R0:List (Int×Int)) (sv:Value) (m:Nat) (H:Mem):Prop:=
 ∃R pv Z16 Zq Ts,m=(A++R).length∧Dri OI A R R0 (Ts.map QT.pc) D.stop∧Pv OI A R pv∧DrT D A R H pv sv [] Z16 Zq Ts
def DrQ (D:Dc) (A R0:List (Int×Int)) (r:Value) (H:Mem):Prop:=
 ∃R pv sv st Z16 Zq Ts,Dri OI A R R0 (Ts.map QT.pc) D.stop∧(∀x∈R,D.stop x=true)∧DrT D A R H pv sv st Z16 Zq Ts∧∃vs:List Value,r=.agg vs.toArray∧vs.length=4∧Rd H D.dl 0 vs
theorem DrT.b {D:Dc} {A R:List (Int×Int)} {H:Mem} {pv:Int×Int} {sv:Value} {st:List (Nat×Nat)} {Z16 Zq:Nat→Prop} {Ts:List QT} (h:DrT D A R H pv sv st Z16 Zq Ts):∃TA,DrB D H pv sv st Z16 Zq Ts TA:=h.elim (fun h=>⟨_,h.2.2⟩) (fun ⟨_,_,h⟩=>⟨_,h.2.1⟩)
theorem LiS.vals {dl:Nat} {ex:Bool} {H:Mem} {Zq:Nat→Prop} {Ts:List QT} (h:LiS dl ex H Zq Ts):∃vs:List Value,vs.length=4∧ones vs=true∧Rd H dl 0 vs:=by
 obtain ⟨q,fn,cnt,hL,_,_,hon⟩:=h
 obtain ⟨sv,h3,hA⟩:=hL.st
 obtain ⟨a,m,c,rfl⟩:=hA.form
 refine ⟨[fn,.int .i64 (cnt:Int),.int .i64 ((0:Nat):Int),.slice a m c],rfl,?_,fun i v hv=>?_⟩
 · simp [ones] at hon ⊢;exact ⟨hon,rfl,rfl,rfl⟩
 ·
  match i,hv with
  | 0,hv=>cases hv;exact hL.c0
  | 1,hv=>cases hv;exact hL.c1
  | 2,hv=>cases hv;exact hL.c2
  | 3,hv=>cases hv;exact h3
theorem DrT.res {D:Dc} {A R:List (Int×Int)} {H H':Mem} {pv:Int×Int} {sv:Value} {st:List (Nat×Nat)} {Z16 Zq:Nat→Prop} {Ts:List QT} {rb:Nat} {vs:List Value} (h:DrT D A R H pv sv st Z16 Zq Ts) (hr:D.n≤rb∧rb<D.m∧rb≠D.hb∧rb≠D.pb) (W:Wrote H H' rb 0 vs) (how:D.OW H'):DrT D A R H' pv sv st Z16 Zq Ts:=by
 rcases h with ⟨e,hz,hB⟩|⟨h0,t0,hT,hB,hS⟩
 ·
  have hkb:∀b o,b<cx.base∧cx.own b→¬rng rb 0 vs.length b o:=fun b o hb hh=>by have h1:=hh.1;have:=hB.nb;omega
  exact .inl ⟨e,⟨hz.tc.fr W.fr fun b o hb _=>hkb b o hb,W.fr.keep hz.cnt (hkb _ _ ⟨hz.tc.tb,hz.tc.tw⟩),W.fr.keep hz.c (hkb _ _ ⟨hz.tc.tb,hz.tc.tw⟩)⟩,hB.res hr W how⟩
 · exact .inr ⟨h0,t0,hT.fr W.fr (hB.keeps fun b o hh=>.inl (.inl (by have h1:=hh.1;omega))),hB.res hr W how,hS⟩
structure Jn (D:Dc) (A R0 R:List (Int×Int)) (H:Mem) (pv:Int×Int) (sv:Value) (fs:List (Nat×Nat)) (Z16 Zq:Nat→Prop) (Ts:List QT) (h0:Nat) (t0:Gt EJ h0) (h:Nat) (t:Gt EJ h) (A1 C1:List (Int×Int)):Prop where
 dri:Dri OI A R R0 (Ts.map QT.pc) D.stop
 T:RtT H D.tr D.P (A++R) h0 t0
 B:DrB D H pv sv ((Gt.p h0 t0,0)::fs) Z16 Zq Ts (Gt.af h0 t0)
 seg:Gt.Seg (Ra OI A (flat (Ts.map QT.pc))) h0 t0
 dn:Dn t0 fs t A1 C1
structure Jm (D:Dc) (A R:List (Int×Int)) (H:Mem) (pv:Int×Int) (sv:Value) (fs:List (Nat×Nat)) (Z16 Zq:Nat→Prop) (Ts:List QT) (G:List (Int×Int)) (h0:Nat) (t0:Gt EJ h0) (h:Nat) (t:Gt EJ h) (A1 C1:List (Int×Int)):Prop where
 T:RtT H D.tr D.P (A++R) h0 t0
 B:DrB D H pv sv ((Gt.p h0 t0,0)::fs) Z16 Zq Ts (Gt.af h0 t0)
 seg:Gt.Seg (Ra OI A G) h0 t0
 dn:Dn t0 fs t A1 C1
def Cu2 (A R A1 C1:List (Int×Int)) (pv:Int×Int) (i:Nat) (fd:Bool) (m0 m1:Nat):(h:Nat)→Gt EJ h→Prop
 | 0,t=>A=A1++t.2.take i∧R=t.2.drop i++C1∧i≤t.2.length
 | h+1,t=>∃k R1 R2,CuI A R A1 C1 t i k R1 R2∧(fd=true→R1=[]∧i<t.2.1.length)∧(fd=false→Pv OI A R pv∧Pv OI A1 C1 pv∧i=Pl.pos OI pv t.2.1∧(A++R).length*(m0+1)+(h+1)≤m1)
def J1 (D:Dc) (A R0:List (Int×Int)) (m0:Nat) (sv:Value) (p m:Nat) (H:Mem):Prop:=
 ∃R pv fs Z16 Zq Ts h0,∃t0:Gt EJ h0,∃h,∃t:Gt EJ h,∃A1 C1,Jn D A R0 R H pv sv fs Z16 Zq Ts h0 t0 h t A1 C1∧Pv OI A R pv∧Pv OI A1 C1 pv∧p=Gt.p h t∧(A++R).length≤m0∧m=(A++R).length*(m0+1)+h
def J2 (D:Dc) (A R0:List (Int×Int)) (m0 m1:Nat) (sv:Value) (p i:Nat) (fd:Bool) (m:Nat) (H:Mem):Prop:=
 ∃R pv fs Z16 Zq Ts h0,∃t0:Gt EJ h0,∃h,∃t:Gt EJ h,∃A1 C1,Jn D A R0 R H pv sv fs Z16 Zq Ts h0 t0 h t A1 C1∧p=Gt.p h t∧(A++R).length≤m0∧m=2*(A++R).length+(if h=0 then 1 else 0)∧Cu2 A R A1 C1 pv i fd m0 m1 h t
def JL (D:Dc) (A R0:List (Int×Int)) (m0:Nat) (sv:Value) (p i m:Nat) (H:Mem):Prop:=
 ∃R pv fs Z16 Zq Ts h0,∃t0:Gt EJ h0,∃t:Gt EJ 0,∃A1 C1,Jn D A R0 R H pv sv fs Z16 Zq Ts h0 t0 0 t A1 C1∧p=Gt.p 0 t∧(A++R).length≤m0∧m=(A++R).length∧A=A1++t.2.take i∧R=t.2.drop i++C1∧i≤t.2.length
def JC (D:Dc) (A R0:List (Int×Int)) (m0:Nat) (sv:Value) (m:Nat) (H:Mem):Prop:=
 ∃R pv fs Z16 Zq Ts h0,∃t0:Gt EJ h0,∃h,∃t:Gt EJ h,∃A1 C1,Jn D A R0 R H pv sv fs Z16 Zq Ts h0 t0 h t A1 C1∧(A++R).length≤m0∧m=fs.length∧A=A1++Gt.L h t∧R=C1
section
variable {D:Dc} {A R0 R:List (Int×Int)} {H:Mem} {pv:Int×Int} {sv:Value} {fs:List (Nat×Nat)} {Z16 Zq:Nat→Prop} {Ts:List QT} {h0:Nat} {t0:Gt EJ h0} {h:Nat} {t:Gt EJ h} {A1 C1:List (Int×Int)}
theorem Jn.good (J:Jn D A R0 R H pv sv fs Z16 Zq Ts h0 t0 h t A1 C1):Gt.Good H D.P h t:=(J.dn.good J.T.g).1
theorem Jn.eL (J:Jn D A R0 R H pv sv fs Z16 Zq Ts h0 t0 h t A1 C1):A++R=A1++Gt.L h t++C1:=by rw [←J.T.e];exact J.dn.L J.T.g
theorem Jn.x1 (hP:PsOk D.P) (J:Jn D A R0 R H pv sv fs Z16 Zq Ts h0 t0 h t A1 C1):1≤(Gt.X h t).length:=by
 rcases fs with _|⟨f,fs⟩
 ·
  have d:=J.dn
  have x:=J.T.x1
  cases d with
  | nil=>exact x
 ·
  have:=(J.dn.good J.T.g).2 (by simp)
  have:=hP.h1
  omega
theorem Jn.srtL (J:Jn D A R0 R H pv sv fs Z16 Zq Ts h0 t0 h t A1 C1):Pl.Srt OI (Gt.L h t):=by
 have h1:=J.T.srt
 rw [J.eL,Pl.Srt.append,Pl.Srt.append] at h1
 exact h1.1.2.1
theorem Jn.tall (hP:PsOk D.P) (J:Jn D A R0 R H pv sv fs Z16 Zq Ts h0 t0 h t A1 C1):h+fs.length+1≤(A++R).length:=by
 have h1:=Gt.Good.tall hP J.T.g J.T.x1
 rw [J.T.e] at h1
 have:=J.dn.le
 omega
theorem Jn.step {Z:Nat→Nat→Prop} {H':Mem} (J:Jn D A R0 R H pv sv fs Z16 Zq Ts h0 t0 h t A1 C1) (hf:Fr Z H H') (hz:∀b o,Z b o→b=D.hb) (hk:HintOk H' (.pointer (some ⟨D.hb,0,none⟩)) (fun b=>b=D.hb)):Jn D A R0 R H' pv sv fs Z16 Zq Ts h0 t0 h t A1 C1:=by
 have hn5:∀b o,Z b o→¬(Z16 b∨Zq b∨(∃p∈Ts,QT.af p b o)∨Gt.af h0 t0 b o):=fun b o hh hc=>by
  have e:=hz b o hh
  have hsz:=J.B.sz
  have hnb:=J.B.nb
  rcases hc with hc|hc|hc|hc
  · have:=(J.B.z16 b hc).1;omega
  · have:=(J.B.zq b hc).1;omega
  · exact (J.B.dj b o (.inr hc)).2.1 (.inl (.inl (by omega)))
  · exact (J.B.dj b o (.inl hc)).2.1 (.inl (.inl (by omega)))
 have hnb:=J.B.nb
 exact ⟨J.dri,J.T.fr hf (J.B.keeps fun b o hh=>.inl (.inl (by have:=hz b o hh;omega))),J.B.step hf (fun b o hc hh=>by
   rcases hc with hc|hc|hc|hc
   · exact hc.2 (hz b o hh)
   · exact hn5 b o hh (.inl hc)
   · exact hn5 b o hh (.inr (.inl hc))
   · exact hn5 b o hh (.inr (.inr (.inl hc)))) (fun b o hb hh=>by have:=hz b o hh;omega) hk (fun b o hb=>⟨.inl hb,Nat.lt_of_lt_of_le (J.B.dj b o (.inl hb)).2.2.1 hf.size⟩),J.seg,J.dn⟩
theorem Jn.nw {H':Mem} (J:Jn D A R0 R H pv sv fs Z16 Zq Ts h0 t0 h t A1 C1) (hf:Fr nowhere H H'):Jn D A R0 R H' pv sv fs Z16 Zq Ts h0 t0 h t A1 C1:=J.step hf (fun _ _ h=>h.elim) (J.B.hk.fr hf fun _ _ _ h=>h)
theorem Jn.m (J:Jn D A R0 R H pv sv fs Z16 Zq Ts h0 t0 h t A1 C1):Jm D A R H pv sv fs Z16 Zq Ts (flat (Ts.map QT.pc)) h0 t0 h t A1 C1:=⟨J.T,J.B,J.seg,J.dn⟩
section
variable {G:List (Int×Int)}
theorem Jm.good (J:Jm D A R H pv sv fs Z16 Zq Ts G h0 t0 h t A1 C1):Gt.Good H D.P h t:=(J.dn.good J.T.g).1
theorem Jm.eL (J:Jm D A R H pv sv fs Z16 Zq Ts G h0 t0 h t A1 C1):A++R=A1++Gt.L h t++C1:=by rw [←J.T.e];exact J.dn.L J.T.g
theorem Jm.srtL (J:Jm D A R H pv sv fs Z16 Zq Ts G h0 t0 h t A1 C1):Pl.Srt OI (Gt.L h t):=by
 have h1:=J.T.srt
 rw [J.eL,Pl.Srt.append,Pl.Srt.append] at h1
 exact h1.1.2.1
theorem Jm.cell (J:Jm D A R H pv sv fs Z16 Zq Ts G h0 t0 h t A1 C1) {b o:Nat} (hb:Gt.af h t b o):cx.base≤b∧¬(D.own b∨Z16 b∨Zq b)∧b<H.size∧(D.TA0 b o∨D.n≤b):=J.B.dj b o (.inl (J.dn.sub b o hb))
theorem Jm.cnt (J:Jm D A R H pv sv fs Z16 Zq Ts G h0 t0 h t A1 C1) {Hc:Mem} (hE:Fr (Gt.af h t) H Hc) (hc:cl Hc (Gt.p h t) 1=some (.int .i64 ((Gt.L h t).length:Int))):∀q∈Gt.p h0 t0::fs.map Prod.fst,∃c:Nat,cl Hc q 1=some (.int .i64 (c:Int))∧(Gt.L h t).length≤c∧c≤(A++R).length∧Wr Hc q 0 4:=fun q hq=>by
 obtain ⟨c,h1,h2,h3,h4⟩:=J.dn.cnts J.T.g q hq
 rw [J.T.e] at h3
 by_cases e:q=Gt.p h t
 ·
  refine ⟨_,by rw [e];exact hc,Nat.le_refl _,?_,hE.wr h4⟩
  omega
 · exact ⟨c,hE.keep h1 (J.dn.pt_off J.T.g q hq e 1 (by decide)),h2,h3,hE.wr h4⟩
theorem Jm.pts (J:Jm D A R H pv sv fs Z16 Zq Ts G h0 t0 h t A1 C1):∀q∈Gt.p h0 t0::fs.map Prod.fst,cx.base≤q∧¬(D.own q∨Z16 q∨Zq q)∧q<H.size:=fun q hq=>by
 obtain ⟨h1,h2,h3,_⟩:=J.B.dj q 1 (.inl (J.dn.pts q hq 1 (by decide)))
 exact ⟨h1,h2,h3⟩
theorem Jm.edit {Z:Nat→Nat→Prop} {H':Mem} (J:Jm D A R H pv sv fs Z16 Zq Ts G h0 t0 h t A1 C1) (hf:Fr Z H H') {t':Gt EJ h} {d:Nat} {R' p:List (Int×Int)} (hg':Gt.Good H' D.P h t') (hp:Gt.p h t'=Gt.p h t) (ha:∀b o,Gt.af h t' b o→Gt.af h t b o) (hd:(Gt.L h t).length=(Gt.L h t').length+d)
  (hx1:1≤(Gt.X h t').length) (hx:fs≠[]→D.P.mn≤(Gt.X h t').length) (hZ:∀b o,Z b o→Gt.af h t b o∨(o=1∧b∈Gt.p h0 t0::fs.map Prod.fst)∨(b=D.tr∧o=3))
  (hc:∀q∈Gt.p h0 t0::fs.map Prod.fst,q≠Gt.p h t→∀c:Nat,cl H q 1=some (.int .i64 (c:Int))→cl H' q 1=some (.int .i64 ((c-d:Nat):Int))) (hcnt:cl H' D.tr 3=some (.int .i64 (((A++R).length-d:Nat):Int)))
  (e:A++R'=A1++Gt.L h t'++C1) (hsub:(A++R').Sublist (A++R)) (hlo:∀w∈A1,w∈A) (hhi:∀g∈p,∀c∈C1,OI.lt g c=true)
  (hS:Gt.Seg (Ra OI A (G)) h t→Gt.Seg (Ra OI A (G++p)) h t'):
  ∃t0':Gt EJ h0,RtT H' D.tr D.P (A++R') h0 t0'∧DrB D H' pv sv ((Gt.p h0 t0',0)::fs) Z16 Zq Ts (Gt.af h0 t0')∧Gt.Seg (Ra OI A (G++p)) h0 t0'∧Dn t0' fs t' A1 C1∧∀b o,Gt.af h0 t0' b o→Gt.af h0 t0 b o∧(Gt.af h t b o→Gt.af h t' b o):=by
 have hpt:∀q∈Gt.p h0 t0::fs.map Prod.fst,Gt.af h0 t0 q 1:=fun q hq=>J.dn.pts q hq 1 (by decide)
 have hZ2:∀b o,Z b o→Gt.af h0 t0 b o∨(b=D.tr∧o=3):=fun b o hh=>by
  rcases hZ b o hh with h1|⟨rfl,h1⟩|h1
  · exact .inl (J.dn.sub b o h1)
  · exact .inl (hpt b h1)
  · exact .inr h1
 have htb:=J.T.tc.tb
 obtain ⟨t0',g',dn',p',a',l',x',s'⟩:=Dn.edit hf J.dn J.T.g hg' hp ha hd hx (fun b o hb hh=>by
  rcases hZ b o hh with h1|h1|h1
  · exact .inl h1
  · exact .inr h1
  · have:=J.T.nt b o hb;omega) hc
 have eL:Gt.L h0 t0'=A++R':=by rw [e];exact dn'.L g'
 have hl0:=congrArg List.length J.T.e
 refine ⟨t0',⟨J.T.tc.fr hf (fun b o hb ho hh=>?_),J.T.srt.sublist hsub,?_,g',?_,eL,?_,fun b o hb=>J.T.nt b o (a' b o hb).1⟩,?_,s' _ _ (segE_cut hlo hhi) hS J.seg,dn',a'⟩
 ·
  rcases hZ2 b o hh with h1|⟨rfl,rfl⟩
  · have:=J.T.nt b o h1;omega
  · have:=ho rfl;omega
 ·
  rw [eL] at l'
  rw [hl0] at l'
  rw [hcnt,show (A++R).length-d=(A++R').length by omega]
 ·
  rcases fs with _|⟨f,fs⟩
  ·
   cases dn' with
   | nil=>exact hx1
  · rw [x' (by simp)];exact J.T.x1
 ·
  rw [p']
  exact hf.keep J.T.c fun hh=>(hZ2 _ _ hh).elim (fun h1=>by have:=J.T.nt _ _ h1;omega) (fun h1=>by omega)
 ·
  have:=J.B.step (TA':=Gt.af h0 t0') hf (fun b o hb hh=>by
   rcases hZ2 b o hh with h1|⟨rfl,rfl⟩
   ·
    rcases hb with hb|hb|hb|⟨q,hq,hb⟩
    · exact (J.B.dj b o (.inl h1)).2.1 (.inl hb.1)
    · exact (J.B.dj b o (.inl h1)).2.1 (.inr (.inl hb))
    · exact (J.B.dj b o (.inl h1)).2.1 (.inr (.inr hb))
    · exact J.B.djp b o q hq hb h1
   ·
    have hnb:=J.B.nb
    rcases hb with hb|hb|hb|⟨q,hq,hb⟩
    ·
     rcases hb.1 with h2|h2
     · omega
     · omega
    · have:=(J.B.z16 _ hb).1;omega
    · have:=(J.B.zq _ hb).1;omega
    · have:=(J.B.dj _ _ (.inr ⟨q,hq,hb⟩)).1;omega) (fun b o hb hh=>by
   rcases hZ2 b o hh with h1|⟨rfl,rfl⟩
   · exact .inl ((J.B.dj b o (.inl h1)).2.2.2.elim id (fun h2=>by unfold Dc.n at *;omega))
   · exact .inr (.inl ⟨rfl,.inr rfl⟩)) (J.B.hk.fr hf fun b o hb hh=>by
   rcases hZ2 b o hh with h1|⟨rfl,rfl⟩
   · exact (J.B.dj b o (.inl h1)).2.1 (.inl (.inl (by have:=J.B.nb;omega)))
   · have:=J.B.nb;omega) (fun b o hb=>⟨.inl (a' b o hb).1,g'.lt hb⟩)
  rw [p']
  exact this
end
theorem Jn.cell (J:Jn D A R0 R H pv sv fs Z16 Zq Ts h0 t0 h t A1 C1) {b o:Nat} (hb:Gt.af h t b o):cx.base≤b∧¬(D.own b∨Z16 b∨Zq b)∧b<H.size∧(D.TA0 b o∨D.n≤b):=J.B.dj b o (.inl (J.dn.sub b o hb))
theorem Jn.off5 (J:Jn D A R0 R H pv sv fs Z16 Zq Ts h0 t0 h t A1 C1):∀b o,b=D.hb→¬ncl EJ (Gt.g h t) b o:=fun b o e hn=>by
 have ha:Gt.af h t b o:=by
  rcases h with _|h
  · exact hn
  · exact .inl hn
 have hnb:=J.B.nb
 exact (J.cell ha).2.1 (.inl (.inl (by omega)))
theorem Jn.cu (J:Jn D A R0 R H pv sv fs Z16 Zq Ts h0 t0 h t A1 C1) (hpv:Pv OI A R pv) (hw:Pv OI A1 C1 pv) {m0 m1:Nat} (hm:m1=(A++R).length*(m0+1)+h):Cu2 A R A1 C1 pv (Pl.pos OI pv (Gt.X h t)) (Pl.fnd OI pv (Gt.X h t)) m0 m1 h t:=by
 rcases h with _|h
 ·
  obtain ⟨e1,e2⟩:=cu_leaf (X:=t.2) J.eL J.T.srt hpv hw rfl
  exact ⟨e1,e2,Pl.pos_le OI pv t.2⟩
 ·
  obtain ⟨k,R1,R2,hc,hf⟩:=CuI.find J.good J.eL J.T.srt hpv hw rfl
  exact ⟨k,R1,R2,hc,fun e=>⟨hf e,Pl.fnd_pos_lt OI e⟩,fun _=>⟨hpv,hw,rfl,Nat.le_of_eq hm.symm⟩⟩
theorem Jn.cnt (J:Jn D A R0 R H pv sv fs Z16 Zq Ts h0 t0 h t A1 C1) {Hc:Mem} (hE:Fr (Gt.af h t) H Hc) (hc:cl Hc (Gt.p h t) 1=some (.int .i64 ((Gt.L h t).length:Int))):∀q∈Gt.p h0 t0::fs.map Prod.fst,∃c:Nat,cl Hc q 1=some (.int .i64 (c:Int))∧(Gt.L h t).length≤c∧c≤(A++R).length∧Wr Hc q 0 4:=fun q hq=>by
 obtain ⟨c,h1,h2,h3,h4⟩:=J.dn.cnts J.T.g q hq
 rw [J.T.e] at h3
 by_cases e:q=Gt.p h t
 ·
  refine ⟨_,by rw [e];exact hc,Nat.le_refl _,?_,hE.wr h4⟩
  omega
 · exact ⟨c,hE.keep h1 (J.dn.pt_off J.T.g q hq e 1 (by decide)),h2,h3,hE.wr h4⟩
theorem Jn.pts (J:Jn D A R0 R H pv sv fs Z16 Zq Ts h0 t0 h t A1 C1):∀q∈Gt.p h0 t0::fs.map Prod.fst,cx.base≤q∧¬(D.own q∨Z16 q∨Zq q)∧q<H.size:=fun q hq=>by
 obtain ⟨h1,h2,h3,_⟩:=J.B.dj q 1 (.inl (J.dn.pts q hq 1 (by decide)))
 exact ⟨h1,h2,h3⟩
theorem stI_at {st:List (Nat×Nat)} {k:Nat} {q:Nat×Nat} (h:st[k]?=some q):(stI st)[k]?=some (q.1,((q.2:Nat):Int)):=by unfold stI;rw [List.getElem?_map,h];rfl
theorem Jn.edit {Z:Nat→Nat→Prop} {H':Mem} (J:Jn D A R0 R H pv sv fs Z16 Zq Ts h0 t0 h t A1 C1) (hf:Fr Z H H') {t':Gt EJ h} {d:Nat} {R' p:List (Int×Int)} (hg':Gt.Good H' D.P h t') (hp:Gt.p h t'=Gt.p h t) (ha:∀b o,Gt.af h t' b o→Gt.af h t b o) (hd:(Gt.L h t).length=(Gt.L h t').length+d)
  (hx1:1≤(Gt.X h t').length) (hx:fs≠[]→D.P.mn≤(Gt.X h t').length) (hZ:∀b o,Z b o→Gt.af h t b o∨(o=1∧b∈Gt.p h0 t0::fs.map Prod.fst)∨(b=D.tr∧o=3))
  (hc:∀q∈Gt.p h0 t0::fs.map Prod.fst,q≠Gt.p h t→∀c:Nat,cl H q 1=some (.int .i64 (c:Int))→cl H' q 1=some (.int .i64 ((c-d:Nat):Int))) (hcnt:cl H' D.tr 3=some (.int .i64 (((A++R).length-d:Nat):Int)))
  (e:A++R'=A1++Gt.L h t'++C1) (hsub:(A++R').Sublist (A++R)) (hlo:∀w∈A1,w∈A) (hhi:∀g∈p,∀c∈C1,OI.lt g c=true)
  (hS:Gt.Seg (Ra OI A (flat (Ts.map QT.pc))) h t→Gt.Seg (Ra OI A (flat (Ts.map QT.pc)++p)) h t'):
  ∃t0':Gt EJ h0,RtT H' D.tr D.P (A++R') h0 t0'∧DrB D H' pv sv ((Gt.p h0 t0',0)::fs) Z16 Zq Ts (Gt.af h0 t0')∧Gt.Seg (Ra OI A (flat (Ts.map QT.pc)++p)) h0 t0'∧Dn t0' fs t' A1 C1∧∀b o,Gt.af h0 t0' b o→Gt.af h0 t0 b o∧(Gt.af h t b o→Gt.af h t' b o):=
 J.m.edit hf hg' hp ha hd hx1 hx hZ hc hcnt e hsub hlo hhi hS
theorem DrB.add {TA:Nat→Nat→Prop} {st:List (Nat×Nat)} {ex:Bool} (hLS:∀H Zq Ts,D.LS H Zq Ts=LiS D.dl ex H Zq Ts) (hB:DrB D H pv sv st Z16 Zq Ts TA) (hex:ex=false) (p:QT) (hp:QT.ok H D.P p)
  (ha:∀b o,QT.af p b o→cx.base≤b∧¬(D.own b∨Z16 b∨Zq b)∧b<H.size∧(D.TA0 b o∨D.n≤b)∧¬TA b o) (hb:(QT.pc p).2.length<4611686018427387904):DrB D H pv sv st Z16 Zq (Ts++[p]) TA:=by
 obtain ⟨q,fn,cnt,hL,h1,h2,hon⟩:=(hLS _ _ _▸hB.lst:LiS D.dl ex H Zq Ts)
 exact hB.list (Fr.refl _ _) (by rw [hLS];exact ⟨q,fn,cnt,hL,fun e=>(by rw [hex] at e;cases e),h2,hon⟩) (fun b hb=>⟨.inl hb,(hB.zq b hb).2⟩) hp ha hb
theorem Jn.cut (hPD:PsOk D.P) {g:Ng} {X:List (Int×Int)} {K:List (Gt EJ h)} {i:Nat} {k k2:Gt EJ h} {R1 R2:List (Int×Int)} {x x2:Int×Int} {Hc Hd He:Mem} {pts:List Nat} (J:Jn D A R0 R H pv sv fs Z16 Zq Ts h0 t0 (h+1) ((g,X,K):Gt EJ (h+1)) A1 C1) (hcu:CuI A R A1 C1 ((g,X,K):Gt EJ (h+1)) i k R1 R2)
  (hx:X[i]?=some x) (hk2:K[i+1]?=some k2) (hx2:X[i+1]?=some x2) (hns:∀w,OI.lt w x2=true→D.stop w=false) (hmin:D.P.mn<X.length∨fs=[]) (hI:Inn Hc D.P h g (X.take i++X.drop (i+1)) (((Gt.ps h K).map some).take (i+1)++((Gt.ps h K).map some).drop (i+1+1)) K)
  (hE:Fr (innc h g K) H Hc) (hpts:pts=Gt.p h0 t0::fs.map Prod.fst) (hfc:Fr (fun b o=>o=1∧b∈pts) Hc Hd) (hch:∀q∈pts,∀c:Nat,cl Hc q 1=some (.int .i64 (c:Int))→cl Hd q 1=some (.int .i64 ((c-((Gt.L h k2).length+1):Nat):Int)))
  (W:Wrote Hd He D.tr 3 [.int .i64 (((A++R).length-((Gt.L h k2).length+1):Nat):Int)]):
  ∃(R':List (Int×Int)) (t0':Gt EJ h0) (g':Ng) (K':List (Gt EJ h)),RtT He D.tr D.P (A++R') h0 t0'∧DrB D He pv sv ((Gt.p h0 t0',0)::fs) Z16 Zq Ts (Gt.af h0 t0')∧Gt.Seg (Ra OI A (flat (Ts.map QT.pc)++(x::Gt.L h k2))) h0 t0'∧Dn t0' fs (Gt.nd g' (X.take i++X.drop (i+1)) K') A1 C1∧
   CuI A R' A1 C1 ((g',X.take i++X.drop (i+1),K'):Gt EJ (h+1)) i k R1 R2∧g'.p=g.p∧Dri OI A R' R0 (Ts.map QT.pc++[(x,Gt.L h k2)]) D.stop∧Gt.Good He D.P h k2∧(∀b o,Gt.af h k2 b o→cx.base≤b∧¬(D.own b∨Z16 b∨Zq b)∧b<He.size∧(D.TA0 b o∨D.n≤b)∧¬Gt.af h0 t0' b o)∧
   (A++R).length=(A++R').length+((Gt.L h k2).length+1)∧(∀v,Pv OI A R v→Pv OI A R' v):=by
 have hg:=J.good
 have hKl:K.length=X.length+1:=hg.2.2.2.2.2.1
 have hgc:=hg.cnt
 have hil:=(List.getElem?_eq_some_iff.1 hx).1
 have hil2:=(List.getElem?_eq_some_iff.1 hx2).1
 have hk2K:=List.mem_of_getElem? hk2
 obtain ⟨eR,hcu'⟩:=hcu.cut (g':={ g with cnt:=g.cnt-((Gt.L h k2).length+1) }) hKl hx hk2
 obtain ⟨eL,eL'⟩:=cutN_L (g':={ g with cnt:=g.cnt-((Gt.L h k2).length+1) }) (t:=((g,X,K):Gt EJ (h+1))) hKl hcu.kk hx hk2
 have lenL:=congrArg List.length eL
 have lenL':=congrArg List.length eL'
 simp only [List.length_append,List.length_cons] at lenL lenL'
 have hsz1:=hE.size
 have hsz2:=hfc.size
 have hsz3:=W.size
 have hnt:=J.T.tc.tb
 have hcell:∀b o,innc h g K b o→cx.base≤b∧¬(D.own b∨Z16 b∨Zq b)∧b<H.size∧(D.TA0 b o∨D.n≤b):=fun b o hb=>J.cell hb
 have hsub:(K.take (i+1)++K.drop (i+2)).Sublist K:=by
  conv=>rhs;rw [←List.take_append_drop (i+1) K]
  have h9:K.drop (i+2)=(K.drop (i+1)).drop 1:=by rw [List.drop_drop]
  rw [h9]
  exact List.Sublist.append_left (List.drop_sublist _ _) _
 have hps:((Gt.ps h K).map some).take (i+1)++((Gt.ps h K).map some).drop (i+1+1)=(Gt.ps h (K.take (i+1)++K.drop (i+2))).map some:=by
  simp [Gt.ps,List.map_take,List.map_drop]
 rw [hps] at hI
 have hoff:∀b o,innc h g K b o→¬(b=g.p∧o=1)→¬(o=1∧b∈pts):=fun b o hb hn hz=>by
  obtain ⟨rfl,hm⟩:=hz
  rw [hpts] at hm
  by_cases e:b=Gt.p (h+1) ((g,X,K):Gt EJ (h+1))
  · exact hn ⟨e,rfl⟩
  · exact J.dn.pt_off J.T.g b hm e 1 (by decide) hb
 have hpm:g.p∈pts:=by rw [hpts];exact J.dn.p_mem
 have hI2:=((hI.sub hsub).recount hfc (fun b o hb=>hoff b o (innc_sub (fun m hm=>hsub.subset hm) hb)) (hch g.p hpm g.cnt hI.n.c1)).fr W.fr (fun b o hb=>nr (.inl (fun e=>by have:=(hcell b o (innc_sub (fun m hm=>hsub.subset hm) hb)).1;omega)))
 have lX:(X.take i++X.drop (i+1)).length+1=X.length:=by rw [List.length_append,List.length_take,List.length_drop];omega
 have lK:(K.take (i+1)++K.drop (i+2)).length=(X.take i++X.drop (i+1)).length+1:=by simp only [List.length_append,List.length_take,List.length_drop];omega
 have hgt':Gt.Good He D.P (h+1) (cutN { g with cnt:=g.cnt-((Gt.L h k2).length+1) } ((g,X,K):Gt EJ (h+1)) i):=hI2.good (by
   show g.cnt-_=(Gt.L (h+1) (cutN { g with cnt:=g.cnt-((Gt.L h k2).length+1) } ((g,X,K):Gt EJ (h+1)) i)).length
   have e9:(Gt.g (h+1) ((g,X,K):Gt EJ (h+1))).cnt=g.cnt:=rfl
   omega) (by have:=hg.2.2.2.2.1;have e9:((g,X,K):Gt EJ (h+1)).2.1=X:=rfl;rw [e9] at this;omega) lK
 have haf:∀b o,Gt.af (h+1) (cutN { g with cnt:=g.cnt-((Gt.L h k2).length+1) } ((g,X,K):Gt EJ (h+1)) i) b o→innc h g (K.take (i+1)++K.drop (i+2)) b o:=fun b o hb=>hb
 have eall:A++(R1++(bhd ((g,X,K):Gt EJ (h+1)) (i+1)++C1))=A1++Gt.L (h+1) (cutN { g with cnt:=g.cnt-((Gt.L h k2).length+1) } ((g,X,K):Gt EJ (h+1)) i)++C1:=by
  rw [eL',hcu.a,hcu.l];simp
 have hsubR:(A++(R1++(bhd ((g,X,K):Gt EJ (h+1)) (i+1)++C1))).Sublist (A++R):=by
  rw [eR,List.append_assoc R1]
  exact List.Sublist.append_left (List.Sublist.append_left (List.sublist_append_right _ _) _) _
 have hsrt:=J.T.srt
 have hsL:=J.srtL
 have hst2:=hsL
 rw [eL,Pl.Srt.append,Pl.Srt.append] at hst2
 have hsall:=hsrt
 rw [J.eL,eL] at hsall
 have hx2m:x2∈bhd ((g,X,K):Gt EJ (h+1)) (i+1):=by
  rw [bhd_cons (t:=((g,X,K):Gt EJ (h+1))) hx2 (List.getElem?_eq_getElem (show i+2<K.length by omega))];simp
 have hpC:∀y∈x::Gt.L h k2,∀c∈C1,OI.lt y c=true:=fun y hy c hc=>by
  rw [Pl.Srt.append] at hsall
  exact hsall.2.2 y (by simp only [List.mem_append];exact .inr (.inl (.inr hy))) c hc
 have hpx2:∀y∈x::Gt.L h k2,OI.lt y x2=true:=fun y hy=>hst2.2.2 y (List.mem_append_right _ hy) x2 hx2m
 have hstop:∀w∈Pc.l ((x,Gt.L h k2):Pc (Int×Int)),D.stop w=false:=fun w hw=>hns w (hpx2 w hw)
 have hZf:Fr (fun b o=>innc h g K b o∨(o=1∧b∈pts)∨(b=D.tr∧o=3)) H He:=(hE.trans' hfc (fun _ _ _ h=>.inl h) (fun _ _ _ h=>.inr (.inl h))).trans' W.fr (fun _ _ _ h=>h) (fun b o _ hz=>by
  have h2:=hz.2.1;have h3:=hz.2.2
  simp only [List.length_cons,List.length_nil] at h3
  exact .inr (.inr ⟨hz.1,by omega⟩))
 have htrd:∀o,¬(o=1∧D.tr∈pts):=fun o hz=>by rw [hpts] at hz;have:=(J.pts _ hz.2).1;omega
 obtain ⟨t0',q1,q2,q3,q4,q5⟩:=J.edit hZf (t':=cutN { g with cnt:=g.cnt-((Gt.L h k2).length+1) } ((g,X,K):Gt EJ (h+1)) i) (d:=(Gt.L h k2).length+1) (R':=R1++(bhd ((g,X,K):Gt EJ (h+1)) (i+1)++C1)) (p:=x::Gt.L h k2) hgt' rfl (fun b o hb=>innc_sub (fun m hm=>hsub.subset hm) hb) (by omega)
  (by show 1≤(X.take i++X.drop (i+1)).length;omega) (fun hne=>by show D.P.mn≤(X.take i++X.drop (i+1)).length;have h9:=hmin.resolve_right hne;omega)
  (fun b o hz=>by
   rcases hz with hz|hz|hz
   · exact .inl hz
   · exact .inr (.inl (by rw [←hpts];exact hz))
   · exact .inr (.inr hz)) (fun q hq hne c hc=>by
   rw [←hpts] at hq
   have h1:=hE.keep hc (fun hz=>hoff q 1 hz (fun e=>hne e.1) ⟨rfl,hq⟩)
   exact W.fr.keep (hch q hq c h1) (nr (.inl (fun e=>htrd 1 ⟨rfl,e▸hq⟩)))) W.at eall hsubR (fun w hw=>by rw [hcu.a];simp [hw]) hpC
  (seg_cutN hg hsL hcu.kk hx hk2 (fun w hw=>by rw [hcu.a];simp [hw]))
 have hxA:x ∉ A:=fun hm=>by
  rw [eR,Pl.Srt.append] at hsrt
  have:=hsrt.2.2 x hm x (by simp)
  rw [OI.irr] at this;cases this
 have hseg:=(J.dn.seg J.seg).1 i x (Gt.L h k2) hx (by show (K.map (Gt.L h))[i+1]?=_;rw [List.getElem?_map,hk2];rfl)
 have hdri:=J.dri
 rw [eR] at hdri
 have hgk2:Gt.Good Hc D.P h k2:=(hI.c.1 k2 hk2K).1
 have hko:∀b o,Gt.af h k2 b o→¬innc h g (K.take (i+1)++K.drop (i+2)) b o:=kid_off (i:=i+1) hg.inn hk2
 have hk2in:∀b o,Gt.af h k2 b o→innc h g K b o:=fun b o hb=>.inr (.inr ⟨k2,hk2K,hb⟩)
 refine ⟨_,t0',_,_,q1,q2,q3,q4,hcu',rfl,hdri.cut OI (hseg.qg hxA) hstop,(hgk2.fr hfc (fun b o hb=>hoff b o (hk2in b o hb) (fun e=>(hg.2.2.2.2.2.2.1 k2 hk2K).2.2 b o hb |>.1 (.inl ⟨e.1,by omega⟩)))).fr W.fr (fun b o hb=>nr (.inl (fun e=>by have:=(hcell b o (hk2in b o hb)).1;omega))),fun b o hb=>?_,?_,fun v hv=>?_⟩
 ·
  obtain ⟨h1,h2,h3,h4⟩:=hcell b o (hk2in b o hb)
  exact ⟨h1,h2,by omega,h4,fun hc=>hko b o hb (haf b o ((q5 b o hc).2 (hk2in b o hb)))⟩
 · rw [eR];simp only [List.length_append,List.length_cons];omega
 ·
  rw [eR] at hv
  exact hv.cut OI
theorem drt_del {st:List (Nat×Nat)} {R':List (Int×Int)} {x:Int×Int} {H':Mem} (hdri:Dri OI A (x::R') R0 (Ts.map QT.pc) D.stop) (hst:D.stop x=false) (T:RtT H D.tr D.P (A++x::R') h0 t0) (B:DrB D H pv sv st Z16 Zq (Ts++[(x,none)]) (Gt.af h0 t0)) (hS:Gt.Seg (Ra OI A (flat (Ts.map QT.pc))) h0 t0)
  (hq:RtQ H H' D.tr D.P x h0 t0 (Pl.del OI x (A++x::R'))) (hk:HintOk H' (.pointer (some ⟨D.hb,0,none⟩)) (fun b=>b=D.hb)) (hF:Fr (fun b o=>Gt.af h0 t0 b o∨(b=D.tr∧(o=2∨o=3))∨b=D.hb) H H'):
  Dri OI A R' R0 ((Ts++[((x,none):QT)]).map QT.pc) D.stop∧DrT D A R' H' pv sv st Z16 Zq (Ts++[(x,none)]):=by
 have hmap:(Ts++[((x,none):QT)]).map QT.pc=Ts.map QT.pc++[(x,[])]:=by rw [List.map_append];rfl
 have hfl:flat (Ts.map QT.pc++[(x,[])])=flat (Ts.map QT.pc)++[x]:=by rw [flat_app,flat_one];rfl
 rw [(del_next T.srt).1] at hq
 have hBs:∀TA',(∀b o,TA' b o→(Gt.af h0 t0 b o∨H.size≤b)∧b<H'.size)→DrB D H' pv sv st Z16 Zq (Ts++[(x,none)]) TA':=fun TA' ht=>B.step hF (fun b o hb hh=>by
  have hnb:=B.nb
  rcases hh with hh|hh|hh
  ·
   rcases hb with hb|hb|hb|⟨q,hq,hb⟩
   · exact (B.dj b o (.inl hh)).2.1 (.inl hb.1)
   · exact (B.dj b o (.inl hh)).2.1 (.inr (.inl hb))
   · exact (B.dj b o (.inl hh)).2.1 (.inr (.inr hb))
   · exact B.djp b o q hq hb hh
  ·
   rcases hb with hb|hb|hb|⟨q,hq,hb⟩
   ·
    rcases hb.1 with h2|h2
    · omega
    · omega
   · have:=(B.z16 _ hb).1;omega
   · have:=(B.zq _ hb).1;omega
   · have:=(B.dj _ _ (.inr ⟨q,hq,hb⟩)).1;omega
  ·
   rcases hb with hb|hb|hb|⟨q,hq,hb⟩
   · exact hb.2 hh
   · have:=(B.z16 _ hb).1;omega
   · have:=(B.zq _ hb).1;omega
   · exact (B.dj _ _ (.inr ⟨q,hq,hb⟩)).2.1 (.inl (.inl (by omega)))) (fun b o hb hh=>by
  have hnb:=B.nb
  rcases hh with hh|hh|hh
  · exact .inl ((B.dj b o (.inl hh)).2.2.2.elim id (fun h2=>by unfold Dc.n at *;omega))
  · exact .inr (.inl hh)
  · omega) hk ht
 refine ⟨?_,?_⟩
 ·
  rw [hmap]
  have h1:Dri OI A ([]++Pc.l ((x,[]):Pc (Int×Int))++R') R0 (Ts.map QT.pc) D.stop:=hdri
  exact h1.cut OI Qg.one (fun w hw=>by
   have:w=x:=by simpa [Pc.l] using hw
   subst this;exact hst)
 ·
  rcases hq with ⟨h1,h2⟩|⟨h',t',T',ha,hS'⟩
  · exact .inl ⟨h1,h2,hBs _ fun _ _ h=>h.elim⟩
  ·
   refine .inr ⟨h',t',T',hBs _ (fun b o hb=>⟨ha b o hb,T'.g.lt hb⟩),?_⟩
   rw [hmap,hfl]
   exact seg_del' T'.g T'.e T.srt (hS' _ (Qg.inf OI _) (seg_del T.g T.e T.srt hS))
theorem stop_all {x:Int×Int} {R':List (Int×Int)} (hs:Pl.Srt OI (A++x::R')) (hst:D.stop x=true):∀y∈x::R',D.stop y=true:=fun y hy=>by
 rw [Pl.Srt.append,Pl.Srt.cons] at hs
 rcases List.mem_cons.1 hy with rfl|hy
 · exact hst
 · exact D.mono x y (hs.2.1.1 y hy) hst
theorem DrT.clr {st:List (Nat×Nat)} {sv':Value} (h:DrT D A R H pv sv st Z16 Zq Ts) (ha:Acc EK Z16 H sv' (stI [])):DrT D A R H pv sv' [] Z16 Zq Ts:=by
 rcases h with ⟨h1,h2,h3⟩|⟨h0,t0,h1,h2,h3⟩
 · exact .inl ⟨h1,h2,h3.stack (Fr.refl _ _) ha fun b hb=>⟨.inl hb,(h3.z16 b hb).2⟩⟩
 · exact .inr ⟨h0,t0,h1,h2.stack (Fr.refl _ _) ha fun b hb=>⟨.inl hb,(h2.z16 b hb).2⟩,h3⟩
@[reducible] def lfN (g:Ng) (X:List (Int×Int)):Gt EJ 0:=(g,X)
theorem Jm.cutL {G:List (Int×Int)} (hPD:PsOk D.P) {g:Ng} {X:List (Int×Int)} {i d:Nat} {Hc Hd He:Mem} {pts:List Nat} (J:Jm D A R H pv sv fs Z16 Zq Ts G h0 t0 0 (lfN g X) A1 C1) (hA:A=A1++X.take i) (hR:R=X.drop i++C1) (hid:i+d≤X.length) (hmin:D.P.mn≤X.length-d)
  (hN:NodeM EJ Hc g (X.take i++X.drop (i+d)) (.pointer none)) (hE:Fr (ncl EJ g) H Hc) (hpts:pts=Gt.p h0 t0::fs.map Prod.fst) (hfc:Fr (fun b o=>o=1∧b∈pts) Hc Hd) (hch:∀q∈pts,∀c:Nat,cl Hc q 1=some (.int .i64 (c:Int))→cl Hd q 1=some (.int .i64 ((c-d:Nat):Int)))
  (W:Wrote Hd He D.tr 3 [.int .i64 (((A++R).length-d:Nat):Int)]):
  ∃(R':List (Int×Int)) (t0':Gt EJ h0) (g':Ng),RtT He D.tr D.P (A++R') h0 t0'∧DrB D He pv sv ((Gt.p h0 t0',0)::fs) Z16 Zq Ts (Gt.af h0 t0')∧Gt.Seg (Ra OI A (G++(X.drop i).take d)) h0 t0'∧Dn t0' fs (lfN g' (X.take i++X.drop (i+d))) A1 C1∧g'.p=g.p∧
   A=A1++(X.take i++X.drop (i+d)).take i∧R'=(X.take i++X.drop (i+d)).drop i++C1∧R=(X.drop i).take d++R'∧(A++R).length=(A++R').length+d:=by
 have hg:=J.good
 have hgc:=hg.cnt
 have e0:(Gt.g 0 (lfN g X)).cnt=g.cnt:=rfl
 have e1:Gt.L 0 (lfN g X)=X:=rfl
 have hsz1:=hE.size
 have hsz2:=hfc.size
 have hsz3:=W.size
 have hnt:=J.T.tc.tb
 have hmn1:=hPD.h1
 rw [e0,e1] at hgc
 have hcell:∀b o,ncl EJ g b o→cx.base≤b:=fun b o hb=>(J.cell (show Gt.af 0 (lfN g X) b o from hb)).1
 have hoff:∀b o,ncl EJ g b o→¬(b=g.p∧o=1)→¬(o=1∧b∈pts):=fun b o hb hn hz=>by
  obtain ⟨rfl,hm⟩:=hz
  rw [hpts] at hm
  by_cases e:b=Gt.p 0 (lfN g X)
  · exact hn ⟨e,rfl⟩
  · exact J.dn.pt_off J.T.g b hm e 1 (by decide) hb
 have hpm:g.p∈pts:=by rw [hpts];exact J.dn.p_mem
 have lX:(X.take i++X.drop (i+d)).length+d=X.length:=by rw [List.length_append,List.length_take,List.length_drop];omega
 have hlT:(X.take i).length=i:=by rw [List.length_take];omega
 have hN2:=NodeM.fr EJ (NodeM.recount hN hfc hoff (hch g.p hpm g.cnt hN.c1)) W.fr (fun b o hb=>nr (.inl (fun e=>by have:=hcell b o hb;omega)))
 have hgt':Gt.Good He D.P 0 (lfN { g with cnt:=g.cnt-d } (X.take i++X.drop (i+d))):=⟨hN2,hg.2.1,(show g.cnt-d=(X.take i++X.drop (i+d)).length by omega),(show (X.take i++X.drop (i+d)).length≤D.P.mx by have h9:X.length≤D.P.mx:=hg.2.2.2;omega)⟩
 have hdd:(X.drop i).drop d=X.drop (i+d):=by rw [List.drop_drop]
 have eR:R=(X.drop i).take d++(X.drop (i+d)++C1):=by
  rw [hR,←hdd,←List.append_assoc,List.take_append_drop]
 have eX:X=X.take i++(X.drop i).take d++X.drop (i+d):=by
  rw [←hdd,List.append_assoc,List.take_append_drop,List.take_append_drop]
 have hsrt:=J.T.srt
 have hsX:=J.eL
 have hsall:=hsrt
 rw [hsX,e1,Pl.Srt.append] at hsall
 have hZf:Fr (fun b o=>ncl EJ g b o∨(o=1∧b∈pts)∨(b=D.tr∧o=3)) H He:=(hE.trans' hfc (fun _ _ _ h=>.inl h) (fun _ _ _ h=>.inr (.inl h))).trans' W.fr (fun _ _ _ h=>h) (fun b o _ hz=>by
  have h2:=hz.2.1;have h3:=hz.2.2
  simp only [List.length_cons,List.length_nil] at h3
  exact .inr (.inr ⟨hz.1,by omega⟩))
 have htrd:∀o,¬(o=1∧D.tr∈pts):=fun o hz=>by rw [hpts] at hz;have:=(J.pts _ hz.2).1;omega
 have hml:∀w∈(X.drop i).take d,w∈X:=fun w hw=>List.mem_of_mem_drop (List.mem_of_mem_take hw)
 obtain ⟨t0',q1,q2,q3,q4,q5⟩:=J.edit hZf (t':=lfN { g with cnt:=g.cnt-d } (X.take i++X.drop (i+d))) (d:=d) (R':=X.drop (i+d)++C1) (p:=(X.drop i).take d) hgt' rfl (fun b o hb=>hb) (show X.length=(X.take i++X.drop (i+d)).length+d by omega)
  (show 1≤(X.take i++X.drop (i+d)).length by omega) (fun hne=>(show D.P.mn≤(X.take i++X.drop (i+d)).length by omega))
  (fun b o hz=>by
   rcases hz with hz|hz|hz
   · exact .inl hz
   · exact .inr (.inl (by rw [←hpts];exact hz))
   · exact .inr (.inr hz)) (fun q hq hne c hc=>by
   rw [←hpts] at hq
   have h1:=hE.keep hc (fun hz=>hoff q 1 hz (fun e=>hne e.1) ⟨rfl,hq⟩)
   exact W.fr.keep (hch q hq c h1) (nr (.inl (fun e=>htrd 1 ⟨rfl,e▸hq⟩)))) W.at
  (by show A++_=A1++(X.take i++X.drop (i+d))++C1;rw [hA];simp) (by rw [eR];exact List.Sublist.append_left (List.sublist_append_right _ _) _) (fun w hw=>by rw [hA];simp [hw])
  (fun y hy c hc=>hsall.2.2 y (List.mem_append_right _ (hml y hy)) c hc) (fun _=>trivial)
 have hl2:((X.drop i).take d).length=d:=by rw [List.length_take,List.length_drop];omega
 refine ⟨_,t0',_,q1,q2,q3,q4,rfl,?_,?_,eR,?_⟩
 · rw [List.take_append_of_le_length (by omega),List.take_of_length_le (l:=X.take i) (by omega)];exact hA
 · rw [List.drop_append_of_le_length (by omega),List.drop_of_length_le (l:=X.take i) (by omega),List.nil_append]
 · rw [eR];simp only [List.length_append,hl2];omega
end
end
end Go.Bt.FG
