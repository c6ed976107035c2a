/- Contracts of functions of the program, proved by walking through their code. Conditions: those that each theorem names. -/
import Derived.Test.YtmboghgpakhceaaToiU
import Derived.Test.YtmboghgpakhceaaTogD
import Derived.Test.YtmboghgpakhceaaTogH
import Derived.Test.YtmboghgpakhceaaToKi
import Derived.Test.YtmboghgpakhceaaToiA
import Derived.Test.YtmboghgpakhceaaToiG
set_option linter.unusedVariables false
namespace Go.Bt.FG
open Go Go.Proofs Go.Proofs.Try
set_option maxRecDepth 20000
set_option maxHeartbeats 4000000
set_option linter.unusedSectionVars false
section
variable [Inhabited Cx]
theorem nodeP {H:Mem} {P:Ps}:∀{h:Nat} {t:Gt EJ h},Gt.Good H P h t→∃kp:Option Addr,NodeM EJ H (Gt.g h t) (Gt.X h t) (.pointer kp)
 | 0,(g,X),hg=>⟨none,hg.1⟩
 | h+1,(g,X,K),hg=>⟨some ⟨g.cb,0,none⟩,hg.1⟩
theorem ncl_af:∀{h:Nat} {t:Gt EJ h} {b o:Nat},ncl EJ (Gt.g h t) b o→Gt.af h t b o
 | 0,(_,_),_,_,h=>h
 | _+1,(_,_,_),_,_,h=>.inl h
def ItPH (H H':Mem) (it tr:Nat) (mt:Bool) (Z:Nat→Prop) (r:Option ((h:Nat)×Gt EJ h)) (l:List (Int×Int)) (hv:Value) (hz:Nat→Prop) (st:Option Nat):Prop:=
 HintOk H' hv hz∧∃sk ast ae Z' fr kv,Itr EJ H H' it tr mt (fun b=>Z b∨hz b) sk ast ae Z' fr kv∧StI r l sk fr kv st∧∀b,Z' b→Z b∨H.size≤b
theorem ItPH.rebase {H H1 H':Mem} {it tr:Nat} {mt:Bool} {Z:Nat→Prop} {r:Option ((h:Nat)×Gt EJ h)} {l:List (Int×Int)} {hv:Value} {hz:Nat→Prop} {st:Option Nat} (hf:Fr nowhere H H1) (h:ItPH H1 H' it tr mt Z r l hv hz st):ItPH H H' it tr mt Z r l hv hz st:=by
 obtain ⟨hk,sk,ast,ae,Z',fr,kv,hI,hs,hZ⟩:=h
 have:=hf.size
 exact ⟨hk,sk,ast,ae,Z',fr,kv,{ hI with f:=hf.trans' hI.f (fun _ _ _ h=>h.elim) (fun _ _ _ h=>h),zz:=fun b hb=>(hI.zz b hb).imp id (fun h=>by omega) },hs,fun b hb=>(hZ b hb).imp id (fun h=>by omega)⟩
theorem iseek_spec {B:World} {H:Mem} {it tr:Nat} {mt sk sa se:Bool} {Z:Nat→Prop} {fr:List (Nat×Int)} {kv:Int×Int} {P:Ps} {S:Nat→Prop} {l:List (Int×Int)} {r:Option ((h:Nat)×Gt EJ h)} (hP:PsOk P) (hI:Itr EJ H H it tr mt Z sk sa se Z fr kv) (hT:TreeR H tr P S l r) (hsi:¬S it) (hsz:∀b,S b→¬Z b) (hsrt:Pl.Srt OI l) (x:Int×Int) {hv:Value} {hz:Nat→Prop} (hk:HintOk H hv hz) (hzS:∀b,hz b→¬S b) (hzi:¬hz it) (hzZ:∀b,Z b→¬hz b):
  Fn Try.prog B 192 [.pointer (some ⟨it,0,none⟩),.agg (EJ.enc x).toArray,hv] H (fun v H'=>v=.bool (decide (Pl.pos OI x l<l.length))∧ItPH H H' it tr mt Z r l hv hz (if Pl.pos OI x l<l.length then some (Pl.pos OI x l) else none)):=by
 refine fn_of func192 rfl ntmps192 ?_
 refine (show Go' _ _ _ _ 124 [(0,_),(1,_),(2,_)] [.code _] _ from ?_)
 refine Ut 1 rfl (Ur 2 2 rfl (O.box rfl rfl rfl rfl ?_))
 intro H0 M0
 refine ⟨trivial,?_⟩
 have hkb:H.size≠it:=fun e=>by have:=cl_lt hI.c0;omega
 have hkZ:¬Z H.size:=fun h=>by have:=hI.zl _ h;omega
 have hkz:¬hz H.size:=fun h=>by have:=(hk.base _ h).2;omega
 replace hI:=hI.box (M0.fr nowhere)
 replace hk:=hk.fr (M0.fr nowhere) (fun _ _ _=>nw)
 replace hT:=hT.keep (M0.fr nowhere) (fun _ _ _=>nw)
 have mk:Rd H0 H.size 0 (EJ.enc x):=M0.rd _ [] (by simp [Value.cells])
 have hR0:=M0.fr nowhere
 refine Uf 1 [0,2,4,6] rfl (Ut 2 rfl (Go'.mono (Q:=(fun v H'=>v=.bool (decide (Pl.pos OI x l<l.length))∧ItPH H0 H' it tr mt Z r l hv hz (if Pl.pos OI x l<l.length then some (Pl.pos OI x l) else none))) (fun v H' hq=>⟨hq.1,hq.2.rebase hR0⟩) ?_))
 generalize H.size=kb at*
 clear hR0 M0
 clear H
 rename Mem=>H
 have hx255:=hP.hx
 have hK:∀H',Fr (fun b _=>b=it∨(Z b∨hz b)) H H'→TreeR H' tr P S l r:=fun H' hf=>hT.keep hf fun b o hs h=>h.elim (fun e=>hsi (e▸hs)) (fun h=>h.elim (hsz b hs) (fun h=>hzS b h hs))
 have hll:=hT.ll
 have hzl:∀b,hz b→b<H.size:=fun b hb=>(hk.base b hb).2
 replace hI:Itr EJ H H it tr mt (fun b=>Z b∨hz b) sk sa se Z fr kv:={ hI with f:=Fr.refl _ _,zz:=fun b hb=>.inl (.inl hb) }
 refine Ur 5 64 rfl (Ul 3 rfl hI.c0 (O.isNil rfl rfl rfl rfl underlying86 rfl rfl (Uf 0 [0,2,4,6,15] rfl (Go'.condF rfl (Ut 2 rfl (Ur 4 128 rfl (Uq 3 rfl (O.st rfl rfl sizeOf4 rfl rfl rfl rfl rfl (hI.w 3 (by decide)) ?_))))))))
 intro Hc Wc
 replace hI:=hI.set2 Wc
 replace hk:=hk.fr Wc.fr (fun b o hb=>nr (.inl (fun e=>hzi (e▸hb))))
 have hsv0:=hI.st
 obtain ⟨sv,hsv,hA⟩:=hsv0
 refine ⟨trivial,?_⟩
 refine Uf 0 [0,2,4,6] rfl (Ut 1 rfl (Ur 9 131328 rfl (Ul 4 rfl hsv (O.slcA (F:=EK) (j:=0) rfl rfl rfl rfl underlying133 sizeOf131 rfl hA ⟨_,by rfl⟩ (Nat.zero_le _) ?_))))
 intro v1 hA1
 obtain ⟨a1,m1,c1,rfl⟩:=hA1.form
 refine Uq 2 rfl (O.st rfl rfl sizeOf133 rfl rfl rfl rfl rfl (hI.w 14 (by decide)) ?_)
 intro Hd Wd
 replace hI:=hI.set5 (fr':=[]) (by rw [List.take_zero] at hA1;exact hA1) Wd
 replace hk:=hk.fr Wd.fr (fun b o hb=>nr (.inl (fun e=>hzi (e▸hb))))
 refine ⟨trivial,?_⟩
 refine Uf 0 [0,2,4,6] rfl (Ut 2 rfl ?_)
 have hR:=hK _ hI.f
 rcases r with _|⟨h0,t0⟩
 ·
  obtain ⟨rfl,hroot⟩:=hR.rt
  refine Ur 8 4160 rfl (Ul 3 rfl hI.c0 (Ul 2 rfl hroot (O.isNil rfl rfl rfl rfl underlying129 rfl rfl (Uf 0 [0,2,4,6,34] rfl (Go'.condT rfl (Ut 1 rfl (Ur 1 0 rfl (Uf 1 [0,2,4,6] rfl (Go'.ret (vs:=[_]) func192 results192 ⟨rfl,trivial⟩ ?_)))))))))
  exact ⟨rfl,hk,_,_,_,_,_,_,hI,rfl,fun b hb=>.inl hb⟩
 ·
  obtain ⟨hg,hx,hl,hroot,haf⟩:=hR.rt
  have hptr:cl _ tr 2=some (.pointer (some ⟨Gt.p h0 t0,0,none⟩)):=hroot
  obtain ⟨kp,hN⟩:=hg.node
  have hn0:=hN.c0
  rw [hg.isoe] at hn0
  refine Ur 8 4160 rfl (Ul 3 rfl hI.c0 (Ul 2 rfl hptr (O.isNil rfl rfl rfl rfl underlying129 rfl rfl (Uf 0 [0,2,4,6,34] rfl (Go'.condF rfl (Ut 2 rfl (Ud 16 603996224 (by kernel_rfl) (Ul 3 rfl hI.c0 (Ul 3 rfl hI.c0 (Ul 5 rfl hI.c1 (O.callQ rfl rfl rfl call130 rfl (isoLoad_spec mt hroot hn0 hR.iso) trivial ?_)))))))))))
  refine Uf 1 [0,2,4,6,7] rfl (Ut 1 rfl ?_)
  unfold ptr
  have hC:=Ctx.root t0
  have hQ:Pl.Srt OI (Gt.L h0 t0)∧Pl.pos OI x l=0+Pl.pos OI x (Gt.L h0 t0):=by rw [hl,Nat.zero_add];exact ⟨hsrt,rfl⟩
  clear hR hg hx hl hroot haf hptr hN hn0
  refine Ur 1 0 rfl (Uf 1 [0,2,4,6,7,8] rfl (Ut 1 rfl (Go'.loop (Uk [0,2,4,6,7,8] rfl ?_))))
  refine Go'.ind (σ:=((h:Nat)×Gt EJ h)×List (Nat×Int)×(Nat→Prop)) (fun s=>s.1.1) (fun s H'=>Itr EJ H H' it tr mt (fun b=>Z b∨hz b) true sa se s.2.2 s.2.1 kv∧HintOk H' hv hz∧(∀b,s.2.2 b→Z b∨H.size≤b)∧∃a,Ctx t0 s.2.1 s.1.1 s.1.2 a∧Pl.Srt OI (Gt.L s.1.1 s.1.2)∧Pl.pos OI x l=a+Pl.pos OI x (Gt.L s.1.1 s.1.2))
   (fun s=>[(0,.pointer (some ⟨it,0,none⟩)),(2,hv),(4,.pointer (some ⟨kb,0,none⟩)),(6,.bool false),(7,.pointer (some ⟨Gt.p s.1.1 s.1.2,0,none⟩)),(8,.int .i64 (s.2.1.length:Int))]) (⟨_,_⟩,_,_) ⟨hI,hk,fun b hb=>.inl hb,_,hC,hQ⟩ rfl ?_
  clear hI hC hQ hk
  rintro ⟨⟨h1,s1⟩,fs1,Z1⟩ H1 ⟨hI,hk,hZn,a,hC,hs,hQ⟩ ih
  simp only at hI hC ih hZn
  replace hs:Pl.Srt OI (Gt.L h1 s1):=hs
  replace hQ:Pl.pos OI x l=a+Pl.pos OI x (Gt.L h1 s1):=hQ
  have hz1:∀b,Z1 b→¬hz b:=fun b hb hb2=>(hZn b hb).elim (fun h=>hzZ b h hb2) (fun h=>by have:=hzl b hb2;omega)
  have mk1:=hI.f.rd mk (fun _ _ h=>h.elim hkb (fun h=>h.elim hkZ hkz))
  have hR:=hK _ hI.f
  obtain ⟨hg,hx,hl,hroot,haf⟩:=hR.rt
  obtain ⟨hgd,hx1,hfl,haf1⟩:=Ctx.good hR.mn hg hx hC
  have hhi:=Gt.high hR.mn hg hx
  rw [hl] at hhi
  obtain ⟨kp,hN⟩:=nodeP hgd
  have hxm:=hgd.xmx
  have hsX:Pl.Srt OI (Gt.X h1 s1):=by
   rcases h1 with _|h1
   · exact hs
   ·
    obtain ⟨g,X,K⟩:=s1
    have hKl:K.length=X.length+1:=hgd.2.2.2.2.2.1
    have hs':Pl.Srt OI (Pl.inter X (K.map (Gt.L h1))):=hs
    have hle:X.length<(K.map (Gt.L h1)).length:=by rw [List.length_map,hKl];exact Nat.lt_succ_self _
    exact hs'.sublist (Pl.sublist_inter X _ hle)
  have hple:=Pl.pos_le OI x (Gt.X h1 s1)
  have hplt:Pl.fnd OI x (Gt.X h1 s1)=true→Pl.pos OI x (Gt.X h1 s1)<(Gt.X h1 s1).length:=Pl.fnd_pos_lt OI
  have hoff:∀b o,hz b→¬ncl EJ (Gt.g h1 s1) b o:=fun b o hb hn=>hzS b hb (haf b o (haf1 b o (ncl_af hn)))
  refine (show Go' _ _ _ _ _ [(0,.pointer (some ⟨it,0,none⟩)),(2,hv),(4,.pointer (some ⟨kb,0,none⟩)),(6,.bool false),(7,.pointer (some ⟨Gt.p h1 s1,0,none⟩)),(8,.int .i64 (fs1.length:Int))] _ _ from ?_)
  refine Ut 2 rfl (Ud 14 132160 (by kernel_rfl) (Ul 3 rfl hI.c0 (Us 1 rfl mk1 rfl (Uq 2 rfl (O.call rfl rfl rfl call131 rfl (find_spec hR.tc x hN hsX (by omega) hx1 hk hoff (by omega)) ?_)))))
  rintro _ H2 ⟨rfl,hFf,hkf⟩
  replace hI:=hI.frH hFf (fun b h=>.inl (.inr h)) hzi hz1
  clear hk mk1
  have hk:=hkf
  clear hkf
  refine ⟨trivial,?_⟩
  refine Uf 5 [0,2,4,6,7,8,9,10] rfl (Ut 1 rfl ?_)
  have hfs9:fs1.length≤4294967296:=by omega
  clear hR hg hx hl hroot haf hgd hx1 hfl haf1 hN kp hhi hoff
  have hsv0:=hI.st
  obtain ⟨sv,hsv,hA⟩:=hsv0
  have hsz2:=hI.f.size
  refine Ur 13 34210048 rfl (Ul 4 rfl hsv (Uq 2 rfl (O.bld (cs:=(EK.enc (Gt.p h1 s1,(((Pl.pos OI x (Gt.X h1 s1):Nat):Int):Int)))) rfl rfl rfl rfl (st131) rfl (by kernel_rfl) (O.bsl (cs:=(EK.enc (Gt.p h1 s1,(((Pl.pos OI x (Gt.X h1 s1):Nat):Int):Int)))) rfl rfl rfl ⟨underlying133,sizeOf131,zeroValue131,⟨_,typeInfo131,rfl⟩,rfl,by decide,by decide⟩ rfl (by decide) (by kernel_rfl) ?_))))
  intro H3 M3
  have hs3:=M3.size
  have hA3:=hA.fr (M3.fr nowhere) (fun _ _ _ _=>nw)
  have m3:Rd H3 H2.size 0 (row EK [(Gt.p h1 s1,(((Pl.pos OI x (Gt.X h1 s1):Nat):Int):Int))]):=M3.rd _ [] (by simp [row,EK])
  refine ⟨trivial,?_⟩
  refine O.appA (E:=EK) (Y:=[(Gt.p h1 s1,(((Pl.pos OI x (Gt.X h1 s1):Nat):Int):Int))]) rfl rfl rfl ⟨underlying133,sizeOf131,zeroValue131,⟨_,typeInfo131,rfl⟩,rfl,by decide,by decide⟩ rfl hA3 rfl ⟨_,_,_,rfl,m3⟩ (Nat.succ_pos _) (Nat.le_trans (Nat.mul_le_mul_left _ (Nat.le_of_ble_eq_true (n:=_) (m:=4096) rfl)) (by rw [List.length_reverse];simp only [List.length_singleton];omega)) (by rw [List.length_reverse];simp only [List.length_singleton];omega) ?_
  intro v4 H4 hA4 hF4 hs4
  obtain ⟨a4,m4,c4,rfl⟩:=hA4.form
  have hw4:Wr H4 it 14 1:=hF4.wr ((M3.fr nowhere).wr (hI.w 14 (by decide)))
  refine ⟨trivial,?_⟩
  refine Uq 2 rfl (O.st rfl rfl sizeOf133 rfl rfl rfl rfl rfl hw4 ?_)
  intro H5 W5
  replace hI:=hI.push (M3.fr nowhere) hF4 hA4 W5
  refine ⟨trivial,?_⟩
  refine Uf 0 [0,2,4,6,7,8,9,10] rfl (Ut 2 rfl ?_)
  replace hk:=((hk.fr (M3.fr nowhere) (fun _ _ _=>nw)).fr hF4 (fun b o hb h=>hz1 b h hb)).fr W5.fr (fun b o hb=>nr (.inl (fun e=>hzi (e▸hb))))
  have hZn5:∀b,(Z1 b∨(b=H3.size∧b<H4.size))→Z b∨H.size≤b:=fun b hb=>hb.elim (hZn b) (fun h=>.inr (by omega))
  have hR:=hK _ hI.f
  obtain ⟨hg,hx,hl,hroot,haf⟩:=hR.rt
  obtain ⟨hgd,hx1,hfl,haf1⟩:=Ctx.good hR.mn hg hx hC
  obtain ⟨kp,hN⟩:=hgd.node
  have hhi:=Gt.high hR.mn hg hx
  rw [hl] at hhi
  cases hfd:Pl.fnd OI x (Gt.X h1 s1)
  rotate_left
  ·
   refine Ur 1 0 rfl (Uf 1 [0,2,4,6,7,8,9,10,74] rfl (Go'.condT rfl (Ut 1 rfl ?_)))
   have hlt:=hplt hfd
   obtain ⟨y,hy⟩:∃y,(Gt.X h1 s1)[Pl.pos OI x (Gt.X h1 s1)]?=some y:=⟨_,List.getElem?_eq_getElem hlt⟩
   have hS:Stand t0 ((Gt.p h1 s1,((Pl.pos OI x (Gt.X h1 s1):Nat):Int))::fs1) (Pl.pos OI x l)∧l[Pl.pos OI x l]?=some y:=by
    rcases h1 with _|h1
    ·
     obtain ⟨g,X⟩:=s1
     refine ⟨.inl ⟨fs1,g,X,a,_,rfl,hC,hlt,hQ⟩,?_⟩
     have:=Ctx.item0 hR.mn hg hx hC hy
     rw [hl] at this
     rw [hQ];exact this
    ·
     obtain ⟨g,X,K⟩:=s1
     have hKl:K.length=X.length+1:=hgd.2.2.2.2.2.1
     have hlt':Pl.pos OI x X<X.length:=hlt
     obtain ⟨k0,hk0⟩:∃k,K[Pl.pos OI x X]?=some k:=⟨_,List.getElem?_eq_getElem (by omega)⟩
     have hkL:(K.map (Gt.L h1))[Pl.pos OI x X]?=some (Gt.L h1 k0):=by rw [List.getElem?_map,hk0];rfl
     have hrk:Pl.pos OI x (Pl.inter X (K.map (Gt.L h1)))=Pl.bl (K.map (Gt.L h1)) (Pl.pos OI x X)+(Gt.L h1 k0).length:=Pl.inter_rank_found hs (by rw [List.length_map];exact hKl) hfd hkL
     have hQ':Pl.pos OI x l=a+Pl.pos OI x (Pl.inter X (K.map (Gt.L h1))):=hQ
     rw [hrk] at hQ'
     refine ⟨.inr ⟨fs1,h1,g,X,K,a,Pl.pos OI x X,rfl,hC,hlt',by rw [Pl.bl_succ hkL];omega⟩,?_⟩
     have:=Ctx.item1 hR.mn hg hx hC hkL hy
     rw [hl] at this
     rw [hQ'];exact this
   obtain ⟨hS,hq⟩:=hS
   refine Ur 11 2113792 rfl (Ul 4 rfl hN.c2 (Ux 1 (Pl.pos OI x (Gt.X h1 s1)) rfl (by omega) hlt (Us 0 rfl (hN.sl.item hy) rfl (Uq 2 rfl (O.st (vs:=(EJ.enc y)) rfl rfl sizeOf27 rfl rfl rfl rfl rfl hI.wk ?_)))))
   intro H9 W9
   have hI9:=hI.set6 W9
   replace hk:=hk.fr W9.fr (fun b o hb=>nr (.inl (fun e=>hzi (e▸hb))))
   refine ⟨trivial,?_⟩
   refine Uf 0 [0,2,4,6,7,8,9,10,74] rfl (Ut 1 rfl (Ur 1 0 rfl (Uf 1 [0,2,4,6,7,8,9,10,74] rfl (Go'.ret (vs:=[_]) func192 results192 ⟨rfl,trivial⟩ ?_))))
   have hql:Pl.pos OI x l<l.length:=(List.getElem?_eq_some_iff.1 hq).1
   exact ⟨congrArg Value.bool (decide_eq_true hql).symm,hk,_,_,_,_,_,_,hI9,by rw [if_pos hql];exact ⟨rfl,hq,_,_,rfl,hS⟩,hZn5⟩
  ·
   refine Ur 1 0 rfl (Uf 1 [0,2,4,6,7,8,9,10,74] rfl (Go'.condF rfl (Ut 3 rfl ?_)))
   rcases h1 with _|h1
   ·
    obtain ⟨g,X⟩:=s1
    have hN:NodeM EJ _ g X (.pointer none):=hgd.1
    have hfs:fs1.length≤4294967296:=by omega
    have hple:Pl.pos OI x X≤X.length:=hple
    have hxl:X.length≤P.mx:=hxm
    replace hQ:Pl.pos OI x l=a+Pl.pos OI x X:=hQ
    replace hI:Itr EJ H H5 it tr mt _ true sa se _ ((g.p,((Pl.pos OI x X:Nat):Int))::fs1) kv:=hI
    obtain ⟨b,o,c,hTop⟩:=hI.top
    refine Ur 2 8 rfl (Uq 1 rfl (O.callQ rfl rfl rfl call133 rfl (leaf_spec hN.c3) trivial (Uf 0 [0,2,4,6,7,8,9,10,74,86] rfl (Go'.condT rfl (Ut 1 rfl (Ud 17 12901695552 (by kernel_rfl) (Ul 3 rfl hTop.c5 (Ul 3 rfl hTop.c5 (Ub 1 (((fs1.length:Nat):Int)) rfl (by omega) (Ux 0 (fs1.length) rfl (by omega) (by omega) (O.fa (off:=1) rfl rfl rfl rfl ⟨_,_,_,underlying131,rfl,rfl,sizeOf3⟩ rfl ?_)))))))))))
    refine Ul 0 rfl hTop.ci (Ub 0 (((Pl.pos OI x X:Nat):Int)-1) rfl (by omega) (Ux 0 (fs1.length) rfl (by omega) (by omega) (O.fa (off:=1) rfl rfl rfl rfl ⟨_,_,_,underlying131,rfl,rfl,sizeOf3⟩ rfl (O.st3 rfl rfl sizeOf3 rfl rfl rfl rfl rfl hTop.wi ?_))))
    intro H6 W6
    have hbz:Z1 b∨(b=H3.size∧b<H4.size):=by
     obtain ⟨b1,o1,c1,h1,hzb,_,_⟩:=hI.stk
     have e:=h1.symm.trans hTop.c5
     simp only [Option.some.injEq,Value.slice.injEq,Addr.mk.injEq] at e
     obtain ⟨⟨rfl,_,_⟩,_,_⟩:=e
     exact hzb
    obtain ⟨hI6,hTop6⟩:=hI.sti hTop W6
    replace hk:=hk.fr W6.fr (fun b2 o2 hb2=>nr (.inl (fun e=>hbz.elim (fun h=>hz1 b h (e▸hb2)) (fun h=>by have:=hzl b2 hb2;omega))))
    have hsz9:∀b,S b→¬(fun b=>Z1 b∨(b=H3.size∧b<H4.size)) b:=fun b hs hz=>(hI.zz b hz).elim (fun h=>h.elim (hsz b hs) (fun h=>hzS b h hs)) (fun h=>by have:=hT.lt b hs;omega)
    have hG:Gap t0 ((g.p,((Pl.pos OI x X:Nat):Int)-1)::fs1) (Pl.pos OI x l):=.inl ⟨fs1,g,X,a,Pl.pos OI x X,rfl,hC,hple,hQ⟩
    refine Uf 0 [0,2,4,6,7,8,9,10,74,86] rfl (Ut 1 rfl (Ur 3 8 rfl (Uq 1 rfl (O.call rfl rfl rfl call159 rfl (iNext_gen hI6.re (hK _ hI6.f) hsi hsz9 hG) ?_))))
    rintro _ H7 ⟨rfl,hp7⟩
    refine ⟨trivial,?_⟩
    refine Uf 1 [0,2,4,6,7,8,9,10,74,86] rfl (Go'.ret (vs:=[_]) func192 results192 ⟨rfl,trivial⟩ ?_)
    obtain ⟨sk7,as7,ae7,Z7,fr7,kv7,hI7,hst7⟩:=hp7
    have hs67:=hI6.f.size
    exact ⟨rfl,hk.fr hI7.f (fun b2 o2 hb2 h=>h.elim (fun e=>hzi (e▸hb2)) (fun h=>h.elim (fun h=>hz1 b2 h hb2) (fun h=>by have:=hzl b2 hb2;omega))),sk7,as7,ae7,Z7,fr7,kv7,hI6.thru hI7,hst7,fun b hb=>(hI7.zz b hb).elim (hZn5 b) (fun h=>.inr (by omega))⟩
   ·
    obtain ⟨g,X,K⟩:=s1
    have hin:Inn _ P h1 g X ((Gt.ps h1 K).map some) K:=hgd.inn
    have hKl:K.length=X.length+1:=hgd.2.2.2.2.2.1
    have hol:((Gt.ps h1 K).map some).length=X.length+1:=by rw [List.length_map,Gt.ps,List.length_map];exact hKl
    have hKL:(K.map (Gt.L h1)).length=X.length+1:=by rw [List.length_map];exact hKl
    have hple:Pl.pos OI x X≤X.length:=hple
    obtain ⟨k0,hk0⟩:∃k,K[Pl.pos OI x X]?=some k:=⟨K[Pl.pos OI x X],List.getElem?_eq_getElem (by omega)⟩
    have hk0m:k0∈K:=List.mem_of_getElem? hk0
    have hok:((Gt.ps h1 K).map some)[Pl.pos OI x X]?=some (some (Gt.p h1 k0)):=by rw [Gt.ps,List.map_map,List.getElem?_map,hk0];rfl
    have hkL:(K.map (Gt.L h1))[Pl.pos OI x X]?=some (Gt.L h1 k0):=by rw [List.getElem?_map,hk0];rfl
    have hkat:=hin.k.at hok
    have hgk:=(hin.c.1 k0 hk0m).1
    obtain ⟨kpk,hNk⟩:=hgk.node
    have hk00:=hNk.c0
    rw [hgk.isoe] at hk00
    have hs':Pl.Srt OI (Pl.inter X (K.map (Gt.L h1))):=hs
    have hrk:Pl.pos OI x (Pl.inter X (K.map (Gt.L h1)))=Pl.bl (K.map (Gt.L h1)) (Pl.pos OI x X)+Pl.pos OI x (Gt.L h1 k0):=Pl.inter_rank_child hs' hKL hfd hkL
    have hsk:=Pl.child_srt OI hs' hKL hfd hkL
    have hQ':Pl.pos OI x l=a+Pl.pos OI x (Pl.inter X (K.map (Gt.L h1))):=hQ
    rw [hrk] at hQ'
    refine Ur 2 8 rfl (Uq 1 rfl (O.callQ rfl rfl rfl call133 rfl (leaf_spec hin.n.c3) trivial (Uf 0 [0,2,4,6,7,8,9,10,74,86] rfl (Go'.condF rfl (Ut 2 rfl (Ud 18 9663955008 (by kernel_rfl) (Ul 3 rfl hI.c0 (Ul 3 rfl hin.n.c3 (Ul 1 rfl hin.k.c (Ux 1 (Pl.pos OI x (Gt.X (h1+1) (g,X,K))) rfl (by omega) (show Pl.pos OI x X<_ from by omega) (Ul 3 rfl hI.c1 ?_)))))))))))
    refine O.callQ rfl rfl rfl call130 rfl (isoLoad_spec mt hkat hk00 hR.iso) trivial (Uf 1 [0,2,4,6,7,8,9,10,74,86] rfl ?_)
    unfold ptr
    refine Ur 3 0 rfl (Ua 1 (((fs1.length+1:Nat):Int)) rfl (by omega) (Uf 1 [0,2,4,6,7,8,9,10,74,86] rfl (Ut 1 rfl (Uk [0,2,4,6,7,8] rfl (Go'.inLoop ?_)))))
    exact ih (⟨h1,k0⟩,_,_) _ ⟨hI,hk,hZn5,_,hC.down hk0,hsk,by show Pl.pos OI x l=a+Pl.bl (K.map (Gt.L h1)) (Pl.pos OI x X)+Pl.pos OI x (Gt.L h1 k0);omega⟩ (by simp only;omega)
theorem iSeekHint_spec {B:World} {H:Mem} {it tr:Nat} {mt sk sa se:Bool} {Z:Nat→Prop} {fr:List (Nat×Int)} {kv:Int×Int} {P:Ps} {S:Nat→Prop} {l:List (Int×Int)} {r:Option ((h:Nat)×Gt EJ h)} (hP:PsOk P) (hI:Itr EJ H H it tr mt Z sk sa se Z fr kv) (hT:TreeR H tr P S l r) (hsi:¬S it) (hsz:∀b,S b→¬Z b) (hsrt:Pl.Srt OI l) (x:Int×Int) {hv:Value} {hz:Nat→Prop} (hk:HintOk H hv hz) (hzS:∀b,hz b→¬S b) (hzi:¬hz it) (hzZ:∀b,Z b→¬hz b):
  Fn Try.prog B 162 [.pointer (some ⟨it,0,none⟩),.agg (EJ.enc x).toArray,hv] H (fun v H'=>v=.bool (decide (Pl.pos OI x l<l.length))∧ItPH H H' it tr mt Z r l hv hz (if Pl.pos OI x l<l.length then some (Pl.pos OI x l) else none)):=by
 refine fn_of func162 rfl ntmps162 ?_
 refine (show Go' _ _ _ _ 11 [(0,_),(1,_),(2,_)] [.code _] _ from ?_)
 refine Ut 1 rfl (Ur 2 2 rfl (O.box rfl rfl rfl rfl ?_))
 intro H0 M0
 refine ⟨trivial,?_⟩
 replace hI:=hI.box (M0.fr nowhere)
 replace hk:=hk.fr (M0.fr nowhere) (fun _ _ _=>nw)
 replace hT:=hT.keep (M0.fr nowhere) (fun _ _ _=>nw)
 have mk:Rd H0 H.size 0 (EJ.enc x):=M0.rd _ [] (by simp [Value.cells])
 refine Uf 1 [0,2,4,6] rfl (Ut 1 rfl (Ur 5 132 rfl (Us 1 rfl mk rfl (Uq 1 rfl (O.call rfl rfl rfl call192 rfl (iseek_spec hP hI hT hsi hsz hsrt x hk hzS hzi hzZ) ?_)))))
 rintro _ H1 ⟨rfl,hp⟩
 refine ⟨trivial,?_⟩
 refine Uf 1 [6] rfl (Go'.ret (vs:=[_]) func162 results162 ⟨rfl,trivial⟩ ?_)
 exact ⟨rfl,hp.rebase (M0.fr nowhere)⟩
theorem iSeek_spec {B:World} {H:Mem} {it tr:Nat} {mt sk sa se:Bool} {Z:Nat→Prop} {fr:List (Nat×Int)} {kv:Int×Int} {P:Ps} {S:Nat→Prop} {l:List (Int×Int)} {r:Option ((h:Nat)×Gt EJ h)} (hP:PsOk P) (hI:Itr EJ H H it tr mt Z sk sa se Z fr kv) (hT:TreeR H tr P S l r) (hsi:¬S it) (hsz:∀b,S b→¬Z b) (hsrt:Pl.Srt OI l) (x:Int×Int):
  Fn Try.prog B 161 [.pointer (some ⟨it,0,none⟩),.agg (EJ.enc x).toArray] H (fun v H'=>v=.bool (decide (Pl.pos OI x l<l.length))∧ItPH H H' it tr mt Z r l (.pointer none) (fun _=>False) (if Pl.pos OI x l<l.length then some (Pl.pos OI x l) else none)):=by
 have hk:HintOk H (.pointer none) (fun _=>False):=.inl ⟨rfl,fun _ h=>h⟩
 refine fn_of func161 rfl ntmps161 ?_
 refine (show Go' _ _ _ _ 8 [(0,_),(1,_)] [.code _] _ from ?_)
 refine Ut 1 rfl (Ur 2 2 rfl (O.box rfl rfl rfl rfl ?_))
 intro H0 M0
 refine ⟨trivial,?_⟩
 replace hI:=hI.box (M0.fr nowhere)
 replace hk:=hk.fr (M0.fr nowhere) (fun _ _ _=>nw)
 replace hT:=hT.keep (M0.fr nowhere) (fun _ _ _=>nw)
 have mk:Rd H0 H.size 0 (EJ.enc x):=M0.rd _ [] (by simp [Value.cells])
 refine Uf 1 [0,3,4] rfl (Ut 1 rfl (Ur 4 36 rfl (Us 1 rfl mk rfl (O.call rfl rfl rfl call192 rfl (iseek_spec hP hI hT hsi hsz hsrt x hk (fun _ h=>h.elim) id (fun _ _ h=>h)) ?_))))
 rintro _ H1 ⟨rfl,hp⟩
 refine ⟨trivial,?_⟩
 refine Uf 1 [4] rfl (Go'.ret (vs:=[_]) func161 results161 ⟨rfl,trivial⟩ ?_)
 exact ⟨rfl,hp.rebase (M0.fr nowhere)⟩
end
end Go.Bt.FG
namespace Go.Bt
section
variable {P:Program} {B:World} {f:FuncId} {Q:Value→Mem→Prop} {n:Nat} {r:Env} {k:List Item} {H:Mem} {l:List Oper} {C:Mem→Prop} {p:List (Nat×Nat)}
variable {i kd d:Nat} {ty:TypeId} {pos:String} {af:Array Edge} {gd:Option (Nat×Bool)}
theorem O.slcArr {t e:TypeId} {x z:Operand} {m b o s:Nat} {kz:IntKind} (hi:l[i]?=some ⟨some d,.slice t x none (some z) none,ty,pos,af,gd⟩) (hk:Nat.blt kd 2=true) (hg:guardOn l r gd=true) (hd:Nat.blt d n=true)
  (hu:P.underlying t=some (.array m e)) (hm:0<m) (hs:Sz P e s) (hx:ev r x=some (.pointer (some ⟨b,o,none⟩))) (hz:ev r z=some (.int kz 0))
  (h:Pl P B f Q n l C k p ((d,.slice (some ⟨b,o,none⟩) 0 m)::r) H):Pl P B f Q n l C k ((i,kd)::p) r H:=by
 refine Pl.quiet hi hk hg hd (fun ac H' d' ha _=>?_) h
 have hb:(Instr.sliceBounds false m m none (some (ac.eval z)) none).run P (mk B H' d')=.ok (0,0,m) (mk B H' d'):=by
  have z0:∀(w:World) (kk:IntKind) (m:Nat) (c:BoundsCode),(Instr.sliceBound (.int kk 0) m c).run P w=.ok 0 w:=fun w kk m c=>run_sliceBound w kk 0 m c (Nat.zero_le m)
  unfold Instr.sliceBounds
  simp [ha.eval hz,z0]
 have hm0:¬m=0:=by omega
 simp only [execOp,ha.eval hx,Sem.run_bind,Sem.run_pure,Instr.sliceAt,Instr.sureAddr,run_und hu,Result.andThen_ok,Option.map_none,Option.map_some,hb,hs _,if_neg hm0,Nat.zero_mul,Nat.sub_zero,Nat.sub_self]
 rfl
end
end Go.Bt
namespace Go.Bt.FG
open Go Go.Proofs Go.Proofs.Try
set_option maxRecDepth 20000
set_option maxHeartbeats 4000000
set_option linter.unusedSectionVars false
def kv0:Int×Int:=(0,0)
def itv (tr:Nat) (mt:Bool) (kb:Nat):List Value:=[.pointer (some ⟨tr,0,none⟩),.bool mt,.bool false,.bool false,.bool false,.bool false,.pointer none,.int .i64 0,.pointer none,.int .i64 0,.pointer none,.int .i64 0,.pointer none,.int .i64 0,.slice (some ⟨kb,6,none⟩) 0 4]++EJ.enc kv0
theorem itr_new {H H':Mem} {it tr kb:Nat} {mt:Bool} (W:Wrote H H' it 0 (itv tr mt kb)) (hw:Wr H it 0 17) (hk:Wr H kb 0 17) (hl:kb<H.size) (hn:it≠kb):Itr EJ H' H' it tr mt (fun b=>b=kb) false false false (fun b=>b=kb) [] kv0 where
 c0:=W.all 0 _ rfl
 c1:=W.all 1 _ rfl
 lk:=W.all 2 _ rfl
 c2:=W.all 3 _ rfl
 c3:=W.all 4 _ rfl
 c4:=W.all 5 _ rfl
 st:=⟨.slice (some ⟨kb,6,none⟩) 0 4,W.all 14 _ rfl,.inr ⟨kb,6,4,rfl,rfl,by rw [W.size];exact hl,⟨rfl,Nat.zero_le _,Rd.nil _ _ _,(W.fr.wr hk).at0 6 8 (by decide)⟩⟩⟩
 kv:=fun j v hv=>by
  have h:=W.all (15+j) v (by rw [←hv];unfold itv;rw [List.getElem?_append_right (by simp)];simp)
  rwa [Nat.zero_add] at h
 wr:=W.fr.wr hw
 nz:=hn
 f:=Fr.refl _ _
 zz:=fun _ h=>.inl h
 zl:=fun b h=>by rw [W.size,h];exact hl
section
variable {α:Type} {E:Elt α} {H0 H H':Mem} {it tr:Nat} {mt sk ast ae:Bool} {Z0 Z:Nat→Prop} {fr:List (Nat×Int)} {kv:α}
theorem Itr.away (h:Itr E H0 H it tr mt Z0 sk ast ae Z fr kv) {X:Nat→Nat→Prop} (hf:Fr X H H') (hx:∀b o,b=it∨Z b→¬X b o):Itr E H' H' it tr mt Z sk ast ae Z fr kv where
 c0:=hf.keep h.c0 (hx _ _ (.inl rfl))
 c1:=hf.keep h.c1 (hx _ _ (.inl rfl))
 lk:=hf.keep h.lk (hx _ _ (.inl rfl))
 c2:=hf.keep h.c2 (hx _ _ (.inl rfl))
 c3:=hf.keep h.c3 (hx _ _ (.inl rfl))
 c4:=hf.keep h.c4 (hx _ _ (.inl rfl))
 st:=have ⟨sv,h1,h2⟩:=h.st;⟨sv,hf.keep h1 (hx _ _ (.inl rfl)),h2.fr hf fun b o _ hz=>hx b o (.inr hz)⟩
 kv:=hf.rd h.kv fun _ _=>hx _ _ (.inl rfl)
 wr:=hf.wr h.wr
 nz:=h.nz
 f:=Fr.refl _ _
 zz:=fun _ hb=>.inl hb
 zl:=fun b hb=>Nat.lt_of_lt_of_le (h.zl b hb) hf.size
end
theorem st135:StT Try.prog 135 [(0,1),(1,1),(2,1),(3,1),(4,1),(5,1),(6,8),(14,1),(15,2)] [.pointer none,.bool false,.bool false,.bool false,.bool false,.bool false,.pointer none,.int .i64 0,.pointer none,.int .i64 0,.pointer none,.int .i64 0,.pointer none,.int .i64 0,.slice none 0 0,.int .i64 0,.int .i64 0]:=⟨⟨_,underlying135,fun w=>by simp [Array.mapM_eq_mapM_toList,sizeOf86,sizeOf4,sizeOf132,sizeOf133,sizeOf27]⟩,zeroValue135⟩
section
variable [Inhabited Cx]
theorem ItPost.ph {H H':Mem} {it tr:Nat} {mt:Bool} {Z:Nat→Prop} {r:Option ((h:Nat)×Gt EJ h)} {l:List (Int×Int)} {hv:Value} {hz:Nat→Prop} {st:Option Nat} (hp:ItPost EJ H H' it tr mt Z r l st) (hk:HintOk H hv hz) (h1:¬hz it) (h2:∀b,Z b→¬hz b):ItPH H H' it tr mt Z r l hv hz st:=by
 obtain ⟨sk,ast,ae,Z',fr,kv,hI,hs⟩:=hp
 exact ⟨hk.fr hI.f (fun b o hb h=>h.elim (fun e=>h1 (e▸hb)) (fun h=>h2 b h hb)),sk,ast,ae,Z',fr,kv,{ hI with f:=hI.f.mono (fun b o _ h=>h.imp id .inl),zz:=fun b hb=>(hI.zz b hb).imp .inl id },hs,hI.zz⟩
theorem ItPH.ph {H H':Mem} {it tr:Nat} {mt:Bool} {Z:Nat→Prop} {r:Option ((h:Nat)×Gt EJ h)} {l:List (Int×Int)} {hv:Value} {hz:Nat→Prop} {st:Option Nat} (hp:ItPH H H' it tr mt Z r l (.pointer none) (fun _=>False) st) (hk:HintOk H hv hz) (h1:¬hz it) (h2:∀b,Z b→¬hz b):ItPH H H' it tr mt Z r l hv hz st:=by
 obtain ⟨_,sk,ast,ae,Z',fr,kv,hI,hs,hZ⟩:=hp
 exact ItPost.ph ⟨sk,ast,ae,Z',fr,kv,{ hI with f:=hI.f.mono (fun b o _ h=>h.imp id (fun h=>h.elim id False.elim)),zz:=fun b hb=>(hI.zz b hb).imp (fun h=>h.elim id False.elim) id },hs⟩ hk h1 h2
theorem MapM.treeR {H:Mem} {tr:Nat} {P:Ps} {S:Nat→Prop} {l:List (Int×Int)} (hP:PsOk P) (hM:MapM H tr P S l) (hl:l.length≤4294967296):∃r:Option ((h:Nat)×Gt EJ h),TreeR H tr P (fun b=>S b∨(b<cx.base∧cx.own b)) l r:=by
 have lt0:=hM.lt
 have hb0:=hM.tc.hb
 have hh1:=hP.h1
 obtain ⟨tc,srt,cnt,own,lt,bs,hr⟩:=hM
 rcases hr with ⟨e,k⟩|⟨h,t,hg,hx,e,hc,_,hown⟩
 · exact ⟨none,tc,fun b h=>.inr h,fun b hb=>hb.elim (lt b) (fun h=>by omega),hl,hh1,e,k⟩
 · exact ⟨some ⟨h,t⟩,tc,fun b h=>.inr h,fun b hb=>hb.elim (lt b) (fun h=>by omega),hl,hh1,hg,hx,e,hc,fun b o hb=>.inl (hown b o hb)⟩
theorem iter_spec {B:World} {H:Mem} {tr:Nat} (mt:Bool):Fn Try.prog B 157 [.pointer (some ⟨tr,0,none⟩),.bool mt] H (fun r H'=>∃kb,r=.agg (itv tr mt kb).toArray∧Fr nowhere H H'∧Wr H' kb 0 17∧kb<H'.size∧H.size≤kb):=by
 refine fn_of func157 rfl ntmps157 ?_
 refine (show Go' _ _ _ _ 19 [(0,_),(1,_)] [.code _] _ from ?_)
 refine Ut 1 rfl (Ur 1 2 rfl (O.alloc rfl rfl rfl zeroValue135 ?_))
 intro H1 M1
 refine ⟨trivial,?_⟩
 have hs1:=M1.size
 have hF:=M1.fr nowhere
 have m4:Wr H1 H.size 0 17:=M1.wr 17 (by decide)
 refine Uf 0 [0,1,4] rfl (Ut 1 rfl (Ur 1 2 rfl (O.alloc rfl rfl rfl zeroValue135 ?_)))
 intro H2 M2
 refine ⟨trivial,?_⟩
 have hs2:=M2.size
 replace hF:=hF.trans (M2.fr nowhere)
 replace m4:=(M2.fr nowhere).wr m4
 have m5:Wr H2 H1.size 0 17:=M2.wr 17 (by decide)
 have hz:Rd H2 H1.size 0 ([.pointer none,.bool false,.bool false,.bool false,.bool false,.bool false,.pointer none,.int .i64 0,.pointer none,.int .i64 0,.pointer none,.int .i64 0,.pointer none,.int .i64 0,.slice none 0 0]++EJ.enc kv0):=M2.rd _ [] rfl
 refine Uf 0 [0,1,4,5] rfl (Ut 1 rfl (Ur 3 32 rfl (Uq 2 rfl (O.st rfl rfl sizeOf86 rfl rfl rfl rfl rfl (m5.at0 0 1 (by decide)) ?_))))
 intro H3 W3
 have hs3:=W3.size
 replace hF:=hF.trans' W3.fr (fun _ _ _ h=>h) (fun b o hb h=>by have h':=h.1;omega)
 replace m4:=W3.fr.wr m4
 replace m5:=W3.fr.wr m5
 refine ⟨trivial,?_⟩
 refine Uf 0 [0,1,4,5] rfl (Ut 1 rfl (Ur 3 32 rfl (Uq 2 rfl (O.st rfl rfl sizeOf4 rfl rfl rfl rfl rfl (m5.at0 1 1 (by decide)) ?_))))
 intro H4 W4
 have hs4:=W4.size
 replace hF:=hF.trans' W4.fr (fun _ _ _ h=>h) (fun b o hb h=>by have h':=h.1;omega)
 replace m4:=W4.fr.wr m4
 replace m5:=W4.fr.wr m5
 have c41:cl H4 H1.size 1=some (.bool mt):=W4.at
 refine ⟨trivial,?_⟩
 refine Uf 0 [0,4,5] rfl (Ut 1 rfl (Ur 6 2192 rfl (Ul 2 rfl c41 (O.callQ rfl rfl rfl call128 rfl lock_spec trivial (Uq 1 rfl (O.st rfl rfl sizeOf4 rfl rfl rfl rfl rfl (m5.at0 2 1 (by decide)) ?_))))))
 intro H5 W5
 have hs5:=W5.size
 replace hF:=hF.trans' W5.fr (fun _ _ _ h=>h) (fun b o hb h=>by have h':=h.1;omega)
 replace m4:=W5.fr.wr m4
 replace m5:=W5.fr.wr m5
 refine ⟨trivial,?_⟩
 refine Uf 0 [4,5] rfl (Ut 1 rfl (Ur 4 128 rfl (Uq 1 rfl (O.slcArr rfl rfl rfl rfl underlying132 (by decide) sizeOf131 rfl rfl (Uq 1 rfl (O.st rfl rfl sizeOf133 rfl rfl rfl rfl rfl (m5.at0 14 1 (by decide)) ?_))))))
 intro H6 W6
 have hs6:=W6.size
 replace hF:=hF.trans' W6.fr (fun _ _ _ h=>h) (fun b o hb h=>by have h':=h.1;omega)
 replace m4:=W6.fr.wr m4
 replace m5:=W6.fr.wr m5
 have r6:Rd H6 H1.size 0 (itv tr mt H1.size):=by
  intro j v hv
  have hj:j<17:=by
   have:=(List.getElem?_eq_some_iff.1 hv).1
   exact this
  by_cases h0:j=0
  · subst h0;cases hv;exact W6.keep1 (W5.keep1 (W4.keep1 W3.at (.inr (by decide))) (.inr (by decide))) (.inr (by decide))
  by_cases h1:j=1
  · subst h1;cases hv;exact W6.keep1 (W5.keep1 W4.at (.inr (by decide))) (.inr (by decide))
  by_cases h2:j=2
  · subst h2;cases hv;exact W6.keep1 W5.at (.inr (by decide))
  by_cases h14:j=14
  · subst h14;cases hv;exact W6.at
  refine W6.keep1 (W5.keep1 (W4.keep1 (W3.keep1 (hz j v ?_) (.inr (by omega))) (.inr (by omega))) (.inr (by omega))) (.inr (by omega))
  rw [←hv]
  match j,hj,h0,h1,h2,h14 with
  | 3,_,_,_,_,_=>rfl
  | 4,_,_,_,_,_=>rfl
  | 5,_,_,_,_,_=>rfl
  | 6,_,_,_,_,_=>rfl
  | 7,_,_,_,_,_=>rfl
  | 8,_,_,_,_,_=>rfl
  | 9,_,_,_,_,_=>rfl
  | 10,_,_,_,_,_=>rfl
  | 11,_,_,_,_,_=>rfl
  | 12,_,_,_,_,_=>rfl
  | 13,_,_,_,_,_=>rfl
  | 15,_,_,_,_,_=>rfl
  | 16,_,_,_,_,_=>rfl
  | 0,_,h,_,_,_=>exact absurd rfl h
  | 1,_,_,h,_,_=>exact absurd rfl h
  | 2,_,_,_,h,_=>exact absurd rfl h
  | 14,_,_,_,_,h=>exact absurd rfl h
  | n+17,h,_,_,_,_=>exact absurd h (by omega)
 refine ⟨trivial,?_⟩
 refine Uf 0 [4,5] rfl (Ut 1 rfl (Ur 2 9 rfl (Us 0 rfl r6 rfl (O.st (vs:=(itv tr mt H1.size)) rfl rfl sizeOf135 rfl rfl rfl rfl rfl m4 ?_))))
 intro H7 W7
 have hs7:=W7.size
 replace hF:=hF.trans' W7.fr (fun _ _ _ h=>h) (fun b o hb h=>by have h':=h.1;omega)
 replace m4:=W7.fr.wr m4
 replace m5:=W7.fr.wr m5
 refine ⟨trivial,?_⟩
 refine Uf 0 [4] rfl (Go'.ret (vs:=[_]) func157 results157 ⟨⟨_,_,rfl,fun _ _=>run_loadVar_agg (fun w=>⟨isAgg135 w,sizeOf135 w⟩) rfl W7.all⟩,trivial⟩ ?_)
 exact ⟨H1.size,rfl,hF,m5,by omega,by omega⟩
theorem Iter_spec {B:World} {H:Mem} {tr:Nat}:Fn Try.prog B 116 [.pointer (some ⟨tr,0,none⟩)] H (fun r H'=>∃kb,r=.agg (itv tr false kb).toArray∧Fr nowhere H H'∧Wr H' kb 0 17∧kb<H'.size∧H.size≤kb):=by
 refine fn_of func116 rfl ntmps116 ?_
 refine (show Go' _ _ _ _ 5 [(0,_)] [.code _] _ from ?_)
 refine Ut 1 rfl (Ur 1 2 rfl (O.alloc rfl rfl rfl zeroValue135 ?_))
 intro H1 M1
 refine ⟨trivial,?_⟩
 have hs1:=M1.size
 have hF:=M1.fr nowhere
 have m4:Wr H1 H.size 0 17:=M1.wr 17 (by decide)
 refine Uf 0 [0,2] rfl (Ut 1 rfl (Ur 3 40 rfl (Uq 1 rfl (O.call rfl rfl rfl call157 rfl (iter_spec false) ?_))))
 rintro _ H2 ⟨kb,rfl,hF2,hwk,hkl,hkg⟩
 have hs2:=hF2.size
 replace m4:=hF2.wr m4
 refine ⟨trivial,?_⟩
 refine O.st (vs:=(itv tr false kb)) rfl rfl sizeOf135 rfl rfl rfl rfl rfl m4 ?_
 intro H3 W3
 have hs3:=W3.size
 refine ⟨trivial,?_⟩
 refine Uf 0 [2] rfl (Go'.ret (vs:=[_]) func116 results116 ⟨⟨_,_,rfl,fun _ _=>run_loadVar_agg (fun w=>⟨isAgg135 w,sizeOf135 w⟩) rfl W3.all⟩,trivial⟩ ?_)
 exact ⟨kb,rfl,(hF.trans hF2).trans' W3.fr (fun _ _ _ h=>h) (fun b o hb h=>by have h':=h.1;omega),W3.fr.wr hwk,by omega,by omega⟩
theorem IterMut_spec {B:World} {H:Mem} {tr:Nat}:Fn Try.prog B 156 [.pointer (some ⟨tr,0,none⟩)] H (fun r H'=>∃kb,r=.agg (itv tr true kb).toArray∧Fr nowhere H H'∧Wr H' kb 0 17∧kb<H'.size∧H.size≤kb):=by
 refine fn_of func156 rfl ntmps156 ?_
 refine (show Go' _ _ _ _ 5 [(0,_)] [.code _] _ from ?_)
 refine Ut 1 rfl (Ur 1 2 rfl (O.alloc rfl rfl rfl zeroValue135 ?_))
 intro H1 M1
 refine ⟨trivial,?_⟩
 have hs1:=M1.size
 have hF:=M1.fr nowhere
 have m4:Wr H1 H.size 0 17:=M1.wr 17 (by decide)
 refine Uf 0 [0,2] rfl (Ut 1 rfl (Ur 3 40 rfl (Uq 1 rfl (O.call rfl rfl rfl call157 rfl (iter_spec true) ?_))))
 rintro _ H2 ⟨kb,rfl,hF2,hwk,hkl,hkg⟩
 have hs2:=hF2.size
 replace m4:=hF2.wr m4
 refine ⟨trivial,?_⟩
 refine O.st (vs:=(itv tr true kb)) rfl rfl sizeOf135 rfl rfl rfl rfl rfl m4 ?_
 intro H3 W3
 have hs3:=W3.size
 refine ⟨trivial,?_⟩
 refine Uf 0 [2] rfl (Go'.ret (vs:=[_]) func156 results156 ⟨⟨_,_,rfl,fun _ _=>run_loadVar_agg (fun w=>⟨isAgg135 w,sizeOf135 w⟩) rfl W3.all⟩,trivial⟩ ?_)
 exact ⟨kb,rfl,(hF.trans hF2).trans' W3.fr (fun _ _ _ h=>h) (fun b o hb h=>by have h':=h.1;omega),W3.fr.wr hwk,by omega,by omega⟩
theorem iItem_spec {B:World} {H:Mem} {it:Nat} {kv:Int×Int} (hk:Rd H it 15 (EJ.enc kv)):Fn Try.prog B 164 [.pointer (some ⟨it,0,none⟩)] H (fun v H'=>v=.agg (EJ.enc kv).toArray∧Fr nowhere H H'):=by
 refine fn_of func164 rfl ntmps164 ?_
 refine (show Go' _ _ _ _ 7 [(0,_)] [.code _] _ from ?_)
 refine Ut 1 rfl (Ur 1 2 rfl (O.alloc rfl rfl rfl zeroValue27 ?_))
 intro H1 M1
 refine ⟨trivial,?_⟩
 have hs1:=M1.size
 have m4:Wr H1 H.size 0 2:=M1.wr 2 (by decide)
 replace hk:=(M1.fr nowhere).rd hk (fun _ _=>nw)
 refine Uf 0 [0,2] rfl (Ut 1 rfl (Ur 5 576 rfl (Us 3 rfl hk rfl (O.st (vs:=(EJ.enc kv)) rfl rfl sizeOf27 rfl rfl rfl rfl rfl m4 ?_))))
 intro H2 W2
 refine ⟨trivial,?_⟩
 refine Uf 0 [2] rfl (Go'.ret (vs:=[_]) func164 results164 ⟨⟨_,_,rfl,fun _ _=>run_loadVar_agg (fun w=>⟨isAgg27 w,sizeOf27 w⟩) rfl W2.all⟩,trivial⟩ ?_)
 exact ⟨rfl,(M1.fr nowhere).trans' W2.fr (fun _ _ _ h=>h) (fun b o hb h=>by have h':=h.1;omega)⟩
theorem iRelease_spec {B:World} {H:Mem} {it tr:Nat} {mt sk ast ae:Bool} {Z:Nat→Prop} {fr:List (Nat×Int)} {kv:Int×Int} (hI:Itr EJ H H it tr mt Z sk ast ae Z fr kv):Fn Try.prog B 118 [.pointer (some ⟨it,0,none⟩)] H (fun v H'=>v=resVal []∧Fr (fun b _=>b=it) H H'):=by
 obtain ⟨sv,hsv,hA⟩:=hI.st
 refine fn_of func118 rfl ntmps118 ?_
 refine (show Go' _ _ _ _ 36 [(0,_)] [.code _] _ from ?_)
 refine Ut 2 rfl (Ur 5 64 rfl (Ul 3 rfl hI.c0 (O.isNil rfl rfl rfl rfl underlying86 rfl rfl (Uf 0 [0,7] rfl (Go'.condF rfl (Ut 3 rfl (Ur 4 64 rfl (Ul 3 rfl hI.lk (Uf 0 [0,11] rfl (Go'.condF rfl (Ut 2 rfl ?_)))))))))))
 refine Ur 6 64 rfl (Ul 3 rfl hsv (O.slcA (F:=EK) (j:=0) rfl rfl rfl rfl underlying133 sizeOf131 rfl hA ⟨_,by rfl⟩ (Nat.zero_le _) ?_))
 intro v1 hA1
 obtain ⟨a1,m1,c1,rfl⟩:=hA1.form
 refine Uf 1 [0,2] rfl (Ut 1 rfl (Ur 4 128 rfl (Uq 1 rfl (O.bld (cs:=([.pointer none,.bool false,.bool false,.bool false,.bool false,.bool false,.pointer none,.int .i64 0,.pointer none,.int .i64 0,.pointer none,.int .i64 0,.pointer none,.int .i64 0,.slice none 0 0,.int .i64 0,.int .i64 0])) rfl rfl rfl rfl (st135) rfl (by kernel_rfl) (Uq 1 rfl (O.st (vs:=([.pointer none,.bool false,.bool false,.bool false,.bool false,.bool false,.pointer none,.int .i64 0,.pointer none,.int .i64 0,.pointer none,.int .i64 0,.pointer none,.int .i64 0,.slice none 0 0,.int .i64 0,.int .i64 0])) rfl rfl sizeOf135 rfl rfl rfl rfl rfl hI.wr ?_))))))
 intro H1 W1
 refine ⟨trivial,?_⟩
 refine Uf 0 [0,2] rfl (Ur 5 512 rfl (Uq 4 rfl (O.st rfl rfl sizeOf133 rfl rfl rfl rfl rfl ((W1.fr.wr hI.wr).at0 14 1 (by decide)) ?_)))
 intro H2 W2
 refine ⟨trivial,?_⟩
 refine Uf 0 [] rfl (Go'.fall func118 results118 (vs:=[]) trivial ?_)
 exact ⟨rfl,(W1.fr.mono (fun b o _ h=>h.1)).trans' W2.fr (fun _ _ _ h=>h) (fun b o _ h=>h.1)⟩
end
end Go.Bt.FG
namespace Go.Bt.FG
open Go Go.Proofs Go.Proofs.Try
set_option maxRecDepth 20000
set_option maxHeartbeats 4000000
set_option linter.unusedSectionVars false
theorem igsethint_spec {B:World} {H:Mem} {d:Nat} {nl:Bool} {v u:Value} {ord:List Int} {l:List (Int×Int)} (hd:d=0∨2≤d∧d≤128) (ho:InS EN H v ord) (hol:ord.length≤4294967296) (hi:InS EJ H u l) (hll:l.length≤4294967296):
  Fn Try.prog B 84 [.agg #[v,.int .i64 (d:Int),.bool nl],u] H (fun r H'=>∃v1 v2,r=.tuple #[v1,v2]∧OutS EF H' v1 (Pl.gots (OO ord) l)∧OutS EJ H' v2 (Pl.puts (OO ord) l)∧Fr nowhere H H'):=by
 obtain ⟨a,c,hu⟩:=hi.len
 subst hu
 obtain ⟨av,mv,cv,hv⟩:=InS.form ho
 subst hv
 have hF:Fr nowhere H H:=Fr.refl _ _
 have hP:=PD_ok hd
 refine fn_of func84 rfl ntmps84 ?_
 refine (show Go' _ _ _ _ 32 [(0,_),(1,_)] [.code _] _ from ?_)
 refine Ut 1 rfl (Ur 3 2 rfl (O.box rfl rfl rfl rfl ?_))
 intro B1 MB1
 refine ⟨trivial,?_⟩
 have hsB1:=MB1.size
 replace hF:=hF.trans (MB1.fr nowhere)
 have mm:Rd B1 H.size 0 [.slice av mv cv,.int .i64 (d:Int),.bool nl]:=MB1.rd _ [] (by simp [Value.cells])
 have mm0:cl B1 H.size 0=some (.slice av mv cv):=mm 0 _ rfl
 have mm1:cl B1 H.size (0+1)=some (.int .i64 (d:Int)):=mm 1 _ rfl
 refine Uf 2 [1,2,4,5] rfl (Ut 1 rfl (Ur 3 9 rfl (Us 0 rfl mm rfl (O.call rfl rfl rfl call68 rfl (grow_spec (l:=[]) hd (ho.fr hF) hol (InS.nil EJ _) (by decide)) ?_))))
 rintro _ H3 ⟨I,hIo,hIw,hIb,tr,S,rfl,hM,hF3,hS⟩
 have hs3:=hF3.size
 replace hF:=hF.trans hF3
 replace mm:=hF3.rd mm (fun _ _=>nw)
 replace mm0:=hF3.keep mm0 nw
 replace mm1:=hF3.keep mm1 nw
 have hSb:∀b,S b∨(b<cx.base∧cx.own b)→B1.size≤b:=fun b hb=>hb.elim (hS b) (fun h=>hIw b h.2)
 have hOO:OO ord=OI:=by rw [←hIo];rfl
 have hpl:=Pl.puts_length OI l
 have hSlt:=hM.lt
 have hbs:=hM.tc.hb
 unfold ptr
 refine ⟨trivial,?_⟩
 refine Uf 1 [1,4,5,6] rfl (Ut 1 rfl (Ur 1 2 rfl (O.alloc rfl rfl rfl zeroValue153 ?_)))
 intro H4 M4
 refine ⟨trivial,?_⟩
 have hs4:=M4.size
 replace hF:=hF.trans (M4.fr nowhere)
 replace mm:=(M4.fr nowhere).rd mm (fun _ _=>nw)
 replace mm0:=(M4.fr nowhere).keep mm0 nw
 replace mm1:=(M4.fr nowhere).keep mm1 nw
 replace hM:=hM.fr (M4.fr nowhere) (fun _ _ _=>nw)
 have hk:HintOk H4 (.pointer (some ⟨H3.size,0,none⟩)) (fun b=>b=H3.size):=.inr ⟨H3.size,rfl,fun _=>Iff.rfl,by omega,fun h=>by have:=h.1;omega,(HintM.new M4 (fun i hi=>by have hi8:i=0∨i=1∨i=2∨i=3∨i=4∨i=5∨i=6∨i=7:=(by omega);rcases hi8 with rfl|rfl|rfl|rfl|rfl|rfl|rfl|rfl<;>rfl) (fun i hi=>by have hi8:i=0∨i=1∨i=2∨i=3∨i=4∨i=5∨i=6∨i=7:=(by omega);rcases hi8 with rfl|rfl|rfl|rfl|rfl|rfl|rfl|rfl<;>rfl) (by decide))⟩
 refine Uf 0 [1,4,5,6,7] rfl (Ut 1 rfl (Ur 1 0 rfl (Uf 1 [1,4,5,6,7,8] rfl (Ut 2 rfl (Ur 3 0 rfl (Uf 3 [4,5,6,7,8,13,14,15] rfl (Ut 1 rfl (Go'.loop (Uk [4,5,6,7,8,13,14,15] rfl ?_)))))))))
 refine Go'.ind (σ:=Nat×Value) (fun s=>l.length-s.1) (fun s H'=>s.1≤l.length∧Fr nowhere H H'∧H4.size≤H'.size∧HintOk H' (.pointer (some ⟨H3.size,0,none⟩)) (fun b=>b=H3.size)∧∃S Zo,MapM H' tr (PD d) S (Pl.puts OI (l.take s.1))∧(∀b,S b→H.size≤b∧b≠H3.size)∧Acc EF Zo H' s.2 (Pl.gots OI (l.take s.1))∧∀b,Zo b→H4.size≤b∧b<H'.size∧¬S b)
  (fun s=>[(4,.slice none 0 0),(5,.slice none 0 0),(6,.pointer (some ⟨tr,0,none⟩)),(7,.pointer (some ⟨H3.size,0,none⟩)),(8,s.2),(13,.slice a l.length c),(14,.int .i64 (l.length:Int)),(15,.int .i64 (s.1:Int))]) (0,.slice none 0 0) ⟨Nat.zero_le _,hF,Nat.le_refl _,hk,S,fun _=>False,hM,fun b hb=>⟨by have:=hS b hb;omega,by have:=hSlt b hb;omega⟩,Acc.nil _ _ _,fun _ h=>h.elim⟩ rfl ?_
 clear hM hF hk hS hSb hSlt S
 rintro ⟨j,sv⟩ H5 ⟨hjl,hF,hs45,hk,S,Zo,hM,hS,hA,hZ⟩ ih
 simp only at hjl hM hA
 have hi2:=hi.fr hF
 refine Ut 1 rfl ?_
 by_cases hlt:j<l.length
 ·
  obtain ⟨y,hy⟩:∃y,l[j]?=some y:=⟨l[j],List.getElem?_eq_getElem hlt⟩
  obtain ⟨b,o,c',e,hr⟩:=hi2.at hy
  cases e
  have hpl2:=Pl.puts_length OI (l.take j)
  have hlout:=Pl.gots_length OI (l.take j)
  have hSlt:=hM.lt
  have hbs2:=hM.tc.hb
  have hsz:=hF.size
  have eput:Pl.puts OI (l.take (j+1))=Pl.put OI y (Pl.puts OI (l.take j)):=by rw [List.take_add_one,hy];exact Pl.puts_snoc _ _ _
  have egot:Pl.gots OI (l.take (j+1))=Pl.gots OI (l.take j)++[Pl.got OI y (Pl.puts OI (l.take j))]:=by rw [List.take_add_one,hy];exact Pl.gots_snoc _ _ _
  rw [List.length_take] at hpl2 hlout
  refine Ur 1 0 rfl (Uc 0 rfl (lssT (by omega)) (Uf 0 [4,5,6,7,8,13,14,15,16] rfl (Ut 1 rfl (Go'.condT rfl (Ut 4 rfl (Ur 4 164 rfl (Ux 0 j rfl (by omega) hlt (Us 0 rfl hr rfl (O.alloc rfl rfl rfl zeroValue27 ?_)))))))))
  intro H6 M6
  refine ⟨trivial,?_⟩
  have hs6:=M6.size
  replace hM:=hM.fr (M6.fr nowhere) (fun _ _ _=>nw)
  replace hA:=hA.fr (M6.fr nowhere) (fun _ _ _ _=>nw)
  replace hk:=hk.fr (M6.fr nowhere) (fun _ _ _=>nw)
  have m7:Wr H6 H5.size 0 2:=M6.wr 2 (by decide)
  refine O.st rfl rfl sizeOf27 rfl rfl rfl rfl rfl m7 ?_
  intro H7 W7
  have hs7:=W7.size
  replace hM:=hM.fr W7.fr (fun b o hb=>nr (.inl (hb.elim (fun hb=>by have:=hSlt b hb;omega) (fun hb=>by omega))))
  replace hA:=hA.fr W7.fr (fun b o hb hb2=>nr (.inl (by have:=hZ b hb2;omega)))
  replace hk:=hk.fr W7.fr (fun b o hb=>nr (.inl (by omega)))
  replace hF:Fr nowhere H H7:=hF.trans' ((M6.fr nowhere).trans' W7.fr (Z:=nowhere) (fun _ _ _ h=>h) (fun b o hb hz=>by have h1:=hz.1;omega)) (fun _ _ _ h=>h) (fun _ _ _ h=>h)
  have k0:Rd H7 H5.size 0 (EJ.enc y):=W7.all
  refine ⟨trivial,?_⟩
  refine Uf 0 [4,5,6,7,8,10,13,14,15,16] rfl (Ur 10 172176 rfl (Us 2 rfl k0 rfl (O.call rfl rfl rfl call138 rfl (setHint_spec hP (x:=y) hM (by omega) hk (fun b hb hs=>(hS b hs).2 hb)) ?_)))
  rintro _ H8 ⟨hk,rfl,S',hM',hF8,hS'⟩
  rw [←Pl.got_isSome OI]
  have hs8:=hF8.size
  replace hA:=hA.fr hF8 (fun b o hb hb2 hz=>hz.elim (hZ b hb2).2.2 (fun h=>by have:=(hZ b hb2).1;omega))
  replace hF:=hF.trans' hF8 (fun _ _ _ h=>h) (fun b o hb hz=>hz.elim (fun h=>by have:=hS b h;omega) (fun h=>by omega))
  refine ⟨trivial,?_⟩
  refine Uq 2 rfl (O.call rfl rfl rfl call104 rfl ifound_spec ?_)
  rintro _ H9 ⟨rfl,hF9⟩
  have hs9:=hF9.size
  replace hM':=hM'.fr hF9 (fun _ _ _=>nw)
  replace hA:=hA.fr hF9 (fun _ _ _ _=>nw)
  replace hk:=hk.fr hF9 (fun _ _ _=>nw)
  replace hF:=hF.trans hF9
  rw [FVe]
  refine ⟨trivial,?_⟩
  refine O.bsl (cs:=(fvs (Pl.got OI y (Pl.puts OI (l.take j))))) rfl rfl rfl ⟨underlying64,sizeOf68,zeroValue68,⟨_,typeInfo68,rfl⟩,rfl,by decide,by decide⟩ rfl (by decide) (by generalize (Pl.got OI y (Pl.puts OI (l.take j)))=o;cases o<;>kernel_rfl) ?_
  intro H10 M10
  have hs10:=M10.size
  replace hM':=hM'.fr (M10.fr nowhere) (fun _ _ _=>nw)
  replace hA:=hA.fr (M10.fr nowhere) (fun _ _ _ _=>nw)
  replace hk:=hk.fr (M10.fr nowhere) (fun _ _ _=>nw)
  replace hF:=hF.trans (M10.fr nowhere)
  have m5:Rd H10 H9.size 0 (row EF [(Pl.got OI y (Pl.puts OI (l.take j)))]):=M10.rd _ [] (by simp [row,EF])
  refine ⟨trivial,?_⟩
  refine O.appA (E:=EF) (Y:=[(Pl.got OI y (Pl.puts OI (l.take j)))]) rfl rfl rfl ⟨underlying64,sizeOf68,zeroValue68,⟨_,typeInfo68,rfl⟩,rfl,by decide,by decide⟩ rfl hA rfl ⟨_,_,_,rfl,m5⟩ (Nat.succ_pos _) (by rw [hlout];exact Nat.le_trans (Nat.mul_le_mul_left _ (Nat.le_of_ble_eq_true (n:=_) (m:=4096) rfl)) (by simp only [List.length_cons,List.length_nil];omega)) (by rw [hlout];simp only [List.length_cons,List.length_nil];omega) ?_
  intro v8 H11 hA11 hF11 hs11
  have hs111:=hF11.size
  rw [←egot] at hA11
  have hS2:∀b,S' b→¬Zo b:=fun b hb hz=>(hS' b hb).elim (hZ b hz).2.2 (fun h=>by have:=(hZ b hz).2.1;omega)
  have hlt10:=hM'.lt
  have hM11:=hM'.fr hF11 (fun b _ hb hz=>hb.elim (fun hb=>hS2 b hb hz) (fun hb=>by have:=(hZ b hz).1;omega))
  replace hk:=hk.fr hF11 (fun b o hb hz=>by have:=(hZ b hz).1;omega)
  replace hF:=hF.trans' hF11 (fun _ _ _ h=>h) (fun b o hb hz=>by have:=(hZ b hz).1;omega)
  refine ⟨trivial,?_⟩
  refine Uf 1 [4,5,6,7,8,10,13,14,15,16] rfl (Ut 1 rfl (Ur 2 0 rfl (Ua 0 (((j+1:Nat):Int)) rfl (by omega) (Uf 1 [4,5,6,7,8,10,13,14,15,16] rfl (Uk [4,5,6,7,8,13,14,15] rfl (Go'.inLoop ?_))))))
  exact ih (j+1,v8) H11 ⟨hlt,hF,by omega,hk,S',(fun b=>Zo b∨(b=H10.size∧b<H11.size)),by
   simp only
   rw [eput]
   exact hM11,fun b hb=>(hS' b hb).elim (hS b) (fun h=>by omega),hA11,fun b hb=>hb.elim (fun h=>⟨(hZ b h).1,by have:=(hZ b h).2.1;omega,fun hs=>hS2 b hs h⟩) (fun h=>⟨by omega,h.2,fun hs=>by have:=hlt10 b hs;omega⟩)⟩ (by simp only;omega)
 ·
  have ejl:j=l.length:=by omega
  rw [ejl,List.take_length] at hM hA
  have hpl2:=Pl.puts_length OI l
  refine Ur 1 0 rfl (Uc 0 rfl (lssF (by omega)) (Uf 0 [4,5,6,7,8,13,14,15,16] rfl (Ut 1 rfl (Go'.condF rfl (Ut 2 rfl (Ur 5 32 rfl (Uq 2 rfl (O.call rfl rfl rfl call73 rfl (Items_spec hP hM (by omega)) ?_))))))))
  rintro v9 H6 ⟨hv9,hF6⟩
  refine ⟨trivial,?_⟩
  refine Uf 2 [4,5] rfl (Go'.ret (vs:=[_,_]) func84 results84 ⟨rfl,rfl,trivial⟩ ?_)
  rw [hOO]
  exact ⟨_,_,rfl,(hA.fr hF6 (fun _ _ _ _=>nw)).out,hv9,hF.trans hF6⟩
theorem gset_spec {B:World} {H:Mem} {v u dg nl:Value} {ord:List Int} {l:List (Int×Int)} (ho:InS EN H v ord) (hl:ord.length<4611686018427387904) (hi:InS EJ H u l) (hll:l.length≤4294967296):
  Fn Try.prog B 85 [.agg #[v,dg,nl],u] H (fun r H'=>∃v1 v2,r=.tuple #[v1,v2]∧OutS EF H' v1 (Pl.gots (OO ord) l)∧OutS EJ H' v2 (Pl.puts (OO ord) l)∧Fr nowhere H H'):=by
 obtain ⟨a,c,hu⟩:=hi.len
 subst hu
 have hlv:=ho.len
 refine fn_of func85 rfl ntmps85 ?_
 refine (show Go' _ _ _ _ 32 [(0,_),(1,_)] [.code _] _ from ?_)
 refine Ut 1 rfl (Ur 3 2 rfl (O.box rfl rfl rfl rfl ?_))
 intro H1 M1
 refine ⟨trivial,?_⟩
 have hs1:=M1.size
 have hF1:=M1.fr nowhere
 replace ho:=ho.fr (M1.fr nowhere)
 replace hi:=hi.fr (M1.fr nowhere)
 have mi:cl H1 H.size 0=some v:=(M1.cl 0).trans rfl
 refine Uf 2 [1,2,4,5] rfl (Ut 1 rfl (Ur 1 0 rfl (Uf 1 [1,2,4,5,6] rfl (Ut 1 rfl (Ur 1 0 rfl (Uf 1 [1,2,4,5,6,7] rfl (Ut 2 rfl (Ur 3 0 rfl (Uf 3 [2,4,5,6,7,11,12,13] rfl (Ut 1 rfl (Go'.loop ?_)))))))))))
 refine Uk [2,6,7,11,12,13] rfl ?_
 refine Go'.ind (σ:=Nat×Value×Value×(Nat→Prop)) (fun s=>l.length-s.1) (fun s H'=>Fr nowhere H1 H'∧s.1≤l.length∧Acc EF s.2.2.2 H' s.2.1 (Pl.gots (OO ord) (l.take s.1))∧Acc EJ (fun b=>¬s.2.2.2 b) H' s.2.2.1 (Pl.puts (OO ord) (l.take s.1))∧∀b,s.2.2.2 b→H1.size≤b∧b<H'.size)
  (fun s=>[(2,.pointer (some ⟨H.size,0,none⟩)),(6,s.2.1),(7,s.2.2.1),(11,.slice a l.length c),(12,.int .i64 (l.length:Int)),(13,.int .i64 (s.1:Int))]) (0,.slice none 0 0,.slice none 0 0,fun _=>False) ⟨Fr.refl _ _,Nat.zero_le _,Acc.nil _ _ _,Acc.nil _ _ _,fun _ h=>h.elim⟩ rfl ?_
 rintro ⟨j,sv,iv,Zo⟩ H2 ⟨hF,hjl,hA,hB,hZ⟩ ih
 simp only at hjl hA hB hZ
 have ho2:=ho.fr hF
 have hi2:=hi.fr hF
 have mi2:=hF.keep mi nw
 refine Ut 1 rfl ?_
 by_cases hlt:j<l.length
 ·
  obtain ⟨y,hy⟩:∃y,l[j]?=some y:=⟨l[j],List.getElem?_eq_getElem hlt⟩
  obtain ⟨b,o,c',e,hr⟩:=hi2.at hy
  cases e
  have hpl:=Pl.puts_length (OO ord) (l.take j)
  have hlout:=Pl.gots_length (OO ord) (l.take j)
  have hsz:=hF.size
  have eput:Pl.puts (OO ord) (l.take (j+1))=Pl.put (OO ord) y (Pl.puts (OO ord) (l.take j)):=by rw [List.take_add_one,hy];exact Pl.puts_snoc _ _ _
  have egot:Pl.gots (OO ord) (l.take (j+1))=Pl.gots (OO ord) (l.take j)++[Pl.got (OO ord) y (Pl.puts (OO ord) (l.take j))]:=by rw [List.take_add_one,hy];exact Pl.gots_snoc _ _ _
  rw [List.length_take] at hpl hlout
  refine Ur 1 0 rfl (Uc 0 rfl (lssT (by omega)) (Uf 0 [2,6,7,11,12,13,14] rfl (Ut 1 rfl (Go'.condT rfl (Ut 4 rfl (Ur 4 164 rfl (Ux 0 j rfl (by omega) hlt (Us 0 rfl hr rfl (O.alloc rfl rfl rfl zeroValue27 ?_)))))))))
  intro H3 M3
  refine ⟨trivial,?_⟩
  have hs3:=M3.size
  have m7:Wr H3 H2.size 0 2:=M3.wr 2 (by decide)
  refine O.st rfl rfl sizeOf27 rfl rfl rfl rfl rfl m7 ?_
  intro H4 W4
  have hs4:=W4.size
  have hf4:Fr nowhere H2 H4:=(M3.fr nowhere).trans' W4.fr (fun _ _ _ h=>h) (fun b o hb hz=>by have h1:=hz.1;omega)
  have ho4:=ho2.fr hf4
  have mi4:=hf4.keep mi2 nw
  have hx4:Rd H4 H2.size 0 (EJ.enc y):=W4.all
  refine ⟨trivial,?_⟩
  refine Uf 0 [2,6,7,9,11,12,13,14] rfl (Ut 1 rfl (Ur 1 2 rfl (O.alloc rfl rfl rfl zeroValue68 ?_)))
  intro H5 M5
  refine ⟨trivial,?_⟩
  have hs5:=M5.size
  replace ho4:=ho4.fr (M5.fr nowhere)
  replace mi4:=M5.keep mi4
  replace hx4:=(M5.fr nowhere).rd hx4 (fun _ _=>nw)
  have hf5:Fr nowhere H2 H5:=hf4.trans (M5.fr nowhere)
  have hA5:=hA.fr hf5 (fun _ _ _ _=>nw)
  have hB5:=hB.fr hf5 (fun _ _ _ _=>nw)
  have m10:Wr H5 H4.size 0 3:=M5.wr 3 (by decide)
  refine Uf 0 [2,6,7,9,10,11,12,13,14] rfl (Ut 1 rfl ?_)
  rcases hgo:Pl.got (OO ord) y (Pl.puts (OO ord) (l.take j)) with _|z
  ·
   refine Ur 10 524868 rfl (Ul 1 rfl mi4 (Us 1 rfl hx4 rfl (O.call rfl rfl rfl call90 rfl (put_specA ho4 hl hB5.inS (Pl.puts_srt _ _) (by omega)) ?_)))
   rintro _ H6 ⟨iv2,rfl,hB6,hF6⟩
   rw [hgo]
   unfold FV
   have hs6:=hF6.size
   replace m10:=hF6.wr m10
   have hA6:=hA5.fr hF6 (fun _ _ _ _=>nw)
   refine ⟨trivial,?_⟩
   refine Uq 4 rfl (O.st (vs:=(fvs none)) rfl rfl sizeOf68 rfl rfl rfl rfl rfl m10 ?_)
   intro H7 W7
   have hs7:=W7.size
   have hA7:=hA6.fr W7.fr (fun b o hb hz hr=>by have h1:=hr.1;have h2:=hZ b hz;omega)
   have hB7:=hB6.fr W7.fr (fun b o hb hz hr=>by have h1:=hr.1;omega)
   have hx7:Rd H7 H4.size 0 (fvs none):=W7.all
   have hf7:Fr nowhere H2 H7:=(hf5.trans hF6).trans' W7.fr (fun _ _ _ h=>h) (fun b o hb hz=>by have h1:=hz.1;omega)
   refine ⟨trivial,?_⟩
   refine Uf 0 [2,6,7,9,10,11,12,13,14] rfl (Ur 5 164 rfl (Us 1 rfl hx7 rfl (O.bsl (cs:=(fvs none)) rfl rfl rfl ⟨underlying64,sizeOf68,zeroValue68,⟨_,typeInfo68,rfl⟩,rfl,by decide,by decide⟩ rfl (by decide) (by kernel_rfl) ?_)))
   intro H8 M8
   have hs8:=M8.size
   have hA8:=hA7.fr (M8.fr nowhere) (fun _ _ _ _=>nw)
   have hB8:=hB7.fr (M8.fr nowhere) (fun _ _ _ _=>nw)
   have m5:Rd H8 H7.size 0 (row EF [none]):=M8.rd _ [] (by simp [row,EF,fvs])
   refine ⟨trivial,?_⟩
   refine O.appA (E:=EF) (Y:=[none]) rfl rfl rfl ⟨underlying64,sizeOf68,zeroValue68,⟨_,typeInfo68,rfl⟩,rfl,by decide,by decide⟩ rfl hA8 rfl ⟨_,_,_,rfl,m5⟩ (Nat.succ_pos _) (by rw [hlout];exact Nat.le_trans (Nat.mul_le_mul_left _ (Nat.le_of_ble_eq_true (n:=_) (m:=4096) rfl)) (by simp only [List.length_cons,List.length_nil];omega)) (by rw [hlout];simp only [List.length_cons,List.length_nil];omega) ?_
   intro v9 H9 hA9 hF9 hs9
   have hB9:=hB8.fr hF9 (fun b o hb hz hr=>by have h1:=hZ b hr;omega)
   have hg9:=hF9.size
   rw [hgo] at egot
   refine ⟨trivial,?_⟩
   refine Uf 1 [2,6,7,9,10,11,12,13,14] rfl (Ut 1 rfl (Ur 2 0 rfl (Ua 0 (((j+1:Nat):Int)) rfl (by omega) (Uf 1 [2,6,7,9,10,11,12,13,14] rfl (Uk [2,6,7,11,12,13] rfl (Go'.inLoop ?_))))))
   refine ih (j+1,v9,iv2,fun b=>Zo b∨(b=H8.size∧b<H9.size)) H9 ⟨((hF.trans hf7).trans (M8.fr nowhere)).trans' hF9 (fun _ _ _ h=>h) (fun b o hb hz=>by have h1:=(hZ b hz).1;omega),hlt,?_,?_,fun b hb=>hb.elim (fun h=>⟨(hZ b h).1,by have:=(hZ b h).2;omega⟩) (fun h=>⟨by omega,h.2⟩)⟩ (by simp only;omega)
   ·
    simp only
    rw [egot]
    exact hA9
   ·
    simp only
    rw [eput]
    exact (hB8.mono (Y:=fun b=>¬Zo b∧b<H8.size) (fun b hb hz=>⟨fun h=>by have:=hZ b h;omega,hb⟩)).fr hF9 (fun b o hb hz hr=>hz.1 hr) |>.mono (fun b hb hz h=>h.elim hz.1 (fun h=>by have:=hz.2;omega))
  ·
   refine Ur 10 524868 rfl (Ul 1 rfl mi4 (Us 1 rfl hx4 rfl (O.call rfl rfl rfl call90 rfl (put_specA ho4 hl hB5.inS (Pl.puts_srt _ _) (by omega)) ?_)))
   rintro _ H6 ⟨iv2,rfl,hB6,hF6⟩
   rw [hgo]
   unfold FV
   have hs6:=hF6.size
   replace m10:=hF6.wr m10
   have hA6:=hA5.fr hF6 (fun _ _ _ _=>nw)
   refine ⟨trivial,?_⟩
   refine Uq 4 rfl (O.st (vs:=(fvs (some z))) rfl rfl sizeOf68 rfl rfl rfl rfl rfl m10 ?_)
   intro H7 W7
   have hs7:=W7.size
   have hA7:=hA6.fr W7.fr (fun b o hb hz hr=>by have h1:=hr.1;have h2:=hZ b hz;omega)
   have hB7:=hB6.fr W7.fr (fun b o hb hz hr=>by have h1:=hr.1;omega)
   have hx7:Rd H7 H4.size 0 (fvs (some z)):=W7.all
   have hf7:Fr nowhere H2 H7:=(hf5.trans hF6).trans' W7.fr (fun _ _ _ h=>h) (fun b o hb hz=>by have h1:=hz.1;omega)
   refine ⟨trivial,?_⟩
   refine Uf 0 [2,6,7,9,10,11,12,13,14] rfl (Ur 5 164 rfl (Us 1 rfl hx7 rfl (O.bsl (cs:=(fvs (some z))) rfl rfl rfl ⟨underlying64,sizeOf68,zeroValue68,⟨_,typeInfo68,rfl⟩,rfl,by decide,by decide⟩ rfl (by decide) (by kernel_rfl) ?_)))
   intro H8 M8
   have hs8:=M8.size
   have hA8:=hA7.fr (M8.fr nowhere) (fun _ _ _ _=>nw)
   have hB8:=hB7.fr (M8.fr nowhere) (fun _ _ _ _=>nw)
   have m5:Rd H8 H7.size 0 (row EF [(some z)]):=M8.rd _ [] (by simp [row,EF,fvs])
   refine ⟨trivial,?_⟩
   refine O.appA (E:=EF) (Y:=[(some z)]) rfl rfl rfl ⟨underlying64,sizeOf68,zeroValue68,⟨_,typeInfo68,rfl⟩,rfl,by decide,by decide⟩ rfl hA8 rfl ⟨_,_,_,rfl,m5⟩ (Nat.succ_pos _) (by rw [hlout];exact Nat.le_trans (Nat.mul_le_mul_left _ (Nat.le_of_ble_eq_true (n:=_) (m:=4096) rfl)) (by simp only [List.length_cons,List.length_nil];omega)) (by rw [hlout];simp only [List.length_cons,List.length_nil];omega) ?_
   intro v9 H9 hA9 hF9 hs9
   have hB9:=hB8.fr hF9 (fun b o hb hz hr=>by have h1:=hZ b hr;omega)
   have hg9:=hF9.size
   rw [hgo] at egot
   refine ⟨trivial,?_⟩
   refine Uf 1 [2,6,7,9,10,11,12,13,14] rfl (Ut 1 rfl (Ur 2 0 rfl (Ua 0 (((j+1:Nat):Int)) rfl (by omega) (Uf 1 [2,6,7,9,10,11,12,13,14] rfl (Uk [2,6,7,11,12,13] rfl (Go'.inLoop ?_))))))
   refine ih (j+1,v9,iv2,fun b=>Zo b∨(b=H8.size∧b<H9.size)) H9 ⟨((hF.trans hf7).trans (M8.fr nowhere)).trans' hF9 (fun _ _ _ h=>h) (fun b o hb hz=>by have h1:=(hZ b hz).1;omega),hlt,?_,?_,fun b hb=>hb.elim (fun h=>⟨(hZ b h).1,by have:=(hZ b h).2;omega⟩) (fun h=>⟨by omega,h.2⟩)⟩ (by simp only;omega)
   ·
    simp only
    rw [egot]
    exact hA9
   ·
    simp only
    rw [eput]
    exact (hB8.mono (Y:=fun b=>¬Zo b∧b<H8.size) (fun b hb hz=>⟨fun h=>by have:=hZ b h;omega,hb⟩)).fr hF9 (fun b o hb hz hr=>hz.1 hr) |>.mono (fun b hb hz h=>h.elim hz.1 (fun h=>by have:=hz.2;omega))
 ·
  obtain rfl:j=l.length:=by omega
  rw [List.take_length] at hA hB
  refine Ur 1 0 rfl (Uc 0 rfl (lssF (by omega)) (Uf 0 [2,6,7,11,12,13,14] rfl (Ut 1 rfl (Go'.condF rfl (Ut 2 rfl (Ur 4 0 rfl (Uf 4 [4,5] rfl (Go'.ret (vs:=[_,_]) func85 results85 ⟨rfl,rfl,trivial⟩ ?_))))))))
  exact ⟨_,_,rfl,hA.out,hB.out,hF1.trans hF⟩
theorem lawGSetHint_spec {B:World} {H:Mem} {d:Nat} {nl:Bool} {v u:Value} {ord:List Int} {l:List (Int×Int)} (hd:d=0∨2≤d∧d≤128) (ho:InS EN H v ord) (hol:ord.length≤4294967296) (hi:InS EJ H u l) (hll:l.length≤4294967296):
  Fn Try.prog B 37 [.agg #[v,.int .i64 (d:Int),.bool nl],u] H (fun r H'=>r=.bool true∧Fr nowhere H H'):=by
 obtain ⟨a,c,hu⟩:=hi.len
 subst hu
 obtain ⟨av,mv,cv,hv⟩:=InS.form ho
 subst hv
 have hF:Fr nowhere H H:=Fr.refl _ _
 have hP:=PD_ok hd
 refine fn_of func37 rfl ntmps37 ?_
 refine (show Go' _ _ _ _ 29 [(0,_),(1,_)] [.code _] _ from ?_)
 refine Ut 1 rfl (Ur 2 2 rfl (O.box rfl rfl rfl rfl ?_))
 intro B1 MB1
 refine ⟨trivial,?_⟩
 have hsB1:=MB1.size
 replace hF:=hF.trans (MB1.fr nowhere)
 have mm:Rd B1 H.size 0 [.slice av mv cv,.int .i64 (d:Int),.bool nl]:=MB1.rd _ [] (by simp [Value.cells])
 have mm0:cl B1 H.size 0=some (.slice av mv cv):=mm 0 _ rfl
 have mm1:cl B1 H.size (0+1)=some (.int .i64 (d:Int)):=mm 1 _ rfl
 refine Uf 1 [1,2,4] rfl (Ut 1 rfl ?_)
 have hpl:=Pl.puts_length (OO ord) l
 have hgl:=Pl.gots_length (OO ord) l
 refine Ur 8 33 rfl (Us 0 rfl mm rfl (Uq 1 rfl (O.call rfl rfl rfl call84 rfl (igsethint_spec hd (ho.fr hF) hol (hi.fr hF) hll) ?_)))
 rintro _ H3 ⟨v1,v2,rfl,h1,h2,hF3⟩
 replace hF:=hF.trans hF3
 replace mm:=hF3.rd mm (fun _ _=>nw)
 replace mm0:=hF3.keep mm0 nw
 replace mm1:=hF3.keep mm1 nw
 refine ⟨trivial,?_⟩
 refine Uf 5 [1,2,4,5,6] rfl (Ut 1 rfl (Ur 8 33 rfl (Us 0 rfl mm rfl (Uq 1 rfl (O.call rfl rfl rfl call85 rfl (gset_spec (ho.fr hF) (by omega) (hi.fr hF) hll) ?_)))))
 rintro _ H4 ⟨v3,v4,rfl,h3,h4,hF4⟩
 replace hF:=hF.trans hF4
 replace mm:=hF4.rd mm (fun _ _=>nw)
 replace mm0:=hF4.keep mm0 nw
 replace mm1:=hF4.keep mm1 nw
 refine ⟨trivial,?_⟩
 refine Uf 5 [4,5,6,7,8] rfl (Ut 1 rfl (Ur 9 8224 rfl (Uq 2 rfl (O.callQ rfl rfl rfl call83 rfl (eqFounds_spec (h1.inS.fr hF4) h3.inS (by omega)) trivial (Uq 3 rfl (O.callQ rfl rfl rfl call28 rfl (eqItems_spec (h2.inS.fr hF4) h4.inS (by omega)) trivial (Uf 2 [4] rfl (Go'.ret (vs:=[_]) func37 results37 ⟨rfl,trivial⟩ ?_))))))))
 exact ⟨rfl,hF⟩
theorem fnExactGSetHint {B:World} {H:Mem} {z:Int} {nl:Bool} {v u:Value} {ord:List Int} {l:List (Int×Int)} (ho:InS EN H v ord) (hi:InS EJ H u l):
  Fn Try.prog B 8 [.agg #[v,.int .i64 z,.bool nl],u] H (fun r H'=>r=.bool true∧Fr nowhere H H'):=by
 obtain ⟨a,c,hu⟩:=hi.len
 subst hu
 obtain ⟨av,mv,cv,hv⟩:=InS.form ho
 subst hv
 have hF:Fr nowhere H H:=Fr.refl _ _
 refine fn_of func8 rfl ntmps8 ?_
 refine (show Go' _ _ _ _ 27 [(0,_),(1,_)] [.code _] _ from ?_)
 refine Ut 1 rfl (Ur 2 2 rfl (O.box rfl rfl rfl rfl ?_))
 intro B1 MB1
 refine ⟨trivial,?_⟩
 have hsB1:=MB1.size
 replace hF:=hF.trans (MB1.fr nowhere)
 have mm:Rd B1 H.size 0 [.slice av mv cv,.int .i64 z,.bool nl]:=MB1.rd _ [] (by simp [Value.cells])
 have mm0:cl B1 H.size 0=some (.slice av mv cv):=mm 0 _ rfl
 have mm1:cl B1 H.size (0+1)=some (.int .i64 z):=mm 1 _ rfl
 refine Uf 1 [1,2,4] rfl (Ut 2 rfl ?_)
 cases hoz:decide (ord.length≤2147483647)
 ·
  refine Ur 8 9 rfl (Us 0 rfl mm rfl (O.call rfl rfl rfl call23 rfl (zzFits1_spec (ho.fr hF) hoz) ?_))
  rintro _ H1 ⟨rfl,hF1⟩
  replace hF:=hF.trans hF1
  replace mm:=hF1.rd mm (fun _ _=>nw)
  replace mm0:=hF1.keep mm0 nw
  replace mm1:=hF1.keep mm1 nw
  refine ⟨trivial,?_⟩
  refine Uf 6 [1,2,4,12] rfl (Go'.condT rfl (Ut 1 rfl (Ur 1 0 rfl (Uf 1 [1,2,4] rfl (Go'.ret (vs:=[_]) func8 results8 ⟨rfl,trivial⟩ ?_)))))
  exact ⟨rfl,hF⟩
 ·
  have hoz2:=of_decide_eq_true hoz
  by_cases hb_lenl:(2147483647:Int)<(l.length:Int)
  ·
   refine Ur 8 9 rfl (Us 0 rfl mm rfl (O.call rfl rfl rfl call23 rfl (zzFits1_spec (ho.fr hF) hoz) ?_))
   rintro _ H1 ⟨rfl,hF1⟩
   replace hF:=hF.trans hF1
   replace mm:=hF1.rd mm (fun _ _=>nw)
   replace mm0:=hF1.keep mm0 nw
   replace mm1:=hF1.keep mm1 nw
   refine ⟨trivial,?_⟩
   refine Uc 4 rfl (gtrT (by omega)) (Uf 1 [1,2,4,12] rfl (Go'.condT rfl (Ut 1 rfl (Ur 1 0 rfl (Uf 1 [1,2,4] rfl (Go'.ret (vs:=[_]) func8 results8 ⟨rfl,trivial⟩ ?_))))))
   exact ⟨rfl,hF⟩
  ·
   refine Ur 8 9 rfl (Us 0 rfl mm rfl (O.call rfl rfl rfl call23 rfl (zzFits1_spec (ho.fr hF) hoz) ?_))
   rintro _ H1 ⟨rfl,hF1⟩
   replace hF:=hF.trans hF1
   replace mm:=hF1.rd mm (fun _ _=>nw)
   replace mm0:=hF1.keep mm0 nw
   replace mm1:=hF1.keep mm1 nw
   refine ⟨trivial,?_⟩
   refine Uc 4 rfl (gtrF (by omega)) (Uf 1 [1,2,4,12] rfl (Go'.condF rfl (Ut 2 rfl ?_)))
   cases hfz:fitsb z
   ·
    refine Ur 15 8660010 rfl (O.call rfl rfl rfl call30 rfl exMake_spec ?_)
    rintro _ H2 ⟨rfl,hF2⟩
    replace hF:=hF.trans hF2
    replace mm:=hF2.rd mm (fun _ _=>nw)
    replace mm0:=hF2.keep mm0 nw
    replace mm1:=hF2.keep mm1 nw
    refine ⟨trivial,?_⟩
    refine O.call rfl rfl rfl call32 rfl exItems_spec ?_
    rintro ev H3 ⟨hev,hF3⟩
    replace hF:=hF.trans hF3
    replace mm:=hF3.rd mm (fun _ _=>nw)
    replace mm0:=hF3.keep mm0 nw
    replace mm1:=hF3.keep mm1 nw
    refine ⟨trivial,?_⟩
    refine O.call rfl rfl rfl call37 rfl (lawGSetHint_spec (d:=2) (by decide) (InS.nil EN _) (by decide) hev (by decide)) ?_
    rintro _ H4 ⟨rfl,hF4⟩
    replace hF:=hF.trans hF4
    replace mm:=hF4.rd mm (fun _ _=>nw)
    replace mm0:=hF4.keep mm0 nw
    replace mm1:=hF4.keep mm1 nw
    refine ⟨trivial,?_⟩
    refine Ul 2 rfl mm1 (O.callQ rfl rfl rfl call33 rfl (fits_spec' hfz) trivial (Uq 4 rfl (Pl.pass2 rfl rfl rfl rfl trivial (Uf 3 [4] rfl (Go'.ret (vs:=[_]) func8 results8 ⟨rfl,trivial⟩ ?_)))))
    exact ⟨rfl,hF⟩
   ·
    obtain ⟨d,rfl,hd⟩:=fitsb_nat hfz
    refine Ur 15 8660010 rfl (O.call rfl rfl rfl call30 rfl exMake_spec ?_)
    rintro _ H2 ⟨rfl,hF2⟩
    replace hF:=hF.trans hF2
    replace mm:=hF2.rd mm (fun _ _=>nw)
    replace mm0:=hF2.keep mm0 nw
    replace mm1:=hF2.keep mm1 nw
    refine ⟨trivial,?_⟩
    refine O.call rfl rfl rfl call32 rfl exItems_spec ?_
    rintro ev H3 ⟨hev,hF3⟩
    replace hF:=hF.trans hF3
    replace mm:=hF3.rd mm (fun _ _=>nw)
    replace mm0:=hF3.keep mm0 nw
    replace mm1:=hF3.keep mm1 nw
    refine ⟨trivial,?_⟩
    refine O.call rfl rfl rfl call37 rfl (lawGSetHint_spec (d:=2) (by decide) (InS.nil EN _) (by decide) hev (by decide)) ?_
    rintro _ H4 ⟨rfl,hF4⟩
    replace hF:=hF.trans hF4
    replace mm:=hF4.rd mm (fun _ _=>nw)
    replace mm0:=hF4.keep mm0 nw
    replace mm1:=hF4.keep mm1 nw
    refine ⟨trivial,?_⟩
    refine Ul 2 rfl mm1 (O.callQ rfl rfl rfl call33 rfl (fits_spec' hfz) trivial (Us 2 rfl mm rfl (Uq 1 rfl (O.call rfl rfl rfl call37 rfl (lawGSetHint_spec hd (ho.fr hF) (by omega) (hi.fr hF) (by omega)) ?_))))
    rintro _ H5 ⟨rfl,hF5⟩
    replace hF:=hF.trans hF5
    replace mm:=hF5.rd mm (fun _ _=>nw)
    replace mm0:=hF5.keep mm0 nw
    replace mm1:=hF5.keep mm1 nw
    refine ⟨trivial,?_⟩
    refine Uf 3 [4] rfl (Go'.ret (vs:=[_]) func8 results8 ⟨rfl,trivial⟩ ?_)
    exact ⟨rfl,hF⟩
end Go.Bt.FG
