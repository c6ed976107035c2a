/- Contracts of functions of the program, proved by walking through their code. Conditions: those that each theorem names. -/
import Derived.Test.YtmcnochofpgfbaaTogV
import Derived.Test.YtmcnochofpgfbaaTogD
import Derived.Test.YtmcnochofpgfbaaToKs
set_option linter.unusedVariables false
namespace Go.Bt.FG
open Go Go.Proofs Go.Proofs.Try
set_option maxRecDepth 20000
set_option maxHeartbeats 4000000
set_option linter.unusedSectionVars false
section
variable [Inhabited Cx]
theorem st113:StT Try.prog 113 [(0,1),(1,1)] [.pointer none,.int .i64 0]:=⟨⟨_,underlying113,fun w=>by simp [Array.mapM_eq_mapM_toList,sizeOf3,sizeOf107]⟩,zeroValue113⟩
theorem da_spec {B:World} {H:Mem} {tr dl:Nat} {P:Ps} (hP:PsOk P) {A R0:List (Int×Int)} {low:Int×Int} {TA0:Nat→Nat→Prop} {gf:FuncId} {us cs:List Value} {stop:(Int×Int)→Bool} {W:Nat→Nat→Prop} (cb:Ak Try.prog B gf us cs R0 stop dl H W) (hcall:∀(args:Array Value) (w:World),(callFunc gf args).run Try.prog w=.ok (.enter gf args) w) (mono:∀x y,OI.lt x y=true→stop x=true→stop y=true)
  (hW:∀b o,(TA0 b o∨(b=tr∧(o=2∨o=3))∨b=dl)→W b o) (hs:Pl.Srt OI (A++R0)) (hpv:Pv OI A R0 low) (hlen:(A++R0).length<2147483648)
  (hT:(A++R0=[]∧RtZ H tr P∧∀b o,¬TA0 b o)∨∃h0,∃t0:Gt EJ h0,RtT H tr P (A++R0) h0 t0∧TA0=Gt.af h0 t0) (hdl:cx.base≤dl) (hdl0:dl<H.size) (hda:∀b o,TA0 b o→b≠dl) (hT0:cb.T [] (fun _=>False) H):
  Fn Try.prog B 33 [ptr tr,.agg (EJ.enc low).toArray,.func (.func gf) us.toArray cs.toArray] H (fun r H'=>ArQ (dcA cb mono TA0 tr P) A R0 H'):=by
 obtain ⟨D,hD⟩:∃D:Dc,D=dcA cb mono TA0 tr P:=⟨_,rfl⟩
 rw [←hD]
 unfold ptr
 refine fn_of func33 rfl ntmps33 ?_
 refine (show Go' _ _ _ _ 407 [(0,_),(1,_),(2,_)] [.code _] _ from ?_)
 refine Ut 1 rfl ?_
 have htc:TrC H tr P.iso P.mx P.mn:=hT.elim (fun h=>h.2.1.tc) (fun ⟨_,_,h⟩=>h.1.tc)
 have htb:=htc.tb
 have hbs:=htc.hb
 have hF:Fr nowhere H H:=Fr.refl _ _
 refine Ur 1 2 rfl (O.box rfl rfl rfl rfl ?_)
 intro H1 M1
 refine ⟨trivial,?_⟩
 have hs1:=M1.size
 replace hF:=hF.trans (M1.fr nowhere)
 have m15:Rd H1 H.size 0 (EJ.enc low):=M1.rd _ [] (by simp [Value.cells])
 have w15:Wr H1 H.size 0 2:=M1.wr 2 (by simp [Value.cells,EJ])
 refine Uf 0 [0,1,2,4] rfl (Ut 3 rfl (Ur 2 8 rfl (Uq 1 rfl (O.callQ rfl rfl rfl call57 rfl lock_spec trivial (Uf 0 [0,1,2,4,20] rfl (Go'.condF rfl (Ut 2 rfl (Ur 1 2 rfl (O.alloc rfl rfl rfl zeroValue103 ?_)))))))))
 intro H2 M2
 refine ⟨trivial,?_⟩
 have hs2:=M2.size
 replace hF:=hF.trans (M2.fr nowhere)
 replace m15:=(M2.fr nowhere).rd m15 (fun _ _=>nw)
 replace w15:=(M2.fr nowhere).wr w15
 have hk:HintM H2 H1.size:=HintM.new M2 (by intro i hi;rcases i with _|_|_|_|_|_|_|_|i<;>first|rfl|omega) (by intro i hi;rcases i with _|_|_|_|_|_|_|_|i<;>first|rfl|omega) (by decide)
 refine Uf 0 [0,1,2,4,6,20] rfl (Ut 1 rfl (Ur 1 0 rfl (Uf 1 [0,1,2,4,6,7,20] rfl (Ut 4 rfl ?_))))
 have q1:H1.size=H.size+1:=hs1
 rw [q1] at hk
 rw [q1]
 have hTA0:∀b o,TA0 b o→cx.base≤b∧b<H.size:=fun b o hb=>by
  rcases hT with ⟨_,_,h9⟩|⟨h0,t0,hR,rfl⟩
  · exact absurd hb (h9 b o)
  · exact ⟨hR.nt b o hb,hR.g.lt hb⟩
 have hB:∀TA,(∀b o,TA b o→TA0 b o)→DrB D H2 low (.slice none 0 0) [] (fun _=>False) (fun _=>False) [] TA:=fun TA hTA=>by
  subst hD
  exact {
   sz:=(by show H.size+2≤_;omega)
   nb:=⟨hdl,hdl0,hbs,htb,(show H.size≤H.size+1 by omega),(show H.size+1<H.size+2 by omega),(show H.size≤H.size by omega),(show H.size<H.size+2 by omega),(show H.size+1≠H.size by omega)⟩
   ow:=trivial
   hk:=.inr ⟨_,rfl,fun b=>Iff.rfl,(by show H.size+1<_;omega),(fun hh=>by have h9:H.size+1<cx.base:=hh.1;omega),hk⟩
   m15:=m15
   w15:=w15
   stk:=.inl ⟨rfl,rfl⟩
   z16:=fun _ h=>h.elim
   lst:=cb.fr hT0 hF fun _ _ _=>nw
   zq:=fun _ h=>h.elim
   zz:=fun _ h=>h.elim
   pcs:=fun _ h=>absurd h List.not_mem_nil
   dj:=fun b o hb=>by
    rcases hb with hb|⟨p,hp,_⟩
    ·
     have h9:=hTA0 b o (hTA b o hb)
     refine ⟨h9.1,fun hh=>?_,by omega,.inl (hTA b o hb)⟩
     rcases hh with hh|hh|hh
     ·
      rcases hh with hh|hh
      ·
       have h8:H.size≤b:=hh.1
       omega
      · exact hda b o (hTA b o hb) hh
     · exact hh
     · exact hh
    · exact absurd hp List.not_mem_nil
   djp:=fun b o p hp=>absurd hp List.not_mem_nil
   fr0:=hF.mono fun b o _ h=>h.elim
   srz:=fun _ h=>absurd h List.not_mem_nil }
 have J0:Ar D A R0 (.slice none 0 0) (A++R0).length H2:=by
  refine ⟨R0,low,fun _=>False,fun _=>False,[],rfl,⟨Dri.start OI hs,rfl⟩,hpv,?_⟩
  rcases hT with ⟨h1,h2,h3⟩|⟨h0,t0,hR,hA⟩
  ·
   refine .inl ⟨h1,?_,hB _ fun _ _ h=>h.elim⟩
   rw [hD]
   exact ⟨h2.tc.fr hF fun _ _ _ _=>nw,hF.keep h2.cnt nw,hF.keep h2.c nw⟩
  ·
   refine .inr ⟨h0,t0,?_,hB _ (fun b o hb=>by rw [hA];exact hb),seg_start (hR.fr hF ⟨fun _ _ _=>nw,fun _ _ _=>nw⟩).g⟩
   rw [hD]
   exact hR.fr hF ⟨fun _ _ _=>nw,fun _ _ _=>nw⟩
 have hPD:PsOk D.P:=by subst hD;exact hP
 have hDn:H.size=D.n:=by subst hD;rfl
 have hn5:D.hb=D.n+1:=by subst hD;rfl
 have hn6:D.pb=D.n:=by subst hD;rfl
 have hm7:D.m=D.n+2:=by subst hD;rfl
 have hDtr:tr=D.tr:=by subst hD;rfl
 have hDC:D.Hs=H∧D.dl=dl∧D.stop=stop∧(∀b o,D.R0 b o→W b o)∧∀H Zq Ts,D.LS H Zq Ts=cb.T (flat (Ts.map QT.pc)) Zq H:=by subst hD;exact ⟨rfl,rfl,rfl,hW,fun _ _ _=>rfl⟩
 rw [hDn,hDtr]
 rw [←hn5]
 rw [←hn6]
 clear hB hTA0 hDn hDtr hD hT hda htc hF hk w15 m15 hs hpv hdl hdl0 htb hbs q1 hs1 hs2 M1 M2 hT0 hW
 refine Uk [0,2,4,6,7] rfl (Go'.ind (σ:=Value×Nat) (fun s=>s.2) (fun s H'=>Ar D A R0 s.1 s.2 H') (fun s=>[(0,.pointer (some ⟨D.tr,0,none⟩)),(2,.func (.func gf) us.toArray cs.toArray),(4,.pointer (some ⟨D.pb,0,none⟩)),(6,.pointer (some ⟨D.hb,0,none⟩)),(7,s.1)]) (.slice none 0 0,(A++R0).length) J0 rfl ?_)
 clear J0
 rintro ⟨sv,m0⟩ H0 J ih0
 simp only at ih0
 obtain ⟨R,pv,Z16,Zq,Ts,hm0,⟨dri,hord⟩,hpv0,hdt⟩:=J
 rcases hdt with ⟨e0,hz0,hB⟩|⟨h0,t0,hT,hB,hS⟩
 ·
  refine Ur 5 64 rfl (Ul 3 rfl hz0.c (O.isNil rfl rfl rfl rfl underlying107 rfl rfl (Uf 0 [0,2,4,6,7,26] rfl (Go'.condT rfl (Go'.ret func33 results33 (vs:=[]) trivial ?_)))))
  exact ⟨R,pv,sv,[],Z16,Zq,Ts,[],_,dri,hord,.inl ⟨rfl,(List.append_eq_nil_iff.1 e0).2⟩,by rw [List.append_nil];exact hB,.inl ⟨e0,hz0⟩⟩
 ·
  refine Ur 5 64 rfl (Ul 3 rfl (show cl _ D.tr 2=some (.pointer (some ⟨Gt.p h0 t0,0,none⟩)) from hT.c) (O.isNil rfl rfl rfl rfl underlying107 rfl rfl (Uf 0 [0,2,4,6,7,26] rfl (Go'.condF rfl (Ut 2 rfl ?_)))))
  obtain ⟨kp0,hn0⟩:=hT.g.node
  have hiso0:=hn0.c0
  rw [hT.g.isoe] at hiso0
  refine Ur 6 512 rfl (Uq 4 rfl (O.callQ rfl rfl rfl call59 rfl (isoLoad_spec true (show cl _ D.tr 2=some (.pointer (some ⟨Gt.p h0 t0,0,none⟩)) from hT.c) hiso0 hT.tc.iso) trivial (Uf 1 [0,2,4,6,7,8,26] rfl (Ut 1 rfl (Ur 6 640 rfl (Uq 2 rfl (O.bld (cs:=(EK.enc (Gt.p h0 t0,(0:Int)))) rfl rfl rfl rfl (st113) rfl (by kernel_rfl) (O.bsl (cs:=(EK.enc (Gt.p h0 t0,(0:Int)))) rfl rfl rfl ⟨underlying104,sizeOf113,zeroValue113,⟨_,typeInfo113,rfl⟩,rfl,by decide,by decide⟩ rfl (by decide) (by kernel_rfl) ?_))))))))
  intro Hs1 Ms1
  have hms1:=Ms1.size
  have hB1:=hB.nw (Ms1.fr nowhere)
  have rm1:Rd Hs1 _ 0 (row EK [(Gt.p h0 t0,(0:Int))]):=Ms1.rd _ [] (by simp [row])
  refine ⟨trivial,?_⟩
  refine O.appA (E:=EK) (Y:=[(Gt.p h0 t0,(0:Int))]) rfl rfl rfl ⟨underlying104,sizeOf113,zeroValue113,⟨_,typeInfo113,rfl⟩,rfl,by decide,by decide⟩ rfl hB1.stk rfl ⟨_,_,_,rfl,rm1⟩ (Nat.succ_pos _) (Nat.le_trans (Nat.mul_le_mul_left _ (Nat.le_of_ble_eq_true (n:=_) (m:=4096) rfl)) (by simp only [stI,List.length_map,List.length_cons,List.length_nil];omega)) (by simp only [stI,List.length_map,List.length_cons,List.length_nil];omega) ?_
  intro sv1 Ht1 hAt1 hFt1 hst1
  have hgt1:=hFt1.size
  have hB2:=hB1.stack (st':=[(Gt.p h0 t0,0)]) hFt1 hAt1 (fun b hb=>by
   rcases hb with hb|⟨rfl,hb⟩
   · exact ⟨.inl hb,by have:=(hB1.z16 b hb).2;omega⟩
   · exact ⟨.inr (Nat.le_refl _),hb⟩)
  have hT2:=(hT.fr (Ms1.fr nowhere) ⟨fun _ _ _ h=>h,fun _ _ _ h=>h⟩).fr hFt1 (hB1.keeps fun b o h=>.inr (.inl h))
  refine ⟨trivial,?_⟩
  refine Uf 1 [0,2,4,6,7,8,26] rfl (Ut 1 rfl ?_)
  have J:A1 D A R0 m0 sv1 (Gt.p h0 t0) ((A++R).length*(m0+1)+h0) Ht1:=
   ⟨R,pv,[],_,Zq,Ts,h0,t0,h0,t0,[],[],⟨⟨dri,hT2,hB2,hS,.nil⟩,hord⟩,hpv0,⟨fun _ h=>absurd h List.not_mem_nil,fun _ h=>absurd h List.not_mem_nil⟩,rfl,Nat.le_of_eq hm0.symm,rfl⟩
  clear hB2 hT2 hB hS hT
  refine Go'.loop (Uk [0,2,4,6,7,8] rfl (Go'.ind (σ:=Value×Nat×Nat) (fun s=>s.2.2) (fun s H'=>A1 D A R0 m0 s.1 s.2.1 s.2.2 H') (fun s=>[(0,.pointer (some ⟨D.tr,0,none⟩)),(2,.func (.func gf) us.toArray cs.toArray),(4,.pointer (some ⟨D.pb,0,none⟩)),(6,.pointer (some ⟨D.hb,0,none⟩)),(7,s.1),(8,.pointer (some ⟨s.2.1,0,none⟩))]) (sv1,Gt.p h0 t0,(A++R).length*(m0+1)+h0) J rfl ?_))
  clear J
  clear dri hord hpv0 hm0 hAt1 hFt1 hgt1 hst1 hB1 rm1
  rintro ⟨sv,p,m1⟩ H J ih1
  simp only at ih1 J
  obtain ⟨R,pv,fs,Z16,Zq,Ts,h0,t0,h,t,A1,C1,⟨J,hord⟩,hpv,hwv,rfl,hm0,hm1⟩:=J
  refine (show Go' _ _ _ _ _ [(0,.pointer (some ⟨D.tr,0,none⟩)),(2,.func (.func gf) us.toArray cs.toArray),(4,.pointer (some ⟨D.pb,0,none⟩)),(6,.pointer (some ⟨D.hb,0,none⟩)),(7,sv),(8,.pointer (some ⟨Gt.p h t,0,none⟩))] _ _ from ?_)
  refine Ut 3 rfl ?_
  obtain ⟨b16,o16,c16,rfl,hz16,hb16,hsl⟩:=Acc.stk J.B.stk
  obtain ⟨kp,hn⟩:=Gt.Good.nodeP J.good
  have hsX:=Gt.srtX J.good J.srtL
  have hx1:=J.x1 hPD
  have hxm:=J.good.xmx
  have hx255:=hPD.hx
  have hll:(A++R).length≤(A++R0).length:=by
   have:=J.dri.pm.length_eq
   simp only [List.length_append] at this ⊢
   omega
  have htl:=J.tall hPD
  refine Ur 12 8208 rfl (Us 2 rfl J.B.m15 rfl (Ub 2 (((fs.length:Nat):Int)) rfl (by omega) (O.call rfl rfl rfl call60 rfl (find_spec J.T.tc pv hn hsX (by omega) hx1 J.B.hk J.off5 (dp:=fs.length) (by omega)) ?_)))
  rintro _ H1 ⟨rfl,hf1,hk1⟩
  replace J:=J.step hf1 (fun b o h=>h) hk1
  refine ⟨trivial,?_⟩
  refine Uf 5 [0,2,4,6,7,8,9,10] rfl (Ut 4 rfl (Uk [0,2,4,6,7,8,9,10] rfl ?_))
  have J':A2 D A R0 m0 m1 (.slice (some ⟨b16,o16,none⟩) (fs.length+1) c16) (Gt.p h t) (Pl.pos OI pv (Gt.X h t)) (Pl.fnd OI pv (Gt.X h t)) (2*(A++R).length+(if h=0 then 1 else 0)) H1:=
   ⟨R,pv,fs,Z16,Zq,Ts,h0,t0,h,t,A1,C1,⟨J,hord⟩,rfl,hm0,rfl,J.cu hpv hwv hm1⟩
  refine Go'.ind (σ:=Value×Nat×Nat×Bool×Nat) (fun s=>s.2.2.2.2) (fun s H'=>A2 D A R0 m0 m1 s.1 s.2.1 s.2.2.1 s.2.2.2.1 s.2.2.2.2 H') (fun s=>[(0,.pointer (some ⟨D.tr,0,none⟩)),(2,.func (.func gf) us.toArray cs.toArray),(4,.pointer (some ⟨D.pb,0,none⟩)),(6,.pointer (some ⟨D.hb,0,none⟩)),(7,s.1),(8,.pointer (some ⟨s.2.1,0,none⟩)),(9,.int .i64 (s.2.2.1:Int)),(10,.bool s.2.2.2.1)]) (.slice (some ⟨b16,o16,none⟩) (fs.length+1) c16,Gt.p h t,Pl.pos OI pv (Gt.X h t),Pl.fnd OI pv (Gt.X h t),2*(A++R).length+(if h=0 then 1 else 0)) J' rfl ?_
  clear J' J hord hpv hwv hm0 hm1 hsl hn hsX hx1 hxm hll htl hf1 hk1
  rintro ⟨sv,p,i,fd,m2⟩ H J ih2
  simp only at ih2 J
  obtain ⟨R,pv,fs,Z16,Zq,Ts,h0,t0,h,t,A1,C1,⟨J,hord⟩,rfl,hm0,hm2,hcu⟩:=J
  obtain ⟨b16,o16,c16,rfl,hz16,hb16,hsl⟩:=Acc.stk J.B.stk
  have hx1:=J.x1 hPD
  have hxm:=J.good.xmx
  have hll:(A++R).length≤(A++R0).length:=by
   have:=J.dri.pm.length_eq
   simp only [List.length_append] at this ⊢
   omega
  have htl:=J.tall hPD
  refine (show Go' _ _ _ _ _ [(0,.pointer (some ⟨D.tr,0,none⟩)),(2,.func (.func gf) us.toArray cs.toArray),(4,.pointer (some ⟨D.pb,0,none⟩)),(6,.pointer (some ⟨D.hb,0,none⟩)),(7,.slice (some ⟨b16,o16,none⟩) (fs.length+1) c16),(8,.pointer (some ⟨Gt.p h t,0,none⟩)),(9,.int .i64 (i:Int)),(10,.bool fd)] _ _ from ?_)
  rcases h with _|h
  rotate_left
  ·
   obtain ⟨g,X,K⟩:=t
   obtain ⟨k,R1,R2,hcu,hft,hff⟩:=hcu
   replace hcu:CuI A R A1 C1 ((g,X,K):Gt EJ (h+1)) i k R1 R2:=hcu
   replace hft:fd=true→R1=[]∧i<X.length:=hft
   replace hff:fd=false→Pv OI A R pv∧Pv OI A1 C1 pv∧i=Pl.pos OI pv X∧(A++R).length*(m0+1)+(h+1)≤m1:=hff
   have hI:Inn H D.P h g X ((Gt.ps h K).map some) K:=J.good.inn
   have hKl:K.length=X.length+1:=J.good.2.2.2.2.2.1
   replace hx1:1≤X.length:=hx1
   replace hxm:X.length≤D.P.mx:=hxm
   have hx255:=hPD.hx
   have hmn1:=hPD.h1
   have hil:i≤X.length:=by
    have:=(List.getElem?_eq_some_iff.1 hcu.kk).1
    have e:((g,X,K):Gt EJ (h+1)).2.2.length=K.length:=rfl
    omega
   refine Ur 5 64 rfl (Ul 3 rfl hI.n.c3 (O.notNil rfl rfl rfl rfl underlying117 rfl rfl (Uf 0 [0,2,4,6,7,8,9,10,51] rfl (Go'.condT rfl (Ut 1 rfl (Ur 1 0 rfl (Uf 1 [0,2,4,6,7,8,9,10,51,52] rfl ?_)))))))
   cases fd
   rotate_left
   ·
    refine Go'.condT rfl (Ut 1 rfl ?_)
    obtain ⟨hR1,hil2⟩:=hft rfl
    obtain ⟨x,hx⟩:∃x,X[i]?=some x:=⟨X[i],List.getElem?_eq_getElem hil2⟩
    obtain ⟨k2,hk2⟩:∃k2,K[i+1]?=some k2:=⟨K[i+1]'(by omega),List.getElem?_eq_getElem (by omega)⟩
    have eR:R=x::(Gt.L h k2++bhd ((g,X,K):Gt EJ (h+1)) (i+1)++C1):=by
     rw [hcu.r,hR1,bhd_cons (t:=((g,X,K):Gt EJ (h+1))) hx hk2];simp
    obtain ⟨R',hR'⟩:∃R',R'=Gt.L h k2++bhd ((g,X,K):Gt EJ (h+1)) (i+1)++C1:=⟨_,rfl⟩
    rw [←hR'] at eR
    clear hcu hff hft
    subst eR
    cases hst:D.stop x
    rotate_left
    ·
     have hcell3:∀b o,innc h g K b o→cx.base≤b∧¬(D.own b∨Z16 b∨Zq b):=fun b o hb=>⟨(J.cell hb).1,(J.cell hb).2.1⟩
     refine Ur 10 147712 rfl (Ul 4 rfl hI.n.c2 (Ux 1 i rfl (by omega) (by omega) (Us 0 rfl (hI.n.sl.item hx) rfl (O.callC rfl rfl rfl rfl hcall rfl (ask_spec hDC J.B x hord) ?_))))
     rintro _ H5 ⟨rfl,Zq',B5,hf5⟩
     rw [hst,if_pos rfl]
     refine ⟨trivial,?_⟩
     refine Uf 1 [0,2,4,6,7,8,9,10,11,51,52] rfl (Ut 1 rfl ?_)
     have T5:=J.T.fr hf5 (J.B.keeps fun b o h=>h.elim (fun e=>.inl (.inr e)) (fun e=>.inr (.inr e)))
     refine Ur 1 0 rfl (Uf 1 [0,2,4,6,7,8,9,10,11,51,52,62] rfl (Ut 2 rfl (Ur 2 0 rfl (Uc 0 rfl (eqlF (by omega)) (Uf 1 [0,2,4,6,7,8,9,10,11,51,52,62,63] rfl (Go'.condF rfl (Ut 1 rfl (Ur 2 0 rfl (Uc 0 rfl (eqlF (by omega)) (Uf 1 [0,2,4,6,7,8,9,10,11,51,52,62,63,83] rfl (Go'.condF rfl ?_)))))))))))
     refine Go'.ret func33 results33 (vs:=[]) trivial ?_
     exact ⟨_,_,_,_,_,_,Ts,[(x,none)],_,J.dri,hord,.inr ⟨x,R',rfl,rfl,hst⟩,B5,.inr ⟨h0,t0,T5,rfl⟩⟩
    ·
     have hcell3:∀b o,innc h g K b o→cx.base≤b∧¬(D.own b∨Z16 b∨Zq b):=fun b o hb=>⟨(J.cell hb).1,(J.cell hb).2.1⟩
     refine Ur 10 147712 rfl (Ul 4 rfl hI.n.c2 (Ux 1 i rfl (by omega) (by omega) (Us 0 rfl (hI.n.sl.item hx) rfl (O.callC rfl rfl rfl rfl hcall rfl (ask_spec hDC J.B x hord) ?_))))
     rintro _ H5 ⟨rfl,Zq',B5,hf5⟩
     rw [hst,if_neg (by decide)]
     refine ⟨trivial,?_⟩
     refine Uf 1 [0,2,4,6,7,8,9,10,11,51,52] rfl (Ut 1 rfl ?_)
     have T5:=J.T.fr hf5 (J.B.keeps fun b o h=>h.elim (fun e=>.inl (.inr e)) (fun e=>.inr (.inr e)))
     refine Ur 1 0 rfl (Uf 1 [0,2,4,6,7,8,9,10,11,51,52,62] rfl (Ut 2 rfl (Ur 2 0 rfl (Uc 0 rfl (eqlT (by omega)) (Uf 1 [0,2,4,6,7,8,9,10,11,51,52,62,63] rfl (Go'.condT rfl (Ut 1 rfl ?_)))))))
     replace hI:=hI.fr hf5 (fun b o hb hh=>(hcell3 b o hb).2 (hh.elim (fun e=>.inl (.inr e)) (fun e=>.inr (.inr e))))
     clear hsl
     have S4:=J.seg
     have hcell4:∀b o,Gt.af h0 t0 b o→cx.base≤b∧¬(D.own b∨Z16 b∨Zq' b):=fun b o hb=>⟨(B5.dj b o (.inl hb)).1,(B5.dj b o (.inl hb)).2.1⟩
     have hsub4:=J.dn.sub
     have hfx:=(del_next T5.srt).2
     refine Ur 8 36928 rfl (Ul 3 rfl hI.n.c2 (Ux 1 i rfl (by omega) (by omega) (Us 0 rfl (hI.n.sl.item hx) rfl (O.st (vs:=(EJ.enc x)) rfl rfl sizeOf27 rfl rfl rfl rfl rfl B5.w15 ?_))))
     intro H6 W6
     have B6:=B5.piv W6
     have T6:=T5.fr W6.fr (B5.keeps fun b o h=>.inl (.inl (by have:=h.1;omega)))
     replace hI:=hI.fr W6.fr (fun b o hb=>nr (.inl (fun e=>(hcell4 b o (hsub4 b o hb)).2 (.inl (.inl (by omega))))))
     refine ⟨trivial,?_⟩
     refine Uf 0 [0,2,4,6,7,8,9,10,11,51,52,62,63] rfl (Ut 1 rfl (Ur 9 147712 rfl (Ul 4 rfl hI.n.c2 (Ux 1 i rfl (by omega) (by omega) (Us 0 rfl (hI.n.sl.item hx) rfl (O.call rfl rfl rfl call61 rfl (delhT_spec hPD T6 B6.hk (fun b o hb e=>(B6.dj b o (.inl hb)).2.1 (.inl (.inl (by omega)))) (by omega) hfx) ?_))))))
     rintro _ H7 ⟨hq7,hk7,hF7⟩
     refine ⟨trivial,?_⟩
     refine Uf 0 [0,2,4,6,7,8,9,10,11,51,52,62,63] rfl (Ut 1 rfl ?_)
     obtain ⟨dri6,drt6⟩:=drt_del J.dri hst T6 B6 S4 hq7 hk7 hF7
     obtain ⟨_,B7⟩:=drt6.b
     obtain ⟨_,_,_,hsle6,hz6,hb6,hsl6⟩:=Acc.stk B7.stk
     simp only [Value.slice.injEq,Option.some.injEq,Addr.mk.injEq] at hsle6
     obtain ⟨⟨rfl,rfl,_⟩,_,rfl⟩:=hsle6
     have hstl6:(stI ((Gt.p h0 t0,0)::fs)).length=fs.length+1:=by simp [stI]
     have hcap6:=hsl6.hle
     refine Ur 3 0 rfl (Uq 1 rfl (O.slc (jl:=0) (jh:=0) (jm:=c16) rfl rfl rfl rfl underlying104 sizeOf113 rfl rfl ⟨_,by rfl⟩ rfl (by omega) (by omega) (by simp) (by simp) ?_))
     intro oc hoc
     have hoc2:o16=oc:=by rw [hoc (by omega)];simp
     subst hoc2
     refine Uf 1 [0,2,4,6,7,8,9,10,11,51,52,62,63] rfl (Ut 5 rfl (Uk [0,2,4,6,7] rfl ?_))
     have hac6:Acc EK Z16 H7 (.slice (some ⟨b16,o16,none⟩) 0 c16) (stI []):=Acc.take (i:=0) hsl6 hz6 hb6 (Nat.zero_le _)
     have hsrt6:=T6.srt
     exact ih0 (.slice (some ⟨b16,o16,none⟩) 0 c16,(A++R').length) H7 ⟨R',x,Z16,Zq',_,rfl,⟨dri6,fl_snoc hord⟩,pv_next hsrt6,drt6.clr hac6⟩ (by simp only [List.length_append,List.length_cons] at hm0 ⊢;omega)
   ·
    refine Go'.condF rfl (Ut 1 rfl ?_)
    obtain ⟨hpvA,hpv1,hip,hm1⟩:=hff rfl
    have hk:K[i]?=some k:=hcu.kk
    have hkK:=List.mem_of_getElem? hk
    have hok:((Gt.ps h K).map some)[i]?=some (some (Gt.p h k)):=by rw [Gt.ps,List.map_map,List.getElem?_map,hk];rfl
    have hol:((Gt.ps h K).map some).length=X.length+1:=by rw [List.length_map,Gt.ps,List.length_map];exact hKl
    have hgk:=(hI.c.1 k hkK).1
    obtain ⟨kpk,hnk⟩:=hgk.node
    have hisok:=hnk.c0
    rw [hgk.isoe] at hisok
    have hway:=way_down (t:=((g,X,K):Gt EJ (h+1))) J.good J.srtL hpv1 hk hip
    have hdn:=J.dn.down (t:=((g,X,K):Gt EJ (h+1))) hk
    have hB:=J.B
    have hT:=J.T
    have hslen:(stI ((Gt.p h0 t0,0)::fs)).length=fs.length+1:=by simp [stI]
    refine Ur 11 528640 rfl (Ul 4 rfl hI.n.c3 (Ul 1 rfl hI.k.c (Ux 1 i rfl (by omega) (by omega) (O.callQ rfl rfl rfl call59 rfl (isoLoad_spec true (hI.k.at hok) hisok hT.tc.iso) trivial (Uf 1 [0,2,4,6,7,8,9,10,51,52] rfl (Ut 1 rfl (Ur 7 2560 rfl (Uq 3 rfl (O.bld (cs:=(EK.enc (Gt.p h k,(i:Int)))) rfl rfl rfl rfl (st113) rfl (by kernel_rfl) (O.bsl (cs:=(EK.enc (Gt.p h k,(i:Int)))) rfl rfl rfl ⟨underlying104,sizeOf113,zeroValue113,⟨_,typeInfo113,rfl⟩,rfl,by decide,by decide⟩ rfl (by decide) (by kernel_rfl) ?_))))))))))
    intro Hs3 Ms3
    have hms3:=Ms3.size
    have hB1:=hB.nw (Ms3.fr nowhere)
    have rm3:Rd Hs3 _ 0 (row EK [(Gt.p h k,(i:Int))]):=Ms3.rd _ [] (by simp [row])
    refine ⟨trivial,?_⟩
    refine O.appA (E:=EK) (Y:=[(Gt.p h k,(i:Int))]) rfl rfl rfl ⟨underlying104,sizeOf113,zeroValue113,⟨_,typeInfo113,rfl⟩,rfl,by decide,by decide⟩ rfl hB1.stk rfl ⟨_,_,_,rfl,rm3⟩ (Nat.succ_pos _) (Nat.le_trans (Nat.mul_le_mul_left _ (Nat.le_of_ble_eq_true (n:=_) (m:=4096) rfl)) (by rw [hslen];simp only [List.length_cons,List.length_nil];omega)) (by rw [hslen];simp only [List.length_cons,List.length_nil];omega) ?_
    intro sv3 Ht3 hAt3 hFt3 hst3
    have hgt3:=hFt3.size
    have hse:stI ((Gt.p h0 t0,0)::fs)++[(Gt.p h k,(i:Int))]=stI ((Gt.p h0 t0,0)::(fs++[(Gt.p h k,i)])):=by simp [stI]
    rw [hse] at hAt3
    have hB2:=hB1.stack (st':=(Gt.p h0 t0,0)::(fs++[(Gt.p h k,i)])) hFt3 hAt3 (fun b hb=>by
     rcases hb with hb|⟨rfl,hb⟩
     · exact ⟨.inl hb,by have:=(hB1.z16 b hb).2;omega⟩
     · exact ⟨.inr (Nat.le_refl _),hb⟩)
    have hT2:=(hT.fr (Ms3.fr nowhere) ⟨fun _ _ _ h=>h,fun _ _ _ h=>h⟩).fr hFt3 (hB1.keeps fun b o h=>.inr (.inl h))
    refine ⟨trivial,?_⟩
    refine Uf 1 [0,2,4,6,7,8,9,10,51,52] rfl (Ut 1 rfl (Uk [0,2,4,6,7,8] rfl (Go'.inLoop ?_)))
    exact ih1 (sv3,Gt.p h k,(A++R).length*(m0+1)+h) Ht3 ⟨R,pv,fs++[(Gt.p h k,i)],_,Zq,Ts,h0,t0,h,k,_,_,⟨⟨J.dri,hT2,hB2,J.seg,hdn⟩,hord⟩,hpvA,hway,rfl,hm0,rfl⟩ (by simp only;omega)
  ·
   obtain ⟨g,X⟩:=t
   obtain ⟨hA,hR,hil⟩:=hcu
   replace hA:A=A1++X.take i:=hA
   replace hR:R=X.drop i++C1:=hR
   replace hil:i≤X.length:=hil
   have hN:NodeM EJ H g X (.pointer none):=J.good.1
   replace hx1:1≤X.length:=hx1
   replace hxm:X.length≤D.P.mx:=hxm
   have hx255:=hPD.hx
   have hmn1:=hPD.h1
   have hmm:=hPD.hm
   obtain ⟨nL,hnL⟩:∃z,z=(A++R).length:=⟨_,rfl⟩
   have hnm:nL≤m0:=by omega
   have hm2':m2=2*nL+1:=by rw [hnL];simpa using hm2
   refine Ur 5 64 rfl (Ul 3 rfl hN.c3 (O.notNil rfl rfl rfl rfl underlying117 rfl rfl (Uf 0 [0,2,4,6,7,8,9,10,51] rfl (Go'.condF rfl (Ut 2 rfl (Ud 13 1048640 (by kernel_rfl) (Ul 3 rfl hN.c2 (Ub 2 (((X.length-i:Nat):Int)) rfl (by omega) (Ul 3 rfl J.T.tc.mn' (Ub 0 ((((X.length-i:Nat):Int)-(D.P.mn:Int))) rfl (by omega) (Uf 1 [0,2,4,6,7,8,9,10,12,51] rfl ?_)))))))))))
   refine Ut 2 rfl ?_
   refine Go'.join2 (σ:=Unit) (fun _ H'=>∃m,AL D A R0 nL (.slice (some ⟨b16,o16,none⟩) (fs.length+1) c16) g.p i m H') (fun _=>[(0,.pointer (some ⟨D.tr,0,none⟩)),(2,.func (.func gf) us.toArray cs.toArray),(4,.pointer (some ⟨D.pb,0,none⟩)),(6,.pointer (some ⟨D.hb,0,none⟩)),(7,.slice (some ⟨b16,o16,none⟩) (fs.length+1) c16),(8,.pointer (some ⟨g.p,0,none⟩)),(9,.int .i64 (i:Int))]) ?_ ?_
   rotate_left
   ·
    intro tail
    by_cases hbk:D.P.mn+1<X.length-i
    rotate_left
    ·
     refine Ur 2 0 rfl (Uc 1 rfl (gtrF (by omega)) (Uf 0 [0,2,4,6,7,8,9,10,12,51,151] rfl (Go'.condF rfl (Ut 1 rfl (Uk [0,2,4,6,7,8,9] rfl ?_)))))
     exact tail () _ ⟨_,R,pv,fs,Z16,Zq,Ts,h0,t0,lfN g X,A1,C1,⟨J,hord⟩,rfl,Nat.le_of_eq hnL.symm,rfl,hA,hR,hil⟩
    ·
     refine Ur 2 0 rfl (Uc 1 rfl (gtrT (by omega)) (Uf 0 [0,2,4,6,7,8,9,10,12,51,151] rfl (Go'.condT rfl (Ut 1 rfl (Ur 1 0 rfl (Uf 1 [0,2,4,6,7,8,9,10,12,13,51,151] rfl (Ut 1 rfl (Ur 1 0 rfl (Uf 1 [0,2,4,6,7,8,9,10,12,13,14,51,151] rfl (Ut 2 rfl ?_))))))))))
     obtain ⟨mb,hmb⟩:∃mb,mb=X.length-i-D.P.mn:=⟨_,rfl⟩
     have hmbi:(((X.length-i:Nat):Int)-(D.P.mn:Int))=(mb:Int):=by omega
     rw [hmbi]
     have hXd:X.drop i++C1=R:=hR.symm
     refine Go'.cut2 (σ:=Option (Int×Int)×Nat) (fun s H'=>s.2≤mb∧(∀w∈(X.drop i).take s.2,D.stop w=false)∧(∀x,s.1=some x→X[i+s.2]?=some x∧D.stop x=true)∧∃Zq',RtT H' D.tr D.P (A++R) h0 t0∧DrB D H' pv (.slice (some ⟨b16,o16,none⟩) (fs.length+1) c16) ((Gt.p h0 t0,0)::fs) Z16 Zq' ((Ts++((X.drop i).take s.2).map fun e=>((e,none):QT))++s.1.toList.map fun e=>((e,none):QT)) (Gt.af h0 t0)) (fun s=>[(0,.pointer (some ⟨D.tr,0,none⟩)),(2,.func (.func gf) us.toArray cs.toArray),(4,.pointer (some ⟨D.pb,0,none⟩)),(6,.pointer (some ⟨D.hb,0,none⟩)),(7,.slice (some ⟨b16,o16,none⟩) (fs.length+1) c16),(8,.pointer (some ⟨g.p,0,none⟩)),(9,.int .i64 (i:Int)),(13,.int .i64 (if s.1.isSome then 0 else 2)),(14,.int .i64 (s.2:Int))]) ?_ ?_
     rotate_left
     ·
      intro tail
      refine Go'.loop (Uk [0,2,4,6,7,8,9,12,13,14] rfl (Go'.ind (σ:=Nat) (fun s=>mb-s) (fun s H'=>s≤mb∧(∀w∈(X.drop i).take s,D.stop w=false)∧∃Zq',RtT H' D.tr D.P (A++R) h0 t0∧DrB D H' pv (.slice (some ⟨b16,o16,none⟩) (fs.length+1) c16) ((Gt.p h0 t0,0)::fs) Z16 Zq' (Ts++((X.drop i).take s).map fun e=>((e,none):QT)) (Gt.af h0 t0)) (fun s=>[(0,.pointer (some ⟨D.tr,0,none⟩)),(2,.func (.func gf) us.toArray cs.toArray),(4,.pointer (some ⟨D.pb,0,none⟩)),(6,.pointer (some ⟨D.hb,0,none⟩)),(7,.slice (some ⟨b16,o16,none⟩) (fs.length+1) c16),(8,.pointer (some ⟨g.p,0,none⟩)),(9,.int .i64 (i:Int)),(12,.int .i64 (mb:Int)),(13,.int .i64 (if s=0 then 0 else 2)),(14,.int .i64 (s:Int))]) 0 ⟨Nat.zero_le _,fun w hw=>by simp at hw,Zq,J.T,by simpa using J.B⟩ rfl ?_))
      rintro j H3 ⟨hjm,hns,Zq',T3,B3⟩ ihb
      refine Ut 2 rfl ?_
      have hN3:NodeM EJ H3 g X (.pointer none):=(J.dn.good T3.g).1.1
      by_cases hjb:j<mb
      rotate_left
      ·
       refine Ur 3 0 rfl (Uc 2 rfl (lssF (by omega)) (Uf 0 [0,2,4,6,7,8,9,12,13,14,154] rfl (Go'.condF rfl (Ut 1 rfl ?_))))
       rw [if_neg (show ¬j=0 by omega)]
       refine Uk [0,2,4,6,7,8,9,13,14] rfl ?_
       exact tail (none,j) _ ⟨hjm,hns,(fun _ e=>by cases e),Zq',T3,by simpa using B3⟩
      ·
       have hij:i+j<X.length:=by omega
       obtain ⟨x,hx⟩:∃x,X[i+j]?=some x:=⟨X[i+j],List.getElem?_eq_getElem hij⟩
       have htk:(X.drop i).take (j+1)=(X.drop i).take j++[x]:=by rw [List.take_add_one,List.getElem?_drop,hx];rfl
       have hdx:X.drop (i+j)=x::X.drop (i+j+1):=by
        obtain ⟨h8,h9⟩:=List.getElem?_eq_some_iff.1 hx
        rw [←List.getElem_cons_drop (h:=h8),h9]
       have hordj:flat ((Ts++((X.drop i).take j).map fun e=>((e,none):QT)).map QT.pc)++x::(X.drop (i+j+1)++C1)=R0:=by
        have e8:(((X.drop i).take j).map fun e=>((e,none):QT)).map QT.pc=((X.drop i).take j).map fun e=>((e,[]):Pc (Int×Int)):=by rw [List.map_map];rfl
        rw [List.map_append,flat_app,e8,flat_ones,←List.cons_append,←hdx,←hord,hR,List.append_assoc,←List.append_assoc ((X.drop i).take j),←List.drop_drop,List.take_append_drop]
       refine Ur 3 0 rfl (Uc 2 rfl (lssT (by omega)) (Uf 0 [0,2,4,6,7,8,9,12,13,14,154] rfl (Go'.condT rfl (Ut 4 rfl ?_))))
       cases hst:D.stop x
       rotate_left
       ·
        refine Ur 12 2359552 rfl (Ul 4 rfl hN3.c2 (Ua 2 (((i+j:Nat):Int)) rfl (by omega) (Ux 0 (i+j) rfl (by omega) (by omega) (Us 0 rfl (hN3.sl.item hx) rfl (O.callC rfl rfl rfl rfl hcall rfl (ask_spec hDC B3 x hordj) ?_)))))
        rintro _ H4 ⟨rfl,Zq2,B4,hf4⟩
        rw [hst,if_pos rfl]
        have T4:=T3.fr hf4 (B3.keeps fun b o h=>h.elim (fun e=>.inl (.inr e)) (fun e=>.inr (.inr e)))
        refine ⟨trivial,?_⟩
        refine Uf 1 [0,2,4,6,7,8,9,12,13,14,154] rfl (Ut 1 rfl (Ur 2 0 rfl (Uc 1 rfl (neqT (by omega)) (Uf 0 [0,2,4,6,7,8,9,12,13,14,154,169] rfl (Go'.condT rfl (Ut 1 rfl (Uk [0,2,4,6,7,8,9,13,14] rfl ?_)))))))
        exact tail (some x,j) _ ⟨hjm,hns,fun _ e=>by cases e;exact ⟨hx,hst⟩,Zq2,T4,B4⟩
       ·
        refine Ur 12 2359552 rfl (Ul 4 rfl hN3.c2 (Ua 2 (((i+j:Nat):Int)) rfl (by omega) (Ux 0 (i+j) rfl (by omega) (by omega) (Us 0 rfl (hN3.sl.item hx) rfl (O.callC rfl rfl rfl rfl hcall rfl (ask_spec hDC B3 x hordj) ?_)))))
        rintro _ H4 ⟨rfl,Zq2,B4,hf4⟩
        rw [hst,if_neg (by decide)]
        have T4:=T3.fr hf4 (B3.keeps fun b o h=>h.elim (fun e=>.inl (.inr e)) (fun e=>.inr (.inr e)))
        refine ⟨trivial,?_⟩
        refine Uf 1 [0,2,4,6,7,8,9,12,13,14,154] rfl (Ut 1 rfl (Ur 2 0 rfl (Uc 1 rfl (neqF (by omega)) (Uf 0 [0,2,4,6,7,8,9,12,13,14,154,169] rfl (Go'.condF rfl (Ut 2 rfl (Ur 3 0 rfl (Ua 1 (((j+1:Nat):Int)) rfl (by omega) (Uf 1 [0,2,4,6,7,8,9,12,13,14,154,169] rfl ?_)))))))))
        rw [show (2:Int)=if j+1=0 then 0 else 2 from rfl]
        refine Uk [0,2,4,6,7,8,9,12,13,14] rfl (Go'.inLoop ?_)
        exact ihb (j+1) H4 ⟨by omega,fun w hw=>by
         rw [htk] at hw
         rcases List.mem_append.1 hw with hw|hw
         · exact hns w hw
         · rw [List.mem_singleton] at hw;subst hw;exact hst,Zq2,T4,by rw [htk,List.map_append,←List.append_assoc];exact B4⟩ (by omega)
     rintro ⟨st,j⟩ H5 ⟨hj,hns,hstp,Zq2,T5,B5⟩
     refine Ut 1 rfl ?_
     have hN:NodeM EJ H5 g X (.pointer none):=(J.dn.good T5.g).1.1
     simp only at hj hns hstp B5
     obtain ⟨Tj,hTj⟩:∃Tj,Tj=(Ts++((X.drop i).take j).map fun e=>((e,none):QT))++st.toList.map fun e=>((e,none):QT):=⟨_,rfl⟩
     rw [←hTj] at B5
     have M5:Jm D A R H5 pv (.slice (some ⟨b16,o16,none⟩) (fs.length+1) c16) fs Z16 Zq2 Tj (flat (Ts.map QT.pc)) h0 t0 0 (lfN g X) A1 C1:=⟨T5,B5,J.seg,J.dn⟩
     have hcell:∀b o,ncl EJ g b o→cx.base≤b∧¬(D.own b∨Z16 b∨Zq2 b)∧b<H5.size∧(D.TA0 b o∨D.n≤b):=fun b o hb=>M5.cell (show Gt.af 0 (lfN g X) b o from hb)
     have hown:∀b o,D.own b∨Z16 b∨Zq2 b→¬ncl EJ g b o:=fun b o hb hc=>(hcell b o hc).2.1 hb
     have htr0:∀o,¬ncl EJ g D.tr o:=fun o hc=>by have:=(hcell _ o hc).1;have:=T5.tc.tb;omega
     have hE:Fr (ncl EJ g) H5 H5:=Fr.refl _ _
     have hnsz:=B5.sz
     have hicX:=hN.sl.hle
     clear hsl
     obtain ⟨_,_,_,hsle5,_,_,hsl⟩:=Acc.stk B5.stk
     simp only [Value.slice.injEq,Option.some.injEq,Addr.mk.injEq] at hsle5
     obtain ⟨⟨rfl,rfl,_⟩,_,rfl⟩:=hsle5
     refine Ud 15 537133120 (by kernel_rfl) (Ul 3 rfl hN.c2 (Uq 1 rfl (O.slc (jl:=i) (jh:=X.length) (jm:=g.ic) rfl rfl rfl rfl underlying25 sizeOf27 rfl rfl rfl ⟨_,by rfl⟩ (by omega) (by omega) (by simp) (by simp) ?_)))
     intro od hod
     refine Ul 3 rfl hN.c2 (Ua 2 (((i+j:Nat):Int)) rfl (by omega) (O.slc (jl:=i+j) (jh:=X.length) (jm:=g.ic) rfl rfl rfl rfl underlying25 sizeOf27 rfl rfl rfl ⟨_,by rfl⟩ (by omega) (by omega) (by simp) (by simp) ?_))
     intro os2 hos2
     refine O.copy (b:=g.ib) (o:=(g.io+(i)*2)) (j:=(X.length-(i+j))) (cs:=(row EJ (X.drop (i+j)))) rfl rfl rfl ⟨underlying25,sizeOf27,zeroValue27,⟨_,typeInfo27,rfl⟩,rfl,by decide,by decide⟩ rfl rfl (show _=min _ _ by omega) ((Nat.lt_or_ge (i) g.ic).elim (fun h=>.inl (by rw [hod h])) (fun h=>.inr (by omega))) (.inl ⟨_,_,_,rfl,(hN.sl.rdDrop (i:=i+j) hos2 (by omega))⟩) (by rw [row_len];first|rfl|(congr 1;simp only [List.length_drop];try omega)) (row_ones EJ _) (hN.sl.wrm (i:=i) (m:=X.length-(i+j)) (by omega)) ?_
     intro H6 WH6
     have hyl:(X.drop (i+j)).length=X.length-(i+j):=by simp only [List.length_drop];try omega
     have hsH6:=WH6.size
     have fW:Fr (ncl EJ g) H5 H6:=(NodeM.fCpy hN (i:=i) (Y:=X.drop (i+j)) WH6 (by omega))
     replace hN:=hN.cpy (i:=i) (Y:=X.drop (i+j)) WH6 (by omega)
     replace hE:=hE.trans' fW (fun _ _ _ h=>h) (fun _ _ _ h=>h)
     obtain ⟨Y6,eY6⟩:∃z,z=X.take i++X.drop (i+j)++X.drop (i+(X.drop (i+j)).length):=⟨_,rfl⟩
     rw [←eY6] at hN
     have lY6:Y6.length=X.length:=by rw [eY6];simp only [List.length_append,List.length_take,List.length_drop];omega
     clear fW
     clear hyl
     refine ⟨trivial,?_⟩
     refine Uf 0 [0,2,4,6,7,8,9,13,14] rfl (Ut 2 rfl (Ur 8 64 rfl (Ul 3 rfl hN.c2 (Ub 2 (((Y6.length-j:Nat):Int)) rfl (by omega) (Uf 1 [0,2,4,6,7,8,9,13,14,15] rfl (Ut 1 rfl (Go'.loop (Uk [0,2,4,6,7,8,9,13,14,15] rfl ?_))))))))
     have hi6:=hN
     refine Go'.ind (σ:=Nat×List (Int×Int)) (fun s=>X.length-s.1) (fun s H'=>s.1≤X.length∧X.length-j≤s.1∧s.2.length=X.length∧s.2.take (X.length-j)=Y6.take (X.length-j)∧NodeM EJ H' g s.2 (.pointer none)∧Fr (ncl EJ g) H5 H') (fun s=>[(0,.pointer (some ⟨D.tr,0,none⟩)),(2,.func (.func gf) us.toArray cs.toArray),(4,.pointer (some ⟨D.pb,0,none⟩)),(6,.pointer (some ⟨D.hb,0,none⟩)),(7,.slice (some ⟨b16,o16,none⟩) (fs.length+1) c16),(8,.pointer (some ⟨g.p,0,none⟩)),(9,.int .i64 (i:Int)),(13,.int .i64 (if st.isSome then 0 else 2)),(14,.int .i64 (j:Int)),(15,.int .i64 (s.1:Int))]) (Y6.length-j,Y6) ⟨by simp only;omega,by simp only;omega,by simp only;omega,rfl,hN,hE⟩ rfl ?_
     clear hi6
     clear hN hE
     rintro ⟨k,Y⟩ H7 ⟨hk1,hk2,hYl,hYt,hN,hE⟩ ihz
     simp only at hk1 hk2 hYl hYt hN
     refine Ut 2 rfl ?_
     by_cases hkz:k<X.length
     ·
      refine Ur 7 256 rfl (Ul 4 rfl hN.c2 (Uc 1 rfl (lssT (by omega)) (Uf 0 [0,2,4,6,7,8,9,13,14,15,198] rfl (Go'.condT rfl (Ut 3 rfl (Ud 11 3211328 (by kernel_rfl) (Ul 3 rfl hN.c2 (Us 4 rfl (hE.rd T5.tc.emp (fun _ _=>htr0 _)) rfl (Ux 0 k rfl (by omega) (by omega) (O.st3 rfl rfl sizeOf27 rfl rfl rfl rfl rfl (hN.sl.wri (i:=k) (by omega)) ?_))))))))))
      intro H8 W8
      refine Uf 0 [0,2,4,6,7,8,9,13,14,15,198] rfl (Ut 1 rfl (Ur 3 0 rfl (Ua 1 (((k+1:Nat):Int)) rfl (by omega) (Uf 1 [0,2,4,6,7,8,9,13,14,15,198] rfl (Uk [0,2,4,6,7,8,9,13,14,15] rfl (Go'.inLoop ?_))))))
      have hN8:=hN.set (i:=k) (x:=(0,0)) W8 (by omega)
      exact ihz (k+1,Y.take k++(0,0)::Y.drop (k+1)) H8 ⟨by simp only;omega,by simp only;omega,by simp only [List.length_append,List.length_take,List.length_cons,List.length_drop];omega,by
       simp only
       rw [List.take_append_of_le_length (by rw [List.length_take];omega),List.take_take,Nat.min_eq_left (by omega)];exact hYt,hN8,hE.trans' (NodeM.fSet hN (i:=k) (x:=(0,0)) W8 (by omega)) (fun _ _ _ h=>h) (fun _ _ _ h=>h)⟩ (by simp only;omega)
     ·
      refine Ur 7 256 rfl (Ul 4 rfl hN.c2 (Uc 1 rfl (lssF (by omega)) (Uf 0 [0,2,4,6,7,8,9,13,14,15,198] rfl (Go'.condF rfl (Ut 2 rfl ?_)))))
      clear ihz
      refine Ud 16 3221291264 (by kernel_rfl) (Ul 4 rfl hN.c2 (Ul 3 rfl hN.c2 (Ub 2 (((Y.length-j:Nat):Int)) rfl (by omega) (O.slc (jl:=0) (jh:=Y.length-j) (jm:=g.ic) rfl rfl rfl rfl underlying25 sizeOf27 rfl rfl ⟨_,by rfl⟩ rfl (by omega) (by omega) (by simp) (by simp) ?_))))
      intro oc hoc
      have hoc2:g.io=oc:=by rw [hoc (by omega)];simp
      subst hoc2
      rw [Nat.sub_zero]
      refine Uq 2 rfl (O.st3 rfl rfl sizeOf25 rfl rfl rfl rfl rfl (hN.wr.at0 2 1 (by omega)) ?_)
      intro H9 W9
      have hN9:=hN.cut W9 (by omega)
      replace hE:=hE.trans' (Wrote.fHdr (E:=EJ) (g:=g) W9 (by omega)) (fun _ _ _ h=>h) (fun _ _ _ h=>h)
      have hX':Y.take (Y.length-j)=X.take i++X.drop (i+j):=by
       have l9:(X.take i++X.drop (i+j)).length=X.length-j:=by simp only [List.length_append,List.length_take,List.length_drop];omega
       rw [hYl,hYt,eY6,←l9,List.take_left]
      rw [hX'] at hN9
      replace hN:=hN9
      refine Uf 0 [0,2,4,6,7,8,9,13,14,15,198] rfl (Ut 2 rfl ?_)
      have hgc:g.cnt=X.length:=M5.good.cnt
      have hccn:cl H9 (Gt.p 0 (lfN g X)) 1=some (.int .i64 ((Gt.L 0 (lfN g X)).length:Int)):=by
       have h9:=hN.c1
       rw [hgc] at h9
       exact h9
      have hcq:=M5.cnt (show Fr (Gt.af 0 (lfN g X)) _ _ from hE) hccn
      have hptn:=M5.pts
      have hnd:=M5.dn.nodup M5.T.g
      have hslc:=hsl.fr hE (fun o _ _ hz=>hown b16 o (.inr (.inl hz16)) hz)
      obtain ⟨pts,hpts⟩:∃pts,pts=Gt.p h0 t0::fs.map Prod.fst:=⟨_,rfl⟩
      rw [←hpts] at hcq hptn hnd
      have hcnt0:=hE.keep T5.cnt (htr0 _)
      have hLt:X.length≤(A++R).length:=by
       have e9:=congrArg List.length M5.eL
       have h9:(A1++Gt.L 0 (lfN g X)++C1).length=A1.length+X.length+C1.length:=by rw [List.length_append,List.length_append];rfl
       rw [h9] at e9
       omega
      refine Ur 1 0 rfl (Uf 1 [0,2,4,6,7,8,9,13,14,15,16,198] rfl (Ut 1 rfl (Go'.loop (Uk [0,2,4,6,7,8,9,13,14,16] rfl (Go'.ind (σ:=Nat) (fun s=>fs.length+1-s) (fun s H'=>s≤fs.length+1∧CntL H9 H' pts s j) (fun s=>[(0,.pointer (some ⟨D.tr,0,none⟩)),(2,.func (.func gf) us.toArray cs.toArray),(4,.pointer (some ⟨D.pb,0,none⟩)),(6,.pointer (some ⟨D.hb,0,none⟩)),(7,.slice (some ⟨b16,o16,none⟩) (fs.length+1) c16),(8,.pointer (some ⟨g.p,0,none⟩)),(9,.int .i64 (i:Int)),(13,.int .i64 (if st.isSome then 0 else 2)),(14,.int .i64 (j:Int)),(16,.int .i64 (s:Int))]) 0 ⟨by omega,CntL.start⟩ rfl ?_)))))
      rintro jc H21 ⟨hj,hcl⟩ ihc
      refine Ut 2 rfl ?_
      by_cases hjl:jc<fs.length+1
      ·
       obtain ⟨⟨q,ix⟩,hq⟩:∃q,((Gt.p h0 t0,0)::fs)[jc]?=some q:=⟨_,List.getElem?_eq_getElem (by simpa using hjl)⟩
       have hqp:pts[jc]?=some q:=by
        have h9:(((Gt.p h0 t0,0)::fs).map Prod.fst)[jc]?=some q:=by rw [List.getElem?_map,hq];rfl
        rw [hpts];exact h9
       have hqm:=List.mem_of_getElem? hqp
       obtain ⟨cc,hcc1,hcc2,hcc3,hcc4⟩:=hcq q hqm
       replace hcc2:X.length≤cc:=hcc2
       have hcc:=hcl.old hnd hqp hcc1
       have hsq:=(hslc.fr hcl.fr (fun o _ _ hz=>(hptn b16 (List.mem_of_mem_take hz.2)).2.1 (.inr (.inl hz16)))).cell (stI_at hq) (j:=0) rfl
       refine Ur 4 0 rfl (Uc 3 rfl (lssT (by omega)) (Uf 0 [0,2,4,6,7,8,9,13,14,16,229] rfl (Go'.condT rfl (Ut 3 rfl (Ur 13 33571072 rfl (Ux 2 jc rfl (by omega) (by omega) (Ul 1 rfl hsq (Ul 2 rfl hcc (Ub 1 (((cc-j:Nat):Int)) rfl (by omega) (Uq 2 rfl (O.st rfl rfl sizeOf3 rfl rfl rfl rfl rfl ((hcl.fr.wr hcc4).at0 1 1 (by omega)) ?_)))))))))))
       intro H22 W22
       refine ⟨trivial,?_⟩
       refine Uf 0 [0,2,4,6,7,8,9,13,14,16,229] rfl (Ut 1 rfl (Ur 3 0 rfl (Ua 1 (((jc+1:Nat):Int)) rfl (by omega) (Uf 1 [0,2,4,6,7,8,9,13,14,16,229] rfl (Uk [0,2,4,6,7,8,9,13,14,16] rfl (Go'.inLoop ?_))))))
       exact ihc (jc+1) H22 ⟨by omega,hcl.step hnd hqp hcc1 W22⟩ (by omega)
      ·
       refine Ur 4 0 rfl (Uc 3 rfl (lssF (by omega)) (Uf 0 [0,2,4,6,7,8,9,13,14,16,229] rfl (Go'.condF rfl (Ut 2 rfl ?_))))
       obtain rfl:jc=fs.length+1:=by omega
       clear ihc
       have hpl:pts.length=fs.length+1:=by rw [hpts];simp
       have hfc:Fr (fun b o=>o=1∧b∈pts) H9 H21:=hcl.fr.mono fun b o _ hz=>⟨hz.1,List.mem_of_mem_take hz.2⟩
       have hch:∀q∈pts,∀c:Nat,cl H9 q 1=some (.int .i64 (c:Int))→cl H21 q 1=some (.int .i64 ((c-j:Nat):Int)):=fun q hq=>hcl.ch q (by rw [List.take_of_length_le (by omega)];exact hq)
       have htrd:∀o,¬(fun b o=>o=1∧b∈pts) D.tr o:=fun o hz=>by have:=(hptn _ hz.2).1;have:=T5.tc.tb;omega
       have hcnt1:=hfc.keep hcnt0 (htrd _)
       refine Ur 9 131136 rfl (Ul 3 rfl hcnt1 (Ub 1 (((((A++R).length)-j:Nat):Int)) rfl (by omega) (Uq 2 rfl (O.st rfl rfl sizeOf3 rfl rfl rfl rfl rfl ((hfc.wr (hE.wr T5.tc.wr)).at0 3 1 (by omega)) ?_))))
       intro H23 W23
       refine ⟨trivial,?_⟩
       refine Uf 0 [0,2,4,6,7,8,9,13,14,16,229] rfl (Ut 2 rfl ?_)
       obtain ⟨R2,t0',g',q1,q2,q3,q4,q5,q6,q7,q8,q9⟩:=M5.cutL hPD hA hR (d:=j) (by omega) (by omega) hN hE hpts hfc hch W23
       have hmap:(Ts++((X.drop i).take j).map fun e=>((e,none):QT)).map QT.pc=Ts.map QT.pc++((X.drop i).take j).map fun e=>((e,[]):Pc (Int×Int)):=by rw [List.map_append,List.map_map];rfl
       have hdri:=J.dri
       rw [q8] at hdri
       have hdri2:Dri OI A ([]++(X.drop i).take j++R2) R0 (Ts.map QT.pc) D.stop:=hdri
       have hdri3:=hdri2.cuts hns
       rw [List.nil_append,←hmap] at hdri3
       have hord2:flat ((Ts++((X.drop i).take j).map fun e=>((e,none):QT)).map QT.pc)++R2=R0:=by
        rw [hmap,flat_app,flat_ones,List.append_assoc,←q8];exact hord
       have hlT:(X.take i).length=i:=by rw [List.length_take];omega
       have hR2:R2=X.drop (i+j)++C1:=by
        rw [q7,List.drop_append_of_le_length (by omega),List.drop_of_length_le (l:=X.take i) (by omega),List.nil_append]
       rcases st with _|x
       rotate_left
       ·
        refine Ur 2 0 rfl (Uc 1 rfl (eqlT rfl) (Uf 0 [0,2,4,6,7,8,9,13,14,16,229,253] rfl (Go'.condT rfl ?_)))
        obtain ⟨hx,hst⟩:=hstp x rfl
        obtain ⟨hxl,hxe⟩:=List.getElem?_eq_some_iff.1 hx
        have hR3:R2=x::(X.drop (i+j+1)++C1):=by
         rw [hR2,←List.getElem_cons_drop (h:=hxl),hxe];rfl
        rw [hTj] at q2
        refine Go'.ret func33 results33 (vs:=[]) trivial ?_
        exact ⟨_,_,_,_,_,_,_,[(x,none)],_,hdri3,hord2,.inr ⟨x,_,rfl,hR3,hst⟩,q2,.inr ⟨h0,t0',q1,rfl⟩⟩
       ·
        refine Ur 2 0 rfl (Uc 1 rfl (eqlF (by decide)) (Uf 0 [0,2,4,6,7,8,9,13,14,16,229,253] rfl (Go'.condF rfl (Ut 2 rfl (Ur 2 0 rfl (Uc 1 rfl (eqlF (by decide)) (Uf 0 [0,2,4,6,7,8,9,13,14,16,229,253,255] rfl (Go'.condF rfl (Ut 1 rfl ?_)))))))))
        have hTj2:Tj=Ts++((X.drop i).take j).map fun e=>((e,none):QT):=by rw [hTj];simp
        rw [hTj2] at q2
        have J':Jn D A R0 R2 H23 pv (.slice (some ⟨b16,o16,none⟩) (fs.length+1) c16) fs Z16 Zq2 (Ts++((X.drop i).take j).map fun e=>((e,none):QT)) h0 t0' 0 (lfN g' (X.take i++X.drop (i+j))) A1 C1:=by
         refine ⟨hdri3,q1,q2,?_,q4⟩
         rw [hmap,flat_app,flat_ones]
         exact q3
        refine Uk [0,2,4,6,7,8,9] rfl ?_
        exact tail () _ ⟨_,R2,pv,fs,Z16,Zq2,_,h0,t0',lfN g' (X.take i++X.drop (i+j)),A1,C1,⟨J',hord2⟩,q5.symm,by omega,rfl,q6,q7,(show i≤(X.take i++X.drop (i+j)).length by rw [List.length_append,List.length_take,List.length_drop];omega)⟩
   clear hA hR hil hN hx1 hxm J hord
   rintro _ HL ⟨mL,hJL⟩
   refine Ut 2 rfl (Go'.loop (Uk [0,2,4,6,7,8,9] rfl ?_))
   obtain ⟨sv,hsv⟩:∃sv:Value,sv=(.slice (some ⟨b16,o16,none⟩) (fs.length+1) c16):=⟨_,rfl⟩
   rw [←hsv] at hJL ⊢
   obtain ⟨p,hp9⟩:∃p,p=g.p:=⟨_,rfl⟩
   rw [←hp9] at hJL ⊢
   clear hsv hp9 hz16 hb16 hsl hll htl hm0 hm2 hnL
   refine Go'.ind (σ:=Nat) (fun s=>s) (fun s H'=>AL D A R0 nL sv p i s H') (fun _=>[(0,.pointer (some ⟨D.tr,0,none⟩)),(2,.func (.func gf) us.toArray cs.toArray),(4,.pointer (some ⟨D.pb,0,none⟩)),(6,.pointer (some ⟨D.hb,0,none⟩)),(7,sv),(8,.pointer (some ⟨p,0,none⟩)),(9,.int .i64 (i:Int))]) mL hJL rfl ?_
   clear hJL
   rintro m3 H ⟨R,pv,fs,Z16,Zq,Ts,h0,t0,t,A1,C1,⟨J,hord⟩,rfl,hm0,rfl,hA,hR,hil⟩ ih3
   obtain ⟨b16,o16,c16,rfl,hz16,hb16,hsl⟩:=Acc.stk J.B.stk
   obtain ⟨g,X⟩:=t
   replace hA:A=A1++X.take i:=hA
   replace hR:R=X.drop i++C1:=hR
   replace hil:i≤X.length:=hil
   have hN:NodeM EJ H g X (.pointer none):=J.good.1
   have hx1:1≤X.length:=J.x1 hPD
   have hxm:X.length≤D.P.mx:=J.good.xmx
   have hll:(A++R).length≤(A++R0).length:=by
    have:=J.dri.pm.length_eq
    simp only [List.length_append] at this ⊢
    omega
   have htl:=J.tall hPD
   refine (show Go' _ _ _ _ _ [(0,.pointer (some ⟨D.tr,0,none⟩)),(2,.func (.func gf) us.toArray cs.toArray),(4,.pointer (some ⟨D.pb,0,none⟩)),(6,.pointer (some ⟨D.hb,0,none⟩)),(7,.slice (some ⟨b16,o16,none⟩) (fs.length+1) c16),(8,.pointer (some ⟨g.p,0,none⟩)),(9,.int .i64 (i:Int))] _ _ from ?_)
   refine Ut 2 rfl ?_
   by_cases hlt3:i<X.length
   rotate_left
   ·
    refine Ur 7 256 rfl (Ul 4 rfl hN.c2 (Uc 1 rfl (lssF (by omega)) (Uf 0 [0,2,4,6,7,8,9,264] rfl (Go'.condF rfl (Ut 2 rfl (Go'.loop (Uk [0,2,4,6,7] rfl ?_)))))))
    have hJC:AC D A R0 nL (.slice (some ⟨b16,o16,none⟩) (fs.length+1) c16) fs.length H:=⟨R,pv,fs,Z16,Zq,Ts,h0,t0,0,lfN g X,A1,C1,⟨J,hord⟩,hm0,rfl,by
      have e9:X.take i=X:=List.take_of_length_le (by omega)
      rw [e9] at hA;exact hA,by
      have e9:X.drop i=[]:=List.drop_of_length_le (by omega)
      rw [e9] at hR;exact hR⟩
    refine Go'.ind (σ:=Value×Nat) (fun s=>s.2) (fun s H'=>AC D A R0 nL s.1 s.2 H') (fun s=>[(0,.pointer (some ⟨D.tr,0,none⟩)),(2,.func (.func gf) us.toArray cs.toArray),(4,.pointer (some ⟨D.pb,0,none⟩)),(6,.pointer (some ⟨D.hb,0,none⟩)),(7,s.1)]) ((.slice (some ⟨b16,o16,none⟩) (fs.length+1) c16),fs.length) hJC rfl ?_
    clear hJC hA hR hil hN hx1 hxm J hord hz16 hb16 hsl hll htl hm0 ih3
    rintro ⟨sv,m4⟩ H J ih4
    simp only at J ih4
    obtain ⟨R,pv,fs,Z16,Zq,Ts,h0,t0,h,t,A1,C1,⟨J,hord⟩,hm0,rfl,hA,hR⟩:=J
    obtain ⟨b16,o16,c16,rfl,hz16,hb16,hsl⟩:=Acc.stk J.B.stk
    have hcap:=hsl.hle
    have hstl:(stI ((Gt.p h0 t0,0)::fs)).length=fs.length+1:=by simp [stI]
    refine (show Go' _ _ _ _ _ [(0,.pointer (some ⟨D.tr,0,none⟩)),(2,.func (.func gf) us.toArray cs.toArray),(4,.pointer (some ⟨D.pb,0,none⟩)),(6,.pointer (some ⟨D.hb,0,none⟩)),(7,.slice (some ⟨b16,o16,none⟩) (fs.length+1) c16)] _ _ from ?_)
    refine Ut 2 rfl ?_
    obtain ⟨⟨lq,lx⟩,hlq⟩:∃q,((Gt.p h0 t0,0)::fs)[fs.length]?=some q:=⟨_,List.getElem?_eq_getElem (by simp)⟩
    have hix:=hsl.cell (stI_at hlq) (j:=1) rfl
    have hll:(A++R).length≤(A++R0).length:=by
     have:=J.dri.pm.length_eq
     simp only [List.length_append] at this ⊢
     omega
    have htl:=J.tall hPD
    refine Ur 8 4096 rfl (Ub 3 (((fs.length:Nat):Int)) rfl (by omega) (Ux 0 (fs.length) rfl (by omega) (by omega) (O.fa (off:=1) rfl rfl rfl rfl ⟨_,_,_,underlying113,rfl,rfl,sizeOf3⟩ rfl (Ul 0 rfl hix (Uf 1 [0,2,4,6,7,9] rfl (Ut 1 rfl (Ur 6 0 rfl (Ub 3 (((fs.length:Nat):Int)) rfl (by omega) (O.slc (jl:=0) (jh:=fs.length) (jm:=c16) rfl rfl rfl rfl underlying104 sizeOf113 rfl rfl ⟨_,by rfl⟩ rfl (by omega) (by omega) (by simp) (by simp) ?_)))))))))
    intro oc hoc
    have hoc2:o16=oc:=by rw [hoc (by omega)];simp
    subst hoc2
    rw [Nat.sub_zero]
    refine Uf 1 [0,2,4,6,7,9] rfl (Ut 2 rfl ?_)
    by_cases hf0:fs.length=0
    ·
     refine Ur 3 0 rfl (Uc 2 rfl (eqlT (by omega)) (Uf 0 [0,2,4,6,7,9,392] rfl (Go'.condT rfl ?_)))
     have hRn:R=[]:=by
      rw [hR]
      have e:fs=[]:=List.length_eq_zero_iff.1 hf0
      have d:=J.dn
      clear hlq hix hsl hstl hcap htl J
      subst e
      cases d
      rfl
     refine Go'.ret func33 results33 (vs:=[]) trivial ?_
     exact ⟨R,_,_,_,_,_,Ts,[],_,J.dri,hord,.inl ⟨rfl,hRn⟩,by rw [List.append_nil];exact J.B,.inr ⟨h0,t0,J.T,rfl⟩⟩
    ·
     refine Ur 3 0 rfl (Uc 2 rfl (eqlF (by omega)) (Uf 0 [0,2,4,6,7,9,392] rfl (Go'.condF rfl (Ut 2 rfl ?_))))
     obtain ⟨fs2,⟨q,ix⟩,e9⟩:∃a b,fs=a++[b]:=by
      rcases List.eq_nil_or_concat fs with e|⟨a,b,e⟩
      · rw [e] at hf0;exact absurd rfl hf0
      · exact ⟨a,b,by simpa using e⟩
     have hfl2:fs.length=fs2.length+1:=by rw [e9,List.length_append];rfl
     have hlx:lx=ix:=by
      rw [e9] at hlq
      rw [show (fs2++[(q,ix)]).length=fs2.length+1 by rw [List.length_append];rfl,List.getElem?_cons_succ,List.getElem?_append_right (Nat.le_refl _),Nat.sub_self] at hlq
      simp only [List.getElem?_cons_zero,Option.some.injEq,Prod.mk.injEq] at hlq
      exact hlq.2.symm
     subst hlx
     have hdn:=J.dn
     have hgk:=J.good
     rw [e9] at hdn
     obtain ⟨t2,A2,C2,d2,hk,rfl,eA,eC⟩:=hdn.up
     have hat:=d2.at
     obtain ⟨⟨lq2,lx2⟩,hlq2⟩:∃q,((Gt.p h0 t0,0)::fs)[fs2.length]?=some q:=⟨_,List.getElem?_eq_getElem (by simp;omega)⟩
     have hlp2:lq2=Gt.p (h+1) t2:=by
      have h8:(((Gt.p h0 t0,0)::fs).map Prod.fst)[fs2.length]?=some lq2:=by rw [List.getElem?_map,hlq2];rfl
      have h7:(((Gt.p h0 t0,0)::fs).map Prod.fst)[fs2.length]?=(Gt.p h0 t0::fs2.map Prod.fst)[fs2.length]?:=by
       rw [e9,List.map_cons,List.map_append,←List.cons_append,List.getElem?_append_left (by simp)]
      rw [h7,hat] at h8
      exact (Option.some.inj h8).symm
     have hnd2:=hsl.cell (stI_at hlq2) (j:=0) rfl
     have hg2:Gt.Good H D.P (h+1) t2:=(d2.good J.T.g).1
     have hKl:t2.2.2.length=t2.2.1.length+1:=hg2.2.2.2.2.2.1
     have hil:lx≤t2.2.1.length:=by have:=(List.getElem?_eq_some_iff.1 hk).1;omega
     have hN:=hg2.1
     have hx255:=hPD.hx
     have hxm:t2.2.1.length≤D.P.mx:=hg2.2.2.2.2.1
     have hst2:(stI ((Gt.p h0 t0,0)::fs2))=(stI ((Gt.p h0 t0,0)::fs)).take fs.length:=by
      rw [e9]
      simp [stI]
     have hac2:Acc EK Z16 H (.slice (some ⟨b16,o16,none⟩) (fs2.length+1) c16) (stI ((Gt.p h0 t0,0)::fs2)):=by
      rw [hst2,←hfl2]
      exact Acc.take (i:=fs.length) hsl hz16 hb16 (by omega)
     have J2':Jn D A R0 R H pv (.slice (some ⟨b16,o16,none⟩) (fs2.length+1) c16) fs2 Z16 Zq Ts h0 t0 (h+1) t2 A2 C2:=⟨J.dri,J.T,J.B.stack (Fr.refl _ _) hac2 (fun b hb=>⟨.inl hb,(J.B.z16 b hb).2⟩),J.seg,d2⟩
     have hcu:CuI A R A2 C2 t2 lx t [] (Gt.L h t):=CuI.up hg2 hk (by rw [hA,eA];rfl) (by rw [hR,eC];rfl)
     refine Ur 8 4096 rfl (Ub 3 (((fs2.length:Nat):Int)) rfl (by omega) (Ux 0 (fs2.length) rfl (by omega) (by omega) (Ul 1 rfl (by rw [hlp2] at hnd2;exact hnd2) (Uf 1 [0,2,4,6,7,8,9,392] rfl (Ut 1 rfl ?_)))))
     by_cases hlt9:lx<t2.2.1.length
     ·
      refine Ur 7 256 rfl (Ul 4 rfl hN.c2 (Uc 1 rfl (lssT (by omega)) (Uf 0 [0,2,4,6,7,8,9,392,406] rfl (Go'.condT rfl (Ut 1 rfl (Ur 1 0 rfl (Uf 1 [0,2,4,6,7,8,9,10,392,406] rfl (Ut 5 rfl (Uk [0,2,4,6,7,8,9,10] rfl ?_)))))))))
      rw [hfl2]
      exact ih2 (.slice (some ⟨b16,o16,none⟩) (fs2.length+1) c16,Gt.p (h+1) t2,lx,true,2*(A++R).length) H ⟨R,pv,fs2,Z16,Zq,Ts,h0,t0,h+1,t2,A2,C2,⟨J2',hord⟩,rfl,by omega,rfl,t,[],_,hcu,fun _=>⟨rfl,hlt9⟩,fun e=>Bool.noConfusion e⟩ (by simp only;omega)
     ·
      refine Ur 7 256 rfl (Ul 4 rfl hN.c2 (Uc 1 rfl (lssF (by omega)) (Uf 0 [0,2,4,6,7,8,9,392,406] rfl (Go'.condF rfl (Ut 2 rfl ?_)))))
      have hov:=hcu.over hg2 (by omega)
      rw [hfl2]
      refine Uk [0,2,4,6,7] rfl (Go'.inLoop ?_)
      exact ih4 (.slice (some ⟨b16,o16,none⟩) (fs2.length+1) c16,fs2.length) H ⟨R,pv,fs2,Z16,Zq,Ts,h0,t0,h+1,t2,A2,C2,⟨J2',hord⟩,hm0,rfl,hov.1,hov.2⟩ (by simp only;omega)
   ·
    obtain ⟨x,hx⟩:∃x,X[i]?=some x:=⟨X[i],List.getElem?_eq_getElem hlt3⟩
    have eR:R=x::(X.drop (i+1)++C1):=by
     obtain ⟨_,h9⟩:=List.getElem?_eq_some_iff.1 hx
     rw [hR,←List.getElem_cons_drop (h:=hlt3),h9];rfl
    obtain ⟨R',hR'⟩:∃R',R'=X.drop (i+1)++C1:=⟨_,rfl⟩
    rw [←hR'] at eR
    subst eR
    have hmn1:=hPD.h1
    have hmm:=hPD.hm
    have hx255:=hPD.hx
    refine Ur 7 256 rfl (Ul 4 rfl hN.c2 (Uc 1 rfl (lssT (by omega)) (Uf 0 [0,2,4,6,7,8,9,264] rfl (Go'.condT rfl (Ut 4 rfl ?_)))))
    cases hst:D.stop x
    rotate_left
    ·
     have hcell3:∀b o,ncl EJ g b o→cx.base≤b∧¬(D.own b∨Z16 b∨Zq b):=fun b o hb=>⟨(J.cell (show Gt.af 0 (lfN g X) b o from hb)).1,(J.cell (show Gt.af 0 (lfN g X) b o from hb)).2.1⟩
     refine Ur 10 147712 rfl (Ul 4 rfl hN.c2 (Ux 1 i rfl (by omega) (by omega) (Us 0 rfl (hN.sl.item hx) rfl (O.callC rfl rfl rfl rfl hcall rfl (ask_spec hDC J.B x hord) ?_))))
     rintro _ H5 ⟨rfl,Zq',B5,hf5⟩
     rw [hst,if_pos rfl]
     refine ⟨trivial,?_⟩
     refine Uf 1 [0,2,4,6,7,8,9,17,264] rfl (Ut 1 rfl ?_)
     have T5:=J.T.fr hf5 (J.B.keeps fun b o h=>h.elim (fun e=>.inl (.inr e)) (fun e=>.inr (.inr e)))
     refine Ur 1 0 rfl (Uf 1 [0,2,4,6,7,8,9,17,264,276] rfl (Ut 2 rfl (Ur 2 0 rfl (Uc 0 rfl (eqlF (by omega)) (Uf 1 [0,2,4,6,7,8,9,17,264,276,277] rfl (Go'.condF rfl (Ut 1 rfl (Ur 2 0 rfl (Uc 0 rfl (eqlF (by omega)) (Uf 1 [0,2,4,6,7,8,9,17,264,276,277,376] rfl (Go'.condF rfl ?_)))))))))))
     refine Go'.ret func33 results33 (vs:=[]) trivial ?_
     exact ⟨_,_,_,_,_,_,Ts,[(x,none)],_,J.dri,hord,.inr ⟨x,R',rfl,rfl,hst⟩,B5,.inr ⟨h0,t0,T5,rfl⟩⟩
    ·
     have hcell3:∀b o,ncl EJ g b o→cx.base≤b∧¬(D.own b∨Z16 b∨Zq b):=fun b o hb=>⟨(J.cell (show Gt.af 0 (lfN g X) b o from hb)).1,(J.cell (show Gt.af 0 (lfN g X) b o from hb)).2.1⟩
     refine Ur 10 147712 rfl (Ul 4 rfl hN.c2 (Ux 1 i rfl (by omega) (by omega) (Us 0 rfl (hN.sl.item hx) rfl (O.callC rfl rfl rfl rfl hcall rfl (ask_spec hDC J.B x hord) ?_))))
     rintro _ H5 ⟨rfl,Zq',B5,hf5⟩
     rw [hst,if_neg (by decide)]
     refine ⟨trivial,?_⟩
     refine Uf 1 [0,2,4,6,7,8,9,17,264] rfl (Ut 1 rfl ?_)
     have T5:=J.T.fr hf5 (J.B.keeps fun b o h=>h.elim (fun e=>.inl (.inr e)) (fun e=>.inr (.inr e)))
     refine Ur 1 0 rfl (Uf 1 [0,2,4,6,7,8,9,17,264,276] rfl (Ut 2 rfl (Ur 2 0 rfl (Uc 0 rfl (eqlT (by omega)) (Uf 1 [0,2,4,6,7,8,9,17,264,276,277] rfl (Go'.condT rfl (Ut 1 rfl ?_)))))))
     replace hN:=NodeM.fr EJ hN hf5 (fun b o hb hh=>(hcell3 b o hb).2 (hh.elim (fun e=>.inl (.inr e)) (fun e=>.inr (.inr e))))
     clear hsl
     by_cases hmx:D.P.mn<X.length
     rotate_left
     ·
      refine Ud 10 65600 (by kernel_rfl) (Ul 3 rfl hN.c2 (Ul 4 rfl T5.tc.mn' (Uc 0 rfl (gtrF (by omega)) (Uf 0 [0,2,4,6,7,8,9,17,264,276,277,288] rfl (Go'.condF rfl (Ut 1 rfl ?_))))))
      have S4:=J.seg
      have hcell4:∀b o,Gt.af h0 t0 b o→cx.base≤b∧¬(D.own b∨Z16 b∨Zq' b):=fun b o hb=>⟨(B5.dj b o (.inl hb)).1,(B5.dj b o (.inl hb)).2.1⟩
      have hsub4:=J.dn.sub
      have hfx:=(del_next T5.srt).2
      refine Ur 8 36928 rfl (Ul 3 rfl hN.c2 (Ux 1 i rfl (by omega) (by omega) (Us 0 rfl (hN.sl.item hx) rfl (O.st (vs:=(EJ.enc x)) rfl rfl sizeOf27 rfl rfl rfl rfl rfl B5.w15 ?_))))
      intro H6 W6
      have B6:=B5.piv W6
      have T6:=T5.fr W6.fr (B5.keeps fun b o h=>.inl (.inl (by have:=h.1;omega)))
      replace hN:=NodeM.fr EJ hN W6.fr (fun b o hb=>nr (.inl (fun e=>(hcell4 b o (hsub4 b o hb)).2 (.inl (.inl (by omega))))))
      refine ⟨trivial,?_⟩
      refine Uf 0 [0,2,4,6,7,8,9,17,264,276,277,288] rfl (Ut 1 rfl (Ur 9 147712 rfl (Ul 4 rfl hN.c2 (Ux 1 i rfl (by omega) (by omega) (Us 0 rfl (hN.sl.item hx) rfl (O.call rfl rfl rfl call61 rfl (delhT_spec hPD T6 B6.hk (fun b o hb e=>(B6.dj b o (.inl hb)).2.1 (.inl (.inl (by omega)))) (by omega) hfx) ?_))))))
      rintro _ H7 ⟨hq7,hk7,hF7⟩
      refine ⟨trivial,?_⟩
      refine Uf 0 [0,2,4,6,7,8,9,17,264,276,277,288] rfl (Ut 1 rfl ?_)
      obtain ⟨dri6,drt6⟩:=drt_del J.dri hst T6 B6 S4 hq7 hk7 hF7
      obtain ⟨_,B7⟩:=drt6.b
      obtain ⟨_,_,_,hsle6,hz6,hb6,hsl6⟩:=Acc.stk B7.stk
      simp only [Value.slice.injEq,Option.some.injEq,Addr.mk.injEq] at hsle6
      obtain ⟨⟨rfl,rfl,_⟩,_,rfl⟩:=hsle6
      have hstl6:(stI ((Gt.p h0 t0,0)::fs)).length=fs.length+1:=by simp [stI]
      have hcap6:=hsl6.hle
      refine Ur 3 0 rfl (Uq 1 rfl (O.slc (jl:=0) (jh:=0) (jm:=c16) rfl rfl rfl rfl underlying104 sizeOf113 rfl rfl ⟨_,by rfl⟩ rfl (by omega) (by omega) (by simp) (by simp) ?_))
      intro oc hoc
      have hoc2:o16=oc:=by rw [hoc (by omega)];simp
      subst hoc2
      refine Uf 1 [0,2,4,6,7,8,9,17,264,276,277,288] rfl (Ut 5 rfl (Uk [0,2,4,6,7] rfl ?_))
      have hac6:Acc EK Z16 H7 (.slice (some ⟨b16,o16,none⟩) 0 c16) (stI []):=Acc.take (i:=0) hsl6 hz6 hb6 (Nat.zero_le _)
      have hsrt6:=T6.srt
      exact ih0 (.slice (some ⟨b16,o16,none⟩) 0 c16,(A++R').length) H7 ⟨R',x,Z16,Zq',_,rfl,⟨dri6,fl_snoc hord⟩,pv_next hsrt6,drt6.clr hac6⟩ (by simp only [List.length_append,List.length_cons] at hm0 ⊢;omega)
     ·
      refine Ud 10 65600 (by kernel_rfl) (Ul 3 rfl hN.c2 (Ul 4 rfl T5.tc.mn' (Uc 0 rfl (gtrT (by omega)) (Uf 0 [0,2,4,6,7,8,9,17,264,276,277,288] rfl (Go'.condT rfl (Ut 1 rfl ?_))))))
      have M5:Jm D A (x::R') H5 pv (.slice (some ⟨b16,o16,none⟩) (fs.length+1) c16) fs Z16 Zq' (Ts++[(x,none)]) (flat (Ts.map QT.pc)) h0 t0 0 (lfN g X) A1 C1:=⟨T5,B5,J.seg,J.dn⟩
      have hcell:∀b o,ncl EJ g b o→cx.base≤b∧¬(D.own b∨Z16 b∨Zq' b)∧b<H5.size∧(D.TA0 b o∨D.n≤b):=fun b o hb=>M5.cell (show Gt.af 0 (lfN g X) b o from hb)
      have hown:∀b o,D.own b∨Z16 b∨Zq' b→¬ncl EJ g b o:=fun b o hb hc=>(hcell b o hc).2.1 hb
      have htr0:∀o,¬ncl EJ g D.tr o:=fun o hc=>by have:=(hcell _ o hc).1;have:=T5.tc.tb;omega
      have hE:Fr (ncl EJ g) H5 H5:=Fr.refl _ _
      have hnsz:=B5.sz
      have hicX:=hN.sl.hle
      obtain ⟨_,_,_,hsle5,_,_,hsl⟩:=Acc.stk B5.stk
      simp only [Value.slice.injEq,Option.some.injEq,Addr.mk.injEq] at hsle5
      obtain ⟨⟨rfl,rfl,_⟩,_,rfl⟩:=hsle5
      refine Ud 14 134479936 (by kernel_rfl) (Ul 3 rfl hN.c2 (Uq 1 rfl (O.slc (jl:=i) (jh:=X.length) (jm:=g.ic) rfl rfl rfl rfl underlying25 sizeOf27 rfl rfl rfl ⟨_,by rfl⟩ (by omega) (by omega) (by simp) (by simp) ?_)))
      intro od hod
      refine Ul 3 rfl hN.c2 (Ua 1 (((i+1:Nat):Int)) rfl (by omega) (O.slc (jl:=i+1) (jh:=X.length) (jm:=g.ic) rfl rfl rfl rfl underlying25 sizeOf27 rfl rfl rfl ⟨_,by rfl⟩ (by omega) (by omega) (by simp) (by simp) ?_))
      intro os2 hos2
      refine O.copy (b:=g.ib) (o:=(g.io+(i)*2)) (j:=(X.length-(i+1))) (cs:=(row EJ (X.drop (i+1)))) rfl rfl rfl ⟨underlying25,sizeOf27,zeroValue27,⟨_,typeInfo27,rfl⟩,rfl,by decide,by decide⟩ rfl rfl (show _=min _ _ by omega) ((Nat.lt_or_ge (i) g.ic).elim (fun h=>.inl (by rw [hod h])) (fun h=>.inr (by omega))) (.inl ⟨_,_,_,rfl,(hN.sl.rdDrop (i:=i+1) hos2 (by omega))⟩) (by rw [row_len];first|rfl|(congr 1;simp only [List.length_drop];try omega)) (row_ones EJ _) (hN.sl.wrm (i:=i) (m:=X.length-(i+1)) (by omega)) ?_
      intro H6 WH6
      have hyl:(X.drop (i+1)).length=X.length-(i+1):=by simp only [List.length_drop];try omega
      have hsH6:=WH6.size
      have fW:Fr (ncl EJ g) H5 H6:=(NodeM.fCpy hN (i:=i) (Y:=X.drop (i+1)) WH6 (by omega))
      replace hN:=hN.cpy (i:=i) (Y:=X.drop (i+1)) WH6 (by omega)
      replace hE:=hE.trans' fW (fun _ _ _ h=>h) (fun _ _ _ h=>h)
      obtain ⟨Y6,eY6⟩:∃z,z=X.take i++X.drop (i+1)++X.drop (i+(X.drop (i+1)).length):=⟨_,rfl⟩
      rw [←eY6] at hN
      have lY6:Y6.length=X.length:=by rw [eY6];simp only [List.length_append,List.length_take,List.length_drop];omega
      clear fW
      clear hyl
      refine ⟨trivial,?_⟩
      refine Uf 0 [0,2,4,6,7,8,9,17,264,276,277,288] rfl (Ut 1 rfl (Ud 16 3288350784 (by kernel_rfl) (Ul 3 rfl hN.c2 (Ul 3 rfl hN.c2 (Ub 1 (((Y6.length-1:Nat):Int)) rfl (by omega) (Us 3 rfl (hE.rd T5.tc.emp (fun _ _=>htr0 _)) rfl (Ux 0 (Y6.length-1) rfl (by omega) (by omega) (O.st3 rfl rfl sizeOf27 rfl rfl rfl rfl rfl (hN.sl.wri (i:=Y6.length-1) (by omega)) ?_))))))))
      intro H7 WH7
      have hsH7:=WH7.size
      have fW:Fr (ncl EJ g) H6 H7:=(NodeM.fSet hN (i:=Y6.length-1) (x:=(0,0)) WH7 (by omega))
      replace hN:=hN.set (i:=Y6.length-1) (x:=(0,0)) WH7 (by omega)
      replace hE:=hE.trans' fW (fun _ _ _ h=>h) (fun _ _ _ h=>h)
      obtain ⟨Y7,eY7⟩:∃z,z=Y6.take (Y6.length-1)++((0,0):Int×Int)::Y6.drop (Y6.length-1+1):=⟨_,rfl⟩
      rw [←eY7] at hN
      have lY7:Y7.length=Y6.length:=by rw [eY7];simp only [List.length_append,List.length_take,List.length_cons,List.length_drop];omega
      clear fW
      refine Uf 0 [0,2,4,6,7,8,9,17,264,276,277,288] rfl (Ut 1 rfl (Ud 15 805372160 (by kernel_rfl) (Ul 4 rfl hN.c2 (Ul 3 rfl hN.c2 (Ub 1 (((Y7.length-1:Nat):Int)) rfl (by omega) (O.slc (jl:=0) (jh:=Y7.length-1) (jm:=g.ic) rfl rfl rfl rfl underlying25 sizeOf27 rfl rfl ⟨_,by rfl⟩ rfl (by omega) (by omega) (by simp) (by simp) ?_))))))
      intro oc hoc
      have hoc2:g.io=oc:=by rw [hoc (by omega)];simp
      subst hoc2
      rw [Nat.sub_zero]
      refine Uq 2 rfl (O.st3 rfl rfl sizeOf25 rfl rfl rfl rfl rfl (hN.wr.at0 2 1 (by omega)) ?_)
      intro H8 WH8
      have hsH8:=WH8.size
      have fW:Fr (ncl EJ g) H7 H8:=(Wrote.fHdr (E:=EJ) (g:=g) WH8 (by omega))
      replace hN:=hN.cut WH8 (by omega)
      replace hE:=hE.trans' fW (fun _ _ _ h=>h) (fun _ _ _ h=>h)
      obtain ⟨Y8,eY8⟩:∃z,z=Y7.take (Y7.length-1):=⟨_,rfl⟩
      rw [←eY8] at hN
      have lY8:Y8.length=Y7.length-1:=by rw [eY8];simp only [List.length_take];omega
      clear fW
      refine Uf 0 [0,2,4,6,7,8,9,17,264,276,277,288] rfl (Ut 2 rfl ?_)
      have hX':Y8=X.take i++X.drop (i+1):=by
       rw [eY8,lY7,lY6,eY7,lY6,eY6]
       exact Pl.cut_at X _ i (by omega)
      rw [hX'] at hN
      have hgc:g.cnt=X.length:=M5.good.cnt
      have hccn:cl H8 (Gt.p 0 (lfN g X)) 1=some (.int .i64 ((Gt.L 0 (lfN g X)).length:Int)):=by
       have h9:=hN.c1
       rw [hgc] at h9
       exact h9
      have hcq:=M5.cnt (show Fr (Gt.af 0 (lfN g X)) _ _ from hE) hccn
      have hptn:=M5.pts
      have hnd:=M5.dn.nodup M5.T.g
      have hslc:=hsl.fr hE (fun o _ _ hz=>hown b16 o (.inr (.inl hz16)) hz)
      obtain ⟨pts,hpts⟩:∃pts,pts=Gt.p h0 t0::fs.map Prod.fst:=⟨_,rfl⟩
      rw [←hpts] at hcq hptn hnd
      have hcnt0:=hE.keep T5.cnt (htr0 _)
      have hLt:X.length≤(A++x::R').length:=by
       have e9:=congrArg List.length M5.eL
       have h9:(A1++Gt.L 0 (lfN g X)++C1).length=A1.length+X.length+C1.length:=by rw [List.length_append,List.length_append];rfl
       rw [h9] at e9
       omega
      refine Ur 1 0 rfl (Uf 1 [0,2,4,6,7,8,9,17,18,264,276,277,288] rfl (Ut 1 rfl (Go'.loop (Uk [0,2,4,6,7,8,9,18] rfl (Go'.ind (σ:=Nat) (fun s=>fs.length+1-s) (fun s H'=>s≤fs.length+1∧CntL H8 H' pts s 1) (fun s=>[(0,.pointer (some ⟨D.tr,0,none⟩)),(2,.func (.func gf) us.toArray cs.toArray),(4,.pointer (some ⟨D.pb,0,none⟩)),(6,.pointer (some ⟨D.hb,0,none⟩)),(7,.slice (some ⟨b16,o16,none⟩) (fs.length+1) c16),(8,.pointer (some ⟨g.p,0,none⟩)),(9,.int .i64 (i:Int)),(18,.int .i64 (s:Int))]) 0 ⟨by omega,CntL.start⟩ rfl ?_)))))
      rintro jc H21 ⟨hj,hcl⟩ ihc
      refine Ut 2 rfl ?_
      by_cases hjl:jc<fs.length+1
      ·
       obtain ⟨⟨q,ix⟩,hq⟩:∃q,((Gt.p h0 t0,0)::fs)[jc]?=some q:=⟨_,List.getElem?_eq_getElem (by simpa using hjl)⟩
       have hqp:pts[jc]?=some q:=by
        have h9:(((Gt.p h0 t0,0)::fs).map Prod.fst)[jc]?=some q:=by rw [List.getElem?_map,hq];rfl
        rw [hpts];exact h9
       have hqm:=List.mem_of_getElem? hqp
       obtain ⟨cc,hcc1,hcc2,hcc3,hcc4⟩:=hcq q hqm
       replace hcc2:X.length≤cc:=hcc2
       have hcc:=hcl.old hnd hqp hcc1
       have hsq:=(hslc.fr hcl.fr (fun o _ _ hz=>(hptn b16 (List.mem_of_mem_take hz.2)).2.1 (.inr (.inl hz16)))).cell (stI_at hq) (j:=0) rfl
       refine Ur 4 0 rfl (Uc 3 rfl (lssT (by omega)) (Uf 0 [0,2,4,6,7,8,9,18,335] rfl (Go'.condT rfl (Ut 3 rfl (Ur 12 8405248 rfl (Ux 2 jc rfl (by omega) (by omega) (Ul 1 rfl hsq (Ul 2 rfl hcc (Ub 0 (((cc-1:Nat):Int)) rfl (by omega) (Uq 2 rfl (O.st rfl rfl sizeOf3 rfl rfl rfl rfl rfl ((hcl.fr.wr hcc4).at0 1 1 (by omega)) ?_)))))))))))
       intro H22 W22
       refine ⟨trivial,?_⟩
       refine Uf 0 [0,2,4,6,7,8,9,18,335] rfl (Ut 1 rfl (Ur 3 0 rfl (Ua 1 (((jc+1:Nat):Int)) rfl (by omega) (Uf 1 [0,2,4,6,7,8,9,18,335] rfl (Uk [0,2,4,6,7,8,9,18] rfl (Go'.inLoop ?_))))))
       exact ihc (jc+1) H22 ⟨by omega,hcl.step hnd hqp hcc1 W22⟩ (by omega)
      ·
       refine Ur 4 0 rfl (Uc 3 rfl (lssF (by omega)) (Uf 0 [0,2,4,6,7,8,9,18,335] rfl (Go'.condF rfl (Ut 2 rfl ?_))))
       obtain rfl:jc=fs.length+1:=by omega
       clear ihc
       have hpl:pts.length=fs.length+1:=by rw [hpts];simp
       have hfc:Fr (fun b o=>o=1∧b∈pts) H8 H21:=hcl.fr.mono fun b o _ hz=>⟨hz.1,List.mem_of_mem_take hz.2⟩
       have hch:∀q∈pts,∀c:Nat,cl H8 q 1=some (.int .i64 (c:Int))→cl H21 q 1=some (.int .i64 ((c-1:Nat):Int)):=fun q hq=>hcl.ch q (by rw [List.take_of_length_le (by omega)];exact hq)
       have htrd:∀o,¬(fun b o=>o=1∧b∈pts) D.tr o:=fun o hz=>by have:=(hptn _ hz.2).1;have:=T5.tc.tb;omega
       have hcnt1:=hfc.keep hcnt0 (htrd _)
       refine Ur 8 32832 rfl (Ul 3 rfl hcnt1 (Ub 0 (((((A++x::R').length)-1:Nat):Int)) rfl (by omega) (Uq 2 rfl (O.st rfl rfl sizeOf3 rfl rfl rfl rfl rfl ((hfc.wr (hE.wr T5.tc.wr)).at0 3 1 (by omega)) ?_))))
       intro H23 W23
       refine ⟨trivial,?_⟩
       refine Uf 0 [0,2,4,6,7,8,9,18,335] rfl ?_
       obtain ⟨R2,t0',g',q1,q2,q3,q4,q5,q6,q7,q8,q9⟩:=M5.cutL hPD hA hR (d:=1) (by omega) (by omega) hN hE hpts hfc hch W23
       have hd1:(X.drop i).take 1=[x]:=by
        obtain ⟨_,h9⟩:=List.getElem?_eq_some_iff.1 hx
        rw [←List.getElem_cons_drop (h:=hlt3),h9];rfl
       rw [hd1] at q3 q8
       have hRe:R'=R2:=(List.cons.inj q8).2
       subst hRe
       have hmap:(Ts++[((x,none):QT)]).map QT.pc=Ts.map QT.pc++[(x,[])]:=by rw [List.map_append];rfl
       have hdri:=J.dri
       have hdri2:Dri OI A ([]++Pc.l ((x,[]):Pc (Int×Int))++R') R0 (Ts.map QT.pc) D.stop:=hdri
       have hdri3:=hdri2.cut OI Qg.one (fun w hw=>by
        have:w=x:=by simpa [Pc.l] using hw
        subst this;exact hst)
       have J':Jn D A R0 R' H23 pv (.slice (some ⟨b16,o16,none⟩) (fs.length+1) c16) fs Z16 Zq' (Ts++[(x,none)]) h0 t0' 0 (lfN g' (X.take i++X.drop (i+1))) A1 C1:=by
        refine ⟨by rw [hmap];exact hdri3,q1,q2,?_,q4⟩
        rw [hmap,flat_app,flat_one]
        exact q3
       refine Ur 3 0 rfl (Ub 1 (((i:Int)-1)) rfl (by omega) (Uf 1 [0,2,4,6,7,8,9,18,335] rfl (Ut 2 rfl (Ur 3 0 rfl (Ua 1 (((i:Nat):Int)) rfl (by omega) (Uf 1 [0,2,4,6,7,8,9,18,335] rfl (Uk [0,2,4,6,7,8,9] rfl (Go'.inLoop ?_))))))))
       exact ih3 (A++R').length H23 ⟨R',pv,fs,Z16,Zq',_,h0,t0',lfN g' (X.take i++X.drop (i+1)),A1,C1,⟨J',fl_snoc hord⟩,q5.symm,by omega,rfl,q6,q7,(show i≤(X.take i++X.drop (i+1)).length by rw [List.length_append,List.length_take,List.length_drop];omega)⟩ (by omega)
end
end Go.Bt.FG
