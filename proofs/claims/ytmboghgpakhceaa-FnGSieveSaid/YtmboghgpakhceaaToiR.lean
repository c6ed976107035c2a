/- Contracts of functions of the program, proved by walking through their code. Conditions: those that each theorem names. -/
import Derived.Test.YtmboghgpakhceaaToiO
import Derived.Test.YtmboghgpakhceaaTogD
import Derived.Test.YtmboghgpakhceaaToiA
import Derived.Test.YtmboghgpakhceaaToRn
import Derived.Test.YtmboghgpakhceaaToRb
import Derived.Test.YtmboghgpakhceaaTojB
set_option linter.unusedVariables false
namespace Go.Bt.FG
open Go Go.Proofs Go.Proofs.Try
set_option maxRecDepth 20000
set_option maxHeartbeats 4000000
set_option linter.unusedSectionVars false
section
variable [Inhabited Cx]
theorem popMax_spec {B:World} {H:Mem} {tr:Nat} {P:Ps} (hP:PsOk P) {S:Nat→Prop} {l:List (Int×Int)} (hM:MapM H tr P S l) (hlen:l.length<2305843009213693952):
  Fn Try.prog B 114 [.pointer (some ⟨tr,0,none⟩)] H (PopP H tr P S l true):=by
 have hSlt:=hM.lt
 have hb00:=hM.tc.hb
 have htb:=hM.tc.tb
 refine fn_of func114 rfl ntmps114 ?_
 refine (show Go' _ _ _ _ 150 [(0,_)] [.code _] _ from ?_)
 refine Ut 1 rfl (Ur 2 2 rfl (O.alloc rfl rfl rfl zeroValue27 ?_))
 intro H0 M0
 refine ⟨trivial,?_⟩
 have hR0:=M0.fr nowhere
 replace hM:=hM.fr hR0 (fun _ _ _=>nw)
 have wz:Wr H0 H.size 0 2:=M0.wr 2 (by decide)
 have hs0:=M0.size
 refine Uf 1 [0,2,3] rfl (Ut 2 rfl (Go'.mono (Q:=PopZ H0 tr P S H.size l true) (fun v H' hq=>PopZ.out hR0 hSlt hq) ?_))
 have hzS:∀b,S b→b≠H.size:=fun b hb e=>by have:=hSlt b hb;omega
 have hzb:cx.base≤H.size:=hb00
 have hzl:H.size<H0.size:=by omega
 clear hR0 hSlt hb00 hs0 M0
 generalize H.size=zr at*
 clear H
 rename Mem=>H
 refine Ur 2 8 rfl (Uq 1 rfl (O.callQ rfl rfl rfl call128 rfl lock_spec trivial (Uf 0 [0,2,3,7] rfl (Go'.condF rfl (Ut 3 rfl ?_)))))
 have hM0:=hM
 have hh1:=hP.h1
 have hmm:=hP.hm
 obtain ⟨tc,srt,cnt,own,lt,bs,hr⟩:=hM
 have htl:cx.base≤H.size:=tc.hb
 rcases hr with ⟨rfl,hptr⟩|⟨h0,t0,hg,hx0,e,hc,hnt,hown⟩
 ·
  refine Ur 5 64 rfl (Ul 3 rfl hptr (O.isNil rfl rfl rfl rfl underlying129 rfl rfl (Uf 0 [0,2,3,13] rfl (Go'.condT rfl (Ut 1 rfl (Ur 6 576 rfl (Us 3 rfl tc.emp rfl (O.st (vs:=(EJ.enc (0,0))) rfl rfl sizeOf27 rfl rfl rfl rfl rfl wz ?_))))))))
  intro Hz Wz
  refine ⟨trivial,?_⟩
  refine Uf 1 [0,2,3] rfl (Go'.ret (vs:=[_,_]) func114 results114 ⟨⟨_,_,rfl,fun _ _=>run_loadVar_agg (fun w=>⟨isAgg27 w,sizeOf27 w⟩) rfl Wz.all⟩,rfl,trivial⟩ ?_)
  exact ⟨rfl,S,hM0.zr hzb hzS Wz,Wz.fr.mono (fun b o _ h=>.inr h.1),fun b hb=>.inl hb⟩
 ·
  refine Ur 5 64 rfl (Ul 3 rfl (show cl _ tr 2=some (.pointer (some ⟨Gt.p h0 t0,0,none⟩)) from hc) (O.isNil rfl rfl rfl rfl underlying129 rfl rfl (Uf 0 [0,2,3,13] rfl (Go'.condF rfl (Ut 2 rfl ?_)))))
  obtain ⟨kp0,hn0⟩:=hg.node
  have hiso0:=hn0.c0
  rw [hg.isoe] at hiso0
  refine Ur 6 512 rfl (Uq 4 rfl (O.callQ rfl rfl rfl call130 rfl (isoLoad_spec true hc hiso0 tc.iso) trivial (Uf 1 [0,2,3,4] rfl (Ut 1 rfl (Ur 1 2 rfl (O.alloc rfl rfl rfl zeroValue27 ?_))))))
  intro H1 M1
  refine ⟨trivial,?_⟩
  have hs1:=M1.size
  have hg1:=hg.fr (M1.fr nowhere) (fun _ _ _=>nw)
  replace tc:=tc.fr (M1.fr nowhere) (fun _ _ _ _=>nw)
  replace cnt:=M1.keep cnt
  replace hc:=M1.keep hc
  have w6:Wr H1 H.size 0 2:=M1.wr 2 (by decide)
  have hb6n:∀o,¬Gt.af h0 t0 H.size o:=fun o hb=>by have:=hg.lt hb;omega
  have hF1:=M1.fr nowhere
  have hb6:H.size<H1.size:=by omega
  generalize hb6e:H.size=b6 at*
  clear M1 hn0 hiso0 hg
  have hlt0:∀b o,Gt.af h0 t0 b o→b<H1.size:=fun b o hb=>hg1.lt hb
  refine Uf 0 [0,2,3,4,5] rfl (Ut 2 rfl (Go'.loop (Uk [0,2,3,4,5] rfl ?_)))
  refine Go'.ind (σ:=(h:Nat)×Gt EJ h) (fun s=>s.1) (fun s H'=>(∃D,Spn H1 H' P true (fun n=>n-1) h0 t0 D s.1 s.2)∧Wr H' b6 0 2)
   (fun s=>[(0,.pointer (some ⟨tr,0,none⟩)),(2,.pointer (some ⟨zr,0,none⟩)),(3,.bool false),(4,.pointer (some ⟨Gt.p s.1 s.2,0,none⟩)),(5,.pointer (some ⟨b6,0,none⟩))]) ⟨h0,t0⟩ ⟨⟨_,Spn.start hg1 hx0⟩,w6⟩ rfl ?_
  clear w6
  rintro ⟨h,t⟩ H2 ⟨⟨D,hs⟩,w6⟩ ih
  simp only at hs
  have hDt:∀b,b<cx.base→¬D b:=fun b e2 hd=>by have:=hnt b 1 (Gt.sp_af ((hs.all b).2 (.inl hd)) 1 (by omega));omega
  have tc2:=tc.fr hs.fr (fun b o hb _ hz=>hDt b hb.1 hz.2)
  have cnt2:=hs.fr.keep cnt (fun hz=>hDt tr htb hz.2)
  have hc2:=hs.fr.keep hc (fun hz=>hDt tr htb hz.2)
  have hsz2:=hs.fr.size
  have hnow:=hs.now
  have hle:=hs.le
  have hcn:=(hs.g.cnOf).2
  have hne:=hs.g.ne hs.x1
  have hcc:=hs.cnt
  rw [e] at hle
  refine Ut 2 rfl ?_
  rcases h with _|h
  rotate_left
  ·
   obtain ⟨g,X,K⟩:=t
   have hI:=hnow.inn
   have hKl:K.length=X.length+1:=hnow.2.2.2.2.2.1
   obtain ⟨k,hk⟩:∃k,K[cix true K.length]?=some k:=⟨K[cix true K.length]'(cix_lt (by omega)),List.getElem?_eq_getElem (cix_lt (by omega))⟩
   have hkK:=List.mem_of_getElem? hk
   have hx255:=hnow.2.2.2.2.1
   have hP255:=hP.hx
   replace hx255:X.length≤P.mx:=hx255
   replace hcn:cnOf H1 g.p=(Gt.L (h+1) ((g,X,K):Gt EJ (h+1))).length:=hcn
   refine Ur 8 32832 rfl (Ul 3 rfl (show cl _ g.p 1=some (.int .i64 (cnOf H1 g.p:Int)) from hcc) (Ub 0 ((((cnOf H1 g.p)-1:Nat):Int)) rfl (by omega) (Uq 2 rfl (O.st rfl rfl sizeOf3 rfl rfl rfl rfl rfl (hI.n.wr.at0 1 1 (by omega)) ?_))))
   intro H3 W3
   have hs3:=hs.step (t:=(g,X,K)) hh1 hk W3
   replace hI:=hI.count W3
   have tc3:=tc2.fr W3.fr (fun b o hb _=>nr (.inl (fun e2=>by have h7:=hnt g.p 1 (hs.sub _ _ (show Gt.af (h+1) ((g,X,K):Gt EJ (h+1)) g.p 1 from .inl (.inl ⟨rfl,by omega⟩)));have h8:=hb.1;have h9:b=g.p:=e2;omega)))
   replace w6:=W3.fr.wr w6
   refine ⟨trivial,?_⟩
   refine Uf 0 [0,2,3,4,5] rfl (Ut 2 rfl (Ur 2 8 rfl (Uq 1 rfl (O.callQ rfl rfl rfl call133 rfl (leaf_spec hI.n.c3) trivial (Uf 0 [0,2,3,4,5,31] rfl (Go'.condF rfl (Ut 1 rfl ?_)))))))
   obtain ⟨hgk,_⟩:=hI.c.1 k hkK
   obtain ⟨kpk,hnk⟩:=hgk.node
   have hisok:=hnk.c0
   rw [hgk.isoe] at hisok
   have hko:((Gt.ps h K).map some)[cix true K.length]?=some (some (Gt.p h k)):=by rw [Gt.ps,List.map_map,List.getElem?_map,hk];rfl
   have hkl:((Gt.ps h K).map some).length=K.length:=by rw [List.length_map,Gt.ps,List.length_map]
   have hkc:=hI.k.c
   rw [hkl] at hkc
   refine Ud 18 8607764736 (by kernel_rfl) (Ul 4 rfl (show cl _ g.p 3=some (.pointer (some ⟨g.cb,0,none⟩)) from hI.n.c3) (Ul 1 rfl (show cl _ g.cb 0=some (.slice (some ⟨g.kb,g.ko,none⟩) K.length g.kc) from hkc) (Ul 3 rfl (show cl _ g.p 3=some (.pointer (some ⟨g.cb,0,none⟩)) from hI.n.c3) (Ul 1 rfl (show cl _ g.cb 0=some (.slice (some ⟨g.kb,g.ko,none⟩) K.length g.kc) from hkc) (Ub 1 (((K.length-1:Nat):Int)) rfl (by omega) (Ux 0 (K.length-1) rfl (by omega) (by omega) (O.callQ rfl rfl rfl call130 rfl (isoLoad_spec true (hI.k.at hko) hisok tc3.iso) trivial (Uf 1 [0,2,3,4,5,31] rfl (Ut 1 rfl (Uk [0,2,3,4,5] rfl (Go'.inLoop ?_)))))))))))
   exact ih ⟨h,k⟩ H3 ⟨⟨_,hs3⟩,w6⟩ (by simp only;omega)
  ·
   obtain ⟨⟨np,niso,ncnt,nib,nio,nic,ncb,nkb,nko,nkc⟩,X⟩:=t
   have hn:NodeM EJ H2 (⟨np,niso,ncnt,nib,nio,nic,ncb,nkb,nko,nkc⟩:Ng) X (.pointer none):=hnow.1
   have hiso:niso=P.iso:=hnow.2.1
   have hcntX:ncnt=X.length:=hnow.2.2.1
   have hxm:X.length≤P.mx:=hnow.2.2.2
   have hx255:=hP.hx
   have hx1:1≤X.length:=hs.x1
   have hle2:X.length≤l.length:=hle
   have hlf:((⟨np,niso,ncnt,nib,nio,nic,ncb,nkb,nko,nkc⟩:Ng),X)=Gt.lf true h0 t0:=hs.lf
   have tn:∀b o,(ncl EJ (⟨np,niso,ncnt,nib,nio,nic,ncb,nkb,nko,nkc⟩:Ng)) b o→¬(b<cx.base):=fun b o hb=>by have:=hnt b o (hs.sub b o hb);omega
   have hlt:∀b o,(ncl EJ (⟨np,niso,ncnt,nib,nio,nic,ncb,nkb,nko,nkc⟩:Ng)) b o→b<H1.size∧b≠b6:=fun b o hb=>⟨hlt0 b o (hs.sub b o hb),fun e2=>hb6n o (e2▸hs.sub b o hb)⟩
   have hD:∀b,(b<cx.base)→b<H2.size:=fun b hb=>by omega
   have hic:=hn.sl.hle
   simp only at hic
   have hF:Fr (fun b o=>(ncl EJ (⟨np,niso,ncnt,nib,nio,nic,ncb,nkb,nko,nkc⟩:Ng)) b o∨b=b6∨b=tr) H2 H2:=Fr.refl _ _
   have hF2:Fr (fun b o=>(o=1∧b=np)∨b=b6) H2 H2:=Fr.refl _ _
   have sn:Gro H2 (ncl EJ (⟨np,niso,ncnt,nib,nio,nic,ncb,nkb,nko,nkc⟩:Ng)) (ncl EJ (⟨np,niso,ncnt,nib,nio,nic,ncb,nkb,nko,nkc⟩:Ng)):=Gro.refl _ _
   clear tc cnt hc
   obtain ⟨tc,cnt,hc⟩:=And.intro tc2 (And.intro cnt2 hc2)
   clear tc2 cnt2 hc2
   obtain ⟨y,hy⟩:∃y,X[X.length-1]?=some y:=⟨X[X.length-1]'(by omega),List.getElem?_eq_getElem (by omega)⟩
   refine Ur 8 32832 rfl (Ul 3 rfl (show cl _ np 1=some (.int .i64 (ncnt:Int)) from hn.c1) (Ub 0 (((ncnt-1:Nat):Int)) rfl (by omega) (Uq 2 rfl (O.st rfl rfl sizeOf3 rfl rfl rfl rfl rfl (hn.wr.at0 1 1 (by omega)) ?_))))
   intro H11 WH11
   have fW:Fr (ncl EJ (⟨np,niso,ncnt,nib,nio,nic,ncb,nkb,nko,nkc⟩:Ng)) H2 H11:=(Wrote.fHdr (E:=EJ) (g:=(⟨np,niso,ncnt,nib,nio,nic,ncb,nkb,nko,nkc⟩:Ng)) WH11 (by omega))
   replace tc:=tc.fr fW (fun b o hb _ hz=>tn b o hz hb.1)
   replace hF:=Fr.tot hF fW sn (fun _ _ h=>.inl h)
   replace w6:=Fr.wr fW w6
   replace cnt:=Fr.keep fW cnt (fun hz=>tn tr _ hz htb)
   replace hc:=Fr.keep fW hc (fun hz=>tn tr _ hz htb)
   obtain ⟨ncnt_11,encnt_11⟩:∃z,z=ncnt-1:=⟨_,rfl⟩
   rw [←encnt_11] at WH11
   replace hn:NodeM EJ H11 (⟨np,niso,ncnt_11,nib,nio,nic,ncb,nkb,nko,nkc⟩:Ng) (X) (.pointer none):=hn.count WH11
   clear fW
   replace hF2:=hF2.trans' WH11.fr (fun _ _ _ h=>h) (fun b o _ hz=>by
    have h1:=hz.1;have h2:=hz.2.1;have h3:=hz.2.2
    simp only [List.length_cons,List.length_nil] at h3
    exact .inl ⟨by omega,h1⟩)
   refine ⟨trivial,?_⟩
   refine Uf 0 [0,2,3,4,5] rfl (Ut 2 rfl (Ur 2 8 rfl (Uq 1 rfl (O.callQ rfl rfl rfl call133 rfl (leaf_spec hn.c3) trivial (Uf 0 [0,2,3,4,5,31] rfl (Go'.condT rfl (Ut 1 rfl (Ud 13 54542400 (by kernel_rfl) (Ul 3 rfl (show cl _ np 2=some (.slice (some ⟨nib,nio,none⟩) X.length nic) from hn.c2) (Ul 3 rfl (show cl _ np 2=some (.slice (some ⟨nib,nio,none⟩) X.length nic) from hn.c2) (Ub 1 (((X.length-1:Nat):Int)) rfl (by omega) ?_)))))))))))
   refine Ux 0 (X.length-1) rfl (by omega) (by omega) (Us 0 rfl (hn.sl.item hy) rfl (O.st3 rfl rfl sizeOf27 rfl rfl rfl rfl rfl w6 ?_))
   intro H12 WH12
   have hsH12:=WH12.size
   replace hn:=NodeM.fr EJ hn WH12.fr (fun b o hb=>nr (.inl (by have:=(hlt b o hb).2;omega)))
   replace tc:=tc.fr WH12.fr (fun b o hb _=>nr (.inl (by omega)))
   replace hF:=hF.trans' WH12.fr (fun _ _ _ h=>h) (fun b o hb h=>.inr (.inl h.1))
   replace w6:=Fr.wr WH12.fr w6
   have m6:Rd H12 b6 0 (EJ.enc y):=WH12.all
   replace cnt:=Fr.keep WH12.fr cnt (nr (.inl (by omega)))
   replace hc:=Fr.keep WH12.fr hc (nr (.inl (by omega)))
   replace hF2:=hF2.trans' WH12.fr (fun _ _ _ h=>h) (fun b o _ hz=>.inr hz.1)
   refine Uf 0 [0,2,3,4,5,31] rfl (Ut 2 rfl ?_)
   by_cases hmnX:X.length=P.mn
   rotate_left
   ·
    refine Ud 10 65600 (by kernel_rfl) (Ul 3 rfl (show cl _ np 2=some (.slice (some ⟨nib,nio,none⟩) X.length nic) from hn.c2) (Ul 4 rfl tc.mn' (Uc 0 rfl (eqlF (by omega)) (Uf 0 [0,2,3,4,5,31,53] rfl (Go'.condF rfl (Ut 2 rfl (Ud 16 3288350784 (by kernel_rfl) (Ul 3 rfl (show cl _ np 2=some (.slice (some ⟨nib,nio,none⟩) X.length nic) from hn.c2) (Ul 3 rfl (show cl _ np 2=some (.slice (some ⟨nib,nio,none⟩) X.length nic) from hn.c2) (Ub 1 (((X.length-1:Nat):Int)) rfl (by omega) (Us 3 rfl tc.emp rfl ?_)))))))))))
    refine Ux 0 (X.length-1) rfl (by omega) (by omega) (O.st3 rfl rfl sizeOf27 rfl rfl rfl rfl rfl (hn.sl.wri (i:=X.length-1) (by omega)) ?_)
    intro H13 WH13
    have fW:Fr (ncl EJ (⟨np,niso,ncnt_11,nib,nio,nic,ncb,nkb,nko,nkc⟩:Ng)) H12 H13:=(NodeM.fSet hn (i:=X.length-1) (x:=((0:Int),(0:Int))) WH13 (by omega))
    replace tc:=tc.fr fW (fun b o hb _ hz=>tn b o hz hb.1)
    replace hF:=Fr.tot hF fW sn (fun _ _ h=>.inl h)
    replace w6:=Fr.wr fW w6
    replace m6:=Fr.rd fW m6 (fun _ _ hz=>by have:=(hlt _ _ hz).2;omega)
    replace cnt:=Fr.keep fW cnt (fun hz=>tn tr _ hz htb)
    replace hc:=Fr.keep fW hc (fun hz=>tn tr _ hz htb)
    obtain ⟨nX1,enX1,hn⟩:∃X1,X1=X.take (X.length-1)++((0:Int),(0:Int))::X.drop (X.length-1+1)∧NodeM EJ H13 (⟨np,niso,ncnt_11,nib,nio,nic,ncb,nkb,nko,nkc⟩:Ng) (X1) (.pointer none):=⟨_,rfl,hn.set (i:=X.length-1) (x:=((0:Int),(0:Int))) WH13 (by omega)⟩
    have lnX1:nX1.length=X.length:=by rw [enX1];simp only [List.length_append,List.length_take,List.length_cons,List.length_drop];omega
    clear fW
    refine Uf 0 [0,2,3,4,5,31,53] rfl (Ut 1 rfl (Ud 15 805372160 (by kernel_rfl) (Ul 4 rfl (show cl _ np 2=some (.slice (some ⟨nib,nio,none⟩) nX1.length nic) from hn.c2) (Ul 3 rfl (show cl _ np 2=some (.slice (some ⟨nib,nio,none⟩) nX1.length nic) from hn.c2) (Ub 1 (((nX1.length-1:Nat):Int)) rfl (by omega) (O.slc (jl:=0) (jh:=nX1.length-1) (jm:=nic) rfl rfl rfl rfl underlying25 sizeOf27 rfl rfl ⟨_,by rfl⟩ rfl (by omega) (by omega) (by simp) (by simp) ?_))))))
    intro oc hoc
    have hoc2:nio=oc:=by rw [hoc (by omega)];simp
    subst hoc2
    rw [Nat.sub_zero]
    refine Uq 2 rfl (O.st3 rfl rfl sizeOf25 rfl rfl rfl rfl rfl (hn.wr.at0 2 1 (by omega)) ?_)
    intro H14 WH14
    have fW:Fr (ncl EJ (⟨np,niso,ncnt_11,nib,nio,nic,ncb,nkb,nko,nkc⟩:Ng)) H13 H14:=(Wrote.fHdr (E:=EJ) (g:=(⟨np,niso,ncnt_11,nib,nio,nic,ncb,nkb,nko,nkc⟩:Ng)) WH14 (by omega))
    replace tc:=tc.fr fW (fun b o hb _ hz=>tn b o hz hb.1)
    replace hF:=Fr.tot hF fW sn (fun _ _ h=>.inl h)
    replace w6:=Fr.wr fW w6
    replace m6:=Fr.rd fW m6 (fun _ _ hz=>by have:=(hlt _ _ hz).2;omega)
    replace cnt:=Fr.keep fW cnt (fun hz=>tn tr _ hz htb)
    replace hc:=Fr.keep fW hc (fun hz=>tn tr _ hz htb)
    obtain ⟨nX2,enX2,hn⟩:∃X1,X1=nX1.take (nX1.length-1)∧NodeM EJ H14 (⟨np,niso,ncnt_11,nib,nio,nic,ncb,nkb,nko,nkc⟩:Ng) (X1) (.pointer none):=⟨_,rfl,hn.cut WH14 (by omega)⟩
    have lnX2:nX2.length=nX1.length-1:=by rw [enX2];simp only [List.length_take];omega
    clear fW
    refine Uf 0 [0,2,3,4,5,31,53] rfl (Ut 1 rfl ?_)
    have hX:nX2=X.take (X.length-1):=by
     rw [enX2,lnX1,enX1]
     exact Pl.cutoff_last X _ (by omega)
    have hsp:bif true then X=nX2++[y] else X=y::nX2:=by rw [hX];exact Pl.last_split hy
    obtain ⟨gE1,gE2,gE3,⟨R,gE4,gE5⟩,gE6,gE7⟩:=Gt.Good.edit (d:=true) (δ:=(fun n=>n-1)) (Z:=fun b o=>(o=1∧D b)∨((ncl EJ (⟨np,niso,ncnt,nib,nio,nic,ncb,nkb,nko,nkc⟩:Ng)) b o∨b=b6∨b=tr)) (hs.fr.trans' hF (fun _ _ _ h=>.inl h) (fun _ _ _ h=>.inr h)) hn hiso (show ncnt_11=nX2.length by omega) (by omega) hg1
     (fun b o hb hz=>by
      rcases hz with ⟨ho,hd⟩|hz|rfl|rfl
      · exact .inl ⟨ho,(hs.all b).2 (.inl hd)⟩
      · exact .inr (by rw [←hlf];exact hz)
      · exact (hb6n o hb).elim
      · exact absurd (hnt _ _ hb) (by omega))
     (fun q hq hne2=>by
      rcases (hs.all q).1 hq with hd|hd
      ·
       exact hF.keep (hs.val q hd) (fun hz=>by
        rcases hz with hz|rfl|rfl
        · exact hs.off q hd hz
        · exact hb6n 1 (Gt.sp_af hq 1 (by omega))
        · exact hDt _ htb hd)
      ·
       rw [←hlf] at hne2
       exact (hne2 hd).elim)
     (by rw [←hlf]) (fun h9=>by
      have:P.mn≤X.length:=hs.mn h9
      omega)
     (by rw [←hlf];exact fun b o hb=>.inl hb) (fun n hn9=>by rw [←hlf] at hn9 ⊢;simp only at hn9 ⊢;omega)
    rw [←hlf] at gE4
    have hpk:=popk_glue (R:=R) hsp
    have ht1:l=glue true X R:=by rw [←e];exact gE4
    rw [←ht1] at hpk
    have hglen:=glue_len true nX2 R
    have hglen2:=congrArg List.length ht1
    rw [glue_len] at hglen2
    have hown1:∀b o,Gt.af h0 (Gt.ed true (fun n=>n-1) (⟨np,niso,ncnt_11,nib,nio,nic,ncb,nkb,nko,nkc⟩:Ng) nX2 h0 t0) b o→S b∨(H.size≤b∧b<H14.size):=fun b o hb=>(gE3 b o hb).imp (hown b o) (fun h9=>⟨by omega,gE1.lt hb⟩)
    have hnt1:∀b o,Gt.af h0 (Gt.ed true (fun n=>n-1) (⟨np,niso,ncnt_11,nib,nio,nic,ncb,nkb,nko,nkc⟩:Ng) nX2 h0 t0) b o→cx.base≤b:=fun b o hb=>(gE3 _ _ hb).elim (hnt b o) (fun h9=>by omega)
    have hFt:Fr (fun b _=>S b∨b=zr) H H14:=hF1.trans' (hs.fr.trans' hF (Z:=fun b o=>(o=1∧D b)∨((ncl EJ (⟨np,niso,ncnt,nib,nio,nic,ncb,nkb,nko,nkc⟩:Ng)) b o∨b=b6∨b=tr)) (fun _ _ _ h=>.inl h) (fun _ _ _ h=>.inr h)) (fun _ _ _ h=>h.elim) (fun b o hb hz=>by
     rcases hz with ⟨ho,hd⟩|hz|rfl|rfl
     · exact .inl (hown b o (ho▸Gt.sp_af ((hs.all b).2 (.inl hd)) 1 (by omega)))
     · exact .inl (hown b o (hs.sub b o hz))
     · omega
     · exact .inl own)
    have hbl6:∀b o,Gt.af h0 (Gt.ed true (fun n=>n-1) (⟨np,niso,ncnt_11,nib,nio,nic,ncb,nkb,nko,nkc⟩:Ng) nX2 h0 t0) b o→b≠tr:=fun b o hb=>by have:=hnt1 b o hb;omega
    generalize hT:Gt.ed true (fun n=>n-1) (⟨np,niso,ncnt_11,nib,nio,nic,ncb,nkb,nko,nkc⟩:Ng) nX2 h0 t0=T at*
    rw [←gE2] at hc
    have hsrt1:Pl.Srt OI (glue true nX2 R):=by
     have:=Pl.runs_popk_srt OI srt [true]
     have e9:(Pl.runs Pl.popk l [true]).1=(Pl.popk l true).1:=rfl
     rw [e9,hpk] at this
     exact this
    refine Ur 8 32832 rfl (Ul 3 rfl cnt (Ub 0 (((l.length-1:Nat):Int)) rfl (by omega) (Uq 2 rfl (O.st rfl rfl sizeOf3 rfl rfl rfl rfl rfl (tc.wr.at0 3 1 (by omega)) ?_))))
    intro Ha Wa
    have hsa:=Wa.size
    replace tc:=tc.fr (Wa.fr' 1 rfl) (fun b o hb he hz=>by have h1:=he hz.1;have h2:=hz.2.1;have h3:=hz.2.2;omega)
    replace hc:=Wa.keep1 hc (by omega)
    replace hFt:=hFt.trans' Wa.fr (fun _ _ _ h=>h) (fun b o _ h=>.inl (by rw [h.1];exact own))
    replace m6:=Wa.fr.rd m6 (fun _ _=>nr (.inl (by omega)))
    replace w6:=Wa.fr.wr w6
    have cnt5:cl Ha tr 3=some (.int .i64 ((l.length-1:Nat):Int)):=Wa.at
    replace gE1:=gE1.fr Wa.fr (fun b o hb=>nr (.inl (hbl6 b o hb)))
    refine ⟨trivial,?_⟩
    refine Uf 0 [0,2,3,4,5,31,53] rfl (Ut 2 rfl ?_)
    by_cases hl1:l.length-1=0
    ·
     refine Ur 5 64 rfl (Ul 3 rfl cnt5 (Uc 0 rfl (eqlT (by omega)) (Uf 0 [0,2,3,4,5,31,53,94] rfl (Go'.condT rfl (Ur 4 128 rfl (Uq 3 rfl (O.st rfl rfl sizeOf129 rfl rfl rfl rfl rfl (tc.wr.at0 2 1 (by omega)) ?_)))))))
     intro Hb Wb
     have hsb:=Wb.size
     replace tc:=tc.fr (Wb.fr' 1 rfl) (fun b o hb he hz=>by have h1:=he hz.1;have h2:=hz.2.1;have h3:=hz.2.2;omega)
     replace cnt5:=Wb.keep1 cnt5 (by omega)
     replace hFt:=hFt.trans' Wb.fr (fun _ _ _ h=>h) (fun b o _ h=>.inl (by rw [h.1];exact own))
     replace m6:=Wb.fr.rd m6 (fun _ _=>nr (.inl (by omega)))
     replace w6:=Wb.fr.wr w6
     have hc6:cl Hb tr 2=some (.pointer none):=Wb.at
     refine ⟨trivial,?_⟩
     refine Uf 0 [0,2,3,4,5,31,53,94] rfl (Ut 1 rfl (Ur 3 9 rfl (Us 0 rfl m6 rfl (O.st (vs:=(EJ.enc y)) rfl rfl sizeOf27 rfl rfl rfl rfl rfl (hFt.wr wz) ?_))))
     intro Hz Wz
     have hsz8:=Wz.size
     have hne9:∀b o,Gt.af h0 T b o→b≠zr:=fun b o hb=>(hown1 b o hb).elim (hzS b) (fun h=>by omega)
     replace tc:=tc.fr Wz.fr (fun b o hb _=>nr (.inl (by have:=hb.1;omega)))
     replace cnt5:=Wz.fr.keep cnt5 (nr (.inl (by omega)))
     replace hc6:=Wz.fr.keep hc6 (nr (.inl (by omega)))
     replace hFt:=hFt.trans' Wz.fr (fun _ _ _ h=>h) (fun b o _ h=>.inr h.1)
     refine ⟨trivial,?_⟩
     refine Uf 1 [0,2,3,4,5,31,53,94] rfl (Go'.ret (vs:=[_,_]) func114 results114 ⟨⟨_,_,rfl,fun _ _=>run_loadVar_agg (fun w=>⟨isAgg27 w,sizeOf27 w⟩) rfl Wz.all⟩,rfl,trivial⟩ ?_)
     unfold PopZ
     rw [hpk]
     have e9:l.length-1=(glue true nX2 R).length:=by rw [hglen];omega
     rw [e9] at cnt5
     have hsz9:=hFt.size
     exact ⟨rfl,fun b=>S b∨(H.size≤b∧b<Hz.size),⟨tc,hsrt1,cnt5,.inl own,fun b hb=>hb.elim (fun h9=>by have:=lt b h9;omega) (fun h9=>h9.2),fun b hb=>hb.elim (bs b) (fun h9=>.inr (by omega)),.inl ⟨List.length_eq_zero_iff.1 (by rw [hglen];omega),hc6⟩⟩,hFt,fun b hb=>hb.imp id (fun h9=>h9.1)⟩
    ·
     refine Ur 5 64 rfl (Ul 3 rfl cnt5 (Uc 0 rfl (eqlF (by omega)) (Uf 0 [0,2,3,4,5,31,53,94] rfl (Go'.condF rfl (Ut 2 rfl (Ur 3 9 rfl (Us 0 rfl m6 rfl (O.st (vs:=(EJ.enc y)) rfl rfl sizeOf27 rfl rfl rfl rfl rfl (hFt.wr wz) ?_))))))))
     intro Hz Wz
     have hsz8:=Wz.size
     have hne9:∀b o,Gt.af h0 T b o→b≠zr:=fun b o hb=>(hown1 b o hb).elim (hzS b) (fun h=>by omega)
     replace tc:=tc.fr Wz.fr (fun b o hb _=>nr (.inl (by have:=hb.1;omega)))
     replace cnt5:=Wz.fr.keep cnt5 (nr (.inl (by omega)))
     replace hc:=Wz.fr.keep hc (nr (.inl (by omega)))
     replace gE1:=gE1.fr Wz.fr (fun b o hb=>nr (.inl (hne9 b o hb)))
     replace hFt:=hFt.trans' Wz.fr (fun _ _ _ h=>h) (fun b o _ h=>.inr h.1)
     refine ⟨trivial,?_⟩
     refine Uf 1 [0,2,3,4,5,31,53,94] rfl (Go'.ret (vs:=[_,_]) func114 results114 ⟨⟨_,_,rfl,fun _ _=>run_loadVar_agg (fun w=>⟨isAgg27 w,sizeOf27 w⟩) rfl Wz.all⟩,rfl,trivial⟩ ?_)
     unfold PopZ
     rw [hpk]
     have e9:l.length-1=(glue true nX2 R).length:=by rw [hglen];omega
     rw [e9] at cnt5
     have hsz9:=hFt.size
     exact ⟨rfl,fun b=>S b∨(H.size≤b∧b<Hz.size),⟨tc,hsrt1,cnt5,.inl own,fun b hb=>hb.elim (fun h9=>by have:=lt b h9;omega) (fun h9=>h9.2),fun b hb=>hb.elim (bs b) (fun h9=>.inr (by omega)),.inr ⟨h0,T,gE1,by
        rcases Nat.eq_zero_or_pos h0 with h9|h9
        ·
         rw [gE7 h9]
         have h8:=gE5
         subst h9
         have:(Gt.L 0 T).length=(Gt.X 0 T).length:=rfl
         rw [gE7 rfl,gE5,hglen] at this
         omega
        · rw [gE6 h9];assumption,gE5,hc,hnt1,fun b o hb=>(hown1 b o hb).imp id (fun h9=>⟨h9.1,by omega⟩)⟩⟩,hFt,fun b hb=>hb.imp id (fun h9=>h9.1)⟩
   ·
    refine Ud 10 65600 (by kernel_rfl) (Ul 3 rfl (show cl _ np 2=some (.slice (some ⟨nib,nio,none⟩) X.length nic) from hn.c2) (Ul 4 rfl tc.mn' (Uc 0 rfl (eqlT (by omega)) (Uf 0 [0,2,3,4,5,31,53] rfl (Go'.condT rfl (Ut 2 rfl ?_))))))
    have hFb:Fr (fun b o=>(o=1∧Gt.sp true h0 t0 b)∨b=b6) H1 H12:=hs.fr.trans' hF2 (fun b o _ hz=>.inl ⟨hz.1,(hs.all b).2 (.inl hz.2)⟩) (fun b o _ hz=>by
     rcases hz with hz|hz
     · exact .inl ⟨hz.1,hz.2▸(hs.all np).2 (.inr rfl)⟩
     · exact .inr hz)
    have hvb:∀q,Gt.sp true h0 t0 q→cl H12 q 1=some (.int .i64 ((cnOf H1 q-1:Nat):Int)):=fun q hq=>by
     rcases (hs.all q).1 hq with hd|hd
     ·
      exact hF2.keep (hs.val q hd) (fun hz=>by
       rcases hz with ⟨_,rfl⟩|rfl
       · exact hs.off q hd (.inl ⟨rfl,by omega⟩)
       · exact hb6n 1 (Gt.sp_af hq 1 (by omega)))
     ·
      have hd':q=np:=hd
      subst hd'
      have hcn':cnOf H1 q=ncnt:=by rw [hcntX];exact hcn
      rw [hcn',←encnt_11]
      exact hn.c1
    have hs2:=Sp2.start (δ:=(fun n=>n-1)) hg1 hFb hb6n hvb hx0
    have hszb:=hFb.size
    have hxy:(bif true then X=X.take (X.length-1)++[y] else X=y::X.drop (0+1)):=by exact Pl.last_split hy
    clear ih
    refine Ur 5 64 rfl (Ul 3 rfl (show cl _ tr 2=some (.pointer (some ⟨Gt.p h0 t0,0,none⟩)) from hc) (Uf 1 [0,2,3,4,5] rfl (Ut 2 rfl (Go'.loop (Uk [0,2,3,4,5] rfl ?_)))))
    refine Go'.ind (σ:=(h:Nat)×Gt EJ h) (fun s=>s.1) (fun s H'=>∃D,Sp2 H1 H' P true (fun n=>n-1) h0 t0 b6 D s.1 s.2∧Fr (fun b o=>o=1∧Gt.sp true h0 t0 b) H12 H')
     (fun s=>[(0,.pointer (some ⟨tr,0,none⟩)),(2,.pointer (some ⟨zr,0,none⟩)),(3,.bool false),(4,.pointer (some ⟨Gt.p s.1 s.2,0,none⟩)),(5,.pointer (some ⟨b6,0,none⟩))]) ⟨h0,t0⟩ ⟨_,hs2,Fr.refl _ _⟩ rfl ?_
    rintro ⟨h,t⟩ H3 ⟨D2,hs3,hf3⟩ ih
    simp only at hs3
    have hcc3:=hs3.val2 _ (Gt.sp_p true)
    have hcn3:=(hs3.g.cnOf).2
    have hle3:=hs3.le
    rw [e] at hle3
    refine Ut 2 rfl ?_
    have hpos:1≤(Gt.L h t).length:=hs3.pos
    rcases h with _|h
    rotate_left
    ·
     obtain ⟨g,X3,K⟩:=t
     have hKl:K.length=X3.length+1:=hs3.g.2.2.2.2.2.1
     obtain ⟨k,hk⟩:∃k,K[cix true K.length]?=some k:=⟨K[cix true K.length]'(cix_lt (by omega)),List.getElem?_eq_getElem (cix_lt (by omega))⟩
     replace hcn3:cnOf H1 g.p=(Gt.L (h+1) ((g,X3,K):Gt EJ (h+1))).length:=hcn3
     obtain ⟨i1,i2,i3⟩:=hs3.inner (t:=(g,X3,K)) hk
     have hwr3:=hs3.fr.wr hs3.g.1.wr
     have hx3:X3.length≤P.mx:=hs3.g.2.2.2.2.1
     refine Ur 8 32832 rfl (Ul 3 rfl (show cl _ g.p 1=some (.int .i64 ((cnOf H1 g.p-1:Nat):Int)) from hcc3) (Ua 0 (((((cnOf H1 g.p-1))+1:Nat):Int)) rfl (by omega) (Uq 2 rfl (O.st rfl rfl sizeOf3 rfl rfl rfl rfl rfl (hwr3.at0 1 1 (by omega)) ?_))))
     intro H4 W4
     have ecn:cnOf H1 g.p-1+1=cnOf H1 g.p:=by omega
     rw [ecn] at W4
     have hs4:=hs3.step (t:=(g,X3,K)) hh1 hk W4
     have hf4:Fr (fun b o=>o=1∧Gt.sp true h0 t0 b) H12 H4:=hf3.trans' W4.fr (fun _ _ _ h=>h) (fun b o _ hz=>by
      have h1:=hz.1;have h2:=hz.2.1;have h3:=hz.2.2
      simp only [List.length_cons,List.length_nil] at h3
      exact ⟨by omega,h1▸(hs3.all _).2 (.inr (.inl rfl))⟩)
     have hKM:=hs3.g.2.1
     replace i1:=W4.keep1 i1 (by simp only;omega)
     replace i2:=W4.fr.keep i2 (nr (.inl (Ne.symm hKM.n2)))
     replace i3:=W4.fr.keep i3 (nr (.inl (Ne.symm hKM.n3)))
     refine ⟨trivial,?_⟩
     refine Uf 0 [0,2,3,4,5] rfl (Ut 2 rfl (Ur 2 8 rfl (Uq 1 rfl (O.callQ rfl rfl rfl call133 rfl (leaf_spec i1) trivial (Uf 0 [0,2,3,4,5,128] rfl (Go'.condF rfl (Ut 1 rfl (Ud 17 1078199360 (by kernel_rfl) (Ul 3 rfl (show cl _ g.p 3=some (.pointer (some ⟨g.cb,0,none⟩)) from i1) (Ul 1 rfl (show cl _ g.cb 0=some (.slice (some ⟨g.kb,g.ko,none⟩) K.length g.kc) from i2) (Ul 3 rfl (show cl _ g.p 3=some (.pointer (some ⟨g.cb,0,none⟩)) from i1) ?_)))))))))))
     refine Ul 1 rfl (show cl _ g.cb 0=some (.slice (some ⟨g.kb,g.ko,none⟩) K.length g.kc) from i2) (Ub 1 (((K.length-1:Nat):Int)) rfl (by omega) (Ux 0 (K.length-1) rfl (by omega) (by omega) (Ul 0 rfl i3 (Uf 1 [0,2,3,4,5,128] rfl (Ut 1 rfl (Uk [0,2,3,4,5] rfl (Go'.inLoop ?_)))))))
     exact ih ⟨h,k⟩ H4 ⟨_,hs4,hf4⟩ (by simp only;omega)
    ·
     obtain ⟨g,X3⟩:=t
     replace hcn3:cnOf H1 g.p=(Gt.L 0 ((g,X3):Gt EJ 0)).length:=hcn3
     have hwr3:=hs3.fr.wr hs3.g.1.wr
     have hc3l:cl H3 g.p 3=some (.pointer none):=hs3.fr.keep hs3.g.1.c3 (fun hz=>hz.elim (fun h=>by omega) (fun h=>hs3.nb 3 (hs3.sub b6 3 (show ncl EJ g b6 3 from .inl ⟨h.symm,by omega⟩))))
     refine Ur 8 32832 rfl (Ul 3 rfl (show cl _ g.p 1=some (.int .i64 ((cnOf H1 g.p-1:Nat):Int)) from hcc3) (Ua 0 (((((cnOf H1 g.p-1))+1:Nat):Int)) rfl (by omega) (Uq 2 rfl (O.st rfl rfl sizeOf3 rfl rfl rfl rfl rfl (hwr3.at0 1 1 (by omega)) ?_))))
     intro H4 W4
     have ecn:cnOf H1 g.p-1+1=cnOf H1 g.p:=by omega
     rw [ecn] at W4
     have hgB:=hs3.fin (t:=(g,X3)) hg1 W4
     have hf4:Fr (fun b o=>o=1∧Gt.sp true h0 t0 b) H12 H4:=hf3.trans' W4.fr (fun _ _ _ h=>h) (fun b o _ hz=>by
      have h1:=hz.1;have h2:=hz.2.1;have h3:=hz.2.2
      simp only [List.length_cons,List.length_nil] at h3
      exact ⟨by omega,h1▸(hs3.all _).2 (.inr rfl)⟩)
     have hst:∀b o,b<cx.base→¬(o=1∧Gt.sp true h0 t0 b):=fun b o hb hz=>by have:=hnt b 1 (Gt.sp_af hz.2 1 (by omega));omega
     replace hc3l:=W4.keep1 hc3l (by omega)
     replace tc:=tc.fr hf4 (fun b o hb _=>hst b o hb.1)
     replace cnt:=hf4.keep cnt (hst _ _ htb)
     replace hc:=hf4.keep hc (hst _ _ htb)
     replace m6:=hf4.rd m6 (fun i _ hz=>hb6n 1 (Gt.sp_af hz.2 1 (by omega)))
     replace w6:=hf4.wr w6
     have hFB:Fr (fun b _=>S b) H H4:=hF1.trans' (hFb.trans' hf4 (Z:=fun b o=>(o=1∧Gt.sp true h0 t0 b)∨b=b6) (fun _ _ _ h=>h) (fun _ _ _ h=>.inl h)) (fun _ _ _ h=>h.elim) (fun b o hb hz=>by
      rcases hz with ⟨ho,hz⟩|hz
      · exact hown b o (ho▸Gt.sp_af hz 1 (by omega))
      · omega)
     have hszB:=hFB.size
     have hMB:MapM H4 tr P S l:=⟨tc,srt,cnt,own,fun b hb=>by have:=lt b hb;omega,bs,.inr ⟨h0,t0,hgB,hx0,e,hc,hnt,hown⟩⟩
     refine ⟨trivial,?_⟩
     refine Uf 0 [0,2,3,4,5] rfl (Ut 2 rfl (Ur 2 8 rfl (Uq 1 rfl (O.callQ rfl rfl rfl call133 rfl (leaf_spec hc3l) trivial (Uf 0 [0,2,3,4,5,128] rfl (Go'.condT rfl (Ut 2 rfl ?_)))))))
     have hgl:∃R,l=glue true X R:=hs.glue hg1 e hlf
     obtain ⟨R,hR⟩:=hgl
     have hpk:=popk_glue (d:=true) (X:=X) (X':=X.take (X.length-1)) (y:=y) (R:=R) hxy
     rw [←hR] at hpk
     have hgot:Pl.got OI y l=some y∧Pl.fnd OI y l=true∧Pl.del OI y l=(Pl.popk l true).1:=by
      rw [hpk]
      have hs9:=srt
      rw [hR] at hs9 ⊢
      have hxy':X=X.take (X.length-1)++[y]:=hxy
      have e9:glue true X R=(R++X.take (X.length-1))++[y]:=by
       show R++X=_
       conv=>lhs;rw [hxy']
       simp
      rw [e9] at hs9 ⊢
      exact Pl.got_last OI hs9
     have hb6S:∀b,S b→b≠b6:=fun b hb e2=>by have:=lt b hb;omega
     refine Ur 7 2084 rfl (Us 1 rfl m6 rfl (O.call rfl rfl rfl call132 rfl (delh_spec hP (x:=y) hMB hlen) ?_))
     rintro _ H5 ⟨rfl,S',hM5,hF5,hS5⟩
     rw [hgot.1,hgot.2.1]
     rw [hgot.2.2] at hM5
     have wz5:=hF5.wr (hFB.wr wz)
     have hs5:=hF5.size
     refine ⟨trivial,?_⟩
     refine Uq 2 rfl (O.st (vs:=(EJ.enc y)) rfl rfl sizeOf27 rfl rfl rfl rfl rfl wz5 ?_)
     intro H6 W6
     refine ⟨trivial,?_⟩
     refine Uf 1 [2,3] rfl (Go'.ret (vs:=[_,_]) func114 results114 ⟨⟨_,_,rfl,fun _ _=>run_loadVar_agg (fun w=>⟨isAgg27 w,sizeOf27 w⟩) rfl W6.all⟩,rfl,trivial⟩ ?_)
     unfold PopZ
     refine ⟨by rw [hpk];rfl,S',hM5.zr hzb (fun b hb=>(hS5 b hb).elim (hzS b) (fun h=>by omega)) W6,(hFB.trans' hF5 (Z:=fun b _=>S b∨b=zr) (fun _ _ _ h=>.inl h) (fun _ _ _ h=>.inl h)).trans' W6.fr (fun _ _ _ h=>h) (fun b o _ h=>.inr h.1),fun b hb=>(hS5 b hb).imp id (fun h=>by omega)⟩
end
end Go.Bt.FG
namespace Go.Bt.FG
open Go Go.Proofs Go.Proofs.Try
set_option maxRecDepth 20000
set_option maxHeartbeats 4000000
set_option linter.unusedSectionVars false
theorem igpops_spec {B:World} {H:Mem} {d:Nat} {nl:Bool} {v u:Value} {ord:List Int} {l:List (Int×Int)} {va:Value} {ks:List Bool} (hd:d=0∨2≤d∧d≤128) (ho:InS EN H v ord) (hol:ord.length≤4294967296) (hi:InS EJ H u l) (hll:l.length≤4294967296) (ha:InS EB H va ks) (hal:ks.length≤4294967296):
  Fn Try.prog B 63 [.agg #[v,.int .i64 (d:Int),.bool nl],u,va] H (fun r H'=>∃v1 v2,r=.tuple #[v1,v2]∧OutS EF H' v1 (Pl.runs Pl.popk (Pl.puts (OO ord) l) ks).2∧OutS EJ H' v2 (Pl.runs Pl.popk (Pl.puts (OO ord) l) ks).1∧Fr nowhere H H'):=by
 obtain ⟨a,c,hu⟩:=hi.len
 subst hu
 obtain ⟨av,mv,cv,hv⟩:=InS.form ho
 subst hv
 have hF:Fr nowhere H H:=Fr.refl _ _
 have hP:=PD_ok hd
 obtain ⟨aa,ca,ha0⟩:=ha.len
 subst ha0
 refine fn_of func63 rfl ntmps63 ?_
 refine (show Go' _ _ _ _ 42 [(0,_),(1,_),(2,_)] [.code _] _ from ?_)
 refine Ut 1 rfl (Ur 3 2 rfl (O.box rfl rfl rfl rfl ?_))
 intro B1 MB1
 refine ⟨trivial,?_⟩
 have hsB1:=MB1.size
 replace hF:=hF.trans (MB1.fr nowhere)
 have mm:Rd B1 H.size 0 [.slice av mv cv,.int .i64 (d:Int),.bool nl]:=MB1.rd _ [] (by simp [Value.cells])
 have mm0:cl B1 H.size 0=some (.slice av mv cv):=mm 0 _ rfl
 have mm1:cl B1 H.size (0+1)=some (.int .i64 (d:Int)):=mm 1 _ rfl
 refine Uf 2 [1,2,3,6,7] rfl (Ut 1 rfl (Ur 4 33 rfl (Us 0 rfl mm rfl (Uq 1 rfl (O.call rfl rfl rfl call68 rfl (grow_spec hd (ho.fr hF) hol (hi.fr hF) hll) ?_)))))
 rintro _ H3 ⟨I,hIo,hIw,hIb,tr,S,rfl,hM,hF3,hS⟩
 have hs3:=hF3.size
 replace hF:=hF.trans hF3
 replace mm:=hF3.rd mm (fun _ _=>nw)
 replace mm0:=hF3.keep mm0 nw
 replace mm1:=hF3.keep mm1 nw
 have hSb:∀b,S b∨(b<cx.base∧cx.own b)→B1.size≤b:=fun b hb=>hb.elim (hS b) (fun h=>hIw b h.2)
 have hOO:OO ord=OI:=by rw [←hIo];rfl
 have hpl:=Pl.puts_length OI l
 have hSlt:=hM.lt
 have hbs:=hM.tc.hb
 unfold ptr
 refine ⟨trivial,?_⟩
 refine Uf 1 [2,6,7,8] rfl (Ut 1 rfl (Ur 1 0 rfl (Uf 1 [2,6,7,8,9] rfl (Ut 2 rfl (Ur 3 0 rfl (Uf 3 [6,7,8,9,15,16,17] rfl (Ut 1 rfl (Go'.loop (Uk [6,7,8,9,15,16,17] rfl ?_)))))))))
 refine Go'.ind (σ:=Nat×Value) (fun s=>ks.length-s.1) (fun s H'=>s.1≤ks.length∧Fr nowhere H H'∧H3.size≤H'.size∧∃S Zo,MapM H' tr (PD d) S (Pl.runs Pl.popk (Pl.puts OI l) (ks.take s.1)).1∧(∀b,S b→H.size≤b)∧Acc EF Zo H' s.2 (Pl.runs Pl.popk (Pl.puts OI l) (ks.take s.1)).2∧∀b,Zo b→H3.size≤b∧b<H'.size∧¬S b)
  (fun s=>[(6,.slice none 0 0),(7,.slice none 0 0),(8,.pointer (some ⟨tr,0,none⟩)),(9,s.2),(15,.slice aa ks.length ca),(16,.int .i64 (ks.length:Int)),(17,.int .i64 (s.1:Int))]) (0,.slice none 0 0) ⟨Nat.zero_le _,hF,Nat.le_refl _,S,fun _=>False,hM,fun b hb=>by have:=hS b hb;omega,Acc.nil _ _ _,fun _ h=>h.elim⟩ rfl ?_
 clear hM hF hS hSb hSlt S
 rintro ⟨j,sv⟩ H5 ⟨hjl,hF,hs45,S,Zo,hM,hS,hA,hZ⟩ ih
 simp only at hjl hM hA
 have hi2:=ha.fr hF
 refine Ut 1 rfl ?_
 by_cases hlt:j<ks.length
 ·
  obtain ⟨y,hy⟩:∃y,ks[j]?=some y:=⟨ks[j],List.getElem?_eq_getElem hlt⟩
  obtain ⟨b,o,c',e,hr⟩:=hi2.at hy
  cases e
  have hpl2:=Pl.runs_le Pl.popk_le (Pl.puts OI l) (ks.take j)
  have hlout:=Pl.runs_len Pl.popk (Pl.puts OI l) (ks.take j)
  have hSlt:=hM.lt
  have hbs2:=hM.tc.hb
  have hsz:=hF.size
  rw [List.length_take] at hlout
  have erun:=Pl.runs_take Pl.popk (Pl.puts OI l) hy
  generalize hL:(Pl.runs Pl.popk (Pl.puts OI l) (ks.take j)).1=L at*
  generalize hG:(Pl.runs Pl.popk (Pl.puts OI l) (ks.take j)).2=G at*
  refine Ur 1 0 rfl (Uc 0 rfl (lssT (by omega)) (Uf 0 [6,7,8,9,15,16,17,18] rfl (Ut 1 rfl (Go'.condT rfl (Ut 4 rfl (Ur 3 4 rfl (Ux 0 j rfl (by omega) hlt (Ul 0 rfl (hr 0 _ rfl) (Uf 1 [6,7,8,9,11,15,16,17,18] rfl (Ut 1 rfl (Ur 1 0 rfl ?_)))))))))))
  refine Uf 1 [6,7,8,9,11,15,16,17,18,21] rfl ?_
  cases y
  ·
   refine Go'.condF rfl ?_
   generalize hfo:(Pl.popk L false).2=fo at*
   refine Ur 9 43040 rfl (Uq 2 rfl (O.call rfl rfl rfl call115 rfl (popMin_spec hP hM (by omega)) ?_))
   rintro _ H8 ⟨rfl,S',hM',hF8,hS'⟩
   rw [hfo]
   have hs8:=hF8.size
   replace hA:=hA.fr hF8 (fun b o hb hb2 hz=>(hZ b hb2).2.2 hz)
   replace hF:=hF.trans' hF8 (fun _ _ _ h=>h) (fun b o hb hz=>by have:=hS b hz;omega)
   refine ⟨trivial,?_⟩
   refine Uq 2 rfl (O.call rfl rfl rfl call104 rfl ifound_spec ?_)
   rintro _ H9 ⟨rfl,hF9⟩
   have hs9:=hF9.size
   replace hM':=hM'.fr hF9 (fun _ _ _=>nw)
   replace hA:=hA.fr hF9 (fun _ _ _ _=>nw)
   replace hF:=hF.trans hF9
   rw [FVe]
   refine ⟨trivial,?_⟩
   refine O.bsl (cs:=(fvs fo)) rfl rfl rfl ⟨underlying64,sizeOf68,zeroValue68,⟨_,typeInfo68,rfl⟩,rfl,by decide,by decide⟩ rfl (by decide) (by clear hfo erun;cases fo<;>kernel_rfl) ?_
   intro H10 M10
   have hs10:=M10.size
   replace hM':=hM'.fr (M10.fr nowhere) (fun _ _ _=>nw)
   replace hA:=hA.fr (M10.fr nowhere) (fun _ _ _ _=>nw)
   replace hF:=hF.trans (M10.fr nowhere)
   have m5:Rd H10 H9.size 0 (row EF [fo]):=M10.rd _ [] (by simp [row,EF])
   refine ⟨trivial,?_⟩
   refine O.appA (E:=EF) (Y:=[fo]) rfl rfl rfl ⟨underlying64,sizeOf68,zeroValue68,⟨_,typeInfo68,rfl⟩,rfl,by decide,by decide⟩ rfl hA rfl ⟨_,_,_,rfl,m5⟩ (Nat.succ_pos _) (by rw [hlout];exact Nat.le_trans (Nat.mul_le_mul_left _ (Nat.le_of_ble_eq_true (n:=_) (m:=4096) rfl)) (by simp only [List.length_cons,List.length_nil];omega)) (by rw [hlout];simp only [List.length_cons,List.length_nil];omega) ?_
   intro v8 H11 hA11 hF11 hs11
   have hs111:=hF11.size
   have hS2:∀b,S' b→¬Zo b:=fun b hb hz=>(hS' b hb).elim (hZ b hz).2.2 (fun h=>by have:=(hZ b hz).2.1;omega)
   have hlt10:=hM'.lt
   have hM11:=hM'.fr hF11 (fun b _ hb hz=>hb.elim (fun hb=>hS2 b hb hz) (fun hb=>by have:=(hZ b hz).1;omega))
   replace hF:=hF.trans' hF11 (fun _ _ _ h=>h) (fun b o hb hz=>by have:=(hZ b hz).1;omega)
   refine ⟨trivial,?_⟩
   refine Uf 1 [6,7,8,9,11,15,16,17,18,21] rfl (Ut 1 rfl (Ur 2 0 rfl (Ua 0 (((j+1:Nat):Int)) rfl (by omega) (Uf 1 [6,7,8,9,11,15,16,17,18,21] rfl (Uk [6,7,8,9,15,16,17] rfl (Go'.inLoop ?_))))))
   exact ih (j+1,v8) H11 ⟨hlt,hF,by omega,S',(fun b=>Zo b∨(b=H10.size∧b<H11.size)),by
    simp only
    rw [erun]
    exact hM11,fun b hb=>(hS' b hb).elim (hS b) (fun h=>by omega),by
    simp only
    rw [erun]
    exact hA11,fun b hb=>hb.elim (fun h=>⟨(hZ b h).1,by have:=(hZ b h).2.1;omega,fun hs=>hS2 b hs h⟩) (fun h=>⟨by omega,h.2,fun hs=>by have:=hlt10 b hs;omega⟩)⟩ (by simp only;omega)
  ·
   refine Go'.condT rfl ?_
   generalize hfo:(Pl.popk L true).2=fo at*
   refine Ur 9 43040 rfl (Uq 2 rfl (O.call rfl rfl rfl call114 rfl (popMax_spec hP hM (by omega)) ?_))
   rintro _ H8 ⟨rfl,S',hM',hF8,hS'⟩
   rw [hfo]
   have hs8:=hF8.size
   replace hA:=hA.fr hF8 (fun b o hb hb2 hz=>(hZ b hb2).2.2 hz)
   replace hF:=hF.trans' hF8 (fun _ _ _ h=>h) (fun b o hb hz=>by have:=hS b hz;omega)
   refine ⟨trivial,?_⟩
   refine Uq 2 rfl (O.call rfl rfl rfl call104 rfl ifound_spec ?_)
   rintro _ H9 ⟨rfl,hF9⟩
   have hs9:=hF9.size
   replace hM':=hM'.fr hF9 (fun _ _ _=>nw)
   replace hA:=hA.fr hF9 (fun _ _ _ _=>nw)
   replace hF:=hF.trans hF9
   rw [FVe]
   refine ⟨trivial,?_⟩
   refine O.bsl (cs:=(fvs fo)) rfl rfl rfl ⟨underlying64,sizeOf68,zeroValue68,⟨_,typeInfo68,rfl⟩,rfl,by decide,by decide⟩ rfl (by decide) (by clear hfo erun;cases fo<;>kernel_rfl) ?_
   intro H10 M10
   have hs10:=M10.size
   replace hM':=hM'.fr (M10.fr nowhere) (fun _ _ _=>nw)
   replace hA:=hA.fr (M10.fr nowhere) (fun _ _ _ _=>nw)
   replace hF:=hF.trans (M10.fr nowhere)
   have m5:Rd H10 H9.size 0 (row EF [fo]):=M10.rd _ [] (by simp [row,EF])
   refine ⟨trivial,?_⟩
   refine O.appA (E:=EF) (Y:=[fo]) rfl rfl rfl ⟨underlying64,sizeOf68,zeroValue68,⟨_,typeInfo68,rfl⟩,rfl,by decide,by decide⟩ rfl hA rfl ⟨_,_,_,rfl,m5⟩ (Nat.succ_pos _) (by rw [hlout];exact Nat.le_trans (Nat.mul_le_mul_left _ (Nat.le_of_ble_eq_true (n:=_) (m:=4096) rfl)) (by simp only [List.length_cons,List.length_nil];omega)) (by rw [hlout];simp only [List.length_cons,List.length_nil];omega) ?_
   intro v8 H11 hA11 hF11 hs11
   have hs111:=hF11.size
   have hS2:∀b,S' b→¬Zo b:=fun b hb hz=>(hS' b hb).elim (hZ b hz).2.2 (fun h=>by have:=(hZ b hz).2.1;omega)
   have hlt10:=hM'.lt
   have hM11:=hM'.fr hF11 (fun b _ hb hz=>hb.elim (fun hb=>hS2 b hb hz) (fun hb=>by have:=(hZ b hz).1;omega))
   replace hF:=hF.trans' hF11 (fun _ _ _ h=>h) (fun b o hb hz=>by have:=(hZ b hz).1;omega)
   refine ⟨trivial,?_⟩
   refine Uf 1 [6,7,8,9,11,15,16,17,18,21] rfl (Ut 1 rfl (Ur 2 0 rfl (Ua 0 (((j+1:Nat):Int)) rfl (by omega) (Uf 1 [6,7,8,9,11,15,16,17,18,21] rfl (Uk [6,7,8,9,15,16,17] rfl (Go'.inLoop ?_))))))
   exact ih (j+1,v8) H11 ⟨hlt,hF,by omega,S',(fun b=>Zo b∨(b=H10.size∧b<H11.size)),by
    simp only
    rw [erun]
    exact hM11,fun b hb=>(hS' b hb).elim (hS b) (fun h=>by omega),by
    simp only
    rw [erun]
    exact hA11,fun b hb=>hb.elim (fun h=>⟨(hZ b h).1,by have:=(hZ b h).2.1;omega,fun hs=>hS2 b hs h⟩) (fun h=>⟨by omega,h.2,fun hs=>by have:=hlt10 b hs;omega⟩)⟩ (by simp only;omega)
 ·
  have ejl:j=ks.length:=by omega
  rw [ejl,List.take_length] at hM hA
  have hpl2:=Pl.runs_le Pl.popk_le (Pl.puts OI l) ks
  refine Ur 1 0 rfl (Uc 0 rfl (lssF (by omega)) (Uf 0 [6,7,8,9,15,16,17,18] rfl (Ut 1 rfl (Go'.condF rfl (Ut 2 rfl (Ur 5 32 rfl (Uq 2 rfl (O.call rfl rfl rfl call73 rfl (Items_spec hP hM (by omega)) ?_))))))))
  rintro v9 H6 ⟨hv9,hF6⟩
  refine ⟨trivial,?_⟩
  refine Uf 2 [6,7] rfl (Go'.ret (vs:=[_,_]) func63 results63 ⟨rfl,rfl,trivial⟩ ?_)
  rw [hOO]
  exact ⟨_,_,rfl,(hA.fr hF6 (fun _ _ _ _=>nw)).out,hv9,hF.trans hF6⟩
end Go.Bt.FG
namespace Go.Bt.FG
open Go Go.Proofs Go.Proofs.Try
set_option maxRecDepth 20000
set_option maxHeartbeats 4000000
set_option linter.unusedSectionVars false
theorem Pl.runs_cons {α β γ:Type} (f:List α→β→List α×γ) (l:List α) (k:β) (ks:List β):Pl.runs f l (k::ks)=((Pl.runs f (f l k).1 ks).1,(f l k).2::(Pl.runs f (f l k).1 ks).2):=by
 have h:∀(ks:List β) (m:List α) (A B:List γ),ks.foldl (fun s k=>((f s.1 k).1,s.2++[(f s.1 k).2])) (m,A++B)=((ks.foldl (fun s k=>((f s.1 k).1,s.2++[(f s.1 k).2])) (m,B)).1,A++(ks.foldl (fun s k=>((f s.1 k).1,s.2++[(f s.1 k).2])) (m,B)).2):=by
  intro ks
  induction ks with
  | nil=>intros;rfl
  | cons k ks ih=>
   intro m A B
   simp only [List.foldl_cons,List.append_assoc]
   exact ih _ A _
 exact h ks (f l k).1 [(f l k).2] []
theorem Pl.runs_last {α:Type}:∀(n:Nat) (l:List α),l.length=n→Pl.runs Pl.popk l (List.replicate (n+1) true)=([],l.reverse.map some++[none])
 | 0,l,h=>by
  obtain rfl:=List.length_eq_zero_iff.1 h
  rfl
 | n+1,l,h=>by
  obtain ⟨l',x,rfl⟩:∃l' x,l=l'++[x]:=by
   rcases List.eq_nil_or_concat l with rfl|⟨a,b,e⟩
   · simp at h
   · exact ⟨a,b,by simpa using e⟩
  have hn':l'.length=n:=by simpa using h
  have e1:Pl.popk (l'++[x]) true=(l',some x):=by simp [Pl.popk]
  rw [List.replicate_succ,Pl.runs_cons,e1,Pl.runs_last n l' hn']
  simp
theorem Pl.runs_first {α:Type}:∀(l:List α),Pl.runs Pl.popk l (List.replicate (l.length+1) false)=([],l.map some++[none])
 | []=>rfl
 | x::l=>by
  rw [List.length_cons,List.replicate_succ,Pl.runs_cons,show Pl.popk (x::l) false=(l,some x) from rfl,Pl.runs_first l]
  rfl
theorem ins_rep {H:Mem} {eb n:Nat} {e:Bool} (h:∀k,k<n→cl H eb k=some (.bool e)):InS EB H (.slice (some ⟨eb,0,none⟩) n n) (List.replicate n e):=by
 refine .inl ⟨eb,0,n,by rw [List.length_replicate],by rw [List.length_replicate];exact Nat.le_refl _,?_⟩
 have hr:row EB (List.replicate n e)=List.replicate n (.bool e):=by
  induction n with
  | zero=>rfl
  | succ n ih=>
   rw [List.replicate_succ,List.replicate_succ,←ih fun k hk=>h k (by omega)]
   rfl
 rw [hr]
 intro i x hx
 rw [List.getElem?_replicate] at hx
 split at hx
 ·
  cases hx
  rw [Nat.zero_add]
  exact h i (by assumption)
 · cases hx
theorem insK {α:Type} {E:Elt α} {H H':Mem} {v:Value} {l:List α} {eb:Nat} (hi:InS E H v l) (h0:H.size≤eb) (hf:Fr (fun b _=>b=eb) H H'):InS E H' v l:=by
 rcases hi with ⟨b,o,c,h1,h2,h3⟩|h
 · exact .inl ⟨b,o,c,h1,h2,fun i x hi=>hf.keep (h3 i x hi) fun h=>by have:=cl_lt (h3 i x hi);have h':b=eb:=h;omega⟩
 · exact .inr h
theorem fnGPopAll {B:World} {H:Mem} {z:Int} {nl:Bool} {v u:Value} {ord:List Int} {l:List (Int×Int)} {e:Bool} (ho:InS EN H v ord) (hi:InS EJ H u l):
  Fn Try.prog B 19 [.agg #[v,.int .i64 z,.bool nl],u,.bool e] H (fun r H'=>r=.bool true∧Fr nowhere H H'):=by
 obtain ⟨a,c,hu⟩:=hi.len
 subst hu
 obtain ⟨av,mv,cv,hv⟩:=InS.form ho
 subst hv
 have hF:Fr nowhere H H:=Fr.refl _ _
 refine fn_of func19 rfl ntmps19 ?_
 refine (show Go' _ _ _ _ 89 [(0,_),(1,_),(2,_)] [.code _] _ from ?_)
 refine Ut 1 rfl (Ur 2 2 rfl (O.box rfl rfl rfl rfl ?_))
 intro B1 MB1
 refine ⟨trivial,?_⟩
 have hsB1:=MB1.size
 replace hF:=hF.trans (MB1.fr nowhere)
 have mm:Rd B1 H.size 0 [.slice av mv cv,.int .i64 z,.bool nl]:=MB1.rd _ [] (by simp [Value.cells])
 have mm0:cl B1 H.size 0=some (.slice av mv cv):=mm 0 _ rfl
 have mm1:cl B1 H.size (0+1)=some (.int .i64 z):=mm 1 _ rfl
 refine Uf 1 [1,2,3,6] rfl (Ut 2 rfl ?_)
 cases hoz:decide (ord.length≤2147483647)
 ·
  refine Ur 8 9 rfl (Us 0 rfl mm rfl (O.call rfl rfl rfl call23 rfl (zzFits1_spec (ho.fr hF) hoz) ?_))
  rintro _ Hz ⟨rfl,hFz⟩
  replace hF:=hF.trans hFz
  replace mm:=hFz.rd mm (fun _ _=>nw)
  replace mm0:=hFz.keep mm0 nw
  replace mm1:=hFz.keep mm1 nw
  refine ⟨trivial,?_⟩
  refine Uf 6 [1,2,3,6,21] rfl (Go'.condT rfl (Ut 1 rfl (Ur 1 0 rfl (Uf 1 [1,2,3,6] rfl (Go'.ret (vs:=[_]) func19 results19 ⟨rfl,trivial⟩ ?_)))))
  exact ⟨rfl,hF⟩
 ·
  have hoz2:=of_decide_eq_true hoz
  by_cases hb_lenl:(2147483647:Int)<(l.length:Int)
  ·
   refine Ur 8 9 rfl (Us 0 rfl mm rfl (O.call rfl rfl rfl call23 rfl (zzFits1_spec (ho.fr hF) hoz) ?_))
   rintro _ Hz ⟨rfl,hFz⟩
   replace hF:=hF.trans hFz
   replace mm:=hFz.rd mm (fun _ _=>nw)
   replace mm0:=hFz.keep mm0 nw
   replace mm1:=hFz.keep mm1 nw
   refine ⟨trivial,?_⟩
   refine Uc 4 rfl (gtrT (by omega)) (Uf 1 [1,2,3,6,21] rfl (Go'.condT rfl (Ut 1 rfl (Ur 1 0 rfl (Uf 1 [1,2,3,6] rfl (Go'.ret (vs:=[_]) func19 results19 ⟨rfl,trivial⟩ ?_))))))
   exact ⟨rfl,hF⟩
  ·
   refine Ur 8 9 rfl (Us 0 rfl mm rfl (O.call rfl rfl rfl call23 rfl (zzFits1_spec (ho.fr hF) hoz) ?_))
   rintro _ Hz ⟨rfl,hFz⟩
   replace hF:=hF.trans hFz
   replace mm:=hFz.rd mm (fun _ _=>nw)
   replace mm0:=hFz.keep mm0 nw
   replace mm1:=hFz.keep mm1 nw
   refine ⟨trivial,?_⟩
   refine Uc 4 rfl (gtrF (by omega)) (Uf 1 [1,2,3,6,21] rfl (Go'.condF rfl (Ut 3 rfl ?_)))
   have hpl:=Pl.puts_length (OO ord) l
   cases hfz:fitsb z
   ·
    refine Ur 3 9 rfl (Us 0 rfl mm rfl (O.call rfl rfl rfl call24 rfl (lfits_spec ⟨_,_,_,rfl⟩ hfz) ?_))
    rintro _ H6 ⟨rfl,hF6⟩
    replace hF:=hF.trans hF6
    replace mm:=hF6.rd mm (fun _ _=>nw)
    replace mm0:=hF6.keep mm0 nw
    replace mm1:=hF6.keep mm1 nw
    refine ⟨trivial,?_⟩
    refine Uf 1 [1,2,3,6,24] rfl (Go'.condT rfl (Ut 1 rfl (Ur 2 2 rfl (O.call rfl rfl rfl call25 rfl alive_spec ?_))))
    rintro _ Hv ⟨rfl,hFv⟩
    replace hF:=hF.trans hFv
    replace mm:=hFv.rd mm (fun _ _=>nw)
    replace mm0:=hFv.keep mm0 nw
    replace mm1:=hFv.keep mm1 nw
    refine ⟨trivial,?_⟩
    refine Uf 1 [1,2,3,6] rfl (Go'.ret (vs:=[_]) func19 results19 ⟨rfl,trivial⟩ ?_)
    exact ⟨rfl,hF⟩
   ·
    obtain ⟨d,rfl,hd⟩:=fitsb_nat hfz
    refine Ur 3 9 rfl (Us 0 rfl mm rfl (O.call rfl rfl rfl call24 rfl (lfits_spec ⟨_,_,_,rfl⟩ hfz) ?_))
    rintro _ H6 ⟨rfl,hF6⟩
    replace hF:=hF.trans hF6
    replace mm:=hF6.rd mm (fun _ _=>nw)
    replace mm0:=hF6.keep mm0 nw
    replace mm1:=hF6.keep mm1 nw
    refine ⟨trivial,?_⟩
    refine Uf 1 [1,2,3,6,24] rfl (Go'.condF rfl (Ut 2 rfl (Ur 4 33 rfl (Us 0 rfl mm rfl (Uq 1 rfl (O.call rfl rfl rfl call43 rfl (igitems_spec hd (ho.fr hF) (by omega) (hi.fr hF) (by omega)) ?_))))))
    rintro g8 H8 ⟨hg8,hF8⟩
    replace hF:=hF.trans hF8
    replace mm:=hF8.rd mm (fun _ _=>nw)
    replace mm0:=hF8.keep mm0 nw
    replace mm1:=hF8.keep mm1 nw
    have hI:=hg8.inS
    obtain ⟨ga,gc,hge⟩:=hI.len
    subst hge
    generalize hL:Pl.puts (OO ord) l=L at*
    refine ⟨trivial,?_⟩
    refine Uf 1 [1,2,3,6,7] rfl (Ut 2 rfl ?_)
    cases e
    ·
     refine Ur 1 0 rfl (Uf 1 [1,2,3,6,7,29] rfl (Go'.condF rfl (Ut 2 rfl ?_)))
     obtain ⟨IT,hIT⟩:∃IT,IT=L:=⟨_,rfl⟩
     have hil:IT.length=L.length:=by rw [hIT]
     rw [←hIT] at hI
     have hruns:Pl.runs Pl.popk L (List.replicate (IT.length+1) false)=([],IT.map some++[none]):=by rw [hil,hIT];exact Pl.runs_first _
     rw [←hIT]
     have hI0:=hI
     refine Ur 5 128 rfl (Ua 2 (((IT.length+1:Nat):Int)) rfl (by omega) (O.mks (j:=(IT.length+1)) (c:=(IT.length+1)) rfl rfl rfl ⟨underlying75,sizeOf4,zeroValue4,⟨_,typeInfo4,rfl⟩,rfl,by decide,by decide⟩ rfl rfl rfl rfl (by omega) (Nat.le_trans (Nat.mul_le_mul_right _ (Nat.le_of_ble_eq_true (n:=_) (m:=4096) rfl)) (by omega)) (by omega) ?_))
     intro H10 M10
     have hs10:=M10.size
     have hs00:=hF.size
     have hmlt:=cl_lt mm0
     replace hF:=hF.trans (M10.fr nowhere)
     replace mm:=(M10.fr nowhere).rd mm (fun _ _=>nw)
     replace mm0:=(M10.fr nowhere).keep mm0 nw
     replace mm1:=(M10.fr nowhere).keep mm1 nw
     replace hI:=hI.fr (M10.fr nowhere)
     obtain ⟨eb,heb⟩:∃z,z=H8.size:=⟨_,rfl⟩
     have w10:Wr H10 eb 0 (IT.length+1):=by rw [heb];exact M10.wr _ (by rw [zeroRow_size];omega)
     rw [←heb]
     have hebl:eb<H10.size:=by omega
     have hebH:H.size≤eb:=by omega
     refine ⟨trivial,?_⟩
     refine Uf 1 [1,2,3,6,7,8] rfl (Ut 2 rfl (Ur 3 0 rfl (Uf 3 [1,2,3,6,7,8,37,38] rfl (Ut 1 rfl (Go'.loop (Uk [1,2,3,6,7,8,37,38] rfl ?_))))))
     refine Go'.ind (σ:=Nat) (fun s=>IT.length+1-s) (fun s H'=>s≤IT.length+1∧Fr (fun b _=>b=eb) H10 H'∧∀k,k<s→cl H' eb k=some (.bool false))
      (fun s=>[(1,.slice a l.length c),(2,.bool false),(3,.pointer (some ⟨H.size,0,none⟩)),(6,.bool false),(7,.slice ga IT.length gc),(8,.slice (some ⟨eb,0,none⟩) (IT.length+1) (IT.length+1)),(37,.int .i64 ((IT.length+1:Nat):Int)),(38,.int .i64 (s:Int))]) 0 ⟨Nat.zero_le _,Fr.refl _ _,fun k hk=>absurd hk (Nat.not_lt_zero _)⟩ rfl ?_
     rintro i H11 ⟨hil2,hf11,hcl⟩ ih
     refine Ut 1 rfl ?_
     by_cases hlt:i<IT.length+1
     ·
      refine Ur 1 0 rfl (Uc 0 rfl (lssT (by omega)) (Uf 0 [1,2,3,6,7,8,37,38,39] rfl (Ut 1 rfl (Go'.condT rfl (Ut 4 rfl (Ur 2 0 rfl (Uf 2 [1,2,3,6,7,8,9,37,38,39] rfl (Ur 5 512 rfl (Ux 3 i rfl (by omega) hlt (O.st rfl rfl sizeOf4 rfl rfl rfl rfl rfl (by rw [Nat.zero_add,Nat.mul_one];exact (hf11.wr w10).at0 i 1 (by omega)) ?_))))))))))
      intro H12 W12
      rw [Nat.zero_add,Nat.mul_one] at W12
      have hf12:=hf11.trans' W12.fr (fun _ _ _ h=>h) (fun b o _ h=>h.1)
      refine ⟨trivial,?_⟩
      refine Uf 0 [1,2,3,6,7,8,9,37,38,39] rfl (Ut 1 rfl (Ur 2 0 rfl (Ua 0 (((i+1:Nat):Int)) rfl (by omega) (Uf 1 [1,2,3,6,7,8,9,37,38,39] rfl (Uk [1,2,3,6,7,8,37,38] rfl (Go'.inLoop ?_))))))
      refine ih (i+1) H12 ⟨hlt,hf12,fun k hk=>?_⟩ (by omega)
      rcases Nat.lt_or_eq_of_le (Nat.le_of_lt_succ hk) with h|rfl
      · exact W12.keep1 (hcl k h) (by omega)
      · exact W12.at
     ·
      obtain rfl:i=IT.length+1:=by omega
      have hev:=ins_rep hcl
      have hs11:=hf11.size
      have hfN:Fr nowhere H H11:=hF.trans' hf11 (fun _ _ _ h=>h) (fun b o hb h=>by have h':b=eb:=h;omega)
      replace hF:=hfN
      replace mm:=hf11.rd mm (fun _ _ h=>by have h':_=eb:=h;omega)
      replace mm0:=hf11.keep mm0 (fun h=>by have h':_=eb:=h;omega)
      replace mm1:=hf11.keep mm1 (fun h=>by have h':_=eb:=h;omega)
      have hI11:InS EJ H11 (.slice ga IT.length gc) IT:=insK hI0 (by omega) ((M10.fr nowhere).trans' hf11 (fun _ _ _ h=>h.elim) (fun _ _ _ h=>h))
      refine Ur 1 0 rfl (Uc 0 rfl (lssF (by omega)) (Uf 0 [1,2,3,6,7,8,37,38,39] rfl (Ut 1 rfl (Go'.condF rfl (Ut 2 rfl (Ur 9 129 rfl (Us 0 rfl mm rfl (Uq 2 rfl (O.call rfl rfl rfl call63 rfl (igpops_spec hd (ho.fr hF) (by omega) (hi.fr hF) (by omega) hev (by rw [List.length_replicate];omega)) ?_)))))))))
      rintro _ H13 ⟨v1,v2,rfl,hp,hlf,hF13⟩
      replace hF:=hF.trans hF13
      replace mm:=hF13.rd mm (fun _ _=>nw)
      replace mm0:=hF13.keep mm0 nw
      replace mm1:=hF13.keep mm1 nw
      rw [hL,hruns] at hp hlf
      replace hp:=hp.inS
      replace hlf:=hlf.inS
      obtain ⟨pa,pc,hpe⟩:=hp.len
      subst hpe
      obtain ⟨la,lc,hle⟩:=hlf.len
      subst hle
      have hI13:=hI11.fr hF13
      have hpn:(IT.map some++[none]:List (Option (Int×Int))).length=IT.length+1:=by simp
      refine ⟨trivial,?_⟩
      refine Uf 5 [6,7,10,11] rfl (Ut 2 rfl ?_)
      rw [hpn]
      obtain ⟨b,o,c',ee,hrn⟩:=hp.at (i:=IT.length) (x:=none) (by simp)
      rw [hpn] at ee
      cases ee
      simp only [List.length_nil]
      refine Ur 20 4294967296 rfl (Ua 4 (((IT.length+1:Nat):Int)) rfl (by omega) (Uc 0 rfl (neqF (by omega)) (Uc 3 rfl (neqF (by omega)) (Ux 5 (IT.length) rfl (by omega) (by omega) (Us 0 rfl hrn rfl (O.bld (cs:=(fvs none)) rfl rfl rfl rfl (st68) rfl (by kernel_rfl) (O.bin rfl rfl rfl rfl rfl rfl (found_neq none _ _) (Uf 1 [6,7,10,72] rfl (Go'.condF rfl (Ut 3 rfl (Ur 3 0 rfl ?_)))))))))))
      refine Uf 3 [6,10,73,74,75] rfl (Ut 1 rfl (Go'.loop (Uk [6,10,73,74,75] rfl ?_)))
      refine Go'.ind (σ:=Nat) (fun s=>IT.length-s) (fun s H'=>s≤IT.length∧Fr nowhere H13 H')
       (fun s=>[(6,.bool false),(10,.slice (some ⟨b,o,none⟩) (IT.length+1) pc),(73,.slice ga IT.length gc),(74,.int .i64 (IT.length:Int)),(75,.int .i64 (s:Int))]) 0 ⟨Nat.zero_le _,Fr.refl _ _⟩ rfl ?_
      rintro i H14 ⟨hil3,hf14⟩ ih
      have hs14:=hf14.size
      refine Ut 1 rfl ?_
      by_cases hlt:i<IT.length
      ·
       obtain ⟨y,hy⟩:∃y,IT[i]?=some y:=⟨IT[i],List.getElem?_eq_getElem hlt⟩
       obtain ⟨b2,o2,c2,ee,hr⟩:=(hI13.fr hf14).at hy
       cases ee
       obtain ⟨b3,o3,c3,ee,hr2⟩:=(hp.fr hf14).at (i:=i) (x:=some y) (by rw [List.getElem?_append_left (by rw [List.length_map];exact hlt),List.getElem?_map,hy];rfl)
       rw [hpn] at ee
       cases ee
       refine Ur 1 0 rfl (Uc 0 rfl (lssT (by omega)) (Uf 0 [6,10,73,74,75,76] rfl (Ut 1 rfl (Go'.condT rfl (Ut 4 rfl (Ur 6 2192 rfl (Ux 1 i rfl (by omega) hlt (Us 0 rfl hr rfl (O.alloc rfl rfl rfl zeroValue27 ?_)))))))))
       intro H15 M15
       refine ⟨trivial,?_⟩
       have hs15:=M15.size
       have w15:Wr H15 H14.size 0 2:=M15.wr 2 (by decide)
       replace hr2:=(M15.fr nowhere).rd hr2 (fun _ _=>nw)
       refine Uq 1 rfl (O.st (vs:=(EJ.enc y)) rfl rfl sizeOf27 rfl rfl rfl rfl rfl w15 ?_)
       intro H16 W16
       have hf16:Fr nowhere H13 H16:=(hf14.trans (M15.fr nowhere)).trans' W16.fr (fun _ _ _ h=>h) (fun b o hb h=>by have h':=h.1;omega)
       have k16:Rd H16 H14.size 0 (EJ.enc y):=W16.all
       have hr2:=(hp.fr hf16).at (i:=i) (x:=some y) (by rw [List.getElem?_append_left (by rw [List.length_map];exact hlt),List.getElem?_map,hy];rfl)
       obtain ⟨b4,o4,c4,ee,hr2⟩:=hr2
       rw [hpn] at ee
       cases ee
       refine ⟨trivial,?_⟩
       refine Uf 0 [6,10,12,13,73,74,75,76] rfl (Ut 1 rfl (Ud 7 320 (by kernel_rfl) (Ux 2 i rfl (by omega) (by omega) (Us 0 rfl hr2 rfl (Us 0 rfl k16 rfl (O.bld (cs:=(fvs (some y))) rfl rfl rfl rfl (st68) rfl (by kernel_rfl) (O.bin rfl rfl rfl rfl rfl rfl (found_neq (some y) _ _) (Uf 0 [6,10,12,13,73,74,75,76,86] rfl (Go'.condF rfl (Ut 2 rfl (Ur 2 0 rfl ?_)))))))))))
       refine Ua 0 (((i+1:Nat):Int)) rfl (by omega) (Uf 1 [6,10,12,13,73,74,75,76,86] rfl (Uk [6,10,73,74,75] rfl (Go'.inLoop ?_)))
       exact ih (i+1) H16 ⟨hlt,hf16⟩ (by omega)
      ·
       obtain rfl:i=IT.length:=by omega
       replace hF:=hF.trans hf14
       refine Ur 1 0 rfl (Uc 0 rfl (lssF (by omega)) (Uf 0 [6,10,73,74,75,76] rfl (Ut 1 rfl (Go'.condF rfl (Ut 2 rfl (Ur 2 2 rfl (O.call rfl rfl rfl call25 rfl alive_spec ?_)))))))
       rintro _ Hv ⟨rfl,hFv⟩
       replace hF:=hF.trans hFv
       refine ⟨trivial,?_⟩
       refine Uf 1 [6] rfl (Go'.ret (vs:=[_]) func19 results19 ⟨rfl,trivial⟩ ?_)
       exact ⟨rfl,hF⟩
    ·
     refine Ur 1 0 rfl (Uf 1 [1,2,3,6,7,29] rfl (Go'.condT rfl (Ur 3 8 rfl (Uq 1 rfl (O.call rfl rfl rfl call44 rfl (SI.turnedA_spec hI (by omega)) ?_)))))
     rintro v9 H9 ⟨h9,hF9⟩
     replace hF:=hF.trans hF9
     replace mm:=hF9.rd mm (fun _ _=>nw)
     replace mm0:=hF9.keep mm0 nw
     replace mm1:=hF9.keep mm1 nw
     replace hI:=h9.inS
     obtain ⟨ta,tc,hte⟩:=hI.len
     subst hte
     refine ⟨trivial,?_⟩
     refine Uf 1 [1,2,3,6,7] rfl (Ut 1 rfl ?_)
     obtain ⟨IT,hIT⟩:∃IT,IT=L.reverse:=⟨_,rfl⟩
     have hil:IT.length=L.length:=by rw [hIT,List.length_reverse]
     rw [←hIT] at hI
     have hruns:Pl.runs Pl.popk L (List.replicate (IT.length+1) true)=([],IT.map some++[none]):=by rw [hil,hIT];exact Pl.runs_last _ _ rfl
     rw [←hIT]
     have hI0:=hI
     refine Ur 5 128 rfl (Ua 2 (((IT.length+1:Nat):Int)) rfl (by omega) (O.mks (j:=(IT.length+1)) (c:=(IT.length+1)) rfl rfl rfl ⟨underlying75,sizeOf4,zeroValue4,⟨_,typeInfo4,rfl⟩,rfl,by decide,by decide⟩ rfl rfl rfl rfl (by omega) (Nat.le_trans (Nat.mul_le_mul_right _ (Nat.le_of_ble_eq_true (n:=_) (m:=4096) rfl)) (by omega)) (by omega) ?_))
     intro H10 M10
     have hs10:=M10.size
     have hs00:=hF.size
     have hmlt:=cl_lt mm0
     replace hF:=hF.trans (M10.fr nowhere)
     replace mm:=(M10.fr nowhere).rd mm (fun _ _=>nw)
     replace mm0:=(M10.fr nowhere).keep mm0 nw
     replace mm1:=(M10.fr nowhere).keep mm1 nw
     replace hI:=hI.fr (M10.fr nowhere)
     obtain ⟨eb,heb⟩:∃z,z=H9.size:=⟨_,rfl⟩
     have w10:Wr H10 eb 0 (IT.length+1):=by rw [heb];exact M10.wr _ (by rw [zeroRow_size];omega)
     rw [←heb]
     have hebl:eb<H10.size:=by omega
     have hebH:H.size≤eb:=by omega
     refine ⟨trivial,?_⟩
     refine Uf 1 [1,2,3,6,7,8] rfl (Ut 2 rfl (Ur 3 0 rfl (Uf 3 [1,2,3,6,7,8,37,38] rfl (Ut 1 rfl (Go'.loop (Uk [1,2,3,6,7,8,37,38] rfl ?_))))))
     refine Go'.ind (σ:=Nat) (fun s=>IT.length+1-s) (fun s H'=>s≤IT.length+1∧Fr (fun b _=>b=eb) H10 H'∧∀k,k<s→cl H' eb k=some (.bool true))
      (fun s=>[(1,.slice a l.length c),(2,.bool true),(3,.pointer (some ⟨H.size,0,none⟩)),(6,.bool false),(7,.slice ta IT.length tc),(8,.slice (some ⟨eb,0,none⟩) (IT.length+1) (IT.length+1)),(37,.int .i64 ((IT.length+1:Nat):Int)),(38,.int .i64 (s:Int))]) 0 ⟨Nat.zero_le _,Fr.refl _ _,fun k hk=>absurd hk (Nat.not_lt_zero _)⟩ rfl ?_
     rintro i H11 ⟨hil2,hf11,hcl⟩ ih
     refine Ut 1 rfl ?_
     by_cases hlt:i<IT.length+1
     ·
      refine Ur 1 0 rfl (Uc 0 rfl (lssT (by omega)) (Uf 0 [1,2,3,6,7,8,37,38,39] rfl (Ut 1 rfl (Go'.condT rfl (Ut 4 rfl (Ur 2 0 rfl (Uf 2 [1,2,3,6,7,8,9,37,38,39] rfl (Ur 5 512 rfl (Ux 3 i rfl (by omega) hlt (O.st rfl rfl sizeOf4 rfl rfl rfl rfl rfl (by rw [Nat.zero_add,Nat.mul_one];exact (hf11.wr w10).at0 i 1 (by omega)) ?_))))))))))
      intro H12 W12
      rw [Nat.zero_add,Nat.mul_one] at W12
      have hf12:=hf11.trans' W12.fr (fun _ _ _ h=>h) (fun b o _ h=>h.1)
      refine ⟨trivial,?_⟩
      refine Uf 0 [1,2,3,6,7,8,9,37,38,39] rfl (Ut 1 rfl (Ur 2 0 rfl (Ua 0 (((i+1:Nat):Int)) rfl (by omega) (Uf 1 [1,2,3,6,7,8,9,37,38,39] rfl (Uk [1,2,3,6,7,8,37,38] rfl (Go'.inLoop ?_))))))
      refine ih (i+1) H12 ⟨hlt,hf12,fun k hk=>?_⟩ (by omega)
      rcases Nat.lt_or_eq_of_le (Nat.le_of_lt_succ hk) with h|rfl
      · exact W12.keep1 (hcl k h) (by omega)
      · exact W12.at
     ·
      obtain rfl:i=IT.length+1:=by omega
      have hev:=ins_rep hcl
      have hs11:=hf11.size
      have hfN:Fr nowhere H H11:=hF.trans' hf11 (fun _ _ _ h=>h) (fun b o hb h=>by have h':b=eb:=h;omega)
      replace hF:=hfN
      replace mm:=hf11.rd mm (fun _ _ h=>by have h':_=eb:=h;omega)
      replace mm0:=hf11.keep mm0 (fun h=>by have h':_=eb:=h;omega)
      replace mm1:=hf11.keep mm1 (fun h=>by have h':_=eb:=h;omega)
      have hI11:InS EJ H11 (.slice ta IT.length tc) IT:=insK hI0 (by omega) ((M10.fr nowhere).trans' hf11 (fun _ _ _ h=>h.elim) (fun _ _ _ h=>h))
      refine Ur 1 0 rfl (Uc 0 rfl (lssF (by omega)) (Uf 0 [1,2,3,6,7,8,37,38,39] rfl (Ut 1 rfl (Go'.condF rfl (Ut 2 rfl (Ur 9 129 rfl (Us 0 rfl mm rfl (Uq 2 rfl (O.call rfl rfl rfl call63 rfl (igpops_spec hd (ho.fr hF) (by omega) (hi.fr hF) (by omega) hev (by rw [List.length_replicate];omega)) ?_)))))))))
      rintro _ H13 ⟨v1,v2,rfl,hp,hlf,hF13⟩
      replace hF:=hF.trans hF13
      replace mm:=hF13.rd mm (fun _ _=>nw)
      replace mm0:=hF13.keep mm0 nw
      replace mm1:=hF13.keep mm1 nw
      rw [hL,hruns] at hp hlf
      replace hp:=hp.inS
      replace hlf:=hlf.inS
      obtain ⟨pa,pc,hpe⟩:=hp.len
      subst hpe
      obtain ⟨la,lc,hle⟩:=hlf.len
      subst hle
      have hI13:=hI11.fr hF13
      have hpn:(IT.map some++[none]:List (Option (Int×Int))).length=IT.length+1:=by simp
      refine ⟨trivial,?_⟩
      refine Uf 5 [6,7,10,11] rfl (Ut 2 rfl ?_)
      rw [hpn]
      obtain ⟨b,o,c',ee,hrn⟩:=hp.at (i:=IT.length) (x:=none) (by simp)
      rw [hpn] at ee
      cases ee
      simp only [List.length_nil]
      refine Ur 20 4294967296 rfl (Ua 4 (((IT.length+1:Nat):Int)) rfl (by omega) (Uc 0 rfl (neqF (by omega)) (Uc 3 rfl (neqF (by omega)) (Ux 5 (IT.length) rfl (by omega) (by omega) (Us 0 rfl hrn rfl (O.bld (cs:=(fvs none)) rfl rfl rfl rfl (st68) rfl (by kernel_rfl) (O.bin rfl rfl rfl rfl rfl rfl (found_neq none _ _) (Uf 1 [6,7,10,72] rfl (Go'.condF rfl (Ut 3 rfl (Ur 3 0 rfl ?_)))))))))))
      refine Uf 3 [6,10,73,74,75] rfl (Ut 1 rfl (Go'.loop (Uk [6,10,73,74,75] rfl ?_)))
      refine Go'.ind (σ:=Nat) (fun s=>IT.length-s) (fun s H'=>s≤IT.length∧Fr nowhere H13 H')
       (fun s=>[(6,.bool false),(10,.slice (some ⟨b,o,none⟩) (IT.length+1) pc),(73,.slice ta IT.length tc),(74,.int .i64 (IT.length:Int)),(75,.int .i64 (s:Int))]) 0 ⟨Nat.zero_le _,Fr.refl _ _⟩ rfl ?_
      rintro i H14 ⟨hil3,hf14⟩ ih
      have hs14:=hf14.size
      refine Ut 1 rfl ?_
      by_cases hlt:i<IT.length
      ·
       obtain ⟨y,hy⟩:∃y,IT[i]?=some y:=⟨IT[i],List.getElem?_eq_getElem hlt⟩
       obtain ⟨b2,o2,c2,ee,hr⟩:=(hI13.fr hf14).at hy
       cases ee
       obtain ⟨b3,o3,c3,ee,hr2⟩:=(hp.fr hf14).at (i:=i) (x:=some y) (by rw [List.getElem?_append_left (by rw [List.length_map];exact hlt),List.getElem?_map,hy];rfl)
       rw [hpn] at ee
       cases ee
       refine Ur 1 0 rfl (Uc 0 rfl (lssT (by omega)) (Uf 0 [6,10,73,74,75,76] rfl (Ut 1 rfl (Go'.condT rfl (Ut 4 rfl (Ur 6 2192 rfl (Ux 1 i rfl (by omega) hlt (Us 0 rfl hr rfl (O.alloc rfl rfl rfl zeroValue27 ?_)))))))))
       intro H15 M15
       refine ⟨trivial,?_⟩
       have hs15:=M15.size
       have w15:Wr H15 H14.size 0 2:=M15.wr 2 (by decide)
       replace hr2:=(M15.fr nowhere).rd hr2 (fun _ _=>nw)
       refine Uq 1 rfl (O.st (vs:=(EJ.enc y)) rfl rfl sizeOf27 rfl rfl rfl rfl rfl w15 ?_)
       intro H16 W16
       have hf16:Fr nowhere H13 H16:=(hf14.trans (M15.fr nowhere)).trans' W16.fr (fun _ _ _ h=>h) (fun b o hb h=>by have h':=h.1;omega)
       have k16:Rd H16 H14.size 0 (EJ.enc y):=W16.all
       have hr2:=(hp.fr hf16).at (i:=i) (x:=some y) (by rw [List.getElem?_append_left (by rw [List.length_map];exact hlt),List.getElem?_map,hy];rfl)
       obtain ⟨b4,o4,c4,ee,hr2⟩:=hr2
       rw [hpn] at ee
       cases ee
       refine ⟨trivial,?_⟩
       refine Uf 0 [6,10,12,13,73,74,75,76] rfl (Ut 1 rfl (Ud 7 320 (by kernel_rfl) (Ux 2 i rfl (by omega) (by omega) (Us 0 rfl hr2 rfl (Us 0 rfl k16 rfl (O.bld (cs:=(fvs (some y))) rfl rfl rfl rfl (st68) rfl (by kernel_rfl) (O.bin rfl rfl rfl rfl rfl rfl (found_neq (some y) _ _) (Uf 0 [6,10,12,13,73,74,75,76,86] rfl (Go'.condF rfl (Ut 2 rfl (Ur 2 0 rfl ?_)))))))))))
       refine Ua 0 (((i+1:Nat):Int)) rfl (by omega) (Uf 1 [6,10,12,13,73,74,75,76,86] rfl (Uk [6,10,73,74,75] rfl (Go'.inLoop ?_)))
       exact ih (i+1) H16 ⟨hlt,hf16⟩ (by omega)
      ·
       obtain rfl:i=IT.length:=by omega
       replace hF:=hF.trans hf14
       refine Ur 1 0 rfl (Uc 0 rfl (lssF (by omega)) (Uf 0 [6,10,73,74,75,76] rfl (Ut 1 rfl (Go'.condF rfl (Ut 2 rfl (Ur 2 2 rfl (O.call rfl rfl rfl call25 rfl alive_spec ?_)))))))
       rintro _ Hv ⟨rfl,hFv⟩
       replace hF:=hF.trans hFv
       refine ⟨trivial,?_⟩
       refine Uf 1 [6] rfl (Go'.ret (vs:=[_]) func19 results19 ⟨rfl,trivial⟩ ?_)
       exact ⟨rfl,hF⟩
end Go.Bt.FG
