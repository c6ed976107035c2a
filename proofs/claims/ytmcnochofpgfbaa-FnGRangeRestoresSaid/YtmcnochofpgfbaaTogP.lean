/- Contracts of functions of the program, proved by walking through their code. Conditions: those that each theorem names. -/
import Derived.Test.YtmcnochofpgfbaaTogG
import Derived.Test.YtmcnochofpgfbaaToRb
set_option linter.unusedVariables false
namespace Go.Bt.FG
open Go Go.Proofs Go.Proofs.Try
set_option maxRecDepth 20000
set_option maxHeartbeats 4000000
set_option linter.unusedSectionVars false
variable [Inhabited Cx]
theorem rebalL_spec {B:World} {H:Mem} {tr:Nat} {P:Ps} (hP:PsOk P) (tc:TrC H tr P.iso P.mx P.mn) {cn:Nat→Nat} {i i0:Nat} {g gl gr:Ng} {X Xl Xr:List (Int×Int)} {os osl osr:List (Option Nat)} {x:Int×Int}
  (hin:RebIn EJ H P (fun b=>b<cx.base) true cn i g gl gr X Xl Xr os osl osr x) (hi0:i0=i∨(i0=i+1∧i0=X.length)) (hi1:i0=X.length→i0=i+1):
  Fn Try.prog B 97 [.pointer (some ⟨tr,0,none⟩),.pointer (some ⟨g.p,0,none⟩),.int .i64 (i0:Int)] H (fun v H'=>v=resVal []∧RebOut EJ H H' P true cn i g gl gr X Xl Xr os osl osr x):=by
 obtain ⟨np,niso,ncnt,nib,nio,nic,ncb,nkb,nko,nkc⟩:=g
 obtain ⟨lp,liso,lcnt,lib,lio,lic,lcb,lkb,lko,lkc⟩:=gl
 obtain ⟨rp,riso,rcnt,rib,rio,ric,rcb,rkb,rko,rkc⟩:=gr
 obtain ⟨hn,hl,hr,dln,drn,dlr,tn,tl,trr,hD,hx,hpl,hpr,hlen,hxm,hlm,hrm,hkl,hkr,hcl,hcr,hcq,hb,hsh,hml,hmr⟩:=hin
 obtain ⟨hl,hli,rfl⟩:=hl
 obtain ⟨hr,hri,rfl⟩:=hr
 replace hl:NodeM EJ H (⟨lp,liso,lcnt,lib,lio,lic,lcb,lkb,lko,lkc⟩:Ng) Xl (.pointer none):=hl
 replace hr:NodeM EJ H (⟨rp,riso,rcnt,rib,rio,ric,rcb,rkb,rko,rkc⟩:Ng) Xr (.pointer none):=hr
 replace hli:liso=P.iso:=hli
 replace hri:riso=P.iso:=hri
 simp only [List.map_nil,List.sum_nil,Nat.add_zero] at hcl hcr
 replace dln:Off (ncl EJ (⟨lp,liso,lcnt,lib,lio,lic,lcb,lkb,lko,lkc⟩:Ng)) (rn EJ (⟨np,niso,ncnt,nib,nio,nic,ncb,nkb,nko,nkc⟩:Ng)):=dln
 replace drn:Off (ncl EJ (⟨rp,riso,rcnt,rib,rio,ric,rcb,rkb,rko,rkc⟩:Ng)) (rn EJ (⟨np,niso,ncnt,nib,nio,nic,ncb,nkb,nko,nkc⟩:Ng)):=drn
 replace dlr:Off (ncl EJ (⟨lp,liso,lcnt,lib,lio,lic,lcb,lkb,lko,lkc⟩:Ng)) (ncl EJ (⟨rp,riso,rcnt,rib,rio,ric,rcb,rkb,rko,rkc⟩:Ng)):=dlr
 replace tl:∀b o,(ncl EJ (⟨lp,liso,lcnt,lib,lio,lic,lcb,lkb,lko,lkc⟩:Ng)) b o→¬(fun b=>b<cx.base) b:=tl
 replace tn:∀b o,(rn EJ (⟨np,niso,ncnt,nib,nio,nic,ncb,nkb,nko,nkc⟩:Ng)) b o→¬(fun b=>b<cx.base) b:=tn
 replace trr:∀b o,(ncl EJ (⟨rp,riso,rcnt,rib,rio,ric,rcb,rkb,rko,rkc⟩:Ng)) b o→¬(fun b=>b<cx.base) b:=trr
 replace hlen:os.length=X.length+1:=hlen
 replace hpl:os[i]?=some (some lp):=hpl
 replace hpr:os[i+1]?=some (some rp):=hpr
 simp only at hcl hcr hb
 have hmm:=hP.hm
 have hh1:=hP.h1
 have hx255:=hP.hx
 have hxl:i<X.length:=(List.getElem?_eq_some_iff.1 hx).1
 have hil:=hl.sl.hle
 have hir:=hr.sl.hle
 have hin:=hn.n.sl.hle
 have hic:=hl.ic
 have hirc:=hr.ic
 simp only at hil hir hin hic hirc
 have hF:Fr (fun b o=>rn EJ (⟨np,niso,ncnt,nib,nio,nic,ncb,nkb,nko,nkc⟩:Ng) b o∨rwc EJ true (⟨lp,liso,lcnt,lib,lio,lic,lcb,lkb,lko,lkc⟩:Ng) b o∨rwc EJ true (⟨rp,riso,rcnt,rib,rio,ric,rcb,rkb,rko,rkc⟩:Ng) b o) H H:=Fr.refl _ _
 have sn:Gro H (rn EJ (⟨np,niso,ncnt,nib,nio,nic,ncb,nkb,nko,nkc⟩:Ng)) (rn EJ (⟨np,niso,ncnt,nib,nio,nic,ncb,nkb,nko,nkc⟩:Ng)):=Gro.refl _ _
 have sl:Gro H (ncl EJ (⟨lp,liso,lcnt,lib,lio,lic,lcb,lkb,lko,lkc⟩:Ng)) (ncl EJ (⟨lp,liso,lcnt,lib,lio,lic,lcb,lkb,lko,lkc⟩:Ng)):=Gro.refl _ _
 have sr:Gro H (ncl EJ (⟨rp,riso,rcnt,rib,rio,ric,rcb,rkb,rko,rkc⟩:Ng)) (ncl EJ (⟨rp,riso,rcnt,rib,rio,ric,rcb,rkb,rko,rkc⟩:Ng)):=Gro.refl _ _
 have hkin:=hn.k.sl.hle
 simp only at hkin
 refine fn_of func97 rfl ntmps97 ?_
 refine (show Go' _ _ _ _ 649 [(0,_),(1,_),(2,_)] [.code _] _ from ?_)
 refine Ut 2 rfl ?_
 refine Go'.join2 (σ:=Unit) (fun _ H'=>H'=H) (fun _=>[(0,.pointer (some ⟨tr,0,none⟩)),(1,.pointer (some ⟨np,0,none⟩)),(2,.int .i64 (i:Int))]) ?_ ?_
 rotate_left
 ·
  intro tail
  by_cases hii:i0=X.length
  ·
   refine Ur 7 256 rfl (Ul 4 rfl (show cl _ np 2=some (.slice (some ⟨nib,nio,none⟩) X.length nic) from hn.n.c2) (Uc 1 rfl (eqlT (by omega)) (Uf 0 [0,1,2,14] rfl (Go'.condT rfl (Ur 3 0 rfl (Ub 1 (((i0-1:Nat):Int)) rfl (by omega) (Uf 1 [0,1,2] rfl (Uk [0,1,2] rfl ?_))))))))
   have ei:i0-1=i:=by omega
   rw [ei]
   exact tail () H rfl
  ·
   refine Ur 7 256 rfl (Ul 4 rfl (show cl _ np 2=some (.slice (some ⟨nib,nio,none⟩) X.length nic) from hn.n.c2) (Uc 1 rfl (eqlF (by omega)) (Uf 0 [0,1,2,14] rfl (Go'.condF rfl (Ut 1 rfl (Uk [0,1,2] rfl ?_))))))
   obtain rfl:i0=i:=by omega
   exact tail () H rfl
 rintro _ H' hHH
 have e:H=H':=hHH.symm
 subst e
 clear hHH
 refine Ut 1 rfl (Ur 11 528640 rfl (Ul 4 rfl (show cl _ np 3=some (.pointer (some ⟨ncb,0,none⟩)) from hn.n.c3) (Ul 1 rfl (show cl _ ncb 0=some (.slice (some ⟨nkb,nko,none⟩) (os).length nkc) from hn.k.c) (Ux 1 i rfl (by omega) (by omega) (O.callQ rfl rfl rfl call59 rfl (isoLoad_spec true (hn.k.at hpl) (by have:=hl.c0;simp only [hli] at this;exact this) tc.iso) trivial (Uf 1 [0,1,2,6] rfl (Ut 1 rfl (Ur 12 2101504 rfl (Ul 4 rfl (show cl _ np 3=some (.pointer (some ⟨ncb,0,none⟩)) from hn.n.c3) (Ul 1 rfl (show cl _ ncb 0=some (.slice (some ⟨nkb,nko,none⟩) (os).length nkc) from hn.k.c) (Ua 1 (((i+1:Nat):Int)) rfl (by omega) ?_)))))))))))
 refine Ux 0 (i+1) rfl (by omega) (by omega) (O.callQ rfl rfl rfl call59 rfl (isoLoad_spec true (hn.k.at hpr) (by have:=hr.c0;simp only [hri] at this;exact this) tc.iso) trivial (Uf 1 [0,1,2,6,7] rfl (Ut 1 rfl ?_)))
 by_cases hm:Xl.length+Xr.length<P.mx
 ·
  refine Ud 16 268501056 (by kernel_rfl) (Ul 3 rfl (show cl _ lp 2=some (.slice (some ⟨lib,lio,none⟩) Xl.length lic) from hl.c2) (Ul 4 rfl (show cl _ rp 2=some (.slice (some ⟨rib,rio,none⟩) Xr.length ric) from hr.c2) (Ua 1 (((Xl.length+Xr.length:Nat):Int)) rfl (by omega) (Ul 3 rfl tc.mx' (Uc 0 rfl (lssT (by omega)) (Uf 0 [0,1,2,6,7,53] rfl (Go'.condT rfl (Ut 1 rfl (UD (fun H'=>cl H' lp 2=some (.slice (some ⟨lib,lio,none⟩) Xl.length lic)) 17 13056933888 (by kernel_rfl) ((show cl _ lp 2=some (.slice (some ⟨lib,lio,none⟩) Xl.length lic) from hl.c2)) (UL 4 rfl (fun _ h=>h) (Ul 3 rfl (show cl _ np 2=some (.slice (some ⟨nib,nio,none⟩) X.length nic) from hn.n.c2) ?_)))))))))))
  refine Ux 1 i rfl (by omega) (by omega) (Us 0 rfl (hn.n.sl.item hx) rfl (O.bsl (cs:=(EJ.enc x)) rfl rfl rfl ⟨underlying25,sizeOf27,zeroValue27,⟨_,typeInfo27,rfl⟩,rfl,by decide,by decide⟩ rfl (by decide) (by kernel_rfl) ?_))
  intro H1 MH1
  have fM:=MH1.fr nowhere
  replace hn:=hn.fr fM (fun _ _ _=>nw)
  replace hl:=NodeM.fr EJ hl fM (fun _ _ _=>nw)
  replace hr:=NodeM.fr EJ hr fM (fun _ _ _=>nw)
  replace tc:=tc.fr fM (fun _ _ _ _=>nw)
  replace hF:=hF.trans' fM (fun _ _ _ h=>h) (fun _ _ _ h=>h.elim)
  have mH1:Rd H1 H.size 0 (EJ.enc x):=MH1.rd _ [] (by simp)
  refine ⟨(show cl _ lp 2=some (.slice (some ⟨lib,lio,none⟩) Xl.length lic) from hl.c2),?_⟩
  refine O.app (m:=1) (news:=(EJ.enc x)) rfl rfl rfl ⟨underlying25,sizeOf27,zeroValue27,⟨_,typeInfo27,rfl⟩,rfl,by decide,by decide⟩ rfl hl.sl rfl (.inl ⟨_,_,_,rfl,mH1⟩) rfl rfl (Nat.le_trans (Nat.mul_le_mul_left _ (Nat.le_of_ble_eq_true (n:=_) (m:=4096) rfl)) (by omega)) (by omega) ?_
  intro lib_3 lio_3 lic_3 H2 haH2
  have fA:Fr (ncl EJ (⟨lp,liso,lcnt,lib,lio,lic,lcb,lkb,lko,lkc⟩:Ng)) H1 H2:=(haH2.in_node hl)
  have gg:Gro H1 (ncl EJ (⟨lp,liso,lcnt,lib,lio,lic,lcb,lkb,lko,lkc⟩:Ng)) (ncl EJ (⟨lp,liso,lcnt,lib_3,lio_3,lic_3,lcb,lkb,lko,lkc⟩:Ng)):=haH2.gro
  have hF0:=hF
  have h0:=hl
  have lon:=hn.lt'
  have lor:=hr.lt'
  replace hl:=hl.appd haH2
  replace hn:=hn.fr fA (dln.symm)
  replace hr:=NodeM.fr EJ hr fA (dlr.symm)
  replace tc:=tc.fr fA (fun b o hb _ hz=>tl b o hz hb.1)
  replace hF:=Fr.tot hF fA sl (fun _ _ h=>.inr (.inl h))
  refine ⟨(show cl _ lp 2=some (.slice (some ⟨lib,lio,none⟩) Xl.length lic) from hl.c2),?_⟩
  refine Uq 2 rfl (O.st3 rfl rfl sizeOf25 rfl rfl rfl rfl rfl (hl.wr.at0 2 1 (by omega)) ?_)
  intro H3 WH3
  have hf3:NodeM EJ H3 (⟨lp,liso,lcnt,lib_3,lio_3,lic_3,lcb,lkb,lko,lkc⟩:Ng) (Xl++[x]) (.pointer none):=h0.push haH2 WH3
  have fH:Fr (ncl EJ (⟨lp,liso,lcnt,lib_3,lio_3,lic_3,lcb,lkb,lko,lkc⟩:Ng)) H2 H3:=(Wrote.fHdr (E:=EJ) (g:=(⟨lp,liso,lcnt,lib_3,lio_3,lic_3,lcb,lkb,lko,lkc⟩:Ng)) WH3 (by omega))
  replace dln:=(Gro.off gg dln.symm lon).symm
  replace dlr:=(Gro.off gg dlr.symm lor).symm
  replace tl:=Gro.offD gg tl (fun b h=>Nat.lt_of_lt_of_le (hD b h) hF0.size)
  replace sl:=Gro.tr sl hF0.size gg
  replace hn:=hn.fr fH (dln.symm)
  replace hr:=NodeM.fr EJ hr fH (dlr.symm)
  replace tc:=tc.fr fH (fun b o hb _ hz=>tl b o hz hb.1)
  replace hF:=Fr.tot hF fH sl (fun _ _ h=>.inr (.inl h))
  clear h0 hl
  obtain ⟨lX1,elX1,hl⟩:∃X1,X1=Xl++[x]∧NodeM EJ H3 (⟨lp,liso,lcnt,lib_3,lio_3,lic_3,lcb,lkb,lko,lkc⟩:Ng) (X1) (.pointer none):=⟨_,rfl,hf3⟩
  have llX1:lX1.length=Xl.length+1:=by rw [elX1,List.length_append];rfl
  have clX1:lX1.length≤lic_3:=hl.sl.hle
  clear hf3 fA fH gg hF0 haH2 WH3 fM MH1 mH1
  clear lon
  clear lor
  refine Uf 0 [0,1,2,6,7] rfl (Ut 1 rfl (Ud 13 50921728 (by kernel_rfl) (Ul 4 rfl (show cl _ lp 2=some (.slice (some ⟨lib_3,lio_3,none⟩) lX1.length lic_3) from hl.c2) (Ul 3 rfl (show cl _ rp 2=some (.slice (some ⟨rib,rio,none⟩) Xr.length ric) from hr.c2) (O.app (m:=(Xr).length) (news:=(row EJ Xr)) rfl rfl rfl ⟨underlying25,sizeOf27,zeroValue27,⟨_,typeInfo27,rfl⟩,rfl,by decide,by decide⟩ rfl hl.sl rfl (.inl ⟨_,_,_,rfl,hr.sl.rd⟩) (row_len EJ _) (row_ones EJ _) (Nat.le_trans (Nat.mul_le_mul_left _ (Nat.le_of_ble_eq_true (n:=_) (m:=4096) rfl)) (by omega)) (by omega) ?_)))))
  intro lib_5 lio_5 lic_5 H4 haH4
  have fA:Fr (ncl EJ (⟨lp,liso,lcnt,lib_3,lio_3,lic_3,lcb,lkb,lko,lkc⟩:Ng)) H3 H4:=(haH4.in_node hl)
  have gg:Gro H3 (ncl EJ (⟨lp,liso,lcnt,lib_3,lio_3,lic_3,lcb,lkb,lko,lkc⟩:Ng)) (ncl EJ (⟨lp,liso,lcnt,lib_5,lio_5,lic_5,lcb,lkb,lko,lkc⟩:Ng)):=haH4.gro
  have hF0:=hF
  have h0:=hl
  have lon:=hn.lt'
  have lor:=hr.lt'
  replace hl:=hl.appd haH4
  replace hn:=hn.fr fA (dln.symm)
  replace hr:=NodeM.fr EJ hr fA (dlr.symm)
  replace tc:=tc.fr fA (fun b o hb _ hz=>tl b o hz hb.1)
  replace hF:=Fr.tot hF fA sl (fun _ _ h=>.inr (.inl h))
  refine ⟨trivial,?_⟩
  refine Uq 2 rfl (O.st3 rfl rfl sizeOf25 rfl rfl rfl rfl rfl (hl.wr.at0 2 1 (by omega)) ?_)
  intro H5 WH5
  have hf3:NodeM EJ H5 (⟨lp,liso,lcnt,lib_5,lio_5,lic_5,lcb,lkb,lko,lkc⟩:Ng) (lX1++Xr) (.pointer none):=h0.pushs haH4 rfl (by omega) WH5
  have fH:Fr (ncl EJ (⟨lp,liso,lcnt,lib_5,lio_5,lic_5,lcb,lkb,lko,lkc⟩:Ng)) H4 H5:=(Wrote.fHdr (E:=EJ) (g:=(⟨lp,liso,lcnt,lib_5,lio_5,lic_5,lcb,lkb,lko,lkc⟩:Ng)) WH5 (by omega))
  replace dln:=(Gro.off gg dln.symm lon).symm
  replace dlr:=(Gro.off gg dlr.symm lor).symm
  replace tl:=Gro.offD gg tl (fun b h=>Nat.lt_of_lt_of_le (hD b h) hF0.size)
  replace sl:=Gro.tr sl hF0.size gg
  replace hn:=hn.fr fH (dln.symm)
  replace hr:=NodeM.fr EJ hr fH (dlr.symm)
  replace tc:=tc.fr fH (fun b o hb _ hz=>tl b o hz hb.1)
  replace hF:=Fr.tot hF fH sl (fun _ _ h=>.inr (.inl h))
  clear h0 hl
  obtain ⟨lX2,elX2,hl⟩:∃X1,X1=lX1++Xr∧NodeM EJ H5 (⟨lp,liso,lcnt,lib_5,lio_5,lic_5,lcb,lkb,lko,lkc⟩:Ng) (X1) (.pointer none):=⟨_,rfl,hf3⟩
  have llX2:lX2.length=lX1.length+Xr.length:=by rw [elX2,List.length_append]
  have clX2:lX2.length≤lic_5:=hl.sl.hle
  clear hf3 fA fH gg hF0 haH4 WH5
  clear lon
  clear lor
  refine Uf 0 [0,1,2,6,7] rfl (Ut 2 rfl (Ur 3 8 rfl (Uq 1 rfl (O.callQ rfl rfl rfl call62 rfl (leaf_spec hl.c3) trivial (Uf 1 [0,1,2,6,7,84] rfl (Go'.condF rfl (Ut 2 rfl (Ud 13 50348096 (by kernel_rfl) (Ul 3 rfl (show cl _ lp 1=some (.int .i64 (lcnt:Int)) from hl.c1) (Ul 3 rfl (show cl _ rp 1=some (.int .i64 (rcnt:Int)) from hr.c1) (Ua 0 (((rcnt+1:Nat):Int)) rfl (by omega) ?_)))))))))))
  refine Ua 0 (((lcnt+(rcnt+1):Nat):Int)) rfl (by omega) (Uq 2 rfl (O.st3 rfl rfl sizeOf3 rfl rfl rfl rfl rfl (hl.wr.at0 1 1 (by omega)) ?_))
  intro H6 WH6
  have fW:Fr (ncl EJ (⟨lp,liso,lcnt,lib_5,lio_5,lic_5,lcb,lkb,lko,lkc⟩:Ng)) H5 H6:=(Wrote.fHdr (E:=EJ) (g:=(⟨lp,liso,lcnt,lib_5,lio_5,lic_5,lcb,lkb,lko,lkc⟩:Ng)) WH6 (by omega))
  replace hn:=hn.fr fW (dln.symm)
  replace hr:=NodeM.fr EJ hr fW (dlr.symm)
  replace tc:=tc.fr fW (fun b o hb _ hz=>tl b o hz hb.1)
  replace hF:=Fr.tot hF fW sl (fun _ _ h=>.inr (.inl h))
  obtain ⟨lcnt_6,elcnt_6⟩:∃z,z=lcnt+(rcnt+1):=⟨_,rfl⟩
  rw [←elcnt_6] at WH6
  replace hl:NodeM EJ H6 (⟨lp,liso,lcnt_6,lib_5,lio_5,lic_5,lcb,lkb,lko,lkc⟩:Ng) (lX2) (.pointer none):=hl.count WH6
  clear fW
  refine Uf 0 [0,1,2] rfl (Ut 1 rfl ?_)
  have hxd:X.length-(i+1)+(i+1)=X.length:=by omega
  refine Ud 14 134479936 (by kernel_rfl) (Ul 3 rfl (show cl _ np 2=some (.slice (some ⟨nib,nio,none⟩) X.length nic) from hn.n.c2) (Uq 1 rfl (O.slc (jl:=i) (jh:=X.length) (jm:=nic) rfl rfl rfl rfl underlying25 sizeOf27 rfl rfl rfl ⟨_,by rfl⟩ (by omega) (by omega) (by simp) (by simp) ?_)))
  intro od hod
  refine Ul 3 rfl (show cl _ np 2=some (.slice (some ⟨nib,nio,none⟩) X.length nic) from hn.n.c2) (Ua 1 (((i+1:Nat):Int)) rfl (by omega) (O.slc (jl:=i+1) (jh:=X.length) (jm:=nic) rfl rfl rfl rfl underlying25 sizeOf27 rfl rfl rfl ⟨_,by rfl⟩ (by omega) (by omega) (by simp) (by simp) ?_))
  intro os2 hos2
  refine O.copy (b:=nib) (o:=(nio+(i)*2)) (j:=(X.length-(i+1))) (cs:=(row EJ (X.drop (i+1)))) rfl rfl rfl ⟨underlying25,sizeOf27,zeroValue27,⟨_,typeInfo27,rfl⟩,rfl,by decide,by decide⟩ rfl rfl (show _=min _ _ by omega) ((Nat.lt_or_ge (i) nic).elim (fun h=>.inl (by rw [hod h])) (fun h=>.inr (by omega))) (.inl ⟨_,_,_,rfl,hn.n.sl.rdDrop (i:=i+1) hos2 (by omega)⟩) (by rw [row_len];first|rfl|(congr 1;simp only [List.length_drop];try omega)) (row_ones EJ _) (hn.n.sl.wrm (i:=i) (m:=X.length-(i+1)) (by omega)) ?_
  intro H7 WH7
  have hyl:(X.drop (i+1)).length=X.length-(i+1):=by simp only [List.length_drop];try omega
  have fW:Fr (rn EJ (⟨np,niso,ncnt,nib,nio,nic,ncb,nkb,nko,nkc⟩:Ng)) H6 H7:=(NodeM.fCpy hn.n (i:=i) (Y:=X.drop (i+1)) WH7 (by omega)).inN
  replace hl:=NodeM.fr EJ hl fW (dln)
  replace hr:=NodeM.fr EJ hr fW (drn)
  replace tc:=tc.fr fW (fun b o hb _ hz=>tn b o hz hb.1)
  replace hF:=Fr.tot hF fW sn (fun _ _ h=>.inl h)
  obtain ⟨nX3,enX3,hn⟩:∃X1,X1=X.take (i)++X.drop (i+1)++X.drop (i+(X.drop (i+1)).length)∧Rn EJ H7 P (⟨np,niso,ncnt,nib,nio,nic,ncb,nkb,nko,nkc⟩:Ng) (X1) (os):=⟨_,rfl,hn.cpy (i:=i) (Y:=X.drop (i+1)) WH7 (by omega)⟩
  have lnX3:nX3.length=X.length:=by rw [enX3];simp only [List.length_append,List.length_take,List.length_drop];omega
  clear fW
  clear hyl
  refine ⟨trivial,?_⟩
  refine Uf 0 [0,1,2] rfl (Ut 1 rfl (Ud 16 3288350784 (by kernel_rfl) (Ul 3 rfl (show cl _ np 2=some (.slice (some ⟨nib,nio,none⟩) nX3.length nic) from hn.n.c2) (Ul 3 rfl (show cl _ np 2=some (.slice (some ⟨nib,nio,none⟩) nX3.length nic) from hn.n.c2) (Ub 1 (((nX3.length-1:Nat):Int)) rfl (by omega) (Us 3 rfl tc.emp rfl (Ux 0 (nX3.length-1) rfl (by omega) (by omega) (O.st3 rfl rfl sizeOf27 rfl rfl rfl rfl rfl (hn.n.sl.wri (i:=nX3.length-1) (by omega)) ?_))))))))
  intro H8 WH8
  have fW:Fr (rn EJ (⟨np,niso,ncnt,nib,nio,nic,ncb,nkb,nko,nkc⟩:Ng)) H7 H8:=(NodeM.fSet hn.n (i:=nX3.length-1) (x:=((0:Int),(0:Int))) WH8 (by omega)).inN
  replace hl:=NodeM.fr EJ hl fW (dln)
  replace hr:=NodeM.fr EJ hr fW (drn)
  replace tc:=tc.fr fW (fun b o hb _ hz=>tn b o hz hb.1)
  replace hF:=Fr.tot hF fW sn (fun _ _ h=>.inl h)
  obtain ⟨nX4,enX4,hn⟩:∃X1,X1=nX3.take (nX3.length-1)++((0:Int),(0:Int))::nX3.drop (nX3.length-1+1)∧Rn EJ H8 P (⟨np,niso,ncnt,nib,nio,nic,ncb,nkb,nko,nkc⟩:Ng) (X1) (os):=⟨_,rfl,hn.set (i:=nX3.length-1) (x:=((0:Int),(0:Int))) WH8 (by omega)⟩
  have lnX4:nX4.length=nX3.length:=by rw [enX4];simp only [List.length_append,List.length_take,List.length_cons,List.length_drop];omega
  clear fW
  refine Uf 0 [1,2] rfl (Ut 1 rfl (Ud 15 805372160 (by kernel_rfl) (Ul 4 rfl (show cl _ np 2=some (.slice (some ⟨nib,nio,none⟩) nX4.length nic) from hn.n.c2) (Ul 3 rfl (show cl _ np 2=some (.slice (some ⟨nib,nio,none⟩) nX4.length nic) from hn.n.c2) (Ub 1 (((nX4.length-1:Nat):Int)) rfl (by omega) (O.slc (jl:=0) (jh:=nX4.length-1) (jm:=nic) rfl rfl rfl rfl underlying25 sizeOf27 rfl rfl ⟨_,by rfl⟩ rfl (by omega) (by omega) (by simp) (by simp) ?_))))))
  intro oc hoc
  have hoc2:nio=oc:=by rw [hoc (by omega)];simp
  subst hoc2
  rw [Nat.sub_zero]
  refine Uq 2 rfl (O.st3 rfl rfl sizeOf25 rfl rfl rfl rfl rfl (hn.n.wr.at0 2 1 (by omega)) ?_)
  intro H9 WH9
  have fW:Fr (rn EJ (⟨np,niso,ncnt,nib,nio,nic,ncb,nkb,nko,nkc⟩:Ng)) H8 H9:=(Wrote.fHdr (E:=EJ) (g:=(⟨np,niso,ncnt,nib,nio,nic,ncb,nkb,nko,nkc⟩:Ng)) WH9 (by omega)).inN
  replace hl:=NodeM.fr EJ hl fW (dln)
  replace hr:=NodeM.fr EJ hr fW (drn)
  replace tc:=tc.fr fW (fun b o hb _ hz=>tn b o hz hb.1)
  replace hF:=Fr.tot hF fW sn (fun _ _ h=>.inl h)
  obtain ⟨nX5,enX5,hn⟩:∃X1,X1=nX4.take (nX4.length-1)∧Rn EJ H9 P (⟨np,niso,ncnt,nib,nio,nic,ncb,nkb,nko,nkc⟩:Ng) (X1) (os):=⟨_,rfl,hn.cut WH9 (by omega)⟩
  have lnX5:nX5.length=nX4.length-1:=by rw [enX5];simp only [List.length_take];omega
  clear fW
  refine Uf 0 [1,2] rfl (Ut 1 rfl (Ud 19 137724167232 (by kernel_rfl) (Ul 3 rfl (show cl _ np 3=some (.pointer (some ⟨ncb,0,none⟩)) from hn.n.c3) (Ul 1 rfl (show cl _ ncb 0=some (.slice (some ⟨nkb,nko,none⟩) (os).length nkc) from hn.k.c) (Ua 1 (((i+1:Nat):Int)) rfl (by omega) (O.slc (jl:=i+1) (jh:=os.length) (jm:=nkc) rfl rfl rfl rfl underlying121 sizeOf107 rfl rfl rfl ⟨_,by rfl⟩ (by omega) (by omega) (by simp) (by simp) ?_))))))
  intro od hod
  refine Ul 3 rfl (show cl _ np 3=some (.pointer (some ⟨ncb,0,none⟩)) from hn.n.c3) (Ul 1 rfl (show cl _ ncb 0=some (.slice (some ⟨nkb,nko,none⟩) (os).length nkc) from hn.k.c) (Ua 1 (((i+2:Nat):Int)) rfl (by omega) (O.slc (jl:=i+1+1) (jh:=os.length) (jm:=nkc) rfl rfl rfl rfl underlying121 sizeOf107 rfl rfl rfl ⟨_,by rfl⟩ (by omega) (by omega) (by simp) (by simp) ?_)))
  intro os2 hos2
  refine O.copy (b:=nkb) (o:=(nko+(i+1)*1)) (j:=(os.length-(i+1+1))) (cs:=(row EP (os.drop (i+1+1)))) rfl rfl rfl ⟨underlying121,sizeOf107,zeroValue107,⟨_,typeInfo107,rfl⟩,rfl,by decide,by decide⟩ rfl rfl (show _=min _ _ by omega) ((Nat.lt_or_ge (i+1) nkc).elim (fun h=>.inl (by rw [hod h])) (fun h=>.inr (by omega))) (.inl ⟨_,_,_,rfl,hn.k.sl.rdDrop (i:=i+1+1) hos2 (by omega)⟩) (by rw [row_len];first|rfl|(congr 1;simp only [List.length_drop];try omega)) (row_ones EP _) (hn.k.sl.wrm (i:=i+1) (m:=os.length-(i+1+1)) (by omega)) ?_
  intro H10 WH10
  have hyl:(os.drop (i+1+1)).length=os.length-(i+1+1):=by simp only [List.length_drop];try omega
  have fW:Fr (rn EJ (⟨np,niso,ncnt,nib,nio,nic,ncb,nkb,nko,nkc⟩:Ng)) H9 H10:=hn.fKcpy (i:=i+1) (Y:=os.drop (i+1+1)) WH10 (by omega)
  replace hl:=NodeM.fr EJ hl fW (dln)
  replace hr:=NodeM.fr EJ hr fW (drn)
  replace tc:=tc.fr fW (fun b o hb _ hz=>tn b o hz hb.1)
  replace hF:=Fr.tot hF fW sn (fun _ _ h=>.inl h)
  obtain ⟨nX6,enX6,hn⟩:∃X1,X1=os.take (i+1)++os.drop (i+1+1)++os.drop (i+1+(os.drop (i+1+1)).length)∧Rn EJ H10 P (⟨np,niso,ncnt,nib,nio,nic,ncb,nkb,nko,nkc⟩:Ng) (nX5) (X1):=⟨_,rfl,hn.kcpy (i:=i+1) (Y:=os.drop (i+1+1)) WH10 (by omega)⟩
  have lnX6:nX6.length=os.length:=by rw [enX6];simp only [List.length_append,List.length_take,List.length_drop];omega
  clear fW
  clear hyl
  refine ⟨trivial,?_⟩
  refine Uf 0 [1] rfl (Ut 1 rfl (Ud 16 3225683008 (by kernel_rfl) (Ul 3 rfl (show cl _ np 3=some (.pointer (some ⟨ncb,0,none⟩)) from hn.n.c3) (Ul 1 rfl (show cl _ ncb 0=some (.slice (some ⟨nkb,nko,none⟩) (nX6).length nkc) from hn.k.c) (Ul 3 rfl (show cl _ np 3=some (.pointer (some ⟨ncb,0,none⟩)) from hn.n.c3) (Ul 1 rfl (show cl _ ncb 0=some (.slice (some ⟨nkb,nko,none⟩) (nX6).length nkc) from hn.k.c) (Ub 1 (((((nX6).length)-1:Nat):Int)) rfl (by omega) (Ux 0 (((nX6).length)-1) rfl (by omega) (by omega) (O.st3 rfl rfl sizeOf107 rfl rfl rfl rfl rfl (hn.k.sl.wri (i:=nX6.length-1) (by omega)) ?_)))))))))
  intro H11 WH11
  have fW:Fr (rn EJ (⟨np,niso,ncnt,nib,nio,nic,ncb,nkb,nko,nkc⟩:Ng)) H10 H11:=hn.fKset (i:=nX6.length-1) WH11 rfl (by omega)
  replace hl:=NodeM.fr EJ hl fW (dln)
  replace hr:=NodeM.fr EJ hr fW (drn)
  replace tc:=tc.fr fW (fun b o hb _ hz=>tn b o hz hb.1)
  replace hF:=Fr.tot hF fW sn (fun _ _ h=>.inl h)
  obtain ⟨nX7,enX7,hn⟩:∃X1,X1=nX6.take (nX6.length-1)++none::nX6.drop (nX6.length-1+1)∧Rn EJ H11 P (⟨np,niso,ncnt,nib,nio,nic,ncb,nkb,nko,nkc⟩:Ng) (nX5) (X1):=⟨_,rfl,hn.kset (i:=nX6.length-1) (q:=none) WH11 rfl (by omega)⟩
  have lnX7:nX7.length=nX6.length:=by rw [enX7];simp only [List.length_append,List.length_take,List.length_cons,List.length_drop];omega
  clear fW
  refine Uf 0 [1] rfl (Ud 21 3299676012608 (by kernel_rfl) (Ul 3 rfl (show cl _ np 3=some (.pointer (some ⟨ncb,0,none⟩)) from hn.n.c3) (Ul 3 rfl (show cl _ np 3=some (.pointer (some ⟨ncb,0,none⟩)) from hn.n.c3) (Ul 1 rfl (show cl _ ncb 0=some (.slice (some ⟨nkb,nko,none⟩) (nX7).length nkc) from hn.k.c) (Ul 3 rfl (show cl _ np 3=some (.pointer (some ⟨ncb,0,none⟩)) from hn.n.c3) (Ul 1 rfl (show cl _ ncb 0=some (.slice (some ⟨nkb,nko,none⟩) (nX7).length nkc) from hn.k.c) (Ub 1 (((((nX7).length)-1:Nat):Int)) rfl (by omega) (O.slc (jl:=0) (jh:=nX7.length-1) (jm:=nkc) rfl rfl rfl rfl underlying121 sizeOf107 rfl rfl ⟨_,by rfl⟩ rfl (by omega) (by omega) (by simp) (by simp) ?_))))))))
  intro oc hoc
  have hoc2:nko=oc:=by rw [hoc (by omega)];simp
  subst hoc2
  rw [Nat.sub_zero]
  refine Uq 1 rfl (O.st3 rfl rfl sizeOf121 rfl rfl rfl rfl rfl (hn.k.wr) ?_)
  intro H12 WH12
  have fW:Fr (rn EJ (⟨np,niso,ncnt,nib,nio,nic,ncb,nkb,nko,nkc⟩:Ng)) H11 H12:=Wrote.fKhdr (g:=(⟨np,niso,ncnt,nib,nio,nic,ncb,nkb,nko,nkc⟩:Ng)) WH12
  replace hl:=NodeM.fr EJ hl fW (dln)
  replace hr:=NodeM.fr EJ hr fW (drn)
  replace tc:=tc.fr fW (fun b o hb _ hz=>tn b o hz hb.1)
  replace hF:=Fr.tot hF fW sn (fun _ _ h=>.inl h)
  obtain ⟨nX8,enX8,hn⟩:∃X1,X1=nX7.take (nX7.length-1)∧Rn EJ H12 P (⟨np,niso,ncnt,nib,nio,nic,ncb,nkb,nko,nkc⟩:Ng) (nX5) (X1):=⟨_,rfl,hn.kcut WH12 (by omega)⟩
  have lnX8:nX8.length=nX7.length-1:=by rw [enX8];simp only [List.length_take];omega
  clear fW
  refine Uf 0 [] rfl (Go'.fall func97 results97 (vs:=[]) trivial ?_)
  have hX:nX5=X.take i++X.drop (i+1):=by
   rw [enX5,lnX4,lnX3,enX4,lnX3,enX3]
   exact Pl.cut_at X _ i hxl
  have hO:nX8=os.take (i+1)++os.drop (i+1+1):=by
   rw [enX8,lnX7,lnX6,enX7,lnX6,enX6]
   exact Pl.cut_at os _ (i+1) (by omega)
  have hLX:lX2=Xl++x::Xr:=by rw [elX2,elX1,List.append_assoc];rfl
  rw [hLX] at hl
  rw [hX,hO] at hn
  exact ⟨rfl,hF,(⟨np,niso,ncnt,nib,nio,nic,ncb,nkb,nko,nkc⟩:Ng),(⟨lp,liso,lcnt_6,lib_5,lio_5,lic_5,lcb,lkb,lko,lkc⟩:Ng),rfl,rfl,rfl,sn,sl,dln,.inl ⟨hm,hn,⟨hl,hli,rfl⟩,elcnt_6⟩⟩
 ·
  refine Ud 16 268501056 (by kernel_rfl) (Ul 3 rfl (show cl _ lp 2=some (.slice (some ⟨lib,lio,none⟩) Xl.length lic) from hl.c2) (Ul 4 rfl (show cl _ rp 2=some (.slice (some ⟨rib,rio,none⟩) Xr.length ric) from hr.c2) (Ua 1 (((Xl.length+Xr.length:Nat):Int)) rfl (by omega) (Ul 3 rfl tc.mx' (Uc 0 rfl (lssF (by omega)) (Uf 0 [0,1,2,6,7,53] rfl (Go'.condF rfl (Ut 1 rfl ?_))))))))
  by_cases hgt:Xr.length<Xl.length
  ·
   refine Ud 11 65600 (by kernel_rfl) (Ul 3 rfl (show cl _ lp 2=some (.slice (some ⟨lib,lio,none⟩) Xl.length lic) from hl.c2) (Ul 4 rfl (show cl _ rp 2=some (.slice (some ⟨rib,rio,none⟩) Xr.length ric) from hr.c2) (Uc 1 rfl (gtrT (by omega)) (Uf 0 [0,1,2,6,7,222] rfl (Go'.condT rfl (Ut 1 rfl ?_))))))
   obtain ⟨y,hy⟩:∃y,Xl[Xl.length-1]?=some y:=⟨Xl[Xl.length-1]'(by omega),List.getElem?_eq_getElem (by omega)⟩
   refine UD (fun H'=>cl H' rp 2=some (.slice (some ⟨rib,rio,none⟩) Xr.length ric)) 14 204013568 (by kernel_rfl) ((show cl _ rp 2=some (.slice (some ⟨rib,rio,none⟩) Xr.length ric) from hr.c2)) (UL 4 rfl (fun _ h=>h) (Us 3 rfl tc.emp rfl (O.bsl (cs:=(EJ.enc ((0:Int),(0:Int)))) rfl rfl rfl ⟨underlying25,sizeOf27,zeroValue27,⟨_,typeInfo27,rfl⟩,rfl,by decide,by decide⟩ rfl (by decide) (by kernel_rfl) ?_)))
   intro H13 MH13
   have fM:=MH13.fr nowhere
   replace hn:=hn.fr fM (fun _ _ _=>nw)
   replace hl:=NodeM.fr EJ hl fM (fun _ _ _=>nw)
   replace hr:=NodeM.fr EJ hr fM (fun _ _ _=>nw)
   replace tc:=tc.fr fM (fun _ _ _ _=>nw)
   replace hF:=hF.trans' fM (fun _ _ _ h=>h) (fun _ _ _ h=>h.elim)
   have mH13:Rd H13 H.size 0 (EJ.enc ((0:Int),(0:Int))):=MH13.rd _ [] (by simp)
   refine ⟨(show cl _ rp 2=some (.slice (some ⟨rib,rio,none⟩) Xr.length ric) from hr.c2),?_⟩
   refine O.app (m:=1) (news:=(EJ.enc ((0:Int),(0:Int)))) rfl rfl rfl ⟨underlying25,sizeOf27,zeroValue27,⟨_,typeInfo27,rfl⟩,rfl,by decide,by decide⟩ rfl hr.sl rfl (.inl ⟨_,_,_,rfl,mH13⟩) rfl rfl (Nat.le_trans (Nat.mul_le_mul_left _ (Nat.le_of_ble_eq_true (n:=_) (m:=4096) rfl)) (by omega)) (by omega) ?_
   intro rib_15 rio_15 ric_15 H14 haH14
   have fA:Fr (ncl EJ (⟨rp,riso,rcnt,rib,rio,ric,rcb,rkb,rko,rkc⟩:Ng)) H13 H14:=(haH14.in_node hr)
   have gg:Gro H13 (ncl EJ (⟨rp,riso,rcnt,rib,rio,ric,rcb,rkb,rko,rkc⟩:Ng)) (ncl EJ (⟨rp,riso,rcnt,rib_15,rio_15,ric_15,rcb,rkb,rko,rkc⟩:Ng)):=haH14.gro
   have hF0:=hF
   have h0:=hr
   have lon:=hn.lt'
   have lol:=hl.lt'
   replace hr:=hr.appd haH14
   replace hn:=hn.fr fA (drn.symm)
   replace hl:=NodeM.fr EJ hl fA (dlr)
   replace tc:=tc.fr fA (fun b o hb _ hz=>trr b o hz hb.1)
   replace hF:=Fr.tot hF fA sr (fun _ _ h=>.inr (.inr h))
   refine ⟨(show cl _ rp 2=some (.slice (some ⟨rib,rio,none⟩) Xr.length ric) from hr.c2),?_⟩
   refine Uq 2 rfl (O.st3 rfl rfl sizeOf25 rfl rfl rfl rfl rfl (hr.wr.at0 2 1 (by omega)) ?_)
   intro H15 WH15
   have hf3:NodeM EJ H15 (⟨rp,riso,rcnt,rib_15,rio_15,ric_15,rcb,rkb,rko,rkc⟩:Ng) (Xr++[((0:Int),(0:Int))]) (.pointer none):=h0.push haH14 WH15
   have fH:Fr (ncl EJ (⟨rp,riso,rcnt,rib_15,rio_15,ric_15,rcb,rkb,rko,rkc⟩:Ng)) H14 H15:=(Wrote.fHdr (E:=EJ) (g:=(⟨rp,riso,rcnt,rib_15,rio_15,ric_15,rcb,rkb,rko,rkc⟩:Ng)) WH15 (by omega))
   replace drn:=(Gro.off gg drn.symm lon).symm
   replace dlr:=Gro.off gg dlr lol
   replace trr:=Gro.offD gg trr (fun b h=>Nat.lt_of_lt_of_le (hD b h) hF0.size)
   replace sr:=Gro.tr sr hF0.size gg
   replace hn:=hn.fr fH (drn.symm)
   replace hl:=NodeM.fr EJ hl fH (dlr)
   replace tc:=tc.fr fH (fun b o hb _ hz=>trr b o hz hb.1)
   replace hF:=Fr.tot hF fH sr (fun _ _ h=>.inr (.inr h))
   clear h0 hr
   obtain ⟨rX9,erX9,hr⟩:∃X1,X1=Xr++[((0:Int),(0:Int))]∧NodeM EJ H15 (⟨rp,riso,rcnt,rib_15,rio_15,ric_15,rcb,rkb,rko,rkc⟩:Ng) (X1) (.pointer none):=⟨_,rfl,hf3⟩
   have lrX9:rX9.length=Xr.length+1:=by rw [erX9,List.length_append];rfl
   have crX9:rX9.length≤ric_15:=hr.sl.hle
   clear hf3 fA fH gg hF0 haH14 WH15 fM MH13 mH13
   clear lon
   clear lol
   refine Uf 0 [0,1,2,6,7] rfl (Ut 1 rfl ?_)
   have hxc:(Xr.drop 0).length=Xr.length:=by rw [List.length_drop];rfl
   have hsr:Rd H15 rib_15 rio_15 (row EJ (Xr.drop 0)):=by
    have h9:=hr.sl
    rw [erX9] at h9
    have h8:=h9.tail (i:=0) (Nat.zero_le _)
    rw [Nat.zero_mul,Nat.add_zero] at h8
    exact h8
   refine Ud 10 589888 (by kernel_rfl) (Ul 3 rfl (show cl _ rp 2=some (.slice (some ⟨rib_15,rio_15,none⟩) rX9.length ric_15) from hr.c2) (O.slc (jl:=0+1) (jh:=rX9.length) (jm:=ric_15) rfl rfl rfl rfl underlying25 sizeOf27 rfl rfl rfl ⟨_,by rfl⟩ (by omega) (by omega) (by simp) (by simp) ?_))
   intro od hod
   refine Ul 3 rfl (show cl _ rp 2=some (.slice (some ⟨rib_15,rio_15,none⟩) rX9.length ric_15) from hr.c2) (O.copy (b:=rib_15) (o:=(rio_15+(0+1)*2)) (j:=(Xr.length)) (cs:=(row EJ (Xr.drop 0))) rfl rfl rfl ⟨underlying25,sizeOf27,zeroValue27,⟨_,typeInfo27,rfl⟩,rfl,by decide,by decide⟩ rfl rfl (show _=min _ _ by omega) ((Nat.lt_or_ge (0+1) ric_15).elim (fun h=>.inl (by rw [hod h])) (fun h=>.inr (by omega))) (.inl ⟨_,_,_,rfl,hsr⟩) (by rw [row_len];first|rfl|(congr 1;simp only [List.length_drop];try omega)) (row_ones EJ _) (hr.sl.wrm (i:=0+1) (m:=Xr.length) (by omega)) ?_)
   intro H16 WH16
   have hyl:(Xr.drop 0).length=Xr.length:=by simp only [List.length_drop];try omega
   have fW:Fr (ncl EJ (⟨rp,riso,rcnt,rib_15,rio_15,ric_15,rcb,rkb,rko,rkc⟩:Ng)) H15 H16:=(NodeM.fCpy hr (i:=0+1) (Y:=Xr.drop 0) WH16 (by omega))
   replace hn:=hn.fr fW (drn.symm)
   replace hl:=NodeM.fr EJ hl fW (dlr)
   replace tc:=tc.fr fW (fun b o hb _ hz=>trr b o hz hb.1)
   replace hF:=Fr.tot hF fW sr (fun _ _ h=>.inr (.inr h))
   obtain ⟨rX10,erX10,hr⟩:∃X1,X1=rX9.take (0+1)++Xr.drop 0++rX9.drop (0+1+(Xr.drop 0).length)∧NodeM EJ H16 (⟨rp,riso,rcnt,rib_15,rio_15,ric_15,rcb,rkb,rko,rkc⟩:Ng) (X1) (.pointer none):=⟨_,rfl,hr.cpy (i:=0+1) (Y:=Xr.drop 0) WH16 (by omega)⟩
   have lrX10:rX10.length=rX9.length:=by rw [erX10];simp only [List.length_append,List.length_take,List.length_drop];omega
   clear fW
   clear hyl
   refine ⟨trivial,?_⟩
   refine Uf 0 [0,1,2,6,7] rfl (Ut 1 rfl (Ud 13 51396672 (by kernel_rfl) (Ul 3 rfl (show cl _ rp 2=some (.slice (some ⟨rib_15,rio_15,none⟩) rX10.length ric_15) from hr.c2) (Ul 3 rfl (show cl _ np 2=some (.slice (some ⟨nib,nio,none⟩) X.length nic) from hn.n.c2) (Ux 1 i rfl (by omega) (by omega) (Us 0 rfl (hn.n.sl.item hx) rfl (Ux 0 0 rfl rfl (by omega) (O.st3 rfl rfl sizeOf27 rfl rfl rfl rfl rfl (hr.sl.wri (i:=0) (by omega)) ?_))))))))
   intro H17 WH17
   have fW:Fr (ncl EJ (⟨rp,riso,rcnt,rib_15,rio_15,ric_15,rcb,rkb,rko,rkc⟩:Ng)) H16 H17:=(NodeM.fSet hr (i:=0) (x:=x) WH17 (by omega))
   replace hn:=hn.fr fW (drn.symm)
   replace hl:=NodeM.fr EJ hl fW (dlr)
   replace tc:=tc.fr fW (fun b o hb _ hz=>trr b o hz hb.1)
   replace hF:=Fr.tot hF fW sr (fun _ _ h=>.inr (.inr h))
   obtain ⟨rX11,erX11,hr⟩:∃X1,X1=rX10.take (0)++x::rX10.drop (0+1)∧NodeM EJ H17 (⟨rp,riso,rcnt,rib_15,rio_15,ric_15,rcb,rkb,rko,rkc⟩:Ng) (X1) (.pointer none):=⟨_,rfl,hr.set (i:=0) (x:=x) WH17 (by omega)⟩
   have lrX11:rX11.length=rX10.length:=by rw [erX11];simp only [List.length_append,List.length_take,List.length_cons,List.length_drop];omega
   clear fW
   refine Uf 0 [0,1,2,6,7] rfl (Ut 1 rfl (Ur 8 32832 rfl (Ul 3 rfl (show cl _ rp 1=some (.int .i64 (rcnt:Int)) from hr.c1) (Ua 0 (((rcnt+1:Nat):Int)) rfl (by omega) (Uq 2 rfl (O.st rfl rfl sizeOf3 rfl rfl rfl rfl rfl (hr.wr.at0 1 1 (by omega)) ?_))))))
   intro H18 WH18
   have fW:Fr (ncl EJ (⟨rp,riso,rcnt,rib_15,rio_15,ric_15,rcb,rkb,rko,rkc⟩:Ng)) H17 H18:=(Wrote.fHdr (E:=EJ) (g:=(⟨rp,riso,rcnt,rib_15,rio_15,ric_15,rcb,rkb,rko,rkc⟩:Ng)) WH18 (by omega))
   replace hn:=hn.fr fW (drn.symm)
   replace hl:=NodeM.fr EJ hl fW (dlr)
   replace tc:=tc.fr fW (fun b o hb _ hz=>trr b o hz hb.1)
   replace hF:=Fr.tot hF fW sr (fun _ _ h=>.inr (.inr h))
   obtain ⟨rcnt_18,ercnt_18⟩:∃z,z=rcnt+1:=⟨_,rfl⟩
   rw [←ercnt_18] at WH18
   replace hr:NodeM EJ H18 (⟨rp,riso,rcnt_18,rib_15,rio_15,ric_15,rcb,rkb,rko,rkc⟩:Ng) (rX11) (.pointer none):=hr.count WH18
   clear fW
   refine ⟨trivial,?_⟩
   refine Uf 0 [0,1,2,6,7] rfl (Ut 1 rfl (Ud 19 210470240320 (by kernel_rfl) (Ul 3 rfl (show cl _ np 2=some (.slice (some ⟨nib,nio,none⟩) X.length nic) from hn.n.c2) (Ul 4 rfl (show cl _ lp 2=some (.slice (some ⟨lib,lio,none⟩) Xl.length lic) from hl.c2) (Ul 3 rfl (show cl _ lp 2=some (.slice (some ⟨lib,lio,none⟩) Xl.length lic) from hl.c2) (Ub 1 (((Xl.length-1:Nat):Int)) rfl (by omega) (Ux 0 (Xl.length-1) rfl (by omega) (by omega) (Us 0 rfl (hl.sl.item hy) rfl (Ux 0 i rfl (by omega) (by omega) (O.st3 rfl rfl sizeOf27 rfl rfl rfl rfl rfl (hn.n.sl.wri (i:=i) (by omega)) ?_))))))))))
   intro H19 WH19
   have fW:Fr (rn EJ (⟨np,niso,ncnt,nib,nio,nic,ncb,nkb,nko,nkc⟩:Ng)) H18 H19:=(NodeM.fSet hn.n (i:=i) (x:=y) WH19 (by omega)).inN
   replace hl:=NodeM.fr EJ hl fW (dln)
   replace hr:=NodeM.fr EJ hr fW (drn)
   replace tc:=tc.fr fW (fun b o hb _ hz=>tn b o hz hb.1)
   replace hF:=Fr.tot hF fW sn (fun _ _ h=>.inl h)
   obtain ⟨nX12,enX12,hn⟩:∃X1,X1=X.take (i)++y::X.drop (i+1)∧Rn EJ H19 P (⟨np,niso,ncnt,nib,nio,nic,ncb,nkb,nko,nkc⟩:Ng) (X1) (os):=⟨_,rfl,hn.set (i:=i) (x:=y) WH19 (by omega)⟩
   have lnX12:nX12.length=X.length:=by rw [enX12];simp only [List.length_append,List.length_take,List.length_cons,List.length_drop];omega
   clear fW
   refine Uf 0 [0,6,7] rfl (Ut 1 rfl (Ud 16 3288350784 (by kernel_rfl) (Ul 3 rfl (show cl _ lp 2=some (.slice (some ⟨lib,lio,none⟩) Xl.length lic) from hl.c2) (Ul 3 rfl (show cl _ lp 2=some (.slice (some ⟨lib,lio,none⟩) Xl.length lic) from hl.c2) (Ub 1 (((Xl.length-1:Nat):Int)) rfl (by omega) (Us 3 rfl tc.emp rfl (Ux 0 (Xl.length-1) rfl (by omega) (by omega) (O.st3 rfl rfl sizeOf27 rfl rfl rfl rfl rfl (hl.sl.wri (i:=Xl.length-1) (by omega)) ?_))))))))
   intro H20 WH20
   have fW:Fr (ncl EJ (⟨lp,liso,lcnt,lib,lio,lic,lcb,lkb,lko,lkc⟩:Ng)) H19 H20:=(NodeM.fSet hl (i:=Xl.length-1) (x:=((0:Int),(0:Int))) WH20 (by omega))
   replace hn:=hn.fr fW (dln.symm)
   replace hr:=NodeM.fr EJ hr fW (dlr.symm)
   replace tc:=tc.fr fW (fun b o hb _ hz=>tl b o hz hb.1)
   replace hF:=Fr.tot hF fW sl (fun _ _ h=>.inr (.inl h))
   obtain ⟨lX13,elX13,hl⟩:∃X1,X1=Xl.take (Xl.length-1)++((0:Int),(0:Int))::Xl.drop (Xl.length-1+1)∧NodeM EJ H20 (⟨lp,liso,lcnt,lib,lio,lic,lcb,lkb,lko,lkc⟩:Ng) (X1) (.pointer none):=⟨_,rfl,hl.set (i:=Xl.length-1) (x:=((0:Int),(0:Int))) WH20 (by omega)⟩
   have llX13:lX13.length=Xl.length:=by rw [elX13];simp only [List.length_append,List.length_take,List.length_cons,List.length_drop];omega
   clear fW
   refine Uf 0 [6,7] rfl (Ut 1 rfl (Ud 15 805372160 (by kernel_rfl) (Ul 4 rfl (show cl _ lp 2=some (.slice (some ⟨lib,lio,none⟩) lX13.length lic) from hl.c2) (Ul 3 rfl (show cl _ lp 2=some (.slice (some ⟨lib,lio,none⟩) lX13.length lic) from hl.c2) (Ub 1 (((lX13.length-1:Nat):Int)) rfl (by omega) (O.slc (jl:=0) (jh:=lX13.length-1) (jm:=lic) rfl rfl rfl rfl underlying25 sizeOf27 rfl rfl ⟨_,by rfl⟩ rfl (by omega) (by omega) (by simp) (by simp) ?_))))))
   intro oc hoc
   have hoc2:lio=oc:=by rw [hoc (by omega)];simp
   subst hoc2
   rw [Nat.sub_zero]
   refine Uq 2 rfl (O.st3 rfl rfl sizeOf25 rfl rfl rfl rfl rfl (hl.wr.at0 2 1 (by omega)) ?_)
   intro H21 WH21
   have fW:Fr (ncl EJ (⟨lp,liso,lcnt,lib,lio,lic,lcb,lkb,lko,lkc⟩:Ng)) H20 H21:=(Wrote.fHdr (E:=EJ) (g:=(⟨lp,liso,lcnt,lib,lio,lic,lcb,lkb,lko,lkc⟩:Ng)) WH21 (by omega))
   replace hn:=hn.fr fW (dln.symm)
   replace hr:=NodeM.fr EJ hr fW (dlr.symm)
   replace tc:=tc.fr fW (fun b o hb _ hz=>tl b o hz hb.1)
   replace hF:=Fr.tot hF fW sl (fun _ _ h=>.inr (.inl h))
   obtain ⟨lX14,elX14,hl⟩:∃X1,X1=lX13.take (lX13.length-1)∧NodeM EJ H21 (⟨lp,liso,lcnt,lib,lio,lic,lcb,lkb,lko,lkc⟩:Ng) (X1) (.pointer none):=⟨_,rfl,hl.cut WH21 (by omega)⟩
   have llX14:lX14.length=lX13.length-1:=by rw [elX14];simp only [List.length_take];omega
   clear fW
   refine Uf 0 [6,7] rfl (Ut 1 rfl (Ur 8 32832 rfl (Ul 3 rfl (show cl _ lp 1=some (.int .i64 (lcnt:Int)) from hl.c1) (Ub 0 (((lcnt-1:Nat):Int)) rfl (by omega) (Uq 2 rfl (O.st rfl rfl sizeOf3 rfl rfl rfl rfl rfl (hl.wr.at0 1 1 (by omega)) ?_))))))
   intro H22 WH22
   have fW:Fr (ncl EJ (⟨lp,liso,lcnt,lib,lio,lic,lcb,lkb,lko,lkc⟩:Ng)) H21 H22:=(Wrote.fHdr (E:=EJ) (g:=(⟨lp,liso,lcnt,lib,lio,lic,lcb,lkb,lko,lkc⟩:Ng)) WH22 (by omega))
   replace hn:=hn.fr fW (dln.symm)
   replace hr:=NodeM.fr EJ hr fW (dlr.symm)
   replace tc:=tc.fr fW (fun b o hb _ hz=>tl b o hz hb.1)
   replace hF:=Fr.tot hF fW sl (fun _ _ h=>.inr (.inl h))
   obtain ⟨lcnt_22,elcnt_22⟩:∃z,z=lcnt-1:=⟨_,rfl⟩
   rw [←elcnt_22] at WH22
   replace hl:NodeM EJ H22 (⟨lp,liso,lcnt_22,lib,lio,lic,lcb,lkb,lko,lkc⟩:Ng) (lX14) (.pointer none):=hl.count WH22
   clear fW
   refine ⟨trivial,?_⟩
   refine Uf 0 [6,7] rfl (Ut 1 rfl (Ur 3 8 rfl (Uq 1 rfl (O.callQ rfl rfl rfl call62 rfl (leaf_spec hl.c3) trivial (Uf 1 [6,7,321] rfl (Go'.condF rfl (Ut 1 rfl (Go'.fall func97 results97 (vs:=[]) trivial ?_))))))))
   rw [enX12] at hn
   have hAX:lX14=Xl.take (Xl.length-1):=by
    rw [elX14,llX13,elX13]
    exact Pl.cutoff_last Xl _ (by omega)
   have hCX:rX11=x::Xr:=by
    rw [erX11,erX10,erX9]
    exact Pl.ins_list Xr _ (x) 0 (Nat.zero_le _)
   have hspX:=Pl.last_split hy
   have hallX:lX14++y::rX11=Xl++x::Xr:=by
    rw [hAX,hCX]
    conv=>rhs;rw [hspX]
    simp
   exact ⟨rfl,hF,(⟨np,niso,ncnt,nib,nio,nic,ncb,nkb,nko,nkc⟩:Ng),(⟨lp,liso,lcnt_22,lib,lio,lic,lcb,lkb,lko,lkc⟩:Ng),rfl,rfl,rfl,sn,sl,dln,.inr ⟨(⟨rp,riso,rcnt_18,rib_15,rio_15,ric_15,rcb,rkb,rko,rkc⟩:Ng),lX14,rX11,[],[],y,rfl,sr,drn,dlr,hn,⟨hl,hli,rfl⟩,⟨hr,hri,rfl⟩,(show lcnt_22=_ by simp only [List.map_nil,List.sum_nil];omega),(show rcnt_18=_ by simp only [List.map_nil,List.sum_nil];omega),hallX,rfl,by omega,by omega,by omega,by omega,(fun h=>by cases h)⟩⟩
  ·
   refine Ud 11 65600 (by kernel_rfl) (Ul 3 rfl (show cl _ lp 2=some (.slice (some ⟨lib,lio,none⟩) Xl.length lic) from hl.c2) (Ul 4 rfl (show cl _ rp 2=some (.slice (some ⟨rib,rio,none⟩) Xr.length ric) from hr.c2) (Uc 1 rfl (gtrF (by omega)) (Uf 0 [0,1,2,6,7,222] rfl (Go'.condF rfl (Ut 1 rfl ?_))))))
   obtain ⟨y,hy⟩:∃y,Xr[0]?=some y:=⟨Xr[0]'(by omega),List.getElem?_eq_getElem (by omega)⟩
   refine UD (fun H'=>cl H' lp 2=some (.slice (some ⟨lib,lio,none⟩) Xl.length lic)) 17 13056933888 (by kernel_rfl) ((show cl _ lp 2=some (.slice (some ⟨lib,lio,none⟩) Xl.length lic) from hl.c2)) (UL 4 rfl (fun _ h=>h) (Ul 3 rfl (show cl _ np 2=some (.slice (some ⟨nib,nio,none⟩) X.length nic) from hn.n.c2) (Ux 1 i rfl (by omega) (by omega) (Us 0 rfl (hn.n.sl.item hx) rfl (O.bsl (cs:=(EJ.enc x)) rfl rfl rfl ⟨underlying25,sizeOf27,zeroValue27,⟨_,typeInfo27,rfl⟩,rfl,by decide,by decide⟩ rfl (by decide) (by kernel_rfl) ?_)))))
   intro H23 MH23
   have fM:=MH23.fr nowhere
   replace hn:=hn.fr fM (fun _ _ _=>nw)
   replace hl:=NodeM.fr EJ hl fM (fun _ _ _=>nw)
   replace hr:=NodeM.fr EJ hr fM (fun _ _ _=>nw)
   replace tc:=tc.fr fM (fun _ _ _ _=>nw)
   replace hF:=hF.trans' fM (fun _ _ _ h=>h) (fun _ _ _ h=>h.elim)
   have mH23:Rd H23 H.size 0 (EJ.enc x):=MH23.rd _ [] (by simp)
   refine ⟨(show cl _ lp 2=some (.slice (some ⟨lib,lio,none⟩) Xl.length lic) from hl.c2),?_⟩
   refine O.app (m:=1) (news:=(EJ.enc x)) rfl rfl rfl ⟨underlying25,sizeOf27,zeroValue27,⟨_,typeInfo27,rfl⟩,rfl,by decide,by decide⟩ rfl hl.sl rfl (.inl ⟨_,_,_,rfl,mH23⟩) rfl rfl (Nat.le_trans (Nat.mul_le_mul_left _ (Nat.le_of_ble_eq_true (n:=_) (m:=4096) rfl)) (by omega)) (by omega) ?_
   intro lib_25 lio_25 lic_25 H24 haH24
   have fA:Fr (ncl EJ (⟨lp,liso,lcnt,lib,lio,lic,lcb,lkb,lko,lkc⟩:Ng)) H23 H24:=(haH24.in_node hl)
   have gg:Gro H23 (ncl EJ (⟨lp,liso,lcnt,lib,lio,lic,lcb,lkb,lko,lkc⟩:Ng)) (ncl EJ (⟨lp,liso,lcnt,lib_25,lio_25,lic_25,lcb,lkb,lko,lkc⟩:Ng)):=haH24.gro
   have hF0:=hF
   have h0:=hl
   have lon:=hn.lt'
   have lor:=hr.lt'
   replace hl:=hl.appd haH24
   replace hn:=hn.fr fA (dln.symm)
   replace hr:=NodeM.fr EJ hr fA (dlr.symm)
   replace tc:=tc.fr fA (fun b o hb _ hz=>tl b o hz hb.1)
   replace hF:=Fr.tot hF fA sl (fun _ _ h=>.inr (.inl h))
   refine ⟨(show cl _ lp 2=some (.slice (some ⟨lib,lio,none⟩) Xl.length lic) from hl.c2),?_⟩
   refine Uq 2 rfl (O.st3 rfl rfl sizeOf25 rfl rfl rfl rfl rfl (hl.wr.at0 2 1 (by omega)) ?_)
   intro H25 WH25
   have hf3:NodeM EJ H25 (⟨lp,liso,lcnt,lib_25,lio_25,lic_25,lcb,lkb,lko,lkc⟩:Ng) (Xl++[x]) (.pointer none):=h0.push haH24 WH25
   have fH:Fr (ncl EJ (⟨lp,liso,lcnt,lib_25,lio_25,lic_25,lcb,lkb,lko,lkc⟩:Ng)) H24 H25:=(Wrote.fHdr (E:=EJ) (g:=(⟨lp,liso,lcnt,lib_25,lio_25,lic_25,lcb,lkb,lko,lkc⟩:Ng)) WH25 (by omega))
   replace dln:=(Gro.off gg dln.symm lon).symm
   replace dlr:=(Gro.off gg dlr.symm lor).symm
   replace tl:=Gro.offD gg tl (fun b h=>Nat.lt_of_lt_of_le (hD b h) hF0.size)
   replace sl:=Gro.tr sl hF0.size gg
   replace hn:=hn.fr fH (dln.symm)
   replace hr:=NodeM.fr EJ hr fH (dlr.symm)
   replace tc:=tc.fr fH (fun b o hb _ hz=>tl b o hz hb.1)
   replace hF:=Fr.tot hF fH sl (fun _ _ h=>.inr (.inl h))
   clear h0 hl
   obtain ⟨lX15,elX15,hl⟩:∃X1,X1=Xl++[x]∧NodeM EJ H25 (⟨lp,liso,lcnt,lib_25,lio_25,lic_25,lcb,lkb,lko,lkc⟩:Ng) (X1) (.pointer none):=⟨_,rfl,hf3⟩
   have llX15:lX15.length=Xl.length+1:=by rw [elX15,List.length_append];rfl
   have clX15:lX15.length≤lic_25:=hl.sl.hle
   clear hf3 fA fH gg hF0 haH24 WH25 fM MH23 mH23
   clear lon
   clear lor
   refine Uf 0 [0,1,2,6,7] rfl (Ut 1 rfl (Ur 8 32832 rfl (Ul 3 rfl (show cl _ lp 1=some (.int .i64 (lcnt:Int)) from hl.c1) (Ua 0 (((lcnt+1:Nat):Int)) rfl (by omega) (Uq 2 rfl (O.st rfl rfl sizeOf3 rfl rfl rfl rfl rfl (hl.wr.at0 1 1 (by omega)) ?_))))))
   intro H26 WH26
   have fW:Fr (ncl EJ (⟨lp,liso,lcnt,lib_25,lio_25,lic_25,lcb,lkb,lko,lkc⟩:Ng)) H25 H26:=(Wrote.fHdr (E:=EJ) (g:=(⟨lp,liso,lcnt,lib_25,lio_25,lic_25,lcb,lkb,lko,lkc⟩:Ng)) WH26 (by omega))
   replace hn:=hn.fr fW (dln.symm)
   replace hr:=NodeM.fr EJ hr fW (dlr.symm)
   replace tc:=tc.fr fW (fun b o hb _ hz=>tl b o hz hb.1)
   replace hF:=Fr.tot hF fW sl (fun _ _ h=>.inr (.inl h))
   obtain ⟨lcnt_26,elcnt_26⟩:∃z,z=lcnt+1:=⟨_,rfl⟩
   rw [←elcnt_26] at WH26
   replace hl:NodeM EJ H26 (⟨lp,liso,lcnt_26,lib_25,lio_25,lic_25,lcb,lkb,lko,lkc⟩:Ng) (lX15) (.pointer none):=hl.count WH26
   clear fW
   refine ⟨trivial,?_⟩
   refine Uf 0 [0,1,2,6,7] rfl (Ut 1 rfl (Ud 13 51445824 (by kernel_rfl) (Ul 3 rfl (show cl _ np 2=some (.slice (some ⟨nib,nio,none⟩) X.length nic) from hn.n.c2) (Ul 4 rfl (show cl _ rp 2=some (.slice (some ⟨rib,rio,none⟩) Xr.length ric) from hr.c2) (Ux 0 0 rfl rfl (by omega) (Us 0 rfl (hr.sl.item hy) rfl (Ux 0 i rfl (by omega) (by omega) (O.st3 rfl rfl sizeOf27 rfl rfl rfl rfl rfl (hn.n.sl.wri (i:=i) (by omega)) ?_))))))))
   intro H27 WH27
   have fW:Fr (rn EJ (⟨np,niso,ncnt,nib,nio,nic,ncb,nkb,nko,nkc⟩:Ng)) H26 H27:=(NodeM.fSet hn.n (i:=i) (x:=y) WH27 (by omega)).inN
   replace hl:=NodeM.fr EJ hl fW (dln)
   replace hr:=NodeM.fr EJ hr fW (drn)
   replace tc:=tc.fr fW (fun b o hb _ hz=>tn b o hz hb.1)
   replace hF:=Fr.tot hF fW sn (fun _ _ h=>.inl h)
   obtain ⟨nX16,enX16,hn⟩:∃X1,X1=X.take (i)++y::X.drop (i+1)∧Rn EJ H27 P (⟨np,niso,ncnt,nib,nio,nic,ncb,nkb,nko,nkc⟩:Ng) (X1) (os):=⟨_,rfl,hn.set (i:=i) (x:=y) WH27 (by omega)⟩
   have lnX16:nX16.length=X.length:=by rw [enX16];simp only [List.length_append,List.length_take,List.length_cons,List.length_drop];omega
   clear fW
   refine Uf 0 [0,6,7] rfl (Ut 1 rfl (Ud 10 540736 (by kernel_rfl) (Ul 3 rfl (show cl _ rp 2=some (.slice (some ⟨rib,rio,none⟩) Xr.length ric) from hr.c2) (Ul 3 rfl (show cl _ rp 2=some (.slice (some ⟨rib,rio,none⟩) Xr.length ric) from hr.c2) (O.slc (jl:=0+1) (jh:=Xr.length) (jm:=ric) rfl rfl rfl rfl underlying25 sizeOf27 rfl rfl rfl ⟨_,by rfl⟩ (by omega) (by omega) (by simp) (by simp) ?_)))))
   intro os2 hos2
   refine O.copy (b:=rib) (o:=(rio+0*2)) (j:=(Xr.length-(0+1))) (cs:=(row EJ (Xr.drop (0+1)))) rfl rfl rfl ⟨underlying25,sizeOf27,zeroValue27,⟨_,typeInfo27,rfl⟩,rfl,by decide,by decide⟩ rfl rfl (show _=min _ _ by omega) (.inl (by rw [Nat.zero_mul,Nat.add_zero])) (.inl ⟨_,_,_,rfl,hr.sl.rdDrop (i:=0+1) hos2 (by omega)⟩) (by rw [row_len];first|rfl|(congr 1;simp only [List.length_drop];try omega)) (row_ones EJ _) (hr.sl.wrm (i:=0) (m:=Xr.length-(0+1)) (by omega)) ?_
   intro H28 WH28
   have hyl:(Xr.drop (0+1)).length=Xr.length-(0+1):=by simp only [List.length_drop];try omega
   have fW:Fr (ncl EJ (⟨rp,riso,rcnt,rib,rio,ric,rcb,rkb,rko,rkc⟩:Ng)) H27 H28:=(NodeM.fCpy hr (i:=0) (Y:=Xr.drop (0+1)) WH28 (by omega))
   replace hn:=hn.fr fW (drn.symm)
   replace hl:=NodeM.fr EJ hl fW (dlr)
   replace tc:=tc.fr fW (fun b o hb _ hz=>trr b o hz hb.1)
   replace hF:=Fr.tot hF fW sr (fun _ _ h=>.inr (.inr h))
   obtain ⟨rX17,erX17,hr⟩:∃X1,X1=Xr.take (0)++Xr.drop (0+1)++Xr.drop (0+(Xr.drop (0+1)).length)∧NodeM EJ H28 (⟨rp,riso,rcnt,rib,rio,ric,rcb,rkb,rko,rkc⟩:Ng) (X1) (.pointer none):=⟨_,rfl,hr.cpy (i:=0) (Y:=Xr.drop (0+1)) WH28 (by omega)⟩
   have lrX17:rX17.length=Xr.length:=by rw [erX17];simp only [List.length_append,List.length_take,List.length_drop];omega
   clear fW
   clear hyl
   refine ⟨trivial,?_⟩
   refine Uf 0 [0,6,7] rfl (Ut 1 rfl (Ud 16 3288350784 (by kernel_rfl) (Ul 3 rfl (show cl _ rp 2=some (.slice (some ⟨rib,rio,none⟩) rX17.length ric) from hr.c2) (Ul 3 rfl (show cl _ rp 2=some (.slice (some ⟨rib,rio,none⟩) rX17.length ric) from hr.c2) (Ub 1 (((rX17.length-1:Nat):Int)) rfl (by omega) (Us 3 rfl tc.emp rfl (Ux 0 (rX17.length-1) rfl (by omega) (by omega) (O.st3 rfl rfl sizeOf27 rfl rfl rfl rfl rfl (hr.sl.wri (i:=rX17.length-1) (by omega)) ?_))))))))
   intro H29 WH29
   have fW:Fr (ncl EJ (⟨rp,riso,rcnt,rib,rio,ric,rcb,rkb,rko,rkc⟩:Ng)) H28 H29:=(NodeM.fSet hr (i:=rX17.length-1) (x:=((0:Int),(0:Int))) WH29 (by omega))
   replace hn:=hn.fr fW (drn.symm)
   replace hl:=NodeM.fr EJ hl fW (dlr)
   replace tc:=tc.fr fW (fun b o hb _ hz=>trr b o hz hb.1)
   replace hF:=Fr.tot hF fW sr (fun _ _ h=>.inr (.inr h))
   obtain ⟨rX18,erX18,hr⟩:∃X1,X1=rX17.take (rX17.length-1)++((0:Int),(0:Int))::rX17.drop (rX17.length-1+1)∧NodeM EJ H29 (⟨rp,riso,rcnt,rib,rio,ric,rcb,rkb,rko,rkc⟩:Ng) (X1) (.pointer none):=⟨_,rfl,hr.set (i:=rX17.length-1) (x:=((0:Int),(0:Int))) WH29 (by omega)⟩
   have lrX18:rX18.length=rX17.length:=by rw [erX18];simp only [List.length_append,List.length_take,List.length_cons,List.length_drop];omega
   clear fW
   refine Uf 0 [6,7] rfl (Ut 1 rfl (Ud 15 805372160 (by kernel_rfl) (Ul 4 rfl (show cl _ rp 2=some (.slice (some ⟨rib,rio,none⟩) rX18.length ric) from hr.c2) (Ul 3 rfl (show cl _ rp 2=some (.slice (some ⟨rib,rio,none⟩) rX18.length ric) from hr.c2) (Ub 1 (((rX18.length-1:Nat):Int)) rfl (by omega) (O.slc (jl:=0) (jh:=rX18.length-1) (jm:=ric) rfl rfl rfl rfl underlying25 sizeOf27 rfl rfl ⟨_,by rfl⟩ rfl (by omega) (by omega) (by simp) (by simp) ?_))))))
   intro oc hoc
   have hoc2:rio=oc:=by rw [hoc (by omega)];simp
   subst hoc2
   rw [Nat.sub_zero]
   refine Uq 2 rfl (O.st3 rfl rfl sizeOf25 rfl rfl rfl rfl rfl (hr.wr.at0 2 1 (by omega)) ?_)
   intro H30 WH30
   have fW:Fr (ncl EJ (⟨rp,riso,rcnt,rib,rio,ric,rcb,rkb,rko,rkc⟩:Ng)) H29 H30:=(Wrote.fHdr (E:=EJ) (g:=(⟨rp,riso,rcnt,rib,rio,ric,rcb,rkb,rko,rkc⟩:Ng)) WH30 (by omega))
   replace hn:=hn.fr fW (drn.symm)
   replace hl:=NodeM.fr EJ hl fW (dlr)
   replace tc:=tc.fr fW (fun b o hb _ hz=>trr b o hz hb.1)
   replace hF:=Fr.tot hF fW sr (fun _ _ h=>.inr (.inr h))
   obtain ⟨rX19,erX19,hr⟩:∃X1,X1=rX18.take (rX18.length-1)∧NodeM EJ H30 (⟨rp,riso,rcnt,rib,rio,ric,rcb,rkb,rko,rkc⟩:Ng) (X1) (.pointer none):=⟨_,rfl,hr.cut WH30 (by omega)⟩
   have lrX19:rX19.length=rX18.length-1:=by rw [erX19];simp only [List.length_take];omega
   clear fW
   refine Uf 0 [6,7] rfl (Ut 1 rfl (Ur 8 32832 rfl (Ul 3 rfl (show cl _ rp 1=some (.int .i64 (rcnt:Int)) from hr.c1) (Ub 0 (((rcnt-1:Nat):Int)) rfl (by omega) (Uq 2 rfl (O.st rfl rfl sizeOf3 rfl rfl rfl rfl rfl (hr.wr.at0 1 1 (by omega)) ?_))))))
   intro H31 WH31
   have fW:Fr (ncl EJ (⟨rp,riso,rcnt,rib,rio,ric,rcb,rkb,rko,rkc⟩:Ng)) H30 H31:=(Wrote.fHdr (E:=EJ) (g:=(⟨rp,riso,rcnt,rib,rio,ric,rcb,rkb,rko,rkc⟩:Ng)) WH31 (by omega))
   replace hn:=hn.fr fW (drn.symm)
   replace hl:=NodeM.fr EJ hl fW (dlr)
   replace tc:=tc.fr fW (fun b o hb _ hz=>trr b o hz hb.1)
   replace hF:=Fr.tot hF fW sr (fun _ _ h=>.inr (.inr h))
   obtain ⟨rcnt_31,ercnt_31⟩:∃z,z=rcnt-1:=⟨_,rfl⟩
   rw [←ercnt_31] at WH31
   replace hr:NodeM EJ H31 (⟨rp,riso,rcnt_31,rib,rio,ric,rcb,rkb,rko,rkc⟩:Ng) (rX19) (.pointer none):=hr.count WH31
   clear fW
   refine ⟨trivial,?_⟩
   refine Uf 0 [6,7] rfl (Ut 1 rfl (Ur 3 8 rfl (Uq 1 rfl (O.callQ rfl rfl rfl call62 rfl (leaf_spec hl.c3) trivial (Uf 1 [6,7,526] rfl (Go'.condF rfl (Ut 1 rfl (Go'.fall func97 results97 (vs:=[]) trivial ?_))))))))
   rw [enX16] at hn
   have hAX:rX19=Xr.drop (0+1):=by
    rw [erX19,lrX18,lrX17,erX18,lrX17,erX17]
    exact Pl.cut_at Xr _ 0 (by omega)
   have hCX:lX15=Xl++[x]:=elX15
   have hspX:=Pl.head_split hy
   have hallX:lX15++y::rX19=Xl++x::Xr:=by
    rw [hAX,hCX]
    conv=>rhs;rw [hspX]
    simp
   exact ⟨rfl,hF,(⟨np,niso,ncnt,nib,nio,nic,ncb,nkb,nko,nkc⟩:Ng),(⟨lp,liso,lcnt_26,lib_25,lio_25,lic_25,lcb,lkb,lko,lkc⟩:Ng),rfl,rfl,rfl,sn,sl,dln,.inr ⟨(⟨rp,riso,rcnt_31,rib,rio,ric,rcb,rkb,rko,rkc⟩:Ng),lX15,rX19,[],[],y,rfl,sr,drn,dlr,hn,⟨hl,hli,rfl⟩,⟨hr,hri,rfl⟩,(show lcnt_26=_ by simp only [List.map_nil,List.sum_nil];omega),(show rcnt_31=_ by simp only [List.map_nil,List.sum_nil];omega),hallX,rfl,by omega,by omega,by omega,by omega,(fun h=>by cases h)⟩⟩
theorem rebalI_spec {B:World} {H:Mem} {tr:Nat} {P:Ps} (hP:PsOk P) (tc:TrC H tr P.iso P.mx P.mn) {cn:Nat→Nat} {i i0:Nat} {g gl gr:Ng} {X Xl Xr:List (Int×Int)} {os osl osr:List (Option Nat)} {x:Int×Int}
  (hin:RebIn EJ H P (fun b=>b<cx.base) false cn i g gl gr X Xl Xr os osl osr x) (hi0:i0=i∨(i0=i+1∧i0=X.length)) (hi1:i0=X.length→i0=i+1):
  Fn Try.prog B 97 [.pointer (some ⟨tr,0,none⟩),.pointer (some ⟨g.p,0,none⟩),.int .i64 (i0:Int)] H (fun v H'=>v=resVal []∧RebOut EJ H H' P false cn i g gl gr X Xl Xr os osl osr x):=by
 obtain ⟨np,niso,ncnt,nib,nio,nic,ncb,nkb,nko,nkc⟩:=g
 obtain ⟨lp,liso,lcnt,lib,lio,lic,lcb,lkb,lko,lkc⟩:=gl
 obtain ⟨rp,riso,rcnt,rib,rio,ric,rcb,rkb,rko,rkc⟩:=gr
 obtain ⟨hn,hl,hr,dln,drn,dlr,tn,tl,trr,hD,hx,hpl,hpr,hlen,hxm,hlm,hrm,hkl,hkr,hcl,hcr,hcq,hb,hsh,hml,hmr⟩:=hin
 replace hl:Rn EJ H P (⟨lp,liso,lcnt,lib,lio,lic,lcb,lkb,lko,lkc⟩:Ng) Xl osl:=hl
 replace hr:Rn EJ H P (⟨rp,riso,rcnt,rib,rio,ric,rcb,rkb,rko,rkc⟩:Ng) Xr osr:=hr
 have hli:liso=P.iso:=hl.iso
 have hri:riso=P.iso:=hr.iso
 replace hkl:=hkl rfl
 replace hkr:=hkr rfl
 replace dln:Off (rn EJ (⟨lp,liso,lcnt,lib,lio,lic,lcb,lkb,lko,lkc⟩:Ng)) (rn EJ (⟨np,niso,ncnt,nib,nio,nic,ncb,nkb,nko,nkc⟩:Ng)):=dln
 replace drn:Off (rn EJ (⟨rp,riso,rcnt,rib,rio,ric,rcb,rkb,rko,rkc⟩:Ng)) (rn EJ (⟨np,niso,ncnt,nib,nio,nic,ncb,nkb,nko,nkc⟩:Ng)):=drn
 replace dlr:Off (rn EJ (⟨lp,liso,lcnt,lib,lio,lic,lcb,lkb,lko,lkc⟩:Ng)) (rn EJ (⟨rp,riso,rcnt,rib,rio,ric,rcb,rkb,rko,rkc⟩:Ng)):=dlr
 replace tl:∀b o,(rn EJ (⟨lp,liso,lcnt,lib,lio,lic,lcb,lkb,lko,lkc⟩:Ng)) b o→¬(fun b=>b<cx.base) b:=tl
 replace tn:∀b o,(rn EJ (⟨np,niso,ncnt,nib,nio,nic,ncb,nkb,nko,nkc⟩:Ng)) b o→¬(fun b=>b<cx.base) b:=tn
 replace trr:∀b o,(rn EJ (⟨rp,riso,rcnt,rib,rio,ric,rcb,rkb,rko,rkc⟩:Ng)) b o→¬(fun b=>b<cx.base) b:=trr
 replace hlen:os.length=X.length+1:=hlen
 replace hpl:os[i]?=some (some lp):=hpl
 replace hpr:os[i+1]?=some (some rp):=hpr
 simp only at hcl hcr hb
 have hmm:=hP.hm
 have hh1:=hP.h1
 have hx255:=hP.hx
 have hxl:i<X.length:=(List.getElem?_eq_some_iff.1 hx).1
 have hil:=hl.n.sl.hle
 have hir:=hr.n.sl.hle
 have hin:=hn.n.sl.hle
 have hic:=hl.n.ic
 have hirc:=hr.n.ic
 simp only at hil hir hin hic hirc
 have hF:Fr (fun b o=>rn EJ (⟨np,niso,ncnt,nib,nio,nic,ncb,nkb,nko,nkc⟩:Ng) b o∨rwc EJ false (⟨lp,liso,lcnt,lib,lio,lic,lcb,lkb,lko,lkc⟩:Ng) b o∨rwc EJ false (⟨rp,riso,rcnt,rib,rio,ric,rcb,rkb,rko,rkc⟩:Ng) b o) H H:=Fr.refl _ _
 have sn:Gro H (rn EJ (⟨np,niso,ncnt,nib,nio,nic,ncb,nkb,nko,nkc⟩:Ng)) (rn EJ (⟨np,niso,ncnt,nib,nio,nic,ncb,nkb,nko,nkc⟩:Ng)):=Gro.refl _ _
 have sl:Gro H (rn EJ (⟨lp,liso,lcnt,lib,lio,lic,lcb,lkb,lko,lkc⟩:Ng)) (rn EJ (⟨lp,liso,lcnt,lib,lio,lic,lcb,lkb,lko,lkc⟩:Ng)):=Gro.refl _ _
 have sr:Gro H (rn EJ (⟨rp,riso,rcnt,rib,rio,ric,rcb,rkb,rko,rkc⟩:Ng)) (rn EJ (⟨rp,riso,rcnt,rib,rio,ric,rcb,rkb,rko,rkc⟩:Ng)):=Gro.refl _ _
 have hkil:=hl.k.sl.hle
 have hkir:=hr.k.sl.hle
 have hkin:=hn.k.sl.hle
 simp only at hkil hkir hkin
 refine fn_of func97 rfl ntmps97 ?_
 refine (show Go' _ _ _ _ 649 [(0,_),(1,_),(2,_)] [.code _] _ from ?_)
 refine Ut 2 rfl ?_
 refine Go'.join2 (σ:=Unit) (fun _ H'=>H'=H) (fun _=>[(0,.pointer (some ⟨tr,0,none⟩)),(1,.pointer (some ⟨np,0,none⟩)),(2,.int .i64 (i:Int))]) ?_ ?_
 rotate_left
 ·
  intro tail
  by_cases hii:i0=X.length
  ·
   refine Ur 7 256 rfl (Ul 4 rfl (show cl _ np 2=some (.slice (some ⟨nib,nio,none⟩) X.length nic) from hn.n.c2) (Uc 1 rfl (eqlT (by omega)) (Uf 0 [0,1,2,14] rfl (Go'.condT rfl (Ur 3 0 rfl (Ub 1 (((i0-1:Nat):Int)) rfl (by omega) (Uf 1 [0,1,2] rfl (Uk [0,1,2] rfl ?_))))))))
   have ei:i0-1=i:=by omega
   rw [ei]
   exact tail () H rfl
  ·
   refine Ur 7 256 rfl (Ul 4 rfl (show cl _ np 2=some (.slice (some ⟨nib,nio,none⟩) X.length nic) from hn.n.c2) (Uc 1 rfl (eqlF (by omega)) (Uf 0 [0,1,2,14] rfl (Go'.condF rfl (Ut 1 rfl (Uk [0,1,2] rfl ?_))))))
   obtain rfl:i0=i:=by omega
   exact tail () H rfl
 rintro _ H' hHH
 have e:H=H':=hHH.symm
 subst e
 clear hHH
 refine Ut 1 rfl (Ur 11 528640 rfl (Ul 4 rfl (show cl _ np 3=some (.pointer (some ⟨ncb,0,none⟩)) from hn.n.c3) (Ul 1 rfl (show cl _ ncb 0=some (.slice (some ⟨nkb,nko,none⟩) (os).length nkc) from hn.k.c) (Ux 1 i rfl (by omega) (by omega) (O.callQ rfl rfl rfl call59 rfl (isoLoad_spec true (hn.k.at hpl) (by have:=hl.n.c0;simp only [hli] at this;exact this) tc.iso) trivial (Uf 1 [0,1,2,6] rfl (Ut 1 rfl (Ur 12 2101504 rfl (Ul 4 rfl (show cl _ np 3=some (.pointer (some ⟨ncb,0,none⟩)) from hn.n.c3) (Ul 1 rfl (show cl _ ncb 0=some (.slice (some ⟨nkb,nko,none⟩) (os).length nkc) from hn.k.c) (Ua 1 (((i+1:Nat):Int)) rfl (by omega) ?_)))))))))))
 refine Ux 0 (i+1) rfl (by omega) (by omega) (O.callQ rfl rfl rfl call59 rfl (isoLoad_spec true (hn.k.at hpr) (by have:=hr.n.c0;simp only [hri] at this;exact this) tc.iso) trivial (Uf 1 [0,1,2,6,7] rfl (Ut 1 rfl ?_)))
 by_cases hm:Xl.length+Xr.length<P.mx
 ·
  refine Ud 16 268501056 (by kernel_rfl) (Ul 3 rfl (show cl _ lp 2=some (.slice (some ⟨lib,lio,none⟩) Xl.length lic) from hl.n.c2) (Ul 4 rfl (show cl _ rp 2=some (.slice (some ⟨rib,rio,none⟩) Xr.length ric) from hr.n.c2) (Ua 1 (((Xl.length+Xr.length:Nat):Int)) rfl (by omega) (Ul 3 rfl tc.mx' (Uc 0 rfl (lssT (by omega)) (Uf 0 [0,1,2,6,7,53] rfl (Go'.condT rfl (Ut 1 rfl (UD (fun H'=>cl H' lp 2=some (.slice (some ⟨lib,lio,none⟩) Xl.length lic)) 17 13056933888 (by kernel_rfl) ((show cl _ lp 2=some (.slice (some ⟨lib,lio,none⟩) Xl.length lic) from hl.n.c2)) (UL 4 rfl (fun _ h=>h) (Ul 3 rfl (show cl _ np 2=some (.slice (some ⟨nib,nio,none⟩) X.length nic) from hn.n.c2) ?_)))))))))))
  refine Ux 1 i rfl (by omega) (by omega) (Us 0 rfl (hn.n.sl.item hx) rfl (O.bsl (cs:=(EJ.enc x)) rfl rfl rfl ⟨underlying25,sizeOf27,zeroValue27,⟨_,typeInfo27,rfl⟩,rfl,by decide,by decide⟩ rfl (by decide) (by kernel_rfl) ?_))
  intro H1 MH1
  have fM:=MH1.fr nowhere
  replace hn:=hn.fr fM (fun _ _ _=>nw)
  replace hl:=hl.fr fM (fun _ _ _=>nw)
  replace hr:=hr.fr fM (fun _ _ _=>nw)
  replace tc:=tc.fr fM (fun _ _ _ _=>nw)
  replace hF:=hF.trans' fM (fun _ _ _ h=>h) (fun _ _ _ h=>h.elim)
  have mH1:Rd H1 H.size 0 (EJ.enc x):=MH1.rd _ [] (by simp)
  refine ⟨(show cl _ lp 2=some (.slice (some ⟨lib,lio,none⟩) Xl.length lic) from hl.n.c2),?_⟩
  refine O.app (m:=1) (news:=(EJ.enc x)) rfl rfl rfl ⟨underlying25,sizeOf27,zeroValue27,⟨_,typeInfo27,rfl⟩,rfl,by decide,by decide⟩ rfl hl.n.sl rfl (.inl ⟨_,_,_,rfl,mH1⟩) rfl rfl (Nat.le_trans (Nat.mul_le_mul_left _ (Nat.le_of_ble_eq_true (n:=_) (m:=4096) rfl)) (by omega)) (by omega) ?_
  intro lib_3 lio_3 lic_3 H2 haH2
  have fA:Fr (rn EJ (⟨lp,liso,lcnt,lib,lio,lic,lcb,lkb,lko,lkc⟩:Ng)) H1 H2:=(haH2.in_node hl.n).inN
  have gg:Gro H1 (rn EJ (⟨lp,liso,lcnt,lib,lio,lic,lcb,lkb,lko,lkc⟩:Ng)) (rn EJ (⟨lp,liso,lcnt,lib_3,lio_3,lic_3,lcb,lkb,lko,lkc⟩:Ng)):=haH2.groI
  have hF0:=hF
  have h0:=hl
  have lon:=hn.lt'
  have lor:=hr.lt'
  replace hl:=hl.app haH2
  replace hn:=hn.fr fA (dln.symm)
  replace hr:=hr.fr fA (dlr.symm)
  replace tc:=tc.fr fA (fun b o hb _ hz=>tl b o hz hb.1)
  replace hF:=Fr.tot hF fA sl (fun _ _ h=>.inr (.inl h))
  refine ⟨(show cl _ lp 2=some (.slice (some ⟨lib,lio,none⟩) Xl.length lic) from hl.n.c2),?_⟩
  refine Uq 2 rfl (O.st3 rfl rfl sizeOf25 rfl rfl rfl rfl rfl (hl.n.wr.at0 2 1 (by omega)) ?_)
  intro H3 WH3
  have hf3:Rn EJ H3 P (⟨lp,liso,lcnt,lib_3,lio_3,lic_3,lcb,lkb,lko,lkc⟩:Ng) (Xl++[x]) (osl):=h0.push haH2 WH3
  have fH:Fr (rn EJ (⟨lp,liso,lcnt,lib_3,lio_3,lic_3,lcb,lkb,lko,lkc⟩:Ng)) H2 H3:=(Wrote.fHdr (E:=EJ) (g:=(⟨lp,liso,lcnt,lib_3,lio_3,lic_3,lcb,lkb,lko,lkc⟩:Ng)) WH3 (by omega)).inN
  replace dln:=(Gro.off gg dln.symm lon).symm
  replace dlr:=(Gro.off gg dlr.symm lor).symm
  replace tl:=Gro.offD gg tl (fun b h=>Nat.lt_of_lt_of_le (hD b h) hF0.size)
  replace sl:=Gro.tr sl hF0.size gg
  replace hn:=hn.fr fH (dln.symm)
  replace hr:=hr.fr fH (dlr.symm)
  replace tc:=tc.fr fH (fun b o hb _ hz=>tl b o hz hb.1)
  replace hF:=Fr.tot hF fH sl (fun _ _ h=>.inr (.inl h))
  clear h0 hl
  obtain ⟨lX1,elX1,hl⟩:∃X1,X1=Xl++[x]∧Rn EJ H3 P (⟨lp,liso,lcnt,lib_3,lio_3,lic_3,lcb,lkb,lko,lkc⟩:Ng) (X1) (osl):=⟨_,rfl,hf3⟩
  have llX1:lX1.length=Xl.length+1:=by rw [elX1,List.length_append];rfl
  have clX1:lX1.length≤lic_3:=hl.n.sl.hle
  clear hf3 fA fH gg hF0 haH2 WH3 fM MH1 mH1
  clear lon
  clear lor
  refine Uf 0 [0,1,2,6,7] rfl (Ut 1 rfl (Ud 13 50921728 (by kernel_rfl) (Ul 4 rfl (show cl _ lp 2=some (.slice (some ⟨lib_3,lio_3,none⟩) lX1.length lic_3) from hl.n.c2) (Ul 3 rfl (show cl _ rp 2=some (.slice (some ⟨rib,rio,none⟩) Xr.length ric) from hr.n.c2) (O.app (m:=(Xr).length) (news:=(row EJ Xr)) rfl rfl rfl ⟨underlying25,sizeOf27,zeroValue27,⟨_,typeInfo27,rfl⟩,rfl,by decide,by decide⟩ rfl hl.n.sl rfl (.inl ⟨_,_,_,rfl,hr.n.sl.rd⟩) (row_len EJ _) (row_ones EJ _) (Nat.le_trans (Nat.mul_le_mul_left _ (Nat.le_of_ble_eq_true (n:=_) (m:=4096) rfl)) (by omega)) (by omega) ?_)))))
  intro lib_5 lio_5 lic_5 H4 haH4
  have fA:Fr (rn EJ (⟨lp,liso,lcnt,lib_3,lio_3,lic_3,lcb,lkb,lko,lkc⟩:Ng)) H3 H4:=(haH4.in_node hl.n).inN
  have gg:Gro H3 (rn EJ (⟨lp,liso,lcnt,lib_3,lio_3,lic_3,lcb,lkb,lko,lkc⟩:Ng)) (rn EJ (⟨lp,liso,lcnt,lib_5,lio_5,lic_5,lcb,lkb,lko,lkc⟩:Ng)):=haH4.groI
  have hF0:=hF
  have h0:=hl
  have lon:=hn.lt'
  have lor:=hr.lt'
  replace hl:=hl.app haH4
  replace hn:=hn.fr fA (dln.symm)
  replace hr:=hr.fr fA (dlr.symm)
  replace tc:=tc.fr fA (fun b o hb _ hz=>tl b o hz hb.1)
  replace hF:=Fr.tot hF fA sl (fun _ _ h=>.inr (.inl h))
  refine ⟨trivial,?_⟩
  refine Uq 2 rfl (O.st3 rfl rfl sizeOf25 rfl rfl rfl rfl rfl (hl.n.wr.at0 2 1 (by omega)) ?_)
  intro H5 WH5
  have hf3:Rn EJ H5 P (⟨lp,liso,lcnt,lib_5,lio_5,lic_5,lcb,lkb,lko,lkc⟩:Ng) (lX1++Xr) (osl):=h0.pushs haH4 rfl (by omega) WH5
  have fH:Fr (rn EJ (⟨lp,liso,lcnt,lib_5,lio_5,lic_5,lcb,lkb,lko,lkc⟩:Ng)) H4 H5:=(Wrote.fHdr (E:=EJ) (g:=(⟨lp,liso,lcnt,lib_5,lio_5,lic_5,lcb,lkb,lko,lkc⟩:Ng)) WH5 (by omega)).inN
  replace dln:=(Gro.off gg dln.symm lon).symm
  replace dlr:=(Gro.off gg dlr.symm lor).symm
  replace tl:=Gro.offD gg tl (fun b h=>Nat.lt_of_lt_of_le (hD b h) hF0.size)
  replace sl:=Gro.tr sl hF0.size gg
  replace hn:=hn.fr fH (dln.symm)
  replace hr:=hr.fr fH (dlr.symm)
  replace tc:=tc.fr fH (fun b o hb _ hz=>tl b o hz hb.1)
  replace hF:=Fr.tot hF fH sl (fun _ _ h=>.inr (.inl h))
  clear h0 hl
  obtain ⟨lX2,elX2,hl⟩:∃X1,X1=lX1++Xr∧Rn EJ H5 P (⟨lp,liso,lcnt,lib_5,lio_5,lic_5,lcb,lkb,lko,lkc⟩:Ng) (X1) (osl):=⟨_,rfl,hf3⟩
  have llX2:lX2.length=lX1.length+Xr.length:=by rw [elX2,List.length_append]
  have clX2:lX2.length≤lic_5:=hl.n.sl.hle
  clear hf3 fA fH gg hF0 haH4 WH5
  clear lon
  clear lor
  refine Uf 0 [0,1,2,6,7] rfl (Ut 2 rfl (Ur 3 8 rfl (Uq 1 rfl (O.callQ rfl rfl rfl call62 rfl (leaf_spec hl.n.c3) trivial (Uf 1 [0,1,2,6,7,84] rfl (Go'.condT rfl (UD (fun H'=>cl H' lp 3=some (.pointer (some ⟨lcb,0,none⟩))) 19 215889494016 (by kernel_rfl) ((show cl _ lp 3=some (.pointer (some ⟨lcb,0,none⟩)) from hl.n.c3)) (UL 3 rfl (fun _ h=>h) (Ul 3 rfl (show cl _ lp 3=some (.pointer (some ⟨lcb,0,none⟩)) from hl.n.c3) (Ul 1 rfl (show cl _ lcb 0=some (.slice (some ⟨lkb,lko,none⟩) (osl).length lkc) from hl.k.c) (Ul 3 rfl (show cl _ rp 3=some (.pointer (some ⟨rcb,0,none⟩)) from hr.n.c3) ?_)))))))))))
  refine Ul 1 rfl (show cl _ rcb 0=some (.slice (some ⟨rkb,rko,none⟩) (osr).length rkc) from hr.k.c) (O.app (m:=(osr).length) (news:=(row EP osr)) rfl rfl rfl ⟨underlying121,sizeOf107,zeroValue107,⟨_,typeInfo107,rfl⟩,rfl,by decide,by decide⟩ rfl hl.k.sl rfl (.inl ⟨_,_,_,rfl,hr.k.sl.rd⟩) (row_len EP _) (row_ones EP _) (Nat.le_trans (Nat.mul_le_mul_left _ (Nat.le_of_ble_eq_true (n:=_) (m:=4096) rfl)) (by omega)) (by omega) ?_)
  intro lkb_7 lko_7 lkc_7 H6 haH6
  have fA:Fr (rn EJ (⟨lp,liso,lcnt,lib_5,lio_5,lic_5,lcb,lkb,lko,lkc⟩:Ng)) H5 H6:=hl.fKapp haH6
  have gg:Gro H5 (rn EJ (⟨lp,liso,lcnt,lib_5,lio_5,lic_5,lcb,lkb,lko,lkc⟩:Ng)) (rn EJ (⟨lp,liso,lcnt,lib_5,lio_5,lic_5,lcb,lkb_7,lko_7,lkc_7⟩:Ng)):=haH6.groK
  have hF0:=hF
  have h0:=hl
  have lon:=hn.lt'
  have lor:=hr.lt'
  replace hl:=hl.kapp haH6
  replace hn:=hn.fr fA (dln.symm)
  replace hr:=hr.fr fA (dlr.symm)
  replace tc:=tc.fr fA (fun b o hb _ hz=>tl b o hz hb.1)
  replace hF:=Fr.tot hF fA sl (fun _ _ h=>.inr (.inl h))
  refine ⟨(show cl _ lp 3=some (.pointer (some ⟨lcb,0,none⟩)) from hl.n.c3),?_⟩
  refine Uq 1 rfl (O.st3 rfl rfl sizeOf121 rfl rfl rfl rfl rfl (hl.k.wr) ?_)
  intro H7 WH7
  have hf3:Rn EJ H7 P (⟨lp,liso,lcnt,lib_5,lio_5,lic_5,lcb,lkb_7,lko_7,lkc_7⟩:Ng) (lX2) (osl++osr):=h0.kpushs haH6 rfl (by omega) WH7
  have fH:Fr (rn EJ (⟨lp,liso,lcnt,lib_5,lio_5,lic_5,lcb,lkb_7,lko_7,lkc_7⟩:Ng)) H6 H7:=Wrote.fKhdr (g:=(⟨lp,liso,lcnt,lib_5,lio_5,lic_5,lcb,lkb_7,lko_7,lkc_7⟩:Ng)) WH7
  replace dln:=(Gro.off gg dln.symm lon).symm
  replace dlr:=(Gro.off gg dlr.symm lor).symm
  replace tl:=Gro.offD gg tl (fun b h=>Nat.lt_of_lt_of_le (hD b h) hF0.size)
  replace sl:=Gro.tr sl hF0.size gg
  replace hn:=hn.fr fH (dln.symm)
  replace hr:=hr.fr fH (dlr.symm)
  replace tc:=tc.fr fH (fun b o hb _ hz=>tl b o hz hb.1)
  replace hF:=Fr.tot hF fH sl (fun _ _ h=>.inr (.inl h))
  clear h0 hl
  obtain ⟨lX3,elX3,hl⟩:∃X1,X1=osl++osr∧Rn EJ H7 P (⟨lp,liso,lcnt,lib_5,lio_5,lic_5,lcb,lkb_7,lko_7,lkc_7⟩:Ng) (lX2) (X1):=⟨_,rfl,hf3⟩
  have llX3:lX3.length=osl.length+osr.length:=by rw [elX3,List.length_append]
  have clX3:lX3.length≤lkc_7:=hl.k.sl.hle
  clear hf3 fA fH gg hF0 haH6 WH7
  clear lon
  clear lor
  refine Uf 0 [0,1,2,6,7] rfl (Ut 1 rfl (Ud 13 50348096 (by kernel_rfl) (Ul 3 rfl (show cl _ lp 1=some (.int .i64 (lcnt:Int)) from hl.n.c1) (Ul 3 rfl (show cl _ rp 1=some (.int .i64 (rcnt:Int)) from hr.n.c1) (Ua 0 (((rcnt+1:Nat):Int)) rfl (by omega) (Ua 0 (((lcnt+(rcnt+1):Nat):Int)) rfl (by omega) (Uq 2 rfl (O.st3 rfl rfl sizeOf3 rfl rfl rfl rfl rfl (hl.n.wr.at0 1 1 (by omega)) ?_))))))))
  intro H8 WH8
  have fW:Fr (rn EJ (⟨lp,liso,lcnt,lib_5,lio_5,lic_5,lcb,lkb_7,lko_7,lkc_7⟩:Ng)) H7 H8:=(Wrote.fHdr (E:=EJ) (g:=(⟨lp,liso,lcnt,lib_5,lio_5,lic_5,lcb,lkb_7,lko_7,lkc_7⟩:Ng)) WH8 (by omega)).inN
  replace hn:=hn.fr fW (dln.symm)
  replace hr:=hr.fr fW (dlr.symm)
  replace tc:=tc.fr fW (fun b o hb _ hz=>tl b o hz hb.1)
  replace hF:=Fr.tot hF fW sl (fun _ _ h=>.inr (.inl h))
  obtain ⟨lcnt_8,elcnt_8⟩:∃z,z=lcnt+(rcnt+1):=⟨_,rfl⟩
  rw [←elcnt_8] at WH8
  replace hl:Rn EJ H8 P (⟨lp,liso,lcnt_8,lib_5,lio_5,lic_5,lcb,lkb_7,lko_7,lkc_7⟩:Ng) (lX2) (lX3):=hl.count WH8
  clear fW
  refine Uf 0 [0,1,2] rfl (Ut 1 rfl ?_)
  have hxd:X.length-(i+1)+(i+1)=X.length:=by omega
  refine Ud 14 134479936 (by kernel_rfl) (Ul 3 rfl (show cl _ np 2=some (.slice (some ⟨nib,nio,none⟩) X.length nic) from hn.n.c2) (Uq 1 rfl (O.slc (jl:=i) (jh:=X.length) (jm:=nic) rfl rfl rfl rfl underlying25 sizeOf27 rfl rfl rfl ⟨_,by rfl⟩ (by omega) (by omega) (by simp) (by simp) ?_)))
  intro od hod
  refine Ul 3 rfl (show cl _ np 2=some (.slice (some ⟨nib,nio,none⟩) X.length nic) from hn.n.c2) (Ua 1 (((i+1:Nat):Int)) rfl (by omega) (O.slc (jl:=i+1) (jh:=X.length) (jm:=nic) rfl rfl rfl rfl underlying25 sizeOf27 rfl rfl rfl ⟨_,by rfl⟩ (by omega) (by omega) (by simp) (by simp) ?_))
  intro os2 hos2
  refine O.copy (b:=nib) (o:=(nio+(i)*2)) (j:=(X.length-(i+1))) (cs:=(row EJ (X.drop (i+1)))) rfl rfl rfl ⟨underlying25,sizeOf27,zeroValue27,⟨_,typeInfo27,rfl⟩,rfl,by decide,by decide⟩ rfl rfl (show _=min _ _ by omega) ((Nat.lt_or_ge (i) nic).elim (fun h=>.inl (by rw [hod h])) (fun h=>.inr (by omega))) (.inl ⟨_,_,_,rfl,hn.n.sl.rdDrop (i:=i+1) hos2 (by omega)⟩) (by rw [row_len];first|rfl|(congr 1;simp only [List.length_drop];try omega)) (row_ones EJ _) (hn.n.sl.wrm (i:=i) (m:=X.length-(i+1)) (by omega)) ?_
  intro H9 WH9
  have hyl:(X.drop (i+1)).length=X.length-(i+1):=by simp only [List.length_drop];try omega
  have fW:Fr (rn EJ (⟨np,niso,ncnt,nib,nio,nic,ncb,nkb,nko,nkc⟩:Ng)) H8 H9:=(NodeM.fCpy hn.n (i:=i) (Y:=X.drop (i+1)) WH9 (by omega)).inN
  replace hl:=hl.fr fW (dln)
  replace hr:=hr.fr fW (drn)
  replace tc:=tc.fr fW (fun b o hb _ hz=>tn b o hz hb.1)
  replace hF:=Fr.tot hF fW sn (fun _ _ h=>.inl h)
  obtain ⟨nX4,enX4,hn⟩:∃X1,X1=X.take (i)++X.drop (i+1)++X.drop (i+(X.drop (i+1)).length)∧Rn EJ H9 P (⟨np,niso,ncnt,nib,nio,nic,ncb,nkb,nko,nkc⟩:Ng) (X1) (os):=⟨_,rfl,hn.cpy (i:=i) (Y:=X.drop (i+1)) WH9 (by omega)⟩
  have lnX4:nX4.length=X.length:=by rw [enX4];simp only [List.length_append,List.length_take,List.length_drop];omega
  clear fW
  clear hyl
  refine ⟨trivial,?_⟩
  refine Uf 0 [0,1,2] rfl (Ut 1 rfl (Ud 16 3288350784 (by kernel_rfl) (Ul 3 rfl (show cl _ np 2=some (.slice (some ⟨nib,nio,none⟩) nX4.length nic) from hn.n.c2) (Ul 3 rfl (show cl _ np 2=some (.slice (some ⟨nib,nio,none⟩) nX4.length nic) from hn.n.c2) (Ub 1 (((nX4.length-1:Nat):Int)) rfl (by omega) (Us 3 rfl tc.emp rfl (Ux 0 (nX4.length-1) rfl (by omega) (by omega) (O.st3 rfl rfl sizeOf27 rfl rfl rfl rfl rfl (hn.n.sl.wri (i:=nX4.length-1) (by omega)) ?_))))))))
  intro H10 WH10
  have fW:Fr (rn EJ (⟨np,niso,ncnt,nib,nio,nic,ncb,nkb,nko,nkc⟩:Ng)) H9 H10:=(NodeM.fSet hn.n (i:=nX4.length-1) (x:=((0:Int),(0:Int))) WH10 (by omega)).inN
  replace hl:=hl.fr fW (dln)
  replace hr:=hr.fr fW (drn)
  replace tc:=tc.fr fW (fun b o hb _ hz=>tn b o hz hb.1)
  replace hF:=Fr.tot hF fW sn (fun _ _ h=>.inl h)
  obtain ⟨nX5,enX5,hn⟩:∃X1,X1=nX4.take (nX4.length-1)++((0:Int),(0:Int))::nX4.drop (nX4.length-1+1)∧Rn EJ H10 P (⟨np,niso,ncnt,nib,nio,nic,ncb,nkb,nko,nkc⟩:Ng) (X1) (os):=⟨_,rfl,hn.set (i:=nX4.length-1) (x:=((0:Int),(0:Int))) WH10 (by omega)⟩
  have lnX5:nX5.length=nX4.length:=by rw [enX5];simp only [List.length_append,List.length_take,List.length_cons,List.length_drop];omega
  clear fW
  refine Uf 0 [1,2] rfl (Ut 1 rfl (Ud 15 805372160 (by kernel_rfl) (Ul 4 rfl (show cl _ np 2=some (.slice (some ⟨nib,nio,none⟩) nX5.length nic) from hn.n.c2) (Ul 3 rfl (show cl _ np 2=some (.slice (some ⟨nib,nio,none⟩) nX5.length nic) from hn.n.c2) (Ub 1 (((nX5.length-1:Nat):Int)) rfl (by omega) (O.slc (jl:=0) (jh:=nX5.length-1) (jm:=nic) rfl rfl rfl rfl underlying25 sizeOf27 rfl rfl ⟨_,by rfl⟩ rfl (by omega) (by omega) (by simp) (by simp) ?_))))))
  intro oc hoc
  have hoc2:nio=oc:=by rw [hoc (by omega)];simp
  subst hoc2
  rw [Nat.sub_zero]
  refine Uq 2 rfl (O.st3 rfl rfl sizeOf25 rfl rfl rfl rfl rfl (hn.n.wr.at0 2 1 (by omega)) ?_)
  intro H11 WH11
  have fW:Fr (rn EJ (⟨np,niso,ncnt,nib,nio,nic,ncb,nkb,nko,nkc⟩:Ng)) H10 H11:=(Wrote.fHdr (E:=EJ) (g:=(⟨np,niso,ncnt,nib,nio,nic,ncb,nkb,nko,nkc⟩:Ng)) WH11 (by omega)).inN
  replace hl:=hl.fr fW (dln)
  replace hr:=hr.fr fW (drn)
  replace tc:=tc.fr fW (fun b o hb _ hz=>tn b o hz hb.1)
  replace hF:=Fr.tot hF fW sn (fun _ _ h=>.inl h)
  obtain ⟨nX6,enX6,hn⟩:∃X1,X1=nX5.take (nX5.length-1)∧Rn EJ H11 P (⟨np,niso,ncnt,nib,nio,nic,ncb,nkb,nko,nkc⟩:Ng) (X1) (os):=⟨_,rfl,hn.cut WH11 (by omega)⟩
  have lnX6:nX6.length=nX5.length-1:=by rw [enX6];simp only [List.length_take];omega
  clear fW
  refine Uf 0 [1,2] rfl (Ut 1 rfl (Ud 19 137724167232 (by kernel_rfl) (Ul 3 rfl (show cl _ np 3=some (.pointer (some ⟨ncb,0,none⟩)) from hn.n.c3) (Ul 1 rfl (show cl _ ncb 0=some (.slice (some ⟨nkb,nko,none⟩) (os).length nkc) from hn.k.c) (Ua 1 (((i+1:Nat):Int)) rfl (by omega) (O.slc (jl:=i+1) (jh:=os.length) (jm:=nkc) rfl rfl rfl rfl underlying121 sizeOf107 rfl rfl rfl ⟨_,by rfl⟩ (by omega) (by omega) (by simp) (by simp) ?_))))))
  intro od hod
  refine Ul 3 rfl (show cl _ np 3=some (.pointer (some ⟨ncb,0,none⟩)) from hn.n.c3) (Ul 1 rfl (show cl _ ncb 0=some (.slice (some ⟨nkb,nko,none⟩) (os).length nkc) from hn.k.c) (Ua 1 (((i+2:Nat):Int)) rfl (by omega) (O.slc (jl:=i+1+1) (jh:=os.length) (jm:=nkc) rfl rfl rfl rfl underlying121 sizeOf107 rfl rfl rfl ⟨_,by rfl⟩ (by omega) (by omega) (by simp) (by simp) ?_)))
  intro os2 hos2
  refine O.copy (b:=nkb) (o:=(nko+(i+1)*1)) (j:=(os.length-(i+1+1))) (cs:=(row EP (os.drop (i+1+1)))) rfl rfl rfl ⟨underlying121,sizeOf107,zeroValue107,⟨_,typeInfo107,rfl⟩,rfl,by decide,by decide⟩ rfl rfl (show _=min _ _ by omega) ((Nat.lt_or_ge (i+1) nkc).elim (fun h=>.inl (by rw [hod h])) (fun h=>.inr (by omega))) (.inl ⟨_,_,_,rfl,hn.k.sl.rdDrop (i:=i+1+1) hos2 (by omega)⟩) (by rw [row_len];first|rfl|(congr 1;simp only [List.length_drop];try omega)) (row_ones EP _) (hn.k.sl.wrm (i:=i+1) (m:=os.length-(i+1+1)) (by omega)) ?_
  intro H12 WH12
  have hyl:(os.drop (i+1+1)).length=os.length-(i+1+1):=by simp only [List.length_drop];try omega
  have fW:Fr (rn EJ (⟨np,niso,ncnt,nib,nio,nic,ncb,nkb,nko,nkc⟩:Ng)) H11 H12:=hn.fKcpy (i:=i+1) (Y:=os.drop (i+1+1)) WH12 (by omega)
  replace hl:=hl.fr fW (dln)
  replace hr:=hr.fr fW (drn)
  replace tc:=tc.fr fW (fun b o hb _ hz=>tn b o hz hb.1)
  replace hF:=Fr.tot hF fW sn (fun _ _ h=>.inl h)
  obtain ⟨nX7,enX7,hn⟩:∃X1,X1=os.take (i+1)++os.drop (i+1+1)++os.drop (i+1+(os.drop (i+1+1)).length)∧Rn EJ H12 P (⟨np,niso,ncnt,nib,nio,nic,ncb,nkb,nko,nkc⟩:Ng) (nX6) (X1):=⟨_,rfl,hn.kcpy (i:=i+1) (Y:=os.drop (i+1+1)) WH12 (by omega)⟩
  have lnX7:nX7.length=os.length:=by rw [enX7];simp only [List.length_append,List.length_take,List.length_drop];omega
  clear fW
  clear hyl
  refine ⟨trivial,?_⟩
  refine Uf 0 [1] rfl (Ut 1 rfl (Ud 16 3225683008 (by kernel_rfl) (Ul 3 rfl (show cl _ np 3=some (.pointer (some ⟨ncb,0,none⟩)) from hn.n.c3) (Ul 1 rfl (show cl _ ncb 0=some (.slice (some ⟨nkb,nko,none⟩) (nX7).length nkc) from hn.k.c) (Ul 3 rfl (show cl _ np 3=some (.pointer (some ⟨ncb,0,none⟩)) from hn.n.c3) (Ul 1 rfl (show cl _ ncb 0=some (.slice (some ⟨nkb,nko,none⟩) (nX7).length nkc) from hn.k.c) (Ub 1 (((((nX7).length)-1:Nat):Int)) rfl (by omega) (Ux 0 (((nX7).length)-1) rfl (by omega) (by omega) (O.st3 rfl rfl sizeOf107 rfl rfl rfl rfl rfl (hn.k.sl.wri (i:=nX7.length-1) (by omega)) ?_)))))))))
  intro H13 WH13
  have fW:Fr (rn EJ (⟨np,niso,ncnt,nib,nio,nic,ncb,nkb,nko,nkc⟩:Ng)) H12 H13:=hn.fKset (i:=nX7.length-1) WH13 rfl (by omega)
  replace hl:=hl.fr fW (dln)
  replace hr:=hr.fr fW (drn)
  replace tc:=tc.fr fW (fun b o hb _ hz=>tn b o hz hb.1)
  replace hF:=Fr.tot hF fW sn (fun _ _ h=>.inl h)
  obtain ⟨nX8,enX8,hn⟩:∃X1,X1=nX7.take (nX7.length-1)++none::nX7.drop (nX7.length-1+1)∧Rn EJ H13 P (⟨np,niso,ncnt,nib,nio,nic,ncb,nkb,nko,nkc⟩:Ng) (nX6) (X1):=⟨_,rfl,hn.kset (i:=nX7.length-1) (q:=none) WH13 rfl (by omega)⟩
  have lnX8:nX8.length=nX7.length:=by rw [enX8];simp only [List.length_append,List.length_take,List.length_cons,List.length_drop];omega
  clear fW
  refine Uf 0 [1] rfl (Ud 21 3299676012608 (by kernel_rfl) (Ul 3 rfl (show cl _ np 3=some (.pointer (some ⟨ncb,0,none⟩)) from hn.n.c3) (Ul 3 rfl (show cl _ np 3=some (.pointer (some ⟨ncb,0,none⟩)) from hn.n.c3) (Ul 1 rfl (show cl _ ncb 0=some (.slice (some ⟨nkb,nko,none⟩) (nX8).length nkc) from hn.k.c) (Ul 3 rfl (show cl _ np 3=some (.pointer (some ⟨ncb,0,none⟩)) from hn.n.c3) (Ul 1 rfl (show cl _ ncb 0=some (.slice (some ⟨nkb,nko,none⟩) (nX8).length nkc) from hn.k.c) (Ub 1 (((((nX8).length)-1:Nat):Int)) rfl (by omega) (O.slc (jl:=0) (jh:=nX8.length-1) (jm:=nkc) rfl rfl rfl rfl underlying121 sizeOf107 rfl rfl ⟨_,by rfl⟩ rfl (by omega) (by omega) (by simp) (by simp) ?_))))))))
  intro oc hoc
  have hoc2:nko=oc:=by rw [hoc (by omega)];simp
  subst hoc2
  rw [Nat.sub_zero]
  refine Uq 1 rfl (O.st3 rfl rfl sizeOf121 rfl rfl rfl rfl rfl (hn.k.wr) ?_)
  intro H14 WH14
  have fW:Fr (rn EJ (⟨np,niso,ncnt,nib,nio,nic,ncb,nkb,nko,nkc⟩:Ng)) H13 H14:=Wrote.fKhdr (g:=(⟨np,niso,ncnt,nib,nio,nic,ncb,nkb,nko,nkc⟩:Ng)) WH14
  replace hl:=hl.fr fW (dln)
  replace hr:=hr.fr fW (drn)
  replace tc:=tc.fr fW (fun b o hb _ hz=>tn b o hz hb.1)
  replace hF:=Fr.tot hF fW sn (fun _ _ h=>.inl h)
  obtain ⟨nX9,enX9,hn⟩:∃X1,X1=nX8.take (nX8.length-1)∧Rn EJ H14 P (⟨np,niso,ncnt,nib,nio,nic,ncb,nkb,nko,nkc⟩:Ng) (nX6) (X1):=⟨_,rfl,hn.kcut WH14 (by omega)⟩
  have lnX9:nX9.length=nX8.length-1:=by rw [enX9];simp only [List.length_take];omega
  clear fW
  refine Uf 0 [] rfl (Go'.fall func97 results97 (vs:=[]) trivial ?_)
  have hX:nX6=X.take i++X.drop (i+1):=by
   rw [enX6,lnX5,lnX4,enX5,lnX4,enX4]
   exact Pl.cut_at X _ i hxl
  have hO:nX9=os.take (i+1)++os.drop (i+1+1):=by
   rw [enX9,lnX8,lnX7,enX8,lnX7,enX7]
   exact Pl.cut_at os _ (i+1) (by omega)
  have hLX:lX2=Xl++x::Xr:=by rw [elX2,elX1,List.append_assoc];rfl
  rw [hLX,elX3] at hl
  rw [hX,hO] at hn
  exact ⟨rfl,hF,(⟨np,niso,ncnt,nib,nio,nic,ncb,nkb,nko,nkc⟩:Ng),(⟨lp,liso,lcnt_8,lib_5,lio_5,lic_5,lcb,lkb_7,lko_7,lkc_7⟩:Ng),rfl,rfl,rfl,sn,sl,dln,.inl ⟨hm,hn,hl,elcnt_8⟩⟩
 ·
  refine Ud 16 268501056 (by kernel_rfl) (Ul 3 rfl (show cl _ lp 2=some (.slice (some ⟨lib,lio,none⟩) Xl.length lic) from hl.n.c2) (Ul 4 rfl (show cl _ rp 2=some (.slice (some ⟨rib,rio,none⟩) Xr.length ric) from hr.n.c2) (Ua 1 (((Xl.length+Xr.length:Nat):Int)) rfl (by omega) (Ul 3 rfl tc.mx' (Uc 0 rfl (lssF (by omega)) (Uf 0 [0,1,2,6,7,53] rfl (Go'.condF rfl (Ut 1 rfl ?_))))))))
  by_cases hgt:Xr.length<Xl.length
  ·
   refine Ud 11 65600 (by kernel_rfl) (Ul 3 rfl (show cl _ lp 2=some (.slice (some ⟨lib,lio,none⟩) Xl.length lic) from hl.n.c2) (Ul 4 rfl (show cl _ rp 2=some (.slice (some ⟨rib,rio,none⟩) Xr.length ric) from hr.n.c2) (Uc 1 rfl (gtrT (by omega)) (Uf 0 [0,1,2,6,7,222] rfl (Go'.condT rfl (Ut 1 rfl ?_))))))
   obtain ⟨y,hy⟩:∃y,Xl[Xl.length-1]?=some y:=⟨Xl[Xl.length-1]'(by omega),List.getElem?_eq_getElem (by omega)⟩
   obtain ⟨z,hz⟩:∃z,osl[osl.length-1]?=some z:=⟨osl[osl.length-1]'(by omega),List.getElem?_eq_getElem (by omega)⟩
   obtain ⟨q,rfl,hq,nqn,nql,nqr⟩:=hcq z (List.mem_append_left _ (List.mem_of_getElem? hz))
   replace nql:¬(rn EJ (⟨lp,liso,lcnt,lib,lio,lic,lcb,lkb,lko,lkc⟩:Ng)) q 1:=nql
   replace nqr:¬(rn EJ (⟨rp,riso,rcnt,rib,rio,ric,rcb,rkb,rko,rkc⟩:Ng)) q 1:=nqr
   have hcqle:cn q≤(osl.map (cnO cn)).sum:=sum_mem (cnO cn) (List.mem_of_getElem? hz)
   refine UD (fun H'=>cl H' rp 2=some (.slice (some ⟨rib,rio,none⟩) Xr.length ric)) 14 204013568 (by kernel_rfl) ((show cl _ rp 2=some (.slice (some ⟨rib,rio,none⟩) Xr.length ric) from hr.n.c2)) (UL 4 rfl (fun _ h=>h) (Us 3 rfl tc.emp rfl (O.bsl (cs:=(EJ.enc ((0:Int),(0:Int)))) rfl rfl rfl ⟨underlying25,sizeOf27,zeroValue27,⟨_,typeInfo27,rfl⟩,rfl,by decide,by decide⟩ rfl (by decide) (by kernel_rfl) ?_)))
   intro H15 MH15
   have fM:=MH15.fr nowhere
   replace hn:=hn.fr fM (fun _ _ _=>nw)
   replace hl:=hl.fr fM (fun _ _ _=>nw)
   replace hr:=hr.fr fM (fun _ _ _=>nw)
   replace hq:=Fr.keep fM hq nw
   replace tc:=tc.fr fM (fun _ _ _ _=>nw)
   replace hF:=hF.trans' fM (fun _ _ _ h=>h) (fun _ _ _ h=>h.elim)
   have mH15:Rd H15 H.size 0 (EJ.enc ((0:Int),(0:Int))):=MH15.rd _ [] (by simp)
   refine ⟨(show cl _ rp 2=some (.slice (some ⟨rib,rio,none⟩) Xr.length ric) from hr.n.c2),?_⟩
   refine O.app (m:=1) (news:=(EJ.enc ((0:Int),(0:Int)))) rfl rfl rfl ⟨underlying25,sizeOf27,zeroValue27,⟨_,typeInfo27,rfl⟩,rfl,by decide,by decide⟩ rfl hr.n.sl rfl (.inl ⟨_,_,_,rfl,mH15⟩) rfl rfl (Nat.le_trans (Nat.mul_le_mul_left _ (Nat.le_of_ble_eq_true (n:=_) (m:=4096) rfl)) (by omega)) (by omega) ?_
   intro rib_17 rio_17 ric_17 H16 haH16
   have fA:Fr (rn EJ (⟨rp,riso,rcnt,rib,rio,ric,rcb,rkb,rko,rkc⟩:Ng)) H15 H16:=(haH16.in_node hr.n).inN
   have gg:Gro H15 (rn EJ (⟨rp,riso,rcnt,rib,rio,ric,rcb,rkb,rko,rkc⟩:Ng)) (rn EJ (⟨rp,riso,rcnt,rib_17,rio_17,ric_17,rcb,rkb,rko,rkc⟩:Ng)):=haH16.groI
   have hF0:=hF
   have h0:=hr
   have lon:=hn.lt'
   have lol:=hl.lt'
   have lqq:=cl_lt hq
   replace hr:=hr.app haH16
   replace hn:=hn.fr fA (drn.symm)
   replace hl:=hl.fr fA (dlr)
   replace hq:=Fr.keep fA hq nqr
   replace tc:=tc.fr fA (fun b o hb _ hz=>trr b o hz hb.1)
   replace hF:=Fr.tot hF fA sr (fun _ _ h=>.inr (.inr h))
   refine ⟨(show cl _ rp 2=some (.slice (some ⟨rib,rio,none⟩) Xr.length ric) from hr.n.c2),?_⟩
   refine Uq 2 rfl (O.st3 rfl rfl sizeOf25 rfl rfl rfl rfl rfl (hr.n.wr.at0 2 1 (by omega)) ?_)
   intro H17 WH17
   have hf3:Rn EJ H17 P (⟨rp,riso,rcnt,rib_17,rio_17,ric_17,rcb,rkb,rko,rkc⟩:Ng) (Xr++[((0:Int),(0:Int))]) (osr):=h0.push haH16 WH17
   have fH:Fr (rn EJ (⟨rp,riso,rcnt,rib_17,rio_17,ric_17,rcb,rkb,rko,rkc⟩:Ng)) H16 H17:=(Wrote.fHdr (E:=EJ) (g:=(⟨rp,riso,rcnt,rib_17,rio_17,ric_17,rcb,rkb,rko,rkc⟩:Ng)) WH17 (by omega)).inN
   replace drn:=(Gro.off gg drn.symm lon).symm
   replace dlr:=Gro.off gg dlr lol
   replace nqr:=Gro.not gg (lqq) nqr
   replace trr:=Gro.offD gg trr (fun b h=>Nat.lt_of_lt_of_le (hD b h) hF0.size)
   replace sr:=Gro.tr sr hF0.size gg
   replace hn:=hn.fr fH (drn.symm)
   replace hl:=hl.fr fH (dlr)
   replace hq:=Fr.keep fH hq nqr
   replace tc:=tc.fr fH (fun b o hb _ hz=>trr b o hz hb.1)
   replace hF:=Fr.tot hF fH sr (fun _ _ h=>.inr (.inr h))
   clear h0 hr
   obtain ⟨rX10,erX10,hr⟩:∃X1,X1=Xr++[((0:Int),(0:Int))]∧Rn EJ H17 P (⟨rp,riso,rcnt,rib_17,rio_17,ric_17,rcb,rkb,rko,rkc⟩:Ng) (X1) (osr):=⟨_,rfl,hf3⟩
   have lrX10:rX10.length=Xr.length+1:=by rw [erX10,List.length_append];rfl
   have crX10:rX10.length≤ric_17:=hr.n.sl.hle
   clear hf3 fA fH gg hF0 haH16 WH17 fM MH15 mH15
   clear lon
   clear lol
   clear lqq
   refine Uf 0 [0,1,2,6,7] rfl (Ut 1 rfl ?_)
   have hxc:(Xr.drop 0).length=Xr.length:=by rw [List.length_drop];rfl
   have hsr:Rd H17 rib_17 rio_17 (row EJ (Xr.drop 0)):=by
    have h9:=hr.n.sl
    rw [erX10] at h9
    have h8:=h9.tail (i:=0) (Nat.zero_le _)
    rw [Nat.zero_mul,Nat.add_zero] at h8
    exact h8
   refine Ud 10 589888 (by kernel_rfl) (Ul 3 rfl (show cl _ rp 2=some (.slice (some ⟨rib_17,rio_17,none⟩) rX10.length ric_17) from hr.n.c2) (O.slc (jl:=0+1) (jh:=rX10.length) (jm:=ric_17) rfl rfl rfl rfl underlying25 sizeOf27 rfl rfl rfl ⟨_,by rfl⟩ (by omega) (by omega) (by simp) (by simp) ?_))
   intro od hod
   refine Ul 3 rfl (show cl _ rp 2=some (.slice (some ⟨rib_17,rio_17,none⟩) rX10.length ric_17) from hr.n.c2) (O.copy (b:=rib_17) (o:=(rio_17+(0+1)*2)) (j:=(Xr.length)) (cs:=(row EJ (Xr.drop 0))) rfl rfl rfl ⟨underlying25,sizeOf27,zeroValue27,⟨_,typeInfo27,rfl⟩,rfl,by decide,by decide⟩ rfl rfl (show _=min _ _ by omega) ((Nat.lt_or_ge (0+1) ric_17).elim (fun h=>.inl (by rw [hod h])) (fun h=>.inr (by omega))) (.inl ⟨_,_,_,rfl,hsr⟩) (by rw [row_len];first|rfl|(congr 1;simp only [List.length_drop];try omega)) (row_ones EJ _) (hr.n.sl.wrm (i:=0+1) (m:=Xr.length) (by omega)) ?_)
   intro H18 WH18
   have hyl:(Xr.drop 0).length=Xr.length:=by simp only [List.length_drop];try omega
   have fW:Fr (rn EJ (⟨rp,riso,rcnt,rib_17,rio_17,ric_17,rcb,rkb,rko,rkc⟩:Ng)) H17 H18:=(NodeM.fCpy hr.n (i:=0+1) (Y:=Xr.drop 0) WH18 (by omega)).inN
   replace hn:=hn.fr fW (drn.symm)
   replace hl:=hl.fr fW (dlr)
   replace hq:=Fr.keep fW hq nqr
   replace tc:=tc.fr fW (fun b o hb _ hz=>trr b o hz hb.1)
   replace hF:=Fr.tot hF fW sr (fun _ _ h=>.inr (.inr h))
   obtain ⟨rX11,erX11,hr⟩:∃X1,X1=rX10.take (0+1)++Xr.drop 0++rX10.drop (0+1+(Xr.drop 0).length)∧Rn EJ H18 P (⟨rp,riso,rcnt,rib_17,rio_17,ric_17,rcb,rkb,rko,rkc⟩:Ng) (X1) (osr):=⟨_,rfl,hr.cpy (i:=0+1) (Y:=Xr.drop 0) WH18 (by omega)⟩
   have lrX11:rX11.length=rX10.length:=by rw [erX11];simp only [List.length_append,List.length_take,List.length_drop];omega
   clear fW
   clear hyl
   refine ⟨trivial,?_⟩
   refine Uf 0 [0,1,2,6,7] rfl (Ut 1 rfl (Ud 13 51396672 (by kernel_rfl) (Ul 3 rfl (show cl _ rp 2=some (.slice (some ⟨rib_17,rio_17,none⟩) rX11.length ric_17) from hr.n.c2) (Ul 3 rfl (show cl _ np 2=some (.slice (some ⟨nib,nio,none⟩) X.length nic) from hn.n.c2) (Ux 1 i rfl (by omega) (by omega) (Us 0 rfl (hn.n.sl.item hx) rfl (Ux 0 0 rfl rfl (by omega) (O.st3 rfl rfl sizeOf27 rfl rfl rfl rfl rfl (hr.n.sl.wri (i:=0) (by omega)) ?_))))))))
   intro H19 WH19
   have fW:Fr (rn EJ (⟨rp,riso,rcnt,rib_17,rio_17,ric_17,rcb,rkb,rko,rkc⟩:Ng)) H18 H19:=(NodeM.fSet hr.n (i:=0) (x:=x) WH19 (by omega)).inN
   replace hn:=hn.fr fW (drn.symm)
   replace hl:=hl.fr fW (dlr)
   replace hq:=Fr.keep fW hq nqr
   replace tc:=tc.fr fW (fun b o hb _ hz=>trr b o hz hb.1)
   replace hF:=Fr.tot hF fW sr (fun _ _ h=>.inr (.inr h))
   obtain ⟨rX12,erX12,hr⟩:∃X1,X1=rX11.take (0)++x::rX11.drop (0+1)∧Rn EJ H19 P (⟨rp,riso,rcnt,rib_17,rio_17,ric_17,rcb,rkb,rko,rkc⟩:Ng) (X1) (osr):=⟨_,rfl,hr.set (i:=0) (x:=x) WH19 (by omega)⟩
   have lrX12:rX12.length=rX11.length:=by rw [erX12];simp only [List.length_append,List.length_take,List.length_cons,List.length_drop];omega
   clear fW
   refine Uf 0 [0,1,2,6,7] rfl (Ut 1 rfl (Ur 8 32832 rfl (Ul 3 rfl (show cl _ rp 1=some (.int .i64 (rcnt:Int)) from hr.n.c1) (Ua 0 (((rcnt+1:Nat):Int)) rfl (by omega) (Uq 2 rfl (O.st rfl rfl sizeOf3 rfl rfl rfl rfl rfl (hr.n.wr.at0 1 1 (by omega)) ?_))))))
   intro H20 WH20
   have fW:Fr (rn EJ (⟨rp,riso,rcnt,rib_17,rio_17,ric_17,rcb,rkb,rko,rkc⟩:Ng)) H19 H20:=(Wrote.fHdr (E:=EJ) (g:=(⟨rp,riso,rcnt,rib_17,rio_17,ric_17,rcb,rkb,rko,rkc⟩:Ng)) WH20 (by omega)).inN
   replace hn:=hn.fr fW (drn.symm)
   replace hl:=hl.fr fW (dlr)
   replace hq:=Fr.keep fW hq nqr
   replace tc:=tc.fr fW (fun b o hb _ hz=>trr b o hz hb.1)
   replace hF:=Fr.tot hF fW sr (fun _ _ h=>.inr (.inr h))
   obtain ⟨rcnt_20,ercnt_20⟩:∃z,z=rcnt+1:=⟨_,rfl⟩
   rw [←ercnt_20] at WH20
   replace hr:Rn EJ H20 P (⟨rp,riso,rcnt_20,rib_17,rio_17,ric_17,rcb,rkb,rko,rkc⟩:Ng) (rX12) (osr):=hr.count WH20
   clear fW
   refine ⟨trivial,?_⟩
   refine Uf 0 [0,1,2,6,7] rfl (Ut 1 rfl (Ud 19 210470240320 (by kernel_rfl) (Ul 3 rfl (show cl _ np 2=some (.slice (some ⟨nib,nio,none⟩) X.length nic) from hn.n.c2) (Ul 4 rfl (show cl _ lp 2=some (.slice (some ⟨lib,lio,none⟩) Xl.length lic) from hl.n.c2) (Ul 3 rfl (show cl _ lp 2=some (.slice (some ⟨lib,lio,none⟩) Xl.length lic) from hl.n.c2) (Ub 1 (((Xl.length-1:Nat):Int)) rfl (by omega) (Ux 0 (Xl.length-1) rfl (by omega) (by omega) (Us 0 rfl (hl.n.sl.item hy) rfl (Ux 0 i rfl (by omega) (by omega) (O.st3 rfl rfl sizeOf27 rfl rfl rfl rfl rfl (hn.n.sl.wri (i:=i) (by omega)) ?_))))))))))
   intro H21 WH21
   have fW:Fr (rn EJ (⟨np,niso,ncnt,nib,nio,nic,ncb,nkb,nko,nkc⟩:Ng)) H20 H21:=(NodeM.fSet hn.n (i:=i) (x:=y) WH21 (by omega)).inN
   replace hl:=hl.fr fW (dln)
   replace hr:=hr.fr fW (drn)
   replace hq:=Fr.keep fW hq nqn
   replace tc:=tc.fr fW (fun b o hb _ hz=>tn b o hz hb.1)
   replace hF:=Fr.tot hF fW sn (fun _ _ h=>.inl h)
   obtain ⟨nX13,enX13,hn⟩:∃X1,X1=X.take (i)++y::X.drop (i+1)∧Rn EJ H21 P (⟨np,niso,ncnt,nib,nio,nic,ncb,nkb,nko,nkc⟩:Ng) (X1) (os):=⟨_,rfl,hn.set (i:=i) (x:=y) WH21 (by omega)⟩
   have lnX13:nX13.length=X.length:=by rw [enX13];simp only [List.length_append,List.length_take,List.length_cons,List.length_drop];omega
   clear fW
   refine Uf 0 [0,6,7] rfl (Ut 1 rfl (Ud 16 3288350784 (by kernel_rfl) (Ul 3 rfl (show cl _ lp 2=some (.slice (some ⟨lib,lio,none⟩) Xl.length lic) from hl.n.c2) (Ul 3 rfl (show cl _ lp 2=some (.slice (some ⟨lib,lio,none⟩) Xl.length lic) from hl.n.c2) (Ub 1 (((Xl.length-1:Nat):Int)) rfl (by omega) (Us 3 rfl tc.emp rfl (Ux 0 (Xl.length-1) rfl (by omega) (by omega) (O.st3 rfl rfl sizeOf27 rfl rfl rfl rfl rfl (hl.n.sl.wri (i:=Xl.length-1) (by omega)) ?_))))))))
   intro H22 WH22
   have fW:Fr (rn EJ (⟨lp,liso,lcnt,lib,lio,lic,lcb,lkb,lko,lkc⟩:Ng)) H21 H22:=(NodeM.fSet hl.n (i:=Xl.length-1) (x:=((0:Int),(0:Int))) WH22 (by omega)).inN
   replace hn:=hn.fr fW (dln.symm)
   replace hr:=hr.fr fW (dlr.symm)
   replace hq:=Fr.keep fW hq nql
   replace tc:=tc.fr fW (fun b o hb _ hz=>tl b o hz hb.1)
   replace hF:=Fr.tot hF fW sl (fun _ _ h=>.inr (.inl h))
   obtain ⟨lX14,elX14,hl⟩:∃X1,X1=Xl.take (Xl.length-1)++((0:Int),(0:Int))::Xl.drop (Xl.length-1+1)∧Rn EJ H22 P (⟨lp,liso,lcnt,lib,lio,lic,lcb,lkb,lko,lkc⟩:Ng) (X1) (osl):=⟨_,rfl,hl.set (i:=Xl.length-1) (x:=((0:Int),(0:Int))) WH22 (by omega)⟩
   have llX14:lX14.length=Xl.length:=by rw [elX14];simp only [List.length_append,List.length_take,List.length_cons,List.length_drop];omega
   clear fW
   refine Uf 0 [6,7] rfl (Ut 1 rfl (Ud 15 805372160 (by kernel_rfl) (Ul 4 rfl (show cl _ lp 2=some (.slice (some ⟨lib,lio,none⟩) lX14.length lic) from hl.n.c2) (Ul 3 rfl (show cl _ lp 2=some (.slice (some ⟨lib,lio,none⟩) lX14.length lic) from hl.n.c2) (Ub 1 (((lX14.length-1:Nat):Int)) rfl (by omega) (O.slc (jl:=0) (jh:=lX14.length-1) (jm:=lic) rfl rfl rfl rfl underlying25 sizeOf27 rfl rfl ⟨_,by rfl⟩ rfl (by omega) (by omega) (by simp) (by simp) ?_))))))
   intro oc hoc
   have hoc2:lio=oc:=by rw [hoc (by omega)];simp
   subst hoc2
   rw [Nat.sub_zero]
   refine Uq 2 rfl (O.st3 rfl rfl sizeOf25 rfl rfl rfl rfl rfl (hl.n.wr.at0 2 1 (by omega)) ?_)
   intro H23 WH23
   have fW:Fr (rn EJ (⟨lp,liso,lcnt,lib,lio,lic,lcb,lkb,lko,lkc⟩:Ng)) H22 H23:=(Wrote.fHdr (E:=EJ) (g:=(⟨lp,liso,lcnt,lib,lio,lic,lcb,lkb,lko,lkc⟩:Ng)) WH23 (by omega)).inN
   replace hn:=hn.fr fW (dln.symm)
   replace hr:=hr.fr fW (dlr.symm)
   replace hq:=Fr.keep fW hq nql
   replace tc:=tc.fr fW (fun b o hb _ hz=>tl b o hz hb.1)
   replace hF:=Fr.tot hF fW sl (fun _ _ h=>.inr (.inl h))
   obtain ⟨lX15,elX15,hl⟩:∃X1,X1=lX14.take (lX14.length-1)∧Rn EJ H23 P (⟨lp,liso,lcnt,lib,lio,lic,lcb,lkb,lko,lkc⟩:Ng) (X1) (osl):=⟨_,rfl,hl.cut WH23 (by omega)⟩
   have llX15:lX15.length=lX14.length-1:=by rw [elX15];simp only [List.length_take];omega
   clear fW
   refine Uf 0 [6,7] rfl (Ut 1 rfl (Ur 8 32832 rfl (Ul 3 rfl (show cl _ lp 1=some (.int .i64 (lcnt:Int)) from hl.n.c1) (Ub 0 (((lcnt-1:Nat):Int)) rfl (by omega) (Uq 2 rfl (O.st rfl rfl sizeOf3 rfl rfl rfl rfl rfl (hl.n.wr.at0 1 1 (by omega)) ?_))))))
   intro H24 WH24
   have fW:Fr (rn EJ (⟨lp,liso,lcnt,lib,lio,lic,lcb,lkb,lko,lkc⟩:Ng)) H23 H24:=(Wrote.fHdr (E:=EJ) (g:=(⟨lp,liso,lcnt,lib,lio,lic,lcb,lkb,lko,lkc⟩:Ng)) WH24 (by omega)).inN
   replace hn:=hn.fr fW (dln.symm)
   replace hr:=hr.fr fW (dlr.symm)
   replace hq:=Fr.keep fW hq nql
   replace tc:=tc.fr fW (fun b o hb _ hz=>tl b o hz hb.1)
   replace hF:=Fr.tot hF fW sl (fun _ _ h=>.inr (.inl h))
   obtain ⟨lcnt_24,elcnt_24⟩:∃z,z=lcnt-1:=⟨_,rfl⟩
   rw [←elcnt_24] at WH24
   replace hl:Rn EJ H24 P (⟨lp,liso,lcnt_24,lib,lio,lic,lcb,lkb,lko,lkc⟩:Ng) (lX15) (osl):=hl.count WH24
   clear fW
   refine ⟨trivial,?_⟩
   refine Uf 0 [6,7] rfl (Ut 1 rfl (Ur 3 8 rfl (Uq 1 rfl (O.callQ rfl rfl rfl call62 rfl (leaf_spec hl.n.c3) trivial (Uf 1 [6,7,321] rfl (Go'.condT rfl (Ut 1 rfl (UD (fun H'=>cl H' rp 3=some (.pointer (some ⟨rcb,0,none⟩))∧cl H' rcb 0=some (.slice (some ⟨rkb,rko,none⟩) (osr).length rkc)) 14 211812352 (by kernel_rfl) (⟨(show cl _ rp 3=some (.pointer (some ⟨rcb,0,none⟩)) from hr.n.c3),(show cl _ rcb 0=some (.slice (some ⟨rkb,rko,none⟩) (osr).length rkc) from hr.k.c)⟩) (UL 3 rfl (fun _ h=>h.1) (UL 3 rfl (fun _ h=>h.1) (UL 1 rfl (fun _ h=>h.2) ?_)))))))))))
   refine O.bsl (cs:=([.pointer none])) rfl rfl rfl ⟨underlying121,sizeOf107,zeroValue107,⟨_,typeInfo107,rfl⟩,rfl,by decide,by decide⟩ rfl (by decide) (by kernel_rfl) ?_
   intro H25 MH25
   have fM:=MH25.fr nowhere
   replace hn:=hn.fr fM (fun _ _ _=>nw)
   replace hl:=hl.fr fM (fun _ _ _=>nw)
   replace hr:=hr.fr fM (fun _ _ _=>nw)
   replace hq:=Fr.keep fM hq nw
   replace tc:=tc.fr fM (fun _ _ _ _=>nw)
   replace hF:=hF.trans' fM (fun _ _ _ h=>h) (fun _ _ _ h=>h.elim)
   have mH25:Rd H25 H24.size 0 ([.pointer none]):=MH25.rd _ [] (by simp)
   refine ⟨⟨(show cl _ rp 3=some (.pointer (some ⟨rcb,0,none⟩)) from hr.n.c3),(show cl _ rcb 0=some (.slice (some ⟨rkb,rko,none⟩) (osr).length rkc) from hr.k.c)⟩,?_⟩
   refine O.app (m:=1) (news:=([.pointer none])) rfl rfl rfl ⟨underlying121,sizeOf107,zeroValue107,⟨_,typeInfo107,rfl⟩,rfl,by decide,by decide⟩ rfl hr.k.sl rfl (.inl ⟨_,_,_,rfl,mH25⟩) rfl rfl (Nat.le_trans (Nat.mul_le_mul_left _ (Nat.le_of_ble_eq_true (n:=_) (m:=4096) rfl)) (by omega)) (by omega) ?_
   intro rkb_27 rko_27 rkc_27 H26 haH26
   have fA:Fr (rn EJ (⟨rp,riso,rcnt_20,rib_17,rio_17,ric_17,rcb,rkb,rko,rkc⟩:Ng)) H25 H26:=hr.fKapp haH26
   have gg:Gro H25 (rn EJ (⟨rp,riso,rcnt_20,rib_17,rio_17,ric_17,rcb,rkb,rko,rkc⟩:Ng)) (rn EJ (⟨rp,riso,rcnt_20,rib_17,rio_17,ric_17,rcb,rkb_27,rko_27,rkc_27⟩:Ng)):=haH26.groK
   have hF0:=hF
   have h0:=hr
   have lon:=hn.lt'
   have lol:=hl.lt'
   have lqq:=cl_lt hq
   replace hr:=hr.kapp haH26
   replace hn:=hn.fr fA (drn.symm)
   replace hl:=hl.fr fA (dlr)
   replace hq:=Fr.keep fA hq nqr
   replace tc:=tc.fr fA (fun b o hb _ hz=>trr b o hz hb.1)
   replace hF:=Fr.tot hF fA sr (fun _ _ h=>.inr (.inr h))
   refine ⟨⟨(show cl _ rp 3=some (.pointer (some ⟨rcb,0,none⟩)) from hr.n.c3),(show cl _ rcb 0=some (.slice (some ⟨rkb,rko,none⟩) (osr).length rkc) from hr.k.c)⟩,?_⟩
   refine Uq 1 rfl (O.st3 rfl rfl sizeOf121 rfl rfl rfl rfl rfl (hr.k.wr) ?_)
   intro H27 WH27
   have hf3:Rn EJ H27 P (⟨rp,riso,rcnt_20,rib_17,rio_17,ric_17,rcb,rkb_27,rko_27,rkc_27⟩:Ng) (rX12) (osr++[none]):=h0.kpush (e:=none) rfl haH26 WH27
   have fH:Fr (rn EJ (⟨rp,riso,rcnt_20,rib_17,rio_17,ric_17,rcb,rkb_27,rko_27,rkc_27⟩:Ng)) H26 H27:=Wrote.fKhdr (g:=(⟨rp,riso,rcnt_20,rib_17,rio_17,ric_17,rcb,rkb_27,rko_27,rkc_27⟩:Ng)) WH27
   replace drn:=(Gro.off gg drn.symm lon).symm
   replace dlr:=Gro.off gg dlr lol
   replace nqr:=Gro.not gg (lqq) nqr
   replace trr:=Gro.offD gg trr (fun b h=>Nat.lt_of_lt_of_le (hD b h) hF0.size)
   replace sr:=Gro.tr sr hF0.size gg
   replace hn:=hn.fr fH (drn.symm)
   replace hl:=hl.fr fH (dlr)
   replace hq:=Fr.keep fH hq nqr
   replace tc:=tc.fr fH (fun b o hb _ hz=>trr b o hz hb.1)
   replace hF:=Fr.tot hF fH sr (fun _ _ h=>.inr (.inr h))
   clear h0 hr
   obtain ⟨rX16,erX16,hr⟩:∃X1,X1=osr++[none]∧Rn EJ H27 P (⟨rp,riso,rcnt_20,rib_17,rio_17,ric_17,rcb,rkb_27,rko_27,rkc_27⟩:Ng) (rX12) (X1):=⟨_,rfl,hf3⟩
   have lrX16:rX16.length=osr.length+1:=by rw [erX16,List.length_append];rfl
   have crX16:rX16.length≤rkc_27:=hr.k.sl.hle
   clear hf3 fA fH gg hF0 haH26 WH27 fM MH25 mH25
   clear lon
   clear lol
   clear lqq
   refine Uf 0 [6,7] rfl (Ut 1 rfl ?_)
   have hsk:Rd H27 rkb_27 rko_27 (row EP (osr.drop 0)):=by
    have h9:=hr.k.sl
    rw [erX16] at h9
    have h8:=h9.tail (i:=0) (Nat.zero_le _)
    rw [Nat.zero_mul,Nat.add_zero] at h8
    exact h8
   refine Ud 14 152044608 (by kernel_rfl) (Ul 3 rfl (show cl _ rp 3=some (.pointer (some ⟨rcb,0,none⟩)) from hr.n.c3) (Ul 1 rfl (show cl _ rcb 0=some (.slice (some ⟨rkb_27,rko_27,none⟩) (rX16).length rkc_27) from hr.k.c) (O.slc (jl:=0+1) (jh:=rX16.length) (jm:=rkc_27) rfl rfl rfl rfl underlying121 sizeOf107 rfl rfl rfl ⟨_,by rfl⟩ (by omega) (by omega) (by simp) (by simp) ?_)))
   intro od hod
   refine Ul 3 rfl (show cl _ rp 3=some (.pointer (some ⟨rcb,0,none⟩)) from hr.n.c3) (Ul 1 rfl (show cl _ rcb 0=some (.slice (some ⟨rkb_27,rko_27,none⟩) (rX16).length rkc_27) from hr.k.c) (O.copy (b:=rkb_27) (o:=(rko_27+(0+1)*1)) (j:=(osr.length)) (cs:=(row EP (osr.drop 0))) rfl rfl rfl ⟨underlying121,sizeOf107,zeroValue107,⟨_,typeInfo107,rfl⟩,rfl,by decide,by decide⟩ rfl rfl (show _=min _ _ by omega) ((Nat.lt_or_ge (0+1) rkc_27).elim (fun h=>.inl (by rw [hod h])) (fun h=>.inr (by omega))) (.inl ⟨_,_,_,rfl,hsk⟩) (by rw [row_len];first|rfl|(congr 1;simp only [List.length_drop];try omega)) (row_ones EP _) (hr.k.sl.wrm (i:=0+1) (m:=osr.length) (by omega)) ?_))
   intro H28 WH28
   have hyl:(osr.drop 0).length=osr.length:=by simp only [List.length_drop];try omega
   have fW:Fr (rn EJ (⟨rp,riso,rcnt_20,rib_17,rio_17,ric_17,rcb,rkb_27,rko_27,rkc_27⟩:Ng)) H27 H28:=hr.fKcpy (i:=0+1) (Y:=osr.drop 0) WH28 (by omega)
   replace hn:=hn.fr fW (drn.symm)
   replace hl:=hl.fr fW (dlr)
   replace hq:=Fr.keep fW hq nqr
   replace tc:=tc.fr fW (fun b o hb _ hz=>trr b o hz hb.1)
   replace hF:=Fr.tot hF fW sr (fun _ _ h=>.inr (.inr h))
   obtain ⟨rX17,erX17,hr⟩:∃X1,X1=rX16.take (0+1)++osr.drop 0++rX16.drop (0+1+(osr.drop 0).length)∧Rn EJ H28 P (⟨rp,riso,rcnt_20,rib_17,rio_17,ric_17,rcb,rkb_27,rko_27,rkc_27⟩:Ng) (rX12) (X1):=⟨_,rfl,hr.kcpy (i:=0+1) (Y:=osr.drop 0) WH28 (by omega)⟩
   have lrX17:rX17.length=rX16.length:=by rw [erX17];simp only [List.length_append,List.length_take,List.length_drop];omega
   clear fW
   clear hyl
   refine ⟨trivial,?_⟩
   refine Uf 0 [6,7] rfl (Ut 1 rfl (Ud 24 215522537112640 (by kernel_rfl) (Ul 3 rfl (show cl _ rp 3=some (.pointer (some ⟨rcb,0,none⟩)) from hr.n.c3) (Ul 1 rfl (show cl _ rcb 0=some (.slice (some ⟨rkb_27,rko_27,none⟩) (rX17).length rkc_27) from hr.k.c) (Ul 3 rfl (show cl _ lp 3=some (.pointer (some ⟨lcb,0,none⟩)) from hl.n.c3) (Ul 1 rfl (show cl _ lcb 0=some (.slice (some ⟨lkb,lko,none⟩) (osl).length lkc) from hl.k.c) (Ul 3 rfl (show cl _ lp 3=some (.pointer (some ⟨lcb,0,none⟩)) from hl.n.c3) (Ul 1 rfl (show cl _ lcb 0=some (.slice (some ⟨lkb,lko,none⟩) (osl).length lkc) from hl.k.c) (Ub 1 (((((osl).length)-1:Nat):Int)) rfl (by omega) (Ux 0 (((osl).length)-1) rfl (by omega) (by omega) (Ul 0 rfl (hl.k.at hz) ?_)))))))))))
   refine Ux 0 0 rfl rfl (by omega) (O.st3 rfl rfl sizeOf107 rfl rfl rfl rfl rfl (hr.k.sl.wri (i:=0) (by omega)) ?_)
   intro H29 WH29
   have fW:Fr (rn EJ (⟨rp,riso,rcnt_20,rib_17,rio_17,ric_17,rcb,rkb_27,rko_27,rkc_27⟩:Ng)) H28 H29:=hr.fKset (i:=0) WH29 rfl (by omega)
   replace hn:=hn.fr fW (drn.symm)
   replace hl:=hl.fr fW (dlr)
   replace hq:=Fr.keep fW hq nqr
   replace tc:=tc.fr fW (fun b o hb _ hz=>trr b o hz hb.1)
   replace hF:=Fr.tot hF fW sr (fun _ _ h=>.inr (.inr h))
   obtain ⟨rX18,erX18,hr⟩:∃X1,X1=rX17.take (0)++(some q)::rX17.drop (0+1)∧Rn EJ H29 P (⟨rp,riso,rcnt_20,rib_17,rio_17,ric_17,rcb,rkb_27,rko_27,rkc_27⟩:Ng) (rX12) (X1):=⟨_,rfl,hr.kset (i:=0) (q:=(some q)) WH29 rfl (by omega)⟩
   have lrX18:rX18.length=rX17.length:=by rw [erX18];simp only [List.length_append,List.length_take,List.length_cons,List.length_drop];omega
   clear fW
   refine Uf 0 [6,7] rfl (Ut 1 rfl ?_)
   have hq0:rX18[0]?=some (some q):=by rw [erX18];rfl
   refine Ud 16 3225683008 (by kernel_rfl) (Ul 3 rfl (show cl _ lp 3=some (.pointer (some ⟨lcb,0,none⟩)) from hl.n.c3) (Ul 1 rfl (show cl _ lcb 0=some (.slice (some ⟨lkb,lko,none⟩) (osl).length lkc) from hl.k.c) (Ul 3 rfl (show cl _ lp 3=some (.pointer (some ⟨lcb,0,none⟩)) from hl.n.c3) (Ul 1 rfl (show cl _ lcb 0=some (.slice (some ⟨lkb,lko,none⟩) (osl).length lkc) from hl.k.c) (Ub 1 (((((osl).length)-1:Nat):Int)) rfl (by omega) (Ux 0 (((osl).length)-1) rfl (by omega) (by omega) (O.st3 rfl rfl sizeOf107 rfl rfl rfl rfl rfl (hl.k.sl.wri (i:=osl.length-1) (by omega)) ?_)))))))
   intro H30 WH30
   have fW:Fr (rn EJ (⟨lp,liso,lcnt_24,lib,lio,lic,lcb,lkb,lko,lkc⟩:Ng)) H29 H30:=hl.fKset (i:=osl.length-1) WH30 rfl (by omega)
   replace hn:=hn.fr fW (dln.symm)
   replace hr:=hr.fr fW (dlr.symm)
   replace hq:=Fr.keep fW hq nql
   replace tc:=tc.fr fW (fun b o hb _ hz=>tl b o hz hb.1)
   replace hF:=Fr.tot hF fW sl (fun _ _ h=>.inr (.inl h))
   obtain ⟨lX19,elX19,hl⟩:∃X1,X1=osl.take (osl.length-1)++none::osl.drop (osl.length-1+1)∧Rn EJ H30 P (⟨lp,liso,lcnt_24,lib,lio,lic,lcb,lkb,lko,lkc⟩:Ng) (lX15) (X1):=⟨_,rfl,hl.kset (i:=osl.length-1) (q:=none) WH30 rfl (by omega)⟩
   have llX19:lX19.length=osl.length:=by rw [elX19];simp only [List.length_append,List.length_take,List.length_cons,List.length_drop];omega
   clear fW
   refine Uf 0 [6,7] rfl (Ut 1 rfl (Ud 21 3299676012608 (by kernel_rfl) (Ul 3 rfl (show cl _ lp 3=some (.pointer (some ⟨lcb,0,none⟩)) from hl.n.c3) (Ul 3 rfl (show cl _ lp 3=some (.pointer (some ⟨lcb,0,none⟩)) from hl.n.c3) (Ul 1 rfl (show cl _ lcb 0=some (.slice (some ⟨lkb,lko,none⟩) (lX19).length lkc) from hl.k.c) (Ul 3 rfl (show cl _ lp 3=some (.pointer (some ⟨lcb,0,none⟩)) from hl.n.c3) (Ul 1 rfl (show cl _ lcb 0=some (.slice (some ⟨lkb,lko,none⟩) (lX19).length lkc) from hl.k.c) (Ub 1 (((((lX19).length)-1:Nat):Int)) rfl (by omega) (O.slc (jl:=0) (jh:=lX19.length-1) (jm:=lkc) rfl rfl rfl rfl underlying121 sizeOf107 rfl rfl ⟨_,by rfl⟩ rfl (by omega) (by omega) (by simp) (by simp) ?_)))))))))
   intro oc hoc
   have hoc2:lko=oc:=by rw [hoc (by omega)];simp
   subst hoc2
   rw [Nat.sub_zero]
   refine Uq 1 rfl (O.st3 rfl rfl sizeOf121 rfl rfl rfl rfl rfl (hl.k.wr) ?_)
   intro H31 WH31
   have fW:Fr (rn EJ (⟨lp,liso,lcnt_24,lib,lio,lic,lcb,lkb,lko,lkc⟩:Ng)) H30 H31:=Wrote.fKhdr (g:=(⟨lp,liso,lcnt_24,lib,lio,lic,lcb,lkb,lko,lkc⟩:Ng)) WH31
   replace hn:=hn.fr fW (dln.symm)
   replace hr:=hr.fr fW (dlr.symm)
   replace hq:=Fr.keep fW hq nql
   replace tc:=tc.fr fW (fun b o hb _ hz=>tl b o hz hb.1)
   replace hF:=Fr.tot hF fW sl (fun _ _ h=>.inr (.inl h))
   obtain ⟨lX20,elX20,hl⟩:∃X1,X1=lX19.take (lX19.length-1)∧Rn EJ H31 P (⟨lp,liso,lcnt_24,lib,lio,lic,lcb,lkb,lko,lkc⟩:Ng) (lX15) (X1):=⟨_,rfl,hl.kcut WH31 (by omega)⟩
   have llX20:lX20.length=lX19.length-1:=by rw [elX20];simp only [List.length_take];omega
   clear fW
   refine Uf 0 [6,7] rfl (Ut 1 rfl (Ud 19 206431338560 (by kernel_rfl) (Ul 3 rfl (show cl _ lp 1=some (.int .i64 (lcnt_24:Int)) from hl.n.c1) (Ul 3 rfl (show cl _ rp 3=some (.pointer (some ⟨rcb,0,none⟩)) from hr.n.c3) (Ul 1 rfl (show cl _ rcb 0=some (.slice (some ⟨rkb_27,rko_27,none⟩) (rX18).length rkc_27) from hr.k.c) (Ux 0 0 rfl rfl (by omega) (Ul 0 rfl (hr.k.at hq0) (Ul 2 rfl hq (Ub 0 (((lcnt_24-(cn q):Nat):Int)) rfl (by omega) (Uq 2 rfl (O.st3 rfl rfl sizeOf3 rfl rfl rfl rfl rfl (hl.n.wr.at0 1 1 (by omega)) ?_)))))))))))
   intro H32 WH32
   have fW:Fr (rn EJ (⟨lp,liso,lcnt_24,lib,lio,lic,lcb,lkb,lko,lkc⟩:Ng)) H31 H32:=(Wrote.fHdr (E:=EJ) (g:=(⟨lp,liso,lcnt_24,lib,lio,lic,lcb,lkb,lko,lkc⟩:Ng)) WH32 (by omega)).inN
   replace hn:=hn.fr fW (dln.symm)
   replace hr:=hr.fr fW (dlr.symm)
   replace hq:=Fr.keep fW hq nql
   replace tc:=tc.fr fW (fun b o hb _ hz=>tl b o hz hb.1)
   replace hF:=Fr.tot hF fW sl (fun _ _ h=>.inr (.inl h))
   obtain ⟨lcnt_32,elcnt_32⟩:∃z,z=lcnt_24-cn q:=⟨_,rfl⟩
   rw [←elcnt_32] at WH32
   replace hl:Rn EJ H32 P (⟨lp,liso,lcnt_32,lib,lio,lic,lcb,lkb,lko,lkc⟩:Ng) (lX15) (lX20):=hl.count WH32
   clear fW
   refine Uf 0 [7] rfl (Ud 19 206431338560 (by kernel_rfl) (Ul 3 rfl (show cl _ rp 1=some (.int .i64 (rcnt_20:Int)) from hr.n.c1) (Ul 3 rfl (show cl _ rp 3=some (.pointer (some ⟨rcb,0,none⟩)) from hr.n.c3) (Ul 1 rfl (show cl _ rcb 0=some (.slice (some ⟨rkb_27,rko_27,none⟩) (rX18).length rkc_27) from hr.k.c) (Ux 0 0 rfl rfl (by omega) (Ul 0 rfl (hr.k.at hq0) (Ul 2 rfl hq (Ua 0 (((rcnt_20+(cn q):Nat):Int)) rfl (by omega) (Uq 2 rfl (O.st3 rfl rfl sizeOf3 rfl rfl rfl rfl rfl (hr.n.wr.at0 1 1 (by omega)) ?_))))))))))
   intro H33 WH33
   have fW:Fr (rn EJ (⟨rp,riso,rcnt_20,rib_17,rio_17,ric_17,rcb,rkb_27,rko_27,rkc_27⟩:Ng)) H32 H33:=(Wrote.fHdr (E:=EJ) (g:=(⟨rp,riso,rcnt_20,rib_17,rio_17,ric_17,rcb,rkb_27,rko_27,rkc_27⟩:Ng)) WH33 (by omega)).inN
   replace hn:=hn.fr fW (drn.symm)
   replace hl:=hl.fr fW (dlr)
   replace hq:=Fr.keep fW hq nqr
   replace tc:=tc.fr fW (fun b o hb _ hz=>trr b o hz hb.1)
   replace hF:=Fr.tot hF fW sr (fun _ _ h=>.inr (.inr h))
   obtain ⟨rcnt_33,ercnt_33⟩:∃z,z=rcnt_20+cn q:=⟨_,rfl⟩
   rw [←ercnt_33] at WH33
   replace hr:Rn EJ H33 P (⟨rp,riso,rcnt_33,rib_17,rio_17,ric_17,rcb,rkb_27,rko_27,rkc_27⟩:Ng) (rX12) (rX18):=hr.count WH33
   clear fW
   refine Uf 0 [] rfl (Go'.fall func97 results97 (vs:=[]) trivial ?_)
   rw [enX13] at hn
   have hAX:lX15=Xl.take (Xl.length-1):=by
    rw [elX15,llX14,elX14]
    exact Pl.cutoff_last Xl _ (by omega)
   have hCX:rX12=x::Xr:=by
    rw [erX12,erX11,erX10]
    exact Pl.ins_list Xr _ (x) 0 (Nat.zero_le _)
   have hspX:=Pl.last_split hy
   have hallX:lX15++y::rX12=Xl++x::Xr:=by
    rw [hAX,hCX]
    conv=>rhs;rw [hspX]
    simp
   have hAO:lX20=osl.take (osl.length-1):=by
    rw [elX20,llX19,elX19]
    exact Pl.cutoff_last osl _ (by omega)
   have hCO:rX18=some q::osr:=by
    rw [erX18,erX17,erX16]
    exact Pl.ins_list osr _ (some q) 0 (Nat.zero_le _)
   have hspO:=Pl.last_split hz
   have hallO:lX20++rX18=osl++osr:=by
    rw [hAO,hCO]
    conv=>rhs;rw [hspO]
    simp
   have hsum:(osl.map (cnO cn)).sum=(lX20.map (cnO cn)).sum+cn q:=by
    conv=>lhs;rw [hspO]
    rw [hAO]
    simp [cnO]
   have hsumC:(rX18.map (cnO cn)).sum=(osr.map (cnO cn)).sum+cn q:=by
    rw [hCO]
    simp [cnO]
    try omega
   exact ⟨rfl,hF,(⟨np,niso,ncnt,nib,nio,nic,ncb,nkb,nko,nkc⟩:Ng),(⟨lp,liso,lcnt_32,lib,lio,lic,lcb,lkb,lko,lkc⟩:Ng),rfl,rfl,rfl,sn,sl,dln,.inr ⟨(⟨rp,riso,rcnt_33,rib_17,rio_17,ric_17,rcb,rkb_27,rko_27,rkc_27⟩:Ng),lX15,rX12,lX20,rX18,y,rfl,sr,drn,dlr,hn,hl,hr,(show lcnt_32=_ by omega),(show rcnt_33=_ by omega),hallX,hallO,by omega,by omega,by omega,by omega,(fun _=>by omega)⟩⟩
  ·
   refine Ud 11 65600 (by kernel_rfl) (Ul 3 rfl (show cl _ lp 2=some (.slice (some ⟨lib,lio,none⟩) Xl.length lic) from hl.n.c2) (Ul 4 rfl (show cl _ rp 2=some (.slice (some ⟨rib,rio,none⟩) Xr.length ric) from hr.n.c2) (Uc 1 rfl (gtrF (by omega)) (Uf 0 [0,1,2,6,7,222] rfl (Go'.condF rfl (Ut 1 rfl ?_))))))
   obtain ⟨y,hy⟩:∃y,Xr[0]?=some y:=⟨Xr[0]'(by omega),List.getElem?_eq_getElem (by omega)⟩
   obtain ⟨z,hz⟩:∃z,osr[0]?=some z:=⟨osr[0]'(by omega),List.getElem?_eq_getElem (by omega)⟩
   obtain ⟨q,rfl,hq,nqn,nql,nqr⟩:=hcq z (List.mem_append_right _ (List.mem_of_getElem? hz))
   replace nql:¬(rn EJ (⟨lp,liso,lcnt,lib,lio,lic,lcb,lkb,lko,lkc⟩:Ng)) q 1:=nql
   replace nqr:¬(rn EJ (⟨rp,riso,rcnt,rib,rio,ric,rcb,rkb,rko,rkc⟩:Ng)) q 1:=nqr
   have hcqle:cn q≤(osr.map (cnO cn)).sum:=sum_mem (cnO cn) (List.mem_of_getElem? hz)
   refine UD (fun H'=>cl H' lp 2=some (.slice (some ⟨lib,lio,none⟩) Xl.length lic)) 17 13056933888 (by kernel_rfl) ((show cl _ lp 2=some (.slice (some ⟨lib,lio,none⟩) Xl.length lic) from hl.n.c2)) (UL 4 rfl (fun _ h=>h) (Ul 3 rfl (show cl _ np 2=some (.slice (some ⟨nib,nio,none⟩) X.length nic) from hn.n.c2) (Ux 1 i rfl (by omega) (by omega) (Us 0 rfl (hn.n.sl.item hx) rfl (O.bsl (cs:=(EJ.enc x)) rfl rfl rfl ⟨underlying25,sizeOf27,zeroValue27,⟨_,typeInfo27,rfl⟩,rfl,by decide,by decide⟩ rfl (by decide) (by kernel_rfl) ?_)))))
   intro H34 MH34
   have fM:=MH34.fr nowhere
   replace hn:=hn.fr fM (fun _ _ _=>nw)
   replace hl:=hl.fr fM (fun _ _ _=>nw)
   replace hr:=hr.fr fM (fun _ _ _=>nw)
   replace hq:=Fr.keep fM hq nw
   replace tc:=tc.fr fM (fun _ _ _ _=>nw)
   replace hF:=hF.trans' fM (fun _ _ _ h=>h) (fun _ _ _ h=>h.elim)
   have mH34:Rd H34 H.size 0 (EJ.enc x):=MH34.rd _ [] (by simp)
   refine ⟨(show cl _ lp 2=some (.slice (some ⟨lib,lio,none⟩) Xl.length lic) from hl.n.c2),?_⟩
   refine O.app (m:=1) (news:=(EJ.enc x)) rfl rfl rfl ⟨underlying25,sizeOf27,zeroValue27,⟨_,typeInfo27,rfl⟩,rfl,by decide,by decide⟩ rfl hl.n.sl rfl (.inl ⟨_,_,_,rfl,mH34⟩) rfl rfl (Nat.le_trans (Nat.mul_le_mul_left _ (Nat.le_of_ble_eq_true (n:=_) (m:=4096) rfl)) (by omega)) (by omega) ?_
   intro lib_36 lio_36 lic_36 H35 haH35
   have fA:Fr (rn EJ (⟨lp,liso,lcnt,lib,lio,lic,lcb,lkb,lko,lkc⟩:Ng)) H34 H35:=(haH35.in_node hl.n).inN
   have gg:Gro H34 (rn EJ (⟨lp,liso,lcnt,lib,lio,lic,lcb,lkb,lko,lkc⟩:Ng)) (rn EJ (⟨lp,liso,lcnt,lib_36,lio_36,lic_36,lcb,lkb,lko,lkc⟩:Ng)):=haH35.groI
   have hF0:=hF
   have h0:=hl
   have lon:=hn.lt'
   have lor:=hr.lt'
   have lqq:=cl_lt hq
   replace hl:=hl.app haH35
   replace hn:=hn.fr fA (dln.symm)
   replace hr:=hr.fr fA (dlr.symm)
   replace hq:=Fr.keep fA hq nql
   replace tc:=tc.fr fA (fun b o hb _ hz=>tl b o hz hb.1)
   replace hF:=Fr.tot hF fA sl (fun _ _ h=>.inr (.inl h))
   refine ⟨(show cl _ lp 2=some (.slice (some ⟨lib,lio,none⟩) Xl.length lic) from hl.n.c2),?_⟩
   refine Uq 2 rfl (O.st3 rfl rfl sizeOf25 rfl rfl rfl rfl rfl (hl.n.wr.at0 2 1 (by omega)) ?_)
   intro H36 WH36
   have hf3:Rn EJ H36 P (⟨lp,liso,lcnt,lib_36,lio_36,lic_36,lcb,lkb,lko,lkc⟩:Ng) (Xl++[x]) (osl):=h0.push haH35 WH36
   have fH:Fr (rn EJ (⟨lp,liso,lcnt,lib_36,lio_36,lic_36,lcb,lkb,lko,lkc⟩:Ng)) H35 H36:=(Wrote.fHdr (E:=EJ) (g:=(⟨lp,liso,lcnt,lib_36,lio_36,lic_36,lcb,lkb,lko,lkc⟩:Ng)) WH36 (by omega)).inN
   replace dln:=(Gro.off gg dln.symm lon).symm
   replace dlr:=(Gro.off gg dlr.symm lor).symm
   replace nql:=Gro.not gg (lqq) nql
   replace tl:=Gro.offD gg tl (fun b h=>Nat.lt_of_lt_of_le (hD b h) hF0.size)
   replace sl:=Gro.tr sl hF0.size gg
   replace hn:=hn.fr fH (dln.symm)
   replace hr:=hr.fr fH (dlr.symm)
   replace hq:=Fr.keep fH hq nql
   replace tc:=tc.fr fH (fun b o hb _ hz=>tl b o hz hb.1)
   replace hF:=Fr.tot hF fH sl (fun _ _ h=>.inr (.inl h))
   clear h0 hl
   obtain ⟨lX21,elX21,hl⟩:∃X1,X1=Xl++[x]∧Rn EJ H36 P (⟨lp,liso,lcnt,lib_36,lio_36,lic_36,lcb,lkb,lko,lkc⟩:Ng) (X1) (osl):=⟨_,rfl,hf3⟩
   have llX21:lX21.length=Xl.length+1:=by rw [elX21,List.length_append];rfl
   have clX21:lX21.length≤lic_36:=hl.n.sl.hle
   clear hf3 fA fH gg hF0 haH35 WH36 fM MH34 mH34
   clear lon
   clear lor
   clear lqq
   refine Uf 0 [0,1,2,6,7] rfl (Ut 1 rfl (Ur 8 32832 rfl (Ul 3 rfl (show cl _ lp 1=some (.int .i64 (lcnt:Int)) from hl.n.c1) (Ua 0 (((lcnt+1:Nat):Int)) rfl (by omega) (Uq 2 rfl (O.st rfl rfl sizeOf3 rfl rfl rfl rfl rfl (hl.n.wr.at0 1 1 (by omega)) ?_))))))
   intro H37 WH37
   have fW:Fr (rn EJ (⟨lp,liso,lcnt,lib_36,lio_36,lic_36,lcb,lkb,lko,lkc⟩:Ng)) H36 H37:=(Wrote.fHdr (E:=EJ) (g:=(⟨lp,liso,lcnt,lib_36,lio_36,lic_36,lcb,lkb,lko,lkc⟩:Ng)) WH37 (by omega)).inN
   replace hn:=hn.fr fW (dln.symm)
   replace hr:=hr.fr fW (dlr.symm)
   replace hq:=Fr.keep fW hq nql
   replace tc:=tc.fr fW (fun b o hb _ hz=>tl b o hz hb.1)
   replace hF:=Fr.tot hF fW sl (fun _ _ h=>.inr (.inl h))
   obtain ⟨lcnt_37,elcnt_37⟩:∃z,z=lcnt+1:=⟨_,rfl⟩
   rw [←elcnt_37] at WH37
   replace hl:Rn EJ H37 P (⟨lp,liso,lcnt_37,lib_36,lio_36,lic_36,lcb,lkb,lko,lkc⟩:Ng) (lX21) (osl):=hl.count WH37
   clear fW
   refine ⟨trivial,?_⟩
   refine Uf 0 [0,1,2,6,7] rfl (Ut 1 rfl (Ud 13 51445824 (by kernel_rfl) (Ul 3 rfl (show cl _ np 2=some (.slice (some ⟨nib,nio,none⟩) X.length nic) from hn.n.c2) (Ul 4 rfl (show cl _ rp 2=some (.slice (some ⟨rib,rio,none⟩) Xr.length ric) from hr.n.c2) (Ux 0 0 rfl rfl (by omega) (Us 0 rfl (hr.n.sl.item hy) rfl (Ux 0 i rfl (by omega) (by omega) (O.st3 rfl rfl sizeOf27 rfl rfl rfl rfl rfl (hn.n.sl.wri (i:=i) (by omega)) ?_))))))))
   intro H38 WH38
   have fW:Fr (rn EJ (⟨np,niso,ncnt,nib,nio,nic,ncb,nkb,nko,nkc⟩:Ng)) H37 H38:=(NodeM.fSet hn.n (i:=i) (x:=y) WH38 (by omega)).inN
   replace hl:=hl.fr fW (dln)
   replace hr:=hr.fr fW (drn)
   replace hq:=Fr.keep fW hq nqn
   replace tc:=tc.fr fW (fun b o hb _ hz=>tn b o hz hb.1)
   replace hF:=Fr.tot hF fW sn (fun _ _ h=>.inl h)
   obtain ⟨nX22,enX22,hn⟩:∃X1,X1=X.take (i)++y::X.drop (i+1)∧Rn EJ H38 P (⟨np,niso,ncnt,nib,nio,nic,ncb,nkb,nko,nkc⟩:Ng) (X1) (os):=⟨_,rfl,hn.set (i:=i) (x:=y) WH38 (by omega)⟩
   have lnX22:nX22.length=X.length:=by rw [enX22];simp only [List.length_append,List.length_take,List.length_cons,List.length_drop];omega
   clear fW
   refine Uf 0 [0,6,7] rfl (Ut 1 rfl (Ud 10 540736 (by kernel_rfl) (Ul 3 rfl (show cl _ rp 2=some (.slice (some ⟨rib,rio,none⟩) Xr.length ric) from hr.n.c2) (Ul 3 rfl (show cl _ rp 2=some (.slice (some ⟨rib,rio,none⟩) Xr.length ric) from hr.n.c2) (O.slc (jl:=0+1) (jh:=Xr.length) (jm:=ric) rfl rfl rfl rfl underlying25 sizeOf27 rfl rfl rfl ⟨_,by rfl⟩ (by omega) (by omega) (by simp) (by simp) ?_)))))
   intro os2 hos2
   refine O.copy (b:=rib) (o:=(rio+0*2)) (j:=(Xr.length-(0+1))) (cs:=(row EJ (Xr.drop (0+1)))) rfl rfl rfl ⟨underlying25,sizeOf27,zeroValue27,⟨_,typeInfo27,rfl⟩,rfl,by decide,by decide⟩ rfl rfl (show _=min _ _ by omega) (.inl (by rw [Nat.zero_mul,Nat.add_zero])) (.inl ⟨_,_,_,rfl,hr.n.sl.rdDrop (i:=0+1) hos2 (by omega)⟩) (by rw [row_len];first|rfl|(congr 1;simp only [List.length_drop];try omega)) (row_ones EJ _) (hr.n.sl.wrm (i:=0) (m:=Xr.length-(0+1)) (by omega)) ?_
   intro H39 WH39
   have hyl:(Xr.drop (0+1)).length=Xr.length-(0+1):=by simp only [List.length_drop];try omega
   have fW:Fr (rn EJ (⟨rp,riso,rcnt,rib,rio,ric,rcb,rkb,rko,rkc⟩:Ng)) H38 H39:=(NodeM.fCpy hr.n (i:=0) (Y:=Xr.drop (0+1)) WH39 (by omega)).inN
   replace hn:=hn.fr fW (drn.symm)
   replace hl:=hl.fr fW (dlr)
   replace hq:=Fr.keep fW hq nqr
   replace tc:=tc.fr fW (fun b o hb _ hz=>trr b o hz hb.1)
   replace hF:=Fr.tot hF fW sr (fun _ _ h=>.inr (.inr h))
   obtain ⟨rX23,erX23,hr⟩:∃X1,X1=Xr.take (0)++Xr.drop (0+1)++Xr.drop (0+(Xr.drop (0+1)).length)∧Rn EJ H39 P (⟨rp,riso,rcnt,rib,rio,ric,rcb,rkb,rko,rkc⟩:Ng) (X1) (osr):=⟨_,rfl,hr.cpy (i:=0) (Y:=Xr.drop (0+1)) WH39 (by omega)⟩
   have lrX23:rX23.length=Xr.length:=by rw [erX23];simp only [List.length_append,List.length_take,List.length_drop];omega
   clear fW
   clear hyl
   refine ⟨trivial,?_⟩
   refine Uf 0 [0,6,7] rfl (Ut 1 rfl (Ud 16 3288350784 (by kernel_rfl) (Ul 3 rfl (show cl _ rp 2=some (.slice (some ⟨rib,rio,none⟩) rX23.length ric) from hr.n.c2) (Ul 3 rfl (show cl _ rp 2=some (.slice (some ⟨rib,rio,none⟩) rX23.length ric) from hr.n.c2) (Ub 1 (((rX23.length-1:Nat):Int)) rfl (by omega) (Us 3 rfl tc.emp rfl (Ux 0 (rX23.length-1) rfl (by omega) (by omega) (O.st3 rfl rfl sizeOf27 rfl rfl rfl rfl rfl (hr.n.sl.wri (i:=rX23.length-1) (by omega)) ?_))))))))
   intro H40 WH40
   have fW:Fr (rn EJ (⟨rp,riso,rcnt,rib,rio,ric,rcb,rkb,rko,rkc⟩:Ng)) H39 H40:=(NodeM.fSet hr.n (i:=rX23.length-1) (x:=((0:Int),(0:Int))) WH40 (by omega)).inN
   replace hn:=hn.fr fW (drn.symm)
   replace hl:=hl.fr fW (dlr)
   replace hq:=Fr.keep fW hq nqr
   replace tc:=tc.fr fW (fun b o hb _ hz=>trr b o hz hb.1)
   replace hF:=Fr.tot hF fW sr (fun _ _ h=>.inr (.inr h))
   obtain ⟨rX24,erX24,hr⟩:∃X1,X1=rX23.take (rX23.length-1)++((0:Int),(0:Int))::rX23.drop (rX23.length-1+1)∧Rn EJ H40 P (⟨rp,riso,rcnt,rib,rio,ric,rcb,rkb,rko,rkc⟩:Ng) (X1) (osr):=⟨_,rfl,hr.set (i:=rX23.length-1) (x:=((0:Int),(0:Int))) WH40 (by omega)⟩
   have lrX24:rX24.length=rX23.length:=by rw [erX24];simp only [List.length_append,List.length_take,List.length_cons,List.length_drop];omega
   clear fW
   refine Uf 0 [6,7] rfl (Ut 1 rfl (Ud 15 805372160 (by kernel_rfl) (Ul 4 rfl (show cl _ rp 2=some (.slice (some ⟨rib,rio,none⟩) rX24.length ric) from hr.n.c2) (Ul 3 rfl (show cl _ rp 2=some (.slice (some ⟨rib,rio,none⟩) rX24.length ric) from hr.n.c2) (Ub 1 (((rX24.length-1:Nat):Int)) rfl (by omega) (O.slc (jl:=0) (jh:=rX24.length-1) (jm:=ric) rfl rfl rfl rfl underlying25 sizeOf27 rfl rfl ⟨_,by rfl⟩ rfl (by omega) (by omega) (by simp) (by simp) ?_))))))
   intro oc hoc
   have hoc2:rio=oc:=by rw [hoc (by omega)];simp
   subst hoc2
   rw [Nat.sub_zero]
   refine Uq 2 rfl (O.st3 rfl rfl sizeOf25 rfl rfl rfl rfl rfl (hr.n.wr.at0 2 1 (by omega)) ?_)
   intro H41 WH41
   have fW:Fr (rn EJ (⟨rp,riso,rcnt,rib,rio,ric,rcb,rkb,rko,rkc⟩:Ng)) H40 H41:=(Wrote.fHdr (E:=EJ) (g:=(⟨rp,riso,rcnt,rib,rio,ric,rcb,rkb,rko,rkc⟩:Ng)) WH41 (by omega)).inN
   replace hn:=hn.fr fW (drn.symm)
   replace hl:=hl.fr fW (dlr)
   replace hq:=Fr.keep fW hq nqr
   replace tc:=tc.fr fW (fun b o hb _ hz=>trr b o hz hb.1)
   replace hF:=Fr.tot hF fW sr (fun _ _ h=>.inr (.inr h))
   obtain ⟨rX25,erX25,hr⟩:∃X1,X1=rX24.take (rX24.length-1)∧Rn EJ H41 P (⟨rp,riso,rcnt,rib,rio,ric,rcb,rkb,rko,rkc⟩:Ng) (X1) (osr):=⟨_,rfl,hr.cut WH41 (by omega)⟩
   have lrX25:rX25.length=rX24.length-1:=by rw [erX25];simp only [List.length_take];omega
   clear fW
   refine Uf 0 [6,7] rfl (Ut 1 rfl (Ur 8 32832 rfl (Ul 3 rfl (show cl _ rp 1=some (.int .i64 (rcnt:Int)) from hr.n.c1) (Ub 0 (((rcnt-1:Nat):Int)) rfl (by omega) (Uq 2 rfl (O.st rfl rfl sizeOf3 rfl rfl rfl rfl rfl (hr.n.wr.at0 1 1 (by omega)) ?_))))))
   intro H42 WH42
   have fW:Fr (rn EJ (⟨rp,riso,rcnt,rib,rio,ric,rcb,rkb,rko,rkc⟩:Ng)) H41 H42:=(Wrote.fHdr (E:=EJ) (g:=(⟨rp,riso,rcnt,rib,rio,ric,rcb,rkb,rko,rkc⟩:Ng)) WH42 (by omega)).inN
   replace hn:=hn.fr fW (drn.symm)
   replace hl:=hl.fr fW (dlr)
   replace hq:=Fr.keep fW hq nqr
   replace tc:=tc.fr fW (fun b o hb _ hz=>trr b o hz hb.1)
   replace hF:=Fr.tot hF fW sr (fun _ _ h=>.inr (.inr h))
   obtain ⟨rcnt_42,ercnt_42⟩:∃z,z=rcnt-1:=⟨_,rfl⟩
   rw [←ercnt_42] at WH42
   replace hr:Rn EJ H42 P (⟨rp,riso,rcnt_42,rib,rio,ric,rcb,rkb,rko,rkc⟩:Ng) (rX25) (osr):=hr.count WH42
   clear fW
   refine ⟨trivial,?_⟩
   refine Uf 0 [6,7] rfl (Ut 1 rfl (Ur 3 8 rfl (Uq 1 rfl (O.callQ rfl rfl rfl call62 rfl (leaf_spec hl.n.c3) trivial (Uf 1 [6,7,526] rfl (Go'.condT rfl (Ut 1 rfl (UD (fun H'=>cl H' lp 3=some (.pointer (some ⟨lcb,0,none⟩))∧cl H' lcb 0=some (.slice (some ⟨lkb,lko,none⟩) (osl).length lkc)) 22 13899655020544 (by kernel_rfl) (⟨(show cl _ lp 3=some (.pointer (some ⟨lcb,0,none⟩)) from hl.n.c3),(show cl _ lcb 0=some (.slice (some ⟨lkb,lko,none⟩) (osl).length lkc) from hl.k.c)⟩) (UL 3 rfl (fun _ h=>h.1) (UL 3 rfl (fun _ h=>h.1) (UL 1 rfl (fun _ h=>h.2) ?_)))))))))))
   refine Ul 3 rfl (show cl _ rp 3=some (.pointer (some ⟨rcb,0,none⟩)) from hr.n.c3) (Ul 1 rfl (show cl _ rcb 0=some (.slice (some ⟨rkb,rko,none⟩) (osr).length rkc) from hr.k.c) (Ux 0 0 rfl rfl (by omega) (Ul 0 rfl (hr.k.at hz) (O.bsl (cs:=([.pointer (some ⟨q,0,none⟩)])) rfl rfl rfl ⟨underlying121,sizeOf107,zeroValue107,⟨_,typeInfo107,rfl⟩,rfl,by decide,by decide⟩ rfl (by decide) (by kernel_rfl) ?_))))
   intro H43 MH43
   have fM:=MH43.fr nowhere
   replace hn:=hn.fr fM (fun _ _ _=>nw)
   replace hl:=hl.fr fM (fun _ _ _=>nw)
   replace hr:=hr.fr fM (fun _ _ _=>nw)
   replace hq:=Fr.keep fM hq nw
   replace tc:=tc.fr fM (fun _ _ _ _=>nw)
   replace hF:=hF.trans' fM (fun _ _ _ h=>h) (fun _ _ _ h=>h.elim)
   have mH43:Rd H43 H42.size 0 ([.pointer (some ⟨q,0,none⟩)]):=MH43.rd _ [] (by simp)
   refine ⟨⟨(show cl _ lp 3=some (.pointer (some ⟨lcb,0,none⟩)) from hl.n.c3),(show cl _ lcb 0=some (.slice (some ⟨lkb,lko,none⟩) (osl).length lkc) from hl.k.c)⟩,?_⟩
   refine O.app (m:=1) (news:=([.pointer (some ⟨q,0,none⟩)])) rfl rfl rfl ⟨underlying121,sizeOf107,zeroValue107,⟨_,typeInfo107,rfl⟩,rfl,by decide,by decide⟩ rfl hl.k.sl rfl (.inl ⟨_,_,_,rfl,mH43⟩) rfl rfl (Nat.le_trans (Nat.mul_le_mul_left _ (Nat.le_of_ble_eq_true (n:=_) (m:=4096) rfl)) (by omega)) (by omega) ?_
   intro lkb_45 lko_45 lkc_45 H44 haH44
   have fA:Fr (rn EJ (⟨lp,liso,lcnt_37,lib_36,lio_36,lic_36,lcb,lkb,lko,lkc⟩:Ng)) H43 H44:=hl.fKapp haH44
   have gg:Gro H43 (rn EJ (⟨lp,liso,lcnt_37,lib_36,lio_36,lic_36,lcb,lkb,lko,lkc⟩:Ng)) (rn EJ (⟨lp,liso,lcnt_37,lib_36,lio_36,lic_36,lcb,lkb_45,lko_45,lkc_45⟩:Ng)):=haH44.groK
   have hF0:=hF
   have h0:=hl
   have lon:=hn.lt'
   have lor:=hr.lt'
   have lqq:=cl_lt hq
   replace hl:=hl.kapp haH44
   replace hn:=hn.fr fA (dln.symm)
   replace hr:=hr.fr fA (dlr.symm)
   replace hq:=Fr.keep fA hq nql
   replace tc:=tc.fr fA (fun b o hb _ hz=>tl b o hz hb.1)
   replace hF:=Fr.tot hF fA sl (fun _ _ h=>.inr (.inl h))
   refine ⟨⟨(show cl _ lp 3=some (.pointer (some ⟨lcb,0,none⟩)) from hl.n.c3),(show cl _ lcb 0=some (.slice (some ⟨lkb,lko,none⟩) (osl).length lkc) from hl.k.c)⟩,?_⟩
   refine Uq 1 rfl (O.st3 rfl rfl sizeOf121 rfl rfl rfl rfl rfl (hl.k.wr) ?_)
   intro H45 WH45
   have hf3:Rn EJ H45 P (⟨lp,liso,lcnt_37,lib_36,lio_36,lic_36,lcb,lkb_45,lko_45,lkc_45⟩:Ng) (lX21) (osl++[(some q)]):=h0.kpush (e:=(some q)) rfl haH44 WH45
   have fH:Fr (rn EJ (⟨lp,liso,lcnt_37,lib_36,lio_36,lic_36,lcb,lkb_45,lko_45,lkc_45⟩:Ng)) H44 H45:=Wrote.fKhdr (g:=(⟨lp,liso,lcnt_37,lib_36,lio_36,lic_36,lcb,lkb_45,lko_45,lkc_45⟩:Ng)) WH45
   replace dln:=(Gro.off gg dln.symm lon).symm
   replace dlr:=(Gro.off gg dlr.symm lor).symm
   replace nql:=Gro.not gg (lqq) nql
   replace tl:=Gro.offD gg tl (fun b h=>Nat.lt_of_lt_of_le (hD b h) hF0.size)
   replace sl:=Gro.tr sl hF0.size gg
   replace hn:=hn.fr fH (dln.symm)
   replace hr:=hr.fr fH (dlr.symm)
   replace hq:=Fr.keep fH hq nql
   replace tc:=tc.fr fH (fun b o hb _ hz=>tl b o hz hb.1)
   replace hF:=Fr.tot hF fH sl (fun _ _ h=>.inr (.inl h))
   clear h0 hl
   obtain ⟨lX26,elX26,hl⟩:∃X1,X1=osl++[(some q)]∧Rn EJ H45 P (⟨lp,liso,lcnt_37,lib_36,lio_36,lic_36,lcb,lkb_45,lko_45,lkc_45⟩:Ng) (lX21) (X1):=⟨_,rfl,hf3⟩
   have llX26:lX26.length=osl.length+1:=by rw [elX26,List.length_append];rfl
   have clX26:lX26.length≤lkc_45:=hl.k.sl.hle
   clear hf3 fA fH gg hF0 haH44 WH45 fM MH43 mH43
   clear lon
   clear lor
   clear lqq
   refine Uf 0 [6,7] rfl (Ut 1 rfl ?_)
   have hq0:lX26[lX26.length-1]?=some (some q):=by rw [elX26];simp
   refine Ud 14 138675264 (by kernel_rfl) (Ul 3 rfl (show cl _ rp 3=some (.pointer (some ⟨rcb,0,none⟩)) from hr.n.c3) (Ul 1 rfl (show cl _ rcb 0=some (.slice (some ⟨rkb,rko,none⟩) (osr).length rkc) from hr.k.c) (Ul 3 rfl (show cl _ rp 3=some (.pointer (some ⟨rcb,0,none⟩)) from hr.n.c3) (Ul 1 rfl (show cl _ rcb 0=some (.slice (some ⟨rkb,rko,none⟩) (osr).length rkc) from hr.k.c) (O.slc (jl:=0+1) (jh:=osr.length) (jm:=rkc) rfl rfl rfl rfl underlying121 sizeOf107 rfl rfl rfl ⟨_,by rfl⟩ (by omega) (by omega) (by simp) (by simp) ?_)))))
   intro os2 hos2
   refine O.copy (b:=rkb) (o:=(rko+0*1)) (j:=(osr.length-(0+1))) (cs:=(row EP (osr.drop (0+1)))) rfl rfl rfl ⟨underlying121,sizeOf107,zeroValue107,⟨_,typeInfo107,rfl⟩,rfl,by decide,by decide⟩ rfl rfl (show _=min _ _ by omega) (.inl (by rw [Nat.zero_mul,Nat.add_zero])) (.inl ⟨_,_,_,rfl,hr.k.sl.rdDrop (i:=0+1) hos2 (by omega)⟩) (by rw [row_len];first|rfl|(congr 1;simp only [List.length_drop];try omega)) (row_ones EP _) (hr.k.sl.wrm (i:=0) (m:=osr.length-(0+1)) (by omega)) ?_
   intro H46 WH46
   have hyl:(osr.drop (0+1)).length=osr.length-(0+1):=by simp only [List.length_drop];try omega
   have fW:Fr (rn EJ (⟨rp,riso,rcnt_42,rib,rio,ric,rcb,rkb,rko,rkc⟩:Ng)) H45 H46:=hr.fKcpy (i:=0) (Y:=osr.drop (0+1)) WH46 (by omega)
   replace hn:=hn.fr fW (drn.symm)
   replace hl:=hl.fr fW (dlr)
   replace hq:=Fr.keep fW hq nqr
   replace tc:=tc.fr fW (fun b o hb _ hz=>trr b o hz hb.1)
   replace hF:=Fr.tot hF fW sr (fun _ _ h=>.inr (.inr h))
   obtain ⟨rX27,erX27,hr⟩:∃X1,X1=osr.take (0)++osr.drop (0+1)++osr.drop (0+(osr.drop (0+1)).length)∧Rn EJ H46 P (⟨rp,riso,rcnt_42,rib,rio,ric,rcb,rkb,rko,rkc⟩:Ng) (rX25) (X1):=⟨_,rfl,hr.kcpy (i:=0) (Y:=osr.drop (0+1)) WH46 (by omega)⟩
   have lrX27:rX27.length=osr.length:=by rw [erX27];simp only [List.length_append,List.length_take,List.length_drop];omega
   clear fW
   clear hyl
   refine ⟨trivial,?_⟩
   refine Uf 0 [6,7] rfl (Ut 1 rfl (Ud 16 3225683008 (by kernel_rfl) (Ul 3 rfl (show cl _ rp 3=some (.pointer (some ⟨rcb,0,none⟩)) from hr.n.c3) (Ul 1 rfl (show cl _ rcb 0=some (.slice (some ⟨rkb,rko,none⟩) (rX27).length rkc) from hr.k.c) (Ul 3 rfl (show cl _ rp 3=some (.pointer (some ⟨rcb,0,none⟩)) from hr.n.c3) (Ul 1 rfl (show cl _ rcb 0=some (.slice (some ⟨rkb,rko,none⟩) (rX27).length rkc) from hr.k.c) (Ub 1 (((((rX27).length)-1:Nat):Int)) rfl (by omega) (Ux 0 (((rX27).length)-1) rfl (by omega) (by omega) (O.st3 rfl rfl sizeOf107 rfl rfl rfl rfl rfl (hr.k.sl.wri (i:=rX27.length-1) (by omega)) ?_)))))))))
   intro H47 WH47
   have fW:Fr (rn EJ (⟨rp,riso,rcnt_42,rib,rio,ric,rcb,rkb,rko,rkc⟩:Ng)) H46 H47:=hr.fKset (i:=rX27.length-1) WH47 rfl (by omega)
   replace hn:=hn.fr fW (drn.symm)
   replace hl:=hl.fr fW (dlr)
   replace hq:=Fr.keep fW hq nqr
   replace tc:=tc.fr fW (fun b o hb _ hz=>trr b o hz hb.1)
   replace hF:=Fr.tot hF fW sr (fun _ _ h=>.inr (.inr h))
   obtain ⟨rX28,erX28,hr⟩:∃X1,X1=rX27.take (rX27.length-1)++none::rX27.drop (rX27.length-1+1)∧Rn EJ H47 P (⟨rp,riso,rcnt_42,rib,rio,ric,rcb,rkb,rko,rkc⟩:Ng) (rX25) (X1):=⟨_,rfl,hr.kset (i:=rX27.length-1) (q:=none) WH47 rfl (by omega)⟩
   have lrX28:rX28.length=rX27.length:=by rw [erX28];simp only [List.length_append,List.length_take,List.length_cons,List.length_drop];omega
   clear fW
   refine Uf 0 [6,7] rfl (Ut 1 rfl (Ud 21 3299676012608 (by kernel_rfl) (Ul 3 rfl (show cl _ rp 3=some (.pointer (some ⟨rcb,0,none⟩)) from hr.n.c3) (Ul 3 rfl (show cl _ rp 3=some (.pointer (some ⟨rcb,0,none⟩)) from hr.n.c3) (Ul 1 rfl (show cl _ rcb 0=some (.slice (some ⟨rkb,rko,none⟩) (rX28).length rkc) from hr.k.c) (Ul 3 rfl (show cl _ rp 3=some (.pointer (some ⟨rcb,0,none⟩)) from hr.n.c3) (Ul 1 rfl (show cl _ rcb 0=some (.slice (some ⟨rkb,rko,none⟩) (rX28).length rkc) from hr.k.c) (Ub 1 (((((rX28).length)-1:Nat):Int)) rfl (by omega) (O.slc (jl:=0) (jh:=rX28.length-1) (jm:=rkc) rfl rfl rfl rfl underlying121 sizeOf107 rfl rfl ⟨_,by rfl⟩ rfl (by omega) (by omega) (by simp) (by simp) ?_)))))))))
   intro oc hoc
   have hoc2:rko=oc:=by rw [hoc (by omega)];simp
   subst hoc2
   rw [Nat.sub_zero]
   refine Uq 1 rfl (O.st3 rfl rfl sizeOf121 rfl rfl rfl rfl rfl (hr.k.wr) ?_)
   intro H48 WH48
   have fW:Fr (rn EJ (⟨rp,riso,rcnt_42,rib,rio,ric,rcb,rkb,rko,rkc⟩:Ng)) H47 H48:=Wrote.fKhdr (g:=(⟨rp,riso,rcnt_42,rib,rio,ric,rcb,rkb,rko,rkc⟩:Ng)) WH48
   replace hn:=hn.fr fW (drn.symm)
   replace hl:=hl.fr fW (dlr)
   replace hq:=Fr.keep fW hq nqr
   replace tc:=tc.fr fW (fun b o hb _ hz=>trr b o hz hb.1)
   replace hF:=Fr.tot hF fW sr (fun _ _ h=>.inr (.inr h))
   obtain ⟨rX29,erX29,hr⟩:∃X1,X1=rX28.take (rX28.length-1)∧Rn EJ H48 P (⟨rp,riso,rcnt_42,rib,rio,ric,rcb,rkb,rko,rkc⟩:Ng) (rX25) (X1):=⟨_,rfl,hr.kcut WH48 (by omega)⟩
   have lrX29:rX29.length=rX28.length-1:=by rw [erX29];simp only [List.length_take];omega
   clear fW
   refine Uf 0 [6,7] rfl (Ut 1 rfl (Ud 27 13528667087192128 (by kernel_rfl) (Ul 3 rfl (show cl _ lp 1=some (.int .i64 (lcnt_37:Int)) from hl.n.c1) (Ul 3 rfl (show cl _ lp 3=some (.pointer (some ⟨lcb,0,none⟩)) from hl.n.c3) (Ul 1 rfl (show cl _ lcb 0=some (.slice (some ⟨lkb_45,lko_45,none⟩) (lX26).length lkc_45) from hl.k.c) (Ul 3 rfl (show cl _ lp 3=some (.pointer (some ⟨lcb,0,none⟩)) from hl.n.c3) (Ul 1 rfl (show cl _ lcb 0=some (.slice (some ⟨lkb_45,lko_45,none⟩) (lX26).length lkc_45) from hl.k.c) (Ub 1 (((((lX26).length)-1:Nat):Int)) rfl (by omega) (Ux 0 (((lX26).length)-1) rfl (by omega) (by omega) (Ul 0 rfl (hl.k.at hq0) (Ul 2 rfl hq ?_)))))))))))
   refine Ua 0 (((lcnt_37+(cn q):Nat):Int)) rfl (by omega) (Uq 2 rfl (O.st3 rfl rfl sizeOf3 rfl rfl rfl rfl rfl (hl.n.wr.at0 1 1 (by omega)) ?_))
   intro H49 WH49
   have fW:Fr (rn EJ (⟨lp,liso,lcnt_37,lib_36,lio_36,lic_36,lcb,lkb_45,lko_45,lkc_45⟩:Ng)) H48 H49:=(Wrote.fHdr (E:=EJ) (g:=(⟨lp,liso,lcnt_37,lib_36,lio_36,lic_36,lcb,lkb_45,lko_45,lkc_45⟩:Ng)) WH49 (by omega)).inN
   replace hn:=hn.fr fW (dln.symm)
   replace hr:=hr.fr fW (dlr.symm)
   replace hq:=Fr.keep fW hq nql
   replace tc:=tc.fr fW (fun b o hb _ hz=>tl b o hz hb.1)
   replace hF:=Fr.tot hF fW sl (fun _ _ h=>.inr (.inl h))
   obtain ⟨lcnt_49,elcnt_49⟩:∃z,z=lcnt_37+cn q:=⟨_,rfl⟩
   rw [←elcnt_49] at WH49
   replace hl:Rn EJ H49 P (⟨lp,liso,lcnt_49,lib_36,lio_36,lic_36,lcb,lkb_45,lko_45,lkc_45⟩:Ng) (lX21) (lX26):=hl.count WH49
   clear fW
   refine Uf 0 [6,7] rfl (Ud 27 13528667087192128 (by kernel_rfl) (Ul 3 rfl (show cl _ rp 1=some (.int .i64 (rcnt_42:Int)) from hr.n.c1) (Ul 3 rfl (show cl _ lp 3=some (.pointer (some ⟨lcb,0,none⟩)) from hl.n.c3) (Ul 1 rfl (show cl _ lcb 0=some (.slice (some ⟨lkb_45,lko_45,none⟩) (lX26).length lkc_45) from hl.k.c) (Ul 3 rfl (show cl _ lp 3=some (.pointer (some ⟨lcb,0,none⟩)) from hl.n.c3) (Ul 1 rfl (show cl _ lcb 0=some (.slice (some ⟨lkb_45,lko_45,none⟩) (lX26).length lkc_45) from hl.k.c) (Ub 1 (((((lX26).length)-1:Nat):Int)) rfl (by omega) (Ux 0 (((lX26).length)-1) rfl (by omega) (by omega) (Ul 0 rfl (hl.k.at hq0) (Ul 2 rfl hq (Ub 0 (((rcnt_42-(cn q):Nat):Int)) rfl (by omega) ?_)))))))))))
   refine Uq 2 rfl (O.st3 rfl rfl sizeOf3 rfl rfl rfl rfl rfl (hr.n.wr.at0 1 1 (by omega)) ?_)
   intro H50 WH50
   have fW:Fr (rn EJ (⟨rp,riso,rcnt_42,rib,rio,ric,rcb,rkb,rko,rkc⟩:Ng)) H49 H50:=(Wrote.fHdr (E:=EJ) (g:=(⟨rp,riso,rcnt_42,rib,rio,ric,rcb,rkb,rko,rkc⟩:Ng)) WH50 (by omega)).inN
   replace hn:=hn.fr fW (drn.symm)
   replace hl:=hl.fr fW (dlr)
   replace hq:=Fr.keep fW hq nqr
   replace tc:=tc.fr fW (fun b o hb _ hz=>trr b o hz hb.1)
   replace hF:=Fr.tot hF fW sr (fun _ _ h=>.inr (.inr h))
   obtain ⟨rcnt_50,ercnt_50⟩:∃z,z=rcnt_42-cn q:=⟨_,rfl⟩
   rw [←ercnt_50] at WH50
   replace hr:Rn EJ H50 P (⟨rp,riso,rcnt_50,rib,rio,ric,rcb,rkb,rko,rkc⟩:Ng) (rX25) (rX29):=hr.count WH50
   clear fW
   refine Uf 0 [] rfl (Go'.fall func97 results97 (vs:=[]) trivial ?_)
   rw [enX22] at hn
   have hAX:rX25=Xr.drop (0+1):=by
    rw [erX25,lrX24,lrX23,erX24,lrX23,erX23]
    exact Pl.cut_at Xr _ 0 (by omega)
   have hCX:lX21=Xl++[x]:=elX21
   have hspX:=Pl.head_split hy
   have hallX:lX21++y::rX25=Xl++x::Xr:=by
    rw [hAX,hCX]
    conv=>rhs;rw [hspX]
    simp
   have hAO:rX29=osr.drop (0+1):=by
    rw [erX29,lrX28,lrX27,erX28,lrX27,erX27]
    exact Pl.cut_at osr _ 0 (by omega)
   have hCO:lX26=osl++[some q]:=elX26
   have hspO:=Pl.head_split hz
   have hallO:lX26++rX29=osl++osr:=by
    rw [hAO,hCO]
    conv=>rhs;rw [hspO]
    simp
   have hsum:(osr.map (cnO cn)).sum=(rX29.map (cnO cn)).sum+cn q:=by
    conv=>lhs;rw [hspO]
    rw [hAO]
    simp [cnO]
    try omega
   have hsumC:(lX26.map (cnO cn)).sum=(osl.map (cnO cn)).sum+cn q:=by
    rw [hCO]
    simp [cnO]
    try omega
   exact ⟨rfl,hF,(⟨np,niso,ncnt,nib,nio,nic,ncb,nkb,nko,nkc⟩:Ng),(⟨lp,liso,lcnt_49,lib_36,lio_36,lic_36,lcb,lkb_45,lko_45,lkc_45⟩:Ng),rfl,rfl,rfl,sn,sl,dln,.inr ⟨(⟨rp,riso,rcnt_50,rib,rio,ric,rcb,rkb,rko,rkc⟩:Ng),lX21,rX25,lX26,rX29,y,rfl,sr,drn,dlr,hn,hl,hr,(show lcnt_49=_ by omega),(show rcnt_50=_ by omega),hallX,hallO,by omega,by omega,by omega,by omega,(fun _=>by omega)⟩⟩
end Go.Bt.FG
