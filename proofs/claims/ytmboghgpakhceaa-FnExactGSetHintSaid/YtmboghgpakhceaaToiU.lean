/- Contracts of functions of the program, proved by walking through their code. Conditions: those that each theorem names. -/
import Derived.Test.YtmboghgpakhceaaToiS
import Derived.Test.YtmboghgpakhceaaTogD
set_option linter.unusedVariables false
namespace Go.Bt.FG
open Go Go.Proofs Go.Proofs.Try
set_option maxRecDepth 20000
set_option maxHeartbeats 4000000
set_option linter.unusedSectionVars false
section
variable [Inhabited Cx]
theorem st131:StT Try.prog 131 [(0,1),(1,1)] [.pointer none,.int .i64 0]:=⟨⟨_,underlying131,fun w=>by simp [Array.mapM_eq_mapM_toList,sizeOf129,sizeOf3]⟩,zeroValue131⟩
theorem iFirst_spec {B:World} {H:Mem} {it tr:Nat} {mt sk sa se:Bool} {Z:Nat→Prop} {fr:List (Nat×Int)} {kv:Int×Int} {P:Ps} {S:Nat→Prop} {l:List (Int×Int)} {r:Option ((h:Nat)×Gt EJ h)} (hI:Itr EJ H H it tr mt Z sk sa se Z fr kv) (hT:TreeR H tr P S l r) (hsi:¬S it) (hsz:∀b,S b→¬Z b):
  Fn Try.prog B 163 [.pointer (some ⟨it,0,none⟩)] H (fun v H'=>v=.bool (decide (0<l.length))∧ItPost EJ H H' it tr mt Z r l (if 0<l.length then some (0) else none)):=by
 have hK:∀H',Fr (fun b _=>b=it∨Z b) H H'→TreeR H' tr P S l r:=fun H' hf=>hT.keep hf fun b o hs hz=>hz.elim (fun e=>hsi (e▸hs)) (hsz b hs)
 have hll:=hT.ll
 refine fn_of func163 rfl ntmps163 ?_
 refine (show Go' _ _ _ _ 106 [(0,_)] [.code _] _ from ?_)
 refine Ut 1 rfl (Ur 1 0 rfl (Uf 1 [0,2] rfl (Ut 2 rfl (Ur 5 64 rfl (Ul 3 rfl hI.c0 (O.isNil rfl rfl rfl rfl underlying86 rfl rfl (Uf 0 [0,2,9] rfl (Go'.condF rfl (Ut 2 rfl (Ur 4 128 rfl (Uq 3 rfl ?_)))))))))))
 refine O.st rfl rfl sizeOf4 rfl rfl rfl rfl rfl (hI.w 5 (by decide)) ?_
 intro Ha Wa
 replace hI:=hI.set4 Wa
 refine ⟨trivial,?_⟩
 refine Uf 0 [0,2] rfl (Ut 1 rfl (Ur 4 128 rfl (Uq 3 rfl (O.st rfl rfl sizeOf4 rfl rfl rfl rfl rfl (hI.w 4 (by decide)) ?_))))
 intro Hb Wb
 replace hI:=hI.set3 Wb
 refine ⟨trivial,?_⟩
 refine Uf 0 [0,2] rfl (Ut 1 rfl (Ur 4 128 rfl (Uq 3 rfl (O.st rfl rfl sizeOf4 rfl rfl rfl rfl rfl (hI.w 3 (by decide)) ?_))))
 intro Hc Wc
 replace hI:=hI.set2 Wc
 have hsv0:=hI.st
 obtain ⟨sv,hsv,hA⟩:=hsv0
 refine ⟨trivial,?_⟩
 refine Uf 0 [0,2] rfl (Ut 1 rfl (Ur 9 131328 rfl (Ul 4 rfl hsv (O.slcA (F:=EK) (j:=0) rfl rfl rfl rfl underlying133 sizeOf131 rfl hA ⟨_,by rfl⟩ (Nat.zero_le _) ?_))))
 intro v1 hA1
 obtain ⟨a1,m1,c1,rfl⟩:=hA1.form
 refine Uq 2 rfl (O.st rfl rfl sizeOf133 rfl rfl rfl rfl rfl (hI.w 14 (by decide)) ?_)
 intro Hd Wd
 replace hI:=hI.set5 (fr':=[]) (by rw [List.take_zero] at hA1;exact hA1) Wd
 refine ⟨trivial,?_⟩
 refine Uf 0 [0,2] rfl (Ut 2 rfl ?_)
 have hR:=hK _ hI.f
 rcases r with _|⟨h0,t0⟩
 ·
  obtain ⟨rfl,hroot⟩:=hR.rt
  refine Ur 8 4160 rfl (Ul 3 rfl hI.c0 (Ul 2 rfl hroot (O.isNil rfl rfl rfl rfl underlying129 rfl rfl (Uf 0 [0,2,34] rfl (Go'.condT rfl (Ut 1 rfl (Ur 1 0 rfl (Uf 1 [0,2] rfl (Go'.ret (vs:=[_]) func163 results163 ⟨rfl,trivial⟩ ?_)))))))))
  exact ⟨rfl,_,_,_,_,_,_,hI,rfl⟩
 ·
  obtain ⟨hg,hx,hl,hroot,haf⟩:=hR.rt
  have hptr:cl _ tr 2=some (.pointer (some ⟨Gt.p h0 t0,0,none⟩)):=hroot
  obtain ⟨kp,hN⟩:=hg.node
  have hn0:=hN.c0
  rw [hg.isoe] at hn0
  have hl0:0<l.length:=by have:=Gt.high hR.mn hg hx;rw [hl] at this;omega
  refine Ur 8 4160 rfl (Ul 3 rfl hI.c0 (Ul 2 rfl hptr (O.isNil rfl rfl rfl rfl underlying129 rfl rfl (Uf 0 [0,2,34] rfl (Go'.condF rfl (Ut 2 rfl (Ud 16 603996224 (by kernel_rfl) (Ul 3 rfl hI.c0 (Ul 3 rfl hI.c0 (Ul 5 rfl hI.c1 (O.callQ rfl rfl rfl call130 rfl (isoLoad_spec mt hroot hn0 hR.iso) trivial ?_)))))))))))
  refine Uf 1 [0,2,3] rfl (Ut 2 rfl ?_)
  unfold ptr
  have hC:=Ctx.root t0
  clear hR hg hx hl hroot haf hptr hN hn0
  refine Go'.loop (Uk [0,3] rfl ?_)
  refine Go'.ind (σ:=((h:Nat)×Gt EJ h)×List (Nat×Int)×(Nat→Prop)) (fun s=>s.1.1) (fun s H'=>Itr EJ H H' it tr mt Z true false false s.2.2 s.2.1 kv∧Ctx t0 s.2.1 s.1.1 s.1.2 0)
   (fun s=>[(0,.pointer (some ⟨it,0,none⟩)),(3,.pointer (some ⟨Gt.p s.1.1 s.1.2,0,none⟩))]) (⟨_,_⟩,_,_) ⟨hI,hC⟩ rfl ?_
  clear hI hC
  rintro ⟨⟨h1,s1⟩,fs1,Z1⟩ H2 ⟨hI,hC⟩ ih
  simp only at hI hC ih
  have hsv0:=hI.st
  obtain ⟨sv,hsv,hA⟩:=hsv0
  have hR:=hK _ hI.f
  obtain ⟨hg,hx,hl,hroot,haf⟩:=hR.rt
  obtain ⟨hgd,hx1,hfl,haf1⟩:=Ctx.good hR.mn hg hx hC
  have hhi:=Gt.high hR.mn hg hx
  rw [hl] at hhi
  refine (show Go' _ _ _ _ _ [(0,.pointer (some ⟨it,0,none⟩)),(3,.pointer (some ⟨Gt.p h1 s1,0,none⟩))] _ _ from ?_)
  refine Ut 2 rfl (Ur 12 8552704 rfl (Ul 4 rfl hsv (Uq 1 rfl (O.bld (cs:=(EK.enc (Gt.p h1 s1,(0:Int)))) rfl rfl rfl rfl (st131) rfl (by kernel_rfl) (O.bsl (cs:=(EK.enc (Gt.p h1 s1,(0:Int)))) rfl rfl rfl ⟨underlying133,sizeOf131,zeroValue131,⟨_,typeInfo131,rfl⟩,rfl,by decide,by decide⟩ rfl (by decide) (by kernel_rfl) ?_)))))
  intro H3 M3
  have hs3:=M3.size
  have hA3:=hA.fr (M3.fr nowhere) (fun _ _ _ _=>nw)
  have m3:Rd H3 H2.size 0 (row EK [(Gt.p h1 s1,(0:Int))]):=M3.rd _ [] (by simp [row,EK])
  refine ⟨trivial,?_⟩
  refine O.appA (E:=EK) (Y:=[(Gt.p h1 s1,(0:Int))]) rfl rfl rfl ⟨underlying133,sizeOf131,zeroValue131,⟨_,typeInfo131,rfl⟩,rfl,by decide,by decide⟩ rfl hA3 rfl ⟨_,_,_,rfl,m3⟩ (Nat.succ_pos _) (Nat.le_trans (Nat.mul_le_mul_left _ (Nat.le_of_ble_eq_true (n:=_) (m:=4096) rfl)) (by rw [List.length_reverse];simp only [List.length_singleton];omega)) (by rw [List.length_reverse];simp only [List.length_singleton];omega) ?_
  intro v4 H4 hA4 hF4 hs4
  obtain ⟨a4,m4,c4,rfl⟩:=hA4.form
  have hw4:Wr H4 it 14 1:=hF4.wr ((M3.fr nowhere).wr (hI.w 14 (by decide)))
  refine ⟨trivial,?_⟩
  refine Uq 2 rfl (O.st rfl rfl sizeOf133 rfl rfl rfl rfl rfl hw4 ?_)
  intro H5 W5
  replace hI:=hI.push (M3.fr nowhere) hF4 hA4 W5
  refine ⟨trivial,?_⟩
  refine Uf 0 [0,3] rfl (Ut 2 rfl ?_)
  clear hR hg hx hl hroot haf hgd hx1 hfl haf1
  have hR:=hK _ hI.f
  obtain ⟨hg,hx,hl,hroot,haf⟩:=hR.rt
  obtain ⟨hgd,hx1,hfl,haf1⟩:=Ctx.good hR.mn hg hx hC
  rcases h1 with _|h1
  rotate_left
  ·
   obtain ⟨g,X,K⟩:=s1
   have hin:Inn _ P h1 g X ((Gt.ps h1 K).map some) K:=hgd.inn
   have hKl:K.length=X.length+1:=hgd.2.2.2.2.2.1
   have hol:((Gt.ps h1 K).map some).length=X.length+1:=by rw [List.length_map,Gt.ps,List.length_map];exact hKl
   have hKL:(K.map (Gt.L h1)).length=X.length+1:=by rw [List.length_map];exact hKl
   obtain ⟨k0,hk0⟩:∃k,K[0]?=some k:=⟨K[0],List.getElem?_eq_getElem (by omega)⟩
   have hk0m:k0∈K:=List.mem_of_getElem? hk0
   have hok:((Gt.ps h1 K).map some)[0]?=some (some (Gt.p h1 k0)):=by rw [Gt.ps,List.map_map,List.getElem?_map,hk0];rfl
   have hkL:(K.map (Gt.L h1))[0]?=some (Gt.L h1 k0):=by rw [List.getElem?_map,hk0];rfl
   have hkat:=hin.k.at hok
   have hgk:=(hin.c.1 k0 hk0m).1
   obtain ⟨kpk,hNk⟩:=hgk.node
   have hk00:=hNk.c0
   rw [hgk.isoe] at hk00
   refine Ur 2 8 rfl (Uq 1 rfl (O.callQ rfl rfl rfl call133 rfl (leaf_spec hin.n.c3) trivial (Uf 0 [0,3,62] rfl (Go'.condF rfl (Ut 1 rfl (Ud 17 2416197696 (by kernel_rfl) (Ul 3 rfl hI.c0 (Ul 3 rfl hin.n.c3 (Ul 1 rfl hin.k.c (Ux 0 0 rfl rfl (by omega) (Ul 3 rfl hI.c1 ?_)))))))))))
   refine O.callQ rfl rfl rfl call130 rfl (isoLoad_spec mt hkat hk00 hR.iso) trivial (Uf 1 [0,3,62] rfl (Ut 1 rfl ?_))
   unfold ptr
   refine Uk [0,3] rfl (Go'.inLoop ?_)
   refine ih (⟨h1,k0⟩,_,_) _ ⟨hI,?_⟩ (by simp only;omega)
   have:=hC.down hk0
   rw [Pl.bl_0] at this
   exact this
  ·
   obtain ⟨g,X⟩:=s1
   have hN:NodeM EJ _ g X (.pointer none):=hgd.1
   have hX1:1≤X.length:=hx1
   replace hI:Itr EJ H H5 it tr mt Z true false false _ ((g.p,(0:Int))::fs1) kv:=hI
   refine Ur 2 8 rfl (Uq 1 rfl (O.callQ rfl rfl rfl call133 rfl (leaf_spec hN.c3) trivial (Uf 0 [0,3,62] rfl (Go'.condT rfl (Ut 2 rfl ?_)))))
   have hS:Stand t0 ((g.p,(0:Int))::fs1) (0):=.inl ⟨fs1,g,X,0,0,rfl,hC,hX1,rfl⟩
   have hR:=hK _ hI.f
   obtain ⟨hg,hx,hl,hroot,haf⟩:=hR.rt
   obtain ⟨fs2,g2,X2,kp2,i2,y,e2,hN2,hi2,hy,hq,hfs2⟩:=hS.item hR.mn hg hx
   have hhi2:=Gt.high hR.mn hg hx
   rw [hl] at hhi2
   rw [e2] at hI hS
   obtain ⟨b,o,c,hTop⟩:=hI.top
   refine Ud 12 16448 (by kernel_rfl) (Ul 3 rfl hTop.c5 (Ul 3 rfl hTop.c5 (Ub 1 (((fs2.length:Nat):Int)) rfl (by omega) (Ux 0 (fs2.length) rfl (by omega) (by omega) (Uf 1 [0,4] rfl (Ut 1 rfl (Ud 17 12956221696 (by kernel_rfl) (Ul 4 rfl hTop.cp (Ul 2 rfl hN2.c2 (Uq 2 rfl (O.fa (off:=1) rfl rfl rfl rfl ⟨_,_,_,underlying131,rfl,rfl,sizeOf3⟩ rfl ?_)))))))))))
   refine Ul 0 rfl hTop.ci (Ux 0 i2 rfl (by omega) hi2 (Us 0 rfl (hN2.sl.item hy) rfl (Uq 2 rfl (O.st3 (vs:=(EJ.enc y)) rfl rfl sizeOf27 rfl rfl rfl rfl rfl hI.wk ?_))))
   intro H9 W9
   have hI9:=hI.set6 W9
   refine Uf 0 [] rfl (Ut 1 rfl (Ur 1 0 rfl (Uf 1 [2] rfl ?_)))
   rw [hl] at hq
   refine Go'.ret (vs:=[_]) func163 results163 ⟨rfl,trivial⟩ ?_
   exact ⟨congrArg Value.bool (decide_eq_true hl0).symm,_,_,_,_,_,_,hI9,by rw [if_pos hl0];exact ⟨rfl,hq,_,_,rfl,hS⟩⟩
theorem iLast_spec {B:World} {H:Mem} {it tr:Nat} {mt sk sa se:Bool} {Z:Nat→Prop} {fr:List (Nat×Int)} {kv:Int×Int} {P:Ps} {S:Nat→Prop} {l:List (Int×Int)} {r:Option ((h:Nat)×Gt EJ h)} (hI:Itr EJ H H it tr mt Z sk sa se Z fr kv) (hT:TreeR H tr P S l r) (hsi:¬S it) (hsz:∀b,S b→¬Z b):
  Fn Try.prog B 158 [.pointer (some ⟨it,0,none⟩)] H (fun v H'=>v=.bool (decide (0<l.length))∧ItPost EJ H H' it tr mt Z r l (if 0<l.length then some (l.length-1) else none)):=by
 have hK:∀H',Fr (fun b _=>b=it∨Z b) H H'→TreeR H' tr P S l r:=fun H' hf=>hT.keep hf fun b o hs hz=>hz.elim (fun e=>hsi (e▸hs)) (hsz b hs)
 have hll:=hT.ll
 refine fn_of func158 rfl ntmps158 ?_
 refine (show Go' _ _ _ _ 126 [(0,_)] [.code _] _ from ?_)
 refine Ut 1 rfl (Ur 1 0 rfl (Uf 1 [0,2] rfl (Ut 2 rfl (Ur 5 64 rfl (Ul 3 rfl hI.c0 (O.isNil rfl rfl rfl rfl underlying86 rfl rfl (Uf 0 [0,2,9] rfl (Go'.condF rfl (Ut 2 rfl (Ur 4 128 rfl (Uq 3 rfl ?_)))))))))))
 refine O.st rfl rfl sizeOf4 rfl rfl rfl rfl rfl (hI.w 3 (by decide)) ?_
 intro Hc Wc
 replace hI:=hI.set2 Wc
 have hsv0:=hI.st
 obtain ⟨sv,hsv,hA⟩:=hsv0
 refine ⟨trivial,?_⟩
 refine Uf 0 [0,2] rfl (Ut 1 rfl (Ur 9 131328 rfl (Ul 4 rfl hsv (O.slcA (F:=EK) (j:=0) rfl rfl rfl rfl underlying133 sizeOf131 rfl hA ⟨_,by rfl⟩ (Nat.zero_le _) ?_))))
 intro v1 hA1
 obtain ⟨a1,m1,c1,rfl⟩:=hA1.form
 refine Uq 2 rfl (O.st rfl rfl sizeOf133 rfl rfl rfl rfl rfl (hI.w 14 (by decide)) ?_)
 intro Hd Wd
 replace hI:=hI.set5 (fr':=[]) (by rw [List.take_zero] at hA1;exact hA1) Wd
 refine ⟨trivial,?_⟩
 refine Uf 0 [0,2] rfl (Ut 2 rfl ?_)
 have hR:=hK _ hI.f
 rcases r with _|⟨h0,t0⟩
 ·
  obtain ⟨rfl,hroot⟩:=hR.rt
  refine Ur 8 4160 rfl (Ul 3 rfl hI.c0 (Ul 2 rfl hroot (O.isNil rfl rfl rfl rfl underlying129 rfl rfl (Uf 0 [0,2,28] rfl (Go'.condT rfl (Ut 1 rfl (Ur 1 0 rfl (Uf 1 [0,2] rfl (Go'.ret (vs:=[_]) func158 results158 ⟨rfl,trivial⟩ ?_)))))))))
  exact ⟨rfl,_,_,_,_,_,_,hI,rfl⟩
 ·
  obtain ⟨hg,hx,hl,hroot,haf⟩:=hR.rt
  have hptr:cl _ tr 2=some (.pointer (some ⟨Gt.p h0 t0,0,none⟩)):=hroot
  obtain ⟨kp,hN⟩:=hg.node
  have hn0:=hN.c0
  rw [hg.isoe] at hn0
  have hl0:0<l.length:=by have:=Gt.high hR.mn hg hx;rw [hl] at this;omega
  refine Ur 8 4160 rfl (Ul 3 rfl hI.c0 (Ul 2 rfl hptr (O.isNil rfl rfl rfl rfl underlying129 rfl rfl (Uf 0 [0,2,28] rfl (Go'.condF rfl (Ut 2 rfl (Ud 16 603996224 (by kernel_rfl) (Ul 3 rfl hI.c0 (Ul 3 rfl hI.c0 (Ul 5 rfl hI.c1 (O.callQ rfl rfl rfl call130 rfl (isoLoad_spec mt hroot hn0 hR.iso) trivial ?_)))))))))))
  refine Uf 1 [0,2,3] rfl (Ut 2 rfl ?_)
  unfold ptr
  have hC:=Ctx.root t0
  have hQ:l.length=0+(Gt.L h0 t0).length:=by rw [hl,Nat.zero_add]
  clear hR hg hx hl hroot haf hptr hN hn0
  refine Go'.loop (Uk [0,3] rfl ?_)
  refine Go'.ind (σ:=((h:Nat)×Gt EJ h)×List (Nat×Int)×(Nat→Prop)) (fun s=>s.1.1) (fun s H'=>Itr EJ H H' it tr mt Z true sa se s.2.2 s.2.1 kv∧∃a,Ctx t0 s.2.1 s.1.1 s.1.2 a∧l.length=a+(Gt.L s.1.1 s.1.2).length)
   (fun s=>[(0,.pointer (some ⟨it,0,none⟩)),(3,.pointer (some ⟨Gt.p s.1.1 s.1.2,0,none⟩))]) (⟨_,_⟩,_,_) ⟨hI,_,hC,hQ⟩ rfl ?_
  clear hI hC
  rintro ⟨⟨h1,s1⟩,fs1,Z1⟩ H2 ⟨hI,a,hC,hQ⟩ ih
  simp only at hI hC ih
  have hsv0:=hI.st
  obtain ⟨sv,hsv,hA⟩:=hsv0
  replace hQ:l.length=a+(Gt.L h1 s1).length:=hQ
  have hR:=hK _ hI.f
  obtain ⟨hg,hx,hl,hroot,haf⟩:=hR.rt
  obtain ⟨hgd,hx1,hfl,haf1⟩:=Ctx.good hR.mn hg hx hC
  have hhi:=Gt.high hR.mn hg hx
  rw [hl] at hhi
  obtain ⟨kp,hN⟩:=hgd.node
  refine (show Go' _ _ _ _ _ [(0,.pointer (some ⟨it,0,none⟩)),(3,.pointer (some ⟨Gt.p h1 s1,0,none⟩))] _ _ from ?_)
  refine Ut 2 rfl (UD (fun H'=>cl H' it 14=some sv) 17 13052936192 (by kernel_rfl) (hsv) (UL 4 rfl (fun _ h=>h) (Ul 4 rfl hN.c2 (Uq 1 rfl (O.bld (cs:=(EK.enc (Gt.p h1 s1,(((Gt.X h1 s1).length:Nat):Int)))) rfl rfl rfl rfl (st131) rfl (by kernel_rfl) (O.bsl (cs:=(EK.enc (Gt.p h1 s1,(((Gt.X h1 s1).length:Nat):Int)))) rfl rfl rfl ⟨underlying133,sizeOf131,zeroValue131,⟨_,typeInfo131,rfl⟩,rfl,by decide,by decide⟩ rfl (by decide) (by kernel_rfl) ?_))))))
  intro H3 M3
  have hs3:=M3.size
  have hA3:=hA.fr (M3.fr nowhere) (fun _ _ _ _=>nw)
  have m3:Rd H3 H2.size 0 (row EK [(Gt.p h1 s1,(((Gt.X h1 s1).length:Nat):Int))]):=M3.rd _ [] (by simp [row,EK])
  refine ⟨((M3.fr nowhere).keep hsv nw),?_⟩
  refine O.appA (E:=EK) (Y:=[(Gt.p h1 s1,(((Gt.X h1 s1).length:Nat):Int))]) rfl rfl rfl ⟨underlying133,sizeOf131,zeroValue131,⟨_,typeInfo131,rfl⟩,rfl,by decide,by decide⟩ rfl hA3 rfl ⟨_,_,_,rfl,m3⟩ (Nat.succ_pos _) (Nat.le_trans (Nat.mul_le_mul_left _ (Nat.le_of_ble_eq_true (n:=_) (m:=4096) rfl)) (by rw [List.length_reverse];simp only [List.length_singleton];omega)) (by rw [List.length_reverse];simp only [List.length_singleton];omega) ?_
  intro v4 H4 hA4 hF4 hs4
  obtain ⟨a4,m4,c4,rfl⟩:=hA4.form
  have hw4:Wr H4 it 14 1:=hF4.wr ((M3.fr nowhere).wr (hI.w 14 (by decide)))
  refine ⟨(hF4.keep ((M3.fr nowhere).keep hsv nw) hI.nz),?_⟩
  refine Uq 2 rfl (O.st3 rfl rfl sizeOf133 rfl rfl rfl rfl rfl hw4 ?_)
  intro H5 W5
  replace hI:=hI.push (M3.fr nowhere) hF4 hA4 W5
  refine Uf 0 [0,3] rfl (Ut 2 rfl ?_)
  clear hR hg hx hl hroot haf hgd hx1 hfl haf1 hN kp
  have hR:=hK _ hI.f
  obtain ⟨hg,hx,hl,hroot,haf⟩:=hR.rt
  obtain ⟨hgd,hx1,hfl,haf1⟩:=Ctx.good hR.mn hg hx hC
  rcases h1 with _|h1
  rotate_left
  ·
   obtain ⟨g,X,K⟩:=s1
   have hin:Inn _ P h1 g X ((Gt.ps h1 K).map some) K:=hgd.inn
   have hKl:K.length=X.length+1:=hgd.2.2.2.2.2.1
   have hol:((Gt.ps h1 K).map some).length=X.length+1:=by rw [List.length_map,Gt.ps,List.length_map];exact hKl
   have hKL:(K.map (Gt.L h1)).length=X.length+1:=by rw [List.length_map];exact hKl
   obtain ⟨k0,hk0⟩:∃k,K[X.length]?=some k:=⟨K[X.length],List.getElem?_eq_getElem (by omega)⟩
   have hk0m:k0∈K:=List.mem_of_getElem? hk0
   have hok:((Gt.ps h1 K).map some)[X.length]?=some (some (Gt.p h1 k0)):=by rw [Gt.ps,List.map_map,List.getElem?_map,hk0];rfl
   have hkL:(K.map (Gt.L h1))[X.length]?=some (Gt.L h1 k0):=by rw [List.getElem?_map,hk0];rfl
   have hkat:=hin.k.at hok
   have hgk:=(hin.c.1 k0 hk0m).1
   obtain ⟨kpk,hNk⟩:=hgk.node
   have hk00:=hNk.c0
   rw [hgk.isoe] at hk00
   refine Ur 2 8 rfl (Uq 1 rfl (O.callQ rfl rfl rfl call133 rfl (leaf_spec hin.n.c3) trivial (Uf 0 [0,3,61] rfl (Go'.condF rfl (Ut 1 rfl (Ud 22 2473968549952 (by kernel_rfl) (Ul 3 rfl hI.c0 (Ul 3 rfl hin.n.c3 (Ul 1 rfl hin.k.c (Ul 3 rfl hin.n.c2 (Ux 1 (X.length) rfl (by omega) (by omega) ?_)))))))))))
   refine Ul 3 rfl hI.c1 (O.callQ rfl rfl rfl call130 rfl (isoLoad_spec mt hkat hk00 hR.iso) trivial (Uf 1 [0,3,61] rfl (Ut 1 rfl ?_)))
   unfold ptr
   refine Uk [0,3] rfl (Go'.inLoop ?_)
   refine ih (⟨h1,k0⟩,(g.p,((X.length:Nat):Int))::fs1,_) _ ⟨hI,_,hC.down (i:=X.length) hk0,?_⟩ (by simp only;omega)
   have:=(Pl.inter_bl X (K.map (Gt.L h1)) hKL hkL).2.2.1 rfl
   have e:(Gt.L (h1+1) ((g,X,K):Gt EJ (h1+1))).length=(Pl.inter X (K.map (Gt.L h1))).length:=rfl
   simp only
   omega
  ·
   obtain ⟨g,X⟩:=s1
   have hN:NodeM EJ _ g X (.pointer none):=hgd.1
   have hX1:1≤X.length:=hx1
   replace hI:Itr EJ H H5 it tr mt Z true sa se _ ((g.p,(((X.length:Nat):Int):Int))::fs1) kv:=hI
   have hQ2:l.length=a+X.length:=hQ
   have hb4:a+X.length≤l.length:=by have:=(Ctx.list hR.mn hg hx hC).2;rw [hl] at this;exact this
   refine Ur 2 8 rfl (Uq 1 rfl (O.callQ rfl rfl rfl call133 rfl (leaf_spec hN.c3) trivial (Uf 0 [0,3,61] rfl (Go'.condT rfl (Ut 1 rfl ?_)))))
   obtain ⟨b,o,c,hTop⟩:=hI.top
   refine Ud 17 12901695552 (by kernel_rfl) (Ul 3 rfl hTop.c5 (Ul 3 rfl hTop.c5 (Ub 1 (((fs1.length:Nat):Int)) rfl (by omega) (Ux 0 (fs1.length) rfl (by omega) (by omega) (O.fa (off:=1) rfl rfl rfl rfl ⟨_,_,_,underlying131,rfl,rfl,sizeOf3⟩ rfl (Ul 0 rfl hTop.ci (Ub 0 (((X.length-1:Nat):Int)) rfl (by omega) (Ux 0 (fs1.length) rfl (by omega) (by omega) (O.fa (off:=1) rfl rfl rfl rfl ⟨_,_,_,underlying131,rfl,rfl,sizeOf3⟩ rfl (O.st3 rfl rfl sizeOf3 rfl rfl rfl rfl rfl hTop.wi ?_))))))))))
   intro H6 W6
   obtain ⟨hI6,hTop6⟩:=hI.sti hTop W6
   clear hI hTop hR hg hx hl hroot haf hgd hx1 hfl haf1
   have hI:=hI6
   clear hI6
   refine Uf 0 [0,3,61] rfl (Ut 2 rfl ?_)
   have hR:=hK _ hI.f
   obtain ⟨hg,hx,hl,hroot,haf⟩:=hR.rt
   obtain ⟨hgd,hx1,hfl,haf1⟩:=Ctx.good hR.mn hg hx hC
   have hS:Stand t0 ((g.p,((X.length-1:Nat):Int))::fs1) (l.length-1):=.inl ⟨fs1,g,X,a,X.length-1,rfl,hC,by omega,by omega⟩
   have hR:=hK _ hI.f
   obtain ⟨hg,hx,hl,hroot,haf⟩:=hR.rt
   obtain ⟨fs2,g2,X2,kp2,i2,y,e2,hN2,hi2,hy,hq,hfs2⟩:=hS.item hR.mn hg hx
   have hhi2:=Gt.high hR.mn hg hx
   rw [hl] at hhi2
   rw [e2] at hI hS
   obtain ⟨b,o,c,hTop⟩:=hI.top
   refine Ud 12 16448 (by kernel_rfl) (Ul 3 rfl hTop.c5 (Ul 3 rfl hTop.c5 (Ub 1 (((fs2.length:Nat):Int)) rfl (by omega) (Ux 0 (fs2.length) rfl (by omega) (by omega) (Uf 1 [0,4] rfl (Ut 1 rfl (Ud 17 12956221696 (by kernel_rfl) (Ul 4 rfl hTop.cp (Ul 2 rfl hN2.c2 (Uq 2 rfl (O.fa (off:=1) rfl rfl rfl rfl ⟨_,_,_,underlying131,rfl,rfl,sizeOf3⟩ rfl ?_)))))))))))
   refine Ul 0 rfl hTop.ci (Ux 0 i2 rfl (by omega) hi2 (Us 0 rfl (hN2.sl.item hy) rfl (Uq 2 rfl (O.st3 (vs:=(EJ.enc y)) rfl rfl sizeOf27 rfl rfl rfl rfl rfl hI.wk ?_))))
   intro H9 W9
   have hI9:=hI.set6 W9
   refine Uf 0 [] rfl (Ut 1 rfl (Ur 1 0 rfl (Uf 1 [2] rfl ?_)))
   rw [hl] at hq
   refine Go'.ret (vs:=[_]) func158 results158 ⟨rfl,trivial⟩ ?_
   exact ⟨congrArg Value.bool (decide_eq_true hl0).symm,_,_,_,_,_,_,hI9,by rw [if_pos hl0];exact ⟨rfl,hq,_,_,rfl,hS⟩⟩
theorem iNext_gen {B:World} {H:Mem} {it tr:Nat} {mt sa se:Bool} {Z:Nat→Prop} {fr:List (Nat×Int)} {kv:Int×Int} {P:Ps} {S:Nat→Prop} {l:List (Int×Int)} {h0:Nat} {t0:Gt EJ h0} (hI:Itr EJ H H it tr mt Z true sa se Z fr kv) (hT:TreeR H tr P S l (some ⟨h0,t0⟩)) (hsi:¬S it) (hsz:∀b,S b→¬Z b) {q:Nat} (hG:Gap t0 fr q):
  Fn Try.prog B 159 [.pointer (some ⟨it,0,none⟩)] H (fun v H'=>v=.bool (decide (q<l.length))∧ItPost EJ H H' it tr mt Z (some ⟨h0,t0⟩) l (if q<l.length then some (q) else none)):=by
 have hK:∀H',Fr (fun b _=>b=it∨Z b) H H'→TreeR H' tr P S l (some ⟨h0,t0⟩):=fun H' hf=>hT.keep hf fun b o hs hz=>hz.elim (fun e=>hsi (e▸hs)) (hsz b hs)
 have hll:=hT.ll
 rcases hG with ⟨fs,g,X,a,i,rfl,hC,hi,hq0⟩|⟨fs,h1,g,X,K,a,i,rfl,hC,hi,hq0⟩
 ·
  obtain ⟨hfs,hXl⟩:fs.length≤4294967296∧X.length≤4294967296:=by
   have hR:=hK _ hI.f
   obtain ⟨hg,hx,hl,hroot,haf⟩:=hR.rt
   have h2:=Gt.high hR.mn hg hx
   have h3:=(Ctx.good hR.mn hg hx hC).2.2.1
   have h4:X.length≤_:=Ctx.xl hR.mn hg hx hC
   rw [hl] at h2 h4
   exact ⟨by omega,by omega⟩
  obtain ⟨b,o,c,hTop⟩:=hI.top
  refine fn_of func159 rfl ntmps159 ?_
  refine (show Go' _ _ _ _ 195 [(0,_)] [.code _] _ from ?_)
  refine Ut 1 rfl (Ur 1 0 rfl (Uf 1 [0,2] rfl (Ut 2 rfl (Ur 5 64 rfl (Ul 3 rfl hI.c0 (O.isNil rfl rfl rfl rfl underlying86 rfl rfl (Uf 0 [0,2,9] rfl (Go'.condF rfl (Ut 3 rfl (Ur 5 64 rfl (Ul 3 rfl hI.c2 ?_)))))))))))
  refine Uf 1 [0,2,14] rfl (Go'.condF rfl (Ut 3 rfl (Ur 6 64 rfl (Ul 3 rfl hTop.c5 (Uc 1 rfl (eqlF (by omega)) (Uf 0 [0,2,22] rfl (Go'.condF rfl (Ut 2 rfl (Ud 12 16448 (by kernel_rfl) (Ul 3 rfl hTop.c5 (Ul 3 rfl hTop.c5 ?_)))))))))))
  refine Ub 1 (((fs.length:Nat):Int)) rfl (by omega) (Ux 0 (fs.length) rfl (by omega) (by omega) (Uf 1 [0,2,3] rfl (Ut 1 rfl (Ur 8 32832 rfl (Uq 2 rfl (O.fa (off:=1) rfl rfl rfl rfl ⟨_,_,_,underlying131,rfl,rfl,sizeOf3⟩ rfl (Ul 0 rfl hTop.ci (Ua 0 (((i:Nat):Int)) rfl (by omega) (Uq 1 rfl (O.fa (off:=1) rfl rfl rfl rfl ⟨_,_,_,underlying131,rfl,rfl,sizeOf3⟩ rfl (O.st rfl rfl sizeOf3 rfl rfl rfl rfl rfl hTop.wi ?_)))))))))))
  intro H1 W1
  obtain ⟨hI1,hTop1⟩:=hI.sti hTop W1
  clear hI hTop
  have hI:=hI1
  have hTop:=hTop1
  clear hI1 hTop1
  refine ⟨trivial,?_⟩
  refine Uf 0 [0,2,3] rfl (Ut 2 rfl ?_)
  have hR:=hK _ hI.f
  obtain ⟨hg,hx,hl,hroot,haf⟩:=hR.rt
  have hN:NodeM EJ _ g X (.pointer none):=(Ctx.good hR.mn hg hx hC).1.1
  have hxm:X.length≤P.mx:=(Ctx.good hR.mn hg hx hC).1.2.2.2
  refine Ur 5 576 rfl (Ul 3 rfl hTop.cp (O.callQ rfl rfl rfl call133 rfl (leaf_spec hN.c3) trivial (Uf 0 [0,2,3,55] rfl (Go'.condT rfl (Ut 1 rfl ?_)))))
  by_cases hlt:i<X.length
  ·
   refine Ud 13 1065024 (by kernel_rfl) (Uq 2 rfl (O.fa (off:=1) rfl rfl rfl rfl ⟨_,_,_,underlying131,rfl,rfl,sizeOf3⟩ rfl (Ul 0 rfl hTop.ci (Ul 3 rfl hTop.cp (Ul 2 rfl hN.c2 (Uc 1 rfl (eqlF (by omega)) (Uf 0 [0,2,3,68] rfl (Go'.condF rfl (Ut 2 rfl ?_)))))))))
   have hS:Stand t0 ((g.p,((i:Nat):Int))::fs) q:=.inl ⟨fs,g,X,a,i,rfl,hC,hlt,hq0⟩
   have hR:=hK _ hI.f
   obtain ⟨hg,hx,hl,hroot,haf⟩:=hR.rt
   obtain ⟨fs2,g2,X2,kp2,i2,y,e2,hN2,hi2,hy,hq,hfs2⟩:=hS.item hR.mn hg hx
   have hhi2:=Gt.high hR.mn hg hx
   rw [hl] at hhi2
   rw [e2] at hI hS
   obtain ⟨b,o,c,hTop⟩:=hI.top
   refine Ud 12 16448 (by kernel_rfl) (Ul 3 rfl hTop.c5 (Ul 3 rfl hTop.c5 (Ub 1 (((fs2.length:Nat):Int)) rfl (by omega) (Ux 0 (fs2.length) rfl (by omega) (by omega) (Uf 1 [0,2,3] rfl (Ut 1 rfl (Ud 17 12956221696 (by kernel_rfl) (Ul 4 rfl hTop.cp (Ul 2 rfl hN2.c2 (Uq 2 rfl (O.fa (off:=1) rfl rfl rfl rfl ⟨_,_,_,underlying131,rfl,rfl,sizeOf3⟩ rfl ?_)))))))))))
   refine Ul 0 rfl hTop.ci (Ux 0 i2 rfl (by omega) hi2 (Us 0 rfl (hN2.sl.item hy) rfl (Uq 2 rfl (O.st3 (vs:=(EJ.enc y)) rfl rfl sizeOf27 rfl rfl rfl rfl rfl hI.wk ?_))))
   intro H9 W9
   have hI9:=hI.set6 W9
   refine Uf 0 [2] rfl (Ut 1 rfl (Ur 1 0 rfl (Uf 1 [2] rfl ?_)))
   rw [hl] at hq
   refine Go'.ret (vs:=[_]) func159 results159 ⟨rfl,trivial⟩ ?_
   have hql:q<l.length:=(List.getElem?_eq_some_iff.1 hq).1
   exact ⟨congrArg Value.bool (decide_eq_true hql).symm,_,_,_,_,_,_,hI9,by rw [if_pos hql];exact ⟨rfl,hq,_,_,rfl,hS⟩⟩
  ·
   obtain rfl:i=X.length:=by omega
   refine Ud 13 1065024 (by kernel_rfl) (Uq 2 rfl (O.fa (off:=1) rfl rfl rfl rfl ⟨_,_,_,underlying131,rfl,rfl,sizeOf3⟩ rfl (Ul 0 rfl hTop.ci (Ul 3 rfl hTop.cp (Ul 2 rfl hN.c2 (Uc 1 rfl (eqlT (by omega)) (Uf 0 [0,2,3,68] rfl (Go'.condT rfl (Ut 1 rfl (Go'.loop (Uk [0] rfl ?_)))))))))))
   refine Go'.ind (σ:=((h:Nat)×Gt EJ h)×(Nat×Int)×List (Nat×Int)) (fun s=>s.2.2.length) (fun s H'=>Itr EJ H H' it tr mt Z true sa se Z (s.2.1::s.2.2) kv∧s.2.2.length≤4294967296∧∃a,Ctx t0 s.2.2 s.1.1 s.1.2 a∧q=a+(Gt.L s.1.1 s.1.2).length)
    (fun s=>[(0,.pointer (some ⟨it,0,none⟩))]) (⟨0,((g,X):Gt EJ 0)⟩,_,fs) ⟨hI,hfs,_,hC,hq0⟩ rfl ?_
   clear hI hTop hC hR hg hx hl hroot haf hN hfs hxm
   rintro ⟨⟨h1,s1⟩,⟨p1,z1⟩,fs1⟩ H2 ⟨hI,hfs,a1,hC,hQ⟩ ih
   replace hI:Itr EJ H H2 it tr mt Z true sa se Z ((p1,z1)::fs1) kv:=hI
   replace hQ:q=a1+(Gt.L h1 s1).length:=hQ
   simp only at hfs hC ih
   obtain ⟨b,o,c,hTop⟩:=hI.top
   have hle:=hTop.le
   refine Ut 2 rfl (Ud 15 805372160 (by kernel_rfl) (Ul 4 rfl hTop.c5 (Ul 3 rfl hTop.c5 (Ub 1 (((fs1.length:Nat):Int)) rfl (by omega) (O.slc (jl:=0) (jh:=fs1.length) (jm:=c) rfl rfl rfl rfl underlying133 sizeOf131 rfl rfl ⟨_,by rfl⟩ rfl (by omega) (by omega) (by omega) (by simp) ?_)))))
   intro o2 ho2
   obtain rfl:o2=o:=by have:=ho2 (by omega);omega
   refine Uq 2 rfl (O.st3 rfl rfl sizeOf133 rfl rfl rfl rfl rfl (hI.w 14 (by decide)) ?_)
   intro H3 W3
   have hI3:=hI.pop hTop W3
   have h5:cl H3 it 14=some (.slice (some ⟨b,o2,none⟩) fs1.length c):=W3.at
   refine Uf 0 [0] rfl (Ut 2 rfl ?_)
   rcases fs1 with _|⟨⟨p2,z2⟩,fs2⟩
   ·
    refine Ur 6 64 rfl (Ul 3 rfl h5 (Uc 1 rfl (eqlT rfl) (Uf 0 [0,88] rfl (Go'.condT rfl (Ut 1 rfl (Ur 4 128 rfl (Uq 3 rfl (O.st rfl rfl sizeOf4 rfl rfl rfl rfl rfl (hI3.w 5 (by decide)) ?_))))))))
    intro H4 W4
    have hI4:=hI3.set4 W4
    refine ⟨trivial,?_⟩
    refine Uf 0 [0,88] rfl (Ut 1 rfl (Ur 1 0 rfl (Uf 1 [0,2,88] rfl (Go'.ret (vs:=[_]) func159 results159 ⟨rfl,trivial⟩ ?_))))
    have hR:=hK _ hI4.f
    obtain ⟨hg,hx,hl,hroot,haf⟩:=hR.rt
    obtain ⟨e,rfl⟩:=hC
    cases e
    have hn:¬q<l.length:=by rw [←hl];omega
    exact ⟨congrArg Value.bool (decide_eq_false hn).symm,_,_,_,_,_,_,hI4,by rw [if_neg hn];rfl⟩
   ·
    obtain ⟨g,X,K,i,a',e,hi1,hC',rfl⟩:=hC
    simp only [Prod.mk.injEq] at e
    obtain ⟨rfl,rfl⟩:=e
    rw [List.length_cons] at hfs h5
    have hR:=hK _ hI3.f
    obtain ⟨hg,hx,hl,hroot,haf⟩:=hR.rt
    have hgd:=(Ctx.good hR.mn hg hx hC').1
    have hN:NodeM EJ _ g X (.pointer (some ⟨g.cb,0,none⟩)):=hgd.1
    have hKL:(K.map (Gt.L h1)).length=X.length+1:=by rw [List.length_map];exact hgd.2.2.2.2.2.1
    have hkL:(K.map (Gt.L h1))[i]?=some (Gt.L h1 s1):=by rw [List.getElem?_map,hi1];rfl
    have hile:i<K.length:=(List.getElem?_eq_some_iff.1 hi1).1
    rw [List.length_map] at hKL
    have hXl:X.length≤4294967296:=by
     have h4:X.length≤_:=Ctx.xl hR.mn hg hx hC'
     rw [hl] at h4
     omega
    obtain ⟨b3,o3,c3,hTop3⟩:=hI3.top
    refine Ur 6 64 rfl (Ul 3 rfl h5 (Uc 1 rfl (eqlF (by omega)) (Uf 0 [0,88] rfl (Go'.condF rfl (Ut 2 rfl (Ud 12 16448 (by kernel_rfl) (Ul 3 rfl hTop3.c5 (Ul 3 rfl hTop3.c5 (Ub 1 (((fs2.length:Nat):Int)) rfl (by omega) (Ux 0 (fs2.length) rfl (by omega) (by omega) (Uf 1 [0,3,88] rfl ?_)))))))))))
    refine Ut 1 rfl ?_
    by_cases hlt:i<X.length
    ·
     refine Ud 13 1065024 (by kernel_rfl) (Uq 2 rfl (O.fa (off:=1) rfl rfl rfl rfl ⟨_,_,_,underlying131,rfl,rfl,sizeOf3⟩ rfl (Ul 0 rfl hTop3.ci (Ul 3 rfl hTop3.cp (Ul 2 rfl hN.c2 (Uc 1 rfl (lssT (by omega)) (Uf 0 [0,3,88,115] rfl (Go'.condT rfl (Ut 2 rfl ?_)))))))))
     have hS:Stand t0 ((g.p,((i:Nat):Int))::fs2) q:=.inr ⟨fs2,h1,g,X,K,a',i,rfl,hC',hlt,by rw [Pl.bl_succ hkL];omega⟩
     clear hI hTop
     have hI:=hI3
     have hR:=hK _ hI.f
     obtain ⟨hg,hx,hl,hroot,haf⟩:=hR.rt
     obtain ⟨fs2,g2,X2,kp2,i2,y,e2,hN2,hi2,hy,hq,hfs2⟩:=hS.item hR.mn hg hx
     have hhi2:=Gt.high hR.mn hg hx
     rw [hl] at hhi2
     rw [e2] at hI hS
     obtain ⟨b,o,c,hTop⟩:=hI.top
     refine Ud 12 16448 (by kernel_rfl) (Ul 3 rfl hTop.c5 (Ul 3 rfl hTop.c5 (Ub 1 (((fs2.length:Nat):Int)) rfl (by omega) (Ux 0 (fs2.length) rfl (by omega) (by omega) (Uf 1 [0,3] rfl (Ut 1 rfl (Ud 17 12956221696 (by kernel_rfl) (Ul 4 rfl hTop.cp (Ul 2 rfl hN2.c2 (Uq 2 rfl (O.fa (off:=1) rfl rfl rfl rfl ⟨_,_,_,underlying131,rfl,rfl,sizeOf3⟩ rfl ?_)))))))))))
     refine Ul 0 rfl hTop.ci (Ux 0 i2 rfl (by omega) hi2 (Us 0 rfl (hN2.sl.item hy) rfl (Uq 2 rfl (O.st3 (vs:=(EJ.enc y)) rfl rfl sizeOf27 rfl rfl rfl rfl rfl hI.wk ?_))))
     intro H9 W9
     have hI9:=hI.set6 W9
     refine Uf 0 [] rfl (Ut 1 rfl (Ur 1 0 rfl (Uf 1 [2] rfl ?_)))
     rw [hl] at hq
     refine Go'.ret (vs:=[_]) func159 results159 ⟨rfl,trivial⟩ ?_
     have hql:q<l.length:=(List.getElem?_eq_some_iff.1 hq).1
     exact ⟨congrArg Value.bool (decide_eq_true hql).symm,_,_,_,_,_,_,hI9,by rw [if_pos hql];exact ⟨rfl,hq,_,_,rfl,hS⟩⟩
    ·
     refine Ud 13 1065024 (by kernel_rfl) (Uq 2 rfl (O.fa (off:=1) rfl rfl rfl rfl ⟨_,_,_,underlying131,rfl,rfl,sizeOf3⟩ rfl (Ul 0 rfl hTop3.ci (Ul 3 rfl hTop3.cp (Ul 2 rfl hN.c2 (Uc 1 rfl (lssF (by omega)) (Uf 0 [0,3,88,115] rfl (Go'.condF rfl (Ut 2 rfl (Uk [0] rfl (Go'.inLoop ?_)))))))))))
     refine ih (⟨h1+1,((g,X,K):Gt EJ (h1+1))⟩,_,fs2) _ ⟨hI3,by simp only;omega,a',hC',?_⟩ (by simp only [List.length_cons];omega)
     have:=(Pl.inter_bl X (K.map (Gt.L h1)) (by rw [List.length_map];exact hKL) hkL).2.2.1 (by omega)
     have e:(Gt.L (h1+1) ((g,X,K):Gt EJ (h1+1))).length=(Pl.inter X (K.map (Gt.L h1))).length:=rfl
     simp only
     omega
 ·
  obtain ⟨hfs,hXl⟩:fs.length≤4294967296∧X.length≤4294967296:=by
   have hR:=hK _ hI.f
   obtain ⟨hg,hx,hl,hroot,haf⟩:=hR.rt
   have h2:=Gt.high hR.mn hg hx
   have h3:=(Ctx.good hR.mn hg hx hC).2.2.1
   have h4:X.length≤_:=Ctx.xl hR.mn hg hx hC
   rw [hl] at h2 h4
   exact ⟨by omega,by omega⟩
  obtain ⟨b,o,c,hTop⟩:=hI.top
  refine fn_of func159 rfl ntmps159 ?_
  refine (show Go' _ _ _ _ 195 [(0,_)] [.code _] _ from ?_)
  refine Ut 1 rfl (Ur 1 0 rfl (Uf 1 [0,2] rfl (Ut 2 rfl (Ur 5 64 rfl (Ul 3 rfl hI.c0 (O.isNil rfl rfl rfl rfl underlying86 rfl rfl (Uf 0 [0,2,9] rfl (Go'.condF rfl (Ut 3 rfl (Ur 5 64 rfl (Ul 3 rfl hI.c2 ?_)))))))))))
  refine Uf 1 [0,2,14] rfl (Go'.condF rfl (Ut 3 rfl (Ur 6 64 rfl (Ul 3 rfl hTop.c5 (Uc 1 rfl (eqlF (by omega)) (Uf 0 [0,2,22] rfl (Go'.condF rfl (Ut 2 rfl (Ud 12 16448 (by kernel_rfl) (Ul 3 rfl hTop.c5 (Ul 3 rfl hTop.c5 ?_)))))))))))
  refine Ub 1 (((fs.length:Nat):Int)) rfl (by omega) (Ux 0 (fs.length) rfl (by omega) (by omega) (Uf 1 [0,2,3] rfl (Ut 1 rfl (Ur 8 32832 rfl (Uq 2 rfl (O.fa (off:=1) rfl rfl rfl rfl ⟨_,_,_,underlying131,rfl,rfl,sizeOf3⟩ rfl (Ul 0 rfl hTop.ci (Ua 0 (((i+1:Nat):Int)) rfl (by omega) (Uq 1 rfl (O.fa (off:=1) rfl rfl rfl rfl ⟨_,_,_,underlying131,rfl,rfl,sizeOf3⟩ rfl (O.st rfl rfl sizeOf3 rfl rfl rfl rfl rfl hTop.wi ?_)))))))))))
  intro H1 W1
  obtain ⟨hI1,hTop1⟩:=hI.sti hTop W1
  clear hI hTop
  have hI:=hI1
  have hTop:=hTop1
  clear hI1 hTop1
  refine ⟨trivial,?_⟩
  refine Uf 0 [0,2,3] rfl (Ut 2 rfl ?_)
  have hR:=hK _ hI.f
  obtain ⟨hg,hx,hl,hroot,haf⟩:=hR.rt
  have hgd:=(Ctx.good hR.mn hg hx hC).1
  have hin:Inn _ P h1 g X ((Gt.ps h1 K).map some) K:=hgd.inn
  have hKl:K.length=X.length+1:=hgd.2.2.2.2.2.1
  have hol:((Gt.ps h1 K).map some).length=X.length+1:=by rw [List.length_map,Gt.ps,List.length_map];exact hKl
  obtain ⟨k0,hk0⟩:∃k,K[i+1]?=some k:=⟨K[i+1],List.getElem?_eq_getElem (by omega)⟩
  have hk0m:k0∈K:=List.mem_of_getElem? hk0
  have hok:((Gt.ps h1 K).map some)[i+1]?=some (some (Gt.p h1 k0)):=by rw [Gt.ps,List.map_map,List.getElem?_map,hk0];rfl
  have hkL:(K.map (Gt.L h1))[i+1]?=some (Gt.L h1 k0):=by rw [List.getElem?_map,hk0];rfl
  have hkat:=hin.k.at hok
  have hgk:=(hin.c.1 k0 hk0m).1
  obtain ⟨kpk,hNk⟩:=hgk.node
  have hk00:=hNk.c0
  rw [hgk.isoe] at hk00
  refine Ur 5 576 rfl (Ul 3 rfl hTop.cp (O.callQ rfl rfl rfl call133 rfl (leaf_spec hin.n.c3) trivial (Uf 0 [0,2,3,55] rfl (Go'.condF rfl (Ut 1 rfl (Ud 24 39586731409472 (by kernel_rfl) (Ul 3 rfl hI.c0 (Ul 3 rfl hTop.cp (Ul 2 rfl hin.n.c3 (Ul 1 rfl hin.k.c (Uq 2 rfl ?_)))))))))))
  refine O.fa (off:=1) rfl rfl rfl rfl ⟨_,_,_,underlying131,rfl,rfl,sizeOf3⟩ rfl (Ul 0 rfl hTop.ci (Ux 0 (i+1) rfl (by omega) (by omega) (Ul 3 rfl hI.c1 (O.callQ rfl rfl rfl call130 rfl (isoLoad_spec mt hkat hk00 hR.iso) trivial (Uf 1 [0,2,3,4] rfl (Ut 1 rfl ?_))))))
  unfold ptr
  have hC2:=hC.down hk0
  rw [←hq0] at hC2
  clear hTop hC hR hg hx hl hroot haf hgd hin hkat hgk hNk hk00
  have hC:=hC2
  clear hC2
  refine Go'.loop (Uk [0,4] rfl ?_)
  refine Go'.ind (σ:=((h:Nat)×Gt EJ h)×List (Nat×Int)×(Nat→Prop)) (fun s=>s.1.1) (fun s H'=>Itr EJ H H' it tr mt Z true sa se s.2.2 s.2.1 kv∧Ctx t0 s.2.1 s.1.1 s.1.2 q)
   (fun s=>[(0,.pointer (some ⟨it,0,none⟩)),(4,.pointer (some ⟨Gt.p s.1.1 s.1.2,0,none⟩))]) (⟨_,_⟩,_,_) ⟨hI,hC⟩ rfl ?_
  clear hI hC
  rintro ⟨⟨h1,s1⟩,fs1,Z1⟩ H2 ⟨hI,hC⟩ ih
  simp only at hI hC ih
  have hsv0:=hI.st
  obtain ⟨sv,hsv,hA⟩:=hsv0
  have hR:=hK _ hI.f
  obtain ⟨hg,hx,hl,hroot,haf⟩:=hR.rt
  obtain ⟨hgd,hx1,hfl,haf1⟩:=Ctx.good hR.mn hg hx hC
  have hhi:=Gt.high hR.mn hg hx
  rw [hl] at hhi
  refine (show Go' _ _ _ _ _ [(0,.pointer (some ⟨it,0,none⟩)),(4,.pointer (some ⟨Gt.p h1 s1,0,none⟩))] _ _ from ?_)
  refine Ut 2 rfl (Ur 12 8552704 rfl (Ul 4 rfl hsv (Uq 1 rfl (O.bld (cs:=(EK.enc (Gt.p h1 s1,(0:Int)))) rfl rfl rfl rfl (st131) rfl (by kernel_rfl) (O.bsl (cs:=(EK.enc (Gt.p h1 s1,(0:Int)))) rfl rfl rfl ⟨underlying133,sizeOf131,zeroValue131,⟨_,typeInfo131,rfl⟩,rfl,by decide,by decide⟩ rfl (by decide) (by kernel_rfl) ?_)))))
  intro H3 M3
  have hs3:=M3.size
  have hA3:=hA.fr (M3.fr nowhere) (fun _ _ _ _=>nw)
  have m3:Rd H3 H2.size 0 (row EK [(Gt.p h1 s1,(0:Int))]):=M3.rd _ [] (by simp [row,EK])
  refine ⟨trivial,?_⟩
  refine O.appA (E:=EK) (Y:=[(Gt.p h1 s1,(0:Int))]) rfl rfl rfl ⟨underlying133,sizeOf131,zeroValue131,⟨_,typeInfo131,rfl⟩,rfl,by decide,by decide⟩ rfl hA3 rfl ⟨_,_,_,rfl,m3⟩ (Nat.succ_pos _) (Nat.le_trans (Nat.mul_le_mul_left _ (Nat.le_of_ble_eq_true (n:=_) (m:=4096) rfl)) (by rw [List.length_reverse];simp only [List.length_singleton];omega)) (by rw [List.length_reverse];simp only [List.length_singleton];omega) ?_
  intro v4 H4 hA4 hF4 hs4
  obtain ⟨a4,m4,c4,rfl⟩:=hA4.form
  have hw4:Wr H4 it 14 1:=hF4.wr ((M3.fr nowhere).wr (hI.w 14 (by decide)))
  refine ⟨trivial,?_⟩
  refine Uq 2 rfl (O.st rfl rfl sizeOf133 rfl rfl rfl rfl rfl hw4 ?_)
  intro H5 W5
  replace hI:=hI.push (M3.fr nowhere) hF4 hA4 W5
  refine ⟨trivial,?_⟩
  refine Uf 0 [0,4] rfl (Ut 2 rfl ?_)
  clear hR hg hx hl hroot haf hgd hx1 hfl haf1
  have hR:=hK _ hI.f
  obtain ⟨hg,hx,hl,hroot,haf⟩:=hR.rt
  obtain ⟨hgd,hx1,hfl,haf1⟩:=Ctx.good hR.mn hg hx hC
  rcases h1 with _|h1
  rotate_left
  ·
   obtain ⟨g,X,K⟩:=s1
   have hin:Inn _ P h1 g X ((Gt.ps h1 K).map some) K:=hgd.inn
   have hKl:K.length=X.length+1:=hgd.2.2.2.2.2.1
   have hol:((Gt.ps h1 K).map some).length=X.length+1:=by rw [List.length_map,Gt.ps,List.length_map];exact hKl
   have hKL:(K.map (Gt.L h1)).length=X.length+1:=by rw [List.length_map];exact hKl
   obtain ⟨k0,hk0⟩:∃k,K[0]?=some k:=⟨K[0],List.getElem?_eq_getElem (by omega)⟩
   have hk0m:k0∈K:=List.mem_of_getElem? hk0
   have hok:((Gt.ps h1 K).map some)[0]?=some (some (Gt.p h1 k0)):=by rw [Gt.ps,List.map_map,List.getElem?_map,hk0];rfl
   have hkL:(K.map (Gt.L h1))[0]?=some (Gt.L h1 k0):=by rw [List.getElem?_map,hk0];rfl
   have hkat:=hin.k.at hok
   have hgk:=(hin.c.1 k0 hk0m).1
   obtain ⟨kpk,hNk⟩:=hgk.node
   have hk00:=hNk.c0
   rw [hgk.isoe] at hk00
   refine Ur 2 8 rfl (Uq 1 rfl (O.callQ rfl rfl rfl call133 rfl (leaf_spec hin.n.c3) trivial (Uf 0 [0,4,151] rfl (Go'.condF rfl (Ut 1 rfl (Ud 17 2416197696 (by kernel_rfl) (Ul 3 rfl hI.c0 (Ul 3 rfl hin.n.c3 (Ul 1 rfl hin.k.c (Ux 0 0 rfl rfl (by omega) (Ul 3 rfl hI.c1 ?_)))))))))))
   refine O.callQ rfl rfl rfl call130 rfl (isoLoad_spec mt hkat hk00 hR.iso) trivial (Uf 1 [0,4,151] rfl (Ut 1 rfl ?_))
   unfold ptr
   refine Uk [0,4] rfl (Go'.inLoop ?_)
   refine ih (⟨h1,k0⟩,_,_) _ ⟨hI,?_⟩ (by simp only;omega)
   have:=hC.down hk0
   rw [Pl.bl_0] at this
   exact this
  ·
   obtain ⟨g,X⟩:=s1
   have hN:NodeM EJ _ g X (.pointer none):=hgd.1
   have hX1:1≤X.length:=hx1
   replace hI:Itr EJ H H5 it tr mt Z true sa se _ ((g.p,(0:Int))::fs1) kv:=hI
   refine Ur 2 8 rfl (Uq 1 rfl (O.callQ rfl rfl rfl call133 rfl (leaf_spec hN.c3) trivial (Uf 0 [0,4,151] rfl (Go'.condT rfl (Ut 2 rfl ?_)))))
   have hS:Stand t0 ((g.p,(0:Int))::fs1) (q):=.inl ⟨fs1,g,X,q,0,rfl,hC,hX1,rfl⟩
   have hR:=hK _ hI.f
   obtain ⟨hg,hx,hl,hroot,haf⟩:=hR.rt
   obtain ⟨fs2,g2,X2,kp2,i2,y,e2,hN2,hi2,hy,hq,hfs2⟩:=hS.item hR.mn hg hx
   have hhi2:=Gt.high hR.mn hg hx
   rw [hl] at hhi2
   rw [e2] at hI hS
   obtain ⟨b,o,c,hTop⟩:=hI.top
   refine Ud 12 16448 (by kernel_rfl) (Ul 3 rfl hTop.c5 (Ul 3 rfl hTop.c5 (Ub 1 (((fs2.length:Nat):Int)) rfl (by omega) (Ux 0 (fs2.length) rfl (by omega) (by omega) (Uf 1 [0,3] rfl (Ut 1 rfl (Ud 17 12956221696 (by kernel_rfl) (Ul 4 rfl hTop.cp (Ul 2 rfl hN2.c2 (Uq 2 rfl (O.fa (off:=1) rfl rfl rfl rfl ⟨_,_,_,underlying131,rfl,rfl,sizeOf3⟩ rfl ?_)))))))))))
   refine Ul 0 rfl hTop.ci (Ux 0 i2 rfl (by omega) hi2 (Us 0 rfl (hN2.sl.item hy) rfl (Uq 2 rfl (O.st3 (vs:=(EJ.enc y)) rfl rfl sizeOf27 rfl rfl rfl rfl rfl hI.wk ?_))))
   intro H9 W9
   have hI9:=hI.set6 W9
   refine Uf 0 [] rfl (Ut 1 rfl (Ur 1 0 rfl (Uf 1 [2] rfl ?_)))
   rw [hl] at hq
   refine Go'.ret (vs:=[_]) func159 results159 ⟨rfl,trivial⟩ ?_
   have hql:q<l.length:=(List.getElem?_eq_some_iff.1 hq).1
   exact ⟨congrArg Value.bool (decide_eq_true hql).symm,_,_,_,_,_,_,hI9,by rw [if_pos hql];exact ⟨rfl,hq,_,_,rfl,hS⟩⟩
theorem iPrev_gen {B:World} {H:Mem} {it tr:Nat} {mt sa se:Bool} {Z:Nat→Prop} {fr:List (Nat×Int)} {kv:Int×Int} {P:Ps} {S:Nat→Prop} {l:List (Int×Int)} {h0:Nat} {t0:Gt EJ h0} (hI:Itr EJ H H it tr mt Z true sa se Z fr kv) (hT:TreeR H tr P S l (some ⟨h0,t0⟩)) (hsi:¬S it) (hsz:∀b,S b→¬Z b) {q:Nat} (hG:Stand t0 fr q):
  Fn Try.prog B 160 [.pointer (some ⟨it,0,none⟩)] H (fun v H'=>v=.bool (decide (0<q))∧ItPost EJ H H' it tr mt Z (some ⟨h0,t0⟩) l (if 0<q then some (q-1) else none)):=by
 have hK:∀H',Fr (fun b _=>b=it∨Z b) H H'→TreeR H' tr P S l (some ⟨h0,t0⟩):=fun H' hf=>hT.keep hf fun b o hs hz=>hz.elim (fun e=>hsi (e▸hs)) (hsz b hs)
 have hll:=hT.ll
 rcases hG with ⟨fs,g,X,a,i,rfl,hC,hi,hq0⟩|⟨fs,h1,g,X,K,a,i,rfl,hC,hi,hq0⟩
 ·
  obtain ⟨hfs,hXl⟩:fs.length≤4294967296∧X.length≤4294967296:=by
   have hR:=hK _ hI.f
   obtain ⟨hg,hx,hl,hroot,haf⟩:=hR.rt
   have h2:=Gt.high hR.mn hg hx
   have h3:=(Ctx.good hR.mn hg hx hC).2.2.1
   have h4:X.length≤_:=Ctx.xl hR.mn hg hx hC
   rw [hl] at h2 h4
   exact ⟨by omega,by omega⟩
  obtain ⟨b,o,c,hTop⟩:=hI.top
  refine fn_of func160 rfl ntmps160 ?_
  refine (show Go' _ _ _ _ 210 [(0,_)] [.code _] _ from ?_)
  refine Ut 1 rfl (Ur 1 0 rfl (Uf 1 [0,2] rfl (Ut 2 rfl (Ur 5 64 rfl (Ul 3 rfl hI.c0 (O.isNil rfl rfl rfl rfl underlying86 rfl rfl (Uf 0 [0,2,9] rfl (Go'.condF rfl (Ut 3 rfl (Ur 5 64 rfl (Ul 3 rfl hI.c2 ?_)))))))))))
  refine Uf 1 [0,2,14] rfl (Go'.condF rfl (Ut 3 rfl (Ur 6 64 rfl (Ul 3 rfl hTop.c5 (Uc 1 rfl (eqlF (by omega)) (Uf 0 [0,2,20] rfl (Go'.condF rfl (Ut 2 rfl (Ud 12 16448 (by kernel_rfl) (Ul 3 rfl hTop.c5 (Ul 3 rfl hTop.c5 ?_)))))))))))
  refine Ub 1 (((fs.length:Nat):Int)) rfl (by omega) (Ux 0 (fs.length) rfl (by omega) (by omega) (Uf 1 [0,2,3] rfl (Ut 2 rfl ?_)))
  have hR:=hK _ hI.f
  obtain ⟨hg,hx,hl,hroot,haf⟩:=hR.rt
  have hN:NodeM EJ _ g X (.pointer none):=(Ctx.good hR.mn hg hx hC).1.1
  have hxm:X.length≤P.mx:=(Ctx.good hR.mn hg hx hC).1.2.2.2
  refine Ur 5 576 rfl (Ul 3 rfl hTop.cp (O.callQ rfl rfl rfl call133 rfl (leaf_spec hN.c3) trivial (Uf 0 [0,2,3,46] rfl (Go'.condT rfl (Ut 1 rfl ?_)))))
  clear hR hg hx hl hroot haf hN
  refine Ur 8 32832 rfl (Uq 2 rfl (O.fa (off:=1) rfl rfl rfl rfl ⟨_,_,_,underlying131,rfl,rfl,sizeOf3⟩ rfl (Ul 0 rfl hTop.ci (Ub 0 ((i:Int)-1) rfl (by omega) (Uq 1 rfl (O.fa (off:=1) rfl rfl rfl rfl ⟨_,_,_,underlying131,rfl,rfl,sizeOf3⟩ rfl (O.st rfl rfl sizeOf3 rfl rfl rfl rfl rfl hTop.wi ?_)))))))
  intro H1 W1
  obtain ⟨hI1,hTop1⟩:=hI.sti hTop W1
  clear hI hTop
  have hI:=hI1
  have hTop:=hTop1
  clear hI1 hTop1
  refine ⟨trivial,?_⟩
  refine Uf 0 [0,2,3] rfl (Ut 1 rfl ?_)
  by_cases hlt:0<i
  ·
   refine Ur 5 64 rfl (Uq 2 rfl (O.fa (off:=1) rfl rfl rfl rfl ⟨_,_,_,underlying131,rfl,rfl,sizeOf3⟩ rfl (Ul 0 rfl hTop.ci (Uc 0 rfl (eqlF (by omega)) (Uf 0 [0,2,3,58] rfl (Go'.condF rfl (Ut 2 rfl ?_)))))))
   have hS:Stand t0 ((g.p,(i:Int)-1)::fs) (q-1):=.inl ⟨fs,g,X,a,i-1,by congr 2;omega,hC,by omega,by omega⟩
   have h0q:0<q:=by omega
   have hR:=hK _ hI.f
   obtain ⟨hg,hx,hl,hroot,haf⟩:=hR.rt
   obtain ⟨fs2,g2,X2,kp2,i2,y,e2,hN2,hi2,hy,hq,hfs2⟩:=hS.item hR.mn hg hx
   have hhi2:=Gt.high hR.mn hg hx
   rw [hl] at hhi2
   rw [e2] at hI hS
   obtain ⟨b,o,c,hTop⟩:=hI.top
   refine Ud 12 16448 (by kernel_rfl) (Ul 3 rfl hTop.c5 (Ul 3 rfl hTop.c5 (Ub 1 (((fs2.length:Nat):Int)) rfl (by omega) (Ux 0 (fs2.length) rfl (by omega) (by omega) (Uf 1 [0,2,3] rfl (Ut 1 rfl (Ud 17 12956221696 (by kernel_rfl) (Ul 4 rfl hTop.cp (Ul 2 rfl hN2.c2 (Uq 2 rfl (O.fa (off:=1) rfl rfl rfl rfl ⟨_,_,_,underlying131,rfl,rfl,sizeOf3⟩ rfl ?_)))))))))))
   refine Ul 0 rfl hTop.ci (Ux 0 i2 rfl (by omega) hi2 (Us 0 rfl (hN2.sl.item hy) rfl (Uq 2 rfl (O.st3 (vs:=(EJ.enc y)) rfl rfl sizeOf27 rfl rfl rfl rfl rfl hI.wk ?_))))
   intro H9 W9
   have hI9:=hI.set6 W9
   refine Uf 0 [2] rfl (Ut 1 rfl (Ur 1 0 rfl (Uf 1 [2] rfl ?_)))
   rw [hl] at hq
   refine Go'.ret (vs:=[_]) func160 results160 ⟨rfl,trivial⟩ ?_
   exact ⟨congrArg Value.bool (decide_eq_true h0q).symm,_,_,_,_,_,_,hI9,by rw [if_pos h0q];exact ⟨rfl,hq,_,_,rfl,hS⟩⟩
  ·
   obtain rfl:i=0:=by omega
   refine Ur 5 64 rfl (Uq 2 rfl (O.fa (off:=1) rfl rfl rfl rfl ⟨_,_,_,underlying131,rfl,rfl,sizeOf3⟩ rfl (Ul 0 rfl hTop.ci (Uc 0 rfl (eqlT rfl) (Uf 0 [0,2,3,58] rfl (Go'.condT rfl (Ut 1 rfl (Go'.loop (Uk [0] rfl ?_)))))))))
   refine Go'.ind (σ:=((h:Nat)×Gt EJ h)×(Nat×Int)×List (Nat×Int)) (fun s=>s.2.2.length) (fun s H'=>Itr EJ H H' it tr mt Z true sa se Z (s.2.1::s.2.2) kv∧s.2.2.length≤4294967296∧Ctx t0 s.2.2 s.1.1 s.1.2 q)
    (fun s=>[(0,.pointer (some ⟨it,0,none⟩))]) (⟨0,((g,X):Gt EJ 0)⟩,_,fs) ⟨hI,hfs,by rw [hq0];exact hC⟩ rfl ?_
   clear hI hTop hC hfs hxm
   rintro ⟨⟨h1,s1⟩,⟨p1,z1⟩,fs1⟩ H2 ⟨hI,hfs,hC⟩ ih
   replace hI:Itr EJ H H2 it tr mt Z true sa se Z ((p1,z1)::fs1) kv:=hI
   simp only at hfs hC ih
   obtain ⟨b,o,c,hTop⟩:=hI.top
   have hle:=hTop.le
   refine Ut 2 rfl (Ud 15 805372160 (by kernel_rfl) (Ul 4 rfl hTop.c5 (Ul 3 rfl hTop.c5 (Ub 1 (((fs1.length:Nat):Int)) rfl (by omega) (O.slc (jl:=0) (jh:=fs1.length) (jm:=c) rfl rfl rfl rfl underlying133 sizeOf131 rfl rfl ⟨_,by rfl⟩ rfl (by omega) (by omega) (by omega) (by simp) ?_)))))
   intro o2 ho2
   obtain rfl:o2=o:=by have:=ho2 (by omega);omega
   refine Uq 2 rfl (O.st3 rfl rfl sizeOf133 rfl rfl rfl rfl rfl (hI.w 14 (by decide)) ?_)
   intro H3 W3
   have hI3:=hI.pop hTop W3
   have h5:cl H3 it 14=some (.slice (some ⟨b,o2,none⟩) fs1.length c):=W3.at
   refine Uf 0 [0] rfl (Ut 2 rfl ?_)
   rcases fs1 with _|⟨⟨p2,z2⟩,fs2⟩
   ·
    refine Ur 6 64 rfl (Ul 3 rfl h5 (Uc 1 rfl (eqlT rfl) (Uf 0 [0,78] rfl (Go'.condT rfl (Ut 1 rfl (Ur 4 128 rfl (Uq 3 rfl (O.st rfl rfl sizeOf4 rfl rfl rfl rfl rfl (hI3.w 4 (by decide)) ?_))))))))
    intro H4 W4
    have hI4:=hI3.set3 W4
    refine ⟨trivial,?_⟩
    refine Uf 0 [0,78] rfl (Ut 1 rfl (Ur 1 0 rfl (Uf 1 [0,2,78] rfl (Go'.ret (vs:=[_]) func160 results160 ⟨rfl,trivial⟩ ?_))))
    obtain ⟨e,rfl⟩:=hC
    have hn:¬0<0:=by omega
    exact ⟨congrArg Value.bool (decide_eq_false hn).symm,_,_,_,_,_,_,hI4,by rw [if_neg hn];rfl⟩
   ·
    obtain ⟨g,X,K,i,a',e,hi1,hC',hqa⟩:=hC
    simp only [Prod.mk.injEq] at e
    obtain ⟨rfl,rfl⟩:=e
    rw [List.length_cons] at hfs h5
    have hR:=hK _ hI3.f
    obtain ⟨hg,hx,hl,hroot,haf⟩:=hR.rt
    have hgd:=(Ctx.good hR.mn hg hx hC').1
    have hN:=hgd.1
    have hKL:K.length=X.length+1:=hgd.2.2.2.2.2.1
    have hile:i<K.length:=(List.getElem?_eq_some_iff.1 hi1).1
    have hxm:X.length≤P.mx:=hgd.2.2.2.2.1
    have hhi2:=Gt.high hR.mn hg hx
    rw [hl] at hhi2
    have hblX:=(Ctx.list hR.mn hg hx hC').2
    obtain ⟨b3,o3,c3,hTop3⟩:=hI3.top
    have hib:X.length≤4294967296:=by
     have h4:X.length≤_:=Ctx.xl hR.mn hg hx hC'
     rw [hl] at h4
     omega
    refine Ur 6 64 rfl (Ul 3 rfl h5 (Uc 1 rfl (eqlF (by omega)) (Uf 0 [0,78] rfl (Go'.condF rfl (Ut 2 rfl (Ud 12 16448 (by kernel_rfl) (Ul 3 rfl hTop3.c5 (Ul 3 rfl hTop3.c5 (Ub 1 (((fs2.length:Nat):Int)) rfl (by omega) (Ux 0 (fs2.length) rfl (by omega) (by omega) (Uf 1 [0,3,78] rfl ?_)))))))))))
    refine Ut 1 rfl (Ur 8 32832 rfl (Uq 2 rfl (O.fa (off:=1) rfl rfl rfl rfl ⟨_,_,_,underlying131,rfl,rfl,sizeOf3⟩ rfl (Ul 0 rfl hTop3.ci (Ub 0 ((i:Int)-1) rfl (by omega) (Uq 1 rfl (O.fa (off:=1) rfl rfl rfl rfl ⟨_,_,_,underlying131,rfl,rfl,sizeOf3⟩ rfl (O.st rfl rfl sizeOf3 rfl rfl rfl rfl rfl hTop3.wi ?_))))))))
    intro H4 W4
    obtain ⟨hI4,hTop4⟩:=hI3.sti hTop3 W4
    clear hI hTop
    have hI:=hI4
    refine ⟨trivial,?_⟩
    refine Uf 0 [0,3,78] rfl (Ut 1 rfl ?_)
    by_cases hlt:0<i
    ·
     refine Ur 5 64 rfl (Uq 2 rfl (O.fa (off:=1) rfl rfl rfl rfl ⟨_,_,_,underlying131,rfl,rfl,sizeOf3⟩ rfl (Ul 0 rfl hTop4.ci (Uc 0 rfl (gtrT (by omega)) (Uf 0 [0,3,78,104] rfl (Go'.condT rfl (Ut 2 rfl ?_)))))))
     obtain ⟨kp,hkp⟩:∃k,K[i-1]?=some k:=⟨K[i-1],List.getElem?_eq_getElem (by omega)⟩
     have hbs:=Pl.bl_succ (K:=K.map (Gt.L h1)) (i:=i-1) (k:=Gt.L h1 kp) (by rw [List.getElem?_map,hkp];rfl)
     rw [show i-1+1=i by omega] at hbs
     have h0q:0<q:=by omega
     have hS:Stand t0 ((g.p,(i:Int)-1)::fs2) (q-1):=.inr ⟨fs2,h1,g,X,K,a',i-1,by congr 2;omega,hC',by omega,by rw [show i-1+1=i by omega];omega⟩
     clear hR hg hx hl hroot haf hgd hN hhi2 hblX
     have hR:=hK _ hI.f
     obtain ⟨hg,hx,hl,hroot,haf⟩:=hR.rt
     obtain ⟨fs2,g2,X2,kp2,i2,y,e2,hN2,hi2,hy,hq,hfs2⟩:=hS.item hR.mn hg hx
     have hhi2:=Gt.high hR.mn hg hx
     rw [hl] at hhi2
     rw [e2] at hI hS
     obtain ⟨b,o,c,hTop⟩:=hI.top
     refine Ud 12 16448 (by kernel_rfl) (Ul 3 rfl hTop.c5 (Ul 3 rfl hTop.c5 (Ub 1 (((fs2.length:Nat):Int)) rfl (by omega) (Ux 0 (fs2.length) rfl (by omega) (by omega) (Uf 1 [0,3] rfl (Ut 1 rfl (Ud 17 12956221696 (by kernel_rfl) (Ul 4 rfl hTop.cp (Ul 2 rfl hN2.c2 (Uq 2 rfl (O.fa (off:=1) rfl rfl rfl rfl ⟨_,_,_,underlying131,rfl,rfl,sizeOf3⟩ rfl ?_)))))))))))
     refine Ul 0 rfl hTop.ci (Ux 0 i2 rfl (by omega) hi2 (Us 0 rfl (hN2.sl.item hy) rfl (Uq 2 rfl (O.st3 (vs:=(EJ.enc y)) rfl rfl sizeOf27 rfl rfl rfl rfl rfl hI.wk ?_))))
     intro H9 W9
     have hI9:=hI.set6 W9
     refine Uf 0 [] rfl (Ut 1 rfl (Ur 1 0 rfl (Uf 1 [2] rfl ?_)))
     rw [hl] at hq
     refine Go'.ret (vs:=[_]) func160 results160 ⟨rfl,trivial⟩ ?_
     exact ⟨congrArg Value.bool (decide_eq_true h0q).symm,_,_,_,_,_,_,hI9,by rw [if_pos h0q];exact ⟨rfl,hq,_,_,rfl,hS⟩⟩
    ·
     refine Ur 5 64 rfl (Uq 2 rfl (O.fa (off:=1) rfl rfl rfl rfl ⟨_,_,_,underlying131,rfl,rfl,sizeOf3⟩ rfl (Ul 0 rfl hTop4.ci (Uc 0 rfl (gtrF (by omega)) (Uf 0 [0,3,78,104] rfl (Go'.condF rfl (Ut 2 rfl (Uk [0] rfl (Go'.inLoop ?_)))))))))
     refine ih (⟨h1+1,((g,X,K):Gt EJ (h1+1))⟩,_,fs2) _ ⟨hI,by simp only;omega,?_⟩ (by simp only [List.length_cons];omega)
     obtain rfl:i=0:=by omega
     rw [Pl.bl_0] at hqa
     rw [hqa]
     exact hC'
 ·
  obtain ⟨hfs,hXl⟩:fs.length≤4294967296∧X.length≤4294967296:=by
   have hR:=hK _ hI.f
   obtain ⟨hg,hx,hl,hroot,haf⟩:=hR.rt
   have h2:=Gt.high hR.mn hg hx
   have h3:=(Ctx.good hR.mn hg hx hC).2.2.1
   have h4:X.length≤_:=Ctx.xl hR.mn hg hx hC
   rw [hl] at h2 h4
   exact ⟨by omega,by omega⟩
  obtain ⟨b,o,c,hTop⟩:=hI.top
  refine fn_of func160 rfl ntmps160 ?_
  refine (show Go' _ _ _ _ 210 [(0,_)] [.code _] _ from ?_)
  refine Ut 1 rfl (Ur 1 0 rfl (Uf 1 [0,2] rfl (Ut 2 rfl (Ur 5 64 rfl (Ul 3 rfl hI.c0 (O.isNil rfl rfl rfl rfl underlying86 rfl rfl (Uf 0 [0,2,9] rfl (Go'.condF rfl (Ut 3 rfl (Ur 5 64 rfl (Ul 3 rfl hI.c2 ?_)))))))))))
  refine Uf 1 [0,2,14] rfl (Go'.condF rfl (Ut 3 rfl (Ur 6 64 rfl (Ul 3 rfl hTop.c5 (Uc 1 rfl (eqlF (by omega)) (Uf 0 [0,2,20] rfl (Go'.condF rfl (Ut 2 rfl (Ud 12 16448 (by kernel_rfl) (Ul 3 rfl hTop.c5 (Ul 3 rfl hTop.c5 ?_)))))))))))
  refine Ub 1 (((fs.length:Nat):Int)) rfl (by omega) (Ux 0 (fs.length) rfl (by omega) (by omega) (Uf 1 [0,2,3] rfl (Ut 2 rfl ?_)))
  have hR:=hK _ hI.f
  obtain ⟨hg,hx,hl,hroot,haf⟩:=hR.rt
  have hgd:=(Ctx.good hR.mn hg hx hC).1
  have hin:Inn _ P h1 g X ((Gt.ps h1 K).map some) K:=hgd.inn
  have hKl:K.length=X.length+1:=hgd.2.2.2.2.2.1
  have hol:((Gt.ps h1 K).map some).length=X.length+1:=by rw [List.length_map,Gt.ps,List.length_map];exact hKl
  obtain ⟨k0,hk0⟩:∃k,K[i]?=some k:=⟨K[i],List.getElem?_eq_getElem (by omega)⟩
  have hk0m:k0∈K:=List.mem_of_getElem? hk0
  have hok:((Gt.ps h1 K).map some)[i]?=some (some (Gt.p h1 k0)):=by rw [Gt.ps,List.map_map,List.getElem?_map,hk0];rfl
  have hkL:(K.map (Gt.L h1))[i]?=some (Gt.L h1 k0):=by rw [List.getElem?_map,hk0];rfl
  have hkat:=hin.k.at hok
  have hgk:=(hin.c.1 k0 hk0m).1
  obtain ⟨kpk,hNk⟩:=hgk.node
  have hk00:=hNk.c0
  rw [hgk.isoe] at hk00
  refine Ur 5 576 rfl (Ul 3 rfl hTop.cp (O.callQ rfl rfl rfl call133 rfl (leaf_spec hin.n.c3) trivial (Uf 0 [0,2,3,46] rfl (Go'.condF rfl (Ut 1 rfl (Ud 24 39586731409472 (by kernel_rfl) (Ul 3 rfl hI.c0 (Ul 3 rfl hTop.cp (Ul 2 rfl hin.n.c3 (Ul 1 rfl hin.k.c (Uq 2 rfl ?_)))))))))))
  refine O.fa (off:=1) rfl rfl rfl rfl ⟨_,_,_,underlying131,rfl,rfl,sizeOf3⟩ rfl (Ul 0 rfl hTop.ci (Ux 0 i rfl (by omega) (by omega) (Ul 3 rfl hI.c1 (O.callQ rfl rfl rfl call130 rfl (isoLoad_spec mt hkat hk00 hR.iso) trivial (Uf 1 [0,2,3,4] rfl (Ut 1 rfl ?_))))))
  unfold ptr
  have hC2:=hC.down hk0
  rw [Pl.bl_succ hkL] at hq0
  have hkne:=(hin.c.1 k0 hk0m).2.1
  have hkh:=Gt.high hR.mn hgk (Nat.le_trans hR.mn hkne)
  have hQ:q=a+Pl.bl (K.map (Gt.L h1)) i+(Gt.L h1 k0).length:=by omega
  have h0q:0<q:=by omega
  clear hTop hC hR hg hx hl hroot haf hgd hin hkat hgk hNk hk00 hkne
  have hC:=hC2
  clear hC2
  refine Go'.loop (Uk [0,4] rfl ?_)
  refine Go'.ind (σ:=((h:Nat)×Gt EJ h)×List (Nat×Int)×(Nat→Prop)) (fun s=>s.1.1) (fun s H'=>Itr EJ H H' it tr mt Z true sa se s.2.2 s.2.1 kv∧∃a,Ctx t0 s.2.1 s.1.1 s.1.2 a∧q=a+(Gt.L s.1.1 s.1.2).length)
   (fun s=>[(0,.pointer (some ⟨it,0,none⟩)),(4,.pointer (some ⟨Gt.p s.1.1 s.1.2,0,none⟩))]) (⟨_,_⟩,_,_) ⟨hI,_,hC,hQ⟩ rfl ?_
  clear hI hC
  rintro ⟨⟨h1,s1⟩,fs1,Z1⟩ H2 ⟨hI,a,hC,hQ⟩ ih
  simp only at hI hC ih
  have hsv0:=hI.st
  obtain ⟨sv,hsv,hA⟩:=hsv0
  replace hQ:q=a+(Gt.L h1 s1).length:=hQ
  have hR:=hK _ hI.f
  obtain ⟨hg,hx,hl,hroot,haf⟩:=hR.rt
  obtain ⟨hgd,hx1,hfl,haf1⟩:=Ctx.good hR.mn hg hx hC
  have hhi:=Gt.high hR.mn hg hx
  rw [hl] at hhi
  obtain ⟨kp,hN⟩:=hgd.node
  refine (show Go' _ _ _ _ _ [(0,.pointer (some ⟨it,0,none⟩)),(4,.pointer (some ⟨Gt.p h1 s1,0,none⟩))] _ _ from ?_)
  refine Ut 2 rfl (UD (fun H'=>cl H' it 14=some sv) 17 13052936192 (by kernel_rfl) (hsv) (UL 4 rfl (fun _ h=>h) (Ul 4 rfl hN.c2 (Uq 1 rfl (O.bld (cs:=(EK.enc (Gt.p h1 s1,(((Gt.X h1 s1).length:Nat):Int)))) rfl rfl rfl rfl (st131) rfl (by kernel_rfl) (O.bsl (cs:=(EK.enc (Gt.p h1 s1,(((Gt.X h1 s1).length:Nat):Int)))) rfl rfl rfl ⟨underlying133,sizeOf131,zeroValue131,⟨_,typeInfo131,rfl⟩,rfl,by decide,by decide⟩ rfl (by decide) (by kernel_rfl) ?_))))))
  intro H3 M3
  have hs3:=M3.size
  have hA3:=hA.fr (M3.fr nowhere) (fun _ _ _ _=>nw)
  have m3:Rd H3 H2.size 0 (row EK [(Gt.p h1 s1,(((Gt.X h1 s1).length:Nat):Int))]):=M3.rd _ [] (by simp [row,EK])
  refine ⟨((M3.fr nowhere).keep hsv nw),?_⟩
  refine O.appA (E:=EK) (Y:=[(Gt.p h1 s1,(((Gt.X h1 s1).length:Nat):Int))]) rfl rfl rfl ⟨underlying133,sizeOf131,zeroValue131,⟨_,typeInfo131,rfl⟩,rfl,by decide,by decide⟩ rfl hA3 rfl ⟨_,_,_,rfl,m3⟩ (Nat.succ_pos _) (Nat.le_trans (Nat.mul_le_mul_left _ (Nat.le_of_ble_eq_true (n:=_) (m:=4096) rfl)) (by rw [List.length_reverse];simp only [List.length_singleton];omega)) (by rw [List.length_reverse];simp only [List.length_singleton];omega) ?_
  intro v4 H4 hA4 hF4 hs4
  obtain ⟨a4,m4,c4,rfl⟩:=hA4.form
  have hw4:Wr H4 it 14 1:=hF4.wr ((M3.fr nowhere).wr (hI.w 14 (by decide)))
  refine ⟨(hF4.keep ((M3.fr nowhere).keep hsv nw) hI.nz),?_⟩
  refine Uq 2 rfl (O.st3 rfl rfl sizeOf133 rfl rfl rfl rfl rfl hw4 ?_)
  intro H5 W5
  replace hI:=hI.push (M3.fr nowhere) hF4 hA4 W5
  refine Uf 0 [0,4] rfl (Ut 2 rfl ?_)
  clear hR hg hx hl hroot haf hgd hx1 hfl haf1 hN kp
  have hR:=hK _ hI.f
  obtain ⟨hg,hx,hl,hroot,haf⟩:=hR.rt
  obtain ⟨hgd,hx1,hfl,haf1⟩:=Ctx.good hR.mn hg hx hC
  rcases h1 with _|h1
  rotate_left
  ·
   obtain ⟨g,X,K⟩:=s1
   have hin:Inn _ P h1 g X ((Gt.ps h1 K).map some) K:=hgd.inn
   have hKl:K.length=X.length+1:=hgd.2.2.2.2.2.1
   have hol:((Gt.ps h1 K).map some).length=X.length+1:=by rw [List.length_map,Gt.ps,List.length_map];exact hKl
   have hKL:(K.map (Gt.L h1)).length=X.length+1:=by rw [List.length_map];exact hKl
   obtain ⟨k0,hk0⟩:∃k,K[X.length]?=some k:=⟨K[X.length],List.getElem?_eq_getElem (by omega)⟩
   have hk0m:k0∈K:=List.mem_of_getElem? hk0
   have hok:((Gt.ps h1 K).map some)[X.length]?=some (some (Gt.p h1 k0)):=by rw [Gt.ps,List.map_map,List.getElem?_map,hk0];rfl
   have hkL:(K.map (Gt.L h1))[X.length]?=some (Gt.L h1 k0):=by rw [List.getElem?_map,hk0];rfl
   have hkat:=hin.k.at hok
   have hgk:=(hin.c.1 k0 hk0m).1
   obtain ⟨kpk,hNk⟩:=hgk.node
   have hk00:=hNk.c0
   rw [hgk.isoe] at hk00
   refine Ur 2 8 rfl (Uq 1 rfl (O.callQ rfl rfl rfl call133 rfl (leaf_spec hin.n.c3) trivial (Uf 0 [0,4,145] rfl (Go'.condF rfl (Ut 1 rfl (Ud 22 2473968549952 (by kernel_rfl) (Ul 3 rfl hI.c0 (Ul 3 rfl hin.n.c3 (Ul 1 rfl hin.k.c (Ul 3 rfl hin.n.c2 (Ux 1 (X.length) rfl (by omega) (by omega) ?_)))))))))))
   refine Ul 3 rfl hI.c1 (O.callQ rfl rfl rfl call130 rfl (isoLoad_spec mt hkat hk00 hR.iso) trivial (Uf 1 [0,4,145] rfl (Ut 1 rfl ?_)))
   unfold ptr
   refine Uk [0,4] rfl (Go'.inLoop ?_)
   refine ih (⟨h1,k0⟩,(g.p,((X.length:Nat):Int))::fs1,_) _ ⟨hI,_,hC.down (i:=X.length) hk0,?_⟩ (by simp only;omega)
   have:=(Pl.inter_bl X (K.map (Gt.L h1)) hKL hkL).2.2.1 rfl
   have e:(Gt.L (h1+1) ((g,X,K):Gt EJ (h1+1))).length=(Pl.inter X (K.map (Gt.L h1))).length:=rfl
   simp only
   omega
  ·
   obtain ⟨g,X⟩:=s1
   have hN:NodeM EJ _ g X (.pointer none):=hgd.1
   have hX1:1≤X.length:=hx1
   replace hI:Itr EJ H H5 it tr mt Z true sa se _ ((g.p,(((X.length:Nat):Int):Int))::fs1) kv:=hI
   have hQ2:q=a+X.length:=hQ
   have hb4:a+X.length≤l.length:=by have:=(Ctx.list hR.mn hg hx hC).2;rw [hl] at this;exact this
   refine Ur 2 8 rfl (Uq 1 rfl (O.callQ rfl rfl rfl call133 rfl (leaf_spec hN.c3) trivial (Uf 0 [0,4,145] rfl (Go'.condT rfl (Ut 1 rfl ?_)))))
   obtain ⟨b,o,c,hTop⟩:=hI.top
   refine Ud 17 12901695552 (by kernel_rfl) (Ul 3 rfl hTop.c5 (Ul 3 rfl hTop.c5 (Ub 1 (((fs1.length:Nat):Int)) rfl (by omega) (Ux 0 (fs1.length) rfl (by omega) (by omega) (O.fa (off:=1) rfl rfl rfl rfl ⟨_,_,_,underlying131,rfl,rfl,sizeOf3⟩ rfl (Ul 0 rfl hTop.ci (Ub 0 (((X.length-1:Nat):Int)) rfl (by omega) (Ux 0 (fs1.length) rfl (by omega) (by omega) (O.fa (off:=1) rfl rfl rfl rfl ⟨_,_,_,underlying131,rfl,rfl,sizeOf3⟩ rfl (O.st3 rfl rfl sizeOf3 rfl rfl rfl rfl rfl hTop.wi ?_))))))))))
   intro H6 W6
   obtain ⟨hI6,hTop6⟩:=hI.sti hTop W6
   clear hI hTop hR hg hx hl hroot haf hgd hx1 hfl haf1
   have hI:=hI6
   clear hI6
   refine Uf 0 [0,4,145] rfl (Ut 2 rfl ?_)
   have hR:=hK _ hI.f
   obtain ⟨hg,hx,hl,hroot,haf⟩:=hR.rt
   obtain ⟨hgd,hx1,hfl,haf1⟩:=Ctx.good hR.mn hg hx hC
   have hS:Stand t0 ((g.p,((X.length-1:Nat):Int))::fs1) (q-1):=.inl ⟨fs1,g,X,a,X.length-1,rfl,hC,by omega,by omega⟩
   have hR:=hK _ hI.f
   obtain ⟨hg,hx,hl,hroot,haf⟩:=hR.rt
   obtain ⟨fs2,g2,X2,kp2,i2,y,e2,hN2,hi2,hy,hq,hfs2⟩:=hS.item hR.mn hg hx
   have hhi2:=Gt.high hR.mn hg hx
   rw [hl] at hhi2
   rw [e2] at hI hS
   obtain ⟨b,o,c,hTop⟩:=hI.top
   refine Ud 12 16448 (by kernel_rfl) (Ul 3 rfl hTop.c5 (Ul 3 rfl hTop.c5 (Ub 1 (((fs2.length:Nat):Int)) rfl (by omega) (Ux 0 (fs2.length) rfl (by omega) (by omega) (Uf 1 [0,3] rfl (Ut 1 rfl (Ud 17 12956221696 (by kernel_rfl) (Ul 4 rfl hTop.cp (Ul 2 rfl hN2.c2 (Uq 2 rfl (O.fa (off:=1) rfl rfl rfl rfl ⟨_,_,_,underlying131,rfl,rfl,sizeOf3⟩ rfl ?_)))))))))))
   refine Ul 0 rfl hTop.ci (Ux 0 i2 rfl (by omega) hi2 (Us 0 rfl (hN2.sl.item hy) rfl (Uq 2 rfl (O.st3 (vs:=(EJ.enc y)) rfl rfl sizeOf27 rfl rfl rfl rfl rfl hI.wk ?_))))
   intro H9 W9
   have hI9:=hI.set6 W9
   refine Uf 0 [] rfl (Ut 1 rfl (Ur 1 0 rfl (Uf 1 [2] rfl ?_)))
   rw [hl] at hq
   refine Go'.ret (vs:=[_]) func160 results160 ⟨rfl,trivial⟩ ?_
   exact ⟨congrArg Value.bool (decide_eq_true h0q).symm,_,_,_,_,_,_,hI9,by rw [if_pos h0q];exact ⟨rfl,hq,_,_,rfl,hS⟩⟩
end
end Go.Bt.FG
namespace Go.Bt.FG
open Go Go.Proofs Go.Proofs.Try
set_option maxRecDepth 20000
set_option maxHeartbeats 4000000
set_option linter.unusedSectionVars false
section
variable [Inhabited Cx]
theorem iNext_spec {B:World} {H:Mem} {it tr:Nat} {mt sk sa se:Bool} {Z:Nat→Prop} {fr:List (Nat×Int)} {kv:Int×Int} {P:Ps} {S:Nat→Prop} {l:List (Int×Int)} {r:Option ((h:Nat)×Gt EJ h)} (hI:Itr EJ H H it tr mt Z sk sa se Z fr kv) (hT:TreeR H tr P S l r) (hsi:¬S it) (hsz:∀b,S b→¬Z b) {st:Option Nat} (hSt:StI r l sk fr kv st):
  Fn Try.prog B 159 [.pointer (some ⟨it,0,none⟩)] H (fun v H'=>∃b st',v=.bool b∧ItPost EJ H H' it tr mt Z r l st'∧(∀q,st=some q→b=decide (q+1<l.length)∧st'=if q+1<l.length then some (q+1) else none)∧(l=[]→b=false∧st'=none)):=by
 rcases st with _|q
 rotate_left
 ·
  obtain ⟨rfl,hq,h0,t0,rfl,hS⟩:=hSt
  exact (iNext_gen hI hT hsi hsz hS.gap).mono fun v H' ⟨e,hp⟩=>⟨_,_,e,hp,fun q' e'=>by cases e';exact ⟨rfl,rfl⟩,fun e'=>by subst e';simp at hq⟩
 have hSt':fr=[]:=hSt
 subst hSt'
 have hK:∀H',Fr (fun b _=>b=it∨Z b) H H'→TreeR H' tr P S l r:=fun H' hf=>hT.keep hf fun b o hs hz=>hz.elim (fun e=>hsi (e▸hs)) (hsz b hs)
 have hll:=hT.ll
 have hno:∀{b:Bool} {st':Option Nat} (q:Nat),(none:Option Nat)=some q→b=decide (q+1<l.length)∧st'=if q+1<l.length then some (q+1) else none:=fun q e=>by cases e
 obtain ⟨sv,hsv,hA⟩:=hI.st
 obtain ⟨a0,c0,rfl⟩:∃a c,sv=.slice a 0 c:=by
  rcases hA with ⟨e,_⟩|⟨b,o,c,e,_⟩
  · exact ⟨_,_,e⟩
  · exact ⟨_,_,e⟩
 have hnl:l=[]→r=none:=by
  intro e
  have hrt:=hT.rt
  rcases r with _|⟨h0,t0⟩
  · rfl
  ·
   obtain ⟨hg,hx,hl,_⟩:=hrt
   have:=Gt.high hT.mn hg hx
   rw [hl,e] at this
   simp at this
 refine fn_of func159 rfl ntmps159 ?_
 refine (show Go' _ _ _ _ 195 [(0,_)] [.code _] _ from ?_)
 refine Ut 1 rfl (Ur 1 0 rfl (Uf 1 [0,2] rfl (Ut 2 rfl (Ur 5 64 rfl (Ul 3 rfl hI.c0 (O.isNil rfl rfl rfl rfl underlying86 rfl rfl (Uf 0 [0,2,9] rfl (Go'.condF rfl (Ut 3 rfl ?_)))))))))
 rcases sk with _|_
 ·
  refine Ur 5 64 rfl (Ul 3 rfl hI.c2 (Uf 1 [0,2,14] rfl (Go'.condT rfl (Ut 1 rfl (Ur 3 8 rfl (Uq 1 rfl (O.call rfl rfl rfl call163 rfl (iFirst_spec hI hT hsi hsz) ?_)))))))
  rintro _ H1 ⟨rfl,hp⟩
  refine ⟨trivial,?_⟩
  refine Uf 1 [0,2] rfl (Go'.ret (vs:=[_]) func159 results159 ⟨rfl,trivial⟩ ?_)
  exact ⟨_,_,rfl,hp,hno,fun e=>by subst e;exact ⟨rfl,rfl⟩⟩
 ·
  refine Ur 5 64 rfl (Ul 3 rfl hI.c2 (Uf 1 [0,2,14] rfl (Go'.condF rfl (Ut 3 rfl (Ur 6 64 rfl (Ul 3 rfl hsv (Uc 1 rfl (eqlT rfl) (Uf 0 [0,2,22] rfl (Go'.condT rfl (Ut 2 rfl ?_))))))))))
  rcases sa with _|_
  ·
   refine Ur 4 64 rfl (Ul 3 rfl hI.c3 (Uf 0 [0,2,26] rfl (Go'.condF rfl (Ut 2 rfl (Ur 1 0 rfl (Uf 1 [0,2] rfl (Go'.ret (vs:=[_]) func159 results159 ⟨rfl,trivial⟩ ?_)))))))
   exact ⟨_,none,rfl,⟨_,_,_,_,_,_,hI,rfl⟩,hno,fun _=>⟨rfl,rfl⟩⟩
  ·
   refine Ur 4 64 rfl (Ul 3 rfl hI.c3 (Uf 0 [0,2,26] rfl (Go'.condT rfl (Ut 1 rfl ?_))))
   have hf:=iFirst_spec (B:=B) hI hT hsi hsz
   by_cases hl0:0<l.length
   ·
    rw [decide_eq_true hl0,if_pos hl0] at hf
    refine Ur 7 520 rfl (Uq 1 rfl (O.call rfl rfl rfl call163 rfl hf ?_))
    rintro _ H1 ⟨rfl,hp⟩
    obtain ⟨sk2,sa2,se2,Z2,fr2,kv2,hI2,hst⟩:=hp
    obtain ⟨rfl,hq,h0,t0,rfl,hS⟩:=hst
    have hsz2:∀b,S b→¬Z2 b:=fun b hs hz=>(hI2.zz b hz).elim (hsz b hs) (fun h=>by have:=hT.lt b hs;omega)
    refine ⟨trivial,?_⟩
    refine Uq 2 rfl (O.call rfl rfl rfl call159 rfl (iNext_gen hI2.re (hK _ hI2.f) hsi hsz2 hS.gap) ?_)
    rintro _ H3 ⟨rfl,hp3⟩
    refine ⟨trivial,?_⟩
    refine Uf 2 [0,2] rfl (Go'.ret (vs:=[_]) func159 results159 ⟨rfl,trivial⟩ ?_)
    exact ⟨_,_,rfl,ItPost.trans (P:=P) (S:=S) hI2 hp3,hno,fun e=>by subst e;simp at hl0⟩
   ·
    rw [decide_eq_false hl0,if_neg hl0] at hf
    refine Ur 7 520 rfl (Uq 1 rfl (O.call rfl rfl rfl call163 rfl hf ?_))
    rintro _ H1 ⟨rfl,hp⟩
    refine ⟨trivial,?_⟩
    refine Uq 2 rfl (Pl.pass2 rfl rfl rfl rfl trivial (Uf 2 [0,2] rfl (Go'.ret (vs:=[_]) func159 results159 ⟨rfl,trivial⟩ ?_)))
    exact ⟨_,_,rfl,hp,hno,fun _=>⟨rfl,rfl⟩⟩
theorem iPrev_spec {B:World} {H:Mem} {it tr:Nat} {mt sk sa se:Bool} {Z:Nat→Prop} {fr:List (Nat×Int)} {kv:Int×Int} {P:Ps} {S:Nat→Prop} {l:List (Int×Int)} {r:Option ((h:Nat)×Gt EJ h)} (hI:Itr EJ H H it tr mt Z sk sa se Z fr kv) (hT:TreeR H tr P S l r) (hsi:¬S it) (hsz:∀b,S b→¬Z b) {st:Option Nat} (hSt:StI r l sk fr kv st):
  Fn Try.prog B 160 [.pointer (some ⟨it,0,none⟩)] H (fun v H'=>∃b st',v=.bool b∧ItPost EJ H H' it tr mt Z r l st'∧(∀q,st=some q→b=decide (0<q)∧st'=if 0<q then some (q-1) else none)∧(l=[]→b=false∧st'=none)):=by
 rcases st with _|q
 rotate_left
 ·
  obtain ⟨rfl,hq,h0,t0,rfl,hS⟩:=hSt
  exact (iPrev_gen hI hT hsi hsz hS).mono fun v H' ⟨e,hp⟩=>⟨_,_,e,hp,fun q' e'=>by cases e';exact ⟨rfl,rfl⟩,fun e'=>by subst e';simp at hq⟩
 have hSt':fr=[]:=hSt
 subst hSt'
 have hK:∀H',Fr (fun b _=>b=it∨Z b) H H'→TreeR H' tr P S l r:=fun H' hf=>hT.keep hf fun b o hs hz=>hz.elim (fun e=>hsi (e▸hs)) (hsz b hs)
 have hll:=hT.ll
 have hno:∀{b:Bool} {st':Option Nat} (q:Nat),(none:Option Nat)=some q→b=decide (0<q)∧st'=if 0<q then some (q-1) else none:=fun q e=>by cases e
 obtain ⟨sv,hsv,hA⟩:=hI.st
 obtain ⟨a0,c0,rfl⟩:∃a c,sv=.slice a 0 c:=by
  rcases hA with ⟨e,_⟩|⟨b,o,c,e,_⟩
  · exact ⟨_,_,e⟩
  · exact ⟨_,_,e⟩
 have hnl:l=[]→r=none:=by
  intro e
  have hrt:=hT.rt
  rcases r with _|⟨h0,t0⟩
  · rfl
  ·
   obtain ⟨hg,hx,hl,_⟩:=hrt
   have:=Gt.high hT.mn hg hx
   rw [hl,e] at this
   simp at this
 refine fn_of func160 rfl ntmps160 ?_
 refine (show Go' _ _ _ _ 210 [(0,_)] [.code _] _ from ?_)
 refine Ut 1 rfl (Ur 1 0 rfl (Uf 1 [0,2] rfl (Ut 2 rfl (Ur 5 64 rfl (Ul 3 rfl hI.c0 (O.isNil rfl rfl rfl rfl underlying86 rfl rfl (Uf 0 [0,2,9] rfl (Go'.condF rfl (Ut 3 rfl ?_)))))))))
 rcases sk with _|_
 ·
  refine Ur 5 64 rfl (Ul 3 rfl hI.c2 (Uf 1 [0,2,14] rfl (Go'.condT rfl (Ut 1 rfl (Ur 1 0 rfl (Uf 1 [0,2] rfl (Go'.ret (vs:=[_]) func160 results160 ⟨rfl,trivial⟩ ?_)))))))
  exact ⟨_,none,rfl,⟨_,_,_,_,_,_,hI,rfl⟩,hno,fun _=>⟨rfl,rfl⟩⟩
 ·
  refine Ur 5 64 rfl (Ul 3 rfl hI.c2 (Uf 1 [0,2,14] rfl (Go'.condF rfl (Ut 3 rfl (Ur 6 64 rfl (Ul 3 rfl hsv (Uc 1 rfl (eqlT rfl) (Uf 0 [0,2,20] rfl (Go'.condT rfl (Ut 2 rfl ?_))))))))))
  rcases se with _|_
  ·
   refine Ur 4 64 rfl (Ul 3 rfl hI.c4 (Uf 0 [0,2,24] rfl (Go'.condF rfl (Ut 2 rfl (Ur 1 0 rfl (Uf 1 [0,2] rfl (Go'.ret (vs:=[_]) func160 results160 ⟨rfl,trivial⟩ ?_)))))))
   exact ⟨_,none,rfl,⟨_,_,_,_,_,_,hI,rfl⟩,hno,fun _=>⟨rfl,rfl⟩⟩
  ·
   refine Ur 4 64 rfl (Ul 3 rfl hI.c4 (Uf 0 [0,2,24] rfl (Go'.condT rfl (Ut 1 rfl ?_))))
   have hf:=iLast_spec (B:=B) hI hT hsi hsz
   by_cases hl0:0<l.length
   ·
    rw [decide_eq_true hl0,if_pos hl0] at hf
    refine Ur 7 520 rfl (Uq 1 rfl (O.call rfl rfl rfl call158 rfl hf ?_))
    rintro _ H1 ⟨rfl,hp⟩
    obtain ⟨sk2,sa2,se2,Z2,fr2,kv2,hI2,hst⟩:=hp
    obtain ⟨rfl,hq,h0,t0,rfl,hS⟩:=hst
    have hsz2:∀b,S b→¬Z2 b:=fun b hs hz=>(hI2.zz b hz).elim (hsz b hs) (fun h=>by have:=hT.lt b hs;omega)
    refine ⟨trivial,?_⟩
    refine Uq 2 rfl (O.call rfl rfl rfl call160 rfl (iPrev_gen hI2.re (hK _ hI2.f) hsi hsz2 hS) ?_)
    rintro _ H3 ⟨rfl,hp3⟩
    refine ⟨trivial,?_⟩
    refine Uf 2 [0,2] rfl (Go'.ret (vs:=[_]) func160 results160 ⟨rfl,trivial⟩ ?_)
    exact ⟨_,_,rfl,ItPost.trans (P:=P) (S:=S) hI2 hp3,hno,fun e=>by subst e;simp at hl0⟩
   ·
    rw [decide_eq_false hl0,if_neg hl0] at hf
    refine Ur 7 520 rfl (Uq 1 rfl (O.call rfl rfl rfl call158 rfl hf ?_))
    rintro _ H1 ⟨rfl,hp⟩
    refine ⟨trivial,?_⟩
    refine Uq 2 rfl (Pl.pass2 rfl rfl rfl rfl trivial (Uf 2 [0,2] rfl (Go'.ret (vs:=[_]) func160 results160 ⟨rfl,trivial⟩ ?_)))
    exact ⟨_,_,rfl,hp,hno,fun _=>⟨rfl,rfl⟩⟩
end
end Go.Bt.FG
