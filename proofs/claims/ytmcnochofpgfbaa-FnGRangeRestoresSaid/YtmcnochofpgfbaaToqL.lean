/- Contracts of functions of the program, proved by walking through their code. Conditions: those that each theorem names. -/
import Derived.Test.YtmcnochofpgfbaaProg
import Derived.Laws.StructEq
import Derived.Test.YtmcnochofpgfbaaTogK
import Derived.Test.YtmcnochofpgfbaaTogG
import Derived.Test.YtmcnochofpgfbaaToPe
import Derived.Test.YtmcnochofpgfbaaToRb
set_option linter.unusedVariables false
namespace Go.Bt.FG
open Go Go.Proofs Go.Proofs.Try
set_option maxRecDepth 20000
set_option maxHeartbeats 4000000
set_option linter.unusedSectionVars false
section
variable [Inhabited Cx]
theorem Pl.put_end {α:Type} (O:Pl.Swo α) {x y:α} {l:List α} (hs:Pl.Srt O (l++[y])) (h:O.lt y x=true):Pl.put O x (l++[y])=l++[y]++[x]∧Pl.got O x (l++[y])=none∧Pl.fnd O x (l++[y])=false:=by
 have ha:∀z∈l++[y],O.lt z x=true:=fun z hz=>by
  rcases List.mem_append.1 hz with hz|hz
  · exact O.trans ((List.pairwise_append.1 hs).2.2 z hz y (List.mem_singleton.2 rfl)) h
  · rw [List.mem_singleton.1 hz];exact h
 have h1:=Pl.put_mid O (m:=[]) (c:=[]) ha (fun _ h=>absurd h List.not_mem_nil)
 have h2:=Pl.got_mid O (m:=[]) (c:=[]) ha (fun _ h=>absurd h List.not_mem_nil)
 have h3:=Pl.fnd_mid O (m:=[]) (c:=[]) ha (fun _ h=>absurd h List.not_mem_nil)
 simp only [List.append_nil] at h1 h2 h3
 exact ⟨h1,h2,h3⟩
theorem MapM.zr9 {H H':Mem} {tr:Nat} {P:Ps} {S S':Nat→Prop} {l:List (Int×Int)} {n zr o:Nat} {vs:List Value} (hM:MapM H tr P S' l) (hzb:cx.base≤zr) (hzS:∀b,S b→b≠zr) (hS:∀b,S' b→S b∨n≤b) (hn:zr<n) (W:Wrote H H' zr o vs):MapM H' tr P S' l:=
 hM.fr W.fr fun b o hb=>nr (.inl (by
  rcases hb with hb|hb
  · exact (hS b hb).elim (hzS b) (fun h=>by omega)
  · have:=hb.1;omega))
def LoadP (H:Mem) (tr:Nat) (P:Ps) (S:Nat→Prop) (l:List (Int×Int)) (x:Int×Int) (r:Value) (H':Mem):Prop:=
 r=.tuple #[PV (Pl.got OI x l),.bool (Pl.fnd OI x l)]∧MapTo H H' tr P S (Pl.put OI x l)
def LoadZ (H:Mem) (tr:Nat) (P:Ps) (S:Nat→Prop) (zr:Nat) (l:List (Int×Int)) (x:Int×Int) (r:Value) (H':Mem):Prop:=
 r=.tuple #[PV (Pl.got OI x l),.bool (Pl.fnd OI x l)]∧∃S',MapM H' tr P S' (Pl.put OI x l)∧Fr (fun b _=>S b∨b=zr) H H'∧∀b,S' b→S b∨H.size≤b
theorem LoadZ.out {H H1:Mem} {tr:Nat} {P:Ps} {S:Nat→Prop} {l:List (Int×Int)} {zr:Nat} {x:Int×Int} {v:Value} {H':Mem} (hf:Fr nowhere H H1) (hz:H.size≤zr) (h:LoadZ H1 tr P S zr l x v H'):LoadP H tr P S l x v H':=by
 obtain ⟨e,S',hM,hF,hS⟩:=h
 exact ⟨e,S',hM,hf.trans' hF (fun _ _ _ h=>h.elim) (fun b o hb h=>h.elim id (fun h=>by omega)),fun b hb=>(hS b hb).imp id (fun h=>Nat.le_trans hf.size h)⟩
theorem load_spec {B:World} {H:Mem} {tr:Nat} {P:Ps} (hP:PsOk P) {S:Nat→Prop} {l:List (Int×Int)} {x:Int×Int} (hM:MapM H tr P S l) (hlen:l.length<2305843009213693952):
  Fn Try.prog B 48 [.pointer (some ⟨tr,0,none⟩),.agg (EJ.enc x).toArray] H (LoadP H tr P S l x):=by
 refine fn_of func48 rfl ntmps48 ?_
 refine (show Go' _ _ _ _ 131 [(0,_),(1,_)] [.code _] _ from ?_)
 refine Ut 1 rfl ?_
 have hSlt:=hM.lt
 have hb00:=hM.tc.hb
 refine Ur 3 10 rfl (O.box rfl rfl rfl rfl ?_)
 intro H1 M1
 refine ⟨trivial,?_⟩
 have hs1:=M1.size
 replace hM:=hM.fr (M1.fr nowhere) (fun _ _ _=>nw)
 have m8:Rd H1 H.size 0 (EJ.enc x):=M1.rd _ [] (by simp [Value.cells])
 refine O.alloc rfl rfl rfl zeroValue27 ?_
 intro H2 M2
 refine ⟨trivial,?_⟩
 have hs2:=M2.size
 replace hM:=hM.fr (M2.fr nowhere) (fun _ _ _=>nw)
 replace m8:=(M2.fr nowhere).rd m8 (fun _ _=>nw)
 have wz:Wr H2 H1.size 0 2:=M2.wr 2 (by decide)
 refine Uf 1 [0,3,4,5] rfl (Ut 2 rfl ?_)
 have hR0:Fr nowhere H H2:=(M1.fr nowhere).trans (M2.fr nowhere)
 refine Go'.mono (Q:=LoadZ H2 tr P S H1.size l x) (fun v H' hq=>LoadZ.out hR0 (by omega) hq) ?_
 have hzS:∀b,S b→b≠H1.size:=fun b hb e=>by have:=hSlt b hb;omega
 have hb6S:∀b,S b→b≠H.size:=fun b hb e=>by have:=hSlt b hb;omega
 have hzb:cx.base≤H1.size:=by omega
 have hzl:H1.size<H2.size:=by omega
 have hb6:H.size<H2.size:=by omega
 have hbz:H.size≠H1.size:=by omega
 have hb6b:cx.base≤H.size:=hb00
 clear hR0 hSlt hb00 hs2 M2 hs1 M1
 generalize H1.size=zr at*
 generalize H.size=b6 at*
 clear H1
 clear H
 have hM0:=hM
 have hh1:=hP.h1
 have hmm:=hP.hm
 obtain ⟨tc,srt,cnt,own,lt,bs,hr⟩:=hM
 have htl:tr<H2.size:=cl_lt tc.iso
 have htb:=tc.tb
 have hbs0:=tc.hb
 unfold LoadZ
 refine Ur 2 8 rfl (Uq 1 rfl (O.callQ rfl rfl rfl call57 rfl lock_spec trivial (Uf 0 [0,3,4,5,8] rfl (Go'.condF rfl (Ut 3 rfl ?_)))))
 rcases hr with ⟨rfl,hptr⟩|⟨h0,t0,hg,hx0,e,hc,hnt,hown⟩
 ·
  refine Ur 5 64 rfl (Ul 3 rfl hptr (O.isNil rfl rfl rfl rfl underlying107 rfl rfl (Uf 0 [0,3,4,5,14] rfl (Go'.condT rfl (Ut 1 rfl (Ur 7 2084 rfl (Us 1 rfl m8 rfl (O.call rfl rfl rfl call67 rfl (mset_spec hP (x:=x) (hz:=fun _=>False) hM0 hlen (.inl ⟨rfl,fun _ h=>h⟩) (fun _ h=>h.elim)) ?_))))))))
  rintro _ H5 ⟨_,rfl,S',hM5,hF5,hS5⟩
  have hs5:=hF5.size
  refine ⟨trivial,?_⟩
  refine Uq 2 rfl (O.st (vs:=(EJ.enc ((Pl.got OI x []).getD (0,0)))) rfl rfl sizeOf27 rfl rfl rfl rfl rfl (hF5.wr wz) ?_)
  intro Hz Wz
  refine ⟨trivial,?_⟩
  refine Uf 1 [0,3,4,5] rfl (Go'.ret (vs:=[_,_]) func48 results48 ⟨⟨_,_,rfl,fun _ _=>run_loadVar_agg (fun w=>⟨isAgg27 w,sizeOf27 w⟩) rfl Wz.all⟩,rfl,trivial⟩ ?_)
  exact ⟨rfl,S',hM5.zr9 hzb hzS hS5 hzl Wz,(hF5.mono (fun _ _ _ h=>.inl (h.elim id (fun h=>h.elim)))).trans' Wz.fr (fun _ _ _ h=>h) (fun b o _ h=>.inr h.1),hS5⟩
 ·
  refine Ur 5 64 rfl (Ul 3 rfl (show cl _ tr 2=some (.pointer (some ⟨Gt.p h0 t0,0,none⟩)) from hc) (O.isNil rfl rfl rfl rfl underlying107 rfl rfl (Uf 0 [0,3,4,5,14] rfl (Go'.condF rfl (Ut 2 rfl ?_)))))
  obtain ⟨kp0,hn0⟩:=hg.node
  have hiso0:=hn0.c0
  rw [hg.isoe] at hiso0
  refine Ur 6 512 rfl (Uq 4 rfl (O.callQ rfl rfl rfl call59 rfl (isoLoad_spec true hc hiso0 tc.iso) trivial (Uf 1 [0,3,4,5,6] rfl (Ut 2 rfl ?_))))
  have hb6n:∀o,¬Gt.af h0 t0 b6 o:=fun o hb=>hb6S _ (hown _ _ hb) rfl
  have hlt0:∀b o,Gt.af h0 t0 b o→b<H2.size:=fun b o hb=>hg.lt hb
  have hg1:=hg
  clear hn0 hiso0 hg
  refine Go'.loop (Uk [0,3,4,5,6] rfl ?_)
  refine Go'.ind (σ:=(h:Nat)×Gt EJ h) (fun s=>s.1) (fun s H'=>∃D,Spn H2 H' P true (fun n=>n+1) h0 t0 D s.1 s.2)
   (fun s=>[(0,.pointer (some ⟨tr,0,none⟩)),(3,.pointer (some ⟨b6,0,none⟩)),(4,.pointer (some ⟨zr,0,none⟩)),(5,.bool false),(6,.pointer (some ⟨Gt.p s.1 s.2,0,none⟩))]) ⟨h0,t0⟩ ⟨_,Spn.start hg1 hx0⟩ rfl ?_
  rintro ⟨h,t⟩ H3 ⟨D,hs⟩ ih
  simp only at hs
  have hDt:∀b,b<cx.base→¬D b:=fun b e2 hd=>by have:=hnt b 1 (Gt.sp_af ((hs.all b).2 (.inl hd)) 1 (by omega));omega
  have hDb:¬D b6:=fun hd=>hb6n 1 (Gt.sp_af ((hs.all b6).2 (.inl hd)) 1 (by omega))
  have tc2:=tc.fr hs.fr (fun b o hb _ hz=>hDt b hb.1 hz.2)
  have cnt2:=hs.fr.keep cnt (fun hz=>hDt tr htb hz.2)
  have hc2:=hs.fr.keep hc (fun hz=>hDt tr htb hz.2)
  replace m8:=hs.fr.rd m8 (fun _ _ hz=>hDb hz.2)
  have hsz2:=hs.fr.size
  have hnow:=hs.now
  have hle:=hs.le
  have hcn:=(hs.g.cnOf).2
  have hne:=hs.g.ne hs.x1
  have hcc:=hs.cnt
  rw [e] at hle
  refine Ut 2 rfl ?_
  rcases h with _|h
  rotate_left
  ·
   obtain ⟨g,X,K⟩:=t
   have hI:=hnow.inn
   have hKl:K.length=X.length+1:=hnow.2.2.2.2.2.1
   obtain ⟨k,hk⟩:∃k,K[cix true K.length]?=some k:=⟨K[cix true K.length]'(cix_lt (by omega)),List.getElem?_eq_getElem (cix_lt (by omega))⟩
   have hkK:=List.mem_of_getElem? hk
   have hx255:=hnow.2.2.2.2.1
   have hP255:=hP.hx
   replace hx255:X.length≤P.mx:=hx255
   replace hcn:cnOf H2 g.p=(Gt.L (h+1) ((g,X,K):Gt EJ (h+1))).length:=hcn
   refine Ur 8 32832 rfl (Ul 3 rfl (show cl _ g.p 1=some (.int .i64 (cnOf H2 g.p:Int)) from hcc) (Ua 0 ((((cnOf H2 g.p)+1:Nat):Int)) rfl (by omega) (Uq 2 rfl (O.st rfl rfl sizeOf3 rfl rfl rfl rfl rfl (hI.n.wr.at0 1 1 (by omega)) ?_))))
   intro H4 W3
   have hs3:=hs.step (t:=(g,X,K)) hh1 hk W3
   replace hI:=hI.count W3
   have tc3:=tc2.fr W3.fr (fun b o hb _=>nr (.inl (fun e2=>by have h7:=hnt g.p 1 (hs.sub _ _ (show Gt.af (h+1) ((g,X,K):Gt EJ (h+1)) g.p 1 from .inl (.inl ⟨rfl,by omega⟩)));have h8:=hb.1;have h9:b=g.p:=e2;omega)))
   refine ⟨trivial,?_⟩
   refine Uf 0 [0,3,4,5,6] rfl (Ut 2 rfl (Ur 2 8 rfl (Uq 1 rfl (O.callQ rfl rfl rfl call62 rfl (leaf_spec hI.n.c3) trivial (Uf 0 [0,3,4,5,6,33] rfl (Go'.condF rfl (Ut 1 rfl ?_)))))))
   obtain ⟨hgk,_⟩:=hI.c.1 k hkK
   obtain ⟨kpk,hnk⟩:=hgk.node
   have hisok:=hnk.c0
   rw [hgk.isoe] at hisok
   have hko:((Gt.ps h K).map some)[cix true K.length]?=some (some (Gt.p h k)):=by rw [Gt.ps,List.map_map,List.getElem?_map,hk];rfl
   have hkl:((Gt.ps h K).map some).length=K.length:=by rw [List.length_map,Gt.ps,List.length_map]
   have hkc:=hI.k.c
   rw [hkl] at hkc
   refine Ud 18 8607764736 (by kernel_rfl) (Ul 4 rfl (show cl _ g.p 3=some (.pointer (some ⟨g.cb,0,none⟩)) from hI.n.c3) (Ul 1 rfl (show cl _ g.cb 0=some (.slice (some ⟨g.kb,g.ko,none⟩) K.length g.kc) from hkc) (Ul 3 rfl (show cl _ g.p 3=some (.pointer (some ⟨g.cb,0,none⟩)) from hI.n.c3) (Ul 1 rfl (show cl _ g.cb 0=some (.slice (some ⟨g.kb,g.ko,none⟩) K.length g.kc) from hkc) (Ub 1 (((K.length-1:Nat):Int)) rfl (by omega) (Ux 0 (K.length-1) rfl (by omega) (by omega) (O.callQ rfl rfl rfl call59 rfl (isoLoad_spec true (hI.k.at hko) hisok tc3.iso) trivial (Uf 1 [0,3,4,5,6,33] rfl (Ut 1 rfl (Uk [0,3,4,5,6] rfl (Go'.inLoop ?_)))))))))))
   exact ih ⟨h,k⟩ H4 ⟨_,hs3⟩ (by simp only;omega)
  ·
   obtain ⟨⟨np,niso,ncnt,nib,nio,nic,ncb,nkb,nko,nkc⟩,X⟩:=t
   have hn:NodeM EJ H3 (⟨np,niso,ncnt,nib,nio,nic,ncb,nkb,nko,nkc⟩:Ng) X (.pointer none):=hnow.1
   have hiso:niso=P.iso:=hnow.2.1
   have hcntX:ncnt=X.length:=hnow.2.2.1
   have hxm:X.length≤P.mx:=hnow.2.2.2
   have hx255:=hP.hx
   have hx1:1≤X.length:=hs.x1
   have hle2:X.length≤l.length:=hle
   have hlf:((⟨np,niso,ncnt,nib,nio,nic,ncb,nkb,nko,nkc⟩:Ng),X)=Gt.lf true h0 t0:=hs.lf
   have tn:∀b o,(ncl EJ (⟨np,niso,ncnt,nib,nio,nic,ncb,nkb,nko,nkc⟩:Ng)) b o→¬(b<cx.base):=fun b o hb=>by have:=hnt b o (hs.sub b o hb);omega
   have hlt:∀b o,(ncl EJ (⟨np,niso,ncnt,nib,nio,nic,ncb,nkb,nko,nkc⟩:Ng)) b o→b<H2.size∧b≠b6:=fun b o hb=>⟨hlt0 b o (hs.sub b o hb),fun e2=>hb6n o (e2▸hs.sub b o hb)⟩
   have hD:∀b,(b<cx.base)→b<H3.size:=fun b hb=>by omega
   have hic:=hn.sl.hle
   simp only at hic
   have hF:Fr (fun b o=>(ncl EJ (⟨np,niso,ncnt,nib,nio,nic,ncb,nkb,nko,nkc⟩:Ng)) b o∨b=tr) H3 H3:=Fr.refl _ _
   have hF2:Fr (fun b o=>o=1∧b=np) H3 H3:=Fr.refl _ _
   have sn:Gro H3 (ncl EJ (⟨np,niso,ncnt,nib,nio,nic,ncb,nkb,nko,nkc⟩:Ng)) (ncl EJ (⟨np,niso,ncnt,nib,nio,nic,ncb,nkb,nko,nkc⟩:Ng)):=Gro.refl _ _
   clear tc cnt hc
   obtain ⟨tc,cnt,hc⟩:=And.intro tc2 (And.intro cnt2 hc2)
   clear tc2 cnt2 hc2
   obtain ⟨y,hy⟩:∃y,X[X.length-1]?=some y:=⟨X[X.length-1]'(by omega),List.getElem?_eq_getElem (by omega)⟩
   refine Ur 8 32832 rfl (Ul 3 rfl (show cl _ np 1=some (.int .i64 (ncnt:Int)) from hn.c1) (Ua 0 (((ncnt+1:Nat):Int)) rfl (by omega) (Uq 2 rfl (O.st rfl rfl sizeOf3 rfl rfl rfl rfl rfl (hn.wr.at0 1 1 (by omega)) ?_))))
   intro H11 WH11
   have fW:Fr (ncl EJ (⟨np,niso,ncnt,nib,nio,nic,ncb,nkb,nko,nkc⟩:Ng)) H3 H11:=(Wrote.fHdr (E:=EJ) (g:=(⟨np,niso,ncnt,nib,nio,nic,ncb,nkb,nko,nkc⟩:Ng)) WH11 (by omega))
   replace tc:=tc.fr fW (fun b o hb _ hz=>tn b o hz hb.1)
   replace hF:=Fr.tot hF fW sn (fun _ _ h=>.inl h)
   replace m8:=Fr.rd fW m8 (fun _ _ hz=>by have:=(hlt _ _ hz).2;omega)
   replace cnt:=Fr.keep fW cnt (fun hz=>tn tr _ hz htb)
   replace hc:=Fr.keep fW hc (fun hz=>tn tr _ hz htb)
   obtain ⟨ncnt_11,encnt_11⟩:∃z,z=ncnt+1:=⟨_,rfl⟩
   rw [←encnt_11] at WH11
   replace hn:NodeM EJ H11 (⟨np,niso,ncnt_11,nib,nio,nic,ncb,nkb,nko,nkc⟩:Ng) (X) (.pointer none):=hn.count WH11
   clear fW
   replace hF2:=hF2.trans' WH11.fr (fun _ _ _ h=>h) (fun b o _ hz=>by
    have h1:=hz.1;have h2:=hz.2.1;have h3:=hz.2.2
    simp only [List.length_cons,List.length_nil] at h3
    exact ⟨by omega,h1⟩)
   refine ⟨trivial,?_⟩
   refine Uf 0 [0,3,4,5,6] rfl (Ut 2 rfl (Ur 2 8 rfl (Uq 1 rfl (O.callQ rfl rfl rfl call62 rfl (leaf_spec hn.c3) trivial (Uf 0 [0,3,4,5,6,33] rfl (Go'.condT rfl (Ut 2 rfl ?_)))))))
   by_cases hmxX:X.length<P.mx
   rotate_left
   ·
    refine Ud 10 65600 (by kernel_rfl) (Ul 3 rfl (show cl _ np 2=some (.slice (some ⟨nib,nio,none⟩) X.length nic) from hn.c2) (Ul 4 rfl tc.mx' (Uc 0 rfl (lssF (by omega)) (Uf 0 [0,3,4,5,6,33,43] rfl (Go'.condF rfl (Ut 3 rfl ?_))))))
    have hFb:Fr (fun b o=>(o=1∧Gt.sp true h0 t0 b)∨b=H2.size) H2 H11:=hs.fr.trans' hF2 (fun b o _ hz=>.inl ⟨hz.1,(hs.all b).2 (.inl hz.2)⟩) (fun b o _ hz=>.inl ⟨hz.1,hz.2▸(hs.all np).2 (.inr rfl)⟩)
    have hvb:∀q,Gt.sp true h0 t0 q→cl H11 q 1=some (.int .i64 ((cnOf H2 q+1:Nat):Int)):=fun q hq=>by
     rcases (hs.all q).1 hq with hd|hd
     ·
      exact hF2.keep (hs.val q hd) (fun hz=>by
       rcases hz with ⟨_,rfl⟩
       exact hs.off q hd (.inl ⟨rfl,by omega⟩))
     ·
      have hd':q=np:=hd
      subst hd'
      have hcn':cnOf H2 q=ncnt:=by rw [hcntX];exact hcn
      rw [hcn',←encnt_11]
      exact hn.c1
    have hs2:=Sp2.start (δ:=(fun n=>n+1)) hg1 hFb (fun o hb=>by have:=hlt0 _ _ hb;omega) hvb hx0
    have hszb:=hFb.size
    clear ih
    refine Ur 5 64 rfl (Ul 3 rfl (show cl _ tr 2=some (.pointer (some ⟨Gt.p h0 t0,0,none⟩)) from hc) (Uf 1 [0,3,4,5,6] rfl (Ut 2 rfl (Go'.loop (Uk [0,3,4,5,6] rfl ?_)))))
    refine Go'.ind (σ:=(h:Nat)×Gt EJ h) (fun s=>s.1) (fun s H'=>∃D,Sp2 H2 H' P true (fun n=>n+1) h0 t0 H2.size D s.1 s.2∧Fr (fun b o=>o=1∧Gt.sp true h0 t0 b) H11 H')
     (fun s=>[(0,.pointer (some ⟨tr,0,none⟩)),(3,.pointer (some ⟨b6,0,none⟩)),(4,.pointer (some ⟨zr,0,none⟩)),(5,.bool false),(6,.pointer (some ⟨Gt.p s.1 s.2,0,none⟩))]) ⟨h0,t0⟩ ⟨_,hs2,Fr.refl _ _⟩ rfl ?_
    rintro ⟨h,t⟩ H5 ⟨D2,hs3,hf3⟩ ih
    simp only at hs3
    have hcc3:=hs3.val2 _ (Gt.sp_p true)
    have hcn3:=(hs3.g.cnOf).2
    have hle3:=hs3.le
    rw [e] at hle3
    refine Ut 2 rfl ?_
    have hpos:1≤(Gt.L h t).length:=hs3.pos
    rcases h with _|h
    rotate_left
    ·
     obtain ⟨g,X3,K⟩:=t
     have hKl:K.length=X3.length+1:=hs3.g.2.2.2.2.2.1
     obtain ⟨k,hk⟩:∃k,K[cix true K.length]?=some k:=⟨K[cix true K.length]'(cix_lt (by omega)),List.getElem?_eq_getElem (cix_lt (by omega))⟩
     replace hcn3:cnOf H2 g.p=(Gt.L (h+1) ((g,X3,K):Gt EJ (h+1))).length:=hcn3
     obtain ⟨i1,i2,i3⟩:=hs3.inner (t:=(g,X3,K)) hk
     have hwr3:=hs3.fr.wr hs3.g.1.wr
     have hx3:X3.length≤P.mx:=hs3.g.2.2.2.2.1
     refine Ur 8 32832 rfl (Ul 3 rfl (show cl _ g.p 1=some (.int .i64 ((cnOf H2 g.p+1:Nat):Int)) from hcc3) (Ub 0 (((((cnOf H2 g.p+1))-1:Nat):Int)) rfl (by omega) (Uq 2 rfl (O.st rfl rfl sizeOf3 rfl rfl rfl rfl rfl (hwr3.at0 1 1 (by omega)) ?_))))
     intro H6 W4
     have ecn:cnOf H2 g.p+1-1=cnOf H2 g.p:=by omega
     rw [ecn] at W4
     have hs4:=hs3.step (t:=(g,X3,K)) hh1 hk W4
     have hf4:Fr (fun b o=>o=1∧Gt.sp true h0 t0 b) H11 H6:=hf3.trans' W4.fr (fun _ _ _ h=>h) (fun b o _ hz=>by
      have h1:=hz.1;have h2:=hz.2.1;have h3:=hz.2.2
      simp only [List.length_cons,List.length_nil] at h3
      exact ⟨by omega,h1▸(hs3.all _).2 (.inr (.inl rfl))⟩)
     have hKM:=hs3.g.2.1
     replace i1:=W4.keep1 i1 (by simp only;omega)
     replace i2:=W4.fr.keep i2 (nr (.inl (Ne.symm hKM.n2)))
     replace i3:=W4.fr.keep i3 (nr (.inl (Ne.symm hKM.n3)))
     refine ⟨trivial,?_⟩
     refine Uf 0 [0,3,4,5,6] rfl (Ut 2 rfl (Ur 2 8 rfl (Uq 1 rfl (O.callQ rfl rfl rfl call62 rfl (leaf_spec i1) trivial (Uf 0 [0,3,4,5,6,109] rfl (Go'.condF rfl (Ut 1 rfl (Ud 17 1078199360 (by kernel_rfl) (Ul 3 rfl (show cl _ g.p 3=some (.pointer (some ⟨g.cb,0,none⟩)) from i1) (Ul 1 rfl (show cl _ g.cb 0=some (.slice (some ⟨g.kb,g.ko,none⟩) K.length g.kc) from i2) (Ul 3 rfl (show cl _ g.p 3=some (.pointer (some ⟨g.cb,0,none⟩)) from i1) ?_)))))))))))
     refine Ul 1 rfl (show cl _ g.cb 0=some (.slice (some ⟨g.kb,g.ko,none⟩) K.length g.kc) from i2) (Ub 1 (((K.length-1:Nat):Int)) rfl (by omega) (Ux 0 (K.length-1) rfl (by omega) (by omega) (Ul 0 rfl i3 (Uf 1 [0,3,4,5,6,109] rfl (Ut 1 rfl (Uk [0,3,4,5,6] rfl (Go'.inLoop ?_)))))))
     exact ih ⟨h,k⟩ H6 ⟨_,hs4,hf4⟩ (by simp only;omega)
    ·
     obtain ⟨g,X3⟩:=t
     replace hcn3:cnOf H2 g.p=(Gt.L 0 ((g,X3):Gt EJ 0)).length:=hcn3
     have hwr3:=hs3.fr.wr hs3.g.1.wr
     have hc3l:cl H5 g.p 3=some (.pointer none):=hs3.fr.keep hs3.g.1.c3 (fun hz=>hz.elim (fun h=>by omega) (fun h=>hs3.nb 3 (hs3.sub H2.size 3 (show ncl EJ g H2.size 3 from .inl ⟨h.symm,by omega⟩))))
     refine Ur 8 32832 rfl (Ul 3 rfl (show cl _ g.p 1=some (.int .i64 ((cnOf H2 g.p+1:Nat):Int)) from hcc3) (Ub 0 (((((cnOf H2 g.p+1))-1:Nat):Int)) rfl (by omega) (Uq 2 rfl (O.st rfl rfl sizeOf3 rfl rfl rfl rfl rfl (hwr3.at0 1 1 (by omega)) ?_))))
     intro H6 W4
     have ecn:cnOf H2 g.p+1-1=cnOf H2 g.p:=by omega
     rw [ecn] at W4
     have hgB:=hs3.fin (t:=(g,X3)) hg1 W4
     have hf4:Fr (fun b o=>o=1∧Gt.sp true h0 t0 b) H11 H6:=hf3.trans' W4.fr (fun _ _ _ h=>h) (fun b o _ hz=>by
      have h1:=hz.1;have h2:=hz.2.1;have h3:=hz.2.2
      simp only [List.length_cons,List.length_nil] at h3
      exact ⟨by omega,h1▸(hs3.all _).2 (.inr rfl)⟩)
     have hst:∀b o,b<cx.base→¬(o=1∧Gt.sp true h0 t0 b):=fun b o hb hz=>by have:=hnt b 1 (Gt.sp_af hz.2 1 (by omega));omega
     replace hc3l:=W4.keep1 hc3l (by omega)
     replace tc:=tc.fr hf4 (fun b o hb _=>hst b o hb.1)
     replace cnt:=hf4.keep cnt (hst _ _ htb)
     replace hc:=hf4.keep hc (hst _ _ htb)
     replace m8:=hf4.rd m8 (fun i _ hz=>hb6n 1 (Gt.sp_af hz.2 1 (by omega)))
     have hFB:Fr (fun b _=>S b) H2 H6:=hFb.trans' hf4 (fun b o hb hz=>by
      rcases hz with ⟨ho,hz⟩|hz
      · exact hown b o (ho▸Gt.sp_af hz 1 (by omega))
      · omega) (fun b o _ hz=>hown b o (hz.1▸Gt.sp_af hz.2 1 (by omega)))
     have hszB:=hFB.size
     have hMB:MapM H6 tr P S l:=⟨tc,srt,cnt,own,fun b hb=>by have:=lt b hb;omega,bs,.inr ⟨h0,t0,hgB,hx0,e,hc,hnt,hown⟩⟩
     refine ⟨trivial,?_⟩
     refine Uf 0 [0,3,4,5,6] rfl (Ut 2 rfl (Ur 2 8 rfl (Uq 1 rfl (O.callQ rfl rfl rfl call62 rfl (leaf_spec hc3l) trivial (Uf 0 [0,3,4,5,6,109] rfl (Go'.condT rfl (Ut 2 rfl (Ur 7 2084 rfl (Us 1 rfl m8 rfl (O.call rfl rfl rfl call67 rfl (mset_spec hP (x:=x) (hz:=fun _=>False) hMB hlen (.inl ⟨rfl,fun _ h=>h⟩) (fun _ h=>h.elim)) ?_))))))))))
     rintro _ H7 ⟨_,rfl,S',hM5,hF5,hS5⟩
     have hs7:=hF5.size
     refine ⟨trivial,?_⟩
     refine Uq 2 rfl (O.st (vs:=(EJ.enc ((Pl.got OI x l).getD (0,0)))) rfl rfl sizeOf27 rfl rfl rfl rfl rfl (hF5.wr (hFB.wr wz)) ?_)
     intro Hz Wz
     refine ⟨trivial,?_⟩
     refine Uf 1 [4,5] rfl (Go'.ret (vs:=[_,_]) func48 results48 ⟨⟨_,_,rfl,fun _ _=>run_loadVar_agg (fun w=>⟨isAgg27 w,sizeOf27 w⟩) rfl Wz.all⟩,rfl,trivial⟩ ?_)
     refine ⟨rfl,S',hM5.zr9 hzb hzS hS5 (by omega) Wz,?_,fun b hb=>(hS5 b hb).imp id (fun h=>by omega)⟩
     exact (hFB.trans' hF5 (Z:=fun b _=>S b∨b=zr) (fun _ _ _ h=>.inl h) (fun _ _ _ h=>.inl (h.elim id (fun h=>h.elim)))).trans' Wz.fr (fun _ _ _ h=>h) (fun b o _ h=>.inr h.1)
   refine Ud 10 65600 (by kernel_rfl) (Ul 3 rfl (show cl _ np 2=some (.slice (some ⟨nib,nio,none⟩) X.length nic) from hn.c2) (Ul 4 rfl tc.mx' (Uc 0 rfl (lssT (by omega)) (Uf 0 [0,3,4,5,6,33,43] rfl (Go'.condT rfl (Ut 1 rfl (Ud 15 620822784 (by kernel_rfl) (Ul 4 rfl (show cl _ np 2=some (.slice (some ⟨nib,nio,none⟩) X.length nic) from hn.c2) (Ul 3 rfl (show cl _ np 2=some (.slice (some ⟨nib,nio,none⟩) X.length nic) from hn.c2) (Ub 1 (((X.length-1:Nat):Int)) rfl (by omega) (Ux 0 (X.length-1) rfl (by omega) (by omega) ?_)))))))))))
   refine Us 0 rfl (hn.sl.item hy) rfl (Us 0 rfl m8 rfl (O.call rfl rfl rfl call68 rfl (Less_spec tc y x) ?_))
   rintro _ H12 ⟨rfl,hFl⟩
   have hsl:=hFl.size
   replace hn:=NodeM.fr EJ hn hFl (fun _ _ _=>nw)
   replace tc:=tc.fr hFl (fun _ _ _ _=>nw)
   replace hF:=hF.trans' hFl (fun _ _ _ h=>h) (fun _ _ _ h=>h.elim)
   replace m8:=Fr.rd hFl m8 (fun _ _=>nw)
   replace cnt:=Fr.keep hFl cnt nw
   replace hc:=Fr.keep hFl hc nw
   replace hF2:=hF2.trans' hFl (fun _ _ _ h=>h) (fun _ _ _ h=>h.elim)
   refine ⟨trivial,?_⟩
   refine Uf 0 [0,3,4,5,6,33,43,58] rfl ?_
   cases hyx:OI.lt y x
   ·
    refine Go'.condF rfl (Ut 3 rfl ?_)
    have hFb:Fr (fun b o=>(o=1∧Gt.sp true h0 t0 b)∨b=H2.size) H2 H12:=hs.fr.trans' hF2 (fun b o _ hz=>.inl ⟨hz.1,(hs.all b).2 (.inl hz.2)⟩) (fun b o _ hz=>.inl ⟨hz.1,hz.2▸(hs.all np).2 (.inr rfl)⟩)
    have hvb:∀q,Gt.sp true h0 t0 q→cl H12 q 1=some (.int .i64 ((cnOf H2 q+1:Nat):Int)):=fun q hq=>by
     rcases (hs.all q).1 hq with hd|hd
     ·
      exact hF2.keep (hs.val q hd) (fun hz=>by
       rcases hz with ⟨_,rfl⟩
       exact hs.off q hd (.inl ⟨rfl,by omega⟩))
     ·
      have hd':q=np:=hd
      subst hd'
      have hcn':cnOf H2 q=ncnt:=by rw [hcntX];exact hcn
      rw [hcn',←encnt_11]
      exact hn.c1
    have hs2:=Sp2.start (δ:=(fun n=>n+1)) hg1 hFb (fun o hb=>by have:=hlt0 _ _ hb;omega) hvb hx0
    have hszb:=hFb.size
    clear ih
    refine Ur 5 64 rfl (Ul 3 rfl (show cl _ tr 2=some (.pointer (some ⟨Gt.p h0 t0,0,none⟩)) from hc) (Uf 1 [0,3,4,5,6] rfl (Ut 2 rfl (Go'.loop (Uk [0,3,4,5,6] rfl ?_)))))
    refine Go'.ind (σ:=(h:Nat)×Gt EJ h) (fun s=>s.1) (fun s H'=>∃D,Sp2 H2 H' P true (fun n=>n+1) h0 t0 H2.size D s.1 s.2∧Fr (fun b o=>o=1∧Gt.sp true h0 t0 b) H12 H')
     (fun s=>[(0,.pointer (some ⟨tr,0,none⟩)),(3,.pointer (some ⟨b6,0,none⟩)),(4,.pointer (some ⟨zr,0,none⟩)),(5,.bool false),(6,.pointer (some ⟨Gt.p s.1 s.2,0,none⟩))]) ⟨h0,t0⟩ ⟨_,hs2,Fr.refl _ _⟩ rfl ?_
    rintro ⟨h,t⟩ H5 ⟨D2,hs3,hf3⟩ ih
    simp only at hs3
    have hcc3:=hs3.val2 _ (Gt.sp_p true)
    have hcn3:=(hs3.g.cnOf).2
    have hle3:=hs3.le
    rw [e] at hle3
    refine Ut 2 rfl ?_
    have hpos:1≤(Gt.L h t).length:=hs3.pos
    rcases h with _|h
    rotate_left
    ·
     obtain ⟨g,X3,K⟩:=t
     have hKl:K.length=X3.length+1:=hs3.g.2.2.2.2.2.1
     obtain ⟨k,hk⟩:∃k,K[cix true K.length]?=some k:=⟨K[cix true K.length]'(cix_lt (by omega)),List.getElem?_eq_getElem (cix_lt (by omega))⟩
     replace hcn3:cnOf H2 g.p=(Gt.L (h+1) ((g,X3,K):Gt EJ (h+1))).length:=hcn3
     obtain ⟨i1,i2,i3⟩:=hs3.inner (t:=(g,X3,K)) hk
     have hwr3:=hs3.fr.wr hs3.g.1.wr
     have hx3:X3.length≤P.mx:=hs3.g.2.2.2.2.1
     refine Ur 8 32832 rfl (Ul 3 rfl (show cl _ g.p 1=some (.int .i64 ((cnOf H2 g.p+1:Nat):Int)) from hcc3) (Ub 0 (((((cnOf H2 g.p+1))-1:Nat):Int)) rfl (by omega) (Uq 2 rfl (O.st rfl rfl sizeOf3 rfl rfl rfl rfl rfl (hwr3.at0 1 1 (by omega)) ?_))))
     intro H6 W4
     have ecn:cnOf H2 g.p+1-1=cnOf H2 g.p:=by omega
     rw [ecn] at W4
     have hs4:=hs3.step (t:=(g,X3,K)) hh1 hk W4
     have hf4:Fr (fun b o=>o=1∧Gt.sp true h0 t0 b) H12 H6:=hf3.trans' W4.fr (fun _ _ _ h=>h) (fun b o _ hz=>by
      have h1:=hz.1;have h2:=hz.2.1;have h3:=hz.2.2
      simp only [List.length_cons,List.length_nil] at h3
      exact ⟨by omega,h1▸(hs3.all _).2 (.inr (.inl rfl))⟩)
     have hKM:=hs3.g.2.1
     replace i1:=W4.keep1 i1 (by simp only;omega)
     replace i2:=W4.fr.keep i2 (nr (.inl (Ne.symm hKM.n2)))
     replace i3:=W4.fr.keep i3 (nr (.inl (Ne.symm hKM.n3)))
     refine ⟨trivial,?_⟩
     refine Uf 0 [0,3,4,5,6] rfl (Ut 2 rfl (Ur 2 8 rfl (Uq 1 rfl (O.callQ rfl rfl rfl call62 rfl (leaf_spec i1) trivial (Uf 0 [0,3,4,5,6,109] rfl (Go'.condF rfl (Ut 1 rfl (Ud 17 1078199360 (by kernel_rfl) (Ul 3 rfl (show cl _ g.p 3=some (.pointer (some ⟨g.cb,0,none⟩)) from i1) (Ul 1 rfl (show cl _ g.cb 0=some (.slice (some ⟨g.kb,g.ko,none⟩) K.length g.kc) from i2) (Ul 3 rfl (show cl _ g.p 3=some (.pointer (some ⟨g.cb,0,none⟩)) from i1) ?_)))))))))))
     refine Ul 1 rfl (show cl _ g.cb 0=some (.slice (some ⟨g.kb,g.ko,none⟩) K.length g.kc) from i2) (Ub 1 (((K.length-1:Nat):Int)) rfl (by omega) (Ux 0 (K.length-1) rfl (by omega) (by omega) (Ul 0 rfl i3 (Uf 1 [0,3,4,5,6,109] rfl (Ut 1 rfl (Uk [0,3,4,5,6] rfl (Go'.inLoop ?_)))))))
     exact ih ⟨h,k⟩ H6 ⟨_,hs4,hf4⟩ (by simp only;omega)
    ·
     obtain ⟨g,X3⟩:=t
     replace hcn3:cnOf H2 g.p=(Gt.L 0 ((g,X3):Gt EJ 0)).length:=hcn3
     have hwr3:=hs3.fr.wr hs3.g.1.wr
     have hc3l:cl H5 g.p 3=some (.pointer none):=hs3.fr.keep hs3.g.1.c3 (fun hz=>hz.elim (fun h=>by omega) (fun h=>hs3.nb 3 (hs3.sub H2.size 3 (show ncl EJ g H2.size 3 from .inl ⟨h.symm,by omega⟩))))
     refine Ur 8 32832 rfl (Ul 3 rfl (show cl _ g.p 1=some (.int .i64 ((cnOf H2 g.p+1:Nat):Int)) from hcc3) (Ub 0 (((((cnOf H2 g.p+1))-1:Nat):Int)) rfl (by omega) (Uq 2 rfl (O.st rfl rfl sizeOf3 rfl rfl rfl rfl rfl (hwr3.at0 1 1 (by omega)) ?_))))
     intro H6 W4
     have ecn:cnOf H2 g.p+1-1=cnOf H2 g.p:=by omega
     rw [ecn] at W4
     have hgB:=hs3.fin (t:=(g,X3)) hg1 W4
     have hf4:Fr (fun b o=>o=1∧Gt.sp true h0 t0 b) H12 H6:=hf3.trans' W4.fr (fun _ _ _ h=>h) (fun b o _ hz=>by
      have h1:=hz.1;have h2:=hz.2.1;have h3:=hz.2.2
      simp only [List.length_cons,List.length_nil] at h3
      exact ⟨by omega,h1▸(hs3.all _).2 (.inr rfl)⟩)
     have hst:∀b o,b<cx.base→¬(o=1∧Gt.sp true h0 t0 b):=fun b o hb hz=>by have:=hnt b 1 (Gt.sp_af hz.2 1 (by omega));omega
     replace hc3l:=W4.keep1 hc3l (by omega)
     replace tc:=tc.fr hf4 (fun b o hb _=>hst b o hb.1)
     replace cnt:=hf4.keep cnt (hst _ _ htb)
     replace hc:=hf4.keep hc (hst _ _ htb)
     replace m8:=hf4.rd m8 (fun i _ hz=>hb6n 1 (Gt.sp_af hz.2 1 (by omega)))
     have hFB:Fr (fun b _=>S b) H2 H6:=hFb.trans' hf4 (fun b o hb hz=>by
      rcases hz with ⟨ho,hz⟩|hz
      · exact hown b o (ho▸Gt.sp_af hz 1 (by omega))
      · omega) (fun b o _ hz=>hown b o (hz.1▸Gt.sp_af hz.2 1 (by omega)))
     have hszB:=hFB.size
     have hMB:MapM H6 tr P S l:=⟨tc,srt,cnt,own,fun b hb=>by have:=lt b hb;omega,bs,.inr ⟨h0,t0,hgB,hx0,e,hc,hnt,hown⟩⟩
     refine ⟨trivial,?_⟩
     refine Uf 0 [0,3,4,5,6] rfl (Ut 2 rfl (Ur 2 8 rfl (Uq 1 rfl (O.callQ rfl rfl rfl call62 rfl (leaf_spec hc3l) trivial (Uf 0 [0,3,4,5,6,109] rfl (Go'.condT rfl (Ut 2 rfl (Ur 7 2084 rfl (Us 1 rfl m8 rfl (O.call rfl rfl rfl call67 rfl (mset_spec hP (x:=x) (hz:=fun _=>False) hMB hlen (.inl ⟨rfl,fun _ h=>h⟩) (fun _ h=>h.elim)) ?_))))))))))
     rintro _ H7 ⟨_,rfl,S',hM5,hF5,hS5⟩
     have hs7:=hF5.size
     refine ⟨trivial,?_⟩
     refine Uq 2 rfl (O.st (vs:=(EJ.enc ((Pl.got OI x l).getD (0,0)))) rfl rfl sizeOf27 rfl rfl rfl rfl rfl (hF5.wr (hFB.wr wz)) ?_)
     intro Hz Wz
     refine ⟨trivial,?_⟩
     refine Uf 1 [4,5] rfl (Go'.ret (vs:=[_,_]) func48 results48 ⟨⟨_,_,rfl,fun _ _=>run_loadVar_agg (fun w=>⟨isAgg27 w,sizeOf27 w⟩) rfl Wz.all⟩,rfl,trivial⟩ ?_)
     refine ⟨rfl,S',hM5.zr9 hzb hzS hS5 (by omega) Wz,?_,fun b hb=>(hS5 b hb).imp id (fun h=>by omega)⟩
     exact (hFB.trans' hF5 (Z:=fun b _=>S b∨b=zr) (fun _ _ _ h=>.inl h) (fun _ _ _ h=>.inl (h.elim id (fun h=>h.elim)))).trans' Wz.fr (fun _ _ _ h=>h) (fun b o _ h=>.inr h.1)
   ·
    refine Go'.condT rfl (Ut 1 rfl (UD (fun H'=>cl H' np 2=some (.slice (some ⟨nib,nio,none⟩) X.length nic)) 11 3187712 (by kernel_rfl) ((show cl _ np 2=some (.slice (some ⟨nib,nio,none⟩) X.length nic) from hn.c2)) (UL 4 rfl (fun _ h=>h) (Us 0 rfl m8 rfl (O.bsl (cs:=(EJ.enc x)) rfl rfl rfl ⟨underlying25,sizeOf27,zeroValue27,⟨_,typeInfo27,rfl⟩,rfl,by decide,by decide⟩ rfl (by decide) (by kernel_rfl) ?_)))))
    intro H13 MH13
    have fM:=MH13.fr nowhere
    replace hn:=NodeM.fr EJ hn fM (fun _ _ _=>nw)
    replace tc:=tc.fr fM (fun _ _ _ _=>nw)
    replace hF:=hF.trans' fM (fun _ _ _ h=>h) (fun _ _ _ h=>h.elim)
    replace cnt:=Fr.keep fM cnt nw
    replace hc:=Fr.keep fM hc nw
    have mH13:Rd H13 H12.size 0 (EJ.enc x):=MH13.rd _ [] (by simp)
    refine ⟨(show cl _ np 2=some (.slice (some ⟨nib,nio,none⟩) X.length nic) from hn.c2),?_⟩
    refine O.app (m:=1) (news:=(EJ.enc x)) rfl rfl rfl ⟨underlying25,sizeOf27,zeroValue27,⟨_,typeInfo27,rfl⟩,rfl,by decide,by decide⟩ rfl hn.sl rfl (.inl ⟨_,_,_,rfl,mH13⟩) rfl rfl (Nat.le_trans (Nat.mul_le_mul_left _ (Nat.le_of_ble_eq_true (n:=_) (m:=4096) rfl)) (by omega)) (by omega) ?_
    intro nib_15 nio_15 nic_15 H14 haH14
    have fA:Fr (ncl EJ (⟨np,niso,ncnt_11,nib,nio,nic,ncb,nkb,nko,nkc⟩:Ng)) H13 H14:=(haH14.in_node hn)
    have gg:Gro H13 (ncl EJ (⟨np,niso,ncnt_11,nib,nio,nic,ncb,nkb,nko,nkc⟩:Ng)) (ncl EJ (⟨np,niso,ncnt_11,nib_15,nio_15,nic_15,ncb,nkb,nko,nkc⟩:Ng)):=haH14.gro
    have hF0:=hF
    have h0:=hn
    replace hn:=hn.appd haH14
    replace tc:=tc.fr fA (fun b o hb _ hz=>tn b o hz hb.1)
    replace hF:=Fr.tot hF fA sn (fun _ _ h=>.inl h)
    replace cnt:=Fr.keep fA cnt (fun hz=>tn tr _ hz htb)
    replace hc:=Fr.keep fA hc (fun hz=>tn tr _ hz htb)
    refine ⟨(show cl _ np 2=some (.slice (some ⟨nib,nio,none⟩) X.length nic) from hn.c2),?_⟩
    refine Uq 2 rfl (O.st3 rfl rfl sizeOf25 rfl rfl rfl rfl rfl (hn.wr.at0 2 1 (by omega)) ?_)
    intro H15 WH15
    have hf3:NodeM EJ H15 (⟨np,niso,ncnt_11,nib_15,nio_15,nic_15,ncb,nkb,nko,nkc⟩:Ng) (X++[x]) (.pointer none):=h0.push haH14 WH15
    have fH:Fr (ncl EJ (⟨np,niso,ncnt_11,nib_15,nio_15,nic_15,ncb,nkb,nko,nkc⟩:Ng)) H14 H15:=(Wrote.fHdr (E:=EJ) (g:=(⟨np,niso,ncnt_11,nib_15,nio_15,nic_15,ncb,nkb,nko,nkc⟩:Ng)) WH15 (by omega))
    replace tn:=Gro.offD gg tn (fun b h=>Nat.lt_of_lt_of_le (hD b h) hF0.size)
    replace sn:=Gro.tr sn hF0.size gg
    replace tc:=tc.fr fH (fun b o hb _ hz=>tn b o hz hb.1)
    replace hF:=Fr.tot hF fH sn (fun _ _ h=>.inl h)
    replace cnt:=Fr.keep fH cnt (fun hz=>tn tr _ hz htb)
    replace hc:=Fr.keep fH hc (fun hz=>tn tr _ hz htb)
    clear h0 hn
    obtain ⟨nX1,enX1,hn⟩:∃X1,X1=X++[x]∧NodeM EJ H15 (⟨np,niso,ncnt_11,nib_15,nio_15,nic_15,ncb,nkb,nko,nkc⟩:Ng) (X1) (.pointer none):=⟨_,rfl,hf3⟩
    have lnX1:nX1.length=X.length+1:=by rw [enX1,List.length_append];rfl
    have cnX1:nX1.length≤nic_15:=hn.sl.hle
    clear hf3 fA fH gg hF0 haH14 WH15 fM MH13 mH13
    refine Uf 0 [0,3,4,5,6,33,43,58] rfl (Ut 1 rfl ?_)
    have eX:X=X.take (X.length-1)++[y]:=Pl.last_split hy
    obtain ⟨gE1,gE2,gE3,⟨R,gE4,gE5⟩,gE6,gE7⟩:=Gt.Good.edit (d:=true) (δ:=(fun n=>n+1)) (Z:=fun b o=>(o=1∧D b)∨((ncl EJ (⟨np,niso,ncnt,nib,nio,nic,ncb,nkb,nko,nkc⟩:Ng)) b o∨b=tr)) (hs.fr.trans' hF (fun _ _ _ h=>.inl h) (fun _ _ _ h=>.inr h)) hn hiso (show ncnt_11=nX1.length by omega) (by omega) hg1
     (fun b o hb hz=>by
      rcases hz with ⟨ho,hd⟩|hz|rfl
      · exact .inl ⟨ho,(hs.all b).2 (.inl hd)⟩
      · exact .inr (by rw [←hlf];exact hz)
      · exact absurd (hnt _ _ hb) (by omega))
     (fun q hq hne2=>by
      rcases (hs.all q).1 hq with hd|hd
      ·
       exact hF.keep (hs.val q hd) (fun hz=>by
        rcases hz with hz|rfl
        · exact hs.off q hd hz
        · exact hDt _ htb hd)
      ·
       rw [←hlf] at hne2
       exact (hne2 hd).elim)
     (by rw [←hlf]) (fun h9=>by
      have:P.mn≤X.length:=hs.mn h9
      omega)
     (by rw [←hlf];exact fun b o hb=>(sn b o hb).imp id (fun h9=>by omega)) (fun n hn9=>by rw [←hlf] at hn9 ⊢;simp only at hn9 ⊢;omega)
    rw [←hlf] at gE4
    have ht1:l=R++X:=by rw [←e];exact gE4
    have hglen:=glue_len true nX1 R
    have hglen2:=congrArg List.length ht1
    rw [List.length_append] at hglen2
    have ht2:l=(R++X.take (X.length-1))++[y]:=by
     rw [ht1]
     conv=>lhs;rw [eX]
     simp
    have hpe:=Pl.put_end OI (x:=x) (y:=y) (l:=R++X.take (X.length-1)) (by rw [←ht2];exact srt) hyx
    rw [←ht2] at hpe
    have hput:Pl.put OI x l=glue true nX1 R:=by
     rw [hpe.1,ht1,enX1]
     show _=R++(X++[x])
     simp
    have hown1:∀b o,Gt.af h0 (Gt.ed true (fun n=>n+1) (⟨np,niso,ncnt_11,nib_15,nio_15,nic_15,ncb,nkb,nko,nkc⟩:Ng) nX1 h0 t0) b o→S b∨(H2.size≤b∧b<H15.size):=fun b o hb=>(gE3 b o hb).imp (hown b o) (fun h9=>⟨by omega,gE1.lt hb⟩)
    have hnt1:∀b o,Gt.af h0 (Gt.ed true (fun n=>n+1) (⟨np,niso,ncnt_11,nib_15,nio_15,nic_15,ncb,nkb,nko,nkc⟩:Ng) nX1 h0 t0) b o→cx.base≤b:=fun b o hb=>(gE3 _ _ hb).elim (hnt b o) (fun h9=>by omega)
    have hFt:Fr (fun b _=>S b) H2 H15:=hs.fr.trans' hF (Z:=fun b _=>S b) (fun b o _ hd=>hown b o (hd.1▸Gt.sp_af ((hs.all b).2 (.inl hd.2)) 1 (by omega))) (fun b o hb hz=>by
     rcases hz with hz|rfl
     · exact hown b o (hs.sub b o hz)
     · exact own)
    have hbl6:∀b o,Gt.af h0 (Gt.ed true (fun n=>n+1) (⟨np,niso,ncnt_11,nib_15,nio_15,nic_15,ncb,nkb,nko,nkc⟩:Ng) nX1 h0 t0) b o→b≠tr:=fun b o hb=>by have:=hnt1 b o hb;omega
    generalize hT:Gt.ed true (fun n=>n+1) (⟨np,niso,ncnt_11,nib_15,nio_15,nic_15,ncb,nkb,nko,nkc⟩:Ng) nX1 h0 t0=T at*
    rw [←gE2] at hc
    have hsrt1:Pl.Srt OI (glue true nX1 R):=by rw [←hput];exact Pl.Srt.put OI srt
    refine Ur 8 32832 rfl (Ul 3 rfl cnt (Ua 0 (((l.length+1:Nat):Int)) rfl (by omega) (Uq 2 rfl (O.st rfl rfl sizeOf3 rfl rfl rfl rfl rfl (tc.wr.at0 3 1 (by omega)) ?_))))
    intro Ha Wa
    have hsa:=Wa.size
    replace tc:=tc.fr (Wa.fr' 1 rfl) (fun b o hb he hz=>by have h1:=he hz.1;have h2:=hz.2.1;have h3:=hz.2.2;omega)
    replace hc:=Wa.keep1 hc (by omega)
    replace hFt:=hFt.trans' Wa.fr (fun _ _ _ h=>h) (fun b o _ h=>by rw [h.1];exact own)
    have cnt5:cl Ha tr 3=some (.int .i64 ((l.length+1:Nat):Int)):=Wa.at
    replace gE1:=gE1.fr Wa.fr (fun b o hb=>nr (.inl (hbl6 b o hb)))
    refine ⟨trivial,?_⟩
    refine Uf 0 [0,3,4,5,6,33,43,58] rfl (Ut 1 rfl (Ur 6 576 rfl (Us 3 rfl tc.emp rfl (O.st (vs:=(EJ.enc (0,0))) rfl rfl sizeOf27 rfl rfl rfl rfl rfl (hFt.wr wz) ?_))))
    intro Hz Wz
    refine ⟨trivial,?_⟩
    refine Uf 1 [0,3,4,5,6,33,43,58] rfl (Go'.ret (vs:=[_,_]) func48 results48 ⟨⟨_,_,rfl,fun _ _=>run_loadVar_agg (fun w=>⟨isAgg27 w,sizeOf27 w⟩) rfl Wz.all⟩,rfl,trivial⟩ ?_)
    refine ⟨by rw [hpe.2.1,hpe.2.2];rfl,?_⟩
    rw [hput]
    have e9:l.length+1=(glue true nX1 R).length:=by rw [hglen];omega
    rw [e9] at cnt5
    have hsz9:=hFt.size
    have hM9:MapM Ha tr P (fun b=>S b∨(H2.size≤b∧b<Ha.size)) (glue true nX1 R):=⟨tc,hsrt1,cnt5,.inl own,fun b hb=>hb.elim (fun h9=>by have:=lt b h9;omega) (fun h9=>h9.2),fun b hb=>hb.elim (bs b) (fun h9=>.inr (by omega)),.inr ⟨h0,T,gE1,by
       rcases Nat.eq_zero_or_pos h0 with h9|h9
       · rw [gE7 h9];omega
       · rw [gE6 h9];assumption,gE5,hc,hnt1,fun b o hb=>(hown1 b o hb).imp id (fun h9=>⟨h9.1,by omega⟩)⟩⟩
    exact ⟨_,hM9.zr9 (n:=H2.size) hzb hzS (fun b hb=>hb.imp id (fun h9=>h9.1)) hzl Wz,(hFt.mono (fun b o _ h=>.inl h)).trans' Wz.fr (fun _ _ _ h=>h) (fun b o _ h=>.inr h.1),fun b hb=>hb.imp id (fun h9=>h9.1)⟩
end
end Go.Bt.FG
namespace Go.Bt.FG
open Go Go.Proofs Go.Proofs.Try
set_option maxRecDepth 20000
set_option maxHeartbeats 4000000
set_option linter.unusedSectionVars false
def dg (d:Nat):Nat:=if d=0 then 32 else d
def PD (d:Nat):Ps:=⟨1,2*dg d-1,dg d-1⟩
theorem dg_ok {d:Nat} (hd:d=0∨2≤d∧d≤128):2≤dg d∧dg d≤128:=by unfold dg;split<;>omega
theorem PD_ok {d:Nat} (hd:d=0∨2≤d∧d≤128):PsOk (PD d):=by
 have:=dg_ok hd
 exact ⟨by show 2*dg d-1=2*(dg d-1)+1;omega,by show 1≤dg d-1;omega,by show 2*dg d-1≤255;omega⟩
structure TrN (H:Mem) (tr id mx mn:Nat) (lv:Value):Prop where
 iso:cl H tr 0=some (.int .u64 (id:Int))
 rt:cl H tr 2=some (.pointer none)
 cnt:cl H tr 3=some (.int .i64 0)
 emp:Rd H tr 7 [.int .i64 0,.int .i64 0]
 mn':cl H tr 10=some (.int .i64 (mn:Int))
 mx':cl H tr 9=some (.int .i64 (mx:Int))
 cv:cl H tr 4=some (.bool false)
 icv:cl H tr 5=some (.bool false)
 le:cl H tr 6=some lv
 wr:Wr H tr 0 11
theorem TrN.fr {H H':Mem} {tr id mx mn:Nat} {lv:Value} {Z:Nat→Nat→Prop} (h:TrN H tr id mx mn lv) (hf:Fr Z H H') (hz:∀o,¬Z tr o):TrN H' tr id mx mn lv:=
 ⟨hf.keep h.iso (hz _),hf.keep h.rt (hz _),hf.keep h.cnt (hz _),hf.rd h.emp (fun _ _=>hz _),hf.keep h.mn' (hz _),hf.keep h.mx' (hz _),hf.keep h.cv (hz _),hf.keep h.icv (hz _),hf.keep h.le (hz _),hf.wr h.wr⟩
theorem st88:StT Try.prog 88 [(0,1),(1,1)] [.int .i64 0,.bool false]:=⟨⟨_,underlying88,fun w=>by simp [Array.mapM_eq_mapM_toList,sizeOf3,sizeOf4]⟩,zeroValue88⟩
theorem degG_spec {B:World} {H:Mem} {d:Nat} (hd:d=0∨2≤d∧d≤128):
  Fn Try.prog B 94 [.int .i64 (d:Int)] H (fun v H'=>v=.tuple #[.int .i64 ((dg d-1:Nat):Int),.int .i64 ((2*dg d-1:Nat):Int)]∧H'=H):=by
 rcases hd with rfl|hd
 rotate_left
 · rw [show dg d=d by unfold dg;rw [if_neg (by omega)]];haveI:Inhabited Cx:=⟨⟨[],0,.bool false,0,fun _=>False⟩⟩;exact deg_spec hd
 refine fn_of func94 rfl ntmps94 ?_
 refine (show Go' _ _ _ _ 15 [(0,_)] [.code _] _ from ?_)
 refine Ut 1 rfl (Ur 2 0 rfl (Uf 2 [0,2,3] rfl (Ut 2 rfl (Ur 2 0 rfl (Uc 1 rfl (leqT (by omega)) (Uf 0 [0,2,3,5] rfl (Go'.condT rfl (Ur 1 0 rfl (Uf 1 [0,2,3] rfl (Ut 1 rfl (Ur 4 0 rfl ?_)))))))))))
 refine Uq 1 rfl (O.mul (((64:Nat):Int)) rfl rfl rfl rfl rfl rfl (by omega) (by omega) (Ub 0 (((63:Nat):Int)) rfl (by omega) (Uf 1 [2,3] rfl (Ut 1 rfl (Ur 3 0 rfl (Uq 1 rfl (O.quo (((31:Nat):Int)) rfl rfl rfl rfl rfl rfl (by decide) rfl (by omega) (Uf 1 [2,3] rfl (Ut 1 rfl (Ur 4 0 rfl (Uf 4 [2,3] rfl ?_)))))))))))
 refine Go'.ret (vs:=[_,_]) func94 results94 ⟨rfl,rfl,trivial⟩ ?_
 exact ⟨rfl,rfl⟩
theorem init_new {B:World} {H:Mem} {tr id d:Nat} {lv:Value} (hd:d=0∨2≤d∧d≤128) (h:TrN H tr id 0 0 lv):
  Fn Try.prog B 70 [.pointer (some ⟨tr,0,none⟩),.int .i64 (d:Int)] H (fun v H'=>v=resVal []∧H'.size=H.size∧Fr (fun b _=>b=tr) H H'∧TrN H' tr id (2*dg d-1) (dg d-1) lv):=by
 obtain ⟨h0,h2,h3,he,h6,h7,h8,h9,hle,hw⟩:=h
 have htl:tr<H.size:=cl_lt h0
 have hF:Fr (fun b _=>b=tr) H H:=Fr.refl _ _
 refine fn_of func70 rfl ntmps70 ?_
 refine (show Go' _ _ _ _ 49 [(0,_),(1,_)] [.code _] _ from ?_)
 refine Ut 2 rfl (Ur 5 64 rfl (Ul 3 rfl h6 (Uc 0 rfl (neqF (by omega)) (Uf 0 [0,1,8] rfl (Go'.condF rfl (Ut 2 rfl (Ur 13 34078848 rfl (Uq 3 rfl (O.callQ rfl rfl rfl call94 rfl (degG_spec hd) trivial (Uq 5 rfl (O.st rfl rfl sizeOf3 rfl rfl rfl rfl rfl (hw.at0 10 1 (by omega)) ?_)))))))))))
 intro H1 W1
 have hsW1:=W1.size
 replace h0:=W1.keep1 h0 (by omega)
 replace h2:=W1.keep1 h2 (by omega)
 replace h3:=W1.keep1 h3 (by omega)
 replace he:=W1.fr.rd he (fun i hi=>nr (by simp only [List.length_cons,List.length_nil] at hi ⊢;omega))
 replace h6:=W1.at
 replace h7:=W1.keep1 h7 (by omega)
 replace h8:=W1.keep1 h8 (by omega)
 replace h9:=W1.keep1 h9 (by omega)
 replace hle:=W1.keep1 hle (by omega)
 replace hw:=W1.fr.wr hw
 replace hF:=hF.trans' W1.fr (fun _ _ _ h=>h) (fun b o _ h=>h.1)
 refine ⟨trivial,?_⟩
 refine Uq 2 rfl (O.st rfl rfl sizeOf3 rfl rfl rfl rfl rfl (hw.at0 9 1 (by omega)) ?_)
 intro H2 W2
 have hsW2:=W2.size
 replace h0:=W2.keep1 h0 (by omega)
 replace h2:=W2.keep1 h2 (by omega)
 replace h3:=W2.keep1 h3 (by omega)
 replace he:=W2.fr.rd he (fun i hi=>nr (by simp only [List.length_cons,List.length_nil] at hi ⊢;omega))
 replace h6:=W2.keep1 h6 (by omega)
 replace h7:=W2.at
 replace h8:=W2.keep1 h8 (by omega)
 replace h9:=W2.keep1 h9 (by omega)
 replace hle:=W2.keep1 hle (by omega)
 replace hw:=W2.fr.wr hw
 replace hF:=hF.trans' W2.fr (fun _ _ _ h=>h) (fun b o _ h=>h.1)
 refine ⟨trivial,?_⟩
 refine Uf 0 [0] rfl (Ut 1 rfl (Ur 13 33554688 rfl (Us 4 rfl he rfl (O.mki rfl rfl rfl rfl underlying27 rfl rfl (O.tya rfl rfl rfl rfl rfl (run_assert_no' underlying152 typeInfo27 rfl zeroValue152) (Uq 5 rfl (O.st rfl rfl sizeOf4 rfl rfl rfl rfl rfl (hw.at0 4 1 (by omega)) ?_)))))))
 intro H3 W3
 have hsW3:=W3.size
 replace h0:=W3.keep1 h0 (by omega)
 replace h2:=W3.keep1 h2 (by omega)
 replace h3:=W3.keep1 h3 (by omega)
 replace he:=W3.fr.rd he (fun i hi=>nr (by simp only [List.length_cons,List.length_nil] at hi ⊢;omega))
 replace h6:=W3.keep1 h6 (by omega)
 replace h7:=W3.keep1 h7 (by omega)
 replace h8:=W3.at
 replace h9:=W3.keep1 h9 (by omega)
 replace hle:=W3.keep1 hle (by omega)
 replace hw:=W3.fr.wr hw
 replace hF:=hF.trans' W3.fr (fun _ _ _ h=>h) (fun b o _ h=>h.1)
 refine ⟨trivial,?_⟩
 refine Uf 0 [0] rfl (Ut 1 rfl (Ur 5 64 rfl (Ul 3 rfl h8 (Uf 1 [0,36] rfl (Go'.condT rfl (Ur 13 33554688 rfl (Us 4 rfl he rfl (O.mki rfl rfl rfl rfl underlying27 rfl rfl (O.tya rfl rfl rfl rfl rfl (run_assert_no' underlying155 typeInfo27 rfl zeroValue155) (Uq 5 rfl (O.st rfl rfl sizeOf4 rfl rfl rfl rfl rfl (hw.at0 5 1 (by omega)) ?_)))))))))))
 intro H4 W4
 have hsW4:=W4.size
 replace h0:=W4.keep1 h0 (by omega)
 replace h2:=W4.keep1 h2 (by omega)
 replace h3:=W4.keep1 h3 (by omega)
 replace he:=W4.fr.rd he (fun i hi=>nr (by simp only [List.length_cons,List.length_nil] at hi ⊢;omega))
 replace h6:=W4.keep1 h6 (by omega)
 replace h7:=W4.keep1 h7 (by omega)
 replace h8:=W4.keep1 h8 (by omega)
 replace h9:=W4.at
 replace hle:=W4.keep1 hle (by omega)
 replace hw:=W4.fr.wr hw
 replace hF:=hF.trans' W4.fr (fun _ _ _ h=>h) (fun b o _ h=>h.1)
 refine ⟨trivial,?_⟩
 refine Uf 0 [] rfl (Go'.fall func70 results70 (vs:=[]) trivial ?_)
 exact ⟨rfl,by omega,hF,⟨h0,h2,h3,he,h6,h7,h8,h9,hle,hw⟩⟩
theorem newIso_spec {B:World} {H:Mem} {c:Nat} (hc:cl H c 0=some (.int .u64 0)) (hw:Wr H c 0 1):
  Fn Try.prog B 69 [.pointer (some ⟨c,0,none⟩)] H (fun v H'=>v=.int .u64 ((1:Nat):Int)∧Fr (fun b _=>b=c) H H'):=by
 refine fn_of func69 rfl ntmps69 ?_
 refine (show Go' _ _ _ _ 11 [(0,_)] [.code _] _ from ?_)
 refine Ut 1 rfl (Ur 1 0 rfl (Uf 1 [0,2] rfl (Ut 1 rfl (Ur 6 2064 rfl (Ul 2 rfl hc (O.bin rfl rfl rfl rfl rfl rfl (fun w=>⟨run_eqGuard_int _ _ _ _ _ _ _ _ w,rfl⟩) (Uq 1 rfl (O.st rfl rfl sizeOf105 rfl rfl rfl rfl rfl hw ?_))))))))
 intro H1 W1
 refine ⟨trivial,?_⟩
 refine Uf 0 [0,2] rfl (Ut 1 rfl (Ur 4 16 rfl (Ul 2 rfl W1.at (Uf 1 [2] rfl (Go'.ret (vs:=[_]) func69 results69 ⟨rfl,trivial⟩ ?_)))))
 exact ⟨rfl,W1.fr.mono fun b o _ h=>h.1⟩
theorem newTree_spec {B:World} {H:Mem} {d:Nat} {nl:Bool} {g:FuncId} {ob:Nat} (hd:d=0∨2≤d∧d≤128):
  Fn Try.prog B 49 [.func (.func g) #[] #[ptr ob],.agg #[.int .i64 (d:Int),.bool nl]] H (fun r H'=>∃tr,r=ptr tr∧H.size≤tr∧tr<H'.size∧Fr nowhere H H'∧TrN H' tr 1 (2*dg d-1) (dg d-1) (.func (.func g) #[] #[ptr ob])):=by
 refine fn_of func49 rfl ntmps49 ?_
 refine (show Go' _ _ _ _ 28 [(0,_),(1,_)] [.code _] _ from ?_)
 refine Ut 1 rfl (Ur 2 2 rfl (O.box rfl rfl rfl rfl ?_))
 intro H0 M0
 refine ⟨trivial,?_⟩
 have hs0:=M0.size
 have mo:Rd H0 H.size 0 [.int .i64 (d:Int),.bool nl]:=M0.rd _ [] (by simp [Value.cells])
 refine Uf 1 [0,3,4] rfl (Ut 1 rfl (Ur 2 2 rfl (O.alloc rfl rfl rfl zeroValue109 ?_)))
 intro H1 M1
 refine ⟨trivial,?_⟩
 have hs1:=M1.size
 replace mo:=(M1.fr nowhere).rd mo (fun _ _=>nw)
 have hT0:TrN H1 H0.size 0 0 0 _:=⟨(M1.cl 0).trans rfl,(M1.cl 2).trans rfl,(M1.cl 3).trans rfl,fun i v h=>by
   match i,h with
   | 0,h=>exact (M1.cl 7).trans h
   | 1,h=>exact (M1.cl (7+1)).trans h
   | i+2,h=>simp at h,(M1.cl 10).trans rfl,(M1.cl 9).trans rfl,(M1.cl 4).trans rfl,(M1.cl 5).trans rfl,(M1.cl 6).trans rfl,M1.wr 11 (by decide)⟩
 refine Uf 1 [0,3,4,5] rfl (Ut 1 rfl (Ur 5 520 rfl (Uq 1 rfl (O.alloc rfl rfl rfl zeroValue105 ?_))))
 intro H2 M2
 refine ⟨trivial,?_⟩
 have hs2:=M2.size
 replace mo:=(M2.fr nowhere).rd mo (fun _ _=>nw)
 replace hT0:=hT0.fr (M2.fr nowhere) (fun _=>nw)
 have hc0:cl H2 H1.size 0=some (.int .u64 0):=(M2.cl 0).trans rfl
 have hcw:Wr H2 H1.size 0 1:=M2.wr 1 (by decide)
 refine Uq 2 rfl (O.st rfl rfl sizeOf106 rfl rfl rfl rfl rfl (hT0.wr.at0 1 1 (by omega)) ?_)
 intro H3 W3
 have hs3:=W3.size
 replace mo:=W3.fr.rd mo (fun _ _=>nr (.inl (by omega)))
 replace hc0:=W3.keep1 hc0 (by omega)
 replace hcw:=W3.fr.wr hcw
 have hct:cl H3 H0.size 1=some (.pointer (some ⟨H1.size,0,none⟩)):=W3.at
 have hT0:TrN H3 H0.size 0 0 0 _:=⟨(W3.keep1 hT0.iso (by omega)),(W3.keep1 hT0.rt (by omega)),(W3.keep1 hT0.cnt (by omega)),(W3.fr.rd hT0.emp (fun i hi=>nr (by simp only [List.length_cons,List.length_nil] at hi ⊢;omega))),(W3.keep1 hT0.mn' (by omega)),(W3.keep1 hT0.mx' (by omega)),(W3.keep1 hT0.cv (by omega)),(W3.keep1 hT0.icv (by omega)),(W3.keep1 hT0.le (by omega)),(W3.fr.wr hT0.wr)⟩
 refine ⟨trivial,?_⟩
 refine Uf 0 [0,3,4,5] rfl (Ut 1 rfl (Ur 9 133376 rfl (Ul 4 rfl hct (O.call rfl rfl rfl call69 rfl (newIso_spec hc0 hcw) ?_))))
 rintro _ H4 ⟨rfl,hF4⟩
 have hs4:=hF4.size
 replace mo:=hF4.rd mo (fun _ _ e=>by have e':H.size=H1.size:=e;omega)
 replace hT0:=hT0.fr hF4 (fun _ e=>by have e':H0.size=H1.size:=e;omega)
 refine ⟨trivial,?_⟩
 refine Uq 2 rfl (O.st rfl rfl sizeOf105 rfl rfl rfl rfl rfl (hT0.wr.at0 0 1 (by omega)) ?_)
 intro H5 W5
 have hs5:=W5.size
 replace mo:=W5.fr.rd mo (fun _ _=>nr (.inl (by omega)))
 have hT0:TrN H5 H0.size 1 0 0 _:=⟨W5.at,(W5.keep1 hT0.rt (by omega)),(W5.keep1 hT0.cnt (by omega)),(W5.fr.rd hT0.emp (fun i hi=>nr (by simp only [List.length_cons,List.length_nil] at hi ⊢;omega))),(W5.keep1 hT0.mn' (by omega)),(W5.keep1 hT0.mx' (by omega)),(W5.keep1 hT0.cv (by omega)),(W5.keep1 hT0.icv (by omega)),(W5.keep1 hT0.le (by omega)),(W5.fr.wr hT0.wr)⟩
 refine ⟨trivial,?_⟩
 refine Uf 0 [0,3,4,5] rfl (Ut 1 rfl (Ur 5 512 rfl (Uq 4 rfl (O.st rfl rfl sizeOf58 rfl rfl rfl rfl rfl (hT0.wr.at0 6 1 (by omega)) ?_))))
 intro H6 W6
 have hs6:=W6.size
 replace mo:=W6.fr.rd mo (fun _ _=>nr (.inl (by omega)))
 have hT0:TrN H6 H0.size 1 0 0 (.func (.func g) #[] #[ptr ob]):=⟨(W6.keep1 hT0.iso (by omega)),(W6.keep1 hT0.rt (by omega)),(W6.keep1 hT0.cnt (by omega)),(W6.fr.rd hT0.emp (fun i hi=>nr (by simp only [List.length_cons,List.length_nil] at hi ⊢;omega))),(W6.keep1 hT0.mn' (by omega)),(W6.keep1 hT0.mx' (by omega)),(W6.keep1 hT0.cv (by omega)),(W6.keep1 hT0.icv (by omega)),W6.at,(W6.fr.wr hT0.wr)⟩
 refine ⟨trivial,?_⟩
 refine Uf 0 [3,4,5] rfl (Ut 1 rfl (Ur 4 144 rfl (Ul 2 rfl (mo 0 _ rfl) (O.call rfl rfl rfl call70 rfl (init_new hd hT0) ?_))))
 rintro _ H7 ⟨rfl,hs7,hF7,hT7⟩
 refine ⟨trivial,?_⟩
 refine Uf 0 [4,5] rfl (Ut 1 rfl (Ur 2 0 rfl (Uf 2 [4] rfl (Go'.ret (vs:=[_]) func49 results49 ⟨rfl,trivial⟩ ?_))))
 refine ⟨H0.size,rfl,by omega,by omega,?_,hT7⟩
 have f1:Fr nowhere H H2:=((M0.fr nowhere).trans (M1.fr nowhere)).trans (M2.fr nowhere)
 have f3:Fr nowhere H H3:=f1.trans' W3.fr (fun _ _ _ h=>h) (fun b o hb h=>by have h':=h.1;omega)
 have f4:Fr nowhere H H4:=f3.trans' hF4 (fun _ _ _ h=>h) (fun b o hb h=>by have h':b=H1.size:=h;omega)
 have f5:Fr nowhere H H5:=f4.trans' W5.fr (fun _ _ _ h=>h) (fun b o hb h=>by have h':=h.1;omega)
 have f6:Fr nowhere H H6:=f5.trans' W6.fr (fun _ _ _ h=>h) (fun b o hb h=>by have h':=h.1;omega)
 exact f6.trans' hF7 (fun _ _ _ h=>h) (fun b o hb h=>by have h':b=H0.size:=h;omega)
theorem cloneN_spec {B:World} {H:Mem} {v:Value} {l:List Int} (hi:InS EN H v l) (hll:l.length≤4294967296):
  Fn Try.prog B 71 [v] H (fun r H'=>Acc EN (fun b=>H.size≤b) H' r l∧Fr nowhere H H'):=by
 obtain ⟨a,c,rfl⟩:=hi.len
 rcases a with _|a
 ·
  obtain rfl:l=[]:=by
   rcases hi with ⟨b,o,c',e,_⟩|⟨e,_⟩
   · cases e
   · exact e
  refine fn_of func71 rfl ntmps71 ?_
  refine (show Go' _ _ _ _ 8 [(0,_)] [.code _] _ from ?_)
  refine Ut 1 rfl (Ur 1 0 rfl (Uf 1 [0,2] rfl (Ut 2 rfl (Ur 2 0 rfl (Uq 1 rfl (O.slNil rfl rfl rfl rfl underlying22 rfl rfl (Uf 0 [0,2,4] rfl (Go'.condT rfl (Ut 1 rfl (Ur 1 0 rfl (Uf 1 [0,2] rfl ?_)))))))))))
  refine Go'.ret (vs:=[_]) func71 results71 ⟨rfl,trivial⟩ ?_
  exact ⟨Acc.nil _ _ _,Fr.refl _ _⟩
 ·
  refine fn_of func71 rfl ntmps71 ?_
  refine (show Go' _ _ _ _ 8 [(0,_)] [.code _] _ from ?_)
  refine Ut 1 rfl (Ur 1 0 rfl (Uf 1 [0,2] rfl (Ut 2 rfl (Ur 2 0 rfl (Uq 1 rfl (O.slNil rfl rfl rfl rfl underlying22 rfl rfl (Uf 0 [0,2,4] rfl (Go'.condF rfl (Ut 2 rfl (Ur 4 34 rfl (O.bsl (cs:=[]) rfl rfl rfl ⟨underlying22,sizeOf3,zeroValue3,⟨_,typeInfo3,rfl⟩,rfl,by decide,by decide⟩ rfl (by decide) (by kernel_rfl) ?_)))))))))))
  intro H1 M1
  have hs1:=M1.size
  have hA1:=AccN.made (E:=EN) M1
  refine ⟨trivial,?_⟩
  refine Uq 1 rfl (O.appI (E:=EN) rfl rfl rfl ⟨underlying22,sizeOf3,zeroValue3,⟨_,typeInfo3,rfl⟩,rfl,by decide,by decide⟩ rfl hA1 rfl (hi.fr (M1.fr nowhere)) (Nat.le_trans (Nat.mul_le_mul_left _ (Nat.le_of_ble_eq_true (n:=_) (m:=4096) rfl)) (by simp only [List.length_nil];omega)) (by simp only [List.length_nil];omega) ?_)
  intro v2 H2 hA2 hF2 hs2
  rw [List.nil_append] at hA2
  refine ⟨trivial,?_⟩
  refine Uf 1 [2] rfl (Go'.ret (vs:=[_]) func71 results71 ⟨rfl,trivial⟩ ?_)
  exact ⟨.inr (hA2.mono fun b _ hz=>hz.elim id (fun h=>by omega)),(M1.fr nowhere).trans' hF2 (fun _ _ _ h=>h) (fun b o hb hz=>by have hz':H.size≤b:=hz;omega)⟩
theorem ibefore_spec {B:World} {H:Mem} {v:Value} {ord:List Int} (ho:InS EN H v ord) (hl:ord.length≤4294967296):
  Fn Try.prog B 50 [v] H (fun r H'=>∃ob ov,r=.func (.func 72) #[] #[ptr ob]∧cl H' ob 0=some ov∧H.size≤ob∧ob<H'.size∧Acc EN (fun b=>H.size≤b∧b≠ob) H' ov ord∧Fr nowhere H H'):=by
 refine fn_of func50 rfl ntmps50 ?_
 refine (show Go' _ _ _ _ 7 [(0,_)] [.code _] _ from ?_)
 refine Ut 1 rfl (Ur 1 0 rfl (Uf 1 [0,2] rfl (Ut 1 rfl (Ur 4 168 rfl (Uq 1 rfl (O.call rfl rfl rfl call71 rfl (cloneN_spec ho hl) ?_))))))
 rintro ov H1 ⟨hA,hF1⟩
 obtain ⟨oa,om,oc,rfl⟩:=hA.form
 refine ⟨trivial,?_⟩
 refine O.alloc rfl rfl rfl zeroValue22 ?_
 intro H2 M2
 refine ⟨trivial,?_⟩
 have hs2:=M2.size
 have hA2:=(hA.mono (Y:=fun b=>H.size≤b∧b≠H1.size) (fun b hb hz=>⟨hz,by omega⟩)).fr (M2.fr nowhere) (fun _ _ _ _=>nw)
 have mw:Wr H2 H1.size 0 1:=M2.wr 1 (by decide)
 refine O.st rfl rfl sizeOf22 rfl rfl rfl rfl rfl mw ?_
 intro H3 W3
 have hs3:=W3.size
 have hA3:=hA2.fr W3.fr (fun b o _ hz=>nr (.inl hz.2))
 refine ⟨trivial,?_⟩
 refine Uf 0 [2,3] rfl (Ut 1 rfl (Ur 2 0 rfl (O.mkf rfl rfl rfl rfl rfl rfl (Uf 1 [2] rfl (Go'.ret (vs:=[_]) func50 results50 ⟨rfl,trivial⟩ ?_)))))
 exact ⟨H1.size,_,rfl,W3.at,hF1.size,by omega,hA3,(hF1.trans (M2.fr nowhere)).trans' W3.fr (fun _ _ _ h=>h) (fun b o hb h=>by have h':=h.1;have:=hF1.size;omega)⟩
theorem options_spec {B:World} {H:Mem} {v:Value} {d:Int} {nl:Bool} (hv:∃a m c,v=.slice a m c):
  Fn Try.prog B 51 [.agg #[v,.int .i64 d,.bool nl]] H (fun r H'=>r=.agg #[.int .i64 d,.bool nl]∧Fr nowhere H H'):=by
 obtain ⟨a,m,c,rfl⟩:=hv
 refine fn_of func51 rfl ntmps51 ?_
 refine (show Go' _ _ _ _ 8 [(0,_)] [.code _] _ from ?_)
 refine Ut 1 rfl (Ur 2 10 rfl (O.box rfl rfl rfl rfl ?_))
 intro H1 M1
 refine ⟨trivial,?_⟩
 have hs1:=M1.size
 have mo:Rd H1 H.size 0 [.slice a m c,.int .i64 d,.bool nl]:=M1.rd _ [] (by simp [Value.cells])
 refine O.alloc rfl rfl rfl zeroValue88 ?_
 intro H2 M2
 refine ⟨trivial,?_⟩
 have hs2:=M2.size
 replace mo:=(M2.fr nowhere).rd mo (fun _ _=>nw)
 have mw:Wr H2 H1.size 0 2:=M2.wr 2 (by decide)
 refine Uf 0 [1,2] rfl (Ut 1 rfl (Ur 6 2116 rfl (Ul 1 rfl (mo 1 _ rfl) (Ul 1 rfl (mo 2 _ rfl) (O.bld (cs:=[.int .i64 d,.bool nl]) rfl rfl rfl rfl (st88) rfl (by kernel_rfl) (O.st rfl rfl sizeOf88 rfl rfl rfl rfl rfl mw ?_))))))
 intro H3 W3
 refine ⟨trivial,?_⟩
 refine Uf 0 [2] rfl (Go'.ret (vs:=[_]) func51 results51 ⟨⟨_,_,rfl,fun _ _=>run_loadVar_agg (fun w=>⟨isAgg88 w,sizeOf88 w⟩) rfl W3.all⟩,trivial⟩ ?_)
 exact ⟨rfl,((M1.fr nowhere).trans (M2.fr nowhere)).trans' W3.fr (fun _ _ _ h=>h) (fun b o hb h=>by have h':=h.1;omega)⟩
theorem TrN.mapM {H:Mem} {H0 tr id mx mn ob:Nat} {ov:Value} {ord:List Int} (h:TrN H tr id mx mn (.func (.func 72) #[] #[ptr ob])) (hob:cl H ob 0=some ov) (hA:Acc EN (fun b=>H0≤b∧b≠ob∧b≠tr) H ov ord) (hol:ord.length<4611686018427387904) (h1:H0≤tr) (h2:H0≤ob) (h3:ob≠tr) (htl:tr<H.size):
  ∃I:Inhabited Cx,(@cx I).ord=ord∧(∀b,(@cx I).own b↔H0≤b)∧(@cx I).base=H.size∧@MapT I H tr ⟨id,mx,mn⟩ (fun b=>b=tr) [] none:=by
 refine ⟨⟨⟨ord,ob,ov,H.size,fun b=>H0≤b⟩⟩,rfl,fun _=>Iff.rfl,rfl,?_⟩
 letI I:Inhabited Cx:=⟨⟨ord,ob,ov,H.size,fun b=>H0≤b⟩⟩
 refine ⟨?_,.inl ⟨rfl,rfl,h.rt⟩⟩
 refine @MapM.mk I _ _ _ _ _ (@TrC.mk I _ _ _ _ _ h.iso h.emp h.mn' h.mx' h.cv h.icv h.le h.wr hob ?_ hol htl (cl_lt hob) h3 (Nat.le_refl _) h1 h2) List.Pairwise.nil h.cnt rfl (fun b hb=>by rw [hb];exact htl) (fun b hb=>.inl hb) (.inl ⟨rfl,h.rt⟩)
 rcases hA with ⟨rfl,rfl⟩|⟨b,o,c,rfl,hz,hb,hs⟩
 · exact .inr ⟨rfl,none,0,rfl⟩
 · exact .inl ⟨b,o,c,rfl,hs.hle,hs.rd,hb,hz.1,hz.2.2⟩
theorem InS.form {α:Type} {E:Elt α} {H:Mem} {v:Value} {l:List α} (h:InS E H v l):∃a m c,v=.slice a m c:=have ⟨a,c,e⟩:=h.len;⟨a,_,c,e⟩
theorem growT_spec {B:World} {H:Mem} {d:Nat} {nl:Bool} {v u:Value} {ord:List Int} {l:List (Int×Int)} (hd:d=0∨2≤d∧d≤128) (ho:InS EN H v ord) (hol:ord.length≤4294967296) (hi:InS EJ H u l) (hll:l.length≤4294967296):
  Fn Try.prog B 27 [.agg #[v,.int .i64 (d:Int),.bool nl],u] H (fun r H'=>∃I:Inhabited Cx,(@cx I).ord=ord∧(∀b,(@cx I).own b→H.size≤b)∧H.size≤(@cx I).base∧∃tr S,r=ptr tr∧@MapT I H' tr (PD d) S (Pl.puts (@OI I) l) (AbT.puts (@OI I) (PD d).mx (PD d).mn l)∧Fr nowhere H H'∧∀b,S b→H.size≤b):=by
 have hP:=PD_ok hd
 obtain ⟨a,c,hu⟩:=hi.len
 subst hu
 obtain ⟨av,mv,cv,hv⟩:=InS.form ho
 subst hv
 refine fn_of func27 rfl ntmps27 ?_
 refine (show Go' _ _ _ _ 25 [(0,_),(1,_)] [.code _] _ from ?_)
 refine Ut 1 rfl (Ur 2 2 rfl (O.box rfl rfl rfl rfl ?_))
 intro H1 M1
 refine ⟨trivial,?_⟩
 have hs1:=M1.size
 have mo:Rd H1 H.size 0 [.slice av mv cv,.int .i64 (d:Int),.bool nl]:=M1.rd _ [] (by simp [Value.cells])
 have ho1:=ho.fr (M1.fr nowhere)
 have mo0:cl H1 H.size 0=some (.slice av mv cv):=mo 0 _ rfl
 refine Uf 1 [1,2,4] rfl (Ut 1 rfl (Go'.draw (fun H'=>Rd H' H.size 0 [.slice av mv cv,.int .i64 (d:Int),.bool nl]) [(0,0),(1,1),(3,0),(2,2),(4,2),(5,2),(6,0)] (by kernel_rfl) (by kernel_rfl) (mo) (Ul 1 rfl mo0 (US 0 rfl (fun _ h=>h) rfl (O.call rfl rfl rfl call50 rfl (ibefore_spec ho1 hol) ?_)))))
 rintro _ H2 ⟨ob,ov,rfl,hob,hob1,hob2,hA2,hF2⟩
 have hs2:=hF2.size
 replace mo:=hF2.rd mo (fun _ _=>nw)
 replace mo0:=hF2.keep mo0 nw
 refine ⟨mo,?_⟩
 refine O.call rfl rfl rfl call51 rfl (options_spec ⟨_,_,_,rfl⟩) ?_
 rintro _ H3 ⟨rfl,hF3⟩
 have hs3:=hF3.size
 replace hob:=hF3.keep hob nw
 replace hA2:=hA2.fr hF3 (fun _ _ _ _=>nw)
 replace mo:=hF3.rd mo (fun _ _=>nw)
 replace mo0:=hF3.keep mo0 nw
 refine ⟨mo,?_⟩
 refine O.call rfl rfl rfl call49 rfl (newTree_spec hd) ?_
 rintro _ H4 ⟨tr,rfl,htr1,htr2,hF4,hT⟩
 have hs4:=hF4.size
 replace mo:=hF4.rd mo (fun _ _=>nw)
 replace mo0:=hF4.keep mo0 nw
 replace hob:=hF4.keep hob nw
 replace hA2:=(hA2.mono (Y:=fun b=>H1.size≤b∧b≠ob∧b≠tr) (fun b hb hz=>⟨hz.1,hz.2,by omega⟩)).fr hF4 (fun _ _ _ _=>nw)
 have hFa:Fr nowhere H H4:=(((M1.fr nowhere).trans hF2).trans hF3).trans hF4
 obtain ⟨I,hIo,hIw,hIb,hM1⟩:=hT.mapM (H0:=H1.size) hob hA2 (by omega) (by omega) hob1 (by omega) htr2
 unfold ptr
 refine ⟨mo,?_⟩
 refine Uf 1 [1,4,5] rfl (Ut 2 rfl ?_)
 clear hA2 hob hT hF4 hF3 hF2 ho1
 have hOI:OO ord=OI:=by rw [←hIo];rfl
 have hPD:(⟨1,2*dg d-1,dg d-1⟩:Ps)=PD d:=rfl
 rw [hPD] at hM1
 clear hPD
 refine Ur 3 0 rfl (Uf 3 [4,5,14,15,16] rfl (Ut 1 rfl (Go'.loop (Uk [4,5,14,15,16] rfl ?_))))
 refine Go'.ind (σ:=Nat) (fun j=>l.length-j) (fun j H'=>Fr nowhere H H'∧j≤l.length∧∃S,MapT H' tr (PD d) S (Pl.puts OI (l.take j)) (AbT.puts OI (PD d).mx (PD d).mn (l.take j))∧∀b,S b→H.size≤b)
  (fun j=>[(4,.pointer none),(5,.pointer (some ⟨tr,0,none⟩)),(14,.slice a l.length c),(15,.int .i64 (l.length:Int)),(16,.int .i64 (j:Int))]) 0 ⟨hFa,Nat.zero_le _,_,hM1,fun b hb=>by omega⟩ rfl ?_
 clear hM1
 rintro j H2 ⟨hF,hjl,S,hM,hS⟩ ih
 have hi2:=hi.fr hF
 refine Ut 1 rfl ?_
 by_cases hlt:j<l.length
 ·
  obtain ⟨y,hy⟩:∃y,l[j]?=some y:=⟨l[j],List.getElem?_eq_getElem hlt⟩
  obtain ⟨b,o,c',e,hr⟩:=hi2.at hy
  cases e
  have hpl:=Pl.puts_length OI (l.take j)
  rw [List.length_take] at hpl
  have hlt2:=hM.1.lt
  have hbs:=hM.1.tc.hb
  have hH2:=hF.size
  refine Ur 1 0 rfl (Uc 0 rfl (lssT (by omega)) (Uf 0 [4,5,14,15,16,17] rfl (Ut 1 rfl (Go'.condT rfl (Ut 4 rfl (Ur 4 164 rfl (Ux 0 j rfl (by omega) hlt (Us 0 rfl hr rfl (O.alloc rfl rfl rfl zeroValue27 ?_)))))))))
  intro H5 M5
  refine ⟨trivial,?_⟩
  have hs5:=M5.size
  replace hM:=hM.fr (M5.fr nowhere) (fun _ _ _=>nw)
  have m7:Wr H5 H2.size 0 2:=M5.wr 2 (by decide)
  refine O.st rfl rfl sizeOf27 rfl rfl rfl rfl rfl m7 ?_
  intro H6 W6
  have hs6:=W6.size
  replace hM:=hM.fr W6.fr (fun b o hb hz=>by have h1:=hz.1;exact hb.elim (fun hb=>by have h2:=hlt2 b hb;omega) (fun hb=>by omega))
  have hf6:Fr nowhere H H6:=hF.trans' ((M5.fr nowhere).trans' W6.fr (Z:=nowhere) (fun _ _ _ h=>h) (fun b o hb hz=>by have h1:=hz.1;omega)) (fun _ _ _ h=>h) (fun _ _ _ h=>h)
  have k0:Rd H6 H2.size 0 (EJ.enc y):=W6.all
  refine ⟨trivial,?_⟩
  refine Uf 0 [4,5,7,14,15,16,17] rfl (Ur 3 36 rfl (Us 1 rfl k0 rfl (O.call rfl rfl rfl call52 rfl (setT_spec hP (x:=y) hM (by omega)) ?_)))
  rintro _ H7 ⟨_,rfl,S',hM',hF',hS'⟩
  refine ⟨trivial,?_⟩
  refine Uf 0 [4,5,7,14,15,16,17] rfl (Ut 1 rfl (Ur 2 0 rfl (Ua 0 (((j+1:Nat):Int)) rfl (by omega) (Uf 1 [4,5,7,14,15,16,17] rfl (Uk [4,5,14,15,16] rfl (Go'.inLoop ?_))))))
  exact ih (j+1) H7 ⟨hf6.trans' hF' (fun _ _ _ h=>h) (fun b o hb hz=>hz.elim (fun hz=>by have h1:=hS b hz;omega) id),hlt,S',by
   rw [List.take_add_one,hy]
   rw [←Pl.puts_snoc,←AbT.puts_snoc] at hM'
   exact hM',fun b hb=>(hS' b hb).elim (hS b) (fun h=>by have:=hf6.size;omega)⟩ (by omega)
 ·
  obtain rfl:j=l.length:=by omega
  refine Ur 1 0 rfl (Uc 0 rfl (lssF (by omega)) (Uf 0 [4,5,14,15,16,17] rfl (Ut 1 rfl (Go'.condF rfl (Ut 2 rfl (Ur 2 0 rfl (Uf 2 [4] rfl (Go'.ret (vs:=[_]) func27 results27 ⟨rfl,trivial⟩ ?_))))))))
  rw [List.take_length] at hM
  exact ⟨I,hIo,fun b hb=>by have:=(hIw b).1 hb;omega,by rw [hIb];omega,tr,S,rfl,hM,hF,hS⟩
theorem grow_spec {B:World} {H:Mem} {d:Nat} {nl:Bool} {v u:Value} {ord:List Int} {l:List (Int×Int)} (hd:d=0∨2≤d∧d≤128) (ho:InS EN H v ord) (hol:ord.length≤4294967296) (hi:InS EJ H u l) (hll:l.length≤4294967296):
  Fn Try.prog B 27 [.agg #[v,.int .i64 (d:Int),.bool nl],u] H (fun r H'=>∃I:Inhabited Cx,(@cx I).ord=ord∧(∀b,(@cx I).own b→H.size≤b)∧H.size≤(@cx I).base∧∃tr S,r=ptr tr∧@MapM I H' tr (PD d) S (Pl.puts (@OI I) l)∧Fr nowhere H H'∧∀b,S b→H.size≤b):=
 (growT_spec hd ho hol hi hll).mono fun _ _ ⟨I,h1,h2,h3,tr,S,h4,h5,h6⟩=>⟨I,h1,h2,h3,tr,S,h4,h5.1,h6⟩
end Go.Bt.FG
namespace Go.Bt
open Go Go.Proofs Go.Proofs.Try
set_option maxRecDepth 20000
set_option maxHeartbeats 4000000
theorem st27:StT Try.prog 27 [(0,1),(1,1)] [.int .i64 0,.int .i64 0]:=⟨⟨_,underlying27,fun w=>by simp [Array.mapM_eq_mapM_toList,sizeOf3]⟩,zeroValue27⟩
theorem st77:StT Try.prog 77 [(0,2),(2,1)] [.int .i64 0,.int .i64 0,.bool false]:=⟨⟨_,underlying77,fun w=>by simp [Array.mapM_eq_mapM_toList,sizeOf4,sizeOf27]⟩,zeroValue77⟩
end Go.Bt
namespace Go.Bt
open Go Go.Proofs Go.Proofs.Try
set_option maxRecDepth 20000
set_option maxHeartbeats 4000000
end Go.Bt
namespace Go.Bt
open Go Go.Proofs Go.Proofs.Try
set_option maxRecDepth 20000
set_option maxHeartbeats 4000000
end Go.Bt
namespace Go.Bt.FG
open Go Go.Proofs Go.Proofs.Try
set_option maxRecDepth 20000
set_option maxHeartbeats 4000000
set_option linter.unusedSectionVars false
@[reducible] def nilCx:Inhabited Cx:=⟨⟨[],0,.bool false,0,fun _=>False⟩⟩
def exl:List (Int×Int):=[(5,1),(3,2),(9,3),(3,4),(1,5),(7,6),(8,7)]
theorem exItems_spec {B:World} {H:Mem}:Fn Try.prog B 23 [] H (fun r H'=>InS EJ H' r exl∧Fr nowhere H H'):=by
 refine fn_of func23 rfl ntmps23 ?_
 refine (show Go' _ _ _ _ 9 [] [.code _] _ from ?_)
 refine Ut 1 rfl (Ur 1 0 rfl (Uf 1 [0] rfl (Ut 1 rfl (Ur 9 32768 rfl (O.bld (cs:=[.int .i64 5,.int .i64 1]) rfl rfl rfl rfl (st27) rfl (by kernel_rfl) (O.bld (cs:=[.int .i64 3,.int .i64 2]) rfl rfl rfl rfl (st27) rfl (by kernel_rfl) (O.bld (cs:=[.int .i64 9,.int .i64 3]) rfl rfl rfl rfl (st27) rfl (by kernel_rfl) (O.bld (cs:=[.int .i64 3,.int .i64 4]) rfl rfl rfl rfl (st27) rfl (by kernel_rfl) (O.bld (cs:=[.int .i64 1,.int .i64 5]) rfl rfl rfl rfl (st27) rfl (by kernel_rfl) (O.bld (cs:=[.int .i64 7,.int .i64 6]) rfl rfl rfl rfl (st27) rfl (by kernel_rfl) (O.bld (cs:=[.int .i64 8,.int .i64 7]) rfl rfl rfl rfl (st27) rfl (by kernel_rfl) ?_)))))))))))
 refine O.bsl (cs:=(row EJ exl)) rfl rfl rfl ⟨underlying25,sizeOf27,zeroValue27,⟨_,typeInfo27,rfl⟩,rfl,by decide,by decide⟩ rfl (by decide) (by kernel_rfl) ?_
 intro H1 M1
 refine ⟨trivial,?_⟩
 refine Uf 1 [0] rfl (Go'.ret (vs:=[_]) func23 results23 ⟨rfl,trivial⟩ ?_)
 exact ⟨.inl ⟨H.size,0,7,rfl,by decide,M1.rd _ [] (by simp)⟩,M1.fr nowhere⟩
def fitsb (z:Int):Bool:=decide (z=0)||(decide (2≤z)&&decide (z≤128))
theorem fits_spec {B:World} {H:Mem} {z:Int}:Fn Try.prog B 24 [.int .i64 z] H (fun r H'=>r=.bool (fitsb z)∧H'=H):=by
 refine fn_of func24 rfl ntmps24 ?_
 refine (show Go' _ _ _ _ 13 [(0,_)] [.code _] _ from ?_)
 refine Ut 1 rfl (Ur 1 0 rfl (Uf 1 [0,2] rfl (Ut 1 rfl ?_)))
 by_cases h0:z=0
 ·
  refine Ur 11 0 rfl (Uc 1 rfl (eqlT (by omega)) (Uf 9 [2] rfl (Go'.ret (vs:=[_]) func24 results24 ⟨rfl,trivial⟩ ?_)))
  subst h0;exact ⟨rfl,rfl⟩
 by_cases h2:2≤z
 ·
  by_cases h3:z≤128
  ·
   refine Ur 11 0 rfl (Uc 1 rfl (eqlF (by omega)) (Uc 2 rfl (geqT (by omega)) (Uc 2 rfl (leqT (by omega)) (Uf 3 [2] rfl (Go'.ret (vs:=[_]) func24 results24 ⟨rfl,trivial⟩ ?_)))))
   exact ⟨by unfold fitsb;rw [decide_eq_false h0,decide_eq_true h2,decide_eq_true h3];rfl,rfl⟩
  ·
   refine Ur 11 0 rfl (Uc 1 rfl (eqlF (by omega)) (Uc 2 rfl (geqT (by omega)) (Uc 2 rfl (leqF (by omega)) (Uf 3 [2] rfl (Go'.ret (vs:=[_]) func24 results24 ⟨rfl,trivial⟩ ?_)))))
   exact ⟨by unfold fitsb;rw [decide_eq_false h0,decide_eq_true h2,decide_eq_false h3];rfl,rfl⟩
 ·
  refine Ur 11 0 rfl (Uc 1 rfl (eqlF (by omega)) (Uc 2 rfl (geqF (by omega)) (Uf 6 [2] rfl (Go'.ret (vs:=[_]) func24 results24 ⟨rfl,trivial⟩ ?_))))
  exact ⟨by unfold fitsb;rw [decide_eq_false h0,decide_eq_false h2];rfl,rfl⟩
theorem fits_spec' {B:World} {H:Mem} {z:Int} {b:Bool} (h:fitsb z=b):Fn Try.prog B 24 [.int .i64 z] H (fun r H'=>r=.bool b∧H'=H):=h▸fits_spec
theorem fitsb_nat {z:Int} (h:fitsb z=true):∃d:Nat,z=(d:Int)∧(d=0∨2≤d∧d≤128):=by
 unfold fitsb at h
 simp only [Bool.or_eq_true,Bool.and_eq_true,decide_eq_true_eq] at h
 exact ⟨z.toNat,by omega,by omega⟩
theorem st24:StT Try.prog 24 [(0,1),(1,1),(2,1)] [.slice none 0 0,.int .i64 0,.bool false]:=⟨⟨_,underlying24,fun w=>by simp [Array.mapM_eq_mapM_toList,sizeOf3,sizeOf4,sizeOf22]⟩,zeroValue24⟩
theorem exMake_spec {B:World} {H:Mem}:Fn Try.prog B 22 [] H (fun r H'=>r=.agg #[.slice none 0 0,.int .i64 ((2:Nat):Int),.bool false]∧Fr nowhere H H'):=by
 refine fn_of func22 rfl ntmps22 ?_
 refine (show Go' _ _ _ _ 2 [] [.code _] _ from ?_)
 refine Ut 1 rfl (Ur 1 2 rfl (O.alloc rfl rfl rfl zeroValue24 ?_))
 intro H1 M1
 refine ⟨trivial,?_⟩
 have mw:Wr H1 H.size 0 3:=M1.wr 3 (by decide)
 refine Uf 0 [0] rfl (Ut 1 rfl (Ur 2 8 rfl (O.bld (cs:=[.slice none 0 0,.int .i64 ((2:Nat):Int),.bool false]) rfl rfl rfl rfl (st24) rfl (by kernel_rfl) (O.st rfl rfl sizeOf24 rfl rfl rfl rfl rfl mw ?_))))
 intro H2 W2
 refine ⟨trivial,?_⟩
 refine Uf 0 [0] rfl (Go'.ret (vs:=[_]) func22 results22 ⟨⟨_,_,rfl,fun _ _=>run_loadVar_agg (fun w=>⟨isAgg24 w,sizeOf24 w⟩) rfl W2.all⟩,trivial⟩ ?_)
 exact ⟨rfl,(M1.fr nowhere).trans' W2.fr (fun _ _ _ h=>h) (fun b o hb h=>by have h':=h.1;omega)⟩
theorem zzFits1_spec {B:World} {H:Mem} {v:Value} {z:Int} {nl:Bool} {ord:List Int} {b:Bool} (ho:InS EN H v ord) (hb:decide (ord.length≤2147483647)=b):Fn Try.prog B 7 [.agg #[v,.int .i64 z,.bool nl]] H (fun r H'=>r=.bool b∧Fr nowhere H H'):=by
 obtain ⟨av,cv,hv⟩:=ho.len
 generalize hmv:ord.length=mv at*
 subst hv
 have hF:Fr nowhere H H:=Fr.refl _ _
 refine fn_of func7 rfl ntmps7 ?_
 refine (show Go' _ _ _ _ 7 [(0,_)] [.code _] _ from ?_)
 refine Ut 1 rfl (Ur 2 2 rfl (O.box rfl rfl rfl rfl ?_))
 intro B1 MB1
 refine ⟨trivial,?_⟩
 have hsB1:=MB1.size
 replace hF:=hF.trans (MB1.fr nowhere)
 have mx:Rd B1 H.size 0 [.slice av mv cv,.int .i64 z,.bool nl]:=MB1.rd _ [] (by simp [Value.cells])
 have mx0:cl B1 H.size 0=some (.slice av mv cv):=mx 0 _ rfl
 have mx1:cl B1 H.size (0+1)=some (.int .i64 z):=mx 1 _ rfl
 refine Uf 1 [1,2] rfl (Ut 2 rfl ?_)
 cases b
 ·
  refine Ur 4 4 rfl (Ul 1 rfl mx0 (Uc 1 rfl (gtrT (by have:=of_decide_eq_false hb;omega)) (Uf 0 [2,6] rfl (Go'.condT rfl (Ut 1 rfl (Ur 1 0 rfl (Uf 1 [2] rfl (Go'.ret (vs:=[_]) func7 results7 ⟨rfl,trivial⟩ ?_))))))))
  exact ⟨rfl,hF⟩
 ·
  refine Ur 4 4 rfl (Ul 1 rfl mx0 (Uc 1 rfl (gtrF (by have:=of_decide_eq_true hb;omega)) (Uf 0 [2,6] rfl (Go'.condF rfl (Ut 2 rfl (Ur 1 0 rfl (Uf 1 [2] rfl (Go'.ret (vs:=[_]) func7 results7 ⟨rfl,trivial⟩ ?_))))))))
  exact ⟨rfl,hF⟩
theorem lfits_spec {B:World} {H:Mem} {v:Value} {z:Int} {nl b:Bool} (hv:∃a m c,v=.slice a m c) (h:fitsb z=b):Fn Try.prog B 8 [.agg #[v,.int .i64 z,.bool nl]] H (fun r H'=>r=.bool b∧Fr nowhere H H'):=by
 obtain ⟨av,mv,cv,rfl⟩:=hv
 have hF:Fr nowhere H H:=Fr.refl _ _
 refine fn_of func8 rfl ntmps8 ?_
 refine (show Go' _ _ _ _ 6 [(0,_)] [.code _] _ from ?_)
 refine Ut 1 rfl (Ur 2 2 rfl (O.box rfl rfl rfl rfl ?_))
 intro B1 MB1
 refine ⟨trivial,?_⟩
 have hsB1:=MB1.size
 replace hF:=hF.trans (MB1.fr nowhere)
 have mm:Rd B1 H.size 0 [.slice av mv cv,.int .i64 z,.bool nl]:=MB1.rd _ [] (by simp [Value.cells])
 have mm0:cl B1 H.size 0=some (.slice av mv cv):=mm 0 _ rfl
 have mm1:cl B1 H.size (0+1)=some (.int .i64 z):=mm 1 _ rfl
 refine Uf 1 [1,2] rfl (Ut 1 rfl (Ur 4 36 rfl (Ul 1 rfl mm1 (O.callQ rfl rfl rfl call24 rfl (fits_spec' h) trivial (Uf 1 [2] rfl (Go'.ret (vs:=[_]) func8 results8 ⟨rfl,trivial⟩ ?_))))))
 exact ⟨rfl,hF⟩
theorem ifound_spec {B:World} {H:Mem} {o:Option (Int×Int)}:Fn Try.prog B 47 [PV o,.bool o.isSome] H (fun r H'=>r=FV o∧Fr nowhere H H'):=by
 have hF:Fr nowhere H H:=Fr.refl _ _
 unfold PV
 cases o with
 | none=>
  refine fn_of func47 rfl ntmps47 ?_
  refine (show Go' _ _ _ _ 10 [(0,_),(1,_)] [.code _] _ from ?_)
  refine Ut 1 rfl (Ur 2 10 rfl (O.box rfl rfl rfl rfl ?_))
  intro B1 MB1
  refine ⟨trivial,?_⟩
  have hsB1:=MB1.size
  replace hF:=hF.trans (MB1.fr nowhere)
  have mx:Rd B1 H.size 0 (EJ.enc ((none:Option (Int×Int)).getD (0,0))):=MB1.rd _ [] (by simp [Value.cells])
  refine O.alloc rfl rfl rfl zeroValue77 ?_
  intro B2 MB2
  refine ⟨trivial,?_⟩
  have hsB2:=MB2.size
  replace hF:=hF.trans (MB2.fr nowhere)
  replace mx:=(MB2.fr nowhere).rd mx (fun _ _=>nw)
  have mw0:Wr B2 B1.size 0 3:=MB2.wr 3 (by decide)
  refine Uf 0 [1,2,4] rfl (Ut 2 rfl (Ur 2 0 rfl (Uf 2 [2,4,6] rfl (Go'.condT rfl (Ut 1 rfl (Ur 2 8 rfl (O.bld (cs:=[.int .i64 0,.int .i64 0,.bool false]) rfl rfl rfl rfl (st77) rfl (by kernel_rfl) (O.st (vs:=(fvs none)) rfl rfl sizeOf77 rfl rfl rfl rfl rfl mw0 ?_))))))))
  intro H3 W3
  replace hF:=hF.trans' W3.fr (fun _ _ _ h=>h) (fun b o hb h=>by have h':=h.1;omega)
  replace mx:=W3.fr.rd mx (fun _ _=>nr (.inl (by omega)))
  replace mw0:=W3.fr.wr mw0
  refine ⟨trivial,?_⟩
  refine Uf 0 [2,4] rfl (Go'.ret (vs:=[_]) func47 results47 ⟨⟨_,_,rfl,fun _ _=>run_loadVar_agg (fun w=>⟨isAgg77 w,sizeOf77 w⟩) rfl W3.all⟩,trivial⟩ ?_)
  exact ⟨rfl,hF⟩
 | some y=>
  refine fn_of func47 rfl ntmps47 ?_
  refine (show Go' _ _ _ _ 10 [(0,_),(1,_)] [.code _] _ from ?_)
  refine Ut 1 rfl (Ur 2 10 rfl (O.box rfl rfl rfl rfl ?_))
  intro B1 MB1
  refine ⟨trivial,?_⟩
  have hsB1:=MB1.size
  replace hF:=hF.trans (MB1.fr nowhere)
  have mx:Rd B1 H.size 0 (EJ.enc ((some y).getD (0,0))):=MB1.rd _ [] (by simp [Value.cells])
  refine O.alloc rfl rfl rfl zeroValue77 ?_
  intro B2 MB2
  refine ⟨trivial,?_⟩
  have hsB2:=MB2.size
  replace hF:=hF.trans (MB2.fr nowhere)
  replace mx:=(MB2.fr nowhere).rd mx (fun _ _=>nw)
  have mw0:Wr B2 B1.size 0 3:=MB2.wr 3 (by decide)
  refine Uf 0 [1,2,4] rfl (Ut 2 rfl (Ur 2 0 rfl (Uf 2 [2,4,6] rfl (Go'.condF rfl (Ut 2 rfl (Ur 3 33 rfl (Us 0 rfl mx rfl (O.bld (cs:=[.int .i64 y.1,.int .i64 y.2,.bool true]) rfl rfl rfl rfl (st77) rfl (by kernel_rfl) (O.st (vs:=(fvs (some y))) rfl rfl sizeOf77 rfl rfl rfl rfl rfl mw0 ?_)))))))))
  intro H3 W3
  replace hF:=hF.trans' W3.fr (fun _ _ _ h=>h) (fun b o hb h=>by have h':=h.1;omega)
  replace mx:=W3.fr.rd mx (fun _ _=>nr (.inl (by omega)))
  replace mw0:=W3.fr.wr mw0
  refine ⟨trivial,?_⟩
  refine Uf 0 [4] rfl (Go'.ret (vs:=[_]) func47 results47 ⟨⟨_,_,rfl,fun _ _=>run_loadVar_agg (fun w=>⟨isAgg77 w,sizeOf77 w⟩) rfl W3.all⟩,trivial⟩ ?_)
  exact ⟨rfl,hF⟩
end Go.Bt.FG
namespace Go.Bt.FG
open Go Go.Proofs Go.Proofs.Try
set_option maxRecDepth 20000
set_option maxHeartbeats 4000000
set_option linter.unusedSectionVars false
theorem fields27:Try.prog.underlying 27=some (.struct (Try.prog.fieldsOf 27)):=by unfold Program.fieldsOf;rw [underlying27]
theorem item_eq (d:Nat) (x:Int×Int) (w:World):(Op.equalIn (d+2) 27 (.agg #[.int .i64 x.1,.int .i64 x.2]) (.agg #[.int .i64 x.1,.int .i64 x.2])).run Try.prog w=.ok true w:=by
 rw [run_equalIn_agg w (d+1) 27 _ _ fields27 Try.stoodInHeld27]
 simp [Op.eqFields,Program.fieldsOf,underlying27,part,isAgg3,run_equalIn_int w d 3 _ _ _ _ underlying3]
theorem item_neq (x:Int×Int) (a b:Operand) (w:World):(eqGuard .neq 27 a b (.agg (EJ.enc x).toArray) (.agg (EJ.enc x).toArray)).run Try.prog w=.ok () w∧(binOp .neq 27 (.agg (EJ.enc x).toArray) (.agg (EJ.enc x).toArray)).run Try.prog w=.ok (.bool false) w:=by
 refine ⟨run_eqGuard_agg w _ _ _ _ _ _ Try.eqGuardType27,?_⟩
 rw [run_neq_struct]
 have h:(Op.equalIn 10000 27 (.agg (EJ.enc x).toArray) (.agg (EJ.enc x).toArray)).run Try.prog w=.ok true w:=item_eq 9998 x w
 rw [h];rfl
theorem eqItems_spec {B:World} {H:Mem} {u v:Value} {l:List (Int×Int)} (hu:InS EJ H u l) (hv:InS EJ H v l) (hll:l.length≤4294967296):
  Fn Try.prog B 12 [u,v] H (fun r H'=>r=.bool true∧H'=H):=by
 obtain ⟨a,c,e⟩:=hu.len
 subst e
 obtain ⟨a',c',e⟩:=hv.len
 subst e
 refine fn_of func12 rfl ntmps12 ?_
 refine (show Go' _ _ _ _ 26 [(0,_),(1,_)] [.code _] _ from ?_)
 refine Ut 1 rfl (Ur 1 0 rfl (Uf 1 [0,1,4] rfl (Ut 2 rfl (Ur 5 0 rfl (Uc 4 rfl (neqF (by omega)) (Uf 0 [0,1,4,10] rfl (Go'.condF rfl (Ut 3 rfl (Ur 3 0 rfl (Uf 3 [0,1,4,12,13] rfl (Ut 1 rfl ?_)))))))))))
 refine Go'.loop (Uk [0,1,4,12,13] rfl ?_)
 refine Go'.ind (σ:=Nat) (fun j=>l.length-j) (fun j H'=>H'=H∧j≤l.length)
  (fun j=>[(0,.slice a l.length c),(1,.slice a' l.length c'),(4,.bool false),(12,.int .i64 (l.length:Int)),(13,.int .i64 (j:Int))]) 0 ⟨rfl,Nat.zero_le _⟩ rfl ?_
 rintro j H2 ⟨hHH,hjl⟩ ih
 have eH:H=H2:=hHH.symm
 subst eH
 clear hHH
 refine Ut 1 rfl ?_
 by_cases hlt:j<l.length
 ·
  obtain ⟨y,hy⟩:∃y,l[j]?=some y:=⟨l[j],List.getElem?_eq_getElem hlt⟩
  obtain ⟨b,o,cc,e,hr⟩:=hu.at hy
  cases e
  obtain ⟨b',o',cc',e,hr'⟩:=hv.at hy
  cases e
  refine Ur 1 0 rfl (Uc 0 rfl (lssT (by omega)) (Uf 0 [0,1,4,12,13,14] rfl (Ut 1 rfl (Go'.condT rfl (Ut 4 rfl (Ur 2 0 rfl (Uf 2 [0,1,4,5,12,13,14] rfl (Ut 1 rfl (Ud 9 16448 (by kernel_rfl) (Ux 2 j rfl (by omega) hlt (Us 0 rfl hr rfl ?_)))))))))))
  refine Ux 2 j rfl (by omega) hlt (Us 0 rfl hr' rfl (O.bin rfl rfl rfl rfl rfl rfl (item_neq y _ _) (Uf 0 [0,1,4,5,12,13,14,24] rfl (Go'.condF rfl (Ut 2 rfl (Ur 2 0 rfl (Ua 0 (((j+1:Nat):Int)) rfl (by omega) (Uf 1 [0,1,4,5,12,13,14,24] rfl (Uk [0,1,4,12,13] rfl (Go'.inLoop ?_))))))))))
  exact ih (j+1) H ⟨rfl,hlt⟩ (by omega)
 ·
  refine Ur 1 0 rfl (Uc 0 rfl (lssF (by omega)) (Uf 0 [0,1,4,12,13,14] rfl (Ut 1 rfl (Go'.condF rfl (Ut 2 rfl (Ur 1 0 rfl (Uf 1 [4] rfl (Go'.ret (vs:=[_]) func12 results12 ⟨rfl,trivial⟩ ?_))))))))
  exact ⟨rfl,rfl⟩
end Go.Bt.FG
namespace Go.Bt.FG
open Go Go.Proofs Go.Proofs.Try
set_option maxRecDepth 20000
set_option maxHeartbeats 4000000
set_option linter.unusedSectionVars false
theorem FVe (o:Option (Int×Int)):FV o=.agg (fvs o).toArray:=FV_eq o
theorem Gt.Good.some {H:Mem} {P:Ps}:∀{h:Nat} {t:Gt EJ h},Gt.Good H P h t→1≤(Gt.X h t).length→1≤(Gt.L h t).length
 | 0,_,_,h1=>h1
 | h+1,(g,X,K),hg,h1=>Nat.le_trans h1 (Pl.sublist_inter X (K.map (Gt.L h)) (by have:=hg.2.2.2.2.2.1;simp only at this;rw [List.length_map,this];omega)).length_le
end Go.Bt.FG
namespace Go.Bt.FG
open Go Go.Proofs Go.Proofs.Try
set_option maxRecDepth 20000
set_option maxHeartbeats 4000000
set_option linter.unusedSectionVars false
section
variable [Inhabited Cx]
theorem HintM.new {H H':Mem} {c:Array Value} {e:TypeId} (M:Made H H' c e) (hu:∀i,i<8→c[i]?=some (.bool false)) (hp:∀i,i<8→c[8+i]?=some (.int .u8 0)) (hs:16≤c.size) (he:e<1000:=by decide):HintM H' H.size:=
 ⟨fun i hi=>⟨false,(M.cl i).trans (hu i hi)⟩,fun i hi=>⟨0,by decide,(M.cl (8+i)).trans (hp i hi)⟩,M.wr 16 hs he⟩
end
end Go.Bt.FG
namespace Go.Bt.FG
open Go Go.Proofs Go.Proofs.Try
set_option maxRecDepth 20000
set_option maxHeartbeats 4000000
set_option linter.unusedSectionVars false
theorem puts_self {α:Type} (O:Pl.Swo α) {l:List α} (hs:Pl.Srt O l):Pl.puts O l=l:=
 Pl.srt_ext (Pl.puts_srt O l) hs fun y=>((Pl.puts_dis O l).2 (hs.imp fun h=>.inl h)).2 y
theorem puts_join {α:Type} (O:Pl.Swo α) {l:List α} (hs:Pl.Srt O l) (p:α→Bool):Pl.puts O (l.filter (fun x=>!p x)++l.filter p)=l:=
 (Pl.puts_perm O (l:=l) (by rw [puts_self O hs]) (List.perm_append_comm.trans (List.filter_append_perm p l)).symm).trans (puts_self O hs)
theorem igload_spec {B:World} {H:Mem} {d:Nat} {nl:Bool} {v u:Value} {ord:List Int} {l:List (Int×Int)} (hd:d=0∨2≤d∧d≤128) (ho:InS EN H v ord) (hol:ord.length≤4294967296) (hi:InS EJ H u l) (hll:l.length≤4294967296):
  Fn Try.prog B 25 [.agg #[v,.int .i64 (d:Int),.bool nl],u] H (fun r H'=>∃v1 v2,r=.tuple #[v1,v2]∧OutS EJ H' v2 (Pl.puts (OO ord) l)∧Fr nowhere H H'):=by
 obtain ⟨a,c,hu⟩:=hi.len
 subst hu
 obtain ⟨av,mv,cv,hv⟩:=InS.form ho
 subst hv
 have hF:Fr nowhere H H:=Fr.refl _ _
 have hP:=PD_ok hd
 refine fn_of func25 rfl ntmps25 ?_
 refine (show Go' _ _ _ _ 31 [(0,_),(1,_)] [.code _] _ from ?_)
 refine Ut 1 rfl (Ur 3 2 rfl (O.box rfl rfl rfl rfl ?_))
 intro B1 MB1
 refine ⟨trivial,?_⟩
 have hsB1:=MB1.size
 replace hF:=hF.trans (MB1.fr nowhere)
 have mm:Rd B1 H.size 0 [.slice av mv cv,.int .i64 (d:Int),.bool nl]:=MB1.rd _ [] (by simp [Value.cells])
 have mm0:cl B1 H.size 0=some (.slice av mv cv):=mm 0 _ rfl
 have mm1:cl B1 H.size (0+1)=some (.int .i64 (d:Int)):=mm 1 _ rfl
 refine Uf 2 [1,2,4,5] rfl (Ut 1 rfl (Ur 3 9 rfl (Us 0 rfl mm rfl (O.call rfl rfl rfl call27 rfl (grow_spec (l:=[]) hd (ho.fr hF) hol (InS.nil EJ _) (by decide)) ?_))))
 rintro _ H3 ⟨I,hIo,hIw,hIb,tr,S,rfl,hM,hF3,hS⟩
 have hs3:=hF3.size
 replace hF:=hF.trans hF3
 replace mm:=hF3.rd mm (fun _ _=>nw)
 replace mm0:=hF3.keep mm0 nw
 replace mm1:=hF3.keep mm1 nw
 have hSb:∀b,S b∨(b<cx.base∧cx.own b)→B1.size≤b:=fun b hb=>hb.elim (hS b) (fun h=>hIw b h.2)
 have hOO:OO ord=OI:=by rw [←hIo];rfl
 have hpl:=Pl.puts_length OI l
 have hSlt:=hM.lt
 have hbs:=hM.tc.hb
 unfold ptr
 refine ⟨trivial,?_⟩
 refine Uf 1 [1,4,5,6] rfl (Ut 1 rfl (Ur 1 0 rfl (Uf 1 [1,4,5,6,7] rfl (Ut 2 rfl (Ur 3 0 rfl (Uf 3 [4,5,6,7,12,13,14] rfl (Ut 1 rfl (Go'.loop (Uk [4,5,6,7,12,13,14] rfl ?_)))))))))
 refine Go'.ind (σ:=Nat×Value) (fun s=>l.length-s.1) (fun s H'=>s.1≤l.length∧Fr nowhere H H'∧H3.size≤H'.size∧∃S Zo,MapM H' tr (PD d) S (Pl.puts OI (l.take s.1))∧(∀b,S b→H.size≤b)∧Acc EF Zo H' s.2 (Pl.gots OI (l.take s.1))∧∀b,Zo b→H3.size≤b∧b<H'.size∧¬S b)
  (fun s=>[(4,.slice none 0 0),(5,.slice none 0 0),(6,.pointer (some ⟨tr,0,none⟩)),(7,s.2),(12,.slice a l.length c),(13,.int .i64 (l.length:Int)),(14,.int .i64 (s.1:Int))]) (0,.slice none 0 0) ⟨Nat.zero_le _,hF,Nat.le_refl _,S,fun _=>False,hM,fun b hb=>by have:=hS b hb;omega,Acc.nil _ _ _,fun _ h=>h.elim⟩ rfl ?_
 clear hM hF hS hSb hSlt S
 rintro ⟨j,sv⟩ H5 ⟨hjl,hF,hs45,S,Zo,hM,hS,hA,hZ⟩ ih
 simp only at hjl hM hA
 have hi2:=hi.fr hF
 refine Ut 1 rfl ?_
 by_cases hlt:j<l.length
 ·
  obtain ⟨y,hy⟩:∃y,l[j]?=some y:=⟨l[j],List.getElem?_eq_getElem hlt⟩
  obtain ⟨b,o,c',e,hr⟩:=hi2.at hy
  cases e
  have hpl2:=Pl.puts_length OI (l.take j)
  have hlout:=Pl.gots_length OI (l.take j)
  have hSlt:=hM.lt
  have hbs2:=hM.tc.hb
  have hsz:=hF.size
  have eput:Pl.puts OI (l.take (j+1))=Pl.put OI y (Pl.puts OI (l.take j)):=by rw [List.take_add_one,hy];exact Pl.puts_snoc _ _ _
  have egot:Pl.gots OI (l.take (j+1))=Pl.gots OI (l.take j)++[Pl.got OI y (Pl.puts OI (l.take j))]:=by rw [List.take_add_one,hy];exact Pl.gots_snoc _ _ _
  rw [List.length_take] at hpl2 hlout
  refine Ur 1 0 rfl (Uc 0 rfl (lssT (by omega)) (Uf 0 [4,5,6,7,12,13,14,15] rfl (Ut 1 rfl (Go'.condT rfl (Ut 4 rfl (Ur 4 164 rfl (Ux 0 j rfl (by omega) hlt (Us 0 rfl hr rfl (O.alloc rfl rfl rfl zeroValue27 ?_)))))))))
  intro H6 M6
  refine ⟨trivial,?_⟩
  have hs6:=M6.size
  replace hM:=hM.fr (M6.fr nowhere) (fun _ _ _=>nw)
  replace hA:=hA.fr (M6.fr nowhere) (fun _ _ _ _=>nw)
  have m7:Wr H6 H5.size 0 2:=M6.wr 2 (by decide)
  refine O.st rfl rfl sizeOf27 rfl rfl rfl rfl rfl m7 ?_
  intro H7 W7
  have hs7:=W7.size
  replace hM:=hM.fr W7.fr (fun b o hb=>nr (.inl (hb.elim (fun hb=>by have:=hSlt b hb;omega) (fun hb=>by omega))))
  replace hA:=hA.fr W7.fr (fun b o hb hb2=>nr (.inl (by have:=hZ b hb2;omega)))
  replace hF:Fr nowhere H H7:=hF.trans' ((M6.fr nowhere).trans' W7.fr (Z:=nowhere) (fun _ _ _ h=>h) (fun b o hb hz=>by have h1:=hz.1;omega)) (fun _ _ _ h=>h) (fun _ _ _ h=>h)
  have k0:Rd H7 H5.size 0 (EJ.enc y):=W7.all
  refine ⟨trivial,?_⟩
  refine Uf 0 [4,5,6,7,9,12,13,14,15] rfl (Ur 10 172176 rfl (Us 2 rfl k0 rfl (O.call rfl rfl rfl call48 rfl (load_spec hP (x:=y) hM (by omega)) ?_)))
  rintro _ H8 ⟨rfl,S',hM',hF8,hS'⟩
  rw [←Pl.got_isSome OI]
  have hs8:=hF8.size
  replace hA:=hA.fr hF8 (fun b o hb hb2 hz=>(hZ b hb2).2.2 hz)
  replace hF:=hF.trans' hF8 (fun _ _ _ h=>h) (fun b o hb hz=>by have:=hS b hz;omega)
  refine ⟨trivial,?_⟩
  refine Uq 2 rfl (O.call rfl rfl rfl call47 rfl ifound_spec ?_)
  rintro _ H9 ⟨rfl,hF9⟩
  have hs9:=hF9.size
  replace hM':=hM'.fr hF9 (fun _ _ _=>nw)
  replace hA:=hA.fr hF9 (fun _ _ _ _=>nw)
  replace hF:=hF.trans hF9
  rw [FVe]
  refine ⟨trivial,?_⟩
  refine O.bsl (cs:=(fvs (Pl.got OI y (Pl.puts OI (l.take j))))) rfl rfl rfl ⟨underlying51,sizeOf77,zeroValue77,⟨_,typeInfo77,rfl⟩,rfl,by decide,by decide⟩ rfl (by decide) (by generalize (Pl.got OI y (Pl.puts OI (l.take j)))=o;cases o<;>kernel_rfl) ?_
  intro H10 M10
  have hs10:=M10.size
  replace hM':=hM'.fr (M10.fr nowhere) (fun _ _ _=>nw)
  replace hA:=hA.fr (M10.fr nowhere) (fun _ _ _ _=>nw)
  replace hF:=hF.trans (M10.fr nowhere)
  have m5:Rd H10 H9.size 0 (row EF [(Pl.got OI y (Pl.puts OI (l.take j)))]):=M10.rd _ [] (by simp [row,EF])
  refine ⟨trivial,?_⟩
  refine O.appA (E:=EF) (Y:=[(Pl.got OI y (Pl.puts OI (l.take j)))]) rfl rfl rfl ⟨underlying51,sizeOf77,zeroValue77,⟨_,typeInfo77,rfl⟩,rfl,by decide,by decide⟩ rfl hA rfl ⟨_,_,_,rfl,m5⟩ (Nat.succ_pos _) (by rw [hlout];exact Nat.le_trans (Nat.mul_le_mul_left _ (Nat.le_of_ble_eq_true (n:=_) (m:=4096) rfl)) (by simp only [List.length_cons,List.length_nil];omega)) (by rw [hlout];simp only [List.length_cons,List.length_nil];omega) ?_
  intro v8 H11 hA11 hF11 hs11
  have hs111:=hF11.size
  rw [←egot] at hA11
  have hS2:∀b,S' b→¬Zo b:=fun b hb hz=>(hS' b hb).elim (hZ b hz).2.2 (fun h=>by have:=(hZ b hz).2.1;omega)
  have hlt10:=hM'.lt
  have hM11:=hM'.fr hF11 (fun b _ hb hz=>hb.elim (fun hb=>hS2 b hb hz) (fun hb=>by have:=(hZ b hz).1;omega))
  replace hF:=hF.trans' hF11 (fun _ _ _ h=>h) (fun b o hb hz=>by have:=(hZ b hz).1;omega)
  refine ⟨trivial,?_⟩
  refine Uf 1 [4,5,6,7,9,12,13,14,15] rfl (Ut 1 rfl (Ur 2 0 rfl (Ua 0 (((j+1:Nat):Int)) rfl (by omega) (Uf 1 [4,5,6,7,9,12,13,14,15] rfl (Uk [4,5,6,7,12,13,14] rfl (Go'.inLoop ?_))))))
  exact ih (j+1,v8) H11 ⟨hlt,hF,by omega,S',(fun b=>Zo b∨(b=H10.size∧b<H11.size)),by
   simp only
   rw [eput]
   exact hM11,fun b hb=>(hS' b hb).elim (hS b) (fun h=>by omega),hA11,fun b hb=>hb.elim (fun h=>⟨(hZ b h).1,by have:=(hZ b h).2.1;omega,fun hs=>hS2 b hs h⟩) (fun h=>⟨by omega,h.2,fun hs=>by have:=hlt10 b hs;omega⟩)⟩ (by simp only;omega)
 ·
  have ejl:j=l.length:=by omega
  rw [ejl,List.take_length] at hM hA
  have hpl2:=Pl.puts_length OI l
  refine Ur 1 0 rfl (Uc 0 rfl (lssF (by omega)) (Uf 0 [4,5,6,7,12,13,14,15] rfl (Ut 1 rfl (Go'.condF rfl (Ut 2 rfl (Ur 5 32 rfl (Uq 2 rfl (O.call rfl rfl rfl call32 rfl (Items_spec hP hM (by omega)) ?_))))))))
  rintro v9 H6 ⟨hv9,hF6⟩
  refine ⟨trivial,?_⟩
  refine Uf 2 [4,5] rfl (Go'.ret (vs:=[_,_]) func25 results25 ⟨rfl,rfl,trivial⟩ ?_)
  rw [hOO]
  exact ⟨_,_,rfl,hv9,hF.trans hF6⟩
end Go.Bt.FG
