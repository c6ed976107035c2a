/- Contracts of functions of the program, proved by walking through their code. Conditions: those that each theorem names. -/
import Derived.Test.YtmboghgpakhceaaToiA
import Derived.Test.YtmboghgpakhceaaTogD
import Derived.Test.YtmboghgpakhceaaToiG
set_option linter.unusedVariables false
namespace Go.Bt.FG
open Go Go.Proofs Go.Proofs.Try
set_option maxRecDepth 20000
set_option maxHeartbeats 4000000
set_option linter.unusedSectionVars false
section
variable [Inhabited Cx]
theorem inter_drop {α:Type} {X:List α} {K:List (List α)} {i:Nat} {x:α} {k:List α} (hx:X[i]?=some x) (hk:K[i]?=some k):Pl.inter (X.drop i) (K.drop i)=k++x::Pl.inter (X.drop (i+1)) (K.drop (i+1)):=by
 obtain ⟨h1,h2⟩:=List.getElem?_eq_some_iff.1 hx
 obtain ⟨h3,h4⟩:=List.getElem?_eq_some_iff.1 hk
 rw [←List.getElem_cons_drop (h:=h1),←List.getElem_cons_drop (h:=h3),h2,h4];rfl
theorem inter_drope {α:Type} {X:List α} {K:List (List α)} {k:List α} (hl:K.length=X.length+1) (hk:K[X.length]?=some k):Pl.inter (X.drop X.length) (K.drop X.length)=k:=by
 obtain ⟨h3,h4⟩:=List.getElem?_eq_some_iff.1 hk
 rw [←List.getElem_cons_drop (h:=h3),h4,List.drop_length];rfl
theorem getAt_spec {B:World} {H:Mem} {tr:Nat} {P:Ps} (hP:PsOk P) {S:Nat→Prop} {l:List (Int×Int)} (hM:MapM H tr P S l) (z:Int) (mt:Bool) (hll:l.length<4611686018427387904):
  Fn Try.prog B 184 [.pointer (some ⟨tr,0,none⟩),.int .i64 z,.bool mt] H (fun r H'=>r=.tuple #[PV (ath l z),.bool (ath l z).isSome]∧Fr nowhere H H'):=by
 have hh1:=hP.h1
 have hx255:=hP.hx
 have lt0:=hM.lt
 refine fn_of func184 rfl ntmps184 ?_
 refine (show Go' _ _ _ _ 121 [(0,_),(1,_),(2,_)] [.code _] _ from ?_)
 refine Ut 1 rfl (Ur 2 2 rfl (O.alloc rfl rfl rfl zeroValue27 ?_))
 intro H0 M0
 refine ⟨trivial,?_⟩
 have hs0:=M0.size
 replace hM:=hM.fr (M0.fr nowhere) (fun _ _ _=>nw)
 have mw:Wr H0 H.size 0 2:=M0.wr 2 (by decide)
 have hF:=M0.fr nowhere
 refine Uf 1 [0,1,2,6,7] rfl (Ut 2 rfl (Ur 3 32 rfl (Uq 2 rfl (O.callQ rfl rfl rfl call128 rfl lock_spec trivial (Uf 0 [0,1,2,6,7,12] rfl (Go'.condF rfl (Ut 3 rfl ?_)))))))
 obtain ⟨tc,srt,cnt,own,lt,bs,hr⟩:=hM
 rcases hr with ⟨rfl,hptr⟩|⟨h,t,hg,hx1,e,hc,hnt,hown⟩
 ·
  refine Ur 17 268435520 rfl (Ul 3 rfl hptr (O.isNil rfl rfl rfl rfl underlying129 rfl rfl (Uf 12 [0,1,2,6,7,31] rfl (Go'.condT rfl (Ut 1 rfl (Ur 6 576 rfl (Us 3 rfl tc.emp rfl (O.st (vs:=(EJ.enc (0,0))) rfl rfl sizeOf27 rfl rfl rfl rfl rfl mw ?_))))))))
  intro H3 W3
  replace hF:Fr nowhere H H3:=hF.trans' W3.fr (fun _ _ _ h=>h) (fun b o hb h=>by have h':=h.1;omega)
  refine ⟨trivial,?_⟩
  refine Uf 1 [0,1,2,6,7] rfl (Go'.ret (vs:=[_,_]) func184 results184 ⟨⟨_,_,rfl,fun _ _=>run_loadVar_agg (fun w=>⟨isAgg27 w,sizeOf27 w⟩) rfl W3.all⟩,rfl,trivial⟩ ?_)
  refine ⟨?_,hF⟩
  have e:ath ([]:List (Int×Int)) z=none:=by unfold ath;split<;>simp
  rw [e];rfl
 ·
  obtain ⟨kp,hN⟩:=hg.node
  have hc0:=hN.c0
  rw [hg.isoe] at hc0
  have hptr:cl H0 tr 2=some (.pointer (some ⟨Gt.p h t,0,none⟩)):=hc
  by_cases hz0:z<0
  ·
   refine Ur 17 268435520 rfl (Ul 3 rfl hptr (O.isNil rfl rfl rfl rfl underlying129 rfl rfl (Uc 2 rfl (lssT (by omega)) (Uf 9 [0,1,2,6,7,31] rfl (Go'.condT rfl (Ut 1 rfl (Ur 6 576 rfl (Us 3 rfl tc.emp rfl (O.st (vs:=(EJ.enc (0,0))) rfl rfl sizeOf27 rfl rfl rfl rfl rfl mw ?_)))))))))
   intro H3 W3
   replace hF:Fr nowhere H H3:=hF.trans' W3.fr (fun _ _ _ h=>h) (fun b o hb h=>by have h':=h.1;omega)
   refine ⟨trivial,?_⟩
   refine Uf 1 [0,1,2,6,7] rfl (Go'.ret (vs:=[_,_]) func184 results184 ⟨⟨_,_,rfl,fun _ _=>run_loadVar_agg (fun w=>⟨isAgg27 w,sizeOf27 w⟩) rfl W3.all⟩,rfl,trivial⟩ ?_)
   refine ⟨?_,hF⟩
   have e:ath l z=none:=by unfold ath;rw [if_pos hz0]
   rw [e];rfl
  by_cases hzl:(l.length:Int)≤z
  ·
   refine Ur 17 268435520 rfl (Ul 3 rfl hptr (O.isNil rfl rfl rfl rfl underlying129 rfl rfl (Uc 2 rfl (lssF (by omega)) (Ul 6 rfl cnt (Uc 0 rfl (geqT (by omega)) (Uf 1 [0,1,2,6,7,31] rfl (Go'.condT rfl (Ut 1 rfl (Ur 6 576 rfl (Us 3 rfl tc.emp rfl (O.st (vs:=(EJ.enc (0,0))) rfl rfl sizeOf27 rfl rfl rfl rfl rfl mw ?_)))))))))))
   intro H3 W3
   replace hF:Fr nowhere H H3:=hF.trans' W3.fr (fun _ _ _ h=>h) (fun b o hb h=>by have h':=h.1;omega)
   refine ⟨trivial,?_⟩
   refine Uf 1 [0,1,2,6,7] rfl (Go'.ret (vs:=[_,_]) func184 results184 ⟨⟨_,_,rfl,fun _ _=>run_loadVar_agg (fun w=>⟨isAgg27 w,sizeOf27 w⟩) rfl W3.all⟩,rfl,trivial⟩ ?_)
   refine ⟨?_,hF⟩
   have e':ath l z=none:=by unfold ath;rw [if_neg hz0];exact List.getElem?_eq_none (by omega)
   rw [e'];rfl
  ·
   obtain ⟨j0,rfl⟩:=Int.eq_ofNat_of_zero_le (by omega:0≤z)
   rw [ath_nat]
   refine Ur 17 268435520 rfl (Ul 3 rfl hptr (O.isNil rfl rfl rfl rfl underlying129 rfl rfl (Uc 2 rfl (lssF (by omega)) (Ul 6 rfl cnt (Uc 0 rfl (geqF (by omega)) (Uf 1 [0,1,2,6,7,31] rfl (Go'.condF rfl (Ut 2 rfl (Ur 7 2048 rfl (Uq 5 rfl (O.callQ rfl rfl rfl call130 rfl (isoLoad_spec mt hc hc0 tc.iso) trivial ?_)))))))))))
   refine Uf 1 [0,1,2,6,7,8] rfl (Ut 1 rfl (Go'.loop (Uk [0,1,2,6,7,8] rfl ?_)))
   refine Go'.ind (σ:=(h:Nat)×Gt EJ h×Nat) (fun s=>s.1) (fun s H'=>H'=H0∧Gt.Good H0 P s.1 s.2.1∧1≤(Gt.X s.1 s.2.1).length∧(Gt.L s.1 s.2.1)[s.2.2]?=l[j0]?∧s.2.2<(Gt.L s.1 s.2.1).length∧(Gt.L s.1 s.2.1).length<4611686018427387904)
    (fun s=>[(0,.pointer (some ⟨tr,0,none⟩)),(1,.int .i64 (s.2.2:Int)),(2,.bool mt),(6,.pointer (some ⟨H.size,0,none⟩)),(7,.bool false),(8,.pointer (some ⟨Gt.p s.1 s.2.1,0,none⟩))]) ⟨h,t,j0⟩ ⟨rfl,hg,hx1,by rw [e],by simp only [e];omega,by simp only [e];omega⟩ rfl ?_
   clear hg hx1 e hc hnt hown hN hc0 hptr t h kp
   rintro ⟨h,t,j⟩ H2 ⟨hHH,hg,hx1,hL,hj,hln⟩ ih
   have eH:H0=H2:=hHH.symm
   subst eH
   simp only at hg hx1 hL hj hln ⊢
   clear hHH
   refine Ut 3 rfl ?_
   rcases h with _|h
   ·
    obtain ⟨g,X⟩:=t
    have hN:NodeM EJ H0 g X (.pointer none):=hg.1
    replace hj:j<X.length:=hj
    replace hL:X[j]?=l[j0]?:=hL
    obtain ⟨y,hy⟩:∃y,X[j]?=some y:=⟨X[j],List.getElem?_eq_getElem hj⟩
    rw [←hL,hy]
    refine Ur 2 8 rfl (Uq 1 rfl (O.callQ rfl rfl rfl call133 rfl (leaf_spec hN.c3) trivial (Uf 0 [0,1,2,6,7,8,43] rfl (Go'.condT rfl (Ut 1 rfl (Ur 9 36928 rfl (Ul 3 rfl hN.c2 (Ux 1 j rfl (by omega) (by omega) (Us 0 rfl (hN.sl.item hy) rfl (O.st (vs:=(EJ.enc y)) rfl rfl sizeOf27 rfl rfl rfl rfl rfl mw ?_))))))))))
    intro H3 W3
    replace hF:Fr nowhere H H3:=hF.trans' W3.fr (fun _ _ _ h=>h) (fun b o hb h=>by have h':=h.1;omega)
    refine ⟨trivial,?_⟩
    refine Uf 1 [0,1,2,6,7,8,43] rfl (Go'.ret (vs:=[_,_]) func184 results184 ⟨⟨_,_,rfl,fun _ _=>run_loadVar_agg (fun w=>⟨isAgg27 w,sizeOf27 w⟩) rfl W3.all⟩,rfl,trivial⟩ ?_)
    exact ⟨rfl,hF⟩
   ·
    obtain ⟨g,X,K⟩:=t
    have hI:Inn H0 P h g X ((Gt.ps h K).map some) K:=hg.inn
    have hKl:K.length=X.length+1:=hg.2.2.2.2.2.1
    have hxm:X.length≤P.mx:=hg.2.2.2.2.1
    have hol:((Gt.ps h K).map some).length=X.length+1:=by rw [List.length_map,Gt.ps,List.length_map];exact hKl
    replace hL:(Pl.inter X (K.map (Gt.L h)))[j]?=l[j0]?:=hL
    replace hj:j<(Pl.inter X (K.map (Gt.L h))).length:=hj
    replace hln:(Pl.inter X (K.map (Gt.L h))).length<4611686018427387904:=hln
    have kid:∀i,i≤X.length→∃k,K[i]?=some k∧Gt.Good H0 P h k∧P.mn≤(Gt.X h k).length∧cl H0 g.kb (g.ko+i*1)=some (.pointer (some ⟨Gt.p h k,0,none⟩))∧cl H0 (Gt.p h k) 0=some (.int .u64 (P.iso:Int))∧cl H0 (Gt.p h k) 1=some (.int .i64 ((Gt.L h k).length:Int))∧(K.map (Gt.L h))[i]?=some (Gt.L h k):=fun i hi=>by
     obtain ⟨k,hkk⟩:∃k,K[i]?=some k:=⟨K[i],List.getElem?_eq_getElem (by omega)⟩
     obtain ⟨hgk,hmk,_⟩:=hI.c.1 k (List.mem_of_getElem? hkk)
     obtain ⟨kp,hNk⟩:=hgk.node
     have hok:((Gt.ps h K).map some)[i]?=some (some (Gt.p h k)):=by rw [Gt.ps,List.map_map,List.getElem?_map,hkk];rfl
     have c0:=hNk.c0
     rw [hgk.isoe] at c0
     have c1:=hNk.c1
     rw [hgk.cnt] at c1
     exact ⟨k,hkk,hgk,hmk,hI.k.at hok,c0,c1,by rw [List.getElem?_map,hkk];rfl⟩
    refine Ur 2 8 rfl (Uq 1 rfl (O.callQ rfl rfl rfl call133 rfl (leaf_spec hI.n.c3) trivial (Uf 0 [0,1,2,6,7,8,43] rfl (Go'.condF rfl (Ut 2 rfl (Ur 1 0 rfl (Uf 1 [0,1,2,6,7,8,9,43] rfl (Ut 2 rfl (Go'.loop (Uk [0,1,2,6,7,8,9] rfl ?_))))))))))
    refine Go'.ind (σ:=Nat×Nat) (fun s=>X.length-s.1) (fun s H'=>H'=H0∧s.1≤X.length∧(Pl.inter (X.drop s.1) ((K.map (Gt.L h)).drop s.1))[s.2]?=l[j0]?∧s.2<(Pl.inter (X.drop s.1) ((K.map (Gt.L h)).drop s.1)).length∧(Pl.inter (X.drop s.1) ((K.map (Gt.L h)).drop s.1)).length<4611686018427387904)
     (fun s=>[(0,.pointer (some ⟨tr,0,none⟩)),(1,.int .i64 (s.2:Int)),(2,.bool mt),(6,.pointer (some ⟨H.size,0,none⟩)),(7,.bool false),(8,.pointer (some ⟨g.p,0,none⟩)),(9,.int .i64 (s.1:Int))]) (0,j) ⟨rfl,Nat.zero_le _,hL,hj,hln⟩ rfl ?_
    clear hL hj hln
    rintro ⟨i,j⟩ H2 ⟨hHH,hi,hL,hj,hln⟩ ih2
    have eH:H0=H2:=hHH.symm
    subst eH
    simp only at hi hL hj hln ⊢
    clear hHH
    obtain ⟨k,hkk,hgk,hmk,hck,hk0,hkc,hkL⟩:=kid i hi
    refine Ut 2 rfl ?_
    by_cases hlt:i<X.length
    ·
     obtain ⟨y,hy⟩:∃y,X[i]?=some y:=⟨X[i],List.getElem?_eq_getElem hlt⟩
     have hid:=inter_drop hy hkL
     rw [hid] at hL hj hln
     rw [List.length_append,List.length_cons] at hj hln
     have hkln:(Gt.L h k).length<4611686018427387904:=by omega
     refine Ur 7 256 rfl (Ul 4 rfl hI.n.c2 (Uc 1 rfl (lssT (by omega)) (Uf 0 [0,1,2,6,7,8,9,57] rfl (Go'.condT rfl (Ut 5 rfl ?_)))))
     by_cases hjk:j<(Gt.L h k).length
     ·
      have hLj:(Gt.L h k)[j]?=(Gt.L h k++y::Pl.inter (X.drop (i+1)) ((K.map (Gt.L h)).drop (i+1)))[j]?:=(List.getElem?_append_left hjk).symm
      refine Ur 14 17043712 rfl (Ul 4 rfl hI.n.c3 (Ul 1 rfl hI.k.c (Ux 1 i rfl (by omega) (by omega) (Ul 0 rfl hck (Ul 2 rfl hkc (Uc 0 rfl (lssT (by omega)) (Uf 0 [0,1,2,6,7,8,9,57,73] rfl (Go'.condT rfl (Ut 1 rfl (Ur 12 2101504 rfl (Ul 4 rfl hI.n.c3 ?_)))))))))))
      refine Ul 1 rfl hI.k.c (Ux 1 i rfl (by omega) (by omega) (Uq 1 rfl (O.callQ rfl rfl rfl call130 rfl (isoLoad_spec mt hck hk0 tc.iso) trivial (Uf 1 [0,1,2,6,7,8,9,57,73] rfl (Ut 1 rfl (Uk [0,1,2,6,7,8] rfl (Go'.inLoop ?_)))))))
      exact ih ⟨h,k,j⟩ H0 ⟨rfl,hgk,Nat.le_trans hh1 hmk,by simp only;rw [←hL];exact hLj,hjk,hkln⟩ (Nat.lt_succ_self h)
     ·
      refine Ur 14 17043712 rfl (Ul 4 rfl hI.n.c3 (Ul 1 rfl hI.k.c (Ux 1 i rfl (by omega) (by omega) (Ul 0 rfl hck (Ul 2 rfl hkc (Uc 0 rfl (lssF (by omega)) (Uf 0 [0,1,2,6,7,8,9,57,73] rfl (Go'.condF rfl (Ut 1 rfl ?_)))))))))
      by_cases hje:j=(Gt.L h k).length
      ·
       have hyl:l[j0]?=some y:=by rw [←hL,hje,List.getElem?_append_right (Nat.le_refl _),Nat.sub_self];rfl
       rw [hyl]
       refine Ur 14 17043712 rfl (Ul 4 rfl hI.n.c3 (Ul 1 rfl hI.k.c (Ux 1 i rfl (by omega) (by omega) (Ul 0 rfl hck (Ul 2 rfl hkc (Uc 0 rfl (eqlT (by omega)) (Uf 0 [0,1,2,6,7,8,9,57,73,87] rfl (Go'.condT rfl (Ut 1 rfl (Ur 9 36928 rfl (Ul 3 rfl hI.n.c2 ?_)))))))))))
       refine Ux 1 i rfl (by omega) (by omega) (Us 0 rfl (hI.n.sl.item hy) rfl (O.st (vs:=(EJ.enc y)) rfl rfl sizeOf27 rfl rfl rfl rfl rfl mw ?_))
       intro H3 W3
       replace hF:Fr nowhere H H3:=hF.trans' W3.fr (fun _ _ _ h=>h) (fun b o hb h=>by have h':=h.1;omega)
       refine ⟨trivial,?_⟩
       refine Uf 1 [0,1,2,6,7,8,9,57,73,87] rfl (Go'.ret (vs:=[_,_]) func184 results184 ⟨⟨_,_,rfl,fun _ _=>run_loadVar_agg (fun w=>⟨isAgg27 w,sizeOf27 w⟩) rfl W3.all⟩,rfl,trivial⟩ ?_)
       exact ⟨rfl,hF⟩
      ·
       refine Ur 14 17043712 rfl (Ul 4 rfl hI.n.c3 (Ul 1 rfl hI.k.c (Ux 1 i rfl (by omega) (by omega) (Ul 0 rfl hck (Ul 2 rfl hkc (Uc 0 rfl (eqlF (by omega)) (Uf 0 [0,1,2,6,7,8,9,57,73,87] rfl (Go'.condF rfl (Ut 1 rfl (Ur 16 17043712 rfl (Ul 4 rfl hI.n.c3 ?_)))))))))))
       refine Ul 1 rfl hI.k.c (Ux 1 i rfl (by omega) (by omega) (Ul 0 rfl hck (Ul 2 rfl hkc (Ua 0 (((((Gt.L h k).length)+1:Nat):Int)) rfl (by omega) (Ub 0 (((j-((Gt.L h k).length+1):Nat):Int)) rfl (by omega) (Uf 1 [0,1,2,6,7,8,9,57,73,87] rfl (Ut 1 rfl (Ur 3 0 rfl (Ua 1 (((i+1:Nat):Int)) rfl (by omega) (Uf 1 [0,1,2,6,7,8,9,57,73,87] rfl (Uk [0,1,2,6,7,8,9] rfl ?_)))))))))))
       refine Go'.inLoop ?_
       exact ih2 (i+1,j-((Gt.L h k).length+1)) H0 ⟨rfl,hlt,by
        simp only
        rw [←hL,List.getElem?_append_right (by omega)]
        obtain ⟨m,hm⟩:∃m,j-(Gt.L h k).length=m+1:=⟨j-(Gt.L h k).length-1,by omega⟩
        rw [hm,List.getElem?_cons_succ,show j-((Gt.L h k).length+1)=m by omega],by simp only;omega,by simp only;omega⟩ (by simp only;omega)
    ·
     obtain rfl:i=X.length:=by omega
     have hid:=inter_drope (by rw [List.length_map];exact hKl) hkL
     rw [hid] at hL hj hln
     have hkln:=hln
     have hjk:=hj
     have hLj:(Gt.L h k)[j]?=(Gt.L h k)[j]?:=rfl
     refine Ur 7 256 rfl (Ul 4 rfl hI.n.c2 (Uc 1 rfl (lssF (by omega)) (Uf 0 [0,1,2,6,7,8,9,57] rfl (Go'.condF rfl (Ut 1 rfl (Ur 12 2101504 rfl (Ul 4 rfl hI.n.c3 (Ul 1 rfl hI.k.c (Ux 1 (X.length) rfl (by omega) (by omega) (Uq 1 rfl (O.callQ rfl rfl rfl call130 rfl (isoLoad_spec mt hck hk0 tc.iso) trivial ?_)))))))))))
     refine Uf 1 [0,1,2,6,7,8,9,57] rfl (Ut 1 rfl (Uk [0,1,2,6,7,8] rfl (Go'.inLoop ?_)))
     exact ih ⟨h,k,j⟩ H0 ⟨rfl,hgk,Nat.le_trans hh1 hmk,hL,hjk,hkln⟩ (Nat.lt_succ_self h)
theorem getat_spec {B:World} {H:Mem} {tr:Nat} {P:Ps} (hP:PsOk P) {S:Nat→Prop} {l:List (Int×Int)} (hM:MapM H tr P S l) (z:Int) (hll:l.length<4611686018427387904):
  Fn Try.prog B 137 [.pointer (some ⟨tr,0,none⟩),.int .i64 z] H (fun r H'=>r=.tuple #[PV (ath l z),.bool (ath l z).isSome]∧Fr nowhere H H'):=by
 refine fn_of func137 rfl ntmps137 ?_
 refine (show Go' _ _ _ _ 11 [(0,_),(1,_)] [.code _] _ from ?_)
 refine Ut 1 rfl (Ur 2 2 rfl (O.alloc rfl rfl rfl zeroValue27 ?_))
 intro H0 M0
 refine ⟨trivial,?_⟩
 have hs0:=M0.size
 replace hM:=hM.fr (M0.fr nowhere) (fun _ _ _=>nw)
 have mw:Wr H0 H.size 0 2:=M0.wr 2 (by decide)
 refine Uf 1 [0,1,4,5] rfl (Ut 1 rfl (Ur 7 2080 rfl (Uq 2 rfl (O.call rfl rfl rfl call184 rfl (getAt_spec hP hM z false hll) ?_))))
 rintro _ H2 ⟨rfl,hF2⟩
 have hs2:=hF2.size
 replace mw:=hF2.wr mw
 refine ⟨trivial,?_⟩
 refine Uq 2 rfl (O.st (vs:=(EJ.enc ((ath l z).getD (0,0)))) rfl rfl sizeOf27 rfl rfl rfl rfl rfl mw ?_)
 intro H3 W3
 refine ⟨trivial,?_⟩
 refine Uf 1 [4,5] rfl (Go'.ret (vs:=[_,_]) func137 results137 ⟨⟨_,_,rfl,fun _ _=>run_loadVar_agg (fun w=>⟨isAgg27 w,sizeOf27 w⟩) rfl W3.all⟩,rfl,trivial⟩ ?_)
 exact ⟨rfl,((M0.fr nowhere).trans hF2).trans' W3.fr (fun _ _ _ h=>h) (fun b o hb h=>by have h':=h.1;omega)⟩
end
end Go.Bt.FG
namespace Go.Bt.FG
open Go Go.Proofs Go.Proofs.Try
set_option maxRecDepth 20000
set_option maxHeartbeats 4000000
set_option linter.unusedSectionVars false
theorem iggetat_spec {B:World} {H:Mem} {d:Nat} {nl:Bool} {v u:Value} {ord:List Int} {l:List (Int×Int)} {va:Value} {zs:List Int} (hd:d=0∨2≤d∧d≤128) (ho:InS EN H v ord) (hol:ord.length≤4294967296) (hi:InS EJ H u l) (hll:l.length≤4294967296) (ha:InS EN H va zs) (hal:zs.length≤4294967296):
  Fn Try.prog B 81 [.agg #[v,.int .i64 (d:Int),.bool nl],u,va] H (fun r H'=>OutS EF H' r (zs.map (ath (Pl.puts (OO ord) l)))∧Fr nowhere H H'):=by
 obtain ⟨a,c,hu⟩:=hi.len
 subst hu
 obtain ⟨av,mv,cv,hv⟩:=InS.form ho
 subst hv
 have hF:Fr nowhere H H:=Fr.refl _ _
 have hP:=PD_ok hd
 obtain ⟨aa,ca,ha0⟩:=ha.len
 subst ha0
 refine fn_of func81 rfl ntmps81 ?_
 refine (show Go' _ _ _ _ 31 [(0,_),(1,_),(2,_)] [.code _] _ from ?_)
 refine Ut 1 rfl (Ur 2 2 rfl (O.box rfl rfl rfl rfl ?_))
 intro B1 MB1
 refine ⟨trivial,?_⟩
 have hsB1:=MB1.size
 replace hF:=hF.trans (MB1.fr nowhere)
 have mm:Rd B1 H.size 0 [.slice av mv cv,.int .i64 (d:Int),.bool nl]:=MB1.rd _ [] (by simp [Value.cells])
 have mm0:cl B1 H.size 0=some (.slice av mv cv):=mm 0 _ rfl
 have mm1:cl B1 H.size (0+1)=some (.int .i64 (d:Int)):=mm 1 _ rfl
 refine Uf 1 [1,2,3,6] rfl (Ut 1 rfl (Ur 4 33 rfl (Us 0 rfl mm rfl (Uq 1 rfl (O.call rfl rfl rfl call68 rfl (grow_spec hd (ho.fr hF) hol (hi.fr hF) hll) ?_)))))
 rintro _ H3 ⟨I,hIo,hIw,hIb,tr,S,rfl,hM,hF3,hS⟩
 have hs3:=hF3.size
 replace hF:=hF.trans hF3
 replace mm:=hF3.rd mm (fun _ _=>nw)
 replace mm0:=hF3.keep mm0 nw
 replace mm1:=hF3.keep mm1 nw
 have hSb:∀b,S b∨(b<cx.base∧cx.own b)→B1.size≤b:=fun b hb=>hb.elim (hS b) (fun h=>hIw b h.2)
 have hOO:OO ord=OI:=by rw [←hIo];rfl
 have hpl:=Pl.puts_length OI l
 have hSlt:=hM.lt
 have hbs:=hM.tc.hb
 unfold ptr
 refine ⟨trivial,?_⟩
 refine Uf 1 [2,6,7] rfl (Ut 1 rfl (Ur 1 0 rfl (Uf 1 [2,6,7,8] rfl (Ut 2 rfl (Ur 3 0 rfl (Uf 3 [6,7,8,14,15,16] rfl (Ut 1 rfl (Go'.loop (Uk [6,7,8,14,15,16] rfl ?_)))))))))
 refine Go'.ind (σ:=Nat×Value) (fun s=>zs.length-s.1) (fun s H'=>s.1≤zs.length∧Fr nowhere H3 H'∧∃Zo,Acc EF Zo H' s.2 ((zs.map (ath (Pl.puts (OO ord) l))).take s.1)∧∀b,Zo b→H3.size≤b∧b<H'.size)
  (fun s=>[(6,.slice none 0 0),(7,.pointer (some ⟨tr,0,none⟩)),(8,s.2),(14,.slice aa zs.length ca),(15,.int .i64 (zs.length:Int)),(16,.int .i64 (s.1:Int))]) (0,.slice none 0 0) ⟨Nat.zero_le _,Fr.refl _ _,fun _=>False,Acc.nil _ _ _,fun _ h=>h.elim⟩ rfl ?_
 rintro ⟨j,sv⟩ H4 ⟨hjl,hF34,Zo,hA,hZ⟩ ih
 simp only at hjl hA
 have hF2:=hF.trans hF34
 have hsz4:=hF34.size
 have hM4:=hM
 replace hM4:=hM4.fr hF34 (fun _ _ _=>nw)
 refine Ut 1 rfl ?_
 by_cases hlt:j<zs.length
 ·
  obtain ⟨z,hz⟩:∃z,zs[j]?=some z:=⟨zs[j],List.getElem?_eq_getElem hlt⟩
  obtain ⟨b,o,c',e,hr⟩:=(ha.fr hF2).at hz
  cases e
  have eout:(zs.map (ath (Pl.puts (OO ord) l))).take (j+1)=(zs.map (ath (Pl.puts (OO ord) l))).take j++[ath (Pl.puts OI l) z]:=by rw [List.take_add_one,List.getElem?_map,hz,hOO];rfl
  have hlo:((zs.map (ath (Pl.puts (OO ord) l))).take j).length=j:=by rw [List.length_take,List.length_map];omega
  refine Ur 1 0 rfl (Uc 0 rfl (lssT (by omega)) (Uf 0 [6,7,8,14,15,16,17] rfl (Ut 1 rfl (Go'.condT rfl (Ut 4 rfl (Ur 3 4 rfl (Ux 0 j rfl (by omega) hlt (Ul 0 rfl (hr 0 _ rfl) (Uf 1 [6,7,8,10,14,15,16,17] rfl (Ur 10 172160 rfl (Uq 3 rfl ?_)))))))))))
  refine O.call rfl rfl rfl call137 rfl (getat_spec hP hM4 z (by omega)) ?_
  rintro _ H5 ⟨rfl,hF5⟩
  have hshF5:=hF5.size
  replace hM4:=hM4.fr hF5 (fun _ _ _=>nw)
  replace hA:=hA.fr hF5 (fun _ _ _ _=>nw)
  replace hF34:=hF34.trans hF5
  refine ⟨trivial,?_⟩
  refine Uq 2 rfl (O.call rfl rfl rfl call104 rfl ifound_spec ?_)
  rintro _ H6 ⟨rfl,hF6⟩
  have hshF6:=hF6.size
  replace hM4:=hM4.fr hF6 (fun _ _ _=>nw)
  replace hA:=hA.fr hF6 (fun _ _ _ _=>nw)
  replace hF34:=hF34.trans hF6
  rw [FVe]
  refine ⟨trivial,?_⟩
  refine O.bsl (cs:=(fvs (ath (Pl.puts OI l) z))) rfl rfl rfl ⟨underlying64,sizeOf68,zeroValue68,⟨_,typeInfo68,rfl⟩,rfl,by decide,by decide⟩ rfl (by decide) (by generalize (ath (Pl.puts OI l) z)=o;cases o<;>kernel_rfl) ?_
  intro H7 M7
  have hs7:=M7.size
  replace hM4:=hM4.fr (M7.fr nowhere) (fun _ _ _=>nw)
  replace hA:=hA.fr (M7.fr nowhere) (fun _ _ _ _=>nw)
  replace hF34:=hF34.trans (M7.fr nowhere)
  have m5:Rd H7 H6.size 0 (row EF [(ath (Pl.puts OI l) z)]):=M7.rd _ [] (by simp [row,EF])
  refine ⟨trivial,?_⟩
  refine O.appA (E:=EF) (Y:=[(ath (Pl.puts OI l) z)]) rfl rfl rfl ⟨underlying64,sizeOf68,zeroValue68,⟨_,typeInfo68,rfl⟩,rfl,by decide,by decide⟩ rfl hA rfl ⟨_,_,_,rfl,m5⟩ (Nat.succ_pos _) (by rw [hlo];exact Nat.le_trans (Nat.mul_le_mul_left _ (Nat.le_of_ble_eq_true (n:=_) (m:=4096) rfl)) (by simp only [List.length_cons,List.length_nil];omega)) (by rw [hlo];simp only [List.length_cons,List.length_nil];omega) ?_
  intro v8 H8 hA8 hF8 hs8
  have hs88:=hF8.size
  rw [←eout] at hA8
  refine ⟨trivial,?_⟩
  refine Uf 1 [6,7,8,10,14,15,16,17] rfl (Ut 1 rfl (Ur 2 0 rfl (Ua 0 (((j+1:Nat):Int)) rfl (by omega) (Uf 1 [6,7,8,10,14,15,16,17] rfl (Uk [6,7,8,14,15,16] rfl (Go'.inLoop ?_))))))
  exact ih (j+1,v8) H8 ⟨hlt,hF34.trans' hF8 (fun _ _ _ h=>h) (fun b o hb hz=>by have h1:=(hZ b hz).1;omega),fun b=>Zo b∨(b=H7.size∧b<H8.size),hA8,fun b hb=>hb.elim (fun h=>⟨(hZ b h).1,by have:=(hZ b h).2;omega⟩) (fun h=>⟨by omega,h.2⟩)⟩ (by simp only;omega)
 ·
  have ejl:j=zs.length:=by omega
  have eall:(zs.map (ath (Pl.puts (OO ord) l))).take j=(zs.map (ath (Pl.puts (OO ord) l))):=by rw [ejl];exact List.take_of_length_le (by rw [List.length_map];exact Nat.le_refl _)
  rw [eall] at hA
  refine Ur 1 0 rfl (Uc 0 rfl (lssF (by omega)) (Uf 0 [6,7,8,14,15,16,17] rfl (Ut 1 rfl (Go'.condF rfl (Ut 2 rfl (Ur 2 0 rfl (Uf 2 [6] rfl (Go'.ret (vs:=[_]) func81 results81 ⟨rfl,trivial⟩ ?_))))))))
  exact ⟨hA.out,hF2⟩
theorem sggetat_spec {B:World} {H:Mem} {zz:Int} {nl:Bool} {v u:Value} {ord:List Int} {l:List (Int×Int)} {va:Value} {zs:List Int} (ho:InS EN H v ord) (hol:ord.length≤4294967296) (hi:InS EJ H u l) (hll:l.length≤4294967296) (ha:InS EN H va zs) (hal:zs.length≤4294967296):
  Fn Try.prog B 82 [.agg #[v,.int .i64 zz,.bool nl],u,va] H (fun r H'=>OutS EF H' r (zs.map (ath (Pl.puts (OO ord) l)))∧Fr nowhere H H'):=by
 obtain ⟨a,c,hu⟩:=hi.len
 subst hu
 obtain ⟨av,mv,cv,hv⟩:=InS.form ho
 subst hv
 have hF:Fr nowhere H H:=Fr.refl _ _
 obtain ⟨aa,ca,ha0⟩:=ha.len
 subst ha0
 refine fn_of func82 rfl ntmps82 ?_
 refine (show Go' _ _ _ _ 29 [(0,_),(1,_),(2,_)] [.code _] _ from ?_)
 refine Ut 1 rfl (Ur 2 2 rfl (O.box rfl rfl rfl rfl ?_))
 intro B1 MB1
 refine ⟨trivial,?_⟩
 have hsB1:=MB1.size
 replace hF:=hF.trans (MB1.fr nowhere)
 have mm:Rd B1 H.size 0 [.slice av mv cv,.int .i64 zz,.bool nl]:=MB1.rd _ [] (by simp [Value.cells])
 have mm0:cl B1 H.size 0=some (.slice av mv cv):=mm 0 _ rfl
 have mm1:cl B1 H.size (0+1)=some (.int .i64 zz):=mm 1 _ rfl
 refine Uf 1 [1,2,3,6] rfl (Ut 1 rfl (Ur 5 132 rfl (Ul 1 rfl mm0 (Uq 1 rfl (O.call rfl rfl rfl call42 rfl (tree_spec (ho.fr hF) (by omega) (hi.fr hF) hll) ?_)))))
 rintro tv H3 ⟨hA4,hF3⟩
 have hs3:=hF3.size
 replace hF:=hF.trans hF3
 replace mm:=hF3.rd mm (fun _ _=>nw)
 replace mm0:=hF3.keep mm0 nw
 replace mm1:=hF3.keep mm1 nw
 have hM:=hA4.inS
 have hpl:=Pl.puts_length (OO ord) l
 obtain ⟨ta,tc,htv⟩:=hM.len
 subst htv
 refine ⟨trivial,?_⟩
 refine Uf 1 [2,6,7] rfl (Ut 1 rfl (Ur 1 0 rfl (Uf 1 [2,6,7,8] rfl (Ut 2 rfl (Ur 3 0 rfl (Uf 3 [6,7,8,15,16,17] rfl (Ut 1 rfl (Go'.loop (Uk [6,7,8,15,16,17] rfl ?_)))))))))
 refine Go'.ind (σ:=Nat×Value) (fun s=>zs.length-s.1) (fun s H'=>s.1≤zs.length∧Fr nowhere H3 H'∧∃Zo,Acc EF Zo H' s.2 ((zs.map (ath (Pl.puts (OO ord) l))).take s.1)∧∀b,Zo b→H3.size≤b∧b<H'.size)
  (fun s=>[(6,.slice none 0 0),(7,.slice ta (Pl.puts (OO ord) l).length tc),(8,s.2),(15,.slice aa zs.length ca),(16,.int .i64 (zs.length:Int)),(17,.int .i64 (s.1:Int))]) (0,.slice none 0 0) ⟨Nat.zero_le _,Fr.refl _ _,fun _=>False,Acc.nil _ _ _,fun _ h=>h.elim⟩ rfl ?_
 rintro ⟨j,sv⟩ H4 ⟨hjl,hF34,Zo,hA,hZ⟩ ih
 simp only at hjl hA
 have hF2:=hF.trans hF34
 have hsz4:=hF34.size
 have hM4:=hM
 replace hM4:=hM4.fr hF34
 refine Ut 1 rfl ?_
 by_cases hlt:j<zs.length
 ·
  obtain ⟨z,hz⟩:∃z,zs[j]?=some z:=⟨zs[j],List.getElem?_eq_getElem hlt⟩
  obtain ⟨b,o,c',e,hr⟩:=(ha.fr hF2).at hz
  cases e
  have eout:(zs.map (ath (Pl.puts (OO ord) l))).take (j+1)=(zs.map (ath (Pl.puts (OO ord) l))).take j++[ath (Pl.puts (OO ord) l) z]:=by rw [List.take_add_one,List.getElem?_map,hz];rfl
  have hlo:((zs.map (ath (Pl.puts (OO ord) l))).take j).length=j:=by rw [List.length_take,List.length_map];omega
  refine Ur 1 0 rfl (Uc 0 rfl (lssT (by omega)) (Uf 0 [6,7,8,15,16,17,18] rfl (Ut 1 rfl (Go'.condT rfl (Ut 4 rfl (Ur 3 4 rfl (Ux 0 j rfl (by omega) hlt (Ul 0 rfl (hr 0 _ rfl) (Uf 1 [6,7,8,10,15,16,17,18] rfl (Ur 7 2688 rfl (Uq 3 rfl ?_)))))))))))
  refine O.call rfl rfl rfl call136 rfl (at_spec z hM4 (by omega)) ?_
  rintro _ H6 ⟨rfl,hF6⟩
  have hshF6:=hF6.size
  replace hM4:=hM4.fr hF6
  replace hA:=hA.fr hF6 (fun _ _ _ _=>nw)
  replace hF34:=hF34.trans hF6
  rw [FVe]
  refine ⟨trivial,?_⟩
  refine O.bsl (cs:=(fvs (ath (Pl.puts (OO ord) l) z))) rfl rfl rfl ⟨underlying64,sizeOf68,zeroValue68,⟨_,typeInfo68,rfl⟩,rfl,by decide,by decide⟩ rfl (by decide) (by generalize (ath (Pl.puts (OO ord) l) z)=o;cases o<;>kernel_rfl) ?_
  intro H7 M7
  have hs7:=M7.size
  replace hM4:=hM4.fr (M7.fr nowhere)
  replace hA:=hA.fr (M7.fr nowhere) (fun _ _ _ _=>nw)
  replace hF34:=hF34.trans (M7.fr nowhere)
  have m5:Rd H7 H6.size 0 (row EF [(ath (Pl.puts (OO ord) l) z)]):=M7.rd _ [] (by simp [row,EF])
  refine ⟨trivial,?_⟩
  refine O.appA (E:=EF) (Y:=[(ath (Pl.puts (OO ord) l) z)]) rfl rfl rfl ⟨underlying64,sizeOf68,zeroValue68,⟨_,typeInfo68,rfl⟩,rfl,by decide,by decide⟩ rfl hA rfl ⟨_,_,_,rfl,m5⟩ (Nat.succ_pos _) (by rw [hlo];exact Nat.le_trans (Nat.mul_le_mul_left _ (Nat.le_of_ble_eq_true (n:=_) (m:=4096) rfl)) (by simp only [List.length_cons,List.length_nil];omega)) (by rw [hlo];simp only [List.length_cons,List.length_nil];omega) ?_
  intro v8 H8 hA8 hF8 hs8
  have hs88:=hF8.size
  rw [←eout] at hA8
  refine ⟨trivial,?_⟩
  refine Uf 1 [6,7,8,10,15,16,17,18] rfl (Ut 1 rfl (Ur 2 0 rfl (Ua 0 (((j+1:Nat):Int)) rfl (by omega) (Uf 1 [6,7,8,10,15,16,17,18] rfl (Uk [6,7,8,15,16,17] rfl (Go'.inLoop ?_))))))
  exact ih (j+1,v8) H8 ⟨hlt,hF34.trans' hF8 (fun _ _ _ h=>h) (fun b o hb hz=>by have h1:=(hZ b hz).1;omega),fun b=>Zo b∨(b=H7.size∧b<H8.size),hA8,fun b hb=>hb.elim (fun h=>⟨(hZ b h).1,by have:=(hZ b h).2;omega⟩) (fun h=>⟨by omega,h.2⟩)⟩ (by simp only;omega)
 ·
  have ejl:j=zs.length:=by omega
  have eall:(zs.map (ath (Pl.puts (OO ord) l))).take j=(zs.map (ath (Pl.puts (OO ord) l))):=by rw [ejl];exact List.take_of_length_le (by rw [List.length_map];exact Nat.le_refl _)
  rw [eall] at hA
  refine Ur 1 0 rfl (Uc 0 rfl (lssF (by omega)) (Uf 0 [6,7,8,15,16,17,18] rfl (Ut 1 rfl (Go'.condF rfl (Ut 2 rfl (Ur 2 0 rfl (Uf 2 [6] rfl (Go'.ret (vs:=[_]) func82 results82 ⟨rfl,trivial⟩ ?_))))))))
  exact ⟨hA.out,hF2⟩
end Go.Bt.FG
namespace Go.Bt.FG
open Go Go.Proofs Go.Proofs.Try
set_option maxRecDepth 20000
set_option maxHeartbeats 4000000
set_option linter.unusedSectionVars false
def expl:List Int:=[0,2,5,-1,100]
theorem exPlaces_spec {B:World} {H:Mem}:Fn Try.prog B 36 [] H (fun r H'=>InS EN H' r expl∧Fr nowhere H H'):=by
 refine fn_of func36 rfl ntmps36 ?_
 refine (show Go' _ _ _ _ 2 [] [.code _] _ from ?_)
 refine Ut 1 rfl (Ur 1 0 rfl (Uf 1 [0] rfl (Ut 1 rfl (Ur 2 2 rfl (O.bsl (cs:=(row EN expl)) rfl rfl rfl ⟨underlying22,sizeOf3,zeroValue3,⟨_,typeInfo3,rfl⟩,rfl,by decide,by decide⟩ rfl (by decide) (by kernel_rfl) ?_)))))
 intro H1 M1
 refine ⟨trivial,?_⟩
 refine Uf 1 [0] rfl (Go'.ret (vs:=[_]) func36 results36 ⟨rfl,trivial⟩ ?_)
 exact ⟨.inl ⟨H.size,0,5,rfl,by decide,M1.rd _ [] (by simp)⟩,M1.fr nowhere⟩
theorem lawGGetAt_spec {B:World} {H:Mem} {d:Nat} {nl:Bool} {v u:Value} {ord:List Int} {l:List (Int×Int)} {va:Value} {zs:List Int} (hd:d=0∨2≤d∧d≤128) (ho:InS EN H v ord) (hol:ord.length≤4294967296) (hi:InS EJ H u l) (hll:l.length≤4294967296) (ha:InS EN H va zs) (hal:zs.length≤4294967296):
  Fn Try.prog B 35 [.agg #[v,.int .i64 (d:Int),.bool nl],u,va] H (fun r H'=>r=.bool true∧Fr nowhere H H'):=by
 obtain ⟨a,c,hu⟩:=hi.len
 subst hu
 obtain ⟨av,mv,cv,hv⟩:=InS.form ho
 subst hv
 have hF:Fr nowhere H H:=Fr.refl _ _
 have hP:=PD_ok hd
 refine fn_of func35 rfl ntmps35 ?_
 refine (show Go' _ _ _ _ 20 [(0,_),(1,_),(2,_)] [.code _] _ from ?_)
 refine Ut 1 rfl (Ur 2 2 rfl (O.box rfl rfl rfl rfl ?_))
 intro B1 MB1
 refine ⟨trivial,?_⟩
 have hsB1:=MB1.size
 replace hF:=hF.trans (MB1.fr nowhere)
 have mm:Rd B1 H.size 0 [.slice av mv cv,.int .i64 (d:Int),.bool nl]:=MB1.rd _ [] (by simp [Value.cells])
 have mm0:cl B1 H.size 0=some (.slice av mv cv):=mm 0 _ rfl
 have mm1:cl B1 H.size (0+1)=some (.int .i64 (d:Int)):=mm 1 _ rfl
 refine Uf 1 [1,2,3,6] rfl (Ut 1 rfl (Ur 5 129 rfl (Us 0 rfl mm rfl (Uq 2 rfl (O.call rfl rfl rfl call81 rfl (iggetat_spec hd (ho.fr hF) hol (hi.fr hF) hll (ha.fr hF) hal) ?_)))))
 rintro v1 H3 ⟨h1,hF3⟩
 replace hF:=hF.trans hF3
 replace mm:=hF3.rd mm (fun _ _=>nw)
 replace mm0:=hF3.keep mm0 nw
 replace mm1:=hF3.keep mm1 nw
 refine ⟨trivial,?_⟩
 refine Uf 1 [1,2,3,6,7] rfl (Ut 1 rfl (Ur 5 129 rfl (Us 0 rfl mm rfl (Uq 2 rfl (O.call rfl rfl rfl call82 rfl (sggetat_spec (ho.fr hF) hol (hi.fr hF) hll (ha.fr hF) hal) ?_)))))
 rintro v2 H4 ⟨h2,hF4⟩
 replace hF:=hF.trans hF4
 replace mm:=hF4.rd mm (fun _ _=>nw)
 replace mm0:=hF4.keep mm0 nw
 replace mm1:=hF4.keep mm1 nw
 refine ⟨trivial,?_⟩
 refine Uf 1 [6,7,8] rfl (Ut 1 rfl (Ur 4 32 rfl (Uq 2 rfl (O.callQ rfl rfl rfl call83 rfl (eqFounds_spec (h1.inS.fr hF4) h2.inS (by rw [List.length_map];exact hal)) trivial (Uf 1 [6] rfl (Go'.ret (vs:=[_]) func35 results35 ⟨rfl,trivial⟩ ?_))))))
 exact ⟨rfl,hF⟩
theorem fnExactGGetAt {B:World} {H:Mem} {z:Int} {nl:Bool} {v u:Value} {ord:List Int} {l:List (Int×Int)} {va:Value} {zs:List Int} (ho:InS EN H v ord) (hi:InS EJ H u l) (ha:InS EN H va zs):
  Fn Try.prog B 7 [.agg #[v,.int .i64 z,.bool nl],u,va] H (fun r H'=>r=.bool true∧Fr nowhere H H'):=by
 obtain ⟨a,c,hu⟩:=hi.len
 subst hu
 obtain ⟨av,mv,cv,hv⟩:=InS.form ho
 subst hv
 obtain ⟨aa,ca,ha0⟩:=ha.len
 subst ha0
 have hF:Fr nowhere H H:=Fr.refl _ _
 refine fn_of func7 rfl ntmps7 ?_
 refine (show Go' _ _ _ _ 36 [(0,_),(1,_),(2,_)] [.code _] _ from ?_)
 refine Ut 1 rfl (Ur 2 2 rfl (O.box rfl rfl rfl rfl ?_))
 intro B1 MB1
 refine ⟨trivial,?_⟩
 have hsB1:=MB1.size
 replace hF:=hF.trans (MB1.fr nowhere)
 have mm:Rd B1 H.size 0 [.slice av mv cv,.int .i64 z,.bool nl]:=MB1.rd _ [] (by simp [Value.cells])
 have mm0:cl B1 H.size 0=some (.slice av mv cv):=mm 0 _ rfl
 have mm1:cl B1 H.size (0+1)=some (.int .i64 z):=mm 1 _ rfl
 refine Uf 1 [1,2,3,6] rfl (Ut 2 rfl ?_)
 cases hoz:decide (ord.length≤2147483647)
 ·
  refine Ur 13 9 rfl (Us 0 rfl mm rfl (O.call rfl rfl rfl call23 rfl (zzFits1_spec (ho.fr hF) hoz) ?_))
  rintro _ H1 ⟨rfl,hF1⟩
  replace hF:=hF.trans hF1
  replace mm:=hF1.rd mm (fun _ _=>nw)
  replace mm0:=hF1.keep mm0 nw
  replace mm1:=hF1.keep mm1 nw
  refine ⟨trivial,?_⟩
  refine Uf 11 [1,2,3,6,19] rfl (Go'.condT rfl (Ut 1 rfl (Ur 1 0 rfl (Uf 1 [1,2,3,6] rfl (Go'.ret (vs:=[_]) func7 results7 ⟨rfl,trivial⟩ ?_)))))
  exact ⟨rfl,hF⟩
 ·
  have hoz2:=of_decide_eq_true hoz
  by_cases hb_lenl:(2147483647:Int)<(l.length:Int)
  ·
   refine Ur 13 9 rfl (Us 0 rfl mm rfl (O.call rfl rfl rfl call23 rfl (zzFits1_spec (ho.fr hF) hoz) ?_))
   rintro _ H1 ⟨rfl,hF1⟩
   replace hF:=hF.trans hF1
   replace mm:=hF1.rd mm (fun _ _=>nw)
   replace mm0:=hF1.keep mm0 nw
   replace mm1:=hF1.keep mm1 nw
   refine ⟨trivial,?_⟩
   refine Uc 4 rfl (gtrT (by omega)) (Uf 6 [1,2,3,6,19] rfl (Go'.condT rfl (Ut 1 rfl (Ur 1 0 rfl (Uf 1 [1,2,3,6] rfl (Go'.ret (vs:=[_]) func7 results7 ⟨rfl,trivial⟩ ?_))))))
   exact ⟨rfl,hF⟩
  ·
   by_cases hb_lenat:(2147483647:Int)<(zs.length:Int)
   ·
    refine Ur 13 9 rfl (Us 0 rfl mm rfl (O.call rfl rfl rfl call23 rfl (zzFits1_spec (ho.fr hF) hoz) ?_))
    rintro _ H1 ⟨rfl,hF1⟩
    replace hF:=hF.trans hF1
    replace mm:=hF1.rd mm (fun _ _=>nw)
    replace mm0:=hF1.keep mm0 nw
    replace mm1:=hF1.keep mm1 nw
    refine ⟨trivial,?_⟩
    refine Uc 4 rfl (gtrF (by omega)) (Uc 4 rfl (gtrT (by omega)) (Uf 1 [1,2,3,6,19] rfl (Go'.condT rfl (Ut 1 rfl (Ur 1 0 rfl (Uf 1 [1,2,3,6] rfl (Go'.ret (vs:=[_]) func7 results7 ⟨rfl,trivial⟩ ?_)))))))
    exact ⟨rfl,hF⟩
   ·
    refine Ur 13 9 rfl (Us 0 rfl mm rfl (O.call rfl rfl rfl call23 rfl (zzFits1_spec (ho.fr hF) hoz) ?_))
    rintro _ H1 ⟨rfl,hF1⟩
    replace hF:=hF.trans hF1
    replace mm:=hF1.rd mm (fun _ _=>nw)
    replace mm0:=hF1.keep mm0 nw
    replace mm1:=hF1.keep mm1 nw
    refine ⟨trivial,?_⟩
    refine Uc 4 rfl (gtrF (by omega)) (Uc 4 rfl (gtrF (by omega)) (Uf 1 [1,2,3,6,19] rfl (Go'.condF rfl (Ut 2 rfl ?_))))
    cases hfz:fitsb z
    ·
     refine Ur 17 135303338 rfl (O.call rfl rfl rfl call30 rfl exMake_spec ?_)
     rintro _ H2 ⟨rfl,hF2⟩
     replace hF:=hF.trans hF2
     replace mm:=hF2.rd mm (fun _ _=>nw)
     replace mm0:=hF2.keep mm0 nw
     replace mm1:=hF2.keep mm1 nw
     refine ⟨trivial,?_⟩
     refine O.call rfl rfl rfl call32 rfl exItems_spec ?_
     rintro ev H3 ⟨hev,hF3⟩
     replace hF:=hF.trans hF3
     replace mm:=hF3.rd mm (fun _ _=>nw)
     replace mm0:=hF3.keep mm0 nw
     replace mm1:=hF3.keep mm1 nw
     refine ⟨trivial,?_⟩
     refine O.call rfl rfl rfl call36 rfl exPlaces_spec ?_
     rintro pv H4 ⟨hpv,hF4⟩
     replace hF:=hF.trans hF4
     replace mm:=hF4.rd mm (fun _ _=>nw)
     replace mm0:=hF4.keep mm0 nw
     replace mm1:=hF4.keep mm1 nw
     replace hev:=hev.fr hF4
     refine ⟨trivial,?_⟩
     refine O.call rfl rfl rfl call35 rfl (lawGGetAt_spec (d:=2) (by decide) (InS.nil EN _) (by decide) hev (by decide) hpv (by decide)) ?_
     rintro _ H5 ⟨rfl,hF5⟩
     replace hF:=hF.trans hF5
     replace mm:=hF5.rd mm (fun _ _=>nw)
     replace mm0:=hF5.keep mm0 nw
     replace mm1:=hF5.keep mm1 nw
     refine ⟨trivial,?_⟩
     refine Ul 2 rfl mm1 (O.callQ rfl rfl rfl call33 rfl (fits_spec' hfz) trivial (Uq 5 rfl (Pl.pass2 rfl rfl rfl rfl trivial (Uf 3 [6] rfl (Go'.ret (vs:=[_]) func7 results7 ⟨rfl,trivial⟩ ?_)))))
     exact ⟨rfl,hF⟩
    ·
     obtain ⟨d,rfl,hd⟩:=fitsb_nat hfz
     refine Ur 17 135303338 rfl (O.call rfl rfl rfl call30 rfl exMake_spec ?_)
     rintro _ H2 ⟨rfl,hF2⟩
     replace hF:=hF.trans hF2
     replace mm:=hF2.rd mm (fun _ _=>nw)
     replace mm0:=hF2.keep mm0 nw
     replace mm1:=hF2.keep mm1 nw
     refine ⟨trivial,?_⟩
     refine O.call rfl rfl rfl call32 rfl exItems_spec ?_
     rintro ev H3 ⟨hev,hF3⟩
     replace hF:=hF.trans hF3
     replace mm:=hF3.rd mm (fun _ _=>nw)
     replace mm0:=hF3.keep mm0 nw
     replace mm1:=hF3.keep mm1 nw
     refine ⟨trivial,?_⟩
     refine O.call rfl rfl rfl call36 rfl exPlaces_spec ?_
     rintro pv H4 ⟨hpv,hF4⟩
     replace hF:=hF.trans hF4
     replace mm:=hF4.rd mm (fun _ _=>nw)
     replace mm0:=hF4.keep mm0 nw
     replace mm1:=hF4.keep mm1 nw
     replace hev:=hev.fr hF4
     refine ⟨trivial,?_⟩
     refine O.call rfl rfl rfl call35 rfl (lawGGetAt_spec (d:=2) (by decide) (InS.nil EN _) (by decide) hev (by decide) hpv (by decide)) ?_
     rintro _ H5 ⟨rfl,hF5⟩
     replace hF:=hF.trans hF5
     replace mm:=hF5.rd mm (fun _ _=>nw)
     replace mm0:=hF5.keep mm0 nw
     replace mm1:=hF5.keep mm1 nw
     refine ⟨trivial,?_⟩
     refine Ul 2 rfl mm1 (O.callQ rfl rfl rfl call33 rfl (fits_spec' hfz) trivial (Us 2 rfl mm rfl (Uq 2 rfl (O.call rfl rfl rfl call35 rfl (lawGGetAt_spec hd (ho.fr hF) (by omega) (hi.fr hF) (by omega) (ha.fr hF) (by omega)) ?_))))
     rintro _ H6 ⟨rfl,hF6⟩
     replace hF:=hF.trans hF6
     replace mm:=hF6.rd mm (fun _ _=>nw)
     replace mm0:=hF6.keep mm0 nw
     replace mm1:=hF6.keep mm1 nw
     refine ⟨trivial,?_⟩
     refine Uf 3 [6] rfl (Go'.ret (vs:=[_]) func7 results7 ⟨rfl,trivial⟩ ?_)
     exact ⟨rfl,hF⟩
end Go.Bt.FG
namespace Go.Bt.FG
open Go Go.Proofs Go.Proofs.Try
set_option maxRecDepth 20000
set_option maxHeartbeats 4000000
set_option linter.unusedSectionVars false
def exkl:List (Int×Int):=[(3,0),(4,0),(9,1)]
theorem exKeys_spec {B:World} {H:Mem}:Fn Try.prog B 40 [] H (fun r H'=>InS EJ H' r exkl∧Fr nowhere H H'):=by
 refine fn_of func40 rfl ntmps40 ?_
 refine (show Go' _ _ _ _ 5 [] [.code _] _ from ?_)
 refine Ut 1 rfl (Ur 1 0 rfl (Uf 1 [0] rfl (Ut 1 rfl (Ur 5 128 rfl (O.bld (cs:=[.int .i64 3,.int .i64 0]) rfl rfl rfl rfl (st27) rfl (by kernel_rfl) (O.bld (cs:=[.int .i64 4,.int .i64 0]) rfl rfl rfl rfl (st27) rfl (by kernel_rfl) (O.bld (cs:=[.int .i64 9,.int .i64 1]) rfl rfl rfl rfl (st27) rfl (by kernel_rfl) (O.bsl (cs:=(row EJ exkl)) rfl rfl rfl ⟨underlying25,sizeOf27,zeroValue27,⟨_,typeInfo27,rfl⟩,rfl,by decide,by decide⟩ rfl (by decide) (by kernel_rfl) ?_))))))))
 intro H1 M1
 refine ⟨trivial,?_⟩
 refine Uf 1 [0] rfl (Go'.ret (vs:=[_]) func40 results40 ⟨rfl,trivial⟩ ?_)
 exact ⟨.inl ⟨H.size,0,3,rfl,by decide,M1.rd _ [] (by simp)⟩,M1.fr nowhere⟩
theorem iggethint_spec {B:World} {H:Mem} {d:Nat} {nl:Bool} {v u:Value} {ord:List Int} {l:List (Int×Int)} {va:Value} {ks:List (Int×Int)} (hd:d=0∨2≤d∧d≤128) (ho:InS EN H v ord) (hol:ord.length≤4294967296) (hi:InS EJ H u l) (hll:l.length≤4294967296) (ha:InS EJ H va ks) (hal:ks.length≤4294967296):
  Fn Try.prog B 87 [.agg #[v,.int .i64 (d:Int),.bool nl],u,va] H (fun r H'=>OutS EF H' r (ks.map (fun k=>Pl.got (OO ord) k (Pl.puts (OO ord) l)))∧Fr nowhere H H'):=by
 obtain ⟨a,c,hu⟩:=hi.len
 subst hu
 obtain ⟨av,mv,cv,hv⟩:=InS.form ho
 subst hv
 have hF:Fr nowhere H H:=Fr.refl _ _
 have hP:=PD_ok hd
 obtain ⟨aa,ca,ha0⟩:=ha.len
 subst ha0
 refine fn_of func87 rfl ntmps87 ?_
 refine (show Go' _ _ _ _ 32 [(0,_),(1,_),(2,_)] [.code _] _ from ?_)
 refine Ut 1 rfl (Ur 2 2 rfl (O.box rfl rfl rfl rfl ?_))
 intro B1 MB1
 refine ⟨trivial,?_⟩
 have hsB1:=MB1.size
 replace hF:=hF.trans (MB1.fr nowhere)
 have mm:Rd B1 H.size 0 [.slice av mv cv,.int .i64 (d:Int),.bool nl]:=MB1.rd _ [] (by simp [Value.cells])
 have mm0:cl B1 H.size 0=some (.slice av mv cv):=mm 0 _ rfl
 have mm1:cl B1 H.size (0+1)=some (.int .i64 (d:Int)):=mm 1 _ rfl
 refine Uf 1 [1,2,3,6] rfl (Ut 1 rfl (Ur 4 33 rfl (Us 0 rfl mm rfl (Uq 1 rfl (O.call rfl rfl rfl call68 rfl (grow_spec hd (ho.fr hF) hol (hi.fr hF) hll) ?_)))))
 rintro _ H3 ⟨I,hIo,hIw,hIb,tr,S,rfl,hM,hF3,hS⟩
 have hs3:=hF3.size
 replace hF:=hF.trans hF3
 replace mm:=hF3.rd mm (fun _ _=>nw)
 replace mm0:=hF3.keep mm0 nw
 replace mm1:=hF3.keep mm1 nw
 have hSb:∀b,S b∨(b<cx.base∧cx.own b)→B1.size≤b:=fun b hb=>hb.elim (hS b) (fun h=>hIw b h.2)
 have hOO:OO ord=OI:=by rw [←hIo];rfl
 have hpl:=Pl.puts_length OI l
 have hSlt:=hM.lt
 have hbs:=hM.tc.hb
 unfold ptr
 refine ⟨trivial,?_⟩
 refine Uf 1 [2,6,7] rfl (Ut 1 rfl (Ur 1 2 rfl (O.alloc rfl rfl rfl zeroValue153 ?_)))
 intro H4 M4
 refine ⟨trivial,?_⟩
 have hs4:=M4.size
 have hF4:=M4.fr nowhere
 have hk:HintOk H4 (.pointer (some ⟨H3.size,0,none⟩)) (fun b=>b=H3.size):=.inr ⟨H3.size,rfl,fun _=>Iff.rfl,by omega,fun h=>by have:=h.1;omega,(HintM.new M4 (fun i hi=>by have hi8:i=0∨i=1∨i=2∨i=3∨i=4∨i=5∨i=6∨i=7:=(by omega);rcases hi8 with rfl|rfl|rfl|rfl|rfl|rfl|rfl|rfl<;>rfl) (fun i hi=>by have hi8:i=0∨i=1∨i=2∨i=3∨i=4∨i=5∨i=6∨i=7:=(by omega);rcases hi8 with rfl|rfl|rfl|rfl|rfl|rfl|rfl|rfl<;>rfl) (by decide))⟩
 refine Uf 0 [2,6,7,8] rfl (Ut 1 rfl (Ur 1 0 rfl (Uf 1 [2,6,7,8,9] rfl (Ut 2 rfl (Ur 3 0 rfl (Uf 3 [6,7,8,9,15,16,17] rfl (Ut 1 rfl (Go'.loop (Uk [6,7,8,9,15,16,17] rfl ?_)))))))))
 refine Go'.ind (σ:=Nat×Value) (fun s=>ks.length-s.1) (fun s H'=>s.1≤ks.length∧Fr nowhere H3 H'∧H4.size≤H'.size∧HintOk H' (.pointer (some ⟨H3.size,0,none⟩)) (fun b=>b=H3.size)∧∃Zo,Acc EF Zo H' s.2 ((ks.map (fun k=>Pl.got (OO ord) k (Pl.puts (OO ord) l))).take s.1)∧∀b,Zo b→H4.size≤b∧b<H'.size)
  (fun s=>[(6,.slice none 0 0),(7,.pointer (some ⟨tr,0,none⟩)),(8,.pointer (some ⟨H3.size,0,none⟩)),(9,s.2),(15,.slice aa ks.length ca),(16,.int .i64 (ks.length:Int)),(17,.int .i64 (s.1:Int))]) (0,.slice none 0 0) ⟨Nat.zero_le _,hF4,Nat.le_refl _,hk,fun _=>False,Acc.nil _ _ _,fun _ h=>h.elim⟩ rfl ?_
 clear hk
 rintro ⟨j,sv⟩ H5 ⟨hjl,hF35,hs45,hk,Zo,hA,hZ⟩ ih
 simp only at hjl hA
 have hF2:=hF.trans hF35
 have hM5:=hM.fr hF35 (fun _ _ _=>nw)
 refine Ut 1 rfl ?_
 by_cases hlt:j<ks.length
 ·
  obtain ⟨y,hy⟩:∃y,ks[j]?=some y:=⟨ks[j],List.getElem?_eq_getElem hlt⟩
  obtain ⟨b,o,c',e,hr⟩:=(ha.fr hF2).at hy
  cases e
  have eout:(ks.map (fun k=>Pl.got (OO ord) k (Pl.puts (OO ord) l))).take (j+1)=(ks.map (fun k=>Pl.got (OO ord) k (Pl.puts (OO ord) l))).take j++[Pl.got OI y (Pl.puts OI l)]:=by rw [List.take_add_one,List.getElem?_map,hy,hOO];rfl
  have hlo:((ks.map (fun k=>Pl.got (OO ord) k (Pl.puts (OO ord) l))).take j).length=j:=by rw [List.length_take,List.length_map];omega
  refine Ur 1 0 rfl (Uc 0 rfl (lssT (by omega)) (Uf 0 [6,7,8,9,15,16,17,18] rfl (Ut 1 rfl (Go'.condT rfl (Ut 4 rfl (Ur 4 164 rfl (Ux 0 j rfl (by omega) hlt (Us 0 rfl hr rfl (O.alloc rfl rfl rfl zeroValue27 ?_)))))))))
  intro H6 M6
  refine ⟨trivial,?_⟩
  have hs6:=M6.size
  replace hM5:=hM5.fr (M6.fr nowhere) (fun _ _ _=>nw)
  replace hA:=hA.fr (M6.fr nowhere) (fun _ _ _ _=>nw)
  replace hk:=hk.fr (M6.fr nowhere) (fun _ _ _=>nw)
  replace hF35:=hF35.trans (M6.fr nowhere)
  have m7:Wr H6 H5.size 0 2:=M6.wr 2 (by decide)
  refine O.st rfl rfl sizeOf27 rfl rfl rfl rfl rfl m7 ?_
  intro H7 W7
  have hs7:=W7.size
  replace hM5:=hM5.fr W7.fr (fun b o hb=>nr (.inl (hb.elim (fun hb=>by have:=hSlt b hb;omega) (fun hb=>by omega))))
  replace hA:=hA.fr W7.fr (fun b o hb hb2=>nr (.inl (by have:=hZ b hb2;omega)))
  replace hk:=hk.fr W7.fr (fun b o hb=>nr (.inl (by omega)))
  replace hF35:=hF35.trans' W7.fr (fun _ _ _ h=>h) (fun b o hb hz=>by have h1:=hz.1;omega)
  have k0:Rd H7 H5.size 0 (EJ.enc y):=W7.all
  refine ⟨trivial,?_⟩
  refine Uf 0 [6,7,8,9,11,15,16,17,18] rfl (Ur 10 172176 rfl (Us 2 rfl k0 rfl (O.call rfl rfl rfl call142 rfl (gethint_spec hP hM5 y hk (fun b hb hs=>by have:=hSlt b hs;omega) (by omega)) ?_)))
  rintro _ H8 ⟨rfl,hF8,hk⟩
  have hs8:=hF8.size
  replace hM5:=hM5.fr hF8 (fun b o hb hz=>hb.elim (fun hb=>by have:=hSlt b hb;omega) (fun hb=>by omega))
  replace hA:=hA.fr hF8 (fun b o hb hb2 hz=>by have:=hZ b hb2;omega)
  replace hF35:=hF35.trans' hF8 (fun _ _ _ h=>h) (fun b o hb hz=>by omega)
  refine ⟨trivial,?_⟩
  refine Uq 2 rfl (O.call rfl rfl rfl call104 rfl ifound_spec ?_)
  rintro _ H9 ⟨rfl,hF9⟩
  have hs9:=hF9.size
  replace hM5:=hM5.fr hF9 (fun _ _ _=>nw)
  replace hA:=hA.fr hF9 (fun _ _ _ _=>nw)
  replace hk:=hk.fr hF9 (fun _ _ _=>nw)
  replace hF35:=hF35.trans hF9
  rw [FVe]
  refine ⟨trivial,?_⟩
  refine O.bsl (cs:=(fvs (Pl.got OI y (Pl.puts OI l)))) rfl rfl rfl ⟨underlying64,sizeOf68,zeroValue68,⟨_,typeInfo68,rfl⟩,rfl,by decide,by decide⟩ rfl (by decide) (by generalize (Pl.got OI y (Pl.puts OI l))=o;cases o<;>kernel_rfl) ?_
  intro H10 M10
  have hs10:=M10.size
  replace hM5:=hM5.fr (M10.fr nowhere) (fun _ _ _=>nw)
  replace hA:=hA.fr (M10.fr nowhere) (fun _ _ _ _=>nw)
  replace hk:=hk.fr (M10.fr nowhere) (fun _ _ _=>nw)
  replace hF35:=hF35.trans (M10.fr nowhere)
  have m5:Rd H10 H9.size 0 (row EF [(Pl.got OI y (Pl.puts OI l))]):=M10.rd _ [] (by simp [row,EF])
  refine ⟨trivial,?_⟩
  refine O.appA (E:=EF) (Y:=[(Pl.got OI y (Pl.puts OI l))]) rfl rfl rfl ⟨underlying64,sizeOf68,zeroValue68,⟨_,typeInfo68,rfl⟩,rfl,by decide,by decide⟩ rfl hA rfl ⟨_,_,_,rfl,m5⟩ (Nat.succ_pos _) (by rw [hlo];exact Nat.le_trans (Nat.mul_le_mul_left _ (Nat.le_of_ble_eq_true (n:=_) (m:=4096) rfl)) (by simp only [List.length_cons,List.length_nil];omega)) (by rw [hlo];simp only [List.length_cons,List.length_nil];omega) ?_
  intro v8 H11 hA11 hF11 hs11
  have hss11:=hF11.size
  rw [←eout] at hA11
  refine ⟨trivial,?_⟩
  refine Uf 1 [6,7,8,9,11,15,16,17,18] rfl (Ut 1 rfl (Ur 2 0 rfl (Ua 0 (((j+1:Nat):Int)) rfl (by omega) (Uf 1 [6,7,8,9,11,15,16,17,18] rfl (Uk [6,7,8,9,15,16,17] rfl (Go'.inLoop ?_))))))
  exact ih (j+1,v8) H11 ⟨hlt,hF35.trans' hF11 (fun _ _ _ h=>h) (fun b o hb hz=>by have h1:=(hZ b hz).1;omega),by omega,hk.fr hF11 (fun b o hb hz=>by have:=(hZ b hz).1;omega),fun b=>Zo b∨(b=H10.size∧b<H11.size),hA11,fun b hb=>hb.elim (fun h=>⟨(hZ b h).1,by have:=(hZ b h).2;omega⟩) (fun h=>⟨by omega,h.2⟩)⟩ (by simp only;omega)
 ·
  have ejl:j=ks.length:=by omega
  have eall:(ks.map (fun k=>Pl.got (OO ord) k (Pl.puts (OO ord) l))).take j=(ks.map (fun k=>Pl.got (OO ord) k (Pl.puts (OO ord) l))):=by rw [ejl];exact List.take_of_length_le (by rw [List.length_map];exact Nat.le_refl _)
  rw [eall] at hA
  refine Ur 1 0 rfl (Uc 0 rfl (lssF (by omega)) (Uf 0 [6,7,8,9,15,16,17,18] rfl (Ut 1 rfl (Go'.condF rfl (Ut 2 rfl (Ur 2 0 rfl (Uf 2 [6] rfl (Go'.ret (vs:=[_]) func87 results87 ⟨rfl,trivial⟩ ?_))))))))
  exact ⟨hA.out,hF2⟩
theorem sgget_spec {B:World} {H:Mem} {zz:Int} {nl:Bool} {v u:Value} {ord:List Int} {l:List (Int×Int)} {va:Value} {ks:List (Int×Int)} (ho:InS EN H v ord) (hol:ord.length≤4294967296) (hi:InS EJ H u l) (hll:l.length≤4294967296) (ha:InS EJ H va ks) (hal:ks.length≤4294967296):
  Fn Try.prog B 88 [.agg #[v,.int .i64 zz,.bool nl],u,va] H (fun r H'=>OutS EF H' r (ks.map (fun k=>Pl.got (OO ord) k (Pl.puts (OO ord) l)))∧Fr nowhere H H'):=by
 obtain ⟨a,c,hu⟩:=hi.len
 subst hu
 obtain ⟨av,mv,cv,hv⟩:=InS.form ho
 subst hv
 have hF:Fr nowhere H H:=Fr.refl _ _
 obtain ⟨aa,ca,ha0⟩:=ha.len
 subst ha0
 refine fn_of func88 rfl ntmps88 ?_
 refine (show Go' _ _ _ _ 43 [(0,_),(1,_),(2,_)] [.code _] _ from ?_)
 refine Ut 1 rfl (Ur 2 2 rfl (O.box rfl rfl rfl rfl ?_))
 intro B1 MB1
 refine ⟨trivial,?_⟩
 have hsB1:=MB1.size
 replace hF:=hF.trans (MB1.fr nowhere)
 have mm:Rd B1 H.size 0 [.slice av mv cv,.int .i64 zz,.bool nl]:=MB1.rd _ [] (by simp [Value.cells])
 have mm0:cl B1 H.size 0=some (.slice av mv cv):=mm 0 _ rfl
 have mm1:cl B1 H.size (0+1)=some (.int .i64 zz):=mm 1 _ rfl
 refine Uf 1 [1,2,3,6] rfl (Ut 1 rfl (Ur 5 132 rfl (Ul 1 rfl mm0 (Uq 1 rfl (O.call rfl rfl rfl call42 rfl (tree_spec (ho.fr hF) (by omega) (hi.fr hF) hll) ?_)))))
 rintro tv H3 ⟨hA4,hF3⟩
 have hs3:=hF3.size
 replace hF:=hF.trans hF3
 replace mm:=hF3.rd mm (fun _ _=>nw)
 replace mm0:=hF3.keep mm0 nw
 replace mm1:=hF3.keep mm1 nw
 have hM:=hA4.inS
 have hpl:=Pl.puts_length (OO ord) l
 have hsrt:=Pl.puts_srt (OO ord) l
 obtain ⟨ta,tc,htv⟩:=hM.len
 subst htv
 refine ⟨trivial,?_⟩
 refine Uf 1 [2,3,6,7] rfl (Ut 1 rfl (Ur 1 0 rfl (Uf 1 [2,3,6,7,8] rfl (Ut 2 rfl (Ur 3 0 rfl (Uf 3 [3,6,7,8,18,19,20] rfl (Ut 1 rfl (Go'.loop (Uk [3,6,7,8,18,19,20] rfl ?_)))))))))
 refine Go'.ind (σ:=Nat×Value) (fun s=>ks.length-s.1) (fun s H'=>s.1≤ks.length∧Fr nowhere H3 H'∧∃Zo,Acc EF Zo H' s.2 ((ks.map (fun k=>Pl.got (OO ord) k (Pl.puts (OO ord) l))).take s.1)∧∀b,Zo b→H3.size≤b∧b<H'.size)
  (fun s=>[(3,.pointer (some ⟨H.size,0,none⟩)),(6,.slice none 0 0),(7,.slice ta (Pl.puts (OO ord) l).length tc),(8,s.2),(18,.slice aa ks.length ca),(19,.int .i64 (ks.length:Int)),(20,.int .i64 (s.1:Int))]) (0,.slice none 0 0) ⟨Nat.zero_le _,Fr.refl _ _,fun _=>False,Acc.nil _ _ _,fun _ h=>h.elim⟩ rfl ?_
 rintro ⟨j,sv⟩ H5 ⟨hjl,hF35,Zo,hA,hZ⟩ ih
 simp only at hjl hA
 have hsz:=hF35.size
 have hF2:=hF.trans hF35
 replace mm0:=hF35.keep mm0 nw
 refine Ut 1 rfl ?_
 by_cases hlt:j<ks.length
 ·
  obtain ⟨y,hy⟩:∃y,ks[j]?=some y:=⟨ks[j],List.getElem?_eq_getElem hlt⟩
  obtain ⟨b,o,c',e,hr⟩:=(ha.fr hF2).at hy
  cases e
  have eout:(ks.map (fun k=>Pl.got (OO ord) k (Pl.puts (OO ord) l))).take (j+1)=(ks.map (fun k=>Pl.got (OO ord) k (Pl.puts (OO ord) l))).take j++[Pl.got (OO ord) y (Pl.puts (OO ord) l)]:=by rw [List.take_add_one,List.getElem?_map,hy];rfl
  have hlo:((ks.map (fun k=>Pl.got (OO ord) k (Pl.puts (OO ord) l))).take j).length=j:=by rw [List.length_take,List.length_map];omega
  refine Ur 1 0 rfl (Uc 0 rfl (lssT (by omega)) (Uf 0 [3,6,7,8,18,19,20,21] rfl (Ut 1 rfl (Go'.condT rfl (Ut 4 rfl ?_)))))
  have hbm:H.size<H3.size:=by omega
  refine Ur 4 164 rfl (Ux 0 j rfl (by omega) hlt (Us 0 rfl hr rfl (O.alloc rfl rfl rfl zeroValue27 ?_)))
  intro H6 M6
  refine ⟨trivial,?_⟩
  have hs6:=M6.size
  replace hA:=hA.fr (M6.fr nowhere) (fun _ _ _ _=>nw)
  replace mm0:=(M6.fr nowhere).keep mm0 nw
  replace hF35:=hF35.trans (M6.fr nowhere)
  have m7:Wr H6 H5.size 0 2:=M6.wr 2 (by decide)
  refine O.st rfl rfl sizeOf27 rfl rfl rfl rfl rfl m7 ?_
  intro H7 W7
  have hs7:=W7.size
  replace hA:=hA.fr W7.fr (fun b o hb hb2=>nr (.inl (by have:=hZ b hb2;omega)))
  replace mm0:=W7.fr.keep mm0 (nr (.inl (by omega)))
  replace hF35:=hF35.trans' W7.fr (fun _ _ _ h=>h) (fun b o hb hz=>by have h1:=hz.1;omega)
  have k0:Rd H7 H5.size 0 (EJ.enc y):=W7.all
  refine ⟨trivial,?_⟩
  refine Uf 0 [3,6,7,8,10,18,19,20,21] rfl (Ut 1 rfl (Ur 3 40 rfl (O.bld (cs:=[.int .i64 0,.int .i64 0,.bool false]) rfl rfl rfl rfl (st68) rfl (by kernel_rfl) (O.alloc rfl rfl rfl zeroValue68 ?_))))
  intro H8 M8
  refine ⟨trivial,?_⟩
  have hs8:=M8.size
  replace hA:=hA.fr (M8.fr nowhere) (fun _ _ _ _=>nw)
  replace mm0:=(M8.fr nowhere).keep mm0 nw
  replace hF35:=hF35.trans (M8.fr nowhere)
  replace k0:=(M8.fr nowhere).rd k0 (fun _ _=>nw)
  have m9:Wr H8 H7.size 0 3:=M8.wr 3 (by decide)
  refine O.st (vs:=(fvs none)) rfl rfl sizeOf68 rfl rfl rfl rfl rfl m9 ?_
  intro Hq Wq
  have hsq:=Wq.size
  replace hA:=hA.fr Wq.fr (fun b o hb hb2=>nr (.inl (by have:=hZ b hb2;omega)))
  replace mm0:=Wq.fr.keep mm0 (nr (.inl (by omega)))
  replace hF35:=hF35.trans' Wq.fr (fun _ _ _ h=>h) (fun b o hb hz=>by have h1:=hz.1;omega)
  replace k0:=Wq.fr.rd k0 (fun _ _=>nr (.inl (by omega)))
  replace m9:=Wq.fr.wr m9
  have r9:Rd Hq H7.size 0 (fvs none):=Wq.all
  refine ⟨trivial,?_⟩
  refine Uf 0 [3,6,7,8,10,11,18,19,20,21] rfl (Ut 2 rfl (Ur 10 580 rfl (Ul 1 rfl mm0 (Us 1 rfl k0 rfl (O.call rfl rfl rfl call143 rfl (place_spec (x:=y) ((ho.fr hF).fr hF35) (by omega) (hM.fr hF35) hsrt (by omega)) ?_)))))
  rintro _ H9 ⟨rfl,hF9⟩
  have hs9:=hF9.size
  replace hA:=hA.fr hF9 (fun _ _ _ _=>nw)
  replace mm0:=hF9.keep mm0 nw
  replace hF35:=hF35.trans hF9
  replace r9:=hF9.rd r9 (fun _ _=>nw)
  replace m9:=hF9.wr m9
  refine ⟨trivial,?_⟩
  refine Uf 5 [3,6,7,8,10,11,12,13,18,19,20,21] rfl (Ut 1 rfl (Ur 1 0 rfl (Uf 1 [3,6,7,8,10,11,12,13,18,19,20,21,33] rfl ?_)))
  cases hfd:Pl.fnd (OO ord) y (Pl.puts (OO ord) l)
  ·
   refine Go'.condF rfl (Ut 1 rfl ?_)
   have hg:(Pl.got (OO ord) y (Pl.puts (OO ord) l))=none:=Pl.got_none _ hfd
   rw [←hg] at r9
   refine Ur 5 164 rfl (Uq 1 rfl (O.lds rfl rfl rfl (fun w=>⟨isAgg68 w,sizeOf68 w⟩) rfl (fvs_len _) r9 (O.bsl (cs:=(fvs (Pl.got (OO ord) y (Pl.puts (OO ord) l)))) rfl rfl rfl ⟨underlying64,sizeOf68,zeroValue68,⟨_,typeInfo68,rfl⟩,rfl,by decide,by decide⟩ rfl (by decide) (by generalize (Pl.got (OO ord) y (Pl.puts (OO ord) l))=o;cases o<;>kernel_rfl) ?_)))
   intro H12 M12
   have hs12:=M12.size
   replace hA:=hA.fr (M12.fr nowhere) (fun _ _ _ _=>nw)
   replace mm0:=(M12.fr nowhere).keep mm0 nw
   replace hF35:=hF35.trans (M12.fr nowhere)
   have m5:Rd H12 H9.size 0 (row EF [(Pl.got (OO ord) y (Pl.puts (OO ord) l))]):=M12.rd _ [] (by simp [row,EF])
   refine ⟨trivial,?_⟩
   refine O.appA (E:=EF) (Y:=[(Pl.got (OO ord) y (Pl.puts (OO ord) l))]) rfl rfl rfl ⟨underlying64,sizeOf68,zeroValue68,⟨_,typeInfo68,rfl⟩,rfl,by decide,by decide⟩ rfl hA rfl ⟨_,_,_,rfl,m5⟩ (Nat.succ_pos _) (by rw [hlo];exact Nat.le_trans (Nat.mul_le_mul_left _ (Nat.le_of_ble_eq_true (n:=_) (m:=4096) rfl)) (by simp only [List.length_cons,List.length_nil];omega)) (by rw [hlo];simp only [List.length_cons,List.length_nil];omega) ?_
   intro v8 H13 hA13 hF13 hs13
   have hss13:=hF13.size
   rw [←eout] at hA13
   refine ⟨trivial,?_⟩
   refine Uf 1 [3,6,7,8,10,11,12,13,18,19,20,21,33] rfl (Ut 1 rfl (Ur 2 0 rfl (Ua 0 (((j+1:Nat):Int)) rfl (by omega) (Uf 1 [3,6,7,8,10,11,12,13,18,19,20,21,33] rfl (Uk [3,6,7,8,18,19,20] rfl (Go'.inLoop ?_))))))
   exact ih (j+1,v8) H13 ⟨hlt,hF35.trans' hF13 (fun _ _ _ h=>h) (fun b o hb hz=>by have h1:=(hZ b hz).1;omega),fun b=>Zo b∨(b=H12.size∧b<H13.size),hA13,fun b hb=>hb.elim (fun h=>⟨(hZ b h).1,by have:=(hZ b h).2;omega⟩) (fun h=>⟨by omega,h.2⟩)⟩ (by simp only;omega)
  ·
   refine Go'.condT rfl ?_
   have hg:(Pl.got (OO ord) y (Pl.puts (OO ord) l))=ath (Pl.puts (OO ord) l) ((Pl.pos (OO ord) y (Pl.puts (OO ord) l):Nat):Int):=by rw [Pl.got_some _ hfd,ath_nat]
   refine Ur 4 160 rfl (Uq 2 rfl (O.call rfl rfl rfl call136 rfl (at_spec ((Pl.pos (OO ord) y (Pl.puts (OO ord) l):Nat):Int) (hM.fr hF35) (by omega)) ?_))
   rintro _ H10 ⟨rfl,hF10⟩
   have hs10:=hF10.size
   replace hA:=hA.fr hF10 (fun _ _ _ _=>nw)
   replace mm0:=hF10.keep mm0 nw
   replace hF35:=hF35.trans hF10
   replace m9:=hF10.wr m9
   rw [←hg,FVe]
   refine ⟨trivial,?_⟩
   refine O.st (vs:=(fvs (Pl.got (OO ord) y (Pl.puts (OO ord) l)))) rfl rfl sizeOf68 rfl rfl rfl (fvs_len _) (fvs_ones _) m9 ?_
   intro H11 W11
   have hs11:=W11.size
   replace hA:=hA.fr W11.fr (fun b o hb hb2=>nr (.inl (by have:=hZ b hb2;omega)))
   replace mm0:=W11.fr.keep mm0 (nr (.inl (by omega)))
   replace hF35:=hF35.trans' W11.fr (fun _ _ _ h=>h) (fun b o hb hz=>by have h1:=hz.1;omega)
   have r11:Rd H11 H7.size 0 (fvs (Pl.got (OO ord) y (Pl.puts (OO ord) l))):=W11.all
   refine ⟨trivial,?_⟩
   refine Uf 0 [3,6,7,8,10,11,12,13,18,19,20,21,33] rfl (Ur 5 164 rfl (Uq 1 rfl (O.lds rfl rfl rfl (fun w=>⟨isAgg68 w,sizeOf68 w⟩) rfl (fvs_len _) r11 (O.bsl (cs:=(fvs (Pl.got (OO ord) y (Pl.puts (OO ord) l)))) rfl rfl rfl ⟨underlying64,sizeOf68,zeroValue68,⟨_,typeInfo68,rfl⟩,rfl,by decide,by decide⟩ rfl (by decide) (by generalize (Pl.got (OO ord) y (Pl.puts (OO ord) l))=o;cases o<;>kernel_rfl) ?_))))
   intro H12 M12
   have hs12:=M12.size
   replace hA:=hA.fr (M12.fr nowhere) (fun _ _ _ _=>nw)
   replace mm0:=(M12.fr nowhere).keep mm0 nw
   replace hF35:=hF35.trans (M12.fr nowhere)
   have m5:Rd H12 H11.size 0 (row EF [(Pl.got (OO ord) y (Pl.puts (OO ord) l))]):=M12.rd _ [] (by simp [row,EF])
   refine ⟨trivial,?_⟩
   refine O.appA (E:=EF) (Y:=[(Pl.got (OO ord) y (Pl.puts (OO ord) l))]) rfl rfl rfl ⟨underlying64,sizeOf68,zeroValue68,⟨_,typeInfo68,rfl⟩,rfl,by decide,by decide⟩ rfl hA rfl ⟨_,_,_,rfl,m5⟩ (Nat.succ_pos _) (by rw [hlo];exact Nat.le_trans (Nat.mul_le_mul_left _ (Nat.le_of_ble_eq_true (n:=_) (m:=4096) rfl)) (by simp only [List.length_cons,List.length_nil];omega)) (by rw [hlo];simp only [List.length_cons,List.length_nil];omega) ?_
   intro v8 H13 hA13 hF13 hs13
   have hss13:=hF13.size
   rw [←eout] at hA13
   refine ⟨trivial,?_⟩
   refine Uf 1 [3,6,7,8,10,11,12,13,18,19,20,21,33] rfl (Ut 1 rfl (Ur 2 0 rfl (Ua 0 (((j+1:Nat):Int)) rfl (by omega) (Uf 1 [3,6,7,8,10,11,12,13,18,19,20,21,33] rfl (Uk [3,6,7,8,18,19,20] rfl (Go'.inLoop ?_))))))
   exact ih (j+1,v8) H13 ⟨hlt,hF35.trans' hF13 (fun _ _ _ h=>h) (fun b o hb hz=>by have h1:=(hZ b hz).1;omega),fun b=>Zo b∨(b=H12.size∧b<H13.size),hA13,fun b hb=>hb.elim (fun h=>⟨(hZ b h).1,by have:=(hZ b h).2;omega⟩) (fun h=>⟨by omega,h.2⟩)⟩ (by simp only;omega)
 ·
  have ejl:j=ks.length:=by omega
  have eall:(ks.map (fun k=>Pl.got (OO ord) k (Pl.puts (OO ord) l))).take j=(ks.map (fun k=>Pl.got (OO ord) k (Pl.puts (OO ord) l))):=by rw [ejl];exact List.take_of_length_le (by rw [List.length_map];exact Nat.le_refl _)
  rw [eall] at hA
  refine Ur 1 0 rfl (Uc 0 rfl (lssF (by omega)) (Uf 0 [3,6,7,8,18,19,20,21] rfl (Ut 1 rfl (Go'.condF rfl (Ut 2 rfl (Ur 2 0 rfl (Uf 2 [6] rfl (Go'.ret (vs:=[_]) func88 results88 ⟨rfl,trivial⟩ ?_))))))))
  exact ⟨hA.out,hF2⟩
theorem lawGGetHint_spec {B:World} {H:Mem} {d:Nat} {nl:Bool} {v u:Value} {ord:List Int} {l:List (Int×Int)} {va:Value} {ks:List (Int×Int)} (hd:d=0∨2≤d∧d≤128) (ho:InS EN H v ord) (hol:ord.length≤4294967296) (hi:InS EJ H u l) (hll:l.length≤4294967296) (ha:InS EJ H va ks) (hal:ks.length≤4294967296):
  Fn Try.prog B 39 [.agg #[v,.int .i64 (d:Int),.bool nl],u,va] H (fun r H'=>r=.bool true∧Fr nowhere H H'):=by
 obtain ⟨a,c,hu⟩:=hi.len
 subst hu
 obtain ⟨av,mv,cv,hv⟩:=InS.form ho
 subst hv
 have hF:Fr nowhere H H:=Fr.refl _ _
 have hP:=PD_ok hd
 refine fn_of func39 rfl ntmps39 ?_
 refine (show Go' _ _ _ _ 20 [(0,_),(1,_),(2,_)] [.code _] _ from ?_)
 refine Ut 1 rfl (Ur 2 2 rfl (O.box rfl rfl rfl rfl ?_))
 intro B1 MB1
 refine ⟨trivial,?_⟩
 have hsB1:=MB1.size
 replace hF:=hF.trans (MB1.fr nowhere)
 have mm:Rd B1 H.size 0 [.slice av mv cv,.int .i64 (d:Int),.bool nl]:=MB1.rd _ [] (by simp [Value.cells])
 have mm0:cl B1 H.size 0=some (.slice av mv cv):=mm 0 _ rfl
 have mm1:cl B1 H.size (0+1)=some (.int .i64 (d:Int)):=mm 1 _ rfl
 refine Uf 1 [1,2,3,6] rfl (Ut 1 rfl (Ur 5 129 rfl (Us 0 rfl mm rfl (Uq 2 rfl (O.call rfl rfl rfl call87 rfl (iggethint_spec hd (ho.fr hF) hol (hi.fr hF) hll (ha.fr hF) hal) ?_)))))
 rintro v1 H3 ⟨h1,hF3⟩
 replace hF:=hF.trans hF3
 replace mm:=hF3.rd mm (fun _ _=>nw)
 replace mm0:=hF3.keep mm0 nw
 replace mm1:=hF3.keep mm1 nw
 refine ⟨trivial,?_⟩
 refine Uf 1 [1,2,3,6,7] rfl (Ut 1 rfl (Ur 5 129 rfl (Us 0 rfl mm rfl (Uq 2 rfl (O.call rfl rfl rfl call88 rfl (sgget_spec (ho.fr hF) hol (hi.fr hF) hll (ha.fr hF) hal) ?_)))))
 rintro v2 H4 ⟨h2,hF4⟩
 replace hF:=hF.trans hF4
 replace mm:=hF4.rd mm (fun _ _=>nw)
 replace mm0:=hF4.keep mm0 nw
 replace mm1:=hF4.keep mm1 nw
 refine ⟨trivial,?_⟩
 refine Uf 1 [6,7,8] rfl (Ut 1 rfl (Ur 4 32 rfl (Uq 2 rfl (O.callQ rfl rfl rfl call83 rfl (eqFounds_spec (h1.inS.fr hF4) h2.inS (by rw [List.length_map];exact hal)) trivial (Uf 1 [6] rfl (Go'.ret (vs:=[_]) func39 results39 ⟨rfl,trivial⟩ ?_))))))
 exact ⟨rfl,hF⟩
theorem fnExactGGetHint {B:World} {H:Mem} {z:Int} {nl:Bool} {v u:Value} {ord:List Int} {l:List (Int×Int)} {va:Value} {ks:List (Int×Int)} (ho:InS EN H v ord) (hi:InS EJ H u l) (ha:InS EJ H va ks):
  Fn Try.prog B 10 [.agg #[v,.int .i64 z,.bool nl],u,va] H (fun r H'=>r=.bool true∧Fr nowhere H H'):=by
 obtain ⟨a,c,hu⟩:=hi.len
 subst hu
 obtain ⟨av,mv,cv,hv⟩:=InS.form ho
 subst hv
 obtain ⟨aa,ca,ha0⟩:=ha.len
 subst ha0
 have hF:Fr nowhere H H:=Fr.refl _ _
 refine fn_of func10 rfl ntmps10 ?_
 refine (show Go' _ _ _ _ 36 [(0,_),(1,_),(2,_)] [.code _] _ from ?_)
 refine Ut 1 rfl (Ur 2 2 rfl (O.box rfl rfl rfl rfl ?_))
 intro B1 MB1
 refine ⟨trivial,?_⟩
 have hsB1:=MB1.size
 replace hF:=hF.trans (MB1.fr nowhere)
 have mm:Rd B1 H.size 0 [.slice av mv cv,.int .i64 z,.bool nl]:=MB1.rd _ [] (by simp [Value.cells])
 have mm0:cl B1 H.size 0=some (.slice av mv cv):=mm 0 _ rfl
 have mm1:cl B1 H.size (0+1)=some (.int .i64 z):=mm 1 _ rfl
 refine Uf 1 [1,2,3,6] rfl (Ut 2 rfl ?_)
 cases hoz:decide (ord.length≤2147483647)
 ·
  refine Ur 13 9 rfl (Us 0 rfl mm rfl (O.call rfl rfl rfl call23 rfl (zzFits1_spec (ho.fr hF) hoz) ?_))
  rintro _ H1 ⟨rfl,hF1⟩
  replace hF:=hF.trans hF1
  replace mm:=hF1.rd mm (fun _ _=>nw)
  replace mm0:=hF1.keep mm0 nw
  replace mm1:=hF1.keep mm1 nw
  refine ⟨trivial,?_⟩
  refine Uf 11 [1,2,3,6,19] rfl (Go'.condT rfl (Ut 1 rfl (Ur 1 0 rfl (Uf 1 [1,2,3,6] rfl (Go'.ret (vs:=[_]) func10 results10 ⟨rfl,trivial⟩ ?_)))))
  exact ⟨rfl,hF⟩
 ·
  have hoz2:=of_decide_eq_true hoz
  by_cases hb_lenl:(2147483647:Int)<(l.length:Int)
  ·
   refine Ur 13 9 rfl (Us 0 rfl mm rfl (O.call rfl rfl rfl call23 rfl (zzFits1_spec (ho.fr hF) hoz) ?_))
   rintro _ H1 ⟨rfl,hF1⟩
   replace hF:=hF.trans hF1
   replace mm:=hF1.rd mm (fun _ _=>nw)
   replace mm0:=hF1.keep mm0 nw
   replace mm1:=hF1.keep mm1 nw
   refine ⟨trivial,?_⟩
   refine Uc 4 rfl (gtrT (by omega)) (Uf 6 [1,2,3,6,19] rfl (Go'.condT rfl (Ut 1 rfl (Ur 1 0 rfl (Uf 1 [1,2,3,6] rfl (Go'.ret (vs:=[_]) func10 results10 ⟨rfl,trivial⟩ ?_))))))
   exact ⟨rfl,hF⟩
  ·
   by_cases hb_lenkeys:(2147483647:Int)<(ks.length:Int)
   ·
    refine Ur 13 9 rfl (Us 0 rfl mm rfl (O.call rfl rfl rfl call23 rfl (zzFits1_spec (ho.fr hF) hoz) ?_))
    rintro _ H1 ⟨rfl,hF1⟩
    replace hF:=hF.trans hF1
    replace mm:=hF1.rd mm (fun _ _=>nw)
    replace mm0:=hF1.keep mm0 nw
    replace mm1:=hF1.keep mm1 nw
    refine ⟨trivial,?_⟩
    refine Uc 4 rfl (gtrF (by omega)) (Uc 4 rfl (gtrT (by omega)) (Uf 1 [1,2,3,6,19] rfl (Go'.condT rfl (Ut 1 rfl (Ur 1 0 rfl (Uf 1 [1,2,3,6] rfl (Go'.ret (vs:=[_]) func10 results10 ⟨rfl,trivial⟩ ?_)))))))
    exact ⟨rfl,hF⟩
   ·
    refine Ur 13 9 rfl (Us 0 rfl mm rfl (O.call rfl rfl rfl call23 rfl (zzFits1_spec (ho.fr hF) hoz) ?_))
    rintro _ H1 ⟨rfl,hF1⟩
    replace hF:=hF.trans hF1
    replace mm:=hF1.rd mm (fun _ _=>nw)
    replace mm0:=hF1.keep mm0 nw
    replace mm1:=hF1.keep mm1 nw
    refine ⟨trivial,?_⟩
    refine Uc 4 rfl (gtrF (by omega)) (Uc 4 rfl (gtrF (by omega)) (Uf 1 [1,2,3,6,19] rfl (Go'.condF rfl (Ut 2 rfl ?_))))
    cases hfz:fitsb z
    ·
     refine Ur 17 135303338 rfl (O.call rfl rfl rfl call30 rfl exMake_spec ?_)
     rintro _ H2 ⟨rfl,hF2⟩
     replace hF:=hF.trans hF2
     replace mm:=hF2.rd mm (fun _ _=>nw)
     replace mm0:=hF2.keep mm0 nw
     replace mm1:=hF2.keep mm1 nw
     refine ⟨trivial,?_⟩
     refine O.call rfl rfl rfl call32 rfl exItems_spec ?_
     rintro ev H3 ⟨hev,hF3⟩
     replace hF:=hF.trans hF3
     replace mm:=hF3.rd mm (fun _ _=>nw)
     replace mm0:=hF3.keep mm0 nw
     replace mm1:=hF3.keep mm1 nw
     refine ⟨trivial,?_⟩
     refine O.call rfl rfl rfl call40 rfl exKeys_spec ?_
     rintro pv H4 ⟨hpv,hF4⟩
     replace hF:=hF.trans hF4
     replace mm:=hF4.rd mm (fun _ _=>nw)
     replace mm0:=hF4.keep mm0 nw
     replace mm1:=hF4.keep mm1 nw
     replace hev:=hev.fr hF4
     refine ⟨trivial,?_⟩
     refine O.call rfl rfl rfl call39 rfl (lawGGetHint_spec (d:=2) (by decide) (InS.nil EN _) (by decide) hev (by decide) hpv (by decide)) ?_
     rintro _ H5 ⟨rfl,hF5⟩
     replace hF:=hF.trans hF5
     replace mm:=hF5.rd mm (fun _ _=>nw)
     replace mm0:=hF5.keep mm0 nw
     replace mm1:=hF5.keep mm1 nw
     refine ⟨trivial,?_⟩
     refine Ul 2 rfl mm1 (O.callQ rfl rfl rfl call33 rfl (fits_spec' hfz) trivial (Uq 5 rfl (Pl.pass2 rfl rfl rfl rfl trivial (Uf 3 [6] rfl (Go'.ret (vs:=[_]) func10 results10 ⟨rfl,trivial⟩ ?_)))))
     exact ⟨rfl,hF⟩
    ·
     obtain ⟨d,rfl,hd⟩:=fitsb_nat hfz
     refine Ur 17 135303338 rfl (O.call rfl rfl rfl call30 rfl exMake_spec ?_)
     rintro _ H2 ⟨rfl,hF2⟩
     replace hF:=hF.trans hF2
     replace mm:=hF2.rd mm (fun _ _=>nw)
     replace mm0:=hF2.keep mm0 nw
     replace mm1:=hF2.keep mm1 nw
     refine ⟨trivial,?_⟩
     refine O.call rfl rfl rfl call32 rfl exItems_spec ?_
     rintro ev H3 ⟨hev,hF3⟩
     replace hF:=hF.trans hF3
     replace mm:=hF3.rd mm (fun _ _=>nw)
     replace mm0:=hF3.keep mm0 nw
     replace mm1:=hF3.keep mm1 nw
     refine ⟨trivial,?_⟩
     refine O.call rfl rfl rfl call40 rfl exKeys_spec ?_
     rintro pv H4 ⟨hpv,hF4⟩
     replace hF:=hF.trans hF4
     replace mm:=hF4.rd mm (fun _ _=>nw)
     replace mm0:=hF4.keep mm0 nw
     replace mm1:=hF4.keep mm1 nw
     replace hev:=hev.fr hF4
     refine ⟨trivial,?_⟩
     refine O.call rfl rfl rfl call39 rfl (lawGGetHint_spec (d:=2) (by decide) (InS.nil EN _) (by decide) hev (by decide) hpv (by decide)) ?_
     rintro _ H5 ⟨rfl,hF5⟩
     replace hF:=hF.trans hF5
     replace mm:=hF5.rd mm (fun _ _=>nw)
     replace mm0:=hF5.keep mm0 nw
     replace mm1:=hF5.keep mm1 nw
     refine ⟨trivial,?_⟩
     refine Ul 2 rfl mm1 (O.callQ rfl rfl rfl call33 rfl (fits_spec' hfz) trivial (Us 2 rfl mm rfl (Uq 2 rfl (O.call rfl rfl rfl call39 rfl (lawGGetHint_spec hd (ho.fr hF) (by omega) (hi.fr hF) (by omega) (ha.fr hF) (by omega)) ?_))))
     rintro _ H6 ⟨rfl,hF6⟩
     replace hF:=hF.trans hF6
     replace mm:=hF6.rd mm (fun _ _=>nw)
     replace mm0:=hF6.keep mm0 nw
     replace mm1:=hF6.keep mm1 nw
     refine ⟨trivial,?_⟩
     refine Uf 3 [6] rfl (Go'.ret (vs:=[_]) func10 results10 ⟨rfl,trivial⟩ ?_)
     exact ⟨rfl,hF⟩
end Go.Bt.FG
