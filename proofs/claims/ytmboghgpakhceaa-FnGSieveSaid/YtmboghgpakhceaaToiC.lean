/- Contracts of functions of the program, proved by walking through their code. Conditions: those that each theorem names. -/
import Derived.Test.YtmboghgpakhceaaToiG
import Derived.Test.YtmboghgpakhceaaTogD
set_option linter.unusedVariables false
namespace Go.Bt.FG
open Go Go.Proofs Go.Proofs.Try
set_option maxRecDepth 20000
set_option maxHeartbeats 4000000
set_option linter.unusedSectionVars false
section
variable [Inhabited Cx]
theorem nasc0 {B:World} {g:FuncId} {us cs:List Value} {go:List (Int×Int)→Bool} {M:Nat} (cb:Cb Try.prog B encIt g us cs go M) (hcall:∀(args:Array Value) (w:World),(callFunc g args).run Try.prog w=.ok (.enter g args) w) {tr:Nat} {P:Ps} (hP:PsOk P) (mt:Bool) (x:Int×Int) (hv:Value) (hz:Nat→Prop) {Ha:Mem} {bp op dp:Nat} {acc:List (Int×Int)} {Z:Nat→Prop} {t:Gt EJ 0} (hpa:VPre (cbH cb hv hz) Ha tr P 0 t bp op acc Z) (hs:Pl.Srt OI (Gt.L 0 t)) (hx1:1≤(Gt.X 0 t).length) (hbp:¬Z bp) (hdp:dp<4611686018427387904):
  Fn Try.prog B 190 [.pointer (some ⟨tr,0,none⟩),.pointer (some ⟨bp,op,none⟩),.agg (EJ.enc x).toArray,hv,.int .i64 (dp:Int),.func (.func g) us.toArray cs.toArray,.bool mt] Ha (fun r H'=>r=.bool (takes go acc (Pl.up OI x (Gt.L 0 t))).2∧CbPost (cbH cb hv hz) acc Z Ha (Pl.up OI x (Gt.L 0 t)) H'):=by
 obtain ⟨gg,X⟩:=t
 replace hx1:1≤X.length:=hx1
 have hsX:Pl.Srt OI X:=hs
 refine fn_of func190 rfl ntmps190 ?_
 refine (show Go' _ _ _ _ 89 [(0,_),(1,_),(2,_),(3,_),(4,_),(5,_),(6,_)] [.code _] _ from ?_)
 refine Ut 1 rfl (Ur 2 2 rfl (O.box rfl rfl rfl rfl ?_))
 intro H0 M0
 refine ⟨trivial,?_⟩
 have hs0:=M0.size
 have hf0:=M0.fr nowhere
 have mi:Rd H0 Ha.size 0 (EJ.enc x):=M0.rd _ [] (by simp [Value.cells])
 have hza:∀b,Z b→b<Ha.size:=fun b hb=>(cbH cb hv hz).lt hpa.st hb
 replace hpa:=hpa.fr0 hf0 (fun _ _ h=>h.elim) hbp ((cbH cb hv hz).fr hpa.st hf0 (fun _ _ _=>nw))
 refine Uf 1 [0,1,3,4,5,6,9,14] rfl (Ut 1 rfl ?_)
 have hNa:NodeM EJ H0 gg X (.pointer none):=hpa.g.1
 have hca:=hNa.c0
 rw [show gg.iso=P.iso from hpa.g.2.1] at hca
 have hxma:X.length≤P.mx:=hpa.g.2.2.2
 have hx255a:=hP.hx
 obtain ⟨Z0,hT0,hk0,hZe,hZd⟩:=hpa.st
 have hzZ:∀b,hz b→Z b:=fun b hb=>(hZe b).2 (.inr hb)
 refine Ur 5 128 rfl (Uq 3 rfl (O.callQ rfl rfl rfl call130 rfl (isoLoad_spec mt hpa.cel hca hpa.tc.iso) trivial (Uf 1 [0,3,4,5,6,9,14,15] rfl (Ut 1 rfl ?_))))
 unfold ptr
 refine Ur 11 2064 rfl (Us 2 rfl mi rfl (Uq 2 rfl (O.call rfl rfl rfl call131 rfl (find_spec hpa.tc x hNa (hsX) (by omega) hx1 hk0 (fun b o hb hn=>hpa.nz b o (hn) (hzZ b hb)) (by omega)) ?_)))
 rintro _ H ⟨rfl,hFf,hkf⟩
 have hff:Fr (fun b _=>Z b) Ha H:=hf0.trans' hFf (fun _ _ _ h=>h.elim) (fun b _ _ h=>hzZ b h)
 replace mi:=hFf.rd mi (fun _ _ h=>by have:=hza _ (hzZ _ h);omega)
 have hp:=hpa.fr0 hFf (fun b _ h=>hzZ b h) hbp ⟨Z0,cb.fr hT0 hFf (fun b o hb hb2=>hZd b hb hb2),hkf,hZe,hZd⟩
 refine ⟨trivial,?_⟩
 refine Uf 5 [0,3,4,5,6,9,14,15,16,17] rfl (Ut 2 rfl (Go'.mono (Q:=fun r H'=>r=.bool (takes go acc (Pl.up OI x (X))).2∧CbPost (cbH cb hv hz) acc Z H (Pl.up OI x (X)) H') (fun v H' hq=>⟨hq.1,CbPost.rebase hff hq.2⟩) ?_))
 have hsza:=hff.size
 clear hpa hca hk0 hT0 hkf hFf hff hNa
 obtain ⟨tc,hg,hc,hnz,hntr,hst,hlen⟩:=hp
 have hN:NodeM EJ H gg X (.pointer none):=hg.1
 have hiso:gg.iso=P.iso:=hg.2.1
 have hxm:X.length≤P.mx:=hg.2.2.2
 have hx255:=hP.hx
 replace hs:Pl.Srt OI X:=hs
 replace hlen:acc.length+X.length≤M:=hlen
 have hc0:=hN.c0
 rw [hiso] at hc0
 have hcat:∀{Z1 Z2:Nat→Prop} {H2 H3:Mem},Fr (fun x _=>Z x) H H2→(∀b,Z1 b→Z b∨H.size≤b)→Fr (fun x _=>Z1 x) H2 H3→(∀b,Z2 b→Z1 b∨H2.size≤b)→Fr (fun x _=>Z x) H H3∧∀b,Z2 b→Z b∨H.size≤b:=by
  intro Z1 Z2 H2 H3 hF hZ1 hF2 hZ2
  have:=hF.size
  exact ⟨hF.trans' hF2 (fun _ _ _ h=>h) (fun b o hb hz=>(hZ1 b hz).elim id (fun h=>by omega)),fun b hb=>(hZ2 b hb).elim (hZ1 b) (fun h=>.inr (by omega))⟩
 have hple:=Pl.pos_le OI x X
 have hltN:∀b o,ncl EJ gg b o→b<H.size:=fun b o hb=>NodeM.lt hN hb
 show Go' _ _ _ (fun r H'=>r=.bool (takes go acc (Pl.up OI x (X))).2∧CbPost (cbH cb hv hz) acc Z H (Pl.up OI x (X)) H') _ _ _ _
 have hlt1:Pl.fnd OI x X=true→Pl.pos OI x X<X.length:=Pl.fnd_pos_lt OI
 have hW:Pl.up OI x (X)=X.drop (Pl.pos OI x X):=rfl
 generalize hFULL:Pl.up OI x (X)=FULL at*
 cases hfd:Pl.fnd OI x X
 ·
  rw [hfd] at hlt1
  generalize hpi:Pl.pos OI x X=i at*
  refine Ur 2 0 rfl (Uf 2 [0,3,4,5,6,9,14,15,16,32] rfl (Go'.condT rfl (Ut 1 rfl (Ur 3 8 rfl (Uq 1 rfl (O.callQ rfl rfl rfl call133 rfl (leaf_spec hN.c3) trivial (Uf 1 [0,3,4,5,6,9,14,15,16,35] rfl (Go'.condF rfl (Ut 3 rfl ?_)))))))))
  replace hW:FULL=X.drop (i):=hW
  refine Go'.loop (Uk [5,15,16] rfl ?_)
  refine Go'.ind (σ:=Nat×Int×(Nat→Prop)×List (Int×Int)) (fun s=>X.length-s.1) (fun s H'=>s.1≤X.length∧s.2.1=(s.1:Int)∧takes go acc FULL=takes go s.2.2.2 (X.drop (s.1))∧(cbH cb hv hz).T s.2.2.2 s.2.2.1 H'∧Fr (fun b _=>Z b) H H'∧(∀b,s.2.2.1 b→Z b∨H.size≤b)∧s.2.2.2.length+(X.drop (s.1)).length≤M)
   (fun s=>[(5,.func (.func g) us.toArray cs.toArray),(15,.pointer (some ⟨gg.p,0,none⟩)),(16,.int .i64 s.2.1)]) (i,(i:Int),Z,acc) ⟨by (try simp only)<;>omega,by (try simp only)<;>omega,by rw [hW],hst,Fr.refl _ _,fun b hb=>.inl hb,by simp only [List.length_drop];omega⟩ rfl ?_
  rintro ⟨j,z,Z1,A⟩ H2 ⟨hj,hz,ht,hT,hF,hZ1,hAM⟩ ih
  simp only at hj hz ht hT hZ1 hAM
  subst hz
  replace hN:=NodeM.fr EJ hN hF (fun x y hxy hz=>hnz x y hxy hz)
  refine Ut 2 rfl ?_
  by_cases hlt:j<X.length
  ·
   obtain ⟨y,hy⟩:∃y,X[j]?=some y:=⟨X[j],List.getElem?_eq_getElem (by omega)⟩
   obtain ⟨hy1,hy2⟩:=List.getElem?_eq_some_iff.1 hy
   rw [←List.getElem_cons_drop (h:=hy1),hy2] at ht hAM
   rw [List.length_cons] at hAM
   refine (show Go' _ _ _ _ _ [(5,.func (.func g) us.toArray cs.toArray),(15,.pointer (some ⟨gg.p,0,none⟩)),(16,.int .i64 ((j:Int)))] _ _ from ?_)
   refine Ur 7 256 rfl (Ul 4 rfl hN.c2 (Uc 1 rfl (lssT (by omega)) (Uf 0 [5,15,16,59] rfl (Go'.condT rfl (Ut 5 rfl ?_)))))
   cases hgo:go (A++[y])
   ·
    refine Ur 10 147712 rfl (Ul 4 rfl hN.c2 (Ux 1 j rfl (by omega) (by omega) (Us 0 rfl (hN.sl.item hy) rfl (O.callC rfl rfl rfl rfl hcall rfl ((cbH cb hv hz).call y hT (by omega)) ?_))))
    rintro _ H4 ⟨rfl,Z4,hT4,hF4,hZ4⟩
    rw [hgo]
    obtain ⟨hF5,hZ5⟩:=hcat hF hZ1 hF4 hZ4
    refine ⟨trivial,?_⟩
    refine Uf 1 [5,15,16,59,71] rfl (Go'.condT rfl (Ut 1 rfl (Ur 1 0 rfl (Uf 1 [5,14,15,16,59,71] rfl (Go'.ret (vs:=[_]) func190 results190 ⟨rfl,trivial⟩ ?_)))))
    rw [takes_cons,hgo] at ht
    unfold CbPost
    rw [ht]
    exact ⟨rfl,Z4,hT4,hF5,hZ5⟩
   ·
    refine Ur 10 147712 rfl (Ul 4 rfl hN.c2 (Ux 1 j rfl (by omega) (by omega) (Us 0 rfl (hN.sl.item hy) rfl (O.callC rfl rfl rfl rfl hcall rfl ((cbH cb hv hz).call y hT (by omega)) ?_))))
    rintro _ H4 ⟨rfl,Z4,hT4,hF4,hZ4⟩
    rw [hgo]
    obtain ⟨hF5,hZ5⟩:=hcat hF hZ1 hF4 hZ4
    refine ⟨trivial,?_⟩
    refine Uf 1 [5,15,16,59,71] rfl ?_
    rw [takes_cons,hgo,if_pos rfl] at ht
    refine Go'.condF rfl (Ut 2 rfl ?_)
    have hN5:=NodeM.fr EJ hN hF4 (fun x y hxy hz=>(hZ1 x hz).elim (hnz x y hxy) (fun h=>by have:=hltN x y hxy;omega))
    refine Ur 3 8 rfl (Uq 1 rfl (O.callQ rfl rfl rfl call133 rfl (leaf_spec hN5.c3) trivial (Uf 1 [5,15,16,59,71,74] rfl (Go'.condF rfl (Ut 2 rfl (Ur 3 0 rfl (Ua 1 (((j+1:Nat):Int)) rfl (by omega) (Uf 1 [5,15,16,59,71,74] rfl (Uk [5,15,16] rfl (Go'.inLoop ?_))))))))))
    exact ih (j+1,_,Z4,A++[y]) H4 ⟨by (try simp only)<;>omega,rfl,ht,hT4,hF5,hZ5,by simp only [List.length_append,List.length_singleton];omega⟩ (by (try simp only)<;>omega)
  ·
   refine (show Go' _ _ _ _ _ [(5,.func (.func g) us.toArray cs.toArray),(15,.pointer (some ⟨gg.p,0,none⟩)),(16,.int .i64 ((j:Int)))] _ _ from ?_)
   refine Ur 7 256 rfl (Ul 4 rfl hN.c2 (Uc 1 rfl (lssF (by omega)) (Uf 0 [5,15,16,59] rfl ?_)))
   rw [List.drop_of_length_le (by omega)] at ht
   refine Go'.condF rfl (Ut 2 rfl (Ur 1 0 rfl (Uf 1 [14] rfl (Go'.ret (vs:=[_]) func190 results190 ⟨rfl,trivial⟩ ?_))))
   replace ht:takes go acc FULL=(A,true):=ht
   unfold CbPost
   rw [ht]
   exact ⟨rfl,Z1,hT,hF,hZ1⟩
 ·
  rw [hfd] at hlt1
  generalize hpi:Pl.pos OI x X=i at*
  refine Ur 2 0 rfl (Uf 2 [0,3,4,5,6,9,14,15,16,32] rfl (Go'.condF rfl (Ut 3 rfl ?_)))
  replace hlt1:=hlt1 rfl
  replace hW:FULL=X.drop (i):=hW
  refine Go'.loop (Uk [5,15,16] rfl ?_)
  refine Go'.ind (σ:=Nat×Int×(Nat→Prop)×List (Int×Int)) (fun s=>X.length-s.1) (fun s H'=>s.1≤X.length∧s.2.1=(s.1:Int)∧takes go acc FULL=takes go s.2.2.2 (X.drop (s.1))∧(cbH cb hv hz).T s.2.2.2 s.2.2.1 H'∧Fr (fun b _=>Z b) H H'∧(∀b,s.2.2.1 b→Z b∨H.size≤b)∧s.2.2.2.length+(X.drop (s.1)).length≤M)
   (fun s=>[(5,.func (.func g) us.toArray cs.toArray),(15,.pointer (some ⟨gg.p,0,none⟩)),(16,.int .i64 s.2.1)]) (i,(i:Int),Z,acc) ⟨by (try simp only)<;>omega,by (try simp only)<;>omega,by rw [hW],hst,Fr.refl _ _,fun b hb=>.inl hb,by simp only [List.length_drop];omega⟩ rfl ?_
  rintro ⟨j,z,Z1,A⟩ H2 ⟨hj,hz,ht,hT,hF,hZ1,hAM⟩ ih
  simp only at hj hz ht hT hZ1 hAM
  subst hz
  replace hN:=NodeM.fr EJ hN hF (fun x y hxy hz=>hnz x y hxy hz)
  refine Ut 2 rfl ?_
  by_cases hlt:j<X.length
  ·
   obtain ⟨y,hy⟩:∃y,X[j]?=some y:=⟨X[j],List.getElem?_eq_getElem (by omega)⟩
   obtain ⟨hy1,hy2⟩:=List.getElem?_eq_some_iff.1 hy
   rw [←List.getElem_cons_drop (h:=hy1),hy2] at ht hAM
   rw [List.length_cons] at hAM
   refine (show Go' _ _ _ _ _ [(5,.func (.func g) us.toArray cs.toArray),(15,.pointer (some ⟨gg.p,0,none⟩)),(16,.int .i64 ((j:Int)))] _ _ from ?_)
   refine Ur 7 256 rfl (Ul 4 rfl hN.c2 (Uc 1 rfl (lssT (by omega)) (Uf 0 [5,15,16,59] rfl (Go'.condT rfl (Ut 5 rfl ?_)))))
   cases hgo:go (A++[y])
   ·
    refine Ur 10 147712 rfl (Ul 4 rfl hN.c2 (Ux 1 j rfl (by omega) (by omega) (Us 0 rfl (hN.sl.item hy) rfl (O.callC rfl rfl rfl rfl hcall rfl ((cbH cb hv hz).call y hT (by omega)) ?_))))
    rintro _ H4 ⟨rfl,Z4,hT4,hF4,hZ4⟩
    rw [hgo]
    obtain ⟨hF5,hZ5⟩:=hcat hF hZ1 hF4 hZ4
    refine ⟨trivial,?_⟩
    refine Uf 1 [5,15,16,59,71] rfl (Go'.condT rfl (Ut 1 rfl (Ur 1 0 rfl (Uf 1 [5,14,15,16,59,71] rfl (Go'.ret (vs:=[_]) func190 results190 ⟨rfl,trivial⟩ ?_)))))
    rw [takes_cons,hgo] at ht
    unfold CbPost
    rw [ht]
    exact ⟨rfl,Z4,hT4,hF5,hZ5⟩
   ·
    refine Ur 10 147712 rfl (Ul 4 rfl hN.c2 (Ux 1 j rfl (by omega) (by omega) (Us 0 rfl (hN.sl.item hy) rfl (O.callC rfl rfl rfl rfl hcall rfl ((cbH cb hv hz).call y hT (by omega)) ?_))))
    rintro _ H4 ⟨rfl,Z4,hT4,hF4,hZ4⟩
    rw [hgo]
    obtain ⟨hF5,hZ5⟩:=hcat hF hZ1 hF4 hZ4
    refine ⟨trivial,?_⟩
    refine Uf 1 [5,15,16,59,71] rfl ?_
    rw [takes_cons,hgo,if_pos rfl] at ht
    refine Go'.condF rfl (Ut 2 rfl ?_)
    have hN5:=NodeM.fr EJ hN hF4 (fun x y hxy hz=>(hZ1 x hz).elim (hnz x y hxy) (fun h=>by have:=hltN x y hxy;omega))
    refine Ur 3 8 rfl (Uq 1 rfl (O.callQ rfl rfl rfl call133 rfl (leaf_spec hN5.c3) trivial (Uf 1 [5,15,16,59,71,74] rfl (Go'.condF rfl (Ut 2 rfl (Ur 3 0 rfl (Ua 1 (((j+1:Nat):Int)) rfl (by omega) (Uf 1 [5,15,16,59,71,74] rfl (Uk [5,15,16] rfl (Go'.inLoop ?_))))))))))
    exact ih (j+1,_,Z4,A++[y]) H4 ⟨by (try simp only)<;>omega,rfl,ht,hT4,hF5,hZ5,by simp only [List.length_append,List.length_singleton];omega⟩ (by (try simp only)<;>omega)
  ·
   refine (show Go' _ _ _ _ _ [(5,.func (.func g) us.toArray cs.toArray),(15,.pointer (some ⟨gg.p,0,none⟩)),(16,.int .i64 ((j:Int)))] _ _ from ?_)
   refine Ur 7 256 rfl (Ul 4 rfl hN.c2 (Uc 1 rfl (lssF (by omega)) (Uf 0 [5,15,16,59] rfl ?_)))
   rw [List.drop_of_length_le (by omega)] at ht
   refine Go'.condF rfl (Ut 2 rfl (Ur 1 0 rfl (Uf 1 [14] rfl (Go'.ret (vs:=[_]) func190 results190 ⟨rfl,trivial⟩ ?_))))
   replace ht:takes go acc FULL=(A,true):=ht
   unfold CbPost
   rw [ht]
   exact ⟨rfl,Z1,hT,hF,hZ1⟩
theorem nasc {B:World} {g:FuncId} {us cs:List Value} {go:List (Int×Int)→Bool} {M:Nat} (cb:Cb Try.prog B encIt g us cs go M) (hcall:∀(args:Array Value) (w:World),(callFunc g args).run Try.prog w=.ok (.enter g args) w) {tr:Nat} {P:Ps} (hP:PsOk P) (mt:Bool) (x:Int×Int) (hv:Value) (hz:Nat→Prop):∀(h:Nat) {Ha:Mem} {bp op dp:Nat} {acc:List (Int×Int)} {Z:Nat→Prop} {t:Gt EJ h},VPre (cbH cb hv hz) Ha tr P h t bp op acc Z→Pl.Srt OI (Gt.L h t)→1≤(Gt.X h t).length→¬Z bp→dp+h<4611686018427387904→
  Fn Try.prog B 190 [.pointer (some ⟨tr,0,none⟩),.pointer (some ⟨bp,op,none⟩),.agg (EJ.enc x).toArray,hv,.int .i64 (dp:Int),.func (.func g) us.toArray cs.toArray,.bool mt] Ha (fun r H'=>r=.bool (takes go acc (Pl.up OI x (Gt.L h t))).2∧CbPost (cbH cb hv hz) acc Z Ha (Pl.up OI x (Gt.L h t)) H')
 | 0,_,_,_,_,_,_,_,hp,hs,hx,hb,hd=>nasc0 cb hcall hP mt x hv hz hp hs hx hb hd
 | h+1,Ha,bp,op,dp,acc,Z,(gg,X,K),hpa,hs,hx1,hbp,hdp=>by
  have ih:=@nasc B g us cs go M cb hcall tr P hP mt x hv hz h
  replace hx1:1≤X.length:=hx1
  have hsX:Pl.Srt OI X:=(show Pl.Srt OI (Pl.inter X (K.map (Gt.L h))) from hs).sublist (Pl.sublist_inter X _ (by rw [List.length_map];have:=hpa.g.2.2.2.2.2.1;simp only at this;omega))
  refine fn_of func190 rfl ntmps190 ?_
  refine (show Go' _ _ _ _ 89 [(0,_),(1,_),(2,_),(3,_),(4,_),(5,_),(6,_)] [.code _] _ from ?_)
  refine Ut 1 rfl (Ur 2 2 rfl (O.box rfl rfl rfl rfl ?_))
  intro H0 M0
  refine ⟨trivial,?_⟩
  have hs0:=M0.size
  have hf0:=M0.fr nowhere
  have mi:Rd H0 Ha.size 0 (EJ.enc x):=M0.rd _ [] (by simp [Value.cells])
  have hza:∀b,Z b→b<Ha.size:=fun b hb=>(cbH cb hv hz).lt hpa.st hb
  replace hpa:=hpa.fr0 hf0 (fun _ _ h=>h.elim) hbp ((cbH cb hv hz).fr hpa.st hf0 (fun _ _ _=>nw))
  refine Uf 1 [0,1,3,4,5,6,9,14] rfl (Ut 1 rfl ?_)
  have hIa:Inn H0 P h gg X ((Gt.ps h K).map some) K:=Gt.Good.inn hpa.g
  have hca:=hIa.n.c0
  rw [hIa.iso] at hca
  have hxma:X.length≤P.mx:=hpa.g.2.2.2.2.1
  have hKla:K.length=X.length+1:=hpa.g.2.2.2.2.2.1
  have hx255a:=hP.hx
  obtain ⟨Z0,hT0,hk0,hZe,hZd⟩:=hpa.st
  have hzZ:∀b,hz b→Z b:=fun b hb=>(hZe b).2 (.inr hb)
  refine Ur 5 128 rfl (Uq 3 rfl (O.callQ rfl rfl rfl call130 rfl (isoLoad_spec mt hpa.cel hca hpa.tc.iso) trivial (Uf 1 [0,3,4,5,6,9,14,15] rfl (Ut 1 rfl ?_))))
  unfold ptr
  refine Ur 11 2064 rfl (Us 2 rfl mi rfl (Uq 2 rfl (O.call rfl rfl rfl call131 rfl (find_spec hpa.tc x hIa.n (hsX) (by omega) hx1 hk0 (fun b o hb hn=>hpa.nz b o (.inl hn) (hzZ b hb)) (by omega)) ?_)))
  rintro _ H ⟨rfl,hFf,hkf⟩
  have hff:Fr (fun b _=>Z b) Ha H:=hf0.trans' hFf (fun _ _ _ h=>h.elim) (fun b _ _ h=>hzZ b h)
  replace mi:=hFf.rd mi (fun _ _ h=>by have:=hza _ (hzZ _ h);omega)
  have hp:=hpa.fr0 hFf (fun b _ h=>hzZ b h) hbp ⟨Z0,cb.fr hT0 hFf (fun b o hb hb2=>hZd b hb hb2),hkf,hZe,hZd⟩
  refine ⟨trivial,?_⟩
  refine Uf 5 [0,3,4,5,6,9,14,15,16,17] rfl (Ut 2 rfl (Go'.mono (Q:=fun r H'=>r=.bool (takes go acc (Pl.up OI x (Pl.inter X (K.map (Gt.L h))))).2∧CbPost (cbH cb hv hz) acc Z H (Pl.up OI x (Pl.inter X (K.map (Gt.L h)))) H') (fun v H' hq=>⟨hq.1,CbPost.rebase hff hq.2⟩) ?_))
  have hsza:=hff.size
  clear hpa hca hk0 hT0 hkf hFf hff hIa
  obtain ⟨tc,hg,hc,hnz,hntr,hst,hlen⟩:=hp
  have hI:Inn H P h gg X ((Gt.ps h K).map some) K:=hg.inn
  have hKl:K.length=X.length+1:=hg.2.2.2.2.2.1
  have hxm:X.length≤P.mx:=hg.2.2.2.2.1
  have hx255:=hP.hx
  have hKL:(K.map (Gt.L h)).length=X.length+1:=by rw [List.length_map];exact hKl
  have hol:((Gt.ps h K).map some).length=X.length+1:=by rw [List.length_map,Gt.ps,List.length_map];exact hKl
  replace hlen:acc.length+(Pl.inter X (K.map (Gt.L h))).length≤M:=hlen
  replace hs:Pl.Srt OI (Pl.inter X (K.map (Gt.L h))):=hs
  have hsX:Pl.Srt OI X:=hs.sublist (Pl.sublist_inter X _ (by omega))
  have hlt:∀x y,innc h gg K x y→x<H.size:=fun x y hb=>hI.lt hb
  obtain ⟨_,_,_,hkb⟩:=hI.cells
  have htl:tr<H.size:=cl_lt tc.iso
  have hc0:=hI.n.c0
  rw [hI.iso] at hc0
  have hin:∀H',Fr (fun x _=>Z x) H H'→Inn H' P h gg X ((Gt.ps h K).map some) K:=fun H' hf=>hI.fr hf (fun x y hxy hz=>hnz x y hxy hz)
  have htc:∀H',Fr (fun x _=>Z x) H H'→TrC H' tr P.iso P.mx P.mn:=fun H' hf=>tc.fr hf fun b o hb _ hz=>hntr b hz hb
  have hkid:∀{H2:Mem} {Z1:Nat→Prop} {A:List (Int×Int)} {j:Nat} {k:Gt EJ h},K[j]?=some k→Fr (fun x _=>Z x) H H2→(cbH cb hv hz).T A Z1 H2→(∀b,Z1 b→Z b∨H.size≤b)→A.length+(Gt.L h k).length≤M→VPre (cbH cb hv hz) H2 tr P h k gg.kb (gg.ko+j*1) A Z1:=by
   intro H2 Z1 A j k hkk hF hT hZ1 hA
   have hkK:k∈K:=List.mem_of_getElem? hkk
   have hI2:=hin H2 hF
   have hok:((Gt.ps h K).map some)[j]?=some (some (Gt.p h k)):=by rw [Gt.ps,List.map_map,List.getElem?_map,hkk];rfl
   exact ⟨htc H2 hF,(hI2.c.1 k hkK).1,hI2.k.at hok,fun b o hb hz=>(hZ1 b hz).elim (fun hz=>hnz b o (.inr (.inr ⟨k,hkK,hb⟩)) hz) (fun hz=>by have:=hlt b o (.inr (.inr ⟨k,hkK,hb⟩));omega),
    fun b hz hb=>(hZ1 b hz).elim (fun h=>hntr b h hb) (fun h=>by have:=tc.hb;omega),hT,hA⟩
  have hcat:∀{Z1 Z2:Nat→Prop} {H2 H3:Mem},Fr (fun x _=>Z x) H H2→(∀b,Z1 b→Z b∨H.size≤b)→Fr (fun x _=>Z1 x) H2 H3→(∀b,Z2 b→Z1 b∨H2.size≤b)→Fr (fun x _=>Z x) H H3∧∀b,Z2 b→Z b∨H.size≤b:=by
   intro Z1 Z2 H2 H3 hF hZ1 hF2 hZ2
   have:=hF.size
   exact ⟨hF.trans' hF2 (fun _ _ _ h=>h) (fun b o hb hz=>(hZ1 b hz).elim id (fun h=>by omega)),fun b hb=>(hZ2 b hb).elim (hZ1 b) (fun h=>.inr (by omega))⟩
  have hple:=Pl.pos_le OI x X
  have hfle:(Pl.up OI x (Pl.inter X (K.map (Gt.L h)))).length≤(Pl.inter X (K.map (Gt.L h))).length:=by exact Pl.up_le OI x _
  have hkz:¬Z gg.kb:=fun e=>hnz gg.kb gg.ko (.inr (.inl (show kcl gg gg.kb gg.ko from .inr ⟨rfl,Nat.le_refl _,by have:=hI.k.kc;omega⟩))) e
  show Go' _ _ _ (fun r H'=>r=.bool (takes go acc (Pl.up OI x (Pl.inter X (K.map (Gt.L h))))).2∧CbPost (cbH cb hv hz) acc Z H (Pl.up OI x (Pl.inter X (K.map (Gt.L h)))) H') _ _ _ _
  cases hfd:Pl.fnd OI x X
  ·
   obtain ⟨k0,hkk0⟩:∃k,K[Pl.pos OI x X]?=some k:=⟨K[Pl.pos OI x X],List.getElem?_eq_getElem (by omega)⟩
   have hkL0:(K.map (Gt.L h))[Pl.pos OI x X]?=some (Gt.L h k0):=by rw [List.getElem?_map,hkk0];rfl
   have hW:=(Pl.dn_child OI hs hKL hfd hkL0).2
   have hsk:=Pl.child_srt OI hs hKL hfd hkL0
   have hlk:(Gt.L h k0).length≤(Pl.inter X (K.map (Gt.L h))).length:=by
    rw [(Pl.inter_child OI hs hKL hfd hkL0).1,List.length_append,List.length_append];omega
   generalize hpi:Pl.pos OI x X=i at*
   generalize hFULL:Pl.up OI x (Pl.inter X (K.map (Gt.L h)))=FULL at*
   refine Ur 2 0 rfl (Uf 2 [0,3,4,5,6,9,14,15,16,32] rfl (Go'.condT rfl (Ut 1 rfl (Ur 3 8 rfl (Uq 1 rfl (O.callQ rfl rfl rfl call133 rfl (leaf_spec hI.n.c3) trivial (Uf 1 [0,3,4,5,6,9,14,15,16,35] rfl (Go'.condT rfl (Ut 1 rfl (Ud 17 2147750144 (by kernel_rfl) (Ul 4 rfl hI.n.c3 ?_)))))))))))
   refine Ul 1 rfl hI.k.c (Ux 1 i rfl (by omega) (by omega) (Us 0 rfl mi rfl (Ua 2 (((dp+1:Nat):Int)) rfl (by omega) (Uq 2 rfl (O.call rfl rfl rfl call190 rfl (ih (dp:=dp+1) (hkid hkk0 (Fr.refl _ _) hst (fun b hb=>.inl hb) (by omega)) hsk (Nat.le_trans hP.h1 (hI.c.1 k0 (List.mem_of_getElem? hkk0)).2.1) hkz (by omega)) ?_)))))
   rintro _ H2 ⟨rfl,Z2,hT2,hF2,hZ2⟩
   refine ⟨trivial,?_⟩
   refine Uf 1 [0,5,6,14,15,16,52] rfl ?_
   cases htk0:(takes go acc (Pl.up OI x (Gt.L h k0))).2
   ·
    refine Go'.condT rfl (Ut 1 rfl (Ur 1 0 rfl (Uf 1 [0,5,6,14,15,16] rfl (Go'.ret (vs:=[_]) func190 results190 ⟨rfl,trivial⟩ ?_))))
    have e2:=takes_halt (r:=Pl.post (X.drop (i)) ((K.map (Gt.L h)).drop (i+1))) htk0
    rw [←hW] at e2
    unfold CbPost
    rw [e2]
    exact ⟨by rw [htk0];rfl,Z2,hT2,hF2,hZ2⟩
   ·
    refine Go'.condF rfl (Ut 3 rfl ?_)
    have e2:=takes_rest (r:=Pl.post (X.drop (i)) ((K.map (Gt.L h)).drop (i+1))) htk0
    rw [←hW] at e2
    have htl:=takes_length go (Pl.up OI x (Gt.L h k0)) acc
    rw [hW,List.length_append] at hfle
    generalize (takes go acc (Pl.up OI x (Gt.L h k0))).1=A0 at*
    refine Go'.loop (Uk [0,5,6,15,16] rfl ?_)
    refine Go'.ind (σ:=Nat×Int×(Nat→Prop)×List (Int×Int)) (fun s=>X.length-s.1) (fun s H'=>s.1≤X.length∧s.2.1=(s.1:Int)∧takes go acc FULL=takes go s.2.2.2 (Pl.post (X.drop (s.1)) ((K.map (Gt.L h)).drop (s.1+1)))∧(cbH cb hv hz).T s.2.2.2 s.2.2.1 H'∧Fr (fun b _=>Z b) H H'∧(∀b,s.2.2.1 b→Z b∨H.size≤b)∧s.2.2.2.length+(Pl.post (X.drop (s.1)) ((K.map (Gt.L h)).drop (s.1+1))).length≤M)
     (fun s=>[(0,.pointer (some ⟨tr,0,none⟩)),(5,.func (.func g) us.toArray cs.toArray),(6,.bool mt),(15,.pointer (some ⟨gg.p,0,none⟩)),(16,.int .i64 s.2.1)]) (i,(i:Int),Z2,A0) ⟨by (try simp only)<;>omega,by (try simp only)<;>omega,e2,hT2,hF2,hZ2,by (try simp only)<;>omega⟩ rfl ?_
    rintro ⟨j,z,Z1,A⟩ H3 ⟨hj,hz,ht,hT,hF,hZ1,hAM⟩ ih2
    simp only at hj hz ht hT hZ1 hAM
    subst hz
    have hI3:=hin H3 hF
    refine Ut 2 rfl ?_
    by_cases hlt2:j<X.length
    ·
     obtain ⟨y,hy⟩:∃y,X[j]?=some y:=⟨X[j],List.getElem?_eq_getElem (by omega)⟩
     obtain ⟨k,hkk⟩:∃k,K[j+1]?=some k:=⟨K[j+1],List.getElem?_eq_getElem (by omega)⟩
     have hkL:(K.map (Gt.L h))[j+1]?=some (Gt.L h k):=by rw [List.getElem?_map,hkk];rfl
     rw [Pl.post_succ hy hkL] at ht hAM
     rw [List.length_cons,List.length_append] at hAM
     refine (show Go' _ _ _ _ _ [(0,.pointer (some ⟨tr,0,none⟩)),(5,.func (.func g) us.toArray cs.toArray),(6,.bool mt),(15,.pointer (some ⟨gg.p,0,none⟩)),(16,.int .i64 ((j:Int)))] _ _ from ?_)
     refine Ur 7 256 rfl (Ul 4 rfl hI3.n.c2 (Uc 1 rfl (lssT (by omega)) (Uf 0 [0,5,6,15,16,59] rfl (Go'.condT rfl (Ut 5 rfl ?_)))))
     cases hgo:go (A++[y])
     ·
      refine Ur 10 147712 rfl (Ul 4 rfl hI3.n.c2 (Ux 1 j rfl (by omega) (by omega) (Us 0 rfl (hI3.n.sl.item hy) rfl (O.callC rfl rfl rfl rfl hcall rfl ((cbH cb hv hz).call y hT (by omega)) ?_))))
      rintro _ H4 ⟨rfl,Z4,hT4,hF4,hZ4⟩
      rw [hgo]
      obtain ⟨hF5,hZ5⟩:=hcat hF hZ1 hF4 hZ4
      refine ⟨trivial,?_⟩
      refine Uf 1 [0,5,6,15,16,59,71] rfl (Go'.condT rfl (Ut 1 rfl (Ur 1 0 rfl (Uf 1 [0,5,6,14,15,16,59,71] rfl (Go'.ret (vs:=[_]) func190 results190 ⟨rfl,trivial⟩ ?_)))))
      rw [takes_cons,hgo] at ht
      unfold CbPost
      rw [ht]
      exact ⟨rfl,Z4,hT4,hF5,hZ5⟩
     ·
      refine Ur 10 147712 rfl (Ul 4 rfl hI3.n.c2 (Ux 1 j rfl (by omega) (by omega) (Us 0 rfl (hI3.n.sl.item hy) rfl (O.callC rfl rfl rfl rfl hcall rfl ((cbH cb hv hz).call y hT (by omega)) ?_))))
      rintro _ H4 ⟨rfl,Z4,hT4,hF4,hZ4⟩
      rw [hgo]
      obtain ⟨hF5,hZ5⟩:=hcat hF hZ1 hF4 hZ4
      refine ⟨trivial,?_⟩
      refine Uf 1 [0,5,6,15,16,59,71] rfl ?_
      rw [takes_cons,hgo,if_pos rfl] at ht
      refine Go'.condF rfl (Ut 2 rfl ?_)
      have hI4:=hin H4 hF5
      have hAy:(A++[y]).length=A.length+1:=by simp
      refine Ur 3 8 rfl (Uq 1 rfl (O.callQ rfl rfl rfl call133 rfl (leaf_spec hI4.n.c3) trivial (Uf 1 [0,5,6,15,16,59,71,74] rfl (Go'.condT rfl (Ut 1 rfl (Ur 14 33558784 rfl (Ul 4 rfl hI4.n.c3 (Ul 1 rfl hI4.k.c (Ua 1 (((j+1:Nat):Int)) rfl (by omega) (Ux 0 (j+1) rfl (by omega) (by omega) (Uq 2 rfl ?_)))))))))))
      refine O.call rfl rfl rfl call188 rfl (nscan (cbH cb hv hz) hcall hP mt h (hkid hkk hF5 hT4 hZ5 (by omega))) ?_
      rintro _ H6 ⟨rfl,Z6,hT6,hF6,hZ6⟩
      obtain ⟨hF7,hZ7⟩:=hcat hF5 hZ5 hF6 hZ6
      refine ⟨trivial,?_⟩
      refine Uf 1 [0,5,6,15,16,59,71,74,88] rfl ?_
      cases htk2:(takes go (A++[y]) (Gt.L h k)).2
      ·
       refine Go'.condT rfl (Ut 1 rfl (Ur 1 0 rfl (Uf 1 [0,5,6,14,15,16,59,71,74,88] rfl (Go'.ret (vs:=[_]) func190 results190 ⟨rfl,trivial⟩ ?_))))
       rw [takes_halt htk2] at ht
       unfold CbPost
       rw [ht]
       exact ⟨by rw [htk2];rfl,Z6,hT6,hF7,hZ7⟩
      ·
       refine Go'.condF rfl (Ut 2 rfl ?_)
       have htl:=takes_length go (Gt.L h k) (A++[y])
       refine Ur 3 0 rfl (Ua 1 (((j+1:Nat):Int)) rfl (by omega) (Uf 1 [0,5,6,15,16,59,71,74,88] rfl (Uk [0,5,6,15,16] rfl (Go'.inLoop ?_))))
       rw [takes_rest htk2] at ht
       generalize (takes go (A++[y]) (Gt.L h k)).1=A6 at*
       exact ih2 (j+1,_,Z6,A6) H6 ⟨by (try simp only)<;>omega,rfl,ht,hT6,hF7,hZ7,by (try simp only)<;>omega⟩ (by (try simp only)<;>omega)
    ·
     refine (show Go' _ _ _ _ _ [(0,.pointer (some ⟨tr,0,none⟩)),(5,.func (.func g) us.toArray cs.toArray),(6,.bool mt),(15,.pointer (some ⟨gg.p,0,none⟩)),(16,.int .i64 ((j:Int)))] _ _ from ?_)
     refine Ur 7 256 rfl (Ul 4 rfl hI3.n.c2 (Uc 1 rfl (lssF (by omega)) (Uf 0 [0,5,6,15,16,59] rfl ?_)))
     rw [List.drop_of_length_le (show X.length≤j by omega)] at ht
     refine Go'.condF rfl (Ut 2 rfl (Ur 1 0 rfl (Uf 1 [14] rfl (Go'.ret (vs:=[_]) func190 results190 ⟨rfl,trivial⟩ ?_))))
     replace ht:takes go acc FULL=(A,true):=ht
     unfold CbPost
     rw [ht]
     exact ⟨rfl,Z1,hT,hF,hZ1⟩
  ·
   have hW:=(Pl.dn_found OI hs hKL hfd).2
   have hlt1:=Pl.fnd_pos_lt OI hfd
   generalize hpi:Pl.pos OI x X=i at*
   generalize hFULL:Pl.up OI x (Pl.inter X (K.map (Gt.L h)))=FULL at*
   refine Ur 2 0 rfl (Uf 2 [0,3,4,5,6,9,14,15,16,32] rfl (Go'.condF rfl (Ut 3 rfl (Go'.loop (Uk [0,5,6,15,16] rfl ?_)))))
   refine Go'.ind (σ:=Nat×Int×(Nat→Prop)×List (Int×Int)) (fun s=>X.length-s.1) (fun s H'=>s.1≤X.length∧s.2.1=(s.1:Int)∧takes go acc FULL=takes go s.2.2.2 (Pl.post (X.drop (s.1)) ((K.map (Gt.L h)).drop (s.1+1)))∧(cbH cb hv hz).T s.2.2.2 s.2.2.1 H'∧Fr (fun b _=>Z b) H H'∧(∀b,s.2.2.1 b→Z b∨H.size≤b)∧s.2.2.2.length+(Pl.post (X.drop (s.1)) ((K.map (Gt.L h)).drop (s.1+1))).length≤M)
    (fun s=>[(0,.pointer (some ⟨tr,0,none⟩)),(5,.func (.func g) us.toArray cs.toArray),(6,.bool mt),(15,.pointer (some ⟨gg.p,0,none⟩)),(16,.int .i64 s.2.1)]) (i,(i:Int),Z,acc) ⟨by (try simp only)<;>omega,by (try simp only)<;>omega,by rw [hW],hst,(Fr.refl _ _),fun b hb=>.inl hb,by rw [hW] at hfle;simp only;omega⟩ rfl ?_
   rintro ⟨j,z,Z1,A⟩ H3 ⟨hj,hz,ht,hT,hF,hZ1,hAM⟩ ih2
   simp only at hj hz ht hT hZ1 hAM
   subst hz
   have hI3:=hin H3 hF
   refine Ut 2 rfl ?_
   by_cases hlt2:j<X.length
   ·
    obtain ⟨y,hy⟩:∃y,X[j]?=some y:=⟨X[j],List.getElem?_eq_getElem (by omega)⟩
    obtain ⟨k,hkk⟩:∃k,K[j+1]?=some k:=⟨K[j+1],List.getElem?_eq_getElem (by omega)⟩
    have hkL:(K.map (Gt.L h))[j+1]?=some (Gt.L h k):=by rw [List.getElem?_map,hkk];rfl
    rw [Pl.post_succ hy hkL] at ht hAM
    rw [List.length_cons,List.length_append] at hAM
    refine (show Go' _ _ _ _ _ [(0,.pointer (some ⟨tr,0,none⟩)),(5,.func (.func g) us.toArray cs.toArray),(6,.bool mt),(15,.pointer (some ⟨gg.p,0,none⟩)),(16,.int .i64 ((j:Int)))] _ _ from ?_)
    refine Ur 7 256 rfl (Ul 4 rfl hI3.n.c2 (Uc 1 rfl (lssT (by omega)) (Uf 0 [0,5,6,15,16,59] rfl (Go'.condT rfl (Ut 5 rfl ?_)))))
    cases hgo:go (A++[y])
    ·
     refine Ur 10 147712 rfl (Ul 4 rfl hI3.n.c2 (Ux 1 j rfl (by omega) (by omega) (Us 0 rfl (hI3.n.sl.item hy) rfl (O.callC rfl rfl rfl rfl hcall rfl ((cbH cb hv hz).call y hT (by omega)) ?_))))
     rintro _ H4 ⟨rfl,Z4,hT4,hF4,hZ4⟩
     rw [hgo]
     obtain ⟨hF5,hZ5⟩:=hcat hF hZ1 hF4 hZ4
     refine ⟨trivial,?_⟩
     refine Uf 1 [0,5,6,15,16,59,71] rfl (Go'.condT rfl (Ut 1 rfl (Ur 1 0 rfl (Uf 1 [0,5,6,14,15,16,59,71] rfl (Go'.ret (vs:=[_]) func190 results190 ⟨rfl,trivial⟩ ?_)))))
     rw [takes_cons,hgo] at ht
     unfold CbPost
     rw [ht]
     exact ⟨rfl,Z4,hT4,hF5,hZ5⟩
    ·
     refine Ur 10 147712 rfl (Ul 4 rfl hI3.n.c2 (Ux 1 j rfl (by omega) (by omega) (Us 0 rfl (hI3.n.sl.item hy) rfl (O.callC rfl rfl rfl rfl hcall rfl ((cbH cb hv hz).call y hT (by omega)) ?_))))
     rintro _ H4 ⟨rfl,Z4,hT4,hF4,hZ4⟩
     rw [hgo]
     obtain ⟨hF5,hZ5⟩:=hcat hF hZ1 hF4 hZ4
     refine ⟨trivial,?_⟩
     refine Uf 1 [0,5,6,15,16,59,71] rfl ?_
     rw [takes_cons,hgo,if_pos rfl] at ht
     refine Go'.condF rfl (Ut 2 rfl ?_)
     have hI4:=hin H4 hF5
     have hAy:(A++[y]).length=A.length+1:=by simp
     refine Ur 3 8 rfl (Uq 1 rfl (O.callQ rfl rfl rfl call133 rfl (leaf_spec hI4.n.c3) trivial (Uf 1 [0,5,6,15,16,59,71,74] rfl (Go'.condT rfl (Ut 1 rfl (Ur 14 33558784 rfl (Ul 4 rfl hI4.n.c3 (Ul 1 rfl hI4.k.c (Ua 1 (((j+1:Nat):Int)) rfl (by omega) (Ux 0 (j+1) rfl (by omega) (by omega) (Uq 2 rfl ?_)))))))))))
     refine O.call rfl rfl rfl call188 rfl (nscan (cbH cb hv hz) hcall hP mt h (hkid hkk hF5 hT4 hZ5 (by omega))) ?_
     rintro _ H6 ⟨rfl,Z6,hT6,hF6,hZ6⟩
     obtain ⟨hF7,hZ7⟩:=hcat hF5 hZ5 hF6 hZ6
     refine ⟨trivial,?_⟩
     refine Uf 1 [0,5,6,15,16,59,71,74,88] rfl ?_
     cases htk2:(takes go (A++[y]) (Gt.L h k)).2
     ·
      refine Go'.condT rfl (Ut 1 rfl (Ur 1 0 rfl (Uf 1 [0,5,6,14,15,16,59,71,74,88] rfl (Go'.ret (vs:=[_]) func190 results190 ⟨rfl,trivial⟩ ?_))))
      rw [takes_halt htk2] at ht
      unfold CbPost
      rw [ht]
      exact ⟨by rw [htk2];rfl,Z6,hT6,hF7,hZ7⟩
     ·
      refine Go'.condF rfl (Ut 2 rfl ?_)
      have htl:=takes_length go (Gt.L h k) (A++[y])
      refine Ur 3 0 rfl (Ua 1 (((j+1:Nat):Int)) rfl (by omega) (Uf 1 [0,5,6,15,16,59,71,74,88] rfl (Uk [0,5,6,15,16] rfl (Go'.inLoop ?_))))
      rw [takes_rest htk2] at ht
      generalize (takes go (A++[y]) (Gt.L h k)).1=A6 at*
      exact ih2 (j+1,_,Z6,A6) H6 ⟨by (try simp only)<;>omega,rfl,ht,hT6,hF7,hZ7,by (try simp only)<;>omega⟩ (by (try simp only)<;>omega)
   ·
    refine (show Go' _ _ _ _ _ [(0,.pointer (some ⟨tr,0,none⟩)),(5,.func (.func g) us.toArray cs.toArray),(6,.bool mt),(15,.pointer (some ⟨gg.p,0,none⟩)),(16,.int .i64 ((j:Int)))] _ _ from ?_)
    refine Ur 7 256 rfl (Ul 4 rfl hI3.n.c2 (Uc 1 rfl (lssF (by omega)) (Uf 0 [0,5,6,15,16,59] rfl ?_)))
    rw [List.drop_of_length_le (show X.length≤j by omega)] at ht
    refine Go'.condF rfl (Ut 2 rfl (Ur 1 0 rfl (Uf 1 [14] rfl (Go'.ret (vs:=[_]) func190 results190 ⟨rfl,trivial⟩ ?_))))
    replace ht:takes go acc FULL=(A,true):=ht
    unfold CbPost
    rw [ht]
    exact ⟨rfl,Z1,hT,hF,hZ1⟩
end
end Go.Bt.FG
namespace Go.Bt.FG
open Go Go.Proofs Go.Proofs.Try
set_option maxRecDepth 20000
set_option maxHeartbeats 4000000
set_option linter.unusedSectionVars false
section
variable [Inhabited Cx]
theorem descend_spec {B:World} {g:FuncId} {us cs:List Value} {go:List (Int×Int)→Bool} {M:Nat} (cb:Cb Try.prog B encIt g us cs go M) (hcall:∀(args:Array Value) (w:World),(callFunc g args).run Try.prog w=.ok (.enter g args) w) {tr:Nat} {P:Ps} (hP:PsOk P) (mt:Bool) (x:Int×Int) {H:Mem} {S:Nat→Prop} {l:List (Int×Int)} {Z:Nat→Prop} (hM:MapM H tr P S l) (hT:cb.T [] Z H) (hd:∀b,S b→¬Z b) (hnb:∀b,Z b→¬(b<cx.base∧cx.own b)) (hl:l.length≤M) (hM6:M≤4294967296) {hv:Value} {hz:Nat→Prop} (hk:HintOk H hv hz) (hzS:∀b,hz b→¬S b) (hzZ:∀b,Z b→¬hz b):
  Fn Try.prog B 155 [.pointer (some ⟨tr,0,none⟩),.agg (EJ.enc x).toArray,.func (.func g) us.toArray cs.toArray,.bool mt,hv] H (fun _ H'=>∃Z',cb.T (takes go [] ((Pl.dn OI x (l)).reverse)).1 Z' H'∧Fr (fun b _=>Z b∨hz b) H H'∧∀b,Z' b→Z b∨H.size≤b):=by
 have hzb:=hk.base
 have hTl:∀b,Z b→b<H.size:=fun b hb=>cb.lt hT hb
 refine fn_of func155 rfl ntmps155 ?_
 refine (show Go' _ _ _ _ 29 [(0,_),(1,_),(2,_),(3,_),(4,_)] [.code _] _ from ?_)
 refine Ut 1 rfl (Ur 1 2 rfl (O.box rfl rfl rfl rfl ?_))
 intro H0 M0
 refine ⟨trivial,?_⟩
 have hs0:=M0.size
 have hf0:=M0.fr nowhere
 have mi:Rd H0 H.size 0 (EJ.enc x):=M0.rd _ [] (by simp [Value.cells])
 replace hM:=hM.fr hf0 (fun _ _ _=>nw)
 replace hT:=cb.fr hT hf0 (fun _ _ _=>nw)
 replace hk:=hk.fr hf0 (fun _ _ _=>nw)
 obtain ⟨tc,srt,cnt,own,lt,bs,hr⟩:=hM
 refine Uf 0 [0,2,3,4,6] rfl (Ut 2 rfl (Ur 3 32 rfl (Uq 2 rfl (O.callQ rfl rfl rfl call128 rfl lock_spec trivial (Uf 0 [0,2,3,4,6,12] rfl (Go'.condF rfl (Ut 3 rfl ?_)))))))
 rcases hr with ⟨rfl,hptr⟩|⟨h,t,hg,hx1,e,hc,hnt,hown⟩
 ·
  refine Ur 5 64 rfl (Ul 3 rfl hptr (O.isNil rfl rfl rfl rfl underlying129 rfl rfl (Uf 0 [0,2,3,4,6,19] rfl (Go'.condT rfl (Go'.ret func155 results155 (vs:=[]) trivial ?_)))))
  exact ⟨Z,hT,hf0.mono (fun _ _ _ h=>h.elim),fun b hb=>.inl hb⟩
 ·
  have hptr:cl H0 tr 2=some (.pointer (some ⟨Gt.p h t,0,none⟩)):=hc
  have hht:=Gt.Good.tall hP hg hx1
  refine Ur 5 64 rfl (Ul 3 rfl hptr (O.isNil rfl rfl rfl rfl underlying129 rfl rfl (Uf 0 [0,2,3,4,6,19] rfl (Go'.condF rfl (Ut 1 rfl (Ud 9 131328 (by kernel_rfl) (Us 4 rfl mi rfl (Uq 3 rfl (O.call rfl rfl rfl call191 rfl (ndesc cb hcall hP mt x hv hz h (dp:=0) (Z:=fun b=>Z b∨hz b) ⟨tc,hg,hc,fun b o hb hz2=>hz2.elim (hd b (hown b o hb)) (fun h=>hzS b h (hown b o hb)),fun b hb=>hb.elim (hnb b) (fun h=>(hzb b h).1),⟨Z,hT,hk,fun _=>Iff.rfl,hzZ⟩,by rw [e];simpa using hl⟩ (by rw [e];exact srt) hx1 (fun h=>h.elim (hd _ own) (fun h=>hzS _ h own)) (by rw [e] at hht;omega)) ?_)))))))))
  rintro _ H2 ⟨rfl,Z2,⟨Z3,hT3,hk3,hZ3,hZd3⟩,hF2,hZ2⟩
  refine ⟨trivial,?_⟩
  refine Uf 0 [] rfl (Go'.fall func155 results155 (vs:=[]) trivial ?_)
  rw [e] at hT3
  exact ⟨Z3,hT3,hf0.trans' hF2 (fun _ _ _ h=>h.elim) (fun _ _ _ h=>h),fun b hb=>(hZ2 b ((hZ3 b).2 (.inl hb))).elim (fun h=>h.elim .inl (fun h=>absurd h (hZd3 b hb))) (fun h=>.inr (by omega))⟩
theorem Descend_spec {B:World} {g:FuncId} {us cs:List Value} {go:List (Int×Int)→Bool} {M:Nat} (cb:Cb Try.prog B encIt g us cs go M) (hcall:∀(args:Array Value) (w:World),(callFunc g args).run Try.prog w=.ok (.enter g args) w) {tr:Nat} {P:Ps} (hP:PsOk P) (x:Int×Int) {H:Mem} {S:Nat→Prop} {l:List (Int×Int)} {Z:Nat→Prop} (hM:MapM H tr P S l) (hT:cb.T [] Z H) (hd:∀b,S b→¬Z b) (hnb:∀b,Z b→¬(b<cx.base∧cx.own b)) (hl:l.length≤M) (hM6:M≤4294967296):
  Fn Try.prog B 110 [.pointer (some ⟨tr,0,none⟩),.agg (EJ.enc x).toArray,.func (.func g) us.toArray cs.toArray] H (fun _ H'=>∃Z',cb.T (takes go [] ((Pl.dn OI x (l)).reverse)).1 Z' H'∧Fr (fun b _=>Z b) H H'∧∀b,Z' b→Z b∨H.size≤b):=by
 refine fn_of func110 rfl ntmps110 ?_
 refine (show Go' _ _ _ _ 10 [(0,_),(1,_),(2,_)] [.code _] _ from ?_)
 refine Ut 1 rfl (Ur 1 2 rfl (O.box rfl rfl rfl rfl ?_))
 intro H0 M0
 refine ⟨trivial,?_⟩
 have hs0:=M0.size
 have hf0:=M0.fr nowhere
 have mi:Rd H0 H.size 0 (EJ.enc x):=M0.rd _ [] (by simp [Value.cells])
 replace hM:=hM.fr hf0 (fun _ _ _=>nw)
 replace hT:=cb.fr hT hf0 (fun _ _ _=>nw)
 refine Uf 0 [0,2,4] rfl (Ur 4 132 rfl (Us 1 rfl mi rfl (Uq 1 rfl (O.call rfl rfl rfl call155 rfl (descend_spec cb hcall hP false x hM hT hd hnb hl hM6 (hv:=.pointer none) (hz:=fun _=>False) (.inl ⟨rfl,fun _ h=>h⟩) (fun _ h=>h.elim) (fun _ _ h=>h)) ?_))))
 rintro _ H2 ⟨Z2,hT2,hF2,hZ2⟩
 refine ⟨trivial,?_⟩
 refine Uf 0 [] rfl (Go'.fall func110 results110 (vs:=[]) trivial ?_)
 exact ⟨Z2,hT2,hf0.trans' hF2 (fun _ _ _ h=>h.elim) (fun _ _ _ h=>h.elim id (fun h=>h.elim)),fun b hb=>(hZ2 b hb).imp id (fun h=>by omega)⟩
theorem DescendHint_spec {B:World} {g:FuncId} {us cs:List Value} {go:List (Int×Int)→Bool} {M:Nat} (cb:Cb Try.prog B encIt g us cs go M) (hcall:∀(args:Array Value) (w:World),(callFunc g args).run Try.prog w=.ok (.enter g args) w) {tr:Nat} {P:Ps} (hP:PsOk P) (x:Int×Int) {H:Mem} {S:Nat→Prop} {l:List (Int×Int)} {Z:Nat→Prop} (hM:MapM H tr P S l) (hT:cb.T [] Z H) (hd:∀b,S b→¬Z b) (hnb:∀b,Z b→¬(b<cx.base∧cx.own b)) (hl:l.length≤M) (hM6:M≤4294967296) {hv:Value} {hz:Nat→Prop} (hk:HintOk H hv hz) (hzS:∀b,hz b→¬S b) (hzZ:∀b,Z b→¬hz b):
  Fn Try.prog B 147 [.pointer (some ⟨tr,0,none⟩),.agg (EJ.enc x).toArray,.func (.func g) us.toArray cs.toArray,hv] H (fun _ H'=>∃Z',cb.T (takes go [] ((Pl.dn OI x (l)).reverse)).1 Z' H'∧Fr (fun b _=>Z b∨hz b) H H'∧∀b,Z' b→Z b∨H.size≤b):=by
 refine fn_of func147 rfl ntmps147 ?_
 refine (show Go' _ _ _ _ 13 [(0,_),(1,_),(2,_),(3,_)] [.code _] _ from ?_)
 refine Ut 1 rfl (Ur 1 2 rfl (O.box rfl rfl rfl rfl ?_))
 intro H0 M0
 refine ⟨trivial,?_⟩
 have hs0:=M0.size
 have hf0:=M0.fr nowhere
 have mi:Rd H0 H.size 0 (EJ.enc x):=M0.rd _ [] (by simp [Value.cells])
 replace hM:=hM.fr hf0 (fun _ _ _=>nw)
 replace hT:=cb.fr hT hf0 (fun _ _ _=>nw)
 replace hk:=hk.fr hf0 (fun _ _ _=>nw)
 refine Uf 0 [0,2,3,5] rfl (Ur 5 516 rfl (Us 1 rfl mi rfl (Uq 2 rfl (O.call rfl rfl rfl call155 rfl (descend_spec cb hcall hP false x hM hT hd hnb hl hM6 hk hzS hzZ) ?_))))
 rintro _ H2 ⟨Z2,hT2,hF2,hZ2⟩
 refine ⟨trivial,?_⟩
 refine Uf 0 [] rfl (Go'.fall func147 results147 (vs:=[]) trivial ?_)
 exact ⟨Z2,hT2,hf0.trans' hF2 (fun _ _ _ h=>h.elim) (fun _ _ _ h=>h),fun b hb=>(hZ2 b hb).imp id (fun h=>by omega)⟩
theorem ascend_spec {B:World} {g:FuncId} {us cs:List Value} {go:List (Int×Int)→Bool} {M:Nat} (cb:Cb Try.prog B encIt g us cs go M) (hcall:∀(args:Array Value) (w:World),(callFunc g args).run Try.prog w=.ok (.enter g args) w) {tr:Nat} {P:Ps} (hP:PsOk P) (mt:Bool) (x:Int×Int) {H:Mem} {S:Nat→Prop} {l:List (Int×Int)} {Z:Nat→Prop} (hM:MapM H tr P S l) (hT:cb.T [] Z H) (hd:∀b,S b→¬Z b) (hnb:∀b,Z b→¬(b<cx.base∧cx.own b)) (hl:l.length≤M) (hM6:M≤4294967296) {hv:Value} {hz:Nat→Prop} (hk:HintOk H hv hz) (hzS:∀b,hz b→¬S b) (hzZ:∀b,Z b→¬hz b):
  Fn Try.prog B 154 [.pointer (some ⟨tr,0,none⟩),.agg (EJ.enc x).toArray,.func (.func g) us.toArray cs.toArray,.bool mt,hv] H (fun _ H'=>∃Z',cb.T (takes go [] (Pl.up OI x (l))).1 Z' H'∧Fr (fun b _=>Z b∨hz b) H H'∧∀b,Z' b→Z b∨H.size≤b):=by
 have hzb:=hk.base
 have hTl:∀b,Z b→b<H.size:=fun b hb=>cb.lt hT hb
 refine fn_of func154 rfl ntmps154 ?_
 refine (show Go' _ _ _ _ 29 [(0,_),(1,_),(2,_),(3,_),(4,_)] [.code _] _ from ?_)
 refine Ut 1 rfl (Ur 1 2 rfl (O.box rfl rfl rfl rfl ?_))
 intro H0 M0
 refine ⟨trivial,?_⟩
 have hs0:=M0.size
 have hf0:=M0.fr nowhere
 have mi:Rd H0 H.size 0 (EJ.enc x):=M0.rd _ [] (by simp [Value.cells])
 replace hM:=hM.fr hf0 (fun _ _ _=>nw)
 replace hT:=cb.fr hT hf0 (fun _ _ _=>nw)
 replace hk:=hk.fr hf0 (fun _ _ _=>nw)
 obtain ⟨tc,srt,cnt,own,lt,bs,hr⟩:=hM
 refine Uf 0 [0,2,3,4,6] rfl (Ut 2 rfl (Ur 3 32 rfl (Uq 2 rfl (O.callQ rfl rfl rfl call128 rfl lock_spec trivial (Uf 0 [0,2,3,4,6,12] rfl (Go'.condF rfl (Ut 3 rfl ?_)))))))
 rcases hr with ⟨rfl,hptr⟩|⟨h,t,hg,hx1,e,hc,hnt,hown⟩
 ·
  refine Ur 5 64 rfl (Ul 3 rfl hptr (O.isNil rfl rfl rfl rfl underlying129 rfl rfl (Uf 0 [0,2,3,4,6,19] rfl (Go'.condT rfl (Go'.ret func154 results154 (vs:=[]) trivial ?_)))))
  exact ⟨Z,hT,hf0.mono (fun _ _ _ h=>h.elim),fun b hb=>.inl hb⟩
 ·
  have hptr:cl H0 tr 2=some (.pointer (some ⟨Gt.p h t,0,none⟩)):=hc
  have hht:=Gt.Good.tall hP hg hx1
  refine Ur 5 64 rfl (Ul 3 rfl hptr (O.isNil rfl rfl rfl rfl underlying129 rfl rfl (Uf 0 [0,2,3,4,6,19] rfl (Go'.condF rfl (Ut 1 rfl (Ud 9 131328 (by kernel_rfl) (Us 4 rfl mi rfl (Uq 3 rfl (O.call rfl rfl rfl call190 rfl (nasc cb hcall hP mt x hv hz h (dp:=0) (Z:=fun b=>Z b∨hz b) ⟨tc,hg,hc,fun b o hb hz2=>hz2.elim (hd b (hown b o hb)) (fun h=>hzS b h (hown b o hb)),fun b hb=>hb.elim (hnb b) (fun h=>(hzb b h).1),⟨Z,hT,hk,fun _=>Iff.rfl,hzZ⟩,by rw [e];simpa using hl⟩ (by rw [e];exact srt) hx1 (fun h=>h.elim (hd _ own) (fun h=>hzS _ h own)) (by rw [e] at hht;omega)) ?_)))))))))
  rintro _ H2 ⟨rfl,Z2,⟨Z3,hT3,hk3,hZ3,hZd3⟩,hF2,hZ2⟩
  refine ⟨trivial,?_⟩
  refine Uf 0 [] rfl (Go'.fall func154 results154 (vs:=[]) trivial ?_)
  rw [e] at hT3
  exact ⟨Z3,hT3,hf0.trans' hF2 (fun _ _ _ h=>h.elim) (fun _ _ _ h=>h),fun b hb=>(hZ2 b ((hZ3 b).2 (.inl hb))).elim (fun h=>h.elim .inl (fun h=>absurd h (hZd3 b hb))) (fun h=>.inr (by omega))⟩
theorem Ascend_spec {B:World} {g:FuncId} {us cs:List Value} {go:List (Int×Int)→Bool} {M:Nat} (cb:Cb Try.prog B encIt g us cs go M) (hcall:∀(args:Array Value) (w:World),(callFunc g args).run Try.prog w=.ok (.enter g args) w) {tr:Nat} {P:Ps} (hP:PsOk P) (x:Int×Int) {H:Mem} {S:Nat→Prop} {l:List (Int×Int)} {Z:Nat→Prop} (hM:MapM H tr P S l) (hT:cb.T [] Z H) (hd:∀b,S b→¬Z b) (hnb:∀b,Z b→¬(b<cx.base∧cx.own b)) (hl:l.length≤M) (hM6:M≤4294967296):
  Fn Try.prog B 109 [.pointer (some ⟨tr,0,none⟩),.agg (EJ.enc x).toArray,.func (.func g) us.toArray cs.toArray] H (fun _ H'=>∃Z',cb.T (takes go [] (Pl.up OI x (l))).1 Z' H'∧Fr (fun b _=>Z b) H H'∧∀b,Z' b→Z b∨H.size≤b):=by
 refine fn_of func109 rfl ntmps109 ?_
 refine (show Go' _ _ _ _ 10 [(0,_),(1,_),(2,_)] [.code _] _ from ?_)
 refine Ut 1 rfl (Ur 1 2 rfl (O.box rfl rfl rfl rfl ?_))
 intro H0 M0
 refine ⟨trivial,?_⟩
 have hs0:=M0.size
 have hf0:=M0.fr nowhere
 have mi:Rd H0 H.size 0 (EJ.enc x):=M0.rd _ [] (by simp [Value.cells])
 replace hM:=hM.fr hf0 (fun _ _ _=>nw)
 replace hT:=cb.fr hT hf0 (fun _ _ _=>nw)
 refine Uf 0 [0,2,4] rfl (Ur 4 132 rfl (Us 1 rfl mi rfl (Uq 1 rfl (O.call rfl rfl rfl call154 rfl (ascend_spec cb hcall hP false x hM hT hd hnb hl hM6 (hv:=.pointer none) (hz:=fun _=>False) (.inl ⟨rfl,fun _ h=>h⟩) (fun _ h=>h.elim) (fun _ _ h=>h)) ?_))))
 rintro _ H2 ⟨Z2,hT2,hF2,hZ2⟩
 refine ⟨trivial,?_⟩
 refine Uf 0 [] rfl (Go'.fall func109 results109 (vs:=[]) trivial ?_)
 exact ⟨Z2,hT2,hf0.trans' hF2 (fun _ _ _ h=>h.elim) (fun _ _ _ h=>h.elim id (fun h=>h.elim)),fun b hb=>(hZ2 b hb).imp id (fun h=>by omega)⟩
end
end Go.Bt.FG
namespace Go.Bt.FG
open Go Go.Proofs Go.Proofs.Try
set_option maxRecDepth 20000
set_option maxHeartbeats 4000000
set_option linter.unusedSectionVars false
theorem firstN_len {α:Type} (l:List α) (n:Int):(firstN l n).length≤l.length:=by
 unfold firstN;split
 · exact Nat.le_refl _
 · rw [List.length_take];omega
theorem turned_spec {B:World} {H:Mem} {u:Value} {l:List (Int×Int)} (hi:InS EJ H u l) (hll:l.length≤4294967296):
  Fn Try.prog B 145 [u] H (fun r H'=>OutS EJ H' r l.reverse∧Fr nowhere H H'):=by
 obtain ⟨a,c,hu⟩:=hi.len
 subst hu
 refine fn_of func145 rfl ntmps145 ?_
 refine (show Go' _ _ _ _ 20 [(0,_)] [.code _] _ from ?_)
 refine Ut 1 rfl (Ur 1 0 rfl (Uf 1 [0,2] rfl (Ut 1 rfl (Ur 1 0 rfl (Uf 1 [0,2,3] rfl (Ut 2 rfl (Ur 4 0 rfl (Ub 2 (((l.length:Nat):Int)-1) rfl (by omega) (Uf 1 [0,2,3,4] rfl (Ut 1 rfl (Go'.loop ?_)))))))))))
 refine Uk [0,3,4] rfl ?_
 refine Go'.ind (σ:=Nat×Value) (fun s=>s.1) (fun s H'=>Fr nowhere H H'∧s.1≤l.length∧OutS EJ H' s.2 (l.drop s.1).reverse∧(s.2=.slice none 0 0∧s.1=l.length∨∃b o c,s.2=.slice (some ⟨b,o,none⟩) (l.length-s.1) c∧H.size≤b∧Sl H' b o (l.length-s.1) c 2 (row EJ (l.drop s.1).reverse)))
  (fun s=>[(0,.slice a l.length c),(3,s.2),(4,.int .i64 ((s.1:Int)-1))]) (l.length,.slice none 0 0) ⟨Fr.refl _ _,Nat.le_refl _,.inl ⟨rfl,by simp⟩,.inl ⟨rfl,rfl⟩⟩ rfl ?_
 rintro ⟨j,sv⟩ H2 ⟨hF,hjl,hsv,hcase⟩ ih
 simp only at hjl hsv hcase
 have hi2:=hi.fr hF
 refine Ut 2 rfl ?_
 rcases j with _|j
 ·
  refine Ur 2 0 rfl (Uc 1 rfl (geqF (by show ((0:Nat):Int)-1<0;omega)) (Uf 0 [0,3,4,9] rfl (Go'.condF rfl (Ut 2 rfl (Ur 2 0 rfl (Uf 2 [2] rfl (Go'.ret (vs:=[_]) func145 results145 ⟨rfl,trivial⟩ ?_)))))))
  rw [List.drop_zero] at hsv
  exact ⟨hsv,hF⟩
 ·
  obtain ⟨y,hy⟩:∃y,l[j]?=some y:=⟨l[j],List.getElem?_eq_getElem (by omega)⟩
  obtain ⟨b,o,c',e,hr⟩:=hi2.at hy
  cases e
  have ej:(((j+1:Nat):Int)-1)=(j:Int):=by omega
  have hx:(l.drop j).reverse=(l.drop (j+1)).reverse++[y]:=by
   obtain ⟨h1,h2⟩:=List.getElem?_eq_some_iff.1 hy
   rw [←List.getElem_cons_drop (h:=h1),h2,List.reverse_cons]
  have hl1:(l.drop j).reverse.length=l.length-j:=by rw [List.length_reverse,List.length_drop]
  rw [ej]
  refine Ur 2 0 rfl (Uc 1 rfl (geqT (by omega)) (Uf 0 [0,3,4,9] rfl (Go'.condT rfl (Ut 3 rfl ?_))))
  rcases hcase with ⟨rfl,hj0⟩|⟨b1,o1,c1,rfl,hb1,hs1⟩
  ·
   refine Ur 8 10496 rfl (Ux 3 j rfl (by omega) (by omega) (Us 0 rfl hr rfl (O.bsl (cs:=(EJ.enc y)) rfl rfl rfl ⟨underlying25,sizeOf27,zeroValue27,⟨_,typeInfo27,rfl⟩,rfl,by decide,by decide⟩ rfl (by decide) (by kernel_rfl) ?_)))
   intro H5 M5
   have hs5:=M5.size
   have hsz:=hF.size
   have m5:Rd H5 H2.size 0 (EJ.enc y):=M5.rd _ [] (by simp)
   refine ⟨trivial,?_⟩
   refine O.appN (m:=1) (news:=(EJ.enc y)) rfl rfl rfl ⟨underlying25,sizeOf27,zeroValue27,⟨_,typeInfo27,rfl⟩,rfl,by decide,by decide⟩ rfl rfl ⟨_,_,_,rfl,m5⟩ rfl (Nat.le_trans (Nat.mul_le_mul_left _ (Nat.le_of_ble_eq_true (n:=_) (m:=4096) rfl)) (by omega)) (by omega) (by omega) ?_
   intro c2 H6 hsl6 fa hs6
   have hF6:Fr nowhere H H6:=(hF.trans (M5.fr nowhere)).trans fa
   have hlj:l.length-j=1:=by omega
   have hrow:row EJ (l.drop j).reverse=EJ.enc y:=by rw [hx,show l.drop (j+1)=[] from List.drop_of_length_le (by omega)];simp [row]
   refine ⟨trivial,?_⟩
   refine Uf 1 [0,3,4,9] rfl (Ut 1 rfl (Ur 3 0 rfl (Ub 1 (((j:Nat):Int)-1) rfl (by omega) (Uf 1 [0,3,4,9] rfl (Uk [0,3,4] rfl (Go'.inLoop ?_))))))
   refine ih (j,.slice (some ⟨H5.size,0,none⟩) 1 c2) H6 ⟨hF6,by simp only;omega,.inr ⟨H5.size,0,c2,by rw [hl1,hlj],SlE.of (hrow▸hsl6) rfl (by rw [hl1,hlj])⟩,.inr ⟨H5.size,0,c2,by rw [hlj],by omega,by rw [hlj];exact hrow▸hsl6⟩⟩ (by simp only;omega)
  ·
   refine Ur 8 10496 rfl (Ux 3 j rfl (by omega) (by omega) (Us 0 rfl hr rfl (O.bsl (cs:=(EJ.enc y)) rfl rfl rfl ⟨underlying25,sizeOf27,zeroValue27,⟨_,typeInfo27,rfl⟩,rfl,by decide,by decide⟩ rfl (by decide) (by kernel_rfl) ?_)))
   intro H5 M5
   have hs5:=M5.size
   have hsz:=hF.size
   have m5:Rd H5 H2.size 0 (EJ.enc y):=M5.rd _ [] (by simp)
   replace hs1:=hs1.fr (M5.fr nowhere) (fun _ _=>nw)
   refine ⟨trivial,?_⟩
   refine O.app (m:=1) (news:=(EJ.enc y)) rfl rfl rfl ⟨underlying25,sizeOf27,zeroValue27,⟨_,typeInfo27,rfl⟩,rfl,by decide,by decide⟩ rfl hs1 rfl (.inl ⟨_,_,_,rfl,m5⟩) rfl rfl (Nat.le_trans (Nat.mul_le_mul_left _ (Nat.le_of_ble_eq_true (n:=_) (m:=4096) rfl)) (by omega)) (by omega) ?_
   intro b2 o2 c2 H6 ha
   obtain ⟨fa,pa⟩:Fr (fun x _=>x=b1) H5 H6∧(b2=b1∨H5.size≤b2):=(App.rp ha)
   have hF6:Fr nowhere H H6:=(hF.trans (M5.fr nowhere)).trans' fa (fun _ _ _ h=>h) (fun x o hx hz=>by have hz':x=b1:=hz;omega)
   have ejj:l.length-(j+1)+1=l.length-j:=by omega
   have hsl6:Sl H6 b2 o2 (l.length-j) c2 2 (row EJ (l.drop j).reverse):=by rw [hx,row_append,row_one,←ejj];exact ha.sl
   rw [ejj]
   refine ⟨trivial,?_⟩
   refine Uf 1 [0,3,4,9] rfl (Ut 1 rfl (Ur 3 0 rfl (Ub 1 (((j:Nat):Int)-1) rfl (by omega) (Uf 1 [0,3,4,9] rfl (Uk [0,3,4] rfl (Go'.inLoop ?_))))))
   refine ih (j,.slice (some ⟨b2,o2,none⟩) (l.length-j) c2) H6 ⟨hF6,by simp only;omega,.inr ⟨b2,o2,c2,by rw [hl1],SlE.of hsl6 rfl hl1.symm⟩,.inr ⟨b2,o2,c2,rfl,by omega,hsl6⟩⟩ (by simp only;omega)
theorem first_spec {B:World} {H:Mem} {u:Value} {l:List (Int×Int)} {n:Int} (hi:InS EJ H u l):
  Fn Try.prog B 144 [u,.int .i64 n] H (fun r H'=>InS EJ H' r (firstN l n)∧H'=H):=by
 obtain ⟨a,c,hu⟩:=hi.len
 subst hu
 refine fn_of func144 rfl ntmps144 ?_
 refine (show Go' _ _ _ _ 17 [(0,_),(1,_)] [.code _] _ from ?_)
 refine Ut 1 rfl (Ur 1 0 rfl (Uf 1 [0,1,4] rfl (Ut 2 rfl ?_)))
 by_cases h1:n<1
 ·
  refine Ur 8 0 rfl (Uc 1 rfl (lssT (by omega)) (Uf 6 [0,1,4,12] rfl (Go'.condT rfl (Ut 1 rfl (Ur 2 0 rfl (Uf 2 [0,1,4] rfl (Go'.ret (vs:=[_]) func144 results144 ⟨rfl,trivial⟩ ?_)))))))
  exact ⟨by unfold firstN;rw [if_pos (.inl h1)];exact hi,rfl⟩
 ·
  by_cases h2:(l.length:Int)<n
  ·
   refine Ur 8 0 rfl (Uc 1 rfl (lssF (by omega)) (Uc 4 rfl (gtrT (by omega)) (Uf 1 [0,1,4,12] rfl (Go'.condT rfl (Ut 1 rfl (Ur 2 0 rfl (Uf 2 [0,1,4] rfl (Go'.ret (vs:=[_]) func144 results144 ⟨rfl,trivial⟩ ?_))))))))
   exact ⟨by unfold firstN;rw [if_pos (.inr h2)];exact hi,rfl⟩
  ·
   obtain ⟨m,rfl⟩:=Int.eq_ofNat_of_zero_le (by omega:0≤n)
   refine Ur 8 0 rfl (Uc 1 rfl (lssF (by omega)) (Uc 4 rfl (gtrF (by omega)) (Uf 1 [0,1,4,12] rfl (Go'.condF rfl (Ut 2 rfl (Ur 4 0 rfl (Uq 2 rfl (O.slcIn (E:=EJ) (jl:=0) (jh:=m) rfl rfl rfl rfl underlying25 sizeOf27 rfl hi ⟨_,by rfl⟩ rfl (by omega) (by omega) ?_))))))))
   intro v1 hv1
   rw [List.drop_zero,Nat.sub_zero] at hv1
   refine Uf 1 [4] rfl (Go'.ret (vs:=[_]) func144 results144 ⟨rfl,trivial⟩ ?_)
   exact ⟨by unfold firstN;rw [if_neg (by omega)];exact hv1,rfl⟩
theorem greverse_spec {B:World} {H:Mem} {v u dg nl:Value} {ord:List Int} {l:List (Int×Int)} {n:Int} (ho:InS EN H v ord) (hl:ord.length<4611686018427387904) (hi:InS EJ H u l) (hll:l.length≤4294967296):
  Fn Try.prog B 89 [.agg #[v,dg,nl],u,.int .i64 n] H (fun r H'=>InS EJ H' r (firstN (Pl.puts (OO ord) l).reverse n)∧Fr nowhere H H'):=by
 have hpl:=Pl.puts_length (OO ord) l
 refine fn_of func89 rfl ntmps89 ?_
 refine (show Go' _ _ _ _ 14 [(0,_),(1,_),(2,_)] [.code _] _ from ?_)
 refine Ut 1 rfl (Ur 2 2 rfl (O.box rfl rfl rfl rfl ?_))
 intro H1 M1
 refine ⟨trivial,?_⟩
 replace ho:=ho.fr (M1.fr nowhere)
 replace hi:=hi.fr (M1.fr nowhere)
 have mi:cl H1 H.size 0=some v:=(M1.cl 0).trans rfl
 refine Uf 1 [1,2,3,6] rfl (Ut 1 rfl (Ur 8 8836 rfl (Ul 1 rfl mi (Uq 1 rfl (O.call rfl rfl rfl call42 rfl (tree_spec ho hl hi hll) ?_)))))
 rintro sv H3 ⟨hsv,hF3⟩
 refine ⟨trivial,?_⟩
 refine O.call rfl rfl rfl call145 rfl (turned_spec hsv.inS (by omega)) ?_
 rintro tv H4 ⟨htv,hF4⟩
 refine ⟨trivial,?_⟩
 refine Uq 1 rfl (O.call rfl rfl rfl call144 rfl (first_spec (n:=n) htv.inS) ?_)
 rintro fv H5 ⟨hfv,rfl⟩
 refine ⟨trivial,?_⟩
 refine Uf 1 [6] rfl (Go'.ret (vs:=[_]) func89 results89 ⟨rfl,trivial⟩ ?_)
 exact ⟨hfv,((M1.fr nowhere).trans hF3).trans hF4⟩
theorem igreverse_spec {B:World} {H:Mem} {d:Nat} {nl:Bool} {v u:Value} {ord:List Int} {l:List (Int×Int)} (hd:d=0∨2≤d∧d≤128) (ho:InS EN H v ord) (hol:ord.length≤4294967296) (hi:InS EJ H u l) (hll:l.length≤4294967296) {n:Int}:
  Fn Try.prog B 58 [.agg #[v,.int .i64 (d:Int),.bool nl],u,.int .i64 n] H (fun r H'=>OutS EJ H' r (firstN ((Pl.puts (OO ord) l).reverse) n)∧Fr nowhere H H'):=by
 obtain ⟨a,c,hu⟩:=hi.len
 subst hu
 obtain ⟨av,mv,cv,hv⟩:=InS.form ho
 subst hv
 have hF:Fr nowhere H H:=Fr.refl _ _
 have hP:=PD_ok hd
 refine fn_of func58 rfl ntmps58 ?_
 refine (show Go' _ _ _ _ 15 [(0,_),(1,_),(2,_)] [.code _] _ from ?_)
 refine Ut 1 rfl (Ur 2 2 rfl (O.box rfl rfl rfl rfl ?_))
 intro B1 MB1
 refine ⟨trivial,?_⟩
 have hsB1:=MB1.size
 replace hF:=hF.trans (MB1.fr nowhere)
 have mm:Rd B1 H.size 0 [.slice av mv cv,.int .i64 (d:Int),.bool nl]:=MB1.rd _ [] (by simp [Value.cells])
 have mm0:cl B1 H.size 0=some (.slice av mv cv):=mm 0 _ rfl
 have mm1:cl B1 H.size (0+1)=some (.int .i64 (d:Int)):=mm 1 _ rfl
 refine Uf 1 [1,2,3,6] rfl (Ut 1 rfl (Ur 1 2 rfl (O.alloc rfl rfl rfl zeroValue25 ?_)))
 intro H2 M2
 refine ⟨trivial,?_⟩
 have hs2:=M2.size
 replace hF:=hF.trans (M2.fr nowhere)
 replace mm:=(M2.fr nowhere).rd mm (fun _ _=>nw)
 replace mm0:=(M2.fr nowhere).keep mm0 nw
 replace mm1:=(M2.fr nowhere).keep mm1 nw
 have hD:cl H2 B1.size 0=some (.slice none 0 0):=(M2.cl 0).trans rfl
 have hw:Wr H2 B1.size 0 1:=M2.wr 1 (by decide)
 refine Uf 0 [1,2,3,6,7] rfl (Ut 1 rfl (Ur 6 2593 rfl (Us 0 rfl mm rfl (Uq 1 rfl (O.call rfl rfl rfl call68 rfl (grow_spec hd (ho.fr hF) hol (hi.fr hF) hll) ?_)))))
 rintro _ H3 ⟨I,hIo,hIw,hIb,tr,S,rfl,hM,hF3,hS⟩
 have hs3:=hF3.size
 replace hF:=hF.trans hF3
 replace mm:=hF3.rd mm (fun _ _=>nw)
 replace mm0:=hF3.keep mm0 nw
 replace mm1:=hF3.keep mm1 nw
 replace hD:=hF3.keep hD nw
 replace hw:=hF3.wr hw
 have hSb:∀b,S b∨(b<cx.base∧cx.own b)→H2.size≤b:=fun b hb=>hb.elim (hS b) (fun h=>hIw b h.2)
 have hOO:OO ord=OI:=by rw [←hIo];rfl
 have hpl:=Pl.puts_length OI l
 have hSlt:=hM.lt
 have hbs:=hM.tc.hb
 unfold ptr
 refine ⟨trivial,?_⟩
 refine Uq 1 rfl (O.call rfl rfl rfl call107 rfl (taker_spec (n:=n) hD hw) ?_)
 rintro _ H4 ⟨b2,b3,rfl,hT,hF4⟩
 have hs4:=hF4.size
 replace hF:=hF.trans hF4
 replace hM:=hM.fr hF4 (fun _ _ _=>nw)
 refine ⟨trivial,?_⟩
 refine O.call rfl rfl rfl call108 rfl (Reverse_spec (cbTk B b2 b3 B1.size n) call152 hP hM hT (fun b hb hz=>hz.elim (fun h=>by have:=hSb b (.inl hb);omega) (fun h=>by have:=hSlt b hb;omega)) (fun b hz hb=>hz.elim (fun h=>by have:=hSb b (.inr hb);omega) (fun h=>by omega)) (by omega)) ?_
 rintro _ H5 ⟨Z5,hT5,hF5,hZ5⟩
 obtain ⟨ov,hv,hov⟩:=TkT.out hT5
 rw [takes_first] at hov
 replace hF:=hF.trans' hF5 (fun _ _ _ h=>h) (fun b o hb hz=>hz.elim (fun h=>by omega) (fun h=>by omega))
 refine ⟨trivial,?_⟩
 refine Uf 0 [6,7] rfl (Ut 1 rfl (Ur 2 1 rfl (Ul 0 rfl hv (Uf 1 [6] rfl (Go'.ret (vs:=[_]) func58 results58 ⟨rfl,trivial⟩ ?_)))))
 rw [hOO];exact ⟨hov,hF⟩
theorem lawGReverse_spec {B:World} {H:Mem} {d:Nat} {nl:Bool} {v u:Value} {ord:List Int} {l:List (Int×Int)} (hd:d=0∨2≤d∧d≤128) (ho:InS EN H v ord) (hol:ord.length≤4294967296) (hi:InS EJ H u l) (hll:l.length≤4294967296) {n:Int}:
  Fn Try.prog B 41 [.agg #[v,.int .i64 (d:Int),.bool nl],u,.int .i64 n] H (fun r H'=>r=.bool true∧Fr nowhere H H'):=by
 obtain ⟨a,c,hu⟩:=hi.len
 subst hu
 obtain ⟨av,mv,cv,hv⟩:=InS.form ho
 subst hv
 have hF:Fr nowhere H H:=Fr.refl _ _
 have hP:=PD_ok hd
 refine fn_of func41 rfl ntmps41 ?_
 refine (show Go' _ _ _ _ 20 [(0,_),(1,_),(2,_)] [.code _] _ from ?_)
 refine Ut 1 rfl (Ur 2 2 rfl (O.box rfl rfl rfl rfl ?_))
 intro B1 MB1
 refine ⟨trivial,?_⟩
 have hsB1:=MB1.size
 replace hF:=hF.trans (MB1.fr nowhere)
 have mm:Rd B1 H.size 0 [.slice av mv cv,.int .i64 (d:Int),.bool nl]:=MB1.rd _ [] (by simp [Value.cells])
 have mm0:cl B1 H.size 0=some (.slice av mv cv):=mm 0 _ rfl
 have mm1:cl B1 H.size (0+1)=some (.int .i64 (d:Int)):=mm 1 _ rfl
 refine Uf 1 [1,2,3,6] rfl (Ut 1 rfl ?_)
 have hpl:=Pl.puts_length (OO ord) l
 refine Ur 5 129 rfl (Us 0 rfl mm rfl (Uq 2 rfl (O.call rfl rfl rfl call58 rfl (igreverse_spec hd (ho.fr hF) hol (hi.fr hF) hll (n:=n)) ?_)))
 rintro v1 H3 ⟨h1,hF3⟩
 replace hF:=hF.trans hF3
 replace mm:=hF3.rd mm (fun _ _=>nw)
 replace mm0:=hF3.keep mm0 nw
 replace mm1:=hF3.keep mm1 nw
 refine ⟨trivial,?_⟩
 refine Uf 1 [1,2,3,6,7] rfl (Ut 1 rfl (Ur 5 129 rfl (Us 0 rfl mm rfl (Uq 2 rfl (O.call rfl rfl rfl call89 rfl (greverse_spec (ho.fr hF) (by omega) (hi.fr hF) hll (n:=n)) ?_)))))
 rintro v2 H4 ⟨h2,hF4⟩
 replace hF:=hF.trans hF4
 replace mm:=hF4.rd mm (fun _ _=>nw)
 replace mm0:=hF4.keep mm0 nw
 replace mm1:=hF4.keep mm1 nw
 refine ⟨trivial,?_⟩
 refine Uf 1 [6,7,8] rfl (Ut 1 rfl (Ur 4 32 rfl (Uq 2 rfl (O.callQ rfl rfl rfl call28 rfl (eqItems_spec (h1.inS.fr hF4) (by first|exact h2|exact h2.inS) (by have:=firstN_len (Pl.puts (OO ord) l).reverse n;rw [List.length_reverse] at this;omega)) trivial (Uf 1 [6] rfl (Go'.ret (vs:=[_]) func41 results41 ⟨rfl,trivial⟩ ?_))))))
 exact ⟨rfl,hF⟩
theorem fnExactGReverse {B:World} {H:Mem} {z:Int} {nl:Bool} {v u:Value} {ord:List Int} {l:List (Int×Int)} {n:Int} (ho:InS EN H v ord) (hi:InS EJ H u l):
  Fn Try.prog B 11 [.agg #[v,.int .i64 z,.bool nl],u,.int .i64 n] H (fun r H'=>r=.bool true∧Fr nowhere H H'):=by
 obtain ⟨a,c,hu⟩:=hi.len
 subst hu
 obtain ⟨av,mv,cv,hv⟩:=InS.form ho
 subst hv
 have hF:Fr nowhere H H:=Fr.refl _ _
 refine fn_of func11 rfl ntmps11 ?_
 refine (show Go' _ _ _ _ 30 [(0,_),(1,_),(2,_)] [.code _] _ from ?_)
 refine Ut 1 rfl (Ur 2 2 rfl (O.box rfl rfl rfl rfl ?_))
 intro B1 MB1
 refine ⟨trivial,?_⟩
 have hsB1:=MB1.size
 replace hF:=hF.trans (MB1.fr nowhere)
 have mm:Rd B1 H.size 0 [.slice av mv cv,.int .i64 z,.bool nl]:=MB1.rd _ [] (by simp [Value.cells])
 have mm0:cl B1 H.size 0=some (.slice av mv cv):=mm 0 _ rfl
 have mm1:cl B1 H.size (0+1)=some (.int .i64 z):=mm 1 _ rfl
 refine Uf 1 [1,2,3,6] rfl (Ut 2 rfl ?_)
 cases hoz:decide (ord.length≤2147483647)
 ·
  refine Ur 8 9 rfl (Us 0 rfl mm rfl (O.call rfl rfl rfl call23 rfl (zzFits1_spec (ho.fr hF) hoz) ?_))
  rintro _ H1 ⟨rfl,hF1⟩
  replace hF:=hF.trans hF1
  replace mm:=hF1.rd mm (fun _ _=>nw)
  replace mm0:=hF1.keep mm0 nw
  replace mm1:=hF1.keep mm1 nw
  refine ⟨trivial,?_⟩
  refine Uf 6 [1,2,3,6,14] rfl (Go'.condT rfl (Ut 1 rfl (Ur 1 0 rfl (Uf 1 [1,2,3,6] rfl (Go'.ret (vs:=[_]) func11 results11 ⟨rfl,trivial⟩ ?_)))))
  exact ⟨rfl,hF⟩
 ·
  have hoz2:=of_decide_eq_true hoz
  by_cases hb_lenl:(2147483647:Int)<(l.length:Int)
  ·
   refine Ur 8 9 rfl (Us 0 rfl mm rfl (O.call rfl rfl rfl call23 rfl (zzFits1_spec (ho.fr hF) hoz) ?_))
   rintro _ H1 ⟨rfl,hF1⟩
   replace hF:=hF.trans hF1
   replace mm:=hF1.rd mm (fun _ _=>nw)
   replace mm0:=hF1.keep mm0 nw
   replace mm1:=hF1.keep mm1 nw
   refine ⟨trivial,?_⟩
   refine Uc 4 rfl (gtrT (by omega)) (Uf 1 [1,2,3,6,14] rfl (Go'.condT rfl (Ut 1 rfl (Ur 1 0 rfl (Uf 1 [1,2,3,6] rfl (Go'.ret (vs:=[_]) func11 results11 ⟨rfl,trivial⟩ ?_))))))
   exact ⟨rfl,hF⟩
  ·
   refine Ur 8 9 rfl (Us 0 rfl mm rfl (O.call rfl rfl rfl call23 rfl (zzFits1_spec (ho.fr hF) hoz) ?_))
   rintro _ H1 ⟨rfl,hF1⟩
   replace hF:=hF.trans hF1
   replace mm:=hF1.rd mm (fun _ _=>nw)
   replace mm0:=hF1.keep mm0 nw
   replace mm1:=hF1.keep mm1 nw
   refine ⟨trivial,?_⟩
   refine Uc 4 rfl (gtrF (by omega)) (Uf 1 [1,2,3,6,14] rfl (Go'.condF rfl (Ut 2 rfl ?_)))
   cases hfz:fitsb z
   ·
    refine Ur 16 33825834 rfl (O.call rfl rfl rfl call30 rfl exMake_spec ?_)
    rintro _ H2 ⟨rfl,hF2⟩
    replace hF:=hF.trans hF2
    replace mm:=hF2.rd mm (fun _ _=>nw)
    replace mm0:=hF2.keep mm0 nw
    replace mm1:=hF2.keep mm1 nw
    refine ⟨trivial,?_⟩
    refine O.call rfl rfl rfl call32 rfl exItems_spec ?_
    rintro ev H3 ⟨hev,hF3⟩
    replace hF:=hF.trans hF3
    replace mm:=hF3.rd mm (fun _ _=>nw)
    replace mm0:=hF3.keep mm0 nw
    replace mm1:=hF3.keep mm1 nw
    refine ⟨trivial,?_⟩
    refine O.call rfl rfl rfl call41 rfl (lawGReverse_spec (d:=2) (by decide) (InS.nil EN _) (by decide) hev (by decide)) ?_
    rintro _ H4 ⟨rfl,hF4⟩
    replace hF:=hF.trans hF4
    replace mm:=hF4.rd mm (fun _ _=>nw)
    replace mm0:=hF4.keep mm0 nw
    replace mm1:=hF4.keep mm1 nw
    refine ⟨trivial,?_⟩
    refine Ul 2 rfl mm1 (O.callQ rfl rfl rfl call33 rfl (fits_spec' hfz) trivial (Uq 5 rfl (Pl.pass2 rfl rfl rfl rfl trivial (Uf 3 [6] rfl (Go'.ret (vs:=[_]) func11 results11 ⟨rfl,trivial⟩ ?_)))))
    exact ⟨rfl,hF⟩
   ·
    obtain ⟨d,rfl,hd⟩:=fitsb_nat hfz
    refine Ur 16 33825834 rfl (O.call rfl rfl rfl call30 rfl exMake_spec ?_)
    rintro _ H2 ⟨rfl,hF2⟩
    replace hF:=hF.trans hF2
    replace mm:=hF2.rd mm (fun _ _=>nw)
    replace mm0:=hF2.keep mm0 nw
    replace mm1:=hF2.keep mm1 nw
    refine ⟨trivial,?_⟩
    refine O.call rfl rfl rfl call32 rfl exItems_spec ?_
    rintro ev H3 ⟨hev,hF3⟩
    replace hF:=hF.trans hF3
    replace mm:=hF3.rd mm (fun _ _=>nw)
    replace mm0:=hF3.keep mm0 nw
    replace mm1:=hF3.keep mm1 nw
    refine ⟨trivial,?_⟩
    refine O.call rfl rfl rfl call41 rfl (lawGReverse_spec (d:=2) (by decide) (InS.nil EN _) (by decide) hev (by decide)) ?_
    rintro _ H4 ⟨rfl,hF4⟩
    replace hF:=hF.trans hF4
    replace mm:=hF4.rd mm (fun _ _=>nw)
    replace mm0:=hF4.keep mm0 nw
    replace mm1:=hF4.keep mm1 nw
    refine ⟨trivial,?_⟩
    refine Ul 2 rfl mm1 (O.callQ rfl rfl rfl call33 rfl (fits_spec' hfz) trivial (Us 2 rfl mm rfl (Uq 2 rfl (O.call rfl rfl rfl call41 rfl (lawGReverse_spec hd (ho.fr hF) (by omega) (hi.fr hF) (by omega)) ?_))))
    rintro _ H5 ⟨rfl,hF5⟩
    replace hF:=hF.trans hF5
    replace mm:=hF5.rd mm (fun _ _=>nw)
    replace mm0:=hF5.keep mm0 nw
    replace mm1:=hF5.keep mm1 nw
    refine ⟨trivial,?_⟩
    refine Uf 3 [6] rfl (Go'.ret (vs:=[_]) func11 results11 ⟨rfl,trivial⟩ ?_)
    exact ⟨rfl,hF⟩
end Go.Bt.FG
