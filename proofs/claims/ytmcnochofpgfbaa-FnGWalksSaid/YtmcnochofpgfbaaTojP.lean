/- Contracts of functions of the program, proved by walking through their code. Conditions: those that each theorem names. -/
import Derived.Test.YtmcnochofpgfbaaTojN
import Derived.Test.YtmcnochofpgfbaaTogG
import Derived.Test.YtmcnochofpgfbaaToKs
set_option linter.unusedVariables false
namespace Go.Bt.FG
open Go Go.Proofs Go.Proofs.Try
set_option maxRecDepth 20000
set_option maxHeartbeats 4000000
set_option linter.unusedSectionVars false
theorem igwalk_spec {B:World} {H:Mem} {d:Nat} {nl:Bool} {v u:Value} {ord:List Int} {l:List (Int×Int)} (hd:d=0∨2≤d∧d≤128) (ho:InS EN H v ord) (hol:ord.length≤4294967296) (hi:InS EJ H u l) (hll:l.length≤4294967296) {n:Int}:
  Fn Try.prog B 13 [.agg #[v,.int .i64 (d:Int),.bool nl],u,.int .i64 n] H (fun r H'=>∃us,OutS SI.ESl H' r us∧SI.InSS EJ H' us (firstN (AbT.ch (AbT.puts (OO ord) (PD d).mx (PD d).mn l)) n)∧Fr nowhere H H'∧(AbT.ch (AbT.puts (OO ord) (PD d).mx (PD d).mn l)).flatten=Pl.puts (OO ord) l∧∀c∈AbT.ch (AbT.puts (OO ord) (PD d).mx (PD d).mn l),1≤c.length∧c.length≤(PD d).mx):=by
 obtain ⟨a,c,hu⟩:=hi.len
 subst hu
 obtain ⟨av,mv,cv,hv⟩:=InS.form ho
 subst hv
 have hF:Fr nowhere H H:=Fr.refl _ _
 have hP:=PD_ok hd
 refine fn_of func13 rfl ntmps13 ?_
 refine (show Go' _ _ _ _ 17 [(0,_),(1,_),(2,_)] [.code _] _ from ?_)
 refine Ut 1 rfl (Ur 2 2 rfl (O.box rfl rfl rfl rfl ?_))
 intro B1 MB1
 refine ⟨trivial,?_⟩
 have hsB1:=MB1.size
 replace hF:=hF.trans (MB1.fr nowhere)
 have mm:Rd B1 H.size 0 [.slice av mv cv,.int .i64 (d:Int),.bool nl]:=MB1.rd _ [] (by simp [Value.cells])
 have mm0:cl B1 H.size 0=some (.slice av mv cv):=mm 0 _ rfl
 have mm1:cl B1 H.size (0+1)=some (.int .i64 (d:Int)):=mm 1 _ rfl
 refine Uf 1 [1,2,3,6] rfl (Ut 1 rfl (Ur 1 2 rfl (O.alloc rfl rfl rfl zeroValue38 ?_)))
 intro H2 M2
 refine ⟨trivial,?_⟩
 have hs2:=M2.size
 replace hF:=hF.trans (M2.fr nowhere)
 replace mm:=(M2.fr nowhere).rd mm (fun _ _=>nw)
 replace mm0:=(M2.fr nowhere).keep mm0 nw
 replace mm1:=(M2.fr nowhere).keep mm1 nw
 have hD:cl H2 B1.size 0=some (.slice none 0 0):=(M2.cl 0).trans rfl
 have hw:Wr H2 B1.size 0 1:=M2.wr 1 (by decide)
 refine Uf 0 [1,2,3,6,7] rfl (Ut 1 rfl (Ur 4 168 rfl (Uq 1 rfl (O.call rfl rfl rfl call36 rfl (takerW_spec (n:=n) hD hw) ?_))))
 rintro _ H3 ⟨b2,b3,rfl,hT,hF3⟩
 have hs3:=hF3.size
 replace hF:=hF.trans hF3
 replace mm:=hF3.rd mm (fun _ _=>nw)
 replace mm0:=hF3.keep mm0 nw
 replace mm1:=hF3.keep mm1 nw
 refine ⟨trivial,?_⟩
 refine O.alloc rfl rfl rfl zeroValue43 ?_
 intro H4 M4
 refine ⟨trivial,?_⟩
 have hs4:=M4.size
 replace hF:=hF.trans (M4.fr nowhere)
 replace mm:=(M4.fr nowhere).rd mm (fun _ _=>nw)
 replace mm0:=(M4.fr nowhere).keep mm0 nw
 replace mm1:=(M4.fr nowhere).keep mm1 nw
 have lt0:=hT.lt
 replace hT:=hT.fr (M4.fr nowhere) (fun _ _ _=>nw)
 have m8:Wr H4 H3.size 0 1:=M4.wr 1 (by decide)
 refine O.st rfl rfl sizeOf43 rfl rfl rfl rfl rfl m8 ?_
 intro H5 W5
 have hs5:=W5.size
 replace hF:=hF.trans' W5.fr (fun _ _ _ h=>h) (fun b o hb h=>by have h':=h.1;omega)
 replace mm:=W5.fr.rd mm (fun _ _=>nr (.inl (by omega)))
 replace mm0:=W5.fr.keep mm0 (nr (.inl (by omega)))
 replace mm1:=W5.fr.keep mm1 (nr (.inl (by omega)))
 replace hT:=hT.fr W5.fr (fun b o hb hz=>by have:=lt0 b hb;have h1:=hz.1;omega)
 have cp:=W5.at
 have hPr:PrW H3.size b2 b3 B1.size n [] (fun b=>b=B1.size∨(H2.size≤b∧b<H5.size)) H5:=⟨_,fun _=>False,[],hT,trivial,cp,fun hz=>by have:=lt0 _ hz;omega,fun b hb=>hb.imp id (fun h=>⟨h.1,by omega⟩),.inr ⟨by omega,by omega⟩,fun _ h=>h.elim,fun b hb=>hb.elim (fun h=>by omega) (fun h=>h.2)⟩
 refine ⟨trivial,?_⟩
 refine Uf 0 [1,3,6,7,8] rfl (Ut 1 rfl (Ur 5 545 rfl (Us 0 rfl mm rfl (Uq 1 rfl (O.call rfl rfl rfl call27 rfl (growT_spec hd (ho.fr hF) hol (hi.fr hF) hll) ?_)))))
 rintro _ H6 ⟨I,hIo,hIw,hIb,tr,S,rfl,hM,hF6,hS⟩
 have hs6:=hF6.size
 replace hF:=hF.trans hF6
 replace mm:=hF6.rd mm (fun _ _=>nw)
 replace mm0:=hF6.keep mm0 nw
 replace mm1:=hF6.keep mm1 nw
 replace hPr:=(cbGWalk B H3.size b2 b3 B1.size n).fr hPr hF6 (fun _ _ _=>nw)
 have hSb:∀b,S b∨(b<cx.base∧cx.own b)→H5.size≤b:=fun b hb=>hb.elim (hS b) (fun h=>hIw b h.2)
 have hOO:OO ord=OI:=by rw [←hIo];rfl
 have hpl:=Pl.puts_length OI l
 have hSlt:=hM.1.lt
 have hbs:=hM.1.tc.hb
 have hfl:=AbT.ch_le hP hM
 unfold ptr
 refine ⟨trivial,?_⟩
 refine O.mkf rfl rfl rfl rfl rfl rfl (O.call rfl rfl rfl call37 rfl (Walk_spec (cbGWalk B H3.size b2 b3 B1.size n) call38 hP hM hPr (fun b hb hz=>hz.elim (fun h=>by have:=hSb b (.inl hb);omega) (fun h=>by have:=hSb b (.inl hb);omega)) (fun b hz hb=>hz.elim (fun h=>by have:=hSb b (.inr hb);omega) (fun h=>by have:=hSb b (.inr hb);omega)) (by omega)) ?_)
 rintro _ H7 ⟨Z7,hT7,hF7,hZ7⟩
 obtain ⟨ov,us,hv,hov,hss⟩:=PrW.out hT7
 rw [takes_first] at hss
 replace hF:=hF.trans' hF7 (fun _ _ _ h=>h) (fun b o hb hz=>hz.elim (fun h=>by omega) (fun h=>by omega))
 refine ⟨trivial,?_⟩
 refine Uf 0 [6,7] rfl (Ut 1 rfl (Ur 2 1 rfl (Ul 0 rfl hv (Uf 1 [6] rfl (Go'.ret (vs:=[_]) func13 results13 ⟨rfl,trivial⟩ ?_)))))
 rw [hOO];exact ⟨us,hov,hss,hF,hfl⟩
theorem igwalkmut_spec {B:World} {H:Mem} {d:Nat} {nl:Bool} {v u:Value} {ord:List Int} {l:List (Int×Int)} (hd:d=0∨2≤d∧d≤128) (ho:InS EN H v ord) (hol:ord.length≤4294967296) (hi:InS EJ H u l) (hll:l.length≤4294967296) {n:Int}:
  Fn Try.prog B 19 [.agg #[v,.int .i64 (d:Int),.bool nl],u,.int .i64 n] H (fun r H'=>∃us,OutS SI.ESl H' r us∧SI.InSS EJ H' us (firstN (AbT.ch (AbT.puts (OO ord) (PD d).mx (PD d).mn l)) n)∧Fr nowhere H H'∧(AbT.ch (AbT.puts (OO ord) (PD d).mx (PD d).mn l)).flatten=Pl.puts (OO ord) l∧∀c∈AbT.ch (AbT.puts (OO ord) (PD d).mx (PD d).mn l),1≤c.length∧c.length≤(PD d).mx):=by
 obtain ⟨a,c,hu⟩:=hi.len
 subst hu
 obtain ⟨av,mv,cv,hv⟩:=InS.form ho
 subst hv
 have hF:Fr nowhere H H:=Fr.refl _ _
 have hP:=PD_ok hd
 refine fn_of func19 rfl ntmps19 ?_
 refine (show Go' _ _ _ _ 17 [(0,_),(1,_),(2,_)] [.code _] _ from ?_)
 refine Ut 1 rfl (Ur 2 2 rfl (O.box rfl rfl rfl rfl ?_))
 intro B1 MB1
 refine ⟨trivial,?_⟩
 have hsB1:=MB1.size
 replace hF:=hF.trans (MB1.fr nowhere)
 have mm:Rd B1 H.size 0 [.slice av mv cv,.int .i64 (d:Int),.bool nl]:=MB1.rd _ [] (by simp [Value.cells])
 have mm0:cl B1 H.size 0=some (.slice av mv cv):=mm 0 _ rfl
 have mm1:cl B1 H.size (0+1)=some (.int .i64 (d:Int)):=mm 1 _ rfl
 refine Uf 1 [1,2,3,6] rfl (Ut 1 rfl (Ur 1 2 rfl (O.alloc rfl rfl rfl zeroValue38 ?_)))
 intro H2 M2
 refine ⟨trivial,?_⟩
 have hs2:=M2.size
 replace hF:=hF.trans (M2.fr nowhere)
 replace mm:=(M2.fr nowhere).rd mm (fun _ _=>nw)
 replace mm0:=(M2.fr nowhere).keep mm0 nw
 replace mm1:=(M2.fr nowhere).keep mm1 nw
 have hD:cl H2 B1.size 0=some (.slice none 0 0):=(M2.cl 0).trans rfl
 have hw:Wr H2 B1.size 0 1:=M2.wr 1 (by decide)
 refine Uf 0 [1,2,3,6,7] rfl (Ut 1 rfl (Ur 4 168 rfl (Uq 1 rfl (O.call rfl rfl rfl call36 rfl (takerW_spec (n:=n) hD hw) ?_))))
 rintro _ H3 ⟨b2,b3,rfl,hT,hF3⟩
 have hs3:=hF3.size
 replace hF:=hF.trans hF3
 replace mm:=hF3.rd mm (fun _ _=>nw)
 replace mm0:=hF3.keep mm0 nw
 replace mm1:=hF3.keep mm1 nw
 refine ⟨trivial,?_⟩
 refine O.alloc rfl rfl rfl zeroValue43 ?_
 intro H4 M4
 refine ⟨trivial,?_⟩
 have hs4:=M4.size
 replace hF:=hF.trans (M4.fr nowhere)
 replace mm:=(M4.fr nowhere).rd mm (fun _ _=>nw)
 replace mm0:=(M4.fr nowhere).keep mm0 nw
 replace mm1:=(M4.fr nowhere).keep mm1 nw
 have lt0:=hT.lt
 replace hT:=hT.fr (M4.fr nowhere) (fun _ _ _=>nw)
 have m8:Wr H4 H3.size 0 1:=M4.wr 1 (by decide)
 refine O.st rfl rfl sizeOf43 rfl rfl rfl rfl rfl m8 ?_
 intro H5 W5
 have hs5:=W5.size
 replace hF:=hF.trans' W5.fr (fun _ _ _ h=>h) (fun b o hb h=>by have h':=h.1;omega)
 replace mm:=W5.fr.rd mm (fun _ _=>nr (.inl (by omega)))
 replace mm0:=W5.fr.keep mm0 (nr (.inl (by omega)))
 replace mm1:=W5.fr.keep mm1 (nr (.inl (by omega)))
 replace hT:=hT.fr W5.fr (fun b o hb hz=>by have:=lt0 b hb;have h1:=hz.1;omega)
 have cp:=W5.at
 have hPr:PrW H3.size b2 b3 B1.size n [] (fun b=>b=B1.size∨(H2.size≤b∧b<H5.size)) H5:=⟨_,fun _=>False,[],hT,trivial,cp,fun hz=>by have:=lt0 _ hz;omega,fun b hb=>hb.imp id (fun h=>⟨h.1,by omega⟩),.inr ⟨by omega,by omega⟩,fun _ h=>h.elim,fun b hb=>hb.elim (fun h=>by omega) (fun h=>h.2)⟩
 refine ⟨trivial,?_⟩
 refine Uf 0 [1,3,6,7,8] rfl (Ut 1 rfl (Ur 5 545 rfl (Us 0 rfl mm rfl (Uq 1 rfl (O.call rfl rfl rfl call27 rfl (growT_spec hd (ho.fr hF) hol (hi.fr hF) hll) ?_)))))
 rintro _ H6 ⟨I,hIo,hIw,hIb,tr,S,rfl,hM,hF6,hS⟩
 have hs6:=hF6.size
 replace hF:=hF.trans hF6
 replace mm:=hF6.rd mm (fun _ _=>nw)
 replace mm0:=hF6.keep mm0 nw
 replace mm1:=hF6.keep mm1 nw
 replace hPr:=(cbGWalkMut B H3.size b2 b3 B1.size n).fr hPr hF6 (fun _ _ _=>nw)
 have hSb:∀b,S b∨(b<cx.base∧cx.own b)→H5.size≤b:=fun b hb=>hb.elim (hS b) (fun h=>hIw b h.2)
 have hOO:OO ord=OI:=by rw [←hIo];rfl
 have hpl:=Pl.puts_length OI l
 have hSlt:=hM.1.lt
 have hbs:=hM.1.tc.hb
 have hfl:=AbT.ch_le hP hM
 unfold ptr
 refine ⟨trivial,?_⟩
 refine O.mkf rfl rfl rfl rfl rfl rfl (O.call rfl rfl rfl call44 rfl (WalkMut_spec (cbGWalkMut B H3.size b2 b3 B1.size n) call45 hP hM hPr (fun b hb hz=>hz.elim (fun h=>by have:=hSb b (.inl hb);omega) (fun h=>by have:=hSb b (.inl hb);omega)) (fun b hz hb=>hz.elim (fun h=>by have:=hSb b (.inr hb);omega) (fun h=>by have:=hSb b (.inr hb);omega)) (by omega)) ?_)
 rintro _ H7 ⟨Z7,hT7,hF7,hZ7⟩
 obtain ⟨ov,us,hv,hov,hss⟩:=PrW.out hT7
 rw [takes_first] at hss
 replace hF:=hF.trans' hF7 (fun _ _ _ h=>h) (fun b o hb hz=>hz.elim (fun h=>by omega) (fun h=>by omega))
 refine ⟨trivial,?_⟩
 refine Uf 0 [6,7] rfl (Ut 1 rfl (Ur 2 1 rfl (Ul 0 rfl hv (Uf 1 [6] rfl (Go'.ret (vs:=[_]) func19 results19 ⟨rfl,trivial⟩ ?_)))))
 rw [hOO];exact ⟨us,hov,hss,hF,hfl⟩
theorem firstW_spec {B:World} {H:Mem} {u:Value} {l:List (Option Addr×Nat×Nat)} {n:Int} (hi:InS SI.ESl H u l):
  Fn Try.prog B 20 [u,.int .i64 n] H (fun r H'=>InS SI.ESl H' r (firstN l n)∧H'=H):=by
 obtain ⟨a,c,hu⟩:=hi.len
 subst hu
 refine fn_of func20 rfl ntmps20 ?_
 refine (show Go' _ _ _ _ 17 [(0,_),(1,_)] [.code _] _ from ?_)
 refine Ut 1 rfl (Ur 1 0 rfl (Uf 1 [0,1,4] rfl (Ut 2 rfl ?_)))
 by_cases h1:n<1
 ·
  refine Ur 8 0 rfl (Uc 1 rfl (lssT (by omega)) (Uf 6 [0,1,4,12] rfl (Go'.condT rfl (Ut 1 rfl (Ur 2 0 rfl (Uf 2 [0,1,4] rfl (Go'.ret (vs:=[_]) func20 results20 ⟨rfl,trivial⟩ ?_)))))))
  exact ⟨by unfold firstN;rw [if_pos (.inl h1)];exact hi,rfl⟩
 ·
  by_cases h2:(l.length:Int)<n
  ·
   refine Ur 8 0 rfl (Uc 1 rfl (lssF (by omega)) (Uc 4 rfl (gtrT (by omega)) (Uf 1 [0,1,4,12] rfl (Go'.condT rfl (Ut 1 rfl (Ur 2 0 rfl (Uf 2 [0,1,4] rfl (Go'.ret (vs:=[_]) func20 results20 ⟨rfl,trivial⟩ ?_))))))))
   exact ⟨by unfold firstN;rw [if_pos (.inr h2)];exact hi,rfl⟩
  ·
   obtain ⟨m,rfl⟩:=Int.eq_ofNat_of_zero_le (by omega:0≤n)
   refine Ur 8 0 rfl (Uc 1 rfl (lssF (by omega)) (Uc 4 rfl (gtrF (by omega)) (Uf 1 [0,1,4,12] rfl (Go'.condF rfl (Ut 2 rfl (Ur 4 0 rfl (Uq 2 rfl (O.slcIn (E:=SI.ESl) (jl:=0) (jh:=m) rfl rfl rfl rfl underlying38 sizeOf25 rfl hi ⟨_,by rfl⟩ rfl (by omega) (by omega) ?_))))))))
   intro v1 hv1
   rw [List.drop_zero,Nat.sub_zero] at hv1
   refine Uf 1 [4] rfl (Go'.ret (vs:=[_]) func20 results20 ⟨rfl,trivial⟩ ?_)
   exact ⟨by unfold firstN;rw [if_neg (by omega)];exact hv1,rfl⟩
theorem sameL1_spec {B:World} {H:Mem} {u v:Value} {l:List (Int×Int)} (h1:InS EJ H u l) (h2:InS EJ H v l) (hl:l.length≤4294967296):Fn Try.prog B 43 [u,v] H (fun r H'=>r=.bool true∧H'=H):=by
 refine fn_of func43 rfl ntmps43 ?_
 refine (show Go' _ _ _ _ 8 [(0,_),(1,_)] [.code _] _ from ?_)
 refine Ut 1 rfl (Ur 1 0 rfl (Uf 1 [0,1,4] rfl (Ut 1 rfl (Ur 4 32 rfl (Uq 2 rfl (O.callQ rfl rfl rfl call12 rfl (eqItems_spec h1 h2 hl) trivial (Uf 1 [4] rfl (Go'.ret (vs:=[_]) func43 results43 ⟨rfl,trivial⟩ ?_))))))))
 exact ⟨rfl,rfl⟩
theorem equalFunc_spec {B:World} {H:Mem} {u v:Value} {us vs:List (Option Addr×Nat×Nat)} {ls:List (List (Int×Int))} (h1:InS SI.ESl H u us) (h2:InS SI.ESl H v vs) (s1:SI.InSS EJ H us ls) (s2:SI.InSS EJ H vs ls) (hl:us.length≤4294967296) (hll:∀l∈ls,l.length≤4294967296):Fn Try.prog B 42 [u,v,.func (.func 43) #[] #[]] H (fun r H'=>r=.bool true∧H'=H):=by
 have l1:=s1.len
 have l2:=s2.len
 obtain ⟨ua,uc,rfl⟩:=h1.len
 obtain ⟨va,vc,rfl⟩:=h2.len
 rw [l2] at h2 ⊢
 rw [l1] at h1 hl ⊢
 refine fn_of func42 rfl ntmps42 ?_
 refine (show Go' _ _ _ _ 32 [(0,_),(1,_),(2,_)] [.code _] _ from ?_)
 refine Ut 1 rfl (Ur 1 0 rfl (Uf 1 [0,1,2,6] rfl (Ut 2 rfl (Ur 5 0 rfl (Uc 4 rfl (neqF (by omega)) (Uf 0 [0,1,2,6,14] rfl (Go'.condF rfl (Ut 3 rfl (Ur 3 0 rfl (Uf 3 [1,2,6,15,16,17] rfl (Ut 1 rfl ?_)))))))))))
 refine Go'.loop (Uk [1,2,6,15,16,17] rfl (Go'.ind (σ:=Nat) (fun j=>ls.length-j) (fun j H'=>j≤ls.length∧H'=H) (fun j=>[(1,.slice va ls.length vc),(2,.func (.func 43) #[] #[]),(6,.bool false),(15,.slice ua ls.length uc),(16,.int .i64 (ls.length:Int)),(17,.int .i64 (j:Int))]) 0 ⟨Nat.zero_le _,rfl⟩ rfl ?_))
 rintro j H2 ⟨hj,hHH⟩ ih
 have eH:H=H2:=hHH.symm
 subst eH
 clear hHH
 refine Ut 1 rfl ?_
 by_cases hlt:j<ls.length
 ·
  obtain ⟨a,ha⟩:∃a,us[j]?=some a:=⟨us[j]'(by omega),List.getElem?_eq_getElem (by omega)⟩
  obtain ⟨b,hb⟩:∃b,vs[j]?=some b:=⟨vs[j]'(by omega),List.getElem?_eq_getElem (by omega)⟩
  obtain ⟨x,hx,i1⟩:=s1.at ha
  obtain ⟨x',hx',i2⟩:=s2.at hb
  obtain rfl:x=x':=Option.some.inj (hx.symm.trans hx')
  have q1:∃b1 o1 c1,(Value.slice ua ls.length uc)=.slice (some ⟨b1,o1,none⟩) ls.length c1∧Rd H b1 (o1+j*SI.ESl.s) (SI.ESl.enc a):=by
   have:=h1.at ha
   rwa [l1] at this
  have q2:∃b1 o1 c1,(Value.slice va ls.length vc)=.slice (some ⟨b1,o1,none⟩) ls.length c1∧Rd H b1 (o1+j*SI.ESl.s) (SI.ESl.enc b):=by
   have:=h2.at hb
   rwa [l2] at this
  obtain ⟨b1,o1,c1,e1,r1⟩:=q1
  obtain ⟨b2,o2,c2,e2,r2⟩:=q2
  cases e1
  cases e2
  refine Ur 1 0 rfl (Uc 0 rfl (lssT (by omega)) (Uf 0 [1,2,6,15,16,17,18] rfl (Ut 1 rfl (Go'.condT rfl (Ut 4 rfl (Ur 5 16 rfl (Ux 1 j rfl (by omega) hlt (Ul 0 rfl (r1 0 _ rfl) (Uf 2 [1,2,6,7,8,15,16,17,18] rfl (Ut 1 rfl (Ur 5 64 rfl ?_)))))))))))
  refine Ux 2 j rfl (by omega) hlt (Ul 0 rfl (r2 0 _ rfl) (Uf 1 [1,2,6,7,8,9,15,16,17,18] rfl (Ut 1 rfl (Ur 5 128 rfl (Uq 3 rfl (O.callC (us:=[]) (caps:=[]) rfl rfl rfl rfl call43 rfl (sameL1_spec i1 i2 (hll x (List.mem_of_getElem? hx))) ?_))))))
  rintro _ H3 ⟨rfl,e3⟩
  have e4:H=H3:=e3.symm
  subst e4
  refine ⟨trivial,?_⟩
  refine Uf 1 [1,2,6,7,8,9,15,16,17,18,30] rfl (Go'.condF rfl (Ut 2 rfl (Ur 2 0 rfl (Ua 0 (((j+1:Nat):Int)) rfl (by omega) (Uf 1 [1,2,6,7,8,9,15,16,17,18,30] rfl (Uk [1,2,6,15,16,17] rfl (Go'.inLoop ?_)))))))
  exact ih (j+1) H ⟨hlt,rfl⟩ (by omega)
 ·
  refine Ur 1 0 rfl (Uc 0 rfl (lssF (by omega)) (Uf 0 [1,2,6,15,16,17,18] rfl (Ut 1 rfl (Go'.condF rfl (Ut 2 rfl (Ur 1 0 rfl (Uf 1 [6] rfl (Go'.ret (vs:=[_]) func42 results42 ⟨rfl,trivial⟩ ?_))))))))
  exact ⟨rfl,rfl⟩
theorem sameLists_spec {B:World} {H:Mem} {u v:Value} {us vs:List (Option Addr×Nat×Nat)} {ls:List (List (Int×Int))} (h1:InS SI.ESl H u us) (h2:InS SI.ESl H v vs) (s1:SI.InSS EJ H us ls) (s2:SI.InSS EJ H vs ls) (hl:us.length≤4294967296) (hll:∀l∈ls,l.length≤4294967296):Fn Try.prog B 18 [u,v] H (fun r H'=>r=.bool true∧H'=H):=by
 refine fn_of func18 rfl ntmps18 ?_
 refine (show Go' _ _ _ _ 8 [(0,_),(1,_)] [.code _] _ from ?_)
 refine Ut 1 rfl (Ur 1 0 rfl (Uf 1 [0,1,4] rfl (Ut 1 rfl (Ur 4 32 rfl (Uq 2 rfl (O.callQ rfl rfl rfl call42 rfl (equalFunc_spec h1 h2 s1 s2 hl hll) trivial (Uf 1 [4] rfl (Go'.ret (vs:=[_]) func18 results18 ⟨rfl,trivial⟩ ?_))))))))
 exact ⟨rfl,rfl⟩
theorem most_spec {B:World} {H:Mem} {u:Value} {l:List (Int×Int)} {mb mx:Nat} (h:InS EJ H u l) (hm:cl H mb 0=some (.int .i64 (mx:Int))) (h1:1≤l.length) (h2:l.length≤mx):Fn Try.prog B 17 [u,ptr mb] H (fun r H'=>r=.bool false∧H'=H):=by
 obtain ⟨ua,uc,rfl⟩:=h.len
 unfold ptr
 refine fn_of func17 rfl ntmps17 ?_
 refine (show Go' _ _ _ _ 13 [(0,_),(1,_)] [.code _] _ from ?_)
 refine Ut 1 rfl (Ur 1 0 rfl (Uf 1 [0,1,3] rfl (Ut 1 rfl (Ur 10 4096 rfl (Uc 2 rfl (eqlF (by omega)) (Ul 3 rfl hm (Uc 0 rfl (gtrF (by omega)) (Uf 2 [3] rfl (Go'.ret (vs:=[_]) func17 results17 ⟨rfl,trivial⟩ ?_)))))))))
 exact ⟨rfl,rfl⟩
theorem indexFunc_spec {B:World} {H:Mem} {u:Value} {us:List (Option Addr×Nat×Nat)} {ls:List (List (Int×Int))} {mb mx:Nat} (h1:InS SI.ESl H u us) (s1:SI.InSS EJ H us ls) (hm:cl H mb 0=some (.int .i64 (mx:Int))) (hl:us.length≤4294967296) (hll:∀l∈ls,1≤l.length∧l.length≤mx):Fn Try.prog B 41 [u,.func (.func 17) #[] #[ptr mb]] H (fun r H'=>r=.int .i64 (-1)∧H'=H):=by
 have l1:=s1.len
 obtain ⟨ua,uc,rfl⟩:=h1.len
 rw [l1] at h1 hl ⊢
 refine fn_of func41 rfl ntmps41 ?_
 refine (show Go' _ _ _ _ 19 [(0,_),(1,_)] [.code _] _ from ?_)
 refine Ut 1 rfl (Ur 1 0 rfl (Uf 1 [0,1,4] rfl (Ut 2 rfl (Ur 3 0 rfl (Uf 3 [0,1,4,7,8] rfl (Ut 1 rfl (Go'.loop (Uk [0,1,4,7,8] rfl (Go'.ind (σ:=Nat) (fun j=>ls.length-j) (fun j H'=>j≤ls.length∧H'=H) (fun j=>[(0,.slice ua ls.length uc),(1,.func (.func 17) #[] #[ptr mb]),(4,.int .i64 0),(7,.int .i64 (ls.length:Int)),(8,.int .i64 (j:Int))]) 0 ⟨Nat.zero_le _,rfl⟩ rfl ?_)))))))))
 rintro j H2 ⟨hj,hHH⟩ ih
 have eH:H=H2:=hHH.symm
 subst eH
 clear hHH
 refine Ut 1 rfl ?_
 by_cases hlt:j<ls.length
 ·
  obtain ⟨a,ha⟩:∃a,us[j]?=some a:=⟨us[j]'(by omega),List.getElem?_eq_getElem (by omega)⟩
  obtain ⟨x,hx,i1⟩:=s1.at ha
  have q1:∃b1 o1 c1,(Value.slice ua ls.length uc)=.slice (some ⟨b1,o1,none⟩) ls.length c1∧Rd H b1 (o1+j*SI.ESl.s) (SI.ESl.enc a):=by
   have:=h1.at ha
   rwa [l1] at this
  obtain ⟨b1,o1,c1,e1,r1⟩:=q1
  cases e1
  obtain ⟨g1,g2⟩:=hll x (List.mem_of_getElem? hx)
  refine Ur 1 0 rfl (Uc 0 rfl (lssT (by omega)) (Uf 0 [0,1,4,7,8,9] rfl (Ut 1 rfl (Go'.condT rfl (Ut 4 rfl (Ur 2 0 rfl (Uf 2 [0,1,4,5,7,8,9] rfl (Ut 1 rfl (Ur 6 2304 rfl (Ux 3 j rfl (by omega) hlt (Ul 0 rfl (r1 0 _ rfl) ?_)))))))))))
  refine O.callC (us:=[]) (caps:=[ptr mb]) rfl rfl rfl rfl call17 rfl (most_spec i1 hm g1 g2) ?_
  rintro _ H3 ⟨rfl,e3⟩
  have e4:H=H3:=e3.symm
  subst e4
  refine ⟨trivial,?_⟩
  refine Uf 0 [0,1,4,5,7,8,9,16] rfl (Go'.condF rfl (Ut 2 rfl (Ur 2 0 rfl (Ua 0 (((j+1:Nat):Int)) rfl (by omega) (Uf 1 [0,1,4,5,7,8,9,16] rfl (Uk [0,1,4,7,8] rfl (Go'.inLoop ?_)))))))
  exact ih (j+1) H ⟨hlt,rfl⟩ (by omega)
 ·
  refine Ur 1 0 rfl (Uc 0 rfl (lssF (by omega)) (Uf 0 [0,1,4,7,8,9] rfl (Ut 1 rfl (Go'.condF rfl (Ut 2 rfl (Ur 1 0 rfl (Uf 1 [4] rfl (Go'.ret (vs:=[_]) func41 results41 ⟨rfl,trivial⟩ ?_))))))))
  exact ⟨rfl,rfl⟩
theorem containsFunc_spec {B:World} {H:Mem} {u:Value} {us:List (Option Addr×Nat×Nat)} {ls:List (List (Int×Int))} {mb mx:Nat} (h1:InS SI.ESl H u us) (s1:SI.InSS EJ H us ls) (hm:cl H mb 0=some (.int .i64 (mx:Int))) (hl:us.length≤4294967296) (hll:∀l∈ls,1≤l.length∧l.length≤mx):Fn Try.prog B 16 [u,.func (.func 17) #[] #[ptr mb]] H (fun r H'=>r=.bool false∧H'=H):=by
 refine fn_of func16 rfl ntmps16 ?_
 refine (show Go' _ _ _ _ 9 [(0,_),(1,_)] [.code _] _ from ?_)
 refine Ut 1 rfl (Ur 1 0 rfl (Uf 1 [0,1,4] rfl (Ut 1 rfl (Ur 5 32 rfl (Uq 2 rfl (O.callQ rfl rfl rfl call41 rfl (indexFunc_spec h1 s1 hm hl hll) trivial (Uc 0 rfl (geqF (by omega)) (Uf 1 [4] rfl (Go'.ret (vs:=[_]) func16 results16 ⟨rfl,trivial⟩ ?_)))))))))
 exact ⟨rfl,rfl⟩
end Go.Bt.FG
namespace Go.Bt.FG
open Go Go.Proofs Go.Proofs.Try
set_option maxRecDepth 20000
set_option maxHeartbeats 4000000
set_option linter.unusedSectionVars false
theorem wf_u8 {z:Int} (h:(Lit.int .u8 z).wf=true):0≤z∧z<256:=by
 have e1:IntKind.u8.min=0:=rfl
 have e2:IntKind.u8.max=255:=rfl
 unfold Lit.wf at h
 rw [Bool.and_eq_true,decide_eq_true_eq,decide_eq_true_eq,e1,e2] at h
 omega
end Go.Bt.FG
namespace Go.Bt.FG
open Go Go.Proofs Go.Proofs.Try
set_option maxRecDepth 20000
set_option maxHeartbeats 4000000
set_option linter.unusedSectionVars false
theorem firstN_0 {α:Type} (m:List α):firstN m 0=m:=by unfold firstN;simp
theorem firstN_mem {α:Type} {m:List α} {n:Int} {x:α} (h:x∈firstN m n):x∈m:=by
 unfold firstN at h
 split at h
 · exact h
 · exact List.mem_of_mem_take h
theorem fnGWalks {B:World} {H:Mem} {z:Int} {nl:Bool} {v u:Value} {ord:List Int} {l:List (Int×Int)} {kk:Int} (ho:InS EN H v ord) (hi:InS EJ H u l) (hkk:0≤kk∧kk<256):
  Fn Try.prog B 4 [.agg #[v,.int .i64 z,.bool nl],u,.int .u8 kk] H (fun r H'=>r=.bool true∧Fr nowhere H H'):=by
 obtain ⟨a,c,hu⟩:=hi.len
 subst hu
 obtain ⟨av,mv,cv,hv⟩:=InS.form ho
 subst hv
 have hF:Fr nowhere H H:=Fr.refl _ _
 refine fn_of func4 rfl ntmps4 ?_
 refine (show Go' _ _ _ _ 64 [(0,_),(1,_),(2,_)] [.code _] _ from ?_)
 refine Ut 1 rfl (Ur 2 2 rfl (O.box rfl rfl rfl rfl ?_))
 intro B1 MB1
 refine ⟨trivial,?_⟩
 have hsB1:=MB1.size
 replace hF:=hF.trans (MB1.fr nowhere)
 have mm:Rd B1 H.size 0 [.slice av mv cv,.int .i64 z,.bool nl]:=MB1.rd _ [] (by simp [Value.cells])
 have mm0:cl B1 H.size 0=some (.slice av mv cv):=mm 0 _ rfl
 have mm1:cl B1 H.size (0+1)=some (.int .i64 z):=mm 1 _ rfl
 refine Uf 1 [1,2,3,6] rfl (Ut 2 rfl ?_)
 cases hoz:decide (ord.length≤2147483647)
 ·
  refine Ur 8 9 rfl (Us 0 rfl mm rfl (O.call rfl rfl rfl call7 rfl (zzFits1_spec (ho.fr hF) hoz) ?_))
  rintro _ Hz ⟨rfl,hFz⟩
  replace hF:=hF.trans hFz
  replace mm:=hFz.rd mm (fun _ _=>nw)
  replace mm0:=hFz.keep mm0 nw
  replace mm1:=hFz.keep mm1 nw
  refine ⟨trivial,?_⟩
  refine Uf 6 [1,2,3,6,16] rfl (Go'.condT rfl (Ut 1 rfl (Ur 1 0 rfl (Uf 1 [1,2,3,6] rfl (Go'.ret (vs:=[_]) func4 results4 ⟨rfl,trivial⟩ ?_)))))
  exact ⟨rfl,hF⟩
 ·
  have hoz2:=of_decide_eq_true hoz
  by_cases hb_lenl:(2147483647:Int)<(l.length:Int)
  ·
   refine Ur 8 9 rfl (Us 0 rfl mm rfl (O.call rfl rfl rfl call7 rfl (zzFits1_spec (ho.fr hF) hoz) ?_))
   rintro _ Hz ⟨rfl,hFz⟩
   replace hF:=hF.trans hFz
   replace mm:=hFz.rd mm (fun _ _=>nw)
   replace mm0:=hFz.keep mm0 nw
   replace mm1:=hFz.keep mm1 nw
   refine ⟨trivial,?_⟩
   refine Uc 4 rfl (gtrT (by omega)) (Uf 1 [1,2,3,6,16] rfl (Go'.condT rfl (Ut 1 rfl (Ur 1 0 rfl (Uf 1 [1,2,3,6] rfl (Go'.ret (vs:=[_]) func4 results4 ⟨rfl,trivial⟩ ?_))))))
   exact ⟨rfl,hF⟩
  ·
   refine Ur 8 9 rfl (Us 0 rfl mm rfl (O.call rfl rfl rfl call7 rfl (zzFits1_spec (ho.fr hF) hoz) ?_))
   rintro _ Hz ⟨rfl,hFz⟩
   replace hF:=hF.trans hFz
   replace mm:=hFz.rd mm (fun _ _=>nw)
   replace mm0:=hFz.keep mm0 nw
   replace mm1:=hFz.keep mm1 nw
   refine ⟨trivial,?_⟩
   refine Uc 4 rfl (gtrF (by omega)) (Uf 1 [1,2,3,6,16] rfl (Go'.condF rfl (Ut 3 rfl ?_)))
   have hpl:=Pl.puts_length (OO ord) l
   cases hfz:fitsb z
   ·
    refine Ur 3 9 rfl (Us 0 rfl mm rfl (O.call rfl rfl rfl call8 rfl (lfits_spec ⟨_,_,_,rfl⟩ hfz) ?_))
    rintro _ H6 ⟨rfl,hF6⟩
    replace hF:=hF.trans hF6
    replace mm:=hF6.rd mm (fun _ _=>nw)
    replace mm0:=hF6.keep mm0 nw
    replace mm1:=hF6.keep mm1 nw
    refine ⟨trivial,?_⟩
    refine Uf 1 [1,2,3,6,19] rfl (Go'.condT rfl (Ut 1 rfl (Ur 2 2 rfl (O.call rfl rfl rfl call9 rfl alive_spec ?_))))
    rintro _ Hv ⟨rfl,hFv⟩
    replace hF:=hF.trans hFv
    replace mm:=hFv.rd mm (fun _ _=>nw)
    replace mm0:=hFv.keep mm0 nw
    replace mm1:=hFv.keep mm1 nw
    refine ⟨trivial,?_⟩
    refine Uf 1 [1,2,3,6] rfl (Go'.ret (vs:=[_]) func4 results4 ⟨rfl,trivial⟩ ?_)
    exact ⟨rfl,hF⟩
   ·
    obtain ⟨d,rfl,hd⟩:=fitsb_nat hfz
    refine Ur 3 9 rfl (Us 0 rfl mm rfl (O.call rfl rfl rfl call8 rfl (lfits_spec ⟨_,_,_,rfl⟩ hfz) ?_))
    rintro _ H6 ⟨rfl,hF6⟩
    replace hF:=hF.trans hF6
    replace mm:=hF6.rd mm (fun _ _=>nw)
    replace mm0:=hF6.keep mm0 nw
    replace mm1:=hF6.keep mm1 nw
    refine ⟨trivial,?_⟩
    refine Uf 1 [1,2,3,6,19] rfl (Go'.condF rfl (Ut 2 rfl (Ur 4 33 rfl (Us 0 rfl mm rfl (Uq 1 rfl (O.call rfl rfl rfl call13 rfl (igwalk_spec hd (ho.fr hF) (by omega) (hi.fr hF) (by omega) (n:=0)) ?_))))))
    rintro v1 H7 ⟨us,hov,hss,hF7,hfl,hcb⟩
    have hs7:=hF7.size
    replace hF:=hF.trans hF7
    replace mm:=hF7.rd mm (fun _ _=>nw)
    replace mm0:=hF7.keep mm0 nw
    replace mm1:=hF7.keep mm1 nw
    rw [firstN_0] at hss
    have hH7:=cl_lt mm1
    have hA:=hov.inS
    obtain ⟨ua,uc,hue⟩:=hA.len
    subst hue
    have hul:=hss.len
    have hA0:=hA
    have hss0:=hss
    have hcl:=Pl.flat_len fun c hc=>(hcb c hc).1
    rw [hfl] at hcl
    have hhd:=hd
    refine ⟨trivial,?_⟩
    refine Uf 1 [1,2,3,6,7] rfl (Ut 1 rfl ?_)
    rcases hhd with hd0|hd2
    ·
     refine Ur 6 2564 rfl (Ul 1 rfl mm1 (O.mul (((2*d:Nat):Int)) rfl rfl rfl rfl rfl rfl (by omega) (by omega) (Ub 0 ((-1:Int)) rfl (by omega) (O.alloc rfl rfl rfl zeroValue3 ?_))))
     intro H8 M8
     refine ⟨trivial,?_⟩
     have hs8:=M8.size
     have mw:Wr H8 H7.size 0 1:=M8.wr 1 (by decide)
     have ml1:=(M8.fr nowhere).keep mm1 nw
     refine O.st rfl rfl sizeOf3 rfl rfl rfl rfl rfl mw ?_
     intro H9 W9
     have hs9:=W9.size
     have hF9:Fr nowhere H7 H9:=(M8.fr nowhere).trans' W9.fr (fun _ _ _ h=>h) (fun b o hb h=>by have h':=h.1;omega)
     replace hF:=hF.trans hF9
     replace mm:=hF9.rd mm (fun _ _=>nw)
     replace mm0:=hF9.keep mm0 nw
     replace mm1:=hF9.keep mm1 nw
     replace hA:=hA.fr hF9
     replace hss:=hss.fr hF9
     replace mw:=W9.fr.wr mw
     have mm8:=W9.at
     refine ⟨trivial,?_⟩
     refine Uf 0 [1,2,3,6,7,8] rfl (Ut 2 rfl (Ur 3 4 rfl (Ul 1 rfl mm1 (Uc 0 rfl (eqlT (by omega)) (Uf 0 [1,2,3,6,7,8,30] rfl (Go'.condT rfl (Ur 1 2 rfl (O.st rfl rfl sizeOf3 rfl rfl rfl rfl rfl mw ?_))))))))
     intro Ha Wa
     have hsa:=Wa.size
     have hFa:Fr (fun b _=>b=H7.size) H9 Ha:=Wa.fr.mono (fun b o _ h=>h.1)
     have hF7a:Fr nowhere H7 Ha:=hF9.trans' hFa (fun _ _ _ h=>h) (fun b o hb h=>by have h':b=H7.size:=h;omega)
     replace hF:=hF.trans' hFa (fun _ _ _ h=>h) (fun b o hb h=>by have h':b=H7.size:=h;omega)
     replace mm:=Wa.fr.rd mm (fun _ _=>nr (.inl (by omega)))
     replace mm0:=Wa.fr.keep mm0 (nr (.inl (by omega)))
     replace mm1:=Wa.fr.keep mm1 (nr (.inl (by omega)))
     replace hA:=hA0.fr hF7a
     replace hss:=hss0.fr hF7a
     have mm8:=Wa.at
     refine ⟨trivial,?_⟩
     refine Uf 0 [1,2,3,6,7,8] rfl (Ut 2 rfl ?_)
     have hmx:(PD d).mx=63:=by subst hd0;rfl
     have hcb2:∀c∈(AbT.ch (AbT.puts (OO ord) (PD d).mx (PD d).mn l)),1≤c.length∧c.length≤63:=fun c hc=>⟨(hcb c hc).1,Nat.le_trans (hcb c hc).2 (Nat.le_of_eq hmx)⟩
     refine Go'.draw (fun H'=>cl H' H.size 0=some (.slice av mv cv)) [(0,0),(2,0),(3,0),(4,0),(1,2),(5,2),(6,2),(7,0),(8,0),(9,0),(10,0),(11,2),(12,0)] (by kernel_rfl) (by kernel_rfl) (mm0) (UL 2 rfl (fun _ h=>h) (Uq 1 rfl (O.call rfl rfl rfl call14 rfl (SI.concatA_spec hA hss (by rw [hfl];omega) (by omega)) ?_)))
     rintro vb Hb ⟨hb,hFb⟩
     replace hF:=hF.trans hFb
     replace mm:=hFb.rd mm (fun _ _=>nw)
     replace mm0:=hFb.keep mm0 nw
     replace mm1:=hFb.keep mm1 nw
     replace hA:=hA.fr hFb
     replace hss:=hss.fr hFb
     replace mm8:=hFb.keep mm8 nw
     rw [hfl] at hb
     replace hb:=hb.inS
     refine ⟨mm0,?_⟩
     refine O.call rfl rfl rfl call15 rfl (tree_spec (ho.fr hF) (by omega) (hi.fr hF) (by omega)) ?_
     rintro vc Hc ⟨hc,hFc⟩
     replace hF:=hF.trans hFc
     replace mm:=hFc.rd mm (fun _ _=>nw)
     replace mm0:=hFc.keep mm0 nw
     replace mm1:=hFc.keep mm1 nw
     replace hA:=hA.fr hFc
     replace hss:=hss.fr hFc
     replace mm8:=hFc.keep mm8 nw
     replace hb:=hb.fr hFc
     refine ⟨mm0,?_⟩
     refine O.callQ rfl rfl rfl call12 rfl (eqItems_spec hb hc.inS (by omega)) mm0 (Uq 3 rfl (O.mkf rfl rfl rfl rfl rfl rfl (O.callQ rfl rfl rfl call16 rfl (containsFunc_spec (mb:=H7.size) (mx:=63) hA hss mm8 (by omega) hcb2) mm0 (Uf 1 [1,2,3,6,7,43] rfl (Go'.condF rfl (Ut 2 rfl (Ur 21 140260151841 rfl (Us 0 rfl mm rfl (Uq 1 rfl (O.call rfl rfl rfl call19 rfl (igwalkmut_spec hd (ho.fr hF) (by omega) (hi.fr hF) (by omega) (n:=0)) ?_))))))))))
     rintro vd Hd ⟨us2,hov2,hss2,hFd,_,_⟩
     replace hF:=hF.trans hFd
     replace mm:=hFd.rd mm (fun _ _=>nw)
     replace mm0:=hFd.keep mm0 nw
     replace mm1:=hFd.keep mm1 nw
     replace hA:=hA.fr hFd
     replace hss:=hss.fr hFd
     replace mm8:=hFd.keep mm8 nw
     rw [firstN_0] at hss2
     have hul2:=hss2.len
     refine ⟨trivial,?_⟩
     refine Uq 1 rfl (O.callQ rfl rfl rfl call18 rfl (sameLists_spec hov2.inS hA hss2 hss (by omega) (fun c hc=>by have:=(hcb2 c hc).2;omega)) trivial (Us 1 rfl mm rfl (Uq 2 rfl (O.cvi (v:=kk) rfl rfl rfl (by rw [underlying5];rfl) underlying3 rfl rfl (wrap_id (by omega)) trivial (O.call rfl rfl rfl call13 rfl (igwalk_spec hd (ho.fr hF) (by omega) (hi.fr hF) (by omega) (n:=kk)) ?_)))))
     rintro ve He ⟨us3,hov3,hss3,hFe,_,_⟩
     replace hF:=hF.trans hFe
     replace mm:=hFe.rd mm (fun _ _=>nw)
     replace mm0:=hFe.keep mm0 nw
     replace mm1:=hFe.keep mm1 nw
     replace hA:=hA.fr hFe
     replace hss:=hss.fr hFe
     replace mm8:=hFe.keep mm8 nw
     have hul3:=hss3.len
     have hfl3:=firstN_len (AbT.ch (AbT.puts (OO ord) (PD d).mx (PD d).mn l)) kk
     refine ⟨trivial,?_⟩
     refine Uq 2 rfl (O.cvi (v:=kk) rfl rfl rfl (by rw [underlying5];rfl) underlying3 rfl rfl (wrap_id (by omega)) trivial (O.call rfl rfl rfl call20 rfl (firstW_spec (n:=kk) hA) ?_))
     rintro vf Hf ⟨hvf,ef⟩
     have ef2:He=Hf:=ef.symm
     subst ef2
     refine ⟨trivial,?_⟩
     refine O.callQ rfl rfl rfl call18 rfl (sameLists_spec hov3.inS hvf hss3 (InSS.firstN hss) (by omega) (fun c hc=>by have:=(hcb2 c (firstN_mem hc)).2;omega)) trivial (Uq 2 rfl (O.call rfl rfl rfl call9 rfl alive_spec ?_))
     rintro _ Hv ⟨rfl,hFv⟩
     replace hF:=hF.trans hFv
     replace mm:=hFv.rd mm (fun _ _=>nw)
     replace mm0:=hFv.keep mm0 nw
     replace mm1:=hFv.keep mm1 nw
     refine ⟨trivial,?_⟩
     refine Uf 2 [6] rfl (Go'.ret (vs:=[_]) func4 results4 ⟨rfl,trivial⟩ ?_)
     exact ⟨rfl,hF⟩
    ·
     refine Ur 6 2564 rfl (Ul 1 rfl mm1 (O.mul (((2*d:Nat):Int)) rfl rfl rfl rfl rfl rfl (by omega) (by omega) (Ub 0 (((2*d-1:Nat):Int)) rfl (by omega) (O.alloc rfl rfl rfl zeroValue3 ?_))))
     intro H8 M8
     refine ⟨trivial,?_⟩
     have hs8:=M8.size
     have mw:Wr H8 H7.size 0 1:=M8.wr 1 (by decide)
     have ml1:=(M8.fr nowhere).keep mm1 nw
     refine O.st rfl rfl sizeOf3 rfl rfl rfl rfl rfl mw ?_
     intro H9 W9
     have hs9:=W9.size
     have hF9:Fr nowhere H7 H9:=(M8.fr nowhere).trans' W9.fr (fun _ _ _ h=>h) (fun b o hb h=>by have h':=h.1;omega)
     replace hF:=hF.trans hF9
     replace mm:=hF9.rd mm (fun _ _=>nw)
     replace mm0:=hF9.keep mm0 nw
     replace mm1:=hF9.keep mm1 nw
     replace hA:=hA.fr hF9
     replace hss:=hss.fr hF9
     replace mw:=W9.fr.wr mw
     have mm8:=W9.at
     refine ⟨trivial,?_⟩
     refine Uf 0 [1,2,3,6,7,8] rfl (Ut 2 rfl (Ur 3 4 rfl (Ul 1 rfl mm1 (Uc 0 rfl (eqlF (by omega)) (Uf 0 [1,2,3,6,7,8,30] rfl (Go'.condF rfl (Ut 3 rfl ?_)))))))
     have hmx:(PD d).mx=(2*d-1):=by show 2*dg d-1=2*d-1;unfold dg;rw [if_neg (by omega)]
     have hcb2:∀c∈(AbT.ch (AbT.puts (OO ord) (PD d).mx (PD d).mn l)),1≤c.length∧c.length≤(2*d-1):=fun c hc=>⟨(hcb c hc).1,Nat.le_trans (hcb c hc).2 (Nat.le_of_eq hmx)⟩
     refine Go'.draw (fun H'=>cl H' H.size 0=some (.slice av mv cv)) [(0,0),(2,0),(3,0),(4,0),(1,2),(5,2),(6,2),(7,0),(8,0),(9,0),(10,0),(11,2),(12,0)] (by kernel_rfl) (by kernel_rfl) (mm0) (UL 2 rfl (fun _ h=>h) (Uq 1 rfl (O.call rfl rfl rfl call14 rfl (SI.concatA_spec hA hss (by rw [hfl];omega) (by omega)) ?_)))
     rintro vb Hb ⟨hb,hFb⟩
     replace hF:=hF.trans hFb
     replace mm:=hFb.rd mm (fun _ _=>nw)
     replace mm0:=hFb.keep mm0 nw
     replace mm1:=hFb.keep mm1 nw
     replace hA:=hA.fr hFb
     replace hss:=hss.fr hFb
     replace mm8:=hFb.keep mm8 nw
     rw [hfl] at hb
     replace hb:=hb.inS
     refine ⟨mm0,?_⟩
     refine O.call rfl rfl rfl call15 rfl (tree_spec (ho.fr hF) (by omega) (hi.fr hF) (by omega)) ?_
     rintro vc Hc ⟨hc,hFc⟩
     replace hF:=hF.trans hFc
     replace mm:=hFc.rd mm (fun _ _=>nw)
     replace mm0:=hFc.keep mm0 nw
     replace mm1:=hFc.keep mm1 nw
     replace hA:=hA.fr hFc
     replace hss:=hss.fr hFc
     replace mm8:=hFc.keep mm8 nw
     replace hb:=hb.fr hFc
     refine ⟨mm0,?_⟩
     refine O.callQ rfl rfl rfl call12 rfl (eqItems_spec hb hc.inS (by omega)) mm0 (Uq 3 rfl (O.mkf rfl rfl rfl rfl rfl rfl (O.callQ rfl rfl rfl call16 rfl (containsFunc_spec (mb:=H7.size) (mx:=(2*d-1)) hA hss mm8 (by omega) hcb2) mm0 (Uf 1 [1,2,3,6,7,43] rfl (Go'.condF rfl (Ut 2 rfl (Ur 21 140260151841 rfl (Us 0 rfl mm rfl (Uq 1 rfl (O.call rfl rfl rfl call19 rfl (igwalkmut_spec hd (ho.fr hF) (by omega) (hi.fr hF) (by omega) (n:=0)) ?_))))))))))
     rintro vd Hd ⟨us2,hov2,hss2,hFd,_,_⟩
     replace hF:=hF.trans hFd
     replace mm:=hFd.rd mm (fun _ _=>nw)
     replace mm0:=hFd.keep mm0 nw
     replace mm1:=hFd.keep mm1 nw
     replace hA:=hA.fr hFd
     replace hss:=hss.fr hFd
     replace mm8:=hFd.keep mm8 nw
     rw [firstN_0] at hss2
     have hul2:=hss2.len
     refine ⟨trivial,?_⟩
     refine Uq 1 rfl (O.callQ rfl rfl rfl call18 rfl (sameLists_spec hov2.inS hA hss2 hss (by omega) (fun c hc=>by have:=(hcb2 c hc).2;omega)) trivial (Us 1 rfl mm rfl (Uq 2 rfl (O.cvi (v:=kk) rfl rfl rfl (by rw [underlying5];rfl) underlying3 rfl rfl (wrap_id (by omega)) trivial (O.call rfl rfl rfl call13 rfl (igwalk_spec hd (ho.fr hF) (by omega) (hi.fr hF) (by omega) (n:=kk)) ?_)))))
     rintro ve He ⟨us3,hov3,hss3,hFe,_,_⟩
     replace hF:=hF.trans hFe
     replace mm:=hFe.rd mm (fun _ _=>nw)
     replace mm0:=hFe.keep mm0 nw
     replace mm1:=hFe.keep mm1 nw
     replace hA:=hA.fr hFe
     replace hss:=hss.fr hFe
     replace mm8:=hFe.keep mm8 nw
     have hul3:=hss3.len
     have hfl3:=firstN_len (AbT.ch (AbT.puts (OO ord) (PD d).mx (PD d).mn l)) kk
     refine ⟨trivial,?_⟩
     refine Uq 2 rfl (O.cvi (v:=kk) rfl rfl rfl (by rw [underlying5];rfl) underlying3 rfl rfl (wrap_id (by omega)) trivial (O.call rfl rfl rfl call20 rfl (firstW_spec (n:=kk) hA) ?_))
     rintro vf Hf ⟨hvf,ef⟩
     have ef2:He=Hf:=ef.symm
     subst ef2
     refine ⟨trivial,?_⟩
     refine O.callQ rfl rfl rfl call18 rfl (sameLists_spec hov3.inS hvf hss3 (InSS.firstN hss) (by omega) (fun c hc=>by have:=(hcb2 c (firstN_mem hc)).2;omega)) trivial (Uq 2 rfl (O.call rfl rfl rfl call9 rfl alive_spec ?_))
     rintro _ Hv ⟨rfl,hFv⟩
     replace hF:=hF.trans hFv
     replace mm:=hFv.rd mm (fun _ _=>nw)
     replace mm0:=hFv.keep mm0 nw
     replace mm1:=hFv.keep mm1 nw
     refine ⟨trivial,?_⟩
     refine Uf 2 [6] rfl (Go'.ret (vs:=[_]) func4 results4 ⟨rfl,trivial⟩ ?_)
     exact ⟨rfl,hF⟩
end Go.Bt.FG
