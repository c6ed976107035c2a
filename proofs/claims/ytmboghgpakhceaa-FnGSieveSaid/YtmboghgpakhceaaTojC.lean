/- Contracts of functions of the program, proved by walking through their code. Conditions: those that each theorem names. -/
import Derived.Test.YtmboghgpakhceaaToiR
import Derived.Test.YtmboghgpakhceaaTogD
import Derived.Test.YtmboghgpakhceaaToSv
set_option linter.unusedVariables false
namespace Go.Bt.FG
open Go Go.Proofs Go.Proofs.Try
set_option maxRecDepth 20000
set_option maxHeartbeats 4000000
set_option linter.unusedSectionVars false
theorem wf_u16 {z:Int} (h:(Lit.int .u16 z).wf=true):0≤z∧z<65536:=by
 have e1:IntKind.u16.min=0:=rfl
 have e2:IntKind.u16.max=65535:=rfl
 unfold Lit.wf at h
 rw [Bool.and_eq_true,decide_eq_true_eq,decide_eq_true_eq,e1,e2] at h
 omega
theorem igdelete_spec {B:World} {H:Mem} {d:Nat} {nl:Bool} {v u:Value} {ord:List Int} {l ks:List (Int×Int)} {va:Value} (hd:d=0∨2≤d∧d≤128) (ho:InS EN H v ord) (hol:ord.length≤4294967296) (hi:InS EJ H u l) (hll:l.length≤4294967296) (ha:InS EJ H va ks) (hal:ks.length≤4294967296):
  Fn Try.prog B 56 [.agg #[v,.int .i64 (d:Int),.bool nl],u,va] H (fun r H'=>∃v1 v2,r=.tuple #[v1,v2]∧OutS EF H' v1 (Pl.runs (Pl.delk (OO ord)) (Pl.puts (OO ord) l) ks).2∧OutS EJ H' v2 (Pl.runs (Pl.delk (OO ord)) (Pl.puts (OO ord) l) ks).1∧Fr nowhere H H'):=by
 obtain ⟨a,c,hu⟩:=hi.len
 subst hu
 obtain ⟨av,mv,cv,hv⟩:=InS.form ho
 subst hv
 have hF:Fr nowhere H H:=Fr.refl _ _
 have hP:=PD_ok hd
 obtain ⟨aa,ca,ha0⟩:=ha.len
 subst ha0
 refine fn_of func56 rfl ntmps56 ?_
 refine (show Go' _ _ _ _ 34 [(0,_),(1,_),(2,_)] [.code _] _ from ?_)
 refine Ut 1 rfl (Ur 3 2 rfl (O.box rfl rfl rfl rfl ?_))
 intro B1 MB1
 refine ⟨trivial,?_⟩
 have hsB1:=MB1.size
 replace hF:=hF.trans (MB1.fr nowhere)
 have mm:Rd B1 H.size 0 [.slice av mv cv,.int .i64 (d:Int),.bool nl]:=MB1.rd _ [] (by simp [Value.cells])
 have mm0:cl B1 H.size 0=some (.slice av mv cv):=mm 0 _ rfl
 have mm1:cl B1 H.size (0+1)=some (.int .i64 (d:Int)):=mm 1 _ rfl
 refine Uf 2 [1,2,3,6,7] rfl (Ut 1 rfl (Ur 4 33 rfl (Us 0 rfl mm rfl (Uq 1 rfl (O.call rfl rfl rfl call68 rfl (grow_spec hd (ho.fr hF) hol (hi.fr hF) hll) ?_)))))
 rintro _ H3 ⟨I,hIo,hIw,hIb,tr,S,rfl,hM,hF3,hS⟩
 have hs3:=hF3.size
 replace hF:=hF.trans hF3
 replace mm:=hF3.rd mm (fun _ _=>nw)
 replace mm0:=hF3.keep mm0 nw
 replace mm1:=hF3.keep mm1 nw
 have hSb:∀b,S b∨(b<cx.base∧cx.own b)→B1.size≤b:=fun b hb=>hb.elim (hS b) (fun h=>hIw b h.2)
 have hOO:OO ord=OI:=by rw [←hIo];rfl
 have hpl:=Pl.puts_length OI l
 have hSlt:=hM.lt
 have hbs:=hM.tc.hb
 unfold ptr
 refine ⟨trivial,?_⟩
 refine Uf 1 [2,6,7,8] rfl (Ut 1 rfl (Ur 1 0 rfl (Uf 1 [2,6,7,8,9] rfl (Ut 2 rfl (Ur 3 0 rfl (Uf 3 [6,7,8,9,15,16,17] rfl (Ut 1 rfl (Go'.loop (Uk [6,7,8,9,15,16,17] rfl ?_)))))))))
 refine Go'.ind (σ:=Nat×Value) (fun s=>ks.length-s.1) (fun s H'=>s.1≤ks.length∧Fr nowhere H H'∧H3.size≤H'.size∧∃S Zo,MapM H' tr (PD d) S (Pl.runs (Pl.delk OI) (Pl.puts OI l) (ks.take s.1)).1∧(∀b,S b→H.size≤b)∧Acc EF Zo H' s.2 (Pl.runs (Pl.delk OI) (Pl.puts OI l) (ks.take s.1)).2∧∀b,Zo b→H3.size≤b∧b<H'.size∧¬S b)
  (fun s=>[(6,.slice none 0 0),(7,.slice none 0 0),(8,.pointer (some ⟨tr,0,none⟩)),(9,s.2),(15,.slice aa ks.length ca),(16,.int .i64 (ks.length:Int)),(17,.int .i64 (s.1:Int))]) (0,.slice none 0 0) ⟨Nat.zero_le _,hF,Nat.le_refl _,S,fun _=>False,hM,fun b hb=>by have:=hS b hb;omega,Acc.nil _ _ _,fun _ h=>h.elim⟩ rfl ?_
 clear hM hF hS hSb hSlt S
 rintro ⟨j,sv⟩ H5 ⟨hjl,hF,hs45,S,Zo,hM,hS,hA,hZ⟩ ih
 simp only at hjl hM hA
 have hi2:=ha.fr hF
 refine Ut 1 rfl ?_
 by_cases hlt:j<ks.length
 ·
  obtain ⟨y,hy⟩:∃y,ks[j]?=some y:=⟨ks[j],List.getElem?_eq_getElem hlt⟩
  obtain ⟨b,o,c',e,hr⟩:=hi2.at hy
  cases e
  have hpl2:=Pl.runs_le (Pl.delk_le OI) (Pl.puts OI l) (ks.take j)
  have hlout:=Pl.runs_len (Pl.delk OI) (Pl.puts OI l) (ks.take j)
  have hSlt:=hM.lt
  have hbs2:=hM.tc.hb
  have hsz:=hF.size
  rw [List.length_take] at hlout
  have erun:=Pl.runs_take (Pl.delk OI) (Pl.puts OI l) hy
  generalize hL:(Pl.runs (Pl.delk OI) (Pl.puts OI l) (ks.take j)).1=L at*
  generalize hG:(Pl.runs (Pl.delk OI) (Pl.puts OI l) (ks.take j)).2=G at*
  simp only [Pl.delk] at erun
  generalize hfo:Pl.got OI y L=fo at*
  refine Ur 1 0 rfl (Uc 0 rfl (lssT (by omega)) (Uf 0 [6,7,8,9,15,16,17,18] rfl (Ut 1 rfl (Go'.condT rfl (Ut 4 rfl (Ur 4 164 rfl (Ux 0 j rfl (by omega) hlt (Us 0 rfl hr rfl (O.alloc rfl rfl rfl zeroValue27 ?_)))))))))
  intro H6 M6
  refine ⟨trivial,?_⟩
  have hs6:=M6.size
  replace hM:=hM.fr (M6.fr nowhere) (fun _ _ _=>nw)
  replace hA:=hA.fr (M6.fr nowhere) (fun _ _ _ _=>nw)
  have m7:Wr H6 H5.size 0 2:=M6.wr 2 (by decide)
  refine O.st rfl rfl sizeOf27 rfl rfl rfl rfl rfl m7 ?_
  intro H7 W7
  have hs7:=W7.size
  replace hM:=hM.fr W7.fr (fun b o hb=>nr (.inl (hb.elim (fun hb=>by have:=hSlt b hb;omega) (fun hb=>by omega))))
  replace hA:=hA.fr W7.fr (fun b o hb hb2=>nr (.inl (by have:=hZ b hb2;omega)))
  replace hF:Fr nowhere H H7:=hF.trans' ((M6.fr nowhere).trans' W7.fr (Z:=nowhere) (fun _ _ _ h=>h) (fun b o hb hz=>by have h1:=hz.1;omega)) (fun _ _ _ h=>h) (fun _ _ _ h=>h)
  have k0:Rd H7 H5.size 0 (EJ.enc y):=W7.all
  refine ⟨trivial,?_⟩
  refine Uf 0 [6,7,8,9,11,15,16,17,18] rfl (Ur 10 172176 rfl (Us 2 rfl k0 rfl (O.call rfl rfl rfl call105 rfl (delete_spec hP (x:=y) hM (by omega)) ?_)))
  rintro _ H8 ⟨rfl,S',hM',hF8,hS'⟩
  rw [←Pl.got_isSome OI,hfo]
  have hs8:=hF8.size
  replace hA:=hA.fr hF8 (fun b o hb hb2 hz=>(hZ b hb2).2.2 hz)
  replace hF:=hF.trans' hF8 (fun _ _ _ h=>h) (fun b o hb hz=>by have:=hS b hz;omega)
  refine ⟨trivial,?_⟩
  refine Uq 2 rfl (O.call rfl rfl rfl call104 rfl ifound_spec ?_)
  rintro _ H9 ⟨rfl,hF9⟩
  have hs9:=hF9.size
  replace hM':=hM'.fr hF9 (fun _ _ _=>nw)
  replace hA:=hA.fr hF9 (fun _ _ _ _=>nw)
  replace hF:=hF.trans hF9
  rw [FVe]
  refine ⟨trivial,?_⟩
  refine O.bsl (cs:=(fvs fo)) rfl rfl rfl ⟨underlying64,sizeOf68,zeroValue68,⟨_,typeInfo68,rfl⟩,rfl,by decide,by decide⟩ rfl (by decide) (by clear hfo erun;cases fo<;>kernel_rfl) ?_
  intro H10 M10
  have hs10:=M10.size
  replace hM':=hM'.fr (M10.fr nowhere) (fun _ _ _=>nw)
  replace hA:=hA.fr (M10.fr nowhere) (fun _ _ _ _=>nw)
  replace hF:=hF.trans (M10.fr nowhere)
  have m5:Rd H10 H9.size 0 (row EF [fo]):=M10.rd _ [] (by simp [row,EF])
  refine ⟨trivial,?_⟩
  refine O.appA (E:=EF) (Y:=[fo]) rfl rfl rfl ⟨underlying64,sizeOf68,zeroValue68,⟨_,typeInfo68,rfl⟩,rfl,by decide,by decide⟩ rfl hA rfl ⟨_,_,_,rfl,m5⟩ (Nat.succ_pos _) (by rw [hlout];exact Nat.le_trans (Nat.mul_le_mul_left _ (Nat.le_of_ble_eq_true (n:=_) (m:=4096) rfl)) (by simp only [List.length_cons,List.length_nil];omega)) (by rw [hlout];simp only [List.length_cons,List.length_nil];omega) ?_
  intro v8 H11 hA11 hF11 hs11
  have hs111:=hF11.size
  have hS2:∀b,S' b→¬Zo b:=fun b hb hz=>(hS' b hb).elim (hZ b hz).2.2 (fun h=>by have:=(hZ b hz).2.1;omega)
  have hlt10:=hM'.lt
  have hM11:=hM'.fr hF11 (fun b _ hb hz=>hb.elim (fun hb=>hS2 b hb hz) (fun hb=>by have:=(hZ b hz).1;omega))
  replace hF:=hF.trans' hF11 (fun _ _ _ h=>h) (fun b o hb hz=>by have:=(hZ b hz).1;omega)
  refine ⟨trivial,?_⟩
  refine Uf 1 [6,7,8,9,11,15,16,17,18] rfl (Ut 1 rfl (Ur 2 0 rfl (Ua 0 (((j+1:Nat):Int)) rfl (by omega) (Uf 1 [6,7,8,9,11,15,16,17,18] rfl (Uk [6,7,8,9,15,16,17] rfl (Go'.inLoop ?_))))))
  exact ih (j+1,v8) H11 ⟨hlt,hF,by omega,S',(fun b=>Zo b∨(b=H10.size∧b<H11.size)),by
   simp only
   rw [erun]
   exact hM11,fun b hb=>(hS' b hb).elim (hS b) (fun h=>by omega),by
   simp only
   rw [erun]
   exact hA11,fun b hb=>hb.elim (fun h=>⟨(hZ b h).1,by have:=(hZ b h).2.1;omega,fun hs=>hS2 b hs h⟩) (fun h=>⟨by omega,h.2,fun hs=>by have:=hlt10 b hs;omega⟩)⟩ (by simp only;omega)
 ·
  have ejl:j=ks.length:=by omega
  rw [ejl,List.take_length] at hM hA
  have hpl2:=Pl.runs_le (Pl.delk_le OI) (Pl.puts OI l) ks
  refine Ur 1 0 rfl (Uc 0 rfl (lssF (by omega)) (Uf 0 [6,7,8,9,15,16,17,18] rfl (Ut 1 rfl (Go'.condF rfl (Ut 2 rfl (Ur 5 32 rfl (Uq 2 rfl (O.call rfl rfl rfl call73 rfl (Items_spec hP hM (by omega)) ?_))))))))
  rintro v9 H6 ⟨hv9,hF6⟩
  refine ⟨trivial,?_⟩
  refine Uf 2 [6,7] rfl (Go'.ret (vs:=[_,_]) func56 results56 ⟨rfl,rfl,trivial⟩ ?_)
  rw [hOO]
  exact ⟨_,_,rfl,(hA.fr hF6 (fun _ _ _ _=>nw)).out,hv9,hF.trans hF6⟩
theorem stride_spec {B:World} {H:Mem} {n s:Nat} (hn:n≤4000) (hs:s<65536):
  Fn Try.prog B 55 [.int .i64 (n:Int),.int .i64 (s:Int)] H (fun r H'=>Acc EJ (fun b=>H.size≤b) H' r (Sv.stride n s n)∧Fr nowhere H H'):=by
 refine fn_of func55 rfl ntmps55 ?_
 refine (show Go' _ _ _ _ 23 [(0,_),(1,_)] [.code _] _ from ?_)
 refine Ut 1 rfl (Ur 1 0 rfl (Uf 1 [0,1,4] rfl (Ut 1 rfl (Ur 1 0 rfl (Uf 1 [0,1,4,5] rfl (Ut 2 rfl (Ur 2 0 rfl (Uf 2 [0,1,4,5,7,8] rfl (Ut 1 rfl (Go'.loop (Uk [0,1,4,5,7,8] rfl ?_)))))))))))
 refine Go'.ind (σ:=Nat×Value) (fun s=>n-s.1) (fun t H'=>Fr nowhere H H'∧t.1≤n∧Acc EJ (fun b=>H.size≤b) H' t.2 (Sv.stride n s t.1))
  (fun t=>[(0,.int .i64 (n:Int)),(1,.int .i64 (s:Int)),(4,.slice none 0 0),(5,t.2),(7,.int .i64 (n:Int)),(8,.int .i64 (t.1:Int))]) (0,.slice none 0 0) ⟨Fr.refl _ _,Nat.zero_le _,Acc.nil _ _ _⟩ rfl ?_
 rintro ⟨j,lv⟩ H2 ⟨hF,hjl,hA⟩ ih
 simp only at hjl hA
 have hsz:=hF.size
 have hlen:=Sv.stride_len n s j
 refine Ut 1 rfl ?_
 by_cases hlt:j<n
 ·
  refine Ur 1 0 rfl (Uc 0 rfl (lssT (by omega)) (Uf 0 [0,1,4,5,7,8,9] rfl (Ut 1 rfl (Go'.condT rfl (Ut 4 rfl (Ur 2 0 rfl (Uf 2 [0,1,4,5,6,7,8,9] rfl ?_)))))))
  have hjs:j*s≤4000*65536:=Nat.mul_le_mul (by omega) (by omega)
  have hmod:=Nat.mod_lt (j*s) (show 0<n by omega)
  obtain ⟨m,em⟩:∃m,m=j*s:=⟨_,rfl⟩
  rw [←em] at hjs hmod
  refine Ur 11 655360 rfl (Uq 3 rfl (O.mul ((m:Int)) rfl rfl rfl rfl rfl rfl (by rw [em];exact (Int.natCast_mul j s).symm) (by omega) (Uq 1 rfl (O.rem (((m % n:Nat):Int)) rfl rfl rfl rfl rfl rfl (by omega) (Int.ofNat_tmod m n).symm (Uq 1 rfl (O.bld (cs:=[.int .i64 ((m % n:Nat):Int),.int .i64 (j:Int)]) rfl rfl rfl rfl (st27) rfl (by kernel_rfl) (O.bsl (cs:=(row EJ [(((m % n:Nat):Int),(j:Int))])) rfl rfl rfl ⟨underlying25,sizeOf27,zeroValue27,⟨_,typeInfo27,rfl⟩,rfl,by decide,by decide⟩ rfl (by decide) (by kernel_rfl) ?_)))))))
  intro H3 M3
  have hs3:=M3.size
  have hA3:=hA.fr (M3.fr nowhere) (fun _ _ _ _=>nw)
  have m3:Rd H3 H2.size 0 (row EJ [(((m % n:Nat):Int),(j:Int))]):=M3.rd _ [] (by simp)
  refine ⟨trivial,?_⟩
  refine O.appA (E:=EJ) (Y:=[(((m % n:Nat):Int),(j:Int))]) rfl rfl rfl ⟨underlying25,sizeOf27,zeroValue27,⟨_,typeInfo27,rfl⟩,rfl,by decide,by decide⟩ rfl hA3 rfl ⟨_,_,_,rfl,m3⟩ (Nat.succ_pos _) (Nat.le_trans (Nat.mul_le_mul_left _ (Nat.le_of_ble_eq_true (n:=_) (m:=4096) rfl)) (by rw [hlen];simp only [List.length_cons,List.length_nil];omega)) (by rw [hlen];simp only [List.length_cons,List.length_nil];omega) ?_
  intro v4 H4 hA4 hF4 hs4
  have hg4:=hF4.size
  rw [em,←Sv.stride_snoc] at hA4
  refine ⟨trivial,?_⟩
  refine Uf 1 [0,1,4,5,6,7,8,9] rfl (Ut 1 rfl (Ur 2 0 rfl (Ua 0 (((j+1:Nat):Int)) rfl (by omega) (Uf 1 [0,1,4,5,6,7,8,9] rfl (Uk [0,1,4,5,7,8] rfl (Go'.inLoop ?_))))))
  exact ih (j+1,v4) H4 ⟨(hF.trans (M3.fr nowhere)).trans' hF4 (fun _ _ _ h=>h) (fun b o hb hz=>by have hz':H.size≤b:=hz;omega),hlt,hA4.mono (fun b _ hz=>hz.elim id (fun h=>by omega))⟩ (by simp only;omega)
 ·
  obtain rfl:j=n:=by omega
  refine Ur 1 0 rfl (Uc 0 rfl (lssF (by omega)) (Uf 0 [0,1,4,5,7,8,9] rfl (Ut 1 rfl (Go'.condF rfl (Ut 2 rfl (Ur 2 0 rfl (Uf 2 [4] rfl (Go'.ret (vs:=[_]) func55 results55 ⟨rfl,trivial⟩ ?_))))))))
  exact ⟨hA,hF⟩
theorem coprime_spec {B:World} {H:Mem} {a b:Nat} (ha:a<65536) (hb:b<65536):
  Fn Try.prog B 54 [.int .i64 (a:Int),.int .i64 (b:Int)] H (fun r H'=>r=.bool (decide (Nat.gcd a b=1))∧H'=H):=by
 refine fn_of func54 rfl ntmps54 ?_
 refine (show Go' _ _ _ _ 13 [(0,_),(1,_)] [.code _] _ from ?_)
 refine Ut 1 rfl (Ur 1 0 rfl (Uf 1 [0,1,4] rfl (Ut 2 rfl (Go'.loop (Uk [0,1] rfl ?_)))))
 refine Go'.ind (σ:=Nat×Nat) (fun s=>s.2) (fun s H'=>H'=H∧s.1<65536∧s.2<65536∧Nat.gcd s.1 s.2=Nat.gcd a b)
  (fun s=>[(0,.int .i64 (s.1:Int)),(1,.int .i64 (s.2:Int))]) (a,b) ⟨rfl,ha,hb,rfl⟩ rfl ?_
 rintro ⟨x,y⟩ H2 ⟨hHH,hx,hy,hg⟩ ih
 have eH:H=H2:=hHH.symm
 subst eH
 simp only at hx hy hg
 refine Ut 2 rfl ?_
 by_cases h0:0<y
 ·
  refine Ur 2 0 rfl (Uc 1 rfl (gtrT (by omega)) (Uf 0 [0,1,6] rfl (Go'.condT rfl (Ut 2 rfl ?_))))
  have hm:=Nat.mod_lt x h0
  have hg2:Nat.gcd y (x % y)=Nat.gcd x y:=by rw [Nat.gcd_comm x y,Nat.gcd_rec y x,Nat.gcd_comm]
  refine Ud 6 0 (by kernel_rfl) (Uq 3 rfl (O.rem (((x % y:Nat):Int)) rfl rfl rfl rfl rfl rfl (by omega) (Int.ofNat_tmod x y).symm (Uf 2 [0,1,6] rfl (Ut 1 rfl (Uk [0,1] rfl (Go'.inLoop ?_))))))
  exact ih (y,x % y) H ⟨rfl,hy,by simp only;omega,by simp only;rw [hg2,hg]⟩ hm
 ·
  obtain rfl:y=0:=by omega
  rw [Nat.gcd_zero_right] at hg
  refine Ur 2 0 rfl (Uc 1 rfl (gtrF (by omega)) (Uf 0 [0,1,6] rfl (Go'.condF rfl (Ut 2 rfl ?_))))
  by_cases h1:x=1
  ·
   refine Ur 3 0 rfl (Uc 1 rfl (eqlT (by omega)) (Uf 1 [4] rfl (Go'.ret (vs:=[_]) func54 results54 ⟨rfl,trivial⟩ ?_)))
   refine ⟨?_,rfl⟩
   rw [decide_eq_true (hg.symm.trans h1)]
   rfl
  ·
   refine Ur 3 0 rfl (Uc 1 rfl (eqlF (by omega)) (Uf 1 [4] rfl (Go'.ret (vs:=[_]) func54 results54 ⟨rfl,trivial⟩ ?_)))
   refine ⟨?_,rfl⟩
   rw [decide_eq_false (fun e=>h1 (hg.trans e))]
   rfl
theorem coprime_spec' {B:World} {H:Mem} {a b:Nat} {bb:Bool} (h:decide (Nat.gcd a b=1)=bb) (ha:a<65536) (hb:b<65536):Fn Try.prog B 54 [.int .i64 (a:Int),.int .i64 (b:Int)] H (fun r H'=>r=.bool bb∧H'=H):=h▸coprime_spec ha hb
theorem fnGSieve {B:World} {H:Mem} {z z1 z2 z3:Int} (h1:0≤z1∧z1<65536) (h2:0≤z2∧z2<65536) (h3:0≤z3∧z3<65536):
  Fn Try.prog B 16 [.int .i64 z,.int .u16 z1,.int .u16 z2,.int .u16 z3] H (fun r H'=>r=.bool true∧Fr nowhere H H'):=by
 obtain ⟨n,rfl⟩:=Int.eq_ofNat_of_zero_le h1.1
 obtain ⟨s,rfl⟩:=Int.eq_ofNat_of_zero_le h2.1
 obtain ⟨k,rfl⟩:=Int.eq_ofNat_of_zero_le h3.1
 have hn:n<65536:=by omega
 have hs:s<65536:=by omega
 have hk:k<65536:=by omega
 refine fn_of func16 rfl ntmps16 ?_
 refine (show Go' _ _ _ _ 126 [(0,_),(1,_),(2,_),(3,_)] [.code _] _ from ?_)
 refine Ut 1 rfl (Ur 1 0 rfl (Uf 1 [0,1,2,3,8] rfl (Ut 2 rfl ?_)))
 cases hfz:fitsb z
 ·
  refine Ur 19 10871635976 rfl (Uq 1 rfl (O.callQ rfl rfl rfl call33 rfl (fits_spec' hfz) trivial (Uq 11 rfl (Pl.pass2 rfl rfl rfl rfl trivial (Uq 1 rfl (Pl.pass2 rfl rfl rfl rfl trivial (Pl.pass2 rfl rfl rfl rfl trivial (Uf 2 [0,1,2,3,8,38] rfl (Go'.condT rfl (Ut 1 rfl (Ur 2 2 rfl ?_)))))))))))
  refine O.call rfl rfl rfl call25 rfl alive_spec ?_
  rintro _ Hz ⟨rfl,hFz⟩
  refine ⟨trivial,?_⟩
  refine Uf 1 [0,1,2,3,8] rfl (Go'.ret (vs:=[_]) func16 results16 ⟨rfl,trivial⟩ ?_)
  exact ⟨rfl,hFz⟩
 ·
  by_cases hn4:4000<n
  ·
   refine Ur 19 10871635976 rfl (Uq 1 rfl (O.callQ rfl rfl rfl call33 rfl (fits_spec' hfz) trivial (Uc 3 rfl (gtrT (by omega)) (Uq 7 rfl (Pl.pass2 rfl rfl rfl rfl trivial (Uq 1 rfl (Pl.pass2 rfl rfl rfl rfl trivial (Pl.pass2 rfl rfl rfl rfl trivial (Uf 2 [0,1,2,3,8,38] rfl (Go'.condT rfl (Ut 1 rfl ?_)))))))))))
   refine Ur 2 2 rfl (O.call rfl rfl rfl call25 rfl alive_spec ?_)
   rintro _ Hz ⟨rfl,hFz⟩
   refine ⟨trivial,?_⟩
   refine Uf 1 [0,1,2,3,8] rfl (Go'.ret (vs:=[_]) func16 results16 ⟨rfl,trivial⟩ ?_)
   exact ⟨rfl,hFz⟩
  ·
   by_cases hk0:k=0
   ·
    refine Ur 19 10871635976 rfl (Uq 1 rfl (O.callQ rfl rfl rfl call33 rfl (fits_spec' hfz) trivial (Uc 3 rfl (gtrF (by omega)) (Uc 3 rfl (eqlT (by omega)) (Uq 3 rfl (Pl.pass2 rfl rfl rfl rfl trivial (Uq 1 rfl (Pl.pass2 rfl rfl rfl rfl trivial (Pl.pass2 rfl rfl rfl rfl trivial (Uf 2 [0,1,2,3,8,38] rfl (Go'.condT rfl ?_)))))))))))
    refine Ut 1 rfl (Ur 2 2 rfl (O.call rfl rfl rfl call25 rfl alive_spec ?_))
    rintro _ Hz ⟨rfl,hFz⟩
    refine ⟨trivial,?_⟩
    refine Uf 1 [0,1,2,3,8] rfl (Go'.ret (vs:=[_]) func16 results16 ⟨rfl,trivial⟩ ?_)
    exact ⟨rfl,hFz⟩
   ·
    by_cases hg:Nat.gcd n s=1
    rotate_left
    ·
     refine Ur 19 10871635976 rfl (Uq 1 rfl (O.callQ rfl rfl rfl call33 rfl (fits_spec' hfz) trivial (Uc 3 rfl (gtrF (by omega)) (Uc 3 rfl (eqlF (by omega)) (Uq 3 rfl (O.cvi (v:=(n:Int)) rfl rfl rfl (by rw [underlying61];rfl) underlying3 rfl rfl (wrap_id (by omega)) trivial (Uq 1 rfl (O.cvi (v:=(s:Int)) rfl rfl rfl (by rw [underlying61];rfl) underlying3 rfl rfl (wrap_id (by omega)) trivial (O.callQ rfl rfl rfl call54 rfl (coprime_spec' (decide_eq_false hg) hn hs) trivial (Uf 2 [0,1,2,3,8,38] rfl (Go'.condT rfl ?_)))))))))))
     refine Ut 1 rfl (Ur 2 2 rfl (O.call rfl rfl rfl call25 rfl alive_spec ?_))
     rintro _ Hz ⟨rfl,hFz⟩
     refine ⟨trivial,?_⟩
     refine Uf 1 [0,1,2,3,8] rfl (Go'.ret (vs:=[_]) func16 results16 ⟨rfl,trivial⟩ ?_)
     exact ⟨rfl,hFz⟩
    ·
     refine Ur 19 10871635976 rfl (Uq 1 rfl (O.callQ rfl rfl rfl call33 rfl (fits_spec' hfz) trivial (Uc 3 rfl (gtrF (by omega)) (Uc 3 rfl (eqlF (by omega)) (Uq 3 rfl (O.cvi (v:=(n:Int)) rfl rfl rfl (by rw [underlying61];rfl) underlying3 rfl rfl (wrap_id (by omega)) trivial (Uq 1 rfl (O.cvi (v:=(s:Int)) rfl rfl rfl (by rw [underlying61];rfl) underlying3 rfl rfl (wrap_id (by omega)) trivial (O.callQ rfl rfl rfl call54 rfl (coprime_spec' (decide_eq_true hg) hn hs) trivial (Uf 2 [0,1,2,3,8,38] rfl (Go'.condF rfl ?_)))))))))))
     refine Ut 2 rfl ?_
     obtain ⟨d,rfl,hd⟩:=fitsb_nat hfz
     have hkp:(k:Int)≠0:=by omega
     refine Ur 4 160 rfl (Uq 1 rfl (O.bld (cs:=[.slice none 0 0,.int .i64 (d:Int),.bool false]) rfl rfl rfl rfl (st24) rfl (by kernel_rfl) (O.alloc rfl rfl rfl zeroValue24 ?_)))
     intro H1 M1
     refine ⟨trivial,?_⟩
     have hs1:=M1.size
     have m1:Wr H1 H.size 0 3:=M1.wr 3 (by decide)
     refine O.st (vs:=[.slice none 0 0,.int .i64 (d:Int),.bool false]) rfl rfl sizeOf24 rfl rfl rfl rfl rfl m1 ?_
     intro H2 W2
     have hs2:=W2.size
     have hF:Fr nowhere H H2:=(M1.fr nowhere).trans' W2.fr (fun _ _ _ h=>h) (fun b o hb h=>by have h':=h.1;omega)
     have hm:Rd H2 H.size 0 [.slice none 0 0,.int .i64 (d:Int),.bool false]:=W2.all
     refine ⟨trivial,?_⟩
     refine Uf 0 [1,2,3,8,9] rfl (Ut 1 rfl (Ur 6 648 rfl (Uq 1 rfl (O.cvi (v:=(n:Int)) rfl rfl rfl (by rw [underlying61];rfl) underlying3 rfl rfl (wrap_id (by omega)) trivial (Uq 1 rfl (O.cvi (v:=(s:Int)) rfl rfl rfl (by rw [underlying61];rfl) underlying3 rfl rfl (wrap_id (by omega)) trivial (O.call rfl rfl rfl call55 rfl (stride_spec (n:=n) (s:=s) (by omega) hs) ?_)))))))
     rintro lv H3 ⟨hA3,hF3⟩
     have hs3:=hF3.size
     replace hF:=hF.trans hF3
     replace hm:=hF3.rd hm (fun _ _=>nw)
     have hI:=hA3.inS
     obtain ⟨a,c,hle⟩:=hI.len
     subst hle
     have hll:=Sv.stride_len n s n
     clear hA3 hF3
     refine ⟨trivial,?_⟩
     refine Uf 1 [1,3,8,9,10] rfl (Ut 1 rfl (Ur 1 0 rfl (Uf 1 [1,3,8,9,10,11] rfl (Ut 2 rfl (Ur 3 0 rfl (Uf 3 [1,3,8,9,10,11,47,48,49] rfl (Ut 1 rfl (Go'.loop (Uk [1,3,8,9,10,11,47,48,49] rfl ?_)))))))))
     refine Go'.ind (σ:=Nat×Value) (fun s=>n-s.1) (fun t H'=>Fr nowhere H3 H'∧t.1≤n∧∃Zo,Acc EJ Zo H' t.2 (Sv.gone k ((Sv.stride n s n).take t.1))∧∀b,Zo b→H3.size≤b∧b<H'.size)
      (fun st=>[(1,.int .u16 (n:Int)),(3,.int .u16 (k:Int)),(8,.bool false),(9,.pointer (some ⟨H.size,0,none⟩)),(10,.slice a (Sv.stride n s n).length c),(11,st.2),(47,.slice a (Sv.stride n s n).length c),(48,.int .i64 ((Sv.stride n s n).length:Int)),(49,.int .i64 (st.1:Int))]) (0,.slice none 0 0) ⟨Fr.refl _ _,Nat.zero_le _,fun _=>False,Acc.nil _ _ _,fun _ h=>h.elim⟩ rfl ?_
     rintro ⟨j,kv⟩ H4 ⟨hF4,hjl,Zo,hA,hZ⟩ ih
     simp only at hjl hA
     have hsz:=hF4.size
     have hI4:=hI.fr hF4
     have hgl:(Sv.gone k ((Sv.stride n s n).take j)).length≤j:=by
      have h:=List.length_filter_le (fun x:Int×Int=>decide (x.1.tmod k=0)) ((Sv.stride n s n).take j)
      rw [List.length_take] at h
      unfold Sv.gone
      omega
     refine Ut 1 rfl ?_
     by_cases hlt:j<n
     ·
      obtain ⟨y,hy⟩:∃y,(Sv.stride n s n)[j]?=some y:=⟨(Sv.stride n s n)[j],List.getElem?_eq_getElem (by omega)⟩
      obtain ⟨b,o,c',e,hr⟩:=hI4.at hy
      cases e
      have etk:Sv.gone k ((Sv.stride n s n).take (j+1))=Sv.gone k ((Sv.stride n s n).take j)++if y.1.tmod k=0 then [y] else []:=by rw [List.take_add_one,hy];exact Sv.gone_snoc _ _ _
      refine Ur 1 0 rfl (Uc 0 rfl (lssT (by omega)) (Uf 0 [1,3,8,9,10,11,47,48,49,50] rfl (Ut 1 rfl (Go'.condT rfl (Ut 4 rfl (Ur 4 164 rfl (Ux 0 j rfl (by omega) (by omega) (Us 0 rfl hr rfl (O.alloc rfl rfl rfl zeroValue27 ?_)))))))))
      intro H5 M5
      refine ⟨trivial,?_⟩
      have hs5:=M5.size
      replace hA:=hA.fr (M5.fr nowhere) (fun _ _ _ _=>nw)
      have m7:Wr H5 H4.size 0 2:=M5.wr 2 (by decide)
      refine O.st (vs:=(EJ.enc y)) rfl rfl sizeOf27 rfl rfl rfl rfl rfl m7 ?_
      intro H6 W6
      have hs6:=W6.size
      replace hA:=hA.fr W6.fr (fun b o hb hb2=>nr (.inl (by have:=hZ b hb2;omega)))
      have hF6:Fr nowhere H3 H6:=hF4.trans' ((M5.fr nowhere).trans' W6.fr (Z:=nowhere) (fun _ _ _ h=>h) (fun b o hb hz=>by have h1:=hz.1;omega)) (fun _ _ _ h=>h) (fun _ _ _ h=>h)
      have k0:Rd H6 H4.size 0 (EJ.enc y):=W6.all
      have k00:cl H6 H4.size 0=some (.int .i64 y.1):=k0 0 _ rfl
      refine ⟨trivial,?_⟩
      refine Uf 0 [1,3,8,9,10,11,13,47,48,49,50] rfl (Ut 1 rfl ?_)
      by_cases h0:y.1.tmod k=0
      ·
       refine Ur 6 132 rfl (Ul 1 rfl k00 (Uq 1 rfl (O.cvi (v:=(k:Int)) rfl rfl rfl (by rw [underlying61];rfl) underlying3 rfl rfl (wrap_id (by omega)) trivial (O.rem ((y.1.tmod (k:Int))) rfl rfl rfl rfl rfl rfl (by omega) rfl (Uc 0 rfl (eqlT (by omega)) (Uf 0 [1,3,8,9,10,11,13,47,48,49,50,58] rfl (Go'.condT rfl (Ur 5 164 rfl (Us 1 rfl k0 rfl (O.bsl (cs:=(row EJ [y])) rfl rfl rfl ⟨underlying25,sizeOf27,zeroValue27,⟨_,typeInfo27,rfl⟩,rfl,by decide,by decide⟩ rfl (by decide) (by kernel_rfl) ?_))))))))))
       intro H7 M7
       have hs7:=M7.size
       replace hA:=hA.fr (M7.fr nowhere) (fun _ _ _ _=>nw)
       have m7b:Rd H7 H6.size 0 (row EJ [y]):=M7.rd _ [] (by simp)
       refine ⟨trivial,?_⟩
       refine O.appA (E:=EJ) (Y:=[y]) rfl rfl rfl ⟨underlying25,sizeOf27,zeroValue27,⟨_,typeInfo27,rfl⟩,rfl,by decide,by decide⟩ rfl hA rfl ⟨_,_,_,rfl,m7b⟩ (Nat.succ_pos _) (Nat.le_trans (Nat.mul_le_mul_left _ (Nat.le_of_ble_eq_true (n:=_) (m:=4096) rfl)) (by simp only [List.length_cons,List.length_nil];omega)) (by simp only [List.length_cons,List.length_nil];omega) ?_
       intro v8 H8 hA8 hF8 hs8
       have hg8:=hF8.size
       rw [if_pos h0] at etk
       refine ⟨trivial,?_⟩
       refine Uf 1 [1,3,8,9,10,11,13,47,48,49,50,58] rfl (Ut 1 rfl (Ur 2 0 rfl (Ua 0 (((j+1:Nat):Int)) rfl (by omega) (Uf 1 [1,3,8,9,10,11,13,47,48,49,50,58] rfl (Uk [1,3,8,9,10,11,47,48,49] rfl (Go'.inLoop ?_))))))
       refine ih (j+1,v8) H8 ⟨(hF6.trans (M7.fr nowhere)).trans' hF8 (fun _ _ _ h=>h) (fun b o hb hz=>by have:=(hZ b hz).1;omega),hlt,_,etk▸hA8,fun b hb=>hb.elim (fun h=>by have:=hZ b h;omega) (fun h=>by omega)⟩ (by simp only;omega)
      ·
       rw [if_neg h0,List.append_nil] at etk
       refine Ur 6 132 rfl (Ul 1 rfl k00 (Uq 1 rfl (O.cvi (v:=(k:Int)) rfl rfl rfl (by rw [underlying61];rfl) underlying3 rfl rfl (wrap_id (by omega)) trivial (O.rem ((y.1.tmod (k:Int))) rfl rfl rfl rfl rfl rfl (by omega) rfl (Uc 0 rfl (eqlF (by omega)) (Uf 0 [1,3,8,9,10,11,13,47,48,49,50,58] rfl (Go'.condF rfl (Ut 2 rfl (Ur 2 0 rfl (Ua 0 (((j+1:Nat):Int)) rfl (by omega) (Uf 1 [1,3,8,9,10,11,13,47,48,49,50,58] rfl ?_)))))))))))
       refine Uk [1,3,8,9,10,11,47,48,49] rfl (Go'.inLoop ?_)
       exact ih (j+1,kv) H6 ⟨hF6,hlt,Zo,etk▸hA,fun b hb=>by have:=hZ b hb;omega⟩ (by simp only;omega)
     ·
      obtain rfl:j=n:=by omega
      rw [List.take_of_length_le (by omega)] at hA hgl
      replace hF:=hF.trans hF4
      replace hm:=hF4.rd hm (fun _ _=>nw)
      replace hI:=hI4
      have hK:=hA.inS
      obtain ⟨ka,kc,hke⟩:=hK.len
      subst hke
      obtain ⟨R2,R1⟩:=Sv.sieve (k:=k) hg
      clear hA hZ hF4 hI4 ih hsz
      refine Ur 1 0 rfl (Uc 0 rfl (lssF (by omega)) (Uf 0 [1,3,8,9,10,11,47,48,49,50] rfl (Ut 1 rfl (Go'.condF rfl (Ut 2 rfl (Ur 9 129 rfl (Us 0 rfl hm rfl (Uq 2 rfl (O.call rfl rfl rfl call56 rfl (igdelete_spec hd (InS.nil EN _) (by decide) hI (by omega) hK (by omega)) ?_)))))))))
      rintro _ H5 ⟨v1,v2,rfl,hf,hl,hF5⟩
      rw [R2] at hf
      replace hF:=hF.trans hF5
      have hf0:=hf.inS
      have hl0:=hl.inS
      obtain ⟨fa,fc,hfe⟩:=hf0.len
      subst hfe
      obtain ⟨la,lc,hle⟩:=hl0.len
      subst hle
      rw [List.length_map]
      replace hK:=hK.fr hF5
      clear hf hl hF5
      refine ⟨trivial,?_⟩
      refine Uf 5 [1,3,8,11,14,15] rfl (Ut 2 rfl (Ur 3 0 rfl (Uf 3 [1,3,8,11,14,15,71,72,73] rfl (Ut 1 rfl (Go'.loop (Uk [1,3,8,11,14,15,71,72,73] rfl ?_))))))
      refine Go'.ind (σ:=Nat×Unit) (fun st=>(Sv.gone k (Sv.stride j s j)).length-st.1) (fun t H'=>t.1≤(Sv.gone k (Sv.stride j s j)).length∧Fr nowhere H5 H')
       (fun st=>[(1,.int .u16 (j:Int)),(3,.int .u16 (k:Int)),(8,.bool false),(11,.slice ka (Sv.gone k (Sv.stride j s j)).length kc),(14,.slice fa (Sv.gone k (Sv.stride j s j)).length fc),(15,.slice la (Pl.runs (Pl.delk (OO [])) (Pl.puts (OO []) (Sv.stride j s j)) (Sv.gone k (Sv.stride j s j))).1.length lc),(71,.slice fa (Sv.gone k (Sv.stride j s j)).length fc),(72,.int .i64 ((Sv.gone k (Sv.stride j s j)).length:Int)),(73,.int .i64 (st.1:Int))]) (0,()) ⟨Nat.zero_le _,Fr.refl _ _⟩ rfl ?_
      rintro ⟨q,u⟩ H6 ⟨hql,hF6⟩ ih
      simp only at hql
      have hsz:=hF6.size
      refine Ut 1 rfl ?_
      by_cases hlt2:q<(Sv.gone k (Sv.stride j s j)).length
      ·
       obtain ⟨y,hy⟩:∃y,(Sv.gone k (Sv.stride j s j))[q]?=some y:=⟨(Sv.gone k (Sv.stride j s j))[q],List.getElem?_eq_getElem hlt2⟩
       obtain ⟨b,o,c',e,hr⟩:=(hK.fr hF6).at hy
       cases e
       obtain ⟨b2,o2,c2,e,hr2⟩:=(hf0.fr hF6).at (i:=q) (x:=some y) (by rw [List.getElem?_map,hy];rfl)
       rw [List.length_map] at e
       cases e
       refine Ur 1 0 rfl (Uc 0 rfl (lssT (by omega)) (Uf 0 [1,3,8,11,14,15,71,72,73,74] rfl (Ut 1 rfl (Go'.condT rfl (Ut 4 rfl (Ur 6 2192 rfl (Ux 1 q rfl (by omega) (by omega) (Us 0 rfl hr2 rfl (O.alloc rfl rfl rfl zeroValue68 ?_)))))))))
       intro H7 M7
       refine ⟨trivial,?_⟩
       have hs7:=M7.size
       have m7:Wr H7 H6.size 0 3:=M7.wr 3 (by decide)
       replace hr:=(M7.fr nowhere).rd hr (fun _ _=>nw)
       refine Uq 1 rfl (O.st (vs:=(fvs (some y))) rfl rfl sizeOf68 rfl rfl rfl rfl rfl m7 ?_)
       intro H8 W8
       have hs8:=W8.size
       have hfl:Fr nowhere H6 H8:=(M7.fr nowhere).trans' W8.fr (fun _ _ _ h=>h) (fun b o hb h=>by have h':=h.1;omega)
       have hF8:Fr nowhere H5 H8:=hF6.trans hfl
       have k8:Rd H8 H6.size 0 (fvs (some y)):=W8.all
       obtain ⟨b3,o3,c3,e,hr3⟩:=(hK.fr hF8).at hy
       cases e
       refine ⟨trivial,?_⟩
       refine Uf 0 [1,3,8,11,14,15,16,17,71,72,73,74] rfl (Ut 1 rfl (Ud 7 257 (by kernel_rfl) (Us 0 rfl k8 rfl (Ux 2 q rfl (by omega) (by omega) (Us 0 rfl hr3 rfl (O.bld (cs:=(fvs (some y))) rfl rfl rfl rfl (st68) rfl (by kernel_rfl) (O.bin rfl rfl rfl rfl rfl rfl (found_neq (some y) _ _) (Uf 0 [1,3,8,11,14,15,16,17,71,72,73,74,84] rfl (Go'.condF rfl (Ut 2 rfl (Ur 2 0 rfl ?_)))))))))))
       refine Ua 0 (((q+1:Nat):Int)) rfl (by omega) (Uf 1 [1,3,8,11,14,15,16,17,71,72,73,74,84] rfl (Uk [1,3,8,11,14,15,71,72,73] rfl (Go'.inLoop ?_)))
       exact ih (q+1,()) H8 ⟨hlt2,hF8⟩ (by simp only;omega)
      ·
       obtain rfl:q=(Sv.gone k (Sv.stride j s j)).length:=by omega
       replace hF:=hF.trans hF6
       have hl1:=hl0.fr hF6
       have hlen1:(Pl.runs (Pl.delk (OO [])) (Pl.puts (OO []) (Sv.stride j s j)) (Sv.gone k (Sv.stride j s j))).1.length=(Sv.keep j k).length:=by
        have h:=congrArg List.length R1
        simpa using h
       clear hl0 hf0 hK hI ih hm
       refine Ur 1 0 rfl (Uc 0 rfl (lssF (by omega)) (Uf 0 [1,3,8,11,14,15,71,72,73,74] rfl (Ut 1 rfl (Go'.condF rfl (Ut 2 rfl (Ur 1 0 rfl (Uf 1 [1,3,8,11,14,15,18] rfl (Ut 2 rfl (Ur 3 8 rfl (Uq 1 rfl (O.cvi (v:=(j:Int)) rfl rfl rfl (by rw [underlying61];rfl) underlying3 rfl rfl (wrap_id (by omega)) trivial ?_)))))))))))
       refine Uf 1 [3,8,11,14,15,18,87,88] rfl (Ut 1 rfl (Go'.loop (Uk [3,8,11,14,15,18,87,88] rfl ?_)))
       refine Go'.ind (σ:=Nat×Unit) (fun s=>j-s.1) (fun t H'=>t.1≤j∧H'=H6)
        (fun st=>[(3,.int .u16 (k:Int)),(8,.bool false),(11,.slice ka (Sv.gone k (Sv.stride j s j)).length kc),(14,.slice fa (Sv.gone k (Sv.stride j s j)).length fc),(15,.slice la (Pl.runs (Pl.delk (OO [])) (Pl.puts (OO []) (Sv.stride j s j)) (Sv.gone k (Sv.stride j s j))).1.length lc),(18,.int .i64 ((Sv.keep st.1 k).length:Int)),(87,.int .i64 (j:Int)),(88,.int .i64 (st.1:Int))]) (0,()) ⟨Nat.zero_le _,rfl⟩ rfl ?_
       rintro ⟨i,u⟩ H7 ⟨hil,hHH⟩ ih
       have eH:H6=H7:=hHH.symm
       subst eH
       clear hHH
       simp only at hil
       refine Ut 1 rfl ?_
       by_cases hlt3:i<j
       ·
        have hkl:(Sv.keep i k).length≤i:=by
         have h:=List.length_filter_le (fun i=>decide (i % k≠0)) (List.range i)
         rw [List.length_range] at h
         exact h
        have eks:=Sv.keep_succ i k
        have ez:(Sv.keep ((i,u):Nat×Unit).1 k).length=(Sv.keep i k).length:=rfl
        refine Ur 1 0 rfl (Uc 0 rfl (lssT (by omega)) (Uf 0 [3,8,11,14,15,18,87,88,89] rfl (Ut 1 rfl (Go'.condT rfl (Ut 4 rfl (Ur 2 0 rfl (Uf 2 [3,8,11,14,15,18,19,87,88,89] rfl (Ut 2 rfl ?_))))))))
        by_cases h0:i % k=0
        ·
         rw [if_pos h0,List.append_nil] at eks
         refine Ur 5 32 rfl (Uq 2 rfl (O.cvi (v:=(k:Int)) rfl rfl rfl (by rw [underlying61];rfl) underlying3 rfl rfl (wrap_id (by omega)) trivial (O.rem (((i % k:Nat):Int)) rfl rfl rfl rfl rfl rfl (by omega) (Int.ofNat_tmod i k).symm (Uc 0 rfl (eqlT (by omega)) (Uf 0 [3,8,11,14,15,18,19,87,88,89,95] rfl (Go'.condT rfl (Ut 1 rfl (Ur 2 0 rfl (Ua 0 (((i+1:Nat):Int)) rfl (by omega) (Uf 1 [3,8,11,14,15,18,19,87,88,89,95] rfl (Uk [3,8,11,14,15,18,87,88] rfl ?_)))))))))))
         refine Go'.inLoop ?_
         rw [←eks]
         exact ih (i+1,()) H6 ⟨hlt3,rfl⟩ (by simp only;omega)
        ·
         rw [if_neg h0] at eks
         have hkg:=Sv.keep_get hlt3 h0
         obtain ⟨yy,hyy,hy1⟩:∃yy,(Pl.runs (Pl.delk (OO [])) (Pl.puts (OO []) (Sv.stride j s j)) (Sv.gone k (Sv.stride j s j))).1[(Sv.keep i k).length]?=some yy∧yy.1=(i:Int):=by
          have h:=congrArg (fun l=>l[(Sv.keep i k).length]?) R1
          simp only [List.getElem?_map,hkg,Option.map_some] at h
          obtain ⟨yy,h1,h2⟩:=Option.map_eq_some_iff.1 h
          exact ⟨yy,h1,h2⟩
         obtain ⟨b4,o4,c4,e,hr4⟩:=hl1.at hyy
         cases e
         have hatl:=(List.getElem?_eq_some_iff.1 hyy).1
         have ekl:(Sv.keep (i+1) k).length=(Sv.keep i k).length+1:=by rw [eks];simp
         refine Ur 5 32 rfl (Uq 2 rfl (O.cvi (v:=(k:Int)) rfl rfl rfl (by rw [underlying61];rfl) underlying3 rfl rfl (wrap_id (by omega)) trivial (O.rem (((i % k:Nat):Int)) rfl rfl rfl rfl rfl rfl (by omega) (Int.ofNat_tmod i k).symm (Uc 0 rfl (eqlF (by omega)) (Uf 0 [3,8,11,14,15,18,19,87,88,89,95] rfl (Go'.condF rfl (Ut 3 rfl (Ur 13 262144 rfl (Uc 3 rfl (geqF (by omega)) (Ux 3 (Sv.keep i k).length rfl (by omega) (by omega) (Ul 1 rfl (hr4 0 _ rfl) ?_)))))))))))
         refine Uc 1 rfl (neqF (by omega)) (Uf 1 [3,8,11,14,15,18,19,87,88,89,95,108] rfl (Go'.condF rfl (Ut 1 rfl (Ur 3 0 rfl (Ua 1 (((((Sv.keep i k).length)+1:Nat):Int)) rfl (by omega) (Uf 1 [3,8,11,14,15,18,19,87,88,89,95,108] rfl (Ut 1 rfl (Ur 2 0 rfl (Ua 0 (((i+1:Nat):Int)) rfl (by omega) (Uf 1 [3,8,11,14,15,18,19,87,88,89,95,108] rfl (Uk [3,8,11,14,15,18,87,88] rfl ?_)))))))))))
         refine Go'.inLoop ?_
         rw [←ekl]
         exact ih (i+1,()) H6 ⟨hlt3,rfl⟩ (by simp only;omega)
       ·
        obtain rfl:i=j:=by omega
        have ez:(Sv.keep ((i,u):Nat×Unit).1 k).length=(Sv.keep i k).length:=rfl
        refine Ur 1 0 rfl (Uc 0 rfl (lssF (by omega)) (Uf 0 [3,8,11,14,15,18,87,88,89] rfl (Ut 1 rfl (Go'.condF rfl (Ut 2 rfl (Ur 15 33554432 rfl (Uc 3 rfl (eqlT (by omega)) (Uc 5 rfl (eqlT (by omega)) (Uq 2 rfl (O.call rfl rfl rfl call25 rfl alive_spec ?_))))))))))
        rintro _ Hz ⟨rfl,hFz⟩
        refine ⟨trivial,?_⟩
        refine Uf 2 [8] rfl (Go'.ret (vs:=[_]) func16 results16 ⟨rfl,trivial⟩ ?_)
        exact ⟨rfl,hF.trans hFz⟩
end Go.Bt.FG
