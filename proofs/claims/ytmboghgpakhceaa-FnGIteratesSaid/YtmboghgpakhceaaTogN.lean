/- Contracts of functions of the program, proved by walking through their code. Conditions: those that each theorem names. -/
import Derived.Test.YtmboghgpakhceaaToiK
import Derived.Test.YtmboghgpakhceaaTogD
import Derived.Test.YtmboghgpakhceaaTogM
set_option linter.unusedVariables false
namespace Go.Bt
namespace Pl
section
variable {α:Type} (O:Swo α) (T:List α)
theorem wls_run {b:Int} (hb:b=4∨b=5) (k x:α):∀n,n≤(T.drop (pos O k T)).length→(itRun O T ((b,k)::List.replicate n ((2:Int),x))).1=(if pos O k T+n<T.length then some (pos O k T+n) else none)∧∀i,i≤n→(itRun O T ((b,k)::List.replicate n ((2:Int),x))).2.1[i]?=some ((T.drop (pos O k T))[i]?)∧(itRun O T ((b,k)::List.replicate n ((2:Int),x))).2.2[i]?=some true
 | 0,_=>by
  have e:itRun O T ((b,k)::List.replicate 0 ((2:Int),x))=itStep O T (none,[],[]) (b,k):=rfl
  have hm:mvTo O T (b,k) none=((pos O k T:Nat):Int):=by rcases hb with rfl|rfl<;>simp [mvTo]
  have hz:cut T.length (mvTo O T (b,k) none)=if pos O k T+0<T.length then some (pos O k T+0) else none:=by rw [hm,cut_nat];rfl
  have ht:mvTold T (b,k) none=true:=by rcases hb with rfl|rfl<;>simp [mvTold]
  rw [e]
  refine ⟨hz,fun i hi=>?_⟩
  obtain rfl:i=0:=by omega
  unfold itStep
  simp only [List.nil_append,List.getElem?_cons_zero,ht,and_true]
  rw [hz,List.getElem?_drop]
  by_cases h0:pos O k T+0<T.length
  · rw [if_pos h0];rfl
  · rw [if_neg h0,List.getElem?_eq_none (by omega)];rfl
 | n+1,hn=>by
  rw [List.length_drop] at hn
  obtain ⟨h1,h2⟩:=wls_run hb k x n (by rw [List.length_drop];omega)
  have hl:=itRun_len O T ((b,k)::List.replicate n ((2:Int),x))
  have hwl:((b,k)::List.replicate n ((2:Int),x)).length=n+1:=by simp
  rw [hwl] at hl
  have e:itRun O T ((b,k)::List.replicate (n+1) ((2:Int),x))=itStep O T (itRun O T ((b,k)::List.replicate n ((2:Int),x))) ((2:Int),x):=by
   rw [←itRun_snoc]
   congr 1
   rw [List.replicate_succ',List.cons_append]
  rw [if_pos (by omega)] at h1
  have hz:cut T.length (mvTo O T ((2:Int),x) (itRun O T ((b,k)::List.replicate n ((2:Int),x))).1)=if pos O k T+(n+1)<T.length then some (pos O k T+(n+1)) else none:=by
   rw [h1]
   have:mvTo O T ((2:Int),x) (some (pos O k T+n))=((pos O k T+n:Nat):Int)+1:=by simp [mvTo]
   rw [this,cut_next];rfl
  have ht:mvTold T ((2:Int),x) (itRun O T ((b,k)::List.replicate n ((2:Int),x))).1=true:=by rw [h1];simp [mvTold]
  rw [e]
  refine ⟨hz,fun i hi=>?_⟩
  unfold itStep
  simp only [hz,ht]
  rcases Nat.lt_or_ge i (n+1) with hlt|hge
  ·
   obtain ⟨h3,h4⟩:=h2 i (by omega)
   rw [List.getElem?_append_left (by omega),List.getElem?_append_left (by omega)]
   exact ⟨h3,h4⟩
  ·
   obtain rfl:i=n+1:=by omega
   rw [List.getElem?_append_right (by omega),List.getElem?_append_right (by omega),hl.1,hl.2,Nat.sub_self,List.getElem?_cons_zero,List.getElem?_cons_zero]
   refine ⟨?_,rfl⟩
   rw [List.getElem?_drop]
   by_cases h0:pos O k T+(n+1)<T.length
   · rw [if_pos h0];rfl
   · rw [if_neg h0,List.getElem?_eq_none (by omega)];rfl
end
end Pl
end Go.Bt
namespace Go.Bt.FG
open Go Go.Proofs Go.Proofs.Try
set_option maxRecDepth 20000
set_option maxHeartbeats 4000000
set_option linter.unusedSectionVars false
theorem igiter_spec {B:World} {H:Mem} {d:Nat} {nl:Bool} {v u:Value} {ord:List Int} {l:List (Int×Int)} {um:Value} {ms:List (Int×Int×Int)} (hd:d=0∨2≤d∧d≤128) (ho:InS EN H v ord) (hol:ord.length≤4294967296) (hi:InS EJ H u l) (hll:l.length≤4294967296) (hu:InS EMv H um ms) (hml:ms.length≤4294967296):
  Fn Try.prog B 65 [.agg #[v,.int .i64 (d:Int),.bool nl],u,um] H (fun v H'=>∃outs,OutS EF H' v outs∧Pl.Agree outs (Pl.itRun (OO ord) (Pl.puts (OO ord) l) ms).2.1 (Pl.itRun (OO ord) (Pl.puts (OO ord) l) ms).2.2∧Fr nowhere H H'):=by
 obtain ⟨a,c,hu⟩:=hi.len
 subst hu
 obtain ⟨av,mv,cv,hv⟩:=InS.form ho
 subst hv
 have hF:Fr nowhere H H:=Fr.refl _ _
 have hP:=PD_ok hd
 refine fn_of func65 rfl ntmps65 ?_
 refine (show Go' _ _ _ _ 17 [(0,_),(1,_),(2,_)] [.code _] _ from ?_)
 refine Ut 1 rfl (Ur 2 2 rfl (O.box rfl rfl rfl rfl ?_))
 intro B1 MB1
 refine ⟨trivial,?_⟩
 have hsB1:=MB1.size
 replace hF:=hF.trans (MB1.fr nowhere)
 have mm:Rd B1 H.size 0 [.slice av mv cv,.int .i64 (d:Int),.bool nl]:=MB1.rd _ [] (by simp [Value.cells])
 have mm0:cl B1 H.size 0=some (.slice av mv cv):=mm 0 _ rfl
 have mm1:cl B1 H.size (0+1)=some (.int .i64 (d:Int)):=mm 1 _ rfl
 refine Uf 1 [1,2,3,6] rfl (Ut 1 rfl (Ur 6 2721 rfl (Us 0 rfl mm rfl (Uq 1 rfl (O.call rfl rfl rfl call68 rfl (grow_spec hd (ho.fr hF) hol (hi.fr hF) hll) ?_)))))
 rintro _ H3 ⟨I,hIo,hIw,hIb,tr,S,rfl,hM,hF3,hS⟩
 have hs3:=hF3.size
 replace hF:=hF.trans hF3
 replace mm:=hF3.rd mm (fun _ _=>nw)
 replace mm0:=hF3.keep mm0 nw
 replace mm1:=hF3.keep mm1 nw
 have hSb:∀b,S b∨(b<cx.base∧cx.own b)→B1.size≤b:=fun b hb=>hb.elim (hS b) (fun h=>hIw b h.2)
 have hOO:OO ord=OI:=by rw [←hIo];rfl
 have hpl:=Pl.puts_length OI l
 have hSlt:=hM.lt
 have hbs:=hM.tc.hb
 unfold ptr
 refine ⟨trivial,?_⟩
 refine O.call rfl rfl rfl call116 rfl Iter_spec ?_
 rintro _ H4 ⟨kb,rfl,hF4,hwk,hkl,hkg⟩
 have hs4:=hF4.size
 replace hM:=hM.fr hF4 (fun _ _ _=>nw)
 replace hF:=hF.trans hF4
 replace mm:=hF4.rd mm (fun _ _=>nw)
 replace mm0:=hF4.keep mm0 nw
 replace mm1:=hF4.keep mm1 nw
 refine ⟨trivial,?_⟩
 refine O.alloc rfl rfl rfl zeroValue135 ?_
 intro H5 M5
 refine ⟨trivial,?_⟩
 have hs5:=M5.size
 replace hM:=hM.fr (M5.fr nowhere) (fun _ _ _=>nw)
 replace hF:=hF.trans (M5.fr nowhere)
 replace mm:=(M5.fr nowhere).rd mm (fun _ _=>nw)
 replace mm0:=(M5.fr nowhere).keep mm0 nw
 replace mm1:=(M5.fr nowhere).keep mm1 nw
 replace hwk:=(M5.fr nowhere).wr hwk
 have m7:Wr H5 H4.size 0 17:=M5.wr 17 (by decide)
 refine O.st (vs:=(itv tr false kb)) rfl rfl sizeOf135 rfl rfl rfl rfl rfl m7 ?_
 intro H6 W6
 have hs6:=W6.size
 replace hM:=hM.fr W6.fr (fun b o hb=>nr (.inl (hb.elim (fun hb=>by have:=hSlt b hb;omega) (fun hb=>by have:=hb.1;omega))))
 replace hF:=hF.trans' W6.fr (fun _ _ _ h=>h) (fun b o hb h=>by have h':=h.1;omega)
 replace mm:=W6.fr.rd mm (fun _ _=>nr (.inl (by omega)))
 replace mm0:=W6.fr.keep mm0 (nr (.inl (by omega)))
 replace mm1:=W6.fr.keep mm1 (nr (.inl (by omega)))
 have hI:=itr_new W6 m7 hwk (by omega) (by omega)
 obtain ⟨r,hT⟩:=hM.treeR hP (by omega)
 refine ⟨trivial,?_⟩
 refine Uf 0 [2,6,7] rfl (Ut 1 rfl (Ur 3 8 rfl (Uq 1 rfl (O.call rfl rfl rfl call117 rfl (moved_spec hP hI hT (fun h=>h.elim (fun h=>by have:=hSlt _ h;omega) (fun h=>by have:=h.1;omega)) (fun b h e=>h.elim (fun h=>by have:=hSlt _ h;have e':b=kb:=e;omega) (fun h=>by have:=h.1;have e':b=kb:=e;omega)) (Pl.puts_srt OI l) hu hml hF (by have:=hF.size;omega) (fun b h=>by have h':b=kb:=h;omega)) ?_))))
 rintro _ H7 ⟨outs,Zo,hA,hZi,hag,hF7,sk,sa,se,Z,fr,kv,hI7⟩
 refine ⟨trivial,?_⟩
 refine Uf 1 [6,7,8] rfl (Ut 1 rfl (Ur 1 2 rfl (O.call rfl rfl rfl call118 rfl (iRelease_spec hI7) ?_)))
 rintro _ H8 ⟨rfl,hF8⟩
 refine ⟨trivial,?_⟩
 refine Uf 0 [6,8] rfl (Ut 1 rfl (Ur 2 0 rfl (Uf 2 [6] rfl (Go'.ret (vs:=[_]) func65 results65 ⟨rfl,trivial⟩ ?_))))
 rw [hOO]
 exact ⟨outs,(hA.fr hF8 (fun b o _ hb=>hZi b hb)).out,hag,hF7.trans' hF8 (fun _ _ _ h=>h) (fun b o hb h=>by have h':b=H4.size:=h;omega)⟩
theorem walk_spec {B:World} {H:Mem} {bm bl d:Nat} {nl:Bool} {av:Option Addr} {mv cv:Nat} {u dv:Value} {ord:List Int} {l due:List (Int×Int)} {b0 n0:Int} {k0:Int×Int} (hd:d=0∨2≤d∧d≤128) (ho:InS EN H (.slice av mv cv) ord) (hol:ord.length≤4294967296) (hi:InS EJ H u l) (hll:l.length≤2147483647)
  (cm:Rd H bm 0 [.slice av mv cv,.int .i64 (d:Int),.bool nl]) (cu:cl H bl 0=some u) (hdue:InS EJ H dv due) (hdl:due.length≤2147483647) (hrun:∀i,i≤due.length→(Pl.itRun (OO ord) (Pl.puts (OO ord) l) ((b0,k0)::List.replicate due.length (n0,((0,0):Int×Int)))).2.1[i]?=some (due[i]?)∧(Pl.itRun (OO ord) (Pl.puts (OO ord) l) ((b0,k0)::List.replicate due.length (n0,((0,0):Int×Int)))).2.2[i]?=some true):
  Fn Try.prog B 64 [.agg (EMv.enc (b0,k0)).toArray,.int .i64 n0,dv,ptr bm,ptr bl] H (fun r H'=>r=.bool true∧Fr nowhere H H'):=by
 have hrl:=Pl.itRun_len (OO ord) (Pl.puts (OO ord) l) ((b0,k0)::List.replicate due.length (n0,((0,0):Int×Int)))
 have hwn:((b0,k0)::List.replicate due.length (n0,((0,0):Int×Int))).length=due.length+1:=by simp
 rw [hwn] at hrl
 have hF:Fr nowhere H H:=Fr.refl _ _
 have cm0:=cm
 have cu0:=cu
 obtain ⟨ua,uc,hue⟩:=hi.len
 subst hue
 obtain ⟨ad,cdd,e⟩:=hdue.len
 subst e
 refine fn_of func64 rfl ntmps64 ?_
 refine (show Go' _ _ _ _ 58 [(0,_),(1,_),(2,_),(3,_),(4,_)] [.code _] _ from ?_)
 refine Ut 1 rfl (Ur 2 2 rfl (O.box rfl rfl rfl rfl ?_))
 intro H0 M0
 refine ⟨trivial,?_⟩
 have hs0:=M0.size
 replace hF:=hF.trans (M0.fr nowhere)
 replace cm:=(M0.fr nowhere).rd cm (fun _ _=>nw)
 replace cu:=(M0.fr nowhere).keep cu nw
 have mb:Rd H0 H.size 0 (EMv.enc (b0,k0)):=M0.rd _ [] (by simp [Value.cells])
 refine Uf 1 [1,2,3,4,5,8] rfl (Ut 1 rfl (Ur 3 9 rfl (Us 0 rfl mb rfl (O.bsl (cs:=(row EMv [(b0,k0)])) rfl rfl rfl ⟨underlying72,sizeOf79,zeroValue79,⟨_,typeInfo79,rfl⟩,rfl,by decide,by decide⟩ rfl (by decide) (by kernel_rfl) ?_))))
 intro H1 M1
 have hs1:=M1.size
 replace hF:=hF.trans (M1.fr nowhere)
 replace cm:=(M1.fr nowhere).rd cm (fun _ _=>nw)
 replace cu:=(M1.fr nowhere).keep cu nw
 have hA1:Acc EMv (fun b=>H.size≤b) H1 (.slice (some ⟨H0.size,0,none⟩) 1 1) [(b0,k0)]:=.inr ⟨H0.size,0,1,rfl,(show H.size≤H0.size by omega),by omega,⟨rfl,Nat.le_refl _,M1.rd _ [] (by simp),M1.wr 3 (by simp [row,EMv])⟩⟩
 refine ⟨trivial,?_⟩
 refine Uf 1 [1,2,3,4,8,9] rfl (Ut 2 rfl (Ur 3 0 rfl (Uf 3 [1,2,3,4,8,9,16,17] rfl (Ut 1 rfl (Go'.loop (Uk [1,2,3,4,8,9,16,17] rfl ?_))))))
 refine Go'.ind (σ:=Nat×Value) (fun s=>due.length-s.1) (fun s H'=>s.1≤due.length∧Fr nowhere H H'∧Acc EMv (fun b=>H.size≤b) H' s.2 ((b0,k0)::List.replicate s.1 (n0,((0,0):Int×Int))))
  (fun s=>[(1,.int .i64 n0),(2,.slice ad due.length cdd),(3,ptr bm),(4,ptr bl),(8,.bool false),(9,s.2),(16,.int .i64 (due.length:Int)),(17,.int .i64 (s.1:Int))]) (0,_) ⟨Nat.zero_le _,hF,hA1⟩ rfl ?_
 clear hF hA1 mb
 rintro ⟨j,sv⟩ H2 ⟨hj,hF,hA⟩ ih
 simp only at hj hA
 have hsz:=hF.size
 refine Ut 1 rfl ?_
 by_cases hlt:j<due.length
 ·
  have hal:((b0,k0)::List.replicate j (n0,((0,0):Int×Int))).length=j+1:=by simp
  refine Ur 1 0 rfl (Uc 0 rfl (lssT (by omega)) (Uf 0 [1,2,3,4,8,9,16,17,18] rfl (Ut 1 rfl (Go'.condT rfl (Ut 3 rfl (Ur 6 640 rfl (Uq 2 rfl (O.bld (cs:=[.int .i64 n0,.int .i64 0,.int .i64 0]) rfl rfl rfl rfl (st79) rfl (by kernel_rfl) (O.bsl (cs:=(row EMv [(n0,((0,0):Int×Int))])) rfl rfl rfl ⟨underlying72,sizeOf79,zeroValue79,⟨_,typeInfo79,rfl⟩,rfl,by decide,by decide⟩ rfl (by decide) (by kernel_rfl) ?_)))))))))
  intro H3 M3
  have hs3:=M3.size
  have hA3:=hA.fr (M3.fr nowhere) (fun _ _ _ _=>nw)
  have m3:Rd H3 H2.size 0 (row EMv [(n0,((0,0):Int×Int))]):=M3.rd _ [] (by simp)
  refine ⟨trivial,?_⟩
  refine O.appA (E:=EMv) (Y:=[(n0,((0,0):Int×Int))]) rfl rfl rfl ⟨underlying72,sizeOf79,zeroValue79,⟨_,typeInfo79,rfl⟩,rfl,by decide,by decide⟩ rfl hA3 rfl ⟨_,_,_,rfl,m3⟩ (Nat.succ_pos _) (Nat.le_trans (Nat.mul_le_mul_left _ (Nat.le_of_ble_eq_true (n:=_) (m:=4096) rfl)) (by rw [hal];simp only [List.length_cons,List.length_nil];omega)) (by rw [hal];simp only [List.length_cons,List.length_nil];omega) ?_
  intro v4 H4 hA4 hF4 hs4
  have hg4:=hF4.size
  refine ⟨trivial,?_⟩
  refine Uf 1 [1,2,3,4,8,9,16,17,18] rfl (Ut 1 rfl (Ur 2 0 rfl (Ua 0 (((j+1:Nat):Int)) rfl (by omega) (Uf 1 [1,2,3,4,8,9,16,17,18] rfl (Uk [1,2,3,4,8,9,16,17] rfl (Go'.inLoop ?_))))))
  exact ih (j+1,v4) H4 ⟨hlt,(hF.trans (M3.fr nowhere)).trans' hF4 (fun _ _ _ h=>h) (fun b o hb hz=>by have hz':H.size≤b:=hz;omega),by
   have e:((b0,k0)::List.replicate (j+1) (n0,((0,0):Int×Int)))=((b0,k0)::List.replicate j (n0,((0,0):Int×Int)))++[(n0,((0,0):Int×Int))]:=by rw [List.replicate_succ',List.cons_append]
   simp only
   rw [e]
   exact hA4.mono fun b _ hz=>hz.elim id (fun h=>by omega)⟩ (by simp only;omega)
 ·
  obtain rfl:j=due.length:=by omega
  refine Ur 1 0 rfl (Uc 0 rfl (lssF (by omega)) (Uf 0 [1,2,3,4,8,9,16,17,18] rfl (Ut 1 rfl (Go'.condF rfl (Ut 2 rfl (Ur 5 133 rfl (Us 0 rfl (hF.rd cm0 (fun _ _=>nw)) rfl (Ul 0 rfl (hF.keep cu0 nw) (Uq 1 rfl (O.call rfl rfl rfl call65 rfl (igiter_spec hd (ho.fr hF) hol (hi.fr hF) (by omega) hA.inS (by rw [hwn];omega)) ?_))))))))))
  rintro _ H5 ⟨outs,h1,hag,hF5⟩
  have hF15:=hF.trans hF5
  obtain ⟨ga,gb,gc⟩:=hag
  have hol2:outs.length=due.length+1:=by rw [ga];exact hrl.1
  have hot:∀i,i≤due.length→outs[i]?=some (due[i]?):=fun i hi=>by
   obtain ⟨g1,g2⟩:=hrun i hi
   rw [gc i g2];exact g1
  replace h1:=h1.inS
  obtain ⟨a1,c1,e1⟩:=h1.len
  subst e1
  rw [hol2]
  obtain ⟨b2,o2,cc2,ee,hr2⟩:=h1.at (i:=due.length) (x:=none) (by rw [hot _ (Nat.le_refl _),List.getElem?_eq_none (Nat.le_refl _)])
  rw [hol2] at ee
  cases ee
  refine ⟨trivial,?_⟩
  refine Uf 1 [2,8,10] rfl (Ut 2 rfl (Ur 14 16777216 rfl (Ua 4 (((due.length+1:Nat):Int)) rfl (by omega) (Uc 0 rfl (neqF (by omega)) (Ux 4 (due.length) rfl (by omega) (by omega) (O.fa (off:=2) rfl rfl rfl rfl ⟨_,_,_,underlying68,rfl,rfl,sizeOf4⟩ rfl (Ul 0 rfl (hr2 2 _ rfl) (Uf 1 [2,8,10,42] rfl (Go'.condF rfl (Ut 3 rfl (Ur 3 0 rfl ?_)))))))))))
  refine Uf 3 [8,10,43,44,45] rfl (Ut 1 rfl (Go'.loop (Uk [8,10,43,44,45] rfl ?_)))
  refine Go'.ind (σ:=Nat) (fun s=>due.length-s) (fun s H'=>s≤due.length∧Fr nowhere H5 H')
   (fun s=>[(8,.bool false),(10,.slice (some ⟨b2,o2,none⟩) (due.length+1) c1),(43,.slice ad due.length cdd),(44,.int .i64 (due.length:Int)),(45,.int .i64 (s:Int))]) 0 ⟨Nat.zero_le _,Fr.refl _ _⟩ rfl ?_
  clear ih hA hj
  rintro j H6 ⟨hj,hf6⟩ ih
  have hs6:=hf6.size
  refine Ut 1 rfl ?_
  by_cases hlt2:j<due.length
  ·
   obtain ⟨y,hy⟩:∃y,due[j]?=some y:=⟨due[j],List.getElem?_eq_getElem hlt2⟩
   obtain ⟨b3,o3,c3,ee,hr3⟩:=(hdue.fr (hF15.trans hf6)).at hy
   cases ee
   refine Ur 1 0 rfl (Uc 0 rfl (lssT (by omega)) (Uf 0 [8,10,43,44,45,46] rfl (Ut 1 rfl (Go'.condT rfl (Ut 4 rfl (Ur 6 2192 rfl (Ux 1 j rfl (by omega) hlt2 (Us 0 rfl hr3 rfl (O.alloc rfl rfl rfl zeroValue27 ?_)))))))))
   intro H7 M7
   refine ⟨trivial,?_⟩
   have hs7:=M7.size
   have w7:Wr H7 H6.size 0 2:=M7.wr 2 (by decide)
   replace hr3:=(M7.fr nowhere).rd hr3 (fun _ _=>nw)
   refine Uq 1 rfl (O.st (vs:=(EJ.enc y)) rfl rfl sizeOf27 rfl rfl rfl rfl rfl w7 ?_)
   intro H8 W8
   have hf8:Fr nowhere H5 H8:=(hf6.trans (M7.fr nowhere)).trans' W8.fr (fun _ _ _ h=>h) (fun b o hb h=>by have h':=h.1;omega)
   have k8:Rd H8 H6.size 0 (EJ.enc y):=W8.all
   obtain ⟨b4,o4,c4,ee,hr4⟩:=(h1.fr hf8).at (i:=j) (x:=some y) (by rw [hot j (by omega),hy])
   rw [hol2] at ee
   cases ee
   refine ⟨trivial,?_⟩
   refine Uf 0 [8,10,11,12,43,44,45,46] rfl (Ut 1 rfl (Ud 7 320 (by kernel_rfl) (Ux 2 j rfl (by omega) (by omega) (Us 0 rfl hr4 rfl (Us 0 rfl k8 rfl (O.bld (cs:=(fvs (some y))) rfl rfl rfl rfl (st68) rfl (by kernel_rfl) (O.bin rfl rfl rfl rfl rfl rfl (found_neq (some y) _ _) (Uf 0 [8,10,11,12,43,44,45,46,56] rfl (Go'.condF rfl (Ut 2 rfl (Ur 2 0 rfl ?_)))))))))))
   refine Ua 0 (((j+1:Nat):Int)) rfl (by omega) (Uf 1 [8,10,11,12,43,44,45,46,56] rfl (Uk [8,10,43,44,45] rfl (Go'.inLoop ?_)))
   exact ih (j+1) H8 ⟨hlt2,hf8⟩ (by omega)
  ·
   obtain rfl:j=due.length:=by omega
   refine Ur 1 0 rfl (Uc 0 rfl (lssF (by omega)) (Uf 0 [8,10,43,44,45,46] rfl (Ut 1 rfl (Go'.condF rfl (Ut 2 rfl (Ur 1 0 rfl (Uf 1 [8] rfl (Go'.ret (vs:=[_]) func64 results64 ⟨rfl,trivial⟩ ?_))))))))
   exact ⟨rfl,hF15.trans hf6⟩
theorem fnGIterates {B:World} {H:Mem} {z:Int} {nl:Bool} {v u:Value} {ord:List Int} {l:List (Int×Int)} {key:Int×Int} (ho:InS EN H v ord) (hi:InS EJ H u l):
  Fn Try.prog B 20 [.agg #[v,.int .i64 z,.bool nl],u,.agg (EJ.enc key).toArray] H (fun r H'=>r=.bool true∧Fr nowhere H H'):=by
 obtain ⟨a,c,hu⟩:=hi.len
 subst hu
 obtain ⟨av,mv,cv,hv⟩:=InS.form ho
 subst hv
 have hF:Fr nowhere H H:=Fr.refl _ _
 refine fn_of func20 rfl ntmps20 ?_
 refine (show Go' _ _ _ _ 58 [(0,_),(1,_),(2,_)] [.code _] _ from ?_)
 refine Ut 1 rfl (Ur 4 42 rfl (O.box rfl rfl rfl rfl ?_))
 intro B1 MB1
 refine ⟨trivial,?_⟩
 have hsB1:=MB1.size
 replace hF:=hF.trans (MB1.fr nowhere)
 have mm:Rd B1 H.size 0 [.slice av mv cv,.int .i64 z,.bool nl]:=MB1.rd _ [] (by simp [Value.cells])
 have mm0:cl B1 H.size 0=some (.slice av mv cv):=mm 0 _ rfl
 have mm1:cl B1 H.size (0+1)=some (.int .i64 z):=mm 1 _ rfl
 refine O.box rfl rfl rfl rfl ?_
 intro B2 MB2
 refine ⟨trivial,?_⟩
 have hsB2:=MB2.size
 replace hF:=hF.trans (MB2.fr nowhere)
 replace mm:=(MB2.fr nowhere).rd mm (fun _ _=>nw)
 replace mm0:=(MB2.fr nowhere).keep mm0 nw
 replace mm1:=(MB2.fr nowhere).keep mm1 nw
 have ml:Rd B2 B1.size 0 [.slice a l.length c]:=MB2.rd _ [] (by simp [Value.cells])
 refine O.box rfl rfl rfl rfl ?_
 intro B3 MB3
 refine ⟨trivial,?_⟩
 have hsB3:=MB3.size
 replace hF:=hF.trans (MB3.fr nowhere)
 replace mm:=(MB3.fr nowhere).rd mm (fun _ _=>nw)
 replace mm0:=(MB3.fr nowhere).keep mm0 nw
 replace mm1:=(MB3.fr nowhere).keep mm1 nw
 replace ml:=(MB3.fr nowhere).rd ml (fun _ _=>nw)
 have mkey:Rd B3 B2.size 0 (EJ.enc key):=MB3.rd _ [] (by simp [Value.cells])
 refine Uf 1 [3,4,5,6] rfl (Ut 2 rfl ?_)
 have ml0:=ml 0 _ rfl
 cases hoz:decide (ord.length≤2147483647)
 ·
  refine Ur 8 265 rfl (Us 0 rfl mm rfl (O.call rfl rfl rfl call23 rfl (zzFits1_spec (ho.fr hF) hoz) ?_))
  rintro _ Hz ⟨rfl,hFz⟩
  replace hF:=hF.trans hFz
  replace mm:=hFz.rd mm (fun _ _=>nw)
  replace mm0:=hFz.keep mm0 nw
  replace mm1:=hFz.keep mm1 nw
  replace ml:=hFz.rd ml (fun _ _=>nw)
  replace mkey:=hFz.rd mkey (fun _ _=>nw)
  replace ml0:=hFz.keep ml0 nw
  refine ⟨trivial,?_⟩
  refine Uf 6 [3,4,5,6,17] rfl (Go'.condT rfl (Ut 1 rfl (Ur 1 0 rfl (Uf 1 [3,4,5,6] rfl (Go'.ret (vs:=[_]) func20 results20 ⟨rfl,trivial⟩ ?_)))))
  exact ⟨rfl,hF⟩
 ·
  have hoz2:=of_decide_eq_true hoz
  by_cases hb_lenl:(2147483647:Int)<(l.length:Int)
  ·
   refine Ur 8 265 rfl (Us 0 rfl mm rfl (O.call rfl rfl rfl call23 rfl (zzFits1_spec (ho.fr hF) hoz) ?_))
   rintro _ Hz ⟨rfl,hFz⟩
   replace hF:=hF.trans hFz
   replace mm:=hFz.rd mm (fun _ _=>nw)
   replace mm0:=hFz.keep mm0 nw
   replace mm1:=hFz.keep mm1 nw
   replace ml:=hFz.rd ml (fun _ _=>nw)
   replace mkey:=hFz.rd mkey (fun _ _=>nw)
   replace ml0:=hFz.keep ml0 nw
   refine ⟨trivial,?_⟩
   refine Ul 2 rfl ml0 (Uc 1 rfl (gtrT (by omega)) (Uf 1 [3,4,5,6,17] rfl (Go'.condT rfl (Ut 1 rfl (Ur 1 0 rfl (Uf 1 [3,4,5,6] rfl (Go'.ret (vs:=[_]) func20 results20 ⟨rfl,trivial⟩ ?_)))))))
   exact ⟨rfl,hF⟩
  ·
   refine Ur 8 265 rfl (Us 0 rfl mm rfl (O.call rfl rfl rfl call23 rfl (zzFits1_spec (ho.fr hF) hoz) ?_))
   rintro _ Hz ⟨rfl,hFz⟩
   replace hF:=hF.trans hFz
   replace mm:=hFz.rd mm (fun _ _=>nw)
   replace mm0:=hFz.keep mm0 nw
   replace mm1:=hFz.keep mm1 nw
   replace ml:=hFz.rd ml (fun _ _=>nw)
   replace mkey:=hFz.rd mkey (fun _ _=>nw)
   replace ml0:=hFz.keep ml0 nw
   refine ⟨trivial,?_⟩
   refine Ul 2 rfl ml0 (Uc 1 rfl (gtrF (by omega)) (Uf 1 [3,4,5,6,17] rfl (Go'.condF rfl (Ut 3 rfl ?_))))
   have hpl:=Pl.puts_length (OO ord) l
   have hsrt:=Pl.puts_srt (OO ord) l
   cases hfz:fitsb z
   ·
    refine Ur 3 9 rfl (Us 0 rfl mm rfl (O.call rfl rfl rfl call24 rfl (lfits_spec ⟨_,_,_,rfl⟩ hfz) ?_))
    rintro _ H6 ⟨rfl,hF6⟩
    replace hF:=hF.trans hF6
    replace mm:=hF6.rd mm (fun _ _=>nw)
    replace mm0:=hF6.keep mm0 nw
    replace mm1:=hF6.keep mm1 nw
    replace ml:=hF6.rd ml (fun _ _=>nw)
    replace mkey:=hF6.rd mkey (fun _ _=>nw)
    replace ml0:=hF6.keep ml0 nw
    refine ⟨trivial,?_⟩
    refine Uf 1 [3,4,5,6,20] rfl (Go'.condT rfl (Ut 1 rfl (Ur 2 2 rfl (O.call rfl rfl rfl call25 rfl alive_spec ?_))))
    rintro _ Hv ⟨rfl,hFv⟩
    replace hF:=hF.trans hFv
    replace mm:=hFv.rd mm (fun _ _=>nw)
    replace mm0:=hFv.keep mm0 nw
    replace mm1:=hFv.keep mm1 nw
    replace ml:=hFv.rd ml (fun _ _=>nw)
    replace mkey:=hFv.rd mkey (fun _ _=>nw)
    replace ml0:=hFv.keep ml0 nw
    refine ⟨trivial,?_⟩
    refine Uf 1 [3,4,5,6] rfl (Go'.ret (vs:=[_]) func20 results20 ⟨rfl,trivial⟩ ?_)
    exact ⟨rfl,hF⟩
   ·
    obtain ⟨d,rfl,hd⟩:=fitsb_nat hfz
    refine Ur 3 9 rfl (Us 0 rfl mm rfl (O.call rfl rfl rfl call24 rfl (lfits_spec ⟨_,_,_,rfl⟩ hfz) ?_))
    rintro _ H6 ⟨rfl,hF6⟩
    replace hF:=hF.trans hF6
    replace mm:=hF6.rd mm (fun _ _=>nw)
    replace mm0:=hF6.keep mm0 nw
    replace mm1:=hF6.keep mm1 nw
    replace ml:=hF6.rd ml (fun _ _=>nw)
    replace mkey:=hF6.rd mkey (fun _ _=>nw)
    replace ml0:=hF6.keep ml0 nw
    refine ⟨trivial,?_⟩
    refine Uf 1 [3,4,5,6,20] rfl (Go'.condF rfl (Ut 2 rfl (Ur 4 37 rfl (Us 0 rfl mm rfl (Ul 0 rfl ml0 (O.call rfl rfl rfl call43 rfl (igitems_spec hd (ho.fr hF) (by omega) (hi.fr hF) (by omega)) ?_))))))
    rintro g8 H8 ⟨hg8,hF8⟩
    replace hF:=hF.trans hF8
    replace mm:=hF8.rd mm (fun _ _=>nw)
    replace mm0:=hF8.keep mm0 nw
    replace mm1:=hF8.keep mm1 nw
    replace ml:=hF8.rd ml (fun _ _=>nw)
    replace mkey:=hF8.rd mkey (fun _ _=>nw)
    replace ml0:=hF8.keep ml0 nw
    have hI:=hg8.inS
    obtain ⟨ga,gc,hge⟩:=hI.len
    subst hge
    have hIs:InS EJ H8 (.slice ga (Pl.puts (OO ord) l).length gc) (Pl.puts (OO ord) l):=hI
    refine ⟨trivial,?_⟩
    refine Uf 1 [3,4,5,6,7] rfl (Ut 1 rfl (Ur 2 0 rfl (O.mkf rfl rfl rfl rfl rfl rfl (Uf 1 [3,4,5,6,7,8] rfl (Ut 1 rfl (Ur 5 149 rfl (Us 0 rfl mm rfl (Ul 0 rfl ml0 (Us 0 rfl mkey rfl (O.call rfl rfl rfl call59 rfl (igascend_spec hd (ho.fr hF) (by omega) (hi.fr hF) (by omega) (x:=key) (n:=0)) ?_))))))))))
    rintro up9 H9 ⟨hu9,hF9⟩
    replace hF:=hF.trans hF9
    replace mm:=hF9.rd mm (fun _ _=>nw)
    replace mm0:=hF9.keep mm0 nw
    replace mm1:=hF9.keep mm1 nw
    replace ml:=hF9.rd ml (fun _ _=>nw)
    replace mkey:=hF9.rd mkey (fun _ _=>nw)
    replace ml0:=hF9.keep ml0 nw
    replace hI:=hI.fr hF9
    rw [firstN_0] at hu9
    have hU:=hu9.inS
    obtain ⟨upa,upc,hue⟩:=hU.len
    subst hue
    have hup:Pl.up (OO ord) key (Pl.puts (OO ord) l)=(Pl.puts (OO ord) l).drop (Pl.pos (OO ord) key (Pl.puts (OO ord) l)):=rfl
    refine ⟨trivial,?_⟩
    refine Uf 1 [5,6,7,8,9] rfl (Ut 1 rfl (Ur 29 9149044912423040 rfl (Uq 1 rfl (O.bld (cs:=(EMv.enc (0,((0,0):Int×Int)))) rfl rfl rfl rfl (st79) rfl (by kernel_rfl) (Uq 1 rfl (O.callC rfl rfl rfl rfl call64 rfl (us:=[]) (caps:=[ptr H.size,ptr B1.size]) (walk_spec hd (ho.fr hF) (by omega) (hi.fr hF) (by omega) mm ml0 hI (by omega) (fun i hi=>(Pl.wlk_run (OO ord) (Pl.puts (OO ord) l) true ((0,0):Int×Int) _ (Nat.le_refl _)).2 i hi)) ?_))))))
    rintro _ H10 ⟨rfl,hF10⟩
    replace hF:=hF.trans hF10
    replace mm:=hF10.rd mm (fun _ _=>nw)
    replace mm0:=hF10.keep mm0 nw
    replace mm1:=hF10.keep mm1 nw
    replace ml:=hF10.rd ml (fun _ _=>nw)
    replace mkey:=hF10.rd mkey (fun _ _=>nw)
    replace ml0:=hF10.keep ml0 nw
    replace hI:=hI.fr hF10
    replace hU:=hU.fr hF10
    refine ⟨trivial,?_⟩
    refine Uq 2 rfl (O.bld (cs:=(EMv.enc (1,((0,0):Int×Int)))) rfl rfl rfl rfl (st79) rfl (by kernel_rfl) (Uq 1 rfl (O.call rfl rfl rfl call44 rfl (SI.turnedA_spec hI (by omega)) ?_)))
    rintro tv H11 ⟨ht,hF11⟩
    replace hF:=hF.trans hF11
    replace mm:=hF11.rd mm (fun _ _=>nw)
    replace mm0:=hF11.keep mm0 nw
    replace mm1:=hF11.keep mm1 nw
    replace ml:=hF11.rd ml (fun _ _=>nw)
    replace mkey:=hF11.rd mkey (fun _ _=>nw)
    replace ml0:=hF11.keep ml0 nw
    replace hI:=hI.fr hF11
    replace hU:=hU.fr hF11
    have hT:=ht.inS
    have hrl:(Pl.puts (OO ord) l).reverse.length=(Pl.puts (OO ord) l).length:=List.length_reverse
    refine ⟨trivial,?_⟩
    refine O.callC rfl rfl rfl rfl call64 rfl (us:=[]) (caps:=[ptr H.size,ptr B1.size]) (walk_spec hd (ho.fr hF) (by omega) (hi.fr hF) (by omega) mm ml0 hT (by rw [hrl];omega) (fun i hi=>(by have h:=(Pl.wlk_run (OO ord) (Pl.puts (OO ord) l) false ((0,0):Int×Int) _ (Nat.le_refl _)).2 i (by rw [hrl] at hi;exact hi);rw [←hrl] at h;exact h))) ?_
    rintro _ H12 ⟨rfl,hF12⟩
    replace hF:=hF.trans hF12
    replace mm:=hF12.rd mm (fun _ _=>nw)
    replace mm0:=hF12.keep mm0 nw
    replace mm1:=hF12.keep mm1 nw
    replace ml:=hF12.rd ml (fun _ _=>nw)
    replace mkey:=hF12.rd mkey (fun _ _=>nw)
    replace ml0:=hF12.keep ml0 nw
    replace hI:=hI.fr hF12
    replace hU:=hU.fr hF12
    refine ⟨trivial,?_⟩
    refine Us 3 rfl mkey rfl (O.bld (cs:=(EMv.enc (4,key))) rfl rfl rfl rfl (st79) rfl (by kernel_rfl) (Uq 1 rfl (O.callC rfl rfl rfl rfl call64 rfl (us:=[]) (caps:=[ptr H.size,ptr B1.size]) (walk_spec hd (ho.fr hF) (by omega) (hi.fr hF) (by omega) mm ml0 (hup▸hU) (by rw [List.length_drop];omega) (fun i hi=>(Pl.wls_run (OO ord) (Pl.puts (OO ord) l) (.inl rfl) key ((0,0):Int×Int) _ (Nat.le_refl _)).2 i hi)) ?_)))
    rintro _ H13 ⟨rfl,hF13⟩
    replace hF:=hF.trans hF13
    replace mm:=hF13.rd mm (fun _ _=>nw)
    replace mm0:=hF13.keep mm0 nw
    replace mm1:=hF13.keep mm1 nw
    replace ml:=hF13.rd ml (fun _ _=>nw)
    replace mkey:=hF13.rd mkey (fun _ _=>nw)
    replace ml0:=hF13.keep ml0 nw
    replace hI:=hI.fr hF13
    replace hU:=hU.fr hF13
    refine ⟨trivial,?_⟩
    refine Us 3 rfl mkey rfl (O.bld (cs:=(EMv.enc (5,key))) rfl rfl rfl rfl (st79) rfl (by kernel_rfl) (Uq 1 rfl (O.callC rfl rfl rfl rfl call64 rfl (us:=[]) (caps:=[ptr H.size,ptr B1.size]) (walk_spec hd (ho.fr hF) (by omega) (hi.fr hF) (by omega) mm ml0 (hup▸hU) (by rw [List.length_drop];omega) (fun i hi=>(Pl.wls_run (OO ord) (Pl.puts (OO ord) l) (.inr rfl) key ((0,0):Int×Int) _ (Nat.le_refl _)).2 i hi)) ?_)))
    rintro _ H14 ⟨rfl,hF14⟩
    replace hF:=hF.trans hF14
    replace mm:=hF14.rd mm (fun _ _=>nw)
    replace mm0:=hF14.keep mm0 nw
    replace mm1:=hF14.keep mm1 nw
    replace ml:=hF14.rd ml (fun _ _=>nw)
    replace mkey:=hF14.rd mkey (fun _ _=>nw)
    replace ml0:=hF14.keep ml0 nw
    replace hI:=hI.fr hF14
    replace hU:=hU.fr hF14
    refine ⟨trivial,?_⟩
    refine Uq 2 rfl (O.call rfl rfl rfl call25 rfl alive_spec ?_)
    rintro _ Hv ⟨rfl,hFv⟩
    replace hF:=hF.trans hFv
    replace mm:=hFv.rd mm (fun _ _=>nw)
    replace mm0:=hFv.keep mm0 nw
    replace mm1:=hFv.keep mm1 nw
    replace ml:=hFv.rd ml (fun _ _=>nw)
    replace mkey:=hFv.rd mkey (fun _ _=>nw)
    replace ml0:=hFv.keep ml0 nw
    refine ⟨trivial,?_⟩
    refine Uf 2 [6] rfl (Go'.ret (vs:=[_]) func20 results20 ⟨rfl,trivial⟩ ?_)
    exact ⟨rfl,hF⟩
end Go.Bt.FG
namespace Go.Bt.FG
open Go Go.Proofs Go.Proofs.Try
set_option maxRecDepth 20000
set_option maxHeartbeats 4000000
set_option linter.unusedSectionVars false
theorem iglen_spec {B:World} {H:Mem} {d:Nat} {nl:Bool} {v u:Value} {ord:List Int} {l:List (Int×Int)} (hd:d=0∨2≤d∧d≤128) (ho:InS EN H v ord) (hol:ord.length≤4294967296) (hi:InS EJ H u l) (hll:l.length≤4294967296):
  Fn Try.prog B 78 [.agg #[v,.int .i64 (d:Int),.bool nl],u] H (fun r H'=>r=.int .i64 ((Pl.puts (OO ord) l).length:Int)∧Fr nowhere H H'):=by
 obtain ⟨a,c,hu⟩:=hi.len
 subst hu
 obtain ⟨av,mv,cv,hv⟩:=InS.form ho
 subst hv
 have hF:Fr nowhere H H:=Fr.refl _ _
 have hP:=PD_ok hd
 refine fn_of func78 rfl ntmps78 ?_
 refine (show Go' _ _ _ _ 9 [(0,_),(1,_)] [.code _] _ from ?_)
 refine Ut 1 rfl (Ur 2 2 rfl (O.box rfl rfl rfl rfl ?_))
 intro B1 MB1
 refine ⟨trivial,?_⟩
 have hsB1:=MB1.size
 replace hF:=hF.trans (MB1.fr nowhere)
 have mm:Rd B1 H.size 0 [.slice av mv cv,.int .i64 (d:Int),.bool nl]:=MB1.rd _ [] (by simp [Value.cells])
 have mm0:cl B1 H.size 0=some (.slice av mv cv):=mm 0 _ rfl
 have mm1:cl B1 H.size (0+1)=some (.int .i64 (d:Int)):=mm 1 _ rfl
 refine Uf 1 [1,2,4] rfl (Ut 1 rfl (Ur 5 161 rfl (Us 0 rfl mm rfl (Uq 1 rfl (O.call rfl rfl rfl call68 rfl (grow_spec hd (ho.fr hF) hol (hi.fr hF) hll) ?_)))))
 rintro _ H3 ⟨I,hIo,hIw,hIb,tr,S,rfl,hM,hF3,hS⟩
 have hs3:=hF3.size
 replace hF:=hF.trans hF3
 replace mm:=hF3.rd mm (fun _ _=>nw)
 replace mm0:=hF3.keep mm0 nw
 replace mm1:=hF3.keep mm1 nw
 have hSb:∀b,S b∨(b<cx.base∧cx.own b)→B1.size≤b:=fun b hb=>hb.elim (hS b) (fun h=>hIw b h.2)
 have hOO:OO ord=OI:=by rw [←hIo];rfl
 have hpl:=Pl.puts_length OI l
 have hSlt:=hM.lt
 have hbs:=hM.tc.hb
 unfold ptr
 refine ⟨trivial,?_⟩
 refine O.callQ rfl rfl rfl call134 rfl (len_spec hM) trivial (Uf 1 [4] rfl (Go'.ret (vs:=[_]) func78 results78 ⟨rfl,trivial⟩ ?_))
 rw [hOO];exact ⟨rfl,hF⟩
theorem lawGLen_spec {B:World} {H:Mem} {d:Nat} {nl:Bool} {v u:Value} {ord:List Int} {l:List (Int×Int)} (hd:d=0∨2≤d∧d≤128) (ho:InS EN H v ord) (hol:ord.length≤4294967296) (hi:InS EJ H u l) (hll:l.length≤4294967296):
  Fn Try.prog B 31 [.agg #[v,.int .i64 (d:Int),.bool nl],u] H (fun r H'=>r=.bool true∧Fr nowhere H H'):=by
 obtain ⟨a,c,hu⟩:=hi.len
 subst hu
 obtain ⟨av,mv,cv,hv⟩:=InS.form ho
 subst hv
 have hF:Fr nowhere H H:=Fr.refl _ _
 have hP:=PD_ok hd
 refine fn_of func31 rfl ntmps31 ?_
 refine (show Go' _ _ _ _ 18 [(0,_),(1,_)] [.code _] _ from ?_)
 refine Ut 1 rfl (Ur 2 2 rfl (O.box rfl rfl rfl rfl ?_))
 intro B1 MB1
 refine ⟨trivial,?_⟩
 have hsB1:=MB1.size
 replace hF:=hF.trans (MB1.fr nowhere)
 have mm:Rd B1 H.size 0 [.slice av mv cv,.int .i64 (d:Int),.bool nl]:=MB1.rd _ [] (by simp [Value.cells])
 have mm0:cl B1 H.size 0=some (.slice av mv cv):=mm 0 _ rfl
 have mm1:cl B1 H.size (0+1)=some (.int .i64 (d:Int)):=mm 1 _ rfl
 refine Uf 1 [1,2,4] rfl (Ut 1 rfl (Ur 4 33 rfl (Us 0 rfl mm rfl (Uq 1 rfl (O.call rfl rfl rfl call78 rfl (iglen_spec hd (ho.fr hF) hol (hi.fr hF) hll) ?_)))))
 rintro _ H3 ⟨rfl,hF3⟩
 replace hF:=hF.trans hF3
 replace mm:=hF3.rd mm (fun _ _=>nw)
 replace mm0:=hF3.keep mm0 nw
 replace mm1:=hF3.keep mm1 nw
 refine ⟨trivial,?_⟩
 refine Uf 1 [1,2,4,5] rfl (Ut 1 rfl (Ur 6 132 rfl (Ul 1 rfl mm0 (Uq 1 rfl (O.call rfl rfl rfl call42 rfl (tree_spec (ho.fr hF) (by omega) (hi.fr hF) hll) ?_)))))
 rintro tv H4 ⟨hA4,hF4⟩
 replace hF:=hF.trans hF4
 replace mm:=hF4.rd mm (fun _ _=>nw)
 replace mm0:=hF4.keep mm0 nw
 replace mm1:=hF4.keep mm1 nw
 obtain ⟨ta,tc,rfl⟩:=hA4.inS.len
 refine ⟨trivial,?_⟩
 refine Uf 2 [4,5,6] rfl (Ut 1 rfl (Ur 4 0 rfl (Uc 2 rfl (eqlT (by omega)) (Uf 1 [4] rfl (Go'.ret (vs:=[_]) func31 results31 ⟨rfl,trivial⟩ ?_)))))
 exact ⟨rfl,hF⟩
theorem fnExactGLen {B:World} {H:Mem} {z:Int} {nl:Bool} {v u:Value} {ord:List Int} {l:List (Int×Int)} (ho:InS EN H v ord) (hi:InS EJ H u l):
  Fn Try.prog B 5 [.agg #[v,.int .i64 z,.bool nl],u] H (fun r H'=>r=.bool true∧Fr nowhere H H'):=by
 obtain ⟨a,c,hu⟩:=hi.len
 subst hu
 obtain ⟨av,mv,cv,hv⟩:=InS.form ho
 subst hv
 have hF:Fr nowhere H H:=Fr.refl _ _
 refine fn_of func5 rfl ntmps5 ?_
 refine (show Go' _ _ _ _ 27 [(0,_),(1,_)] [.code _] _ from ?_)
 refine Ut 1 rfl (Ur 2 2 rfl (O.box rfl rfl rfl rfl ?_))
 intro B1 MB1
 refine ⟨trivial,?_⟩
 have hsB1:=MB1.size
 replace hF:=hF.trans (MB1.fr nowhere)
 have mm:Rd B1 H.size 0 [.slice av mv cv,.int .i64 z,.bool nl]:=MB1.rd _ [] (by simp [Value.cells])
 have mm0:cl B1 H.size 0=some (.slice av mv cv):=mm 0 _ rfl
 have mm1:cl B1 H.size (0+1)=some (.int .i64 z):=mm 1 _ rfl
 refine Uf 1 [1,2,4] rfl (Ut 2 rfl ?_)
 cases hoz:decide (ord.length≤2147483647)
 ·
  refine Ur 8 9 rfl (Us 0 rfl mm rfl (O.call rfl rfl rfl call23 rfl (zzFits1_spec (ho.fr hF) hoz) ?_))
  rintro _ H1 ⟨rfl,hF1⟩
  replace hF:=hF.trans hF1
  replace mm:=hF1.rd mm (fun _ _=>nw)
  replace mm0:=hF1.keep mm0 nw
  replace mm1:=hF1.keep mm1 nw
  refine ⟨trivial,?_⟩
  refine Uf 6 [1,2,4,12] rfl (Go'.condT rfl (Ut 1 rfl (Ur 1 0 rfl (Uf 1 [1,2,4] rfl (Go'.ret (vs:=[_]) func5 results5 ⟨rfl,trivial⟩ ?_)))))
  exact ⟨rfl,hF⟩
 ·
  have hoz2:=of_decide_eq_true hoz
  by_cases hb_lenl:(2147483647:Int)<(l.length:Int)
  ·
   refine Ur 8 9 rfl (Us 0 rfl mm rfl (O.call rfl rfl rfl call23 rfl (zzFits1_spec (ho.fr hF) hoz) ?_))
   rintro _ H1 ⟨rfl,hF1⟩
   replace hF:=hF.trans hF1
   replace mm:=hF1.rd mm (fun _ _=>nw)
   replace mm0:=hF1.keep mm0 nw
   replace mm1:=hF1.keep mm1 nw
   refine ⟨trivial,?_⟩
   refine Uc 4 rfl (gtrT (by omega)) (Uf 1 [1,2,4,12] rfl (Go'.condT rfl (Ut 1 rfl (Ur 1 0 rfl (Uf 1 [1,2,4] rfl (Go'.ret (vs:=[_]) func5 results5 ⟨rfl,trivial⟩ ?_))))))
   exact ⟨rfl,hF⟩
  ·
   refine Ur 8 9 rfl (Us 0 rfl mm rfl (O.call rfl rfl rfl call23 rfl (zzFits1_spec (ho.fr hF) hoz) ?_))
   rintro _ H1 ⟨rfl,hF1⟩
   replace hF:=hF.trans hF1
   replace mm:=hF1.rd mm (fun _ _=>nw)
   replace mm0:=hF1.keep mm0 nw
   replace mm1:=hF1.keep mm1 nw
   refine ⟨trivial,?_⟩
   refine Uc 4 rfl (gtrF (by omega)) (Uf 1 [1,2,4,12] rfl (Go'.condF rfl (Ut 2 rfl ?_)))
   cases hfz:fitsb z
   ·
    refine Ur 15 8660010 rfl (O.call rfl rfl rfl call30 rfl exMake_spec ?_)
    rintro _ H2 ⟨rfl,hF2⟩
    replace hF:=hF.trans hF2
    replace mm:=hF2.rd mm (fun _ _=>nw)
    replace mm0:=hF2.keep mm0 nw
    replace mm1:=hF2.keep mm1 nw
    refine ⟨trivial,?_⟩
    refine O.call rfl rfl rfl call32 rfl exItems_spec ?_
    rintro ev H3 ⟨hev,hF3⟩
    replace hF:=hF.trans hF3
    replace mm:=hF3.rd mm (fun _ _=>nw)
    replace mm0:=hF3.keep mm0 nw
    replace mm1:=hF3.keep mm1 nw
    refine ⟨trivial,?_⟩
    refine O.call rfl rfl rfl call31 rfl (lawGLen_spec (d:=2) (by decide) (InS.nil EN _) (by decide) hev (by decide)) ?_
    rintro _ H4 ⟨rfl,hF4⟩
    replace hF:=hF.trans hF4
    replace mm:=hF4.rd mm (fun _ _=>nw)
    replace mm0:=hF4.keep mm0 nw
    replace mm1:=hF4.keep mm1 nw
    refine ⟨trivial,?_⟩
    refine Ul 2 rfl mm1 (O.callQ rfl rfl rfl call33 rfl (fits_spec' hfz) trivial (Uq 4 rfl (Pl.pass2 rfl rfl rfl rfl trivial (Uf 3 [4] rfl (Go'.ret (vs:=[_]) func5 results5 ⟨rfl,trivial⟩ ?_)))))
    exact ⟨rfl,hF⟩
   ·
    obtain ⟨d,rfl,hd⟩:=fitsb_nat hfz
    refine Ur 15 8660010 rfl (O.call rfl rfl rfl call30 rfl exMake_spec ?_)
    rintro _ H2 ⟨rfl,hF2⟩
    replace hF:=hF.trans hF2
    replace mm:=hF2.rd mm (fun _ _=>nw)
    replace mm0:=hF2.keep mm0 nw
    replace mm1:=hF2.keep mm1 nw
    refine ⟨trivial,?_⟩
    refine O.call rfl rfl rfl call32 rfl exItems_spec ?_
    rintro ev H3 ⟨hev,hF3⟩
    replace hF:=hF.trans hF3
    replace mm:=hF3.rd mm (fun _ _=>nw)
    replace mm0:=hF3.keep mm0 nw
    replace mm1:=hF3.keep mm1 nw
    refine ⟨trivial,?_⟩
    refine O.call rfl rfl rfl call31 rfl (lawGLen_spec (d:=2) (by decide) (InS.nil EN _) (by decide) hev (by decide)) ?_
    rintro _ H4 ⟨rfl,hF4⟩
    replace hF:=hF.trans hF4
    replace mm:=hF4.rd mm (fun _ _=>nw)
    replace mm0:=hF4.keep mm0 nw
    replace mm1:=hF4.keep mm1 nw
    refine ⟨trivial,?_⟩
    refine Ul 2 rfl mm1 (O.callQ rfl rfl rfl call33 rfl (fits_spec' hfz) trivial (Us 2 rfl mm rfl (Uq 1 rfl (O.call rfl rfl rfl call31 rfl (lawGLen_spec hd (ho.fr hF) (by omega) (hi.fr hF) (by omega)) ?_))))
    rintro _ H5 ⟨rfl,hF5⟩
    replace hF:=hF.trans hF5
    replace mm:=hF5.rd mm (fun _ _=>nw)
    replace mm0:=hF5.keep mm0 nw
    replace mm1:=hF5.keep mm1 nw
    refine ⟨trivial,?_⟩
    refine Uf 3 [4] rfl (Go'.ret (vs:=[_]) func5 results5 ⟨rfl,trivial⟩ ?_)
    exact ⟨rfl,hF⟩
end Go.Bt.FG
