/- Contracts of functions of the program, proved by walking through their code. Conditions: those that each theorem names. -/
import Derived.Test.YtmboghgpakhceaaToiA
import Derived.Test.YtmboghgpakhceaaTogD
import Derived.Test.YtmboghgpakhceaaToKi
set_option linter.unusedVariables false
namespace Go.Bt.FG
open Go Go.Proofs Go.Proofs.Try
set_option maxRecDepth 20000
set_option maxHeartbeats 4000000
set_option linter.unusedSectionVars false
theorem App.rp {H H':Mem} {b o len c m s:Nat} {xs news:List Value} {b' o' c':Nat} (ha:App H H' b o len c m s xs news b' o' c'):Fr (fun b1 _=>b1=b) H H'∧(b'=b∨H.size≤b'):=
 ⟨ha.fr.mono fun b1 o1 _ hz=>hz.1,by rcases ha.place with ⟨h,_⟩|⟨h,_⟩<;>omega⟩
structure TkT (b2 b3 D:Nat) (n:Int) (acc:List (Int×Int)) (Z:Nat→Prop) (H:Mem):Prop where
 c2:cl H b2 0=some (ptr D)
 c3:cl H b3 0=some (.int .i64 n)
 wr:Wr H D 0 1
 z2:Z b2
 z3:Z b3
 zD:Z D
 n2:b2≠D
 n3:b3≠D
 lt:∀b,Z b→b<H.size
 sl:(acc=[]∧cl H D 0=some (.slice none 0 0))∨∃b o c,cl H D 0=some (.slice (some ⟨b,o,none⟩) acc.length c)∧SlE EJ H b o c acc∧Z b∧b≠D∧b≠b2∧b≠b3
theorem TkT.fr {b2 b3 D:Nat} {n:Int} {acc:List (Int×Int)} {Z:Nat→Prop} {H H':Mem} {Y:Nat→Nat→Prop} (h:TkT b2 b3 D n acc Z H) (hf:Fr Y H H') (hy:∀b o,Z b→¬Y b o):TkT b2 b3 D n acc Z H' where
 c2:=hf.keep h.c2 (hy _ _ h.z2)
 c3:=hf.keep h.c3 (hy _ _ h.z3)
 wr:=hf.wr h.wr
 z2:=h.z2
 z3:=h.z3
 zD:=h.zD
 n2:=h.n2
 n3:=h.n3
 lt:=fun b hb=>Nat.lt_of_lt_of_le (h.lt b hb) hf.size
 sl:=h.sl.elim (fun ⟨e,k⟩=>.inl ⟨e,hf.keep k (hy _ _ h.zD)⟩) fun ⟨b,o,c,k,hs,hz,r⟩=>.inr ⟨b,o,c,hf.keep k (hy _ _ h.zD),hs.fr hf (fun i _ _=>hy _ _ hz),hz,r⟩
theorem taker1_spec {B:World} {H:Mem} {b2 b3 D:Nat} {n:Int} {acc:List (Int×Int)} {Z:Nat→Prop} {x:Int×Int} (hT:TkT b2 b3 D n acc Z H) (hl:acc.length<4294967296):
  Fn Try.prog B 152 [.agg (EJ.enc x).toArray,ptr b2,ptr b3] H (fun r H'=>r=.bool (goN n (acc++[x]))∧∃Z',TkT b2 b3 D n (acc++[x]) Z' H'∧Fr (fun b _=>Z b) H H'∧∀b,Z' b→Z b∨H.size≤b):=by
 unfold ptr
 refine fn_of func152 rfl ntmps152 ?_
 refine (show Go' _ _ _ _ 23 [(0,_),(1,_),(2,_)] [.code _] _ from ?_)
 refine Ut 1 rfl (Ur 2 2 rfl (O.box rfl rfl rfl rfl ?_))
 intro H1 M1
 refine ⟨trivial,?_⟩
 have hs1:=M1.size
 have mi:Rd H1 H.size 0 (EJ.enc x):=M1.rd _ [] (by simp [Value.cells])
 have hlt:=hT.lt
 replace hT:=hT.fr (M1.fr nowhere) (fun _ _ _=>nw)
 obtain ⟨c2,c3,hw,z2,z3,zD,n2,n3,lt,hsl⟩:=hT
 unfold ptr at c2
 have l2:=hlt _ z2
 have l3:=hlt _ z3
 have lD:=hlt _ zD
 refine Uf 1 [1,2,3,4] rfl (Ut 1 rfl ?_)
 have hacc1:(acc++[x]).length=acc.length+1:=by simp
 rcases hsl with ⟨rfl,cD⟩|⟨b,o,c,cD,hs,zb,nb,nb2,nb3⟩
 ·
  refine UD (fun H'=>cl H' b2 0=some (.pointer (some ⟨D,0,none⟩))∧cl H' D 0=some (.slice none 0 0)∧Rd H' H.size 0 (EJ.enc x)) 9 207104 (by kernel_rfl) (⟨c2,cD,mi⟩) (UL 0 rfl (fun _ h=>h.1) (UL 0 rfl (fun _ h=>h.1) (UL 1 rfl (fun _ h=>h.2.1) (Us 0 rfl mi rfl (O.bsl (cs:=(EJ.enc x)) rfl rfl rfl ⟨underlying25,sizeOf27,zeroValue27,⟨_,typeInfo27,rfl⟩,rfl,by decide,by decide⟩ rfl (by decide) (by kernel_rfl) ?_)))))
  intro H2 M2
  have hs2:=M2.size
  replace c2:=M2.keep c2
  replace c3:=M2.keep c3
  replace cD:=M2.keep cD
  replace mi:=(M2.fr nowhere).rd mi (fun _ _=>nw)
  replace hw:=(M2.fr nowhere).wr hw
  have m2:Rd H2 H1.size 0 (EJ.enc x):=M2.rd _ [] (by simp)
  refine ⟨⟨c2,cD,mi⟩,?_⟩
  refine O.appN (m:=1) (news:=(EJ.enc x)) rfl rfl rfl ⟨underlying25,sizeOf27,zeroValue27,⟨_,typeInfo27,rfl⟩,rfl,by decide,by decide⟩ rfl rfl ⟨_,_,_,rfl,m2⟩ rfl (Nat.le_trans (Nat.mul_le_mul_left _ (Nat.le_of_ble_eq_true (n:=_) (m:=4096) rfl)) (by omega)) (by omega) (by omega) ?_
  intro cc H3 hsl3 fa hs3
  replace c2:=fa.keep c2 nw
  replace c3:=fa.keep c3 nw
  replace cD:=fa.keep cD nw
  replace mi:=fa.rd mi (fun _ _=>nw)
  replace hw:=fa.wr hw
  refine ⟨⟨c2,cD,mi⟩,?_⟩
  refine Uq 1 rfl (O.st3 rfl rfl sizeOf25 rfl rfl rfl rfl rfl hw ?_)
  intro H4 W4
  have hs4:=W4.size
  replace c2:=W4.fr.keep c2 (nr (.inl n2))
  replace c3:=W4.fr.keep c3 (nr (.inl n3))
  replace hw:=W4.fr.wr hw
  clear cD
  have cD:=W4.at
  refine Uf 0 [1,2,4] rfl (Ut 1 rfl ?_)
  by_cases hn:n<1
  ·
   refine Ud 11 17473 (by kernel_rfl) (Ul 0 rfl c3 (Uc 0 rfl (lssT (by omega)) (Uf 9 [4] rfl (Go'.ret (vs:=[_]) func152 results152 ⟨rfl,trivial⟩ ?_))))
   exact ⟨by unfold goN;rw [decide_eq_true hn];rfl,fun b=>Z b∨(H.size≤b∧b<H4.size),⟨c2,c3,hw,.inl z2,.inl z3,.inl zD,n2,n3,fun b hb=>hb.elim (fun h=>by have:=hlt b h;omega) (fun h=>h.2),.inr ⟨H2.size,0,cc,cD,(SlE.of (l:=[x]) hsl3 (by rw [row_one]) rfl).fr W4.fr (fun _ _ _=>nr (.inl (by omega))),.inr (by omega),by omega,by omega,by omega⟩⟩,(((M1.fr nowhere).trans (M2.fr nowhere)).trans fa).trans' W4.fr (fun _ _ _ h=>h.elim) (fun b o _ hz=>by rw [hz.1];exact zD),fun b hb=>hb.imp id (fun h=>h.1)⟩
  ·
   by_cases hn2:(1:Int)<n
   ·
    refine Ud 11 17473 (by kernel_rfl) (Ul 0 rfl c3 (Uc 0 rfl (lssF (by omega)) (Ul 1 rfl c2 (Ul 1 rfl cD (Ul 1 rfl c3 (Uc 0 rfl (lssT (by omega)) (Uf 2 [4] rfl (Go'.ret (vs:=[_]) func152 results152 ⟨rfl,trivial⟩ ?_))))))))
    exact ⟨by unfold goN;rw [decide_eq_false hn,hacc1];rw [decide_eq_true (by simpa using hn2)];rfl,fun b=>Z b∨(H.size≤b∧b<H4.size),⟨c2,c3,hw,.inl z2,.inl z3,.inl zD,n2,n3,fun b hb=>hb.elim (fun h=>by have:=hlt b h;omega) (fun h=>h.2),.inr ⟨H2.size,0,cc,cD,(SlE.of (l:=[x]) hsl3 (by rw [row_one]) rfl).fr W4.fr (fun _ _ _=>nr (.inl (by omega))),.inr (by omega),by omega,by omega,by omega⟩⟩,(((M1.fr nowhere).trans (M2.fr nowhere)).trans fa).trans' W4.fr (fun _ _ _ h=>h.elim) (fun b o _ hz=>by rw [hz.1];exact zD),fun b hb=>hb.imp id (fun h=>h.1)⟩
   ·
    refine Ud 11 17473 (by kernel_rfl) (Ul 0 rfl c3 (Uc 0 rfl (lssF (by omega)) (Ul 1 rfl c2 (Ul 1 rfl cD (Ul 1 rfl c3 (Uc 0 rfl (lssF (by omega)) (Uf 2 [4] rfl (Go'.ret (vs:=[_]) func152 results152 ⟨rfl,trivial⟩ ?_))))))))
    exact ⟨by unfold goN;rw [decide_eq_false hn,hacc1];rw [decide_eq_false (by simpa using hn2)];rfl,fun b=>Z b∨(H.size≤b∧b<H4.size),⟨c2,c3,hw,.inl z2,.inl z3,.inl zD,n2,n3,fun b hb=>hb.elim (fun h=>by have:=hlt b h;omega) (fun h=>h.2),.inr ⟨H2.size,0,cc,cD,(SlE.of (l:=[x]) hsl3 (by rw [row_one]) rfl).fr W4.fr (fun _ _ _=>nr (.inl (by omega))),.inr (by omega),by omega,by omega,by omega⟩⟩,(((M1.fr nowhere).trans (M2.fr nowhere)).trans fa).trans' W4.fr (fun _ _ _ h=>h.elim) (fun b o _ hz=>by rw [hz.1];exact zD),fun b hb=>hb.imp id (fun h=>h.1)⟩
 ·
  have lb:=hlt _ zb
  refine UD (fun H'=>cl H' b2 0=some (.pointer (some ⟨D,0,none⟩))∧cl H' D 0=some (.slice (some ⟨b,o,none⟩) acc.length c)∧Rd H' H.size 0 (EJ.enc x)) 9 207104 (by kernel_rfl) (⟨c2,cD,mi⟩) (UL 0 rfl (fun _ h=>h.1) (UL 0 rfl (fun _ h=>h.1) (UL 1 rfl (fun _ h=>h.2.1) (Us 0 rfl mi rfl (O.bsl (cs:=(EJ.enc x)) rfl rfl rfl ⟨underlying25,sizeOf27,zeroValue27,⟨_,typeInfo27,rfl⟩,rfl,by decide,by decide⟩ rfl (by decide) (by kernel_rfl) ?_)))))
  intro H2 M2
  have hs2:=M2.size
  replace c2:=M2.keep c2
  replace c3:=M2.keep c3
  replace cD:=M2.keep cD
  replace mi:=(M2.fr nowhere).rd mi (fun _ _=>nw)
  replace hw:=(M2.fr nowhere).wr hw
  have m2:Rd H2 H1.size 0 (EJ.enc x):=M2.rd _ [] (by simp)
  replace hs:=hs.fr (M2.fr nowhere) (fun _ _ _=>nw)
  refine ⟨⟨c2,cD,mi⟩,?_⟩
  refine O.app (m:=1) (news:=(EJ.enc x)) rfl rfl rfl ⟨underlying25,sizeOf27,zeroValue27,⟨_,typeInfo27,rfl⟩,rfl,by decide,by decide⟩ rfl hs rfl (.inl ⟨_,_,_,rfl,m2⟩) rfl rfl (Nat.le_trans (Nat.mul_le_mul_left _ (Nat.le_of_ble_eq_true (n:=_) (m:=4096) rfl)) (by omega)) (by omega) ?_
  intro bb oo cc H3 ha
  obtain ⟨fa,pa⟩:=(App.rp ha)
  have hs3:=fa.size
  have hsl3:=SlE.app (E:=EJ) ha
  have hbb:bb<H3.size:=Sl.lt hsl3 (by have:=hsl3.hle;rw [hacc1] at this;exact Nat.mul_pos (by omega) EJ.pos)
  replace c2:=fa.keep c2 (fun e=>nb2 e.symm)
  replace c3:=fa.keep c3 (fun e=>nb3 e.symm)
  replace cD:=fa.keep cD (fun e=>nb e.symm)
  replace mi:=fa.rd mi (fun _ _ e=>by have e':H.size=b:=e;omega)
  replace hw:=fa.wr hw
  refine ⟨⟨c2,cD,mi⟩,?_⟩
  refine Uq 1 rfl (O.st3 rfl rfl sizeOf25 rfl rfl rfl rfl rfl hw ?_)
  intro H4 W4
  have hs4:=W4.size
  replace c2:=W4.fr.keep c2 (nr (.inl n2))
  replace c3:=W4.fr.keep c3 (nr (.inl n3))
  replace hw:=W4.fr.wr hw
  clear cD
  have cD:=W4.at
  refine Uf 0 [1,2,4] rfl (Ut 1 rfl ?_)
  by_cases hn:n<1
  ·
   refine Ud 11 17473 (by kernel_rfl) (Ul 0 rfl c3 (Uc 0 rfl (lssT (by omega)) (Uf 9 [4] rfl (Go'.ret (vs:=[_]) func152 results152 ⟨rfl,trivial⟩ ?_))))
   exact ⟨by unfold goN;rw [decide_eq_true hn];rfl,fun b=>Z b∨(H.size≤b∧b<H4.size),⟨c2,c3,hw,.inl z2,.inl z3,.inl zD,n2,n3,fun b hb=>hb.elim (fun h=>by have:=hlt b h;omega) (fun h=>h.2),.inr ⟨bb,oo,cc,by rw [hacc1];exact cD,hsl3.fr W4.fr (fun _ _ _=>nr (.inl (by omega))),(by rcases pa with h|h;exact .inl (h▸zb);exact .inr (by omega)),by omega,by omega,by omega⟩⟩,(((M1.fr nowhere).trans (M2.fr nowhere)).trans' fa (Z:=fun b _=>Z b) (fun _ _ _ h=>h.elim) (fun y o _ hz=>by have hz':y=b:=hz;rw [hz'];exact zb)).trans' W4.fr (fun _ _ _ h=>h) (fun b o _ hz=>by rw [hz.1];exact zD),fun b hb=>hb.imp id (fun h=>h.1)⟩
  ·
   by_cases hn2:((acc.length+1:Nat):Int)<n
   ·
    refine Ud 11 17473 (by kernel_rfl) (Ul 0 rfl c3 (Uc 0 rfl (lssF (by omega)) (Ul 1 rfl c2 (Ul 1 rfl cD (Ul 1 rfl c3 (Uc 0 rfl (lssT (by omega)) (Uf 2 [4] rfl (Go'.ret (vs:=[_]) func152 results152 ⟨rfl,trivial⟩ ?_))))))))
    exact ⟨by unfold goN;rw [decide_eq_false hn,hacc1];rw [decide_eq_true (by simpa using hn2)];rfl,fun b=>Z b∨(H.size≤b∧b<H4.size),⟨c2,c3,hw,.inl z2,.inl z3,.inl zD,n2,n3,fun b hb=>hb.elim (fun h=>by have:=hlt b h;omega) (fun h=>h.2),.inr ⟨bb,oo,cc,by rw [hacc1];exact cD,hsl3.fr W4.fr (fun _ _ _=>nr (.inl (by omega))),(by rcases pa with h|h;exact .inl (h▸zb);exact .inr (by omega)),by omega,by omega,by omega⟩⟩,(((M1.fr nowhere).trans (M2.fr nowhere)).trans' fa (Z:=fun b _=>Z b) (fun _ _ _ h=>h.elim) (fun y o _ hz=>by have hz':y=b:=hz;rw [hz'];exact zb)).trans' W4.fr (fun _ _ _ h=>h) (fun b o _ hz=>by rw [hz.1];exact zD),fun b hb=>hb.imp id (fun h=>h.1)⟩
   ·
    refine Ud 11 17473 (by kernel_rfl) (Ul 0 rfl c3 (Uc 0 rfl (lssF (by omega)) (Ul 1 rfl c2 (Ul 1 rfl cD (Ul 1 rfl c3 (Uc 0 rfl (lssF (by omega)) (Uf 2 [4] rfl (Go'.ret (vs:=[_]) func152 results152 ⟨rfl,trivial⟩ ?_))))))))
    exact ⟨by unfold goN;rw [decide_eq_false hn,hacc1];rw [decide_eq_false (by simpa using hn2)];rfl,fun b=>Z b∨(H.size≤b∧b<H4.size),⟨c2,c3,hw,.inl z2,.inl z3,.inl zD,n2,n3,fun b hb=>hb.elim (fun h=>by have:=hlt b h;omega) (fun h=>h.2),.inr ⟨bb,oo,cc,by rw [hacc1];exact cD,hsl3.fr W4.fr (fun _ _ _=>nr (.inl (by omega))),(by rcases pa with h|h;exact .inl (h▸zb);exact .inr (by omega)),by omega,by omega,by omega⟩⟩,(((M1.fr nowhere).trans (M2.fr nowhere)).trans' fa (Z:=fun b _=>Z b) (fun _ _ _ h=>h.elim) (fun y o _ hz=>by have hz':y=b:=hz;rw [hz'];exact zb)).trans' W4.fr (fun _ _ _ h=>h) (fun b o _ hz=>by rw [hz.1];exact zD),fun b hb=>hb.imp id (fun h=>h.1)⟩
theorem TkT.out {b2 b3 D:Nat} {n:Int} {acc:List (Int×Int)} {Z:Nat→Prop} {H:Mem} (h:TkT b2 b3 D n acc Z H):∃v,cl H D 0=some v∧OutS EJ H v acc:=by
 rcases h.sl with ⟨e,k⟩|⟨b,o,c,k,hs,_⟩
 · exact ⟨_,k,.inl ⟨rfl,e⟩⟩
 · exact ⟨_,k,.inr ⟨b,o,c,rfl,hs⟩⟩
def cbTk (B:World) (b2 b3 D:Nat) (n:Int):Cb Try.prog B encIt 152 [] [ptr b2,ptr b3] (goN n) 4294967296 where
 T:=TkT b2 b3 D n
 fr:=fun h hf hz=>h.fr hf hz
 lt:=fun h hb=>h.lt _ hb
 call:=fun x hT hl=>taker1_spec hT hl
theorem taker_spec {B:World} {H:Mem} {D:Nat} {n:Int} (hD:cl H D 0=some (.slice none 0 0)) (hw:Wr H D 0 1):
  Fn Try.prog B 107 [ptr D,.int .i64 n] H (fun r H'=>∃b2 b3,r=.func (.func 152) #[] #[ptr b2,ptr b3]∧TkT b2 b3 D n [] (fun b=>b=D∨(H.size≤b∧b<H'.size)) H'∧Fr nowhere H H'):=by
 have hDl:=cl_lt hD
 unfold ptr
 refine fn_of func107 rfl ntmps107 ?_
 refine (show Go' _ _ _ _ 6 [(0,_),(1,_)] [.code _] _ from ?_)
 refine Ut 1 rfl (Ur 3 10 rfl (O.box rfl rfl rfl rfl ?_))
 intro H1 M1
 refine ⟨trivial,?_⟩
 have hs1:=M1.size
 replace hD:=M1.keep hD
 replace hw:=(M1.fr nowhere).wr hw
 have c2:cl H1 H.size 0=some (ptr D):=(M1.cl 0).trans rfl
 refine O.box rfl rfl rfl rfl ?_
 intro H2 M2
 refine ⟨trivial,?_⟩
 have hs2:=M2.size
 replace hD:=M2.keep hD
 replace hw:=(M2.fr nowhere).wr hw
 replace c2:=M2.keep c2
 have c3:cl H2 H1.size 0=some (.int .i64 n):=(M2.cl 0).trans rfl
 refine Uf 1 [2,3,4] rfl (Ut 1 rfl (Ur 2 0 rfl (O.mkf rfl rfl rfl rfl rfl rfl (Uf 1 [4] rfl (Go'.ret (vs:=[_]) func107 results107 ⟨rfl,trivial⟩ ?_)))))
 exact ⟨H.size,H1.size,rfl,⟨c2,c3,hw,.inr (by omega),.inr (by omega),.inl rfl,by omega,by omega,fun b hb=>hb.elim (fun h=>by omega) (fun h=>h.2),.inl ⟨rfl,hD⟩⟩,(M1.fr nowhere).trans (M2.fr nowhere)⟩
section
variable [Inhabited Cx]
theorem reverse_spec {B:World} {g:FuncId} {us cs:List Value} {go:List (Int×Int)→Bool} {M:Nat} (cb:Cb Try.prog B encIt g us cs go M) (hcall:∀(args:Array Value) (w:World),(callFunc g args).run Try.prog w=.ok (.enter g args) w) {tr:Nat} {P:Ps} (hP:PsOk P) (mt:Bool) {H:Mem} {S:Nat→Prop} {l:List (Int×Int)} {Z:Nat→Prop} (hM:MapM H tr P S l) (hT:cb.T [] Z H) (hd:∀b,S b→¬Z b) (hnb:∀b,Z b→¬(b<cx.base∧cx.own b)) (hl:l.length≤M):
  Fn Try.prog B 153 [.pointer (some ⟨tr,0,none⟩),.func (.func g) us.toArray cs.toArray,.bool mt] H (fun _ H'=>CbPost cb [] Z H l.reverse H'):=by
 obtain ⟨tc,srt,cnt,own,lt,bs,hr⟩:=hM
 refine fn_of func153 rfl ntmps153 ?_
 refine (show Go' _ _ _ _ 23 [(0,_),(1,_),(2,_)] [.code _] _ from ?_)
 refine Ut 2 rfl (Ur 3 32 rfl (Uq 2 rfl (O.callQ rfl rfl rfl call128 rfl lock_spec trivial (Uf 0 [0,1,2,8] rfl (Go'.condF rfl (Ut 3 rfl ?_))))))
 rcases hr with ⟨rfl,hptr⟩|⟨h,t,hg,hx1,e,hc,hnt,hown⟩
 ·
  refine Ur 5 64 rfl (Ul 3 rfl hptr (O.isNil rfl rfl rfl rfl underlying129 rfl rfl (Uf 0 [0,1,2,15] rfl (Go'.condT rfl (Go'.ret func153 results153 (vs:=[]) trivial ?_)))))
  exact ⟨Z,hT,Fr.refl _ _,fun b hb=>.inl hb⟩
 ·
  have hptr:cl H tr 2=some (.pointer (some ⟨Gt.p h t,0,none⟩)):=hc
  refine Ur 5 64 rfl (Ul 3 rfl hptr (O.isNil rfl rfl rfl rfl underlying129 rfl rfl (Uf 0 [0,1,2,15] rfl (Go'.condF rfl (Ut 1 rfl (Ur 7 8192 rfl (Uq 6 rfl (O.call rfl rfl rfl call189 rfl (nrev cb hcall hP mt h ⟨tc,hg,hc,fun b o hb=>hd b (hown b o hb),hnb,hT,by rw [e];simpa using hl⟩) ?_))))))))
  rintro _ H2 ⟨rfl,hpost⟩
  refine ⟨trivial,?_⟩
  refine Uf 0 [] rfl (Go'.fall func153 results153 (vs:=[]) trivial ?_)
  rw [e] at hpost
  exact hpost
theorem Reverse_spec {B:World} {g:FuncId} {us cs:List Value} {go:List (Int×Int)→Bool} {M:Nat} (cb:Cb Try.prog B encIt g us cs go M) (hcall:∀(args:Array Value) (w:World),(callFunc g args).run Try.prog w=.ok (.enter g args) w) {tr:Nat} {P:Ps} (hP:PsOk P) {H:Mem} {S:Nat→Prop} {l:List (Int×Int)} {Z:Nat→Prop} (hM:MapM H tr P S l) (hT:cb.T [] Z H) (hd:∀b,S b→¬Z b) (hnb:∀b,Z b→¬(b<cx.base∧cx.own b)) (hl:l.length≤M):
  Fn Try.prog B 108 [.pointer (some ⟨tr,0,none⟩),.func (.func g) us.toArray cs.toArray] H (fun _ H'=>CbPost cb [] Z H l.reverse H'):=by
 refine fn_of func108 rfl ntmps108 ?_
 refine (show Go' _ _ _ _ 7 [(0,_),(1,_)] [.code _] _ from ?_)
 refine Ur 3 32 rfl (Uq 2 rfl (O.call rfl rfl rfl call153 rfl (reverse_spec cb hcall hP false hM hT hd hnb hl) ?_))
 rintro _ H2 hpost
 refine ⟨trivial,?_⟩
 refine Uf 0 [] rfl (Go'.fall func108 results108 (vs:=[]) trivial ?_)
 exact hpost
theorem scan_spec {B:World} {g:FuncId} {us cs:List Value} {go:List (Int×Int)→Bool} {M:Nat} (cb:Cb Try.prog B encIt g us cs go M) (hcall:∀(args:Array Value) (w:World),(callFunc g args).run Try.prog w=.ok (.enter g args) w) {tr:Nat} {P:Ps} (hP:PsOk P) (mt:Bool) {H:Mem} {S:Nat→Prop} {l:List (Int×Int)} {Z:Nat→Prop} (hM:MapM H tr P S l) (hT:cb.T [] Z H) (hd:∀b,S b→¬Z b) (hnb:∀b,Z b→¬(b<cx.base∧cx.own b)) (hl:l.length≤M):
  Fn Try.prog B 151 [.pointer (some ⟨tr,0,none⟩),.func (.func g) us.toArray cs.toArray,.bool mt] H (fun _ H'=>CbPost cb [] Z H l H'):=by
 obtain ⟨tc,srt,cnt,own,lt,bs,hr⟩:=hM
 refine fn_of func151 rfl ntmps151 ?_
 refine (show Go' _ _ _ _ 23 [(0,_),(1,_),(2,_)] [.code _] _ from ?_)
 refine Ut 2 rfl (Ur 3 32 rfl (Uq 2 rfl (O.callQ rfl rfl rfl call128 rfl lock_spec trivial (Uf 0 [0,1,2,8] rfl (Go'.condF rfl (Ut 3 rfl ?_))))))
 rcases hr with ⟨rfl,hptr⟩|⟨h,t,hg,hx1,e,hc,hnt,hown⟩
 ·
  refine Ur 5 64 rfl (Ul 3 rfl hptr (O.isNil rfl rfl rfl rfl underlying129 rfl rfl (Uf 0 [0,1,2,15] rfl (Go'.condT rfl (Go'.ret func151 results151 (vs:=[]) trivial ?_)))))
  exact ⟨Z,hT,Fr.refl _ _,fun b hb=>.inl hb⟩
 ·
  have hptr:cl H tr 2=some (.pointer (some ⟨Gt.p h t,0,none⟩)):=hc
  refine Ur 5 64 rfl (Ul 3 rfl hptr (O.isNil rfl rfl rfl rfl underlying129 rfl rfl (Uf 0 [0,1,2,15] rfl (Go'.condF rfl (Ut 1 rfl (Ur 7 8192 rfl (Uq 6 rfl (O.call rfl rfl rfl call188 rfl (nscan cb hcall hP mt h ⟨tc,hg,hc,fun b o hb=>hd b (hown b o hb),hnb,hT,by rw [e];simpa using hl⟩) ?_))))))))
  rintro _ H2 ⟨rfl,hpost⟩
  refine ⟨trivial,?_⟩
  refine Uf 0 [] rfl (Go'.fall func151 results151 (vs:=[]) trivial ?_)
  rw [e] at hpost
  exact hpost
theorem Scan_spec {B:World} {g:FuncId} {us cs:List Value} {go:List (Int×Int)→Bool} {M:Nat} (cb:Cb Try.prog B encIt g us cs go M) (hcall:∀(args:Array Value) (w:World),(callFunc g args).run Try.prog w=.ok (.enter g args) w) {tr:Nat} {P:Ps} (hP:PsOk P) {H:Mem} {S:Nat→Prop} {l:List (Int×Int)} {Z:Nat→Prop} (hM:MapM H tr P S l) (hT:cb.T [] Z H) (hd:∀b,S b→¬Z b) (hnb:∀b,Z b→¬(b<cx.base∧cx.own b)) (hl:l.length≤M):
  Fn Try.prog B 106 [.pointer (some ⟨tr,0,none⟩),.func (.func g) us.toArray cs.toArray] H (fun _ H'=>CbPost cb [] Z H l H'):=by
 refine fn_of func106 rfl ntmps106 ?_
 refine (show Go' _ _ _ _ 7 [(0,_),(1,_)] [.code _] _ from ?_)
 refine Ur 3 32 rfl (Uq 2 rfl (O.call rfl rfl rfl call151 rfl (scan_spec cb hcall hP false hM hT hd hnb hl) ?_))
 rintro _ H2 hpost
 refine ⟨trivial,?_⟩
 refine Uf 0 [] rfl (Go'.fall func106 results106 (vs:=[]) trivial ?_)
 exact hpost
end
end Go.Bt.FG
namespace Go.Bt.FG
open Go Go.Proofs Go.Proofs.Try
set_option maxRecDepth 20000
set_option maxHeartbeats 4000000
set_option linter.unusedSectionVars false
section
variable [Inhabited Cx]
theorem HintM.new {H H':Mem} {c:Array Value} {e:TypeId} (M:Made H H' c e) (hu:∀i,i<8→c[i]?=some (.bool false)) (hp:∀i,i<8→c[8+i]?=some (.int .u8 0)) (hs:16≤c.size) (he:e<1000:=by decide):HintM H' H.size:=
 ⟨fun i hi=>⟨false,(M.cl i).trans (hu i hi)⟩,fun i hi=>⟨0,by decide,(M.cl (8+i)).trans (hp i hi)⟩,M.wr 16 hs he⟩
theorem getHint_spec {B:World} {H:Mem} {tr:Nat} {P:Ps} (hP:PsOk P) {S:Nat→Prop} {l:List (Int×Int)} (hM:MapM H tr P S l) (x:Int×Int) {hv:Value} {hz:Nat→Prop} (hk:HintOk H hv hz) (hzS:∀b,hz b→¬S b) (hll:l.length<4611686018427387904) (mt:Bool):
  Fn Try.prog B 185 [.pointer (some ⟨tr,0,none⟩),.agg (EJ.enc x).toArray,hv,.bool mt] H (fun r H'=>r=.tuple #[PV (Pl.got OI x l),.bool (Pl.got OI x l).isSome]∧Fr (fun b _=>hz b) H H'∧HintOk H' hv hz):=by
 have hh1:=hP.h1
 have hx255:=hP.hx
 have lt0:=hM.lt
 have hzb:=hk.base
 have hb0:=hM.tc.hb
 refine fn_of func185 rfl ntmps185 ?_
 refine (show Go' _ _ _ _ 73 [(0,_),(1,_),(2,_),(3,_)] [.code _] _ from ?_)
 refine Ut 1 rfl (Ur 3 10 rfl (O.box rfl rfl rfl rfl ?_))
 intro H0 M0
 refine ⟨trivial,?_⟩
 have hs0:=M0.size
 replace hM:=hM.fr (M0.fr nowhere) (fun _ _ _=>nw)
 replace hk:=hk.fr (M0.fr nowhere) (fun _ _ _=>nw)
 have mi:Rd H0 H.size 0 (EJ.enc x):=M0.rd _ [] (by simp [Value.cells])
 refine O.alloc rfl rfl rfl zeroValue27 ?_
 intro H1 M1
 refine ⟨trivial,?_⟩
 have hs1:H1.size=H.size+2:=by have:=M1.size;omega
 replace hM:=hM.fr (M1.fr nowhere) (fun _ _ _=>nw)
 replace hk:=hk.fr (M1.fr nowhere) (fun _ _ _=>nw)
 replace mi:=(M1.fr nowhere).rd mi (fun _ _=>nw)
 have mw:Wr H1 H0.size 0 2:=M1.wr 2 (by decide)
 have hF:Fr (fun b _=>hz b) H H1:=((M0.fr nowhere).trans (M1.fr nowhere)).mono fun _ _ _ h=>h.elim
 refine Uf 1 [0,2,3,5,8,9] rfl (Ut 2 rfl (Ur 3 32 rfl (Uq 2 rfl (O.callQ rfl rfl rfl call128 rfl lock_spec trivial (Uf 0 [0,2,3,5,8,9,16] rfl (Go'.condF rfl (Ut 3 rfl ?_)))))))
 obtain ⟨tc,srt,cnt,own,lt,bs,hr⟩:=hM
 rcases hr with ⟨rfl,hptr⟩|⟨h,t,hg,hx1,e,hc,hnt,hown⟩
 ·
  refine Ur 5 64 rfl (Ul 3 rfl hptr (O.isNil rfl rfl rfl rfl underlying129 rfl rfl (Uf 0 [0,2,3,5,8,9,23] rfl (Go'.condT rfl (Ut 1 rfl (Ur 6 576 rfl (Us 3 rfl tc.emp rfl (O.st (vs:=(EJ.enc (0,0))) rfl rfl sizeOf27 rfl rfl rfl rfl rfl mw ?_))))))))
  intro H3 W3
  replace hF:Fr (fun b _=>hz b) H H3:=hF.trans' W3.fr (fun _ _ _ h=>h) (fun b o hb h=>by have h':=h.1;omega)
  replace hk:=hk.fr W3.fr (fun b o hb=>nr (.inl (by have:=(hzb b hb).2;omega)))
  refine ⟨trivial,?_⟩
  refine Uf 1 [0,2,3,5,8,9] rfl (Go'.ret (vs:=[_,_]) func185 results185 ⟨⟨_,_,rfl,fun _ _=>run_loadVar_agg (fun w=>⟨isAgg27 w,sizeOf27 w⟩) rfl W3.all⟩,rfl,trivial⟩ ?_)
  exact ⟨rfl,hF,hk⟩
 ·
  obtain ⟨kp,hN⟩:=hg.node
  have hc0:=hN.c0
  rw [hg.isoe] at hc0
  have hptr:cl H1 tr 2=some (.pointer (some ⟨Gt.p h t,0,none⟩)):=hc
  have hht:=Gt.Good.tall hP hg hx1
  refine Ur 5 64 rfl (Ul 3 rfl hptr (O.isNil rfl rfl rfl rfl underlying129 rfl rfl (Uf 0 [0,2,3,5,8,9,23] rfl (Go'.condF rfl (Ut 2 rfl (Ur 7 2048 rfl (Uq 5 rfl (O.callQ rfl rfl rfl call130 rfl (isoLoad_spec mt hc hc0 tc.iso) trivial (Uf 1 [0,2,3,5,8,9,10] rfl (Ut 1 rfl (Ur 1 0 rfl ?_)))))))))))
  refine Uf 1 [0,2,3,5,8,9,10,11] rfl (Ut 1 rfl (Go'.loop (Uk [0,2,3,5,8,9,10,11] rfl ?_)))
  refine Go'.ind (σ:=(h:Nat)×Gt EJ h×Nat) (fun s=>s.1) (fun s H'=>Fr (fun b _=>hz b) H H'∧HintOk H' hv hz∧TrC H' tr P.iso P.mx P.mn∧Rd H' H.size 0 (EJ.enc x)∧Wr H' H0.size 0 2∧Gt.Good H' P s.1 s.2.1∧1≤(Gt.X s.1 s.2.1).length∧Pl.Srt OI (Gt.L s.1 s.2.1)∧Pl.got OI x (Gt.L s.1 s.2.1)=Pl.got OI x l∧(∀b o,Gt.af s.1 s.2.1 b o→¬hz b)∧s.2.2+s.1<4611686018427387904∧H1.size≤H'.size)
   (fun s=>[(0,.pointer (some ⟨tr,0,none⟩)),(2,hv),(3,.bool mt),(5,.pointer (some ⟨H.size,0,none⟩)),(8,.pointer (some ⟨H0.size,0,none⟩)),(9,.bool false),(10,.pointer (some ⟨Gt.p s.1 s.2.1,0,none⟩)),(11,.int .i64 (s.2.2:Int))]) ⟨h,t,0⟩ ⟨hF,hk,tc,mi,mw,hg,hx1,by rw [e];exact srt,by rw [e],fun b o hb hzz=>hzS b hzz (hown b o hb),by simp only;rw [e] at hht;omega,Nat.le_refl _⟩ rfl ?_
  clear hF hk tc mi mw hg hx1 e hc hnt hown hN hc0 hptr hht t h kp cnt
  rintro ⟨h,t,dp⟩ H2 ⟨hF,hk,tc,mi,mw,hg,hx1,hs,hL,hoff,hdp,hsz⟩ ih
  simp only at hg hx1 hs hL hoff hdp ⊢
  refine Ut 2 rfl ?_
  rcases h with _|h
  ·
   obtain ⟨g,X⟩:=t
   have hN:NodeM EJ H2 g X (.pointer none):=hg.1
   replace hx1:1≤X.length:=hx1
   have hxm:X.length≤P.mx:=hg.2.2.2
   replace hs:Pl.Srt OI X:=hs
   replace hL:Pl.got OI x X=Pl.got OI x l:=hL
   replace hoff:∀b o,ncl EJ g b o→¬hz b:=hoff
   rw [←hL]
   refine Ur 11 2064 rfl (Us 2 rfl mi rfl (Uq 2 rfl (O.call rfl rfl rfl call131 rfl (find_spec tc x hN hs (by omega) hx1 hk (fun b o hb hn=>hoff b o hn hb) (by omega)) ?_)))
   rintro _ H3 ⟨rfl,hF3,hk⟩
   have hs3:=hF3.size
   replace hF:=hF.trans hF3
   replace tc:=tc.fr hF3 (fun b o hb _ hz=>(hzb b hz).1 hb)
   replace mi:=hF3.rd mi (fun _ _ hz=>by have:=(hzb _ hz).2;omega)
   replace mw:=hF3.wr mw
   replace hN:=NodeM.fr EJ hN hF3 (fun b o hb hz=>hoff b o hb hz)
   generalize hi:Pl.pos OI x X=i
   generalize hfb:Pl.fnd OI x X=fb
   refine ⟨trivial,?_⟩
   refine Uf 5 [0,2,3,5,8,9,10,11,12,13] rfl (Ut 2 rfl (Ur 1 0 rfl (Uf 1 [0,2,3,5,8,9,10,11,12,13,43] rfl ?_)))
   cases fb
   ·
    refine Go'.condF rfl (Ut 3 rfl (Ur 5 64 rfl (Ul 3 rfl hN.c3 (O.isNil rfl rfl rfl rfl underlying166 rfl rfl (Uf 0 [0,2,3,5,8,9,10,11,12,13,43,55] rfl (Go'.condT rfl (Ut 1 rfl (Ur 6 576 rfl (Us 3 rfl tc.emp rfl (O.st (vs:=(EJ.enc (0,0))) rfl rfl sizeOf27 rfl rfl rfl rfl rfl mw ?_))))))))))
    intro H4 W4
    replace hF:Fr (fun b _=>hz b) H H4:=hF.trans' W4.fr (fun _ _ _ h=>h) (fun b o hb h=>by have h':=h.1;omega)
    replace hk:=hk.fr W4.fr (fun b o hb=>nr (.inl (by have:=(hzb b hb).2;omega)))
    refine ⟨trivial,?_⟩
    refine Uf 1 [0,2,3,5,8,9,10,11,12,13,43,55] rfl (Go'.ret (vs:=[_,_]) func185 results185 ⟨⟨_,_,rfl,fun _ _=>run_loadVar_agg (fun w=>⟨isAgg27 w,sizeOf27 w⟩) rfl W4.all⟩,rfl,trivial⟩ ?_)
    exact ⟨by rw [Pl.got_none OI hfb];rfl,hF,hk⟩
   ·
    obtain ⟨y,hy,_,_⟩:=Pl.fnd_at OI hs hfb
    rw [hi] at hy
    have hlt':i<X.length:=(List.getElem?_eq_some_iff.1 hy).1
    refine Go'.condT rfl (Ut 1 rfl (Ur 9 36928 rfl (Ul 3 rfl hN.c2 (Ux 1 i rfl (by omega) hlt' (Us 0 rfl (hN.sl.item hy) rfl (O.st (vs:=(EJ.enc y)) rfl rfl sizeOf27 rfl rfl rfl rfl rfl mw ?_))))))
    intro H4 W4
    replace hF:Fr (fun b _=>hz b) H H4:=hF.trans' W4.fr (fun _ _ _ h=>h) (fun b o hb h=>by have h':=h.1;omega)
    replace hk:=hk.fr W4.fr (fun b o hb=>nr (.inl (by have:=(hzb b hb).2;omega)))
    refine ⟨trivial,?_⟩
    refine Uf 1 [0,2,3,5,8,9,10,11,12,13,43] rfl (Go'.ret (vs:=[_,_]) func185 results185 ⟨⟨_,_,rfl,fun _ _=>run_loadVar_agg (fun w=>⟨isAgg27 w,sizeOf27 w⟩) rfl W4.all⟩,rfl,trivial⟩ ?_)
    exact ⟨by rw [Pl.got_some OI hfb,hi,hy];rfl,hF,hk⟩
  ·
   obtain ⟨g,X,K⟩:=t
   have hI:Inn H2 P h g X ((Gt.ps h K).map some) K:=hg.inn
   have hKl:K.length=X.length+1:=hg.2.2.2.2.2.1
   have hxm:X.length≤P.mx:=hg.2.2.2.2.1
   replace hx1:1≤X.length:=hx1
   have hKL:(K.map (Gt.L h)).length=X.length+1:=by rw [List.length_map];exact hKl
   replace hs:Pl.Srt OI (Pl.inter X (K.map (Gt.L h))):=hs
   replace hL:Pl.got OI x (Pl.inter X (K.map (Gt.L h)))=Pl.got OI x l:=hL
   replace hoff:∀b o,innc h g K b o→¬hz b:=hoff
   have hsX:Pl.Srt OI X:=hs.sublist (Pl.sublist_inter X _ (by omega))
   rw [←hL]
   refine Ur 11 2064 rfl (Us 2 rfl mi rfl (Uq 2 rfl (O.call rfl rfl rfl call131 rfl (find_spec tc x hI.n hsX (by omega) hx1 hk (fun b o hb hn=>hoff b o (.inl hn) hb) (by omega)) ?_)))
   rintro _ H3 ⟨rfl,hF3,hk⟩
   have hs3:=hF3.size
   replace hF:=hF.trans hF3
   replace tc:=tc.fr hF3 (fun b o hb _ hz=>(hzb b hz).1 hb)
   replace mi:=hF3.rd mi (fun _ _ hz=>by have:=(hzb _ hz).2;omega)
   replace mw:=hF3.wr mw
   replace hI:=hI.fr hF3 (fun b o hb hz=>hoff b o hb hz)
   generalize hi:Pl.pos OI x X=i
   generalize hfb:Pl.fnd OI x X=fb
   refine ⟨trivial,?_⟩
   refine Uf 5 [0,2,3,5,8,9,10,11,12,13] rfl (Ut 2 rfl (Ur 1 0 rfl (Uf 1 [0,2,3,5,8,9,10,11,12,13,43] rfl ?_)))
   cases fb
   rotate_left
   ·
    obtain ⟨y,hy,_,_,_,q1,q2,_⟩:=Pl.inter_found OI hs hKL hfb
    rw [hi] at hy
    have hlt':i<X.length:=(List.getElem?_eq_some_iff.1 hy).1
    refine Go'.condT rfl (Ut 1 rfl (Ur 9 36928 rfl (Ul 3 rfl hI.n.c2 (Ux 1 i rfl (by omega) hlt' (Us 0 rfl (hI.n.sl.item hy) rfl (O.st (vs:=(EJ.enc y)) rfl rfl sizeOf27 rfl rfl rfl rfl rfl mw ?_))))))
    intro H4 W4
    replace hF:Fr (fun b _=>hz b) H H4:=hF.trans' W4.fr (fun _ _ _ h=>h) (fun b o hb h=>by have h':=h.1;omega)
    replace hk:=hk.fr W4.fr (fun b o hb=>nr (.inl (by have:=(hzb b hb).2;omega)))
    refine ⟨trivial,?_⟩
    refine Uf 1 [0,2,3,5,8,9,10,11,12,13,43] rfl (Go'.ret (vs:=[_,_]) func185 results185 ⟨⟨_,_,rfl,fun _ _=>run_loadVar_agg (fun w=>⟨isAgg27 w,sizeOf27 w⟩) rfl W4.all⟩,rfl,trivial⟩ ?_)
    exact ⟨by rw [q2];rfl,hF,hk⟩
   ·
    have hle:i≤X.length:=by rw [←hi];exact Pl.pos_le OI x X
    obtain ⟨k,hkk⟩:∃k,K[i]?=some k:=⟨K[i],List.getElem?_eq_getElem (by omega)⟩
    have hkK:k∈K:=List.mem_of_getElem? hkk
    obtain ⟨hgk,hmk,hdk⟩:=hI.c.1 k hkK
    have hkL:(K.map (Gt.L h))[i]?=some (Gt.L h k):=by rw [List.getElem?_map,hkk];rfl
    obtain ⟨e1,e2,e3,e4⟩:=Pl.inter_child OI hs hKL hfb (by rw [hi];exact hkL)
    have hsk:Pl.Srt OI (Gt.L h k):=by
     rw [e1,Pl.Srt.append,Pl.Srt.append] at hs
     exact hs.1.2.1
    have hok:((Gt.ps h K).map some)[i]?=some (some (Gt.p h k)):=by rw [Gt.ps,List.map_map,List.getElem?_map,hkk];rfl
    have hol:((Gt.ps h K).map some).length=X.length+1:=by rw [List.length_map,Gt.ps,List.length_map];exact hKl
    have hf2:=Pl.got_mid OI e2 e3 (m:=Gt.L h k)
    rw [←e1] at hf2
    obtain ⟨kp,hNk⟩:=hgk.node
    have hk0:=hNk.c0
    rw [hgk.isoe] at hk0
    have hck:=hI.k.at hok
    refine Go'.condF rfl (Ut 3 rfl (Ur 5 64 rfl (Ul 3 rfl hI.n.c3 (O.isNil rfl rfl rfl rfl underlying166 rfl rfl (Uf 0 [0,2,3,5,8,9,10,11,12,13,43,55] rfl (Go'.condF rfl (Ut 2 rfl (Ur 12 2101504 rfl (Ul 4 rfl hI.n.c3 (Ul 1 rfl hI.k.c (Ux 1 i rfl (by omega) (by omega) ?_)))))))))))
    refine Uq 1 rfl (O.callQ rfl rfl rfl call130 rfl (isoLoad_spec mt hck hk0 tc.iso) trivial (Uf 1 [0,2,3,5,8,9,10,11,12,13,43,55] rfl (Ur 3 0 rfl (Ua 1 (((dp+1:Nat):Int)) rfl (by omega) (Uf 1 [0,2,3,5,8,9,10,11,12,13,43,55] rfl (Ut 1 rfl (Uk [0,2,3,5,8,9,10,11] rfl (Go'.inLoop ?_))))))))
    rw [hL]
    exact ih ⟨h,k,dp+1⟩ H3 ⟨hF,hk,tc,mi,mw,hgk,Nat.le_trans hh1 hmk,hsk,by simp only;rw [←hf2];exact hL,fun b o hb=>hoff b o (.inr (.inr ⟨k,hkK,hb⟩)),by simp only;omega,by omega⟩ (Nat.lt_succ_self h)
theorem gethint_spec {B:World} {H:Mem} {tr:Nat} {P:Ps} (hP:PsOk P) {S:Nat→Prop} {l:List (Int×Int)} (hM:MapM H tr P S l) (x:Int×Int) {hv:Value} {hz:Nat→Prop} (hk:HintOk H hv hz) (hzS:∀b,hz b→¬S b) (hll:l.length<4611686018427387904):
  Fn Try.prog B 142 [.pointer (some ⟨tr,0,none⟩),.agg (EJ.enc x).toArray,hv] H (fun r H'=>r=.tuple #[PV (Pl.got OI x l),.bool (Pl.got OI x l).isSome]∧Fr (fun b _=>hz b) H H'∧HintOk H' hv hz):=by
 have hzb:=hk.base
 refine fn_of func142 rfl ntmps142 ?_
 refine (show Go' _ _ _ _ 14 [(0,_),(1,_),(2,_)] [.code _] _ from ?_)
 refine Ut 1 rfl (Ur 3 10 rfl (O.box rfl rfl rfl rfl ?_))
 intro H0 M0
 refine ⟨trivial,?_⟩
 have hs0:=M0.size
 replace hM:=hM.fr (M0.fr nowhere) (fun _ _ _=>nw)
 replace hk:=hk.fr (M0.fr nowhere) (fun _ _ _=>nw)
 have mi:Rd H0 H.size 0 (EJ.enc x):=M0.rd _ [] (by simp [Value.cells])
 refine O.alloc rfl rfl rfl zeroValue27 ?_
 intro H1 M1
 refine ⟨trivial,?_⟩
 have hs1:H1.size=H.size+2:=by have:=M1.size;omega
 replace hM:=hM.fr (M1.fr nowhere) (fun _ _ _=>nw)
 replace hk:=hk.fr (M1.fr nowhere) (fun _ _ _=>nw)
 replace mi:=(M1.fr nowhere).rd mi (fun _ _=>nw)
 have mw:Wr H1 H0.size 0 2:=M1.wr 2 (by decide)
 have hF:Fr nowhere H H1:=(M0.fr nowhere).trans (M1.fr nowhere)
 refine Uf 1 [0,2,4,6,7] rfl (Ut 1 rfl (Ur 8 8324 rfl (Us 1 rfl mi rfl (Uq 1 rfl (O.call rfl rfl rfl call185 rfl (getHint_spec hP hM x hk hzS hll false) ?_)))))
 rintro _ H2 ⟨rfl,hF2,hk2⟩
 have hs2:=hF2.size
 replace mw:=hF2.wr mw
 refine ⟨trivial,?_⟩
 refine Uq 2 rfl (O.st (vs:=(EJ.enc ((Pl.got OI x l).getD (0,0)))) rfl rfl sizeOf27 rfl rfl rfl rfl rfl mw ?_)
 intro H3 W3
 refine ⟨trivial,?_⟩
 refine Uf 1 [6,7] rfl (Go'.ret (vs:=[_,_]) func142 results142 ⟨⟨_,_,rfl,fun _ _=>run_loadVar_agg (fun w=>⟨isAgg27 w,sizeOf27 w⟩) rfl W3.all⟩,rfl,trivial⟩ ?_)
 exact ⟨rfl,(hF.trans' hF2 (fun _ _ _ h=>h.elim) (fun _ _ _ h=>h)).trans' W3.fr (fun _ _ _ h=>h) (fun b o hb h=>by have h':=h.1;omega),hk2.fr W3.fr (fun b o hb=>nr (.inl (by have:=(hzb b hb).2;omega)))⟩
end
end Go.Bt.FG
namespace Go.Bt.FG
open Go Go.Proofs Go.Proofs.Try
set_option maxRecDepth 20000
set_option maxHeartbeats 4000000
set_option linter.unusedSectionVars false
section
variable [Inhabited Cx]
variable {B:World} {g:FuncId} {us cs:List Value} {go:List (Int×Int)→Bool} {M:Nat}
theorem CbPost.rebase {cb:Cb Try.prog B encIt g us cs go M} {acc l:List (Int×Int)} {Z:Nat→Prop} {H H1 H':Mem} (hf:Fr (fun b _=>Z b) H H1) (h:CbPost cb acc Z H1 l H'):CbPost cb acc Z H l H':=by
 obtain ⟨Z',h1,h2,h3⟩:=h
 exact ⟨Z',h1,hf.trans h2,fun b hb=>(h3 b hb).imp id (fun h=>Nat.le_trans hf.size h)⟩
def cbH (cb:Cb Try.prog B encIt g us cs go M) (hv:Value) (hz:Nat→Prop):Cb Try.prog B encIt g us cs go M where
 T:=fun acc Z H=>∃Z0,cb.T acc Z0 H∧HintOk H hv hz∧(∀b,Z b↔Z0 b∨hz b)∧∀b,Z0 b→¬hz b
 fr:=fun ⟨Z0,h1,h2,h3,h4⟩ hf hy=>⟨Z0,cb.fr h1 hf (fun b o hb=>hy b o ((h3 b).2 (.inl hb))),h2.fr hf (fun b o hb=>hy b o ((h3 b).2 (.inr hb))),h3,h4⟩
 lt:=fun ⟨Z0,h1,h2,h3,_⟩ hb=>((h3 _).1 hb).elim (cb.lt h1) (fun h=>(h2.base _ h).2)
 call:=fun x ⟨Z0,h1,h2,h3,h4⟩ hl=>(cb.call x h1 hl).mono fun _ H' ⟨e,Z1,g1,g2,g3⟩=>
  ⟨e,fun b=>Z1 b∨hz b,⟨Z1,g1,h2.fr g2 (fun b o hb hb2=>h4 b hb2 hb),fun _=>Iff.rfl,fun b hb hb2=>(g3 b hb).elim (fun h=>h4 b h hb2) (fun h=>by have:=(h2.base b hb2).2;omega)⟩,
   g2.mono (fun b o _ hb=>(h3 b).2 (.inl hb)),fun b hb=>hb.elim (fun hb=>(g3 b hb).imp (fun h=>(h3 b).2 (.inl h)) id) (fun hb=>.inl ((h3 b).2 (.inr hb)))⟩
theorem VPre.fr0 {cb:Cb Try.prog B encIt g us cs go M} {H H':Mem} {tr:Nat} {P:Ps} {h:Nat} {t:Gt EJ h} {bp op:Nat} {acc:List (Int×Int)} {Z:Nat→Prop} {Y:Nat→Nat→Prop} (hp:VPre cb H tr P h t bp op acc Z) (hf:Fr Y H H') (hy:∀b o,Y b o→Z b) (hbp:¬Z bp) (hst:cb.T acc Z H'):VPre cb H' tr P h t bp op acc Z:=
 ⟨hp.tc.fr hf (fun b o hb _ hz=>hp.nb b (hy b o hz) hb),hp.g.fr hf (fun b o hb hz=>hp.nz b o hb (hy b o hz)),hf.keep hp.cel (fun hz=>hbp (hy _ _ hz)),hp.nz,hp.nb,hst,hp.len⟩
end
section
variable [Inhabited Cx]
theorem ndesc0 {B:World} {g:FuncId} {us cs:List Value} {go:List (Int×Int)→Bool} {M:Nat} (cb:Cb Try.prog B encIt g us cs go M) (hcall:∀(args:Array Value) (w:World),(callFunc g args).run Try.prog w=.ok (.enter g args) w) {tr:Nat} {P:Ps} (hP:PsOk P) (mt:Bool) (x:Int×Int) (hv:Value) (hz:Nat→Prop) {Ha:Mem} {bp op dp:Nat} {acc:List (Int×Int)} {Z:Nat→Prop} {t:Gt EJ 0} (hpa:VPre (cbH cb hv hz) Ha tr P 0 t bp op acc Z) (hs:Pl.Srt OI (Gt.L 0 t)) (hx1:1≤(Gt.X 0 t).length) (hbp:¬Z bp) (hdp:dp<4611686018427387904):
  Fn Try.prog B 191 [.pointer (some ⟨tr,0,none⟩),.pointer (some ⟨bp,op,none⟩),.agg (EJ.enc x).toArray,hv,.int .i64 (dp:Int),.func (.func g) us.toArray cs.toArray,.bool mt] Ha (fun r H'=>r=.bool (takes go acc ((Pl.dn OI x (Gt.L 0 t)).reverse)).2∧CbPost (cbH cb hv hz) acc Z Ha ((Pl.dn OI x (Gt.L 0 t)).reverse) H'):=by
 obtain ⟨gg,X⟩:=t
 replace hx1:1≤X.length:=hx1
 have hsX:Pl.Srt OI X:=hs
 refine fn_of func191 rfl ntmps191 ?_
 refine (show Go' _ _ _ _ 85 [(0,_),(1,_),(2,_),(3,_),(4,_),(5,_),(6,_)] [.code _] _ from ?_)
 refine Ut 1 rfl (Ur 2 2 rfl (O.box rfl rfl rfl rfl ?_))
 intro H0 M0
 refine ⟨trivial,?_⟩
 have hs0:=M0.size
 have hf0:=M0.fr nowhere
 have mi:Rd H0 Ha.size 0 (EJ.enc x):=M0.rd _ [] (by simp [Value.cells])
 have hza:∀b,Z b→b<Ha.size:=fun b hb=>(cbH cb hv hz).lt hpa.st hb
 replace hpa:=hpa.fr0 hf0 (fun _ _ h=>h.elim) hbp ((cbH cb hv hz).fr hpa.st hf0 (fun _ _ _=>nw))
 refine Uf 1 [0,1,3,4,5,6,9,14] rfl (Ut 1 rfl ?_)
 have hNa:NodeM EJ H0 gg X (.pointer none):=hpa.g.1
 have hca:=hNa.c0
 rw [show gg.iso=P.iso from hpa.g.2.1] at hca
 have hxma:X.length≤P.mx:=hpa.g.2.2.2
 have hx255a:=hP.hx
 obtain ⟨Z0,hT0,hk0,hZe,hZd⟩:=hpa.st
 have hzZ:∀b,hz b→Z b:=fun b hb=>(hZe b).2 (.inr hb)
 refine Ur 5 128 rfl (Uq 3 rfl (O.callQ rfl rfl rfl call130 rfl (isoLoad_spec mt hpa.cel hca hpa.tc.iso) trivial (Uf 1 [0,3,4,5,6,9,14,15] rfl (Ut 1 rfl ?_))))
 unfold ptr
 refine Ur 11 2064 rfl (Us 2 rfl mi rfl (Uq 2 rfl (O.call rfl rfl rfl call131 rfl (find_spec hpa.tc x hNa (hsX) (by omega) hx1 hk0 (fun b o hb hn=>hpa.nz b o (hn) (hzZ b hb)) (by omega)) ?_)))
 rintro _ H ⟨rfl,hFf,hkf⟩
 have hff:Fr (fun b _=>Z b) Ha H:=hf0.trans' hFf (fun _ _ _ h=>h.elim) (fun b _ _ h=>hzZ b h)
 replace mi:=hFf.rd mi (fun _ _ h=>by have:=hza _ (hzZ _ h);omega)
 have hp:=hpa.fr0 hFf (fun b _ h=>hzZ b h) hbp ⟨Z0,cb.fr hT0 hFf (fun b o hb hb2=>hZd b hb hb2),hkf,hZe,hZd⟩
 refine ⟨trivial,?_⟩
 refine Uf 5 [0,3,4,5,6,9,14,15,16,17] rfl (Ut 2 rfl (Go'.mono (Q:=fun r H'=>r=.bool (takes go acc ((Pl.dn OI x (X)).reverse)).2∧CbPost (cbH cb hv hz) acc Z H ((Pl.dn OI x (X)).reverse) H') (fun v H' hq=>⟨hq.1,CbPost.rebase hff hq.2⟩) ?_))
 have hsza:=hff.size
 clear hpa hca hk0 hT0 hkf hFf hff hNa
 obtain ⟨tc,hg,hc,hnz,hntr,hst,hlen⟩:=hp
 have hN:NodeM EJ H gg X (.pointer none):=hg.1
 have hiso:gg.iso=P.iso:=hg.2.1
 have hxm:X.length≤P.mx:=hg.2.2.2
 have hx255:=hP.hx
 replace hs:Pl.Srt OI X:=hs
 replace hlen:acc.length+X.length≤M:=hlen
 have hc0:=hN.c0
 rw [hiso] at hc0
 have hcat:∀{Z1 Z2:Nat→Prop} {H2 H3:Mem},Fr (fun x _=>Z x) H H2→(∀b,Z1 b→Z b∨H.size≤b)→Fr (fun x _=>Z1 x) H2 H3→(∀b,Z2 b→Z1 b∨H2.size≤b)→Fr (fun x _=>Z x) H H3∧∀b,Z2 b→Z b∨H.size≤b:=by
  intro Z1 Z2 H2 H3 hF hZ1 hF2 hZ2
  have:=hF.size
  exact ⟨hF.trans' hF2 (fun _ _ _ h=>h) (fun b o hb hz=>(hZ1 b hz).elim id (fun h=>by omega)),fun b hb=>(hZ2 b hb).elim (hZ1 b) (fun h=>.inr (by omega))⟩
 have hple:=Pl.pos_le OI x X
 have hltN:∀b o,ncl EJ gg b o→b<H.size:=fun b o hb=>NodeM.lt hN hb
 show Go' _ _ _ (fun r H'=>r=.bool (takes go acc ((Pl.dn OI x (X)).reverse)).2∧CbPost (cbH cb hv hz) acc Z H ((Pl.dn OI x (X)).reverse) H') _ _ _ _
 have hlt1:Pl.fnd OI x X=true→Pl.pos OI x X<X.length:=Pl.fnd_pos_lt OI
 have hW:(Pl.dn OI x (X)).reverse=(X.take (Pl.pos OI x X+(Pl.fnd OI x X).toNat)).reverse:=rfl
 generalize hFULL:(Pl.dn OI x (X)).reverse=FULL at*
 cases hfd:Pl.fnd OI x X
 ·
  rw [hfd] at hW hlt1
  generalize hpi:Pl.pos OI x X=i at*
  refine Ur 2 0 rfl (Uf 2 [0,3,4,5,6,9,14,15,16,32] rfl (Go'.condT rfl (Ut 2 rfl (Ur 3 8 rfl (Uq 1 rfl (O.callQ rfl rfl rfl call133 rfl (leaf_spec hN.c3) trivial (Uf 1 [0,3,4,5,6,9,14,15,16,35] rfl (Go'.condF rfl (Ut 1 rfl (Ur 3 0 rfl (Ub 1 ((i:Int)-1) rfl (by omega) ?_)))))))))))
  refine Uf 1 [0,5,6,14,15,16] rfl (Ut 2 rfl ?_)
  replace hW:FULL=(X.take (i)).reverse:=hW
  refine Go'.loop (Uk [5,15,16] rfl ?_)
  refine Go'.ind (σ:=Nat×Int×(Nat→Prop)×List (Int×Int)) (fun s=>s.1) (fun s H'=>s.1≤X.length∧s.2.1=(s.1:Int)-1∧takes go acc FULL=takes go s.2.2.2 ((X.take (s.1)).reverse)∧(cbH cb hv hz).T s.2.2.2 s.2.2.1 H'∧Fr (fun b _=>Z b) H H'∧(∀b,s.2.2.1 b→Z b∨H.size≤b)∧s.2.2.2.length+((X.take (s.1)).reverse).length≤M)
   (fun s=>[(5,.func (.func g) us.toArray cs.toArray),(15,.pointer (some ⟨gg.p,0,none⟩)),(16,.int .i64 s.2.1)]) (i,(i:Int)-1,Z,acc) ⟨by (try simp only)<;>omega,by (try simp only)<;>omega,by rw [hW],hst,Fr.refl _ _,fun b hb=>.inl hb,by simp only [List.length_reverse,List.length_take];omega⟩ rfl ?_
  rintro ⟨j,z,Z1,A⟩ H2 ⟨hj,hz,ht,hT,hF,hZ1,hAM⟩ ih
  simp only at hj hz ht hT hZ1 hAM
  subst hz
  replace hN:=NodeM.fr EJ hN hF (fun x y hxy hz=>hnz x y hxy hz)
  refine Ut 2 rfl ?_
  rcases j with _|j
  ·
   refine Ur 2 0 rfl (Uc 1 rfl (geqF (by show ((0:Nat):Int)-1<0;omega)) (Uf 0 [5,15,16,56] rfl ?_))
   rw [List.take_zero] at ht
   refine Go'.condF rfl (Ut 2 rfl (Ur 1 0 rfl (Uf 1 [14] rfl (Go'.ret (vs:=[_]) func191 results191 ⟨rfl,trivial⟩ ?_))))
   replace ht:takes go acc FULL=(A,true):=ht
   unfold CbPost
   rw [ht]
   exact ⟨rfl,Z1,hT,hF,hZ1⟩
  ·
   obtain ⟨y,hy⟩:∃y,X[j]?=some y:=⟨X[j],List.getElem?_eq_getElem (by omega)⟩
   rw [List.take_add_one,hy,Option.toList_some,List.reverse_append,List.reverse_singleton,List.singleton_append] at ht hAM
   have ej:(((j+1:Nat):Int)-1)=(j:Int):=by omega
   refine (show Go' _ _ _ _ _ [(5,.func (.func g) us.toArray cs.toArray),(15,.pointer (some ⟨gg.p,0,none⟩)),(16,.int .i64 (((j+1:Nat):Int)-1))] _ _ from ?_)
   rw [ej]
   rw [List.length_cons] at hAM
   refine Ur 2 0 rfl (Uc 1 rfl (geqT (by omega)) (Uf 0 [5,15,16,56] rfl (Go'.condT rfl (Ut 5 rfl ?_))))
   cases hgo:go (A++[y])
   ·
    refine Ur 10 147712 rfl (Ul 4 rfl hN.c2 (Ux 1 j rfl (by omega) (by omega) (Us 0 rfl (hN.sl.item hy) rfl (O.callC rfl rfl rfl rfl hcall rfl ((cbH cb hv hz).call y hT (by omega)) ?_))))
    rintro _ H4 ⟨rfl,Z4,hT4,hF4,hZ4⟩
    rw [hgo]
    obtain ⟨hF5,hZ5⟩:=hcat hF hZ1 hF4 hZ4
    refine ⟨trivial,?_⟩
    refine Uf 1 [5,15,16,56,68] rfl (Go'.condT rfl (Ut 1 rfl (Ur 1 0 rfl (Uf 1 [5,14,15,16,56,68] rfl (Go'.ret (vs:=[_]) func191 results191 ⟨rfl,trivial⟩ ?_)))))
    rw [takes_cons,hgo] at ht
    unfold CbPost
    rw [ht]
    exact ⟨rfl,Z4,hT4,hF5,hZ5⟩
   ·
    refine Ur 10 147712 rfl (Ul 4 rfl hN.c2 (Ux 1 j rfl (by omega) (by omega) (Us 0 rfl (hN.sl.item hy) rfl (O.callC rfl rfl rfl rfl hcall rfl ((cbH cb hv hz).call y hT (by omega)) ?_))))
    rintro _ H4 ⟨rfl,Z4,hT4,hF4,hZ4⟩
    rw [hgo]
    obtain ⟨hF5,hZ5⟩:=hcat hF hZ1 hF4 hZ4
    refine ⟨trivial,?_⟩
    refine Uf 1 [5,15,16,56,68] rfl ?_
    rw [takes_cons,hgo,if_pos rfl] at ht
    refine Go'.condF rfl (Ut 2 rfl ?_)
    have hN5:=NodeM.fr EJ hN hF4 (fun x y hxy hz=>(hZ1 x hz).elim (hnz x y hxy) (fun h=>by have:=hltN x y hxy;omega))
    refine Ur 3 8 rfl (Uq 1 rfl (O.callQ rfl rfl rfl call133 rfl (leaf_spec hN5.c3) trivial (Uf 1 [5,15,16,56,68,71] rfl (Go'.condF rfl (Ut 2 rfl (Ur 3 0 rfl (Ub 1 (((j:Nat):Int)-1) rfl (by omega) (Uf 1 [5,15,16,56,68,71] rfl (Uk [5,15,16] rfl (Go'.inLoop ?_))))))))))
    exact ih (j,_,Z4,A++[y]) H4 ⟨by (try simp only)<;>omega,rfl,ht,hT4,hF5,hZ5,by simp only [List.length_append,List.length_singleton];omega⟩ (by (try simp only)<;>omega)
 ·
  rw [hfd] at hW hlt1
  generalize hpi:Pl.pos OI x X=i at*
  refine Ur 2 0 rfl (Uf 2 [0,3,4,5,6,9,14,15,16,32] rfl (Go'.condF rfl (Ut 3 rfl ?_)))
  replace hlt1:=hlt1 rfl
  replace hW:FULL=(X.take (i+1)).reverse:=hW
  refine Go'.loop (Uk [5,15,16] rfl ?_)
  refine Go'.ind (σ:=Nat×Int×(Nat→Prop)×List (Int×Int)) (fun s=>s.1) (fun s H'=>s.1≤X.length∧s.2.1=(s.1:Int)-1∧takes go acc FULL=takes go s.2.2.2 ((X.take (s.1)).reverse)∧(cbH cb hv hz).T s.2.2.2 s.2.2.1 H'∧Fr (fun b _=>Z b) H H'∧(∀b,s.2.2.1 b→Z b∨H.size≤b)∧s.2.2.2.length+((X.take (s.1)).reverse).length≤M)
   (fun s=>[(5,.func (.func g) us.toArray cs.toArray),(15,.pointer (some ⟨gg.p,0,none⟩)),(16,.int .i64 s.2.1)]) (i+1,(i:Int),Z,acc) ⟨by (try simp only)<;>omega,by (try simp only)<;>omega,by rw [hW],hst,Fr.refl _ _,fun b hb=>.inl hb,by simp only [List.length_reverse,List.length_take];omega⟩ rfl ?_
  rintro ⟨j,z,Z1,A⟩ H2 ⟨hj,hz,ht,hT,hF,hZ1,hAM⟩ ih
  simp only at hj hz ht hT hZ1 hAM
  subst hz
  replace hN:=NodeM.fr EJ hN hF (fun x y hxy hz=>hnz x y hxy hz)
  refine Ut 2 rfl ?_
  rcases j with _|j
  ·
   refine Ur 2 0 rfl (Uc 1 rfl (geqF (by show ((0:Nat):Int)-1<0;omega)) (Uf 0 [5,15,16,56] rfl ?_))
   rw [List.take_zero] at ht
   refine Go'.condF rfl (Ut 2 rfl (Ur 1 0 rfl (Uf 1 [14] rfl (Go'.ret (vs:=[_]) func191 results191 ⟨rfl,trivial⟩ ?_))))
   replace ht:takes go acc FULL=(A,true):=ht
   unfold CbPost
   rw [ht]
   exact ⟨rfl,Z1,hT,hF,hZ1⟩
  ·
   obtain ⟨y,hy⟩:∃y,X[j]?=some y:=⟨X[j],List.getElem?_eq_getElem (by omega)⟩
   rw [List.take_add_one,hy,Option.toList_some,List.reverse_append,List.reverse_singleton,List.singleton_append] at ht hAM
   have ej:(((j+1:Nat):Int)-1)=(j:Int):=by omega
   refine (show Go' _ _ _ _ _ [(5,.func (.func g) us.toArray cs.toArray),(15,.pointer (some ⟨gg.p,0,none⟩)),(16,.int .i64 (((j+1:Nat):Int)-1))] _ _ from ?_)
   rw [ej]
   rw [List.length_cons] at hAM
   refine Ur 2 0 rfl (Uc 1 rfl (geqT (by omega)) (Uf 0 [5,15,16,56] rfl (Go'.condT rfl (Ut 5 rfl ?_))))
   cases hgo:go (A++[y])
   ·
    refine Ur 10 147712 rfl (Ul 4 rfl hN.c2 (Ux 1 j rfl (by omega) (by omega) (Us 0 rfl (hN.sl.item hy) rfl (O.callC rfl rfl rfl rfl hcall rfl ((cbH cb hv hz).call y hT (by omega)) ?_))))
    rintro _ H4 ⟨rfl,Z4,hT4,hF4,hZ4⟩
    rw [hgo]
    obtain ⟨hF5,hZ5⟩:=hcat hF hZ1 hF4 hZ4
    refine ⟨trivial,?_⟩
    refine Uf 1 [5,15,16,56,68] rfl (Go'.condT rfl (Ut 1 rfl (Ur 1 0 rfl (Uf 1 [5,14,15,16,56,68] rfl (Go'.ret (vs:=[_]) func191 results191 ⟨rfl,trivial⟩ ?_)))))
    rw [takes_cons,hgo] at ht
    unfold CbPost
    rw [ht]
    exact ⟨rfl,Z4,hT4,hF5,hZ5⟩
   ·
    refine Ur 10 147712 rfl (Ul 4 rfl hN.c2 (Ux 1 j rfl (by omega) (by omega) (Us 0 rfl (hN.sl.item hy) rfl (O.callC rfl rfl rfl rfl hcall rfl ((cbH cb hv hz).call y hT (by omega)) ?_))))
    rintro _ H4 ⟨rfl,Z4,hT4,hF4,hZ4⟩
    rw [hgo]
    obtain ⟨hF5,hZ5⟩:=hcat hF hZ1 hF4 hZ4
    refine ⟨trivial,?_⟩
    refine Uf 1 [5,15,16,56,68] rfl ?_
    rw [takes_cons,hgo,if_pos rfl] at ht
    refine Go'.condF rfl (Ut 2 rfl ?_)
    have hN5:=NodeM.fr EJ hN hF4 (fun x y hxy hz=>(hZ1 x hz).elim (hnz x y hxy) (fun h=>by have:=hltN x y hxy;omega))
    refine Ur 3 8 rfl (Uq 1 rfl (O.callQ rfl rfl rfl call133 rfl (leaf_spec hN5.c3) trivial (Uf 1 [5,15,16,56,68,71] rfl (Go'.condF rfl (Ut 2 rfl (Ur 3 0 rfl (Ub 1 (((j:Nat):Int)-1) rfl (by omega) (Uf 1 [5,15,16,56,68,71] rfl (Uk [5,15,16] rfl (Go'.inLoop ?_))))))))))
    exact ih (j,_,Z4,A++[y]) H4 ⟨by (try simp only)<;>omega,rfl,ht,hT4,hF5,hZ5,by simp only [List.length_append,List.length_singleton];omega⟩ (by (try simp only)<;>omega)
theorem ndesc {B:World} {g:FuncId} {us cs:List Value} {go:List (Int×Int)→Bool} {M:Nat} (cb:Cb Try.prog B encIt g us cs go M) (hcall:∀(args:Array Value) (w:World),(callFunc g args).run Try.prog w=.ok (.enter g args) w) {tr:Nat} {P:Ps} (hP:PsOk P) (mt:Bool) (x:Int×Int) (hv:Value) (hz:Nat→Prop):∀(h:Nat) {Ha:Mem} {bp op dp:Nat} {acc:List (Int×Int)} {Z:Nat→Prop} {t:Gt EJ h},VPre (cbH cb hv hz) Ha tr P h t bp op acc Z→Pl.Srt OI (Gt.L h t)→1≤(Gt.X h t).length→¬Z bp→dp+h<4611686018427387904→
  Fn Try.prog B 191 [.pointer (some ⟨tr,0,none⟩),.pointer (some ⟨bp,op,none⟩),.agg (EJ.enc x).toArray,hv,.int .i64 (dp:Int),.func (.func g) us.toArray cs.toArray,.bool mt] Ha (fun r H'=>r=.bool (takes go acc ((Pl.dn OI x (Gt.L h t)).reverse)).2∧CbPost (cbH cb hv hz) acc Z Ha ((Pl.dn OI x (Gt.L h t)).reverse) H')
 | 0,_,_,_,_,_,_,_,hp,hs,hx,hb,hd=>ndesc0 cb hcall hP mt x hv hz hp hs hx hb hd
 | h+1,Ha,bp,op,dp,acc,Z,(gg,X,K),hpa,hs,hx1,hbp,hdp=>by
  have ih:=@ndesc B g us cs go M cb hcall tr P hP mt x hv hz h
  replace hx1:1≤X.length:=hx1
  have hsX:Pl.Srt OI X:=(show Pl.Srt OI (Pl.inter X (K.map (Gt.L h))) from hs).sublist (Pl.sublist_inter X _ (by rw [List.length_map];have:=hpa.g.2.2.2.2.2.1;simp only at this;omega))
  refine fn_of func191 rfl ntmps191 ?_
  refine (show Go' _ _ _ _ 85 [(0,_),(1,_),(2,_),(3,_),(4,_),(5,_),(6,_)] [.code _] _ from ?_)
  refine Ut 1 rfl (Ur 2 2 rfl (O.box rfl rfl rfl rfl ?_))
  intro H0 M0
  refine ⟨trivial,?_⟩
  have hs0:=M0.size
  have hf0:=M0.fr nowhere
  have mi:Rd H0 Ha.size 0 (EJ.enc x):=M0.rd _ [] (by simp [Value.cells])
  have hza:∀b,Z b→b<Ha.size:=fun b hb=>(cbH cb hv hz).lt hpa.st hb
  replace hpa:=hpa.fr0 hf0 (fun _ _ h=>h.elim) hbp ((cbH cb hv hz).fr hpa.st hf0 (fun _ _ _=>nw))
  refine Uf 1 [0,1,3,4,5,6,9,14] rfl (Ut 1 rfl ?_)
  have hIa:Inn H0 P h gg X ((Gt.ps h K).map some) K:=Gt.Good.inn hpa.g
  have hca:=hIa.n.c0
  rw [hIa.iso] at hca
  have hxma:X.length≤P.mx:=hpa.g.2.2.2.2.1
  have hKla:K.length=X.length+1:=hpa.g.2.2.2.2.2.1
  have hx255a:=hP.hx
  obtain ⟨Z0,hT0,hk0,hZe,hZd⟩:=hpa.st
  have hzZ:∀b,hz b→Z b:=fun b hb=>(hZe b).2 (.inr hb)
  refine Ur 5 128 rfl (Uq 3 rfl (O.callQ rfl rfl rfl call130 rfl (isoLoad_spec mt hpa.cel hca hpa.tc.iso) trivial (Uf 1 [0,3,4,5,6,9,14,15] rfl (Ut 1 rfl ?_))))
  unfold ptr
  refine Ur 11 2064 rfl (Us 2 rfl mi rfl (Uq 2 rfl (O.call rfl rfl rfl call131 rfl (find_spec hpa.tc x hIa.n (hsX) (by omega) hx1 hk0 (fun b o hb hn=>hpa.nz b o (.inl hn) (hzZ b hb)) (by omega)) ?_)))
  rintro _ H ⟨rfl,hFf,hkf⟩
  have hff:Fr (fun b _=>Z b) Ha H:=hf0.trans' hFf (fun _ _ _ h=>h.elim) (fun b _ _ h=>hzZ b h)
  replace mi:=hFf.rd mi (fun _ _ h=>by have:=hza _ (hzZ _ h);omega)
  have hp:=hpa.fr0 hFf (fun b _ h=>hzZ b h) hbp ⟨Z0,cb.fr hT0 hFf (fun b o hb hb2=>hZd b hb hb2),hkf,hZe,hZd⟩
  refine ⟨trivial,?_⟩
  refine Uf 5 [0,3,4,5,6,9,14,15,16,17] rfl (Ut 2 rfl (Go'.mono (Q:=fun r H'=>r=.bool (takes go acc ((Pl.dn OI x (Pl.inter X (K.map (Gt.L h)))).reverse)).2∧CbPost (cbH cb hv hz) acc Z H ((Pl.dn OI x (Pl.inter X (K.map (Gt.L h)))).reverse) H') (fun v H' hq=>⟨hq.1,CbPost.rebase hff hq.2⟩) ?_))
  have hsza:=hff.size
  clear hpa hca hk0 hT0 hkf hFf hff hIa
  obtain ⟨tc,hg,hc,hnz,hntr,hst,hlen⟩:=hp
  have hI:Inn H P h gg X ((Gt.ps h K).map some) K:=hg.inn
  have hKl:K.length=X.length+1:=hg.2.2.2.2.2.1
  have hxm:X.length≤P.mx:=hg.2.2.2.2.1
  have hx255:=hP.hx
  have hKL:(K.map (Gt.L h)).length=X.length+1:=by rw [List.length_map];exact hKl
  have hol:((Gt.ps h K).map some).length=X.length+1:=by rw [List.length_map,Gt.ps,List.length_map];exact hKl
  replace hlen:acc.length+(Pl.inter X (K.map (Gt.L h))).length≤M:=hlen
  replace hs:Pl.Srt OI (Pl.inter X (K.map (Gt.L h))):=hs
  have hsX:Pl.Srt OI X:=hs.sublist (Pl.sublist_inter X _ (by omega))
  have hlt:∀x y,innc h gg K x y→x<H.size:=fun x y hb=>hI.lt hb
  obtain ⟨_,_,_,hkb⟩:=hI.cells
  have htl:tr<H.size:=cl_lt tc.iso
  have hc0:=hI.n.c0
  rw [hI.iso] at hc0
  have hin:∀H',Fr (fun x _=>Z x) H H'→Inn H' P h gg X ((Gt.ps h K).map some) K:=fun H' hf=>hI.fr hf (fun x y hxy hz=>hnz x y hxy hz)
  have htc:∀H',Fr (fun x _=>Z x) H H'→TrC H' tr P.iso P.mx P.mn:=fun H' hf=>tc.fr hf fun b o hb _ hz=>hntr b hz hb
  have hkid:∀{H2:Mem} {Z1:Nat→Prop} {A:List (Int×Int)} {j:Nat} {k:Gt EJ h},K[j]?=some k→Fr (fun x _=>Z x) H H2→(cbH cb hv hz).T A Z1 H2→(∀b,Z1 b→Z b∨H.size≤b)→A.length+(Gt.L h k).length≤M→VPre (cbH cb hv hz) H2 tr P h k gg.kb (gg.ko+j*1) A Z1:=by
   intro H2 Z1 A j k hkk hF hT hZ1 hA
   have hkK:k∈K:=List.mem_of_getElem? hkk
   have hI2:=hin H2 hF
   have hok:((Gt.ps h K).map some)[j]?=some (some (Gt.p h k)):=by rw [Gt.ps,List.map_map,List.getElem?_map,hkk];rfl
   exact ⟨htc H2 hF,(hI2.c.1 k hkK).1,hI2.k.at hok,fun b o hb hz=>(hZ1 b hz).elim (fun hz=>hnz b o (.inr (.inr ⟨k,hkK,hb⟩)) hz) (fun hz=>by have:=hlt b o (.inr (.inr ⟨k,hkK,hb⟩));omega),
    fun b hz hb=>(hZ1 b hz).elim (fun h=>hntr b h hb) (fun h=>by have:=tc.hb;omega),hT,hA⟩
  have hcat:∀{Z1 Z2:Nat→Prop} {H2 H3:Mem},Fr (fun x _=>Z x) H H2→(∀b,Z1 b→Z b∨H.size≤b)→Fr (fun x _=>Z1 x) H2 H3→(∀b,Z2 b→Z1 b∨H2.size≤b)→Fr (fun x _=>Z x) H H3∧∀b,Z2 b→Z b∨H.size≤b:=by
   intro Z1 Z2 H2 H3 hF hZ1 hF2 hZ2
   have:=hF.size
   exact ⟨hF.trans' hF2 (fun _ _ _ h=>h) (fun b o hb hz=>(hZ1 b hz).elim id (fun h=>by omega)),fun b hb=>(hZ2 b hb).elim (hZ1 b) (fun h=>.inr (by omega))⟩
  have hple:=Pl.pos_le OI x X
  have hfle:((Pl.dn OI x (Pl.inter X (K.map (Gt.L h)))).reverse).length≤(Pl.inter X (K.map (Gt.L h))).length:=by rw [List.length_reverse];exact Pl.dn_le OI x _
  have hkz:¬Z gg.kb:=fun e=>hnz gg.kb gg.ko (.inr (.inl (show kcl gg gg.kb gg.ko from .inr ⟨rfl,Nat.le_refl _,by have:=hI.k.kc;omega⟩))) e
  show Go' _ _ _ (fun r H'=>r=.bool (takes go acc ((Pl.dn OI x (Pl.inter X (K.map (Gt.L h)))).reverse)).2∧CbPost (cbH cb hv hz) acc Z H ((Pl.dn OI x (Pl.inter X (K.map (Gt.L h)))).reverse) H') _ _ _ _
  cases hfd:Pl.fnd OI x X
  ·
   obtain ⟨k0,hkk0⟩:∃k,K[Pl.pos OI x X]?=some k:=⟨K[Pl.pos OI x X],List.getElem?_eq_getElem (by omega)⟩
   have hkL0:(K.map (Gt.L h))[Pl.pos OI x X]?=some (Gt.L h k0):=by rw [List.getElem?_map,hkk0];rfl
   have hW:=(Pl.dn_child OI hs hKL hfd hkL0).1
   have hsk:=Pl.child_srt OI hs hKL hfd hkL0
   have hlk:(Gt.L h k0).length≤(Pl.inter X (K.map (Gt.L h))).length:=by
    rw [(Pl.inter_child OI hs hKL hfd hkL0).1,List.length_append,List.length_append];omega
   generalize hpi:Pl.pos OI x X=i at*
   replace hW:=congrArg List.reverse hW
   rw [List.reverse_append] at hW
   generalize hFULL:(Pl.dn OI x (Pl.inter X (K.map (Gt.L h)))).reverse=FULL at*
   refine Ur 2 0 rfl (Uf 2 [0,3,4,5,6,9,14,15,16,32] rfl (Go'.condT rfl (Ut 2 rfl (Ur 3 8 rfl (Uq 1 rfl (O.callQ rfl rfl rfl call133 rfl (leaf_spec hI.n.c3) trivial (Uf 1 [0,3,4,5,6,9,14,15,16,35] rfl (Go'.condT rfl (Ut 1 rfl (Ud 17 2147750144 (by kernel_rfl) (Ul 4 rfl hI.n.c3 ?_)))))))))))
   refine Ul 1 rfl hI.k.c (Ux 1 i rfl (by omega) (by omega) (Us 0 rfl mi rfl (Ua 2 (((dp+1:Nat):Int)) rfl (by omega) (Uq 2 rfl (O.call rfl rfl rfl call191 rfl (ih (dp:=dp+1) (hkid hkk0 (Fr.refl _ _) hst (fun b hb=>.inl hb) (by omega)) hsk (Nat.le_trans hP.h1 (hI.c.1 k0 (List.mem_of_getElem? hkk0)).2.1) hkz (by omega)) ?_)))))
   rintro _ H2 ⟨rfl,Z2,hT2,hF2,hZ2⟩
   refine ⟨trivial,?_⟩
   refine Uf 1 [0,5,6,14,15,16,52] rfl ?_
   cases htk0:(takes go acc ((Pl.dn OI x (Gt.L h k0)).reverse)).2
   ·
    refine Go'.condT rfl (Ut 1 rfl (Ur 1 0 rfl (Uf 1 [0,5,6,14,15,16] rfl (Go'.ret (vs:=[_]) func191 results191 ⟨rfl,trivial⟩ ?_))))
    have e2:=takes_halt (r:=(Pl.pre (X.take (i)) ((K.map (Gt.L h)).take (i))).reverse) htk0
    rw [←hW] at e2
    unfold CbPost
    rw [e2]
    exact ⟨by rw [htk0];rfl,Z2,hT2,hF2,hZ2⟩
   ·
    refine Go'.condF rfl (Ut 1 rfl (Ur 3 0 rfl (Ub 1 ((i:Int)-1) rfl (by omega) (Uf 1 [0,5,6,14,15,16] rfl (Ut 2 rfl ?_)))))
    have e2:=takes_rest (r:=(Pl.pre (X.take (i)) ((K.map (Gt.L h)).take (i))).reverse) htk0
    rw [←hW] at e2
    have htl:=takes_length go ((Pl.dn OI x (Gt.L h k0)).reverse) acc
    rw [hW,List.length_append] at hfle
    generalize (takes go acc ((Pl.dn OI x (Gt.L h k0)).reverse)).1=A0 at*
    refine Go'.loop (Uk [0,5,6,15,16] rfl ?_)
    refine Go'.ind (σ:=Nat×Int×(Nat→Prop)×List (Int×Int)) (fun s=>s.1) (fun s H'=>s.1≤X.length∧s.2.1=(s.1:Int)-1∧takes go acc FULL=takes go s.2.2.2 ((Pl.pre (X.take (s.1)) ((K.map (Gt.L h)).take (s.1))).reverse)∧(cbH cb hv hz).T s.2.2.2 s.2.2.1 H'∧Fr (fun b _=>Z b) H H'∧(∀b,s.2.2.1 b→Z b∨H.size≤b)∧s.2.2.2.length+((Pl.pre (X.take (s.1)) ((K.map (Gt.L h)).take (s.1))).reverse).length≤M)
     (fun s=>[(0,.pointer (some ⟨tr,0,none⟩)),(5,.func (.func g) us.toArray cs.toArray),(6,.bool mt),(15,.pointer (some ⟨gg.p,0,none⟩)),(16,.int .i64 s.2.1)]) (i,(i:Int)-1,Z2,A0) ⟨by (try simp only)<;>omega,by (try simp only)<;>omega,e2,hT2,hF2,hZ2,by (try simp only)<;>omega⟩ rfl ?_
    rintro ⟨j,z,Z1,A⟩ H3 ⟨hj,hz,ht,hT,hF,hZ1,hAM⟩ ih2
    simp only at hj hz ht hT hZ1 hAM
    subst hz
    have hI3:=hin H3 hF
    refine Ut 2 rfl ?_
    rcases j with _|j
    ·
     refine Ur 2 0 rfl (Uc 1 rfl (geqF (by show ((0:Nat):Int)-1<0;omega)) (Uf 0 [0,5,6,15,16,56] rfl ?_))
     rw [List.take_zero] at ht
     refine Go'.condF rfl (Ut 2 rfl (Ur 1 0 rfl (Uf 1 [14] rfl (Go'.ret (vs:=[_]) func191 results191 ⟨rfl,trivial⟩ ?_))))
     replace ht:takes go acc FULL=(A,true):=ht
     unfold CbPost
     rw [ht]
     exact ⟨rfl,Z1,hT,hF,hZ1⟩
    ·
     obtain ⟨y,hy⟩:∃y,X[j]?=some y:=⟨X[j],List.getElem?_eq_getElem (by omega)⟩
     obtain ⟨k,hkk⟩:∃k,K[j]?=some k:=⟨K[j],List.getElem?_eq_getElem (by omega)⟩
     have hkL:(K.map (Gt.L h))[j]?=some (Gt.L h k):=by rw [List.getElem?_map,hkk];rfl
     rw [Pl.pre_succ hy hkL,List.reverse_append,List.reverse_append,List.reverse_singleton,List.append_assoc,List.singleton_append] at ht hAM
     have ej:(((j+1:Nat):Int)-1)=(j:Int):=by omega
     refine (show Go' _ _ _ _ _ [(0,.pointer (some ⟨tr,0,none⟩)),(5,.func (.func g) us.toArray cs.toArray),(6,.bool mt),(15,.pointer (some ⟨gg.p,0,none⟩)),(16,.int .i64 (((j+1:Nat):Int)-1))] _ _ from ?_)
     rw [ej]
     rw [List.length_cons,List.length_append] at hAM
     have hkr:(Gt.L h k).reverse.length=(Gt.L h k).length:=List.length_reverse
     refine Ur 2 0 rfl (Uc 1 rfl (geqT (by omega)) (Uf 0 [0,5,6,15,16,56] rfl (Go'.condT rfl (Ut 5 rfl ?_))))
     cases hgo:go (A++[y])
     ·
      refine Ur 10 147712 rfl (Ul 4 rfl hI3.n.c2 (Ux 1 j rfl (by omega) (by omega) (Us 0 rfl (hI3.n.sl.item hy) rfl (O.callC rfl rfl rfl rfl hcall rfl ((cbH cb hv hz).call y hT (by omega)) ?_))))
      rintro _ H4 ⟨rfl,Z4,hT4,hF4,hZ4⟩
      rw [hgo]
      obtain ⟨hF5,hZ5⟩:=hcat hF hZ1 hF4 hZ4
      refine ⟨trivial,?_⟩
      refine Uf 1 [0,5,6,15,16,56,68] rfl (Go'.condT rfl (Ut 1 rfl (Ur 1 0 rfl (Uf 1 [0,5,6,14,15,16,56,68] rfl (Go'.ret (vs:=[_]) func191 results191 ⟨rfl,trivial⟩ ?_)))))
      rw [takes_cons,hgo] at ht
      unfold CbPost
      rw [ht]
      exact ⟨rfl,Z4,hT4,hF5,hZ5⟩
     ·
      refine Ur 10 147712 rfl (Ul 4 rfl hI3.n.c2 (Ux 1 j rfl (by omega) (by omega) (Us 0 rfl (hI3.n.sl.item hy) rfl (O.callC rfl rfl rfl rfl hcall rfl ((cbH cb hv hz).call y hT (by omega)) ?_))))
      rintro _ H4 ⟨rfl,Z4,hT4,hF4,hZ4⟩
      rw [hgo]
      obtain ⟨hF5,hZ5⟩:=hcat hF hZ1 hF4 hZ4
      refine ⟨trivial,?_⟩
      refine Uf 1 [0,5,6,15,16,56,68] rfl ?_
      rw [takes_cons,hgo,if_pos rfl] at ht
      refine Go'.condF rfl (Ut 2 rfl ?_)
      have hI4:=hin H4 hF5
      have hAy:(A++[y]).length=A.length+1:=by simp
      refine Ur 3 8 rfl (Uq 1 rfl (O.callQ rfl rfl rfl call133 rfl (leaf_spec hI4.n.c3) trivial (Uf 1 [0,5,6,15,16,56,68,71] rfl (Go'.condT rfl (Ut 1 rfl (Ur 13 8392960 rfl (Ul 4 rfl hI4.n.c3 (Ul 1 rfl hI4.k.c (Ux 1 j rfl (by omega) (by omega) (Uq 2 rfl (O.call rfl rfl rfl call189 rfl (nrev (cbH cb hv hz) hcall hP mt h (hkid hkk hF5 hT4 hZ5 (by omega))) ?_)))))))))))
      rintro _ H6 ⟨rfl,Z6,hT6,hF6,hZ6⟩
      obtain ⟨hF7,hZ7⟩:=hcat hF5 hZ5 hF6 hZ6
      refine ⟨trivial,?_⟩
      refine Uf 1 [0,5,6,15,16,56,68,71,84] rfl ?_
      cases htk2:(takes go (A++[y]) (Gt.L h k).reverse).2
      ·
       refine Go'.condT rfl (Ut 1 rfl (Ur 1 0 rfl (Uf 1 [0,5,6,14,15,16,56,68,71,84] rfl (Go'.ret (vs:=[_]) func191 results191 ⟨rfl,trivial⟩ ?_))))
       rw [takes_halt htk2] at ht
       unfold CbPost
       rw [ht]
       exact ⟨by rw [htk2];rfl,Z6,hT6,hF7,hZ7⟩
      ·
       refine Go'.condF rfl (Ut 2 rfl ?_)
       have htl:=takes_length go (Gt.L h k).reverse (A++[y])
       refine Ur 3 0 rfl (Ub 1 (((j:Nat):Int)-1) rfl (by omega) (Uf 1 [0,5,6,15,16,56,68,71,84] rfl (Uk [0,5,6,15,16] rfl (Go'.inLoop ?_))))
       rw [takes_rest htk2] at ht
       generalize (takes go (A++[y]) (Gt.L h k).reverse).1=A6 at*
       exact ih2 (j,_,Z6,A6) H6 ⟨by (try simp only)<;>omega,rfl,ht,hT6,hF7,hZ7,by (try simp only)<;>omega⟩ (by (try simp only)<;>omega)
  ·
   have hW:=(Pl.dn_found OI hs hKL hfd).1
   have hlt1:=Pl.fnd_pos_lt OI hfd
   generalize hpi:Pl.pos OI x X=i at*
   replace hW:=congrArg List.reverse hW
   generalize hFULL:(Pl.dn OI x (Pl.inter X (K.map (Gt.L h)))).reverse=FULL at*
   refine Ur 2 0 rfl (Uf 2 [0,3,4,5,6,9,14,15,16,32] rfl (Go'.condF rfl (Ut 3 rfl (Go'.loop (Uk [0,5,6,15,16] rfl ?_)))))
   refine Go'.ind (σ:=Nat×Int×(Nat→Prop)×List (Int×Int)) (fun s=>s.1) (fun s H'=>s.1≤X.length∧s.2.1=(s.1:Int)-1∧takes go acc FULL=takes go s.2.2.2 ((Pl.pre (X.take (s.1)) ((K.map (Gt.L h)).take (s.1))).reverse)∧(cbH cb hv hz).T s.2.2.2 s.2.2.1 H'∧Fr (fun b _=>Z b) H H'∧(∀b,s.2.2.1 b→Z b∨H.size≤b)∧s.2.2.2.length+((Pl.pre (X.take (s.1)) ((K.map (Gt.L h)).take (s.1))).reverse).length≤M)
    (fun s=>[(0,.pointer (some ⟨tr,0,none⟩)),(5,.func (.func g) us.toArray cs.toArray),(6,.bool mt),(15,.pointer (some ⟨gg.p,0,none⟩)),(16,.int .i64 s.2.1)]) (i+1,(i:Int),Z,acc) ⟨by (try simp only)<;>omega,by (try simp only)<;>omega,by rw [hW],hst,(Fr.refl _ _),fun b hb=>.inl hb,by rw [hW] at hfle;simp only;omega⟩ rfl ?_
   rintro ⟨j,z,Z1,A⟩ H3 ⟨hj,hz,ht,hT,hF,hZ1,hAM⟩ ih2
   simp only at hj hz ht hT hZ1 hAM
   subst hz
   have hI3:=hin H3 hF
   refine Ut 2 rfl ?_
   rcases j with _|j
   ·
    refine Ur 2 0 rfl (Uc 1 rfl (geqF (by show ((0:Nat):Int)-1<0;omega)) (Uf 0 [0,5,6,15,16,56] rfl ?_))
    rw [List.take_zero] at ht
    refine Go'.condF rfl (Ut 2 rfl (Ur 1 0 rfl (Uf 1 [14] rfl (Go'.ret (vs:=[_]) func191 results191 ⟨rfl,trivial⟩ ?_))))
    replace ht:takes go acc FULL=(A,true):=ht
    unfold CbPost
    rw [ht]
    exact ⟨rfl,Z1,hT,hF,hZ1⟩
   ·
    obtain ⟨y,hy⟩:∃y,X[j]?=some y:=⟨X[j],List.getElem?_eq_getElem (by omega)⟩
    obtain ⟨k,hkk⟩:∃k,K[j]?=some k:=⟨K[j],List.getElem?_eq_getElem (by omega)⟩
    have hkL:(K.map (Gt.L h))[j]?=some (Gt.L h k):=by rw [List.getElem?_map,hkk];rfl
    rw [Pl.pre_succ hy hkL,List.reverse_append,List.reverse_append,List.reverse_singleton,List.append_assoc,List.singleton_append] at ht hAM
    have ej:(((j+1:Nat):Int)-1)=(j:Int):=by omega
    refine (show Go' _ _ _ _ _ [(0,.pointer (some ⟨tr,0,none⟩)),(5,.func (.func g) us.toArray cs.toArray),(6,.bool mt),(15,.pointer (some ⟨gg.p,0,none⟩)),(16,.int .i64 (((j+1:Nat):Int)-1))] _ _ from ?_)
    rw [ej]
    rw [List.length_cons,List.length_append] at hAM
    have hkr:(Gt.L h k).reverse.length=(Gt.L h k).length:=List.length_reverse
    refine Ur 2 0 rfl (Uc 1 rfl (geqT (by omega)) (Uf 0 [0,5,6,15,16,56] rfl (Go'.condT rfl (Ut 5 rfl ?_))))
    cases hgo:go (A++[y])
    ·
     refine Ur 10 147712 rfl (Ul 4 rfl hI3.n.c2 (Ux 1 j rfl (by omega) (by omega) (Us 0 rfl (hI3.n.sl.item hy) rfl (O.callC rfl rfl rfl rfl hcall rfl ((cbH cb hv hz).call y hT (by omega)) ?_))))
     rintro _ H4 ⟨rfl,Z4,hT4,hF4,hZ4⟩
     rw [hgo]
     obtain ⟨hF5,hZ5⟩:=hcat hF hZ1 hF4 hZ4
     refine ⟨trivial,?_⟩
     refine Uf 1 [0,5,6,15,16,56,68] rfl (Go'.condT rfl (Ut 1 rfl (Ur 1 0 rfl (Uf 1 [0,5,6,14,15,16,56,68] rfl (Go'.ret (vs:=[_]) func191 results191 ⟨rfl,trivial⟩ ?_)))))
     rw [takes_cons,hgo] at ht
     unfold CbPost
     rw [ht]
     exact ⟨rfl,Z4,hT4,hF5,hZ5⟩
    ·
     refine Ur 10 147712 rfl (Ul 4 rfl hI3.n.c2 (Ux 1 j rfl (by omega) (by omega) (Us 0 rfl (hI3.n.sl.item hy) rfl (O.callC rfl rfl rfl rfl hcall rfl ((cbH cb hv hz).call y hT (by omega)) ?_))))
     rintro _ H4 ⟨rfl,Z4,hT4,hF4,hZ4⟩
     rw [hgo]
     obtain ⟨hF5,hZ5⟩:=hcat hF hZ1 hF4 hZ4
     refine ⟨trivial,?_⟩
     refine Uf 1 [0,5,6,15,16,56,68] rfl ?_
     rw [takes_cons,hgo,if_pos rfl] at ht
     refine Go'.condF rfl (Ut 2 rfl ?_)
     have hI4:=hin H4 hF5
     have hAy:(A++[y]).length=A.length+1:=by simp
     refine Ur 3 8 rfl (Uq 1 rfl (O.callQ rfl rfl rfl call133 rfl (leaf_spec hI4.n.c3) trivial (Uf 1 [0,5,6,15,16,56,68,71] rfl (Go'.condT rfl (Ut 1 rfl (Ur 13 8392960 rfl (Ul 4 rfl hI4.n.c3 (Ul 1 rfl hI4.k.c (Ux 1 j rfl (by omega) (by omega) (Uq 2 rfl (O.call rfl rfl rfl call189 rfl (nrev (cbH cb hv hz) hcall hP mt h (hkid hkk hF5 hT4 hZ5 (by omega))) ?_)))))))))))
     rintro _ H6 ⟨rfl,Z6,hT6,hF6,hZ6⟩
     obtain ⟨hF7,hZ7⟩:=hcat hF5 hZ5 hF6 hZ6
     refine ⟨trivial,?_⟩
     refine Uf 1 [0,5,6,15,16,56,68,71,84] rfl ?_
     cases htk2:(takes go (A++[y]) (Gt.L h k).reverse).2
     ·
      refine Go'.condT rfl (Ut 1 rfl (Ur 1 0 rfl (Uf 1 [0,5,6,14,15,16,56,68,71,84] rfl (Go'.ret (vs:=[_]) func191 results191 ⟨rfl,trivial⟩ ?_))))
      rw [takes_halt htk2] at ht
      unfold CbPost
      rw [ht]
      exact ⟨by rw [htk2];rfl,Z6,hT6,hF7,hZ7⟩
     ·
      refine Go'.condF rfl (Ut 2 rfl ?_)
      have htl:=takes_length go (Gt.L h k).reverse (A++[y])
      refine Ur 3 0 rfl (Ub 1 (((j:Nat):Int)-1) rfl (by omega) (Uf 1 [0,5,6,15,16,56,68,71,84] rfl (Uk [0,5,6,15,16] rfl (Go'.inLoop ?_))))
      rw [takes_rest htk2] at ht
      generalize (takes go (A++[y]) (Gt.L h k).reverse).1=A6 at*
      exact ih2 (j,_,Z6,A6) H6 ⟨by (try simp only)<;>omega,rfl,ht,hT6,hF7,hZ7,by (try simp only)<;>omega⟩ (by (try simp only)<;>omega)
end
end Go.Bt.FG
