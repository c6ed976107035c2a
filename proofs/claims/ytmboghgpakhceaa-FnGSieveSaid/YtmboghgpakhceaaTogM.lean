/- Contracts of functions of the program, proved by walking through their code. Conditions: those that each theorem names. -/
import Derived.Test.YtmboghgpakhceaaProg
import Derived.Test.YtmboghgpakhceaaTogK
import Derived.Test.YtmboghgpakhceaaTogD
import Derived.Test.YtmboghgpakhceaaToKi
import Derived.Test.YtmboghgpakhceaaToCb
set_option linter.unusedVariables false
namespace Go.Bt.FG
open Go Go.Proofs Go.Proofs.Try
set_option maxRecDepth 20000
set_option maxHeartbeats 4000000
set_option linter.unusedSectionVars false
def dg (d:Nat):Nat:=if d=0 then 32 else d
def PD (d:Nat):Ps:=⟨1,2*dg d-1,dg d-1⟩
theorem dg_ok {d:Nat} (hd:d=0∨2≤d∧d≤128):2≤dg d∧dg d≤128:=by unfold dg;split<;>omega
theorem PD_ok {d:Nat} (hd:d=0∨2≤d∧d≤128):PsOk (PD d):=by
 have:=dg_ok hd
 exact ⟨by show 2*dg d-1=2*(dg d-1)+1;omega,by show 1≤dg d-1;omega,by show 2*dg d-1≤255;omega⟩
structure TrN (H:Mem) (tr id mx mn:Nat) (lv:Value):Prop where
 iso:cl H tr 0=some (.int .u64 (id:Int))
 rt:cl H tr 2=some (.pointer none)
 cnt:cl H tr 3=some (.int .i64 0)
 emp:Rd H tr 7 [.int .i64 0,.int .i64 0]
 mn':cl H tr 10=some (.int .i64 (mn:Int))
 mx':cl H tr 9=some (.int .i64 (mx:Int))
 cv:cl H tr 4=some (.bool false)
 icv:cl H tr 5=some (.bool false)
 le:cl H tr 6=some lv
 wr:Wr H tr 0 11
theorem TrN.fr {H H':Mem} {tr id mx mn:Nat} {lv:Value} {Z:Nat→Nat→Prop} (h:TrN H tr id mx mn lv) (hf:Fr Z H H') (hz:∀o,¬Z tr o):TrN H' tr id mx mn lv:=
 ⟨hf.keep h.iso (hz _),hf.keep h.rt (hz _),hf.keep h.cnt (hz _),hf.rd h.emp (fun _ _=>hz _),hf.keep h.mn' (hz _),hf.keep h.mx' (hz _),hf.keep h.cv (hz _),hf.keep h.icv (hz _),hf.keep h.le (hz _),hf.wr h.wr⟩
theorem st142:StT Try.prog 142 [(0,1),(1,1)] [.int .i64 0,.bool false]:=⟨⟨_,underlying142,fun w=>by simp [Array.mapM_eq_mapM_toList,sizeOf3,sizeOf4]⟩,zeroValue142⟩
theorem degG_spec {B:World} {H:Mem} {d:Nat} (hd:d=0∨2≤d∧d≤128):
  Fn Try.prog B 198 [.int .i64 (d:Int)] H (fun v H'=>v=.tuple #[.int .i64 ((dg d-1:Nat):Int),.int .i64 ((2*dg d-1:Nat):Int)]∧H'=H):=by
 rcases hd with rfl|hd
 rotate_left
 · rw [show dg d=d by unfold dg;rw [if_neg (by omega)]];haveI:Inhabited Cx:=⟨⟨[],0,.bool false,0,fun _=>False⟩⟩;exact deg_spec hd
 refine fn_of func198 rfl ntmps198 ?_
 refine (show Go' _ _ _ _ 15 [(0,_)] [.code _] _ from ?_)
 refine Ut 1 rfl (Ur 2 0 rfl (Uf 2 [0,2,3] rfl (Ut 2 rfl (Ur 2 0 rfl (Uc 1 rfl (leqT (by omega)) (Uf 0 [0,2,3,5] rfl (Go'.condT rfl (Ur 1 0 rfl (Uf 1 [0,2,3] rfl (Ut 1 rfl (Ur 4 0 rfl ?_)))))))))))
 refine Uq 1 rfl (O.mul (((64:Nat):Int)) rfl rfl rfl rfl rfl rfl (by omega) (by omega) (Ub 0 (((63:Nat):Int)) rfl (by omega) (Uf 1 [2,3] rfl (Ut 1 rfl (Ur 3 0 rfl (Uq 1 rfl (O.quo (((31:Nat):Int)) rfl rfl rfl rfl rfl rfl (by decide) rfl (by omega) (Uf 1 [2,3] rfl (Ut 1 rfl (Ur 4 0 rfl (Uf 4 [2,3] rfl ?_)))))))))))
 refine Go'.ret (vs:=[_,_]) func198 results198 ⟨rfl,rfl,trivial⟩ ?_
 exact ⟨rfl,rfl⟩
theorem init_new {B:World} {H:Mem} {tr id d:Nat} {lv:Value} (hd:d=0∨2≤d∧d≤128) (h:TrN H tr id 0 0 lv):
  Fn Try.prog B 168 [.pointer (some ⟨tr,0,none⟩),.int .i64 (d:Int)] H (fun v H'=>v=resVal []∧H'.size=H.size∧Fr (fun b _=>b=tr) H H'∧TrN H' tr id (2*dg d-1) (dg d-1) lv):=by
 obtain ⟨h0,h2,h3,he,h6,h7,h8,h9,hle,hw⟩:=h
 have htl:tr<H.size:=cl_lt h0
 have hF:Fr (fun b _=>b=tr) H H:=Fr.refl _ _
 refine fn_of func168 rfl ntmps168 ?_
 refine (show Go' _ _ _ _ 49 [(0,_),(1,_)] [.code _] _ from ?_)
 refine Ut 2 rfl (Ur 5 64 rfl (Ul 3 rfl h6 (Uc 0 rfl (neqF (by omega)) (Uf 0 [0,1,8] rfl (Go'.condF rfl (Ut 2 rfl (Ur 13 34078848 rfl (Uq 3 rfl (O.callQ rfl rfl rfl call198 rfl (degG_spec hd) trivial (Uq 5 rfl (O.st rfl rfl sizeOf3 rfl rfl rfl rfl rfl (hw.at0 10 1 (by omega)) ?_)))))))))))
 intro H1 W1
 have hsW1:=W1.size
 replace h0:=W1.keep1 h0 (by omega)
 replace h2:=W1.keep1 h2 (by omega)
 replace h3:=W1.keep1 h3 (by omega)
 replace he:=W1.fr.rd he (fun i hi=>nr (by simp only [List.length_cons,List.length_nil] at hi ⊢;omega))
 replace h6:=W1.at
 replace h7:=W1.keep1 h7 (by omega)
 replace h8:=W1.keep1 h8 (by omega)
 replace h9:=W1.keep1 h9 (by omega)
 replace hle:=W1.keep1 hle (by omega)
 replace hw:=W1.fr.wr hw
 replace hF:=hF.trans' W1.fr (fun _ _ _ h=>h) (fun b o _ h=>h.1)
 refine ⟨trivial,?_⟩
 refine Uq 2 rfl (O.st rfl rfl sizeOf3 rfl rfl rfl rfl rfl (hw.at0 9 1 (by omega)) ?_)
 intro H2 W2
 have hsW2:=W2.size
 replace h0:=W2.keep1 h0 (by omega)
 replace h2:=W2.keep1 h2 (by omega)
 replace h3:=W2.keep1 h3 (by omega)
 replace he:=W2.fr.rd he (fun i hi=>nr (by simp only [List.length_cons,List.length_nil] at hi ⊢;omega))
 replace h6:=W2.keep1 h6 (by omega)
 replace h7:=W2.at
 replace h8:=W2.keep1 h8 (by omega)
 replace h9:=W2.keep1 h9 (by omega)
 replace hle:=W2.keep1 hle (by omega)
 replace hw:=W2.fr.wr hw
 replace hF:=hF.trans' W2.fr (fun _ _ _ h=>h) (fun b o _ h=>h.1)
 refine ⟨trivial,?_⟩
 refine Uf 0 [0] rfl (Ut 1 rfl (Ur 13 33554688 rfl (Us 4 rfl he rfl (O.mki rfl rfl rfl rfl underlying27 rfl rfl (O.tya rfl rfl rfl rfl rfl (run_assert_no' underlying223 typeInfo27 rfl zeroValue223) (Uq 5 rfl (O.st rfl rfl sizeOf4 rfl rfl rfl rfl rfl (hw.at0 4 1 (by omega)) ?_)))))))
 intro H3 W3
 have hsW3:=W3.size
 replace h0:=W3.keep1 h0 (by omega)
 replace h2:=W3.keep1 h2 (by omega)
 replace h3:=W3.keep1 h3 (by omega)
 replace he:=W3.fr.rd he (fun i hi=>nr (by simp only [List.length_cons,List.length_nil] at hi ⊢;omega))
 replace h6:=W3.keep1 h6 (by omega)
 replace h7:=W3.keep1 h7 (by omega)
 replace h8:=W3.at
 replace h9:=W3.keep1 h9 (by omega)
 replace hle:=W3.keep1 hle (by omega)
 replace hw:=W3.fr.wr hw
 replace hF:=hF.trans' W3.fr (fun _ _ _ h=>h) (fun b o _ h=>h.1)
 refine ⟨trivial,?_⟩
 refine Uf 0 [0] rfl (Ut 1 rfl (Ur 5 64 rfl (Ul 3 rfl h8 (Uf 1 [0,36] rfl (Go'.condT rfl (Ur 13 33554688 rfl (Us 4 rfl he rfl (O.mki rfl rfl rfl rfl underlying27 rfl rfl (O.tya rfl rfl rfl rfl rfl (run_assert_no' underlying226 typeInfo27 rfl zeroValue226) (Uq 5 rfl (O.st rfl rfl sizeOf4 rfl rfl rfl rfl rfl (hw.at0 5 1 (by omega)) ?_)))))))))))
 intro H4 W4
 have hsW4:=W4.size
 replace h0:=W4.keep1 h0 (by omega)
 replace h2:=W4.keep1 h2 (by omega)
 replace h3:=W4.keep1 h3 (by omega)
 replace he:=W4.fr.rd he (fun i hi=>nr (by simp only [List.length_cons,List.length_nil] at hi ⊢;omega))
 replace h6:=W4.keep1 h6 (by omega)
 replace h7:=W4.keep1 h7 (by omega)
 replace h8:=W4.keep1 h8 (by omega)
 replace h9:=W4.at
 replace hle:=W4.keep1 hle (by omega)
 replace hw:=W4.fr.wr hw
 replace hF:=hF.trans' W4.fr (fun _ _ _ h=>h) (fun b o _ h=>h.1)
 refine ⟨trivial,?_⟩
 refine Uf 0 [] rfl (Go'.fall func168 results168 (vs:=[]) trivial ?_)
 exact ⟨rfl,by omega,hF,⟨h0,h2,h3,he,h6,h7,h8,h9,hle,hw⟩⟩
theorem newIso_spec {B:World} {H:Mem} {c:Nat} (hc:cl H c 0=some (.int .u64 0)) (hw:Wr H c 0 1):
  Fn Try.prog B 167 [.pointer (some ⟨c,0,none⟩)] H (fun v H'=>v=.int .u64 ((1:Nat):Int)∧Fr (fun b _=>b=c) H H'):=by
 refine fn_of func167 rfl ntmps167 ?_
 refine (show Go' _ _ _ _ 11 [(0,_)] [.code _] _ from ?_)
 refine Ut 1 rfl (Ur 1 0 rfl (Uf 1 [0,2] rfl (Ut 1 rfl (Ur 6 2064 rfl (Ul 2 rfl hc (O.bin rfl rfl rfl rfl rfl rfl (fun w=>⟨run_eqGuard_int _ _ _ _ _ _ _ _ w,rfl⟩) (Uq 1 rfl (O.st rfl rfl sizeOf155 rfl rfl rfl rfl rfl hw ?_))))))))
 intro H1 W1
 refine ⟨trivial,?_⟩
 refine Uf 0 [0,2] rfl (Ut 1 rfl (Ur 4 16 rfl (Ul 2 rfl W1.at (Uf 1 [2] rfl (Go'.ret (vs:=[_]) func167 results167 ⟨rfl,trivial⟩ ?_)))))
 exact ⟨rfl,W1.fr.mono fun b o _ h=>h.1⟩
theorem newTree_spec {B:World} {H:Mem} {d:Nat} {nl:Bool} {g:FuncId} {ob:Nat} (hd:d=0∨2≤d∧d≤128):
  Fn Try.prog B 121 [.func (.func g) #[] #[ptr ob],.agg #[.int .i64 (d:Int),.bool nl]] H (fun r H'=>∃tr,r=ptr tr∧H.size≤tr∧tr<H'.size∧Fr nowhere H H'∧TrN H' tr 1 (2*dg d-1) (dg d-1) (.func (.func g) #[] #[ptr ob])):=by
 refine fn_of func121 rfl ntmps121 ?_
 refine (show Go' _ _ _ _ 28 [(0,_),(1,_)] [.code _] _ from ?_)
 refine Ut 1 rfl (Ur 2 2 rfl (O.box rfl rfl rfl rfl ?_))
 intro H0 M0
 refine ⟨trivial,?_⟩
 have hs0:=M0.size
 have mo:Rd H0 H.size 0 [.int .i64 (d:Int),.bool nl]:=M0.rd _ [] (by simp [Value.cells])
 refine Uf 1 [0,3,4] rfl (Ut 1 rfl (Ur 2 2 rfl (O.alloc rfl rfl rfl zeroValue158 ?_)))
 intro H1 M1
 refine ⟨trivial,?_⟩
 have hs1:=M1.size
 replace mo:=(M1.fr nowhere).rd mo (fun _ _=>nw)
 have hT0:TrN H1 H0.size 0 0 0 _:=⟨(M1.cl 0).trans rfl,(M1.cl 2).trans rfl,(M1.cl 3).trans rfl,fun i v h=>by
   match i,h with
   | 0,h=>exact (M1.cl 7).trans h
   | 1,h=>exact (M1.cl (7+1)).trans h
   | i+2,h=>simp at h,(M1.cl 10).trans rfl,(M1.cl 9).trans rfl,(M1.cl 4).trans rfl,(M1.cl 5).trans rfl,(M1.cl 6).trans rfl,M1.wr 11 (by decide)⟩
 refine Uf 1 [0,3,4,5] rfl (Ut 1 rfl (Ur 5 520 rfl (Uq 1 rfl (O.alloc rfl rfl rfl zeroValue155 ?_))))
 intro H2 M2
 refine ⟨trivial,?_⟩
 have hs2:=M2.size
 replace mo:=(M2.fr nowhere).rd mo (fun _ _=>nw)
 replace hT0:=hT0.fr (M2.fr nowhere) (fun _=>nw)
 have hc0:cl H2 H1.size 0=some (.int .u64 0):=(M2.cl 0).trans rfl
 have hcw:Wr H2 H1.size 0 1:=M2.wr 1 (by decide)
 refine Uq 2 rfl (O.st rfl rfl sizeOf156 rfl rfl rfl rfl rfl (hT0.wr.at0 1 1 (by omega)) ?_)
 intro H3 W3
 have hs3:=W3.size
 replace mo:=W3.fr.rd mo (fun _ _=>nr (.inl (by omega)))
 replace hc0:=W3.keep1 hc0 (by omega)
 replace hcw:=W3.fr.wr hcw
 have hct:cl H3 H0.size 1=some (.pointer (some ⟨H1.size,0,none⟩)):=W3.at
 have hT0:TrN H3 H0.size 0 0 0 _:=⟨(W3.keep1 hT0.iso (by omega)),(W3.keep1 hT0.rt (by omega)),(W3.keep1 hT0.cnt (by omega)),(W3.fr.rd hT0.emp (fun i hi=>nr (by simp only [List.length_cons,List.length_nil] at hi ⊢;omega))),(W3.keep1 hT0.mn' (by omega)),(W3.keep1 hT0.mx' (by omega)),(W3.keep1 hT0.cv (by omega)),(W3.keep1 hT0.icv (by omega)),(W3.keep1 hT0.le (by omega)),(W3.fr.wr hT0.wr)⟩
 refine ⟨trivial,?_⟩
 refine Uf 0 [0,3,4,5] rfl (Ut 1 rfl (Ur 9 133376 rfl (Ul 4 rfl hct (O.call rfl rfl rfl call167 rfl (newIso_spec hc0 hcw) ?_))))
 rintro _ H4 ⟨rfl,hF4⟩
 have hs4:=hF4.size
 replace mo:=hF4.rd mo (fun _ _ e=>by have e':H.size=H1.size:=e;omega)
 replace hT0:=hT0.fr hF4 (fun _ e=>by have e':H0.size=H1.size:=e;omega)
 refine ⟨trivial,?_⟩
 refine Uq 2 rfl (O.st rfl rfl sizeOf155 rfl rfl rfl rfl rfl (hT0.wr.at0 0 1 (by omega)) ?_)
 intro H5 W5
 have hs5:=W5.size
 replace mo:=W5.fr.rd mo (fun _ _=>nr (.inl (by omega)))
 have hT0:TrN H5 H0.size 1 0 0 _:=⟨W5.at,(W5.keep1 hT0.rt (by omega)),(W5.keep1 hT0.cnt (by omega)),(W5.fr.rd hT0.emp (fun i hi=>nr (by simp only [List.length_cons,List.length_nil] at hi ⊢;omega))),(W5.keep1 hT0.mn' (by omega)),(W5.keep1 hT0.mx' (by omega)),(W5.keep1 hT0.cv (by omega)),(W5.keep1 hT0.icv (by omega)),(W5.keep1 hT0.le (by omega)),(W5.fr.wr hT0.wr)⟩
 refine ⟨trivial,?_⟩
 refine Uf 0 [0,3,4,5] rfl (Ut 1 rfl (Ur 5 512 rfl (Uq 4 rfl (O.st rfl rfl sizeOf88 rfl rfl rfl rfl rfl (hT0.wr.at0 6 1 (by omega)) ?_))))
 intro H6 W6
 have hs6:=W6.size
 replace mo:=W6.fr.rd mo (fun _ _=>nr (.inl (by omega)))
 have hT0:TrN H6 H0.size 1 0 0 (.func (.func g) #[] #[ptr ob]):=⟨(W6.keep1 hT0.iso (by omega)),(W6.keep1 hT0.rt (by omega)),(W6.keep1 hT0.cnt (by omega)),(W6.fr.rd hT0.emp (fun i hi=>nr (by simp only [List.length_cons,List.length_nil] at hi ⊢;omega))),(W6.keep1 hT0.mn' (by omega)),(W6.keep1 hT0.mx' (by omega)),(W6.keep1 hT0.cv (by omega)),(W6.keep1 hT0.icv (by omega)),W6.at,(W6.fr.wr hT0.wr)⟩
 refine ⟨trivial,?_⟩
 refine Uf 0 [3,4,5] rfl (Ut 1 rfl (Ur 4 144 rfl (Ul 2 rfl (mo 0 _ rfl) (O.call rfl rfl rfl call168 rfl (init_new hd hT0) ?_))))
 rintro _ H7 ⟨rfl,hs7,hF7,hT7⟩
 refine ⟨trivial,?_⟩
 refine Uf 0 [4,5] rfl (Ut 1 rfl (Ur 2 0 rfl (Uf 2 [4] rfl (Go'.ret (vs:=[_]) func121 results121 ⟨rfl,trivial⟩ ?_))))
 refine ⟨H0.size,rfl,by omega,by omega,?_,hT7⟩
 have f1:Fr nowhere H H2:=((M0.fr nowhere).trans (M1.fr nowhere)).trans (M2.fr nowhere)
 have f3:Fr nowhere H H3:=f1.trans' W3.fr (fun _ _ _ h=>h) (fun b o hb h=>by have h':=h.1;omega)
 have f4:Fr nowhere H H4:=f3.trans' hF4 (fun _ _ _ h=>h) (fun b o hb h=>by have h':b=H1.size:=h;omega)
 have f5:Fr nowhere H H5:=f4.trans' W5.fr (fun _ _ _ h=>h) (fun b o hb h=>by have h':=h.1;omega)
 have f6:Fr nowhere H H6:=f5.trans' W6.fr (fun _ _ _ h=>h) (fun b o hb h=>by have h':=h.1;omega)
 exact f6.trans' hF7 (fun _ _ _ h=>h) (fun b o hb h=>by have h':b=H0.size:=h;omega)
theorem cloneN_spec {B:World} {H:Mem} {v:Value} {l:List Int} (hi:InS EN H v l) (hll:l.length≤4294967296):
  Fn Try.prog B 169 [v] H (fun r H'=>Acc EN (fun b=>H.size≤b) H' r l∧Fr nowhere H H'):=by
 obtain ⟨a,c,rfl⟩:=hi.len
 rcases a with _|a
 ·
  obtain rfl:l=[]:=by
   rcases hi with ⟨b,o,c',e,_⟩|⟨e,_⟩
   · cases e
   · exact e
  refine fn_of func169 rfl ntmps169 ?_
  refine (show Go' _ _ _ _ 8 [(0,_)] [.code _] _ from ?_)
  refine Ut 1 rfl (Ur 1 0 rfl (Uf 1 [0,2] rfl (Ut 2 rfl (Ur 2 0 rfl (Uq 1 rfl (O.slNil rfl rfl rfl rfl underlying22 rfl rfl (Uf 0 [0,2,4] rfl (Go'.condT rfl (Ut 1 rfl (Ur 1 0 rfl (Uf 1 [0,2] rfl ?_)))))))))))
  refine Go'.ret (vs:=[_]) func169 results169 ⟨rfl,trivial⟩ ?_
  exact ⟨Acc.nil _ _ _,Fr.refl _ _⟩
 ·
  refine fn_of func169 rfl ntmps169 ?_
  refine (show Go' _ _ _ _ 8 [(0,_)] [.code _] _ from ?_)
  refine Ut 1 rfl (Ur 1 0 rfl (Uf 1 [0,2] rfl (Ut 2 rfl (Ur 2 0 rfl (Uq 1 rfl (O.slNil rfl rfl rfl rfl underlying22 rfl rfl (Uf 0 [0,2,4] rfl (Go'.condF rfl (Ut 2 rfl (Ur 4 34 rfl (O.bsl (cs:=[]) rfl rfl rfl ⟨underlying22,sizeOf3,zeroValue3,⟨_,typeInfo3,rfl⟩,rfl,by decide,by decide⟩ rfl (by decide) (by kernel_rfl) ?_)))))))))))
  intro H1 M1
  have hs1:=M1.size
  have hA1:=AccN.made (E:=EN) M1
  refine ⟨trivial,?_⟩
  refine Uq 1 rfl (O.appI (E:=EN) rfl rfl rfl ⟨underlying22,sizeOf3,zeroValue3,⟨_,typeInfo3,rfl⟩,rfl,by decide,by decide⟩ rfl hA1 rfl (hi.fr (M1.fr nowhere)) (Nat.le_trans (Nat.mul_le_mul_left _ (Nat.le_of_ble_eq_true (n:=_) (m:=4096) rfl)) (by simp only [List.length_nil];omega)) (by simp only [List.length_nil];omega) ?_)
  intro v2 H2 hA2 hF2 hs2
  rw [List.nil_append] at hA2
  refine ⟨trivial,?_⟩
  refine Uf 1 [2] rfl (Go'.ret (vs:=[_]) func169 results169 ⟨rfl,trivial⟩ ?_)
  exact ⟨.inr (hA2.mono fun b _ hz=>hz.elim id (fun h=>by omega)),(M1.fr nowhere).trans' hF2 (fun _ _ _ h=>h) (fun b o hb hz=>by have hz':H.size≤b:=hz;omega)⟩
theorem ibefore_spec {B:World} {H:Mem} {v:Value} {ord:List Int} (ho:InS EN H v ord) (hl:ord.length≤4294967296):
  Fn Try.prog B 122 [v] H (fun r H'=>∃ob ov,r=.func (.func 170) #[] #[ptr ob]∧cl H' ob 0=some ov∧H.size≤ob∧ob<H'.size∧Acc EN (fun b=>H.size≤b∧b≠ob) H' ov ord∧Fr nowhere H H'):=by
 refine fn_of func122 rfl ntmps122 ?_
 refine (show Go' _ _ _ _ 7 [(0,_)] [.code _] _ from ?_)
 refine Ut 1 rfl (Ur 1 0 rfl (Uf 1 [0,2] rfl (Ut 1 rfl (Ur 4 168 rfl (Uq 1 rfl (O.call rfl rfl rfl call169 rfl (cloneN_spec ho hl) ?_))))))
 rintro ov H1 ⟨hA,hF1⟩
 obtain ⟨oa,om,oc,rfl⟩:=hA.form
 refine ⟨trivial,?_⟩
 refine O.alloc rfl rfl rfl zeroValue22 ?_
 intro H2 M2
 refine ⟨trivial,?_⟩
 have hs2:=M2.size
 have hA2:=(hA.mono (Y:=fun b=>H.size≤b∧b≠H1.size) (fun b hb hz=>⟨hz,by omega⟩)).fr (M2.fr nowhere) (fun _ _ _ _=>nw)
 have mw:Wr H2 H1.size 0 1:=M2.wr 1 (by decide)
 refine O.st rfl rfl sizeOf22 rfl rfl rfl rfl rfl mw ?_
 intro H3 W3
 have hs3:=W3.size
 have hA3:=hA2.fr W3.fr (fun b o _ hz=>nr (.inl hz.2))
 refine ⟨trivial,?_⟩
 refine Uf 0 [2,3] rfl (Ut 1 rfl (Ur 2 0 rfl (O.mkf rfl rfl rfl rfl rfl rfl (Uf 1 [2] rfl (Go'.ret (vs:=[_]) func122 results122 ⟨rfl,trivial⟩ ?_)))))
 exact ⟨H1.size,_,rfl,W3.at,hF1.size,by omega,hA3,(hF1.trans (M2.fr nowhere)).trans' W3.fr (fun _ _ _ h=>h) (fun b o hb h=>by have h':=h.1;have:=hF1.size;omega)⟩
theorem options_spec {B:World} {H:Mem} {v:Value} {d:Int} {nl:Bool} (hv:∃a m c,v=.slice a m c):
  Fn Try.prog B 123 [.agg #[v,.int .i64 d,.bool nl]] H (fun r H'=>r=.agg #[.int .i64 d,.bool nl]∧Fr nowhere H H'):=by
 obtain ⟨a,m,c,rfl⟩:=hv
 refine fn_of func123 rfl ntmps123 ?_
 refine (show Go' _ _ _ _ 8 [(0,_)] [.code _] _ from ?_)
 refine Ut 1 rfl (Ur 2 10 rfl (O.box rfl rfl rfl rfl ?_))
 intro H1 M1
 refine ⟨trivial,?_⟩
 have hs1:=M1.size
 have mo:Rd H1 H.size 0 [.slice a m c,.int .i64 d,.bool nl]:=M1.rd _ [] (by simp [Value.cells])
 refine O.alloc rfl rfl rfl zeroValue142 ?_
 intro H2 M2
 refine ⟨trivial,?_⟩
 have hs2:=M2.size
 replace mo:=(M2.fr nowhere).rd mo (fun _ _=>nw)
 have mw:Wr H2 H1.size 0 2:=M2.wr 2 (by decide)
 refine Uf 0 [1,2] rfl (Ut 1 rfl (Ur 6 2116 rfl (Ul 1 rfl (mo 1 _ rfl) (Ul 1 rfl (mo 2 _ rfl) (O.bld (cs:=[.int .i64 d,.bool nl]) rfl rfl rfl rfl (st142) rfl (by kernel_rfl) (O.st rfl rfl sizeOf142 rfl rfl rfl rfl rfl mw ?_))))))
 intro H3 W3
 refine ⟨trivial,?_⟩
 refine Uf 0 [2] rfl (Go'.ret (vs:=[_]) func123 results123 ⟨⟨_,_,rfl,fun _ _=>run_loadVar_agg (fun w=>⟨isAgg142 w,sizeOf142 w⟩) rfl W3.all⟩,trivial⟩ ?_)
 exact ⟨rfl,((M1.fr nowhere).trans (M2.fr nowhere)).trans' W3.fr (fun _ _ _ h=>h) (fun b o hb h=>by have h':=h.1;omega)⟩
theorem TrN.mapM {H:Mem} {H0 tr id mx mn ob:Nat} {ov:Value} {ord:List Int} (h:TrN H tr id mx mn (.func (.func 170) #[] #[ptr ob])) (hob:cl H ob 0=some ov) (hA:Acc EN (fun b=>H0≤b∧b≠ob∧b≠tr) H ov ord) (hol:ord.length<4611686018427387904) (h1:H0≤tr) (h2:H0≤ob) (h3:ob≠tr) (htl:tr<H.size):
  ∃I:Inhabited Cx,(@cx I).ord=ord∧(∀b,(@cx I).own b↔H0≤b)∧(@cx I).base=H.size∧@MapT I H tr ⟨id,mx,mn⟩ (fun b=>b=tr) [] none:=by
 refine ⟨⟨⟨ord,ob,ov,H.size,fun b=>H0≤b⟩⟩,rfl,fun _=>Iff.rfl,rfl,?_⟩
 letI I:Inhabited Cx:=⟨⟨ord,ob,ov,H.size,fun b=>H0≤b⟩⟩
 refine ⟨?_,.inl ⟨rfl,rfl,h.rt⟩⟩
 refine @MapM.mk I _ _ _ _ _ (@TrC.mk I _ _ _ _ _ h.iso h.emp h.mn' h.mx' h.cv h.icv h.le h.wr hob ?_ hol htl (cl_lt hob) h3 (Nat.le_refl _) h1 h2) List.Pairwise.nil h.cnt rfl (fun b hb=>by rw [hb];exact htl) (fun b hb=>.inl hb) (.inl ⟨rfl,h.rt⟩)
 rcases hA with ⟨rfl,rfl⟩|⟨b,o,c,rfl,hz,hb,hs⟩
 · exact .inr ⟨rfl,none,0,rfl⟩
 · exact .inl ⟨b,o,c,rfl,hs.hle,hs.rd,hb,hz.1,hz.2.2⟩
theorem InS.form {α:Type} {E:Elt α} {H:Mem} {v:Value} {l:List α} (h:InS E H v l):∃a m c,v=.slice a m c:=have ⟨a,c,e⟩:=h.len;⟨a,_,c,e⟩
theorem growT_spec {B:World} {H:Mem} {d:Nat} {nl:Bool} {v u:Value} {ord:List Int} {l:List (Int×Int)} (hd:d=0∨2≤d∧d≤128) (ho:InS EN H v ord) (hol:ord.length≤4294967296) (hi:InS EJ H u l) (hll:l.length≤4294967296):
  Fn Try.prog B 68 [.agg #[v,.int .i64 (d:Int),.bool nl],u] H (fun r H'=>∃I:Inhabited Cx,(@cx I).ord=ord∧(∀b,(@cx I).own b→H.size≤b)∧H.size≤(@cx I).base∧∃tr S,r=ptr tr∧@MapT I H' tr (PD d) S (Pl.puts (@OI I) l) (AbT.puts (@OI I) (PD d).mx (PD d).mn l)∧Fr nowhere H H'∧∀b,S b→H.size≤b):=by
 have hP:=PD_ok hd
 obtain ⟨a,c,hu⟩:=hi.len
 subst hu
 obtain ⟨av,mv,cv,hv⟩:=InS.form ho
 subst hv
 refine fn_of func68 rfl ntmps68 ?_
 refine (show Go' _ _ _ _ 25 [(0,_),(1,_)] [.code _] _ from ?_)
 refine Ut 1 rfl (Ur 2 2 rfl (O.box rfl rfl rfl rfl ?_))
 intro H1 M1
 refine ⟨trivial,?_⟩
 have hs1:=M1.size
 have mo:Rd H1 H.size 0 [.slice av mv cv,.int .i64 (d:Int),.bool nl]:=M1.rd _ [] (by simp [Value.cells])
 have ho1:=ho.fr (M1.fr nowhere)
 have mo0:cl H1 H.size 0=some (.slice av mv cv):=mo 0 _ rfl
 refine Uf 1 [1,2,4] rfl (Ut 1 rfl (Go'.draw (fun H'=>Rd H' H.size 0 [.slice av mv cv,.int .i64 (d:Int),.bool nl]) [(0,0),(1,1),(3,0),(2,2),(4,2),(5,2),(6,0)] (by kernel_rfl) (by kernel_rfl) (mo) (Ul 1 rfl mo0 (US 0 rfl (fun _ h=>h) rfl (O.call rfl rfl rfl call122 rfl (ibefore_spec ho1 hol) ?_)))))
 rintro _ H2 ⟨ob,ov,rfl,hob,hob1,hob2,hA2,hF2⟩
 have hs2:=hF2.size
 replace mo:=hF2.rd mo (fun _ _=>nw)
 replace mo0:=hF2.keep mo0 nw
 refine ⟨mo,?_⟩
 refine O.call rfl rfl rfl call123 rfl (options_spec ⟨_,_,_,rfl⟩) ?_
 rintro _ H3 ⟨rfl,hF3⟩
 have hs3:=hF3.size
 replace hob:=hF3.keep hob nw
 replace hA2:=hA2.fr hF3 (fun _ _ _ _=>nw)
 replace mo:=hF3.rd mo (fun _ _=>nw)
 replace mo0:=hF3.keep mo0 nw
 refine ⟨mo,?_⟩
 refine O.call rfl rfl rfl call121 rfl (newTree_spec hd) ?_
 rintro _ H4 ⟨tr,rfl,htr1,htr2,hF4,hT⟩
 have hs4:=hF4.size
 replace mo:=hF4.rd mo (fun _ _=>nw)
 replace mo0:=hF4.keep mo0 nw
 replace hob:=hF4.keep hob nw
 replace hA2:=(hA2.mono (Y:=fun b=>H1.size≤b∧b≠ob∧b≠tr) (fun b hb hz=>⟨hz.1,hz.2,by omega⟩)).fr hF4 (fun _ _ _ _=>nw)
 have hFa:Fr nowhere H H4:=(((M1.fr nowhere).trans hF2).trans hF3).trans hF4
 obtain ⟨I,hIo,hIw,hIb,hM1⟩:=hT.mapM (H0:=H1.size) hob hA2 (by omega) (by omega) hob1 (by omega) htr2
 unfold ptr
 refine ⟨mo,?_⟩
 refine Uf 1 [1,4,5] rfl (Ut 2 rfl ?_)
 clear hA2 hob hT hF4 hF3 hF2 ho1
 have hOI:OO ord=OI:=by rw [←hIo];rfl
 have hPD:(⟨1,2*dg d-1,dg d-1⟩:Ps)=PD d:=rfl
 rw [hPD] at hM1
 clear hPD
 refine Ur 3 0 rfl (Uf 3 [4,5,14,15,16] rfl (Ut 1 rfl (Go'.loop (Uk [4,5,14,15,16] rfl ?_))))
 refine Go'.ind (σ:=Nat) (fun j=>l.length-j) (fun j H'=>Fr nowhere H H'∧j≤l.length∧∃S,MapT H' tr (PD d) S (Pl.puts OI (l.take j)) (AbT.puts OI (PD d).mx (PD d).mn (l.take j))∧∀b,S b→H.size≤b)
  (fun j=>[(4,.pointer none),(5,.pointer (some ⟨tr,0,none⟩)),(14,.slice a l.length c),(15,.int .i64 (l.length:Int)),(16,.int .i64 (j:Int))]) 0 ⟨hFa,Nat.zero_le _,_,hM1,fun b hb=>by omega⟩ rfl ?_
 clear hM1
 rintro j H2 ⟨hF,hjl,S,hM,hS⟩ ih
 have hi2:=hi.fr hF
 refine Ut 1 rfl ?_
 by_cases hlt:j<l.length
 ·
  obtain ⟨y,hy⟩:∃y,l[j]?=some y:=⟨l[j],List.getElem?_eq_getElem hlt⟩
  obtain ⟨b,o,c',e,hr⟩:=hi2.at hy
  cases e
  have hpl:=Pl.puts_length OI (l.take j)
  rw [List.length_take] at hpl
  have hlt2:=hM.1.lt
  have hbs:=hM.1.tc.hb
  have hH2:=hF.size
  refine Ur 1 0 rfl (Uc 0 rfl (lssT (by omega)) (Uf 0 [4,5,14,15,16,17] rfl (Ut 1 rfl (Go'.condT rfl (Ut 4 rfl (Ur 4 164 rfl (Ux 0 j rfl (by omega) hlt (Us 0 rfl hr rfl (O.alloc rfl rfl rfl zeroValue27 ?_)))))))))
  intro H5 M5
  refine ⟨trivial,?_⟩
  have hs5:=M5.size
  replace hM:=hM.fr (M5.fr nowhere) (fun _ _ _=>nw)
  have m7:Wr H5 H2.size 0 2:=M5.wr 2 (by decide)
  refine O.st rfl rfl sizeOf27 rfl rfl rfl rfl rfl m7 ?_
  intro H6 W6
  have hs6:=W6.size
  replace hM:=hM.fr W6.fr (fun b o hb hz=>by have h1:=hz.1;exact hb.elim (fun hb=>by have h2:=hlt2 b hb;omega) (fun hb=>by omega))
  have hf6:Fr nowhere H H6:=hF.trans' ((M5.fr nowhere).trans' W6.fr (Z:=nowhere) (fun _ _ _ h=>h) (fun b o hb hz=>by have h1:=hz.1;omega)) (fun _ _ _ h=>h) (fun _ _ _ h=>h)
  have k0:Rd H6 H2.size 0 (EJ.enc y):=W6.all
  refine ⟨trivial,?_⟩
  refine Uf 0 [4,5,7,14,15,16,17] rfl (Ur 3 36 rfl (Us 1 rfl k0 rfl (O.call rfl rfl rfl call124 rfl (setT_spec hP (x:=y) hM (by omega)) ?_)))
  rintro _ H7 ⟨_,rfl,S',hM',hF',hS'⟩
  refine ⟨trivial,?_⟩
  refine Uf 0 [4,5,7,14,15,16,17] rfl (Ut 1 rfl (Ur 2 0 rfl (Ua 0 (((j+1:Nat):Int)) rfl (by omega) (Uf 1 [4,5,7,14,15,16,17] rfl (Uk [4,5,14,15,16] rfl (Go'.inLoop ?_))))))
  exact ih (j+1) H7 ⟨hf6.trans' hF' (fun _ _ _ h=>h) (fun b o hb hz=>hz.elim (fun hz=>by have h1:=hS b hz;omega) id),hlt,S',by
   rw [List.take_add_one,hy]
   rw [←Pl.puts_snoc,←AbT.puts_snoc] at hM'
   exact hM',fun b hb=>(hS' b hb).elim (hS b) (fun h=>by have:=hf6.size;omega)⟩ (by omega)
 ·
  obtain rfl:j=l.length:=by omega
  refine Ur 1 0 rfl (Uc 0 rfl (lssF (by omega)) (Uf 0 [4,5,14,15,16,17] rfl (Ut 1 rfl (Go'.condF rfl (Ut 2 rfl (Ur 2 0 rfl (Uf 2 [4] rfl (Go'.ret (vs:=[_]) func68 results68 ⟨rfl,trivial⟩ ?_))))))))
  rw [List.take_length] at hM
  exact ⟨I,hIo,fun b hb=>by have:=(hIw b).1 hb;omega,by rw [hIb];omega,tr,S,rfl,hM,hF,hS⟩
theorem grow_spec {B:World} {H:Mem} {d:Nat} {nl:Bool} {v u:Value} {ord:List Int} {l:List (Int×Int)} (hd:d=0∨2≤d∧d≤128) (ho:InS EN H v ord) (hol:ord.length≤4294967296) (hi:InS EJ H u l) (hll:l.length≤4294967296):
  Fn Try.prog B 68 [.agg #[v,.int .i64 (d:Int),.bool nl],u] H (fun r H'=>∃I:Inhabited Cx,(@cx I).ord=ord∧(∀b,(@cx I).own b→H.size≤b)∧H.size≤(@cx I).base∧∃tr S,r=ptr tr∧@MapM I H' tr (PD d) S (Pl.puts (@OI I) l)∧Fr nowhere H H'∧∀b,S b→H.size≤b):=
 (growT_spec hd ho hol hi hll).mono fun _ _ ⟨I,h1,h2,h3,tr,S,h4,h5,h6⟩=>⟨I,h1,h2,h3,tr,S,h4,h5.1,h6⟩
end Go.Bt.FG
namespace Go.Bt
open Go Go.Proofs Go.Proofs.Try
set_option maxRecDepth 20000
set_option maxHeartbeats 4000000
theorem st27:StT Try.prog 27 [(0,1),(1,1)] [.int .i64 0,.int .i64 0]:=⟨⟨_,underlying27,fun w=>by simp [Array.mapM_eq_mapM_toList,sizeOf3]⟩,zeroValue27⟩
theorem st68:StT Try.prog 68 [(0,2),(2,1)] [.int .i64 0,.int .i64 0,.bool false]:=⟨⟨_,underlying68,fun w=>by simp [Array.mapM_eq_mapM_toList,sizeOf4,sizeOf27]⟩,zeroValue68⟩
theorem rank_spec {B:World} {H:Mem} {v:Value} {ord:List Int} {k:Int} (ho:InS EN H v ord) (hl:ord.length<4611686018427387904):
  Fn Try.prog B 202 [v,.int .i64 k] H (fun r H'=>r=.int .i64 (rank ord k)∧H'=H):=by
 obtain ⟨a,c,rfl⟩:=ho.len
 refine fn_of func202 rfl ntmps202 ?_
 refine (show Go' _ _ _ _ 21 [(0,_),(1,_)] [.code _] _ from ?_)
 refine Ut 1 rfl (Ur 1 0 rfl (Uf 1 [0,1,4] rfl (Ut 1 rfl (Ur 3 0 rfl (Uf 3 [0,1,4,5] rfl (Ut 2 rfl ?_))))))
 by_cases h0:ord.length=0
 ·
  refine Ur 2 0 rfl (Uc 1 rfl (eqlT (by omega)) (Uf 0 [0,1,4,5,9] rfl (Go'.condT rfl (Ut 1 rfl (Ur 2 0 rfl (Uf 2 [0,1,4,5] rfl (Go'.ret (vs:=[_]) func202 results202 ⟨rfl,trivial⟩ ?_)))))))
  refine ⟨?_,rfl⟩
  unfold rank;rw [if_pos h0];rfl
 ·
  have hp:(0:Int)<ord.length:=by omega
  have b1:=Int.tmod_lt_of_pos k hp
  have b2:-(ord.length:Int)<k.tmod ord.length:=by
   have:=Int.lt_tmod_of_pos k hp
   omega
  have b3:=Int.tmod_lt_of_pos (k.tmod ord.length+ord.length) hp
  have b4:0≤(k.tmod ord.length+ord.length).tmod ord.length:=Int.tmod_nonneg _ (by omega)
  obtain ⟨j,hj⟩:=Int.eq_ofNat_of_zero_le b4
  obtain ⟨z,hz⟩:∃z,ord[j]?=some z:=⟨ord[j]'(by omega),List.getElem?_eq_getElem (by omega)⟩
  obtain ⟨b,o,c',e,hr⟩:=ho.at hz
  cases e
  refine Ur 2 0 rfl (Uc 1 rfl (eqlF (by omega)) (Uf 0 [0,1,4,5,9] rfl (Go'.condF rfl (Ut 2 rfl (Ur 11 262144 rfl (Uq 3 rfl (O.rem (k.tmod ord.length) rfl rfl rfl rfl rfl rfl (by omega) rfl (Ua 1 ((k.tmod ord.length+ord.length)) rfl (by omega) (Uq 1 rfl (O.rem ((j:Int)) rfl rfl rfl rfl rfl rfl (by omega) hj (Ux 0 j rfl (by omega) (by omega) ?_)))))))))))
  refine Ul 0 rfl (hr 0 _ rfl) (Uf 1 [4] rfl (Go'.ret (vs:=[_]) func202 results202 ⟨rfl,trivial⟩ ?_))
  refine ⟨?_,rfl⟩
  unfold rank;rw [if_neg h0,hj,Int.toNat_natCast,List.getD_eq_getElem?_getD,hz];rfl
theorem before_spec {B:World} {H:Mem} {v:Value} {ord:List Int} {x y:Int×Int} (ho:InS EN H v ord) (hl:ord.length<4611686018427387904):
  Fn Try.prog B 186 [v,.agg (EJ.enc x).toArray,.agg (EJ.enc y).toArray] H (fun r H'=>r=.bool ((OO ord).lt x y)∧Fr nowhere H H'):=by
 have hF:Fr nowhere H H:=Fr.refl _ _
 refine fn_of func186 rfl ntmps186 ?_
 refine (show Go' _ _ _ _ 16 [(0,_),(1,_),(2,_)] [.code _] _ from ?_)
 refine Ut 1 rfl (Ur 3 10 rfl (O.box rfl rfl rfl rfl ?_))
 intro H1 M1
 refine ⟨trivial,?_⟩
 replace ho:=ho.fr (M1.fr nowhere)
 replace hF:=hF.trans' (M1.fr nowhere) (fun _ _ _ h=>h) (fun _ _ _ h=>h.elim)
 have mi:Rd H1 H.size 0 (EJ.enc x):=M1.rd _ [] (by simp [Value.cells])
 refine O.box rfl rfl rfl rfl ?_
 intro H2 M2
 refine ⟨trivial,?_⟩
 replace ho:=ho.fr (M2.fr nowhere)
 replace mi:=(M2.fr nowhere).rd mi (fun _ _=>nw)
 replace hF:=hF.trans' (M2.fr nowhere) (fun _ _ _ h=>h) (fun _ _ _ h=>h.elim)
 have mj:Rd H2 H1.size 0 (EJ.enc y):=M2.rd _ [] (by simp [Value.cells])
 refine Uf 1 [0,4,5,6] rfl (Ut 1 rfl (Go'.draw (fun H'=>Rd H' H.size 0 (EJ.enc x)∧Rd H' H1.size 0 (EJ.enc y)) [(0,0),(1,0),(2,1),(4,0),(5,0),(6,0),(3,2),(7,2),(8,0),(9,0)] (by kernel_rfl) (by kernel_rfl) (⟨mi,mj⟩) (Ul 2 rfl (mi 0 _ rfl) (UL 2 rfl (fun _ h=>h.2 0 _ rfl) (O.callQ rfl rfl rfl call202 rfl (rank_spec ho hl) ⟨mi,mj⟩ (O.callQ rfl rfl rfl call202 rfl (rank_spec ho hl) ⟨mi,mj⟩ (Uc 0 rfl (show cmpOf .lss _ _=some ((OO ord).lt x y) from rfl) (Uf 1 [6] rfl (Go'.ret (vs:=[_]) func186 results186 ⟨rfl,trivial⟩ ?_)))))))))
 exact ⟨rfl,hF⟩
theorem place_spec {B:World} {H:Mem} {v u:Value} {ord:List Int} {l:List (Int×Int)} {x:Int×Int} (ho:InS EN H v ord) (hl:ord.length<4611686018427387904) (hi:InS EJ H u l) (hs:Pl.Srt (OO ord) l) (hll:l.length<4611686018427387904):
  Fn Try.prog B 143 [v,u,.agg (EJ.enc x).toArray] H (fun r H'=>r=.tuple #[.int .i64 ((Pl.pos (OO ord) x l:Nat):Int),.bool (Pl.fnd (OO ord) x l)]∧Fr nowhere H H'):=by
 have hF:Fr nowhere H H:=Fr.refl _ _
 obtain ⟨a,c,hu⟩:=hi.len
 subst hu
 refine fn_of func143 rfl ntmps143 ?_
 refine (show Go' _ _ _ _ 39 [(0,_),(1,_),(2,_)] [.code _] _ from ?_)
 refine Ut 1 rfl (Ur 3 2 rfl (O.box rfl rfl rfl rfl ?_))
 intro H1 M1
 refine ⟨trivial,?_⟩
 replace ho:=ho.fr (M1.fr nowhere)
 replace hi:=hi.fr (M1.fr nowhere)
 replace hF:=hF.trans' (M1.fr nowhere) (fun _ _ _ h=>h) (fun _ _ _ h=>h.elim)
 have mi:Rd H1 H.size 0 (EJ.enc x):=M1.rd _ [] (by simp [Value.cells])
 refine Uf 2 [0,1,5,6,7] rfl (Ut 1 rfl (Ur 1 0 rfl (Uf 1 [0,1,5,6,7,8] rfl (Ut 2 rfl (Go'.loop (Uk [0,1,5,8] rfl ?_))))))
 refine Go'.ind (σ:=Nat) (fun j=>l.length-j) (fun j H'=>Fr nowhere H1 H'∧j≤l.length∧∀i y,l[i]?=some y→i<j→(OO ord).lt y x=true)
  (fun j=>[(0,v),(1,.slice a l.length c),(5,.pointer (some ⟨H.size,0,none⟩)),(8,.int .i64 (j:Int))]) 0 ⟨Fr.refl _ _,Nat.zero_le _,fun i y _ h=>by omega⟩ rfl ?_
 rintro j H2 ⟨hF2,hjl,hlo⟩ ih
 replace ho:=ho.fr hF2
 replace hi:=hi.fr hF2
 replace mi:=hF2.rd mi (fun _ _=>nw)
 replace hF:=hF.trans hF2
 refine Ut 2 rfl ?_
 by_cases hlt:j<l.length
 ·
  obtain ⟨y,hy⟩:∃y,l[j]?=some y:=⟨l[j],List.getElem?_eq_getElem hlt⟩
  obtain ⟨b,o,c',e,hr⟩:=hi.at hy
  cases e
  refine Ud 13 9699328 (by kernel_rfl) (Uc 3 rfl (lssT (by omega)) (Ux 4 j rfl (by omega) hlt (Us 0 rfl hr rfl (Us 0 rfl mi rfl (O.call rfl rfl rfl call186 rfl (before_spec ho hl) ?_)))))
  rintro _ H3 ⟨rfl,hF3⟩
  refine ⟨trivial,?_⟩
  refine Uf 1 [0,1,5,8,21] rfl ?_
  cases hyx:(OO ord).lt y x
  ·
   refine Go'.condF rfl (Ut 2 rfl ?_)
   replace ho:=ho.fr hF3
   replace hr:=hF3.rd hr (fun _ _=>nw)
   replace mi:=hF3.rd mi (fun _ _=>nw)
   replace hF:=hF.trans hF3
   have hpos:Pl.pos (OO ord) x l=j:=by
    have e:l=l.take j++y::l.drop (j+1):=Bt.split_item hy
    have h2:=Pl.pos_eq (OO ord) (x:=x) (a:=l.take j) (b:=y::l.drop (j+1)) (fun z hz=>by
     obtain ⟨i,hi2,rfl⟩:=List.mem_iff_getElem.1 hz
     rw [List.length_take] at hi2
     exact hlo i _ (by rw [List.getElem?_eq_getElem (by omega),List.getElem_take]) (by omega)) (fun z hz=>by simp only [List.head?_cons,Option.some.injEq] at hz;subst hz;exact hyx)
    rw [←e,List.length_take] at h2
    omega
   have hfnd:Pl.fnd (OO ord) x l=!(OO ord).lt x y:=by unfold Pl.fnd;rw [hpos,hy]
   refine Ud 17 37765120 (by kernel_rfl) (Uc 4 rfl (lssT (by omega)) (Us 2 rfl mi rfl (Ux 2 j rfl (by omega) hlt (Us 0 rfl hr rfl (O.call rfl rfl rfl call186 rfl (before_spec ho hl) ?_)))))
   rintro _ H4 ⟨rfl,hF4⟩
   refine ⟨trivial,?_⟩
   refine Uf 4 [6,7] rfl (Go'.ret (vs:=[_,_]) func143 results143 ⟨rfl,rfl,trivial⟩ ?_)
   exact ⟨by rw [hpos,hfnd];rfl,hF.trans hF4⟩
  ·
   refine Go'.condT rfl (Ut 2 rfl (Ur 3 0 rfl (Ua 1 (((j+1:Nat):Int)) rfl (by omega) (Uf 1 [0,1,5,8,21] rfl (Ut 1 rfl (Uk [0,1,5,8] rfl (Go'.inLoop ?_)))))))
   exact ih (j+1) H3 ⟨hF2.trans hF3,hlt,fun i z hz hij=>by
    rcases Nat.lt_or_ge i j with h|h
    · exact hlo i z hz h
    ·
     obtain rfl:i=j:=by omega
     rw [hy] at hz;cases hz;exact hyx⟩ (by omega)
 ·
  obtain rfl:j=l.length:=by omega
  have hpos:Pl.pos (OO ord) x l=l.length:=by
   have h2:=Pl.pos_eq (OO ord) (x:=x) (a:=l) (b:=[]) (fun z hz=>by
    obtain ⟨i,hi2,rfl⟩:=List.mem_iff_getElem.1 hz
    exact hlo i _ (List.getElem?_eq_getElem hi2) hi2) (fun z hz=>by simp at hz)
   rw [List.append_nil] at h2
   exact h2
  have hfnd:Pl.fnd (OO ord) x l=false:=by unfold Pl.fnd;rw [hpos,List.getElem?_eq_none (Nat.le_refl _)]
  refine Ud 13 9699328 (by kernel_rfl) (Uc 3 rfl (lssF (by omega)) (Uq 7 rfl (Pl.pass2 rfl rfl rfl rfl trivial (Uf 1 [0,1,5,8,21] rfl (Go'.condF rfl (Ut 2 rfl (Ud 17 37765120 (by kernel_rfl) (Uc 4 rfl (lssF (by omega)) (Uq 7 rfl (Pl.pass2 rfl rfl rfl rfl trivial (Uf 4 [6,7] rfl ?_)))))))))))
  refine Go'.ret (vs:=[_,_]) func143 results143 ⟨rfl,rfl,trivial⟩ ?_
  exact ⟨by rw [hpos,hfnd];rfl,hF⟩
end Go.Bt
namespace Go.Bt
open Go Go.Proofs Go.Proofs.Try
set_option maxRecDepth 20000
set_option maxHeartbeats 4000000
theorem put_specA {B:World} {H:Mem} {v u:Value} {ord:List Int} {l:List (Int×Int)} {x:Int×Int} (ho:InS EN H v ord) (hl:ord.length<4611686018427387904) (hi:InS EJ H u l) (hs:Pl.Srt (OO ord) l) (hll:l.length≤4294967296):
  Fn Try.prog B 90 [v,u,.agg (EJ.enc x).toArray] H (fun r H'=>∃sv,r=.tuple #[sv,FV (Pl.got (OO ord) x l)]∧Acc EJ (fun b=>H.size≤b) H' sv (Pl.put (OO ord) x l)∧Fr nowhere H H'):=by
 have hF:Fr nowhere H H:=Fr.refl _ _
 have hple:=Pl.pos_le (OO ord) x l
 have hi0:=hi
 refine fn_of func90 rfl ntmps90 ?_
 refine (show Go' _ _ _ _ 45 [(0,_),(1,_),(2,_)] [.code _] _ from ?_)
 refine Ut 1 rfl (Ur 3 34 rfl (O.box rfl rfl rfl rfl ?_))
 intro H1 M1
 refine ⟨trivial,?_⟩
 have hs1:=M1.size
 replace ho:=ho.fr (M1.fr nowhere)
 replace hi:=hi.fr (M1.fr nowhere)
 replace hF:=hF.trans' (M1.fr nowhere) (fun _ _ _ h=>h) (fun _ _ _ h=>h.elim)
 have mi:Rd H1 H.size 0 (EJ.enc x):=M1.rd _ [] (by simp [Value.cells])
 refine Uq 1 rfl (O.alloc rfl rfl rfl zeroValue68 ?_)
 intro H2 M2
 refine ⟨trivial,?_⟩
 have hs2:=M2.size
 replace ho:=ho.fr (M2.fr nowhere)
 replace hi:=hi.fr (M2.fr nowhere)
 replace mi:=(M2.fr nowhere).rd mi (fun _ _=>nw)
 replace hF:=hF.trans' (M2.fr nowhere) (fun _ _ _ h=>h) (fun _ _ _ h=>h.elim)
 have m7:Wr H2 H1.size 0 3:=M2.wr 3 (by decide)
 refine Uf 0 [0,1,5,6,7] rfl (Ut 1 rfl (Ur 9 144 rfl (Us 2 rfl mi rfl (O.call rfl rfl rfl call143 rfl (place_spec ho hl hi hs (by omega)) ?_))))
 rintro _ H3 ⟨rfl,hF3⟩
 have hs3:=hF3.size
 replace ho:=ho.fr hF3
 replace hi:=hi.fr hF3
 replace mi:=hF3.rd mi (fun _ _=>nw)
 replace m7:=hF3.wr m7
 replace hF:=hF.trans' hF3 (fun _ _ _ h=>h) (fun _ _ _ h=>h.elim)
 refine ⟨trivial,?_⟩
 refine Uf 5 [1,5,6,7,8,9] rfl (Ut 1 rfl ?_)
 generalize hpi:Pl.pos (OO ord) x l=i at*
 refine Ur 6 514 rfl (O.bsl (cs:=[]) rfl rfl rfl ⟨underlying25,sizeOf27,zeroValue27,⟨_,typeInfo27,rfl⟩,rfl,by decide,by decide⟩ rfl (by decide) (by kernel_rfl) ?_)
 intro H4 M4
 have hs4:=M4.size
 replace ho:=ho.fr (M4.fr nowhere)
 replace hi:=hi.fr (M4.fr nowhere)
 replace mi:=(M4.fr nowhere).rd mi (fun _ _=>nw)
 replace m7:=(M4.fr nowhere).wr m7
 replace hF:=hF.trans' (M4.fr nowhere) (fun _ _ _ h=>h) (fun _ _ _ h=>h.elim)
 refine ⟨trivial,?_⟩
 refine Uq 2 rfl (O.slcIn (E:=EJ) (jl:=0) (jh:=i) rfl rfl rfl rfl underlying25 sizeOf27 rfl hi ⟨_,by rfl⟩ rfl (by omega) (by omega) ?_)
 intro v1 hv1
 rw [List.drop_zero,Nat.sub_zero] at hv1
 have hl1:(l.take i).length=i:=by rw [List.length_take];omega
 refine O.app (m:=(l.take i).length) (news:=(row EJ (l.take i))) rfl rfl rfl ⟨underlying25,sizeOf27,zeroValue27,⟨_,typeInfo27,rfl⟩,rfl,by decide,by decide⟩ rfl (Sl.none _ _ _ _) rfl hv1.src (row_len EJ _) (row_ones EJ _) (Nat.le_trans (Nat.mul_le_mul_left _ (Nat.le_of_ble_eq_true (n:=_) (m:=4096) rfl)) (by omega)) (by omega) ?_
 intro b1 o1 c1 H5 ha
 have hsz5:=ha.fr.size
 have hsl1:SlE EJ H5 b1 o1 c1 (l.take i):=SlE.of ha.sl (by rw [List.nil_append]) (Nat.zero_add _)
 have hb1:H.size+2≤b1:=by rcases ha.place with ⟨r,_⟩|⟨r,_⟩<;>omega
 replace ho:=ho.fr ha.quiet
 replace hi:=hi.fr ha.quiet
 replace mi:=ha.quiet.rd mi (fun _ _=>nw)
 replace m7:=ha.quiet.wr m7
 replace hF:=hF.trans' ha.quiet (fun _ _ _ h=>h) (fun _ _ _ h=>h.elim)
 refine ⟨trivial,?_⟩
 refine Uf 1 [1,5,6,7,8,9,10] rfl (Ut 1 rfl ?_)
 rw [Nat.zero_add]
 refine Ur 5 164 rfl (Us 1 rfl mi rfl (O.bsl (cs:=(EJ.enc x)) rfl rfl rfl ⟨underlying25,sizeOf27,zeroValue27,⟨_,typeInfo27,rfl⟩,rfl,by decide,by decide⟩ rfl (by decide) (by kernel_rfl) ?_))
 intro H6 M6
 have hs6:=M6.size
 replace ho:=ho.fr (M6.fr nowhere)
 replace hi:=hi.fr (M6.fr nowhere)
 replace mi:=(M6.fr nowhere).rd mi (fun _ _=>nw)
 replace m7:=(M6.fr nowhere).wr m7
 replace hF:=hF.trans' (M6.fr nowhere) (fun _ _ _ h=>h) (fun _ _ _ h=>h.elim)
 replace hsl1:=hsl1.fr (M6.fr nowhere) (fun _ _ _=>nw)
 have m6:Rd H6 H5.size 0 (EJ.enc x):=M6.rd _ [] (by simp)
 refine ⟨trivial,?_⟩
 refine O.app (m:=1) (news:=(EJ.enc x)) rfl rfl rfl ⟨underlying25,sizeOf27,zeroValue27,⟨_,typeInfo27,rfl⟩,rfl,by decide,by decide⟩ rfl hsl1 rfl (.inl ⟨_,_,_,rfl,m6⟩) rfl rfl (Nat.le_trans (Nat.mul_le_mul_left _ (Nat.le_of_ble_eq_true (n:=_) (m:=4096) rfl)) (by omega)) (by omega) ?_
 intro b2 o2 c2 H7 ha2
 have hsz7:=ha2.fr.size
 have hsl2:Sl H7 b2 o2 ((l.take i).length+1) c2 2 (row EJ (l.take i++[x])):=by rw [row_append,row_one];exact ha2.sl
 have hb2:H.size+2≤b2:=by rcases ha2.place with ⟨r,_⟩|⟨r,_⟩<;>omega
 replace m7:=ha2.fr.wr m7
 replace hF:=hF.trans' ha2.fr (fun _ _ _ h=>h) (fun b o hb hz=>by have h1:=hz.1;omega)
 replace hi:=hi0.fr hF
 refine ⟨trivial,?_⟩
 refine Uf 1 [1,6,7,8,9,10] rfl (Ut 2 rfl (Ur 1 0 rfl (Uf 1 [1,6,7,8,10,27] rfl ?_)))
 cases hfd:Pl.fnd (OO ord) x l
 ·
  refine Go'.condF rfl (Ut 2 rfl (Ur 8 33280 rfl (Uq 3 rfl (O.slcIn (E:=EJ) (jl:=i) (jh:=l.length) rfl rfl rfl rfl underlying25 sizeOf27 rfl hi rfl ⟨_,by rfl⟩ (by omega) (by omega) ?_))))
  intro v2 hv2
  rw [List.take_of_length_le (by rw [List.length_drop];omega)] at hv2
  refine O.app (m:=(l.drop i).length) (news:=(row EJ (l.drop i))) rfl rfl rfl ⟨underlying25,sizeOf27,zeroValue27,⟨_,typeInfo27,rfl⟩,rfl,by decide,by decide⟩ rfl hsl2 rfl hv2.src (row_len EJ _) (row_ones EJ _) (Nat.le_trans (Nat.mul_le_mul_left _ (Nat.le_of_ble_eq_true (n:=_) (m:=4096) rfl)) (by rw [List.length_drop];omega)) (by rw [List.length_drop];omega) ?_
  intro b3 o3 c3 H8 ha3
  have hsz8:=ha3.fr.size
  have hsl3:SlE EJ H8 b3 o3 c3 (l.take i++[x]++l.drop i):=SlE.of ha3.sl (by rw [←row_append]) (by rw [List.length_append,List.length_append];rfl)
  have hb3:H.size+2≤b3:=by rcases ha3.place with ⟨r,_⟩|⟨r,_⟩<;>omega
  replace m7:=ha3.fr.wr m7
  replace hF:=hF.trans' ha3.fr (fun _ _ _ h=>h) (fun b o hb hz=>by have h1:=hz.1;omega)
  refine ⟨trivial,?_⟩
  refine O.bld (cs:=(fvs none)) rfl rfl rfl rfl (st68) rfl (by kernel_rfl) (Uq 1 rfl (O.st rfl rfl sizeOf68 rfl rfl rfl rfl rfl m7 ?_))
  intro H9 W9
  replace hsl3:=hsl3.fr W9.fr (fun _ _ _=>nr (.inl (by omega)))
  replace hF:=hF.trans' W9.fr (fun _ _ _ h=>h) (fun b o hb hz=>by have h1:=hz.1;omega)
  have hfin:Pl.put (OO ord) x l=l.take i++[x]++l.drop (i+(Pl.fnd (OO ord) x l).toNat):=by unfold Pl.put;rw [hpi];simp
  refine ⟨trivial,?_⟩
  refine Uf 0 [6,7] rfl (Go'.ret (vs:=[_,_]) func90 results90 ⟨rfl,⟨_,_,rfl,fun _ _=>run_loadVar_agg (fun w=>⟨isAgg68 w,sizeOf68 w⟩) rfl W9.all⟩,trivial⟩ ?_)
  refine ⟨_,by rw [Pl.got_none _ hfd];rfl,.inr ⟨b3,o3,c3,?_,by omega,hsl3.lt (by have h1:=hsl3.hle;simp only [List.length_append,List.length_cons,List.length_nil] at h1;show 0<c3*2;omega),?_⟩,hF⟩
  · rw [hfin,hfd];simp only [Bool.toNat_false,Nat.add_zero,List.length_append];rfl
  · rw [hfin,hfd];exact hsl3
 ·
  refine Go'.condT rfl (Ut 1 rfl ?_)
  obtain ⟨y,hy,_,_⟩:=Pl.fnd_at (OO ord) hs hfd
  rw [hpi] at hy
  have hil:i<l.length:=(List.getElem?_eq_some_iff.1 hy).1
  obtain ⟨bl,ol,cl',hue,hir⟩:=hi.at hy
  have hbl:bl<H.size:=by
   obtain ⟨b0,o0,c0,hue0,hir0⟩:=hi0.at hy
   rw [hue] at hue0
   cases hue0
   exact cl_lt (hir0 0 _ rfl)
  subst hue
  refine Go'.draw (fun H'=>Rd H' bl (ol+i*2) (EJ.enc y)) [(0,0),(1,0),(2,0),(3,0),(4,0),(6,0),(7,0),(8,0),(9,0),(10,0),(5,2),(11,0),(12,3)] (by kernel_rfl) (by kernel_rfl) (hir) (Ua 3 (((i+1:Nat):Int)) rfl (by omega) (O.slcIn (E:=EJ) (jl:=i+1) (jh:=l.length) rfl rfl rfl rfl underlying25 sizeOf27 rfl hi rfl ⟨_,by rfl⟩ (by omega) (by omega) ?_))
  intro v2 hv2
  rw [List.take_of_length_le (by rw [List.length_drop];omega)] at hv2
  refine Ux 2 i rfl (by omega) (by omega) (US 0 rfl (fun _ h=>h) rfl (O.bld (cs:=(fvs (some y))) rfl rfl rfl rfl (st68) rfl (by kernel_rfl) (O.app (m:=(l.drop (i+1)).length) (news:=(row EJ (l.drop (i+1)))) rfl rfl rfl ⟨underlying25,sizeOf27,zeroValue27,⟨_,typeInfo27,rfl⟩,rfl,by decide,by decide⟩ rfl hsl2 rfl hv2.src (row_len EJ _) (row_ones EJ _) (Nat.le_trans (Nat.mul_le_mul_left _ (Nat.le_of_ble_eq_true (n:=_) (m:=4096) rfl)) (by rw [List.length_drop];omega)) (by rw [List.length_drop];omega) ?_)))
  intro b3 o3 c3 H8 ha3
  have hsz8:=ha3.fr.size
  have hsl3:SlE EJ H8 b3 o3 c3 (l.take i++[x]++l.drop (i+1)):=SlE.of ha3.sl (by rw [←row_append]) (by rw [List.length_append,List.length_append];rfl)
  have hb3:H.size+2≤b3:=by rcases ha3.place with ⟨r,_⟩|⟨r,_⟩<;>omega
  replace m7:=ha3.fr.wr m7
  replace hF:=hF.trans' ha3.fr (fun _ _ _ h=>h) (fun b o hb hz=>by have h1:=hz.1;omega)
  replace hir:=ha3.fr.rd hir (fun _ _=>nr (.inl (by omega)))
  refine ⟨hir,?_⟩
  refine Uq 1 rfl (O.st3 rfl rfl sizeOf68 rfl rfl rfl rfl rfl m7 ?_)
  intro H9 W9
  replace hsl3:=hsl3.fr W9.fr (fun _ _ _=>nr (.inl (by omega)))
  replace hF:=hF.trans' W9.fr (fun _ _ _ h=>h) (fun b o hb hz=>by have h1:=hz.1;omega)
  have hfin:Pl.put (OO ord) x l=l.take i++[x]++l.drop (i+(Pl.fnd (OO ord) x l).toNat):=by unfold Pl.put;rw [hpi];simp
  refine Uf 0 [1,6,7,8,10] rfl (Go'.ret (vs:=[_,_]) func90 results90 ⟨rfl,⟨_,_,rfl,fun _ _=>run_loadVar_agg (fun w=>⟨isAgg68 w,sizeOf68 w⟩) rfl W9.all⟩,trivial⟩ ?_)
  refine ⟨_,by rw [Pl.got_some _ hfd,hpi,hy];rfl,.inr ⟨b3,o3,c3,?_,by omega,hsl3.lt (by have h1:=hsl3.hle;simp only [List.length_append,List.length_cons,List.length_nil] at h1;show 0<c3*2;omega),?_⟩,hF⟩
  · rw [hfin,hfd];simp only [Bool.toNat_true,List.length_append];rfl
  · rw [hfin,hfd];exact hsl3
theorem put_spec {B:World} {H:Mem} {v u:Value} {ord:List Int} {l:List (Int×Int)} {x:Int×Int} (ho:InS EN H v ord) (hl:ord.length<4611686018427387904) (hi:InS EJ H u l) (hs:Pl.Srt (OO ord) l) (hll:l.length≤4294967296):
  Fn Try.prog B 90 [v,u,.agg (EJ.enc x).toArray] H (fun r H'=>∃sv,r=.tuple #[sv,FV (Pl.got (OO ord) x l)]∧OutS EJ H' sv (Pl.put (OO ord) x l)∧Fr nowhere H H'):=
 (put_specA ho hl hi hs hll).mono fun _ _ ⟨sv,e,h,k⟩=>⟨sv,e,h.out,k⟩
end Go.Bt
namespace Go.Bt
open Go Go.Proofs Go.Proofs.Try
set_option maxRecDepth 20000
set_option maxHeartbeats 4000000
def ath (l:List (Int×Int)) (z:Int):Option (Int×Int):=if z<0 then none else l[z.toNat]?
theorem ath_nat (l:List (Int×Int)) (i:Nat):ath l (i:Int)=l[i]?:=by unfold ath;rw [if_neg (by omega)];rfl
def cutl (l:List (Int×Int)) (z:Int):List (Int×Int):=if z<0 then l else l.take z.toNat++l.drop (z.toNat+1)
theorem cut_spec {B:World} {H:Mem} {u:Value} {l:List (Int×Int)} (z:Int) (hi:InS EJ H u l) (hll:l.length≤4294967296):
  Fn Try.prog B 183 [u,.int .i64 z] H (fun r H'=>∃sv,r=.tuple #[sv,FV (ath l z)]∧((ath l z=none∧sv=u)∨OutS EJ H' sv (cutl l z))∧Fr nowhere H H'):=by
 have hF:Fr nowhere H H:=Fr.refl _ _
 obtain ⟨a,c,hu⟩:=hi.len
 subst hu
 have hi0:=hi
 refine fn_of func183 rfl ntmps183 ?_
 refine (show Go' _ _ _ _ 31 [(0,_),(1,_)] [.code _] _ from ?_)
 refine Ut 1 rfl (Ur 2 8 rfl (Uq 1 rfl (O.alloc rfl rfl rfl zeroValue68 ?_)))
 intro H1 M1
 refine ⟨trivial,?_⟩
 have hs1:=M1.size
 replace hi:=hi.fr (M1.fr nowhere)
 replace hF:=hF.trans' (M1.fr nowhere) (fun _ _ _ h=>h) (fun _ _ _ h=>h.elim)
 have m5:Wr H1 H.size 0 3:=M1.wr 3 (by decide)
 refine Uf 0 [0,1,4,5] rfl (Ut 2 rfl ?_)
 by_cases hz:z<0
 ·
  have ha0:ath l z=none:=by unfold ath;rw [if_pos hz]
  refine Ur 8 0 rfl (Uc 1 rfl (lssT (by omega)) (Uf 6 [0,1,4,5,13] rfl (Go'.condT rfl (Ut 1 rfl (Ur 4 128 rfl (Uq 1 rfl (O.bld (cs:=(fvs none)) rfl rfl rfl rfl (st68) rfl (by kernel_rfl) (Uq 1 rfl (O.st rfl rfl sizeOf68 rfl rfl rfl rfl rfl m5 ?_)))))))))
  intro H2 W2
  replace hF:=hF.trans' W2.fr (fun _ _ _ h=>h) (fun b o hb hz=>by have h1:=hz.1;omega)
  refine ⟨trivial,?_⟩
  refine Uf 0 [0,1,4,5] rfl (Go'.ret (vs:=[_,_]) func183 results183 ⟨rfl,⟨_,_,rfl,fun _ _=>run_loadVar_agg (fun w=>⟨isAgg68 w,sizeOf68 w⟩) rfl W2.all⟩,trivial⟩ ?_)
  exact ⟨_,by rw [ha0];rfl,.inl ⟨ha0,rfl⟩,hF⟩
 obtain ⟨i,rfl⟩:=Int.eq_ofNat_of_zero_le (by omega:0≤z)
 by_cases hil:l.length≤i
 ·
  have ha0:ath l (i:Int)=none:=by rw [ath_nat,List.getElem?_eq_none hil]
  refine Ur 8 0 rfl (Uc 1 rfl (lssF (by omega)) (Uc 4 rfl (geqT (by omega)) (Uf 1 [0,1,4,5,13] rfl (Go'.condT rfl (Ut 1 rfl (Ur 4 128 rfl (Uq 1 rfl (O.bld (cs:=(fvs none)) rfl rfl rfl rfl (st68) rfl (by kernel_rfl) (Uq 1 rfl (O.st rfl rfl sizeOf68 rfl rfl rfl rfl rfl m5 ?_))))))))))
  intro H2 W2
  replace hF:=hF.trans' W2.fr (fun _ _ _ h=>h) (fun b o hb hz=>by have h1:=hz.1;omega)
  refine ⟨trivial,?_⟩
  refine Uf 0 [0,1,4,5] rfl (Go'.ret (vs:=[_,_]) func183 results183 ⟨rfl,⟨_,_,rfl,fun _ _=>run_loadVar_agg (fun w=>⟨isAgg68 w,sizeOf68 w⟩) rfl W2.all⟩,trivial⟩ ?_)
  exact ⟨_,by rw [ha0];rfl,.inl ⟨ha0,rfl⟩,hF⟩
 replace hil:i<l.length:=by omega
 obtain ⟨y,hy⟩:∃y,l[i]?=some y:=⟨l[i],List.getElem?_eq_getElem hil⟩
 obtain ⟨bl,ol,cc,hue,hir⟩:=hi.at hy
 have hbl:bl<H.size:=by
  obtain ⟨b0,o0,c0,hue0,hir0⟩:=hi0.at hy
  rw [hue] at hue0
  cases hue0
  exact cl_lt (hir0 0 _ rfl)
 cases hue
 have hl1:(l.take i).length=i:=by rw [List.length_take];omega
 refine Ur 8 0 rfl (Uc 1 rfl (lssF (by omega)) (Uc 4 rfl (geqF (by omega)) (Uf 1 [0,1,4,5,13] rfl (Go'.condF rfl (Ut 2 rfl (Go'.draw (fun H'=>Rd H' bl (ol+i*2) (EJ.enc y)) [(1,0),(2,0),(3,0),(5,0),(6,0),(7,0),(8,0),(10,0),(11,0),(12,0),(13,0),(14,0),(0,2),(4,2),(9,2),(15,0),(16,3)] (by kernel_rfl) (by kernel_rfl) (hir) (Uq 2 rfl (O.slcIn (E:=EJ) (jl:=0) (jh:=i) rfl rfl rfl rfl underlying25 sizeOf27 rfl hi ⟨_,by rfl⟩ rfl (by omega) (by omega) ?_))))))))
 intro v1 hv1
 rw [List.drop_zero,Nat.sub_zero] at hv1
 refine Ua 2 (((i+1:Nat):Int)) rfl (by omega) (O.slcIn (E:=EJ) (jl:=i+1) (jh:=l.length) rfl rfl rfl rfl underlying25 sizeOf27 rfl hi rfl ⟨_,by rfl⟩ (by omega) (by omega) ?_)
 intro v2 hv2
 rw [List.take_of_length_le (by rw [List.length_drop];omega)] at hv2
 refine Ux 2 i rfl (by omega) hil (US 0 rfl (fun _ h=>h) rfl (O.bld (cs:=(fvs (some y))) rfl rfl rfl rfl (st68) rfl (by kernel_rfl) (O.bsl (cs:=[]) rfl rfl rfl ⟨underlying25,sizeOf27,zeroValue27,⟨_,typeInfo27,rfl⟩,rfl,by decide,by decide⟩ rfl (by decide) (by kernel_rfl) ?_)))
 intro H4 M4
 have hs4:=M4.size
 replace hi:=hi.fr (M4.fr nowhere)
 replace m5:=(M4.fr nowhere).wr m5
 replace hir:=(M4.fr nowhere).rd hir (fun _ _=>nw)
 replace hv1:=hv1.fr (M4.fr nowhere)
 replace hv2:=hv2.fr (M4.fr nowhere)
 replace hF:=hF.trans' (M4.fr nowhere) (fun _ _ _ h=>h) (fun _ _ _ h=>h.elim)
 refine ⟨hir,?_⟩
 refine O.app (m:=(l.take i).length) (news:=(row EJ (l.take i))) rfl rfl rfl ⟨underlying25,sizeOf27,zeroValue27,⟨_,typeInfo27,rfl⟩,rfl,by decide,by decide⟩ rfl (Sl.none _ _ _ _) rfl hv1.src (row_len EJ _) (row_ones EJ _) (Nat.le_trans (Nat.mul_le_mul_left _ (Nat.le_of_ble_eq_true (n:=_) (m:=4096) rfl)) (by omega)) (by omega) ?_
 intro b1 o1 c1 H5 ha
 have hsz5:=ha.fr.size
 have hsl1:Sl H5 b1 o1 (0+(l.take i).length) c1 2 (row EJ (l.take i)):=ha.sl
 have hb1:H.size+1≤b1:=by rcases ha.place with ⟨r,_⟩|⟨r,_⟩<;>omega
 replace hi:=hi.fr ha.quiet
 replace m5:=ha.quiet.wr m5
 replace hir:=ha.quiet.rd hir (fun _ _=>nw)
 replace hv2:=hv2.fr ha.quiet
 replace hF:=hF.trans' ha.quiet (fun _ _ _ h=>h) (fun _ _ _ h=>h.elim)
 refine ⟨hir,?_⟩
 refine O.app (m:=(l.drop (i+1)).length) (news:=(row EJ (l.drop (i+1)))) rfl rfl rfl ⟨underlying25,sizeOf27,zeroValue27,⟨_,typeInfo27,rfl⟩,rfl,by decide,by decide⟩ rfl hsl1 rfl hv2.src (row_len EJ _) (row_ones EJ _) (Nat.le_trans (Nat.mul_le_mul_left _ (Nat.le_of_ble_eq_true (n:=_) (m:=4096) rfl)) (by rw [List.length_drop];omega)) (by rw [List.length_drop];omega) ?_
 intro b3 o3 c3 H8 ha3
 have hsz8:=ha3.fr.size
 have hsl3:SlE EJ H8 b3 o3 c3 (l.take i++l.drop (i+1)):=SlE.of ha3.sl (by rw [←row_append]) (by rw [List.length_append,Nat.zero_add])
 have hb3:H.size+1≤b3:=by rcases ha3.place with ⟨r,_⟩|⟨r,_⟩<;>omega
 replace m5:=ha3.fr.wr m5
 replace hir:=ha3.fr.rd hir (fun _ _=>nr (.inl (by omega)))
 replace hF:=hF.trans' ha3.fr (fun _ _ _ h=>h) (fun b o hb hz=>by have h1:=hz.1;omega)
 refine ⟨hir,?_⟩
 refine Uq 1 rfl (O.st3 rfl rfl sizeOf68 rfl rfl rfl rfl rfl m5 ?_)
 intro H9 W9
 replace hsl3:=hsl3.fr W9.fr (fun _ _ _=>nr (.inl (by omega)))
 replace hF:=hF.trans' W9.fr (fun _ _ _ h=>h) (fun b o hb hz=>by have h1:=hz.1;omega)
 refine Uf 0 [4,5] rfl (Go'.ret (vs:=[_,_]) func183 results183 ⟨rfl,⟨_,_,rfl,fun _ _=>run_loadVar_agg (fun w=>⟨isAgg68 w,sizeOf68 w⟩) rfl W9.all⟩,trivial⟩ ?_)
 have hc:cutl l (i:Int)=l.take i++l.drop (i+1):=by unfold cutl;rw [if_neg (by omega)];rfl
 refine ⟨_,by rw [ath_nat,hy];rfl,.inr ?_,hF⟩
 rw [hc]
 exact .inr ⟨b3,o3,c3,by rw [List.length_append,Nat.zero_add],hsl3⟩
theorem at_spec {B:World} {H:Mem} {u:Value} {l:List (Int×Int)} (z:Int) (hi:InS EJ H u l) (hll:l.length≤4294967296):
  Fn Try.prog B 136 [u,.int .i64 z] H (fun r H'=>r=FV (ath l z)∧Fr nowhere H H'):=by
 have hF:Fr nowhere H H:=Fr.refl _ _
 refine fn_of func136 rfl ntmps136 ?_
 refine (show Go' _ _ _ _ 14 [(0,_),(1,_)] [.code _] _ from ?_)
 refine Ut 1 rfl (Ur 1 2 rfl (O.alloc rfl rfl rfl zeroValue68 ?_))
 intro H1 M1
 refine ⟨trivial,?_⟩
 have hs1:=M1.size
 replace hi:=hi.fr (M1.fr nowhere)
 replace hF:=hF.trans' (M1.fr nowhere) (fun _ _ _ h=>h) (fun _ _ _ h=>h.elim)
 have m4:Wr H1 H.size 0 3:=M1.wr 3 (by decide)
 refine Uf 0 [0,1,4] rfl (Ut 1 rfl (Ur 9 139296 rfl (Uq 2 rfl (O.call rfl rfl rfl call183 rfl (cut_spec z hi hll) ?_))))
 rintro _ H2 ⟨sv,rfl,_,hF2⟩
 have hs2:=hF2.size
 replace m4:=hF2.wr m4
 replace hF:=hF.trans' hF2 (fun _ _ _ h=>h) (fun _ _ _ h=>h.elim)
 refine ⟨trivial,?_⟩
 refine Uq 3 rfl (O.alloc rfl rfl rfl zeroValue68 ?_)
 intro H3 M3
 refine ⟨trivial,?_⟩
 have hs3:=M3.size
 replace m4:=(M3.fr nowhere).wr m4
 replace hF:=hF.trans' (M3.fr nowhere) (fun _ _ _ h=>h) (fun _ _ _ h=>h.elim)
 have m6:Wr H3 H2.size 0 3:=M3.wr 3 (by decide)
 rw [FV_eq (ath l z)]
 refine Uq 1 rfl (O.st (vs:=(fvs (ath l z))) rfl rfl sizeOf68 rfl rfl rfl (by cases ath l z<;>rfl) (by cases ath l z<;>rfl) m6 ?_)
 intro H4 W4
 have hs4:=W4.size
 replace m4:=W4.fr.wr m4
 replace hF:=hF.trans' W4.fr (fun _ _ _ h=>h) (fun b o hb hz=>by have h1:=hz.1;omega)
 refine ⟨trivial,?_⟩
 refine Uf 0 [4,6] rfl (Ut 1 rfl (Ur 2 9 rfl (O.lds rfl rfl rfl (fun w=>⟨isAgg68 w,sizeOf68 w⟩) rfl (by cases ath l z<;>rfl) W4.all (O.st (vs:=(fvs (ath l z))) rfl rfl sizeOf68 rfl rfl rfl (by cases ath l z<;>rfl) (by cases ath l z<;>rfl) m4 ?_))))
 intro H5 W5
 replace hF:=hF.trans' W5.fr (fun _ _ _ h=>h) (fun b o hb hz=>by have h1:=hz.1;omega)
 refine ⟨trivial,?_⟩
 refine Uf 0 [4] rfl (Go'.ret (vs:=[_]) func136 results136 ⟨⟨_,_,rfl,fun _ _=>run_loadVar_agg (fun w=>⟨isAgg68 w,sizeOf68 w⟩) (by cases ath l z<;>rfl) W5.all⟩,trivial⟩ ?_)
 exact ⟨rfl,hF⟩
theorem tree_spec {B:World} {H:Mem} {v u:Value} {ord:List Int} {l:List (Int×Int)} (ho:InS EN H v ord) (hl:ord.length<4611686018427387904) (hi:InS EJ H u l) (hll:l.length≤4294967296):
  Fn Try.prog B 42 [v,u] H (fun r H'=>OutS EJ H' r (Pl.puts (OO ord) l)∧Fr nowhere H H'):=by
 obtain ⟨a,c,hu⟩:=hi.len
 subst hu
 refine fn_of func42 rfl ntmps42 ?_
 refine (show Go' _ _ _ _ 23 [(0,_),(1,_)] [.code _] _ from ?_)
 refine Ut 1 rfl (Ur 1 0 rfl (Uf 1 [0,1,4] rfl (Ut 1 rfl (Ur 1 0 rfl (Uf 1 [0,1,4,5] rfl (Ut 2 rfl (Ur 3 0 rfl (Uf 3 [0,4,5,8,9,10] rfl (Ut 1 rfl (Go'.loop (Uk [0,5,8,9,10] rfl ?_)))))))))))
 refine Go'.ind (σ:=Nat×Value) (fun s=>l.length-s.1) (fun s H'=>Fr nowhere H H'∧s.1≤l.length∧OutS EJ H' s.2 (Pl.puts (OO ord) (l.take s.1)))
  (fun s=>[(0,v),(5,s.2),(8,.slice a l.length c),(9,.int .i64 (l.length:Int)),(10,.int .i64 (s.1:Int))]) (0,.slice none 0 0) ⟨Fr.refl _ _,Nat.zero_le _,.inl ⟨rfl,rfl⟩⟩ rfl ?_
 rintro ⟨j,sv⟩ H2 ⟨hF,hjl,hsv⟩ ih
 simp only at hjl hsv
 have ho2:=ho.fr hF
 have hi2:=hi.fr hF
 refine Ut 1 rfl ?_
 by_cases hlt:j<l.length
 ·
  obtain ⟨y,hy⟩:∃y,l[j]?=some y:=⟨l[j],List.getElem?_eq_getElem hlt⟩
  obtain ⟨b,o,c',e,hr⟩:=hi2.at hy
  cases e
  have hpl:=Pl.puts_length (OO ord) (l.take j)
  rw [List.length_take] at hpl
  refine Ur 1 0 rfl (Uc 0 rfl (lssT (by omega)) (Uf 0 [0,5,8,9,10,11] rfl (Ut 1 rfl (Go'.condT rfl (Ut 4 rfl (Ur 4 164 rfl (Ux 0 j rfl (by omega) hlt (Us 0 rfl hr rfl (O.alloc rfl rfl rfl zeroValue27 ?_)))))))))
  intro H3 M3
  refine ⟨trivial,?_⟩
  have hs3:=M3.size
  replace ho2:=ho2.fr (M3.fr nowhere)
  have m7:Wr H3 H2.size 0 2:=M3.wr 2 (by decide)
  refine O.st rfl rfl sizeOf27 rfl rfl rfl rfl rfl m7 ?_
  intro H4 W4
  have hs4:=W4.size
  have hf4:Fr nowhere H2 H4:=(M3.fr nowhere).trans' W4.fr (fun _ _ _ h=>h) (fun b o hb hz=>by have h1:=hz.1;omega)
  have ho4:=(ho.fr hF).fr hf4
  have hsv4:=hsv.inS.fr hf4
  refine ⟨trivial,?_⟩
  refine Uf 0 [0,5,7,8,9,10,11] rfl (Ur 8 144 rfl (Us 2 rfl W4.all rfl (O.call rfl rfl rfl call90 rfl (put_spec ho4 hl hsv4 (Pl.puts_srt _ _) (by omega)) ?_)))
  rintro _ H5 ⟨sv2,rfl,hsv2,hF5⟩
  refine ⟨trivial,?_⟩
  refine Uf 4 [0,5,7,8,9,10,11] rfl (Ut 1 rfl (Ur 2 0 rfl (Ua 0 (((j+1:Nat):Int)) rfl (by omega) (Uf 1 [0,5,7,8,9,10,11] rfl (Uk [0,5,8,9,10] rfl (Go'.inLoop ?_))))))
  exact ih (j+1,sv2) H5 ⟨(hF.trans hf4).trans hF5,hlt,by
   rw [List.take_add_one,hy]
   rw [←Pl.puts_snoc] at hsv2
   exact hsv2⟩ (by simp only;omega)
 ·
  obtain rfl:j=l.length:=by omega
  refine Ur 1 0 rfl (Uc 0 rfl (lssF (by omega)) (Uf 0 [0,5,8,9,10,11] rfl (Ut 1 rfl (Go'.condF rfl (Ut 2 rfl (Ur 2 0 rfl (Uf 2 [4] rfl (Go'.ret (vs:=[_]) func42 results42 ⟨rfl,trivial⟩ ?_))))))))
  rw [List.take_length] at hsv
  exact ⟨hsv,hF⟩
end Go.Bt
namespace Go.Bt.FG
open Go Go.Proofs Go.Proofs.Try
set_option maxRecDepth 20000
set_option maxHeartbeats 4000000
set_option linter.unusedSectionVars false
@[reducible] def nilCx:Inhabited Cx:=⟨⟨[],0,.bool false,0,fun _=>False⟩⟩
def exl:List (Int×Int):=[(5,1),(3,2),(9,3),(3,4),(1,5),(7,6),(8,7)]
theorem exItems_spec {B:World} {H:Mem}:Fn Try.prog B 32 [] H (fun r H'=>InS EJ H' r exl∧Fr nowhere H H'):=by
 refine fn_of func32 rfl ntmps32 ?_
 refine (show Go' _ _ _ _ 9 [] [.code _] _ from ?_)
 refine Ut 1 rfl (Ur 1 0 rfl (Uf 1 [0] rfl (Ut 1 rfl (Ur 9 32768 rfl (O.bld (cs:=[.int .i64 5,.int .i64 1]) rfl rfl rfl rfl (st27) rfl (by kernel_rfl) (O.bld (cs:=[.int .i64 3,.int .i64 2]) rfl rfl rfl rfl (st27) rfl (by kernel_rfl) (O.bld (cs:=[.int .i64 9,.int .i64 3]) rfl rfl rfl rfl (st27) rfl (by kernel_rfl) (O.bld (cs:=[.int .i64 3,.int .i64 4]) rfl rfl rfl rfl (st27) rfl (by kernel_rfl) (O.bld (cs:=[.int .i64 1,.int .i64 5]) rfl rfl rfl rfl (st27) rfl (by kernel_rfl) (O.bld (cs:=[.int .i64 7,.int .i64 6]) rfl rfl rfl rfl (st27) rfl (by kernel_rfl) (O.bld (cs:=[.int .i64 8,.int .i64 7]) rfl rfl rfl rfl (st27) rfl (by kernel_rfl) ?_)))))))))))
 refine O.bsl (cs:=(row EJ exl)) rfl rfl rfl ⟨underlying25,sizeOf27,zeroValue27,⟨_,typeInfo27,rfl⟩,rfl,by decide,by decide⟩ rfl (by decide) (by kernel_rfl) ?_
 intro H1 M1
 refine ⟨trivial,?_⟩
 refine Uf 1 [0] rfl (Go'.ret (vs:=[_]) func32 results32 ⟨rfl,trivial⟩ ?_)
 exact ⟨.inl ⟨H.size,0,7,rfl,by decide,M1.rd _ [] (by simp)⟩,M1.fr nowhere⟩
def fitsb (z:Int):Bool:=decide (z=0)||(decide (2≤z)&&decide (z≤128))
theorem fits_spec {B:World} {H:Mem} {z:Int}:Fn Try.prog B 33 [.int .i64 z] H (fun r H'=>r=.bool (fitsb z)∧H'=H):=by
 refine fn_of func33 rfl ntmps33 ?_
 refine (show Go' _ _ _ _ 13 [(0,_)] [.code _] _ from ?_)
 refine Ut 1 rfl (Ur 1 0 rfl (Uf 1 [0,2] rfl (Ut 1 rfl ?_)))
 by_cases h0:z=0
 ·
  refine Ur 11 0 rfl (Uc 1 rfl (eqlT (by omega)) (Uf 9 [2] rfl (Go'.ret (vs:=[_]) func33 results33 ⟨rfl,trivial⟩ ?_)))
  subst h0;exact ⟨rfl,rfl⟩
 by_cases h2:2≤z
 ·
  by_cases h3:z≤128
  ·
   refine Ur 11 0 rfl (Uc 1 rfl (eqlF (by omega)) (Uc 2 rfl (geqT (by omega)) (Uc 2 rfl (leqT (by omega)) (Uf 3 [2] rfl (Go'.ret (vs:=[_]) func33 results33 ⟨rfl,trivial⟩ ?_)))))
   exact ⟨by unfold fitsb;rw [decide_eq_false h0,decide_eq_true h2,decide_eq_true h3];rfl,rfl⟩
  ·
   refine Ur 11 0 rfl (Uc 1 rfl (eqlF (by omega)) (Uc 2 rfl (geqT (by omega)) (Uc 2 rfl (leqF (by omega)) (Uf 3 [2] rfl (Go'.ret (vs:=[_]) func33 results33 ⟨rfl,trivial⟩ ?_)))))
   exact ⟨by unfold fitsb;rw [decide_eq_false h0,decide_eq_true h2,decide_eq_false h3];rfl,rfl⟩
 ·
  refine Ur 11 0 rfl (Uc 1 rfl (eqlF (by omega)) (Uc 2 rfl (geqF (by omega)) (Uf 6 [2] rfl (Go'.ret (vs:=[_]) func33 results33 ⟨rfl,trivial⟩ ?_))))
  exact ⟨by unfold fitsb;rw [decide_eq_false h0,decide_eq_false h2];rfl,rfl⟩
theorem fits_spec' {B:World} {H:Mem} {z:Int} {b:Bool} (h:fitsb z=b):Fn Try.prog B 33 [.int .i64 z] H (fun r H'=>r=.bool b∧H'=H):=h▸fits_spec
theorem fitsb_nat {z:Int} (h:fitsb z=true):∃d:Nat,z=(d:Int)∧(d=0∨2≤d∧d≤128):=by
 unfold fitsb at h
 simp only [Bool.or_eq_true,Bool.and_eq_true,decide_eq_true_eq] at h
 exact ⟨z.toNat,by omega,by omega⟩
theorem st24:StT Try.prog 24 [(0,1),(1,1),(2,1)] [.slice none 0 0,.int .i64 0,.bool false]:=⟨⟨_,underlying24,fun w=>by simp [Array.mapM_eq_mapM_toList,sizeOf3,sizeOf4,sizeOf22]⟩,zeroValue24⟩
theorem exMake_spec {B:World} {H:Mem}:Fn Try.prog B 30 [] H (fun r H'=>r=.agg #[.slice none 0 0,.int .i64 ((2:Nat):Int),.bool false]∧Fr nowhere H H'):=by
 refine fn_of func30 rfl ntmps30 ?_
 refine (show Go' _ _ _ _ 2 [] [.code _] _ from ?_)
 refine Ut 1 rfl (Ur 1 2 rfl (O.alloc rfl rfl rfl zeroValue24 ?_))
 intro H1 M1
 refine ⟨trivial,?_⟩
 have mw:Wr H1 H.size 0 3:=M1.wr 3 (by decide)
 refine Uf 0 [0] rfl (Ut 1 rfl (Ur 2 8 rfl (O.bld (cs:=[.slice none 0 0,.int .i64 ((2:Nat):Int),.bool false]) rfl rfl rfl rfl (st24) rfl (by kernel_rfl) (O.st rfl rfl sizeOf24 rfl rfl rfl rfl rfl mw ?_))))
 intro H2 W2
 refine ⟨trivial,?_⟩
 refine Uf 0 [0] rfl (Go'.ret (vs:=[_]) func30 results30 ⟨⟨_,_,rfl,fun _ _=>run_loadVar_agg (fun w=>⟨isAgg24 w,sizeOf24 w⟩) rfl W2.all⟩,trivial⟩ ?_)
 exact ⟨rfl,(M1.fr nowhere).trans' W2.fr (fun _ _ _ h=>h) (fun b o hb h=>by have h':=h.1;omega)⟩
theorem zzFits1_spec {B:World} {H:Mem} {v:Value} {z:Int} {nl:Bool} {ord:List Int} {b:Bool} (ho:InS EN H v ord) (hb:decide (ord.length≤2147483647)=b):Fn Try.prog B 23 [.agg #[v,.int .i64 z,.bool nl]] H (fun r H'=>r=.bool b∧Fr nowhere H H'):=by
 obtain ⟨av,cv,hv⟩:=ho.len
 generalize hmv:ord.length=mv at*
 subst hv
 have hF:Fr nowhere H H:=Fr.refl _ _
 refine fn_of func23 rfl ntmps23 ?_
 refine (show Go' _ _ _ _ 7 [(0,_)] [.code _] _ from ?_)
 refine Ut 1 rfl (Ur 2 2 rfl (O.box rfl rfl rfl rfl ?_))
 intro B1 MB1
 refine ⟨trivial,?_⟩
 have hsB1:=MB1.size
 replace hF:=hF.trans (MB1.fr nowhere)
 have mx:Rd B1 H.size 0 [.slice av mv cv,.int .i64 z,.bool nl]:=MB1.rd _ [] (by simp [Value.cells])
 have mx0:cl B1 H.size 0=some (.slice av mv cv):=mx 0 _ rfl
 have mx1:cl B1 H.size (0+1)=some (.int .i64 z):=mx 1 _ rfl
 refine Uf 1 [1,2] rfl (Ut 2 rfl ?_)
 cases b
 ·
  refine Ur 4 4 rfl (Ul 1 rfl mx0 (Uc 1 rfl (gtrT (by have:=of_decide_eq_false hb;omega)) (Uf 0 [2,6] rfl (Go'.condT rfl (Ut 1 rfl (Ur 1 0 rfl (Uf 1 [2] rfl (Go'.ret (vs:=[_]) func23 results23 ⟨rfl,trivial⟩ ?_))))))))
  exact ⟨rfl,hF⟩
 ·
  refine Ur 4 4 rfl (Ul 1 rfl mx0 (Uc 1 rfl (gtrF (by have:=of_decide_eq_true hb;omega)) (Uf 0 [2,6] rfl (Go'.condF rfl (Ut 2 rfl (Ur 1 0 rfl (Uf 1 [2] rfl (Go'.ret (vs:=[_]) func23 results23 ⟨rfl,trivial⟩ ?_))))))))
  exact ⟨rfl,hF⟩
theorem lfits_spec {B:World} {H:Mem} {v:Value} {z:Int} {nl b:Bool} (hv:∃a m c,v=.slice a m c) (h:fitsb z=b):Fn Try.prog B 24 [.agg #[v,.int .i64 z,.bool nl]] H (fun r H'=>r=.bool b∧Fr nowhere H H'):=by
 obtain ⟨av,mv,cv,rfl⟩:=hv
 have hF:Fr nowhere H H:=Fr.refl _ _
 refine fn_of func24 rfl ntmps24 ?_
 refine (show Go' _ _ _ _ 6 [(0,_)] [.code _] _ from ?_)
 refine Ut 1 rfl (Ur 2 2 rfl (O.box rfl rfl rfl rfl ?_))
 intro B1 MB1
 refine ⟨trivial,?_⟩
 have hsB1:=MB1.size
 replace hF:=hF.trans (MB1.fr nowhere)
 have mm:Rd B1 H.size 0 [.slice av mv cv,.int .i64 z,.bool nl]:=MB1.rd _ [] (by simp [Value.cells])
 have mm0:cl B1 H.size 0=some (.slice av mv cv):=mm 0 _ rfl
 have mm1:cl B1 H.size (0+1)=some (.int .i64 z):=mm 1 _ rfl
 refine Uf 1 [1,2] rfl (Ut 1 rfl (Ur 4 36 rfl (Ul 1 rfl mm1 (O.callQ rfl rfl rfl call33 rfl (fits_spec' h) trivial (Uf 1 [2] rfl (Go'.ret (vs:=[_]) func24 results24 ⟨rfl,trivial⟩ ?_))))))
 exact ⟨rfl,hF⟩
theorem ifound_spec {B:World} {H:Mem} {o:Option (Int×Int)}:Fn Try.prog B 104 [PV o,.bool o.isSome] H (fun r H'=>r=FV o∧Fr nowhere H H'):=by
 have hF:Fr nowhere H H:=Fr.refl _ _
 unfold PV
 cases o with
 | none=>
  refine fn_of func104 rfl ntmps104 ?_
  refine (show Go' _ _ _ _ 10 [(0,_),(1,_)] [.code _] _ from ?_)
  refine Ut 1 rfl (Ur 2 10 rfl (O.box rfl rfl rfl rfl ?_))
  intro B1 MB1
  refine ⟨trivial,?_⟩
  have hsB1:=MB1.size
  replace hF:=hF.trans (MB1.fr nowhere)
  have mx:Rd B1 H.size 0 (EJ.enc ((none:Option (Int×Int)).getD (0,0))):=MB1.rd _ [] (by simp [Value.cells])
  refine O.alloc rfl rfl rfl zeroValue68 ?_
  intro B2 MB2
  refine ⟨trivial,?_⟩
  have hsB2:=MB2.size
  replace hF:=hF.trans (MB2.fr nowhere)
  replace mx:=(MB2.fr nowhere).rd mx (fun _ _=>nw)
  have mw0:Wr B2 B1.size 0 3:=MB2.wr 3 (by decide)
  refine Uf 0 [1,2,4] rfl (Ut 2 rfl (Ur 2 0 rfl (Uf 2 [2,4,6] rfl (Go'.condT rfl (Ut 1 rfl (Ur 2 8 rfl (O.bld (cs:=[.int .i64 0,.int .i64 0,.bool false]) rfl rfl rfl rfl (st68) rfl (by kernel_rfl) (O.st (vs:=(fvs none)) rfl rfl sizeOf68 rfl rfl rfl rfl rfl mw0 ?_))))))))
  intro H3 W3
  replace hF:=hF.trans' W3.fr (fun _ _ _ h=>h) (fun b o hb h=>by have h':=h.1;omega)
  replace mx:=W3.fr.rd mx (fun _ _=>nr (.inl (by omega)))
  replace mw0:=W3.fr.wr mw0
  refine ⟨trivial,?_⟩
  refine Uf 0 [2,4] rfl (Go'.ret (vs:=[_]) func104 results104 ⟨⟨_,_,rfl,fun _ _=>run_loadVar_agg (fun w=>⟨isAgg68 w,sizeOf68 w⟩) rfl W3.all⟩,trivial⟩ ?_)
  exact ⟨rfl,hF⟩
 | some y=>
  refine fn_of func104 rfl ntmps104 ?_
  refine (show Go' _ _ _ _ 10 [(0,_),(1,_)] [.code _] _ from ?_)
  refine Ut 1 rfl (Ur 2 10 rfl (O.box rfl rfl rfl rfl ?_))
  intro B1 MB1
  refine ⟨trivial,?_⟩
  have hsB1:=MB1.size
  replace hF:=hF.trans (MB1.fr nowhere)
  have mx:Rd B1 H.size 0 (EJ.enc ((some y).getD (0,0))):=MB1.rd _ [] (by simp [Value.cells])
  refine O.alloc rfl rfl rfl zeroValue68 ?_
  intro B2 MB2
  refine ⟨trivial,?_⟩
  have hsB2:=MB2.size
  replace hF:=hF.trans (MB2.fr nowhere)
  replace mx:=(MB2.fr nowhere).rd mx (fun _ _=>nw)
  have mw0:Wr B2 B1.size 0 3:=MB2.wr 3 (by decide)
  refine Uf 0 [1,2,4] rfl (Ut 2 rfl (Ur 2 0 rfl (Uf 2 [2,4,6] rfl (Go'.condF rfl (Ut 2 rfl (Ur 3 33 rfl (Us 0 rfl mx rfl (O.bld (cs:=[.int .i64 y.1,.int .i64 y.2,.bool true]) rfl rfl rfl rfl (st68) rfl (by kernel_rfl) (O.st (vs:=(fvs (some y))) rfl rfl sizeOf68 rfl rfl rfl rfl rfl mw0 ?_)))))))))
  intro H3 W3
  replace hF:=hF.trans' W3.fr (fun _ _ _ h=>h) (fun b o hb h=>by have h':=h.1;omega)
  replace mx:=W3.fr.rd mx (fun _ _=>nr (.inl (by omega)))
  replace mw0:=W3.fr.wr mw0
  refine ⟨trivial,?_⟩
  refine Uf 0 [4] rfl (Go'.ret (vs:=[_]) func104 results104 ⟨⟨_,_,rfl,fun _ _=>run_loadVar_agg (fun w=>⟨isAgg68 w,sizeOf68 w⟩) rfl W3.all⟩,trivial⟩ ?_)
  exact ⟨rfl,hF⟩
end Go.Bt.FG
