/- Contracts of functions of the program, proved by walking through their code. Conditions: those that each theorem names. -/
import Derived.Test.YtmcnochofpgfbaaRows
import Derived.WalkKit
import Derived.ProofKit
import Derived.JoinedOf
import Derived.Test.YtmcnochofpgfbaaProg
import Derived.Test.YtmcnochofpgfbaaToAb
import Derived.Test.YtmcnochofpgfbaaToKs
set_option linter.unusedVariables false
namespace Go.Proofs.Ytmcnochofpgfbaa
open Go
theorem an {a b:Bool} (ha:a=true) (hb:b=true):(a&&b)=true:=by rw [ha,hb];rfl
theorem frame1:(laidOutB Try.pinned.checked.prog)=true:=by kernel_rfl
theorem frame2:(mapsRowed Try.pinned.checked.prog)=true:=by kernel_rfl
theorem frame22:((Rows.fnExactGDeleteRangeRow.plainKeys == Try.pinned.checked.prog.plainKeys))=true:=by kernel_rfl
theorem frame24:(Try.pinned.checked.prog.stopsHeard)=true:=by kernel_rfl
theorem frame25:(Try.pinned.checked.prog.mayEnter)=true:=by kernel_rfl
theorem frame26:((Rows.fnExactGDeleteRangeRow.lifted == Try.pinned.checked.prog.liftsFinal))=true:=by kernel_rfl
theorem frame27:((Try.pinned.checked.prog.make == some Rows.fnExactGDeleteRangeRow.make))=true:=by kernel_rfl
end Go.Proofs.Ytmcnochofpgfbaa
namespace Go.Bt
open Go Go.Proofs Go.Proofs.Try
set_option maxRecDepth 20000
theorem an {α:Type} {p:α→Prop}:∀e∈([]:List α),p e:=fun _ h=>absurd h List.not_mem_nil
theorem ac {α:Type} {p:α→Prop} {x:α} {l:List α} (h:p x) (hl:∀e∈l,p e):∀e∈x::l,p e:=List.forall_mem_cons.2 ⟨h,hl⟩
def TQ:Tab:={ off:=[(24,0,0),(24,1,1),(24,2,2),(27,0,0),(27,1,1),(88,0,0),(88,1,1),(103,0,0),(103,1,8),(109,0,0),(109,1,1),(109,2,2),(109,3,3),(109,4,4),(109,5,5),(109,6,6),(109,7,7),(109,8,9),(109,9,10),(119,0,0),(119,1,1),(119,2,2),(119,3,3)],one:=[3,4,5,22,25,38,43,58,73,96,105,106,107,117,121],agg:=[(24,3),(27,2)],sl:=[(22,1),(25,2),(38,1),(121,1)] }
theorem TQ_ok:TQ.Ok Try.prog where
 off:=(ac ⟨_,_,_,underlying24,rfl,rfl,sizeOf22⟩ (ac ⟨_,_,_,underlying24,rfl,rfl,sizeOf3⟩ (ac ⟨_,_,_,underlying24,rfl,rfl,sizeOf4⟩ (ac ⟨_,_,_,underlying27,rfl,rfl,sizeOf3⟩ (ac ⟨_,_,_,underlying27,rfl,rfl,sizeOf3⟩ (ac ⟨_,_,_,underlying88,rfl,rfl,sizeOf3⟩ (ac ⟨_,_,_,underlying88,rfl,rfl,sizeOf4⟩ (ac ⟨_,_,_,underlying103,rfl,rfl,sizeOf100⟩ (ac ⟨_,_,_,underlying103,rfl,rfl,sizeOf101⟩ (ac ⟨_,_,_,underlying109,rfl,rfl,sizeOf105⟩ (ac ⟨_,_,_,underlying109,rfl,rfl,sizeOf106⟩ (ac ⟨_,_,_,underlying109,rfl,rfl,sizeOf107⟩ (ac ⟨_,_,_,underlying109,rfl,rfl,sizeOf3⟩ (ac ⟨_,_,_,underlying109,rfl,rfl,sizeOf4⟩ (ac ⟨_,_,_,underlying109,rfl,rfl,sizeOf4⟩ (ac ⟨_,_,_,underlying109,rfl,rfl,sizeOf58⟩ (ac ⟨_,_,_,underlying109,rfl,rfl,sizeOf27⟩ (ac ⟨_,_,_,underlying109,rfl,rfl,sizeOf3⟩ (ac ⟨_,_,_,underlying109,rfl,rfl,sizeOf3⟩ (ac ⟨_,_,_,underlying119,rfl,rfl,sizeOf105⟩ (ac ⟨_,_,_,underlying119,rfl,rfl,sizeOf3⟩ (ac ⟨_,_,_,underlying119,rfl,rfl,sizeOf25⟩ (ac ⟨_,_,_,underlying119,rfl,rfl,sizeOf117⟩ an)))))))))))))))))))))))
 one:=(ac (fun w=>⟨isAgg3 w,sizeOf3 w⟩) (ac (fun w=>⟨isAgg4 w,sizeOf4 w⟩) (ac (fun w=>⟨isAgg5 w,sizeOf5 w⟩) (ac (fun w=>⟨isAgg22 w,sizeOf22 w⟩) (ac (fun w=>⟨isAgg25 w,sizeOf25 w⟩) (ac (fun w=>⟨isAgg38 w,sizeOf38 w⟩) (ac (fun w=>⟨isAgg43 w,sizeOf43 w⟩) (ac (fun w=>⟨isAgg58 w,sizeOf58 w⟩) (ac (fun w=>⟨isAgg73 w,sizeOf73 w⟩) (ac (fun w=>⟨isAgg96 w,sizeOf96 w⟩) (ac (fun w=>⟨isAgg105 w,sizeOf105 w⟩) (ac (fun w=>⟨isAgg106 w,sizeOf106 w⟩) (ac (fun w=>⟨isAgg107 w,sizeOf107 w⟩) (ac (fun w=>⟨isAgg117 w,sizeOf117 w⟩) (ac (fun w=>⟨isAgg121 w,sizeOf121 w⟩) an)))))))))))))))
 agg:=(ac (fun w=>⟨isAgg24 w,sizeOf24 w⟩) (ac (fun w=>⟨isAgg27 w,sizeOf27 w⟩) an))
 sl:=(ac ⟨_,underlying22,sizeOf3⟩ (ac ⟨_,underlying25,sizeOf27⟩ (ac ⟨_,underlying38,sizeOf25⟩ (ac ⟨_,underlying121,sizeOf107⟩ an))))
section
variable {B:World} {f:FuncId} {Q:Value→Mem→Prop} {n:Nat} {r r':Env} {k:List Item} {H:Mem} {l:List Oper} {C:Mem→Prop} {p p':List (Nat×Nat)} {d b o s len:Nat} {v:Value} {vs:List Value}
theorem Uq (c:Nat) (h:qrun TQ l n c r p=some (r',p')) (hk:Pl Try.prog B f Q n l C k p' r' H):Pl Try.prog B f Q n l C k p r H:=Pl.q TQ_ok c h hk
theorem Ul (c:Nat) (h:qld TQ l n c 1 r p=some (r',p',d,b,o)) (hc:cl H b o=some v) (hk:Pl Try.prog B f Q n l C k p' ((d,v)::r') H):Pl Try.prog B f Q n l C k p r H:=Pl.L1 TQ_ok c h hc hk
theorem UL (c:Nat) (h:qld TQ l n c 0 r p=some (r',p',d,b,o)) (hc:∀H',C H'→cl H' b o=some v) (hk:Pl Try.prog B f Q n l C k p' ((d,v)::r') H):Pl Try.prog B f Q n l C k p r H:=Pl.L0 TQ_ok c h hc hk
theorem Us (c:Nat) (h:qlds TQ l n c 1 r p=some (r',p',d,b,o,s)) (hc:Rd H b o vs) (hl:vs.length=s) (hk:Pl Try.prog B f Q n l C k p' ((d,.agg vs.toArray)::r') H):Pl Try.prog B f Q n l C k p r H:=Pl.S1 TQ_ok c h hc hl hk
theorem US (c:Nat) (h:qlds TQ l n c 0 r p=some (r',p',d,b,o,s)) (hc:∀H',C H'→Rd H' b o vs) (hl:vs.length=s) (hk:Pl Try.prog B f Q n l C k p' ((d,.agg vs.toArray)::r') H):Pl Try.prog B f Q n l C k p r H:=Pl.S0 TQ_ok c h hc hl hk
theorem Ua (c:Nat) (z:Int) {a b:Int} (h:qbin TQ l n c r p=some (r',p',d,.add,.int .i64 a,.int .i64 b)) (hz:a+b=z∧-9223372036854775808≤z∧z<9223372036854775808) (hk:Pl Try.prog B f Q n l C k p' ((d,.int .i64 z)::r') H):Pl Try.prog B f Q n l C k p r H:=Pl.add TQ_ok c z h hz hk
theorem Ub (c:Nat) (z:Int) {a b:Int} (h:qbin TQ l n c r p=some (r',p',d,.sub,.int .i64 a,.int .i64 b)) (hz:a-b=z∧-9223372036854775808≤z∧z<9223372036854775808) (hk:Pl Try.prog B f Q n l C k p' ((d,.int .i64 z)::r') H):Pl Try.prog B f Q n l C k p r H:=Pl.sub TQ_ok c z h hz hk
theorem Uc (c:Nat) {op:BinOp} {kk:IntKind} {a b:Int} {v:Bool} (h:qbin TQ l n c r p=some (r',p',d,op,.int kk a,.int kk b)) (hv:cmpOf op a b=some v) (hk:Pl Try.prog B f Q n l C k p' ((d,.bool v)::r') H):Pl Try.prog B f Q n l C k p r H:=Pl.cmp TQ_ok c h hv hk
theorem Ux (c j:Nat) {z:Int} (h:qix TQ l n c r p=some (r',p',d,b,o,s,len,z)) (hz:z=(j:Int)) (hj:j<len) (hk:Pl Try.prog B f Q n l C k p' ((d,.pointer (some ⟨b,o+j*s,none⟩))::r') H):Pl Try.prog B f Q n l C k p r H:=Pl.X TQ_ok c j h hz hj hk
theorem Uf (c:Nat) (ts:List Nat) {q:Env} (h:qfin TQ l n c ts r p=some q) (hk:Go' Try.prog B f Q n q k H):Pl Try.prog B f Q n l C k p r H:=Pl.F TQ_ok c ts h hk
theorem Uk (ts:List Nat) {q:Env} (h:Env.pk r ts=some q) (hk:Go' Try.prog B f Q n q k H):Go' Try.prog B f Q n r k H:=Go'.kp ts h hk
theorem Ut (c:Nat) {k':List Item} (h:trun c k=some k') (hk:Go' Try.prog B f Q n r k' H):Go' Try.prog B f Q n r k H:=Go'.t c h hk
theorem Ud {id:Nat} (m K:Nat) (hp:planOk l (pln m K 0)=true) (h:Pl Try.prog B f Q n l (fun _=>True) k (pln m K 0) r H):Go' Try.prog B f Q n r (.code (.region id l.toArray true)::k) H:=Go'.dr m K (by kernel_rfl) hp h
theorem UD {id:Nat} (C:Mem→Prop) (m K:Nat) (hp:planOk l (pln m K 0)=true) (hC:C H) (h:Pl Try.prog B f Q n l C k (pln m K 0) r H):Go' Try.prog B f Q n r (.code (.region id l.toArray true)::k) H:=Go'.drC C m K (by kernel_rfl) hp hC h
theorem Ur {id:Nat} (m K:Nat) (hp:((pln m K 0).map (·.1),(pln m K 0).all fun y=>Nat.blt y.2 3)=(List.range l.length,true)) (h:Pl Try.prog B f Q n l (fun _=>True) k (pln m K 0) r H):Go' Try.prog B f Q n r (.code (.region id l.toArray false)::k) H:=Go'.rg m K hp h
end
end Go.Bt
namespace Go.Bt.FG
open Go Go.Proofs Go.Proofs.Try
set_option maxRecDepth 20000
set_option maxHeartbeats 4000000
set_option linter.unusedSectionVars false
theorem st27:StT Try.prog 27 [(0,1),(1,1)] [.int .i64 0,.int .i64 0]:=⟨⟨_,underlying27,fun w=>by simp [Array.mapM_eq_mapM_toList,sizeOf3]⟩,zeroValue27⟩
theorem st77:StT Try.prog 77 [(0,2),(2,1)] [.int .i64 0,.int .i64 0,.bool false]:=⟨⟨_,underlying77,fun w=>by simp [Array.mapM_eq_mapM_toList,sizeOf4,sizeOf27]⟩,zeroValue77⟩
theorem st119:StT Try.prog 119 [(0,1),(1,1),(2,1),(3,1)] [.int .u64 0,.int .i64 0,.slice none 0 0,.pointer none]:=⟨⟨_,underlying119,fun w=>by simp [Array.mapM_eq_mapM_toList,sizeOf3,sizeOf25,sizeOf105,sizeOf117]⟩,zeroValue119⟩
structure Cx where
 ord:List Int
 ob:Nat
 ov:Value
 base:Nat
 own:Nat→Prop
variable [Inhabited Cx]
def cx:Cx:=default
def OI:Pl.Swo (Int×Int):=OO cx.ord
def InB {α:Type} (E:Elt α) (D:Nat→Prop) (H:Mem) (v:Value) (l:List α):Prop:=(∃b o c,v=.slice (some ⟨b,o,none⟩) l.length c∧l.length≤c∧Rd H b o (row E l)∧D b)∨(l=[]∧∃a c,v=.slice a 0 c)
theorem InB.inS {α:Type} {E:Elt α} {D:Nat→Prop} {H:Mem} {v:Value} {l:List α} (h:InB E D H v l):InS E H v l:=h.imp (fun ⟨b,o,c,h1,h2,h3,_⟩=>⟨b,o,c,h1,h2,h3⟩) id
theorem InB.fr {α:Type} {E:Elt α} {D:Nat→Prop} {H H':Mem} {v:Value} {l:List α} {Z:Nat→Nat→Prop} (h:InB E D H v l) (hf:Fr Z H H') (hz:∀b o,D b→¬Z b o):InB E D H' v l:=
 h.imp (fun ⟨b,o,c,h1,h2,h3,h4⟩=>⟨b,o,c,h1,h2,hf.rd h3 (fun _ _=>hz _ _ h4),h4⟩) id
structure TrC (H:Mem) (tr id mx mn:Nat):Prop where
 iso:cl H tr 0=some (.int .u64 (id:Int))
 emp:Rd H tr 7 [.int .i64 0,.int .i64 0]
 mn':cl H tr 10=some (.int .i64 (mn:Int))
 mx':cl H tr 9=some (.int .i64 (mx:Int))
 cv:cl H tr 4=some (.bool false)
 icv:cl H tr 5=some (.bool false)
 le:cl H tr 6=some (.func (.func 72) #[] #[ptr cx.ob])
 wr:Wr H tr 0 11
 ob:cl H cx.ob 0=some cx.ov
 od:InB EN (fun b=>b<cx.base∧cx.own b∧b≠tr) H cx.ov cx.ord
 ol:cx.ord.length<4611686018427387904
 tb:tr<cx.base
 obb:cx.ob<cx.base
 obt:cx.ob≠tr
 hb:cx.base≤H.size
 tw:cx.own tr
 obw:cx.own cx.ob
theorem TrC.fr {H H':Mem} {Z:Nat→Nat→Prop} {tr id mx mn:Nat} (h:TrC H tr id mx mn) (hf:Fr Z H H') (hz:∀b o,b<cx.base∧cx.own b→(b=tr→o≠2∧o≠3)→¬Z b o):TrC H' tr id mx mn where
 iso:=hf.keep h.iso (hz _ _ ⟨h.tb,h.tw⟩ (fun _=>by decide))
 emp:=hf.rd h.emp fun i hi=>hz _ _ ⟨h.tb,h.tw⟩ (fun _=>by simp at hi;omega)
 mn':=hf.keep h.mn' (hz _ _ ⟨h.tb,h.tw⟩ (fun _=>by decide))
 mx':=hf.keep h.mx' (hz _ _ ⟨h.tb,h.tw⟩ (fun _=>by decide))
 cv:=hf.keep h.cv (hz _ _ ⟨h.tb,h.tw⟩ (fun _=>by decide))
 icv:=hf.keep h.icv (hz _ _ ⟨h.tb,h.tw⟩ (fun _=>by decide))
 le:=hf.keep h.le (hz _ _ ⟨h.tb,h.tw⟩ (fun _=>by decide))
 wr:=hf.wr h.wr
 ob:=hf.keep h.ob (hz _ _ ⟨h.obb,h.obw⟩ (fun e=>absurd e h.obt))
 od:=h.od.fr hf fun b o hb=>hz b o ⟨hb.1,hb.2.1⟩ (fun e=>absurd e hb.2.2)
 ol:=h.ol
 tb:=h.tb
 obb:=h.obb
 obt:=h.obt
 hb:=Nat.le_trans h.hb hf.size
 tw:=h.tw
 obw:=h.obw
theorem leaf_spec {B:World} {H:Mem} {p:Nat} {a:Option Addr} (h3:cl H p 3=some (.pointer a)):
  Fn Try.prog B 62 [.pointer (some ⟨p,0,none⟩)] H (fun v H'=>v=.bool a.isNone∧H'=H):=by
 refine fn_of func62 rfl ntmps62 ?_
 refine (show Go' _ _ _ _ 8 [(0,_)] [.code _] _ from ?_)
 refine Ut 1 rfl (Ur 1 0 rfl (Uf 1 [0,2] rfl (Ut 1 rfl (Ur 6 64 rfl (Ul 3 rfl h3 (O.isNil rfl rfl rfl rfl underlying117 rfl rfl (Uf 1 [2] rfl (Go'.ret (vs:=[_]) func62 results62 ⟨rfl,trivial⟩ ?_))))))))
 exact ⟨rfl,rfl⟩
theorem deg_spec {B:World} {H:Mem} {m:Nat} (h:2≤m∧m≤128):
  Fn Try.prog B 94 [.int .i64 m] H (fun v H'=>v=.tuple #[.int .i64 ((m-1:Nat):Int),.int .i64 ((2*m-1:Nat):Int)]∧H'=H):=by
 refine fn_of func94 rfl ntmps94 ?_
 refine (show Go' _ _ _ _ 15 [(0,_)] [.code _] _ from ?_)
 refine Ut 1 rfl (Ur 2 0 rfl (Uf 2 [0,2,3] rfl (Ut 2 rfl (Ur 2 0 rfl (Uc 1 rfl (leqF (by omega)) (Uf 0 [0,2,3,5] rfl (Go'.condF rfl (Ut 1 rfl (Ur 2 0 rfl (Uc 1 rfl (eqlF (by omega)) (Uf 0 [0,2,3,7] rfl ?_)))))))))))
 refine Go'.condF rfl (Ut 2 rfl (Ur 4 0 rfl (Uq 1 rfl (O.mul (((2*m:Nat):Int)) rfl rfl rfl rfl rfl rfl (by omega) (by omega) (Ub 0 (((2*m-1:Nat):Int)) rfl (by omega) (Uf 1 [2,3] rfl (Ut 1 rfl (Ur 3 0 rfl (Uq 1 rfl (O.quo (((m-1:Nat):Int)) rfl rfl rfl rfl rfl rfl (by decide) (by rw [Int.tdiv_eq_ediv_of_nonneg (by omega)];omega) (by omega) (Uf 1 [2,3] rfl ?_)))))))))))
 refine Ut 1 rfl (Ur 4 0 rfl (Uf 4 [2,3] rfl (Go'.ret (vs:=[_,_]) func94 results94 ⟨rfl,rfl,trivial⟩ ?_)))
 exact ⟨rfl,rfl⟩
theorem isoLoad_spec {B:World} {H:Mem} {tr bp op p id:Nat} (mt:Bool) (hp:cl H bp op=some (ptr p)) (h0:cl H p 0=some (.int .u64 (id:Int))) (ht:cl H tr 0=some (.int .u64 (id:Int))):
  Fn Try.prog B 59 [.pointer (some ⟨tr,0,none⟩),.pointer (some ⟨bp,op,none⟩),.bool mt] H (fun v H'=>v=ptr p∧H'=H):=by
 unfold ptr at hp
 cases mt
 ·
  refine fn_of func59 rfl ntmps59 ?_
  refine (show Go' _ _ _ _ 31 [(0,_),(1,_),(2,_)] [.code _] _ from ?_)
  refine Ut 1 rfl (Ur 1 0 rfl (Uf 1 [0,1,2,6] rfl (Ut 2 rfl (Ud 14 4210944 (by kernel_rfl) (Uf 14 [0,1,6,20] rfl (Go'.condF rfl (Ut 2 rfl (Ur 4 16 rfl (Ul 2 rfl hp (Uf 1 [6] rfl (Go'.ret (vs:=[_]) func59 results59 ⟨rfl,trivial⟩ ?_)))))))))))
  exact ⟨rfl,rfl⟩
 ·
  refine fn_of func59 rfl ntmps59 ?_
  refine (show Go' _ _ _ _ 31 [(0,_),(1,_),(2,_)] [.code _] _ from ?_)
  refine Ut 1 rfl (Ur 1 0 rfl (Uf 1 [0,1,2,6] rfl (Ut 2 rfl (Ud 14 4210944 (by kernel_rfl) (Ul 4 rfl hp (Ul 2 rfl h0 (Ul 3 rfl ht (Uc 0 rfl (neqF rfl) (Uf 1 [0,1,6,20] rfl (Go'.condF rfl (Ut 2 rfl ?_)))))))))))
  refine Ur 4 16 rfl (Ul 2 rfl hp (Uf 1 [6] rfl (Go'.ret (vs:=[_]) func59 results59 ⟨rfl,trivial⟩ ?_)))
  exact ⟨rfl,rfl⟩
theorem newLeaf_spec {B:World} {H:Mem} {tr id:Nat} (ht:cl H tr 0=some (.int .u64 (id:Int))):
  Fn Try.prog B 90 [.pointer (some ⟨tr,0,none⟩),.bool true] H (fun v H'=>v=ptr H.size∧H'.size=H.size+1∧Fr nowhere H H'∧cl H' H.size 0=some (.int .u64 (id:Int))∧cl H' H.size 1=some (.int .i64 0)∧cl H' H.size 2=some (.slice none 0 0)∧cl H' H.size 3=some (.pointer none)∧Wr H' H.size 0 4):=by
 have htl:=cl_lt ht
 refine fn_of func90 rfl ntmps90 ?_
 refine (show Go' _ _ _ _ 19 [(0,_),(1,_)] [.code _] _ from ?_)
 refine Ut 1 rfl (Ur 1 0 rfl (Uf 1 [0,1,4] rfl (Ut 1 rfl (Ur 7 2112 rfl (Ul 3 rfl ht (O.bld (cs:=[.int .u64 id,.int .i64 0,.slice none 0 0,.pointer none]) rfl rfl rfl rfl (st119) rfl (by kernel_rfl) (O.box rfl rfl rfl rfl ?_)))))))
 intro H1 M1
 refine ⟨trivial,?_⟩
 have hs1:=M1.size
 replace ht:=M1.keep ht
 have g0:cl H1 H.size 0=some (.int .u64 id):=(M1.cl 0).trans rfl
 have g1:cl H1 H.size 1=some (.int .i64 0):=(M1.cl 1).trans rfl
 have g2:cl H1 H.size 2=some (.slice none 0 0):=(M1.cl 2).trans rfl
 have g3:cl H1 H.size 3=some (.pointer none):=(M1.cl 3).trans rfl
 have gw:Wr H1 H.size 0 4:=M1.wr 4 (by simp [Value.cells])
 have hf2:=M1.fr nowhere
 refine Uf 1 [1,4,5] rfl (Ut 2 rfl (Ur 2 0 rfl (Uf 2 [4,5,13] rfl (Go'.condF rfl (Ut 2 rfl (Ur 2 0 rfl (Uf 2 [4] rfl (Go'.ret (vs:=[_]) func90 results90 ⟨rfl,trivial⟩ ?_))))))))
 exact ⟨rfl,by omega,hf2,g0,g1,g2,g3,gw⟩
theorem newInner_spec {B:World} {H:Mem} {tr id:Nat} (ht:cl H tr 0=some (.int .u64 (id:Int))):
  Fn Try.prog B 90 [.pointer (some ⟨tr,0,none⟩),.bool false] H (fun v H'=>v=ptr H.size∧H'.size=H.size+2∧Fr nowhere H H'∧cl H' H.size 0=some (.int .u64 (id:Int))∧cl H' H.size 1=some (.int .i64 0)∧cl H' H.size 2=some (.slice none 0 0)∧cl H' H.size 3=some (ptr (H.size+1))∧Wr H' H.size 0 4∧cl H' (H.size+1) 0=some (.slice none 0 0)∧Wr H' (H.size+1) 0 1):=by
 have htl:=cl_lt ht
 refine fn_of func90 rfl ntmps90 ?_
 refine (show Go' _ _ _ _ 19 [(0,_),(1,_)] [.code _] _ from ?_)
 refine Ut 1 rfl (Ur 1 0 rfl (Uf 1 [0,1,4] rfl (Ut 1 rfl (Ur 7 2112 rfl (Ul 3 rfl ht (O.bld (cs:=[.int .u64 id,.int .i64 0,.slice none 0 0,.pointer none]) rfl rfl rfl rfl (st119) rfl (by kernel_rfl) (O.box rfl rfl rfl rfl ?_)))))))
 intro H1 M1
 refine ⟨trivial,?_⟩
 have hs1:=M1.size
 replace ht:=M1.keep ht
 have g0:cl H1 H.size 0=some (.int .u64 id):=(M1.cl 0).trans rfl
 have g1:cl H1 H.size 1=some (.int .i64 0):=(M1.cl 1).trans rfl
 have g2:cl H1 H.size 2=some (.slice none 0 0):=(M1.cl 2).trans rfl
 have g3:cl H1 H.size 3=some (.pointer none):=(M1.cl 3).trans rfl
 have gw:Wr H1 H.size 0 4:=M1.wr 4 (by simp [Value.cells])
 have hf2:=M1.fr nowhere
 refine Uf 1 [1,4,5] rfl (Ut 2 rfl (Ur 2 0 rfl (Uf 2 [4,5,13] rfl (Go'.condT rfl (Ur 5 520 rfl (Uq 1 rfl (O.alloc rfl rfl rfl zeroValue121 ?_)))))))
 intro H3 M3
 refine ⟨trivial,?_⟩
 have hs3:=M3.size
 have k0:cl H3 H1.size 0=some (.slice none 0 0):=(M3.cl 0).trans rfl
 have kw:Wr H3 H1.size 0 1:=M3.wr 1 (by decide)
 replace gw:=(M3.fr nowhere).wr gw
 replace g0:=M3.keep g0
 replace g1:=M3.keep g1
 replace g2:=M3.keep g2
 replace g3:=M3.keep g3
 have e2:H1.size=H.size+1:=by omega
 rw [e2] at k0 kw
 have hf3:=hf2.trans (M3.fr nowhere)
 refine Uq 2 rfl (O.st rfl rfl sizeOf117 rfl rfl rfl rfl rfl (gw.at0 3 1 (by omega)) ?_)
 intro H4 W4
 have hs4:=W4.size
 replace g3:=W4.at
 replace g0:=W4.keep1 g0 (by omega)
 replace g1:=W4.keep1 g1 (by omega)
 replace g2:=W4.keep1 g2 (by omega)
 replace k0:=W4.keep1 k0 (by omega)
 replace gw:=W4.fr.wr gw
 replace kw:=W4.fr.wr kw
 have hf4:Fr nowhere H H4:=hf3.trans' W4.fr (fun _ _ _ h=>h) (fun b o hb h=>by simp only [rng] at h;omega)
 rw [e2] at g3
 refine ⟨trivial,?_⟩
 refine Uf 0 [4,5] rfl (Ut 1 rfl (Ur 2 0 rfl (Uf 2 [4] rfl (Go'.ret (vs:=[_]) func90 results90 ⟨rfl,trivial⟩ ?_))))
 exact ⟨rfl,by omega,hf4,g0,g1,g2,g3,gw,k0,kw⟩
theorem updLeaf_spec {B:World} {H:Mem} {p m cp:Nat} {a:Option Addr} (hw:Wr H p 1 1) (h2:cl H p 2=some (.slice a m cp)) (h3:cl H p 3=some (.pointer none)):
  Fn Try.prog B 93 [.pointer (some ⟨p,0,none⟩)] H (fun _ H'=>Wrote H H' p 1 [.int .i64 (m:Int)]):=by
 refine fn_of func93 rfl ntmps93 ?_
 refine (show Go' _ _ _ _ 44 [(0,_)] [.code _] _ from ?_)
 refine Ut 1 rfl (Ur 9 131328 rfl (Ul 4 rfl h2 (Uq 3 rfl (O.st rfl rfl sizeOf3 rfl rfl rfl rfl rfl hw ?_))))
 intro H1 W1
 refine ⟨trivial,?_⟩
 refine Uf 0 [0] rfl (Ut 1 rfl (Ur 3 8 rfl (Uq 1 rfl (O.callQ rfl rfl rfl call62 rfl (leaf_spec (W1.keep1 h3 (by omega))) trivial (Uf 1 [0,13] rfl (Go'.condF rfl (Ut 1 rfl (Go'.fall func93 results93 (vs:=[]) trivial ?_))))))))
 exact W1
theorem updInner_spec {B:World} {H:Mem} {p m cp cb kb ko kc:Nat} {a:Option Addr} {qs:List Nat} (cn:Nat→Nat) (hw:Wr H p 1 1) (h2:cl H p 2=some (.slice a m cp)) (h3:cl H p 3=some (.pointer (some ⟨cb,0,none⟩)))
  (hc:cl H cb 0=some (.slice (some ⟨kb,ko,none⟩) qs.length kc)) (hk:SlE EP H kb ko kc (qs.map some)) (hq:∀q∈qs,cl H q 1=some (.int .i64 (cn q:Int))∧q≠p) (n2:kb≠p)
  (hb:m+(qs.map cn).sum<9223372036854775808) (hl:qs.length<1000):
  Fn Try.prog B 93 [.pointer (some ⟨p,0,none⟩)] H (fun _ H'=>Fr (rng p 1 1) H H'∧H'.size=H.size∧cl H' p 1=some (.int .i64 ((m+(qs.map cn).sum:Nat):Int))):=by
 refine fn_of func93 rfl ntmps93 ?_
 refine (show Go' _ _ _ _ 44 [(0,_)] [.code _] _ from ?_)
 refine Ut 1 rfl (Ur 9 131328 rfl (Ul 4 rfl h2 (Uq 3 rfl (O.st rfl rfl sizeOf3 rfl rfl rfl rfl rfl hw ?_))))
 intro H1 W1
 have h3H:=h3
 replace h3:=W1.keep1 h3 (by omega)
 refine ⟨trivial,?_⟩
 refine Uf 0 [0] rfl (Ut 1 rfl (Ur 3 8 rfl (Uq 1 rfl (O.callQ rfl rfl rfl call62 rfl (leaf_spec h3) trivial (Uf 1 [0,13] rfl (Go'.condT rfl (Ut 1 rfl (Ur 1 0 rfl (Uf 1 [0,2] rfl (Ut 1 rfl (Go'.loop ?_)))))))))))
 refine Uk [0,2] rfl ?_
 refine Go'.ind (σ:=Nat) (fun j=>qs.length-j) (fun j H'=>Fr (rng p 1 1) H H'∧H'.size=H.size∧j≤qs.length∧cl H' p 1=some (.int .i64 ((m+((qs.take j).map cn).sum:Nat):Int)))
  (fun j=>[(0,.pointer (some ⟨p,0,none⟩)),(2,.int .i64 (j:Int))]) 0 ⟨W1.fr,W1.size,Nat.zero_le _,by simpa using W1.at⟩ rfl ?_
 rintro j H2 ⟨hF,hS,hj,h1⟩ ih
 replace h3:cl H2 p 3=some (.pointer (some ⟨cb,0,none⟩)):=hF.keep h3H (nr (by omega))
 have hc2:=hF.keep hc (nr (by omega))
 have hk2:=hk.fr hF (fun i _ _=>nr (by omega))
 have hw2:=hF.wr hw
 refine Ut 2 rfl ?_
 by_cases hlt:j<qs.length
 ·
  obtain ⟨q,hqj⟩:∃q,qs[j]?=some q:=⟨qs[j],by simp [hlt]⟩
  have hqm:q∈qs:=List.mem_of_getElem? hqj
  obtain ⟨hq1,hqp⟩:=hq q hqm
  replace hq1:=hF.keep hq1 (nr (by omega))
  have hsum:(((qs.take (j+1)).map cn).sum)=((qs.take j).map cn).sum+cn q:=by
   rw [List.take_add_one,hqj];simp
  have hle:((qs.take (j+1)).map cn).sum≤(qs.map cn).sum:=by
   conv=>rhs;rw [←List.take_append_drop (j+1) qs]
   rw [List.map_append,List.sum_append];omega
  have hptr:cl H2 kb (ko+j*1)=some (.pointer (some ⟨q,0,none⟩)):=hk2.cell (i:=j) (x:=some q) (by simp [hqj]) (j:=0) rfl
  refine Ur 9 4352 rfl (Ul 4 rfl h3 (Ul 1 rfl hc2 (Uc 1 rfl (lssT (by omega)) (Uf 0 [0,2,22] rfl (Go'.condT rfl (Ut 3 rfl (Ud 20 825724518464 (by kernel_rfl) (Ul 3 rfl h1 (Ul 3 rfl h3 (Ul 1 rfl hc2 (Ux 1 j rfl (by omega) (by omega) ?_)))))))))))
  refine Ul 0 rfl hptr (Ul 2 rfl hq1 (Ua 0 (((m+((qs.take (j+1)).map cn).sum:Nat):Int)) rfl (by omega) (Uq 2 rfl (O.st3 rfl rfl sizeOf3 rfl rfl rfl rfl rfl hw2 ?_))))
  intro H3 W3
  refine Uf 0 [0,2,22] rfl (Ut 1 rfl (Ur 3 0 rfl (Ua 1 (((j+1:Nat):Int)) rfl (by omega) (Uf 1 [0,2,22] rfl (Uk [0,2] rfl (Go'.inLoop ?_))))))
  exact ih (j+1) H3 ⟨hF.trans W3.fr,W3.size.trans hS,hlt,W3.at⟩ (by omega)
 ·
  obtain rfl:j=qs.length:=by omega
  refine Ur 9 4352 rfl (Ul 4 rfl h3 (Ul 1 rfl hc2 (Uc 1 rfl (lssF (by omega)) (Uf 0 [0,2,22] rfl (Go'.condF rfl (Ut 1 rfl (Go'.fall func93 results93 (vs:=[]) trivial ?_)))))))
  refine ⟨hF,hS,?_⟩
  rw [List.take_length] at h1
  exact h1
theorem lock_spec {B:World} {H:Mem} {tr:Nat} {m:Bool}:Fn Try.prog B 57 [.pointer (some ⟨tr,0,none⟩),.bool m] H (fun v H'=>v=.bool false∧H'=H):=by
 refine fn_of func57 rfl ntmps57 ?_
 refine (show Go' _ _ _ _ 5 [(0,_),(1,_)] [.code _] _ from ?_)
 refine Ut 1 rfl (Ur 1 0 rfl (Uf 1 [4] rfl (Ut 1 rfl (Ur 1 0 rfl (Uf 1 [4] rfl (Go'.ret (vs:=[_]) func57 results57 ⟨rfl,trivial⟩ ?_))))))
 exact ⟨rfl,rfl⟩
theorem remainder_spec {B:World} {H:Mem} {k:Int} {n j:Nat} (hn:0<n) (hl:n<4611686018427387904) (hj:(k.tmod n+n).tmod n=(j:Int)):
  Fn Try.prog B 95 [.int .i64 k,.int .i64 (n:Int)] H (fun r H'=>r=.int .i64 (j:Int)∧H'=H):=by
 have hp:(0:Int)<n:=by omega
 have b1:=Int.tmod_lt_of_pos k hp
 have b2:-(n:Int)<k.tmod n:=by
  have:=Int.lt_tmod_of_pos k hp
  omega
 refine fn_of func95 rfl ntmps95 ?_
 refine (show Go' _ _ _ _ 12 [(0,_),(1,_)] [.code _] _ from ?_)
 refine Ut 1 rfl (Ur 1 0 rfl (Uf 1 [0,1,4] rfl (Ut 1 rfl (Ur 8 0 rfl (Uq 2 rfl (O.rem (k.tmod n) rfl rfl rfl rfl rfl rfl (by omega) rfl (Ua 1 ((k.tmod n+n)) rfl (by omega) (Uq 1 rfl (O.rem ((j:Int)) rfl rfl rfl rfl rfl rfl (by omega) hj (Uf 1 [4] rfl (Go'.ret (vs:=[_]) func95 results95 ⟨rfl,trivial⟩ ?_)))))))))))
 exact ⟨rfl,rfl⟩
theorem irank_spec {B:World} {H:Mem} {v:Value} {ord:List Int} {k:Int} (ho:InS EN H v ord) (hl:ord.length<4611686018427387904):
  Fn Try.prog B 73 [v,.int .i64 k] H (fun r H'=>r=.int .i64 (rank ord k)∧H'=H):=by
 obtain ⟨a,c,rfl⟩:=ho.len
 refine fn_of func73 rfl ntmps73 ?_
 refine (show Go' _ _ _ _ 16 [(0,_),(1,_)] [.code _] _ from ?_)
 refine Ut 1 rfl (Ur 1 0 rfl (Uf 1 [0,1,4] rfl (Ut 2 rfl ?_)))
 by_cases h0:ord.length=0
 ·
  refine Ur 3 0 rfl (Uc 2 rfl (eqlT (by omega)) (Uf 0 [0,1,4,7] rfl (Go'.condT rfl (Ut 1 rfl (Ur 2 0 rfl (Uf 2 [0,1,4] rfl (Go'.ret (vs:=[_]) func73 results73 ⟨rfl,trivial⟩ ?_)))))))
  refine ⟨?_,rfl⟩
  unfold rank;rw [if_pos h0];rfl
 ·
  have hp:(0:Int)<ord.length:=by omega
  have b3:=Int.tmod_lt_of_pos (k.tmod ord.length+ord.length) hp
  have b4:0≤(k.tmod ord.length+ord.length).tmod ord.length:=Int.tmod_nonneg _ (by have:=Int.lt_tmod_of_pos k hp;omega)
  obtain ⟨j,hj⟩:=Int.eq_ofNat_of_zero_le b4
  obtain ⟨z,hz⟩:∃z,ord[j]?=some z:=⟨ord[j]'(by omega),List.getElem?_eq_getElem (by omega)⟩
  obtain ⟨b,o,c',e,hr⟩:=ho.at hz
  cases e
  refine Ur 3 0 rfl (Uc 2 rfl (eqlF (by omega)) (Uf 0 [0,1,4,7] rfl (Go'.condF rfl (Ut 2 rfl (Ur 8 4608 rfl (Uq 4 rfl (O.callQ rfl rfl rfl call95 rfl (remainder_spec (by omega) hl hj) trivial (Ux 0 j rfl (by omega) (by omega) (Ul 0 rfl (hr 0 _ rfl) (Uf 1 [4] rfl (Go'.ret (vs:=[_]) func73 results73 ⟨rfl,trivial⟩ ?_)))))))))))
  refine ⟨?_,rfl⟩
  unfold rank;rw [if_neg h0,hj,Int.toNat_natCast,List.getD_eq_getElem?_getD,hz];rfl
theorem less_spec {B:World} {H:Mem} {tr id mx mn:Nat} (tc:TrC H tr id mx mn) (x y:Int×Int):
  Fn Try.prog B 72 [.agg (EJ.enc x).toArray,.agg (EJ.enc y).toArray,ptr cx.ob] H (fun r H'=>r=.bool (OI.lt x y)∧Fr nowhere H H'):=by
 refine fn_of func72 rfl ntmps72 ?_
 refine (show Go' _ _ _ _ 15 [(0,_),(1,_),(2,_)] [.code _] _ from ?_)
 refine Ut 1 rfl (Ur 3 10 rfl (O.box rfl rfl rfl rfl ?_))
 intro H1 M1
 refine ⟨trivial,?_⟩
 have hf1:=M1.fr nowhere
 replace tc:=tc.fr hf1 (fun _ _ _ _=>nw)
 have mi:Rd H1 H.size 0 (EJ.enc x):=M1.rd _ [] (by simp [Value.cells])
 refine O.box rfl rfl rfl rfl ?_
 intro H2 M2
 refine ⟨trivial,?_⟩
 have hf2:=hf1.trans (M2.fr nowhere)
 replace tc:=tc.fr (M2.fr nowhere) (fun _ _ _ _=>nw)
 replace mi:=(M2.fr nowhere).rd mi (fun _ _=>nw)
 have mj:Rd H2 H1.size 0 (EJ.enc y):=M2.rd _ [] (by simp [Value.cells])
 refine Uf 1 [2,3,4,5] rfl (Ut 1 rfl (Go'.draw (fun H'=>cl H' cx.ob 0=some cx.ov∧cl H' H1.size (0+0)=some (.int .i64 y.1)) [(0,1),(1,0),(2,1),(4,0),(5,0),(6,0),(3,2),(7,2),(8,0),(9,0)] (by kernel_rfl) (by kernel_rfl) (⟨tc.ob,(mj 0 _ rfl)⟩) (Ul 0 rfl tc.ob (Ul 1 rfl (mi 0 _ rfl) (UL 0 rfl (fun _ h=>h.1) (UL 1 rfl (fun _ h=>h.2) (O.callQ rfl rfl rfl call73 rfl (irank_spec tc.od.inS tc.ol) ⟨tc.ob,(mj 0 _ rfl)⟩ (O.callQ rfl rfl rfl call73 rfl (irank_spec tc.od.inS tc.ol) ⟨tc.ob,(mj 0 _ rfl)⟩ (Uc 0 rfl (show cmpOf .lss _ _=some (OI.lt x y) from rfl) (Uf 1 [5] rfl (Go'.ret (vs:=[_]) func72 results72 ⟨rfl,trivial⟩ ?_)))))))))))
 exact ⟨rfl,hf2⟩
end Go.Bt.FG
namespace Go.Bt.FG
open Go Go.Proofs Go.Proofs.Try
set_option maxRecDepth 20000
set_option maxHeartbeats 4000000
set_option linter.unusedSectionVars false
variable [Inhabited Cx]
theorem splitLeaf_spec {B:World} {H:Mem} {tr id mx mn:Nat} {g:Ng} {X:List (Int×Int)} {med:Int×Int} (ht:TrC H tr id mx mn) (hn:NodeM EJ H g X (.pointer none)) (hX:X.length=mx) (hm:mx=2*mn+1) (h1:1≤mn) (hx:mx≤255)
  (hmed:X[mn]?=some med) (n1:cx.base≤g.p) (n2:cx.base≤g.ib):
  Fn Try.prog B 92 [.pointer (some ⟨tr,0,none⟩),.pointer (some ⟨g.p,0,none⟩)] H (fun v H'=>∃q,v=.tuple #[ptr q,.agg (EJ.enc med).toArray]∧H.size≤q∧q<H'.size∧Fr (ncl EJ g) H H'∧
   NodeM EJ H' { g with cnt:=mn,ic:=mn } (X.take mn) (.pointer none)∧
   NodeM EJ H' { p:=q,iso:=id,cnt:=mn,ib:=g.ib,io:=g.io+(mn+1)*2,ic:=g.ic-(mn+1),cb:=0,kb:=0,ko:=0,kc:=0 } (X.drop (mn+1)) (.pointer none)):=by
 have hn0:=hn
 have ht0:=ht
 have htl:cx.base≤H.size:=ht.hb
 have hpl:g.p<H.size:=cl_lt hn.c0
 have hil:g.ib<H.size:=NodeM.lt hn (b:=g.ib) (o:=g.io) (.inr ⟨rfl,Nat.le_refl _,by have:=Nat.mul_pos hn.ic EJ.pos;omega⟩)
 have hicl:=hn.sl.hle
 have hpi:=hn.ne
 refine fn_of func92 rfl ntmps92 ?_
 refine (show Go' _ _ _ _ 95 [(0,_),(1,_)] [.code _] _ from ?_)
 refine Ut 1 rfl (Ur 2 8 rfl (Uq 1 rfl (O.alloc rfl rfl rfl zeroValue27 ?_)))
 intro H1 M1
 refine ⟨trivial,?_⟩
 have hs1:=M1.size
 replace hn:=NodeM.fr EJ hn (M1.fr nowhere) (fun _ _ _=>nw)
 replace ht:=ht.fr (M1.fr nowhere) (fun _ _ _ _=>nw)
 have mw:Wr H1 H.size 0 2:=M1.wr 2 (by decide)
 have hF1:=M1.fr nowhere
 refine Uf 0 [0,1,4,5] rfl (Ut 1 rfl (Ur 6 64 rfl (Ul 3 rfl ht.mx' (O.quo ((mn:Int)) rfl rfl rfl rfl rfl rfl (by decide) (by rw [Int.tdiv_eq_ediv_of_nonneg (by omega)];omega) (by omega) (Uf 1 [0,1,4,5,6] rfl (Ut 1 rfl (Ur 8 36928 rfl (Ul 3 rfl hn.c2 (Ux 1 mn rfl (by omega) (by omega) (Us 0 rfl (hn.sl.item hmed) rfl (O.st rfl rfl sizeOf27 rfl rfl rfl rfl rfl mw ?_)))))))))))
 intro H2 W2
 have hs2:=W2.size
 replace hn:=NodeM.fr EJ hn W2.fr (fun b o hb=>nr (.inl (by have:=NodeM.lt hn0 hb;omega)))
 replace ht:=ht.fr W2.fr (fun b o hb _=>nr (.inl (by omega)))
 replace mw:=W2.fr.wr mw
 have mr:=W2.all
 have hF2:=hF1.trans' W2.fr (Z:=nowhere) (fun _ _ _ h=>h) (fun b o hb h=>by simp only [rng] at h;omega)
 refine ⟨trivial,?_⟩
 refine Uf 0 [0,1,4,5,6] rfl (Ut 1 rfl (Ur 5 160 rfl (Uq 2 rfl (O.callQ rfl rfl rfl call62 rfl (leaf_spec hn.c3) trivial (O.call rfl rfl rfl call90 rfl (newLeaf_spec ht.iso) ?_)))))
 rintro _ H3 hR3
 obtain ⟨rfl,hs3,F3,q0,q1,q2,q3,qw⟩:=hR3
 have hql:H.size<H2.size:=by omega
 generalize hqe:H2.size=q at*
 replace hn:=NodeM.fr EJ hn F3 (fun _ _ _=>nw)
 replace ht:=ht.fr F3 (fun _ _ _ _=>nw)
 replace mw:=F3.wr mw
 replace mr:=F3.rd mr (fun _ _=>nw)
 have hF3:=hF2.trans F3
 refine ⟨trivial,?_⟩
 refine Uf 1 [0,1,4,5,6] rfl (Ut 1 rfl (Ur 11 2097408 rfl (Ul 4 rfl hn.c2 (Ua 1 (((mn+1:Nat):Int)) rfl (by omega) (O.slc (jl:=mn+1) (jh:=X.length) (jm:=g.ic) rfl rfl rfl rfl underlying25 sizeOf27 rfl rfl rfl ⟨_,by rfl⟩ (by omega) (by omega) (by omega) (by simp) ?_)))))
 intro o4 ho4
 obtain rfl:=ho4 (by omega)
 refine Uq 2 rfl (O.st rfl rfl sizeOf25 rfl rfl rfl rfl rfl (qw.at0 2 1 (by omega)) ?_)
 intro H4 W4
 have hs4:=W4.size
 replace hn:=NodeM.fr EJ hn W4.fr (fun b o hb=>nr (.inl (by have:=NodeM.lt hn0 hb;omega)))
 replace ht:=ht.fr W4.fr (fun b o hb _=>nr (.inl (by omega)))
 replace mr:=W4.fr.rd mr (fun i _=>nr (.inl (by omega)))
 replace mw:=W4.fr.wr mw
 replace qw:=W4.fr.wr qw
 replace q0:=W4.keep1 q0 (by omega)
 replace q1:=W4.keep1 q1 (by omega)
 replace q2:=W4.at
 replace q3:=W4.keep1 q3 (by omega)
 have hF4:=hF3.trans' W4.fr (Z:=nowhere) (fun _ _ _ h=>h) (fun b o hb h=>by simp only [rng] at h;omega)
 refine ⟨trivial,?_⟩
 refine Uf 0 [0,1,4,5,6] rfl (Ut 2 rfl (Ur 3 8 rfl (Uq 1 rfl (O.callQ rfl rfl rfl call62 rfl (leaf_spec hn.c3) trivial (Uf 1 [0,1,4,5,6,35] rfl (Go'.condF rfl (Ut 2 rfl (Ur 2 8 rfl (Uq 1 rfl (O.call rfl rfl rfl call93 rfl (updLeaf_spec (qw.at0 1 1 (by omega)) q2 q3) ?_))))))))))
 rintro _ H6 W6
 have hs6:=W6.size
 replace hn:=NodeM.fr EJ hn W6.fr (fun b o hb=>nr (.inl (by have:=NodeM.lt hn0 hb;omega)))
 replace ht:=ht.fr W6.fr (fun b o hb _=>nr (.inl (by omega)))
 replace mr:=W6.fr.rd mr (fun i _=>nr (.inl (by omega)))
 replace mw:=W6.fr.wr mw
 replace qw:=W6.fr.wr qw
 replace q0:=W6.keep1 q0 (by omega)
 replace q1:=W6.at
 replace q2:=W6.keep1 q2 (by omega)
 replace q3:=W6.keep1 q3 (by omega)
 have hF6:=hF4.trans' W6.fr (Z:=nowhere) (fun _ _ _ h=>h) (fun b o hb h=>by simp only [rng] at h;omega)
 refine ⟨trivial,?_⟩
 refine Uf 0 [0,1,4,5,6] rfl (Ut 1 rfl ?_)
 have slL:SlE EJ H6 g.ib g.io mn (X.take mn):=hn.sl.left (by omega)
 have slX:SlE EJ H6 g.ib (g.io+(mn+1)*2) (g.ic-(mn+1)) (X.drop (mn+1)):=hn.sl.right (by omega)
 obtain ⟨c0,c1,c2,c3,cw⟩:=And.intro hn.c0 (And.intro hn.c1 (And.intro hn.c2 (And.intro hn.c3 hn.wr)))
 have mwr:=hn.sl.wri (i:=mn) (by omega)
 refine Ud 11 3211328 (by kernel_rfl) (Ul 3 rfl hn.c2 (Us 4 rfl ht.emp rfl (Ux 0 mn rfl (by omega) (by omega) (O.st3 rfl rfl sizeOf27 rfl rfl rfl rfl rfl mwr ?_))))
 intro H8 W8
 have hs8:=W8.size
 have F8:=W8.fr' 2 rfl
 replace slL:=slL.fr F8 (fun i h1 h2=>nr (by have e:EJ.s=2:=rfl;rw [e] at h2;omega))
 replace slX:=slX.fr F8 (fun i h1 h2=>nr (by omega))
 replace c0:=W8.fr.keep c0 (nr (by omega))
 replace c1:=W8.fr.keep c1 (nr (by omega))
 replace c2:=W8.fr.keep c2 (nr (by omega))
 replace c3:=W8.fr.keep c3 (nr (by omega))
 replace ht:=ht.fr W8.fr (fun b o hb _=>nr (.inl (by omega)))
 replace mr:=W8.fr.rd mr (fun i _=>nr (.inl (by omega)))
 replace mw:=W8.fr.wr mw
 replace qw:=W8.fr.wr qw
 replace q0:=W8.fr.keep q0 (nr (.inl (by omega)))
 replace q1:=W8.fr.keep q1 (nr (.inl (by omega)))
 replace q2:=W8.fr.keep q2 (nr (.inl (by omega)))
 replace q3:=W8.fr.keep q3 (nr (.inl (by omega)))
 replace cw:=W8.fr.wr cw
 have hF8:Fr (ncl EJ g) H H8:=hF6.trans' W8.fr (fun _ _ _ h=>h.elim) (fun b o hb h=>(.inr ⟨h.1,by have:=h.2.1;omega,by
  have h2:=h.2.2
  have h3:(mn+1)*2≤g.ic*2:=Nat.mul_le_mul_right 2 (by omega)
  simp only [List.length_cons,List.length_nil] at h2
  have e:EJ.s=2:=rfl
  rw [e]
  omega⟩))
 refine Uf 0 [1,4,5,6] rfl (Ut 1 rfl (Ur 11 2097408 rfl (Ul 4 rfl c2 (Uq 2 rfl (O.slc (jl:=0) (jh:=mn) (jm:=mn) rfl rfl rfl rfl underlying25 sizeOf27 rfl ⟨_,by rfl⟩ ⟨_,by rfl⟩ rfl (by omega) (by omega) (by omega) (by simp) ?_)))))
 intro o9 ho9
 obtain rfl:=ho9 (by omega)
 rw [Nat.zero_mul,Nat.add_zero,Nat.sub_zero]
 refine Uq 2 rfl (O.st rfl rfl sizeOf25 rfl rfl rfl rfl rfl (cw.at0 2 1 (by omega)) ?_)
 intro H9 W9
 have hs9:=W9.size
 replace slL:=slL.fr W9.fr (fun i h1 h2=>nr (.inl (Ne.symm hpi)))
 replace slX:=slX.fr W9.fr (fun i h1 h2=>nr (.inl (Ne.symm hpi)))
 replace c0:=W9.keep1 c0 (by omega)
 replace c1:=W9.keep1 c1 (by omega)
 replace c2:=W9.at
 replace c3:=W9.keep1 c3 (by omega)
 replace ht:=ht.fr W9.fr (fun b o hb _=>nr (.inl (by omega)))
 replace mr:=W9.fr.rd mr (fun i _=>nr (.inl (by omega)))
 replace mw:=W9.fr.wr mw
 replace qw:=W9.fr.wr qw
 replace q0:=W9.fr.keep q0 (nr (.inl (by omega)))
 replace q1:=W9.fr.keep q1 (nr (.inl (by omega)))
 replace q2:=W9.fr.keep q2 (nr (.inl (by omega)))
 replace q3:=W9.fr.keep q3 (nr (.inl (by omega)))
 replace cw:=W9.fr.wr cw
 have hF9:Fr (ncl EJ g) H H9:=hF8.trans' W9.fr (fun _ _ _ h=>h) (fun b o hb h=>(.inl ⟨h.1,by have h2:=h.2.2;simp only [List.length_cons,List.length_nil] at h2;omega⟩))
 refine ⟨trivial,?_⟩
 refine Uf 0 [1,4,5,6] rfl (Ut 2 rfl (Ur 3 8 rfl (Uq 1 rfl (O.callQ rfl rfl rfl call62 rfl (leaf_spec c3) trivial (Uf 1 [1,4,5,6,74] rfl (Go'.condF rfl (Ut 2 rfl (Ur 2 8 rfl (Uq 1 rfl (O.call rfl rfl rfl call93 rfl (updLeaf_spec (cw.at0 1 1 (by omega)) c2 c3) ?_))))))))))
 rintro _ H12 W12
 have hs12:=W12.size
 replace slL:=slL.fr W12.fr (fun i h1 h2=>nr (.inl (Ne.symm hpi)))
 replace slX:=slX.fr W12.fr (fun i h1 h2=>nr (.inl (Ne.symm hpi)))
 replace c0:=W12.keep1 c0 (by omega)
 replace c1:=W12.at
 replace c2:=W12.keep1 c2 (by omega)
 replace c3:=W12.keep1 c3 (by omega)
 replace mr:=W12.fr.rd mr (fun i _=>nr (.inl (by omega)))
 replace mw:=W12.fr.wr mw
 replace qw:=W12.fr.wr qw
 replace q0:=W12.fr.keep q0 (nr (.inl (by omega)))
 replace q1:=W12.fr.keep q1 (nr (.inl (by omega)))
 replace q2:=W12.fr.keep q2 (nr (.inl (by omega)))
 replace q3:=W12.fr.keep q3 (nr (.inl (by omega)))
 replace cw:=W12.fr.wr cw
 have hF12:Fr (ncl EJ g) H H12:=hF9.trans' W12.fr (fun _ _ _ h=>h) (fun b o hb h=>(.inl ⟨h.1,by have h2:=h.2.2;simp only [List.length_cons,List.length_nil] at h2;omega⟩))
 refine ⟨trivial,?_⟩
 refine Uf 0 [4,5] rfl (Ut 1 rfl (Ud 4 196 (by kernel_rfl) (Us 1 rfl mr rfl (Uq 1 rfl (O.st3 rfl rfl sizeOf27 rfl rfl rfl rfl rfl mw ?_)))))
 intro H13 W13
 have hs13:=W13.size
 replace slL:=slL.fr W13.fr (fun i h1 h2=>nr (.inl (by omega)))
 replace slX:=slX.fr W13.fr (fun i h1 h2=>nr (.inl (by omega)))
 replace c0:=W13.fr.keep c0 (nr (.inl (by omega)))
 replace c1:=W13.fr.keep c1 (nr (.inl (by omega)))
 replace c2:=W13.fr.keep c2 (nr (.inl (by omega)))
 replace c3:=W13.fr.keep c3 (nr (.inl (by omega)))
 replace q0:=W13.fr.keep q0 (nr (.inl (by omega)))
 replace q1:=W13.fr.keep q1 (nr (.inl (by omega)))
 replace q2:=W13.fr.keep q2 (nr (.inl (by omega)))
 replace q3:=W13.fr.keep q3 (nr (.inl (by omega)))
 replace qw:=W13.fr.wr qw
 replace cw:=W13.fr.wr cw
 have hF13:Fr (ncl EJ g) H H13:=hF12.trans' W13.fr (fun _ _ _ h=>h) (fun b o hb h=>by simp only [rng] at h;omega)
 refine Uf 0 [4,5] rfl (Go'.ret (vs:=[_,_]) func92 results92 ⟨rfl,⟨_,_,rfl,fun _ _=>run_loadVar_agg (fun w=>⟨isAgg27 w,sizeOf27 w⟩) rfl W13.all⟩,trivial⟩ ?_)
 have e1:(X.take mn).length=mn:=by rw [List.length_take];omega
 have e2:(X.drop (mn+1)).length=mn:=by rw [List.length_drop];omega
 have e3:X.length-(mn+1)=mn:=by omega
 have e4:mn-0=mn:=rfl
 refine ⟨q,rfl,by omega,by omega,hF13,⟨c0,c1,?_,c3,cw,slL,by show 0<mn;omega,hpi⟩,⟨q0,?_,?_,q3,qw,slX,by show 0<g.ic-(mn+1);omega,by show q≠g.ib;omega⟩⟩
 · rw [e1];exact c2
 · rw [e3] at q1;exact q1
 · rw [List.length_drop];exact q2
theorem splitInner_spec {B:World} {H:Mem} {tr id mx mn:Nat} {g:Ng} {X:List (Int×Int)} {ks:List Nat} (cn:Nat→Nat) {med:Int×Int} (ht:TrC H tr id mx mn) (hn:NodeM EJ H g X (.pointer (some ⟨g.cb,0,none⟩))) (hk:KidM H g ks)
  (hX:X.length=mx) (hK:ks.length=mx+1) (hm:mx=2*mn+1) (h1:1≤mn) (hx:mx≤255) (hmed:X[mn]?=some med) (n1:cx.base≤g.p) (n2:cx.base≤g.ib) (_n3:cx.base≤g.cb) (_n4:cx.base≤g.kb)
  (hq:∀q∈ks,cl H q 1=some (.int .i64 (cn q:Int))∧q≠g.p∧¬(q=g.ib∧g.io≤1∧1<g.io+g.ic*2)∧q≠g.cb) (hb:mx+(ks.map cn).sum<9223372036854775808):
  Fn Try.prog B 92 [.pointer (some ⟨tr,0,none⟩),.pointer (some ⟨g.p,0,none⟩)] H (fun v H'=>∃q,v=.tuple #[ptr q,.agg (EJ.enc med).toArray]∧H.size≤q∧q+1<H'.size∧Fr (fun b o=>ncl EJ g b o∨kcl g b o) H H'∧
   NodeM EJ H' { g with cnt:=mn+((ks.take (mn+1)).map cn).sum,ic:=mn,kc:=mn+1 } (X.take mn) (.pointer (some ⟨g.cb,0,none⟩))∧KidM H' { g with cnt:=mn+((ks.take (mn+1)).map cn).sum,ic:=mn,kc:=mn+1 } (ks.take (mn+1))∧
   NodeM EJ H' { p:=q,iso:=id,cnt:=mn+((ks.drop (mn+1)).map cn).sum,ib:=g.ib,io:=g.io+(mn+1)*2,ic:=g.ic-(mn+1),cb:=q+1,kb:=g.kb,ko:=g.ko+(mn+1),kc:=g.kc-(mn+1) } (X.drop (mn+1)) (.pointer (some ⟨q+1,0,none⟩))∧
   KidM H' { p:=q,iso:=id,cnt:=mn+((ks.drop (mn+1)).map cn).sum,ib:=g.ib,io:=g.io+(mn+1)*2,ic:=g.ic-(mn+1),cb:=q+1,kb:=g.kb,ko:=g.ko+(mn+1),kc:=g.kc-(mn+1) } (ks.drop (mn+1))):=by
 have hn0:=hn
 have ht0:=ht
 have htl:cx.base≤H.size:=ht.hb
 have hpl:g.p<H.size:=cl_lt hn.c0
 have hil:g.ib<H.size:=NodeM.lt hn (b:=g.ib) (o:=g.io) (.inr ⟨rfl,Nat.le_refl _,by have:=Nat.mul_pos hn.ic EJ.pos;omega⟩)
 have hicl:=hn.sl.hle
 have hpi:=hn.ne
 have hk0:=hk
 have hcl0:g.cb<H.size:=cl_lt hk.c
 have hkl:g.kb<H.size:=hk.lt (b:=g.kb) (o:=g.ko) (.inr ⟨rfl,Nat.le_refl _,by have:=hk.kc;omega⟩)
 have hkcl:=hk.sl.hle
 rw [List.length_map] at hkcl
 obtain ⟨hc1,hc2,hc3,hc4,hc5⟩:=And.intro hk.n1 (And.intro hk.n2 (And.intro hk.n3 (And.intro hk.n4 hk.n5)))
 refine fn_of func92 rfl ntmps92 ?_
 refine (show Go' _ _ _ _ 95 [(0,_),(1,_)] [.code _] _ from ?_)
 refine Ut 1 rfl ?_
 have hq0:=hq
 refine Ur 2 8 rfl (Uq 1 rfl (O.alloc rfl rfl rfl zeroValue27 ?_))
 intro H1 M1
 refine ⟨trivial,?_⟩
 have hs1:=M1.size
 replace hn:=NodeM.fr EJ hn (M1.fr nowhere) (fun _ _ _=>nw)
 replace ht:=ht.fr (M1.fr nowhere) (fun _ _ _ _=>nw)
 have mw:Wr H1 H.size 0 2:=M1.wr 2 (by decide)
 have hF1:=M1.fr nowhere
 replace hk:=hk.fr (M1.fr nowhere) (fun _ _ _=>nw)
 replace hq:=fun q hh=>And.intro (M1.keep (hq q hh).1) (hq q hh).2
 refine Uf 0 [0,1,4,5] rfl (Ut 1 rfl (Ur 6 64 rfl (Ul 3 rfl ht.mx' (O.quo ((mn:Int)) rfl rfl rfl rfl rfl rfl (by decide) (by rw [Int.tdiv_eq_ediv_of_nonneg (by omega)];omega) (by omega) (Uf 1 [0,1,4,5,6] rfl (Ut 1 rfl (Ur 8 36928 rfl (Ul 3 rfl hn.c2 (Ux 1 mn rfl (by omega) (by omega) (Us 0 rfl (hn.sl.item hmed) rfl (O.st rfl rfl sizeOf27 rfl rfl rfl rfl rfl mw ?_)))))))))))
 intro H2 W2
 have hs2:=W2.size
 replace hn:=NodeM.fr EJ hn W2.fr (fun b o hb=>nr (.inl (by have:=NodeM.lt hn0 hb;omega)))
 replace ht:=ht.fr W2.fr (fun b o hb _=>nr (.inl (by omega)))
 replace mw:=W2.fr.wr mw
 have mr:=W2.all
 have hF2:=hF1.trans' W2.fr (Z:=nowhere) (fun _ _ _ h=>h) (fun b o hb h=>by simp only [rng] at h;omega)
 replace hk:=hk.fr W2.fr (fun b o hb=>nr (.inl (by have:=hk0.lt hb;omega)))
 replace hq:=fun q hh=>And.intro (W2.fr.keep (hq q hh).1 (nr (.inl (by have:=cl_lt (hq0 q hh).1;omega)))) (hq q hh).2
 refine ⟨trivial,?_⟩
 refine Uf 0 [0,1,4,5,6] rfl (Ut 1 rfl (Ur 5 160 rfl (Uq 2 rfl (O.callQ rfl rfl rfl call62 rfl (leaf_spec hn.c3) trivial (O.call rfl rfl rfl call90 rfl (newInner_spec ht.iso) ?_)))))
 rintro _ H3 hR3
 obtain ⟨rfl,hs3,F3,q0,q1,q2,q3,qw,qh,qhw⟩:=hR3
 have hql:H.size<H2.size:=by omega
 generalize hqe:H2.size=q at*
 replace hn:=NodeM.fr EJ hn F3 (fun _ _ _=>nw)
 replace ht:=ht.fr F3 (fun _ _ _ _=>nw)
 replace mw:=F3.wr mw
 replace mr:=F3.rd mr (fun _ _=>nw)
 have hF3:=hF2.trans F3
 replace hk:=hk.fr F3 (fun _ _ _=>nw)
 replace hq:=fun q hh=>And.intro (F3.keep (hq q hh).1 nw) (hq q hh).2
 unfold ptr at q3
 refine ⟨trivial,?_⟩
 refine Uf 1 [0,1,4,5,6] rfl (Ut 1 rfl (Ur 11 2097408 rfl (Ul 4 rfl hn.c2 (Ua 1 (((mn+1:Nat):Int)) rfl (by omega) (O.slc (jl:=mn+1) (jh:=X.length) (jm:=g.ic) rfl rfl rfl rfl underlying25 sizeOf27 rfl rfl rfl ⟨_,by rfl⟩ (by omega) (by omega) (by omega) (by simp) ?_)))))
 intro o4 ho4
 obtain rfl:=ho4 (by omega)
 refine Uq 2 rfl (O.st rfl rfl sizeOf25 rfl rfl rfl rfl rfl (qw.at0 2 1 (by omega)) ?_)
 intro H4 W4
 have hs4:=W4.size
 replace hn:=NodeM.fr EJ hn W4.fr (fun b o hb=>nr (.inl (by have:=NodeM.lt hn0 hb;omega)))
 replace ht:=ht.fr W4.fr (fun b o hb _=>nr (.inl (by omega)))
 replace mr:=W4.fr.rd mr (fun i _=>nr (.inl (by omega)))
 replace mw:=W4.fr.wr mw
 replace qw:=W4.fr.wr qw
 replace q0:=W4.keep1 q0 (by omega)
 replace q1:=W4.keep1 q1 (by omega)
 replace q2:=W4.at
 replace q3:=W4.keep1 q3 (by omega)
 have hF4:=hF3.trans' W4.fr (Z:=nowhere) (fun _ _ _ h=>h) (fun b o hb h=>by simp only [rng] at h;omega)
 replace hk:=hk.fr W4.fr (fun b o hb=>nr (.inl (by have:=hk0.lt hb;omega)))
 replace hq:=fun q hh=>And.intro (W4.fr.keep (hq q hh).1 (nr (.inl (by have:=cl_lt (hq0 q hh).1;omega)))) (hq q hh).2
 replace qh:=W4.keep1 qh (by omega)
 replace qhw:=W4.fr.wr qhw
 refine ⟨trivial,?_⟩
 refine Uf 0 [0,1,4,5,6] rfl (Ut 2 rfl (Ur 3 8 rfl (Uq 1 rfl (O.callQ rfl rfl rfl call62 rfl (leaf_spec hn.c3) trivial (Uf 1 [0,1,4,5,6,35] rfl (Go'.condT rfl (Ud 15 805584960 (by kernel_rfl) (Ul 3 rfl q3 (Ul 3 rfl hn.c3 (Ul 1 rfl hk.c (Ua 1 (((mn+1:Nat):Int)) rfl (by omega) ?_)))))))))))
 refine O.slc (jl:=mn+1) (jh:=ks.length) (jm:=g.kc) rfl rfl rfl rfl underlying121 sizeOf107 rfl rfl rfl ⟨_,by rfl⟩ (by omega) (by omega) (by omega) (by simp) ?_
 intro o5 ho5
 obtain rfl:=ho5 (by omega)
 rw [Nat.mul_one]
 refine Uq 1 rfl (O.st3 rfl rfl sizeOf121 rfl rfl rfl rfl rfl qhw ?_)
 intro H5 W5
 have hs5:=W5.size
 replace hn:=NodeM.fr EJ hn W5.fr (fun b o hb=>nr (.inl (by have:=NodeM.lt hn0 hb;omega)))
 replace ht:=ht.fr W5.fr (fun b o hb _=>nr (.inl (by omega)))
 replace mr:=W5.fr.rd mr (fun i _=>nr (.inl (by omega)))
 replace mw:=W5.fr.wr mw
 replace qw:=W5.fr.wr qw
 replace qhw:=W5.fr.wr qhw
 replace q0:=W5.keep1 q0 (by omega)
 replace q1:=W5.keep1 q1 (by omega)
 replace q2:=W5.keep1 q2 (by omega)
 replace q3:=W5.keep1 q3 (by omega)
 replace qh:=W5.at
 have hF5:=hF4.trans' W5.fr (Z:=nowhere) (fun _ _ _ h=>h) (fun b o hb h=>by simp only [rng] at h;omega)
 replace hk:=hk.fr W5.fr (fun b o hb=>nr (.inl (by have:=hk0.lt hb;omega)))
 replace hq:=fun q hh=>And.intro (W5.fr.keep (hq q hh).1 (nr (.inl (by have:=cl_lt (hq0 q hh).1;omega)))) (hq q hh).2
 refine Uf 0 [0,1,4,5,6] rfl (Ut 1 rfl ?_)
 have hdl:(ks.drop (mn+1)).length=ks.length-(mn+1):=List.length_drop
 have slR:SlE EP H5 g.kb (g.ko+(mn+1)) (g.kc-(mn+1)) ((ks.drop (mn+1)).map some):=by
  have:=hk.sl.right (i:=mn+1) (by rw [List.length_map];omega)
  rw [show EP.s=1 from rfl,Nat.mul_one,←List.map_drop] at this
  exact this
 have hsumR:mn+((ks.drop (mn+1)).map cn).sum<9223372036854775808:=by
  have:(ks.map cn).sum=((ks.take (mn+1)).map cn).sum+((ks.drop (mn+1)).map cn).sum:=by
   rw [←List.sum_append,←List.map_append,List.take_append_drop]
  omega
 rw [←hdl] at qh
 have exl:X.length-(mn+1)=mn:=by omega
 refine Ur 2 8 rfl (Uq 1 rfl (O.call rfl rfl rfl call93 rfl (updInner_spec cn (qw.at0 1 1 (by omega)) q2 q3 qh slR (fun z hz=>⟨(hq z (List.mem_of_mem_drop hz)).1,fun e=>by have:=cl_lt (hq0 z (List.mem_of_mem_drop hz)).1;omega⟩) (by omega) (by rw [exl];exact hsumR) (by omega)) ?_))
 rintro _ H6 ⟨F6,hs6,q1'⟩
 rw [exl] at q1'
 replace q1:=q1'
 replace hn:=NodeM.fr EJ hn F6 (fun b o hb=>nr (.inl (by have:=NodeM.lt hn0 hb;omega)))
 replace ht:=ht.fr F6 (fun b o hb _=>nr (.inl (by omega)))
 replace mr:=F6.rd mr (fun i _=>nr (.inl (by omega)))
 replace mw:=F6.wr mw
 replace qw:=F6.wr qw
 replace qhw:=F6.wr qhw
 replace q0:=F6.keep q0 (nr (by omega))
 replace q2:=F6.keep q2 (nr (by omega))
 replace q3:=F6.keep q3 (nr (by omega))
 replace qh:=F6.keep qh (nr (by omega))
 have hF6:=hF5.trans' F6 (Z:=nowhere) (fun _ _ _ h=>h) (fun b o hb h=>by simp only [rng] at h;omega)
 replace hk:=hk.fr F6 (fun b o hb=>nr (.inl (by have:=hk0.lt hb;omega)))
 replace hq:=fun q hh=>And.intro (F6.keep (hq q hh).1 (nr (.inl (by have:=cl_lt (hq0 q hh).1;omega)))) (hq q hh).2
 refine ⟨trivial,?_⟩
 refine Uf 0 [0,1,4,5,6] rfl (Ut 1 rfl ?_)
 have slL:SlE EJ H6 g.ib g.io mn (X.take mn):=hn.sl.left (by omega)
 have slX:SlE EJ H6 g.ib (g.io+(mn+1)*2) (g.ic-(mn+1)) (X.drop (mn+1)):=hn.sl.right (by omega)
 obtain ⟨c0,c1,c2,c3,cw⟩:=And.intro hn.c0 (And.intro hn.c1 (And.intro hn.c2 (And.intro hn.c3 hn.wr)))
 have mwr:=hn.sl.wri (i:=mn) (by omega)
 refine Ud 11 3211328 (by kernel_rfl) (Ul 3 rfl hn.c2 (Us 4 rfl ht.emp rfl (Ux 0 mn rfl (by omega) (by omega) (O.st3 rfl rfl sizeOf27 rfl rfl rfl rfl rfl mwr ?_))))
 intro H8 W8
 have hs8:=W8.size
 have F8:=W8.fr' 2 rfl
 replace slL:=slL.fr F8 (fun i h1 h2=>nr (by have e:EJ.s=2:=rfl;rw [e] at h2;omega))
 replace slX:=slX.fr F8 (fun i h1 h2=>nr (by omega))
 replace c0:=W8.fr.keep c0 (nr (by omega))
 replace c1:=W8.fr.keep c1 (nr (by omega))
 replace c2:=W8.fr.keep c2 (nr (by omega))
 replace c3:=W8.fr.keep c3 (nr (by omega))
 replace ht:=ht.fr W8.fr (fun b o hb _=>nr (.inl (by omega)))
 replace mr:=W8.fr.rd mr (fun i _=>nr (.inl (by omega)))
 replace mw:=W8.fr.wr mw
 replace qw:=W8.fr.wr qw
 replace q0:=W8.fr.keep q0 (nr (.inl (by omega)))
 replace q1:=W8.fr.keep q1 (nr (.inl (by omega)))
 replace q2:=W8.fr.keep q2 (nr (.inl (by omega)))
 replace q3:=W8.fr.keep q3 (nr (.inl (by omega)))
 replace cw:=W8.fr.wr cw
 replace qh:=W8.fr.keep qh (nr (.inl (by omega)))
 replace qhw:=W8.fr.wr qhw
 have hF8:Fr (fun b o=>ncl EJ g b o∨kcl g b o) H H8:=hF6.trans' W8.fr (fun _ _ _ h=>h.elim) (fun b o hb h=>.inl (.inr ⟨h.1,by have:=h.2.1;omega,by
  have h2:=h.2.2
  have h3:(mn+1)*2≤g.ic*2:=Nat.mul_le_mul_right 2 (by omega)
  simp only [List.length_cons,List.length_nil] at h2
  have e:EJ.s=2:=rfl
  rw [e]
  omega⟩))
 replace hk:=hk.fr W8.fr (fun b o hb=>nr (.inl (by rcases hb with ⟨rfl,_⟩|⟨rfl,_⟩<;>omega)))
 replace hq:=fun q hh=>And.intro (W8.fr.keep (hq q hh).1 (nr (by have h7:=(hq q hh).2.2.1;have h8:(mn+1)*2≤g.ic*2:=Nat.mul_le_mul_right 2 (by omega);have h9:(EJ.enc X[X.length-1]).length=2:=rfl;simp only [List.length_cons,List.length_nil];omega))) (hq q hh).2
 refine Uf 0 [1,4,5,6] rfl (Ut 1 rfl (Ur 11 2097408 rfl (Ul 4 rfl c2 (Uq 2 rfl (O.slc (jl:=0) (jh:=mn) (jm:=mn) rfl rfl rfl rfl underlying25 sizeOf27 rfl ⟨_,by rfl⟩ ⟨_,by rfl⟩ rfl (by omega) (by omega) (by omega) (by simp) ?_)))))
 intro o9 ho9
 obtain rfl:=ho9 (by omega)
 rw [Nat.zero_mul,Nat.add_zero,Nat.sub_zero]
 refine Uq 2 rfl (O.st rfl rfl sizeOf25 rfl rfl rfl rfl rfl (cw.at0 2 1 (by omega)) ?_)
 intro H9 W9
 have hs9:=W9.size
 replace slL:=slL.fr W9.fr (fun i h1 h2=>nr (.inl (Ne.symm hpi)))
 replace slX:=slX.fr W9.fr (fun i h1 h2=>nr (.inl (Ne.symm hpi)))
 replace c0:=W9.keep1 c0 (by omega)
 replace c1:=W9.keep1 c1 (by omega)
 replace c2:=W9.at
 replace c3:=W9.keep1 c3 (by omega)
 replace ht:=ht.fr W9.fr (fun b o hb _=>nr (.inl (by omega)))
 replace mr:=W9.fr.rd mr (fun i _=>nr (.inl (by omega)))
 replace mw:=W9.fr.wr mw
 replace qw:=W9.fr.wr qw
 replace q0:=W9.fr.keep q0 (nr (.inl (by omega)))
 replace q1:=W9.fr.keep q1 (nr (.inl (by omega)))
 replace q2:=W9.fr.keep q2 (nr (.inl (by omega)))
 replace q3:=W9.fr.keep q3 (nr (.inl (by omega)))
 replace cw:=W9.fr.wr cw
 replace qh:=W9.fr.keep qh (nr (.inl (by omega)))
 replace qhw:=W9.fr.wr qhw
 have hF9:Fr (fun b o=>ncl EJ g b o∨kcl g b o) H H9:=hF8.trans' W9.fr (fun _ _ _ h=>h) (fun b o hb h=>.inl (.inl ⟨h.1,by have h2:=h.2.2;simp only [List.length_cons,List.length_nil] at h2;omega⟩))
 replace hk:=hk.fr W9.fr (fun b o hb=>nr (.inl (by rcases hb with ⟨rfl,_⟩|⟨rfl,_⟩<;>omega)))
 replace hq:=fun q hh=>And.intro (W9.fr.keep (hq q hh).1 (nr (.inl (hq q hh).2.1))) (hq q hh).2
 refine ⟨trivial,?_⟩
 refine Uf 0 [1,4,5,6] rfl (Ut 2 rfl (Ur 3 8 rfl (Uq 1 rfl (O.callQ rfl rfl rfl call62 rfl (leaf_spec c3) trivial (Uf 1 [1,4,5,6,74] rfl (Go'.condT rfl ?_))))))
 have slKL:SlE EP H9 g.kb g.ko (mn+1) ((ks.take (mn+1)).map some):=by
  have:=hk.sl.left (i:=mn+1) (by rw [List.length_map];omega)
  rw [←List.map_take] at this
  exact this
 have slKR:SlE EP H9 g.kb (g.ko+(mn+1)) (g.kc-(mn+1)) ((ks.drop (mn+1)).map some):=by
  have:=hk.sl.right (i:=mn+1) (by rw [List.length_map];omega)
  rw [show EP.s=1 from rfl,Nat.mul_one,←List.map_drop] at this
  exact this
 have kw:=hk.wr
 refine Ud 17 12885180480 (by kernel_rfl) (Ul 3 rfl c3 (Ul 3 rfl c3 (Ul 1 rfl hk.c (Ua 1 (((mn+1:Nat):Int)) rfl (by omega) (Ua 1 (((mn+1:Nat):Int)) rfl (by omega) (O.slc (jl:=0) (jh:=mn+1) (jm:=mn+1) rfl rfl rfl rfl underlying121 sizeOf107 rfl ⟨_,by rfl⟩ ⟨_,by rfl⟩ rfl (by omega) (by omega) (by omega) (by simp) ?_))))))
 intro o11 ho11
 obtain rfl:=ho11 (by omega)
 rw [Nat.zero_mul,Nat.add_zero,Nat.sub_zero]
 refine Uq 1 rfl (O.st3 rfl rfl sizeOf121 rfl rfl rfl rfl rfl kw ?_)
 intro H11 W11
 have hs11:=W11.size
 replace slL:=slL.fr W11.fr (fun i h1 h2=>nr (.inl (by omega)))
 replace slX:=slX.fr W11.fr (fun i h1 h2=>nr (.inl (by omega)))
 replace slKL:=slKL.fr W11.fr (fun i h1 h2=>nr (.inl (by omega)))
 replace slKR:=slKR.fr W11.fr (fun i h1 h2=>nr (.inl (by omega)))
 have kh:=W11.at
 replace kw:=W11.fr.wr kw
 replace c0:=W11.fr.keep c0 (nr (.inl (by omega)))
 replace c1:=W11.fr.keep c1 (nr (.inl (by omega)))
 replace c2:=W11.fr.keep c2 (nr (.inl (by omega)))
 replace c3:=W11.fr.keep c3 (nr (.inl (by omega)))
 replace mr:=W11.fr.rd mr (fun i _=>nr (.inl (by omega)))
 replace mw:=W11.fr.wr mw
 replace qw:=W11.fr.wr qw
 replace q0:=W11.fr.keep q0 (nr (.inl (by omega)))
 replace q1:=W11.fr.keep q1 (nr (.inl (by omega)))
 replace q2:=W11.fr.keep q2 (nr (.inl (by omega)))
 replace q3:=W11.fr.keep q3 (nr (.inl (by omega)))
 replace cw:=W11.fr.wr cw
 replace qh:=W11.fr.keep qh (nr (.inl (by omega)))
 replace qhw:=W11.fr.wr qhw
 have hF11:Fr (fun b o=>ncl EJ g b o∨kcl g b o) H H11:=hF9.trans' W11.fr (fun _ _ _ h=>h) (fun b o hb h=>.inr (.inl ⟨h.1,by have h2:=h.2.2;simp only [List.length_cons,List.length_nil] at h2;omega⟩))
 replace hq:=fun q hh=>And.intro (W11.fr.keep (hq q hh).1 (nr (.inl (hq q hh).2.2.2))) (hq q hh).2
 have htl2:(ks.take (mn+1)).length=mn+1:=by rw [List.length_take];omega
 have hsumL:mn+((ks.take (mn+1)).map cn).sum<9223372036854775808:=by
  have:(ks.map cn).sum=((ks.take (mn+1)).map cn).sum+((ks.drop (mn+1)).map cn).sum:=by
   rw [←List.sum_append,←List.map_append,List.take_append_drop]
  omega
 refine Uf 0 [1,4,5] rfl (Ut 1 rfl ?_)
 rw [←htl2] at kh
 refine Ur 2 8 rfl (Uq 1 rfl (O.call rfl rfl rfl call93 rfl (updInner_spec cn (cw.at0 1 1 (by omega)) c2 c3 (kc:=mn+1) (by rw [htl2] at kh ⊢;exact kh) slKL (fun z hz=>⟨(hq z (List.mem_of_mem_take hz)).1,(hq z (List.mem_of_mem_take hz)).2.1⟩) (by omega) hsumL (by omega)) ?_))
 rintro _ H12 ⟨F12,hs12,c1'⟩
 replace c1:=c1'
 replace slL:=slL.fr F12 (fun i h1 h2=>nr (.inl (by omega)))
 replace slX:=slX.fr F12 (fun i h1 h2=>nr (.inl (by omega)))
 replace slKL:=slKL.fr F12 (fun i h1 h2=>nr (.inl (by omega)))
 replace slKR:=slKR.fr F12 (fun i h1 h2=>nr (.inl (by omega)))
 replace kh:=F12.keep kh (nr (.inl (by omega)))
 replace kw:=F12.wr kw
 replace c0:=F12.keep c0 (nr (by omega))
 replace c2:=F12.keep c2 (nr (by omega))
 replace c3:=F12.keep c3 (nr (by omega))
 replace mr:=F12.rd mr (fun i _=>nr (.inl (by omega)))
 replace mw:=F12.wr mw
 replace qw:=F12.wr qw
 replace q0:=F12.keep q0 (nr (.inl (by omega)))
 replace q1:=F12.keep q1 (nr (.inl (by omega)))
 replace q2:=F12.keep q2 (nr (.inl (by omega)))
 replace q3:=F12.keep q3 (nr (.inl (by omega)))
 replace cw:=F12.wr cw
 replace qh:=F12.keep qh (nr (.inl (by omega)))
 replace qhw:=F12.wr qhw
 have hF12:Fr (fun b o=>ncl EJ g b o∨kcl g b o) H H12:=hF11.trans' F12 (fun _ _ _ h=>h) (fun b o hb h=>.inl (.inl ⟨h.1,by have h2:=h.2.2;omega⟩))
 refine ⟨trivial,?_⟩
 refine Uf 0 [4,5] rfl (Ut 1 rfl (Ud 4 196 (by kernel_rfl) (Us 1 rfl mr rfl (Uq 1 rfl (O.st3 rfl rfl sizeOf27 rfl rfl rfl rfl rfl mw ?_)))))
 intro H13 W13
 have hs13:=W13.size
 replace slL:=slL.fr W13.fr (fun i h1 h2=>nr (.inl (by omega)))
 replace slX:=slX.fr W13.fr (fun i h1 h2=>nr (.inl (by omega)))
 replace c0:=W13.fr.keep c0 (nr (.inl (by omega)))
 replace c1:=W13.fr.keep c1 (nr (.inl (by omega)))
 replace c2:=W13.fr.keep c2 (nr (.inl (by omega)))
 replace c3:=W13.fr.keep c3 (nr (.inl (by omega)))
 replace q0:=W13.fr.keep q0 (nr (.inl (by omega)))
 replace q1:=W13.fr.keep q1 (nr (.inl (by omega)))
 replace q2:=W13.fr.keep q2 (nr (.inl (by omega)))
 replace q3:=W13.fr.keep q3 (nr (.inl (by omega)))
 replace qw:=W13.fr.wr qw
 replace cw:=W13.fr.wr cw
 have hF13:Fr (fun b o=>ncl EJ g b o∨kcl g b o) H H13:=hF12.trans' W13.fr (fun _ _ _ h=>h) (fun b o hb h=>by simp only [rng] at h;omega)
 replace slKL:=slKL.fr W13.fr (fun i h1 h2=>nr (.inl (by omega)))
 replace slKR:=slKR.fr W13.fr (fun i h1 h2=>nr (.inl (by omega)))
 replace kh:=W13.fr.keep kh (nr (.inl (by omega)))
 replace kw:=W13.fr.wr kw
 replace qh:=W13.fr.keep qh (nr (.inl (by omega)))
 replace qhw:=W13.fr.wr qhw
 refine Uf 0 [4,5] rfl (Go'.ret (vs:=[_,_]) func92 results92 ⟨rfl,⟨_,_,rfl,fun _ _=>run_loadVar_agg (fun w=>⟨isAgg27 w,sizeOf27 w⟩) rfl W13.all⟩,trivial⟩ ?_)
 have e1:(X.take mn).length=mn:=by rw [List.length_take];omega
 have e2:(X.drop (mn+1)).length=mn:=by rw [List.length_drop];omega
 rw [htl2,Nat.add_zero] at kh
 refine ⟨q,rfl,by omega,by omega,hF13,⟨c0,c1,?_,c3,cw,slL,by show 0<mn;omega,hpi⟩,⟨by rw [htl2];exact kh,kw,slKL,by show 0<mn+1;omega,hc1,hc2,hc3,hc4,hc5⟩,⟨q0,q1,?_,q3,qw,slX,by show 0<g.ic-(mn+1);omega,by show q≠g.ib;omega⟩,⟨qh,qhw,slKR,by show 0<g.kc-(mn+1);omega,by show q+1≠g.kb;omega,by show q≠q+1;omega,by show q≠g.kb;omega,by show g.ib≠q+1;omega,hc5⟩⟩
 · rw [e1];exact c2
 · rw [List.length_drop];exact q2
end Go.Bt.FG
namespace Go.Bt.FG
open Go Go.Proofs Go.Proofs.Try
set_option maxRecDepth 20000
set_option maxHeartbeats 4000000
set_option linter.unusedSectionVars false
variable [Inhabited Cx]
theorem run_shr1 (t:TypeId) (x y:Operand) (a:Nat) (w:World):(eqGuard .shr t x y (.int .u64 (a:Int)) (.int .u64 1)).run Try.prog w=.ok () w∧(binOp .shr t (.int .u64 (a:Int)) (.int .u64 1)).run Try.prog w=.ok (.int .u64 ((a / 2:Nat):Int)) w:=by
 refine ⟨run_eqGuard_int _ _ _ _ _ _ _ _ w,?_⟩
 simp only [binOp,Op.shift]
 rw [if_neg (by omega)]
 simp only [Sem.run_pure]
 congr 2
 show (a:Int).fdiv (2 ^ 1)=_
 rw [Int.fdiv_eq_ediv_of_nonneg _ (by decide)]
 rfl
theorem bsearch_spec {B:World} {H:Mem} {tr id mx mn:Nat} (tc:TrC H tr id mx mn) {g:Ng} {X:List (Int×Int)} {kp:Value} (x:Int×Int) (hn:NodeM EJ H g X kp) (hs:Pl.Srt OI X) (hl:X.length≤255):
  Fn Try.prog B 84 [.pointer (some ⟨tr,0,none⟩),.pointer (some ⟨g.p,0,none⟩),.agg (EJ.enc x).toArray] H (fun v H'=>v=.tuple #[.int .i64 ((Pl.pos OI x X:Nat):Int),.bool (Pl.fnd OI x X)]∧Fr nowhere H H'):=by
 refine fn_of func84 rfl ntmps84 ?_
 refine (show Go' _ _ _ _ 64 [(0,_),(1,_),(2,_)] [.code _] _ from ?_)
 refine Ut 1 rfl (Ur 3 2 rfl (O.box rfl rfl rfl rfl ?_))
 intro H1 M1
 refine ⟨trivial,?_⟩
 have hF1:=M1.fr nowhere
 have hs1:=M1.size
 replace tc:=tc.fr hF1 (fun _ _ _ _=>nw)
 replace hn:=NodeM.fr EJ hn hF1 (fun _ _ _=>nw)
 have mk:Rd H1 H.size 0 (EJ.enc x):=M1.rd _ [] (by simp [Value.cells])
 refine Uf 2 [0,1,5,6,7] rfl (Ut 1 rfl (Ud 7 64 (by kernel_rfl) (Ul 3 rfl hn.c2 (Uf 3 [0,1,5,6,7,8,9] rfl (Ut 2 rfl (Go'.loop (Uk [0,1,5,8,9] rfl ?_)))))))
 refine Go'.ind (σ:=Nat×Nat) (fun s=>s.2-s.1) (fun s H'=>Fr nowhere H1 H'∧s.1≤s.2∧s.2≤X.length∧(∀j y,X[j]?=some y→j<s.1→OI.lt x y=false)∧(∀j y,X[j]?=some y→s.2≤j→OI.lt x y=true))
  (fun s=>[(0,.pointer (some ⟨tr,0,none⟩)),(1,.pointer (some ⟨g.p,0,none⟩)),(5,.pointer (some ⟨H.size,0,none⟩)),(8,.int .i64 (s.1:Int)),(9,.int .i64 (s.2:Int))]) (0,X.length) ⟨Fr.refl _ _,Nat.zero_le _,Nat.le_refl _,fun j y _ h=>by simp at h,fun j y h1 h2=>by
   have:=(List.getElem?_eq_some_iff.1 h1).1;simp only at h2;omega⟩ rfl ?_
 rintro ⟨lo,hi⟩ H2 ⟨hF2,hlh,hhl,hlo,hhi⟩ ih
 simp only at hlh hhl hlo hhi
 replace tc:=tc.fr hF2 (fun _ _ _ _=>nw)
 replace hn:=NodeM.fr EJ hn hF2 (fun _ _ _=>nw)
 replace mk:=hF2.rd mk (fun _ _=>nw)
 refine Ut 2 rfl ?_
 by_cases hlt:lo<hi
 ·
  refine Ur 3 0 rfl (Uc 2 rfl (lssT (by omega)) (Uf 0 [0,1,5,8,9,18] rfl (Go'.condT rfl (Ut 3 rfl (Ur 7 2176 rfl (Ua 2 (((lo+hi:Nat):Int)) rfl (by omega) (O.cvk .u64 (v:=((lo+hi:Nat):Int)) rfl rfl rfl (by rw [underlying3];rfl) underlying160 rfl rfl (wrap_idU (by omega)) trivial (O.bin rfl rfl rfl rfl rfl rfl (run_shr1 _ _ _ (lo+hi)) (O.cvi (v:=(((lo+hi) / 2:Nat):Int)) rfl rfl rfl (by rw [underlying160];rfl) underlying3 rfl rfl (wrap_id (by omega)) trivial (Uf 1 [0,1,5,8,9,10,18] rfl (Ut 1 rfl ?_)))))))))))
  obtain ⟨y,hy⟩:∃y,X[(lo+hi) / 2]?=some y:=⟨X[(lo+hi) / 2],by simp⟩
  refine Ud 14 37814592 (by kernel_rfl) (Ul 3 rfl tc.le (Us 0 rfl mk rfl (Ul 3 rfl hn.c2 (Ux 1 ((lo+hi) / 2) rfl (by omega) (by omega) (Us 0 rfl (hn.sl.item hy) rfl (O.callC rfl rfl rfl rfl call72 rfl (less_spec tc x y) ?_))))))
  rintro _ H3 ⟨rfl,hF3⟩
  replace hF2:=hF2.trans hF3
  refine ⟨trivial,?_⟩
  refine Uf 1 [0,1,5,8,9,10,18,38] rfl ?_
  cases hky:OI.lt x y
  ·
   refine Go'.condT rfl (Ur 3 0 rfl (Ua 1 (((((lo+hi) / 2)+1:Nat):Int)) rfl (by omega) (Uf 1 [0,1,5,8,9,10,18,38] rfl (Ut 1 rfl (Uk [0,1,5,8,9] rfl (Go'.inLoop ?_))))))
   exact ih ((lo+hi) / 2+1,hi) H3 ⟨hF2,by simp only;omega,hhl,fun j z hz hj=>by
    simp only at hj
    have hjl:=(List.getElem?_eq_some_iff.1 hz).1
    rcases Nat.lt_or_ge j ((lo+hi) / 2) with h|h
    ·
     have h2:=List.pairwise_iff_getElem.1 hs j ((lo+hi) / 2) hjl (by omega) h
     rw [(List.getElem?_eq_some_iff.1 hz).2,(List.getElem?_eq_some_iff.1 hy).2] at h2
     exact OI.ntr hky (OI.asy h2)
    ·
     have:j=(lo+hi) / 2:=by omega
     subst this
     rw [hy] at hz
     cases hz
     exact hky,hhi⟩ (by simp only;omega)
  ·
   refine Go'.condF rfl (Ur 2 0 rfl (Uf 2 [0,1,5,8,9,10,18,38] rfl (Ut 1 rfl (Uk [0,1,5,8,9] rfl (Go'.inLoop ?_)))))
   exact ih (lo,(lo+hi) / 2) H3 ⟨hF2,by simp only;omega,by simp only;omega,hlo,fun j z hz hj=>by
    simp only at hj
    have hjl:=(List.getElem?_eq_some_iff.1 hz).1
    rcases Nat.lt_or_ge ((lo+hi) / 2) j with h|h
    ·
     have h2:=List.pairwise_iff_getElem.1 hs ((lo+hi) / 2) j (by omega) hjl h
     rw [(List.getElem?_eq_some_iff.1 hz).2,(List.getElem?_eq_some_iff.1 hy).2] at h2
     exact OI.trans hky h2
    ·
     have:j=(lo+hi) / 2:=by omega
     subst this
     rw [hy] at hz
     cases hz
     exact hky⟩ (by simp only;omega)
 ·
  obtain rfl:hi=lo:=by omega
  refine Ur 3 0 rfl (Uc 2 rfl (lssF (by omega)) (Uf 0 [0,1,5,8,9,18] rfl (Go'.condF rfl (Ut 3 rfl ?_))))
  by_cases h0:0<hi
  ·
   obtain ⟨y,hy⟩:∃y,X[hi-1]?=some y:=⟨X[hi-1],by simp⟩
   have hyk:=hlo (hi-1) y hy (by omega)
   refine Ud 19 9933164544 (by kernel_rfl) (Uc 1 rfl (gtrT (by omega)) (Ul 4 rfl tc.le (Ul 3 rfl hn.c2 (Ub 1 (((hi-1:Nat):Int)) rfl (by omega) (Ux 0 (hi-1) rfl (by omega) (by omega) (Us 0 rfl (hn.sl.item hy) rfl (Us 0 rfl mk rfl (O.callC rfl rfl rfl rfl call72 rfl (less_spec tc y x) ?_))))))))
   rintro _ H3 ⟨rfl,hF3⟩
   replace hF2:=hF2.trans hF3
   refine ⟨trivial,?_⟩
   refine Uf 2 [8,60] rfl ?_
   cases hky:OI.lt y x
   ·
    refine Go'.condT rfl (Ut 1 rfl (Ur 4 0 rfl (Ub 1 (((hi-1:Nat):Int)) rfl (by omega) (Uf 2 [6,7,8] rfl (Go'.ret (vs:=[_,_]) func84 results84 ⟨rfl,rfl,trivial⟩ ?_)))))
    obtain ⟨e1,e2⟩:=Pl.search_found OI (x:=x) hs hy hky hyk
    rw [e1,e2];exact ⟨rfl,hF1.trans hF2⟩
   ·
    refine Go'.condF rfl (Ut 2 rfl (Ur 3 0 rfl (Uf 3 [6,7] rfl (Go'.ret (vs:=[_,_]) func84 results84 ⟨rfl,rfl,trivial⟩ ?_))))
    obtain ⟨e1,e2⟩:=Pl.search_none OI (x:=x) hs hhl (fun z _ hz=>by rw [hy] at hz;cases hz;exact hky) (fun z hz=>hhi hi z hz (Nat.le_refl _))
    rw [e1,e2];exact ⟨rfl,hF1.trans hF2⟩
  ·
   obtain rfl:hi=0:=by omega
   refine Ud 19 9933164544 (by kernel_rfl) (Uc 1 rfl (gtrF (by omega)) (Uq 14 rfl (Pl.pass2 rfl rfl rfl rfl trivial (Uf 2 [8,60] rfl (Go'.condF rfl (Ut 2 rfl (Ur 3 0 rfl (Uf 3 [6,7] rfl (Go'.ret (vs:=[_,_]) func84 results84 ⟨rfl,rfl,trivial⟩ ?_)))))))))
   obtain ⟨e1,e2⟩:=Pl.search_none OI (x:=x) hs hhl (fun z h _=>absurd rfl h) (fun z hz=>hhi 0 z hz (Nat.le_refl _))
   rw [e1,e2];exact ⟨rfl,hF1.trans hF2⟩
end Go.Bt.FG
namespace Go.Bt.FG
open Go Go.Proofs Go.Proofs.Try
set_option maxRecDepth 20000
set_option maxHeartbeats 4000000
set_option linter.unusedSectionVars false
variable [Inhabited Cx]
theorem offB_node {g:Ng} {n:Nat} (hc:0<g.ic) (h:∀b o,ncl EJ g b o→n≤b):n≤g.p∧n≤g.ib:=
 ⟨h g.p 0 (.inl ⟨rfl,by omega⟩),h g.ib g.io (.inr ⟨rfl,Nat.le_refl _,by have:=Nat.mul_pos hc EJ.pos;omega⟩)⟩
theorem offB_kids {g:Ng} {n:Nat} (hc:0<g.kc) (h:∀b o,kcl g b o→n≤b):n≤g.cb∧n≤g.kb:=
 ⟨h g.cb 0 (.inl ⟨rfl,by omega⟩),h g.kb g.ko (.inr ⟨rfl,Nat.le_refl _,by omega⟩)⟩
def PV:Option (Int×Int)→Value:=fun o=>.agg (EJ.enc (o.getD (0,0))).toArray
structure NPre (H:Mem) (tr:Nat) (P:Ps) (h:Nat) (t:Gt EJ h) (bp op:Nat):Prop where
 tc:TrC H tr P.iso P.mx P.mn
 g:Gt.Good H P h t
 c:cl H bp op=some (ptr (Gt.p h t))
 nt:∀b o,Gt.af h t b o→cx.base≤b
 srt:Pl.Srt OI (Gt.L h t)
 len:(Gt.L h t).length<4611686018427387904
def SetQ (H:Mem) (P:Ps) (h:Nat) (t:Gt EJ h) (x:Int×Int) (v:Value) (H':Mem):Prop:=
 (∃t',v=.tuple #[PV (Pl.got OI x (Gt.L h t)),.bool (Pl.fnd OI x (Gt.L h t)),.bool false]∧SetT OI H H' P h t t' x)∨
 (v=.tuple #[PV none,.bool false,.bool true]∧Fr nowhere H H'∧(Gt.X h t).length=P.mx∧¬Gt.NF OI P x h t∧Ab.put OI P.mx P.mn x h (Gt.ab h t)=none)
structure PsOk (P:Ps):Prop where
 hm:P.mx=2*P.mn+1
 h1:1≤P.mn
 hx:P.mx≤255
theorem split_spec {B:World} {H:Mem} {tr:Nat} {P:Ps} (hP:PsOk P):∀{h:Nat} {t:Gt EJ h},TrC H tr P.iso P.mx P.mn→Gt.Good H P h t→(Gt.X h t).length=P.mx→(∀b o,Gt.af h t b o→cx.base≤b)→(Gt.L h t).length<4611686018427387904→
  Fn Try.prog B 92 [.pointer (some ⟨tr,0,none⟩),.pointer (some ⟨Gt.p h t,0,none⟩)] H (fun v H'=>∃t1 t2 med,v=.tuple #[ptr (Gt.p h t2),.agg (EJ.enc med).toArray]∧SplT H H' P h t t1 t2 med)
 | 0,(g,X),ht,hg,hX,hoff,hb=>by
  have hN:NodeM EJ H g X (.pointer none):=hg.1
  have hX':X.length=P.mx:=hX
  have hmm:=hP.hm
  obtain ⟨n1,n2⟩:=offB_node (g:=g) hN.ic hoff
  obtain ⟨med,hmed⟩:∃med,X[P.mn]?=some med:=⟨X[P.mn],List.getElem?_eq_getElem (by omega)⟩
  refine (splitLeaf_spec ht hN hX' hmm hP.h1 hP.hx hmed n1 n2).mono ?_
  rintro v H' ⟨q,rfl,hq,hql,hf,m1,m2⟩
  obtain ⟨t1,t2,e,hs⟩:=split_leaf hg hX' hmm hP.h1 hmed hq hql hf m1 m2
  exact ⟨t1,t2,med,by rw [e],hs⟩
 | h+1,(g,X,K),ht,hg,hX,hoff,hb=>by
  have hN:NodeM EJ H g X (.pointer (some ⟨g.cb,0,none⟩)):=hg.1
  have hK:KidM H g (Gt.ps h K):=hg.2.1
  have hX':X.length=P.mx:=hX
  have hmm:=hP.hm
  have hh1:=hP.h1
  have hKl:K.length=X.length+1:=hg.2.2.2.2.2.1
  obtain ⟨n1,n2⟩:=offB_node (g:=g) hN.ic (fun b o ho=>hoff b o (.inl ho))
  obtain ⟨n3,n4⟩:=offB_kids (g:=g) hK.kc (fun b o ho=>hoff b o (.inr (.inl ho)))
  obtain ⟨med,hmed⟩:∃med,X[P.mn]?=some med:=⟨X[P.mn],List.getElem?_eq_getElem (by omega)⟩
  let cn:Nat→Nat:=fun q=>match cl H q 1 with
   | some (.int _ z)=>z.toNat
   | _=>0
  have hcn:∀k∈K,cl H (Gt.p h k) 1=some (.int .i64 (cn (Gt.p h k):Int))∧cn (Gt.p h k)=(Gt.L h k).length:=fun k hk=>by
   obtain ⟨hkg,_⟩:=hg.2.2.2.2.2.2.1 k hk
   obtain ⟨kp,hkn⟩:=hkg.node
   have e:=hkn.c1
   have e2:cn (Gt.p h k)=(Gt.g h k).cnt:=by
    show (match cl H (Gt.g h k).p 1 with
     | some (.int _ z)=>z.toNat
     | _=>0)=_
    rw [e]
    exact Int.toNat_natCast _
   rw [e2]
   exact ⟨e,hkg.cnt⟩
  have hsum:∀l:List (Gt EJ h),(∀k∈l,k∈K)→((Gt.ps h l).map cn).sum=((l.map (Gt.L h)).map List.length).sum:=fun l hl=>by
   congr 1
   unfold Gt.ps
   rw [List.map_map,List.map_map]
   exact List.map_congr_left fun k hk=>(hcn k (hl k hk)).2
  have hlen:(Pl.inter X (K.map (Gt.L h))).length=X.length+((K.map (Gt.L h)).map List.length).sum:=Pl.inter_length _ _ (by rw [List.length_map];exact hKl)
  have hb':(Pl.inter X (K.map (Gt.L h))).length<4611686018427387904:=hb
  refine (splitInner_spec cn ht hN hK hX' (by rw [Gt.ps,List.length_map];omega) hmm hP.h1 hP.hx hmed n1 n2 n3 n4 (fun q hq=>?_) (by rw [hsum K (fun _ h=>h)];omega)).mono ?_
  ·
   obtain ⟨k,hk,rfl⟩:=List.mem_map.1 hq
   obtain ⟨hkg,_,hkd⟩:=hg.2.2.2.2.2.2.1 k hk
   obtain ⟨kp,hkn⟩:=hkg.node
   have hp0:∀o,o<4→(¬ncl EJ g (Gt.p h k) o∧¬kcl g (Gt.p h k) o):=fun o ho=>hkd _ _ (Gt.af_node (.inl ⟨rfl,ho⟩))
   exact ⟨(hcn k hk).1,fun e=>(hp0 0 (by omega)).1 (.inl ⟨e,by omega⟩),fun e=>(hp0 1 (by omega)).1 (.inr e),fun e=>(hp0 0 (by omega)).2 (.inl ⟨e,by omega⟩)⟩
  ·
   rintro v H' ⟨q,rfl,hq,hql,hf,m1,k1,m2,k2⟩
   have s1:=hsum (K.take (P.mn+1)) (fun _ h=>List.mem_of_mem_take h)
   have s2:=hsum (K.drop (P.mn+1)) (fun _ h=>List.mem_of_mem_drop h)
   rw [show Gt.ps h (K.take (P.mn+1))=(Gt.ps h K).take (P.mn+1) from List.map_take,List.map_take (f:=Gt.L h)] at s1
   rw [show Gt.ps h (K.drop (P.mn+1))=(Gt.ps h K).drop (P.mn+1) from List.map_drop,List.map_drop (f:=Gt.L h)] at s2
   obtain ⟨t1,t2,e,hs⟩:=split_inner hg hX' hmm hP.h1 hmed hq hql hf (by rw [s1]) (by rw [s2]) m1 k1 m2 k2
   exact ⟨t1,t2,med,by rw [e],hs⟩
end Go.Bt.FG
namespace Go.Bt.FG
open Go Go.Proofs Go.Proofs.Try
set_option maxRecDepth 20000
set_option maxHeartbeats 4000000
set_option linter.unusedSectionVars false
variable [Inhabited Cx]
theorem nitems {B:World} {P:Ps} (hP:PsOk P) (mt:Bool) {tr:Nat}:∀(h:Nat) {H:Mem} {bp op:Nat} {v:Value} {acc:List (Int×Int)} {Z:Nat→Prop} {t:Gt EJ h},TrC H tr P.iso P.mx P.mn→Gt.Good H P h t→cl H bp op=some (ptr (Gt.p h t))→AccN EJ Z H v acc→(∀b o,Gt.af h t b o→¬Z b)→(∀b,Z b→cx.base≤b)→acc.length+(Gt.L h t).length≤4294967296→
  Fn Try.prog B 82 [.pointer (some ⟨tr,0,none⟩),.pointer (some ⟨bp,op,none⟩),v,.bool mt] H (fun r H'=>∃Z',AccN EJ Z' H' r (acc++Gt.L h t)∧Fr (fun b _=>Z b) H H'∧∀b,Z' b→Z b∨H.size≤b)
 | 0,H,bp,op,v,acc,Z,(g,X),tc,hg,hc,hA,hnz,hzb,hlen=>by
  have hN:NodeM EJ H g X (.pointer none):=hg.1
  have hiso:g.iso=P.iso:=hg.2.1
  have hc0:=hN.c0
  rw [hiso] at hc0
  replace hlen:acc.length+X.length≤4294967296:=hlen
  have hX:InS EJ H (.slice (some ⟨g.ib,g.io,none⟩) X.length g.ic) X:=.inl ⟨_,_,_,rfl,hN.sl.hle,hN.sl.rd⟩
  refine fn_of func82 rfl ntmps82 ?_
  refine (show Go' _ _ _ _ 73 [(0,_),(1,_),(2,_),(3,_)] [.code _] _ from ?_)
  refine Ut 1 rfl (Ur 1 0 rfl (Uf 1 [0,1,2,3,8] rfl (Ut 1 rfl (Ur 5 128 rfl (Uq 3 rfl (O.callQ rfl rfl rfl call59 rfl (isoLoad_spec mt hc hc0 tc.iso) trivial (Uf 1 [0,2,3,8,9] rfl (Ut 2 rfl ?_))))))))
  unfold ptr
  refine Ur 2 8 rfl (Uq 1 rfl (O.callQ rfl rfl rfl call62 rfl (leaf_spec hN.c3) trivial (Uf 0 [0,2,3,8,9,16] rfl (Go'.condT rfl (Ut 1 rfl (Ur 7 2304 rfl (Ul 4 rfl hN.c2 (O.appI (E:=EJ) rfl rfl rfl ⟨underlying25,sizeOf27,zeroValue27,⟨_,typeInfo27,rfl⟩,rfl,by decide,by decide⟩ rfl hA rfl hX (Nat.le_trans (Nat.mul_le_mul_left _ (Nat.le_of_ble_eq_true (n:=_) (m:=4096) rfl)) (by skip;omega)) (by omega) ?_))))))))
  intro v4 H4 hA4 hF4 hs4
  refine ⟨trivial,?_⟩
  refine Uf 1 [0,2,3,8,9] rfl (Go'.ret (vs:=[_]) func82 results82 ⟨rfl,trivial⟩ ?_)
  exact ⟨_,hA4,hF4,fun b hb=>hb.elim .inl (fun h=>.inr (by omega))⟩
 | h+1,H,bp,op,v,acc,Z,(g,X,K),tc,hg,hc,hA,hnz,hzb,hlen=>by
  have ih:=@nitems B P hP mt tr h
  have hI:Inn H P h g X ((Gt.ps h K).map some) K:=hg.inn
  have hKl:K.length=X.length+1:=hg.2.2.2.2.2.1
  have hxm:X.length≤P.mx:=hg.2.2.2.2.1
  have hx255:=hP.hx
  have hc0:=hI.n.c0
  rw [hI.iso] at hc0
  have hbs:=tc.hb
  have hKL:(K.map (Gt.L h)).length=X.length+1:=by rw [List.length_map];exact hKl
  have hol:((Gt.ps h K).map some).length=X.length+1:=by rw [List.length_map,Gt.ps,List.length_map];exact hKl
  replace hlen:acc.length+(Pl.inter X (K.map (Gt.L h))).length≤4294967296:=hlen
  have hlt:∀x y,innc h g K x y→x<H.size:=fun x y hb=>hI.lt hb
  have hin:∀H',Fr (fun x _=>Z x) H H'→Inn H' P h g X ((Gt.ps h K).map some) K∧TrC H' tr P.iso P.mx P.mn:=fun H' hf=>⟨hI.fr hf (fun x y hxy hz=>hnz x y hxy hz),tc.fr hf (fun b o hb _ hz=>by have:=hzb b hz;omega)⟩
  have hcat:∀{Z1 Z2:Nat→Prop} {H2 H3:Mem},Fr (fun x _=>Z x) H H2→(∀b,Z1 b→Z b∨H.size≤b)→Fr (fun x _=>Z1 x) H2 H3→(∀b,Z2 b→Z1 b∨H2.size≤b)→Fr (fun x _=>Z x) H H3∧∀b,Z2 b→Z b∨H.size≤b:=by
   intro Z1 Z2 H2 H3 hF hZ1 hF2 hZ2
   have:=hF.size
   exact ⟨hF.trans' hF2 (fun _ _ _ h=>h) (fun b o hb hz=>(hZ1 b hz).elim id (fun h=>by omega)),fun b hb=>(hZ2 b hb).elim (hZ1 b) (fun h=>.inr (by omega))⟩
  have hkz:∀{Z1:Nat→Prop},(∀b,Z1 b→Z b∨H.size≤b)→(∀b o,innc h g K b o→¬Z1 b)∧∀b,Z1 b→cx.base≤b:=fun hZ1=>⟨fun b o hb hz=>(hZ1 b hz).elim (hnz b o hb) (fun hz=>by have:=hlt b o hb;omega),fun b hz=>(hZ1 b hz).elim (hzb b) (fun hz=>by omega)⟩
  show Fn _ _ _ _ _ (fun r H'=>∃Z',AccN EJ Z' H' r (acc++Pl.inter X (K.map (Gt.L h)))∧Fr (fun b _=>Z b) H H'∧∀b,Z' b→Z b∨H.size≤b)
  refine fn_of func82 rfl ntmps82 ?_
  refine (show Go' _ _ _ _ 73 [(0,_),(1,_),(2,_),(3,_)] [.code _] _ from ?_)
  refine Ut 1 rfl (Ur 1 0 rfl (Uf 1 [0,1,2,3,8] rfl (Ut 1 rfl (Ur 5 128 rfl (Uq 3 rfl (O.callQ rfl rfl rfl call59 rfl (isoLoad_spec mt hc hc0 tc.iso) trivial (Uf 1 [0,2,3,8,9] rfl (Ut 2 rfl ?_))))))))
  unfold ptr
  refine Ur 2 8 rfl (Uq 1 rfl (O.callQ rfl rfl rfl call62 rfl (leaf_spec hI.n.c3) trivial (Uf 0 [0,2,3,8,9,16] rfl (Go'.condF rfl (Ut 3 rfl (Ur 1 0 rfl (Uf 1 [0,2,3,8,9,10] rfl (Ut 1 rfl (Go'.loop (Uk [0,2,3,9,10] rfl ?_))))))))))
  refine Go'.ind (σ:=Nat×Value×(Nat→Prop)) (fun s=>X.length-s.1) (fun s H'=>s.1≤X.length∧AccN EJ s.2.2 H' s.2.1 (acc++Pl.pre (X.take s.1) ((K.map (Gt.L h)).take s.1))∧Fr (fun b _=>Z b) H H'∧∀b,s.2.2 b→Z b∨H.size≤b)
   (fun s=>[(0,.pointer (some ⟨tr,0,none⟩)),(2,s.2.1),(3,.bool mt),(9,.pointer (some ⟨g.p,0,none⟩)),(10,.int .i64 (s.1:Int))]) (0,v,Z) ⟨Nat.zero_le _,by rw [List.take_zero];show AccN EJ Z H v (acc++[]);rw [List.append_nil];exact hA,Fr.refl _ _,fun b hb=>.inl hb⟩ rfl ?_
  clear hA
  rintro ⟨j,sv,Z1⟩ H2 ⟨hj,hA,hF,hZ1⟩ ih2
  simp only at hj hA hZ1
  have hsz:=hF.size
  obtain ⟨hI2,tc2⟩:=hin H2 hF
  obtain ⟨hz1,hz2⟩:=hkz hZ1
  have hpl:=Pl.pre_len X (K.map (Gt.L h)) hKL j hj
  have hal:(acc++Pl.pre (X.take j) ((K.map (Gt.L h)).take j)).length=acc.length+(Pl.pre (X.take j) ((K.map (Gt.L h)).take j)).length:=List.length_append
  obtain ⟨k,hkk⟩:∃k,K[j]?=some k:=⟨K[j],List.getElem?_eq_getElem (by omega)⟩
  have hkL:(K.map (Gt.L h))[j]?=some (Gt.L h k):=by rw [List.getElem?_map,hkk];rfl
  have hkK:k∈K:=List.mem_of_getElem? hkk
  have hok:((Gt.ps h K).map some)[j]?=some (some (Gt.p h k)):=by rw [Gt.ps,List.map_map,List.getElem?_map,hkk];rfl
  have hcel:=hI2.k.at hok
  unfold ptr at hcel
  refine Ut 2 rfl ?_
  by_cases hlt2:j<X.length
  ·
   obtain ⟨y,hy⟩:∃y,X[j]?=some y:=⟨X[j],List.getElem?_eq_getElem hlt2⟩
   have hps:=Pl.pre_succ hy hkL
   have hpl2:=Pl.pre_len X (K.map (Gt.L h)) hKL (j+1) hlt2
   rw [hps,List.length_append,List.length_append,List.length_singleton] at hpl2
   refine Ur 7 256 rfl (Ul 4 rfl hI2.n.c2 (Uc 1 rfl (lssT (by omega)) (Uf 0 [0,2,3,9,10,29] rfl (Go'.condT rfl (Ut 4 rfl (Ur 13 8392960 rfl (Ul 4 rfl hI2.n.c3 (Ul 1 rfl hI2.k.c (Ux 1 j rfl (by omega) (by omega) (Uq 2 rfl (O.call rfl rfl rfl call82 rfl (ih tc2 (hI2.c.1 k hkK).1 hcel hA (fun b o hb=>hz1 b o (.inr (.inr ⟨k,hkK,hb⟩))) hz2 (by rw [hal];omega)) ?_)))))))))))
   rintro _ H4 ⟨Z4,hA4,hF4,hZ4⟩
   obtain ⟨hF5,hZ5⟩:=hcat hF hZ1 hF4 hZ4
   have hsz5:=hF5.size
   refine ⟨trivial,?_⟩
   refine Uf 1 [0,2,3,9,10,29] rfl ?_
   obtain ⟨hI4,_⟩:=hin H4 hF5
   have hal4:(acc++Pl.pre (X.take j) ((K.map (Gt.L h)).take j)++Gt.L h k).length=acc.length+(Pl.pre (X.take j) ((K.map (Gt.L h)).take j)).length+(Gt.L h k).length:=by rw [List.length_append,hal]
   refine Ur 11 672000 rfl (Ul 4 rfl hI4.n.c2 (Ux 1 j rfl (by omega) (by omega) (Us 0 rfl (hI4.n.sl.item hy) rfl (O.bsl (cs:=(EJ.enc y)) rfl rfl rfl ⟨underlying25,sizeOf27,zeroValue27,⟨_,typeInfo27,rfl⟩,rfl,by decide,by decide⟩ rfl (by decide) (by kernel_rfl) ?_))))
   intro H6 M6
   have hs6:=M6.size
   have hA6:=hA4.fr (M6.fr nowhere) (fun _ _ _ _=>nw)
   have hv6:InS EJ H6 (.slice (some ⟨H4.size,0,none⟩) 1 1) [y]:=.inl ⟨_,_,_,rfl,Nat.le_refl _,M6.rd _ [] (by simp [row,EJ])⟩
   refine ⟨trivial,?_⟩
   refine O.appI (E:=EJ) rfl rfl rfl ⟨underlying25,sizeOf27,zeroValue27,⟨_,typeInfo27,rfl⟩,rfl,by decide,by decide⟩ rfl hA6 rfl hv6 (Nat.le_trans (Nat.mul_le_mul_left _ (Nat.le_of_ble_eq_true (n:=_) (m:=4096) rfl)) (by rw [hal4,List.length_singleton];omega)) (by rw [hal4,List.length_singleton];omega) ?_
   intro v7 H7 hA7 hF7 hs7
   have hg7:=hF7.size
   refine ⟨trivial,?_⟩
   refine Uf 1 [0,2,3,9,10,29] rfl (Ut 1 rfl (Ur 3 0 rfl (Ua 1 (((j+1:Nat):Int)) rfl (by omega) (Uf 1 [0,2,3,9,10,29] rfl (Uk [0,2,3,9,10] rfl (Go'.inLoop ?_))))))
   refine ih2 (j+1,v7,fun b=>Z4 b∨(b=H6.size∧b<H7.size)) H7 ⟨hlt2,?_,(hF5.trans' (M6.fr nowhere) (fun _ _ _ h=>h) (fun _ _ _ h=>h.elim)).trans' hF7 (fun _ _ _ h=>h) (fun b o hb hz=>(hZ5 b hz).elim id (fun h=>by omega)),fun b hb=>hb.elim (hZ5 b) (fun h=>.inr (by omega))⟩ (by simp only;omega)
   simp only
   rw [hps,←List.append_assoc,←List.append_assoc]
   exact hA7
  ·
   obtain rfl:j=X.length:=by omega
   have hil:=Pl.inter_eq_pre (Nat.le_refl _) hkL
   rw [List.take_length,show (K.map (Gt.L h)).take (X.length+1)=K.map (Gt.L h) from List.take_of_length_le (by omega)] at hil
   rw [List.take_length] at hA hal hpl
   have hll:=congrArg List.length hil
   rw [List.length_append] at hll
   refine Ur 7 256 rfl (Ul 4 rfl hI2.n.c2 (Uc 1 rfl (lssF (by omega)) (Uf 0 [0,2,3,9,10,29] rfl (Go'.condF rfl (Ut 2 rfl (Ud 20 137456783616 (by kernel_rfl) (Ul 4 rfl hI2.n.c3 (Ul 1 rfl hI2.k.c (Ul 3 rfl hI2.n.c3 (Ul 1 rfl hI2.k.c (Ub 1 (((((((Gt.ps h K).map some)).length)-1:Nat):Int)) rfl (by omega) ?_)))))))))))
   refine Ux 0 (X.length) rfl (by omega) (by omega) (Uq 2 rfl (O.call rfl rfl rfl call82 rfl (ih tc2 (hI2.c.1 k hkK).1 hcel hA (fun b o hb=>hz1 b o (.inr (.inr ⟨k,hkK,hb⟩))) hz2 (by rw [hal];omega)) ?_))
   rintro _ H4 ⟨Z4,hA4,hF4,hZ4⟩
   obtain ⟨hF5,hZ5⟩:=hcat hF hZ1 hF4 hZ4
   have hsz5:=hF5.size
   refine ⟨trivial,?_⟩
   refine Uf 1 [8] rfl (Go'.ret (vs:=[_]) func82 results82 ⟨rfl,trivial⟩ ?_)
   refine ⟨Z4,?_,hF5,hZ5⟩
   rw [hil,←List.append_assoc]
   exact hA4
end Go.Bt.FG
namespace Go.Bt.FG
open Go Go.Proofs Go.Proofs.Try
set_option maxRecDepth 20000
set_option maxHeartbeats 4000000
set_option linter.unusedSectionVars false
variable [Inhabited Cx]
structure MapM (H:Mem) (tr:Nat) (P:Ps) (S:Nat→Prop) (l:List (Int×Int)):Prop where
 tc:TrC H tr P.iso P.mx P.mn
 srt:Pl.Srt OI l
 cnt:cl H tr 3=some (.int .i64 (l.length:Int))
 own:S tr
 lt:∀b,S b→b<H.size
 bs:∀b,S b→b=tr∨cx.base≤b
 rt:(l=[]∧cl H tr 2=some (.pointer none))∨∃h,∃t:Gt EJ h,Gt.Good H P h t∧1≤(Gt.X h t).length∧Gt.L h t=l∧cl H tr 2=some (ptr (Gt.p h t))∧(∀b o,Gt.af h t b o→cx.base≤b)∧∀b o,Gt.af h t b o→S b
theorem MapM.fr {H H':Mem} {Z:Nat→Nat→Prop} {tr:Nat} {P:Ps} {S:Nat→Prop} {l:List (Int×Int)} (h:MapM H tr P S l) (hf:Fr Z H H') (hz:∀b o,S b∨(b<cx.base∧cx.own b)→¬Z b o):MapM H' tr P S l where
 tc:=h.tc.fr hf fun b o hb _=>hz b o (.inr hb)
 srt:=h.srt
 cnt:=hf.keep h.cnt (hz _ _ (.inl h.own))
 own:=h.own
 lt:=fun b hb=>Nat.lt_of_lt_of_le (h.lt b hb) hf.size
 bs:=h.bs
 rt:=h.rt.elim (fun ⟨e,k⟩=>.inl ⟨e,hf.keep k (hz _ _ (.inl h.own))⟩) fun ⟨hh,t,g,x1,e,k,n,s⟩=>.inr ⟨hh,t,g.fr hf fun b o hb=>hz b o (.inl (s b o hb)),x1,e,hf.keep k (hz _ _ (.inl h.own)),n,s⟩
theorem len_spec {B:World} {H:Mem} {tr:Nat} {P:Ps} {S:Nat→Prop} {l:List (Int×Int)} (hM:MapM H tr P S l):
  Fn Try.prog B 81 [.pointer (some ⟨tr,0,none⟩)] H (fun r H'=>r=.int .i64 (l.length:Int)∧H'=H):=by
 refine fn_of func81 rfl ntmps81 ?_
 refine (show Go' _ _ _ _ 7 [(0,_)] [.code _] _ from ?_)
 refine Ut 1 rfl (Ur 1 0 rfl (Uf 1 [0,2] rfl (Ut 1 rfl (Ur 5 64 rfl (Ul 3 rfl hM.cnt (Uf 1 [2] rfl (Go'.ret (vs:=[_]) func81 results81 ⟨rfl,trivial⟩ ?_)))))))
 exact ⟨rfl,rfl⟩
theorem items_spec {B:World} {H:Mem} {tr:Nat} {P:Ps} (hP:PsOk P) {S:Nat→Prop} {l:List (Int×Int)} (hM:MapM H tr P S l) (mt:Bool) (hll:l.length≤4294967296):
  Fn Try.prog B 56 [.pointer (some ⟨tr,0,none⟩),.bool mt] H (fun r H'=>OutS EJ H' r l∧Fr nowhere H H'):=by
 have lt0:=hM.lt
 have hb0:=hM.tc.hb
 refine fn_of func56 rfl ntmps56 ?_
 refine (show Go' _ _ _ _ 27 [(0,_),(1,_)] [.code _] _ from ?_)
 refine Ut 1 rfl (Ur 1 0 rfl (Uf 1 [0,1,4] rfl (Ut 2 rfl (Ur 3 32 rfl (Uq 2 rfl (O.callQ rfl rfl rfl call57 rfl lock_spec trivial (Uf 0 [0,1,4,8] rfl (Go'.condF rfl (Ut 2 rfl (Ur 4 40 rfl (Uq 1 rfl ?_)))))))))))
 refine O.callQ rfl rfl rfl call81 rfl (len_spec hM) trivial (O.mks (j:=0) (c:=l.length) rfl rfl rfl ⟨underlying25,sizeOf27,zeroValue27,⟨_,typeInfo27,rfl⟩,rfl,by decide,by decide⟩ rfl rfl rfl rfl (by omega) (Nat.le_trans (Nat.mul_le_mul_right _ (Nat.le_of_ble_eq_true (n:=_) (m:=4096) rfl)) (by omega)) (by omega) ?_)
 intro H1 M1
 have hs1:=M1.size
 have hA1:AccN EJ (fun b=>b=H.size) H1 (.slice (some ⟨H.size,0,none⟩) 0 l.length) []:=⟨H.size,0,l.length,rfl,rfl,by omega,⟨rfl,Nat.zero_le _,Rd.nil _ _ _,M1.wr _ (by rw [zeroRow_size];exact Nat.le_refl _)⟩⟩
 replace hM:=hM.fr (M1.fr nowhere) (fun _ _ _=>nw)
 refine ⟨trivial,?_⟩
 refine Uf 1 [0,1,4,5] rfl (Ut 2 rfl ?_)
 rcases hM.rt with ⟨rfl,hptr⟩|⟨h,t,hg,hx1,e,hc,hnt,hown⟩
 ·
  refine Ur 5 64 rfl (Ul 3 rfl hptr (O.notNil rfl rfl rfl rfl underlying107 rfl rfl (Uf 0 [0,1,4,5,18] rfl (Go'.condF rfl (Ut 2 rfl (Ur 2 0 rfl (Uf 2 [4] rfl (Go'.ret (vs:=[_]) func56 results56 ⟨rfl,trivial⟩ ?_))))))))
  exact ⟨hA1.acc.out,M1.fr nowhere⟩
 ·
  have hptr:cl H1 tr 2=some (.pointer (some ⟨Gt.p h t,0,none⟩)):=hc
  refine Ur 5 64 rfl (Ul 3 rfl hptr (O.notNil rfl rfl rfl rfl underlying107 rfl rfl (Uf 0 [0,1,4,5,18] rfl (Go'.condT rfl (Ur 8 8192 rfl (Uq 6 rfl (O.call rfl rfl rfl call82 rfl (nitems hP mt h hM.tc hg hc hA1 (fun b o hb hz=>by have:=lt0 b (hown b o hb);omega) (fun b hb=>by omega) (by rw [e];simpa using hll)) ?_)))))))
  rintro _ H3 ⟨Z3,hA3,hF3,_⟩
  rw [List.nil_append,e] at hA3
  refine ⟨trivial,?_⟩
  refine Uf 1 [4,5] rfl (Ut 1 rfl (Ur 2 0 rfl (Uf 2 [4] rfl (Go'.ret (vs:=[_]) func56 results56 ⟨rfl,trivial⟩ ?_))))
  exact ⟨hA3.acc.out,(M1.fr nowhere).trans' hF3 (fun _ _ _ h=>h) (fun b o hb hz=>by omega)⟩
theorem Items_spec {B:World} {H:Mem} {tr:Nat} {P:Ps} (hP:PsOk P) {S:Nat→Prop} {l:List (Int×Int)} (hM:MapM H tr P S l) (hll:l.length≤4294967296):
  Fn Try.prog B 32 [.pointer (some ⟨tr,0,none⟩)] H (fun r H'=>OutS EJ H' r l∧Fr nowhere H H'):=by
 refine fn_of func32 rfl ntmps32 ?_
 refine (show Go' _ _ _ _ 5 [(0,_)] [.code _] _ from ?_)
 refine Ut 1 rfl (Ur 1 0 rfl (Uf 1 [0,2] rfl (Ut 1 rfl (Ur 3 8 rfl (Uq 1 rfl (O.call rfl rfl rfl call56 rfl (items_spec hP hM false hll) ?_))))))
 rintro v2 H2 h2
 refine ⟨trivial,?_⟩
 refine Uf 1 [2] rfl (Go'.ret (vs:=[_]) func32 results32 ⟨rfl,trivial⟩ ?_)
 exact h2
end Go.Bt.FG
namespace Go.Bt.FG
open Go Go.Proofs Go.Proofs.Try
set_option maxRecDepth 20000
set_option maxHeartbeats 4000000
set_option linter.unusedSectionVars false
variable [Inhabited Cx]
structure HintM (H:Mem) (hb:Nat):Prop where
 us:∀i,i<8→∃b,cl H hb i=some (.bool b)
 ps:∀i,i<8→∃n:Nat,n<256∧cl H hb (8+i)=some (.int .u8 (n:Int))
 wr:Wr H hb 0 16
theorem HintM.fr {H H':Mem} {hb:Nat} {Z:Nat→Nat→Prop} (h:HintM H hb) (hf:Fr Z H H') (hz:∀o,¬Z hb o):HintM H' hb where
 us:=fun i hi=>have ⟨b,hb⟩:=h.us i hi;⟨b,hf.keep hb (hz _)⟩
 ps:=fun i hi=>have ⟨n,hn,hb⟩:=h.ps i hi;⟨n,hn,hf.keep hb (hz _)⟩
 wr:=hf.wr h.wr
theorem HintM.setU {H H':Mem} {hb i:Nat} {b:Bool} (h:HintM H hb) (W:Wrote H H' hb i [.bool b]) (hi:i<8):HintM H' hb where
 us:=fun j hj=>by
  by_cases e:j=i
  · subst e;exact ⟨b,W.at⟩
  · obtain ⟨c,hc⟩:=h.us j hj;exact ⟨c,W.keep1 hc (by omega)⟩
 ps:=fun j hj=>by obtain ⟨n,hn,hc⟩:=h.ps j hj;exact ⟨n,hn,W.keep1 hc (by omega)⟩
 wr:=W.fr.wr h.wr
theorem HintM.setP {H H':Mem} {hb i n:Nat} (h:HintM H hb) (W:Wrote H H' hb (8+i) [.int .u8 (n:Int)]) (hi:i<8) (hn:n<256):HintM H' hb where
 us:=fun j hj=>by obtain ⟨c,hc⟩:=h.us j hj;exact ⟨c,W.keep1 hc (by omega)⟩
 ps:=fun j hj=>by
  by_cases e:j=i
  · subst e;exact ⟨n,hn,W.at⟩
  · obtain ⟨m,hm,hc⟩:=h.ps j hj;exact ⟨m,hm,W.keep1 hc (by omega)⟩
 wr:=W.fr.wr h.wr
def HintOk (H:Mem) (v:Value) (hz:Nat→Prop):Prop:=(v=.pointer none∧∀b,¬hz b)∨∃hb,v=.pointer (some ⟨hb,0,none⟩)∧(∀b,hz b↔b=hb)∧hb<H.size∧¬(hb<cx.base∧cx.own hb)∧HintM H hb
theorem HintOk.fr {H H':Mem} {v:Value} {hz:Nat→Prop} {Z:Nat→Nat→Prop} (h:HintOk H v hz) (hf:Fr Z H H') (hd:∀b o,hz b→¬Z b o):HintOk H' v hz:=
 h.imp id fun ⟨hb,h1,h2,h3,h4,h5⟩=>⟨hb,h1,h2,Nat.lt_of_lt_of_le h3 hf.size,h4,h5.fr hf fun o=>hd hb o ((h2 hb).2 rfl)⟩
theorem HintOk.base {H:Mem} {v:Value} {hz:Nat→Prop} (h:HintOk H v hz):∀b,hz b→¬(b<cx.base∧cx.own b)∧b<H.size:=fun b hb=>by
 rcases h with ⟨_,h⟩|⟨h0,_,h2,h3,h4,_⟩
 · exact absurd hb (h b)
 · rw [(h2 b).1 hb];exact ⟨h4,h3⟩
theorem Less_spec {B:World} {H:Mem} {tr id mx mn:Nat} (tc:TrC H tr id mx mn) (x y:Int×Int):
  Fn Try.prog B 68 [.pointer (some ⟨tr,0,none⟩),.agg (EJ.enc x).toArray,.agg (EJ.enc y).toArray] H (fun r H'=>r=.bool (OI.lt x y)∧Fr nowhere H H'):=by
 refine fn_of func68 rfl ntmps68 ?_
 refine (show Go' _ _ _ _ 14 [(0,_),(1,_),(2,_)] [.code _] _ from ?_)
 refine Ut 1 rfl (Ur 3 10 rfl (O.box rfl rfl rfl rfl ?_))
 intro H1 M1
 refine ⟨trivial,?_⟩
 have hf1:=M1.fr nowhere
 replace tc:=tc.fr hf1 (fun _ _ _ _=>nw)
 have mi:Rd H1 H.size 0 (EJ.enc x):=M1.rd _ [] (by simp [Value.cells])
 refine O.box rfl rfl rfl rfl ?_
 intro H2 M2
 refine ⟨trivial,?_⟩
 have hf2:=hf1.trans (M2.fr nowhere)
 replace tc:=tc.fr (M2.fr nowhere) (fun _ _ _ _=>nw)
 replace mi:=(M2.fr nowhere).rd mi (fun _ _=>nw)
 have mj:Rd H2 H1.size 0 (EJ.enc y):=M2.rd _ [] (by simp [Value.cells])
 refine Uf 1 [0,4,5,6] rfl (Ut 1 rfl (Ud 8 9536 (by kernel_rfl) (Ul 3 rfl tc.le (Us 0 rfl mi rfl (Us 0 rfl mj rfl (O.callC rfl rfl rfl rfl call72 rfl (less_spec tc x y) ?_))))))
 rintro _ H3 ⟨rfl,hF3⟩
 refine ⟨trivial,?_⟩
 refine Uf 1 [6] rfl (Go'.ret (vs:=[_]) func68 results68 ⟨rfl,trivial⟩ ?_)
 exact ⟨rfl,hf2.trans hF3⟩
end Go.Bt.FG
