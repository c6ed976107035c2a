/- Contracts of functions of the program, proved by walking through their code. Conditions: those that each theorem names. -/
import Derived.Laws.StructEq
import Derived.Test.YtmboghgpakhceaaTogM
import Derived.Test.YtmboghgpakhceaaTogD
import Derived.Test.YtmboghgpakhceaaToKi
import Derived.Test.YtmboghgpakhceaaToCb
set_option linter.unusedVariables false
namespace Go.Bt.FG
open Go Go.Proofs Go.Proofs.Try
set_option maxRecDepth 20000
set_option maxHeartbeats 4000000
set_option linter.unusedSectionVars false
theorem fields27:Try.prog.underlying 27=some (.struct (Try.prog.fieldsOf 27)):=by unfold Program.fieldsOf;rw [underlying27]
theorem fields68:Try.prog.underlying 68=some (.struct (Try.prog.fieldsOf 68)):=by unfold Program.fieldsOf;rw [underlying68]
theorem item_eq (d:Nat) (x:Int×Int) (w:World):(Op.equalIn (d+2) 27 (.agg #[.int .i64 x.1,.int .i64 x.2]) (.agg #[.int .i64 x.1,.int .i64 x.2])).run Try.prog w=.ok true w:=by
 rw [run_equalIn_agg w (d+1) 27 _ _ fields27 Try.stoodInHeld27]
 simp [Op.eqFields,Program.fieldsOf,underlying27,part,isAgg3,run_equalIn_int w d 3 _ _ _ _ underlying3]
theorem found_eq (o:Option (Int×Int)) (x y:Operand) (w:World):(eqGuard .eql 68 x y (.agg (fvs o).toArray) (.agg (fvs o).toArray)).run Try.prog w=.ok () w∧(binOp .eql 68 (.agg (fvs o).toArray) (.agg (fvs o).toArray)).run Try.prog w=.ok (.bool true) w:=by
 refine ⟨run_eqGuard_agg w _ _ _ _ _ _ Try.eqGuardType68,?_⟩
 rw [run_eql_struct,run_equalIn_agg w 9999 68 _ _ fields68 Try.stoodInHeld68]
 have h:∀x y:Int,(Op.equalIn 9999 27 (.agg #[.int .i64 x,.int .i64 y]) (.agg #[.int .i64 x,.int .i64 y])).run Try.prog w=.ok true w:=fun x y=>item_eq 9997 (x,y) w
 have hb:∀b:Bool,(Op.equalIn 9999 4 (.bool b) (.bool b)).run Try.prog w=.ok true w:=fun b=>by
  have:=run_equalIn_bool' w 9998 4 b b underlying4
  simpa using this
 cases o with
 | none=>simp [fvs,Op.eqFields,Program.fieldsOf,underlying68,part,isAgg27,sizeOf27,isAgg4,h,hb]
 | some y=>simp [fvs,Op.eqFields,Program.fieldsOf,underlying68,part,isAgg27,sizeOf27,isAgg4,h,hb]
theorem found_neq (o:Option (Int×Int)) (a b:Operand) (w:World):(eqGuard .neq 68 a b (.agg (fvs o).toArray) (.agg (fvs o).toArray)).run Try.prog w=.ok () w∧(binOp .neq 68 (.agg (fvs o).toArray) (.agg (fvs o).toArray)).run Try.prog w=.ok (.bool false) w:=by
 refine ⟨run_eqGuard_agg w _ _ _ _ _ _ Try.eqGuardType68,?_⟩
 rw [run_neq_struct]
 have h:=(found_eq o a b w).2
 rw [run_eql_struct] at h
 have h2:(Op.equalIn 10000 68 (.agg (fvs o).toArray) (.agg (fvs o).toArray)).run Try.prog w=.ok true w:=by
  cases hh:(Op.equalIn 10000 68 (.agg (fvs o).toArray) (.agg (fvs o).toArray)).run Try.prog w with
  | ok x w2=>rw [hh] at h;simp [Result.andThen] at h;obtain ⟨h1,h2⟩:=h;rw [h1,h2]
  | _=>rw [hh] at h;simp [Result.andThen] at h
 rw [h2];rfl
theorem item_neq (x:Int×Int) (a b:Operand) (w:World):(eqGuard .neq 27 a b (.agg (EJ.enc x).toArray) (.agg (EJ.enc x).toArray)).run Try.prog w=.ok () w∧(binOp .neq 27 (.agg (EJ.enc x).toArray) (.agg (EJ.enc x).toArray)).run Try.prog w=.ok (.bool false) w:=by
 refine ⟨run_eqGuard_agg w _ _ _ _ _ _ Try.eqGuardType27,?_⟩
 rw [run_neq_struct]
 have h:(Op.equalIn 10000 27 (.agg (EJ.enc x).toArray) (.agg (EJ.enc x).toArray)).run Try.prog w=.ok true w:=item_eq 9998 x w
 rw [h];rfl
theorem eqFounds_spec {B:World} {H:Mem} {u v:Value} {l:List (Option (Int×Int))} (hu:InS EF H u l) (hv:InS EF H v l) (hll:l.length≤4294967296):
  Fn Try.prog B 83 [u,v] H (fun r H'=>r=.bool true∧H'=H):=by
 obtain ⟨a,c,e⟩:=hu.len
 subst e
 obtain ⟨a',c',e⟩:=hv.len
 subst e
 refine fn_of func83 rfl ntmps83 ?_
 refine (show Go' _ _ _ _ 26 [(0,_),(1,_)] [.code _] _ from ?_)
 refine Ut 1 rfl (Ur 1 0 rfl (Uf 1 [0,1,4] rfl (Ut 2 rfl (Ur 5 0 rfl (Uc 4 rfl (neqF (by omega)) (Uf 0 [0,1,4,10] rfl (Go'.condF rfl (Ut 3 rfl (Ur 3 0 rfl (Uf 3 [0,1,4,12,13] rfl (Ut 1 rfl ?_)))))))))))
 refine Go'.loop (Uk [0,1,4,12,13] rfl ?_)
 refine Go'.ind (σ:=Nat) (fun j=>l.length-j) (fun j H'=>H'=H∧j≤l.length)
  (fun j=>[(0,.slice a l.length c),(1,.slice a' l.length c'),(4,.bool false),(12,.int .i64 (l.length:Int)),(13,.int .i64 (j:Int))]) 0 ⟨rfl,Nat.zero_le _⟩ rfl ?_
 rintro j H2 ⟨hHH,hjl⟩ ih
 have eH:H=H2:=hHH.symm
 subst eH
 clear hHH
 refine Ut 1 rfl ?_
 by_cases hlt:j<l.length
 ·
  obtain ⟨y,hy⟩:∃y,l[j]?=some y:=⟨l[j],List.getElem?_eq_getElem hlt⟩
  obtain ⟨b,o,cc,e,hr⟩:=hu.at hy
  cases e
  obtain ⟨b',o',cc',e,hr'⟩:=hv.at hy
  cases e
  refine Ur 1 0 rfl (Uc 0 rfl (lssT (by omega)) (Uf 0 [0,1,4,12,13,14] rfl (Ut 1 rfl (Go'.condT rfl (Ut 4 rfl (Ur 2 0 rfl (Uf 2 [0,1,4,5,12,13,14] rfl (Ut 1 rfl (Ud 9 16448 (by kernel_rfl) (Ux 2 j rfl (by omega) hlt (O.lds rfl rfl rfl (fun w=>⟨isAgg68 w,sizeOf68 w⟩) rfl (by cases y<;>rfl) hr ?_)))))))))))
  refine Ux 2 j rfl (by omega) hlt (O.lds rfl rfl rfl (fun w=>⟨isAgg68 w,sizeOf68 w⟩) rfl (by cases y<;>rfl) hr' (O.bin rfl rfl rfl rfl rfl rfl (found_neq y _ _) (Uf 0 [0,1,4,5,12,13,14,24] rfl (Go'.condF rfl (Ut 2 rfl (Ur 2 0 rfl (Ua 0 (((j+1:Nat):Int)) rfl (by omega) (Uf 1 [0,1,4,5,12,13,14,24] rfl (Uk [0,1,4,12,13] rfl (Go'.inLoop ?_))))))))))
  exact ih (j+1) H ⟨rfl,hlt⟩ (by omega)
 ·
  refine Ur 1 0 rfl (Uc 0 rfl (lssF (by omega)) (Uf 0 [0,1,4,12,13,14] rfl (Ut 1 rfl (Go'.condF rfl (Ut 2 rfl (Ur 1 0 rfl (Uf 1 [4] rfl (Go'.ret (vs:=[_]) func83 results83 ⟨rfl,trivial⟩ ?_))))))))
  exact ⟨rfl,rfl⟩
theorem eqItems_spec {B:World} {H:Mem} {u v:Value} {l:List (Int×Int)} (hu:InS EJ H u l) (hv:InS EJ H v l) (hll:l.length≤4294967296):
  Fn Try.prog B 28 [u,v] H (fun r H'=>r=.bool true∧H'=H):=by
 obtain ⟨a,c,e⟩:=hu.len
 subst e
 obtain ⟨a',c',e⟩:=hv.len
 subst e
 refine fn_of func28 rfl ntmps28 ?_
 refine (show Go' _ _ _ _ 26 [(0,_),(1,_)] [.code _] _ from ?_)
 refine Ut 1 rfl (Ur 1 0 rfl (Uf 1 [0,1,4] rfl (Ut 2 rfl (Ur 5 0 rfl (Uc 4 rfl (neqF (by omega)) (Uf 0 [0,1,4,10] rfl (Go'.condF rfl (Ut 3 rfl (Ur 3 0 rfl (Uf 3 [0,1,4,12,13] rfl (Ut 1 rfl ?_)))))))))))
 refine Go'.loop (Uk [0,1,4,12,13] rfl ?_)
 refine Go'.ind (σ:=Nat) (fun j=>l.length-j) (fun j H'=>H'=H∧j≤l.length)
  (fun j=>[(0,.slice a l.length c),(1,.slice a' l.length c'),(4,.bool false),(12,.int .i64 (l.length:Int)),(13,.int .i64 (j:Int))]) 0 ⟨rfl,Nat.zero_le _⟩ rfl ?_
 rintro j H2 ⟨hHH,hjl⟩ ih
 have eH:H=H2:=hHH.symm
 subst eH
 clear hHH
 refine Ut 1 rfl ?_
 by_cases hlt:j<l.length
 ·
  obtain ⟨y,hy⟩:∃y,l[j]?=some y:=⟨l[j],List.getElem?_eq_getElem hlt⟩
  obtain ⟨b,o,cc,e,hr⟩:=hu.at hy
  cases e
  obtain ⟨b',o',cc',e,hr'⟩:=hv.at hy
  cases e
  refine Ur 1 0 rfl (Uc 0 rfl (lssT (by omega)) (Uf 0 [0,1,4,12,13,14] rfl (Ut 1 rfl (Go'.condT rfl (Ut 4 rfl (Ur 2 0 rfl (Uf 2 [0,1,4,5,12,13,14] rfl (Ut 1 rfl (Ud 9 16448 (by kernel_rfl) (Ux 2 j rfl (by omega) hlt (Us 0 rfl hr rfl ?_)))))))))))
  refine Ux 2 j rfl (by omega) hlt (Us 0 rfl hr' rfl (O.bin rfl rfl rfl rfl rfl rfl (item_neq y _ _) (Uf 0 [0,1,4,5,12,13,14,24] rfl (Go'.condF rfl (Ut 2 rfl (Ur 2 0 rfl (Ua 0 (((j+1:Nat):Int)) rfl (by omega) (Uf 1 [0,1,4,5,12,13,14,24] rfl (Uk [0,1,4,12,13] rfl (Go'.inLoop ?_))))))))))
  exact ih (j+1) H ⟨rfl,hlt⟩ (by omega)
 ·
  refine Ur 1 0 rfl (Uc 0 rfl (lssF (by omega)) (Uf 0 [0,1,4,12,13,14] rfl (Ut 1 rfl (Go'.condF rfl (Ut 2 rfl (Ur 1 0 rfl (Uf 1 [4] rfl (Go'.ret (vs:=[_]) func28 results28 ⟨rfl,trivial⟩ ?_))))))))
  exact ⟨rfl,rfl⟩
end Go.Bt.FG
namespace Go.Bt.FG
open Go Go.Proofs Go.Proofs.Try
set_option maxRecDepth 20000
set_option maxHeartbeats 4000000
set_option linter.unusedSectionVars false
theorem FVe (o:Option (Int×Int)):FV o=.agg (fvs o).toArray:=FV_eq o
theorem fvs_len (o:Option (Int×Int)):(fvs o).length=3:=by cases o<;>rfl
theorem fvs_ones (o:Option (Int×Int)):ones (fvs o)=true:=by cases o<;>rfl
theorem Gt.Good.some {H:Mem} {P:Ps}:∀{h:Nat} {t:Gt EJ h},Gt.Good H P h t→1≤(Gt.X h t).length→1≤(Gt.L h t).length
 | 0,_,_,h1=>h1
 | h+1,(g,X,K),hg,h1=>Nat.le_trans h1 (Pl.sublist_inter X (K.map (Gt.L h)) (by have:=hg.2.2.2.2.2.1;simp only at this;rw [List.length_map,this];omega)).length_le
theorem last_at {α:Type} (l:List α):l.getLast?=l[l.length-1]?:=List.getLast?_eq_getElem? ..
theorem ath_last (l:List (Int×Int)):ath l ((l.length:Int)-1)=l.getLast?:=by
 rw [last_at]
 unfold ath
 cases l with
 | nil=>simp
 | cons x t=>rw [if_neg (by simp only [List.length_cons];omega)];congr 1;simp only [List.length_cons];omega
section
variable [Inhabited Cx]
theorem maxMut_spec {B:World} {H:Mem} {tr:Nat} {P:Ps} (hP:PsOk P) {S:Nat→Prop} {l:List (Int×Int)} (hM:MapM H tr P S l) (mt:Bool):
  Fn Try.prog B 182 [.pointer (some ⟨tr,0,none⟩),.bool mt] H (fun r H'=>r=.tuple #[PV l.getLast?,.bool l.getLast?.isSome]∧Fr nowhere H H'):=by
 have hh1:=hP.h1
 have lt0:=hM.lt
 have hb0:=hM.tc.hb
 refine fn_of func182 rfl ntmps182 ?_
 refine (show Go' _ _ _ _ 59 [(0,_),(1,_)] [.code _] _ from ?_)
 refine Ut 1 rfl (Ur 2 2 rfl (O.alloc rfl rfl rfl zeroValue27 ?_))
 intro H0 M0
 refine ⟨trivial,?_⟩
 have hs0:=M0.size
 replace hM:=hM.fr (M0.fr nowhere) (fun _ _ _=>nw)
 have mw:Wr H0 H.size 0 2:=M0.wr 2 (by decide)
 have hF:=M0.fr nowhere
 refine Uf 1 [0,1,4,5] rfl (Ut 2 rfl ?_)
 obtain ⟨tc,srt,cnt,own,lt,bs,hr⟩:=hM
 rcases hr with ⟨rfl,hptr⟩|⟨h,t,hg,hx1,e,hc,hnt,hown⟩
 ·
  refine Ur 3 32 rfl (Uq 2 rfl (O.callQ rfl rfl rfl call128 rfl lock_spec trivial (Uf 0 [0,1,4,5,9] rfl (Go'.condF rfl (Ut 3 rfl (Ur 5 64 rfl (Ul 3 rfl hptr (O.isNil rfl rfl rfl rfl underlying129 rfl rfl (Uf 0 [0,1,4,5,16] rfl (Go'.condT rfl (Ut 1 rfl ?_)))))))))))
  refine Ur 6 576 rfl (Us 3 rfl tc.emp rfl (O.st (vs:=(EJ.enc (0,0))) rfl rfl sizeOf27 rfl rfl rfl rfl rfl mw ?_))
  intro H3 W3
  replace hF:Fr nowhere H H3:=hF.trans' W3.fr (fun _ _ _ h=>h) (fun b o hb h=>by have h':=h.1;omega)
  refine ⟨trivial,?_⟩
  refine Uf 1 [0,1,4,5] rfl (Go'.ret (vs:=[_,_]) func182 results182 ⟨⟨_,_,rfl,fun _ _=>run_loadVar_agg (fun w=>⟨isAgg27 w,sizeOf27 w⟩) rfl W3.all⟩,rfl,trivial⟩ ?_)
  exact ⟨rfl,hF⟩
 ·
  obtain ⟨kp,hN⟩:=hg.node
  have hc0:=hN.c0
  rw [hg.isoe] at hc0
  have hptr:cl H0 tr 2=some (.pointer (some ⟨Gt.p h t,0,none⟩)):=hc
  refine Ur 3 32 rfl (Uq 2 rfl (O.callQ rfl rfl rfl call128 rfl lock_spec trivial (Uf 0 [0,1,4,5,9] rfl (Go'.condF rfl (Ut 3 rfl (Ur 5 64 rfl (Ul 3 rfl hptr (O.isNil rfl rfl rfl rfl underlying129 rfl rfl (Uf 0 [0,1,4,5,16] rfl (Go'.condF rfl (Ut 2 rfl ?_)))))))))))
  refine Ur 7 2048 rfl (Uq 5 rfl (O.callQ rfl rfl rfl call130 rfl (isoLoad_spec mt hc hc0 tc.iso) trivial (Uf 1 [0,1,4,5,6] rfl (Ut 1 rfl (Go'.loop (Uk [0,1,4,5,6] rfl ?_))))))
  refine Go'.ind (σ:=(h:Nat)×Gt EJ h) (fun s=>s.1) (fun s H'=>H'=H0∧Gt.Good H0 P s.1 s.2∧1≤(Gt.X s.1 s.2).length∧(Gt.L s.1 s.2).getLast?=l.getLast?)
   (fun s=>[(0,.pointer (some ⟨tr,0,none⟩)),(1,.bool mt),(4,.pointer (some ⟨H.size,0,none⟩)),(5,.bool false),(6,.pointer (some ⟨Gt.p s.1 s.2,0,none⟩))]) ⟨h,t⟩ ⟨rfl,hg,hx1,by rw [e]⟩ rfl ?_
  clear hg hx1 e hc hnt hown hN hc0 hptr t h kp
  rintro ⟨h,t⟩ H2 ⟨hHH,hg,hx1,hL⟩ ih
  have eH:H0=H2:=hHH.symm
  subst eH
  simp only at hg hx1 hL
  clear hHH
  refine Ut 3 rfl ?_
  rcases h with _|h
  ·
   obtain ⟨g,X⟩:=t
   have hN:NodeM EJ H0 g X (.pointer none):=hg.1
   replace hx1:1≤X.length:=hx1
   have hxm:X.length≤P.mx:=hg.2.2.2
   have hx255:=hP.hx
   replace hL:X.getLast?=l.getLast?:=hL
   obtain ⟨y,hy⟩:∃y,X[X.length-1]?=some y:=⟨X[X.length-1],List.getElem?_eq_getElem (by omega)⟩
   rw [←hL,last_at,hy]
   refine Ur 2 8 rfl (Uq 1 rfl (O.callQ rfl rfl rfl call133 rfl (leaf_spec hN.c3) trivial (Uf 0 [0,1,4,5,6,28] rfl (Go'.condT rfl (Ut 1 rfl (Ud 14 37765184 (by kernel_rfl) (Ul 3 rfl hN.c2 (Ul 3 rfl hN.c2 (Ub 1 (((X.length-1:Nat):Int)) rfl (by omega) (Ux 0 (X.length-1) rfl (by omega) (by omega) (Us 0 rfl (hN.sl.item hy) rfl ?_)))))))))))
   refine O.st (vs:=(EJ.enc y)) rfl rfl sizeOf27 rfl rfl rfl rfl rfl mw ?_
   intro H3 W3
   replace hF:Fr nowhere H H3:=hF.trans' W3.fr (fun _ _ _ h=>h) (fun b o hb h=>by have h':=h.1;omega)
   refine ⟨trivial,?_⟩
   refine Uf 1 [0,1,4,5,6,28] rfl (Go'.ret (vs:=[_,_]) func182 results182 ⟨⟨_,_,rfl,fun _ _=>run_loadVar_agg (fun w=>⟨isAgg27 w,sizeOf27 w⟩) rfl W3.all⟩,rfl,trivial⟩ ?_)
   exact ⟨rfl,hF⟩
  ·
   obtain ⟨g,X,K⟩:=t
   have hI:Inn H0 P h g X ((Gt.ps h K).map some) K:=hg.inn
   have hKl:K.length=X.length+1:=hg.2.2.2.2.2.1
   have hxm:X.length≤P.mx:=hg.2.2.2.2.1
   have hx255:=hP.hx
   obtain ⟨k,hkk⟩:∃k,K[X.length]?=some k:=⟨K[X.length],List.getElem?_eq_getElem (by omega)⟩
   obtain ⟨hgk,hmk,_⟩:=hI.c.1 k (List.mem_of_getElem? hkk)
   obtain ⟨kp,hNk⟩:=hgk.node
   have hc0:=hNk.c0
   rw [hgk.isoe] at hc0
   have hol:((Gt.ps h K).map some).length=X.length+1:=by rw [List.length_map,Gt.ps,List.length_map];exact hKl
   have hok:((Gt.ps h K).map some)[X.length]?=some (some (Gt.p h k)):=by rw [Gt.ps,List.map_map,List.getElem?_map,hkk];rfl
   have hck:=hI.k.at hok
   have hLk:(Gt.L h k).getLast?=l.getLast?:=by
    rw [←hL]
    show _=(Pl.inter X (K.map (Gt.L h))).getLast?
    have hsp:K=K.take X.length++[k]:=by
     have h1:=List.take_append_drop X.length K
     rw [←List.getElem_cons_drop (h:=by omega),(List.getElem?_eq_some_iff.1 hkk).2,List.drop_of_length_le (by omega)] at h1
     exact h1.symm
    rw [hsp,List.map_append]
    have hf:=Pl.inter_focus X [] ((K.take X.length).map (Gt.L h)) (Gt.L h k) [] (by rw [List.length_map,List.length_take];omega) rfl
    rw [List.append_nil] at hf
    show _=(Pl.inter X ((K.take X.length).map (Gt.L h)++[Gt.L h k])).getLast?
    rw [hf]
    show _=(Pl.pre X ((K.take X.length).map (Gt.L h))++Gt.L h k++[]).getLast?
    rw [List.append_nil,List.getLast?_append]
    have h1:=Gt.Good.some hgk (by omega)
    cases hk:(Gt.L h k).getLast? with
    | none=>rw [List.getLast?_eq_none_iff] at hk;rw [hk] at h1;simp at h1
    | some y=>rfl
   refine Ur 2 8 rfl (Uq 1 rfl (O.callQ rfl rfl rfl call133 rfl (leaf_spec hI.n.c3) trivial (Uf 0 [0,1,4,5,6,28] rfl (Go'.condF rfl (Ut 1 rfl (Ud 19 34377568512 (by kernel_rfl) (Ul 4 rfl hI.n.c3 (Ul 1 rfl hI.k.c (Ul 3 rfl hI.n.c3 (Ul 1 rfl hI.k.c (Ub 1 (((X.length:Nat):Int)) rfl (by omega) ?_)))))))))))
   refine Ux 0 (X.length) rfl (by omega) (by omega) (Uq 1 rfl (O.callQ rfl rfl rfl call130 rfl (isoLoad_spec mt hck hc0 tc.iso) trivial (Uf 1 [0,1,4,5,6,28] rfl (Ut 1 rfl (Uk [0,1,4,5,6] rfl (Go'.inLoop ?_))))))
   exact ih ⟨h,k⟩ H0 ⟨rfl,hgk,Nat.le_trans hh1 hmk,hLk⟩ (Nat.lt_succ_self h)
theorem max_spec {B:World} {H:Mem} {tr:Nat} {P:Ps} (hP:PsOk P) {S:Nat→Prop} {l:List (Int×Int)} (hM:MapM H tr P S l):
  Fn Try.prog B 135 [.pointer (some ⟨tr,0,none⟩)] H (fun r H'=>r=.tuple #[PV l.getLast?,.bool l.getLast?.isSome]∧Fr nowhere H H'):=by
 refine fn_of func135 rfl ntmps135 ?_
 refine (show Go' _ _ _ _ 8 [(0,_)] [.code _] _ from ?_)
 refine Ut 1 rfl (Ur 2 2 rfl (O.alloc rfl rfl rfl zeroValue27 ?_))
 intro H0 M0
 refine ⟨trivial,?_⟩
 have hs0:=M0.size
 replace hM:=hM.fr (M0.fr nowhere) (fun _ _ _=>nw)
 have mw:Wr H0 H.size 0 2:=M0.wr 2 (by decide)
 refine Uf 1 [0,2,3] rfl (Ut 1 rfl (Ur 6 520 rfl (Uq 1 rfl (O.call rfl rfl rfl call182 rfl (maxMut_spec hP hM false) ?_))))
 rintro _ H2 ⟨rfl,hF2⟩
 have hs2:=hF2.size
 replace mw:=hF2.wr mw
 refine ⟨trivial,?_⟩
 refine Uq 2 rfl (O.st (vs:=(EJ.enc (l.getLast?.getD (0,0)))) rfl rfl sizeOf27 rfl rfl rfl rfl rfl mw ?_)
 intro H3 W3
 refine ⟨trivial,?_⟩
 refine Uf 1 [2,3] rfl (Go'.ret (vs:=[_,_]) func135 results135 ⟨⟨_,_,rfl,fun _ _=>run_loadVar_agg (fun w=>⟨isAgg27 w,sizeOf27 w⟩) rfl W3.all⟩,rfl,trivial⟩ ?_)
 exact ⟨rfl,((M0.fr nowhere).trans hF2).trans' W3.fr (fun _ _ _ h=>h) (fun b o hb h=>by have h':=h.1;omega)⟩
end
theorem igmax_spec {B:World} {H:Mem} {d:Nat} {nl:Bool} {v u:Value} {ord:List Int} {l:List (Int×Int)} (hd:d=0∨2≤d∧d≤128) (ho:InS EN H v ord) (hol:ord.length≤4294967296) (hi:InS EJ H u l) (hll:l.length≤4294967296):
  Fn Try.prog B 79 [.agg #[v,.int .i64 (d:Int),.bool nl],u] H (fun r H'=>r=FV (Pl.puts (OO ord) l).getLast?∧Fr nowhere H H'):=by
 obtain ⟨a,c,hu⟩:=hi.len
 subst hu
 obtain ⟨av,mv,cv,hv⟩:=InS.form ho
 subst hv
 have hF:Fr nowhere H H:=Fr.refl _ _
 have hP:=PD_ok hd
 refine fn_of func79 rfl ntmps79 ?_
 refine (show Go' _ _ _ _ 12 [(0,_),(1,_)] [.code _] _ from ?_)
 refine Ut 1 rfl (Ur 2 10 rfl (O.box rfl rfl rfl rfl ?_))
 intro B1 MB1
 refine ⟨trivial,?_⟩
 have hsB1:=MB1.size
 replace hF:=hF.trans (MB1.fr nowhere)
 have mm:Rd B1 H.size 0 [.slice av mv cv,.int .i64 (d:Int),.bool nl]:=MB1.rd _ [] (by simp [Value.cells])
 have mm0:cl B1 H.size 0=some (.slice av mv cv):=mm 0 _ rfl
 have mm1:cl B1 H.size (0+1)=some (.int .i64 (d:Int)):=mm 1 _ rfl
 refine O.alloc rfl rfl rfl zeroValue68 ?_
 intro B2 MB2
 refine ⟨trivial,?_⟩
 have hsB2:=MB2.size
 replace hF:=hF.trans (MB2.fr nowhere)
 replace mm:=(MB2.fr nowhere).rd mm (fun _ _=>nw)
 replace mm0:=(MB2.fr nowhere).keep mm0 nw
 replace mm1:=(MB2.fr nowhere).keep mm1 nw
 have mw0:Wr B2 B1.size 0 3:=MB2.wr 3 (by decide)
 refine Uf 0 [1,2,4] rfl (Ut 1 rfl (Ur 8 41121 rfl (Us 0 rfl mm rfl (Uq 1 rfl (O.call rfl rfl rfl call68 rfl (grow_spec hd (ho.fr hF) hol (hi.fr hF) hll) ?_)))))
 rintro _ H3 ⟨I,hIo,hIw,hIb,tr,S,rfl,hM,hF3,hS⟩
 have hs3:=hF3.size
 replace hF:=hF.trans hF3
 replace mm:=hF3.rd mm (fun _ _=>nw)
 replace mm0:=hF3.keep mm0 nw
 replace mm1:=hF3.keep mm1 nw
 replace mw0:=hF3.wr mw0
 have hSb:∀b,S b∨(b<cx.base∧cx.own b)→B2.size≤b:=fun b hb=>hb.elim (hS b) (fun h=>hIw b h.2)
 have hOO:OO ord=OI:=by rw [←hIo];rfl
 have hpl:=Pl.puts_length OI l
 have hSlt:=hM.lt
 have hbs:=hM.tc.hb
 unfold ptr
 refine ⟨trivial,?_⟩
 refine O.call rfl rfl rfl call135 rfl (max_spec hP hM) ?_
 rintro _ H4 ⟨rfl,hF4⟩
 replace hF:=hF.trans hF4
 replace mm:=hF4.rd mm (fun _ _=>nw)
 replace mm0:=hF4.keep mm0 nw
 replace mm1:=hF4.keep mm1 nw
 replace mw0:=hF4.wr mw0
 rw [←hOO]
 refine ⟨trivial,?_⟩
 refine Uq 2 rfl (O.call rfl rfl rfl call104 rfl ifound_spec ?_)
 rintro _ H5 ⟨rfl,hF5⟩
 have hs4:=hF4.size
 have hs5:=hF5.size
 replace hF:=hF.trans hF5
 replace mm:=hF5.rd mm (fun _ _=>nw)
 replace mm0:=hF5.keep mm0 nw
 replace mm1:=hF5.keep mm1 nw
 replace mw0:=hF5.wr mw0
 rw [FVe]
 refine ⟨trivial,?_⟩
 refine O.st (vs:=(fvs (Pl.puts (OO ord) l).getLast?)) rfl rfl sizeOf68 rfl rfl rfl (fvs_len _) (fvs_ones _) mw0 ?_
 intro H6 W6
 have hs6:=W6.size
 replace hF:=hF.trans' W6.fr (fun _ _ _ h=>h) (fun b o hb h=>by have h':=h.1;omega)
 replace mm:=W6.fr.rd mm (fun _ _=>nr (.inl (by omega)))
 replace mm0:=W6.fr.keep mm0 (nr (.inl (by omega)))
 replace mm1:=W6.fr.keep mm1 (nr (.inl (by omega)))
 replace mw0:=W6.fr.wr mw0
 refine ⟨trivial,?_⟩
 refine Uf 0 [4] rfl (Go'.ret (vs:=[_]) func79 results79 ⟨⟨_,_,rfl,fun _ _=>run_loadVar_agg (fun w=>⟨isAgg68 w,sizeOf68 w⟩) (fvs_len _) W6.all⟩,trivial⟩ ?_)
 exact ⟨rfl,hF⟩
theorem sgmax_spec {B:World} {H:Mem} {z:Int} {nl:Bool} {v u:Value} {ord:List Int} {l:List (Int×Int)} (ho:InS EN H v ord) (hol:ord.length≤4294967296) (hi:InS EJ H u l) (hll:l.length≤4294967296):
  Fn Try.prog B 80 [.agg #[v,.int .i64 z,.bool nl],u] H (fun r H'=>r=FV (Pl.puts (OO ord) l).getLast?∧Fr nowhere H H'):=by
 have hpl:=Pl.puts_length (OO ord) l
 obtain ⟨a,c,hu⟩:=hi.len
 subst hu
 obtain ⟨av,mv,cv,hv⟩:=InS.form ho
 subst hv
 have hF:Fr nowhere H H:=Fr.refl _ _
 refine fn_of func80 rfl ntmps80 ?_
 refine (show Go' _ _ _ _ 15 [(0,_),(1,_)] [.code _] _ from ?_)
 refine Ut 1 rfl (Ur 2 10 rfl (O.box rfl rfl rfl rfl ?_))
 intro B1 MB1
 refine ⟨trivial,?_⟩
 have hsB1:=MB1.size
 replace hF:=hF.trans (MB1.fr nowhere)
 have mm:Rd B1 H.size 0 [.slice av mv cv,.int .i64 z,.bool nl]:=MB1.rd _ [] (by simp [Value.cells])
 have mm0:cl B1 H.size 0=some (.slice av mv cv):=mm 0 _ rfl
 have mm1:cl B1 H.size (0+1)=some (.int .i64 z):=mm 1 _ rfl
 refine O.alloc rfl rfl rfl zeroValue68 ?_
 intro B2 MB2
 refine ⟨trivial,?_⟩
 have hsB2:=MB2.size
 replace hF:=hF.trans (MB2.fr nowhere)
 replace mm:=(MB2.fr nowhere).rd mm (fun _ _=>nw)
 replace mm0:=(MB2.fr nowhere).keep mm0 nw
 replace mm1:=(MB2.fr nowhere).keep mm1 nw
 have mw0:Wr B2 B1.size 0 3:=MB2.wr 3 (by decide)
 refine Uf 0 [1,2,4] rfl (Ut 1 rfl (Ur 5 132 rfl (Ul 1 rfl mm0 (Uq 1 rfl (O.call rfl rfl rfl call42 rfl (tree_spec (ho.fr hF) (by omega) (hi.fr hF) hll) ?_)))))
 rintro tv H4 ⟨hA4,hF4⟩
 replace hF:=hF.trans hF4
 replace mm:=hF4.rd mm (fun _ _=>nw)
 replace mm0:=hF4.keep mm0 nw
 replace mm1:=hF4.keep mm1 nw
 replace mw0:=hF4.wr mw0
 have hT:=hA4.inS
 obtain ⟨ta,tc,rfl⟩:=hT.len
 refine ⟨trivial,?_⟩
 refine Uf 1 [4,5] rfl (Ut 1 rfl (Ur 6 2560 rfl (Ub 3 (((((Pl.puts (OO ord) l).length:Nat):Int)-1)) rfl (by omega) (O.call rfl rfl rfl call136 rfl (at_spec ((((Pl.puts (OO ord) l).length:Nat):Int)-1) hT (by omega)) ?_))))
 rintro _ H5 ⟨rfl,hF5⟩
 have hs4:=hF4.size
 have hs5:=hF5.size
 replace hF:=hF.trans hF5
 replace mm:=hF5.rd mm (fun _ _=>nw)
 replace mm0:=hF5.keep mm0 nw
 replace mm1:=hF5.keep mm1 nw
 replace mw0:=hF5.wr mw0
 rw [ath_last,FVe]
 refine ⟨trivial,?_⟩
 refine O.st (vs:=(fvs (Pl.puts (OO ord) l).getLast?)) rfl rfl sizeOf68 rfl rfl rfl (fvs_len _) (fvs_ones _) mw0 ?_
 intro H6 W6
 have hs6:=W6.size
 replace hF:=hF.trans' W6.fr (fun _ _ _ h=>h) (fun b o hb h=>by have h':=h.1;omega)
 replace mm:=W6.fr.rd mm (fun _ _=>nr (.inl (by omega)))
 replace mm0:=W6.fr.keep mm0 (nr (.inl (by omega)))
 replace mm1:=W6.fr.keep mm1 (nr (.inl (by omega)))
 replace mw0:=W6.fr.wr mw0
 refine ⟨trivial,?_⟩
 refine Uf 0 [4] rfl (Go'.ret (vs:=[_]) func80 results80 ⟨⟨_,_,rfl,fun _ _=>run_loadVar_agg (fun w=>⟨isAgg68 w,sizeOf68 w⟩) (fvs_len _) W6.all⟩,trivial⟩ ?_)
 exact ⟨rfl,hF⟩
theorem lawGMax_spec {B:World} {H:Mem} {d:Nat} {nl:Bool} {v u:Value} {ord:List Int} {l:List (Int×Int)} (hd:d=0∨2≤d∧d≤128) (ho:InS EN H v ord) (hol:ord.length≤4294967296) (hi:InS EJ H u l) (hll:l.length≤4294967296):
  Fn Try.prog B 34 [.agg #[v,.int .i64 (d:Int),.bool nl],u] H (fun r H'=>r=.bool true∧Fr nowhere H H'):=by
 obtain ⟨a,c,hu⟩:=hi.len
 subst hu
 obtain ⟨av,mv,cv,hv⟩:=InS.form ho
 subst hv
 have hF:Fr nowhere H H:=Fr.refl _ _
 have hP:=PD_ok hd
 refine fn_of func34 rfl ntmps34 ?_
 refine (show Go' _ _ _ _ 16 [(0,_),(1,_)] [.code _] _ from ?_)
 refine Ut 1 rfl (Ur 2 2 rfl (O.box rfl rfl rfl rfl ?_))
 intro B1 MB1
 refine ⟨trivial,?_⟩
 have hsB1:=MB1.size
 replace hF:=hF.trans (MB1.fr nowhere)
 have mm:Rd B1 H.size 0 [.slice av mv cv,.int .i64 (d:Int),.bool nl]:=MB1.rd _ [] (by simp [Value.cells])
 have mm0:cl B1 H.size 0=some (.slice av mv cv):=mm 0 _ rfl
 have mm1:cl B1 H.size (0+1)=some (.int .i64 (d:Int)):=mm 1 _ rfl
 refine Uf 1 [1,2,4] rfl (Ut 1 rfl (Ur 5 673 rfl (Us 0 rfl mm rfl (Uq 1 rfl (O.call rfl rfl rfl call79 rfl (igmax_spec hd (ho.fr hF) hol (hi.fr hF) hll) ?_)))))
 rintro _ H3 ⟨rfl,hF3⟩
 have hs3:=hF3.size
 replace hF:=hF.trans hF3
 replace mm:=hF3.rd mm (fun _ _=>nw)
 replace mm0:=hF3.keep mm0 nw
 replace mm1:=hF3.keep mm1 nw
 rw [FVe]
 refine ⟨trivial,?_⟩
 refine O.alloc rfl rfl rfl zeroValue68 ?_
 intro H4 M4
 refine ⟨trivial,?_⟩
 have hs4:=M4.size
 replace hF:=hF.trans (M4.fr nowhere)
 replace mm:=(M4.fr nowhere).rd mm (fun _ _=>nw)
 replace mm0:=(M4.fr nowhere).keep mm0 nw
 replace mm1:=(M4.fr nowhere).keep mm1 nw
 have mc0:Wr H4 H3.size 0 3:=M4.wr 3 (by decide)
 refine O.st (vs:=(fvs (Pl.puts (OO ord) l).getLast?)) rfl rfl sizeOf68 rfl rfl rfl (fvs_len _) (fvs_ones _) mc0 ?_
 intro H5 W5
 have hs5:=W5.size
 have hsF0:=hF.size
 replace hF:=hF.trans' W5.fr (fun _ _ _ h=>h) (fun b o hb h=>by have h':=h.1;omega)
 replace mm:=W5.fr.rd mm (fun _ _=>nr (.inl (by omega)))
 replace mm0:=W5.fr.keep mm0 (nr (.inl (by omega)))
 replace mm1:=W5.fr.keep mm1 (nr (.inl (by omega)))
 have mr0:Rd H5 H3.size 0 (fvs (Pl.puts (OO ord) l).getLast?):=W5.all
 refine ⟨trivial,?_⟩
 refine Uf 0 [1,2,4,5] rfl (Ut 1 rfl (Ur 5 673 rfl (Us 0 rfl mm rfl (Uq 1 rfl (O.call rfl rfl rfl call80 rfl (sgmax_spec (ho.fr hF) hol (hi.fr hF) hll) ?_)))))
 rintro _ H6 ⟨rfl,hF6⟩
 have hs6:=hF6.size
 replace hF:=hF.trans hF6
 replace mm:=hF6.rd mm (fun _ _=>nw)
 replace mm0:=hF6.keep mm0 nw
 replace mm1:=hF6.keep mm1 nw
 replace mr0:=hF6.rd mr0 (fun _ _=>nw)
 rw [FVe]
 refine ⟨trivial,?_⟩
 refine O.alloc rfl rfl rfl zeroValue68 ?_
 intro H7 M7
 refine ⟨trivial,?_⟩
 have hs7:=M7.size
 replace hF:=hF.trans (M7.fr nowhere)
 replace mm:=(M7.fr nowhere).rd mm (fun _ _=>nw)
 replace mm0:=(M7.fr nowhere).keep mm0 nw
 replace mm1:=(M7.fr nowhere).keep mm1 nw
 replace mr0:=(M7.fr nowhere).rd mr0 (fun _ _=>nw)
 have mc1:Wr H7 H6.size 0 3:=M7.wr 3 (by decide)
 refine O.st (vs:=(fvs (Pl.puts (OO ord) l).getLast?)) rfl rfl sizeOf68 rfl rfl rfl (fvs_len _) (fvs_ones _) mc1 ?_
 intro H8 W8
 have hs8:=W8.size
 have hsF1:=hF.size
 replace hF:=hF.trans' W8.fr (fun _ _ _ h=>h) (fun b o hb h=>by have h':=h.1;omega)
 replace mm:=W8.fr.rd mm (fun _ _=>nr (.inl (by omega)))
 replace mm0:=W8.fr.keep mm0 (nr (.inl (by omega)))
 replace mm1:=W8.fr.keep mm1 (nr (.inl (by omega)))
 replace mr0:=W8.fr.rd mr0 (fun _ _=>nr (.inl (by omega)))
 have mr1:Rd H8 H6.size 0 (fvs (Pl.puts (OO ord) l).getLast?):=W8.all
 refine ⟨trivial,?_⟩
 refine Uf 0 [4,5,6] rfl (Ut 1 rfl (Ur 4 5 rfl (O.lds rfl rfl rfl (fun w=>⟨isAgg68 w,sizeOf68 w⟩) rfl (fvs_len _) mr0 (O.lds rfl rfl rfl (fun w=>⟨isAgg68 w,sizeOf68 w⟩) rfl (fvs_len _) mr1 (O.bin rfl rfl rfl rfl rfl rfl (found_eq (Pl.puts (OO ord) l).getLast? _ _) (Uf 1 [4] rfl (Go'.ret (vs:=[_]) func34 results34 ⟨rfl,trivial⟩ ?_)))))))
 exact ⟨rfl,hF⟩
theorem fnExactGMax {B:World} {H:Mem} {z:Int} {nl:Bool} {v u:Value} {ord:List Int} {l:List (Int×Int)} (ho:InS EN H v ord) (hi:InS EJ H u l):
  Fn Try.prog B 6 [.agg #[v,.int .i64 z,.bool nl],u] H (fun r H'=>r=.bool true∧Fr nowhere H H'):=by
 obtain ⟨a,c,hu⟩:=hi.len
 subst hu
 obtain ⟨av,mv,cv,hv⟩:=InS.form ho
 subst hv
 have hF:Fr nowhere H H:=Fr.refl _ _
 refine fn_of func6 rfl ntmps6 ?_
 refine (show Go' _ _ _ _ 27 [(0,_),(1,_)] [.code _] _ from ?_)
 refine Ut 1 rfl (Ur 2 2 rfl (O.box rfl rfl rfl rfl ?_))
 intro B1 MB1
 refine ⟨trivial,?_⟩
 have hsB1:=MB1.size
 replace hF:=hF.trans (MB1.fr nowhere)
 have mm:Rd B1 H.size 0 [.slice av mv cv,.int .i64 z,.bool nl]:=MB1.rd _ [] (by simp [Value.cells])
 have mm0:cl B1 H.size 0=some (.slice av mv cv):=mm 0 _ rfl
 have mm1:cl B1 H.size (0+1)=some (.int .i64 z):=mm 1 _ rfl
 refine Uf 1 [1,2,4] rfl (Ut 2 rfl ?_)
 cases hoz:decide (ord.length≤2147483647)
 ·
  refine Ur 8 9 rfl (Us 0 rfl mm rfl (O.call rfl rfl rfl call23 rfl (zzFits1_spec (ho.fr hF) hoz) ?_))
  rintro _ H1 ⟨rfl,hF1⟩
  replace hF:=hF.trans hF1
  replace mm:=hF1.rd mm (fun _ _=>nw)
  replace mm0:=hF1.keep mm0 nw
  replace mm1:=hF1.keep mm1 nw
  refine ⟨trivial,?_⟩
  refine Uf 6 [1,2,4,12] rfl (Go'.condT rfl (Ut 1 rfl (Ur 1 0 rfl (Uf 1 [1,2,4] rfl (Go'.ret (vs:=[_]) func6 results6 ⟨rfl,trivial⟩ ?_)))))
  exact ⟨rfl,hF⟩
 ·
  have hoz2:=of_decide_eq_true hoz
  by_cases hb_lenl:(2147483647:Int)<(l.length:Int)
  ·
   refine Ur 8 9 rfl (Us 0 rfl mm rfl (O.call rfl rfl rfl call23 rfl (zzFits1_spec (ho.fr hF) hoz) ?_))
   rintro _ H1 ⟨rfl,hF1⟩
   replace hF:=hF.trans hF1
   replace mm:=hF1.rd mm (fun _ _=>nw)
   replace mm0:=hF1.keep mm0 nw
   replace mm1:=hF1.keep mm1 nw
   refine ⟨trivial,?_⟩
   refine Uc 4 rfl (gtrT (by omega)) (Uf 1 [1,2,4,12] rfl (Go'.condT rfl (Ut 1 rfl (Ur 1 0 rfl (Uf 1 [1,2,4] rfl (Go'.ret (vs:=[_]) func6 results6 ⟨rfl,trivial⟩ ?_))))))
   exact ⟨rfl,hF⟩
  ·
   refine Ur 8 9 rfl (Us 0 rfl mm rfl (O.call rfl rfl rfl call23 rfl (zzFits1_spec (ho.fr hF) hoz) ?_))
   rintro _ H1 ⟨rfl,hF1⟩
   replace hF:=hF.trans hF1
   replace mm:=hF1.rd mm (fun _ _=>nw)
   replace mm0:=hF1.keep mm0 nw
   replace mm1:=hF1.keep mm1 nw
   refine ⟨trivial,?_⟩
   refine Uc 4 rfl (gtrF (by omega)) (Uf 1 [1,2,4,12] rfl (Go'.condF rfl (Ut 2 rfl ?_)))
   cases hfz:fitsb z
   ·
    refine Ur 15 8660010 rfl (O.call rfl rfl rfl call30 rfl exMake_spec ?_)
    rintro _ H2 ⟨rfl,hF2⟩
    replace hF:=hF.trans hF2
    replace mm:=hF2.rd mm (fun _ _=>nw)
    replace mm0:=hF2.keep mm0 nw
    replace mm1:=hF2.keep mm1 nw
    refine ⟨trivial,?_⟩
    refine O.call rfl rfl rfl call32 rfl exItems_spec ?_
    rintro ev H3 ⟨hev,hF3⟩
    replace hF:=hF.trans hF3
    replace mm:=hF3.rd mm (fun _ _=>nw)
    replace mm0:=hF3.keep mm0 nw
    replace mm1:=hF3.keep mm1 nw
    refine ⟨trivial,?_⟩
    refine O.call rfl rfl rfl call34 rfl (lawGMax_spec (d:=2) (by decide) (InS.nil EN _) (by decide) hev (by decide)) ?_
    rintro _ H4 ⟨rfl,hF4⟩
    replace hF:=hF.trans hF4
    replace mm:=hF4.rd mm (fun _ _=>nw)
    replace mm0:=hF4.keep mm0 nw
    replace mm1:=hF4.keep mm1 nw
    refine ⟨trivial,?_⟩
    refine Ul 2 rfl mm1 (O.callQ rfl rfl rfl call33 rfl (fits_spec' hfz) trivial (Uq 4 rfl (Pl.pass2 rfl rfl rfl rfl trivial (Uf 3 [4] rfl (Go'.ret (vs:=[_]) func6 results6 ⟨rfl,trivial⟩ ?_)))))
    exact ⟨rfl,hF⟩
   ·
    obtain ⟨d,rfl,hd⟩:=fitsb_nat hfz
    refine Ur 15 8660010 rfl (O.call rfl rfl rfl call30 rfl exMake_spec ?_)
    rintro _ H2 ⟨rfl,hF2⟩
    replace hF:=hF.trans hF2
    replace mm:=hF2.rd mm (fun _ _=>nw)
    replace mm0:=hF2.keep mm0 nw
    replace mm1:=hF2.keep mm1 nw
    refine ⟨trivial,?_⟩
    refine O.call rfl rfl rfl call32 rfl exItems_spec ?_
    rintro ev H3 ⟨hev,hF3⟩
    replace hF:=hF.trans hF3
    replace mm:=hF3.rd mm (fun _ _=>nw)
    replace mm0:=hF3.keep mm0 nw
    replace mm1:=hF3.keep mm1 nw
    refine ⟨trivial,?_⟩
    refine O.call rfl rfl rfl call34 rfl (lawGMax_spec (d:=2) (by decide) (InS.nil EN _) (by decide) hev (by decide)) ?_
    rintro _ H4 ⟨rfl,hF4⟩
    replace hF:=hF.trans hF4
    replace mm:=hF4.rd mm (fun _ _=>nw)
    replace mm0:=hF4.keep mm0 nw
    replace mm1:=hF4.keep mm1 nw
    refine ⟨trivial,?_⟩
    refine Ul 2 rfl mm1 (O.callQ rfl rfl rfl call33 rfl (fits_spec' hfz) trivial (Us 2 rfl mm rfl (Uq 1 rfl (O.call rfl rfl rfl call34 rfl (lawGMax_spec hd (ho.fr hF) (by omega) (hi.fr hF) (by omega)) ?_))))
    rintro _ H5 ⟨rfl,hF5⟩
    replace hF:=hF.trans hF5
    replace mm:=hF5.rd mm (fun _ _=>nw)
    replace mm0:=hF5.keep mm0 nw
    replace mm1:=hF5.keep mm1 nw
    refine ⟨trivial,?_⟩
    refine Uf 3 [4] rfl (Go'.ret (vs:=[_]) func6 results6 ⟨rfl,trivial⟩ ?_)
    exact ⟨rfl,hF⟩
end Go.Bt.FG
namespace Go.Bt.FG
open Go Go.Proofs Go.Proofs.Try
set_option maxRecDepth 20000
set_option maxHeartbeats 4000000
set_option linter.unusedSectionVars false
end Go.Bt.FG
namespace Go.Bt.Pl
theorem pre_snoc {α:Type}:∀(X:List α) (K:List (List α)) (x:α) (k:List α),X.length=K.length→pre (X++[x]) (K++[k])=pre X K++(k++[x])
 | [],[],x,k,_=>by simp [pre]
 | y::X,l::K,x,k,h=>by
  simp only [List.cons_append,pre]
  rw [pre_snoc X K x k (by simpa using h)]
  simp
 | [],_::_,_,_,h=>by simp at h
 | _::_,[],_,_,h=>by simp at h
theorem inter_last {α:Type} {X:List α} {K:List (List α)} {k:List α} (hl:K.length=X.length+1) (hk:K[X.length]?=some k):inter X K=pre X (K.take X.length)++k:=by
 have hsp:K=K.take X.length++[k]:=by
  have h1:=(List.getElem?_eq_some_iff.1 hk)
  obtain ⟨h1,h2⟩:=h1
  conv=>lhs;rw [←List.take_append_drop X.length K]
  rw [←List.getElem_cons_drop (h:=h1),h2,List.drop_of_length_le (by omega)]
 have:=inter_focus X [] (K.take X.length) k [] (by rw [List.length_take];omega) rfl
 rw [List.append_nil] at this
 rw [hsp] at this ⊢
 simp only [post,List.append_nil] at this
 rw [show (List.take X.length K++[k]).take X.length=K.take X.length by rw [List.take_append_of_le_length (by rw [List.length_take];omega),List.take_take,Nat.min_self]]
 rw [show (List.take X.length K++[k]).take X.length=K.take X.length by rw [List.take_append_of_le_length (by rw [List.length_take];omega),List.take_take,Nat.min_self]] at this
 exact this
theorem inter_drop1 {α:Type} {X:List α} {K:List (List α)} {x:α} {k:List α} {j:Nat} (hx:X[j]?=some x) (hk:K[j]?=some k):inter (X.drop j) (K.drop j)=k++x::inter (X.drop (j+1)) (K.drop (j+1)):=by
 obtain ⟨h1,h2⟩:=List.getElem?_eq_some_iff.1 hx
 obtain ⟨h3,h4⟩:=List.getElem?_eq_some_iff.1 hk
 rw [←List.getElem_cons_drop (h:=h1),←List.getElem_cons_drop (h:=h3),h2,h4]
 rfl
theorem inter_dropn {α:Type} {X:List α} {K:List (List α)} (hl:K.length=X.length+1):∀j,j≤X.length→∃A,inter X K=A++inter (X.drop j) (K.drop j)
 | 0,_=>⟨[],by simp⟩
 | j+1,h=>by
  obtain ⟨A,hA⟩:=inter_dropn hl j (by omega)
  exact ⟨A++K[j]'(by omega)++[X[j]'(by omega)],by rw [hA,inter_drop1 (List.getElem?_eq_getElem (by omega)) (List.getElem?_eq_getElem (by omega))];simp⟩
end Go.Bt.Pl
namespace Go.Bt.FG
open Go Go.Proofs Go.Proofs.Try
set_option maxRecDepth 20000
set_option maxHeartbeats 4000000
set_option linter.unusedSectionVars false
def encIt (x:Int×Int):List Value:=[.agg (EJ.enc x).toArray]
theorem takes_stop {go:List (Int×Int)→Bool} {acc l r:List (Int×Int)} (h:(takes go acc l).2=false):takes go acc (l++r)=takes go acc l:=by rw [takes_append,h];rfl
theorem takes_on {go:List (Int×Int)→Bool} {acc l r:List (Int×Int)} (h:(takes go acc l).2=true):takes go acc (l++r)=takes go (takes go acc l).1 r:=by rw [takes_append,h];rfl
end Go.Bt.FG
namespace Go.Bt.Pl
theorem inter_pre {α:Type}:∀(j:Nat) (X:List α) (K:List (List α)),K.length=X.length+1→j≤X.length→inter X K=pre (X.take j) (K.take j)++inter (X.drop j) (K.drop j)
 | 0,X,K,_,_=>by simp [pre]
 | j+1,[],_,_,h=>by simp at h
 | j+1,_::_,[],h,_=>by simp at h
 | j+1,x::X,k::K,hl,h=>by
  simp only [List.take_succ_cons,List.drop_succ_cons,pre,inter]
  rw [inter_pre j X K (by simpa using hl) (by simpa using h)]
  simp
end Go.Bt.Pl
namespace Go.Bt.FG
open Go Go.Proofs Go.Proofs.Try
set_option maxRecDepth 20000
set_option maxHeartbeats 4000000
set_option linter.unusedSectionVars false
section
variable [Inhabited Cx]
structure VPre {P':Program} {B:World} {g:FuncId} {us cs:List Value} {go:List (Int×Int)→Bool} {M:Nat} (cb:Cb P' B encIt g us cs go M) (H:Mem) (tr:Nat) (P:Ps) (h:Nat) (t:Gt EJ h) (bp op:Nat) (acc:List (Int×Int)) (Z:Nat→Prop):Prop where
 tc:TrC H tr P.iso P.mx P.mn
 g:Gt.Good H P h t
 cel:cl H bp op=some (ptr (Gt.p h t))
 nz:∀b o,Gt.af h t b o→¬Z b
 nb:∀b,Z b→¬(b<cx.base∧cx.own b)
 st:cb.T acc Z H
 len:acc.length+(Gt.L h t).length≤M
theorem nrev0 {B:World} {g:FuncId} {us cs:List Value} {go:List (Int×Int)→Bool} {M:Nat} (cb:Cb Try.prog B encIt g us cs go M) (hcall:∀(args:Array Value) (w:World),(callFunc g args).run Try.prog w=.ok (.enter g args) w) {tr:Nat} {P:Ps} (hP:PsOk P) (mt:Bool) {H:Mem} {bp op:Nat} {acc:List (Int×Int)} {Z:Nat→Prop} {t:Gt EJ 0} (hp:VPre cb H tr P 0 t bp op acc Z):
  Fn Try.prog B 189 [.pointer (some ⟨tr,0,none⟩),.pointer (some ⟨bp,op,none⟩),.func (.func g) us.toArray cs.toArray,.bool mt] H (fun r H'=>r=.bool (takes go acc (Gt.L 0 t).reverse).2∧CbPost cb acc Z H (Gt.L 0 t).reverse H'):=by
 obtain ⟨gg,X⟩:=t
 obtain ⟨tc,hg,hc,hnz,hntr,hst,hlen⟩:=hp
 have hN:NodeM EJ H gg X (.pointer none):=hg.1
 have hiso:gg.iso=P.iso:=hg.2.1
 have hxm:X.length≤P.mx:=hg.2.2.2
 have hx255:=hP.hx
 replace hlen:acc.length+X.length≤M:=hlen
 have hc0:=hN.c0
 rw [hiso] at hc0
 have hltN:∀b o,ncl EJ gg b o→b<H.size:=fun b o hb=>NodeM.lt hN hb
 show Fn _ _ _ _ _ (fun r H'=>r=.bool (takes go acc X.reverse).2∧CbPost cb acc Z H X.reverse H')
 refine fn_of func189 rfl ntmps189 ?_
 refine (show Go' _ _ _ _ 91 [(0,_),(1,_),(2,_),(3,_)] [.code _] _ from ?_)
 refine Ut 1 rfl (Ur 1 0 rfl (Uf 1 [0,1,2,3,8] rfl (Ut 1 rfl (Ur 5 128 rfl (Uq 3 rfl (O.callQ rfl rfl rfl call130 rfl (isoLoad_spec mt hc hc0 tc.iso) trivial (Uf 1 [0,2,3,8,9] rfl (Ut 2 rfl ?_))))))))
 unfold ptr
 refine Ur 2 8 rfl (Uq 1 rfl (O.callQ rfl rfl rfl call133 rfl (leaf_spec hN.c3) trivial (Uf 0 [0,2,3,8,9,17] rfl (Go'.condT rfl (Ut 2 rfl (Ur 7 64 rfl (Ul 3 rfl hN.c2 (Ub 1 (((X.length:Nat):Int)-1) rfl (by omega) (Uf 1 [0,2,3,8,9,10] rfl (Ut 1 rfl (Go'.loop ?_)))))))))))
 refine Uk [2,9,10] rfl ?_
 refine Go'.ind (σ:=Nat×(Nat→Prop)) (fun s=>s.1) (fun s H'=>s.1≤X.length∧(takes go acc (X.drop s.1).reverse).2=true∧cb.T (takes go acc (X.drop s.1).reverse).1 s.2 H'∧Fr (fun b _=>Z b) H H'∧∀b,s.2 b→Z b∨H.size≤b)
  (fun s=>[(2,.func (.func g) us.toArray cs.toArray),(9,.pointer (some ⟨gg.p,0,none⟩)),(10,.int .i64 ((s.1:Int)-1))]) (X.length,Z) ⟨Nat.le_refl _,by simp [takes],by simpa [takes] using hst,Fr.refl _ _,fun b hb=>.inl hb⟩ rfl ?_
 rintro ⟨j,Z1⟩ H2 ⟨hj,htk,hT,hF,hZ1⟩ ih
 simp only at hj htk hT hZ1
 replace hN:=NodeM.fr EJ hN hF (fun x y hxy hz=>hnz x y hxy hz)
 refine Ut 2 rfl ?_
 rcases j with _|j
 ·
  refine Ur 2 0 rfl (Uc 1 rfl (geqF (by show ((0:Nat):Int)-1<0;omega)) (Uf 0 [2,9,10,25] rfl (Go'.condF rfl (Ut 2 rfl (Ur 1 0 rfl (Uf 1 [2,8,9] rfl (Go'.ret (vs:=[_]) func189 results189 ⟨rfl,trivial⟩ ?_)))))))
  rw [List.drop_zero] at htk hT
  exact ⟨by rw [htk];rfl,Z1,hT,hF,hZ1⟩
 ·
  obtain ⟨y,hy⟩:∃y,X[j]?=some y:=⟨X[j],List.getElem?_eq_getElem (by omega)⟩
  have hd:(X.drop j).reverse=(X.drop (j+1)).reverse++[y]:=by
   obtain ⟨h1,h2⟩:=List.getElem?_eq_some_iff.1 hy
   rw [←List.getElem_cons_drop (h:=h1),h2,List.reverse_cons]
  have hall:X.reverse=(X.drop j).reverse++(X.take j).reverse:=by rw [←List.reverse_append,List.take_append_drop]
  have htl:=takes_length go (X.drop (j+1)).reverse acc
  rw [List.length_reverse,List.length_drop] at htl
  have e1:takes go acc (X.drop j).reverse=takes go (takes go acc (X.drop (j+1)).reverse).1 [y]:=by rw [hd,takes_on htk]
  generalize hA:(takes go acc (X.drop (j+1)).reverse).1=A at*
  have ej:(((j+1:Nat):Int)-1)=(j:Int):=by omega
  rw [ej]
  refine Ur 2 0 rfl (Uc 1 rfl (geqT (by omega)) (Uf 0 [2,9,10,25] rfl (Go'.condT rfl (Ut 4 rfl ?_))))
  cases hgo:go (A++[y])
  ·
   refine Ur 10 147712 rfl (Ul 4 rfl hN.c2 (Ux 1 j rfl (by omega) (by omega) (Us 0 rfl (hN.sl.item hy) rfl (O.callC rfl rfl rfl rfl hcall rfl (cb.call y hT (by omega)) ?_))))
   rintro _ H3 ⟨rfl,Z2,hT2,hF2,hZ2⟩
   rw [hgo]
   have hsz:=hF.size
   refine ⟨trivial,?_⟩
   refine Uf 1 [2,9,10,25,37] rfl (Go'.condT rfl (Ut 1 rfl (Ur 1 0 rfl (Uf 1 [2,8,9,10,25,37] rfl (Go'.ret (vs:=[_]) func189 results189 ⟨rfl,trivial⟩ ?_)))))
   have e2:takes go acc (X.drop j).reverse=(A++[y],false):=by rw [e1];simp [takes,hgo]
   have e3:takes go acc X.reverse=(A++[y],false):=by rw [hall,takes_stop (by rw [e2]),e2]
   refine ⟨by rw [e3];rfl,Z2,by rw [e3];exact hT2,hF.trans' hF2 (fun _ _ _ h=>h) (fun b o hb hz=>(hZ1 b hz).elim id (fun h=>by omega)),fun b hb=>(hZ2 b hb).elim (hZ1 b) (fun h=>.inr (by omega))⟩
  ·
   refine Ur 10 147712 rfl (Ul 4 rfl hN.c2 (Ux 1 j rfl (by omega) (by omega) (Us 0 rfl (hN.sl.item hy) rfl (O.callC rfl rfl rfl rfl hcall rfl (cb.call y hT (by omega)) ?_))))
   rintro _ H3 ⟨rfl,Z2,hT2,hF2,hZ2⟩
   rw [hgo]
   have hsz:=hF.size
   refine ⟨trivial,?_⟩
   refine Uf 1 [2,9,10,25,37] rfl (Go'.condF rfl (Ut 2 rfl (Ur 3 0 rfl (Ub 1 (((j:Nat):Int)-1) rfl (by omega) (Uf 1 [2,9,10,25,37] rfl (Uk [2,9,10] rfl (Go'.inLoop ?_)))))))
   have e2:takes go acc (X.drop j).reverse=(A++[y],true):=by rw [e1];simp [takes,hgo]
   exact ih (j,Z2) H3 ⟨by simp only;omega,by rw [e2],by rw [e2];exact hT2,hF.trans' hF2 (fun _ _ _ h=>h) (fun b o hb hz=>(hZ1 b hz).elim id (fun h=>by omega)),fun b hb=>(hZ2 b hb).elim (hZ1 b) (fun h=>.inr (by omega))⟩ (by simp only;omega)
theorem nrev {B:World} {g:FuncId} {us cs:List Value} {go:List (Int×Int)→Bool} {M:Nat} (cb:Cb Try.prog B encIt g us cs go M) (hcall:∀(args:Array Value) (w:World),(callFunc g args).run Try.prog w=.ok (.enter g args) w) {tr:Nat} {P:Ps} (hP:PsOk P) (mt:Bool):∀(h:Nat) {H:Mem} {bp op:Nat} {acc:List (Int×Int)} {Z:Nat→Prop} {t:Gt EJ h},VPre cb H tr P h t bp op acc Z→
  Fn Try.prog B 189 [.pointer (some ⟨tr,0,none⟩),.pointer (some ⟨bp,op,none⟩),.func (.func g) us.toArray cs.toArray,.bool mt] H (fun r H'=>r=.bool (takes go acc (Gt.L h t).reverse).2∧CbPost cb acc Z H (Gt.L h t).reverse H')
 | 0,_,_,_,_,_,_,hp=>nrev0 cb hcall hP mt hp
 | h+1,H,bp,op,acc,Z,(gg,X,K),hp=>by
  have ih:=@nrev B g us cs go M cb hcall tr P hP mt h
  obtain ⟨tc,hg,hc,hnz,hntr,hst,hlen⟩:=hp
  have hI:Inn H P h gg X ((Gt.ps h K).map some) K:=hg.inn
  have hKl:K.length=X.length+1:=hg.2.2.2.2.2.1
  have hxm:X.length≤P.mx:=hg.2.2.2.2.1
  have hx255:=hP.hx
  have hKL:(K.map (Gt.L h)).length=X.length+1:=by rw [List.length_map];exact hKl
  have hol:((Gt.ps h K).map some).length=X.length+1:=by rw [List.length_map,Gt.ps,List.length_map];exact hKl
  replace hlen:acc.length+(Pl.inter X (K.map (Gt.L h))).length≤M:=hlen
  have hlt:∀x y,innc h gg K x y→x<H.size:=fun x y hb=>hI.lt hb
  obtain ⟨_,_,_,hkb⟩:=hI.cells
  have hkz:¬Z gg.kb:=fun e=>hnz gg.kb gg.ko (.inr (.inl (show kcl gg gg.kb gg.ko from .inr ⟨rfl,Nat.le_refl _,by have:=hI.k.kc;omega⟩))) e
  have htl:tr<H.size:=cl_lt tc.iso
  have hc0:=hI.n.c0
  rw [hI.iso] at hc0
  have hin:∀H',Fr (fun x _=>Z x) H H'→Inn H' P h gg X ((Gt.ps h K).map some) K:=fun H' hf=>hI.fr hf (fun x y hxy hz=>hnz x y hxy hz)
  have htc:∀H',Fr (fun x _=>Z x) H H'→TrC H' tr P.iso P.mx P.mn:=fun H' hf=>tc.fr hf fun b o hb _ hz=>hntr b hz hb
  have hkid:∀{H2:Mem} {Z1:Nat→Prop} {A:List (Int×Int)} {j:Nat} {k:Gt EJ h},K[j]?=some k→Fr (fun x _=>Z x) H H2→cb.T A Z1 H2→(∀b,Z1 b→Z b∨H.size≤b)→A.length+(Gt.L h k).length≤M→VPre cb H2 tr P h k gg.kb (gg.ko+j*1) A Z1:=by
   intro H2 Z1 A j k hkk hF hT hZ1 hA
   have hkK:k∈K:=List.mem_of_getElem? hkk
   have hI2:=hin H2 hF
   have hok:((Gt.ps h K).map some)[j]?=some (some (Gt.p h k)):=by rw [Gt.ps,List.map_map,List.getElem?_map,hkk];rfl
   exact ⟨htc H2 hF,(hI2.c.1 k hkK).1,hI2.k.at hok,fun b o hb hz=>(hZ1 b hz).elim (fun hz=>hnz b o (.inr (.inr ⟨k,hkK,hb⟩)) hz) (fun hz=>by have:=hlt b o (.inr (.inr ⟨k,hkK,hb⟩));omega),
    fun b hz hb=>(hZ1 b hz).elim (fun h=>hntr b h hb) (fun h=>by have:=tc.hb;omega),hT,hA⟩
  have hkz1:∀Z1:Nat→Prop,(∀b,Z1 b→Z b∨H.size≤b)→¬Z1 gg.kb:=fun Z1 hZ1 hz=>(hZ1 _ hz).elim hkz (fun h=>by omega)
  have hcat:∀{Z1 Z2:Nat→Prop} {H2 H3:Mem},Fr (fun x _=>Z x) H H2→(∀b,Z1 b→Z b∨H.size≤b)→Fr (fun x _=>Z1 x) H2 H3→(∀b,Z2 b→Z1 b∨H2.size≤b)→Fr (fun x _=>Z x) H H3∧∀b,Z2 b→Z b∨H.size≤b:=by
   intro Z1 Z2 H2 H3 hF hZ1 hF2 hZ2
   have:=hF.size
   exact ⟨hF.trans' hF2 (fun _ _ _ h=>h) (fun b o hb hz=>(hZ1 b hz).elim id (fun h=>by omega)),fun b hb=>(hZ2 b hb).elim (hZ1 b) (fun h=>.inr (by omega))⟩
  obtain ⟨kn,hkn⟩:∃k,K[X.length]?=some k:=⟨K[X.length],List.getElem?_eq_getElem (by omega)⟩
  have hknL:(K.map (Gt.L h))[X.length]?=some (Gt.L h kn):=by rw [List.getElem?_map,hkn];rfl
  have hLn:Pl.inter X (K.map (Gt.L h))=Pl.pre X ((K.map (Gt.L h)).take X.length)++Gt.L h kn:=Pl.inter_last hKL hknL
  have hlast:Pl.inter (X.drop X.length) ((K.map (Gt.L h)).drop X.length)=Gt.L h kn:=by
   obtain ⟨h1,h2⟩:=List.getElem?_eq_some_iff.1 hknL
   rw [List.drop_length,←List.getElem_cons_drop (h:=h1),h2,List.drop_of_length_le (by omega)];rfl
  show Fn _ _ _ _ _ (fun r H'=>r=.bool (takes go acc (Pl.inter X (K.map (Gt.L h))).reverse).2∧CbPost cb acc Z H (Pl.inter X (K.map (Gt.L h))).reverse H')
  have hlenn:acc.length+(Gt.L h kn).length≤M:=by rw [hLn,List.length_append] at hlen;omega
  refine fn_of func189 rfl ntmps189 ?_
  refine (show Go' _ _ _ _ 91 [(0,_),(1,_),(2,_),(3,_)] [.code _] _ from ?_)
  refine Ut 1 rfl (Ur 1 0 rfl (Uf 1 [0,1,2,3,8] rfl (Ut 1 rfl (Ur 5 128 rfl (Uq 3 rfl (O.callQ rfl rfl rfl call130 rfl (isoLoad_spec mt hc hc0 tc.iso) trivial (Uf 1 [0,2,3,8,9] rfl (Ut 2 rfl ?_))))))))
  unfold ptr
  refine Ur 2 8 rfl (Uq 1 rfl (O.callQ rfl rfl rfl call133 rfl (leaf_spec hI.n.c3) trivial (Uf 0 [0,2,3,8,9,17] rfl (Go'.condF rfl (Ut 3 rfl (Ud 20 137456783616 (by kernel_rfl) (Ul 4 rfl hI.n.c3 (Ul 1 rfl hI.k.c (Ul 3 rfl hI.n.c3 (Ul 1 rfl hI.k.c (Ub 1 (((X.length:Nat):Int)) rfl (by omega) ?_)))))))))))
  refine Ux 0 (X.length) rfl (by omega) (by omega) (Uq 2 rfl (O.call rfl rfl rfl call189 rfl (ih (hkid hkn (Fr.refl _ _) hst (fun b hb=>.inl hb) hlenn)) ?_))
  rintro _ H2 ⟨rfl,Z2,hT2,hF2,hZ2⟩
  refine ⟨trivial,?_⟩
  refine Uf 1 [0,2,3,8,9,57] rfl ?_
  cases htk0:(takes go acc (Gt.L h kn).reverse).2
  ·
   refine Go'.condT rfl (Ut 1 rfl (Ur 1 0 rfl (Uf 1 [0,2,3,8,9] rfl (Go'.ret (vs:=[_]) func189 results189 ⟨rfl,trivial⟩ ?_))))
   have e:(Pl.inter X (K.map (Gt.L h))).reverse=(Gt.L h kn).reverse++(Pl.pre X ((K.map (Gt.L h)).take X.length)).reverse:=by rw [hLn,List.reverse_append]
   have e2:=takes_stop (r:=(Pl.pre X ((K.map (Gt.L h)).take X.length)).reverse) htk0
   rw [←e] at e2
   unfold CbPost
   rw [e2]
   exact ⟨by rw [htk0];rfl,Z2,hT2,hF2,hZ2⟩
  ·
   refine Go'.condF rfl (Ut 3 rfl ?_)
   have hI2:=hin H2 hF2
   refine Ur 7 64 rfl (Ul 3 rfl hI2.n.c2 (Ub 1 (((X.length:Nat):Int)-1) rfl (by omega) (Uf 1 [0,2,3,8,9,11] rfl (Ut 1 rfl (Go'.loop (Uk [0,2,3,9,11] rfl ?_))))))
   refine Go'.ind (σ:=Nat×(Nat→Prop)) (fun s=>s.1) (fun s H'=>s.1≤X.length∧(takes go acc (Pl.inter (X.drop s.1) ((K.map (Gt.L h)).drop s.1)).reverse).2=true∧cb.T (takes go acc (Pl.inter (X.drop s.1) ((K.map (Gt.L h)).drop s.1)).reverse).1 s.2 H'∧Fr (fun b _=>Z b) H H'∧∀b,s.2 b→Z b∨H.size≤b)
    (fun s=>[(0,.pointer (some ⟨tr,0,none⟩)),(2,.func (.func g) us.toArray cs.toArray),(3,.bool mt),(9,.pointer (some ⟨gg.p,0,none⟩)),(11,.int .i64 ((s.1:Int)-1))]) (X.length,Z2) ⟨Nat.le_refl _,by rw [hlast];exact htk0,by rw [hlast];exact hT2,hF2,hZ2⟩ rfl ?_
   clear hI2 hT2 hF2 hZ2 htk0
   rintro ⟨j,Z1⟩ H3 ⟨hj,htk,hT,hF,hZ1⟩ ih2
   simp only at hj htk hT hZ1
   have hI3:=hin H3 hF
   refine Ut 2 rfl ?_
   rcases j with _|j
   ·
    refine Ur 2 0 rfl (Uc 1 rfl (geqF (by show ((0:Nat):Int)-1<0;omega)) (Uf 0 [0,2,3,9,11,65] rfl (Go'.condF rfl (Ut 2 rfl (Ur 1 0 rfl (Uf 1 [8] rfl (Go'.ret (vs:=[_]) func189 results189 ⟨rfl,trivial⟩ ?_)))))))
    rw [List.drop_zero,List.drop_zero] at htk hT
    exact ⟨by rw [htk];rfl,Z1,hT,hF,hZ1⟩
   ·
    obtain ⟨y,hy⟩:∃y,X[j]?=some y:=⟨X[j],List.getElem?_eq_getElem (by omega)⟩
    obtain ⟨k,hkk⟩:∃k,K[j]?=some k:=⟨K[j],List.getElem?_eq_getElem (by omega)⟩
    have hkL:(K.map (Gt.L h))[j]?=some (Gt.L h k):=by rw [List.getElem?_map,hkk];rfl
    have hd:=Pl.inter_drop1 hy hkL
    obtain ⟨pfx,hall⟩:=Pl.inter_dropn hKL j (by omega)
    have hal2:(Pl.inter X (K.map (Gt.L h))).reverse=(Pl.inter (X.drop (j+1)) ((K.map (Gt.L h)).drop (j+1))).reverse++([y]++((Gt.L h k).reverse++pfx.reverse)):=by
     rw [hall,hd];simp
    have hal3:(Pl.inter (X.drop j) ((K.map (Gt.L h)).drop j)).reverse=(Pl.inter (X.drop (j+1)) ((K.map (Gt.L h)).drop (j+1))).reverse++([y]++(Gt.L h k).reverse):=by
     rw [hd];simp
    have hlen2:(Pl.inter X (K.map (Gt.L h))).length=pfx.length+((Gt.L h k).length+(1+(Pl.inter (X.drop (j+1)) ((K.map (Gt.L h)).drop (j+1))).length)):=by
     rw [hall,hd];simp;omega
    have htl:=takes_length go (Pl.inter (X.drop (j+1)) ((K.map (Gt.L h)).drop (j+1))).reverse acc
    rw [List.length_reverse] at htl
    have t1:=takes_on (r:=[y]++((Gt.L h k).reverse++pfx.reverse)) htk
    have t2:=takes_on (r:=[y]++(Gt.L h k).reverse) htk
    rw [←hal2] at t1
    rw [←hal3] at t2
    generalize hA:(takes go acc (Pl.inter (X.drop (j+1)) ((K.map (Gt.L h)).drop (j+1))).reverse).1=A at*
    have ej:(((j+1:Nat):Int)-1)=(j:Int):=by omega
    have hall4:(A++[y]).length=A.length+1:=by simp
    rw [ej]
    refine Ur 2 0 rfl (Uc 1 rfl (geqT (by omega)) (Uf 0 [0,2,3,9,11,65] rfl (Go'.condT rfl (Ut 5 rfl ?_))))
    cases hgo:go (A++[y])
    ·
     refine Ur 10 147712 rfl (Ul 4 rfl hI3.n.c2 (Ux 1 j rfl (by omega) (by omega) (Us 0 rfl (hI3.n.sl.item hy) rfl (O.callC rfl rfl rfl rfl hcall rfl (cb.call y hT (by omega)) ?_))))
     rintro _ H4 ⟨rfl,Z4,hT4,hF4,hZ4⟩
     rw [hgo]
     obtain ⟨hF5,hZ5⟩:=hcat hF hZ1 hF4 hZ4
     refine ⟨trivial,?_⟩
     refine Uf 1 [0,2,3,9,11,65,77] rfl (Go'.condT rfl (Ut 1 rfl (Ur 1 0 rfl (Uf 1 [0,2,3,8,9,11,65,77] rfl (Go'.ret (vs:=[_]) func189 results189 ⟨rfl,trivial⟩ ?_)))))
     have e3:takes go acc (Pl.inter X (K.map (Gt.L h))).reverse=(A++[y],false):=by rw [t1,takes_stop (by simp [takes,hgo])];simp [takes,hgo]
     unfold CbPost
     rw [e3]
     exact ⟨rfl,Z4,hT4,hF5,hZ5⟩
    ·
     refine Ur 10 147712 rfl (Ul 4 rfl hI3.n.c2 (Ux 1 j rfl (by omega) (by omega) (Us 0 rfl (hI3.n.sl.item hy) rfl (O.callC rfl rfl rfl rfl hcall rfl (cb.call y hT (by omega)) ?_))))
     rintro _ H4 ⟨rfl,Z4,hT4,hF4,hZ4⟩
     rw [hgo]
     obtain ⟨hF5,hZ5⟩:=hcat hF hZ1 hF4 hZ4
     refine ⟨trivial,?_⟩
     refine Uf 1 [0,2,3,9,11,65,77] rfl (Go'.condF rfl (Ut 2 rfl ?_))
     have u1:takes go A ([y]++((Gt.L h k).reverse++pfx.reverse))=takes go (A++[y]) ((Gt.L h k).reverse++pfx.reverse):=by rw [takes_on (by simp [takes,hgo])];simp [takes,hgo]
     have u2:takes go A ([y]++(Gt.L h k).reverse)=takes go (A++[y]) (Gt.L h k).reverse:=by rw [takes_on (by simp [takes,hgo])];simp [takes,hgo]
     rw [u1] at t1
     rw [u2] at t2
     have hI4:=hin H4 hF5
     refine Ur 13 8392960 rfl (Ul 4 rfl hI4.n.c3 (Ul 1 rfl hI4.k.c (Ux 1 j rfl (by omega) (by omega) (Uq 2 rfl (O.call rfl rfl rfl call189 rfl (ih (hkid hkk hF5 hT4 hZ5 (by omega))) ?_)))))
     rintro _ H6 ⟨rfl,Z6,hT6,hF6,hZ6⟩
     obtain ⟨hF7,hZ7⟩:=hcat hF5 hZ5 hF6 hZ6
     refine ⟨trivial,?_⟩
     refine Uf 1 [0,2,3,9,11,65,77,90] rfl ?_
     cases htk2:(takes go (A++[y]) (Gt.L h k).reverse).2
     ·
      refine Go'.condT rfl (Ut 1 rfl (Ur 1 0 rfl (Uf 1 [0,2,3,8,9,11,65,77,90] rfl (Go'.ret (vs:=[_]) func189 results189 ⟨rfl,trivial⟩ ?_))))
      rw [takes_stop htk2] at t1
      unfold CbPost
      rw [t1]
      exact ⟨by rw [htk2];rfl,Z6,hT6,hF7,hZ7⟩
     ·
      refine Go'.condF rfl (Ut 2 rfl (Ur 3 0 rfl (Ub 1 (((j:Nat):Int)-1) rfl (by omega) (Uf 1 [0,2,3,9,11,65,77,90] rfl (Uk [0,2,3,9,11] rfl (Go'.inLoop ?_))))))
      exact ih2 (j,Z6) H6 ⟨by simp only;omega,by rw [t2];exact htk2,by rw [t2];exact hT6,hF7,hZ7⟩ (by simp only;omega)
theorem nscan0 {B:World} {g:FuncId} {us cs:List Value} {go:List (Int×Int)→Bool} {M:Nat} (cb:Cb Try.prog B encIt g us cs go M) (hcall:∀(args:Array Value) (w:World),(callFunc g args).run Try.prog w=.ok (.enter g args) w) {tr:Nat} {P:Ps} (hP:PsOk P) (mt:Bool) {H:Mem} {bp op:Nat} {acc:List (Int×Int)} {Z:Nat→Prop} {t:Gt EJ 0} (hp:VPre cb H tr P 0 t bp op acc Z):
  Fn Try.prog B 188 [.pointer (some ⟨tr,0,none⟩),.pointer (some ⟨bp,op,none⟩),.func (.func g) us.toArray cs.toArray,.bool mt] H (fun r H'=>r=.bool (takes go acc (Gt.L 0 t)).2∧CbPost cb acc Z H (Gt.L 0 t) H'):=by
 obtain ⟨gg,X⟩:=t
 obtain ⟨tc,hg,hc,hnz,hntr,hst,hlen⟩:=hp
 have hN:NodeM EJ H gg X (.pointer none):=hg.1
 have hiso:gg.iso=P.iso:=hg.2.1
 have hxm:X.length≤P.mx:=hg.2.2.2
 have hx255:=hP.hx
 replace hlen:acc.length+X.length≤M:=hlen
 have hc0:=hN.c0
 rw [hiso] at hc0
 show Fn _ _ _ _ _ (fun r H'=>r=.bool (takes go acc X).2∧CbPost cb acc Z H X H')
 refine fn_of func188 rfl ntmps188 ?_
 refine (show Go' _ _ _ _ 88 [(0,_),(1,_),(2,_),(3,_)] [.code _] _ from ?_)
 refine Ut 1 rfl (Ur 1 0 rfl (Uf 1 [0,1,2,3,8] rfl (Ut 1 rfl (Ur 5 128 rfl (Uq 3 rfl (O.callQ rfl rfl rfl call130 rfl (isoLoad_spec mt hc hc0 tc.iso) trivial (Uf 1 [0,2,3,8,9] rfl (Ut 2 rfl ?_))))))))
 unfold ptr
 refine Ur 2 8 rfl (Uq 1 rfl (O.callQ rfl rfl rfl call133 rfl (leaf_spec hN.c3) trivial (Uf 0 [0,2,3,8,9,17] rfl (Go'.condT rfl (Ut 2 rfl (Ur 1 0 rfl (Uf 1 [0,2,3,8,9,10] rfl (Ut 1 rfl (Go'.loop (Uk [2,9,10] rfl ?_))))))))))
 refine Go'.ind (σ:=Nat×(Nat→Prop)) (fun s=>X.length-s.1) (fun s H'=>s.1≤X.length∧(takes go acc (X.take s.1)).2=true∧cb.T (takes go acc (X.take s.1)).1 s.2 H'∧Fr (fun b _=>Z b) H H'∧∀b,s.2 b→Z b∨H.size≤b)
  (fun s=>[(2,.func (.func g) us.toArray cs.toArray),(9,.pointer (some ⟨gg.p,0,none⟩)),(10,.int .i64 (s.1:Int))]) (0,Z) ⟨Nat.zero_le _,by simp [takes],by simpa [takes] using hst,Fr.refl _ _,fun b hb=>.inl hb⟩ rfl ?_
 rintro ⟨j,Z1⟩ H2 ⟨hj,htk,hT,hF,hZ1⟩ ih
 simp only at hj htk hT hZ1
 replace hN:=NodeM.fr EJ hN hF (fun x y hxy hz=>hnz x y hxy hz)
 refine Ut 2 rfl ?_
 by_cases hlt:j<X.length
 ·
  obtain ⟨y,hy⟩:∃y,X[j]?=some y:=⟨X[j],List.getElem?_eq_getElem hlt⟩
  have hd:X.take (j+1)=X.take j++[y]:=by rw [List.take_add_one,hy];rfl
  have hall:X=X.take (j+1)++X.drop (j+1):=(List.take_append_drop _ _).symm
  have htl:=takes_length go (X.take j) acc
  rw [List.length_take] at htl
  have e1:takes go acc (X.take (j+1))=takes go (takes go acc (X.take j)).1 [y]:=by rw [hd,takes_on htk]
  generalize hA:(takes go acc (X.take j)).1=A at*
  refine Ur 7 256 rfl (Ul 4 rfl hN.c2 (Uc 1 rfl (lssT (by omega)) (Uf 0 [2,9,10,24] rfl (Go'.condT rfl (Ut 4 rfl ?_)))))
  cases hgo:go (A++[y])
  ·
   refine Ur 10 147712 rfl (Ul 4 rfl hN.c2 (Ux 1 j rfl (by omega) (by omega) (Us 0 rfl (hN.sl.item hy) rfl (O.callC rfl rfl rfl rfl hcall rfl (cb.call y hT (by omega)) ?_))))
   rintro _ H3 ⟨rfl,Z2,hT2,hF2,hZ2⟩
   rw [hgo]
   have hsz:=hF.size
   refine ⟨trivial,?_⟩
   refine Uf 1 [2,9,10,24,36] rfl (Go'.condT rfl (Ut 1 rfl (Ur 1 0 rfl (Uf 1 [2,8,9,10,24,36] rfl (Go'.ret (vs:=[_]) func188 results188 ⟨rfl,trivial⟩ ?_)))))
   have e2:takes go acc (X.take (j+1))=(A++[y],false):=by rw [e1];simp [takes,hgo]
   have e3:takes go acc X=(A++[y],false):=by rw [hall,takes_stop (by rw [e2]),e2]
   refine ⟨by rw [e3];rfl,Z2,by rw [e3];exact hT2,hF.trans' hF2 (fun _ _ _ h=>h) (fun b o hb hz=>(hZ1 b hz).elim id (fun h=>by omega)),fun b hb=>(hZ2 b hb).elim (hZ1 b) (fun h=>.inr (by omega))⟩
  ·
   refine Ur 10 147712 rfl (Ul 4 rfl hN.c2 (Ux 1 j rfl (by omega) (by omega) (Us 0 rfl (hN.sl.item hy) rfl (O.callC rfl rfl rfl rfl hcall rfl (cb.call y hT (by omega)) ?_))))
   rintro _ H3 ⟨rfl,Z2,hT2,hF2,hZ2⟩
   rw [hgo]
   have hsz:=hF.size
   refine ⟨trivial,?_⟩
   refine Uf 1 [2,9,10,24,36] rfl (Go'.condF rfl (Ut 2 rfl (Ur 3 0 rfl (Ua 1 (((j+1:Nat):Int)) rfl (by omega) (Uf 1 [2,9,10,24,36] rfl (Uk [2,9,10] rfl (Go'.inLoop ?_)))))))
   have e2:takes go acc (X.take (j+1))=(A++[y],true):=by rw [e1];simp [takes,hgo]
   exact ih (j+1,Z2) H3 ⟨by simp only;omega,by rw [e2],by rw [e2];exact hT2,hF.trans' hF2 (fun _ _ _ h=>h) (fun b o hb hz=>(hZ1 b hz).elim id (fun h=>by omega)),fun b hb=>(hZ2 b hb).elim (hZ1 b) (fun h=>.inr (by omega))⟩ (by simp only;omega)
 ·
  obtain rfl:j=X.length:=by omega
  refine Ur 7 256 rfl (Ul 4 rfl hN.c2 (Uc 1 rfl (lssF (by omega)) (Uf 0 [2,9,10,24] rfl (Go'.condF rfl (Ut 2 rfl (Ur 1 0 rfl (Uf 1 [2,8,9] rfl (Go'.ret (vs:=[_]) func188 results188 ⟨rfl,trivial⟩ ?_))))))))
  rw [List.take_length] at htk hT
  exact ⟨by rw [htk];rfl,Z1,hT,hF,hZ1⟩
theorem nscan {B:World} {g:FuncId} {us cs:List Value} {go:List (Int×Int)→Bool} {M:Nat} (cb:Cb Try.prog B encIt g us cs go M) (hcall:∀(args:Array Value) (w:World),(callFunc g args).run Try.prog w=.ok (.enter g args) w) {tr:Nat} {P:Ps} (hP:PsOk P) (mt:Bool):∀(h:Nat) {H:Mem} {bp op:Nat} {acc:List (Int×Int)} {Z:Nat→Prop} {t:Gt EJ h},VPre cb H tr P h t bp op acc Z→
  Fn Try.prog B 188 [.pointer (some ⟨tr,0,none⟩),.pointer (some ⟨bp,op,none⟩),.func (.func g) us.toArray cs.toArray,.bool mt] H (fun r H'=>r=.bool (takes go acc (Gt.L h t)).2∧CbPost cb acc Z H (Gt.L h t) H')
 | 0,_,_,_,_,_,_,hp=>nscan0 cb hcall hP mt hp
 | h+1,H,bp,op,acc,Z,(gg,X,K),hp=>by
  have ih:=@nscan B g us cs go M cb hcall tr P hP mt h
  obtain ⟨tc,hg,hc,hnz,hntr,hst,hlen⟩:=hp
  have hI:Inn H P h gg X ((Gt.ps h K).map some) K:=hg.inn
  have hKl:K.length=X.length+1:=hg.2.2.2.2.2.1
  have hxm:X.length≤P.mx:=hg.2.2.2.2.1
  have hx255:=hP.hx
  have hKL:(K.map (Gt.L h)).length=X.length+1:=by rw [List.length_map];exact hKl
  have hol:((Gt.ps h K).map some).length=X.length+1:=by rw [List.length_map,Gt.ps,List.length_map];exact hKl
  replace hlen:acc.length+(Pl.inter X (K.map (Gt.L h))).length≤M:=hlen
  have hlt:∀x y,innc h gg K x y→x<H.size:=fun x y hb=>hI.lt hb
  obtain ⟨_,_,_,hkb⟩:=hI.cells
  have hkz:¬Z gg.kb:=fun e=>hnz gg.kb gg.ko (.inr (.inl (show kcl gg gg.kb gg.ko from .inr ⟨rfl,Nat.le_refl _,by have:=hI.k.kc;omega⟩))) e
  have htl:tr<H.size:=cl_lt tc.iso
  have hc0:=hI.n.c0
  rw [hI.iso] at hc0
  have hin:∀H',Fr (fun x _=>Z x) H H'→Inn H' P h gg X ((Gt.ps h K).map some) K:=fun H' hf=>hI.fr hf (fun x y hxy hz=>hnz x y hxy hz)
  have htc:∀H',Fr (fun x _=>Z x) H H'→TrC H' tr P.iso P.mx P.mn:=fun H' hf=>tc.fr hf fun b o hb _ hz=>hntr b hz hb
  have hkid:∀{H2:Mem} {Z1:Nat→Prop} {A:List (Int×Int)} {j:Nat} {k:Gt EJ h},K[j]?=some k→Fr (fun x _=>Z x) H H2→cb.T A Z1 H2→(∀b,Z1 b→Z b∨H.size≤b)→A.length+(Gt.L h k).length≤M→VPre cb H2 tr P h k gg.kb (gg.ko+j*1) A Z1:=by
   intro H2 Z1 A j k hkk hF hT hZ1 hA
   have hkK:k∈K:=List.mem_of_getElem? hkk
   have hI2:=hin H2 hF
   have hok:((Gt.ps h K).map some)[j]?=some (some (Gt.p h k)):=by rw [Gt.ps,List.map_map,List.getElem?_map,hkk];rfl
   exact ⟨htc H2 hF,(hI2.c.1 k hkK).1,hI2.k.at hok,fun b o hb hz=>(hZ1 b hz).elim (fun hz=>hnz b o (.inr (.inr ⟨k,hkK,hb⟩)) hz) (fun hz=>by have:=hlt b o (.inr (.inr ⟨k,hkK,hb⟩));omega),
    fun b hz hb=>(hZ1 b hz).elim (fun h=>hntr b h hb) (fun h=>by have:=tc.hb;omega),hT,hA⟩
  have hkz1:∀Z1:Nat→Prop,(∀b,Z1 b→Z b∨H.size≤b)→¬Z1 gg.kb:=fun Z1 hZ1 hz=>(hZ1 _ hz).elim hkz (fun h=>by omega)
  have hcat:∀{Z1 Z2:Nat→Prop} {H2 H3:Mem},Fr (fun x _=>Z x) H H2→(∀b,Z1 b→Z b∨H.size≤b)→Fr (fun x _=>Z1 x) H2 H3→(∀b,Z2 b→Z1 b∨H2.size≤b)→Fr (fun x _=>Z x) H H3∧∀b,Z2 b→Z b∨H.size≤b:=by
   intro Z1 Z2 H2 H3 hF hZ1 hF2 hZ2
   have:=hF.size
   exact ⟨hF.trans' hF2 (fun _ _ _ h=>h) (fun b o hb hz=>(hZ1 b hz).elim id (fun h=>by omega)),fun b hb=>(hZ2 b hb).elim (hZ1 b) (fun h=>.inr (by omega))⟩
  obtain ⟨kn,hkn⟩:∃k,K[X.length]?=some k:=⟨K[X.length],List.getElem?_eq_getElem (by omega)⟩
  have hknL:(K.map (Gt.L h))[X.length]?=some (Gt.L h kn):=by rw [List.getElem?_map,hkn];rfl
  have hLn:Pl.inter X (K.map (Gt.L h))=Pl.pre X ((K.map (Gt.L h)).take X.length)++Gt.L h kn:=Pl.inter_last hKL hknL
  have hlast:Pl.inter (X.drop X.length) ((K.map (Gt.L h)).drop X.length)=Gt.L h kn:=by
   obtain ⟨h1,h2⟩:=List.getElem?_eq_some_iff.1 hknL
   rw [List.drop_length,←List.getElem_cons_drop (h:=h1),h2,List.drop_of_length_le (by omega)];rfl
  show Fn _ _ _ _ _ (fun r H'=>r=.bool (takes go acc (Pl.inter X (K.map (Gt.L h)))).2∧CbPost cb acc Z H (Pl.inter X (K.map (Gt.L h))) H')
  have hlenn:acc.length+(Gt.L h kn).length≤M:=by rw [hLn,List.length_append] at hlen;omega
  refine fn_of func188 rfl ntmps188 ?_
  refine (show Go' _ _ _ _ 88 [(0,_),(1,_),(2,_),(3,_)] [.code _] _ from ?_)
  refine Ut 1 rfl (Ur 1 0 rfl (Uf 1 [0,1,2,3,8] rfl (Ut 1 rfl (Ur 5 128 rfl (Uq 3 rfl (O.callQ rfl rfl rfl call130 rfl (isoLoad_spec mt hc hc0 tc.iso) trivial (Uf 1 [0,2,3,8,9] rfl (Ut 2 rfl ?_))))))))
  unfold ptr
  refine Ur 2 8 rfl (Uq 1 rfl (O.callQ rfl rfl rfl call133 rfl (leaf_spec hI.n.c3) trivial (Uf 0 [0,2,3,8,9,17] rfl (Go'.condF rfl (Ut 3 rfl (Ur 1 0 rfl (Uf 1 [0,2,3,8,9,11] rfl (Ut 1 rfl (Go'.loop (Uk [0,2,3,9,11] rfl ?_))))))))))
  refine Go'.ind (σ:=Nat×(Nat→Prop)) (fun s=>X.length-s.1) (fun s H'=>s.1≤X.length∧(takes go acc (Pl.pre (X.take s.1) ((K.map (Gt.L h)).take s.1))).2=true∧cb.T (takes go acc (Pl.pre (X.take s.1) ((K.map (Gt.L h)).take s.1))).1 s.2 H'∧Fr (fun b _=>Z b) H H'∧∀b,s.2 b→Z b∨H.size≤b)
   (fun s=>[(0,.pointer (some ⟨tr,0,none⟩)),(2,.func (.func g) us.toArray cs.toArray),(3,.bool mt),(9,.pointer (some ⟨gg.p,0,none⟩)),(11,.int .i64 (s.1:Int))]) (0,Z) ⟨Nat.zero_le _,by simp [takes,Pl.pre],by simpa [takes,Pl.pre] using hst,Fr.refl _ _,fun b hb=>.inl hb⟩ rfl ?_
  rintro ⟨j,Z1⟩ H3 ⟨hj,htk,hT,hF,hZ1⟩ ih2
  simp only at hj htk hT hZ1
  have hI3:=hin H3 hF
  obtain ⟨k,hkk⟩:∃k,K[j]?=some k:=⟨K[j],List.getElem?_eq_getElem (by omega)⟩
  have hkL:(K.map (Gt.L h))[j]?=some (Gt.L h k):=by rw [List.getElem?_map,hkk];rfl
  have hall:=Pl.inter_pre j X (K.map (Gt.L h)) hKL hj
  have htl:=takes_length go (Pl.pre (X.take j) ((K.map (Gt.L h)).take j)) acc
  refine Ut 2 rfl ?_
  by_cases hlt2:j<X.length
  ·
   obtain ⟨y,hy⟩:∃y,X[j]?=some y:=⟨X[j],List.getElem?_eq_getElem hlt2⟩
   rw [Pl.inter_drop1 hy hkL] at hall
   have e1:X.take (j+1)=X.take j++[y]:=by rw [List.take_add_one,hy];rfl
   have e2:(K.map (Gt.L h)).take (j+1)=(K.map (Gt.L h)).take j++[Gt.L h k]:=by rw [List.take_add_one,hkL];rfl
   have hsn:Pl.pre (X.take (j+1)) ((K.map (Gt.L h)).take (j+1))=Pl.pre (X.take j) ((K.map (Gt.L h)).take j)++(Gt.L h k++[y]):=by rw [e1,e2,Pl.pre_snoc _ _ _ _ (by rw [List.length_take,List.length_take];omega)]
   have hlen2:=congrArg List.length hall
   simp only [List.length_append,List.length_cons] at hlen2
   have t1:=takes_on (r:=Gt.L h k++y::Pl.inter (X.drop (j+1)) ((K.map (Gt.L h)).drop (j+1))) htk
   have t2:=takes_on (r:=Gt.L h k++[y]) htk
   rw [←hall] at t1
   rw [←hsn] at t2
   generalize hA:(takes go acc (Pl.pre (X.take j) ((K.map (Gt.L h)).take j))).1=A at*
   refine Ur 7 256 rfl (Ul 4 rfl hI3.n.c2 (Uc 1 rfl (lssT (by omega)) (Uf 0 [0,2,3,9,11,43] rfl (Go'.condT rfl (Ut 5 rfl (Ur 13 8392960 rfl (Ul 4 rfl hI3.n.c3 (Ul 1 rfl hI3.k.c (Ux 1 j rfl (by omega) (by omega) (Uq 2 rfl (O.call rfl rfl rfl call188 rfl (ih (hkid hkk hF hT hZ1 (by omega))) ?_)))))))))))
   rintro _ H4 ⟨rfl,Z4,hT4,hF4,hZ4⟩
   obtain ⟨hF5,hZ5⟩:=hcat hF hZ1 hF4 hZ4
   refine ⟨trivial,?_⟩
   refine Uf 1 [0,2,3,9,11,43,58] rfl ?_
   cases htk2:(takes go A (Gt.L h k)).2
   ·
    refine Go'.condT rfl (Ut 1 rfl (Ur 1 0 rfl (Uf 1 [0,2,3,8,9,11,43,58] rfl (Go'.ret (vs:=[_]) func188 results188 ⟨rfl,trivial⟩ ?_))))
    rw [takes_stop htk2] at t1
    unfold CbPost
    rw [t1]
    exact ⟨by rw [htk2];rfl,Z4,hT4,hF5,hZ5⟩
   ·
    refine Go'.condF rfl (Ut 2 rfl ?_)
    rw [takes_on htk2] at t1 t2
    have htl2:=takes_length go (Gt.L h k) A
    have hI4:=hin H4 hF5
    generalize hA2:(takes go A (Gt.L h k)).1=A2 at*
    cases hgo:go (A2++[y])
    ·
     refine Ur 10 147712 rfl (Ul 4 rfl hI4.n.c2 (Ux 1 j rfl (by omega) (by omega) (Us 0 rfl (hI4.n.sl.item hy) rfl (O.callC rfl rfl rfl rfl hcall rfl (cb.call y hT4 (by omega)) ?_))))
     rintro _ H6 ⟨rfl,Z6,hT6,hF6,hZ6⟩
     rw [hgo]
     obtain ⟨hF7,hZ7⟩:=hcat hF5 hZ5 hF6 hZ6
     refine ⟨trivial,?_⟩
     refine Uf 1 [0,2,3,9,11,43,58,68] rfl (Go'.condT rfl (Ut 1 rfl (Ur 1 0 rfl (Uf 1 [0,2,3,8,9,11,43,58,68] rfl (Go'.ret (vs:=[_]) func188 results188 ⟨rfl,trivial⟩ ?_)))))
     have e3:takes go acc (Pl.inter X (K.map (Gt.L h)))=(A2++[y],false):=by rw [t1];simp [takes,hgo]
     unfold CbPost
     rw [e3]
     exact ⟨rfl,Z6,hT6,hF7,hZ7⟩
    ·
     refine Ur 10 147712 rfl (Ul 4 rfl hI4.n.c2 (Ux 1 j rfl (by omega) (by omega) (Us 0 rfl (hI4.n.sl.item hy) rfl (O.callC rfl rfl rfl rfl hcall rfl (cb.call y hT4 (by omega)) ?_))))
     rintro _ H6 ⟨rfl,Z6,hT6,hF6,hZ6⟩
     rw [hgo]
     obtain ⟨hF7,hZ7⟩:=hcat hF5 hZ5 hF6 hZ6
     refine ⟨trivial,?_⟩
     refine Uf 1 [0,2,3,9,11,43,58,68] rfl (Go'.condF rfl (Ut 2 rfl (Ur 3 0 rfl (Ua 1 (((j+1:Nat):Int)) rfl (by omega) (Uf 1 [0,2,3,9,11,43,58,68] rfl (Uk [0,2,3,9,11] rfl (Go'.inLoop ?_)))))))
     have e3:takes go acc (Pl.pre (X.take (j+1)) ((K.map (Gt.L h)).take (j+1)))=(A2++[y],true):=by rw [t2];simp [takes,hgo]
     exact ih2 (j+1,Z6) H6 ⟨hlt2,by rw [e3],by rw [e3];exact hT6,hF7,hZ7⟩ (by simp only;omega)
  ·
   obtain rfl:j=X.length:=by omega
   rw [hlast] at hall
   have hlen2:=congrArg List.length hall
   simp only [List.length_append] at hlen2
   have t1:=takes_on (r:=Gt.L h k) htk
   obtain rfl:kn=k:=Option.some.inj (hkn.symm.trans hkk)
   rw [←hall] at t1
   refine Ur 7 256 rfl (Ul 4 rfl hI3.n.c2 (Uc 1 rfl (lssF (by omega)) (Uf 0 [0,2,3,9,11,43] rfl (Go'.condF rfl (Ut 2 rfl (Ud 20 137456783616 (by kernel_rfl) (Ul 4 rfl hI3.n.c3 (Ul 1 rfl hI3.k.c (Ul 3 rfl hI3.n.c3 (Ul 1 rfl hI3.k.c (Ub 1 (((X.length:Nat):Int)) rfl (by omega) ?_)))))))))))
   refine Ux 0 (X.length) rfl (by omega) (by omega) (Uq 2 rfl (O.call rfl rfl rfl call188 rfl (ih (hkid hkk hF hT hZ1 (by omega))) ?_))
   rintro _ H4 ⟨rfl,Z4,hT4,hF4,hZ4⟩
   obtain ⟨hF5,hZ5⟩:=hcat hF hZ1 hF4 hZ4
   refine ⟨trivial,?_⟩
   refine Uf 1 [8] rfl (Go'.ret (vs:=[_]) func188 results188 ⟨rfl,trivial⟩ ?_)
   unfold CbPost
   rw [t1]
   exact ⟨rfl,Z4,hT4,hF5,hZ5⟩
end
end Go.Bt.FG
