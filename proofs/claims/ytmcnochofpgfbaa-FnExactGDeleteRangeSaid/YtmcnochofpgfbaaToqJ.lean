/- Contracts of functions of the program, proved by walking through their code. Conditions: those that each theorem names. -/
import Derived.Test.YtmcnochofpgfbaaToqI
import Derived.Test.YtmcnochofpgfbaaTogD
set_option linter.unusedVariables false
namespace Go.Bt.FG
open Go Go.Proofs Go.Proofs.Try
set_option maxRecDepth 20000
set_option maxHeartbeats 4000000
set_option linter.unusedSectionVars false
theorem st33:StT Try.prog 33 [(0,1),(1,1),(2,1)] [.bool false,.bool false,.bool false]:=⟨⟨_,underlying33,fun w=>by simp [Array.mapM_eq_mapM_toList,sizeOf4]⟩,zeroValue33⟩
theorem lawGDeleteRange_spec {B:World} {H:Mem} {d:Nat} {nl:Bool} {v u:Value} {ord:List Int} {l:List (Int×Int)} (hd:d=0∨2≤d∧d≤128) (ho:InS EN H v ord) (hol:ord.length≤4294967296) (hu0:InS EJ H u l) (hll:l.length≤2147483647) {low hi:Int×Int} {pl nor mi:Bool}:
  Fn Try.prog B 21 [.agg #[v,.int .i64 (d:Int),.bool nl],u,.agg (EJ.enc low).toArray,.agg (EJ.enc hi).toArray,.agg #[.bool pl,.bool nor,.bool mi]] H (fun r H'=>r=.bool true∧Fr nowhere H H'):=by
 obtain ⟨a,c,hu⟩:=hu0.len
 subst hu
 obtain ⟨av,mv,cv,hv⟩:=InS.form ho
 subst hv
 have hF:Fr nowhere H H:=Fr.refl _ _
 have hP:=PD_ok hd
 refine fn_of func21 rfl ntmps21 ?_
 refine (show Go' _ _ _ _ 50 [(0,_),(1,_),(2,_),(3,_),(4,_)] [.code _] _ from ?_)
 refine Ut 1 rfl (Ur 5 170 rfl (O.box rfl rfl rfl rfl ?_))
 intro B1 MB1
 refine ⟨trivial,?_⟩
 have hsB1:=MB1.size
 replace hF:=hF.trans (MB1.fr nowhere)
 have mm:Rd B1 H.size 0 [.slice av mv cv,.int .i64 (d:Int),.bool nl]:=MB1.rd _ [] (by simp [Value.cells])
 have mm0:cl B1 H.size 0=some (.slice av mv cv):=mm 0 _ rfl
 have mm1:cl B1 H.size (0+1)=some (.int .i64 (d:Int)):=mm 1 _ rfl
 refine O.box rfl rfl rfl rfl ?_
 intro B2 MB2
 refine ⟨trivial,?_⟩
 have hsB2:=MB2.size
 replace hF:=hF.trans (MB2.fr nowhere)
 replace mm:=(MB2.fr nowhere).rd mm (fun _ _=>nw)
 replace mm0:=(MB2.fr nowhere).keep mm0 nw
 replace mm1:=(MB2.fr nowhere).keep mm1 nw
 have mlow:Rd B2 B1.size 0 (EJ.enc low):=MB2.rd _ [] (by simp [Value.cells])
 refine O.box rfl rfl rfl rfl ?_
 intro B3 MB3
 refine ⟨trivial,?_⟩
 have hsB3:=MB3.size
 replace hF:=hF.trans (MB3.fr nowhere)
 replace mm:=(MB3.fr nowhere).rd mm (fun _ _=>nw)
 replace mm0:=(MB3.fr nowhere).keep mm0 nw
 replace mm1:=(MB3.fr nowhere).keep mm1 nw
 replace mlow:=(MB3.fr nowhere).rd mlow (fun _ _=>nw)
 have mhigh:Rd B3 B2.size 0 (EJ.enc hi):=MB3.rd _ [] (by simp [Value.cells])
 refine O.box rfl rfl rfl rfl ?_
 intro B4 MB4
 refine ⟨trivial,?_⟩
 have hsB4:=MB4.size
 replace hF:=hF.trans (MB4.fr nowhere)
 replace mm:=(MB4.fr nowhere).rd mm (fun _ _=>nw)
 replace mm0:=(MB4.fr nowhere).keep mm0 nw
 replace mm1:=(MB4.fr nowhere).keep mm1 nw
 replace mlow:=(MB4.fr nowhere).rd mlow (fun _ _=>nw)
 replace mhigh:=(MB4.fr nowhere).rd mhigh (fun _ _=>nw)
 have mo:Rd B4 B3.size 0 [.bool pl,.bool nor,.bool mi]:=MB4.rd _ [] (by simp [Value.cells])
 refine Uf 1 [1,5,7,8,9,10] rfl (Ut 1 rfl ?_)
 have hpl:=Pl.puts_length (OO ord) l
 have hfl:=List.length_filter_le (insO (OO ord) low hi (!pl&&mi)) (Pl.puts (OO ord) l)
 have hfl2:=List.length_filter_le (fun x=>!insO (OO ord) low hi (!pl&&mi) x) (Pl.puts (OO ord) l)
 refine Ur 13 2385 rfl (Us 0 rfl mm rfl (Us 1 rfl mlow rfl (Us 0 rfl mhigh rfl (Us 0 rfl mo rfl (O.call rfl rfl rfl call10 rfl (igdelrange_spec (low:=low) (hi:=hi) (pl:=pl) (nor:=nor) (mi:=mi) hd (ho.fr hF) hol (hu0.fr hF) hll) ?_)))))
 rintro _ H5 ⟨v1,v2,G,rfl,hG,h1,h2,hF5⟩
 replace hF:=hF.trans hF5
 replace mm:=hF5.rd mm (fun _ _=>nw)
 replace mm0:=hF5.keep mm0 nw
 replace mm1:=hF5.keep mm1 nw
 replace mlow:=hF5.rd mlow (fun _ _=>nw)
 replace mhigh:=hF5.rd mhigh (fun _ _=>nw)
 replace mo:=hF5.rd mo (fun _ _=>nw)
 refine ⟨trivial,?_⟩
 refine Uf 7 [1,5,7,8,9,10,11,12,13] rfl (Ut 1 rfl (Ur 13 2385 rfl (Us 0 rfl mm rfl (Us 1 rfl mlow rfl (Us 0 rfl mhigh rfl (Us 0 rfl mo rfl (O.call rfl rfl rfl call46 rfl (gdelrange_spec (low:=low) (hi:=hi) (pl:=pl) (nor:=nor) (mi:=mi) (ho.fr hF) (by omega) (hu0.fr hF) (by omega)) ?_)))))))
 rintro _ H6 ⟨v3,v4,G2,rfl,hG2,h3,h4,hF6⟩
 replace hF:=hF.trans hF6
 replace mm:=hF6.rd mm (fun _ _=>nw)
 replace mm0:=hF6.keep mm0 nw
 replace mm1:=hF6.keep mm1 nw
 replace mlow:=hF6.rd mlow (fun _ _=>nw)
 replace mhigh:=hF6.rd mhigh (fun _ _=>nw)
 replace mo:=hF6.rd mo (fun _ _=>nw)
 rw [←hG] at hG2
 subst hG2
 replace h1:=h1.fr hF6
 replace h2:=h2.fr hF6
 have hGl:G2.length≤l.length:=by
  rw [hG]
  split
  · exact Nat.zero_le _
  · omega
 clear hG
 refine ⟨trivial,?_⟩
 refine Uf 7 [10,11,12,13,14,15,16] rfl (Ut 1 rfl (Ur 14 8388640 rfl (Uq 2 rfl (O.callQ rfl rfl rfl call12 rfl (eqItems_spec h1 h3 (by omega)) trivial (Uc 3 rfl (eqlT (by omega)) (Uq 4 rfl (O.callQ rfl rfl rfl call12 rfl (eqItems_spec h2 h4 (by omega)) trivial (Uf 2 [10] rfl (Go'.ret (vs:=[_]) func21 results21 ⟨rfl,trivial⟩ ?_)))))))))
 exact ⟨rfl,hF⟩
theorem fnExactGDeleteRange {B:World} {H:Mem} {z:Int} {nl:Bool} {v u:Value} {ord:List Int} {l:List (Int×Int)} {y2 y3:Int×Int} {y4:Bool×Bool×Bool} (ho:InS EN H v ord) (hi:InS EJ H u l):
  Fn Try.prog B 5 [.agg #[v,.int .i64 z,.bool nl],u,.agg (EJ.enc y2).toArray,.agg (EJ.enc y3).toArray,.agg #[.bool y4.1,.bool y4.2.1,.bool y4.2.2]] H (fun r H'=>r=.bool true∧Fr nowhere H H'):=by
 obtain ⟨a,c,hu⟩:=hi.len
 subst hu
 obtain ⟨av,mv,cv,hv⟩:=InS.form ho
 subst hv
 have hF:Fr nowhere H H:=Fr.refl _ _
 refine fn_of func5 rfl ntmps5 ?_
 refine (show Go' _ _ _ _ 39 [(0,_),(1,_),(2,_),(3,_),(4,_)] [.code _] _ from ?_)
 refine Ut 1 rfl (Ur 5 170 rfl (O.box rfl rfl rfl rfl ?_))
 intro B1 MB1
 refine ⟨trivial,?_⟩
 have hsB1:=MB1.size
 replace hF:=hF.trans (MB1.fr nowhere)
 have mm:Rd B1 H.size 0 [.slice av mv cv,.int .i64 z,.bool nl]:=MB1.rd _ [] (by simp [Value.cells])
 have mm0:cl B1 H.size 0=some (.slice av mv cv):=mm 0 _ rfl
 have mm1:cl B1 H.size (0+1)=some (.int .i64 z):=mm 1 _ rfl
 refine O.box rfl rfl rfl rfl ?_
 intro B2 MB2
 refine ⟨trivial,?_⟩
 have hsB2:=MB2.size
 replace hF:=hF.trans (MB2.fr nowhere)
 replace mm:=(MB2.fr nowhere).rd mm (fun _ _=>nw)
 replace mm0:=(MB2.fr nowhere).keep mm0 nw
 replace mm1:=(MB2.fr nowhere).keep mm1 nw
 have mlow:Rd B2 B1.size 0 (EJ.enc y2):=MB2.rd _ [] (by simp [Value.cells])
 refine O.box rfl rfl rfl rfl ?_
 intro B3 MB3
 refine ⟨trivial,?_⟩
 have hsB3:=MB3.size
 replace hF:=hF.trans (MB3.fr nowhere)
 replace mm:=(MB3.fr nowhere).rd mm (fun _ _=>nw)
 replace mm0:=(MB3.fr nowhere).keep mm0 nw
 replace mm1:=(MB3.fr nowhere).keep mm1 nw
 replace mlow:=(MB3.fr nowhere).rd mlow (fun _ _=>nw)
 have mhigh:Rd B3 B2.size 0 (EJ.enc y3):=MB3.rd _ [] (by simp [Value.cells])
 refine O.box rfl rfl rfl rfl ?_
 intro B4 MB4
 refine ⟨trivial,?_⟩
 have hsB4:=MB4.size
 replace hF:=hF.trans (MB4.fr nowhere)
 replace mm:=(MB4.fr nowhere).rd mm (fun _ _=>nw)
 replace mm0:=(MB4.fr nowhere).keep mm0 nw
 replace mm1:=(MB4.fr nowhere).keep mm1 nw
 replace mlow:=(MB4.fr nowhere).rd mlow (fun _ _=>nw)
 replace mhigh:=(MB4.fr nowhere).rd mhigh (fun _ _=>nw)
 have mo:Rd B4 B3.size 0 [.bool y4.1,.bool y4.2.1,.bool y4.2.2]:=MB4.rd _ [] (by simp [Value.cells])
 refine Uf 1 [1,5,7,8,9,10] rfl (Ut 2 rfl ?_)
 cases hoz:decide (ord.length≤2147483647)
 ·
  refine Ur 8 9 rfl (Us 0 rfl mm rfl (O.call rfl rfl rfl call7 rfl (zzFits1_spec (ho.fr hF) hoz) ?_))
  rintro _ H1 ⟨rfl,hF1⟩
  replace hF:=hF.trans hF1
  replace mm:=hF1.rd mm (fun _ _=>nw)
  replace mm0:=hF1.keep mm0 nw
  replace mm1:=hF1.keep mm1 nw
  replace mlow:=hF1.rd mlow (fun _ _=>nw)
  replace mhigh:=hF1.rd mhigh (fun _ _=>nw)
  replace mo:=hF1.rd mo (fun _ _=>nw)
  refine ⟨trivial,?_⟩
  refine Uf 6 [1,5,7,8,9,10,18] rfl (Go'.condT rfl (Ut 1 rfl (Ur 1 0 rfl (Uf 1 [1,5,7,8,9,10] rfl (Go'.ret (vs:=[_]) func5 results5 ⟨rfl,trivial⟩ ?_)))))
  exact ⟨rfl,hF⟩
 ·
  have hoz2:=of_decide_eq_true hoz
  by_cases hb_lenl:(2147483647:Int)<(l.length:Int)
  ·
   refine Ur 8 9 rfl (Us 0 rfl mm rfl (O.call rfl rfl rfl call7 rfl (zzFits1_spec (ho.fr hF) hoz) ?_))
   rintro _ H1 ⟨rfl,hF1⟩
   replace hF:=hF.trans hF1
   replace mm:=hF1.rd mm (fun _ _=>nw)
   replace mm0:=hF1.keep mm0 nw
   replace mm1:=hF1.keep mm1 nw
   replace mlow:=hF1.rd mlow (fun _ _=>nw)
   replace mhigh:=hF1.rd mhigh (fun _ _=>nw)
   replace mo:=hF1.rd mo (fun _ _=>nw)
   refine ⟨trivial,?_⟩
   refine Uc 4 rfl (gtrT (by omega)) (Uf 1 [1,5,7,8,9,10,18] rfl (Go'.condT rfl (Ut 1 rfl (Ur 1 0 rfl (Uf 1 [1,5,7,8,9,10] rfl (Go'.ret (vs:=[_]) func5 results5 ⟨rfl,trivial⟩ ?_))))))
   exact ⟨rfl,hF⟩
  ·
   refine Ur 8 9 rfl (Us 0 rfl mm rfl (O.call rfl rfl rfl call7 rfl (zzFits1_spec (ho.fr hF) hoz) ?_))
   rintro _ H1 ⟨rfl,hF1⟩
   replace hF:=hF.trans hF1
   replace mm:=hF1.rd mm (fun _ _=>nw)
   replace mm0:=hF1.keep mm0 nw
   replace mm1:=hF1.keep mm1 nw
   replace mlow:=hF1.rd mlow (fun _ _=>nw)
   replace mhigh:=hF1.rd mhigh (fun _ _=>nw)
   replace mo:=hF1.rd mo (fun _ _=>nw)
   refine ⟨trivial,?_⟩
   refine Uc 4 rfl (gtrF (by omega)) (Uf 1 [1,5,7,8,9,10,18] rfl (Go'.condF rfl (Ut 2 rfl ?_)))
   cases hfz:fitsb z
   ·
    refine Ur 21 40014252042 rfl (O.call rfl rfl rfl call22 rfl exMake_spec ?_)
    rintro _ H2 ⟨rfl,hF2⟩
    replace hF:=hF.trans hF2
    replace mm:=hF2.rd mm (fun _ _=>nw)
    replace mm0:=hF2.keep mm0 nw
    replace mm1:=hF2.keep mm1 nw
    replace mlow:=hF2.rd mlow (fun _ _=>nw)
    replace mhigh:=hF2.rd mhigh (fun _ _=>nw)
    replace mo:=hF2.rd mo (fun _ _=>nw)
    refine ⟨trivial,?_⟩
    refine O.call rfl rfl rfl call23 rfl exItems_spec ?_
    rintro ev H3 ⟨hev,hF3⟩
    replace hF:=hF.trans hF3
    replace mm:=hF3.rd mm (fun _ _=>nw)
    replace mm0:=hF3.keep mm0 nw
    replace mm1:=hF3.keep mm1 nw
    replace mlow:=hF3.rd mlow (fun _ _=>nw)
    replace mhigh:=hF3.rd mhigh (fun _ _=>nw)
    replace mo:=hF3.rd mo (fun _ _=>nw)
    refine ⟨trivial,?_⟩
    refine O.bld (cs:=[.int .i64 2,.int .i64 0]) rfl rfl rfl rfl (st27) rfl (by kernel_rfl) (O.bld (cs:=[.int .i64 8,.int .i64 0]) rfl rfl rfl rfl (st27) rfl (by kernel_rfl) (O.bld (cs:=[.bool false,.bool false,.bool false]) rfl rfl rfl rfl (st33) rfl (by kernel_rfl) (O.call rfl rfl rfl call21 rfl (lawGDeleteRange_spec (d:=2) (by decide) (InS.nil EN _) (by decide) hev (by decide) (low:=(2,0)) (hi:=(8,0)) (pl:=false) (nor:=false) (mi:=false)) ?_)))
    rintro _ H4 ⟨rfl,hF4⟩
    replace hF:=hF.trans hF4
    replace mm:=hF4.rd mm (fun _ _=>nw)
    replace mm0:=hF4.keep mm0 nw
    replace mm1:=hF4.keep mm1 nw
    replace mlow:=hF4.rd mlow (fun _ _=>nw)
    replace mhigh:=hF4.rd mhigh (fun _ _=>nw)
    replace mo:=hF4.rd mo (fun _ _=>nw)
    refine ⟨trivial,?_⟩
    refine Ul 2 rfl mm1 (O.callQ rfl rfl rfl call24 rfl (fits_spec' hfz) trivial (Uq 7 rfl (Pl.pass2 rfl rfl rfl rfl trivial (Uf 3 [10] rfl (Go'.ret (vs:=[_]) func5 results5 ⟨rfl,trivial⟩ ?_)))))
    exact ⟨rfl,hF⟩
   ·
    obtain ⟨d,rfl,hd⟩:=fitsb_nat hfz
    refine Ur 21 40014252042 rfl (O.call rfl rfl rfl call22 rfl exMake_spec ?_)
    rintro _ H2 ⟨rfl,hF2⟩
    replace hF:=hF.trans hF2
    replace mm:=hF2.rd mm (fun _ _=>nw)
    replace mm0:=hF2.keep mm0 nw
    replace mm1:=hF2.keep mm1 nw
    replace mlow:=hF2.rd mlow (fun _ _=>nw)
    replace mhigh:=hF2.rd mhigh (fun _ _=>nw)
    replace mo:=hF2.rd mo (fun _ _=>nw)
    refine ⟨trivial,?_⟩
    refine O.call rfl rfl rfl call23 rfl exItems_spec ?_
    rintro ev H3 ⟨hev,hF3⟩
    replace hF:=hF.trans hF3
    replace mm:=hF3.rd mm (fun _ _=>nw)
    replace mm0:=hF3.keep mm0 nw
    replace mm1:=hF3.keep mm1 nw
    replace mlow:=hF3.rd mlow (fun _ _=>nw)
    replace mhigh:=hF3.rd mhigh (fun _ _=>nw)
    replace mo:=hF3.rd mo (fun _ _=>nw)
    refine ⟨trivial,?_⟩
    refine O.bld (cs:=[.int .i64 2,.int .i64 0]) rfl rfl rfl rfl (st27) rfl (by kernel_rfl) (O.bld (cs:=[.int .i64 8,.int .i64 0]) rfl rfl rfl rfl (st27) rfl (by kernel_rfl) (O.bld (cs:=[.bool false,.bool false,.bool false]) rfl rfl rfl rfl (st33) rfl (by kernel_rfl) (O.call rfl rfl rfl call21 rfl (lawGDeleteRange_spec (d:=2) (by decide) (InS.nil EN _) (by decide) hev (by decide) (low:=(2,0)) (hi:=(8,0)) (pl:=false) (nor:=false) (mi:=false)) ?_)))
    rintro _ H4 ⟨rfl,hF4⟩
    replace hF:=hF.trans hF4
    replace mm:=hF4.rd mm (fun _ _=>nw)
    replace mm0:=hF4.keep mm0 nw
    replace mm1:=hF4.keep mm1 nw
    replace mlow:=hF4.rd mlow (fun _ _=>nw)
    replace mhigh:=hF4.rd mhigh (fun _ _=>nw)
    replace mo:=hF4.rd mo (fun _ _=>nw)
    refine ⟨trivial,?_⟩
    refine Ul 2 rfl mm1 (O.callQ rfl rfl rfl call24 rfl (fits_spec' hfz) trivial (Us 2 rfl mm rfl (Us 1 rfl mlow rfl (Us 0 rfl mhigh rfl (Us 0 rfl mo rfl (O.call rfl rfl rfl call21 rfl (lawGDeleteRange_spec hd (ho.fr hF) (by omega) (hi.fr hF) (by omega) (low:=y2) (hi:=y3) (pl:=y4.1) (nor:=y4.2.1) (mi:=y4.2.2)) ?_))))))
    rintro _ H5 ⟨rfl,hF5⟩
    replace hF:=hF.trans hF5
    replace mm:=hF5.rd mm (fun _ _=>nw)
    replace mm0:=hF5.keep mm0 nw
    replace mm1:=hF5.keep mm1 nw
    replace mlow:=hF5.rd mlow (fun _ _=>nw)
    replace mhigh:=hF5.rd mhigh (fun _ _=>nw)
    replace mo:=hF5.rd mo (fun _ _=>nw)
    refine ⟨trivial,?_⟩
    refine Uf 3 [10] rfl (Go'.ret (vs:=[_]) func5 results5 ⟨rfl,trivial⟩ ?_)
    exact ⟨rfl,hF⟩
end Go.Bt.FG
