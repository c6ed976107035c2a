/- Contracts of functions of the program, proved by walking through their code. Conditions: those that each theorem names. -/
import Derived.Test.YtmcnochofpgfbaaProg
import Derived.Laws.StructEq
import Derived.Test.YtmcnochofpgfbaaTogD
import Derived.Test.YtmcnochofpgfbaaToSg
import Derived.Test.YtmcnochofpgfbaaTogL
import Derived.Test.YtmcnochofpgfbaaTogJ
import Derived.Test.YtmcnochofpgfbaaTojT
import Derived.Test.YtmcnochofpgfbaaToDq
import Derived.Test.YtmcnochofpgfbaaToKs
set_option linter.unusedVariables false
namespace Go.Bt
open Go Go.Proofs Go.Proofs.Try
set_option maxRecDepth 20000
set_option maxHeartbeats 4000000
theorem st27:StT Try.prog 27 [(0,1),(1,1)] [.int .i64 0,.int .i64 0]:=⟨⟨_,underlying27,fun w=>by simp [Array.mapM_eq_mapM_toList,sizeOf3]⟩,zeroValue27⟩
theorem st77:StT Try.prog 77 [(0,2),(2,1)] [.int .i64 0,.int .i64 0,.bool false]:=⟨⟨_,underlying77,fun w=>by simp [Array.mapM_eq_mapM_toList,sizeOf4,sizeOf27]⟩,zeroValue77⟩
theorem rank_spec {B:World} {H:Mem} {v:Value} {ord:List Int} {k:Int} (ho:InS EN H v ord) (hl:ord.length<4611686018427387904):
  Fn Try.prog B 98 [v,.int .i64 k] H (fun r H'=>r=.int .i64 (rank ord k)∧H'=H):=by
 obtain ⟨a,c,rfl⟩:=ho.len
 refine fn_of func98 rfl ntmps98 ?_
 refine (show Go' _ _ _ _ 21 [(0,_),(1,_)] [.code _] _ from ?_)
 refine Ut 1 rfl (Ur 1 0 rfl (Uf 1 [0,1,4] rfl (Ut 1 rfl (Ur 3 0 rfl (Uf 3 [0,1,4,5] rfl (Ut 2 rfl ?_))))))
 by_cases h0:ord.length=0
 ·
  refine Ur 2 0 rfl (Uc 1 rfl (eqlT (by omega)) (Uf 0 [0,1,4,5,9] rfl (Go'.condT rfl (Ut 1 rfl (Ur 2 0 rfl (Uf 2 [0,1,4,5] rfl (Go'.ret (vs:=[_]) func98 results98 ⟨rfl,trivial⟩ ?_)))))))
  refine ⟨?_,rfl⟩
  unfold rank;rw [if_pos h0];rfl
 ·
  have hp:(0:Int)<ord.length:=by omega
  have b1:=Int.tmod_lt_of_pos k hp
  have b2:-(ord.length:Int)<k.tmod ord.length:=by
   have:=Int.lt_tmod_of_pos k hp
   omega
  have b3:=Int.tmod_lt_of_pos (k.tmod ord.length+ord.length) hp
  have b4:0≤(k.tmod ord.length+ord.length).tmod ord.length:=Int.tmod_nonneg _ (by omega)
  obtain ⟨j,hj⟩:=Int.eq_ofNat_of_zero_le b4
  obtain ⟨z,hz⟩:∃z,ord[j]?=some z:=⟨ord[j]'(by omega),List.getElem?_eq_getElem (by omega)⟩
  obtain ⟨b,o,c',e,hr⟩:=ho.at hz
  cases e
  refine Ur 2 0 rfl (Uc 1 rfl (eqlF (by omega)) (Uf 0 [0,1,4,5,9] rfl (Go'.condF rfl (Ut 2 rfl (Ur 11 262144 rfl (Uq 3 rfl (O.rem (k.tmod ord.length) rfl rfl rfl rfl rfl rfl (by omega) rfl (Ua 1 ((k.tmod ord.length+ord.length)) rfl (by omega) (Uq 1 rfl (O.rem ((j:Int)) rfl rfl rfl rfl rfl rfl (by omega) hj (Ux 0 j rfl (by omega) (by omega) ?_)))))))))))
  refine Ul 0 rfl (hr 0 _ rfl) (Uf 1 [4] rfl (Go'.ret (vs:=[_]) func98 results98 ⟨rfl,trivial⟩ ?_))
  refine ⟨?_,rfl⟩
  unfold rank;rw [if_neg h0,hj,Int.toNat_natCast,List.getD_eq_getElem?_getD,hz];rfl
theorem before_spec {B:World} {H:Mem} {v:Value} {ord:List Int} {x y:Int×Int} (ho:InS EN H v ord) (hl:ord.length<4611686018427387904):
  Fn Try.prog B 88 [v,.agg (EJ.enc x).toArray,.agg (EJ.enc y).toArray] H (fun r H'=>r=.bool ((OO ord).lt x y)∧Fr nowhere H H'):=by
 have hF:Fr nowhere H H:=Fr.refl _ _
 refine fn_of func88 rfl ntmps88 ?_
 refine (show Go' _ _ _ _ 16 [(0,_),(1,_),(2,_)] [.code _] _ from ?_)
 refine Ut 1 rfl (Ur 3 10 rfl (O.box rfl rfl rfl rfl ?_))
 intro H1 M1
 refine ⟨trivial,?_⟩
 replace ho:=ho.fr (M1.fr nowhere)
 replace hF:=hF.trans' (M1.fr nowhere) (fun _ _ _ h=>h) (fun _ _ _ h=>h.elim)
 have mi:Rd H1 H.size 0 (EJ.enc x):=M1.rd _ [] (by simp [Value.cells])
 refine O.box rfl rfl rfl rfl ?_
 intro H2 M2
 refine ⟨trivial,?_⟩
 replace ho:=ho.fr (M2.fr nowhere)
 replace mi:=(M2.fr nowhere).rd mi (fun _ _=>nw)
 replace hF:=hF.trans' (M2.fr nowhere) (fun _ _ _ h=>h) (fun _ _ _ h=>h.elim)
 have mj:Rd H2 H1.size 0 (EJ.enc y):=M2.rd _ [] (by simp [Value.cells])
 refine Uf 1 [0,4,5,6] rfl (Ut 1 rfl (Go'.draw (fun H'=>Rd H' H.size 0 (EJ.enc x)∧Rd H' H1.size 0 (EJ.enc y)) [(0,0),(1,0),(2,1),(4,0),(5,0),(6,0),(3,2),(7,2),(8,0),(9,0)] (by kernel_rfl) (by kernel_rfl) (⟨mi,mj⟩) (Ul 2 rfl (mi 0 _ rfl) (UL 2 rfl (fun _ h=>h.2 0 _ rfl) (O.callQ rfl rfl rfl call98 rfl (rank_spec ho hl) ⟨mi,mj⟩ (O.callQ rfl rfl rfl call98 rfl (rank_spec ho hl) ⟨mi,mj⟩ (Uc 0 rfl (show cmpOf .lss _ _=some ((OO ord).lt x y) from rfl) (Uf 1 [6] rfl (Go'.ret (vs:=[_]) func88 results88 ⟨rfl,trivial⟩ ?_)))))))))
 exact ⟨rfl,hF⟩
theorem place_spec {B:World} {H:Mem} {v u:Value} {ord:List Int} {l:List (Int×Int)} {x:Int×Int} (ho:InS EN H v ord) (hl:ord.length<4611686018427387904) (hi:InS EJ H u l) (hs:Pl.Srt (OO ord) l) (hll:l.length<4611686018427387904):
  Fn Try.prog B 65 [v,u,.agg (EJ.enc x).toArray] H (fun r H'=>r=.tuple #[.int .i64 ((Pl.pos (OO ord) x l:Nat):Int),.bool (Pl.fnd (OO ord) x l)]∧Fr nowhere H H'):=by
 have hF:Fr nowhere H H:=Fr.refl _ _
 obtain ⟨a,c,hu⟩:=hi.len
 subst hu
 refine fn_of func65 rfl ntmps65 ?_
 refine (show Go' _ _ _ _ 39 [(0,_),(1,_),(2,_)] [.code _] _ from ?_)
 refine Ut 1 rfl (Ur 3 2 rfl (O.box rfl rfl rfl rfl ?_))
 intro H1 M1
 refine ⟨trivial,?_⟩
 replace ho:=ho.fr (M1.fr nowhere)
 replace hi:=hi.fr (M1.fr nowhere)
 replace hF:=hF.trans' (M1.fr nowhere) (fun _ _ _ h=>h) (fun _ _ _ h=>h.elim)
 have mi:Rd H1 H.size 0 (EJ.enc x):=M1.rd _ [] (by simp [Value.cells])
 refine Uf 2 [0,1,5,6,7] rfl (Ut 1 rfl (Ur 1 0 rfl (Uf 1 [0,1,5,6,7,8] rfl (Ut 2 rfl (Go'.loop (Uk [0,1,5,8] rfl ?_))))))
 refine Go'.ind (σ:=Nat) (fun j=>l.length-j) (fun j H'=>Fr nowhere H1 H'∧j≤l.length∧∀i y,l[i]?=some y→i<j→(OO ord).lt y x=true)
  (fun j=>[(0,v),(1,.slice a l.length c),(5,.pointer (some ⟨H.size,0,none⟩)),(8,.int .i64 (j:Int))]) 0 ⟨Fr.refl _ _,Nat.zero_le _,fun i y _ h=>by omega⟩ rfl ?_
 rintro j H2 ⟨hF2,hjl,hlo⟩ ih
 replace ho:=ho.fr hF2
 replace hi:=hi.fr hF2
 replace mi:=hF2.rd mi (fun _ _=>nw)
 replace hF:=hF.trans hF2
 refine Ut 2 rfl ?_
 by_cases hlt:j<l.length
 ·
  obtain ⟨y,hy⟩:∃y,l[j]?=some y:=⟨l[j],List.getElem?_eq_getElem hlt⟩
  obtain ⟨b,o,c',e,hr⟩:=hi.at hy
  cases e
  refine Ud 13 9699328 (by kernel_rfl) (Uc 3 rfl (lssT (by omega)) (Ux 4 j rfl (by omega) hlt (Us 0 rfl hr rfl (Us 0 rfl mi rfl (O.call rfl rfl rfl call88 rfl (before_spec ho hl) ?_)))))
  rintro _ H3 ⟨rfl,hF3⟩
  refine ⟨trivial,?_⟩
  refine Uf 1 [0,1,5,8,21] rfl ?_
  cases hyx:(OO ord).lt y x
  ·
   refine Go'.condF rfl (Ut 2 rfl ?_)
   replace ho:=ho.fr hF3
   replace hr:=hF3.rd hr (fun _ _=>nw)
   replace mi:=hF3.rd mi (fun _ _=>nw)
   replace hF:=hF.trans hF3
   have hpos:Pl.pos (OO ord) x l=j:=by
    have e:l=l.take j++y::l.drop (j+1):=Bt.split_item hy
    have h2:=Pl.pos_eq (OO ord) (x:=x) (a:=l.take j) (b:=y::l.drop (j+1)) (fun z hz=>by
     obtain ⟨i,hi2,rfl⟩:=List.mem_iff_getElem.1 hz
     rw [List.length_take] at hi2
     exact hlo i _ (by rw [List.getElem?_eq_getElem (by omega),List.getElem_take]) (by omega)) (fun z hz=>by simp only [List.head?_cons,Option.some.injEq] at hz;subst hz;exact hyx)
    rw [←e,List.length_take] at h2
    omega
   have hfnd:Pl.fnd (OO ord) x l=!(OO ord).lt x y:=by unfold Pl.fnd;rw [hpos,hy]
   refine Ud 17 37765120 (by kernel_rfl) (Uc 4 rfl (lssT (by omega)) (Us 2 rfl mi rfl (Ux 2 j rfl (by omega) hlt (Us 0 rfl hr rfl (O.call rfl rfl rfl call88 rfl (before_spec ho hl) ?_)))))
   rintro _ H4 ⟨rfl,hF4⟩
   refine ⟨trivial,?_⟩
   refine Uf 4 [6,7] rfl (Go'.ret (vs:=[_,_]) func65 results65 ⟨rfl,rfl,trivial⟩ ?_)
   exact ⟨by rw [hpos,hfnd];rfl,hF.trans hF4⟩
  ·
   refine Go'.condT rfl (Ut 2 rfl (Ur 3 0 rfl (Ua 1 (((j+1:Nat):Int)) rfl (by omega) (Uf 1 [0,1,5,8,21] rfl (Ut 1 rfl (Uk [0,1,5,8] rfl (Go'.inLoop ?_)))))))
   exact ih (j+1) H3 ⟨hF2.trans hF3,hlt,fun i z hz hij=>by
    rcases Nat.lt_or_ge i j with h|h
    · exact hlo i z hz h
    ·
     obtain rfl:i=j:=by omega
     rw [hy] at hz;cases hz;exact hyx⟩ (by omega)
 ·
  obtain rfl:j=l.length:=by omega
  have hpos:Pl.pos (OO ord) x l=l.length:=by
   have h2:=Pl.pos_eq (OO ord) (x:=x) (a:=l) (b:=[]) (fun z hz=>by
    obtain ⟨i,hi2,rfl⟩:=List.mem_iff_getElem.1 hz
    exact hlo i _ (List.getElem?_eq_getElem hi2) hi2) (fun z hz=>by simp at hz)
   rw [List.append_nil] at h2
   exact h2
  have hfnd:Pl.fnd (OO ord) x l=false:=by unfold Pl.fnd;rw [hpos,List.getElem?_eq_none (Nat.le_refl _)]
  refine Ud 13 9699328 (by kernel_rfl) (Uc 3 rfl (lssF (by omega)) (Uq 7 rfl (Pl.pass2 rfl rfl rfl rfl trivial (Uf 1 [0,1,5,8,21] rfl (Go'.condF rfl (Ut 2 rfl (Ud 17 37765120 (by kernel_rfl) (Uc 4 rfl (lssF (by omega)) (Uq 7 rfl (Pl.pass2 rfl rfl rfl rfl trivial (Uf 4 [6,7] rfl ?_)))))))))))
  refine Go'.ret (vs:=[_,_]) func65 results65 ⟨rfl,rfl,trivial⟩ ?_
  exact ⟨by rw [hpos,hfnd];rfl,hF⟩
end Go.Bt
namespace Go.Bt
open Go Go.Proofs Go.Proofs.Try
set_option maxRecDepth 20000
set_option maxHeartbeats 4000000
theorem put_specA {B:World} {H:Mem} {v u:Value} {ord:List Int} {l:List (Int×Int)} {x:Int×Int} (ho:InS EN H v ord) (hl:ord.length<4611686018427387904) (hi:InS EJ H u l) (hs:Pl.Srt (OO ord) l) (hll:l.length≤4294967296):
  Fn Try.prog B 40 [v,u,.agg (EJ.enc x).toArray] H (fun r H'=>∃sv,r=.tuple #[sv,FV (Pl.got (OO ord) x l)]∧Acc EJ (fun b=>H.size≤b) H' sv (Pl.put (OO ord) x l)∧Fr nowhere H H'):=by
 have hF:Fr nowhere H H:=Fr.refl _ _
 have hple:=Pl.pos_le (OO ord) x l
 have hi0:=hi
 refine fn_of func40 rfl ntmps40 ?_
 refine (show Go' _ _ _ _ 45 [(0,_),(1,_),(2,_)] [.code _] _ from ?_)
 refine Ut 1 rfl (Ur 3 34 rfl (O.box rfl rfl rfl rfl ?_))
 intro H1 M1
 refine ⟨trivial,?_⟩
 have hs1:=M1.size
 replace ho:=ho.fr (M1.fr nowhere)
 replace hi:=hi.fr (M1.fr nowhere)
 replace hF:=hF.trans' (M1.fr nowhere) (fun _ _ _ h=>h) (fun _ _ _ h=>h.elim)
 have mi:Rd H1 H.size 0 (EJ.enc x):=M1.rd _ [] (by simp [Value.cells])
 refine Uq 1 rfl (O.alloc rfl rfl rfl zeroValue77 ?_)
 intro H2 M2
 refine ⟨trivial,?_⟩
 have hs2:=M2.size
 replace ho:=ho.fr (M2.fr nowhere)
 replace hi:=hi.fr (M2.fr nowhere)
 replace mi:=(M2.fr nowhere).rd mi (fun _ _=>nw)
 replace hF:=hF.trans' (M2.fr nowhere) (fun _ _ _ h=>h) (fun _ _ _ h=>h.elim)
 have m7:Wr H2 H1.size 0 3:=M2.wr 3 (by decide)
 refine Uf 0 [0,1,5,6,7] rfl (Ut 1 rfl (Ur 9 144 rfl (Us 2 rfl mi rfl (O.call rfl rfl rfl call65 rfl (place_spec ho hl hi hs (by omega)) ?_))))
 rintro _ H3 ⟨rfl,hF3⟩
 have hs3:=hF3.size
 replace ho:=ho.fr hF3
 replace hi:=hi.fr hF3
 replace mi:=hF3.rd mi (fun _ _=>nw)
 replace m7:=hF3.wr m7
 replace hF:=hF.trans' hF3 (fun _ _ _ h=>h) (fun _ _ _ h=>h.elim)
 refine ⟨trivial,?_⟩
 refine Uf 5 [1,5,6,7,8,9] rfl (Ut 1 rfl ?_)
 generalize hpi:Pl.pos (OO ord) x l=i at*
 refine Ur 6 514 rfl (O.bsl (cs:=[]) rfl rfl rfl ⟨underlying25,sizeOf27,zeroValue27,⟨_,typeInfo27,rfl⟩,rfl,by decide,by decide⟩ rfl (by decide) (by kernel_rfl) ?_)
 intro H4 M4
 have hs4:=M4.size
 replace ho:=ho.fr (M4.fr nowhere)
 replace hi:=hi.fr (M4.fr nowhere)
 replace mi:=(M4.fr nowhere).rd mi (fun _ _=>nw)
 replace m7:=(M4.fr nowhere).wr m7
 replace hF:=hF.trans' (M4.fr nowhere) (fun _ _ _ h=>h) (fun _ _ _ h=>h.elim)
 refine ⟨trivial,?_⟩
 refine Uq 2 rfl (O.slcIn (E:=EJ) (jl:=0) (jh:=i) rfl rfl rfl rfl underlying25 sizeOf27 rfl hi ⟨_,by rfl⟩ rfl (by omega) (by omega) ?_)
 intro v1 hv1
 rw [List.drop_zero,Nat.sub_zero] at hv1
 have hl1:(l.take i).length=i:=by rw [List.length_take];omega
 refine O.app (m:=(l.take i).length) (news:=(row EJ (l.take i))) rfl rfl rfl ⟨underlying25,sizeOf27,zeroValue27,⟨_,typeInfo27,rfl⟩,rfl,by decide,by decide⟩ rfl (Sl.none _ _ _ _) rfl hv1.src (row_len EJ _) (row_ones EJ _) (Nat.le_trans (Nat.mul_le_mul_left _ (Nat.le_of_ble_eq_true (n:=_) (m:=4096) rfl)) (by omega)) (by omega) ?_
 intro b1 o1 c1 H5 ha
 have hsz5:=ha.fr.size
 have hsl1:SlE EJ H5 b1 o1 c1 (l.take i):=SlE.of ha.sl (by rw [List.nil_append]) (Nat.zero_add _)
 have hb1:H.size+2≤b1:=by rcases ha.place with ⟨r,_⟩|⟨r,_⟩<;>omega
 replace ho:=ho.fr ha.quiet
 replace hi:=hi.fr ha.quiet
 replace mi:=ha.quiet.rd mi (fun _ _=>nw)
 replace m7:=ha.quiet.wr m7
 replace hF:=hF.trans' ha.quiet (fun _ _ _ h=>h) (fun _ _ _ h=>h.elim)
 refine ⟨trivial,?_⟩
 refine Uf 1 [1,5,6,7,8,9,10] rfl (Ut 1 rfl ?_)
 rw [Nat.zero_add]
 refine Ur 5 164 rfl (Us 1 rfl mi rfl (O.bsl (cs:=(EJ.enc x)) rfl rfl rfl ⟨underlying25,sizeOf27,zeroValue27,⟨_,typeInfo27,rfl⟩,rfl,by decide,by decide⟩ rfl (by decide) (by kernel_rfl) ?_))
 intro H6 M6
 have hs6:=M6.size
 replace ho:=ho.fr (M6.fr nowhere)
 replace hi:=hi.fr (M6.fr nowhere)
 replace mi:=(M6.fr nowhere).rd mi (fun _ _=>nw)
 replace m7:=(M6.fr nowhere).wr m7
 replace hF:=hF.trans' (M6.fr nowhere) (fun _ _ _ h=>h) (fun _ _ _ h=>h.elim)
 replace hsl1:=hsl1.fr (M6.fr nowhere) (fun _ _ _=>nw)
 have m6:Rd H6 H5.size 0 (EJ.enc x):=M6.rd _ [] (by simp)
 refine ⟨trivial,?_⟩
 refine O.app (m:=1) (news:=(EJ.enc x)) rfl rfl rfl ⟨underlying25,sizeOf27,zeroValue27,⟨_,typeInfo27,rfl⟩,rfl,by decide,by decide⟩ rfl hsl1 rfl (.inl ⟨_,_,_,rfl,m6⟩) rfl rfl (Nat.le_trans (Nat.mul_le_mul_left _ (Nat.le_of_ble_eq_true (n:=_) (m:=4096) rfl)) (by omega)) (by omega) ?_
 intro b2 o2 c2 H7 ha2
 have hsz7:=ha2.fr.size
 have hsl2:Sl H7 b2 o2 ((l.take i).length+1) c2 2 (row EJ (l.take i++[x])):=by rw [row_append,row_one];exact ha2.sl
 have hb2:H.size+2≤b2:=by rcases ha2.place with ⟨r,_⟩|⟨r,_⟩<;>omega
 replace m7:=ha2.fr.wr m7
 replace hF:=hF.trans' ha2.fr (fun _ _ _ h=>h) (fun b o hb hz=>by have h1:=hz.1;omega)
 replace hi:=hi0.fr hF
 refine ⟨trivial,?_⟩
 refine Uf 1 [1,6,7,8,9,10] rfl (Ut 2 rfl (Ur 1 0 rfl (Uf 1 [1,6,7,8,10,27] rfl ?_)))
 cases hfd:Pl.fnd (OO ord) x l
 ·
  refine Go'.condF rfl (Ut 2 rfl (Ur 8 33280 rfl (Uq 3 rfl (O.slcIn (E:=EJ) (jl:=i) (jh:=l.length) rfl rfl rfl rfl underlying25 sizeOf27 rfl hi rfl ⟨_,by rfl⟩ (by omega) (by omega) ?_))))
  intro v2 hv2
  rw [List.take_of_length_le (by rw [List.length_drop];omega)] at hv2
  refine O.app (m:=(l.drop i).length) (news:=(row EJ (l.drop i))) rfl rfl rfl ⟨underlying25,sizeOf27,zeroValue27,⟨_,typeInfo27,rfl⟩,rfl,by decide,by decide⟩ rfl hsl2 rfl hv2.src (row_len EJ _) (row_ones EJ _) (Nat.le_trans (Nat.mul_le_mul_left _ (Nat.le_of_ble_eq_true (n:=_) (m:=4096) rfl)) (by rw [List.length_drop];omega)) (by rw [List.length_drop];omega) ?_
  intro b3 o3 c3 H8 ha3
  have hsz8:=ha3.fr.size
  have hsl3:SlE EJ H8 b3 o3 c3 (l.take i++[x]++l.drop i):=SlE.of ha3.sl (by rw [←row_append]) (by rw [List.length_append,List.length_append];rfl)
  have hb3:H.size+2≤b3:=by rcases ha3.place with ⟨r,_⟩|⟨r,_⟩<;>omega
  replace m7:=ha3.fr.wr m7
  replace hF:=hF.trans' ha3.fr (fun _ _ _ h=>h) (fun b o hb hz=>by have h1:=hz.1;omega)
  refine ⟨trivial,?_⟩
  refine O.bld (cs:=(fvs none)) rfl rfl rfl rfl (st77) rfl (by kernel_rfl) (Uq 1 rfl (O.st rfl rfl sizeOf77 rfl rfl rfl rfl rfl m7 ?_))
  intro H9 W9
  replace hsl3:=hsl3.fr W9.fr (fun _ _ _=>nr (.inl (by omega)))
  replace hF:=hF.trans' W9.fr (fun _ _ _ h=>h) (fun b o hb hz=>by have h1:=hz.1;omega)
  have hfin:Pl.put (OO ord) x l=l.take i++[x]++l.drop (i+(Pl.fnd (OO ord) x l).toNat):=by unfold Pl.put;rw [hpi];simp
  refine ⟨trivial,?_⟩
  refine Uf 0 [6,7] rfl (Go'.ret (vs:=[_,_]) func40 results40 ⟨rfl,⟨_,_,rfl,fun _ _=>run_loadVar_agg (fun w=>⟨isAgg77 w,sizeOf77 w⟩) rfl W9.all⟩,trivial⟩ ?_)
  refine ⟨_,by rw [Pl.got_none _ hfd];rfl,.inr ⟨b3,o3,c3,?_,by omega,hsl3.lt (by have h1:=hsl3.hle;simp only [List.length_append,List.length_cons,List.length_nil] at h1;show 0<c3*2;omega),?_⟩,hF⟩
  · rw [hfin,hfd];simp only [Bool.toNat_false,Nat.add_zero,List.length_append];rfl
  · rw [hfin,hfd];exact hsl3
 ·
  refine Go'.condT rfl (Ut 1 rfl ?_)
  obtain ⟨y,hy,_,_⟩:=Pl.fnd_at (OO ord) hs hfd
  rw [hpi] at hy
  have hil:i<l.length:=(List.getElem?_eq_some_iff.1 hy).1
  obtain ⟨bl,ol,cl',hue,hir⟩:=hi.at hy
  have hbl:bl<H.size:=by
   obtain ⟨b0,o0,c0,hue0,hir0⟩:=hi0.at hy
   rw [hue] at hue0
   cases hue0
   exact cl_lt (hir0 0 _ rfl)
  subst hue
  refine Go'.draw (fun H'=>Rd H' bl (ol+i*2) (EJ.enc y)) [(0,0),(1,0),(2,0),(3,0),(4,0),(6,0),(7,0),(8,0),(9,0),(10,0),(5,2),(11,0),(12,3)] (by kernel_rfl) (by kernel_rfl) (hir) (Ua 3 (((i+1:Nat):Int)) rfl (by omega) (O.slcIn (E:=EJ) (jl:=i+1) (jh:=l.length) rfl rfl rfl rfl underlying25 sizeOf27 rfl hi rfl ⟨_,by rfl⟩ (by omega) (by omega) ?_))
  intro v2 hv2
  rw [List.take_of_length_le (by rw [List.length_drop];omega)] at hv2
  refine Ux 2 i rfl (by omega) (by omega) (US 0 rfl (fun _ h=>h) rfl (O.bld (cs:=(fvs (some y))) rfl rfl rfl rfl (st77) rfl (by kernel_rfl) (O.app (m:=(l.drop (i+1)).length) (news:=(row EJ (l.drop (i+1)))) rfl rfl rfl ⟨underlying25,sizeOf27,zeroValue27,⟨_,typeInfo27,rfl⟩,rfl,by decide,by decide⟩ rfl hsl2 rfl hv2.src (row_len EJ _) (row_ones EJ _) (Nat.le_trans (Nat.mul_le_mul_left _ (Nat.le_of_ble_eq_true (n:=_) (m:=4096) rfl)) (by rw [List.length_drop];omega)) (by rw [List.length_drop];omega) ?_)))
  intro b3 o3 c3 H8 ha3
  have hsz8:=ha3.fr.size
  have hsl3:SlE EJ H8 b3 o3 c3 (l.take i++[x]++l.drop (i+1)):=SlE.of ha3.sl (by rw [←row_append]) (by rw [List.length_append,List.length_append];rfl)
  have hb3:H.size+2≤b3:=by rcases ha3.place with ⟨r,_⟩|⟨r,_⟩<;>omega
  replace m7:=ha3.fr.wr m7
  replace hF:=hF.trans' ha3.fr (fun _ _ _ h=>h) (fun b o hb hz=>by have h1:=hz.1;omega)
  replace hir:=ha3.fr.rd hir (fun _ _=>nr (.inl (by omega)))
  refine ⟨hir,?_⟩
  refine Uq 1 rfl (O.st3 rfl rfl sizeOf77 rfl rfl rfl rfl rfl m7 ?_)
  intro H9 W9
  replace hsl3:=hsl3.fr W9.fr (fun _ _ _=>nr (.inl (by omega)))
  replace hF:=hF.trans' W9.fr (fun _ _ _ h=>h) (fun b o hb hz=>by have h1:=hz.1;omega)
  have hfin:Pl.put (OO ord) x l=l.take i++[x]++l.drop (i+(Pl.fnd (OO ord) x l).toNat):=by unfold Pl.put;rw [hpi];simp
  refine Uf 0 [1,6,7,8,10] rfl (Go'.ret (vs:=[_,_]) func40 results40 ⟨rfl,⟨_,_,rfl,fun _ _=>run_loadVar_agg (fun w=>⟨isAgg77 w,sizeOf77 w⟩) rfl W9.all⟩,trivial⟩ ?_)
  refine ⟨_,by rw [Pl.got_some _ hfd,hpi,hy];rfl,.inr ⟨b3,o3,c3,?_,by omega,hsl3.lt (by have h1:=hsl3.hle;simp only [List.length_append,List.length_cons,List.length_nil] at h1;show 0<c3*2;omega),?_⟩,hF⟩
  · rw [hfin,hfd];simp only [Bool.toNat_true,List.length_append];rfl
  · rw [hfin,hfd];exact hsl3
theorem put_spec {B:World} {H:Mem} {v u:Value} {ord:List Int} {l:List (Int×Int)} {x:Int×Int} (ho:InS EN H v ord) (hl:ord.length<4611686018427387904) (hi:InS EJ H u l) (hs:Pl.Srt (OO ord) l) (hll:l.length≤4294967296):
  Fn Try.prog B 40 [v,u,.agg (EJ.enc x).toArray] H (fun r H'=>∃sv,r=.tuple #[sv,FV (Pl.got (OO ord) x l)]∧OutS EJ H' sv (Pl.put (OO ord) x l)∧Fr nowhere H H'):=
 (put_specA ho hl hi hs hll).mono fun _ _ ⟨sv,e,h,k⟩=>⟨sv,e,h.out,k⟩
end Go.Bt
namespace Go.Bt
open Go Go.Proofs Go.Proofs.Try
set_option maxRecDepth 20000
set_option maxHeartbeats 4000000
theorem tree_spec {B:World} {H:Mem} {v u:Value} {ord:List Int} {l:List (Int×Int)} (ho:InS EN H v ord) (hl:ord.length<4611686018427387904) (hi:InS EJ H u l) (hll:l.length≤4294967296):
  Fn Try.prog B 15 [v,u] H (fun r H'=>OutS EJ H' r (Pl.puts (OO ord) l)∧Fr nowhere H H'):=by
 obtain ⟨a,c,hu⟩:=hi.len
 subst hu
 refine fn_of func15 rfl ntmps15 ?_
 refine (show Go' _ _ _ _ 23 [(0,_),(1,_)] [.code _] _ from ?_)
 refine Ut 1 rfl (Ur 1 0 rfl (Uf 1 [0,1,4] rfl (Ut 1 rfl (Ur 1 0 rfl (Uf 1 [0,1,4,5] rfl (Ut 2 rfl (Ur 3 0 rfl (Uf 3 [0,4,5,8,9,10] rfl (Ut 1 rfl (Go'.loop (Uk [0,5,8,9,10] rfl ?_)))))))))))
 refine Go'.ind (σ:=Nat×Value) (fun s=>l.length-s.1) (fun s H'=>Fr nowhere H H'∧s.1≤l.length∧OutS EJ H' s.2 (Pl.puts (OO ord) (l.take s.1)))
  (fun s=>[(0,v),(5,s.2),(8,.slice a l.length c),(9,.int .i64 (l.length:Int)),(10,.int .i64 (s.1:Int))]) (0,.slice none 0 0) ⟨Fr.refl _ _,Nat.zero_le _,.inl ⟨rfl,rfl⟩⟩ rfl ?_
 rintro ⟨j,sv⟩ H2 ⟨hF,hjl,hsv⟩ ih
 simp only at hjl hsv
 have ho2:=ho.fr hF
 have hi2:=hi.fr hF
 refine Ut 1 rfl ?_
 by_cases hlt:j<l.length
 ·
  obtain ⟨y,hy⟩:∃y,l[j]?=some y:=⟨l[j],List.getElem?_eq_getElem hlt⟩
  obtain ⟨b,o,c',e,hr⟩:=hi2.at hy
  cases e
  have hpl:=Pl.puts_length (OO ord) (l.take j)
  rw [List.length_take] at hpl
  refine Ur 1 0 rfl (Uc 0 rfl (lssT (by omega)) (Uf 0 [0,5,8,9,10,11] rfl (Ut 1 rfl (Go'.condT rfl (Ut 4 rfl (Ur 4 164 rfl (Ux 0 j rfl (by omega) hlt (Us 0 rfl hr rfl (O.alloc rfl rfl rfl zeroValue27 ?_)))))))))
  intro H3 M3
  refine ⟨trivial,?_⟩
  have hs3:=M3.size
  replace ho2:=ho2.fr (M3.fr nowhere)
  have m7:Wr H3 H2.size 0 2:=M3.wr 2 (by decide)
  refine O.st rfl rfl sizeOf27 rfl rfl rfl rfl rfl m7 ?_
  intro H4 W4
  have hs4:=W4.size
  have hf4:Fr nowhere H2 H4:=(M3.fr nowhere).trans' W4.fr (fun _ _ _ h=>h) (fun b o hb hz=>by have h1:=hz.1;omega)
  have ho4:=(ho.fr hF).fr hf4
  have hsv4:=hsv.inS.fr hf4
  refine ⟨trivial,?_⟩
  refine Uf 0 [0,5,7,8,9,10,11] rfl (Ur 8 144 rfl (Us 2 rfl W4.all rfl (O.call rfl rfl rfl call40 rfl (put_spec ho4 hl hsv4 (Pl.puts_srt _ _) (by omega)) ?_)))
  rintro _ H5 ⟨sv2,rfl,hsv2,hF5⟩
  refine ⟨trivial,?_⟩
  refine Uf 4 [0,5,7,8,9,10,11] rfl (Ut 1 rfl (Ur 2 0 rfl (Ua 0 (((j+1:Nat):Int)) rfl (by omega) (Uf 1 [0,5,7,8,9,10,11] rfl (Uk [0,5,8,9,10] rfl (Go'.inLoop ?_))))))
  exact ih (j+1,sv2) H5 ⟨(hF.trans hf4).trans hF5,hlt,by
   rw [List.take_add_one,hy]
   rw [←Pl.puts_snoc] at hsv2
   exact hsv2⟩ (by simp only;omega)
 ·
  obtain rfl:j=l.length:=by omega
  refine Ur 1 0 rfl (Uc 0 rfl (lssF (by omega)) (Uf 0 [0,5,8,9,10,11] rfl (Ut 1 rfl (Go'.condF rfl (Ut 2 rfl (Ur 2 0 rfl (Uf 2 [4] rfl (Go'.ret (vs:=[_]) func15 results15 ⟨rfl,trivial⟩ ?_))))))))
  rw [List.take_length] at hsv
  exact ⟨hsv,hF⟩
end Go.Bt
namespace Go.Bt.FG
open Go Go.Proofs Go.Proofs.Try
set_option maxRecDepth 20000
set_option maxHeartbeats 4000000
set_option linter.unusedSectionVars false
@[reducible] def nilCx:Inhabited Cx:=⟨⟨[],0,.bool false,0,fun _=>False⟩⟩
def exl:List (Int×Int):=[(5,1),(3,2),(9,3),(3,4),(1,5),(7,6),(8,7)]
theorem exItems_spec {B:World} {H:Mem}:Fn Try.prog B 23 [] H (fun r H'=>InS EJ H' r exl∧Fr nowhere H H'):=by
 refine fn_of func23 rfl ntmps23 ?_
 refine (show Go' _ _ _ _ 9 [] [.code _] _ from ?_)
 refine Ut 1 rfl (Ur 1 0 rfl (Uf 1 [0] rfl (Ut 1 rfl (Ur 9 32768 rfl (O.bld (cs:=[.int .i64 5,.int .i64 1]) rfl rfl rfl rfl (st27) rfl (by kernel_rfl) (O.bld (cs:=[.int .i64 3,.int .i64 2]) rfl rfl rfl rfl (st27) rfl (by kernel_rfl) (O.bld (cs:=[.int .i64 9,.int .i64 3]) rfl rfl rfl rfl (st27) rfl (by kernel_rfl) (O.bld (cs:=[.int .i64 3,.int .i64 4]) rfl rfl rfl rfl (st27) rfl (by kernel_rfl) (O.bld (cs:=[.int .i64 1,.int .i64 5]) rfl rfl rfl rfl (st27) rfl (by kernel_rfl) (O.bld (cs:=[.int .i64 7,.int .i64 6]) rfl rfl rfl rfl (st27) rfl (by kernel_rfl) (O.bld (cs:=[.int .i64 8,.int .i64 7]) rfl rfl rfl rfl (st27) rfl (by kernel_rfl) ?_)))))))))))
 refine O.bsl (cs:=(row EJ exl)) rfl rfl rfl ⟨underlying25,sizeOf27,zeroValue27,⟨_,typeInfo27,rfl⟩,rfl,by decide,by decide⟩ rfl (by decide) (by kernel_rfl) ?_
 intro H1 M1
 refine ⟨trivial,?_⟩
 refine Uf 1 [0] rfl (Go'.ret (vs:=[_]) func23 results23 ⟨rfl,trivial⟩ ?_)
 exact ⟨.inl ⟨H.size,0,7,rfl,by decide,M1.rd _ [] (by simp)⟩,M1.fr nowhere⟩
def fitsb (z:Int):Bool:=decide (z=0)||(decide (2≤z)&&decide (z≤128))
theorem fits_spec {B:World} {H:Mem} {z:Int}:Fn Try.prog B 24 [.int .i64 z] H (fun r H'=>r=.bool (fitsb z)∧H'=H):=by
 refine fn_of func24 rfl ntmps24 ?_
 refine (show Go' _ _ _ _ 13 [(0,_)] [.code _] _ from ?_)
 refine Ut 1 rfl (Ur 1 0 rfl (Uf 1 [0,2] rfl (Ut 1 rfl ?_)))
 by_cases h0:z=0
 ·
  refine Ur 11 0 rfl (Uc 1 rfl (eqlT (by omega)) (Uf 9 [2] rfl (Go'.ret (vs:=[_]) func24 results24 ⟨rfl,trivial⟩ ?_)))
  subst h0;exact ⟨rfl,rfl⟩
 by_cases h2:2≤z
 ·
  by_cases h3:z≤128
  ·
   refine Ur 11 0 rfl (Uc 1 rfl (eqlF (by omega)) (Uc 2 rfl (geqT (by omega)) (Uc 2 rfl (leqT (by omega)) (Uf 3 [2] rfl (Go'.ret (vs:=[_]) func24 results24 ⟨rfl,trivial⟩ ?_)))))
   exact ⟨by unfold fitsb;rw [decide_eq_false h0,decide_eq_true h2,decide_eq_true h3];rfl,rfl⟩
  ·
   refine Ur 11 0 rfl (Uc 1 rfl (eqlF (by omega)) (Uc 2 rfl (geqT (by omega)) (Uc 2 rfl (leqF (by omega)) (Uf 3 [2] rfl (Go'.ret (vs:=[_]) func24 results24 ⟨rfl,trivial⟩ ?_)))))
   exact ⟨by unfold fitsb;rw [decide_eq_false h0,decide_eq_true h2,decide_eq_false h3];rfl,rfl⟩
 ·
  refine Ur 11 0 rfl (Uc 1 rfl (eqlF (by omega)) (Uc 2 rfl (geqF (by omega)) (Uf 6 [2] rfl (Go'.ret (vs:=[_]) func24 results24 ⟨rfl,trivial⟩ ?_))))
  exact ⟨by unfold fitsb;rw [decide_eq_false h0,decide_eq_false h2];rfl,rfl⟩
theorem fits_spec' {B:World} {H:Mem} {z:Int} {b:Bool} (h:fitsb z=b):Fn Try.prog B 24 [.int .i64 z] H (fun r H'=>r=.bool b∧H'=H):=h▸fits_spec
theorem fitsb_nat {z:Int} (h:fitsb z=true):∃d:Nat,z=(d:Int)∧(d=0∨2≤d∧d≤128):=by
 unfold fitsb at h
 simp only [Bool.or_eq_true,Bool.and_eq_true,decide_eq_true_eq] at h
 exact ⟨z.toNat,by omega,by omega⟩
theorem st24:StT Try.prog 24 [(0,1),(1,1),(2,1)] [.slice none 0 0,.int .i64 0,.bool false]:=⟨⟨_,underlying24,fun w=>by simp [Array.mapM_eq_mapM_toList,sizeOf3,sizeOf4,sizeOf22]⟩,zeroValue24⟩
theorem exMake_spec {B:World} {H:Mem}:Fn Try.prog B 22 [] H (fun r H'=>r=.agg #[.slice none 0 0,.int .i64 ((2:Nat):Int),.bool false]∧Fr nowhere H H'):=by
 refine fn_of func22 rfl ntmps22 ?_
 refine (show Go' _ _ _ _ 2 [] [.code _] _ from ?_)
 refine Ut 1 rfl (Ur 1 2 rfl (O.alloc rfl rfl rfl zeroValue24 ?_))
 intro H1 M1
 refine ⟨trivial,?_⟩
 have mw:Wr H1 H.size 0 3:=M1.wr 3 (by decide)
 refine Uf 0 [0] rfl (Ut 1 rfl (Ur 2 8 rfl (O.bld (cs:=[.slice none 0 0,.int .i64 ((2:Nat):Int),.bool false]) rfl rfl rfl rfl (st24) rfl (by kernel_rfl) (O.st rfl rfl sizeOf24 rfl rfl rfl rfl rfl mw ?_))))
 intro H2 W2
 refine ⟨trivial,?_⟩
 refine Uf 0 [0] rfl (Go'.ret (vs:=[_]) func22 results22 ⟨⟨_,_,rfl,fun _ _=>run_loadVar_agg (fun w=>⟨isAgg24 w,sizeOf24 w⟩) rfl W2.all⟩,trivial⟩ ?_)
 exact ⟨rfl,(M1.fr nowhere).trans' W2.fr (fun _ _ _ h=>h) (fun b o hb h=>by have h':=h.1;omega)⟩
theorem zzFits1_spec {B:World} {H:Mem} {v:Value} {z:Int} {nl:Bool} {ord:List Int} {b:Bool} (ho:InS EN H v ord) (hb:decide (ord.length≤2147483647)=b):Fn Try.prog B 7 [.agg #[v,.int .i64 z,.bool nl]] H (fun r H'=>r=.bool b∧Fr nowhere H H'):=by
 obtain ⟨av,cv,hv⟩:=ho.len
 generalize hmv:ord.length=mv at*
 subst hv
 have hF:Fr nowhere H H:=Fr.refl _ _
 refine fn_of func7 rfl ntmps7 ?_
 refine (show Go' _ _ _ _ 7 [(0,_)] [.code _] _ from ?_)
 refine Ut 1 rfl (Ur 2 2 rfl (O.box rfl rfl rfl rfl ?_))
 intro B1 MB1
 refine ⟨trivial,?_⟩
 have hsB1:=MB1.size
 replace hF:=hF.trans (MB1.fr nowhere)
 have mx:Rd B1 H.size 0 [.slice av mv cv,.int .i64 z,.bool nl]:=MB1.rd _ [] (by simp [Value.cells])
 have mx0:cl B1 H.size 0=some (.slice av mv cv):=mx 0 _ rfl
 have mx1:cl B1 H.size (0+1)=some (.int .i64 z):=mx 1 _ rfl
 refine Uf 1 [1,2] rfl (Ut 2 rfl ?_)
 cases b
 ·
  refine Ur 4 4 rfl (Ul 1 rfl mx0 (Uc 1 rfl (gtrT (by have:=of_decide_eq_false hb;omega)) (Uf 0 [2,6] rfl (Go'.condT rfl (Ut 1 rfl (Ur 1 0 rfl (Uf 1 [2] rfl (Go'.ret (vs:=[_]) func7 results7 ⟨rfl,trivial⟩ ?_))))))))
  exact ⟨rfl,hF⟩
 ·
  refine Ur 4 4 rfl (Ul 1 rfl mx0 (Uc 1 rfl (gtrF (by have:=of_decide_eq_true hb;omega)) (Uf 0 [2,6] rfl (Go'.condF rfl (Ut 2 rfl (Ur 1 0 rfl (Uf 1 [2] rfl (Go'.ret (vs:=[_]) func7 results7 ⟨rfl,trivial⟩ ?_))))))))
  exact ⟨rfl,hF⟩
end Go.Bt.FG
namespace Go.Bt.FG
open Go Go.Proofs Go.Proofs.Try
set_option maxRecDepth 20000
set_option maxHeartbeats 4000000
set_option linter.unusedSectionVars false
theorem fields27:Try.prog.underlying 27=some (.struct (Try.prog.fieldsOf 27)):=by unfold Program.fieldsOf;rw [underlying27]
theorem item_eq (d:Nat) (x:Int×Int) (w:World):(Op.equalIn (d+2) 27 (.agg #[.int .i64 x.1,.int .i64 x.2]) (.agg #[.int .i64 x.1,.int .i64 x.2])).run Try.prog w=.ok true w:=by
 rw [run_equalIn_agg w (d+1) 27 _ _ fields27 Try.stoodInHeld27]
 simp [Op.eqFields,Program.fieldsOf,underlying27,part,isAgg3,run_equalIn_int w d 3 _ _ _ _ underlying3]
theorem item_neq (x:Int×Int) (a b:Operand) (w:World):(eqGuard .neq 27 a b (.agg (EJ.enc x).toArray) (.agg (EJ.enc x).toArray)).run Try.prog w=.ok () w∧(binOp .neq 27 (.agg (EJ.enc x).toArray) (.agg (EJ.enc x).toArray)).run Try.prog w=.ok (.bool false) w:=by
 refine ⟨run_eqGuard_agg w _ _ _ _ _ _ Try.eqGuardType27,?_⟩
 rw [run_neq_struct]
 have h:(Op.equalIn 10000 27 (.agg (EJ.enc x).toArray) (.agg (EJ.enc x).toArray)).run Try.prog w=.ok true w:=item_eq 9998 x w
 rw [h];rfl
theorem eqItems_spec {B:World} {H:Mem} {u v:Value} {l:List (Int×Int)} (hu:InS EJ H u l) (hv:InS EJ H v l) (hll:l.length≤4294967296):
  Fn Try.prog B 12 [u,v] H (fun r H'=>r=.bool true∧H'=H):=by
 obtain ⟨a,c,e⟩:=hu.len
 subst e
 obtain ⟨a',c',e⟩:=hv.len
 subst e
 refine fn_of func12 rfl ntmps12 ?_
 refine (show Go' _ _ _ _ 26 [(0,_),(1,_)] [.code _] _ from ?_)
 refine Ut 1 rfl (Ur 1 0 rfl (Uf 1 [0,1,4] rfl (Ut 2 rfl (Ur 5 0 rfl (Uc 4 rfl (neqF (by omega)) (Uf 0 [0,1,4,10] rfl (Go'.condF rfl (Ut 3 rfl (Ur 3 0 rfl (Uf 3 [0,1,4,12,13] rfl (Ut 1 rfl ?_)))))))))))
 refine Go'.loop (Uk [0,1,4,12,13] rfl ?_)
 refine Go'.ind (σ:=Nat) (fun j=>l.length-j) (fun j H'=>H'=H∧j≤l.length)
  (fun j=>[(0,.slice a l.length c),(1,.slice a' l.length c'),(4,.bool false),(12,.int .i64 (l.length:Int)),(13,.int .i64 (j:Int))]) 0 ⟨rfl,Nat.zero_le _⟩ rfl ?_
 rintro j H2 ⟨hHH,hjl⟩ ih
 have eH:H=H2:=hHH.symm
 subst eH
 clear hHH
 refine Ut 1 rfl ?_
 by_cases hlt:j<l.length
 ·
  obtain ⟨y,hy⟩:∃y,l[j]?=some y:=⟨l[j],List.getElem?_eq_getElem hlt⟩
  obtain ⟨b,o,cc,e,hr⟩:=hu.at hy
  cases e
  obtain ⟨b',o',cc',e,hr'⟩:=hv.at hy
  cases e
  refine Ur 1 0 rfl (Uc 0 rfl (lssT (by omega)) (Uf 0 [0,1,4,12,13,14] rfl (Ut 1 rfl (Go'.condT rfl (Ut 4 rfl (Ur 2 0 rfl (Uf 2 [0,1,4,5,12,13,14] rfl (Ut 1 rfl (Ud 9 16448 (by kernel_rfl) (Ux 2 j rfl (by omega) hlt (Us 0 rfl hr rfl ?_)))))))))))
  refine Ux 2 j rfl (by omega) hlt (Us 0 rfl hr' rfl (O.bin rfl rfl rfl rfl rfl rfl (item_neq y _ _) (Uf 0 [0,1,4,5,12,13,14,24] rfl (Go'.condF rfl (Ut 2 rfl (Ur 2 0 rfl (Ua 0 (((j+1:Nat):Int)) rfl (by omega) (Uf 1 [0,1,4,5,12,13,14,24] rfl (Uk [0,1,4,12,13] rfl (Go'.inLoop ?_))))))))))
  exact ih (j+1) H ⟨rfl,hlt⟩ (by omega)
 ·
  refine Ur 1 0 rfl (Uc 0 rfl (lssF (by omega)) (Uf 0 [0,1,4,12,13,14] rfl (Ut 1 rfl (Go'.condF rfl (Ut 2 rfl (Ur 1 0 rfl (Uf 1 [4] rfl (Go'.ret (vs:=[_]) func12 results12 ⟨rfl,trivial⟩ ?_))))))))
  exact ⟨rfl,rfl⟩
end Go.Bt.FG
namespace Go.Bt.FG
open Go Go.Proofs Go.Proofs.Try
set_option maxRecDepth 20000
set_option maxHeartbeats 4000000
set_option linter.unusedSectionVars false
theorem Gt.Good.some {H:Mem} {P:Ps}:∀{h:Nat} {t:Gt EJ h},Gt.Good H P h t→1≤(Gt.X h t).length→1≤(Gt.L h t).length
 | 0,_,_,h1=>h1
 | h+1,(g,X,K),hg,h1=>Nat.le_trans h1 (Pl.sublist_inter X (K.map (Gt.L h)) (by have:=hg.2.2.2.2.2.1;simp only at this;rw [List.length_map,this];omega)).length_le
end Go.Bt.FG
namespace Go.Bt.FG
open Go Go.Proofs Go.Proofs.Try
set_option maxRecDepth 20000
set_option maxHeartbeats 4000000
set_option linter.unusedSectionVars false
end Go.Bt.FG
namespace Go.Bt.Pl
theorem pre_snoc {α:Type}:∀(X:List α) (K:List (List α)) (x:α) (k:List α),X.length=K.length→pre (X++[x]) (K++[k])=pre X K++(k++[x])
 | [],[],x,k,_=>by simp [pre]
 | y::X,l::K,x,k,h=>by
  simp only [List.cons_append,pre]
  rw [pre_snoc X K x k (by simpa using h)]
  simp
 | [],_::_,_,_,h=>by simp at h
 | _::_,[],_,_,h=>by simp at h
theorem inter_last {α:Type} {X:List α} {K:List (List α)} {k:List α} (hl:K.length=X.length+1) (hk:K[X.length]?=some k):inter X K=pre X (K.take X.length)++k:=by
 have hsp:K=K.take X.length++[k]:=by
  have h1:=(List.getElem?_eq_some_iff.1 hk)
  obtain ⟨h1,h2⟩:=h1
  conv=>lhs;rw [←List.take_append_drop X.length K]
  rw [←List.getElem_cons_drop (h:=h1),h2,List.drop_of_length_le (by omega)]
 have:=inter_focus X [] (K.take X.length) k [] (by rw [List.length_take];omega) rfl
 rw [List.append_nil] at this
 rw [hsp] at this ⊢
 simp only [post,List.append_nil] at this
 rw [show (List.take X.length K++[k]).take X.length=K.take X.length by rw [List.take_append_of_le_length (by rw [List.length_take];omega),List.take_take,Nat.min_self]]
 rw [show (List.take X.length K++[k]).take X.length=K.take X.length by rw [List.take_append_of_le_length (by rw [List.length_take];omega),List.take_take,Nat.min_self]] at this
 exact this
theorem inter_drop1 {α:Type} {X:List α} {K:List (List α)} {x:α} {k:List α} {j:Nat} (hx:X[j]?=some x) (hk:K[j]?=some k):inter (X.drop j) (K.drop j)=k++x::inter (X.drop (j+1)) (K.drop (j+1)):=by
 obtain ⟨h1,h2⟩:=List.getElem?_eq_some_iff.1 hx
 obtain ⟨h3,h4⟩:=List.getElem?_eq_some_iff.1 hk
 rw [←List.getElem_cons_drop (h:=h1),←List.getElem_cons_drop (h:=h3),h2,h4]
 rfl
end Go.Bt.Pl
namespace Go.Bt.FG
open Go Go.Proofs Go.Proofs.Try
set_option maxRecDepth 20000
set_option maxHeartbeats 4000000
set_option linter.unusedSectionVars false
def encIt (x:Int×Int):List Value:=[.agg (EJ.enc x).toArray]
theorem takes_stop {go:List (Int×Int)→Bool} {acc l r:List (Int×Int)} (h:(takes go acc l).2=false):takes go acc (l++r)=takes go acc l:=by rw [takes_append,h];rfl
theorem takes_on {go:List (Int×Int)→Bool} {acc l r:List (Int×Int)} (h:(takes go acc l).2=true):takes go acc (l++r)=takes go (takes go acc l).1 r:=by rw [takes_append,h];rfl
end Go.Bt.FG
namespace Go.Bt.Pl
theorem inter_pre {α:Type}:∀(j:Nat) (X:List α) (K:List (List α)),K.length=X.length+1→j≤X.length→inter X K=pre (X.take j) (K.take j)++inter (X.drop j) (K.drop j)
 | 0,X,K,_,_=>by simp [pre]
 | j+1,[],_,_,h=>by simp at h
 | j+1,_::_,[],h,_=>by simp at h
 | j+1,x::X,k::K,hl,h=>by
  simp only [List.take_succ_cons,List.drop_succ_cons,pre,inter]
  rw [inter_pre j X K (by simpa using hl) (by simpa using h)]
  simp
end Go.Bt.Pl
namespace Go.Bt.FG
open Go Go.Proofs Go.Proofs.Try
set_option maxRecDepth 20000
set_option maxHeartbeats 4000000
set_option linter.unusedSectionVars false
section
variable [Inhabited Cx]
structure VPre {P':Program} {B:World} {g:FuncId} {us cs:List Value} {go:List (Int×Int)→Bool} {M:Nat} (cb:Cb P' B encIt g us cs go M) (H:Mem) (tr:Nat) (P:Ps) (h:Nat) (t:Gt EJ h) (bp op:Nat) (acc:List (Int×Int)) (Z:Nat→Prop):Prop where
 tc:TrC H tr P.iso P.mx P.mn
 g:Gt.Good H P h t
 cel:cl H bp op=some (ptr (Gt.p h t))
 nz:∀b o,Gt.af h t b o→¬Z b
 nb:∀b,Z b→¬(b<cx.base∧cx.own b)
 st:cb.T acc Z H
 len:acc.length+(Gt.L h t).length≤M
end
end Go.Bt.FG
namespace Go.Bt.FG
open Go Go.Proofs Go.Proofs.Try
set_option maxRecDepth 20000
set_option maxHeartbeats 4000000
set_option linter.unusedSectionVars false
theorem App.rp {H H':Mem} {b o len c m s:Nat} {xs news:List Value} {b' o' c':Nat} (ha:App H H' b o len c m s xs news b' o' c'):Fr (fun b1 _=>b1=b) H H'∧(b'=b∨H.size≤b'):=
 ⟨ha.fr.mono fun b1 o1 _ hz=>hz.1,by rcases ha.place with ⟨h,_⟩|⟨h,_⟩<;>omega⟩
structure TkT (b2 b3 D:Nat) (n:Int) (acc:List (Int×Int)) (Z:Nat→Prop) (H:Mem):Prop where
 c2:cl H b2 0=some (ptr D)
 c3:cl H b3 0=some (.int .i64 n)
 wr:Wr H D 0 1
 z2:Z b2
 z3:Z b3
 zD:Z D
 n2:b2≠D
 n3:b3≠D
 lt:∀b,Z b→b<H.size
 sl:(acc=[]∧cl H D 0=some (.slice none 0 0))∨∃b o c,cl H D 0=some (.slice (some ⟨b,o,none⟩) acc.length c)∧SlE EJ H b o c acc∧Z b∧b≠D∧b≠b2∧b≠b3
theorem TkT.fr {b2 b3 D:Nat} {n:Int} {acc:List (Int×Int)} {Z:Nat→Prop} {H H':Mem} {Y:Nat→Nat→Prop} (h:TkT b2 b3 D n acc Z H) (hf:Fr Y H H') (hy:∀b o,Z b→¬Y b o):TkT b2 b3 D n acc Z H' where
 c2:=hf.keep h.c2 (hy _ _ h.z2)
 c3:=hf.keep h.c3 (hy _ _ h.z3)
 wr:=hf.wr h.wr
 z2:=h.z2
 z3:=h.z3
 zD:=h.zD
 n2:=h.n2
 n3:=h.n3
 lt:=fun b hb=>Nat.lt_of_lt_of_le (h.lt b hb) hf.size
 sl:=h.sl.elim (fun ⟨e,k⟩=>.inl ⟨e,hf.keep k (hy _ _ h.zD)⟩) fun ⟨b,o,c,k,hs,hz,r⟩=>.inr ⟨b,o,c,hf.keep k (hy _ _ h.zD),hs.fr hf (fun i _ _=>hy _ _ hz),hz,r⟩
theorem taker1_spec {B:World} {H:Mem} {b2 b3 D:Nat} {n:Int} {acc:List (Int×Int)} {Z:Nat→Prop} {x:Int×Int} (hT:TkT b2 b3 D n acc Z H) (hl:acc.length<4294967296):
  Fn Try.prog B 80 [.agg (EJ.enc x).toArray,ptr b2,ptr b3] H (fun r H'=>r=.bool (goN n (acc++[x]))∧∃Z',TkT b2 b3 D n (acc++[x]) Z' H'∧Fr (fun b _=>Z b) H H'∧∀b,Z' b→Z b∨H.size≤b):=by
 unfold ptr
 refine fn_of func80 rfl ntmps80 ?_
 refine (show Go' _ _ _ _ 23 [(0,_),(1,_),(2,_)] [.code _] _ from ?_)
 refine Ut 1 rfl (Ur 2 2 rfl (O.box rfl rfl rfl rfl ?_))
 intro H1 M1
 refine ⟨trivial,?_⟩
 have hs1:=M1.size
 have mi:Rd H1 H.size 0 (EJ.enc x):=M1.rd _ [] (by simp [Value.cells])
 have hlt:=hT.lt
 replace hT:=hT.fr (M1.fr nowhere) (fun _ _ _=>nw)
 obtain ⟨c2,c3,hw,z2,z3,zD,n2,n3,lt,hsl⟩:=hT
 unfold ptr at c2
 have l2:=hlt _ z2
 have l3:=hlt _ z3
 have lD:=hlt _ zD
 refine Uf 1 [1,2,3,4] rfl (Ut 1 rfl ?_)
 have hacc1:(acc++[x]).length=acc.length+1:=by simp
 rcases hsl with ⟨rfl,cD⟩|⟨b,o,c,cD,hs,zb,nb,nb2,nb3⟩
 ·
  refine UD (fun H'=>cl H' b2 0=some (.pointer (some ⟨D,0,none⟩))∧cl H' D 0=some (.slice none 0 0)∧Rd H' H.size 0 (EJ.enc x)) 9 207104 (by kernel_rfl) (⟨c2,cD,mi⟩) (UL 0 rfl (fun _ h=>h.1) (UL 0 rfl (fun _ h=>h.1) (UL 1 rfl (fun _ h=>h.2.1) (Us 0 rfl mi rfl (O.bsl (cs:=(EJ.enc x)) rfl rfl rfl ⟨underlying25,sizeOf27,zeroValue27,⟨_,typeInfo27,rfl⟩,rfl,by decide,by decide⟩ rfl (by decide) (by kernel_rfl) ?_)))))
  intro H2 M2
  have hs2:=M2.size
  replace c2:=M2.keep c2
  replace c3:=M2.keep c3
  replace cD:=M2.keep cD
  replace mi:=(M2.fr nowhere).rd mi (fun _ _=>nw)
  replace hw:=(M2.fr nowhere).wr hw
  have m2:Rd H2 H1.size 0 (EJ.enc x):=M2.rd _ [] (by simp)
  refine ⟨⟨c2,cD,mi⟩,?_⟩
  refine O.appN (m:=1) (news:=(EJ.enc x)) rfl rfl rfl ⟨underlying25,sizeOf27,zeroValue27,⟨_,typeInfo27,rfl⟩,rfl,by decide,by decide⟩ rfl rfl ⟨_,_,_,rfl,m2⟩ rfl (Nat.le_trans (Nat.mul_le_mul_left _ (Nat.le_of_ble_eq_true (n:=_) (m:=4096) rfl)) (by omega)) (by omega) (by omega) ?_
  intro cc H3 hsl3 fa hs3
  replace c2:=fa.keep c2 nw
  replace c3:=fa.keep c3 nw
  replace cD:=fa.keep cD nw
  replace mi:=fa.rd mi (fun _ _=>nw)
  replace hw:=fa.wr hw
  refine ⟨⟨c2,cD,mi⟩,?_⟩
  refine Uq 1 rfl (O.st3 rfl rfl sizeOf25 rfl rfl rfl rfl rfl hw ?_)
  intro H4 W4
  have hs4:=W4.size
  replace c2:=W4.fr.keep c2 (nr (.inl n2))
  replace c3:=W4.fr.keep c3 (nr (.inl n3))
  replace hw:=W4.fr.wr hw
  clear cD
  have cD:=W4.at
  refine Uf 0 [1,2,4] rfl (Ut 1 rfl ?_)
  by_cases hn:n<1
  ·
   refine Ud 11 17473 (by kernel_rfl) (Ul 0 rfl c3 (Uc 0 rfl (lssT (by omega)) (Uf 9 [4] rfl (Go'.ret (vs:=[_]) func80 results80 ⟨rfl,trivial⟩ ?_))))
   exact ⟨by unfold goN;rw [decide_eq_true hn];rfl,fun b=>Z b∨(H.size≤b∧b<H4.size),⟨c2,c3,hw,.inl z2,.inl z3,.inl zD,n2,n3,fun b hb=>hb.elim (fun h=>by have:=hlt b h;omega) (fun h=>h.2),.inr ⟨H2.size,0,cc,cD,(SlE.of (l:=[x]) hsl3 (by rw [row_one]) rfl).fr W4.fr (fun _ _ _=>nr (.inl (by omega))),.inr (by omega),by omega,by omega,by omega⟩⟩,(((M1.fr nowhere).trans (M2.fr nowhere)).trans fa).trans' W4.fr (fun _ _ _ h=>h.elim) (fun b o _ hz=>by rw [hz.1];exact zD),fun b hb=>hb.imp id (fun h=>h.1)⟩
  ·
   by_cases hn2:(1:Int)<n
   ·
    refine Ud 11 17473 (by kernel_rfl) (Ul 0 rfl c3 (Uc 0 rfl (lssF (by omega)) (Ul 1 rfl c2 (Ul 1 rfl cD (Ul 1 rfl c3 (Uc 0 rfl (lssT (by omega)) (Uf 2 [4] rfl (Go'.ret (vs:=[_]) func80 results80 ⟨rfl,trivial⟩ ?_))))))))
    exact ⟨by unfold goN;rw [decide_eq_false hn,hacc1];rw [decide_eq_true (by simpa using hn2)];rfl,fun b=>Z b∨(H.size≤b∧b<H4.size),⟨c2,c3,hw,.inl z2,.inl z3,.inl zD,n2,n3,fun b hb=>hb.elim (fun h=>by have:=hlt b h;omega) (fun h=>h.2),.inr ⟨H2.size,0,cc,cD,(SlE.of (l:=[x]) hsl3 (by rw [row_one]) rfl).fr W4.fr (fun _ _ _=>nr (.inl (by omega))),.inr (by omega),by omega,by omega,by omega⟩⟩,(((M1.fr nowhere).trans (M2.fr nowhere)).trans fa).trans' W4.fr (fun _ _ _ h=>h.elim) (fun b o _ hz=>by rw [hz.1];exact zD),fun b hb=>hb.imp id (fun h=>h.1)⟩
   ·
    refine Ud 11 17473 (by kernel_rfl) (Ul 0 rfl c3 (Uc 0 rfl (lssF (by omega)) (Ul 1 rfl c2 (Ul 1 rfl cD (Ul 1 rfl c3 (Uc 0 rfl (lssF (by omega)) (Uf 2 [4] rfl (Go'.ret (vs:=[_]) func80 results80 ⟨rfl,trivial⟩ ?_))))))))
    exact ⟨by unfold goN;rw [decide_eq_false hn,hacc1];rw [decide_eq_false (by simpa using hn2)];rfl,fun b=>Z b∨(H.size≤b∧b<H4.size),⟨c2,c3,hw,.inl z2,.inl z3,.inl zD,n2,n3,fun b hb=>hb.elim (fun h=>by have:=hlt b h;omega) (fun h=>h.2),.inr ⟨H2.size,0,cc,cD,(SlE.of (l:=[x]) hsl3 (by rw [row_one]) rfl).fr W4.fr (fun _ _ _=>nr (.inl (by omega))),.inr (by omega),by omega,by omega,by omega⟩⟩,(((M1.fr nowhere).trans (M2.fr nowhere)).trans fa).trans' W4.fr (fun _ _ _ h=>h.elim) (fun b o _ hz=>by rw [hz.1];exact zD),fun b hb=>hb.imp id (fun h=>h.1)⟩
 ·
  have lb:=hlt _ zb
  refine UD (fun H'=>cl H' b2 0=some (.pointer (some ⟨D,0,none⟩))∧cl H' D 0=some (.slice (some ⟨b,o,none⟩) acc.length c)∧Rd H' H.size 0 (EJ.enc x)) 9 207104 (by kernel_rfl) (⟨c2,cD,mi⟩) (UL 0 rfl (fun _ h=>h.1) (UL 0 rfl (fun _ h=>h.1) (UL 1 rfl (fun _ h=>h.2.1) (Us 0 rfl mi rfl (O.bsl (cs:=(EJ.enc x)) rfl rfl rfl ⟨underlying25,sizeOf27,zeroValue27,⟨_,typeInfo27,rfl⟩,rfl,by decide,by decide⟩ rfl (by decide) (by kernel_rfl) ?_)))))
  intro H2 M2
  have hs2:=M2.size
  replace c2:=M2.keep c2
  replace c3:=M2.keep c3
  replace cD:=M2.keep cD
  replace mi:=(M2.fr nowhere).rd mi (fun _ _=>nw)
  replace hw:=(M2.fr nowhere).wr hw
  have m2:Rd H2 H1.size 0 (EJ.enc x):=M2.rd _ [] (by simp)
  replace hs:=hs.fr (M2.fr nowhere) (fun _ _ _=>nw)
  refine ⟨⟨c2,cD,mi⟩,?_⟩
  refine O.app (m:=1) (news:=(EJ.enc x)) rfl rfl rfl ⟨underlying25,sizeOf27,zeroValue27,⟨_,typeInfo27,rfl⟩,rfl,by decide,by decide⟩ rfl hs rfl (.inl ⟨_,_,_,rfl,m2⟩) rfl rfl (Nat.le_trans (Nat.mul_le_mul_left _ (Nat.le_of_ble_eq_true (n:=_) (m:=4096) rfl)) (by omega)) (by omega) ?_
  intro bb oo cc H3 ha
  obtain ⟨fa,pa⟩:=(App.rp ha)
  have hs3:=fa.size
  have hsl3:=SlE.app (E:=EJ) ha
  have hbb:bb<H3.size:=Sl.lt hsl3 (by have:=hsl3.hle;rw [hacc1] at this;exact Nat.mul_pos (by omega) EJ.pos)
  replace c2:=fa.keep c2 (fun e=>nb2 e.symm)
  replace c3:=fa.keep c3 (fun e=>nb3 e.symm)
  replace cD:=fa.keep cD (fun e=>nb e.symm)
  replace mi:=fa.rd mi (fun _ _ e=>by have e':H.size=b:=e;omega)
  replace hw:=fa.wr hw
  refine ⟨⟨c2,cD,mi⟩,?_⟩
  refine Uq 1 rfl (O.st3 rfl rfl sizeOf25 rfl rfl rfl rfl rfl hw ?_)
  intro H4 W4
  have hs4:=W4.size
  replace c2:=W4.fr.keep c2 (nr (.inl n2))
  replace c3:=W4.fr.keep c3 (nr (.inl n3))
  replace hw:=W4.fr.wr hw
  clear cD
  have cD:=W4.at
  refine Uf 0 [1,2,4] rfl (Ut 1 rfl ?_)
  by_cases hn:n<1
  ·
   refine Ud 11 17473 (by kernel_rfl) (Ul 0 rfl c3 (Uc 0 rfl (lssT (by omega)) (Uf 9 [4] rfl (Go'.ret (vs:=[_]) func80 results80 ⟨rfl,trivial⟩ ?_))))
   exact ⟨by unfold goN;rw [decide_eq_true hn];rfl,fun b=>Z b∨(H.size≤b∧b<H4.size),⟨c2,c3,hw,.inl z2,.inl z3,.inl zD,n2,n3,fun b hb=>hb.elim (fun h=>by have:=hlt b h;omega) (fun h=>h.2),.inr ⟨bb,oo,cc,by rw [hacc1];exact cD,hsl3.fr W4.fr (fun _ _ _=>nr (.inl (by omega))),(by rcases pa with h|h;exact .inl (h▸zb);exact .inr (by omega)),by omega,by omega,by omega⟩⟩,(((M1.fr nowhere).trans (M2.fr nowhere)).trans' fa (Z:=fun b _=>Z b) (fun _ _ _ h=>h.elim) (fun y o _ hz=>by have hz':y=b:=hz;rw [hz'];exact zb)).trans' W4.fr (fun _ _ _ h=>h) (fun b o _ hz=>by rw [hz.1];exact zD),fun b hb=>hb.imp id (fun h=>h.1)⟩
  ·
   by_cases hn2:((acc.length+1:Nat):Int)<n
   ·
    refine Ud 11 17473 (by kernel_rfl) (Ul 0 rfl c3 (Uc 0 rfl (lssF (by omega)) (Ul 1 rfl c2 (Ul 1 rfl cD (Ul 1 rfl c3 (Uc 0 rfl (lssT (by omega)) (Uf 2 [4] rfl (Go'.ret (vs:=[_]) func80 results80 ⟨rfl,trivial⟩ ?_))))))))
    exact ⟨by unfold goN;rw [decide_eq_false hn,hacc1];rw [decide_eq_true (by simpa using hn2)];rfl,fun b=>Z b∨(H.size≤b∧b<H4.size),⟨c2,c3,hw,.inl z2,.inl z3,.inl zD,n2,n3,fun b hb=>hb.elim (fun h=>by have:=hlt b h;omega) (fun h=>h.2),.inr ⟨bb,oo,cc,by rw [hacc1];exact cD,hsl3.fr W4.fr (fun _ _ _=>nr (.inl (by omega))),(by rcases pa with h|h;exact .inl (h▸zb);exact .inr (by omega)),by omega,by omega,by omega⟩⟩,(((M1.fr nowhere).trans (M2.fr nowhere)).trans' fa (Z:=fun b _=>Z b) (fun _ _ _ h=>h.elim) (fun y o _ hz=>by have hz':y=b:=hz;rw [hz'];exact zb)).trans' W4.fr (fun _ _ _ h=>h) (fun b o _ hz=>by rw [hz.1];exact zD),fun b hb=>hb.imp id (fun h=>h.1)⟩
   ·
    refine Ud 11 17473 (by kernel_rfl) (Ul 0 rfl c3 (Uc 0 rfl (lssF (by omega)) (Ul 1 rfl c2 (Ul 1 rfl cD (Ul 1 rfl c3 (Uc 0 rfl (lssF (by omega)) (Uf 2 [4] rfl (Go'.ret (vs:=[_]) func80 results80 ⟨rfl,trivial⟩ ?_))))))))
    exact ⟨by unfold goN;rw [decide_eq_false hn,hacc1];rw [decide_eq_false (by simpa using hn2)];rfl,fun b=>Z b∨(H.size≤b∧b<H4.size),⟨c2,c3,hw,.inl z2,.inl z3,.inl zD,n2,n3,fun b hb=>hb.elim (fun h=>by have:=hlt b h;omega) (fun h=>h.2),.inr ⟨bb,oo,cc,by rw [hacc1];exact cD,hsl3.fr W4.fr (fun _ _ _=>nr (.inl (by omega))),(by rcases pa with h|h;exact .inl (h▸zb);exact .inr (by omega)),by omega,by omega,by omega⟩⟩,(((M1.fr nowhere).trans (M2.fr nowhere)).trans' fa (Z:=fun b _=>Z b) (fun _ _ _ h=>h.elim) (fun y o _ hz=>by have hz':y=b:=hz;rw [hz'];exact zb)).trans' W4.fr (fun _ _ _ h=>h) (fun b o _ hz=>by rw [hz.1];exact zD),fun b hb=>hb.imp id (fun h=>h.1)⟩
theorem TkT.out {b2 b3 D:Nat} {n:Int} {acc:List (Int×Int)} {Z:Nat→Prop} {H:Mem} (h:TkT b2 b3 D n acc Z H):∃v,cl H D 0=some v∧OutS EJ H v acc:=by
 rcases h.sl with ⟨e,k⟩|⟨b,o,c,k,hs,_⟩
 · exact ⟨_,k,.inl ⟨rfl,e⟩⟩
 · exact ⟨_,k,.inr ⟨b,o,c,rfl,hs⟩⟩
def cbTk (B:World) (b2 b3 D:Nat) (n:Int):Cb Try.prog B encIt 80 [] [ptr b2,ptr b3] (goN n) 4294967296 where
 T:=TkT b2 b3 D n
 fr:=fun h hf hz=>h.fr hf hz
 lt:=fun h hb=>h.lt _ hb
 call:=fun x hT hl=>taker1_spec hT hl
theorem taker_spec {B:World} {H:Mem} {D:Nat} {n:Int} (hD:cl H D 0=some (.slice none 0 0)) (hw:Wr H D 0 1):
  Fn Try.prog B 55 [ptr D,.int .i64 n] H (fun r H'=>∃b2 b3,r=.func (.func 80) #[] #[ptr b2,ptr b3]∧TkT b2 b3 D n [] (fun b=>b=D∨(H.size≤b∧b<H'.size)) H'∧Fr nowhere H H'):=by
 have hDl:=cl_lt hD
 unfold ptr
 refine fn_of func55 rfl ntmps55 ?_
 refine (show Go' _ _ _ _ 6 [(0,_),(1,_)] [.code _] _ from ?_)
 refine Ut 1 rfl (Ur 3 10 rfl (O.box rfl rfl rfl rfl ?_))
 intro H1 M1
 refine ⟨trivial,?_⟩
 have hs1:=M1.size
 replace hD:=M1.keep hD
 replace hw:=(M1.fr nowhere).wr hw
 have c2:cl H1 H.size 0=some (ptr D):=(M1.cl 0).trans rfl
 refine O.box rfl rfl rfl rfl ?_
 intro H2 M2
 refine ⟨trivial,?_⟩
 have hs2:=M2.size
 replace hD:=M2.keep hD
 replace hw:=(M2.fr nowhere).wr hw
 replace c2:=M2.keep c2
 have c3:cl H2 H1.size 0=some (.int .i64 n):=(M2.cl 0).trans rfl
 refine Uf 1 [2,3,4] rfl (Ut 1 rfl (Ur 2 0 rfl (O.mkf rfl rfl rfl rfl rfl rfl (Uf 1 [4] rfl (Go'.ret (vs:=[_]) func55 results55 ⟨rfl,trivial⟩ ?_)))))
 exact ⟨H.size,H1.size,rfl,⟨c2,c3,hw,.inr (by omega),.inr (by omega),.inl rfl,by omega,by omega,fun b hb=>hb.elim (fun h=>by omega) (fun h=>h.2),.inl ⟨rfl,hD⟩⟩,(M1.fr nowhere).trans (M2.fr nowhere)⟩
end Go.Bt.FG
namespace Go.Bt.FG
open Go Go.Proofs Go.Proofs.Try
set_option maxRecDepth 20000
set_option maxHeartbeats 4000000
set_option linter.unusedSectionVars false
section
variable [Inhabited Cx]
structure EPre {B:World} {g:FuncId} {us cs:List Value} {go:List (Int×Int)→Bool} {M:Nat} (cb:Cb Try.prog B encIt g us cs go M) (H:Mem) (P:Ps) (h:Nat) (t:Gt EJ h) (acc:List (Int×Int)) (Z:Nat→Prop):Prop where
 g:Gt.Good H P h t
 nz:∀b o,Gt.af h t b o→¬Z b
 st:cb.T acc Z H
 len:acc.length+(Gt.L h t).length≤M
theorem enscan0 {B:World} {g:FuncId} {us cs:List Value} {go:List (Int×Int)→Bool} {M:Nat} (cb:Cb Try.prog B encIt g us cs go M) (hcall:∀(args:Array Value) (w:World),(callFunc g args).run Try.prog w=.ok (.enter g args) w) {P:Ps} (hP:PsOk P) {H:Mem} {acc:List (Int×Int)} {Z:Nat→Prop} {t:Gt EJ 0} (hp:EPre cb H P 0 t acc Z):
  Fn Try.prog B 78 [.pointer (some ⟨Gt.p 0 t,0,none⟩),.func (.func g) us.toArray cs.toArray] H (fun r H'=>r=.bool (takes go acc (Gt.L 0 t)).2∧CbPost cb acc Z H (Gt.L 0 t) H'):=by
 obtain ⟨gg,X⟩:=t
 obtain ⟨hg,hnz,hst,hlen⟩:=hp
 have hN:NodeM EJ H gg X (.pointer none):=hg.1
 have hxm:X.length≤P.mx:=hg.2.2.2
 have hx255:=hP.hx
 replace hlen:acc.length+X.length≤M:=hlen
 show Fn _ _ _ [.pointer (some ⟨gg.p,0,none⟩),.func (.func g) us.toArray cs.toArray] _ (fun r H'=>r=.bool (takes go acc X).2∧CbPost cb acc Z H X H')
 refine fn_of func78 rfl ntmps78 ?_
 refine (show Go' _ _ _ _ 77 [(0,_),(1,_)] [.code _] _ from ?_)
 refine Ut 1 rfl (Ur 1 0 rfl (Uf 1 [0,1,4] rfl (Ut 2 rfl (Ur 2 8 rfl (Uq 1 rfl (O.callQ rfl rfl rfl call62 rfl (leaf_spec hN.c3) trivial (Uf 0 [0,1,4,8] rfl (Go'.condT rfl (Ut 2 rfl (Ur 1 0 rfl (Uf 1 [0,1,4,5] rfl ?_)))))))))))
 refine Ut 1 rfl (Go'.loop (Uk [0,1,4,5] rfl ?_))
 refine Go'.ind (σ:=Nat×(Nat→Prop)) (fun s=>X.length-s.1) (fun s H'=>s.1≤X.length∧(takes go acc (X.take s.1)).2=true∧cb.T (takes go acc (X.take s.1)).1 s.2 H'∧Fr (fun b _=>Z b) H H'∧∀b,s.2 b→Z b∨H.size≤b)
  (fun s=>[(0,.pointer (some ⟨gg.p,0,none⟩)),(1,.func (.func g) us.toArray cs.toArray),(4,.bool false),(5,.int .i64 (s.1:Int))]) (0,Z) ⟨Nat.zero_le _,by simp [takes],by simpa [takes] using hst,Fr.refl _ _,fun b hb=>.inl hb⟩ rfl ?_
 rintro ⟨j,Z1⟩ H2 ⟨hj,htk,hT,hF,hZ1⟩ ih
 simp only at hj htk hT hZ1
 replace hN:=NodeM.fr EJ hN hF (fun x y hxy hz=>hnz x y hxy hz)
 refine Ut 2 rfl ?_
 by_cases hlt:j<X.length
 ·
  obtain ⟨y,hy⟩:∃y,X[j]?=some y:=⟨X[j],List.getElem?_eq_getElem hlt⟩
  have hd:X.take (j+1)=X.take j++[y]:=by rw [List.take_add_one,hy];rfl
  have hall:X=X.take (j+1)++X.drop (j+1):=(List.take_append_drop _ _).symm
  have htl:=takes_length go (X.take j) acc
  rw [List.length_take] at htl
  have e1:takes go acc (X.take (j+1))=takes go (takes go acc (X.take j)).1 [y]:=by rw [hd,takes_on htk]
  generalize hA:(takes go acc (X.take j)).1=A at*
  refine Ur 7 256 rfl (Ul 4 rfl hN.c2 (Uc 1 rfl (lssT (by omega)) (Uf 0 [0,1,4,5,15] rfl (Go'.condT rfl (Ut 4 rfl ?_)))))
  cases hgo:go (A++[y])
  ·
   refine Ur 10 147712 rfl (Ul 4 rfl hN.c2 (Ux 1 j rfl (by omega) (by omega) (Us 0 rfl (hN.sl.item hy) rfl (O.callC rfl rfl rfl rfl hcall rfl (cb.call y hT (by omega)) ?_))))
   rintro _ H3 ⟨rfl,Z2,hT2,hF2,hZ2⟩
   rw [hgo]
   have hsz:=hF.size
   refine ⟨trivial,?_⟩
   refine Uf 1 [0,1,4,5,15,27] rfl (Go'.condT rfl (Ut 1 rfl (Ur 1 0 rfl (Uf 1 [0,1,4,5,15,27] rfl (Go'.ret (vs:=[_]) func78 results78 ⟨rfl,trivial⟩ ?_)))))
   have e2:takes go acc (X.take (j+1))=(A++[y],false):=by rw [e1];simp [takes,hgo]
   have e3:takes go acc X=(A++[y],false):=by rw [hall,takes_stop (by rw [e2]),e2]
   refine ⟨by rw [e3];rfl,Z2,by rw [e3];exact hT2,hF.trans' hF2 (fun _ _ _ h=>h) (fun b o hb hz=>(hZ1 b hz).elim id (fun h=>by omega)),fun b hb=>(hZ2 b hb).elim (hZ1 b) (fun h=>.inr (by omega))⟩
  ·
   refine Ur 10 147712 rfl (Ul 4 rfl hN.c2 (Ux 1 j rfl (by omega) (by omega) (Us 0 rfl (hN.sl.item hy) rfl (O.callC rfl rfl rfl rfl hcall rfl (cb.call y hT (by omega)) ?_))))
   rintro _ H3 ⟨rfl,Z2,hT2,hF2,hZ2⟩
   rw [hgo]
   have hsz:=hF.size
   refine ⟨trivial,?_⟩
   refine Uf 1 [0,1,4,5,15,27] rfl (Go'.condF rfl (Ut 2 rfl (Ur 3 0 rfl (Ua 1 (((j+1:Nat):Int)) rfl (by omega) (Uf 1 [0,1,4,5,15,27] rfl (Uk [0,1,4,5] rfl (Go'.inLoop ?_)))))))
   have e2:takes go acc (X.take (j+1))=(A++[y],true):=by rw [e1];simp [takes,hgo]
   exact ih (j+1,Z2) H3 ⟨by simp only;omega,by rw [e2],by rw [e2];exact hT2,hF.trans' hF2 (fun _ _ _ h=>h) (fun b o hb hz=>(hZ1 b hz).elim id (fun h=>by omega)),fun b hb=>(hZ2 b hb).elim (hZ1 b) (fun h=>.inr (by omega))⟩ (by simp only;omega)
 ·
  obtain rfl:j=X.length:=by omega
  refine Ur 7 256 rfl (Ul 4 rfl hN.c2 (Uc 1 rfl (lssF (by omega)) (Uf 0 [0,1,4,5,15] rfl (Go'.condF rfl (Ut 2 rfl (Ur 1 0 rfl (Uf 1 [0,1,4] rfl (Go'.ret (vs:=[_]) func78 results78 ⟨rfl,trivial⟩ ?_))))))))
  rw [List.take_length] at htk hT
  exact ⟨by rw [htk];rfl,Z1,hT,hF,hZ1⟩
theorem enscan {B:World} {g:FuncId} {us cs:List Value} {go:List (Int×Int)→Bool} {M:Nat} (cb:Cb Try.prog B encIt g us cs go M) (hcall:∀(args:Array Value) (w:World),(callFunc g args).run Try.prog w=.ok (.enter g args) w) {P:Ps} (hP:PsOk P):∀(h:Nat) {H:Mem} {acc:List (Int×Int)} {Z:Nat→Prop} {t:Gt EJ h},EPre cb H P h t acc Z→
  Fn Try.prog B 78 [.pointer (some ⟨Gt.p h t,0,none⟩),.func (.func g) us.toArray cs.toArray] H (fun r H'=>r=.bool (takes go acc (Gt.L h t)).2∧CbPost cb acc Z H (Gt.L h t) H')
 | 0,_,_,_,_,hp=>enscan0 cb hcall hP hp
 | h+1,H,acc,Z,(gg,X,K),hp=>by
  have ih:=@enscan B g us cs go M cb hcall P hP h
  obtain ⟨hg,hnz,hst,hlen⟩:=hp
  have hI:Inn H P h gg X ((Gt.ps h K).map some) K:=hg.inn
  have hKl:K.length=X.length+1:=hg.2.2.2.2.2.1
  have hxm:X.length≤P.mx:=hg.2.2.2.2.1
  have hx255:=hP.hx
  have hKL:(K.map (Gt.L h)).length=X.length+1:=by rw [List.length_map];exact hKl
  have hol:((Gt.ps h K).map some).length=X.length+1:=by rw [List.length_map,Gt.ps,List.length_map];exact hKl
  replace hlen:acc.length+(Pl.inter X (K.map (Gt.L h))).length≤M:=hlen
  have hlt:∀x y,innc h gg K x y→x<H.size:=fun x y hb=>hI.lt hb
  have hin:∀H',Fr (fun x _=>Z x) H H'→Inn H' P h gg X ((Gt.ps h K).map some) K:=fun H' hf=>hI.fr hf (fun x y hxy hz=>hnz x y hxy hz)
  have hkid:∀{H2:Mem} {Z1:Nat→Prop} {A:List (Int×Int)} {j:Nat} {k:Gt EJ h},K[j]?=some k→Fr (fun x _=>Z x) H H2→cb.T A Z1 H2→(∀b,Z1 b→Z b∨H.size≤b)→A.length+(Gt.L h k).length≤M→EPre cb H2 P h k A Z1:=by
   intro H2 Z1 A j k hkk hF hT hZ1 hA
   have hkK:k∈K:=List.mem_of_getElem? hkk
   have hI2:=hin H2 hF
   exact ⟨(hI2.c.1 k hkK).1,fun b o hb hz=>(hZ1 b hz).elim (fun hz=>hnz b o (.inr (.inr ⟨k,hkK,hb⟩)) hz) (fun hz=>by have:=hlt b o (.inr (.inr ⟨k,hkK,hb⟩));omega),hT,hA⟩
  have hcat:∀{Z1 Z2:Nat→Prop} {H2 H3:Mem},Fr (fun x _=>Z x) H H2→(∀b,Z1 b→Z b∨H.size≤b)→Fr (fun x _=>Z1 x) H2 H3→(∀b,Z2 b→Z1 b∨H2.size≤b)→Fr (fun x _=>Z x) H H3∧∀b,Z2 b→Z b∨H.size≤b:=by
   intro Z1 Z2 H2 H3 hF hZ1 hF2 hZ2
   have:=hF.size
   exact ⟨hF.trans' hF2 (fun _ _ _ h=>h) (fun b o hb hz=>(hZ1 b hz).elim id (fun h=>by omega)),fun b hb=>(hZ2 b hb).elim (hZ1 b) (fun h=>.inr (by omega))⟩
  obtain ⟨kn,hkn⟩:∃k,K[X.length]?=some k:=⟨K[X.length],List.getElem?_eq_getElem (by omega)⟩
  have hknL:(K.map (Gt.L h))[X.length]?=some (Gt.L h kn):=by rw [List.getElem?_map,hkn];rfl
  have hLn:Pl.inter X (K.map (Gt.L h))=Pl.pre X ((K.map (Gt.L h)).take X.length)++Gt.L h kn:=Pl.inter_last hKL hknL
  have hlast:Pl.inter (X.drop X.length) ((K.map (Gt.L h)).drop X.length)=Gt.L h kn:=by
   obtain ⟨h1,h2⟩:=List.getElem?_eq_some_iff.1 hknL
   rw [List.drop_length,←List.getElem_cons_drop (h:=h1),h2,List.drop_of_length_le (by omega)];rfl
  show Fn _ _ _ [.pointer (some ⟨gg.p,0,none⟩),.func (.func g) us.toArray cs.toArray] _ (fun r H'=>r=.bool (takes go acc (Pl.inter X (K.map (Gt.L h)))).2∧CbPost cb acc Z H (Pl.inter X (K.map (Gt.L h))) H')
  have hlenn:acc.length+(Gt.L h kn).length≤M:=by rw [hLn,List.length_append] at hlen;omega
  have hN:=hI.n
  have hk0:=hI.k
  refine fn_of func78 rfl ntmps78 ?_
  refine (show Go' _ _ _ _ 77 [(0,_),(1,_)] [.code _] _ from ?_)
  refine Ut 1 rfl (Ur 1 0 rfl (Uf 1 [0,1,4] rfl (Ut 2 rfl (Ur 2 8 rfl (Uq 1 rfl (O.callQ rfl rfl rfl call62 rfl (leaf_spec hI.n.c3) trivial (Uf 0 [0,1,4,8] rfl (Go'.condF rfl (Ut 3 rfl (Ur 1 0 rfl (Uf 1 [0,1,4,6] rfl ?_)))))))))))
  refine Ut 1 rfl (Go'.loop (Uk [0,1,4,6] rfl ?_))
  refine Go'.ind (σ:=Nat×(Nat→Prop)) (fun s=>X.length-s.1) (fun s H'=>s.1≤X.length∧(takes go acc (Pl.pre (X.take s.1) ((K.map (Gt.L h)).take s.1))).2=true∧cb.T (takes go acc (Pl.pre (X.take s.1) ((K.map (Gt.L h)).take s.1))).1 s.2 H'∧Fr (fun b _=>Z b) H H'∧∀b,s.2 b→Z b∨H.size≤b)
   (fun s=>[(0,.pointer (some ⟨gg.p,0,none⟩)),(1,.func (.func g) us.toArray cs.toArray),(4,.bool false),(6,.int .i64 (s.1:Int))]) (0,Z) ⟨Nat.zero_le _,by simp [takes,Pl.pre],by simpa [takes,Pl.pre] using hst,Fr.refl _ _,fun b hb=>.inl hb⟩ rfl ?_
  rintro ⟨j,Z1⟩ H3 ⟨hj,htk,hT,hF,hZ1⟩ ih2
  simp only at hj htk hT hZ1
  have hI3:=hin H3 hF
  obtain ⟨k,hkk⟩:∃k,K[j]?=some k:=⟨K[j],List.getElem?_eq_getElem (by omega)⟩
  have hkL:(K.map (Gt.L h))[j]?=some (Gt.L h k):=by rw [List.getElem?_map,hkk];rfl
  have hok:((Gt.ps h K).map some)[j]?=some (some (Gt.p h k)):=by rw [Gt.ps,List.map_map,List.getElem?_map,hkk];rfl
  have hall:=Pl.inter_pre j X (K.map (Gt.L h)) hKL hj
  have htl:=takes_length go (Pl.pre (X.take j) ((K.map (Gt.L h)).take j)) acc
  refine Ut 2 rfl ?_
  by_cases hlt2:j<X.length
  ·
   obtain ⟨y,hy⟩:∃y,X[j]?=some y:=⟨X[j],List.getElem?_eq_getElem hlt2⟩
   rw [Pl.inter_drop1 hy hkL] at hall
   have e1:X.take (j+1)=X.take j++[y]:=by rw [List.take_add_one,hy];rfl
   have e2:(K.map (Gt.L h)).take (j+1)=(K.map (Gt.L h)).take j++[Gt.L h k]:=by rw [List.take_add_one,hkL];rfl
   have hsn:Pl.pre (X.take (j+1)) ((K.map (Gt.L h)).take (j+1))=Pl.pre (X.take j) ((K.map (Gt.L h)).take j)++(Gt.L h k++[y]):=by rw [e1,e2,Pl.pre_snoc _ _ _ _ (by rw [List.length_take,List.length_take];omega)]
   have hlen2:=congrArg List.length hall
   simp only [List.length_append,List.length_cons] at hlen2
   have t1:=takes_on (r:=Gt.L h k++y::Pl.inter (X.drop (j+1)) ((K.map (Gt.L h)).drop (j+1))) htk
   have t2:=takes_on (r:=Gt.L h k++[y]) htk
   rw [←hall] at t1
   rw [←hsn] at t2
   generalize hA:(takes go acc (Pl.pre (X.take j) ((K.map (Gt.L h)).take j))).1=A at*
   refine Ur 7 256 rfl (Ul 4 rfl hI3.n.c2 (Uc 1 rfl (lssT (by omega)) (Uf 0 [0,1,4,6,34] rfl (Go'.condT rfl (Ut 5 rfl (Ur 12 2163776 rfl (Ul 3 rfl hI3.n.c3 (Ul 1 rfl hI3.k.c (Ux 1 j rfl (by omega) (by rw [hol];omega) (Ul 0 rfl (hI3.k.at hok) (Uq 1 rfl ?_)))))))))))
   refine O.call rfl rfl rfl call78 rfl (ih (hkid hkk hF hT hZ1 (by omega))) ?_
   rintro _ H4 ⟨rfl,Z4,hT4,hF4,hZ4⟩
   obtain ⟨hF5,hZ5⟩:=hcat hF hZ1 hF4 hZ4
   refine ⟨trivial,?_⟩
   refine Uf 1 [0,1,4,6,34,48] rfl ?_
   cases htk2:(takes go A (Gt.L h k)).2
   ·
    refine Go'.condT rfl (Ut 1 rfl (Ur 1 0 rfl (Uf 1 [0,1,4,6,34,48] rfl (Go'.ret (vs:=[_]) func78 results78 ⟨rfl,trivial⟩ ?_))))
    rw [takes_stop htk2] at t1
    unfold CbPost
    rw [t1]
    exact ⟨by rw [htk2];rfl,Z4,hT4,hF5,hZ5⟩
   ·
    refine Go'.condF rfl (Ut 2 rfl ?_)
    rw [takes_on htk2] at t1 t2
    have htl2:=takes_length go (Gt.L h k) A
    have hI4:=hin H4 hF5
    generalize hA2:(takes go A (Gt.L h k)).1=A2 at*
    cases hgo:go (A2++[y])
    ·
     refine Ur 10 147712 rfl (Ul 4 rfl hI4.n.c2 (Ux 1 j rfl (by omega) (by omega) (Us 0 rfl (hI4.n.sl.item hy) rfl (O.callC rfl rfl rfl rfl hcall rfl (cb.call y hT4 (by omega)) ?_))))
     rintro _ H6 ⟨rfl,Z6,hT6,hF6,hZ6⟩
     rw [hgo]
     obtain ⟨hF7,hZ7⟩:=hcat hF5 hZ5 hF6 hZ6
     refine ⟨trivial,?_⟩
     refine Uf 1 [0,1,4,6,34,48,58] rfl (Go'.condT rfl (Ut 1 rfl (Ur 1 0 rfl (Uf 1 [0,1,4,6,34,48,58] rfl (Go'.ret (vs:=[_]) func78 results78 ⟨rfl,trivial⟩ ?_)))))
     have e3:takes go acc (Pl.inter X (K.map (Gt.L h)))=(A2++[y],false):=by rw [t1];simp [takes,hgo]
     unfold CbPost
     rw [e3]
     exact ⟨rfl,Z6,hT6,hF7,hZ7⟩
    ·
     refine Ur 10 147712 rfl (Ul 4 rfl hI4.n.c2 (Ux 1 j rfl (by omega) (by omega) (Us 0 rfl (hI4.n.sl.item hy) rfl (O.callC rfl rfl rfl rfl hcall rfl (cb.call y hT4 (by omega)) ?_))))
     rintro _ H6 ⟨rfl,Z6,hT6,hF6,hZ6⟩
     rw [hgo]
     obtain ⟨hF7,hZ7⟩:=hcat hF5 hZ5 hF6 hZ6
     refine ⟨trivial,?_⟩
     refine Uf 1 [0,1,4,6,34,48,58] rfl (Go'.condF rfl (Ut 2 rfl (Ur 3 0 rfl (Ua 1 (((j+1:Nat):Int)) rfl (by omega) (Uf 1 [0,1,4,6,34,48,58] rfl (Uk [0,1,4,6] rfl (Go'.inLoop ?_)))))))
     have e3:takes go acc (Pl.pre (X.take (j+1)) ((K.map (Gt.L h)).take (j+1)))=(A2++[y],true):=by rw [t2];simp [takes,hgo]
     exact ih2 (j+1,Z6) H6 ⟨hlt2,by rw [e3],by rw [e3];exact hT6,hF7,hZ7⟩ (by simp only;omega)
  ·
   obtain rfl:j=X.length:=by omega
   rw [hlast] at hall
   have hlen2:=congrArg List.length hall
   simp only [List.length_append] at hlen2
   have t1:=takes_on (r:=Gt.L h k) htk
   obtain rfl:kn=k:=Option.some.inj (hkn.symm.trans hkk)
   rw [←hall] at t1
   refine Ur 7 256 rfl (Ul 4 rfl hI3.n.c2 (Uc 1 rfl (lssF (by omega)) (Uf 0 [0,1,4,6,34] rfl (Go'.condF rfl (Ut 2 rfl (Ud 19 35437937728 (by kernel_rfl) (Ul 3 rfl hI3.n.c3 (Ul 1 rfl hI3.k.c (Ul 3 rfl hI3.n.c3 (Ul 1 rfl hI3.k.c (Ub 1 (((X.length:Nat):Int)) rfl (by omega) ?_)))))))))))
   refine Ux 0 (X.length) rfl (by omega) (by rw [hol];omega) (Ul 0 rfl (hI3.k.at hok) (Uq 1 rfl (O.call rfl rfl rfl call78 rfl (ih (hkid hkk hF hT hZ1 (by omega))) ?_)))
   rintro _ H4 ⟨rfl,Z4,hT4,hF4,hZ4⟩
   obtain ⟨hF5,hZ5⟩:=hcat hF hZ1 hF4 hZ4
   refine ⟨trivial,?_⟩
   refine Uf 1 [4] rfl (Go'.ret (vs:=[_]) func78 results78 ⟨rfl,trivial⟩ ?_)
   unfold CbPost
   rw [t1]
   exact ⟨rfl,Z4,hT4,hF5,hZ5⟩
end
end Go.Bt.FG
namespace Go.Bt.FG
open Go Go.Proofs Go.Proofs.Try
set_option maxRecDepth 20000
set_option maxHeartbeats 4000000
set_option linter.unusedSectionVars false
section
variable [Inhabited Cx]
structure RtT (H:Mem) (tr:Nat) (P:Ps) (l:List (Int×Int)) (h:Nat) (t:Gt EJ h):Prop where
 tc:TrC H tr P.iso P.mx P.mn
 srt:Pl.Srt OI l
 cnt:cl H tr 3=some (.int .i64 (l.length:Int))
 g:Gt.Good H P h t
 x1:1≤(Gt.X h t).length
 e:Gt.L h t=l
 c:cl H tr 2=some (ptr (Gt.p h t))
 nt:∀b o,Gt.af h t b o→cx.base≤b
def Keeps (tr:Nat) (h:Nat) (t:Gt EJ h) (Z:Nat→Nat→Prop):Prop:=(∀b o,b<cx.base∧cx.own b→¬Z b o)∧∀b o,Gt.af h t b o→¬Z b o
theorem RtT.fr {H H':Mem} {tr:Nat} {P:Ps} {l:List (Int×Int)} {h:Nat} {t:Gt EJ h} {Z:Nat→Nat→Prop} (hR:RtT H tr P l h t) (hf:Fr Z H H') (hz:Keeps tr h t Z):RtT H' tr P l h t where
 tc:=hR.tc.fr hf fun b o hb _=>hz.1 b o hb
 srt:=hR.srt
 cnt:=hf.keep hR.cnt (hz.1 _ _ ⟨hR.tc.tb,hR.tc.tw⟩)
 g:=hR.g.fr hf hz.2
 x1:=hR.x1
 e:=hR.e
 c:=hf.keep hR.c (hz.1 _ _ ⟨hR.tc.tb,hR.tc.tw⟩)
 nt:=hR.nt
structure RtZ (H:Mem) (tr:Nat) (P:Ps):Prop where
 tc:TrC H tr P.iso P.mx P.mn
 cnt:cl H tr 3=some (.int .i64 0)
 c:cl H tr 2=some (.pointer none)
def RtQ (H H':Mem) (tr:Nat) (P:Ps) (x:Int×Int) (h:Nat) (t:Gt EJ h) (l':List (Int×Int)):Prop:=
 (l'=[]∧RtZ H' tr P)∨∃h',∃t':Gt EJ h',RtT H' tr P l' h' t'∧(∀b o,Gt.af h' t' b o→Gt.af h t b o∨H.size≤b)∧∀Q,Inf Q→Gt.Seg (Lo OI x Q) h t→Gt.Seg (Lo OI x Q) h' t'
theorem delhT_spec {B:World} {H:Mem} {tr:Nat} {P:Ps} (hP:PsOk P) {l:List (Int×Int)} {h:Nat} {t:Gt EJ h} {x:Int×Int} {hv:Value} {hz:Nat→Prop} (hR:RtT H tr P l h t) (hk:HintOk H hv hz) (ho:∀b o,Gt.af h t b o→¬hz b) (hlen:l.length<2305843009213693952) (hfx:Pl.fnd OI x l=true):
  Fn Try.prog B 61 [.pointer (some ⟨tr,0,none⟩),.agg (EJ.enc x).toArray,hv] H (fun _ H'=>RtQ H H' tr P x h t (Pl.del OI x l)∧HintOk H' hv hz∧Fr (fun b o=>Gt.af h t b o∨(b=tr∧(o=2∨o=3))∨hz b) H H'):=by
 have hh1:=hP.h1
 have hmm:=hP.hm
 obtain ⟨tc,srt,cnt,hg,hx1,e,hc,hnt⟩:=hR
 have htb:=tc.tb
 have htw:=tc.tw
 have hbs0:=tc.hb
 have hzb:=hk.base
 have hlt:∀b o,Gt.af h t b o→b<H.size:=fun b o hb=>hg.lt hb
 have hF:Fr (fun b o=>Gt.af h t b o∨(b=tr∧(o=2∨o=3))∨hz b) H H:=Fr.refl _ _
 have hht:=Gt.Good.tall hP hg hx1
 rw [e] at hht
 have hzt:∀b,hz b→b≠tr:=fun b hb e=>(hzb b hb).1 (e▸⟨htb,htw⟩)
 refine fn_of func61 rfl ntmps61 ?_
 refine (show Go' _ _ _ _ 82 [(0,_),(1,_),(2,_)] [.code _] _ from ?_)
 refine Ut 1 rfl (Ur 3 10 rfl (O.box rfl rfl rfl rfl ?_))
 intro H0 M0
 refine ⟨trivial,?_⟩
 have hs0:=M0.size
 replace tc:=tc.fr (M0.fr nowhere) (fun _ _ _ _=>nw)
 replace cnt:=(M0.fr nowhere).keep cnt nw
 replace hc:=(M0.fr nowhere).keep hc nw
 replace hk:=hk.fr (M0.fr nowhere) (fun _ _ _=>nw)
 replace hF:=hF.trans' (M0.fr nowhere) (fun _ _ _ h=>h) (fun _ _ _ h=>h.elim)
 replace hg:=hg.fr (M0.fr nowhere) (fun _ _ _=>nw)
 have mk:Rd H0 H.size 0 (EJ.enc x):=M0.rd _ [] (by simp [Value.cells])
 refine O.alloc rfl rfl rfl zeroValue27 ?_
 intro H1 M1
 refine ⟨trivial,?_⟩
 have hs1:=M1.size
 replace tc:=tc.fr (M1.fr nowhere) (fun _ _ _ _=>nw)
 replace cnt:=(M1.fr nowhere).keep cnt nw
 replace hc:=(M1.fr nowhere).keep hc nw
 replace hk:=hk.fr (M1.fr nowhere) (fun _ _ _=>nw)
 replace hF:=hF.trans' (M1.fr nowhere) (fun _ _ _ h=>h) (fun _ _ _ h=>h.elim)
 replace mk:=(M1.fr nowhere).rd mk (fun _ _=>nw)
 replace hg:=hg.fr (M1.fr nowhere) (fun _ _ _=>nw)
 have wr8:Wr H1 H0.size 0 2:=M1.wr 2 (by decide)
 refine Uf 1 [0,2,4,6,7] rfl (Ut 2 rfl (Ur 5 64 rfl (Ul 3 rfl (show cl _ tr 2=some (.pointer (some ⟨Gt.p h t,0,none⟩)) from hc) (O.isNil rfl rfl rfl rfl underlying107 rfl rfl (Uf 0 [0,2,4,6,7,14] rfl (Go'.condF rfl (Ut 2 rfl ?_)))))))
 refine Go'.draw2s (σ:=(Int×Int)×Bool×Nat) (fun H'=>Rd H' H.size 0 (EJ.enc x)) (fun s H'=>TrC H' tr P.iso P.mx P.mn∧cl H' tr 3=some (.int .i64 (l.length:Int))∧cl H' tr 2=some (ptr (Gt.p h t))∧HintOk H' hv hz∧Wr H' H0.size 0 2∧Rd H' s.2.2 0 (EJ.enc s.1)∧H1.size≤s.2.2∧s.2.2<H'.size∧Fr (fun b o=>Gt.af h t b o∨(b=tr∧(o=2∨o=3))∨hz b) H H'∧s.2.1=true∧∃L1,∃t1:Gt EJ h,Pl.dlr OI false x l=some (s.1,L1)∧Gt.Good H' P h t1∧Gt.p h t1=Gt.p h t∧(∀b o,Gt.af h t1 b o→(Gt.af h t b o∨H1.size≤b)∧b≠s.2.2∧b<H'.size)∧Gt.L h t1=L1∧SegD OI false x h t t1) (fun s=>[(0,.pointer (some ⟨tr,0,none⟩)),(6,.pointer (some ⟨H0.size,0,none⟩)),(7,.bool false),(8,.pointer (some ⟨s.2.2,0,none⟩)),(9,.bool s.2.1)]) 6 10 [(0,0),(1,0),(2,0),(3,0),(4,0),(5,0),(6,2),(7,0),(8,0),(9,0),(10,2),(11,2),(12,0)] [(0,0),(1,0),(2,0),(3,0),(4,0),(5,0),(10,2),(6,2),(7,0),(8,0),(9,0),(11,2),(12,0)] (by kernel_rfl) (by kernel_rfl) (mk) ?_ ?_ ?_
 ·
  intro _ _ _ hj
  refine US 4 rfl (fun _ h=>h) rfl (Uq 1 rfl (O.call rfl rfl rfl call86 rfl ((delH hP h (mx:=false) (x:=x) (t:=t) (dp:=0) ⟨tc,hg,hc,fun b o hb=>by have:=hnt b o hb;omega,by rw [e];exact srt,by rw [e];omega,hx1⟩ hk ho (by omega)).mono fun _ _=>DelQH.uni) ?_))
  rintro _ H2 ⟨hkc,Hm,hsm0,hFm,y,bb,rfl,hfr,hq⟩
  have hs2:=hfr.size
  have hsm:=hFm.size
  replace tc:=tc.fr hFm (fun b o hb _ hz=>(hzb b hz).1 hb)
  replace cnt:=hFm.keep cnt (fun hz=>hzt _ hz rfl)
  replace hc:=hFm.keep hc (fun hz=>hzt _ hz rfl)
  replace wr8:=hFm.wr wr8
  replace mk:=hFm.rd mk (fun _ _ hz=>by have:=(hzb _ hz).2;omega)
  replace hF:=hF.trans' hFm (fun _ _ _ h=>h) (fun b o _ hz=>.inr (.inr hz))
  replace tc:=tc.fr hfr (fun b o hb _ hz=>by have:=hnt b o hz;omega)
  replace cnt:=hfr.keep cnt (fun hz=>by have:=hnt _ _ hz;omega)
  replace hc:=hfr.keep hc (fun hz=>by have:=hnt _ _ hz;omega)
  replace wr8:=hfr.wr wr8
  replace mk:=hfr.rd mk (fun _ _ hz=>by have:=hlt _ _ hz;omega)
  replace hF:=hF.trans' hfr (fun _ _ _ h=>h) (fun b o _ hz=>.inl hz)
  replace hk:=hkc
  rw [e] at hq
  refine ⟨mk,?_⟩
  refine Uq 3 rfl (O.alloc rfl rfl rfl zeroValue27 ?_)
  intro H3 M3
  have hs3:=M3.size
  replace tc:=tc.fr (M3.fr nowhere) (fun _ _ _ _=>nw)
  replace cnt:=(M3.fr nowhere).keep cnt nw
  replace hc:=(M3.fr nowhere).keep hc nw
  replace hk:=hk.fr (M3.fr nowhere) (fun _ _ _=>nw)
  replace hF:=hF.trans' (M3.fr nowhere) (fun _ _ _ h=>h) (fun _ _ _ h=>h.elim)
  replace wr8:=(M3.fr nowhere).wr wr8
  replace mk:=(M3.fr nowhere).rd mk (fun _ _=>nw)
  have w6:Wr H3 H2.size 0 2:=M3.wr 2 (by decide)
  refine ⟨mk,?_⟩
  refine O.st (vs:=(EJ.enc y)) rfl rfl sizeOf27 rfl rfl rfl rfl rfl w6 ?_
  intro H4 W4
  have hs4:=W4.size
  replace tc:=tc.fr W4.fr (fun b o hb _=>nr (.inl (by omega)))
  replace cnt:=W4.fr.keep cnt (nr (.inl (by omega)))
  replace hc:=W4.fr.keep hc (nr (.inl (by omega)))
  replace hk:=hk.fr W4.fr (fun b o hb=>nr (.inl (by have:=(hzb b hb).2;omega)))
  replace wr8:=W4.fr.wr wr8
  replace mk:=W4.fr.rd mk (fun _ _=>nr (.inl (by omega)))
  replace hF:=hF.trans' W4.fr (fun _ _ _ h=>h) (fun b o hb h=>by have h':=h.1;omega)
  refine ⟨mk,?_⟩
  refine Uq 1 rfl ?_
  refine Pl.fin [(0,_),(6,_),(7,_),(8,_),(9,_)] ⟨rfl,rfl,rfl,rfl,rfl,trivial⟩ (hj (y,bb,H2.size) _ ?_)
  refine ⟨tc,cnt,hc,hk,wr8,W4.all,(show H1.size≤H2.size by omega),(show H2.size<H4.size by omega),hF,?_⟩
  rcases hq with ⟨h1,h2,h3⟩|⟨h1,L1,t1,h2,hT⟩
  ·
   have hgn:Pl.got OI x l=none:=by simpa [Pl.dlr] using h2
   rw [←Pl.got_isSome,hgn] at hfx
   cases hfx
  · exact ⟨h1,L1,t1,h2,(hT.g.fr (M3.fr nowhere) (fun _ _ _=>nw)).fr W4.fr (fun b o hb=>nr (.inl (by have:=hT.g.lt hb;omega))),hT.p,fun b o hb=>⟨(hT.a b o hb).imp id (fun h=>by omega),(show b≠H2.size by have:=hT.g.lt hb;omega),by have:=hT.g.lt hb;omega⟩,hT.l,hT.sd⟩
 ·
  intro _ _ _ hj
  refine US 4 rfl (fun _ h=>h) rfl (Uq 1 rfl (O.alloc rfl rfl rfl zeroValue27 ?_))
  intro H2 M2
  have hs2:=M2.size
  replace tc:=tc.fr (M2.fr nowhere) (fun _ _ _ _=>nw)
  replace cnt:=(M2.fr nowhere).keep cnt nw
  replace hc:=(M2.fr nowhere).keep hc nw
  replace hk:=hk.fr (M2.fr nowhere) (fun _ _ _=>nw)
  replace hF:=hF.trans' (M2.fr nowhere) (fun _ _ _ h=>h) (fun _ _ _ h=>h.elim)
  replace wr8:=(M2.fr nowhere).wr wr8
  replace mk:=(M2.fr nowhere).rd mk (fun _ _=>nw)
  replace hg:=hg.fr (M2.fr nowhere) (fun _ _ _=>nw)
  have w6:Wr H2 H1.size 0 2:=M2.wr 2 (by decide)
  refine ⟨mk,?_⟩
  refine O.call rfl rfl rfl call86 rfl ((delH hP h (mx:=false) (x:=x) (t:=t) (dp:=0) ⟨tc,hg,hc,fun b o hb=>by have:=hnt b o hb;omega,by rw [e];exact srt,by rw [e];omega,hx1⟩ hk ho (by omega)).mono fun _ _=>DelQH.uni) ?_
  rintro _ H3 ⟨hkc,Hm,hsm0,hFm,y,bb,rfl,hfr,hq⟩
  have hs3:=hfr.size
  have hsm:=hFm.size
  replace tc:=tc.fr hFm (fun b o hb _ hz=>(hzb b hz).1 hb)
  replace cnt:=hFm.keep cnt (fun hz=>hzt _ hz rfl)
  replace hc:=hFm.keep hc (fun hz=>hzt _ hz rfl)
  replace wr8:=hFm.wr wr8
  replace mk:=hFm.rd mk (fun _ _ hz=>by have:=(hzb _ hz).2;omega)
  replace hF:=hF.trans' hFm (fun _ _ _ h=>h) (fun b o _ hz=>.inr (.inr hz))
  replace tc:=tc.fr hfr (fun b o hb _ hz=>by have:=hnt b o hz;omega)
  replace cnt:=hfr.keep cnt (fun hz=>by have:=hnt _ _ hz;omega)
  replace hc:=hfr.keep hc (fun hz=>by have:=hnt _ _ hz;omega)
  replace wr8:=hfr.wr wr8
  replace mk:=hfr.rd mk (fun _ _ hz=>by have:=hlt _ _ hz;omega)
  replace hF:=hF.trans' hfr (fun _ _ _ h=>h) (fun b o _ hz=>.inl hz)
  replace hk:=hkc
  rw [e] at hq
  replace w6:=hfr.wr (hFm.wr w6)
  refine ⟨mk,?_⟩
  refine Uq 3 rfl (O.st (vs:=(EJ.enc y)) rfl rfl sizeOf27 rfl rfl rfl rfl rfl w6 ?_)
  intro H4 W4
  have hs4:=W4.size
  replace tc:=tc.fr W4.fr (fun b o hb _=>nr (.inl (by omega)))
  replace cnt:=W4.fr.keep cnt (nr (.inl (by omega)))
  replace hc:=W4.fr.keep hc (nr (.inl (by omega)))
  replace hk:=hk.fr W4.fr (fun b o hb=>nr (.inl (by have:=(hzb b hb).2;omega)))
  replace wr8:=W4.fr.wr wr8
  replace mk:=W4.fr.rd mk (fun _ _=>nr (.inl (by omega)))
  replace hF:=hF.trans' W4.fr (fun _ _ _ h=>h) (fun b o hb h=>by have h':=h.1;omega)
  refine ⟨mk,?_⟩
  refine Uq 1 rfl ?_
  refine Pl.fin [(0,_),(6,_),(7,_),(8,_),(9,_)] ⟨rfl,rfl,rfl,rfl,rfl,trivial⟩ (hj (y,bb,H1.size) _ ?_)
  refine ⟨tc,cnt,hc,hk,wr8,W4.all,(show H1.size≤H1.size from Nat.le_refl _),(show H1.size<H4.size by omega),hF,?_⟩
  rcases hq with ⟨h1,h2,h3⟩|⟨h1,L1,t1,h2,hT⟩
  ·
   have hgn:Pl.got OI x l=none:=by simpa [Pl.dlr] using h2
   rw [←Pl.got_isSome,hgn] at hfx
   cases hfx
  ·
   have hn:∀b o,Gt.af h t1 b o→b≠H1.size:=fun b o hb=>(hT.a b o hb).elim (fun h=>by have:=hlt b o h;omega) (fun h=>by omega)
   exact ⟨h1,L1,t1,h2,hT.g.fr W4.fr (fun b o hb=>nr (.inl (hn b o hb))),hT.p,fun b o hb=>⟨(hT.a b o hb).imp id (fun h=>by omega),hn b o hb,by have:=hT.g.lt hb;omega⟩,hT.l,hT.sd⟩
 clear hc cnt tc mk wr8 hF hk
 rintro ⟨y,bb,pb⟩ H4 ⟨tc,cnt,hc,hk,wr8,m6,hpb1,hpb2,hF,rfl,L1,t1,hd,hg1,hp1,ha1,hl1,hsd⟩
 simp only at m6 hpb1 hpb2 hd ha1
 refine Ut 2 rfl ?_
 have hgy:Pl.got OI x l=some y∧Pl.del OI x l=L1:=by
  simp only [Pl.dlr,Option.map_eq_some_iff,Prod.mk.injEq] at hd
  obtain ⟨z,hz,rfl,rfl⟩:=hd
  exact ⟨hz,rfl⟩
 have hln:=Pl.dlr_len OI hd
 have hnt1:∀b o,Gt.af h t1 b o→cx.base≤b:=fun b o hb=>(ha1 b o hb).1.elim (hnt b o) (fun h9=>by omega)
 have hne1:∀b o,Gt.af h t1 b o→b≠H0.size:=fun b o hb=>(ha1 b o hb).1.elim (fun h=>by have:=hlt b o h;omega) (fun h9=>by omega)
 have hga1:∀b o,Gt.af h t1 b o→Gt.af h t b o∨H.size≤b:=fun b o hb=>(ha1 b o hb).1.imp id (fun h=>by omega)
 have hsg1:∀Q,Inf Q→Gt.Seg (Lo OI x Q) h t→Gt.Seg (Lo OI x Q) h t1:=fun Q hQ hs=>hsd rfl Q hQ hs
 have hsrt1:Pl.Srt OI L1:=by rw [←hgy.2];exact srt.del OI
 rw [hgy.2]
 rw [←hp1] at hc
 obtain ⟨kp,hn1⟩:=hg1.node
 have hxm1:=hg1.xmx
 have hx255:=hP.hx
 have hR1:∀b o,b=tr→(o=2∨o=3)→(fun b o=>Gt.af h t b o∨(b=tr∧(o=2∨o=3))∨hz b) b o:=fun b o h1 h2=>.inr (.inl ⟨h1,h2⟩)
 have hzl:∀b,hz b→b<H.size:=fun b hb=>(hzb b hb).2
 have hfin:∀H',((L1=[]∧RtZ H' tr P)∨∃h',∃t':Gt EJ h',RtT H' tr P L1 h' t'∧(∀b o,Gt.af h' t' b o→Gt.af h t b o∨H.size≤b)∧∀Q,Inf Q→Gt.Seg (Lo OI x Q) h t→Gt.Seg (Lo OI x Q) h' t')→RtQ H H' tr P x h t L1:=fun H' hh=>hh
 generalize (fun b o=>Gt.af h t b o∨(b=tr∧(o=2∨o=3))∨hz b)=R0 at hF hR1 ⊢
 generalize Gt.af h t=A0 at hfin hga1
 generalize hS0:(fun R=>Gt.Seg R h t)=S0
 have hS1:∀R,Gt.Seg R h t=S0 R:=fun R=>by rw [←hS0]
 simp only [hS1] at hfin hsg1
 obtain ⟨G0,hG0⟩:∃G0:Mem→Prop,G0=fun H'=>RtQ H H' tr P x h t L1:=⟨_,rfl⟩
 refine Go'.mono (Q:=fun _ H'=>G0 H'∧HintOk H' hv hz∧Fr R0 H H') (fun v H' hh=>by rw [hG0] at hh;exact hh) ?_
 have hfin2:∀H',((L1=[]∧RtZ H' tr P)∨∃h',∃t':Gt EJ h',RtT H' tr P L1 h' t'∧(∀b o,Gt.af h' t' b o→A0 b o∨H.size≤b)∧∀Q,Inf Q→S0 (Lo OI x Q)→Gt.Seg (Lo OI x Q) h' t')→G0 H':=fun H' hh=>by rw [hG0];exact hfin H' hh
 clear hfin hG0 hS1 hS0 hsd hd hg hx1 hlt ha1 hp1 hht e ho hnt
 refine Ur 2 0 rfl (Uf 2 [0,6,7,8,30] rfl (Go'.condF rfl (Ut 3 rfl ?_)))
 by_cases h0:(Gt.X h t1).length=0
 ·
  match h,t1,hg1,hc,hga1,hsg1,hnt1,hne1,hl1,hn1,h0,hxm1 with
  | 0,t1,hg1,hc,hga1,hsg1,hnt1,hne1,hl1,hn1,h0,hxm1=>
   refine Ur 17 603983936 rfl (Ul 3 rfl (show cl _ tr 2=some (.pointer (some ⟨Gt.p 0 t1,0,none⟩)) from hc) (Ul 2 rfl (show cl _ (Gt.p 0 t1) 2=some (.slice (some ⟨(Gt.g 0 t1).ib,(Gt.g 0 t1).io,none⟩) (Gt.X 0 t1).length (Gt.g 0 t1).ic) from hn1.c2) (Uc 1 rfl (eqlT (by omega)) (Ul 4 rfl (show cl _ tr 2=some (.pointer (some ⟨Gt.p 0 t1,0,none⟩)) from hc) (O.callQ rfl rfl rfl call62 rfl (leaf_spec (show cl _ (Gt.p 0 t1) 3=some (.pointer none) from hg1.1.c3)) trivial (Uf 2 [0,6,7,8,51] rfl (Go'.condF rfl (Ut 2 rfl ?_))))))))
   have hL0:L1.length=0:=by rw [←hl1];exact h0
   refine Ur 8 32832 rfl (Ul 3 rfl cnt (Ub 0 (((l.length-1:Nat):Int)) rfl (by omega) (Uq 2 rfl (O.st rfl rfl sizeOf3 rfl rfl rfl rfl rfl (tc.wr.at0 3 1 (by omega)) ?_))))
   intro H6 W6
   have hs6:=W6.size
   replace tc:=tc.fr (W6.fr' 1 rfl) (fun b o hb he hz=>by have h1:=he hz.1;have h2:=hz.2.1;have h3:=hz.2.2;omega)
   replace hc:=W6.keep1 hc (by omega)
   replace hF:=hF.trans' W6.fr (fun _ _ _ h=>h) (fun b o _ h=>hR1 b o h.1 (by have h2:=h.2.1;have h3:=h.2.2;simp only [List.length_cons,List.length_nil] at h3;omega))
   replace m6:=W6.fr.rd m6 (fun _ _=>nr (.inl (by omega)))
   replace wr8:=W6.fr.wr wr8
   replace hk:=hk.fr W6.fr (fun b o hb=>nr (.inl (hzt b hb)))
   have cnt5:cl H6 tr 3=some (.int .i64 ((l.length-1:Nat):Int)):=W6.at
   refine ⟨trivial,?_⟩
   refine Uf 0 [0,6,7,8] rfl (Ut 2 rfl (Ur 5 64 rfl (Ul 3 rfl cnt5 (Uc 0 rfl (eqlT (by omega)) (Uf 0 [0,6,7,8,77] rfl (Go'.condT rfl (Ur 4 128 rfl (Uq 3 rfl (O.st rfl rfl sizeOf107 rfl rfl rfl rfl rfl (tc.wr.at0 2 1 (by omega)) ?_)))))))))
   intro H7 W7
   have hs7:=W7.size
   replace tc:=tc.fr (W7.fr' 1 rfl) (fun b o hb he hz=>by have h1:=he hz.1;have h2:=hz.2.1;have h3:=hz.2.2;omega)
   replace cnt5:=W7.keep1 cnt5 (by omega)
   replace hF:=hF.trans' W7.fr (fun _ _ _ h=>h) (fun b o _ h=>hR1 b o h.1 (by have h2:=h.2.1;have h3:=h.2.2;simp only [List.length_cons,List.length_nil] at h3;omega))
   replace m6:=W7.fr.rd m6 (fun _ _=>nr (.inl (by omega)))
   replace wr8:=W7.fr.wr wr8
   replace hk:=hk.fr W7.fr (fun b o hb=>nr (.inl (hzt b hb)))
   have hc6:cl H7 tr 2=some (.pointer none):=W7.at
   refine ⟨trivial,?_⟩
   refine Uf 0 [6,7,8] rfl (Ut 1 rfl (Ur 3 9 rfl (Us 0 rfl m6 rfl (O.st rfl rfl sizeOf27 rfl rfl rfl rfl rfl wr8 ?_))))
   intro H8 W8
   have hs8:=W8.size
   replace tc:=tc.fr W8.fr (fun b o hb _=>nr (.inl (by omega)))
   replace cnt5:=W8.fr.keep cnt5 (nr (.inl (by omega)))
   replace hc6:=W8.fr.keep hc6 (nr (.inl (by omega)))
   replace hk:=hk.fr W8.fr (fun b o hb=>nr (.inl (by have:=hzl b hb;omega)))
   replace hF:=hF.trans' W8.fr (fun _ _ _ h=>h) (fun b o hb h=>by have h':=h.1;omega)
   have m8:Rd H8 H0.size 0 (EJ.enc y):=W8.all
   refine ⟨trivial,?_⟩
   refine Uf 1 [6,7] rfl (Go'.ret (vs:=[_,_]) func61 results61 ⟨⟨_,_,rfl,fun _ _=>run_loadVar_agg (fun w=>⟨isAgg27 w,sizeOf27 w⟩) rfl m8⟩,rfl,trivial⟩ ?_)
   have hl5:L1=[]:=List.length_eq_zero_iff.1 (by omega)
   exact ⟨hfin2 _ (.inl ⟨hl5,⟨tc,by rw [show l.length-1=0 by omega] at cnt5;exact cnt5,hc6⟩⟩),hk,hF⟩
  | h+1,t1,hg1,hc,hga1,hsg1,hnt1,hne1,hl1,hn1,h0,hxm1=>
   refine Ur 17 603983936 rfl (Ul 3 rfl (show cl _ tr 2=some (.pointer (some ⟨Gt.p (h+1) t1,0,none⟩)) from hc) (Ul 2 rfl (show cl _ (Gt.p (h+1) t1) 2=some (.slice (some ⟨(Gt.g (h+1) t1).ib,(Gt.g (h+1) t1).io,none⟩) (Gt.X (h+1) t1).length (Gt.g (h+1) t1).ic) from hn1.c2) (Uc 1 rfl (eqlT (by omega)) (Ul 4 rfl (show cl _ tr 2=some (.pointer (some ⟨Gt.p (h+1) t1,0,none⟩)) from hc) (O.callQ rfl rfl rfl call62 rfl (leaf_spec (show cl _ (Gt.p (h+1) t1) 3=some (.pointer (some ⟨t1.1.cb,0,none⟩)) from hg1.1.c3)) trivial (Uf 2 [0,6,7,8,51] rfl (Go'.condT rfl ?_)))))))
   obtain ⟨g,X,K⟩:=t1
   have hX0:X=[]:=List.length_eq_zero_iff.1 h0
   subst hX0
   have hK1:K.length=1:=hg1.2.2.2.2.2.1
   obtain ⟨k,rfl⟩:∃k,K=[k]:=by
    match K,hK1 with
    | [k],_=>exact ⟨k,rfl⟩
   obtain ⟨hgz,hkm,hkd⟩:=hg1.2.2.2.2.2.2.1 k (List.mem_singleton.2 rfl)
   have hI:=Gt.Good.inn hg1
   have hk0:((Gt.ps h [k]).map some)[0]?=some (some (Gt.p h k)):=rfl
   have hlz:Gt.L h k=L1:=by rw [←hl1];rfl
   have hafk:∀b o,Gt.af h k b o→Gt.af (h+1) ((g,[],[k]):Gt EJ (h+1)) b o:=fun b o hb=>.inr (.inr ⟨k,List.mem_singleton.2 rfl,hb⟩)
   have hgaz:∀b o,Gt.af h k b o→A0 b o∨H.size≤b:=fun b o hb=>hga1 b o (hafk b o hb)
   have hsgz:∀Q,Inf Q→S0 (Lo OI x Q)→Gt.Seg (Lo OI x Q) h k:=fun Q hQ hs=>(hsg1 Q hQ hs).2 k (List.mem_singleton.2 rfl)
   have hntz:∀b o,Gt.af h k b o→cx.base≤b:=fun b o hb=>hnt1 b o (hafk _ _ hb)
   have hnez:∀b o,Gt.af h k b o→b≠H0.size:=fun b o hb=>hne1 b o (hafk _ _ hb)
   have hxz:1≤(Gt.X h k).length:=by omega
   have hne:=hgz.ne hxz
   have hL0:L1.length≠0:=by rw [←hlz];omega
   refine Ur 15 541344000 rfl (Ul 4 rfl (show cl _ tr 2=some (.pointer (some ⟨g.p,0,none⟩)) from hc) (Ul 2 rfl (show cl _ g.p 3=some (.pointer (some ⟨g.cb,0,none⟩)) from hI.n.c3) (Ul 1 rfl hI.k.c (Ux 0 0 rfl rfl (by simp [Gt.ps]) (Ul 0 rfl (hI.k.at hk0) (Uq 2 rfl (O.st rfl rfl sizeOf107 rfl rfl rfl rfl rfl (tc.wr.at0 2 1 (by omega)) ?_)))))))
   intro H5 W5
   have hs5:=W5.size
   replace tc:=tc.fr (W5.fr' 1 rfl) (fun b o hb he hz=>by have h1:=he hz.1;have h2:=hz.2.1;have h3:=hz.2.2;omega)
   replace cnt:=W5.keep1 cnt (by omega)
   replace hF:=hF.trans' W5.fr (fun _ _ _ h=>h) (fun b o _ h=>hR1 b o h.1 (by have h2:=h.2.1;have h3:=h.2.2;simp only [List.length_cons,List.length_nil] at h3;omega))
   replace m6:=W5.fr.rd m6 (fun _ _=>nr (.inl (by omega)))
   replace wr8:=W5.fr.wr wr8
   replace hk:=hk.fr W5.fr (fun b o hb=>nr (.inl (hzt b hb)))
   replace hgz:=hgz.fr W5.fr (fun b o hb=>nr (.inl (by have:=hntz b o hb;omega)))
   clear hc
   have hc:cl H5 tr 2=some (ptr (Gt.p h k)):=W5.at
   refine ⟨trivial,?_⟩
   refine Uf 0 [0,6,7,8] rfl (Ut 1 rfl (Ur 8 32832 rfl (Ul 3 rfl cnt (Ub 0 (((l.length-1:Nat):Int)) rfl (by omega) (Uq 2 rfl (O.st rfl rfl sizeOf3 rfl rfl rfl rfl rfl (tc.wr.at0 3 1 (by omega)) ?_))))))
   intro H6 W6
   have hs6:=W6.size
   replace tc:=tc.fr (W6.fr' 1 rfl) (fun b o hb he hz=>by have h1:=he hz.1;have h2:=hz.2.1;have h3:=hz.2.2;omega)
   replace hc:=W6.keep1 hc (by omega)
   replace hF:=hF.trans' W6.fr (fun _ _ _ h=>h) (fun b o _ h=>hR1 b o h.1 (by have h2:=h.2.1;have h3:=h.2.2;simp only [List.length_cons,List.length_nil] at h3;omega))
   replace m6:=W6.fr.rd m6 (fun _ _=>nr (.inl (by omega)))
   replace wr8:=W6.fr.wr wr8
   replace hk:=hk.fr W6.fr (fun b o hb=>nr (.inl (hzt b hb)))
   have cnt5:cl H6 tr 3=some (.int .i64 ((l.length-1:Nat):Int)):=W6.at
   refine ⟨trivial,?_⟩
   refine Uf 0 [0,6,7,8] rfl (Ut 2 rfl (Ur 5 64 rfl (Ul 3 rfl cnt5 (Uc 0 rfl (eqlF (by omega)) (Uf 0 [0,6,7,8,77] rfl (Go'.condF rfl (Ut 2 rfl (Ur 3 9 rfl (Us 0 rfl m6 rfl (O.st rfl rfl sizeOf27 rfl rfl rfl rfl rfl wr8 ?_))))))))))
   intro H8 W8
   have hs8:=W8.size
   replace tc:=tc.fr W8.fr (fun b o hb _=>nr (.inl (by omega)))
   replace cnt5:=W8.fr.keep cnt5 (nr (.inl (by omega)))
   replace hc:=W8.fr.keep hc (nr (.inl (by omega)))
   replace hk:=hk.fr W8.fr (fun b o hb=>nr (.inl (by have:=hzl b hb;omega)))
   replace hF:=hF.trans' W8.fr (fun _ _ _ h=>h) (fun b o hb h=>by have h':=h.1;omega)
   have m8:Rd H8 H0.size 0 (EJ.enc y):=W8.all
   refine ⟨trivial,?_⟩
   refine Uf 1 [6,7] rfl (Go'.ret (vs:=[_,_]) func61 results61 ⟨⟨_,_,rfl,fun _ _=>run_loadVar_agg (fun w=>⟨isAgg27 w,sizeOf27 w⟩) rfl m8⟩,rfl,trivial⟩ ?_)
   have hg5:=(hgz.fr W6.fr (fun b o hb=>nr (.inl (by have:=hntz b o hb;omega)))).fr W8.fr (fun b o hb=>nr (.inl (hnez b o hb)))
   have e9:l.length-1=L1.length:=by omega
   exact ⟨hfin2 _ (.inr ⟨h,k,⟨tc,hsrt1,by rw [e9] at cnt5;exact cnt5,hg5,hxz,hlz,hc,hntz⟩,hgaz,hsgz⟩),hk,hF⟩
 ·
  refine Ur 17 603983936 rfl (Ul 3 rfl (show cl _ tr 2=some (.pointer (some ⟨Gt.p h t1,0,none⟩)) from hc) (Ul 2 rfl (show cl _ (Gt.p h t1) 2=some (.slice (some ⟨(Gt.g h t1).ib,(Gt.g h t1).io,none⟩) (Gt.X h t1).length (Gt.g h t1).ic) from hn1.c2) (Uc 1 rfl (eqlF (by omega)) (Uq 5 rfl (Pl.pass2 rfl rfl rfl rfl trivial (Uf 2 [0,6,7,8,51] rfl (Go'.condF rfl (Ut 2 rfl ?_))))))))
  have hgz:=hg1
  have hlz:=hl1
  have hgaz:=hga1
  have hsgz:=hsg1
  have hntz:=hnt1
  have hnez:=hne1
  have hxz:1≤(Gt.X h t1).length:=by omega
  have hne:=hgz.ne hxz
  have hL0:L1.length≠0:=by rw [←hlz];omega
  refine Ur 8 32832 rfl (Ul 3 rfl cnt (Ub 0 (((l.length-1:Nat):Int)) rfl (by omega) (Uq 2 rfl (O.st rfl rfl sizeOf3 rfl rfl rfl rfl rfl (tc.wr.at0 3 1 (by omega)) ?_))))
  intro H6 W6
  have hs6:=W6.size
  replace tc:=tc.fr (W6.fr' 1 rfl) (fun b o hb he hz=>by have h1:=he hz.1;have h2:=hz.2.1;have h3:=hz.2.2;omega)
  replace hc:=W6.keep1 hc (by omega)
  replace hF:=hF.trans' W6.fr (fun _ _ _ h=>h) (fun b o _ h=>hR1 b o h.1 (by have h2:=h.2.1;have h3:=h.2.2;simp only [List.length_cons,List.length_nil] at h3;omega))
  replace m6:=W6.fr.rd m6 (fun _ _=>nr (.inl (by omega)))
  replace wr8:=W6.fr.wr wr8
  replace hk:=hk.fr W6.fr (fun b o hb=>nr (.inl (hzt b hb)))
  have cnt5:cl H6 tr 3=some (.int .i64 ((l.length-1:Nat):Int)):=W6.at
  refine ⟨trivial,?_⟩
  refine Uf 0 [0,6,7,8] rfl (Ut 2 rfl (Ur 5 64 rfl (Ul 3 rfl cnt5 (Uc 0 rfl (eqlF (by omega)) (Uf 0 [0,6,7,8,77] rfl (Go'.condF rfl (Ut 2 rfl (Ur 3 9 rfl (Us 0 rfl m6 rfl (O.st rfl rfl sizeOf27 rfl rfl rfl rfl rfl wr8 ?_))))))))))
  intro H8 W8
  have hs8:=W8.size
  replace tc:=tc.fr W8.fr (fun b o hb _=>nr (.inl (by omega)))
  replace cnt5:=W8.fr.keep cnt5 (nr (.inl (by omega)))
  replace hc:=W8.fr.keep hc (nr (.inl (by omega)))
  replace hk:=hk.fr W8.fr (fun b o hb=>nr (.inl (by have:=hzl b hb;omega)))
  replace hF:=hF.trans' W8.fr (fun _ _ _ h=>h) (fun b o hb h=>by have h':=h.1;omega)
  have m8:Rd H8 H0.size 0 (EJ.enc y):=W8.all
  refine ⟨trivial,?_⟩
  refine Uf 1 [6,7] rfl (Go'.ret (vs:=[_,_]) func61 results61 ⟨⟨_,_,rfl,fun _ _=>run_loadVar_agg (fun w=>⟨isAgg27 w,sizeOf27 w⟩) rfl m8⟩,rfl,trivial⟩ ?_)
  have hg5:=(hgz.fr W6.fr (fun b o hb=>nr (.inl (by have:=hntz b o hb;omega)))).fr W8.fr (fun b o hb=>nr (.inl (hnez b o hb)))
  have e9:l.length-1=L1.length:=by omega
  exact ⟨hfin2 _ (.inr ⟨h,t1,⟨tc,hsrt1,by rw [e9] at cnt5;exact cnt5,hg5,hxz,hlz,hc,hntz⟩,hgaz,hsgz⟩),hk,hF⟩
end
end Go.Bt.FG
namespace Go.Bt.FG
open Go Go.Proofs Go.Proofs.Try
set_option maxRecDepth 20000
set_option maxHeartbeats 4000000
set_option linter.unusedSectionVars false
section
variable [Inhabited Cx]
abbrev QT:=(Int×Int)×Option ((h:Nat)×Gt EJ h)
def QT.e (p:QT):((Int×Int)×Option Nat):=(p.1,p.2.map fun s=>Gt.p s.1 s.2)
def QT.pc (p:QT):Pc (Int×Int):=(p.1,match p.2 with|some s=>Gt.L s.1 s.2|none=>[])
def QT.af (p:QT) (b o:Nat):Prop:=match p.2 with|some s=>Gt.af s.1 s.2 b o|none=>False
def QT.ok (H:Mem) (P:Ps) (p:QT):Prop:=match p.2 with|some s=>Gt.Good H P s.1 s.2|none=>True
theorem QT.ok.fr {H H':Mem} {P:Ps} {Z:Nat→Nat→Prop} {p:QT} (h:QT.ok H P p) (hf:Fr Z H H') (hz:∀b o,QT.af p b o→¬Z b o):QT.ok H' P p:=by
 obtain ⟨x,_|⟨h1,t⟩⟩:=p
 · trivial
 · exact Gt.Good.fr (t:=t) hf h hz
def stI (st:List (Nat×Nat)):List (Nat×Int):=st.map fun q=>(q.1,((q.2:Nat):Int))
structure Dc where
 Hs:Mem
 TA0:Nat→Nat→Prop
 tr:Nat
 dl:Nat
 m:Nat
 hb:Nat
 pb:Nat
 P:Ps
 stop:(Int×Int)→Bool
 mono:∀x y,OI.lt x y=true→stop x=true→stop y=true
 OW:Mem→Prop
 owf:∀{H H':Mem} {Z:Nat→Nat→Prop},OW H→Fr Z H H'→(∀b o,Hs.size≤b∧b<m∧b≠hb∧b≠pb→¬Z b o)→OW H'
 LS:Mem→(Nat→Prop)→List QT→Prop
 lsf:∀{H H':Mem} {Z:Nat→Nat→Prop} {Zq:Nat→Prop} {Ts:List QT},LS H Zq Ts→Fr Z H H'→(∀b o,b=dl∨Zq b→¬Z b o)→LS H' Zq Ts
abbrev Dc.n (D:Dc):Nat:=D.Hs.size
def Dc.own (D:Dc) (b:Nat):Prop:=(D.n≤b∧b<D.m)∨b=D.dl
def Dc.R0 (D:Dc) (b o:Nat):Prop:=D.TA0 b o∨(b=D.tr∧(o=2∨o=3))∨b=D.dl
def FUNV:Value:=(.func (.func 72) #[] #[ptr cx.ob])
def LiS (dl:Nat) (ex:Bool) (H:Mem) (Zq:Nat→Prop) (Ts:List QT):Prop:=∃q fn cnt,LiM H dl fn cnt 0 Zq q∧(ex=true→fn=FUNV∧q.Perm (Ts.map QT.e)∧Hp.Heap OI qkey q∧cnt=(flat (Ts.map QT.pc)).length)∧(ex=false→q=[]∧cnt=0)∧ones [fn]=true
theorem LiS.fr {dl:Nat} {ex:Bool} {H H':Mem} {Zq:Nat→Prop} {Ts:List QT} {Z:Nat→Nat→Prop} (h:LiS dl ex H Zq Ts) (hf:Fr Z H H') (hz:∀b o,b=dl∨Zq b→¬Z b o):LiS dl ex H' Zq Ts:=by
 obtain ⟨q,fn,cnt,h1,h2,h3⟩:=h
 exact ⟨q,fn,cnt,h1.fr hf hz,h2,h3⟩
structure DrB (D:Dc) (H:Mem) (pv:Int×Int) (sv:Value) (st:List (Nat×Nat)) (Z16 Zq:Nat→Prop) (Ts:List QT) (TA:Nat→Nat→Prop):Prop where
 sz:D.m≤H.size
 nb:cx.base≤D.dl∧D.dl<D.n∧cx.base≤D.n∧D.tr<cx.base∧D.n≤D.hb∧D.hb<D.m∧D.n≤D.pb∧D.pb<D.m∧D.hb≠D.pb
 ow:D.OW H
 hk:HintOk H (.pointer (some ⟨D.hb,0,none⟩)) (fun b=>b=D.hb)
 m15:Rd H D.pb 0 (EJ.enc pv)
 w15:Wr H D.pb 0 2
 stk:Acc EK Z16 H sv (stI st)
 z16:∀b,Z16 b→D.m≤b∧b<H.size
 lst:D.LS H Zq Ts
 zq:∀b,Zq b→D.m≤b∧b<H.size
 zz:∀b,Z16 b→¬Zq b
 pcs:∀p∈Ts,QT.ok H D.P p
 dj:∀b o,(TA b o∨∃p∈Ts,QT.af p b o)→cx.base≤b∧¬(D.own b∨Z16 b∨Zq b)∧b<H.size∧(D.TA0 b o∨D.n≤b)
 djp:∀b o p,p∈Ts→QT.af p b o→¬TA b o
 fr0:Fr D.R0 D.Hs H
 srz:∀p∈Ts,(QT.pc p).2.length<4611686018427387904
theorem DrB.step {D:Dc} {H H':Mem} {pv:Int×Int} {sv:Value} {st:List (Nat×Nat)} {Z16 Zq:Nat→Prop} {Ts:List QT} {TA TA':Nat→Nat→Prop} {Z:Nat→Nat→Prop} (h:DrB D H pv sv st Z16 Zq Ts TA) (hf:Fr Z H H')
  (hz:∀b o,(D.own b∧b≠D.hb)∨Z16 b∨Zq b∨(∃p∈Ts,QT.af p b o)→¬Z b o) (hz0:∀b o,b<D.n→Z b o→D.R0 b o) (hk:HintOk H' (.pointer (some ⟨D.hb,0,none⟩)) (fun b=>b=D.hb))
  (ht:∀b o,TA' b o→(TA b o∨H.size≤b)∧b<H'.size):DrB D H' pv sv st Z16 Zq Ts TA' where
 sz:=Nat.le_trans h.sz hf.size
 nb:=h.nb
 ow:=D.owf h.ow hf fun b o ⟨h1,h2,h3,_⟩=>hz _ _ (.inl ⟨.inl ⟨h1,h2⟩,h3⟩)
 hk:=hk
 m15:=hf.rd h.m15 fun _ _=>hz _ _ (.inl ⟨.inl (by have:=h.nb;omega),by have:=h.nb;omega⟩)
 w15:=hf.wr h.w15
 stk:=h.stk.fr hf fun b o _ hb=>hz _ _ (.inr (.inl hb))
 z16:=fun b hb=>⟨(h.z16 b hb).1,Nat.lt_of_lt_of_le (h.z16 b hb).2 hf.size⟩
 lst:=D.lsf h.lst hf fun b o hb=>hz b o (hb.elim (fun e=>.inl ⟨.inr e,by have:=h.nb;unfold Dc.n at *;omega⟩) (fun e=>.inr (.inr (.inl e))))
 zq:=fun b hb=>⟨(h.zq b hb).1,Nat.lt_of_lt_of_le (h.zq b hb).2 hf.size⟩
 zz:=h.zz
 pcs:=fun p hp=>(h.pcs p hp).fr hf fun b o hb=>hz _ _ (.inr (.inr (.inr ⟨p,hp,hb⟩)))
 dj:=fun b o hb=>by
  have key:(TA b o∨∃p∈Ts,QT.af p b o)→cx.base≤b∧¬(D.own b∨Z16 b∨Zq b)∧b<H'.size∧(D.TA0 b o∨D.n≤b):=fun hh=>by
   obtain ⟨h1,h2,h3,h4⟩:=h.dj b o hh
   exact ⟨h1,h2,Nat.lt_of_lt_of_le h3 hf.size,h4⟩
  rcases hb with hb|hb
  ·
   obtain ⟨h1,h2⟩:=ht b o hb
   rcases h1 with h1|h1
   · exact key (.inl h1)
   ·
    have:=h.sz;have:=h.nb
    refine ⟨by omega,fun hh=>?_,h2,.inr (by unfold Dc.n at *;omega)⟩
    rcases hh with hh|hh|hh
    ·
     rcases hh with hh|hh
     · omega
     · unfold Dc.n at *;omega
    · have:=(h.z16 b hh).2;omega
    · have:=(h.zq b hh).2;omega
  · exact key (.inr hb)
 djp:=fun b o p hp hb ht'=>by
  rcases (ht b o ht').1 with h1|h1
  · exact h.djp b o p hp hb h1
  · have:=(h.dj b o (.inr ⟨p,hp,hb⟩)).2.2.1;omega
 fr0:=h.fr0.trans' hf (fun _ _ _ hh=>hh) (fun b o hb hh=>hz0 b o hb hh)
 srz:=h.srz
theorem DrB.nw {D:Dc} {H H':Mem} {pv:Int×Int} {sv:Value} {st:List (Nat×Nat)} {Z16 Zq:Nat→Prop} {Ts:List QT} {TA:Nat→Nat→Prop} (h:DrB D H pv sv st Z16 Zq Ts TA) (hf:Fr nowhere H H'):DrB D H' pv sv st Z16 Zq Ts TA:=
 h.step hf (fun _ _ _ h=>h) (fun _ _ _ h=>h.elim) (h.hk.fr hf fun _ _ _ h=>h) (fun b o hb=>⟨.inl hb,Nat.lt_of_lt_of_le (h.dj b o (.inl hb)).2.2.1 hf.size⟩)
theorem DrB.piv {D:Dc} {H H':Mem} {pv pv':Int×Int} {sv:Value} {st:List (Nat×Nat)} {Z16 Zq:Nat→Prop} {Ts:List QT} {TA:Nat→Nat→Prop} (h:DrB D H pv sv st Z16 Zq Ts TA) (W:Wrote H H' (D.pb) 0 (EJ.enc pv')):DrB D H' pv' sv st Z16 Zq Ts TA where
 sz:=by rw [W.size];exact h.sz
 nb:=h.nb
 ow:=D.owf h.ow W.fr fun b o ⟨_,_,_,h4⟩=>nr (.inl h4)
 hk:=h.hk.fr W.fr fun b o hb=>nr (.inl (by have:=h.nb;omega))
 m15:=W.rd
 w15:=W.fr.wr h.w15
 stk:=h.stk.fr W.fr fun b o _ hb=>nr (.inl (by have:=(h.z16 b hb).1;have:=h.nb;omega))
 z16:=fun b hb=>by rw [W.size];exact h.z16 b hb
 lst:=D.lsf h.lst W.fr fun b o hb=>nr (.inl (hb.elim (fun e=>by have:=h.nb;unfold Dc.n at *;omega) (fun e=>by have:=(h.zq b e).1;have:=h.nb;omega)))
 zq:=fun b hb=>by rw [W.size];exact h.zq b hb
 zz:=h.zz
 pcs:=fun p hp=>(h.pcs p hp).fr W.fr fun b o hb=>nr (.inl (fun e=>(h.dj b o (.inr ⟨p,hp,hb⟩)).2.1 (.inl (.inl (by have:=h.nb;omega)))))
 dj:=fun b o hb=>by rw [W.size];exact h.dj b o hb
 djp:=h.djp
 fr0:=h.fr0.trans' W.fr (fun _ _ _ hh=>hh) (fun b o hb hh=>by have:=hh.1;have:=h.nb;unfold Dc.n at *;omega)
 srz:=h.srz
theorem DrB.stack {D:Dc} {H H':Mem} {pv:Int×Int} {sv sv':Value} {st st':List (Nat×Nat)} {Z16 Z16' Zq:Nat→Prop} {Ts:List QT} {TA:Nat→Nat→Prop} (h:DrB D H pv sv st Z16 Zq Ts TA) (hf:Fr (fun b _=>Z16 b) H H') (hs:Acc EK Z16' H' sv' (stI st')) (hz:∀b,Z16' b→(Z16 b∨H.size≤b)∧b<H'.size):DrB D H' pv sv' st' Z16' Zq Ts TA where
 sz:=Nat.le_trans h.sz hf.size
 nb:=h.nb
 ow:=D.owf h.ow hf fun b o h1 hh=>by have:=(h.z16 _ hh).1;omega
 hk:=h.hk.fr hf fun b o hb hh=>by have:=(h.z16 _ hh).1;have:=h.nb;omega
 m15:=hf.rd h.m15 fun _ _ hh=>by have:=(h.z16 _ hh).1;have:=h.nb;omega
 w15:=hf.wr h.w15
 stk:=hs
 z16:=fun b hb=>⟨(hz b hb).1.elim (fun hh=>(h.z16 b hh).1) (fun hh=>Nat.le_trans h.sz hh),(hz b hb).2⟩
 lst:=D.lsf h.lst hf fun b o hb hh=>hb.elim (fun e=>by have:=h.nb;have:=(h.z16 _ hh).1;unfold Dc.n at *;omega) (fun e=>h.zz b hh e)
 zq:=fun b hb=>⟨(h.zq b hb).1,Nat.lt_of_lt_of_le (h.zq b hb).2 hf.size⟩
 zz:=fun b hb hq=>(hz b hb).1.elim (fun hh=>h.zz b hh hq) (fun hh=>by have:=(h.zq b hq).2;omega)
 pcs:=fun p hp=>(h.pcs p hp).fr hf fun b o hb hh=>(h.dj b o (.inr ⟨p,hp,hb⟩)).2.1 (.inr (.inl hh))
 dj:=fun b o hb=>by
  obtain ⟨h1,h2,h3,h4⟩:=h.dj b o hb
  refine ⟨h1,fun hh=>h2 ?_,Nat.lt_of_lt_of_le h3 hf.size,h4⟩
  rcases hh with hh|hh|hh
  · exact .inl hh
  · exact (hz b hh).1.elim (fun h=>.inr (.inl h)) (fun h=>by omega)
  · exact .inr (.inr hh)
 djp:=h.djp
 fr0:=h.fr0.trans' hf (fun _ _ _ hh=>hh) (fun b o hb hh=>by have:=(h.z16 b hh).1;have:=h.nb;unfold Dc.n at *;omega)
 srz:=h.srz
theorem DrB.list {D:Dc} {H H':Mem} {pv:Int×Int} {sv:Value} {st:List (Nat×Nat)} {Z16 Zq Zq':Nat→Prop} {Ts:List QT} {p:QT} {TA:Nat→Nat→Prop} (h:DrB D H pv sv st Z16 Zq Ts TA) (hf:Fr (fun b _=>b=D.dl∨Zq b) H H') (hl:D.LS H' Zq' (Ts++[p])) (hq:∀b,Zq' b→(Zq b∨H.size≤b)∧b<H'.size)
  (hp:QT.ok H D.P p) (ha:∀b o,QT.af p b o→cx.base≤b∧¬(D.own b∨Z16 b∨Zq b)∧b<H.size∧(D.TA0 b o∨D.n≤b)∧¬TA b o) (hs:(QT.pc p).2.length<4611686018427387904):DrB D H' pv sv st Z16 Zq' (Ts++[p]) TA:=by
 have hn:∀b,D.n≤b→b<D.m→¬(b=D.dl∨Zq b):=fun b h1 h2 hh=>hh.elim (fun e=>by have:=h.nb.2.1;unfold Dc.n at *;omega) (fun e=>by have:=(h.zq b e).1;omega)
 have nb:=h.nb
 exact {
  sz:=Nat.le_trans h.sz hf.size
  nb:=h.nb
  ow:=D.owf h.ow hf fun b o ⟨h1,h2,_⟩=>hn b h1 h2
  hk:=h.hk.fr hf fun b o hb=>hn b (by omega) (by omega)
  m15:=hf.rd h.m15 fun _ _=>hn _ (by omega) (by omega)
  w15:=hf.wr h.w15
  stk:=h.stk.fr hf fun b o _ hb hh=>hh.elim (fun e=>by have:=(h.z16 _ hb).1;unfold Dc.n at *;omega) (fun e=>h.zz b hb e)
  z16:=fun b hb=>⟨(h.z16 b hb).1,Nat.lt_of_lt_of_le (h.z16 b hb).2 hf.size⟩
  lst:=hl
  zq:=fun b hb=>⟨(hq b hb).1.elim (fun hh=>(h.zq b hh).1) (fun hh=>Nat.le_trans h.sz hh),(hq b hb).2⟩
  zz:=fun b hb hb2=>(hq b hb2).1.elim (fun hh=>h.zz b hb hh) (fun hh=>by have:=(h.z16 b hb).2;omega)
  pcs:=fun r hr=>by
   rcases List.mem_append.1 hr with hr|hr
   · exact (h.pcs r hr).fr hf fun b o hb hh=>(h.dj b o (.inr ⟨r,hr,hb⟩)).2.1 (hh.elim (fun e=>.inl (.inr e)) (fun e=>.inr (.inr e)))
   ·
    rw [List.mem_singleton] at hr;subst hr
    exact hp.fr hf fun b o hb hh=>(ha b o hb).2.1 (hh.elim (fun e=>.inl (.inr e)) (fun e=>.inr (.inr e)))
  dj:=fun b o hb=>by
   have key:cx.base≤b∧¬(D.own b∨Z16 b∨Zq b)∧b<H.size∧(D.TA0 b o∨D.n≤b):=by
    rcases hb with hb|⟨r,hr,hb⟩
    · exact h.dj b o (.inl hb)
    ·
     rcases List.mem_append.1 hr with hr|hr
     · exact h.dj b o (.inr ⟨r,hr,hb⟩)
     ·
      rw [List.mem_singleton] at hr;subst hr
      obtain ⟨h1,h2,h3,h4,_⟩:=ha b o hb
      exact ⟨h1,h2,h3,h4⟩
   obtain ⟨h1,h2,h3,h4⟩:=key
   refine ⟨h1,fun hh=>h2 ?_,Nat.lt_of_lt_of_le h3 hf.size,h4⟩
   rcases hh with hh|hh|hh
   · exact .inl hh
   · exact .inr (.inl hh)
   · exact (hq b hh).1.elim (fun h=>.inr (.inr h)) (fun h=>by omega)
  djp:=fun b o r hr hb=>by
   rcases List.mem_append.1 hr with hr|hr
   · exact h.djp b o r hr hb
   ·
    rw [List.mem_singleton] at hr;subst hr
    exact (ha b o hb).2.2.2.2
  fr0:=h.fr0.trans' hf (fun _ _ _ hh=>hh) (fun b o hb hh=>hh.elim (fun e=>.inr (.inr e)) (fun e=>by have:=(h.zq b e).1;unfold Dc.n at *;omega))
  srz:=fun r hr=>by
   rcases List.mem_append.1 hr with hr|hr
   · exact h.srz r hr
   · rw [List.mem_singleton] at hr;subst hr;exact hs }
theorem DrB.keeps {D:Dc} {H:Mem} {pv:Int×Int} {sv:Value} {st:List (Nat×Nat)} {Z16 Zq:Nat→Prop} {Ts:List QT} {h0:Nat} {t0:Gt EJ h0} (h:DrB D H pv sv st Z16 Zq Ts (Gt.af h0 t0)) {Z:Nat→Nat→Prop} (hz:∀b o,Z b o→D.own b∨Z16 b∨Zq b):Keeps D.tr h0 t0 Z:=
 ⟨fun b o hb hh=>by
  rcases hz b o hh with hh|hh|hh
  ·
   have:=h.nb
   rcases hh with hh|hh
   · omega
   · omega
  · have:=(h.z16 b hh).1;have:=h.nb;omega
  · have:=(h.zq b hh).1;have:=h.nb;omega,fun b o hb hh=>(h.dj b o (.inl hb)).2.1 (hz b o hh)⟩
end
end Go.Bt.FG
