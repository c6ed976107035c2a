/- Contracts of functions of the program, proved by walking through their code. Conditions: those that each theorem names. -/
import Derived.Test.YtmcnochofpgfbaaProg
import Derived.Laws.StructEq
import Derived.Test.YtmcnochofpgfbaaTogG
import Derived.Test.YtmcnochofpgfbaaToKs
import Derived.Test.YtmcnochofpgfbaaTogL
set_option linter.unusedVariables false
namespace Go.Bt
open Go Go.Proofs Go.Proofs.Try
set_option maxRecDepth 20000
set_option maxHeartbeats 4000000
theorem st27:StT Try.prog 27 [(0,1),(1,1)] [.int .i64 0,.int .i64 0]:=⟨⟨_,underlying27,fun w=>by simp [Array.mapM_eq_mapM_toList,sizeOf3]⟩,zeroValue27⟩
theorem st77:StT Try.prog 77 [(0,2),(2,1)] [.int .i64 0,.int .i64 0,.bool false]:=⟨⟨_,underlying77,fun w=>by simp [Array.mapM_eq_mapM_toList,sizeOf4,sizeOf27]⟩,zeroValue77⟩
theorem rank_spec {B:World} {H:Mem} {v:Value} {ord:List Int} {k:Int} (ho:InS EN H v ord) (hl:ord.length<4611686018427387904):
  Fn Try.prog B 98 [v,.int .i64 k] H (fun r H'=>r=.int .i64 (rank ord k)∧H'=H):=by
 obtain ⟨a,c,rfl⟩:=ho.len
 refine fn_of func98 rfl ntmps98 ?_
 refine (show Go' _ _ _ _ 21 [(0,_),(1,_)] [.code _] _ from ?_)
 refine Ut 1 rfl (Ur 1 0 rfl (Uf 1 [0,1,4] rfl (Ut 1 rfl (Ur 3 0 rfl (Uf 3 [0,1,4,5] rfl (Ut 2 rfl ?_))))))
 by_cases h0:ord.length=0
 ·
  refine Ur 2 0 rfl (Uc 1 rfl (eqlT (by omega)) (Uf 0 [0,1,4,5,9] rfl (Go'.condT rfl (Ut 1 rfl (Ur 2 0 rfl (Uf 2 [0,1,4,5] rfl (Go'.ret (vs:=[_]) func98 results98 ⟨rfl,trivial⟩ ?_)))))))
  refine ⟨?_,rfl⟩
  unfold rank;rw [if_pos h0];rfl
 ·
  have hp:(0:Int)<ord.length:=by omega
  have b1:=Int.tmod_lt_of_pos k hp
  have b2:-(ord.length:Int)<k.tmod ord.length:=by
   have:=Int.lt_tmod_of_pos k hp
   omega
  have b3:=Int.tmod_lt_of_pos (k.tmod ord.length+ord.length) hp
  have b4:0≤(k.tmod ord.length+ord.length).tmod ord.length:=Int.tmod_nonneg _ (by omega)
  obtain ⟨j,hj⟩:=Int.eq_ofNat_of_zero_le b4
  obtain ⟨z,hz⟩:∃z,ord[j]?=some z:=⟨ord[j]'(by omega),List.getElem?_eq_getElem (by omega)⟩
  obtain ⟨b,o,c',e,hr⟩:=ho.at hz
  cases e
  refine Ur 2 0 rfl (Uc 1 rfl (eqlF (by omega)) (Uf 0 [0,1,4,5,9] rfl (Go'.condF rfl (Ut 2 rfl (Ur 11 262144 rfl (Uq 3 rfl (O.rem (k.tmod ord.length) rfl rfl rfl rfl rfl rfl (by omega) rfl (Ua 1 ((k.tmod ord.length+ord.length)) rfl (by omega) (Uq 1 rfl (O.rem ((j:Int)) rfl rfl rfl rfl rfl rfl (by omega) hj (Ux 0 j rfl (by omega) (by omega) ?_)))))))))))
  refine Ul 0 rfl (hr 0 _ rfl) (Uf 1 [4] rfl (Go'.ret (vs:=[_]) func98 results98 ⟨rfl,trivial⟩ ?_))
  refine ⟨?_,rfl⟩
  unfold rank;rw [if_neg h0,hj,Int.toNat_natCast,List.getD_eq_getElem?_getD,hz];rfl
theorem before_spec {B:World} {H:Mem} {v:Value} {ord:List Int} {x y:Int×Int} (ho:InS EN H v ord) (hl:ord.length<4611686018427387904):
  Fn Try.prog B 88 [v,.agg (EJ.enc x).toArray,.agg (EJ.enc y).toArray] H (fun r H'=>r=.bool ((OO ord).lt x y)∧Fr nowhere H H'):=by
 have hF:Fr nowhere H H:=Fr.refl _ _
 refine fn_of func88 rfl ntmps88 ?_
 refine (show Go' _ _ _ _ 16 [(0,_),(1,_),(2,_)] [.code _] _ from ?_)
 refine Ut 1 rfl (Ur 3 10 rfl (O.box rfl rfl rfl rfl ?_))
 intro H1 M1
 refine ⟨trivial,?_⟩
 replace ho:=ho.fr (M1.fr nowhere)
 replace hF:=hF.trans' (M1.fr nowhere) (fun _ _ _ h=>h) (fun _ _ _ h=>h.elim)
 have mi:Rd H1 H.size 0 (EJ.enc x):=M1.rd _ [] (by simp [Value.cells])
 refine O.box rfl rfl rfl rfl ?_
 intro H2 M2
 refine ⟨trivial,?_⟩
 replace ho:=ho.fr (M2.fr nowhere)
 replace mi:=(M2.fr nowhere).rd mi (fun _ _=>nw)
 replace hF:=hF.trans' (M2.fr nowhere) (fun _ _ _ h=>h) (fun _ _ _ h=>h.elim)
 have mj:Rd H2 H1.size 0 (EJ.enc y):=M2.rd _ [] (by simp [Value.cells])
 refine Uf 1 [0,4,5,6] rfl (Ut 1 rfl (Go'.draw (fun H'=>Rd H' H.size 0 (EJ.enc x)∧Rd H' H1.size 0 (EJ.enc y)) [(0,0),(1,0),(2,1),(4,0),(5,0),(6,0),(3,2),(7,2),(8,0),(9,0)] (by kernel_rfl) (by kernel_rfl) (⟨mi,mj⟩) (Ul 2 rfl (mi 0 _ rfl) (UL 2 rfl (fun _ h=>h.2 0 _ rfl) (O.callQ rfl rfl rfl call98 rfl (rank_spec ho hl) ⟨mi,mj⟩ (O.callQ rfl rfl rfl call98 rfl (rank_spec ho hl) ⟨mi,mj⟩ (Uc 0 rfl (show cmpOf .lss _ _=some ((OO ord).lt x y) from rfl) (Uf 1 [6] rfl (Go'.ret (vs:=[_]) func88 results88 ⟨rfl,trivial⟩ ?_)))))))))
 exact ⟨rfl,hF⟩
theorem place_spec {B:World} {H:Mem} {v u:Value} {ord:List Int} {l:List (Int×Int)} {x:Int×Int} (ho:InS EN H v ord) (hl:ord.length<4611686018427387904) (hi:InS EJ H u l) (hs:Pl.Srt (OO ord) l) (hll:l.length<4611686018427387904):
  Fn Try.prog B 65 [v,u,.agg (EJ.enc x).toArray] H (fun r H'=>r=.tuple #[.int .i64 ((Pl.pos (OO ord) x l:Nat):Int),.bool (Pl.fnd (OO ord) x l)]∧Fr nowhere H H'):=by
 have hF:Fr nowhere H H:=Fr.refl _ _
 obtain ⟨a,c,hu⟩:=hi.len
 subst hu
 refine fn_of func65 rfl ntmps65 ?_
 refine (show Go' _ _ _ _ 39 [(0,_),(1,_),(2,_)] [.code _] _ from ?_)
 refine Ut 1 rfl (Ur 3 2 rfl (O.box rfl rfl rfl rfl ?_))
 intro H1 M1
 refine ⟨trivial,?_⟩
 replace ho:=ho.fr (M1.fr nowhere)
 replace hi:=hi.fr (M1.fr nowhere)
 replace hF:=hF.trans' (M1.fr nowhere) (fun _ _ _ h=>h) (fun _ _ _ h=>h.elim)
 have mi:Rd H1 H.size 0 (EJ.enc x):=M1.rd _ [] (by simp [Value.cells])
 refine Uf 2 [0,1,5,6,7] rfl (Ut 1 rfl (Ur 1 0 rfl (Uf 1 [0,1,5,6,7,8] rfl (Ut 2 rfl (Go'.loop (Uk [0,1,5,8] rfl ?_))))))
 refine Go'.ind (σ:=Nat) (fun j=>l.length-j) (fun j H'=>Fr nowhere H1 H'∧j≤l.length∧∀i y,l[i]?=some y→i<j→(OO ord).lt y x=true)
  (fun j=>[(0,v),(1,.slice a l.length c),(5,.pointer (some ⟨H.size,0,none⟩)),(8,.int .i64 (j:Int))]) 0 ⟨Fr.refl _ _,Nat.zero_le _,fun i y _ h=>by omega⟩ rfl ?_
 rintro j H2 ⟨hF2,hjl,hlo⟩ ih
 replace ho:=ho.fr hF2
 replace hi:=hi.fr hF2
 replace mi:=hF2.rd mi (fun _ _=>nw)
 replace hF:=hF.trans hF2
 refine Ut 2 rfl ?_
 by_cases hlt:j<l.length
 ·
  obtain ⟨y,hy⟩:∃y,l[j]?=some y:=⟨l[j],List.getElem?_eq_getElem hlt⟩
  obtain ⟨b,o,c',e,hr⟩:=hi.at hy
  cases e
  refine Ud 13 9699328 (by kernel_rfl) (Uc 3 rfl (lssT (by omega)) (Ux 4 j rfl (by omega) hlt (Us 0 rfl hr rfl (Us 0 rfl mi rfl (O.call rfl rfl rfl call88 rfl (before_spec ho hl) ?_)))))
  rintro _ H3 ⟨rfl,hF3⟩
  refine ⟨trivial,?_⟩
  refine Uf 1 [0,1,5,8,21] rfl ?_
  cases hyx:(OO ord).lt y x
  ·
   refine Go'.condF rfl (Ut 2 rfl ?_)
   replace ho:=ho.fr hF3
   replace hr:=hF3.rd hr (fun _ _=>nw)
   replace mi:=hF3.rd mi (fun _ _=>nw)
   replace hF:=hF.trans hF3
   have hpos:Pl.pos (OO ord) x l=j:=by
    have e:l=l.take j++y::l.drop (j+1):=Bt.split_item hy
    have h2:=Pl.pos_eq (OO ord) (x:=x) (a:=l.take j) (b:=y::l.drop (j+1)) (fun z hz=>by
     obtain ⟨i,hi2,rfl⟩:=List.mem_iff_getElem.1 hz
     rw [List.length_take] at hi2
     exact hlo i _ (by rw [List.getElem?_eq_getElem (by omega),List.getElem_take]) (by omega)) (fun z hz=>by simp only [List.head?_cons,Option.some.injEq] at hz;subst hz;exact hyx)
    rw [←e,List.length_take] at h2
    omega
   have hfnd:Pl.fnd (OO ord) x l=!(OO ord).lt x y:=by unfold Pl.fnd;rw [hpos,hy]
   refine Ud 17 37765120 (by kernel_rfl) (Uc 4 rfl (lssT (by omega)) (Us 2 rfl mi rfl (Ux 2 j rfl (by omega) hlt (Us 0 rfl hr rfl (O.call rfl rfl rfl call88 rfl (before_spec ho hl) ?_)))))
   rintro _ H4 ⟨rfl,hF4⟩
   refine ⟨trivial,?_⟩
   refine Uf 4 [6,7] rfl (Go'.ret (vs:=[_,_]) func65 results65 ⟨rfl,rfl,trivial⟩ ?_)
   exact ⟨by rw [hpos,hfnd];rfl,hF.trans hF4⟩
  ·
   refine Go'.condT rfl (Ut 2 rfl (Ur 3 0 rfl (Ua 1 (((j+1:Nat):Int)) rfl (by omega) (Uf 1 [0,1,5,8,21] rfl (Ut 1 rfl (Uk [0,1,5,8] rfl (Go'.inLoop ?_)))))))
   exact ih (j+1) H3 ⟨hF2.trans hF3,hlt,fun i z hz hij=>by
    rcases Nat.lt_or_ge i j with h|h
    · exact hlo i z hz h
    ·
     obtain rfl:i=j:=by omega
     rw [hy] at hz;cases hz;exact hyx⟩ (by omega)
 ·
  obtain rfl:j=l.length:=by omega
  have hpos:Pl.pos (OO ord) x l=l.length:=by
   have h2:=Pl.pos_eq (OO ord) (x:=x) (a:=l) (b:=[]) (fun z hz=>by
    obtain ⟨i,hi2,rfl⟩:=List.mem_iff_getElem.1 hz
    exact hlo i _ (List.getElem?_eq_getElem hi2) hi2) (fun z hz=>by simp at hz)
   rw [List.append_nil] at h2
   exact h2
  have hfnd:Pl.fnd (OO ord) x l=false:=by unfold Pl.fnd;rw [hpos,List.getElem?_eq_none (Nat.le_refl _)]
  refine Ud 13 9699328 (by kernel_rfl) (Uc 3 rfl (lssF (by omega)) (Uq 7 rfl (Pl.pass2 rfl rfl rfl rfl trivial (Uf 1 [0,1,5,8,21] rfl (Go'.condF rfl (Ut 2 rfl (Ud 17 37765120 (by kernel_rfl) (Uc 4 rfl (lssF (by omega)) (Uq 7 rfl (Pl.pass2 rfl rfl rfl rfl trivial (Uf 4 [6,7] rfl ?_)))))))))))
  refine Go'.ret (vs:=[_,_]) func65 results65 ⟨rfl,rfl,trivial⟩ ?_
  exact ⟨by rw [hpos,hfnd];rfl,hF⟩
end Go.Bt
namespace Go.Bt
open Go Go.Proofs Go.Proofs.Try
set_option maxRecDepth 20000
set_option maxHeartbeats 4000000
theorem put_specA {B:World} {H:Mem} {v u:Value} {ord:List Int} {l:List (Int×Int)} {x:Int×Int} (ho:InS EN H v ord) (hl:ord.length<4611686018427387904) (hi:InS EJ H u l) (hs:Pl.Srt (OO ord) l) (hll:l.length≤4294967296):
  Fn Try.prog B 40 [v,u,.agg (EJ.enc x).toArray] H (fun r H'=>∃sv,r=.tuple #[sv,FV (Pl.got (OO ord) x l)]∧Acc EJ (fun b=>H.size≤b) H' sv (Pl.put (OO ord) x l)∧Fr nowhere H H'):=by
 have hF:Fr nowhere H H:=Fr.refl _ _
 have hple:=Pl.pos_le (OO ord) x l
 have hi0:=hi
 refine fn_of func40 rfl ntmps40 ?_
 refine (show Go' _ _ _ _ 45 [(0,_),(1,_),(2,_)] [.code _] _ from ?_)
 refine Ut 1 rfl (Ur 3 34 rfl (O.box rfl rfl rfl rfl ?_))
 intro H1 M1
 refine ⟨trivial,?_⟩
 have hs1:=M1.size
 replace ho:=ho.fr (M1.fr nowhere)
 replace hi:=hi.fr (M1.fr nowhere)
 replace hF:=hF.trans' (M1.fr nowhere) (fun _ _ _ h=>h) (fun _ _ _ h=>h.elim)
 have mi:Rd H1 H.size 0 (EJ.enc x):=M1.rd _ [] (by simp [Value.cells])
 refine Uq 1 rfl (O.alloc rfl rfl rfl zeroValue77 ?_)
 intro H2 M2
 refine ⟨trivial,?_⟩
 have hs2:=M2.size
 replace ho:=ho.fr (M2.fr nowhere)
 replace hi:=hi.fr (M2.fr nowhere)
 replace mi:=(M2.fr nowhere).rd mi (fun _ _=>nw)
 replace hF:=hF.trans' (M2.fr nowhere) (fun _ _ _ h=>h) (fun _ _ _ h=>h.elim)
 have m7:Wr H2 H1.size 0 3:=M2.wr 3 (by decide)
 refine Uf 0 [0,1,5,6,7] rfl (Ut 1 rfl (Ur 9 144 rfl (Us 2 rfl mi rfl (O.call rfl rfl rfl call65 rfl (place_spec ho hl hi hs (by omega)) ?_))))
 rintro _ H3 ⟨rfl,hF3⟩
 have hs3:=hF3.size
 replace ho:=ho.fr hF3
 replace hi:=hi.fr hF3
 replace mi:=hF3.rd mi (fun _ _=>nw)
 replace m7:=hF3.wr m7
 replace hF:=hF.trans' hF3 (fun _ _ _ h=>h) (fun _ _ _ h=>h.elim)
 refine ⟨trivial,?_⟩
 refine Uf 5 [1,5,6,7,8,9] rfl (Ut 1 rfl ?_)
 generalize hpi:Pl.pos (OO ord) x l=i at*
 refine Ur 6 514 rfl (O.bsl (cs:=[]) rfl rfl rfl ⟨underlying25,sizeOf27,zeroValue27,⟨_,typeInfo27,rfl⟩,rfl,by decide,by decide⟩ rfl (by decide) (by kernel_rfl) ?_)
 intro H4 M4
 have hs4:=M4.size
 replace ho:=ho.fr (M4.fr nowhere)
 replace hi:=hi.fr (M4.fr nowhere)
 replace mi:=(M4.fr nowhere).rd mi (fun _ _=>nw)
 replace m7:=(M4.fr nowhere).wr m7
 replace hF:=hF.trans' (M4.fr nowhere) (fun _ _ _ h=>h) (fun _ _ _ h=>h.elim)
 refine ⟨trivial,?_⟩
 refine Uq 2 rfl (O.slcIn (E:=EJ) (jl:=0) (jh:=i) rfl rfl rfl rfl underlying25 sizeOf27 rfl hi ⟨_,by rfl⟩ rfl (by omega) (by omega) ?_)
 intro v1 hv1
 rw [List.drop_zero,Nat.sub_zero] at hv1
 have hl1:(l.take i).length=i:=by rw [List.length_take];omega
 refine O.app (m:=(l.take i).length) (news:=(row EJ (l.take i))) rfl rfl rfl ⟨underlying25,sizeOf27,zeroValue27,⟨_,typeInfo27,rfl⟩,rfl,by decide,by decide⟩ rfl (Sl.none _ _ _ _) rfl hv1.src (row_len EJ _) (row_ones EJ _) (Nat.le_trans (Nat.mul_le_mul_left _ (Nat.le_of_ble_eq_true (n:=_) (m:=4096) rfl)) (by omega)) (by omega) ?_
 intro b1 o1 c1 H5 ha
 have hsz5:=ha.fr.size
 have hsl1:SlE EJ H5 b1 o1 c1 (l.take i):=SlE.of ha.sl (by rw [List.nil_append]) (Nat.zero_add _)
 have hb1:H.size+2≤b1:=by rcases ha.place with ⟨r,_⟩|⟨r,_⟩<;>omega
 replace ho:=ho.fr ha.quiet
 replace hi:=hi.fr ha.quiet
 replace mi:=ha.quiet.rd mi (fun _ _=>nw)
 replace m7:=ha.quiet.wr m7
 replace hF:=hF.trans' ha.quiet (fun _ _ _ h=>h) (fun _ _ _ h=>h.elim)
 refine ⟨trivial,?_⟩
 refine Uf 1 [1,5,6,7,8,9,10] rfl (Ut 1 rfl ?_)
 rw [Nat.zero_add]
 refine Ur 5 164 rfl (Us 1 rfl mi rfl (O.bsl (cs:=(EJ.enc x)) rfl rfl rfl ⟨underlying25,sizeOf27,zeroValue27,⟨_,typeInfo27,rfl⟩,rfl,by decide,by decide⟩ rfl (by decide) (by kernel_rfl) ?_))
 intro H6 M6
 have hs6:=M6.size
 replace ho:=ho.fr (M6.fr nowhere)
 replace hi:=hi.fr (M6.fr nowhere)
 replace mi:=(M6.fr nowhere).rd mi (fun _ _=>nw)
 replace m7:=(M6.fr nowhere).wr m7
 replace hF:=hF.trans' (M6.fr nowhere) (fun _ _ _ h=>h) (fun _ _ _ h=>h.elim)
 replace hsl1:=hsl1.fr (M6.fr nowhere) (fun _ _ _=>nw)
 have m6:Rd H6 H5.size 0 (EJ.enc x):=M6.rd _ [] (by simp)
 refine ⟨trivial,?_⟩
 refine O.app (m:=1) (news:=(EJ.enc x)) rfl rfl rfl ⟨underlying25,sizeOf27,zeroValue27,⟨_,typeInfo27,rfl⟩,rfl,by decide,by decide⟩ rfl hsl1 rfl (.inl ⟨_,_,_,rfl,m6⟩) rfl rfl (Nat.le_trans (Nat.mul_le_mul_left _ (Nat.le_of_ble_eq_true (n:=_) (m:=4096) rfl)) (by omega)) (by omega) ?_
 intro b2 o2 c2 H7 ha2
 have hsz7:=ha2.fr.size
 have hsl2:Sl H7 b2 o2 ((l.take i).length+1) c2 2 (row EJ (l.take i++[x])):=by rw [row_append,row_one];exact ha2.sl
 have hb2:H.size+2≤b2:=by rcases ha2.place with ⟨r,_⟩|⟨r,_⟩<;>omega
 replace m7:=ha2.fr.wr m7
 replace hF:=hF.trans' ha2.fr (fun _ _ _ h=>h) (fun b o hb hz=>by have h1:=hz.1;omega)
 replace hi:=hi0.fr hF
 refine ⟨trivial,?_⟩
 refine Uf 1 [1,6,7,8,9,10] rfl (Ut 2 rfl (Ur 1 0 rfl (Uf 1 [1,6,7,8,10,27] rfl ?_)))
 cases hfd:Pl.fnd (OO ord) x l
 ·
  refine Go'.condF rfl (Ut 2 rfl (Ur 8 33280 rfl (Uq 3 rfl (O.slcIn (E:=EJ) (jl:=i) (jh:=l.length) rfl rfl rfl rfl underlying25 sizeOf27 rfl hi rfl ⟨_,by rfl⟩ (by omega) (by omega) ?_))))
  intro v2 hv2
  rw [List.take_of_length_le (by rw [List.length_drop];omega)] at hv2
  refine O.app (m:=(l.drop i).length) (news:=(row EJ (l.drop i))) rfl rfl rfl ⟨underlying25,sizeOf27,zeroValue27,⟨_,typeInfo27,rfl⟩,rfl,by decide,by decide⟩ rfl hsl2 rfl hv2.src (row_len EJ _) (row_ones EJ _) (Nat.le_trans (Nat.mul_le_mul_left _ (Nat.le_of_ble_eq_true (n:=_) (m:=4096) rfl)) (by rw [List.length_drop];omega)) (by rw [List.length_drop];omega) ?_
  intro b3 o3 c3 H8 ha3
  have hsz8:=ha3.fr.size
  have hsl3:SlE EJ H8 b3 o3 c3 (l.take i++[x]++l.drop i):=SlE.of ha3.sl (by rw [←row_append]) (by rw [List.length_append,List.length_append];rfl)
  have hb3:H.size+2≤b3:=by rcases ha3.place with ⟨r,_⟩|⟨r,_⟩<;>omega
  replace m7:=ha3.fr.wr m7
  replace hF:=hF.trans' ha3.fr (fun _ _ _ h=>h) (fun b o hb hz=>by have h1:=hz.1;omega)
  refine ⟨trivial,?_⟩
  refine O.bld (cs:=(fvs none)) rfl rfl rfl rfl (st77) rfl (by kernel_rfl) (Uq 1 rfl (O.st rfl rfl sizeOf77 rfl rfl rfl rfl rfl m7 ?_))
  intro H9 W9
  replace hsl3:=hsl3.fr W9.fr (fun _ _ _=>nr (.inl (by omega)))
  replace hF:=hF.trans' W9.fr (fun _ _ _ h=>h) (fun b o hb hz=>by have h1:=hz.1;omega)
  have hfin:Pl.put (OO ord) x l=l.take i++[x]++l.drop (i+(Pl.fnd (OO ord) x l).toNat):=by unfold Pl.put;rw [hpi];simp
  refine ⟨trivial,?_⟩
  refine Uf 0 [6,7] rfl (Go'.ret (vs:=[_,_]) func40 results40 ⟨rfl,⟨_,_,rfl,fun _ _=>run_loadVar_agg (fun w=>⟨isAgg77 w,sizeOf77 w⟩) rfl W9.all⟩,trivial⟩ ?_)
  refine ⟨_,by rw [Pl.got_none _ hfd];rfl,.inr ⟨b3,o3,c3,?_,by omega,hsl3.lt (by have h1:=hsl3.hle;simp only [List.length_append,List.length_cons,List.length_nil] at h1;show 0<c3*2;omega),?_⟩,hF⟩
  · rw [hfin,hfd];simp only [Bool.toNat_false,Nat.add_zero,List.length_append];rfl
  · rw [hfin,hfd];exact hsl3
 ·
  refine Go'.condT rfl (Ut 1 rfl ?_)
  obtain ⟨y,hy,_,_⟩:=Pl.fnd_at (OO ord) hs hfd
  rw [hpi] at hy
  have hil:i<l.length:=(List.getElem?_eq_some_iff.1 hy).1
  obtain ⟨bl,ol,cl',hue,hir⟩:=hi.at hy
  have hbl:bl<H.size:=by
   obtain ⟨b0,o0,c0,hue0,hir0⟩:=hi0.at hy
   rw [hue] at hue0
   cases hue0
   exact cl_lt (hir0 0 _ rfl)
  subst hue
  refine Go'.draw (fun H'=>Rd H' bl (ol+i*2) (EJ.enc y)) [(0,0),(1,0),(2,0),(3,0),(4,0),(6,0),(7,0),(8,0),(9,0),(10,0),(5,2),(11,0),(12,3)] (by kernel_rfl) (by kernel_rfl) (hir) (Ua 3 (((i+1:Nat):Int)) rfl (by omega) (O.slcIn (E:=EJ) (jl:=i+1) (jh:=l.length) rfl rfl rfl rfl underlying25 sizeOf27 rfl hi rfl ⟨_,by rfl⟩ (by omega) (by omega) ?_))
  intro v2 hv2
  rw [List.take_of_length_le (by rw [List.length_drop];omega)] at hv2
  refine Ux 2 i rfl (by omega) (by omega) (US 0 rfl (fun _ h=>h) rfl (O.bld (cs:=(fvs (some y))) rfl rfl rfl rfl (st77) rfl (by kernel_rfl) (O.app (m:=(l.drop (i+1)).length) (news:=(row EJ (l.drop (i+1)))) rfl rfl rfl ⟨underlying25,sizeOf27,zeroValue27,⟨_,typeInfo27,rfl⟩,rfl,by decide,by decide⟩ rfl hsl2 rfl hv2.src (row_len EJ _) (row_ones EJ _) (Nat.le_trans (Nat.mul_le_mul_left _ (Nat.le_of_ble_eq_true (n:=_) (m:=4096) rfl)) (by rw [List.length_drop];omega)) (by rw [List.length_drop];omega) ?_)))
  intro b3 o3 c3 H8 ha3
  have hsz8:=ha3.fr.size
  have hsl3:SlE EJ H8 b3 o3 c3 (l.take i++[x]++l.drop (i+1)):=SlE.of ha3.sl (by rw [←row_append]) (by rw [List.length_append,List.length_append];rfl)
  have hb3:H.size+2≤b3:=by rcases ha3.place with ⟨r,_⟩|⟨r,_⟩<;>omega
  replace m7:=ha3.fr.wr m7
  replace hF:=hF.trans' ha3.fr (fun _ _ _ h=>h) (fun b o hb hz=>by have h1:=hz.1;omega)
  replace hir:=ha3.fr.rd hir (fun _ _=>nr (.inl (by omega)))
  refine ⟨hir,?_⟩
  refine Uq 1 rfl (O.st3 rfl rfl sizeOf77 rfl rfl rfl rfl rfl m7 ?_)
  intro H9 W9
  replace hsl3:=hsl3.fr W9.fr (fun _ _ _=>nr (.inl (by omega)))
  replace hF:=hF.trans' W9.fr (fun _ _ _ h=>h) (fun b o hb hz=>by have h1:=hz.1;omega)
  have hfin:Pl.put (OO ord) x l=l.take i++[x]++l.drop (i+(Pl.fnd (OO ord) x l).toNat):=by unfold Pl.put;rw [hpi];simp
  refine Uf 0 [1,6,7,8,10] rfl (Go'.ret (vs:=[_,_]) func40 results40 ⟨rfl,⟨_,_,rfl,fun _ _=>run_loadVar_agg (fun w=>⟨isAgg77 w,sizeOf77 w⟩) rfl W9.all⟩,trivial⟩ ?_)
  refine ⟨_,by rw [Pl.got_some _ hfd,hpi,hy];rfl,.inr ⟨b3,o3,c3,?_,by omega,hsl3.lt (by have h1:=hsl3.hle;simp only [List.length_append,List.length_cons,List.length_nil] at h1;show 0<c3*2;omega),?_⟩,hF⟩
  · rw [hfin,hfd];simp only [Bool.toNat_true,List.length_append];rfl
  · rw [hfin,hfd];exact hsl3
theorem put_spec {B:World} {H:Mem} {v u:Value} {ord:List Int} {l:List (Int×Int)} {x:Int×Int} (ho:InS EN H v ord) (hl:ord.length<4611686018427387904) (hi:InS EJ H u l) (hs:Pl.Srt (OO ord) l) (hll:l.length≤4294967296):
  Fn Try.prog B 40 [v,u,.agg (EJ.enc x).toArray] H (fun r H'=>∃sv,r=.tuple #[sv,FV (Pl.got (OO ord) x l)]∧OutS EJ H' sv (Pl.put (OO ord) x l)∧Fr nowhere H H'):=
 (put_specA ho hl hi hs hll).mono fun _ _ ⟨sv,e,h,k⟩=>⟨sv,e,h.out,k⟩
end Go.Bt
namespace Go.Bt
open Go Go.Proofs Go.Proofs.Try
set_option maxRecDepth 20000
set_option maxHeartbeats 4000000
theorem tree_spec {B:World} {H:Mem} {v u:Value} {ord:List Int} {l:List (Int×Int)} (ho:InS EN H v ord) (hl:ord.length<4611686018427387904) (hi:InS EJ H u l) (hll:l.length≤4294967296):
  Fn Try.prog B 15 [v,u] H (fun r H'=>OutS EJ H' r (Pl.puts (OO ord) l)∧Fr nowhere H H'):=by
 obtain ⟨a,c,hu⟩:=hi.len
 subst hu
 refine fn_of func15 rfl ntmps15 ?_
 refine (show Go' _ _ _ _ 23 [(0,_),(1,_)] [.code _] _ from ?_)
 refine Ut 1 rfl (Ur 1 0 rfl (Uf 1 [0,1,4] rfl (Ut 1 rfl (Ur 1 0 rfl (Uf 1 [0,1,4,5] rfl (Ut 2 rfl (Ur 3 0 rfl (Uf 3 [0,4,5,8,9,10] rfl (Ut 1 rfl (Go'.loop (Uk [0,5,8,9,10] rfl ?_)))))))))))
 refine Go'.ind (σ:=Nat×Value) (fun s=>l.length-s.1) (fun s H'=>Fr nowhere H H'∧s.1≤l.length∧OutS EJ H' s.2 (Pl.puts (OO ord) (l.take s.1)))
  (fun s=>[(0,v),(5,s.2),(8,.slice a l.length c),(9,.int .i64 (l.length:Int)),(10,.int .i64 (s.1:Int))]) (0,.slice none 0 0) ⟨Fr.refl _ _,Nat.zero_le _,.inl ⟨rfl,rfl⟩⟩ rfl ?_
 rintro ⟨j,sv⟩ H2 ⟨hF,hjl,hsv⟩ ih
 simp only at hjl hsv
 have ho2:=ho.fr hF
 have hi2:=hi.fr hF
 refine Ut 1 rfl ?_
 by_cases hlt:j<l.length
 ·
  obtain ⟨y,hy⟩:∃y,l[j]?=some y:=⟨l[j],List.getElem?_eq_getElem hlt⟩
  obtain ⟨b,o,c',e,hr⟩:=hi2.at hy
  cases e
  have hpl:=Pl.puts_length (OO ord) (l.take j)
  rw [List.length_take] at hpl
  refine Ur 1 0 rfl (Uc 0 rfl (lssT (by omega)) (Uf 0 [0,5,8,9,10,11] rfl (Ut 1 rfl (Go'.condT rfl (Ut 4 rfl (Ur 4 164 rfl (Ux 0 j rfl (by omega) hlt (Us 0 rfl hr rfl (O.alloc rfl rfl rfl zeroValue27 ?_)))))))))
  intro H3 M3
  refine ⟨trivial,?_⟩
  have hs3:=M3.size
  replace ho2:=ho2.fr (M3.fr nowhere)
  have m7:Wr H3 H2.size 0 2:=M3.wr 2 (by decide)
  refine O.st rfl rfl sizeOf27 rfl rfl rfl rfl rfl m7 ?_
  intro H4 W4
  have hs4:=W4.size
  have hf4:Fr nowhere H2 H4:=(M3.fr nowhere).trans' W4.fr (fun _ _ _ h=>h) (fun b o hb hz=>by have h1:=hz.1;omega)
  have ho4:=(ho.fr hF).fr hf4
  have hsv4:=hsv.inS.fr hf4
  refine ⟨trivial,?_⟩
  refine Uf 0 [0,5,7,8,9,10,11] rfl (Ur 8 144 rfl (Us 2 rfl W4.all rfl (O.call rfl rfl rfl call40 rfl (put_spec ho4 hl hsv4 (Pl.puts_srt _ _) (by omega)) ?_)))
  rintro _ H5 ⟨sv2,rfl,hsv2,hF5⟩
  refine ⟨trivial,?_⟩
  refine Uf 4 [0,5,7,8,9,10,11] rfl (Ut 1 rfl (Ur 2 0 rfl (Ua 0 (((j+1:Nat):Int)) rfl (by omega) (Uf 1 [0,5,7,8,9,10,11] rfl (Uk [0,5,8,9,10] rfl (Go'.inLoop ?_))))))
  exact ih (j+1,sv2) H5 ⟨(hF.trans hf4).trans hF5,hlt,by
   rw [List.take_add_one,hy]
   rw [←Pl.puts_snoc] at hsv2
   exact hsv2⟩ (by simp only;omega)
 ·
  obtain rfl:j=l.length:=by omega
  refine Ur 1 0 rfl (Uc 0 rfl (lssF (by omega)) (Uf 0 [0,5,8,9,10,11] rfl (Ut 1 rfl (Go'.condF rfl (Ut 2 rfl (Ur 2 0 rfl (Uf 2 [4] rfl (Go'.ret (vs:=[_]) func15 results15 ⟨rfl,trivial⟩ ?_))))))))
  rw [List.take_length] at hsv
  exact ⟨hsv,hF⟩
end Go.Bt
namespace Go.Bt.FG
open Go Go.Proofs Go.Proofs.Try
set_option maxRecDepth 20000
set_option maxHeartbeats 4000000
set_option linter.unusedSectionVars false
@[reducible] def nilCx:Inhabited Cx:=⟨⟨[],0,.bool false,0,fun _=>False⟩⟩
def exl:List (Int×Int):=[(5,1),(3,2),(9,3),(3,4),(1,5),(7,6),(8,7)]
theorem exItems_spec {B:World} {H:Mem}:Fn Try.prog B 23 [] H (fun r H'=>InS EJ H' r exl∧Fr nowhere H H'):=by
 refine fn_of func23 rfl ntmps23 ?_
 refine (show Go' _ _ _ _ 9 [] [.code _] _ from ?_)
 refine Ut 1 rfl (Ur 1 0 rfl (Uf 1 [0] rfl (Ut 1 rfl (Ur 9 32768 rfl (O.bld (cs:=[.int .i64 5,.int .i64 1]) rfl rfl rfl rfl (st27) rfl (by kernel_rfl) (O.bld (cs:=[.int .i64 3,.int .i64 2]) rfl rfl rfl rfl (st27) rfl (by kernel_rfl) (O.bld (cs:=[.int .i64 9,.int .i64 3]) rfl rfl rfl rfl (st27) rfl (by kernel_rfl) (O.bld (cs:=[.int .i64 3,.int .i64 4]) rfl rfl rfl rfl (st27) rfl (by kernel_rfl) (O.bld (cs:=[.int .i64 1,.int .i64 5]) rfl rfl rfl rfl (st27) rfl (by kernel_rfl) (O.bld (cs:=[.int .i64 7,.int .i64 6]) rfl rfl rfl rfl (st27) rfl (by kernel_rfl) (O.bld (cs:=[.int .i64 8,.int .i64 7]) rfl rfl rfl rfl (st27) rfl (by kernel_rfl) ?_)))))))))))
 refine O.bsl (cs:=(row EJ exl)) rfl rfl rfl ⟨underlying25,sizeOf27,zeroValue27,⟨_,typeInfo27,rfl⟩,rfl,by decide,by decide⟩ rfl (by decide) (by kernel_rfl) ?_
 intro H1 M1
 refine ⟨trivial,?_⟩
 refine Uf 1 [0] rfl (Go'.ret (vs:=[_]) func23 results23 ⟨rfl,trivial⟩ ?_)
 exact ⟨.inl ⟨H.size,0,7,rfl,by decide,M1.rd _ [] (by simp)⟩,M1.fr nowhere⟩
def fitsb (z:Int):Bool:=decide (z=0)||(decide (2≤z)&&decide (z≤128))
theorem fits_spec {B:World} {H:Mem} {z:Int}:Fn Try.prog B 24 [.int .i64 z] H (fun r H'=>r=.bool (fitsb z)∧H'=H):=by
 refine fn_of func24 rfl ntmps24 ?_
 refine (show Go' _ _ _ _ 13 [(0,_)] [.code _] _ from ?_)
 refine Ut 1 rfl (Ur 1 0 rfl (Uf 1 [0,2] rfl (Ut 1 rfl ?_)))
 by_cases h0:z=0
 ·
  refine Ur 11 0 rfl (Uc 1 rfl (eqlT (by omega)) (Uf 9 [2] rfl (Go'.ret (vs:=[_]) func24 results24 ⟨rfl,trivial⟩ ?_)))
  subst h0;exact ⟨rfl,rfl⟩
 by_cases h2:2≤z
 ·
  by_cases h3:z≤128
  ·
   refine Ur 11 0 rfl (Uc 1 rfl (eqlF (by omega)) (Uc 2 rfl (geqT (by omega)) (Uc 2 rfl (leqT (by omega)) (Uf 3 [2] rfl (Go'.ret (vs:=[_]) func24 results24 ⟨rfl,trivial⟩ ?_)))))
   exact ⟨by unfold fitsb;rw [decide_eq_false h0,decide_eq_true h2,decide_eq_true h3];rfl,rfl⟩
  ·
   refine Ur 11 0 rfl (Uc 1 rfl (eqlF (by omega)) (Uc 2 rfl (geqT (by omega)) (Uc 2 rfl (leqF (by omega)) (Uf 3 [2] rfl (Go'.ret (vs:=[_]) func24 results24 ⟨rfl,trivial⟩ ?_)))))
   exact ⟨by unfold fitsb;rw [decide_eq_false h0,decide_eq_true h2,decide_eq_false h3];rfl,rfl⟩
 ·
  refine Ur 11 0 rfl (Uc 1 rfl (eqlF (by omega)) (Uc 2 rfl (geqF (by omega)) (Uf 6 [2] rfl (Go'.ret (vs:=[_]) func24 results24 ⟨rfl,trivial⟩ ?_))))
  exact ⟨by unfold fitsb;rw [decide_eq_false h0,decide_eq_false h2];rfl,rfl⟩
theorem fits_spec' {B:World} {H:Mem} {z:Int} {b:Bool} (h:fitsb z=b):Fn Try.prog B 24 [.int .i64 z] H (fun r H'=>r=.bool b∧H'=H):=h▸fits_spec
theorem fitsb_nat {z:Int} (h:fitsb z=true):∃d:Nat,z=(d:Int)∧(d=0∨2≤d∧d≤128):=by
 unfold fitsb at h
 simp only [Bool.or_eq_true,Bool.and_eq_true,decide_eq_true_eq] at h
 exact ⟨z.toNat,by omega,by omega⟩
theorem st24:StT Try.prog 24 [(0,1),(1,1),(2,1)] [.slice none 0 0,.int .i64 0,.bool false]:=⟨⟨_,underlying24,fun w=>by simp [Array.mapM_eq_mapM_toList,sizeOf3,sizeOf4,sizeOf22]⟩,zeroValue24⟩
theorem exMake_spec {B:World} {H:Mem}:Fn Try.prog B 22 [] H (fun r H'=>r=.agg #[.slice none 0 0,.int .i64 ((2:Nat):Int),.bool false]∧Fr nowhere H H'):=by
 refine fn_of func22 rfl ntmps22 ?_
 refine (show Go' _ _ _ _ 2 [] [.code _] _ from ?_)
 refine Ut 1 rfl (Ur 1 2 rfl (O.alloc rfl rfl rfl zeroValue24 ?_))
 intro H1 M1
 refine ⟨trivial,?_⟩
 have mw:Wr H1 H.size 0 3:=M1.wr 3 (by decide)
 refine Uf 0 [0] rfl (Ut 1 rfl (Ur 2 8 rfl (O.bld (cs:=[.slice none 0 0,.int .i64 ((2:Nat):Int),.bool false]) rfl rfl rfl rfl (st24) rfl (by kernel_rfl) (O.st rfl rfl sizeOf24 rfl rfl rfl rfl rfl mw ?_))))
 intro H2 W2
 refine ⟨trivial,?_⟩
 refine Uf 0 [0] rfl (Go'.ret (vs:=[_]) func22 results22 ⟨⟨_,_,rfl,fun _ _=>run_loadVar_agg (fun w=>⟨isAgg24 w,sizeOf24 w⟩) rfl W2.all⟩,trivial⟩ ?_)
 exact ⟨rfl,(M1.fr nowhere).trans' W2.fr (fun _ _ _ h=>h) (fun b o hb h=>by have h':=h.1;omega)⟩
theorem zzFits1_spec {B:World} {H:Mem} {v:Value} {z:Int} {nl:Bool} {ord:List Int} {b:Bool} (ho:InS EN H v ord) (hb:decide (ord.length≤2147483647)=b):Fn Try.prog B 7 [.agg #[v,.int .i64 z,.bool nl]] H (fun r H'=>r=.bool b∧Fr nowhere H H'):=by
 obtain ⟨av,cv,hv⟩:=ho.len
 generalize hmv:ord.length=mv at*
 subst hv
 have hF:Fr nowhere H H:=Fr.refl _ _
 refine fn_of func7 rfl ntmps7 ?_
 refine (show Go' _ _ _ _ 7 [(0,_)] [.code _] _ from ?_)
 refine Ut 1 rfl (Ur 2 2 rfl (O.box rfl rfl rfl rfl ?_))
 intro B1 MB1
 refine ⟨trivial,?_⟩
 have hsB1:=MB1.size
 replace hF:=hF.trans (MB1.fr nowhere)
 have mx:Rd B1 H.size 0 [.slice av mv cv,.int .i64 z,.bool nl]:=MB1.rd _ [] (by simp [Value.cells])
 have mx0:cl B1 H.size 0=some (.slice av mv cv):=mx 0 _ rfl
 have mx1:cl B1 H.size (0+1)=some (.int .i64 z):=mx 1 _ rfl
 refine Uf 1 [1,2] rfl (Ut 2 rfl ?_)
 cases b
 ·
  refine Ur 4 4 rfl (Ul 1 rfl mx0 (Uc 1 rfl (gtrT (by have:=of_decide_eq_false hb;omega)) (Uf 0 [2,6] rfl (Go'.condT rfl (Ut 1 rfl (Ur 1 0 rfl (Uf 1 [2] rfl (Go'.ret (vs:=[_]) func7 results7 ⟨rfl,trivial⟩ ?_))))))))
  exact ⟨rfl,hF⟩
 ·
  refine Ur 4 4 rfl (Ul 1 rfl mx0 (Uc 1 rfl (gtrF (by have:=of_decide_eq_true hb;omega)) (Uf 0 [2,6] rfl (Go'.condF rfl (Ut 2 rfl (Ur 1 0 rfl (Uf 1 [2] rfl (Go'.ret (vs:=[_]) func7 results7 ⟨rfl,trivial⟩ ?_))))))))
  exact ⟨rfl,hF⟩
theorem lfits_spec {B:World} {H:Mem} {v:Value} {z:Int} {nl b:Bool} (hv:∃a m c,v=.slice a m c) (h:fitsb z=b):Fn Try.prog B 8 [.agg #[v,.int .i64 z,.bool nl]] H (fun r H'=>r=.bool b∧Fr nowhere H H'):=by
 obtain ⟨av,mv,cv,rfl⟩:=hv
 have hF:Fr nowhere H H:=Fr.refl _ _
 refine fn_of func8 rfl ntmps8 ?_
 refine (show Go' _ _ _ _ 6 [(0,_)] [.code _] _ from ?_)
 refine Ut 1 rfl (Ur 2 2 rfl (O.box rfl rfl rfl rfl ?_))
 intro B1 MB1
 refine ⟨trivial,?_⟩
 have hsB1:=MB1.size
 replace hF:=hF.trans (MB1.fr nowhere)
 have mm:Rd B1 H.size 0 [.slice av mv cv,.int .i64 z,.bool nl]:=MB1.rd _ [] (by simp [Value.cells])
 have mm0:cl B1 H.size 0=some (.slice av mv cv):=mm 0 _ rfl
 have mm1:cl B1 H.size (0+1)=some (.int .i64 z):=mm 1 _ rfl
 refine Uf 1 [1,2] rfl (Ut 1 rfl (Ur 4 36 rfl (Ul 1 rfl mm1 (O.callQ rfl rfl rfl call24 rfl (fits_spec' h) trivial (Uf 1 [2] rfl (Go'.ret (vs:=[_]) func8 results8 ⟨rfl,trivial⟩ ?_))))))
 exact ⟨rfl,hF⟩
end Go.Bt.FG
namespace Go.Bt.FG
open Go Go.Proofs Go.Proofs.Try
set_option maxRecDepth 20000
set_option maxHeartbeats 4000000
set_option linter.unusedSectionVars false
theorem fields27:Try.prog.underlying 27=some (.struct (Try.prog.fieldsOf 27)):=by unfold Program.fieldsOf;rw [underlying27]
theorem item_eq (d:Nat) (x:Int×Int) (w:World):(Op.equalIn (d+2) 27 (.agg #[.int .i64 x.1,.int .i64 x.2]) (.agg #[.int .i64 x.1,.int .i64 x.2])).run Try.prog w=.ok true w:=by
 rw [run_equalIn_agg w (d+1) 27 _ _ fields27 Try.stoodInHeld27]
 simp [Op.eqFields,Program.fieldsOf,underlying27,part,isAgg3,run_equalIn_int w d 3 _ _ _ _ underlying3]
theorem item_neq (x:Int×Int) (a b:Operand) (w:World):(eqGuard .neq 27 a b (.agg (EJ.enc x).toArray) (.agg (EJ.enc x).toArray)).run Try.prog w=.ok () w∧(binOp .neq 27 (.agg (EJ.enc x).toArray) (.agg (EJ.enc x).toArray)).run Try.prog w=.ok (.bool false) w:=by
 refine ⟨run_eqGuard_agg w _ _ _ _ _ _ Try.eqGuardType27,?_⟩
 rw [run_neq_struct]
 have h:(Op.equalIn 10000 27 (.agg (EJ.enc x).toArray) (.agg (EJ.enc x).toArray)).run Try.prog w=.ok true w:=item_eq 9998 x w
 rw [h];rfl
theorem eqItems_spec {B:World} {H:Mem} {u v:Value} {l:List (Int×Int)} (hu:InS EJ H u l) (hv:InS EJ H v l) (hll:l.length≤4294967296):
  Fn Try.prog B 12 [u,v] H (fun r H'=>r=.bool true∧H'=H):=by
 obtain ⟨a,c,e⟩:=hu.len
 subst e
 obtain ⟨a',c',e⟩:=hv.len
 subst e
 refine fn_of func12 rfl ntmps12 ?_
 refine (show Go' _ _ _ _ 26 [(0,_),(1,_)] [.code _] _ from ?_)
 refine Ut 1 rfl (Ur 1 0 rfl (Uf 1 [0,1,4] rfl (Ut 2 rfl (Ur 5 0 rfl (Uc 4 rfl (neqF (by omega)) (Uf 0 [0,1,4,10] rfl (Go'.condF rfl (Ut 3 rfl (Ur 3 0 rfl (Uf 3 [0,1,4,12,13] rfl (Ut 1 rfl ?_)))))))))))
 refine Go'.loop (Uk [0,1,4,12,13] rfl ?_)
 refine Go'.ind (σ:=Nat) (fun j=>l.length-j) (fun j H'=>H'=H∧j≤l.length)
  (fun j=>[(0,.slice a l.length c),(1,.slice a' l.length c'),(4,.bool false),(12,.int .i64 (l.length:Int)),(13,.int .i64 (j:Int))]) 0 ⟨rfl,Nat.zero_le _⟩ rfl ?_
 rintro j H2 ⟨hHH,hjl⟩ ih
 have eH:H=H2:=hHH.symm
 subst eH
 clear hHH
 refine Ut 1 rfl ?_
 by_cases hlt:j<l.length
 ·
  obtain ⟨y,hy⟩:∃y,l[j]?=some y:=⟨l[j],List.getElem?_eq_getElem hlt⟩
  obtain ⟨b,o,cc,e,hr⟩:=hu.at hy
  cases e
  obtain ⟨b',o',cc',e,hr'⟩:=hv.at hy
  cases e
  refine Ur 1 0 rfl (Uc 0 rfl (lssT (by omega)) (Uf 0 [0,1,4,12,13,14] rfl (Ut 1 rfl (Go'.condT rfl (Ut 4 rfl (Ur 2 0 rfl (Uf 2 [0,1,4,5,12,13,14] rfl (Ut 1 rfl (Ud 9 16448 (by kernel_rfl) (Ux 2 j rfl (by omega) hlt (Us 0 rfl hr rfl ?_)))))))))))
  refine Ux 2 j rfl (by omega) hlt (Us 0 rfl hr' rfl (O.bin rfl rfl rfl rfl rfl rfl (item_neq y _ _) (Uf 0 [0,1,4,5,12,13,14,24] rfl (Go'.condF rfl (Ut 2 rfl (Ur 2 0 rfl (Ua 0 (((j+1:Nat):Int)) rfl (by omega) (Uf 1 [0,1,4,5,12,13,14,24] rfl (Uk [0,1,4,12,13] rfl (Go'.inLoop ?_))))))))))
  exact ih (j+1) H ⟨rfl,hlt⟩ (by omega)
 ·
  refine Ur 1 0 rfl (Uc 0 rfl (lssF (by omega)) (Uf 0 [0,1,4,12,13,14] rfl (Ut 1 rfl (Go'.condF rfl (Ut 2 rfl (Ur 1 0 rfl (Uf 1 [4] rfl (Go'.ret (vs:=[_]) func12 results12 ⟨rfl,trivial⟩ ?_))))))))
  exact ⟨rfl,rfl⟩
end Go.Bt.FG
namespace Go.Bt.FG
open Go Go.Proofs Go.Proofs.Try
set_option maxRecDepth 20000
set_option maxHeartbeats 4000000
set_option linter.unusedSectionVars false
theorem Gt.Good.some {H:Mem} {P:Ps}:∀{h:Nat} {t:Gt EJ h},Gt.Good H P h t→1≤(Gt.X h t).length→1≤(Gt.L h t).length
 | 0,_,_,h1=>h1
 | h+1,(g,X,K),hg,h1=>Nat.le_trans h1 (Pl.sublist_inter X (K.map (Gt.L h)) (by have:=hg.2.2.2.2.2.1;simp only at this;rw [List.length_map,this];omega)).length_le
end Go.Bt.FG
namespace Go.Bt.FG
open Go Go.Proofs Go.Proofs.Try
set_option maxRecDepth 20000
set_option maxHeartbeats 4000000
set_option linter.unusedSectionVars false
end Go.Bt.FG
namespace Go.Bt.Pl
theorem pre_snoc {α:Type}:∀(X:List α) (K:List (List α)) (x:α) (k:List α),X.length=K.length→pre (X++[x]) (K++[k])=pre X K++(k++[x])
 | [],[],x,k,_=>by simp [pre]
 | y::X,l::K,x,k,h=>by
  simp only [List.cons_append,pre]
  rw [pre_snoc X K x k (by simpa using h)]
  simp
 | [],_::_,_,_,h=>by simp at h
 | _::_,[],_,_,h=>by simp at h
theorem inter_last {α:Type} {X:List α} {K:List (List α)} {k:List α} (hl:K.length=X.length+1) (hk:K[X.length]?=some k):inter X K=pre X (K.take X.length)++k:=by
 have hsp:K=K.take X.length++[k]:=by
  have h1:=(List.getElem?_eq_some_iff.1 hk)
  obtain ⟨h1,h2⟩:=h1
  conv=>lhs;rw [←List.take_append_drop X.length K]
  rw [←List.getElem_cons_drop (h:=h1),h2,List.drop_of_length_le (by omega)]
 have:=inter_focus X [] (K.take X.length) k [] (by rw [List.length_take];omega) rfl
 rw [List.append_nil] at this
 rw [hsp] at this ⊢
 simp only [post,List.append_nil] at this
 rw [show (List.take X.length K++[k]).take X.length=K.take X.length by rw [List.take_append_of_le_length (by rw [List.length_take];omega),List.take_take,Nat.min_self]]
 rw [show (List.take X.length K++[k]).take X.length=K.take X.length by rw [List.take_append_of_le_length (by rw [List.length_take];omega),List.take_take,Nat.min_self]] at this
 exact this
theorem inter_drop1 {α:Type} {X:List α} {K:List (List α)} {x:α} {k:List α} {j:Nat} (hx:X[j]?=some x) (hk:K[j]?=some k):inter (X.drop j) (K.drop j)=k++x::inter (X.drop (j+1)) (K.drop (j+1)):=by
 obtain ⟨h1,h2⟩:=List.getElem?_eq_some_iff.1 hx
 obtain ⟨h3,h4⟩:=List.getElem?_eq_some_iff.1 hk
 rw [←List.getElem_cons_drop (h:=h1),←List.getElem_cons_drop (h:=h3),h2,h4]
 rfl
end Go.Bt.Pl
namespace Go.Bt.FG
open Go Go.Proofs Go.Proofs.Try
set_option maxRecDepth 20000
set_option maxHeartbeats 4000000
set_option linter.unusedSectionVars false
def encIt (x:Int×Int):List Value:=[.agg (EJ.enc x).toArray]
end Go.Bt.FG
namespace Go.Bt.Pl
theorem inter_pre {α:Type}:∀(j:Nat) (X:List α) (K:List (List α)),K.length=X.length+1→j≤X.length→inter X K=pre (X.take j) (K.take j)++inter (X.drop j) (K.drop j)
 | 0,X,K,_,_=>by simp [pre]
 | j+1,[],_,_,h=>by simp at h
 | j+1,_::_,[],h,_=>by simp at h
 | j+1,x::X,k::K,hl,h=>by
  simp only [List.take_succ_cons,List.drop_succ_cons,pre,inter]
  rw [inter_pre j X K (by simpa using hl) (by simpa using h)]
  simp
end Go.Bt.Pl
namespace Go.Bt.FG
open Go Go.Proofs Go.Proofs.Try
set_option maxRecDepth 20000
set_option maxHeartbeats 4000000
set_option linter.unusedSectionVars false
section
variable [Inhabited Cx]
structure VPre {P':Program} {B:World} {g:FuncId} {us cs:List Value} {go:List (Int×Int)→Bool} {M:Nat} (cb:Cb P' B encIt g us cs go M) (H:Mem) (tr:Nat) (P:Ps) (h:Nat) (t:Gt EJ h) (bp op:Nat) (acc:List (Int×Int)) (Z:Nat→Prop):Prop where
 tc:TrC H tr P.iso P.mx P.mn
 g:Gt.Good H P h t
 cel:cl H bp op=some (ptr (Gt.p h t))
 nz:∀b o,Gt.af h t b o→¬Z b
 nb:∀b,Z b→¬(b<cx.base∧cx.own b)
 st:cb.T acc Z H
 len:acc.length+(Gt.L h t).length≤M
end
end Go.Bt.FG
namespace Go.Bt.FG
open Go Go.Proofs Go.Proofs.Try
set_option maxRecDepth 20000
set_option maxHeartbeats 4000000
set_option linter.unusedSectionVars false
section
variable [Inhabited Cx]
theorem takesW_on {α:Type} {go:List α→Bool} {acc l r:List α} (h:(takes go acc l).2=true):takes go acc (l++r)=takes go (takes go acc l).1 r:=by rw [takes_append,if_pos h]
theorem takesW_stop {α:Type} {go:List α→Bool} {acc l r:List α} (h:(takes go acc l).2=false):takes go acc (l++r)=takes go acc l:=by rw [takes_append,h];simp
structure Wb (P:Program) (B:World) (g:FuncId) (us cs:List Value) (go:List (List (Int×Int))→Bool) (M:Nat) where
 T:List (List (Int×Int))→(Nat→Prop)→Mem→Prop
 fr:∀{acc Z H H' Y},T acc Z H→Fr Y H H'→(∀b o,Z b→¬Y b o)→T acc Z H'
 lt:∀{acc Z H b},T acc Z H→Z b→b<H.size
 call:∀{acc Z H} (x:List (Int×Int)) {v:Value},InS EJ H v x→x.length≤4294967296→T acc Z H→acc.length<M→Fn P B g (us++[v]++cs) H fun r H'=>r=.bool (go (acc++[x]))∧∃Z',T (acc++[x]) Z' H'∧Fr (fun b _=>Z b) H H'∧∀b,Z' b→Z b∨H.size≤b
def WbPost {P:Program} {B:World} {g:FuncId} {us cs:List Value} {go:List (List (Int×Int))→Bool} {M:Nat} (cb:Wb P B g us cs go M) (acc:List (List (Int×Int))) (Z:Nat→Prop) (H:Mem) (l:List (List (Int×Int))) (H':Mem):Prop:=
 ∃Z',cb.T (takes go acc l).1 Z' H'∧Fr (fun b _=>Z b) H H'∧∀b,Z' b→Z b∨H.size≤b
structure WPre {P':Program} {B:World} {g:FuncId} {us cs:List Value} {go:List (List (Int×Int))→Bool} {M:Nat} (cb:Wb P' B g us cs go M) (H:Mem) (tr:Nat) (P:Ps) (h:Nat) (t:Gt EJ h) (bp op:Nat) (acc:List (List (Int×Int))) (Z:Nat→Prop):Prop where
 tc:TrC H tr P.iso P.mx P.mn
 g:Gt.Good H P h t
 cel:cl H bp op=some (ptr (Gt.p h t))
 nz:∀b o,Gt.af h t b o→¬Z b
 nb:∀b,Z b→¬(b<cx.base∧cx.own b)
 st:cb.T acc Z H
 len:acc.length+(Gt.ch h t).length≤M
theorem NodeM.inS {H:Mem} {g:Ng} {X:List (Int×Int)} {kp:Value} (hN:NodeM EJ H g X kp):InS EJ H (.slice (some ⟨g.ib,g.io,none⟩) X.length g.ic) X:=.inl ⟨g.ib,g.io,g.ic,rfl,hN.sl.hle,hN.sl.rd⟩
theorem NodeM.inS1 {H:Mem} {g:Ng} {X:List (Int×Int)} {kp:Value} (hN:NodeM EJ H g X kp) {j o' c':Nat} {y:Int×Int} (hy:X[j]?=some y) (ho:o'=g.io+j*EJ.s) (hc:1≤c'):InS EJ H (.slice (some ⟨g.ib,o',none⟩) 1 c') [y]:=by
 subst ho
 exact .inl ⟨g.ib,_,c',rfl,hc,by have:=hN.sl.item hy;rw [row_one];exact this⟩
theorem nwalk0 {B:World} {g:FuncId} {us cs:List Value} {go:List (List (Int×Int))→Bool} {M:Nat} (cb:Wb Try.prog B g us cs go M) (hcall:∀(args:Array Value) (w:World),(callFunc g args).run Try.prog w=.ok (.enter g args) w) {tr:Nat} {P:Ps} (hP:PsOk P) (mt:Bool) {H:Mem} {bp op:Nat} {acc:List (List (Int×Int))} {Z:Nat→Prop} {t:Gt EJ 0} (hp:WPre cb H tr P 0 t bp op acc Z):
  Fn Try.prog B 87 [.pointer (some ⟨tr,0,none⟩),.pointer (some ⟨bp,op,none⟩),.func (.func g) us.toArray cs.toArray,.bool mt] H (fun r H'=>r=.bool (takes go acc (Gt.ch 0 t)).2∧WbPost cb acc Z H (Gt.ch 0 t) H'):=by
 obtain ⟨gg,X⟩:=t
 obtain ⟨tc,hg,hc,hnz,hntr,hst,hlen⟩:=hp
 have hN:NodeM EJ H gg X (.pointer none):=hg.1
 have hiso:gg.iso=P.iso:=hg.2.1
 have hxm:X.length≤P.mx:=hg.2.2.2
 have hx255:=hP.hx
 replace hlen:acc.length+1≤M:=hlen
 have hc0:=hN.c0
 rw [hiso] at hc0
 show Fn _ _ _ _ _ (fun r H'=>r=.bool (takes go acc [X]).2∧WbPost cb acc Z H [X] H')
 unfold WbPost
 refine fn_of func87 rfl ntmps87 ?_
 refine (show Go' _ _ _ _ 74 [(0,_),(1,_),(2,_),(3,_)] [.code _] _ from ?_)
 refine Ut 1 rfl (Ur 1 0 rfl (Uf 1 [0,1,2,3,8] rfl (Ut 1 rfl (Ur 5 128 rfl (Uq 3 rfl (O.callQ rfl rfl rfl call59 rfl (isoLoad_spec mt hc hc0 tc.iso) trivial (Uf 1 [0,2,3,8,9] rfl (Ut 2 rfl ?_))))))))
 unfold ptr
 refine Ur 2 8 rfl (Uq 1 rfl (O.callQ rfl rfl rfl call62 rfl (leaf_spec hN.c3) trivial (Uf 0 [0,2,3,8,9,16] rfl (Go'.condT rfl (Ut 1 rfl ?_)))))
 cases hgo:go (acc++[X])
 ·
  refine Ur 7 2304 rfl (Ul 4 rfl hN.c2 (O.callC rfl rfl rfl rfl hcall rfl (cb.call X (NodeM.inS hN) (by omega) hst (by omega)) ?_))
  rintro _ H2 ⟨rfl,Z2,hT2,hF2,hZ2⟩
  rw [hgo]
  refine ⟨trivial,?_⟩
  refine Uf 1 [8,23] rfl (Go'.condT rfl (Ut 1 rfl (Ur 1 0 rfl (Uf 1 [8] rfl (Go'.ret (vs:=[_]) func87 results87 ⟨rfl,trivial⟩ ?_)))))
  have e:takes go acc [X]=(acc++[X],false):=by simp [takes,hgo]
  rw [e]
  exact ⟨rfl,Z2,hT2,hF2,hZ2⟩
 ·
  refine Ur 7 2304 rfl (Ul 4 rfl hN.c2 (O.callC rfl rfl rfl rfl hcall rfl (cb.call X (NodeM.inS hN) (by omega) hst (by omega)) ?_))
  rintro _ H2 ⟨rfl,Z2,hT2,hF2,hZ2⟩
  rw [hgo]
  refine ⟨trivial,?_⟩
  refine Uf 1 [8,23] rfl (Go'.condF rfl (Ut 2 rfl (Ur 1 0 rfl (Uf 1 [8] rfl (Go'.ret (vs:=[_]) func87 results87 ⟨rfl,trivial⟩ ?_)))))
  have e:takes go acc [X]=(acc++[X],true):=by simp [takes,hgo]
  rw [e]
  exact ⟨rfl,Z2,hT2,hF2,hZ2⟩
theorem nwalk {B:World} {g:FuncId} {us cs:List Value} {go:List (List (Int×Int))→Bool} {M:Nat} (cb:Wb Try.prog B g us cs go M) (hcall:∀(args:Array Value) (w:World),(callFunc g args).run Try.prog w=.ok (.enter g args) w) {tr:Nat} {P:Ps} (hP:PsOk P) (mt:Bool):∀(h:Nat) {H:Mem} {bp op:Nat} {acc:List (List (Int×Int))} {Z:Nat→Prop} {t:Gt EJ h},WPre cb H tr P h t bp op acc Z→
  Fn Try.prog B 87 [.pointer (some ⟨tr,0,none⟩),.pointer (some ⟨bp,op,none⟩),.func (.func g) us.toArray cs.toArray,.bool mt] H (fun r H'=>r=.bool (takes go acc (Gt.ch h t)).2∧WbPost cb acc Z H (Gt.ch h t) H')
 | 0,_,_,_,_,_,_,hp=>nwalk0 cb hcall hP mt hp
 | h+1,H,bp,op,acc,Z,(gg,X,K),hp=>by
  have ih:=@nwalk B g us cs go M cb hcall tr P hP mt h
  obtain ⟨tc,hg,hc,hnz,hntr,hst,hlen⟩:=hp
  have hI:Inn H P h gg X ((Gt.ps h K).map some) K:=hg.inn
  have hKl:K.length=X.length+1:=hg.2.2.2.2.2.1
  have hxm:X.length≤P.mx:=hg.2.2.2.2.1
  have hx255:=hP.hx
  have hKL:(K.map (Gt.ch h)).length=X.length+1:=by rw [List.length_map];exact hKl
  have hol:((Gt.ps h K).map some).length=X.length+1:=by rw [List.length_map,Gt.ps,List.length_map];exact hKl
  obtain ⟨Y,hY⟩:∃Y,Y=X.map (fun y=>[y]):=⟨_,rfl⟩
  have hYl:Y.length=X.length:=by rw [hY,List.length_map]
  have hYat:∀{j:Nat} {y:Int×Int},X[j]?=some y→Y[j]?=some [y]:=fun hy=>by rw [hY,List.getElem?_map,hy];rfl
  have hch:Gt.ch (h+1) ((gg,X,K):Gt EJ (h+1))=Pl.inter Y (K.map (Gt.ch h)):=by rw [hY];rfl
  rw [hch] at hlen ⊢
  have hKLY:(K.map (Gt.ch h)).length=Y.length+1:=by omega
  have hlt:∀x y,innc h gg K x y→x<H.size:=fun x y hb=>hI.lt hb
  obtain ⟨_,_,_,hkb⟩:=hI.cells
  have hkz:¬Z gg.kb:=fun e=>hnz gg.kb gg.ko (.inr (.inl (show kcl gg gg.kb gg.ko from .inr ⟨rfl,Nat.le_refl _,by have:=hI.k.kc;omega⟩))) e
  have hc0:=hI.n.c0
  rw [hI.iso] at hc0
  have hin:∀H',Fr (fun x _=>Z x) H H'→Inn H' P h gg X ((Gt.ps h K).map some) K:=fun H' hf=>hI.fr hf (fun x y hxy hz=>hnz x y hxy hz)
  have htc:∀H',Fr (fun x _=>Z x) H H'→TrC H' tr P.iso P.mx P.mn:=fun H' hf=>tc.fr hf fun b o hb _ hz=>hntr b hz hb
  have hkid:∀{H2:Mem} {Z1:Nat→Prop} {A:List (List (Int×Int))} {j:Nat} {k:Gt EJ h},K[j]?=some k→Fr (fun x _=>Z x) H H2→cb.T A Z1 H2→(∀b,Z1 b→Z b∨H.size≤b)→A.length+(Gt.ch h k).length≤M→WPre cb H2 tr P h k gg.kb (gg.ko+j*1) A Z1:=by
   intro H2 Z1 A j k hkk hF hT hZ1 hA
   have hkK:k∈K:=List.mem_of_getElem? hkk
   have hI2:=hin H2 hF
   have hok:((Gt.ps h K).map some)[j]?=some (some (Gt.p h k)):=by rw [Gt.ps,List.map_map,List.getElem?_map,hkk];rfl
   exact ⟨htc H2 hF,(hI2.c.1 k hkK).1,hI2.k.at hok,fun b o hb hz=>(hZ1 b hz).elim (fun hz=>hnz b o (.inr (.inr ⟨k,hkK,hb⟩)) hz) (fun hz=>by have:=hlt b o (.inr (.inr ⟨k,hkK,hb⟩));omega),
    fun b hz hb=>(hZ1 b hz).elim (fun h=>hntr b h hb) (fun h=>by have:=tc.hb;omega),hT,hA⟩
  have hcat:∀{Z1 Z2:Nat→Prop} {H2 H3:Mem},Fr (fun x _=>Z x) H H2→(∀b,Z1 b→Z b∨H.size≤b)→Fr (fun x _=>Z1 x) H2 H3→(∀b,Z2 b→Z1 b∨H2.size≤b)→Fr (fun x _=>Z x) H H3∧∀b,Z2 b→Z b∨H.size≤b:=by
   intro Z1 Z2 H2 H3 hF hZ1 hF2 hZ2
   have:=hF.size
   exact ⟨hF.trans' hF2 (fun _ _ _ h=>h) (fun b o hb hz=>(hZ1 b hz).elim id (fun h=>by omega)),fun b hb=>(hZ2 b hb).elim (hZ1 b) (fun h=>.inr (by omega))⟩
  obtain ⟨kn,hkn⟩:∃k,K[X.length]?=some k:=⟨K[X.length],List.getElem?_eq_getElem (by omega)⟩
  have hknL:(K.map (Gt.ch h))[Y.length]?=some (Gt.ch h kn):=by rw [hYl,List.getElem?_map,hkn];rfl
  have hLn:Pl.inter Y (K.map (Gt.ch h))=Pl.pre Y ((K.map (Gt.ch h)).take Y.length)++Gt.ch h kn:=Pl.inter_last hKLY hknL
  have hlast:Pl.inter (Y.drop Y.length) ((K.map (Gt.ch h)).drop Y.length)=Gt.ch h kn:=by
   obtain ⟨h1,h2⟩:=List.getElem?_eq_some_iff.1 hknL
   rw [List.drop_length,←List.getElem_cons_drop (h:=h1),h2,List.drop_of_length_le (by omega)];rfl
  have hlenn:acc.length+(Gt.ch h kn).length≤M:=by rw [hLn,List.length_append] at hlen;omega
  unfold WbPost
  refine fn_of func87 rfl ntmps87 ?_
  refine (show Go' _ _ _ _ 74 [(0,_),(1,_),(2,_),(3,_)] [.code _] _ from ?_)
  refine Ut 1 rfl (Ur 1 0 rfl (Uf 1 [0,1,2,3,8] rfl (Ut 1 rfl (Ur 5 128 rfl (Uq 3 rfl (O.callQ rfl rfl rfl call59 rfl (isoLoad_spec mt hc hc0 tc.iso) trivial (Uf 1 [0,2,3,8,9] rfl (Ut 2 rfl ?_))))))))
  unfold ptr
  refine Ur 2 8 rfl (Uq 1 rfl (O.callQ rfl rfl rfl call62 rfl (leaf_spec hI.n.c3) trivial (Uf 0 [0,2,3,8,9,16] rfl (Go'.condF rfl (Ut 2 rfl (Ur 1 0 rfl (Uf 1 [0,2,3,8,9,10] rfl (Ut 1 rfl (Go'.loop (Uk [0,2,3,8,9,10] rfl ?_))))))))))
  refine Go'.ind (σ:=Nat×(Nat→Prop)) (fun s=>X.length-s.1) (fun s H'=>s.1≤X.length∧(takes go acc (Pl.pre (Y.take s.1) ((K.map (Gt.ch h)).take s.1))).2=true∧cb.T (takes go acc (Pl.pre (Y.take s.1) ((K.map (Gt.ch h)).take s.1))).1 s.2 H'∧Fr (fun b _=>Z b) H H'∧∀b,s.2 b→Z b∨H.size≤b)
   (fun s=>[(0,.pointer (some ⟨tr,0,none⟩)),(2,.func (.func g) us.toArray cs.toArray),(3,.bool mt),(8,.bool false),(9,.pointer (some ⟨gg.p,0,none⟩)),(10,.int .i64 (s.1:Int))]) (0,Z) ⟨Nat.zero_le _,by simp [takes,Pl.pre],by simpa [takes,Pl.pre] using hst,Fr.refl _ _,fun b hb=>.inl hb⟩ rfl ?_
  rintro ⟨j,Z1⟩ H3 ⟨hj,htk,hT,hF,hZ1⟩ ih2
  simp only at hj htk hT hZ1
  have hI3:=hin H3 hF
  obtain ⟨k,hkk⟩:∃k,K[j]?=some k:=⟨K[j],List.getElem?_eq_getElem (by omega)⟩
  have hkL:(K.map (Gt.ch h))[j]?=some (Gt.ch h k):=by rw [List.getElem?_map,hkk];rfl
  have hall:=Pl.inter_pre j Y (K.map (Gt.ch h)) hKLY (by omega)
  have htl:=takes_length go (Pl.pre (Y.take j) ((K.map (Gt.ch h)).take j)) acc
  refine Ut 2 rfl ?_
  by_cases hlt2:j<X.length
  ·
   obtain ⟨y,hy0⟩:∃y,X[j]?=some y:=⟨X[j],List.getElem?_eq_getElem hlt2⟩
   have hy:=hYat hy0
   rw [Pl.inter_drop1 hy hkL] at hall
   have e1:Y.take (j+1)=Y.take j++[[y]]:=by rw [List.take_add_one,hy];rfl
   have e2:(K.map (Gt.ch h)).take (j+1)=(K.map (Gt.ch h)).take j++[Gt.ch h k]:=by rw [List.take_add_one,hkL];rfl
   have hsn:Pl.pre (Y.take (j+1)) ((K.map (Gt.ch h)).take (j+1))=Pl.pre (Y.take j) ((K.map (Gt.ch h)).take j)++(Gt.ch h k++[[y]]):=by rw [e1,e2,Pl.pre_snoc _ _ _ _ (by rw [List.length_take,List.length_take];omega)]
   have hlen2:=congrArg List.length hall
   simp only [List.length_append,List.length_cons] at hlen2
   have t1:=takesW_on (r:=Gt.ch h k++[y]::Pl.inter (Y.drop (j+1)) ((K.map (Gt.ch h)).drop (j+1))) htk
   have t2:=takesW_on (r:=Gt.ch h k++[[y]]) htk
   rw [←hall] at t1
   rw [←hsn] at t2
   generalize hA:(takes go acc (Pl.pre (Y.take j) ((K.map (Gt.ch h)).take j))).1=A at*
   refine Ur 7 256 rfl (Ul 4 rfl hI3.n.c2 (Uc 1 rfl (lssT (by omega)) (Uf 0 [0,2,3,8,9,10,30] rfl (Go'.condT rfl (Ut 5 rfl (Ur 13 8392960 rfl (Ul 4 rfl hI3.n.c3 (Ul 1 rfl hI3.k.c (Ux 1 j rfl (by omega) (by omega) (Uq 2 rfl (O.call rfl rfl rfl call87 rfl (ih (hkid hkk hF hT hZ1 (by omega))) ?_)))))))))))
   rintro _ H4 ⟨rfl,Z4,hT4,hF4,hZ4⟩
   obtain ⟨hF5,hZ5⟩:=hcat hF hZ1 hF4 hZ4
   refine ⟨trivial,?_⟩
   refine Uf 1 [0,2,3,8,9,10,30,45] rfl ?_
   cases htk2:(takes go A (Gt.ch h k)).2
   ·
    refine Go'.condT rfl (Ut 1 rfl (Ur 1 0 rfl (Uf 1 [0,2,3,8,9,10,30,45] rfl (Go'.ret (vs:=[_]) func87 results87 ⟨rfl,trivial⟩ ?_))))
    rw [takesW_stop htk2] at t1
    rw [t1]
    exact ⟨by rw [htk2];rfl,Z4,hT4,hF5,hZ5⟩
   ·
    refine Go'.condF rfl (Ut 2 rfl ?_)
    rw [takesW_on htk2] at t1 t2
    have htl2:=takes_length go (Gt.ch h k) A
    have hI4:=hin H4 hF5
    generalize hA2:(takes go A (Gt.ch h k)).1=A2 at*
    cases hgo:go (A2++[[y]])
    ·
     have hic4:=hI4.n.sl.hle
     refine Ur 11 524544 rfl (Ul 4 rfl hI4.n.c2 (Ua 2 (((j+1:Nat):Int)) rfl (by omega) (O.slc (jl:=j) (jh:=j+1) (jm:=gg.ic) rfl rfl rfl rfl underlying25 sizeOf27 rfl rfl ⟨_,by rfl⟩ ⟨_,by rfl⟩ (by omega) (by omega) (by simp) (by simp) ?_)))
     intro o9 ho9
     rw [show j+1-j=1 by omega]
     refine O.callC rfl rfl rfl rfl hcall rfl (cb.call [y] (NodeM.inS1 hI4.n hy0 (o':=o9) (c':=gg.ic-j) (ho9 (by have:=hI4.n.sl.hle;omega)) (by have:=hI4.n.sl.hle;omega)) (Nat.le_of_ble_eq_true (n:=1) rfl) hT4 (by omega)) ?_
     rintro _ H6 ⟨rfl,Z6,hT6,hF6,hZ6⟩
     rw [hgo]
     obtain ⟨hF7,hZ7⟩:=hcat hF5 hZ5 hF6 hZ6
     refine ⟨trivial,?_⟩
     refine Uf 1 [0,2,3,8,9,10,30,45,56] rfl (Go'.condT rfl (Ut 1 rfl (Ur 1 0 rfl (Uf 1 [0,2,3,8,9,10,30,45,56] rfl (Go'.ret (vs:=[_]) func87 results87 ⟨rfl,trivial⟩ ?_)))))
     have e3:takes go acc (Pl.inter Y (K.map (Gt.ch h)))=(A2++[[y]],false):=by rw [t1];simp [takes,hgo]
     rw [e3]
     exact ⟨rfl,Z6,hT6,hF7,hZ7⟩
    ·
     have hic4:=hI4.n.sl.hle
     refine Ur 11 524544 rfl (Ul 4 rfl hI4.n.c2 (Ua 2 (((j+1:Nat):Int)) rfl (by omega) (O.slc (jl:=j) (jh:=j+1) (jm:=gg.ic) rfl rfl rfl rfl underlying25 sizeOf27 rfl rfl ⟨_,by rfl⟩ ⟨_,by rfl⟩ (by omega) (by omega) (by simp) (by simp) ?_)))
     intro o9 ho9
     rw [show j+1-j=1 by omega]
     refine O.callC rfl rfl rfl rfl hcall rfl (cb.call [y] (NodeM.inS1 hI4.n hy0 (o':=o9) (c':=gg.ic-j) (ho9 (by have:=hI4.n.sl.hle;omega)) (by have:=hI4.n.sl.hle;omega)) (Nat.le_of_ble_eq_true (n:=1) rfl) hT4 (by omega)) ?_
     rintro _ H6 ⟨rfl,Z6,hT6,hF6,hZ6⟩
     rw [hgo]
     obtain ⟨hF7,hZ7⟩:=hcat hF5 hZ5 hF6 hZ6
     refine ⟨trivial,?_⟩
     refine Uf 1 [0,2,3,8,9,10,30,45,56] rfl (Go'.condF rfl (Ut 2 rfl (Ur 3 0 rfl (Ua 1 (((j+1:Nat):Int)) rfl (by omega) (Uf 1 [0,2,3,8,9,10,30,45,56] rfl (Uk [0,2,3,8,9,10] rfl (Go'.inLoop ?_)))))))
     have e3:takes go acc (Pl.pre (Y.take (j+1)) ((K.map (Gt.ch h)).take (j+1)))=(A2++[[y]],true):=by rw [t2];simp [takes,hgo]
     exact ih2 (j+1,Z6) H6 ⟨hlt2,by rw [e3],by rw [e3];exact hT6,hF7,hZ7⟩ (by simp only;omega)
  ·
   obtain rfl:j=X.length:=by omega
   rw [←hYl,hlast] at hall
   have hlen2:=congrArg List.length hall
   simp only [List.length_append] at hlen2
   have t1:=takesW_on (r:=Gt.ch h k) htk
   obtain rfl:kn=k:=Option.some.inj (hkn.symm.trans hkk)
   rw [←hYl,←hall] at t1
   rw [←hYl] at htl
   refine Ur 7 256 rfl (Ul 4 rfl hI3.n.c2 (Uc 1 rfl (lssF (by omega)) (Uf 0 [0,2,3,8,9,10,30] rfl (Go'.condF rfl (Ut 2 rfl (Ud 17 2148536576 (by kernel_rfl) (Ul 4 rfl hI3.n.c3 (Ul 1 rfl hI3.k.c (Ul 3 rfl hI3.n.c2 (Ux 1 (X.length) rfl (by omega) (by omega) (Uq 2 rfl ?_)))))))))))
   refine O.call rfl rfl rfl call87 rfl (ih (hkid hkk hF hT hZ1 (by rw [←hYl];omega))) ?_
   rintro _ H4 ⟨rfl,Z4,hT4,hF4,hZ4⟩
   obtain ⟨hF5,hZ5⟩:=hcat hF hZ1 hF4 hZ4
   refine ⟨trivial,?_⟩
   refine Uf 1 [8,73] rfl ?_
   cases htk2:(takes go (takes go acc (Pl.pre (Y.take X.length) ((K.map (Gt.ch h)).take X.length))).1 (Gt.ch h kn)).2
   ·
    refine Go'.condT rfl (Ut 1 rfl (Ur 1 0 rfl (Uf 1 [8] rfl (Go'.ret (vs:=[_]) func87 results87 ⟨rfl,trivial⟩ ?_))))
    rw [←hYl] at htk2 hT4
    rw [t1]
    exact ⟨by rw [htk2];rfl,Z4,hT4,hF5,hZ5⟩
   ·
    refine Go'.condF rfl (Ut 2 rfl (Ur 1 0 rfl (Uf 1 [8] rfl (Go'.ret (vs:=[_]) func87 results87 ⟨rfl,trivial⟩ ?_))))
    rw [←hYl] at htk2 hT4
    rw [t1]
    exact ⟨by rw [htk2];rfl,Z4,hT4,hF5,hZ5⟩
theorem AbT.ch_le {H:Mem} {tr:Nat} {P:Ps} {S:Nat→Prop} {l:List (Int×Int)} {T:AbT (Int×Int)} (hP:PsOk P) (hM:MapT H tr P S l T):(AbT.ch T).flatten=l∧∀c∈AbT.ch T,1≤c.length∧c.length≤P.mx:=by
 have hmm:=hP.hm
 have hh1:=hP.h1
 rcases hM.2 with ⟨rfl,rfl,_⟩|⟨h,t,hR,rfl⟩
 · exact ⟨rfl,fun c hc=>absurd hc List.not_mem_nil⟩
 ·
  show (Ab.ch h (Gt.ab h t)).flatten=l∧∀c∈Ab.ch h (Gt.ab h t),_
  rw [Gt.ch_ab,Gt.ch_flat]
  exact ⟨hR.l,Gt.ch_ok hh1 (by omega) hR.g hR.x1⟩
theorem walk_spec {B:World} {g:FuncId} {us cs:List Value} {go:List (List (Int×Int))→Bool} {M:Nat} (cb:Wb Try.prog B g us cs go M) (hcall:∀(args:Array Value) (w:World),(callFunc g args).run Try.prog w=.ok (.enter g args) w) {tr:Nat} {P:Ps} (hP:PsOk P) (mt:Bool) {H:Mem} {S:Nat→Prop} {l:List (Int×Int)} {T:AbT (Int×Int)} {Z:Nat→Prop} (hM:MapT H tr P S l T) (hT:cb.T [] Z H) (hd:∀b,S b→¬Z b) (hnb:∀b,Z b→¬(b<cx.base∧cx.own b)) (hl:l.length≤M):
  Fn Try.prog B 64 [.pointer (some ⟨tr,0,none⟩),.func (.func g) us.toArray cs.toArray,.bool mt] H (fun _ H'=>WbPost cb [] Z H (AbT.ch T) H'):=by
 have hfl:=AbT.ch_le hP hM
 have hfl2:=Pl.flat_len fun c hc=>(hfl.2 c hc).1
 rw [hfl.1] at hfl2
 obtain ⟨hM0,hr⟩:=hM
 rcases hr with ⟨rfl,rfl,hptr⟩|⟨h,t,hR,rfl⟩
 ·
  refine fn_of func64 rfl ntmps64 ?_
  refine (show Go' _ _ _ _ 23 [(0,_),(1,_),(2,_)] [.code _] _ from ?_)
  refine Ut 2 rfl (Ur 3 32 rfl (Uq 2 rfl (O.callQ rfl rfl rfl call57 rfl lock_spec trivial (Uf 0 [0,1,2,8] rfl (Go'.condF rfl (Ut 3 rfl (Ur 5 64 rfl (Ul 3 rfl hptr (O.isNil rfl rfl rfl rfl underlying107 rfl rfl (Uf 0 [0,1,2,15] rfl (Go'.condT rfl ?_)))))))))))
  refine Go'.ret func64 results64 (vs:=[]) trivial ?_
  exact ⟨Z,hT,Fr.refl _ _,fun b hb=>.inl hb⟩
 ·
  have hptr:cl H tr 2=some (.pointer (some ⟨Gt.p h t,0,none⟩)):=hR.c
  refine fn_of func64 rfl ntmps64 ?_
  refine (show Go' _ _ _ _ 23 [(0,_),(1,_),(2,_)] [.code _] _ from ?_)
  refine Ut 2 rfl (Ur 3 32 rfl (Uq 2 rfl (O.callQ rfl rfl rfl call57 rfl lock_spec trivial (Uf 0 [0,1,2,8] rfl (Go'.condF rfl (Ut 3 rfl (Ur 5 64 rfl (Ul 3 rfl hptr (O.isNil rfl rfl rfl rfl underlying107 rfl rfl (Uf 0 [0,1,2,15] rfl (Go'.condF rfl ?_)))))))))))
  refine Ut 1 rfl (Ur 7 8192 rfl (Uq 6 rfl (O.call rfl rfl rfl call87 rfl (nwalk cb hcall hP mt h (t:=t) ⟨hM0.tc,hR.g,hR.c,fun b o hb=>hd b (hR.own b o hb),hnb,hT,by rw [←Gt.ch_ab];show 0+_≤_;have:(Ab.ch h (Gt.ab h t)).length≤l.length:=hfl2;omega⟩) ?_)))
  rintro _ H2 ⟨rfl,hq⟩
  refine ⟨trivial,?_⟩
  refine Uf 0 [] rfl (Go'.fall func64 results64 (vs:=[]) trivial ?_)
  rw [←Gt.ch_ab] at hq;exact hq
theorem Walk_spec {B:World} {g:FuncId} {us cs:List Value} {go:List (List (Int×Int))→Bool} {M:Nat} (cb:Wb Try.prog B g us cs go M) (hcall:∀(args:Array Value) (w:World),(callFunc g args).run Try.prog w=.ok (.enter g args) w) {tr:Nat} {P:Ps} (hP:PsOk P) {H:Mem} {S:Nat→Prop} {l:List (Int×Int)} {T:AbT (Int×Int)} {Z:Nat→Prop} (hM:MapT H tr P S l T) (hT:cb.T [] Z H) (hd:∀b,S b→¬Z b) (hnb:∀b,Z b→¬(b<cx.base∧cx.own b)) (hl:l.length≤M):
  Fn Try.prog B 37 [.pointer (some ⟨tr,0,none⟩),.func (.func g) us.toArray cs.toArray] H (fun _ H'=>WbPost cb [] Z H (AbT.ch T) H'):=by
 refine fn_of func37 rfl ntmps37 ?_
 refine (show Go' _ _ _ _ 7 [(0,_),(1,_)] [.code _] _ from ?_)
 refine Ur 3 32 rfl (Uq 2 rfl (O.call rfl rfl rfl call64 rfl (walk_spec cb hcall hP false hM hT hd hnb hl) ?_))
 rintro _ H2 hq
 refine ⟨trivial,?_⟩
 refine Uf 0 [] rfl (Go'.fall func37 results37 (vs:=[]) trivial ?_)
 exact hq
theorem WalkMut_spec {B:World} {g:FuncId} {us cs:List Value} {go:List (List (Int×Int))→Bool} {M:Nat} (cb:Wb Try.prog B g us cs go M) (hcall:∀(args:Array Value) (w:World),(callFunc g args).run Try.prog w=.ok (.enter g args) w) {tr:Nat} {P:Ps} (hP:PsOk P) {H:Mem} {S:Nat→Prop} {l:List (Int×Int)} {T:AbT (Int×Int)} {Z:Nat→Prop} (hM:MapT H tr P S l T) (hT:cb.T [] Z H) (hd:∀b,S b→¬Z b) (hnb:∀b,Z b→¬(b<cx.base∧cx.own b)) (hl:l.length≤M):
  Fn Try.prog B 44 [.pointer (some ⟨tr,0,none⟩),.func (.func g) us.toArray cs.toArray] H (fun _ H'=>WbPost cb [] Z H (AbT.ch T) H'):=by
 refine fn_of func44 rfl ntmps44 ?_
 refine (show Go' _ _ _ _ 7 [(0,_),(1,_)] [.code _] _ from ?_)
 refine Ur 3 32 rfl (Uq 2 rfl (O.call rfl rfl rfl call64 rfl (walk_spec cb hcall hP true hM hT hd hnb hl) ?_))
 rintro _ H2 hq
 refine ⟨trivial,?_⟩
 refine Uf 0 [] rfl (Go'.fall func44 results44 (vs:=[]) trivial ?_)
 exact hq
end
end Go.Bt.FG
namespace Go.Bt.FG
open Go Go.Proofs Go.Proofs.Try
set_option maxRecDepth 20000
set_option maxHeartbeats 4000000
set_option linter.unusedSectionVars false
structure TkT (b2 b3 D:Nat) (n:Int) (acc:List (Int×Int)) (Z:Nat→Prop) (H:Mem):Prop where
 c2:cl H b2 0=some (ptr D)
 c3:cl H b3 0=some (.int .i64 n)
 wr:Wr H D 0 1
 z2:Z b2
 z3:Z b3
 zD:Z D
 n2:b2≠D
 n3:b3≠D
 lt:∀b,Z b→b<H.size
 sl:(acc=[]∧cl H D 0=some (.slice none 0 0))∨∃b o c,cl H D 0=some (.slice (some ⟨b,o,none⟩) acc.length c)∧SlE EJ H b o c acc∧Z b∧b≠D∧b≠b2∧b≠b3
theorem TkT.fr {b2 b3 D:Nat} {n:Int} {acc:List (Int×Int)} {Z:Nat→Prop} {H H':Mem} {Y:Nat→Nat→Prop} (h:TkT b2 b3 D n acc Z H) (hf:Fr Y H H') (hy:∀b o,Z b→¬Y b o):TkT b2 b3 D n acc Z H' where
 c2:=hf.keep h.c2 (hy _ _ h.z2)
 c3:=hf.keep h.c3 (hy _ _ h.z3)
 wr:=hf.wr h.wr
 z2:=h.z2
 z3:=h.z3
 zD:=h.zD
 n2:=h.n2
 n3:=h.n3
 lt:=fun b hb=>Nat.lt_of_lt_of_le (h.lt b hb) hf.size
 sl:=h.sl.elim (fun ⟨e,k⟩=>.inl ⟨e,hf.keep k (hy _ _ h.zD)⟩) fun ⟨b,o,c,k,hs,hz,r⟩=>.inr ⟨b,o,c,hf.keep k (hy _ _ h.zD),hs.fr hf (fun i _ _=>hy _ _ hz),hz,r⟩
theorem TkT.out {b2 b3 D:Nat} {n:Int} {acc:List (Int×Int)} {Z:Nat→Prop} {H:Mem} (h:TkT b2 b3 D n acc Z H):∃v,cl H D 0=some v∧OutS EJ H v acc:=by
 rcases h.sl with ⟨e,k⟩|⟨b,o,c,k,hs,_⟩
 · exact ⟨_,k,.inl ⟨rfl,e⟩⟩
 · exact ⟨_,k,.inr ⟨b,o,c,rfl,hs⟩⟩
end Go.Bt.FG
namespace Go.Bt.FG
open Go Go.Proofs Go.Proofs.Try
set_option maxRecDepth 20000
set_option maxHeartbeats 4000000
set_option linter.unusedSectionVars false
theorem firstN_len {α:Type} (l:List α) (n:Int):(firstN l n).length≤l.length:=by
 unfold firstN;split
 · exact Nat.le_refl _
 · rw [List.length_take];omega
end Go.Bt.FG
namespace Go.Bt.FG
open Go Go.Proofs Go.Proofs.Try
set_option maxRecDepth 20000
set_option maxHeartbeats 4000000
set_option linter.unusedSectionVars false
namespace SI
def ESl:Elt (Option Addr×Nat×Nat):={ enc:=fun x=>[.slice x.1 x.2.1 x.2.2],s:=1,len:=fun _=>rfl,one:=fun _=>rfl,pos:=by decide }
def InSS {α:Type} (E:Elt α) (H:Mem):List (Option Addr×Nat×Nat)→List (List α)→Prop
 | [],[]=>True
 | u::us,l::ls=>InS E H (.slice u.1 u.2.1 u.2.2) l∧InSS E H us ls
 | _,_=>False
theorem InSS.fr {α:Type} {E:Elt α} {H H':Mem} (hf:Fr nowhere H H'):∀{us:List (Option Addr×Nat×Nat)} {ls:List (List α)},InSS E H us ls→InSS E H' us ls
 | [],[],_=>trivial
 | u::us,l::ls,h=>⟨h.1.fr hf,InSS.fr hf h.2⟩
 | [],_::_,h=>h.elim
 | _::_,[],h=>h.elim
theorem InSS.len {α:Type} {E:Elt α} {H:Mem}:∀{us:List (Option Addr×Nat×Nat)} {ls:List (List α)},InSS E H us ls→us.length=ls.length
 | [],[],_=>rfl
 | u::us,l::ls,h=>by rw [List.length_cons,List.length_cons,InSS.len h.2]
 | [],_::_,h=>h.elim
 | _::_,[],h=>h.elim
theorem InSS.at {α:Type} {E:Elt α} {H:Mem}:∀{us:List (Option Addr×Nat×Nat)} {ls:List (List α)} (_:InSS E H us ls) {i:Nat} {u:Option Addr×Nat×Nat},us[i]?=some u→∃l,ls[i]?=some l∧InS E H (.slice u.1 u.2.1 u.2.2) l
 | [],[],_,i,u,hu=>by simp at hu
 | u::us,l::ls,h,0,v,hv=>by
  simp only [List.getElem?_cons_zero,Option.some.injEq] at hv
  subst hv
  exact ⟨l,rfl,h.1⟩
 | u::us,l::ls,h,i+1,v,hv=>by
  simp only [List.getElem?_cons_succ] at hv ⊢
  exact InSS.at h.2 hv
 | [],_::_,h,_,_,_=>h.elim
 | _::_,[],h,_,_,_=>h.elim
theorem flat_take {α:Type} (ls:List (List α)) (j:Nat):(ls.take j).flatten.length≤ls.flatten.length:=by
 conv=>rhs;rw [←List.take_append_drop j ls,List.flatten_append,List.length_append]
 omega
theorem grow_spec {B:World} {H:Mem} {n:Nat} (hn:0<n) (hll:n≤4294967296):
  Fn Try.prog B 39 [.slice none 0 0,.int .i64 (n:Int)] H (fun r H'=>AccN EJ (fun b=>H.size≤b) H' r []∧Fr nowhere H H'):=by
 refine fn_of func39 rfl ntmps39 ?_
 refine (show Go' _ _ _ _ 27 [(0,_),(1,_)] [.code _] _ from ?_)
 refine Ut 1 rfl (Ur 1 0 rfl (Uf 1 [0,1,4] rfl (Ut 2 rfl (Ur 2 0 rfl (Uc 1 rfl (lssF (by omega)) (Uf 0 [0,1,4,6] rfl (Go'.condF rfl (Ut 3 rfl (Ur 8 0 rfl (Uq 2 rfl (O.cap rfl rfl rfl rfl underlying25 rfl ?_)))))))))))
 refine Ub 2 ((0:Int)) rfl (by omega) (Ub 0 ((n:Int)) rfl (by omega) (Uf 1 [0,1,4] rfl (Ut 1 rfl (Ur 2 0 rfl (Uc 1 rfl (gtrT (by omega)) (Uf 0 [0,1,4,16] rfl (Go'.condT rfl (Ur 10 2048 rfl (Uq 2 rfl (O.cap rfl rfl rfl rfl underlying25 rfl (O.slc0 rfl rfl rfl rfl underlying25 sizeOf27 rfl ⟨_,by rfl⟩ rfl ?_)))))))))))
 intro a0
 refine Uq 1 rfl (O.appZ (m:=n) rfl rfl rfl ⟨underlying25,sizeOf27,zeroValue27,⟨_,typeInfo27,rfl⟩,rfl,by decide,by decide⟩ underlying3 rfl rfl (Nat.le_trans (Nat.mul_le_mul_left _ (Nat.le_of_ble_eq_true (n:=_) (m:=4096) rfl)) (by omega)) (by omega) hn ?_)
 intro cap' H1 hc hW hF hs
 refine ⟨trivial,?_⟩
 refine Uq 2 rfl (O.slc (jl:=0) (jh:=0) (jm:=cap') rfl rfl rfl rfl underlying25 sizeOf27 rfl rfl ⟨_,by rfl⟩ rfl (by omega) (by omega) (by omega) (by simp) ?_)
 intro o2 ho2
 refine Uf 1 [0,4] rfl (Ut 1 rfl (Ur 2 0 rfl (Uf 2 [4] rfl (Go'.ret (vs:=[_]) func39 results39 ⟨rfl,trivial⟩ ?_))))
 refine ⟨⟨H.size,o2,cap'-0,rfl,Nat.le_refl _,by omega,?_⟩,hF⟩
 obtain rfl:o2=0:=by have:=ho2 (by omega);omega
 rw [Nat.sub_zero]
 exact ⟨rfl,Nat.zero_le _,Rd.nil _ _ _,hW⟩
theorem growA_spec {B:World} {H:Mem} {n:Nat} (hll:n≤4294967296):
  Fn Try.prog B 39 [.slice none 0 0,.int .i64 (n:Int)] H (fun r H'=>Acc EJ (fun b=>H.size≤b) H' r []∧Fr nowhere H H'):=by
 rcases Nat.eq_zero_or_pos n with rfl|hn
 rotate_left
 · exact (grow_spec hn hll).mono fun _ _ h=>⟨h.1.acc,h.2⟩
 refine fn_of func39 rfl ntmps39 ?_
 refine (show Go' _ _ _ _ 27 [(0,_),(1,_)] [.code _] _ from ?_)
 refine Ut 1 rfl (Ur 1 0 rfl (Uf 1 [0,1,4] rfl (Ut 2 rfl (Ur 2 0 rfl (Uc 1 rfl (lssF (by omega)) (Uf 0 [0,1,4,6] rfl (Go'.condF rfl (Ut 3 rfl (Ur 8 0 rfl (Uq 2 rfl (O.cap rfl rfl rfl rfl underlying25 rfl ?_)))))))))))
 refine Ub 2 ((0:Int)) rfl (by omega) (Ub 0 ((0:Int)) rfl (by omega) (Uf 1 [0,1,4] rfl (Ut 1 rfl (Ur 2 0 rfl (Uc 1 rfl (gtrF (by omega)) (Uf 0 [0,1,4,16] rfl (Go'.condF rfl (Ut 2 rfl (Ur 2 0 rfl (Uf 2 [4] rfl (Go'.ret (vs:=[_]) func39 results39 ⟨rfl,trivial⟩ ?_)))))))))))
 exact ⟨Acc.nil _ _ _,Fr.refl _ _⟩
theorem concatA_spec {B:World} {H:Mem} {v:Value} {us:List (Option Addr×Nat×Nat)} {ls:List (List (Int×Int))} (hi:InS ESl H v us) (hs:InSS EJ H us ls) (hll:ls.flatten.length≤4294967296) (hul:us.length≤4294967296):
  Fn Try.prog B 14 [v] H (fun r H'=>Acc EJ (fun b=>H.size≤b) H' r ls.flatten∧Fr nowhere H H'):=by
 obtain ⟨a,c,hu⟩:=hi.len
 subst hu
 have hlen:=hs.len
 have hi00:=hi
 have hs00:=hs
 refine fn_of func14 rfl ntmps14 ?_
 refine (show Go' _ _ _ _ 36 [(0,_)] [.code _] _ from ?_)
 refine Ut 1 rfl (Ur 1 0 rfl (Uf 1 [0,2] rfl (Ut 1 rfl (Ur 1 0 rfl (Uf 1 [0,2,3] rfl (Ut 2 rfl (Ur 3 0 rfl (Uf 3 [0,2,3,9,10,11] rfl (Ut 1 rfl (Go'.loop (Uk [0,3,9,10,11] rfl ?_)))))))))))
 refine Go'.ind (σ:=Nat) (fun j=>us.length-j) (fun j H'=>H'=H∧j≤us.length)
  (fun j=>[(0,.slice a us.length c),(3,.int .i64 ((ls.take j).flatten.length:Int)),(9,.slice a us.length c),(10,.int .i64 (us.length:Int)),(11,.int .i64 (j:Int))]) 0 ⟨rfl,Nat.zero_le _⟩ rfl ?_
 rintro j H2 ⟨hHH,hjl⟩ ih
 have eH:H=H2:=hHH.symm
 subst eH
 clear hHH
 refine Ut 1 rfl ?_
 by_cases hlt:j<us.length
 ·
  obtain ⟨u,hu⟩:∃u,us[j]?=some u:=⟨us[j],List.getElem?_eq_getElem hlt⟩
  obtain ⟨b,o,cc,e,hr⟩:=hi.at hu
  cases e
  obtain ⟨l,hl,hul2⟩:=hs.at hu
  obtain ⟨a',c',e⟩:=hul2.len
  have e2:u.2.1=l.length:=by injection e
  have hx:(ls.take (j+1)).flatten.length=(ls.take j).flatten.length+l.length:=by rw [List.take_add_one,hl,List.flatten_append,List.length_append];simp
  have hft:=flat_take ls (j+1)
  refine Ur 1 0 rfl (Uc 0 rfl (lssT (by omega)) (Uf 0 [0,3,9,10,11,12] rfl (Ut 1 rfl (Go'.condT rfl (Ut 4 rfl (Ur 3 4 rfl (Ux 0 j rfl (by omega) hlt (Ul 0 rfl (hr 0 _ rfl) (Uf 1 [0,3,5,9,10,11,12] rfl (Ut 1 rfl (Ur 5 0 rfl ?_)))))))))))
  refine Ua 3 (((ls.take (j+1)).flatten.length:Int)) rfl (by omega) (Uf 1 [0,3,5,9,10,11,12] rfl (Ut 1 rfl (Ur 2 0 rfl (Uc 1 rfl (lssF (by omega)) (Uf 0 [0,3,5,9,10,11,12,20] rfl (Go'.condF rfl (Ut 2 rfl (Ur 2 0 rfl (Ua 0 (((j+1:Nat):Int)) rfl (by omega) (Uf 1 [0,3,5,9,10,11,12,20] rfl (Uk [0,3,9,10,11] rfl ?_)))))))))))
  refine Go'.inLoop ?_
  exact ih (j+1) H ⟨rfl,hlt⟩ (by omega)
 ·
  have e0:j=us.length:=by omega
  have e1:ls.take j=ls:=by rw [e0,hlen,List.take_length]
  clear ih
  subst e0
  rw [e1]
  refine Ur 1 0 rfl (Uc 0 rfl (lssF (by omega)) (Uf 0 [0,3,9,10,11,12] rfl (Ut 1 rfl (Go'.condF rfl (Ut 2 rfl (Ur 3 8 rfl (Uq 1 rfl (O.call rfl rfl rfl call39 rfl (growA_spec hll) ?_))))))))
  rintro gv H1 ⟨hA0,hF1⟩
  refine ⟨trivial,?_⟩
  refine Uf 1 [0,6] rfl (Ut 2 rfl (Ur 3 0 rfl (Uf 3 [6,25,26,27] rfl (Ut 1 rfl (Go'.loop (Uk [6,25,26,27] rfl ?_))))))
  refine Go'.ind (σ:=Nat×Value×(Nat→Prop)) (fun s=>us.length-s.1) (fun s H'=>s.1≤us.length∧Acc EJ s.2.2 H' s.2.1 ((ls.take s.1).flatten)∧Fr nowhere H H'∧Fr (fun b _=>H.size≤b) H1 H'∧∀b,s.2.2 b→H.size≤b)
   (fun s=>[(6,s.2.1),(25,.slice a us.length c),(26,.int .i64 (us.length:Int)),(27,.int .i64 (s.1:Int))]) (0,gv,fun b=>H.size≤b) ⟨Nat.zero_le _,by rw [List.take_zero];exact hA0,hF1,Fr.refl _ _,fun b hb=>hb⟩ rfl ?_
  clear hA0
  rintro ⟨j,sv,Z1⟩ H2 ⟨hj,hA,hF,hFZ,hZ1⟩ ih
  simp only at hj hA hZ1
  have hsz:=hF.size
  refine Ut 1 rfl ?_
  by_cases hlt:j<us.length
  ·
   obtain ⟨u,hu⟩:∃u,us[j]?=some u:=⟨us[j],List.getElem?_eq_getElem hlt⟩
   have hi2:=hi00.fr hF
   obtain ⟨b,o,cc,e,hr⟩:=hi2.at hu
   cases e
   obtain ⟨l,hl,hul2⟩:=(hs00.fr hF).at hu
   have hx:(ls.take (j+1)).flatten=(ls.take j).flatten++l:=by rw [List.take_add_one,hl,List.flatten_append];simp
   have hft:=flat_take ls (j+1)
   rw [hx,List.length_append] at hft
   refine Ur 1 0 rfl (Uc 0 rfl (lssT (by omega)) (Uf 0 [6,25,26,27,28] rfl (Ut 1 rfl (Go'.condT rfl (Ut 4 rfl (Ur 3 4 rfl (Ux 0 j rfl (by omega) hlt (Ul 0 rfl (hr 0 _ rfl) (Uf 1 [6,8,25,26,27,28] rfl (Ur 4 32 rfl (Uq 2 rfl ?_)))))))))))
   refine O.appAI (E:=EJ) rfl rfl rfl ⟨underlying25,sizeOf27,zeroValue27,⟨_,typeInfo27,rfl⟩,rfl,by decide,by decide⟩ rfl hA rfl hul2 (Nat.le_trans (Nat.mul_le_mul_left _ (Nat.le_of_ble_eq_true (n:=_) (m:=4096) rfl)) (by omega)) (by omega) ?_
   intro v7 H7 hA7 hF7 hs7
   rw [←hx] at hA7
   refine ⟨trivial,?_⟩
   refine Uf 1 [6,8,25,26,27,28] rfl (Ut 1 rfl (Ur 2 0 rfl (Ua 0 (((j+1:Nat):Int)) rfl (by omega) (Uf 1 [6,8,25,26,27,28] rfl (Uk [6,25,26,27] rfl (Go'.inLoop ?_))))))
   exact ih (j+1,v7,_) H7 ⟨hlt,hA7,hF.trans' hF7 (fun _ _ _ h=>h) (fun b o hb hz=>by have:=hZ1 b hz;omega),hFZ.trans' hF7 (fun _ _ _ h=>h) (fun b o hb hz=>hZ1 b hz),fun b hb=>hb.elim (hZ1 b) (fun h=>by omega)⟩ (by simp only;omega)
  ·
   have e0':j=us.length:=by omega
   have e1':ls.take j=ls:=by rw [e0',hlen,List.take_length]
   rw [e1'] at hA
   refine Ur 1 0 rfl (Uc 0 rfl (lssF (by omega)) (Uf 0 [6,25,26,27,28] rfl (Ut 1 rfl (Go'.condF rfl (Ut 2 rfl (Ur 2 0 rfl (Uf 2 [2] rfl (Go'.ret (vs:=[_]) func14 results14 ⟨rfl,trivial⟩ ?_))))))))
   exact ⟨hA.mono fun b _ hz=>hZ1 b hz,hF⟩
end SI
theorem igitems_spec {B:World} {H:Mem} {d:Nat} {nl:Bool} {v u:Value} {ord:List Int} {l:List (Int×Int)} (hd:d=0∨2≤d∧d≤128) (ho:InS EN H v ord) (hol:ord.length≤4294967296) (hi:InS EJ H u l) (hll:l.length≤4294967296):
  Fn Try.prog B 26 [.agg #[v,.int .i64 (d:Int),.bool nl],u] H (fun r H'=>OutS EJ H' r (Pl.puts (OO ord) l)∧Fr nowhere H H'):=by
 obtain ⟨a,c,hu⟩:=hi.len
 subst hu
 obtain ⟨av,mv,cv,hv⟩:=InS.form ho
 subst hv
 have hF:Fr nowhere H H:=Fr.refl _ _
 have hP:=PD_ok hd
 refine fn_of func26 rfl ntmps26 ?_
 refine (show Go' _ _ _ _ 9 [(0,_),(1,_)] [.code _] _ from ?_)
 refine Ut 1 rfl (Ur 2 2 rfl (O.box rfl rfl rfl rfl ?_))
 intro B1 MB1
 refine ⟨trivial,?_⟩
 have hsB1:=MB1.size
 replace hF:=hF.trans (MB1.fr nowhere)
 have mm:Rd B1 H.size 0 [.slice av mv cv,.int .i64 (d:Int),.bool nl]:=MB1.rd _ [] (by simp [Value.cells])
 have mm0:cl B1 H.size 0=some (.slice av mv cv):=mm 0 _ rfl
 have mm1:cl B1 H.size (0+1)=some (.int .i64 (d:Int)):=mm 1 _ rfl
 refine Uf 1 [1,2,4] rfl (Ut 1 rfl (Ur 5 161 rfl (Us 0 rfl mm rfl (Uq 1 rfl (O.call rfl rfl rfl call27 rfl (grow_spec hd (ho.fr hF) hol (hi.fr hF) hll) ?_)))))
 rintro _ H3 ⟨I,hIo,hIw,hIb,tr,S,rfl,hM,hF3,hS⟩
 have hs3:=hF3.size
 replace hF:=hF.trans hF3
 replace mm:=hF3.rd mm (fun _ _=>nw)
 replace mm0:=hF3.keep mm0 nw
 replace mm1:=hF3.keep mm1 nw
 have hSb:∀b,S b∨(b<cx.base∧cx.own b)→B1.size≤b:=fun b hb=>hb.elim (hS b) (fun h=>hIw b h.2)
 have hOO:OO ord=OI:=by rw [←hIo];rfl
 have hpl:=Pl.puts_length OI l
 have hSlt:=hM.lt
 have hbs:=hM.tc.hb
 unfold ptr
 refine ⟨trivial,?_⟩
 refine O.call rfl rfl rfl call32 rfl (Items_spec hP hM (by omega)) ?_
 rintro v4 H4 ⟨h4,hF4⟩
 replace hF:=hF.trans hF4
 replace mm:=hF4.rd mm (fun _ _=>nw)
 replace mm0:=hF4.keep mm0 nw
 replace mm1:=hF4.keep mm1 nw
 refine ⟨trivial,?_⟩
 refine Uf 1 [4] rfl (Go'.ret (vs:=[_]) func26 results26 ⟨rfl,trivial⟩ ?_)
 rw [hOO];exact ⟨h4,hF⟩
theorem alive_spec {B:World} {H:Mem}:Fn Try.prog B 9 [] H (fun r H'=>r=.bool true∧Fr nowhere H H'):=by
 have hal:(Pl.puts (OO []) ((exl.drop 0).take (3-0))).length=3:=by decide
 refine fn_of func9 rfl ntmps9 ?_
 refine (show Go' _ _ _ _ 7 [] [.code _] _ from ?_)
 refine Ut 1 rfl (Ur 1 0 rfl (Uf 1 [0] rfl (Ut 1 rfl (Ur 7 138 rfl (O.call rfl rfl rfl call22 rfl exMake_spec ?_)))))
 rintro _ H1 ⟨rfl,hF1⟩
 refine ⟨trivial,?_⟩
 refine O.call rfl rfl rfl call23 rfl exItems_spec ?_
 rintro ev H2 ⟨hev,hF2⟩
 obtain ⟨ea,ec,hee⟩:=hev.len
 subst hee
 refine ⟨trivial,?_⟩
 refine O.slcIn (E:=EJ) (jh:=3) rfl rfl rfl rfl underlying25 sizeOf27 rfl hev ⟨_,by rfl⟩ rfl (by decide) (by decide) ?_
 intro sv hsv
 refine O.call rfl rfl rfl call26 rfl (igitems_spec (d:=2) (by decide) (InS.nil EN _) (by decide) hsv (by decide)) ?_
 rintro gv H3 ⟨hg,hF3⟩
 obtain ⟨ga,gc,hge⟩:=hg.inS.len
 subst hge
 refine ⟨trivial,?_⟩
 refine Uc 1 rfl (eqlT (by rw [hal];rfl)) (Uf 1 [0] rfl (Go'.ret (vs:=[_]) func9 results9 ⟨rfl,trivial⟩ ?_))
 exact ⟨rfl,(hF1.trans hF2).trans hF3⟩
end Go.Bt.FG
namespace Go.Bt.FG
open Go Go.Proofs Go.Proofs.Try
set_option maxRecDepth 20000
set_option maxHeartbeats 4000000
set_option linter.unusedSectionVars false
structure TkW (b2 b3 D:Nat) (n:Int) (acc:List (Option Addr×Nat×Nat)) (Z:Nat→Prop) (H:Mem):Prop where
 c2:cl H b2 0=some (ptr D)
 c3:cl H b3 0=some (.int .i64 n)
 wr:Wr H D 0 1
 z2:Z b2
 z3:Z b3
 zD:Z D
 n2:b2≠D
 n3:b3≠D
 lt:∀b,Z b→b<H.size
 sl:∃sv Zo,cl H D 0=some sv∧Acc SI.ESl Zo H sv acc∧∀b,Zo b→Z b∧b≠D∧b≠b2∧b≠b3
theorem TkW.fr {b2 b3 D:Nat} {n:Int} {acc:List (Option Addr×Nat×Nat)} {Z:Nat→Prop} {H H':Mem} {Y:Nat→Nat→Prop} (h:TkW b2 b3 D n acc Z H) (hf:Fr Y H H') (hy:∀b o,Z b→¬Y b o):TkW b2 b3 D n acc Z H' where
 c2:=hf.keep h.c2 (hy _ _ h.z2)
 c3:=hf.keep h.c3 (hy _ _ h.z3)
 wr:=hf.wr h.wr
 z2:=h.z2
 z3:=h.z3
 zD:=h.zD
 n2:=h.n2
 n3:=h.n3
 lt:=fun b hb=>Nat.lt_of_lt_of_le (h.lt b hb) hf.size
 sl:=have ⟨sv,Zo,k,hs,hz⟩:=h.sl;⟨sv,Zo,hf.keep k (hy _ _ h.zD),hs.fr hf (fun b o _ hb=>hy _ _ (hz b hb).1),hz⟩
def AccL (Z:Nat→Prop) (H:Mem):List (Option Addr×Nat×Nat)→List (List (Int×Int))→Prop
 | [],[]=>True
 | u::us,l::ls=>Acc EJ Z H (.slice u.1 u.2.1 u.2.2) l∧AccL Z H us ls
 | _,_=>False
theorem AccL.fr {Z:Nat→Prop} {X:Nat→Nat→Prop} {H H':Mem} (hf:Fr X H H') (hz:∀b o,Z b→¬X b o):∀{us:List (Option Addr×Nat×Nat)} {ls:List (List (Int×Int))},AccL Z H us ls→AccL Z H' us ls
 | [],[],_=>trivial
 | _::_,_::_,h=>⟨h.1.fr hf (fun b o _ hb=>hz b o hb),AccL.fr hf hz h.2⟩
 | [],_::_,h=>h.elim
 | _::_,[],h=>h.elim
theorem AccL.mono {Z Y:Nat→Prop} {H:Mem} (hz:∀b,Z b→Y b):∀{us:List (Option Addr×Nat×Nat)} {ls:List (List (Int×Int))},AccL Z H us ls→AccL Y H us ls
 | [],[],_=>trivial
 | _::_,_::_,h=>⟨h.1.mono (fun b _ hb=>hz b hb),AccL.mono hz h.2⟩
 | [],_::_,h=>h.elim
 | _::_,[],h=>h.elim
theorem AccL.snoc {Z:Nat→Prop} {H:Mem} {u:(Option Addr×Nat×Nat)} {l:List (Int×Int)} (hu:Acc EJ Z H (.slice u.1 u.2.1 u.2.2) l):∀{us:List (Option Addr×Nat×Nat)} {ls:List (List (Int×Int))},AccL Z H us ls→AccL Z H (us++[u]) (ls++[l])
 | [],[],_=>⟨hu,trivial⟩
 | _::_,_::_,h=>⟨h.1,AccL.snoc hu h.2⟩
 | [],_::_,h=>h.elim
 | _::_,[],h=>h.elim
theorem AccL.inSS {Z:Nat→Prop} {H:Mem}:∀{us:List (Option Addr×Nat×Nat)} {ls:List (List (Int×Int))},AccL Z H us ls→SI.InSS EJ H us ls
 | [],[],_=>trivial
 | _::_,_::_,h=>⟨h.1.inS,AccL.inSS h.2⟩
 | [],_::_,h=>h.elim
 | _::_,[],h=>h.elim
theorem AccL.len {Z:Nat→Prop} {H:Mem} {us:List (Option Addr×Nat×Nat)} {ls:List (List (Int×Int))} (h:AccL Z H us ls):us.length=ls.length:=h.inSS.len
theorem InSS.take {H:Mem}:∀{us:List (Option Addr×Nat×Nat)} {ls:List (List (Int×Int))} (m:Nat),SI.InSS EJ H us ls→SI.InSS EJ H (us.take m) (ls.take m)
 | _,_,0,_=>trivial
 | [],[],_+1,_=>trivial
 | _::_,_::_,m+1,h=>⟨h.1,InSS.take m h.2⟩
 | [],_::_,_+1,h=>h.elim
 | _::_,[],_+1,h=>h.elim
theorem InSS.firstN {H:Mem} {us:List (Option Addr×Nat×Nat)} {ls:List (List (Int×Int))} {n:Int} (h:SI.InSS EJ H us ls):SI.InSS EJ H (firstN us n) (firstN ls n):=by
 unfold Bt.firstN
 rw [h.len]
 split
 · exact h
 · exact InSS.take _ h
theorem takerW1_spec {B:World} {H:Mem} {b2 b3 D:Nat} {n:Int} {acc:List (Option Addr×Nat×Nat)} {Z:Nat→Prop} {x:(Option Addr×Nat×Nat)} (hT:TkW b2 b3 D n acc Z H) (hl:acc.length<4294967296):
  Fn Try.prog B 63 [.slice x.1 x.2.1 x.2.2,ptr b2,ptr b3] H (fun r H'=>r=.bool (goN n (acc++[x]))∧∃Z',TkW b2 b3 D n (acc++[x]) Z' H'∧Fr (fun b _=>Z b) H H'∧∀b,Z' b→Z b∨H.size≤b):=by
 unfold ptr
 have hlt:=hT.lt
 obtain ⟨c2,c3,hw,z2,z3,zD,n2,n3,lt,sv,Zo,cD,hA,hZo⟩:=hT
 unfold ptr at c2
 have l2:=hlt _ z2
 have l3:=hlt _ z3
 have lD:=hlt _ zD
 have hacc1:(acc++[x]).length=acc.length+1:=by simp
 refine fn_of func63 rfl ntmps63 ?_
 refine (show Go' _ _ _ _ 23 [(0,_),(1,_),(2,_)] [.code _] _ from ?_)
 refine Ut 1 rfl (Ur 1 0 rfl (Uf 1 [0,1,2,4] rfl (Ut 1 rfl (UD (fun H'=>cl H' b2 0=some (.pointer (some ⟨D,0,none⟩))∧cl H' D 0=some sv) 9 206848 (by kernel_rfl) (⟨c2,cD⟩) (UL 0 rfl (fun _ h=>h.1) (UL 0 rfl (fun _ h=>h.1) (UL 1 rfl (fun _ h=>h.2) (Uq 1 rfl (O.bsl (cs:=(SI.ESl.enc x)) rfl rfl rfl ⟨underlying38,sizeOf25,zeroValue25,⟨_,typeInfo25,rfl⟩,rfl,by decide,by decide⟩ rfl (by decide) (by kernel_rfl) ?_)))))))))
 intro H2 M2
 have hs2:=M2.size
 replace c2:=(M2.fr nowhere).keep c2 nw
 replace c3:=(M2.fr nowhere).keep c3 nw
 replace hw:=(M2.fr nowhere).wr hw
 replace hA:=hA.fr (M2.fr nowhere) (fun _ _ _ _=>nw)
 replace cD:=M2.keep cD
 have m2:Rd H2 H.size 0 (row SI.ESl [x]):=M2.rd _ [] (by simp [row,SI.ESl])
 refine ⟨⟨c2,cD⟩,?_⟩
 refine O.appA (E:=SI.ESl) (Y:=[x]) rfl rfl rfl ⟨underlying38,sizeOf25,zeroValue25,⟨_,typeInfo25,rfl⟩,rfl,by decide,by decide⟩ rfl hA rfl ⟨_,_,_,rfl,m2⟩ (Nat.succ_pos _) (Nat.le_trans (Nat.mul_le_mul_left _ (Nat.le_of_ble_eq_true (n:=_) (m:=4096) rfl)) (by simp only [List.length_cons,List.length_nil];omega)) (by simp only [List.length_cons,List.length_nil];omega) ?_
 intro v3 H3 hA3 hF3 hs3
 have hg3:=hF3.size
 replace c2:=hF3.keep c2 (fun hz=>(hZo _ hz).2.2.1 rfl)
 replace c3:=hF3.keep c3 (fun hz=>(hZo _ hz).2.2.2 rfl)
 replace cD:=hF3.keep cD (fun hz=>(hZo _ hz).2.1 rfl)
 replace hw:=hF3.wr hw
 have hlen3:∃a3 c3',v3=.slice a3 (acc.length+1) c3':=by
  obtain ⟨a3,c3',e⟩:=hA3.inS.len
  rw [hacc1] at e
  exact ⟨a3,c3',e⟩
 obtain ⟨a3,c3',rfl⟩:=hlen3
 refine ⟨⟨c2,cD⟩,?_⟩
 refine Uq 1 rfl (O.st3 rfl rfl sizeOf38 rfl rfl rfl rfl rfl hw ?_)
 intro H4 W4
 have hs4:=W4.size
 replace c2:=W4.keep1 c2 (.inl n2)
 replace c3:=W4.keep1 c3 (.inl n3)
 have hA4:=hA3.fr W4.fr (fun b o _ hz=>nr (.inl (hz.elim (fun h=>(hZo b h).2.1) (fun h=>by omega))))
 have cD4:=W4.at
 replace hw:=W4.fr.wr hw
 have hF4:Fr (fun b _=>Z b) H H4:=(((M2.fr nowhere).trans' hF3 (Z:=fun b _=>Z b) (fun _ _ _ h=>h.elim) (fun b o hb hz=>(hZo b hz).1)).trans' W4.fr (fun _ _ _ h=>h) (fun b o _ h=>by rw [h.1];exact zD))
 have hgo:goN n (acc++[x])=(decide (n<1)||decide (((acc.length+1:Nat):Int)<n)):=by unfold goN;rw [hacc1]
 refine Uf 0 [1,2,4] rfl (Ut 1 rfl ?_)
 by_cases h1:n<1
 ·
  refine Ud 11 17473 (by kernel_rfl) (Ul 0 rfl c3 (Uc 0 rfl (lssT (by omega)) (Uf 9 [4] rfl (Go'.ret (vs:=[_]) func63 results63 ⟨rfl,trivial⟩ ?_))))
  exact ⟨by rw [hgo,decide_eq_true h1];rfl,fun b=>Z b∨(H.size≤b∧b<H4.size),⟨c2,c3,hw,.inl z2,.inl z3,.inl zD,n2,n3,fun b hb=>hb.elim (fun h=>by have:=hlt b h;omega) (fun h=>h.2),_,_,cD4,hA4,fun b hb=>hb.elim (fun h=>have h1:=hZo b h;⟨.inl h1.1,h1.2⟩) (fun h=>⟨.inr (by omega),by omega,by omega,by omega⟩)⟩,hF4,fun b hb=>hb.imp id (fun h=>h.1)⟩
 ·
  by_cases h2:((acc.length+1:Nat):Int)<n
  ·
   refine Ud 11 17473 (by kernel_rfl) (Ul 0 rfl c3 (Uc 0 rfl (lssF (by omega)) (Ul 1 rfl c2 (Ul 1 rfl cD4 (Ul 1 rfl c3 (Uc 0 rfl (lssT (by omega)) (Uf 2 [4] rfl (Go'.ret (vs:=[_]) func63 results63 ⟨rfl,trivial⟩ ?_))))))))
   exact ⟨by rw [hgo,decide_eq_false h1,decide_eq_true h2];rfl,fun b=>Z b∨(H.size≤b∧b<H4.size),⟨c2,c3,hw,.inl z2,.inl z3,.inl zD,n2,n3,fun b hb=>hb.elim (fun h=>by have:=hlt b h;omega) (fun h=>h.2),_,_,cD4,hA4,fun b hb=>hb.elim (fun h=>have h1:=hZo b h;⟨.inl h1.1,h1.2⟩) (fun h=>⟨.inr (by omega),by omega,by omega,by omega⟩)⟩,hF4,fun b hb=>hb.imp id (fun h=>h.1)⟩
  ·
   refine Ud 11 17473 (by kernel_rfl) (Ul 0 rfl c3 (Uc 0 rfl (lssF (by omega)) (Ul 1 rfl c2 (Ul 1 rfl cD4 (Ul 1 rfl c3 (Uc 0 rfl (lssF (by omega)) (Uf 2 [4] rfl (Go'.ret (vs:=[_]) func63 results63 ⟨rfl,trivial⟩ ?_))))))))
   exact ⟨by rw [hgo,decide_eq_false h1,decide_eq_false h2];rfl,fun b=>Z b∨(H.size≤b∧b<H4.size),⟨c2,c3,hw,.inl z2,.inl z3,.inl zD,n2,n3,fun b hb=>hb.elim (fun h=>by have:=hlt b h;omega) (fun h=>h.2),_,_,cD4,hA4,fun b hb=>hb.elim (fun h=>have h1:=hZo b h;⟨.inl h1.1,h1.2⟩) (fun h=>⟨.inr (by omega),by omega,by omega,by omega⟩)⟩,hF4,fun b hb=>hb.imp id (fun h=>h.1)⟩
theorem takerW_spec {B:World} {H:Mem} {D:Nat} {n:Int} (hD:cl H D 0=some (.slice none 0 0)) (hw:Wr H D 0 1):
  Fn Try.prog B 36 [ptr D,.int .i64 n] H (fun r H'=>∃b2 b3,r=.func (.func 63) #[] #[ptr b2,ptr b3]∧TkW b2 b3 D n [] (fun b=>b=D∨(H.size≤b∧b<H'.size)) H'∧Fr nowhere H H'):=by
 have hDl:=cl_lt hD
 unfold ptr
 refine fn_of func36 rfl ntmps36 ?_
 refine (show Go' _ _ _ _ 6 [(0,_),(1,_)] [.code _] _ from ?_)
 refine Ut 1 rfl (Ur 3 10 rfl (O.box rfl rfl rfl rfl ?_))
 intro H1 M1
 refine ⟨trivial,?_⟩
 have hs1:=M1.size
 replace hD:=M1.keep hD
 replace hw:=(M1.fr nowhere).wr hw
 have c2:cl H1 H.size 0=some (ptr D):=(M1.cl 0).trans rfl
 refine O.box rfl rfl rfl rfl ?_
 intro H2 M2
 refine ⟨trivial,?_⟩
 have hs2:=M2.size
 replace hD:=M2.keep hD
 replace hw:=(M2.fr nowhere).wr hw
 replace c2:=M2.keep c2
 have c3:cl H2 H1.size 0=some (.int .i64 n):=(M2.cl 0).trans rfl
 refine Uf 1 [2,3,4] rfl (Ut 1 rfl (Ur 2 0 rfl (O.mkf rfl rfl rfl rfl rfl rfl (Uf 1 [4] rfl (Go'.ret (vs:=[_]) func36 results36 ⟨rfl,trivial⟩ ?_)))))
 exact ⟨H.size,H1.size,rfl,⟨c2,c3,hw,.inr (by omega),.inr (by omega),.inl rfl,by omega,by omega,fun b hb=>hb.elim (fun h=>by omega) (fun h=>h.2),_,fun _=>False,hD,Acc.nil _ _ _,fun _ h=>h.elim⟩,(M1.fr nowhere).trans (M2.fr nowhere)⟩
def PrW (tb b2 b3 D:Nat) (n:Int) (acc:List (List (Int×Int))) (Z:Nat→Prop) (H:Mem):Prop:=
 ∃Z0 Zc us,TkW b2 b3 D n us Z0 H∧AccL Zc H us acc∧cl H tb 0=some (.func (.func 63) #[] #[ptr b2,ptr b3])∧¬Z0 tb∧(∀b,Z0 b→Z b)∧Z tb∧(∀b,Zc b→Z b∧¬Z0 b)∧∀b,Z b→b<H.size
theorem PrW.out {tb b2 b3 D:Nat} {n:Int} {acc:List (List (Int×Int))} {Z:Nat→Prop} {H:Mem} (h:PrW tb b2 b3 D n acc Z H):∃v us,cl H D 0=some v∧OutS SI.ESl H v us∧SI.InSS EJ H us acc:=by
 obtain ⟨Z0,Zc,us,hT,hL,_⟩:=h
 obtain ⟨sv,Zo,k,hA,_⟩:=hT.sl
 exact ⟨sv,us,k,hA.out,hL.inSS⟩
theorem gwalk1_spec {B:World} {H:Mem} {tb b2 b3 D:Nat} {n:Int} {acc:List (List (Int×Int))} {Z:Nat→Prop} (x:List (Int×Int)) {v:Value} (hx:InS EJ H v x) (hxl:x.length≤4294967296) (hT:PrW tb b2 b3 D n acc Z H) (hl:acc.length<4294967296):
  Fn Try.prog B 38 [v,ptr tb] H (fun r H'=>r=.bool (goN n (acc++[x]))∧∃Z',PrW tb b2 b3 D n (acc++[x]) Z' H'∧Fr (fun b _=>Z b) H H'∧∀b,Z' b→Z b∨H.size≤b):=by
 obtain ⟨Z0,Zc,us,hT,hL,cp,n0,h0,zp,hc,lt⟩:=hT
 obtain ⟨xa,xc,rfl⟩:=hx.len
 have hul:=hL.len
 unfold ptr
 refine fn_of func38 rfl ntmps38 ?_
 refine (show Go' _ _ _ _ 8 [(0,_),(1,_)] [.code _] _ from ?_)
 refine Ut 1 rfl (Ur 1 0 rfl (Uf 1 [0,1,3] rfl (Ut 1 rfl (UD (fun H'=>cl H' tb 0=some (.func (.func 63) #[] #[ptr b2,ptr b3])) 5 160 (by kernel_rfl) (cp) (UL 0 rfl (fun _ h=>h) (Uq 1 rfl (O.appAI (E:=EJ) rfl rfl rfl ⟨underlying25,sizeOf27,zeroValue27,⟨_,typeInfo27,rfl⟩,rfl,by decide,by decide⟩ rfl (Acc.nil EJ (fun _=>False) _) rfl hx (Nat.le_trans (Nat.mul_le_mul_left _ (Nat.le_of_ble_eq_true (n:=_) (m:=4096) rfl)) (by simp only [List.length_cons,List.length_nil];omega)) (by simp only [List.length_cons,List.length_nil];omega) ?_)))))))
 intro v2 H2 hA2 hF2 hs2
 have hg2:=hF2.size
 replace hF2:Fr nowhere H H2:=hF2.mono (fun _ _ _ h=>h.elim)
 rw [List.nil_append] at hA2
 replace hT:=hT.fr hF2 (fun _ _ _=>nw)
 replace hL:=hL.fr hF2 (fun _ _ _=>nw)
 replace cp:=hF2.keep cp nw
 obtain ⟨a2,m2,c2,rfl⟩:=hA2.form
 refine ⟨cp,?_⟩
 refine O.callC (us:=[]) (caps:=[ptr b2,ptr b3]) rfl rfl rfl rfl call63 rfl (takerW1_spec (x:=(a2,m2,c2)) hT (by omega)) ?_
 rintro _ H3 ⟨rfl,Z3,hT3,hF3,hZ3⟩
 have hs3:=hF3.size
 replace cp:=hF3.keep cp n0
 refine ⟨cp,?_⟩
 refine Uf 1 [3] rfl (Go'.ret (vs:=[_]) func38 results38 ⟨rfl,trivial⟩ ?_)
 have ltp:=lt tb zp
 have hlt0:∀b,Z0 b→b<H.size:=fun b hb=>lt b (h0 b hb)
 have e2:goN n (us++[(a2,m2,c2)])=goN n (acc++[x]):=by unfold goN;simp [hul]
 refine ⟨congrArg Value.bool e2,fun b=>Z b∨(H.size≤b∧b<H3.size),⟨Z3,fun b=>Zc b∨(b=H.size∧b<H2.size),us++[(a2,m2,c2)],hT3,?_,cp,fun h=>(hZ3 _ h).elim n0 (fun h=>by omega),fun b hb=>(hZ3 b hb).elim (fun h=>.inl (h0 b h)) (fun h=>.inr ⟨by omega,hT3.lt b hb⟩),.inl zp,fun b hb=>?_,fun b hb=>hb.elim (fun h=>by have:=lt b h;omega) (fun h=>h.2)⟩,
  hF2.trans' hF3 (fun _ _ _ h=>h.elim) (fun b o _ h=>h0 b h),fun b hb=>hb.imp id (fun h=>h.1)⟩
 ·
  have hd:∀b,(Zc b∨(b=H.size∧b<H2.size))→¬Z0 b:=fun b hb hz=>hb.elim (fun h=>(hc b h).2 hz) (fun h=>by have:=hlt0 b hz;omega)
  exact (AccL.snoc (hA2.mono (fun b _ hb=>hb.elim (fun h=>h.elim) .inr)) (hL.mono (fun b hb=>.inl hb))).fr hF3 (fun b o hb hz=>hd b hb hz)
 ·
  rcases hb with hb|hb
  · exact ⟨.inl (hc b hb).1,fun h=>(hZ3 b h).elim (hc b hb).2 (fun h=>by have:=lt b (hc b hb).1;omega)⟩
  · exact ⟨.inr (by omega),fun h=>(hZ3 b h).elim (fun h=>by have:=hlt0 b h;omega) (fun h=>by omega)⟩
def cbGWalk (B:World) (tb b2 b3 D:Nat) (n:Int):Wb Try.prog B 38 [] [ptr tb] (goN n) 4294967296 where
 T:=PrW tb b2 b3 D n
 fr:=fun ⟨Z0,Zc,us,hT,hL,cp,n0,h0,zp,hc,lt⟩ hf hy=>⟨Z0,Zc,us,hT.fr hf (fun b o hb=>hy b o (h0 b hb)),hL.fr hf (fun b o hb=>hy b o (hc b hb).1),hf.keep cp (hy _ _ zp),n0,h0,zp,hc,fun b hb=>Nat.lt_of_lt_of_le (lt b hb) hf.size⟩
 lt:=fun ⟨_,_,_,_,_,_,_,_,_,_,lt⟩ hb=>lt _ hb
 call:=fun x _ hx hxl hT hl=>gwalk1_spec x hx hxl hT hl
theorem gwalkmut1_spec {B:World} {H:Mem} {tb b2 b3 D:Nat} {n:Int} {acc:List (List (Int×Int))} {Z:Nat→Prop} (x:List (Int×Int)) {v:Value} (hx:InS EJ H v x) (hxl:x.length≤4294967296) (hT:PrW tb b2 b3 D n acc Z H) (hl:acc.length<4294967296):
  Fn Try.prog B 45 [v,ptr tb] H (fun r H'=>r=.bool (goN n (acc++[x]))∧∃Z',PrW tb b2 b3 D n (acc++[x]) Z' H'∧Fr (fun b _=>Z b) H H'∧∀b,Z' b→Z b∨H.size≤b):=by
 obtain ⟨Z0,Zc,us,hT,hL,cp,n0,h0,zp,hc,lt⟩:=hT
 obtain ⟨xa,xc,rfl⟩:=hx.len
 have hul:=hL.len
 unfold ptr
 refine fn_of func45 rfl ntmps45 ?_
 refine (show Go' _ _ _ _ 8 [(0,_),(1,_)] [.code _] _ from ?_)
 refine Ut 1 rfl (Ur 1 0 rfl (Uf 1 [0,1,3] rfl (Ut 1 rfl (UD (fun H'=>cl H' tb 0=some (.func (.func 63) #[] #[ptr b2,ptr b3])) 5 160 (by kernel_rfl) (cp) (UL 0 rfl (fun _ h=>h) (Uq 1 rfl (O.appAI (E:=EJ) rfl rfl rfl ⟨underlying25,sizeOf27,zeroValue27,⟨_,typeInfo27,rfl⟩,rfl,by decide,by decide⟩ rfl (Acc.nil EJ (fun _=>False) _) rfl hx (Nat.le_trans (Nat.mul_le_mul_left _ (Nat.le_of_ble_eq_true (n:=_) (m:=4096) rfl)) (by simp only [List.length_cons,List.length_nil];omega)) (by simp only [List.length_cons,List.length_nil];omega) ?_)))))))
 intro v2 H2 hA2 hF2 hs2
 have hg2:=hF2.size
 replace hF2:Fr nowhere H H2:=hF2.mono (fun _ _ _ h=>h.elim)
 rw [List.nil_append] at hA2
 replace hT:=hT.fr hF2 (fun _ _ _=>nw)
 replace hL:=hL.fr hF2 (fun _ _ _=>nw)
 replace cp:=hF2.keep cp nw
 obtain ⟨a2,m2,c2,rfl⟩:=hA2.form
 refine ⟨cp,?_⟩
 refine O.callC (us:=[]) (caps:=[ptr b2,ptr b3]) rfl rfl rfl rfl call63 rfl (takerW1_spec (x:=(a2,m2,c2)) hT (by omega)) ?_
 rintro _ H3 ⟨rfl,Z3,hT3,hF3,hZ3⟩
 have hs3:=hF3.size
 replace cp:=hF3.keep cp n0
 refine ⟨cp,?_⟩
 refine Uf 1 [3] rfl (Go'.ret (vs:=[_]) func45 results45 ⟨rfl,trivial⟩ ?_)
 have ltp:=lt tb zp
 have hlt0:∀b,Z0 b→b<H.size:=fun b hb=>lt b (h0 b hb)
 have e2:goN n (us++[(a2,m2,c2)])=goN n (acc++[x]):=by unfold goN;simp [hul]
 refine ⟨congrArg Value.bool e2,fun b=>Z b∨(H.size≤b∧b<H3.size),⟨Z3,fun b=>Zc b∨(b=H.size∧b<H2.size),us++[(a2,m2,c2)],hT3,?_,cp,fun h=>(hZ3 _ h).elim n0 (fun h=>by omega),fun b hb=>(hZ3 b hb).elim (fun h=>.inl (h0 b h)) (fun h=>.inr ⟨by omega,hT3.lt b hb⟩),.inl zp,fun b hb=>?_,fun b hb=>hb.elim (fun h=>by have:=lt b h;omega) (fun h=>h.2)⟩,
  hF2.trans' hF3 (fun _ _ _ h=>h.elim) (fun b o _ h=>h0 b h),fun b hb=>hb.imp id (fun h=>h.1)⟩
 ·
  have hd:∀b,(Zc b∨(b=H.size∧b<H2.size))→¬Z0 b:=fun b hb hz=>hb.elim (fun h=>(hc b h).2 hz) (fun h=>by have:=hlt0 b hz;omega)
  exact (AccL.snoc (hA2.mono (fun b _ hb=>hb.elim (fun h=>h.elim) .inr)) (hL.mono (fun b hb=>.inl hb))).fr hF3 (fun b o hb hz=>hd b hb hz)
 ·
  rcases hb with hb|hb
  · exact ⟨.inl (hc b hb).1,fun h=>(hZ3 b h).elim (hc b hb).2 (fun h=>by have:=lt b (hc b hb).1;omega)⟩
  · exact ⟨.inr (by omega),fun h=>(hZ3 b h).elim (fun h=>by have:=hlt0 b h;omega) (fun h=>by omega)⟩
def cbGWalkMut (B:World) (tb b2 b3 D:Nat) (n:Int):Wb Try.prog B 45 [] [ptr tb] (goN n) 4294967296 where
 T:=PrW tb b2 b3 D n
 fr:=fun ⟨Z0,Zc,us,hT,hL,cp,n0,h0,zp,hc,lt⟩ hf hy=>⟨Z0,Zc,us,hT.fr hf (fun b o hb=>hy b o (h0 b hb)),hL.fr hf (fun b o hb=>hy b o (hc b hb).1),hf.keep cp (hy _ _ zp),n0,h0,zp,hc,fun b hb=>Nat.lt_of_lt_of_le (lt b hb) hf.size⟩
 lt:=fun ⟨_,_,_,_,_,_,_,_,_,_,lt⟩ hb=>lt _ hb
 call:=fun x _ hx hxl hT hl=>gwalkmut1_spec x hx hxl hT hl
end Go.Bt.FG
