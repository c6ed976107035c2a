/- Trees whose children are evened out: from the nodes in memory to the trees. Conditions: none. -/
import Derived.Test.YtmcnochofpgfbaaToSg
import Derived.Test.YtmcnochofpgfbaaToAb
set_option linter.unusedVariables false
namespace Go.Bt
open Go
variable {α:Type} {E:Elt α}
theorem Inn.alone {H:Mem} {P:Ps} {h:Nat} {g:Ng} {X:List α} {os:List (Option Nat)} {K:List (Gt E h)} (hI:Inn H P h g X os K):Rn E H P g X os:=
 ⟨hI.n,hI.k,⟨fun k hk=>absurd hk (List.not_mem_nil),List.Pairwise.nil⟩,hI.iso⟩
theorem Inn.putM {Z RA:Rg} {H H':Mem} {P:Ps} {h:Nat} {g g':Ng} {X X':List α} {os os':List (Option Nat)} {K1 K2 M:List (Gt E h)} (hI:Inn H P h g X os (K1++K2)) (hn:Rn E H' P g' X' os') (hf:Fr Z H H')
  (hZ:∀b o,b<H.size→Z b o→rn E g b o∨RA b o) (hg:Gro H (rn E g) (rn E g')) (hRA:Off RA (innc h g (K1++K2)))
  (hM:∀m∈M,Gt.Good H' P h m∧P.mn≤(Gt.X h m).length∧Gro H RA (Gt.af h m)∧Off (Gt.af h m) (rn E g')) (hP:M.Pairwise fun k k'=>Off (Gt.af h k) (Gt.af h k')):
  Inn H' P h g' X' os' (K1++M++K2):=by
 have hold:∀k∈K1++K2,(Gt.Good H' P h k∧P.mn≤(Gt.X h k).length∧∀b o,Gt.af h k b o→¬ncl E g' b o∧¬kcl g' b o):=fun k hk=>by
  obtain ⟨h1,h2,h3⟩:=hI.c.1 k hk
  have hn1:∀b o,Gt.af h k b o→¬rn E g b o:=fun b o hb hr=>(rn_iff.1 hr).elim (h3 b o hb).1 (h3 b o hb).2
  have hn2:∀b o,Gt.af h k b o→¬RA b o:=fun b o hb hr=>hRA b o hr (.inr (.inr ⟨k,hk,hb⟩))
  refine ⟨h1.fr hf fun b o hb hz=>(hZ b o (h1.lt hb) hz).elim (hn1 b o hb) (hn2 b o hb),h2,fun b o hb=>?_⟩
  have:¬rn E g' b o:=hg.not (h1.lt hb) (hn1 b o hb)
  exact ⟨fun h=>this (rn_iff.2 (.inl h)),fun h=>this (rn_iff.2 (.inr h))⟩
 have cross:∀k∈K1++K2,∀m∈M,Off (Gt.af h k) (Gt.af h m):=fun k hk m hm=>(hM m hm).2.2.1.off (fun b o hb hr=>hRA b o hr (.inr (.inr ⟨k,hk,hb⟩))) fun b o hb=>(hI.c.1 k hk).1.lt hb
 refine ⟨hn.n,hn.k,⟨fun k hk=>?_,?_⟩,hn.iso⟩
 ·
  simp only [List.mem_append] at hk
  rcases hk with (hk|hk)|hk
  · exact hold k (List.mem_append_left _ hk)
  ·
   obtain ⟨h1,h2,_,h4⟩:=hM k hk
   exact ⟨h1,h2,fun b o hb=>⟨fun h=>h4 b o hb (rn_iff.2 (.inl h)),fun h=>h4 b o hb (rn_iff.2 (.inr h))⟩⟩
  · exact hold k (List.mem_append_right _ hk)
 ·
  have hp:=hI.c.2
  rw [List.pairwise_append] at hp
  obtain ⟨p1,p2,p12⟩:=hp
  rw [List.append_assoc,List.pairwise_append,List.pairwise_append]
  refine ⟨p1,⟨hP,p2,fun m hm k hk b o hmb hb=>cross k (List.mem_append_right _ hk) m hm b o hb hmb⟩,fun k hk m hm b o hb hmb=>?_⟩
  rcases List.mem_append.1 hm with hm|hm
  · exact cross k (List.mem_append_left _ hk) m hm b o hb hmb
  · exact p12 k hk m hm b o hb hmb
def GoodM (H H':Mem) (P:Ps) (RA:Rg) (g':Ng) (h:Nat) (m:Gt E h):Prop:=Gt.Good H' P h m∧P.mn≤(Gt.X h m).length∧Gro H RA (Gt.af h m)∧Off (Gt.af h m) (rn E g')
def SegC (P:Ps) (h:Nat) (u v:Gt E h) (x:α) (R:α→List α→Prop):Prop:=
 Gt.Seg R h u∧Gt.Seg R h v∧((AllP R (x::Gt.L h v)∧(Gt.X h u).length<P.mn)∨((∀w∈Gt.L h u++[x],∀l,R w l)∧(Gt.X h v).length<P.mn))
def RebMid (H H':Mem) (P:Ps) (h:Nat) (RA:Rg) (i:Nat) (g:Ng) (X:List α) (os:List (Option Nat)) (pl pr:Nat) (L0:List α) (SC:(α→List α→Prop)→Prop) (E:Elt α):Prop:=
 ∃g',g'.p=g.p∧g'.cnt=g.cnt∧Gro H (rn E g) (rn E g')∧Fr (fun b o=>rn E g b o∨RA b o) H H'∧
  ((∃m:Gt E h,Rn E H' P g' (X.take i++X.drop (i+1)) (os.take (i+1)++os.drop (i+1+1))∧Gt.p h m=pl∧GoodM H H' P RA g' h m∧Gt.L h m=L0∧∀R,SC R→Gt.Seg R h m)∨
  ∃(m1 m2:Gt E h) (y:α),Rn E H' P g' (X.take i++y::X.drop (i+1)) os∧Gt.p h m1=pl∧Gt.p h m2=pr∧GoodM H H' P RA g' h m1∧GoodM H H' P RA g' h m2∧Off (Gt.af h m1) (Gt.af h m2)∧Gt.L h m1++y::Gt.L h m2=L0∧∀R,SC R→Gt.Seg R h m1∧Gt.Seg R h m2∧R y (Gt.L h m2))
theorem reb_leaf {D:Nat→Prop} {H H':Mem} {P:Ps} (hm1:1≤P.mn) {cn:Nat→Nat} {i:Nat} {g gl gr:Ng} {X Xl Xr:List α} {os:List (Option Nat)} {x:α} (hi:RebIn E H P D true cn i g gl gr X Xl Xr os [] [] x) (ho:RebOut E H H' P true cn i g gl gr X Xl Xr os [] [] x) (hc:gl.cnt=Xl.length∧gr.cnt=Xr.length):
  RebMid H H' P 0 (fun b o=>ncl E gl b o∨ncl E gr b o) i g X os gl.p gr.p (Xl++x::Xr) (SegC (E:=E) P 0 ((gl,Xl):Gt E 0) ((gr,Xr):Gt E 0) x) E:=by
 obtain ⟨hf,g',gl',e1,e2,e3,gg,ggl,dl,hr⟩:=ho
 refine ⟨g',e1,e2,gg,hf.mono (fun b o _ h=>h.elim .inl .inr),?_⟩
 have hml:=hi.ml
 have hmr:=hi.mr
 rcases hr with ⟨hlt,hn,⟨hl,hli,_⟩,hcn⟩|⟨gr',Xl',Xr',osl',osr',y,e4,ggr,dr,dlr,hn,⟨hl,hli,rfl⟩,⟨hr,hri,rfl⟩,hcl,hcr,hx,_,b1,b2,b3,b4,_⟩
 ·
  have hll:(Xl++x::Xr).length=Xl.length+(Xr.length+1):=by simp
  refine .inl ⟨((gl',Xl++x::Xr):Gt E 0),hn,e3,⟨⟨hl,hli,?_,?_⟩,?_,fun b o hb=>(ggl b o hb).imp .inl id,dl⟩,rfl,fun _ _=>trivial⟩
  ·
   show gl'.cnt=_
   rw [hcn,hll,hc.1,hc.2]
  ·
   show (Xl++x::Xr).length≤_
   rw [hll];omega
  ·
   show _≤(Xl++x::Xr).length
   rw [hll];omega
 ·
  simp only [List.map_nil,List.sum_nil,Nat.add_zero] at hcl hcr
  refine .inr ⟨((gl',Xl'):Gt E 0),((gr',Xr'):Gt E 0),y,hn,e3,e4,⟨⟨hl,hli,hcl,b3⟩,b1,fun b o hb=>(ggl b o hb).imp .inl id,dl⟩,⟨⟨hr,hri,hcr,b4⟩,b2,fun b o hb=>(ggr b o hb).imp .inr id,dr⟩,dlr,hx,fun R hR=>⟨trivial,trivial,?_⟩⟩
  obtain ⟨_,_,hc⟩:=hR
  show R y Xr'
  have hlx:Xl'.length+(Xr'.length+1)=Xl.length+(Xr.length+1):=by have:=congrArg List.length hx;simpa using this
  rcases hc with ⟨hc,hs⟩|⟨hc,hs⟩
  ·
   replace hs:Xl.length<P.mn:=hs
   have e1:Xl'=Xl++x::(Xl'.drop (Xl.length+1)):=by
    have h1:=congrArg (List.take Xl'.length) hx
    rw [List.take_left] at h1
    have h2:(Xl++x::Xr).take Xl'.length=Xl++(x::Xr).take (Xl'.length-Xl.length):=by rw [List.take_append,List.take_of_length_le (by omega)]
    obtain ⟨d,hd⟩:∃d,Xl'.length-Xl.length=d+1:=⟨Xl'.length-Xl.length-1,by omega⟩
    rw [h2,hd,List.take_succ_cons] at h1
    have h3:Xl'.drop (Xl.length+1)=Xr.take d:=by rw [h1,←List.drop_drop,List.drop_left];rfl
    rw [h3];exact h1
   have e2:=hx
   rw [e1,List.append_assoc,List.cons_append,List.append_cancel_left_eq,List.cons.injEq] at e2
   refine hc (x::Xl'.drop (Xl.length+1)) y Xr' [] ?_
   show x::Xr=_
   rw [←e2.2];simp
  ·
   replace hs:Xr.length<P.mn:=hs
   have hy:y∈Xl:=by
    have h1:(Xl'++y::Xr')[Xl'.length]?=(Xl++x::Xr)[Xl'.length]?:=by rw [hx]
    rw [List.getElem?_append_right (Nat.le_refl _),Nat.sub_self,List.getElem?_cons_zero,List.getElem?_append_left (by omega)] at h1
    exact List.mem_of_getElem? h1.symm
   exact hc y (List.mem_append_left _ hy) _
theorem sum_os {H:Mem} {h:Nat} {K:List (Gt E h)} {P:Ps} (hK:∀k∈K,Gt.Good H P h k):(((Gt.ps h K).map some).map (cnO (cnOf H))).sum=((K.map (Gt.L h)).map List.length).sum:=by
 congr 1
 unfold Gt.ps
 rw [List.map_map,List.map_map,List.map_map]
 exact List.map_congr_left fun k hk=>((hK k hk).cnOf).2
theorem split_ps {h:Nat} {K:List (Gt E h)} {a b:List (Option Nat)} (e:a++b=(Gt.ps h K).map some):a=(Gt.ps h (K.take a.length)).map some∧b=(Gt.ps h (K.drop a.length)).map some:=by
 unfold Gt.ps at*
 rw [List.map_take,List.map_take,List.map_drop,List.map_drop,←e]
 simp
theorem good_kids {Z:Rg} {H H':Mem} {P:Ps} {h:Nat} {g:Ng} {X:List α} {K:List (Gt E h)} (hr:Rn E H' P g X ((Gt.ps h K).map some)) (hf:Fr Z H H')
  (hK:∀k∈K,Gt.Good H P h k∧P.mn≤(Gt.X h k).length∧(∀b o,Gt.af h k b o→¬Z b o)∧Off (Gt.af h k) (rn E g)) (hp:K.Pairwise fun k k'=>Off (Gt.af h k) (Gt.af h k'))
  (hc:g.cnt=(Pl.inter X (K.map (Gt.L h))).length) (hx:X.length≤P.mx) (hl:K.length=X.length+1):Gt.Good H' P (h+1) ((g,X,K):Gt E (h+1)):=
 ⟨hr.n,KidO.m hr.k,hr.iso,hc,hx,hl,fun k hk=>⟨(hK k hk).1.fr hf (hK k hk).2.2.1,(hK k hk).2.1,fun b o hb=>⟨fun h=>(hK k hk).2.2.2 b o hb (rn_iff.2 (.inl h)),fun h=>(hK k hk).2.2.2 b o hb (rn_iff.2 (.inr h))⟩⟩,hp⟩
theorem reb_inner {D:Nat→Prop} {H H':Mem} {P:Ps} (hm1:1≤P.mn) {h i:Nat} {g gl gr:Ng} {X Xl Xr:List α} {Kl Kr:List (Gt E h)} {os:List (Option Nat)} {x:α}
  (hl:Gt.Good H P (h+1) ((gl,Xl,Kl):Gt E (h+1))) (hr:Gt.Good H P (h+1) ((gr,Xr,Kr):Gt E (h+1))) (hdl:Off (Gt.af (h+1) ((gl,Xl,Kl):Gt E (h+1))) (Gt.af (h+1) ((gr,Xr,Kr):Gt E (h+1))))
  (hng:∀k∈Kl++Kr,Off (Gt.af h k) (rn E g))
  (hi:RebIn E H P D false (cnOf H) i g gl gr X Xl Xr os ((Gt.ps h Kl).map some) ((Gt.ps h Kr).map some) x) (ho:RebOut E H H' P false (cnOf H) i g gl gr X Xl Xr os ((Gt.ps h Kl).map some) ((Gt.ps h Kr).map some) x):
  RebMid H H' P (h+1) (fun b o=>Gt.af (h+1) ((gl,Xl,Kl):Gt E (h+1)) b o∨Gt.af (h+1) ((gr,Xr,Kr):Gt E (h+1)) b o) i g X os gl.p gr.p (Gt.L (h+1) ((gl,Xl,Kl):Gt E (h+1))++x::Gt.L (h+1) ((gr,Xr,Kr):Gt E (h+1))) (SegC (E:=E) P (h+1) ((gl,Xl,Kl):Gt E (h+1)) ((gr,Xr,Kr):Gt E (h+1)) x) E:=by
 obtain ⟨hf,g',gl',e1,e2,e3,gg,ggl,dl,hh⟩:=ho
 have hml:=hi.ml
 have hmr:=hi.mr
 have hKl:Kl.length=Xl.length+1:=hl.2.2.2.2.2.1
 have hKr:Kr.length=Xr.length+1:=hr.2.2.2.2.2.1
 have rl:∀b o,rn E gl b o→Gt.af (h+1) ((gl,Xl,Kl):Gt E (h+1)) b o:=fun b o hb=>(rn_iff.1 hb).elim .inl (fun h=>.inr (.inl h))
 have rr:∀b o,rn E gr b o→Gt.af (h+1) ((gr,Xr,Kr):Gt E (h+1)) b o:=fun b o hb=>(rn_iff.1 hb).elim .inl (fun h=>.inr (.inl h))
 have hfull:Fr (fun b o=>rn E g b o∨(Gt.af (h+1) ((gl,Xl,Kl):Gt E (h+1)) b o∨Gt.af (h+1) ((gr,Xr,Kr):Gt E (h+1)) b o)) H H':=
  hf.mono fun b o _ hz=>hz.elim .inl fun hz=>.inr (hz.imp (rl b o) (rr b o))
 have kAll:∀k∈Kl++Kr,Gt.Good H P h k∧P.mn≤(Gt.X h k).length∧(∀b o,Gt.af h k b o→¬(rn E g b o∨rwc E false gl b o∨rwc E false gr b o))∧Off (Gt.af h k) (rn E gl)∧Off (Gt.af h k) (rn E gr):=fun k hk=>by
  have hg0:=hng k hk
  rcases List.mem_append.1 hk with hk|hk
  ·
   obtain ⟨q1,q2,q3⟩:=hl.2.2.2.2.2.2.1 k hk
   have a1:Off (Gt.af h k) (rn E gl):=fun b o hb hr=>(rn_iff.1 hr).elim (q3 b o hb).1 (q3 b o hb).2
   have a2:Off (Gt.af h k) (rn E gr):=fun b o hb hr=>hdl b o (.inr (.inr ⟨k,hk,hb⟩)) (rr b o hr)
   exact ⟨q1,q2,fun b o hb hz=>hz.elim (hg0 b o hb) fun hz=>hz.elim (a1 b o hb) (a2 b o hb),a1,a2⟩
  ·
   obtain ⟨q1,q2,q3⟩:=hr.2.2.2.2.2.2.1 k hk
   have a1:Off (Gt.af h k) (rn E gr):=fun b o hb hr=>(rn_iff.1 hr).elim (q3 b o hb).1 (q3 b o hb).2
   have a2:Off (Gt.af h k) (rn E gl):=fun b o hb hr=>hdl b o (rl b o hr) (.inr (.inr ⟨k,hk,hb⟩))
   exact ⟨q1,q2,fun b o hb hz=>hz.elim (hg0 b o hb) fun hz=>hz.elim (a2 b o hb) (a1 b o hb),a2,a1⟩
 have pAll:(Kl++Kr).Pairwise fun k k'=>Off (Gt.af h k) (Gt.af h k'):=by
  rw [List.pairwise_append]
  exact ⟨hl.2.2.2.2.2.2.2,hr.2.2.2.2.2.2.2,fun k hk k' hk' b o hb hb'=>hdl b o (.inr (.inr ⟨k,hk,hb⟩)) (.inr (.inr ⟨k',hk',hb'⟩))⟩
 have kaf:∀k∈Kl++Kr,∀b o,Gt.af h k b o→Gt.af (h+1) ((gl,Xl,Kl):Gt E (h+1)) b o∨Gt.af (h+1) ((gr,Xr,Kr):Gt E (h+1)) b o:=fun k hk b o hb=>
  (List.mem_append.1 hk).imp (fun hk=>.inr (.inr ⟨k,hk,hb⟩)) (fun hk=>.inr (.inr ⟨k,hk,hb⟩))
 have glen:∀K:List (Gt E h),(∀k∈K,k∈Kl++Kr)→(((Gt.ps h K).map some).map (cnO (cnOf H))).sum=((K.map (Gt.L h)).map List.length).sum:=fun K hK=>sum_os (P:=P) fun k hk=>(kAll k (hK k hk)).1
 have mk:∀{gm:Ng} {Xm:List α} {K:List (Gt E h)},Rn E H' P gm Xm ((Gt.ps h K).map some)→(∀k∈K,k∈Kl++Kr)→K.Pairwise (fun k k'=>Off (Gt.af h k) (Gt.af h k'))→(∀k∈K,Off (Gt.af h k) (rn E gm))→
   gm.cnt=Xm.length+(((Gt.ps h K).map some).map (cnO (cnOf H))).sum→Xm.length≤P.mx→K.length=Xm.length+1→Gt.Good H' P (h+1) ((gm,Xm,K):Gt E (h+1)):=fun {gm Xm K} h1 h2 h3 h4 h5 h6 h7=>
  good_kids h1 hf (fun k hk=>⟨(kAll k (h2 k hk)).1,(kAll k (h2 k hk)).2.1,(kAll k (h2 k hk)).2.2.1,h4 k hk⟩) h3 (by rw [h5,glen K h2,Pl.inter_length _ _ (by rw [List.length_map];exact h7)]) h6 h7
 have offg':∀k∈Kl++Kr,Off (Gt.af h k) (rn E g'):=fun k hk=>gg.off (hng k hk) fun b o hb=>(kAll k hk).1.lt hb
 refine ⟨g',e1,e2,gg,hfull,?_⟩
 have hLL:Gt.L (h+1) ((gl,Xl,Kl):Gt E (h+1))++x::Gt.L (h+1) ((gr,Xr,Kr):Gt E (h+1))=Pl.inter (Xl++x::Xr) ((Kl++Kr).map (Gt.L h)):=by
  rw [List.map_append,Pl.inter_item _ _ _ _ _ (by rw [List.length_map];omega)];rfl
 rw [hLL]
 rcases hh with ⟨hlt,hn,hl',hcn⟩|⟨gr',Xl',Xr',osl',osr',y,e4,ggr,dr,dlr,hn,hl',hr',hcl,hcr,hx,hos,b1,b2,b3,b4,b5⟩
 ·
  have hll:(Xl++x::Xr).length=Xl.length+(Xr.length+1):=by simp
  replace hl':Rn E H' P gl' (Xl++x::Xr) ((Gt.ps h Kl).map some++(Gt.ps h Kr).map some):=hl'
  rw [show (Gt.ps h Kl).map some++(Gt.ps h Kr).map some=(Gt.ps h (Kl++Kr)).map some by simp [Gt.ps]] at hl'
  have offl':∀k∈Kl++Kr,Off (Gt.af h k) (rn E gl'):=fun k hk=>Gro.off ggl (kAll k hk).2.2.2.1 fun b o hb=>(kAll k hk).1.lt hb
  have hG:=mk hl' (fun _ h=>h) pAll offl' (by
   rw [hcn,hll,show ((Gt.ps h (Kl++Kr)).map some)=(Gt.ps h Kl).map some++(Gt.ps h Kr).map some by simp [Gt.ps],List.map_append,List.sum_append]
   have:=hi.cl
   have:=hi.cr
   omega) (by rw [hll];omega) (by rw [hll,List.length_append];omega)
  refine .inl ⟨((gl',Xl++x::Xr,Kl++Kr):Gt E (h+1)),hn,e3,⟨hG,?_,fun b o hb=>?_,fun b o hb=>?_⟩,rfl,fun R ⟨r1,r2,rc⟩=>⟨?_,fun k hk=>(List.mem_append.1 hk).elim (r1.2 k) (r2.2 k)⟩⟩
  ·
   show _≤(Xl++x::Xr).length
   rw [hll];omega
  ·
   rcases hb with hb|hb|⟨k,hk,hb⟩
   · exact (ggl b o (rn_iff.2 (.inl hb))).imp (fun h=>.inl (rl b o h)) id
   · exact (ggl b o (rn_iff.2 (.inr hb))).imp (fun h=>.inl (rl b o h)) id
   · exact .inl (kaf k hk b o hb)
  ·
   rcases hb with hb|hb|⟨k,hk,hb⟩
   · exact dl b o (rn_iff.2 (.inl hb))
   · exact dl b o (rn_iff.2 (.inr hb))
   · exact offg' k hk b o hb
  ·
   show SegN R (Xl++x::Xr) ((Kl++Kr).map (Gt.L h))
   rw [List.map_append]
   exact SegN.reb (by rw [List.length_map];exact hKl) (by rw [List.length_map];exact hKr) r1.1 r2.1 rc
 ·
  obtain ⟨s1,s2⟩:=split_ps (K:=Kl++Kr) (hos.trans (by simp [Gt.ps]))
  have hol:=b5 rfl
  generalize hA:(Kl++Kr).take osl'.length=A at s1
  generalize hB:(Kl++Kr).drop osl'.length=B at s2
  have hAB:A++B=Kl++Kr:=by rw [←hA,←hB,List.take_append_drop]
  subst s1 s2
  have lA:A.length=Xl'.length+1:=by simpa [Gt.ps] using hol
  have hlen:Xl'.length+(Xr'.length+1)=Xl.length+(Xr.length+1):=by have:=congrArg List.length hx;simpa using this
  have lB:B.length=Xr'.length+1:=by
   have:=congrArg List.length hAB
   simp only [List.length_append] at this
   omega
  have sA:∀k∈A,k∈Kl++Kr:=fun k hk=>by rw [←hAB];exact List.mem_append_left _ hk
  have sB:∀k∈B,k∈Kl++Kr:=fun k hk=>by rw [←hAB];exact List.mem_append_right _ hk
  rw [←hAB,List.pairwise_append] at pAll
  obtain ⟨pA,pB,pAB⟩:=pAll
  have oA:∀k∈Kl++Kr,Off (Gt.af h k) (rn E gl'):=fun k hk=>Gro.off ggl (kAll k hk).2.2.2.1 fun b o hb=>(kAll k hk).1.lt hb
  have oB:∀k∈Kl++Kr,Off (Gt.af h k) (rn E gr'):=fun k hk=>Gro.off ggr (kAll k hk).2.2.2.2 fun b o hb=>(kAll k hk).1.lt hb
  have gA:=mk hl' sA pA (fun k hk=>oA k (sA k hk)) hcl b3 lA
  have gB:=mk hr' sB pB (fun k hk=>oB k (sB k hk)) hcr b4 lB
  refine .inr ⟨((gl',Xl',A):Gt E (h+1)),((gr',Xr',B):Gt E (h+1)),y,hn,e3,e4,⟨gA,b1,fun b o hb=>?_,fun b o hb=>?_⟩,⟨gB,b2,fun b o hb=>?_,fun b o hb=>?_⟩,fun b o hb hb2=>?_,?_,fun R ⟨r1,r2,rc⟩=>?_⟩
  ·
   rcases hb with hb|hb|⟨k,hk,hb⟩
   · exact (ggl b o (rn_iff.2 (.inl hb))).imp (fun h=>.inl (rl b o h)) id
   · exact (ggl b o (rn_iff.2 (.inr hb))).imp (fun h=>.inl (rl b o h)) id
   · exact .inl (kaf k (sA k hk) b o hb)
  ·
   rcases hb with hb|hb|⟨k,hk,hb⟩
   · exact dl b o (rn_iff.2 (.inl hb))
   · exact dl b o (rn_iff.2 (.inr hb))
   · exact offg' k (sA k hk) b o hb
  ·
   rcases hb with hb|hb|⟨k,hk,hb⟩
   · exact (ggr b o (rn_iff.2 (.inl hb))).imp (fun h=>.inr (rr b o h)) id
   · exact (ggr b o (rn_iff.2 (.inr hb))).imp (fun h=>.inr (rr b o h)) id
   · exact .inl (kaf k (sB k hk) b o hb)
  ·
   rcases hb with hb|hb|⟨k,hk,hb⟩
   · exact dr b o (rn_iff.2 (.inl hb))
   · exact dr b o (rn_iff.2 (.inr hb))
   · exact offg' k (sB k hk) b o hb
  ·
   have n1:ncl E gl' b o∨kcl gl' b o→rn E gl' b o:=fun h=>rn_iff.2 h
   have n2:ncl E gr' b o∨kcl gr' b o→rn E gr' b o:=fun h=>rn_iff.2 h
   rcases hb with hb|hb|⟨k,hk,hb⟩<;>rcases hb2 with hb2|hb2|⟨k',hk',hb2⟩
   · exact dlr b o (n1 (.inl hb)) (n2 (.inl hb2))
   · exact dlr b o (n1 (.inl hb)) (n2 (.inr hb2))
   · exact oA k' (sB k' hk') b o hb2 (n1 (.inl hb))
   · exact dlr b o (n1 (.inr hb)) (n2 (.inl hb2))
   · exact dlr b o (n1 (.inr hb)) (n2 (.inr hb2))
   · exact oA k' (sB k' hk') b o hb2 (n1 (.inr hb))
   · exact oB k (sA k hk) b o hb (n2 (.inl hb2))
   · exact oB k (sA k hk) b o hb (n2 (.inr hb2))
   · exact pAB k hk k' hk' b o hb hb2
  ·
   show Pl.inter Xl' (A.map (Gt.L h))++y::Pl.inter Xr' (B.map (Gt.L h))=_
   rw [←Pl.inter_item _ _ _ _ _ (by rw [List.length_map];omega),←List.map_append,hAB,hx]
  ·
   have hgl:=SegN.reb (by rw [List.length_map];exact hKl) (by rw [List.length_map];exact hKr) r1.1 r2.1 rc
   replace hgl:SegN R (Xl++x::Xr) (Kl.map (Gt.L h)++Kr.map (Gt.L h)):=hgl
   rw [←List.map_append,←hAB,List.map_append,←hx] at hgl
   have lA':(A.map (Gt.L h)).length=Xl'.length+1:=by rw [List.length_map];exact lA
   have rk:∀k∈Kl++Kr,Gt.Seg R h k:=fun k hk=>(List.mem_append.1 hk).elim (r1.2 k) (r2.2 k)
   exact ⟨⟨hgl.left lA',fun k hk=>rk k (sA k hk)⟩,⟨hgl.right lA',fun k hk=>rk k (sB k hk)⟩,
    piece_mid (Kl:=Kl.map (Gt.L h)) (Kr:=Kr.map (Gt.L h)) (A:=A.map (Gt.L h)) (B:=B.map (Gt.L h)) (by rw [List.length_map];exact hKl) (by rw [List.length_map];exact hKr) lA' (by rw [List.length_map];exact lB) rc hx (by rw [←List.map_append,←List.map_append,hAB]) b1 b2⟩
def RebS (P:Ps) (h i:Nat) (X:List α) (K1 K2:List (Gt E h)) (u v:Gt E h) (x:α) (t':Gt E (h+1)):Prop:=
 ∀R,SegC P h u v x R→(∀j,j<i→∀z,X[j]?=some z→∀l,R z l)→SegN R X ((K1++[u,v]++K2).map (Gt.L h))→(∀k∈K1++K2,Gt.Seg R h k)→Gt.Seg R (h+1) t'
theorem reb_fin {H H':Mem} {P:Ps} {h i:Nat} {g:Ng} {X:List α} {K1 K2:List (Gt E h)} {tl tr:Gt E h} {x:α} (hI:Inn H P h g X ((Gt.ps h (K1++[tl,tr]++K2)).map some) (K1++K2)) (hi:K1.length=i) (hx:X[i]?=some x)
  (hK:(K1++[tl,tr]++K2).length=X.length+1) (hxm:X.length≤P.mx) {RA:Rg} (hRA:Off RA (innc h g (K1++K2)))
  (hm:RebMid H H' P h RA i g X ((Gt.ps h (K1++[tl,tr]++K2)).map some) (Gt.p h tl) (Gt.p h tr) (Gt.L h tl++x::Gt.L h tr) (SegC P h tl tr x) E):
  ∃(g':Ng) (X':List α) (K':List (Gt E h)),g'.p=g.p∧g'.cnt=g.cnt∧Fr (fun b o=>innc h g (K1++K2) b o∨RA b o) H H'∧Inn H' P h g' X' ((Gt.ps h K').map some) K'∧K'.length=X'.length+1∧
   Pl.inter X' (K'.map (Gt.L h))=Pl.inter X ((K1++[tl,tr]++K2).map (Gt.L h))∧X'.length≤P.mx∧X.length≤X'.length+1∧Gro H (fun b o=>innc h g (K1++K2) b o∨RA b o) (innc h g' K')∧RebS P h i X K1 K2 tl tr x ((g',X',K'):Gt E (h+1)):=by
 subst hi
 obtain ⟨hxl,hxe⟩:=List.getElem?_eq_some_iff.1 hx
 obtain ⟨g',e1,e2,gg,hf,hr⟩:=hm
 have hrn:∀b o,rn E g b o→innc h g (K1++K2) b o:=fun b o hb=>(rn_iff.1 hb).elim .inl (fun h=>.inr (.inl h))
 have hf':Fr (fun b o=>innc h g (K1++K2) b o∨RA b o) H H':=hf.mono fun b o _ hz=>hz.imp (hrn b o) id
 have grow:∀M:List (Gt E h),(∀m∈M,Gro H RA (Gt.af h m))→Gro H (fun b o=>innc h g (K1++K2) b o∨RA b o) (innc h g' (K1++M++K2)):=fun M hM b o hb=>by
  rcases hb with hb|hb|⟨k,hk,hb⟩
  · exact (gg b o (rn_iff.2 (.inl hb))).imp (fun h=>.inl (hrn b o h)) id
  · exact (gg b o (rn_iff.2 (.inr hb))).imp (fun h=>.inl (hrn b o h)) id
  ·
   simp only [List.mem_append] at hk
   rcases hk with (hk|hk)|hk
   · exact .inl (.inl (.inr (.inr ⟨k,List.mem_append_left _ hk,hb⟩)))
   · exact (hM k hk b o hb).imp .inr id
   · exact .inl (.inl (.inr (.inr ⟨k,List.mem_append_right _ hk,hb⟩)))
 have hspX:X=X.take K1.length++x::X.drop (K1.length+1):=by rw [←hxe,List.getElem_cons_drop,List.take_append_drop]
 have lT:(X.take K1.length).length=K1.length:=by rw [List.length_take];omega
 have hK2:K2.length=(X.drop (K1.length+1)).length:=by
  simp only [List.length_append,List.length_cons,List.length_nil] at hK
  rw [List.length_drop];omega
 have hinter:Pl.inter X ((K1++[tl,tr]++K2).map (Gt.L h))=Pl.inter (X.take K1.length++X.drop (K1.length+1)) (K1.map (Gt.L h)++(Gt.L h tl++x::Gt.L h tr)::K2.map (Gt.L h)):=by
  rw [Pl.inter_split (by rw [List.length_map];exact lT) (by rw [List.length_map];exact hK2.symm),←hspX]
  simp
 rcases hr with ⟨m,hn,ep,hm,eL,hsg⟩|⟨m1,m2,y,hn,ep1,ep2,hm1,hm2,hd,eL,hsg⟩
 ·
  have hos:((Gt.ps h (K1++[tl,tr]++K2)).map some).take (K1.length+1)++((Gt.ps h (K1++[tl,tr]++K2)).map some).drop (K1.length+1+1)=(Gt.ps h (K1++[m]++K2)).map some:=by
   have:Gt.ps h (K1++[tl,tr]++K2)=(Gt.ps h K1++[Gt.p h tl])++Gt.p h tr::Gt.ps h K2:=by simp [Gt.ps]
   have h1:(Gt.ps h K1++[Gt.p h tl]).length=K1.length+1:=by simp [Gt.ps]
   rw [this,←List.map_take,←List.map_drop,←h1,List.take_left,←List.drop_drop,List.drop_left]
   simp [Gt.ps,ep]
  rw [hos] at hn
  have hI':=hI.putM hn hf (fun b o _ hz=>hz) gg hRA (M:=[m]) (fun k hk=>by rw [List.mem_singleton] at hk;subst hk;exact hm) (List.pairwise_singleton _ _)
  refine ⟨g',_,K1++[m]++K2,e1,e2,hf',hI',?_,?_,?_,?_,grow [m] fun k hk=>by rw [List.mem_singleton] at hk;subst hk;exact hm.2.2.1,fun R hc hlo hN hK=>⟨?_,fun k hk=>?_⟩⟩
  · simp only [List.length_append,List.length_cons,List.length_nil,lT];omega
  · rw [hinter,←eL];simp
  · simp only [List.length_append,lT,List.length_drop];omega
  · simp only [List.length_append,lT,List.length_drop];omega
  ·
   show SegN R (X.take K1.length++X.drop (K1.length+1)) ((K1++[m]++K2).map (Gt.L h))
   have:=SegN.one (K1:=K1.map (Gt.L h)) (K2:=K2.map (Gt.L h)) (u:=Gt.L h tl) (v:=Gt.L h tr) (m:=Gt.L h m) (by simpa using hN) (by rw [List.length_map];exact hlo) (by rw [List.length_map];exact hxl)
   rw [List.length_map] at this
   simpa using this
  ·
   simp only [List.mem_append,List.mem_singleton] at hk
   rcases hk with (hk|rfl)|hk
   · exact hK k (List.mem_append_left _ hk)
   · exact hsg R hc
   · exact hK k (List.mem_append_right _ hk)
 ·
  have hos:(Gt.ps h (K1++[tl,tr]++K2)).map some=(Gt.ps h (K1++[m1,m2]++K2)).map some:=by simp [Gt.ps,ep1,ep2]
  rw [hos] at hn
  have hI':=hI.putM hn hf (fun b o _ hz=>hz) gg hRA (M:=[m1,m2]) (fun k hk=>by simp only [List.mem_cons,List.not_mem_nil,or_false] at hk;rcases hk with rfl|rfl;exact hm1;exact hm2) (List.pairwise_pair.2 hd)
  refine ⟨g',_,K1++[m1,m2]++K2,e1,e2,hf',hI',?_,?_,?_,?_,grow [m1,m2] fun k hk=>by simp only [List.mem_cons,List.not_mem_nil,or_false] at hk;rcases hk with rfl|rfl;exact hm1.2.2.1;exact hm2.2.2.1,fun R hc hlo hN hK=>⟨?_,fun k hk=>?_⟩⟩
  · simp only [List.length_append,List.length_cons,List.length_nil,lT];omega
  ·
   rw [hinter,←eL,Pl.inter_split (by rw [List.length_map];exact lT) (by rw [List.length_map];exact hK2.symm)]
   simp
  · simp only [List.length_append,List.length_cons,lT,List.length_drop];omega
  · simp only [List.length_append,List.length_cons,lT,List.length_drop];omega
  ·
   show SegN R (X.take K1.length++y::X.drop (K1.length+1)) ((K1++[m1,m2]++K2).map (Gt.L h))
   have:=SegN.two (K1:=K1.map (Gt.L h)) (K2:=K2.map (Gt.L h)) (u:=Gt.L h tl) (v:=Gt.L h tr) (m1:=Gt.L h m1) (m2:=Gt.L h m2) (by simpa using hN) (by rw [List.length_map];exact hlo) (by rw [List.length_map];exact hxl) (hsg R hc).2.2
   rw [List.length_map] at this
   simpa using this
  ·
   simp only [List.mem_append,List.mem_cons,List.not_mem_nil,or_false] at hk
   rcases hk with (hk|rfl|rfl)|hk
   · exact hK k (List.mem_append_left _ hk)
   · exact (hsg R hc).1
   · exact (hsg R hc).2.1
   · exact hK k (List.mem_append_right _ hk)
variable {α:Type} {E:Elt α}
theorem Inn.sub {H:Mem} {P:Ps} {h:Nat} {g:Ng} {X:List α} {os:List (Option Nat)} {K K':List (Gt E h)} (hI:Inn H P h g X os K) (hs:K'.Sublist K):Inn H P h g X os K':=
 ⟨hI.n,hI.k,⟨fun k hk=>hI.c.1 k (hs.subset hk),hI.c.2.sublist hs⟩,hI.iso⟩
theorem innc_sub {h:Nat} {g:Ng} {K K':List (Gt E h)} (hs:∀k∈K',k∈K) {b o:Nat} (hb:innc h g K' b o):innc h g K b o:=
 hb.imp id fun hb=>hb.imp id fun ⟨k,hk,hb⟩=>⟨k,hs k hk,hb⟩
structure RebT (H:Mem) (P:Ps) (D:Nat→Prop) (h i:Nat) (g:Ng) (X:List α) (K1 K2:List (Gt E h)) (u v:Gt E h) (x:α):Prop where
 n:Inn H P h g X ((Gt.ps h (K1++[u,v]++K2)).map some) (K1++K2)
 l:Gt.Good H P h u
 r:Gt.Good H P h v
 ol:Off (Gt.af h u) (innc h g (K1++K2))
 or':Off (Gt.af h v) (innc h g (K1++K2))
 olr:Off (Gt.af h u) (Gt.af h v)
 tn:∀b o,innc h g (K1++K2) b o→¬D b
 tl:∀b o,Gt.af h u b o→¬D b
 tr:∀b o,Gt.af h v b o→¬D b
 dD:∀b,D b→b<H.size
 hi:K1.length=i
 x:X[i]?=some x
 len:(K1++[u,v]++K2).length=X.length+1
 xm:X.length≤P.mx
 b:(Gt.L h u).length+(Gt.L h v).length<4611686018427387904
 sh:(Gt.X h u).length<P.mn∨(Gt.X h v).length<P.mn
 ml:P.mn≤(Gt.X h u).length+1
 mr:P.mn≤(Gt.X h v).length+1
theorem rn_innc {h:Nat} {g:Ng} {K:List (Gt E h)} {b o:Nat} (hb:rn E g b o):innc h g K b o:=(rn_iff.1 hb).elim .inl (fun h=>.inr (.inl h))
section
variable {H:Mem} {P:Ps} {D:Nat→Prop} {h i:Nat} {g:Ng} {X:List α} {x:α}
theorem ps_at {K1 K2:List (Gt E h)} {tl tr:Gt E h}:((Gt.ps h (K1++[tl,tr]++K2)).map some)[K1.length]?=some (some (Gt.p h tl))∧((Gt.ps h (K1++[tl,tr]++K2)).map some)[K1.length+1]?=some (some (Gt.p h tr))∧
  ((Gt.ps h (K1++[tl,tr]++K2)).map some).length=(K1++[tl,tr]++K2).length:=by
 refine ⟨?_,?_,by simp [Gt.ps]⟩<;>simp [Gt.ps]
theorem RebT.in0 {K1 K2:List (Gt E 0)} {u v:Gt E 0} (cn:Nat→Nat) (ht:RebT H P D 0 i g X K1 K2 u v x):RebIn E H P D true cn i g (Gt.g 0 u) (Gt.g 0 v) X (Gt.X 0 u) (Gt.X 0 v) ((Gt.ps 0 (K1++[u,v]++K2)).map some) [] [] x:=by
 obtain ⟨n,l,r,ol,or',olr,tn,tl,tr,dD,hi,hx,len,xm,b,sh,ml,mr⟩:=ht
 subst hi
 obtain ⟨gl,Xl⟩:=u
 obtain ⟨gr,Xr⟩:=v
 obtain ⟨p1,p2,p3⟩:=ps_at (E:=E) (h:=0) (K1:=K1) (K2:=K2) (tl:=(gl,Xl)) (tr:=(gr,Xr))
 have c1:gl.cnt=Xl.length:=l.2.2.1
 have c2:gr.cnt=Xr.length:=r.2.2.1
 replace b:Xl.length+Xr.length<4611686018427387904:=b
 exact ⟨n.alone,⟨l.1,l.2.1,rfl⟩,⟨r.1,r.2.1,rfl⟩,fun b o h1 h2=>ol b o h1 (rn_innc h2),fun b o h1 h2=>or' b o h1 (rn_innc h2),olr,fun b o h=>tn b o (rn_innc h),tl,tr,dD,hx,p1,p2,p3.trans len,xm,l.2.2.2,r.2.2.2,
  fun h=>Bool.noConfusion h,fun h=>Bool.noConfusion h,c1,c2,fun z hz=>absurd hz List.not_mem_nil,(show gl.cnt+gr.cnt<4611686018427387904 by omega),sh,ml,mr⟩
theorem RebT.inS {K1 K2:List (Gt E (h+1))} {u v:Gt E (h+1)} (ht:RebT H P D (h+1) i g X K1 K2 u v x):
  RebIn E H P D false (cnOf H) i g (Gt.g (h+1) u) (Gt.g (h+1) v) X (Gt.X (h+1) u) (Gt.X (h+1) v) ((Gt.ps (h+1) (K1++[u,v]++K2)).map some) ((Gt.ps h u.2.2).map some) ((Gt.ps h v.2.2).map some) x∧(∀k∈u.2.2++v.2.2,Off (Gt.af h k) (rn E g)):=by
 obtain ⟨n,l,r,ol,or',olr,tn,tl,tr,dD,hi,hx,len,xm,b,sh,ml,mr⟩:=ht
 subst hi
 obtain ⟨gl,Xl,Kl⟩:=u
 obtain ⟨gr,Xr,Kr⟩:=v
 obtain ⟨p1,p2,p3⟩:=ps_at (E:=E) (h:=h+1) (K1:=K1) (K2:=K2) (tl:=(gl,Xl,Kl)) (tr:=(gr,Xr,Kr))
 have c1:gl.cnt=(Pl.inter Xl (Kl.map (Gt.L h))).length:=l.2.2.2.1
 have c2:gr.cnt=(Pl.inter Xr (Kr.map (Gt.L h))).length:=r.2.2.2.1
 have k1:Kl.length=Xl.length+1:=l.2.2.2.2.2.1
 have k2:Kr.length=Xr.length+1:=r.2.2.2.2.2.1
 have rl:∀b o,rn E gl b o→Gt.af (h+1) ((gl,Xl,Kl):Gt E (h+1)) b o:=fun b o hb=>(rn_iff.1 hb).elim .inl (fun h=>.inr (.inl h))
 have rr:∀b o,rn E gr b o→Gt.af (h+1) ((gr,Xr,Kr):Gt E (h+1)) b o:=fun b o hb=>(rn_iff.1 hb).elim .inl (fun h=>.inr (.inl h))
 have gng:∀k∈Kl++Kr,Off (Gt.af h k) (rn E g):=fun k hk b o hb hr=>(List.mem_append.1 hk).elim (fun hk=>ol b o (.inr (.inr ⟨k,hk,hb⟩)) (rn_innc hr)) (fun hk=>or' b o (.inr (.inr ⟨k,hk,hb⟩)) (rn_innc hr))
 replace b:(Pl.inter Xl (Kl.map (Gt.L h))).length+(Pl.inter Xr (Kr.map (Gt.L h))).length<4611686018427387904:=b
 refine ⟨⟨n.alone,(Gt.Good.inn l).alone,(Gt.Good.inn r).alone,fun b o h1 h2=>ol b o (rl b o h1) (rn_innc h2),fun b o h1 h2=>or' b o (rr b o h1) (rn_innc h2),fun b o h1 h2=>olr b o (rl b o h1) (rr b o h2),fun b o h=>tn b o (rn_innc h),fun b o h=>tl b o (rl b o h),fun b o h=>tr b o (rr b o h),dD,hx,p1,p2,p3.trans len,xm,l.2.2.2.2.1,r.2.2.2.2.1,
  fun _=>(show ((Gt.ps h Kl).map some).length=Xl.length+1 by simpa [Gt.ps] using k1),fun _=>(show ((Gt.ps h Kr).map some).length=Xr.length+1 by simpa [Gt.ps] using k2),?_,?_,fun z hz=>?_,(show gl.cnt+gr.cnt<4611686018427387904 by omega),sh,ml,mr⟩,gng⟩
 ·
  show gl.cnt=Xl.length+(((Gt.ps h Kl).map some).map (cnO (cnOf H))).sum
  rw [sum_os (P:=P) fun k hk=>(l.2.2.2.2.2.2.1 k hk).1,c1,Pl.inter_length _ _ (by rw [List.length_map];exact k1)]
 ·
  show gr.cnt=Xr.length+(((Gt.ps h Kr).map some).map (cnO (cnOf H))).sum
  rw [sum_os (P:=P) fun k hk=>(r.2.2.2.2.2.2.1 k hk).1,c2,Pl.inter_length _ _ (by rw [List.length_map];exact k2)]
 ·
  have hz':∃k∈Kl++Kr,z=some (Gt.p h k):=by
   simp only [Gt.ps,List.mem_append,List.mem_map] at hz ⊢
   rcases hz with ⟨_,⟨k,hk,rfl⟩,rfl⟩|⟨_,⟨k,hk,rfl⟩,rfl⟩
   · exact ⟨k,.inl hk,rfl⟩
   · exact ⟨k,.inr hk,rfl⟩
  obtain ⟨k,hk,rfl⟩:=hz'
  have hgk:Gt.Good H P h k∧Off (Gt.af h k) (rn E gl)∧Off (Gt.af h k) (rn E gr):=by
   rcases List.mem_append.1 hk with hk|hk
   ·
    obtain ⟨q1,_,q3⟩:=l.2.2.2.2.2.2.1 k hk
    exact ⟨q1,fun b o hb hr=>(rn_iff.1 hr).elim (q3 b o hb).1 (q3 b o hb).2,fun b o hb hr=>olr b o (.inr (.inr ⟨k,hk,hb⟩)) (rr b o hr)⟩
   ·
    obtain ⟨q1,_,q3⟩:=r.2.2.2.2.2.2.1 k hk
    exact ⟨q1,fun b o hb hr=>olr b o (rl b o hr) (.inr (.inr ⟨k,hk,hb⟩)),fun b o hb hr=>(rn_iff.1 hr).elim (q3 b o hb).1 (q3 b o hb).2⟩
  have hp:Gt.af h k (Gt.p h k) 1:=Gt.af_p (by omega)
  exact ⟨Gt.p h k,rfl,(hgk.1.cnOf).1,gng k hk _ _ hp,hgk.2.1 _ _ hp,hgk.2.2 _ _ hp⟩
end
theorem RebT.fin0 {H H':Mem} {P:Ps} {D:Nat→Prop} {i:Nat} {g:Ng} {X:List α} {x:α} (h1:1≤P.mn) {K1 K2:List (Gt E 0)} {u v:Gt E 0} {cn:Nat→Nat} (ht:RebT H P D 0 i g X K1 K2 u v x)
  (ho:RebOut E H H' P true cn i g (Gt.g 0 u) (Gt.g 0 v) X (Gt.X 0 u) (Gt.X 0 v) ((Gt.ps 0 (K1++[u,v]++K2)).map some) [] [] x):
  ∃(g':Ng) (X':List α) (K':List (Gt E 0)),g'.p=g.p∧g'.cnt=g.cnt∧Fr (fun b o=>innc 0 g (K1++K2) b o∨(Gt.af 0 u b o∨Gt.af 0 v b o)) H H'∧Inn H' P 0 g' X' ((Gt.ps 0 K').map some) K'∧K'.length=X'.length+1∧
   Pl.inter X' (K'.map (Gt.L 0))=Pl.inter X ((K1++[u,v]++K2).map (Gt.L 0))∧X'.length≤P.mx∧X.length≤X'.length+1∧Gro H (fun b o=>innc 0 g (K1++K2) b o∨(Gt.af 0 u b o∨Gt.af 0 v b o)) (innc 0 g' K')∧RebS P 0 i X K1 K2 u v x ((g',X',K'):Gt E 1):=
 reb_fin ht.n ht.hi ht.x ht.len ht.xm (fun b o hb=>hb.elim (ht.ol b o) (ht.or' b o)) (reb_leaf h1 (ht.in0 cn) ho ⟨ht.l.2.2.1,ht.r.2.2.1⟩)
theorem RebT.finS {H H':Mem} {P:Ps} {D:Nat→Prop} {h i:Nat} {g:Ng} {X:List α} {x:α} (h1:1≤P.mn) {K1 K2:List (Gt E (h+1))} {u v:Gt E (h+1)} (ht:RebT H P D (h+1) i g X K1 K2 u v x)
  (ho:RebOut E H H' P false (cnOf H) i g (Gt.g (h+1) u) (Gt.g (h+1) v) X (Gt.X (h+1) u) (Gt.X (h+1) v) ((Gt.ps (h+1) (K1++[u,v]++K2)).map some) ((Gt.ps h u.2.2).map some) ((Gt.ps h v.2.2).map some) x):
  ∃(g':Ng) (X':List α) (K':List (Gt E (h+1))),g'.p=g.p∧g'.cnt=g.cnt∧Fr (fun b o=>innc (h+1) g (K1++K2) b o∨(Gt.af (h+1) u b o∨Gt.af (h+1) v b o)) H H'∧Inn H' P (h+1) g' X' ((Gt.ps (h+1) K').map some) K'∧K'.length=X'.length+1∧
   Pl.inter X' (K'.map (Gt.L (h+1)))=Pl.inter X ((K1++[u,v]++K2).map (Gt.L (h+1)))∧X'.length≤P.mx∧X.length≤X'.length+1∧
   Gro H (fun b o=>innc (h+1) g (K1++K2) b o∨(Gt.af (h+1) u b o∨Gt.af (h+1) v b o)) (innc (h+1) g' K')∧RebS P (h+1) i X K1 K2 u v x ((g',X',K'):Gt E (h+1+1)):=
 reb_fin ht.n ht.hi ht.x ht.len ht.xm (fun b o hb=>hb.elim (ht.ol b o) (ht.or' b o)) (reb_inner h1 ht.l ht.r ht.olr (ht.inS).2 (ht.inS).1 ho)
variable {α:Type} {E:Elt α}
def Inf (Q:α→List α→Prop):Prop:=∀y l a z b c,Q y l→y::l=a++z::b++c→Q z b
def Lo (O:Pl.Swo α) (x:α) (Q:α→List α→Prop) (y:α) (l:List α):Prop:=O.lt y x=true∨Q y l
def SegD (O:Pl.Swo α) (mx:Bool) (x:α) (h:Nat) (t t':Gt E h):Prop:=mx=false→∀Q,Inf Q→Gt.Seg (Lo O x Q) h t→Gt.Seg (Lo O x Q) h t'
def SegK (h i:Nat) (X:List α) (K1:List (Gt E h)) (k:Gt E h) (K2:List (Gt E h)) (R:α→List α→Prop):Prop:=
 SegN R X ((K1++[k]++K2).map (Gt.L h))∧(∀m∈K1++[k]++K2,Gt.Seg R h m)∧(∀j,j<i→∀z,X[j]?=some z→∀l,R z l)∧(∀m∈K1,∀w∈Gt.L h m,∀l,R w l)∧∀z m,X[i]?=some z→K2[0]?=some m→AllP R (z::Gt.L h m)
def SegM (O:Pl.Swo α) (mx:Bool) (x:α) (h:Nat) (X:List α) (K:List (Gt E h)) (i:Nat) (X1:List α) (k':Gt E h):Prop:=
 mx=false→∀Q,Inf Q→SegN (Lo O x Q) X (K.map (Gt.L h))→(∀k∈K,Gt.Seg (Lo O x Q) h k)→SegK h i X1 (K.take i) k' (K.drop (i+1)) (Lo O x Q)
def RebK (h i:Nat) (X:List α) (K1:List (Gt E h)) (k:Gt E h) (K2:List (Gt E h)) (t':Gt E (h+1)):Prop:=∀R,SegK h i X K1 k K2 R→Gt.Seg R (h+1) t'
theorem SegM.fin {O:Pl.Swo α} {mx:Bool} {x:α} {h i:Nat} {g g':Ng} {X X1 X':List α} {K K':List (Gt E h)} {k':Gt E h} (hm:SegM O mx x h X K i X1 k') (hr:RebK h i X1 (K.take i) k' (K.drop (i+1)) ((g',X',K'):Gt E (h+1))):SegD O mx x (h+1) ((g,X,K):Gt E (h+1)) ((g',X',K'):Gt E (h+1)):=
 fun e Q hQ hs=>hr _ (hm e Q hQ hs.1 hs.2)
theorem RebK.same {h i:Nat} {g':Ng} {X:List α} {K1 K2:List (Gt E h)} {k:Gt E h}:RebK h i X K1 k K2 ((g',X,K1++[k]++K2):Gt E (h+1)):=fun _ hk=>⟨hk.1,hk.2.1⟩
theorem RebK.last {P:Ps} {h i:Nat} {X:List α} {K1:List (Gt E h)} {u k:Gt E h} {x:α} {t':Gt E (h+1)} (hi:K1.length+1=i) (hx:X[K1.length]?=some x) (hs:(Gt.X h k).length<P.mn) (hr:RebS P h K1.length X K1 [] u k x t'):RebK h i X (K1++[u]) k [] t':=by
 rintro R ⟨h1,h2,h3,h4,h5⟩
 have e:K1++[u]++[k]++[]=K1++[u,k]++[]:=by simp
 rw [e] at h1 h2
 refine hr R ⟨h2 u (by simp),h2 k (by simp),.inr ⟨fun w hw l=>?_,hs⟩⟩ (fun j hj z hz=>h3 j (by omega) z hz) h1 (fun m hm=>h2 m (by simp at hm ⊢;exact .inl hm))
 rcases List.mem_append.1 hw with hw|hw
 · exact h4 u (by simp) w hw l
 ·
  rw [List.mem_singleton] at hw;subst hw
  exact h3 K1.length (by omega) w hx l
theorem RebK.more {P:Ps} {h i:Nat} {X:List α} {K1 K2:List (Gt E h)} {k v:Gt E h} {x:α} {t':Gt E (h+1)} (hi:K1.length=i) (hx:X[K1.length]?=some x) (hs:(Gt.X h k).length<P.mn) (hr:RebS P h K1.length X K1 K2 k v x t'):RebK h i X K1 k (v::K2) t':=by
 rintro R ⟨h1,h2,h3,h4,h5⟩
 subst hi
 have e:K1++[k]++v::K2=K1++[k,v]++K2:=by simp
 rw [e] at h1 h2
 exact hr R ⟨h2 k (by simp),h2 v (by simp),.inl ⟨h5 x v hx rfl,hs⟩⟩ h3 h1 (fun m hm=>h2 m (by simp at hm ⊢;rcases hm with hm|hm;exact .inl hm;exact .inr (.inr (.inr hm))))
theorem Lo.all {O:Pl.Swo α} {x:α} {Q:α→List α→Prop} (hQ:Inf Q) {z:α} {l:List α} (h:Lo O x Q z l) (hz:O.lt z x=false):AllP (Lo O x Q) (z::l):=fun a w b c e=>by
 rcases h with h|h
 · rw [hz] at h;cases h
 · exact .inr (hQ _ _ _ _ _ _ h e)
namespace Pl
theorem pos_before (O:Swo α) {x z:α} {l:List α} {j:Nat} (hj:j<pos O x l) (hz:l[j]?=some z):O.lt z x=true:=
 (pos_split O x l).1 z (List.mem_of_getElem? (i:=j) (by rw [List.getElem?_take_of_lt hj];exact hz))
theorem pos_at (O:Swo α) {x z:α} {l:List α} (hz:l[pos O x l]?=some z):O.lt z x=false:=(pos_split O x l).2 z (by rw [List.head?_drop];exact hz)
theorem kids_low {O:Swo α} {X:List α} {K:List (List α)} (hs:Srt O (inter X K)) (hl:K.length=X.length+1):∀{i j:Nat} {z:α} {m:List α},X[i]?=some z→j≤i→K[j]?=some m→∀w∈m,O.lt w z=true:=by
 intro i j z m hz hj hm w hw
 have hil:=(List.getElem?_eq_some_iff.1 hz).1
 have hspX:X=X.take i++z::X.drop (i+1):=by rw [←(List.getElem?_eq_some_iff.1 hz).2,List.getElem_cons_drop,List.take_append_drop]
 have e:inter X K=inter (X.take i) (K.take (i+1))++z::inter (X.drop (i+1)) (K.drop (i+1)):=by
  rw [←inter_item _ _ _ _ _ (by rw [List.length_take,List.length_take];omega),←hspX,List.take_append_drop]
 rw [e,Srt.append] at hs
 have hlt:(K.take (i+1)).length=(X.take i).length+1:=by rw [List.length_take,List.length_take];omega
 have hm':(K.take (i+1))[j]?=some m:=by rw [List.getElem?_take_of_lt (by omega)];exact hm
 have e2:=inter_self hlt hm'
 refine hs.2.2 w ?_ z List.mem_cons_self
 rw [e2];simp [hw]
end Pl
theorem SegM.base {O:Pl.Swo α} {mx:Bool} {x:α} {h i:Nat} {X X1:List α} {K:List (Gt E h)} {k' k:Gt E h} (hs:Pl.Srt O (Pl.inter X (K.map (Gt.L h)))) (hKl:K.length=X.length+1) (hkk:K[i]?=some k)
  (hX:∀j,j≠i→X1[j]?=X[j]?) (hlo:∀j,j<i→∀z,X[j]?=some z→O.lt z x=true)
  (hkk':mx=false→∀Q,Inf Q→Gt.Seg (Lo O x Q) h k→Gt.Seg (Lo O x Q) h k')
  (hi:∀z,X1[i]?=some z→(O.lt z x=true∧∃z',X[i]?=some z'∧O.lt z' x=false)∨(X[i]?=some z∧O.lt z x=false)):SegM O mx x h X K i X1 k':=by
 intro e Q hQ h1 h2
 have hil:i<K.length:=(List.getElem?_eq_some_iff.1 hkk).1
 have lT:(K.take i).length=i:=by rw [List.length_take];omega
 have hKat:∀j,j≠i→(K.take i++[k']++K.drop (i+1))[j]?=K[j]?:=fun j hj=>by
  rcases Nat.lt_or_ge j i with h|h
  · rw [List.append_assoc,List.getElem?_append_left (by omega),List.getElem?_take_of_lt h]
  ·
   rw [List.getElem?_append_right (by simp only [List.length_append,lT,List.length_singleton];omega),List.getElem?_drop]
   congr 1;simp only [List.length_append,lT,List.length_singleton];omega
 have hmk:∀m∈K.take i++[k']++K.drop (i+1),m=k'∨m∈K:=fun m hm=>by
  simp only [List.mem_append,List.mem_singleton] at hm
  rcases hm with (hm|hm)|hm
  · exact .inr (List.mem_of_mem_take hm)
  · exact .inl hm
  · exact .inr (List.mem_of_mem_drop hm)
 refine ⟨fun j z m hz hm=>?_,fun m hm=>(hmk m hm).elim (fun e'=>by rw [e'];exact hkk' e Q hQ (h2 k (List.mem_of_getElem? hkk))) (h2 m),fun j hj z hz l=>?_,fun m hm w hw l=>?_,fun z m hz hm=>?_⟩
 ·
  rw [List.getElem?_map] at hm
  by_cases hj:j+1=i
  ·
   rw [hX j (by omega)] at hz
   exact .inl (hlo j (by omega) z hz)
  ·
   rw [hKat _ hj] at hm
   have hm':(K.map (Gt.L h))[j+1]?=some m:=by rw [List.getElem?_map];exact hm
   by_cases hji:j=i
   ·
    subst hji
    rcases hi z hz with ⟨h3,_⟩|⟨h3,_⟩
    · exact .inl h3
    · exact h1 j z m h3 hm'
   ·
    rw [hX j hji] at hz
    exact h1 j z m hz hm'
 ·
  rw [hX j (by omega)] at hz
  exact .inl (hlo j hj z hz)
 ·
  obtain ⟨j,hj⟩:=List.mem_iff_getElem?.1 hm
  have hji:j<i:=by have:=(List.getElem?_eq_some_iff.1 hj).1;omega
  rw [List.getElem?_take_of_lt hji] at hj
  obtain ⟨z,hz⟩:∃z,X[j]?=some z:=⟨X[j]'(by omega),List.getElem?_eq_getElem (by omega)⟩
  exact .inl (O.trans (Pl.kids_low hs (by rw [List.length_map];exact hKl) hz (Nat.le_refl _) (by rw [List.getElem?_map,hj];rfl) w hw) (hlo j hji z hz))
 ·
  rw [List.getElem?_drop,Nat.add_zero] at hm
  have hm':(K.map (Gt.L h))[i+1]?=some (Gt.L h m):=by rw [List.getElem?_map,hm];rfl
  rcases hi z hz with ⟨h3,z',h4,h5⟩|⟨h3,h4⟩
  ·
   refine AllP.cons (fun b=>.inl h3) ?_
   have:=Lo.all hQ (h1 i z' _ h4 hm') h5
   exact this.part (a:=[z']) (c:=[]) (by simp)
  · exact Lo.all hQ (h1 i z _ h3 hm') h4
theorem SegM.below {O:Pl.Swo α} {x:α} {h i:Nat} {X:List α} {K:List (Gt E h)} {k' k:Gt E h} (hs:Pl.Srt O (Pl.inter X (K.map (Gt.L h)))) (hKl:K.length=X.length+1) (hsX:Pl.Srt O X) (hpi:Pl.pos O x X=i) (hkk:K[i]?=some k) (hd:SegD O false x h k k'):SegM O false x h X K i X k':=by
 subst hpi
 refine SegM.base hs hKl hkk (fun _ _=>rfl) (fun j hj z hz=>Pl.pos_before O hj hz) hd fun z hz=>.inr ⟨hz,?_⟩
 exact Pl.pos_at O hz
theorem SegM.here {H':Mem} {P:Ps} {O:Pl.Swo α} {mx:Bool} {x y z:α} {h i:Nat} {X X1:List α} {K:List (Gt E h)} {k' k:Gt E h} (hs:Pl.Srt O (Pl.inter X (K.map (Gt.L h)))) (hKl:K.length=X.length+1) (hsX:Pl.Srt O X) (hpi:Pl.pos O x X=i) (hkk:K[i]?=some k) (hz:X[i]?=some z)
  (hzx:O.lt z x=false) (hxz:O.lt x z=false) (hLk:Gt.L h k=Gt.L h k'++[y]) (hg:Gt.Good H' P h k') (e1:X1=X.take i++y::X.drop (i+1)):SegM O mx x h X K i X1 k':=by
 subst hpi e1
 have hil:=(List.getElem?_eq_some_iff.1 hz).1
 have hlow:∀w∈Gt.L h k,O.lt w x=true:=fun w hw=>by
  have h1:=Pl.kids_low hs (by rw [List.length_map];exact hKl) hz (Nat.le_refl _) (by rw [List.getElem?_map,hkk];rfl) w hw
  cases h2:O.lt w x with
  | true=>rfl
  | false=>rw [O.ntr h2 hxz] at h1;cases h1
 have lT:(X.take (Pl.pos O x X)).length=Pl.pos O x X:=by rw [List.length_take];omega
 refine SegM.base hs hKl hkk (fun j hj=>?_) (fun j hj z hz=>Pl.pos_before O hj hz) (fun _ Q _ _=>Gt.Seg.of_low hg fun w hw l=>.inl (hlow w (by rw [hLk];simp [hw]))) fun w hw=>.inl ⟨?_,z,hz,hzx⟩
 ·
  rcases Nat.lt_or_ge j (Pl.pos O x X) with h1|h1
  · rw [List.getElem?_append_left (by omega),List.getElem?_take_of_lt h1]
  ·
   rw [List.getElem?_append_right (by omega),lT,show j-Pl.pos O x X=(j-Pl.pos O x X-1)+1 by omega,List.getElem?_cons_succ,List.getElem?_drop]
   congr 1;omega
 ·
  rw [List.getElem?_append_right (by omega),lT,Nat.sub_self,List.getElem?_cons_zero,Option.some.injEq] at hw
  subst hw
  exact hlow y (by rw [hLk];simp)
structure DelT (H H':Mem) (P:Ps) (h:Nat) (t t':Gt E h) (L':List α) (SD:Prop):Prop where
 fr:Fr (Gt.af h t) H H'
 g:Gt.Good H' P h t'
 p:Gt.p h t'=Gt.p h t
 a:Gro H (Gt.af h t) (Gt.af h t')
 l:Gt.L h t'=L'
 x:(Gt.X h t).length≤(Gt.X h t').length+1
 sd:SD
namespace Pl
def dlr {α:Type} (O:Swo α) (mx:Bool) (x:α) (L:List α):Option (α×List α):=match mx with
 | true=>L.getLast?.map fun y=>(y,L.dropLast)
 | false=>(got O x L).map fun y=>(y,del O x L)
def Sel {α:Type} (O:Swo α) (mx:Bool) (x:α) (X:List α) (s:Nat×Bool):Prop:=(s.2=true→s.1<X.length)∧s.1≤X.length∧(mx=true→s=(X.length-1,true))∧(mx=false→s=(pos O x X,fnd O x X))
theorem sel_max {α:Type} (O:Swo α) (x:α) {X:List α} (h:1≤X.length):Sel O true x X (X.length-1,true):=⟨fun _=>by simp only;omega,by simp only;omega,fun _=>rfl,fun h=>Bool.noConfusion h⟩
theorem sel_key {α:Type} (O:Swo α) (x:α) (X:List α):Sel O false x X (pos O x X,fnd O x X):=⟨fun h=>fnd_pos_lt O h,pos_le O x X,fun h=>Bool.noConfusion h,fun _=>rfl⟩
theorem dlr_leaf {α:Type} (O:Swo α) {mx:Bool} {x y:α} {X:List α} {i:Nat} (hs:Sel O mx x X (i,true)) (hy:X[i]?=some y):dlr O mx x X=some (y,X.take i++X.drop (i+1)):=by
 obtain ⟨h1,_,h2,h3⟩:=hs
 have hi:=h1 rfl
 simp only at hi
 cases mx with
 | true=>
  have h4:=congrArg Prod.fst (h2 rfl)
  simp only at h4
  have:X.getLast?=some y:=by rw [List.getLast?_eq_getElem?,←h4,hy]
  simp only [dlr,this,Option.map_some,Option.some.injEq,Prod.mk.injEq,true_and]
  rw [List.dropLast_eq_take,h4,List.drop_of_length_le (by omega),List.append_nil]
 | false=>
  have h4:=h3 rfl
  have e1:i=pos O x X:=congrArg Prod.fst h4
  have e2:true=fnd O x X:=congrArg Prod.snd h4
  simp only [dlr]
  rw [got_some O e2.symm,←e1,hy]
  simp only [Option.map_some,Option.some.injEq,Prod.mk.injEq,true_and]
  unfold del
  rw [←e2,←e1];rfl
theorem dlr_none {α:Type} (O:Swo α) {mx:Bool} {x:α} {X:List α} {i:Nat} (hs:Sel O mx x X (i,false)):dlr O mx x X=none:=by
 obtain ⟨_,_,h2,h3⟩:=hs
 cases mx with
 | true=>have:=congrArg Prod.snd (h2 rfl);cases this
 | false=>
  have e2:false=fnd O x X:=congrArg Prod.snd (h3 rfl)
  simp only [dlr]
  rw [got_none O e2.symm];rfl
end Pl
structure DMid (H H':Mem) (P:Ps) (h:Nat) (g:Ng) (X:List α) (K:List (Gt E h)) (i:Nat) (X1:List α) (k':Gt E h) (L':List α) (SM:Prop):Prop where
 n:Inn H' P h g X1 ((Gt.ps h K).map some) (K.take i++K.drop (i+1))
 k:Gt.Good H' P h k'
 p:∃k,K[i]?=some k∧Gt.p h k'=Gt.p h k∧Gro H (Gt.af h k) (Gt.af h k')
 mn:P.mn≤(Gt.X h k').length+1
 l:Pl.inter X1 ((K.take i++[k']++K.drop (i+1)).map (Gt.L h))=L'
 len:X1.length=X.length
 fr:Fr (Gt.af (h+1) ((g,X,K):Gt E (h+1))) H H'
 sm:SM
theorem Gt.Good.ne {H:Mem} {P:Ps}:∀{h:Nat} {t:Gt E h},Gt.Good H P h t→1≤(Gt.X h t).length→1≤(Gt.L h t).length
 | 0,_,_,hx=>hx
 | _+1,t,hg,hx=>by
  have:(Gt.L _ t).length=_:=Pl.inter_length t.2.1 (t.2.2.map (Gt.L _)) (by rw [List.length_map];exact hg.2.2.2.2.2.1)
  rw [this]
  exact Nat.le_trans hx (Nat.le_add_right _ _)
section
variable {H H':Mem} {P:Ps} {h:Nat} {g:Ng} {X:List α} {os:List (Option Nat)} {K:List (Gt E h)} {i:Nat} {k k':Gt E h}
theorem kid_split (hk:K[i]?=some k):K=K.take i++[k]++K.drop (i+1):=by
 obtain ⟨h1,h2⟩:=List.getElem?_eq_some_iff.1 hk
 rw [List.append_assoc,List.singleton_append,←h2,List.getElem_cons_drop,List.take_append_drop]
theorem kid_off (hI:Inn H P h g X os K) (hk:K[i]?=some k):Off (Gt.af h k) (innc h g (K.take i++K.drop (i+1))):=fun b o hb hn=>by
 have hs:=kid_split hk
 have hc:=hI.c
 obtain ⟨h1,h2⟩:=hc
 have hkK:k∈K:=List.mem_of_getElem? hk
 rcases hn with hn|hn|⟨m,hm,hn⟩
 · exact (h1 k hkK).2.2 b o hb |>.1 hn
 · exact (h1 k hkK).2.2 b o hb |>.2 hn
 ·
  rw [hs,List.append_assoc,List.pairwise_append,List.singleton_append,List.pairwise_cons] at h2
  obtain ⟨_,⟨p2,_⟩,p3⟩:=h2
  rcases List.mem_append.1 hm with hm|hm
  · exact p3 m hm k List.mem_cons_self b o hn hb
  · exact p2 m hm b o hb hn
theorem kid_sub (hk:K[i]?=some k):(K.take i++K.drop (i+1)).Sublist K:=by
 conv=>rhs;rw [kid_split hk]
 rw [List.append_assoc]
 exact List.Sublist.append_left (List.sublist_append_right _ _) _
theorem Inn.kid (hI:Inn H P h g X os K) (hk:K[i]?=some k) (hf:Fr (Gt.af h k) H H'):Inn H' P h g X os (K.take i++K.drop (i+1)):=
 (hI.sub (kid_sub hk)).fr hf fun b o hb hz=>kid_off hI hk b o hz hb
theorem DMid.pk {X1 L':List α} {SM:Prop} (d:DMid H H' P h g X K i X1 k' L' SM):(Gt.ps h K).map some=(Gt.ps h (K.take i++[k']++K.drop (i+1))).map some:=by
 obtain ⟨k,hk,hp,_⟩:=d.p
 conv=>lhs;rw [kid_split hk]
 simp [Gt.ps,hp]
theorem DMid.off {X1 L':List α} {SM:Prop} (d:DMid H H' P h g X K i X1 k' L' SM) (hI:Inn H P h g X os K):Off (Gt.af h k') (innc h g (K.take i++K.drop (i+1))):=by
 obtain ⟨k,hk,hp,hg⟩:=d.p
 exact (hg.off (kid_off hI hk).symm fun b o hb=>hI.lt (innc_sub (fun m hm=>(List.mem_append.1 hm).elim List.mem_of_mem_take List.mem_of_mem_drop) hb)).symm
theorem DMid.gro {X1 L':List α} {SM:Prop} (d:DMid H H' P h g X K i X1 k' L' SM):Gro H (Gt.af (h+1) ((g,X,K):Gt E (h+1))) (fun b o=>innc h g (K.take i++K.drop (i+1)) b o∨Gt.af h k' b o):=fun b o hb=>by
 obtain ⟨k,hk,hp,hg⟩:=d.p
 rcases hb with hb|hb
 · exact .inl (innc_sub (K:=K) (fun m hm=>(List.mem_append.1 hm).elim List.mem_of_mem_take List.mem_of_mem_drop) hb)
 · exact (hg b o hb).imp (fun h=>.inr (.inr ⟨k,List.mem_of_getElem? hk,h⟩)) id
end
namespace Pl
variable {α:Type} (O:Swo α)
theorem del_last {X:List α} {K:List (List α)} {k m:List α} {y:α} (hl:K.length=X.length+1) (hk:K[X.length]?=some k) (e:k=m++[y]):
  inter X K=inter X (K.take X.length++[m]++K.drop (X.length+1))++[y]:=by
 rw [inter_self hl hk,inter_take hl hk,e,List.drop_of_length_le (l:=X) (Nat.le_refl _)]
 simp [post]
theorem del_node {X:List α} {K:List (List α)} {k m:List α} {y x:α} {i:Nat} (hl:K.length=X.length+1) (hk:K[i]?=some k) (hx:X[i]?=some x) (e:k=m++[y]):
  inter (X.take i++y::X.drop (i+1)) (K.take i++[m]++K.drop (i+1))=inter (X.take i) (K.take (i+1))++inter (X.drop (i+1)) (K.drop (i+1)):=by
 have hi:=(List.getElem?_eq_some_iff.1 hk).1
 have hxi:=(List.getElem?_eq_some_iff.1 hx).1
 have lT:(X.take i).length=i:=by rw [List.length_take];omega
 have lK:(K.take i).length=i:=by rw [List.length_take];omega
 rw [inter_item _ _ _ _ _ (by simp only [List.length_append,List.length_cons,List.length_nil,lT,lK])]
 have h1:K.take (i+1)=K.take i++[k]:=by rw [List.take_add_one,hk];rfl
 have h2:∀z:List α,inter (X.take i) (K.take i++[z])=pre (X.take i) (K.take i)++z:=fun z=>by
  have:=inter_focus (X.take i) [] (K.take i) z [] (by rw [lT,lK]) rfl
  simpa [post] using this
 rw [h1,h2,h2,e]
 simp
end Pl
end Go.Bt
namespace Go.Bt.Pl
variable {α:Type} (O:Swo α)
theorem dlr_child {x y:α} {X:List α} {K:List (List α)} {k m:List α} {i:Nat} (hs:Srt O (inter X K)) (hl:K.length=X.length+1) (h:fnd O x X=false) (hi:pos O x X=i) (hk:K[i]?=some k) (hd:dlr O false x k=some (y,m)):
  dlr O false x (inter X K)=some (y,inter X (K.take i++[m]++K.drop (i+1))):=by
 subst hi
 obtain ⟨e,h1,h2,h3⟩:=inter_child O hs hl h hk
 simp only [dlr,Option.map_eq_some_iff,Prod.mk.injEq] at hd ⊢
 obtain ⟨z,hz,rfl,hm⟩:=hd
 refine ⟨z,?_,rfl,?_⟩
 · rw [e,got_mid O h1 h2];exact hz
 · rw [List.append_assoc,List.singleton_append,h3,e,del_mid O h1 h2,hm]
theorem dlr_none_child {x:α} {X:List α} {K:List (List α)} {k:List α} (hs:Srt O (inter X K)) (hl:K.length=X.length+1) (h:fnd O x X=false) (hk:K[pos O x X]?=some k) (hd:dlr O false x k=none):dlr O false x (inter X K)=none:=by
 obtain ⟨e,h1,h2,h3⟩:=inter_child O hs hl h hk
 simp only [dlr,Option.map_eq_none_iff] at hd ⊢
 rw [e,got_mid O h1 h2];exact hd
theorem dlr_len {mx:Bool} {x y:α} {L m:List α} (hd:dlr O mx x L=some (y,m)):L.length=m.length+1:=by
 cases mx with
 | true=>
  simp only [dlr,Option.map_eq_some_iff,Prod.mk.injEq] at hd
  obtain ⟨z,hz,_,rfl⟩:=hd
  have:L≠[]:=fun e=>by rw [e] at hz;cases hz
  rw [List.length_dropLast]
  have:=List.length_pos_iff.2 this
  omega
 | false=>
  simp only [dlr,Option.map_eq_some_iff,Prod.mk.injEq] at hd
  obtain ⟨z,hz,_,rfl⟩:=hd
  have h1:=length_del O x L
  have h2:=got_isSome O x L
  rw [hz] at h2
  rw [←h2] at h1
  exact h1.symm
theorem dlr_max {x y:α} {L m:List α} (hd:dlr O true x L=some (y,m)):L=m++[y]:=by
 simp only [dlr,Option.map_eq_some_iff,Prod.mk.injEq] at hd
 obtain ⟨z,hz,rfl,rfl⟩:=hd
 have hne:L≠[]:=fun e=>by rw [e] at hz;cases hz
 rw [List.getLast?_eq_some_getLast hne] at hz
 have:=List.dropLast_concat_getLast hne
 rw [Option.some.inj hz] at this
 exact this.symm
theorem dlr_max' {x y:α} {L m:List α} (e:L=m++[y]):dlr O true x L=some (y,m):=by
 subst e
 simp [dlr]
theorem dlr_max_ne {x:α} {L:List α} (hl:1≤L.length) (hd:dlr O true x L=none):False:=by
 simp only [dlr,Option.map_eq_none_iff,List.getLast?_eq_none_iff] at hd
 subst hd
 simp at hl
theorem dlr_found {x:α} {X:List α} {K:List (List α)} {k m:List α} {y z:α} {i:Nat} (hs:Srt O (inter X K)) (hl:K.length=X.length+1) (h:fnd O x X=true) (hi:pos O x X=i) (hk:K[i]?=some k) (hx:X[i]?=some z) (e:k=m++[y]):
  dlr O false x (inter X K)=some (z,inter (X.take i++y::X.drop (i+1)) (K.take i++[m]++K.drop (i+1))):=by
 subst hi
 obtain ⟨y',hy',_,_,_,_,q2,_,_,q5⟩:=inter_found O hs hl h
 obtain rfl:y'=z:=Option.some.inj (hy'.symm.trans hx)
 simp only [dlr,q2,Option.map_some,q5,del_node hl hk hx e]
end Go.Bt.Pl
namespace Go.Bt
open Go
theorem Fr.split {Z:Nat→Nat→Prop} {H H':Mem} {hb:Nat} (hlt:hb<H.size) (hf:Fr (fun b o=>Z b o∨b=hb) H H'):
  ∃Hm:Mem,Hm.size=H.size∧Fr (fun b _=>b=hb) H Hm∧Fr Z Hm H':=by
 have hlt':hb<H'.size:=Nat.lt_of_lt_of_le hlt hf.size
 obtain ⟨Hm,hm⟩:∃Hm:Mem,Hm=H.setIfInBounds hb H'[hb]:=⟨_,rfl⟩
 have hs:Hm.size=H.size:=by rw [hm,Array.size_setIfInBounds]
 have e1:∀b,b≠hb→Hm[b]?=H[b]?:=fun b hn=>by rw [hm,Array.getElem?_setIfInBounds,if_neg (fun e=>hn e.symm)]
 have e2:Hm[hb]?=H'[hb]?:=by rw [hm,Array.getElem?_setIfInBounds,if_pos rfl,if_pos hlt,Array.getElem?_eq_getElem hlt']
 have c1:∀b o,b≠hb→cl Hm b o=cl H b o∧fz Hm b o=fz H b o∧shp Hm b=shp H b:=fun b o hn=>by
  unfold cl fz shp;rw [e1 b hn];exact ⟨rfl,rfl,rfl⟩
 have c2:∀o,cl Hm hb o=cl H' hb o∧fz Hm hb o=fz H' hb o∧shp Hm hb=shp H' hb:=fun o=>by
  unfold cl fz shp;rw [e2];exact ⟨rfl,rfl,rfl⟩
 refine ⟨Hm,hs,⟨Nat.le_of_eq hs.symm,fun b o _ hn=>(c1 b o hn).1,fun b o hb'=>?_,fun b hb'=>?_,fun b _ hn=>e1 b (hn 0)⟩,⟨by rw [hs];exact hf.size,fun b o hb' hn=>?_,fun b o hb'=>?_,fun b hb'=>?_,fun b hb' hn=>?_⟩⟩
 ·
  by_cases e:b=hb
  · subst e;exact (c2 o).2.1.trans (hf.frz b o hb')
  · exact (c1 b o e).2.1
 ·
  by_cases e:b=hb
  · subst e;exact (c2 0).2.2.trans (hf.shape b hb')
  · exact (c1 b 0 e).2.2
 ·
  rw [hs] at hb'
  by_cases e:b=hb
  · subst e;exact (c2 o).1.symm
  · exact (hf.cell b o hb' (fun h=>h.elim hn e)).trans (c1 b o e).1.symm
 ·
  rw [hs] at hb'
  by_cases e:b=hb
  · subst e;exact (c2 o).2.1.symm
  · exact (hf.frz b o hb').trans (c1 b o e).2.1.symm
 ·
  rw [hs] at hb'
  by_cases e:b=hb
  · subst e;exact (c2 0).2.2.symm
  · exact (hf.shape b hb').trans (c1 b 0 e).2.2.symm
 ·
  rw [hs] at hb'
  by_cases e:b=hb
  · subst e;exact e2.symm
  · exact (hf.blk b hb' (fun o h=>h.elim (hn o) e)).trans (e1 b e).symm
namespace Hp
variable {ε α:Type} (O:Pl.Swo α) (key:ε→α)
def swp (q:List ε) (i j:Nat) (a b:ε):List ε:=(q.set i b).set j a
def Heap (q:List ε):Prop:=∀j a b,0<j→q[j]?=some a→q[(j-1) / 2]?=some b→O.lt (key a) (key b)=false
def Up (q:List ε) (i:Nat):Prop:=(∀j a b,0<j→j≠i→q[j]?=some a→q[(j-1) / 2]?=some b→O.lt (key a) (key b)=false)∧
 ∀j a b,0<i→0<j→(j-1) / 2=i→q[j]?=some a→q[(i-1) / 2]?=some b→O.lt (key a) (key b)=false
def Dn (q:List ε) (i:Nat):Prop:=(∀j a b,0<j→(j-1) / 2≠i→q[j]?=some a→q[(j-1) / 2]?=some b→O.lt (key a) (key b)=false)∧
 ∀j a b,0<i→0<j→(j-1) / 2=i→q[j]?=some a→q[(i-1) / 2]?=some b→O.lt (key a) (key b)=false
theorem swp_len (q:List ε) (i j:Nat) (a b:ε):(swp q i j a b).length=q.length:=by simp [swp]
theorem swp_i {q:List ε} {i j:Nat} {a b:ε} (hi:i<q.length) (hne:i≠j):(swp q i j a b)[i]?=some b:=by
 unfold swp;rw [List.getElem?_set_ne (Ne.symm hne),List.getElem?_set_self hi]
theorem swp_j {q:List ε} {i j:Nat} {a b:ε} (hj:j<q.length):(swp q i j a b)[j]?=some a:=by
 unfold swp;rw [List.getElem?_set_self (by simpa using hj)]
theorem swp_o {q:List ε} {i j k:Nat} {a b:ε} (h1:k≠i) (h2:k≠j):(swp q i j a b)[k]?=q[k]?:=by
 unfold swp;rw [List.getElem?_set_ne (Ne.symm h2),List.getElem?_set_ne (Ne.symm h1)]
theorem swp_perm {q:List ε} {i j:Nat} {a b:ε} (hi:q[i]?=some a) (hj:q[j]?=some b):(swp q i j a b).Perm q:=by
 obtain ⟨h1,e1⟩:=List.getElem?_eq_some_iff.1 hi
 obtain ⟨h2,e2⟩:=List.getElem?_eq_some_iff.1 hj
 unfold swp
 rw [←e1,←e2]
 exact List.set_set_perm h1 h2
theorem Up.start {q:List ε} {e:ε} (h:Heap O key q):Up O key (q++[e]) q.length:=by
 refine ⟨fun j a b h0 hne h1 h2=>?_,fun j a b _ h0 hp h1 h2=>?_⟩
 ·
  have hl:=(List.getElem?_eq_some_iff.1 h1).1
  simp only [List.length_append,List.length_singleton] at hl
  rw [List.getElem?_append_left (by omega)] at h1 h2
  exact h j a b h0 h1 h2
 ·
  have hl:=(List.getElem?_eq_some_iff.1 h1).1
  simp only [List.length_append,List.length_singleton] at hl
  omega
theorem Up.fin {q:List ε} {i:Nat} (h:Up O key q i) (hd:i=0∨∀a b,q[i]?=some a→q[(i-1) / 2]?=some b→O.lt (key a) (key b)=false):Heap O key q:=fun j a b h0 h1 h2=>by
 by_cases e:j=i
 ·
  subst e
  rcases hd with h3|h3
  · omega
  · exact h3 a b h1 h2
 · exact h.1 j a b h0 e h1 h2
theorem Up.step {q:List ε} {i:Nat} {a b:ε} (h:Up O key q i) (h0:0<i) (ha:q[i]?=some a) (hb:q[(i-1) / 2]?=some b) (hlt:O.lt (key a) (key b)=true):Up O key (swp q i ((i-1) / 2) a b) ((i-1) / 2):=by
 obtain ⟨p,hp⟩:∃p,p=(i-1) / 2:=⟨_,rfl⟩
 rw [←hp] at hb ⊢
 have hil:=(List.getElem?_eq_some_iff.1 ha).1
 have hpl:=(List.getElem?_eq_some_iff.1 hb).1
 have hpi:p<i:=by omega
 have nlt:O.lt (key b) (key a)=false:=O.asy hlt
 refine ⟨fun j x y hj hne h1 h2=>?_,fun j x y hp0 hj hpar h1 h2=>?_⟩
 ·
  by_cases e1:j=i
  ·
   subst e1
   rw [swp_i hil (by omega)] at h1
   rw [←hp,swp_j hpl] at h2
   cases h1;cases h2;exact nlt
  ·
   rw [swp_o e1 hne] at h1
   by_cases e2:(j-1) / 2=i
   ·
    rw [e2,swp_i hil (by omega)] at h2
    cases h2
    exact h.2 j x b h0 hj e2 h1 (by rw [←hp];exact hb)
   ·
    by_cases e3:(j-1) / 2=p
    ·
     rw [e3,swp_j hpl] at h2
     cases h2
     have h3:=h.1 j x b hj e1 h1 (by rw [e3];exact hb)
     cases hx:O.lt (key x) (key a) with
     | false=>rfl
     | true=>rw [O.trans hx hlt] at h3;cases h3
    ·
     rw [swp_o e2 e3] at h2
     exact h.1 j x y hj e1 h1 h2
 ·
  rw [swp_o (by omega) (by omega)] at h2
  by_cases e1:j=i
  ·
   subst e1
   rw [swp_i hil (by omega)] at h1
   cases h1
   exact h.1 p b y hp0 (by omega) hb h2
  ·
   rw [swp_o e1 (by omega)] at h1
   exact O.ntr (h.1 j x b hj e1 h1 (by rw [hpar];exact hb)) (h.1 p b y hp0 (by omega) hb h2)
theorem Dn.fin {q:List ε} {i:Nat} (h:Dn O key q i) (hd:∀j a b,0<j→(j-1) / 2=i→q[j]?=some a→q[i]?=some b→O.lt (key a) (key b)=false):Heap O key q:=fun j a b h0 h1 h2=>by
 by_cases e:(j-1) / 2=i
 · rw [e] at h2;exact hd j a b h0 e h1 h2
 · exact h.1 j a b h0 e h1 h2
theorem Dn.step {q:List ε} {i s:Nat} {a b:ε} (h:Dn O key q i) (hs0:0<s) (hs:(s-1) / 2=i) (ha:q[i]?=some a) (hb:q[s]?=some b) (h1:O.lt (key a) (key b)=false)
  (h2:∀j x,0<j→(j-1) / 2=i→q[j]?=some x→O.lt (key x) (key b)=false):Dn O key (swp q s i b a) s:=by
 have hil:=(List.getElem?_eq_some_iff.1 ha).1
 have hsl:=(List.getElem?_eq_some_iff.1 hb).1
 have his:i<s:=by omega
 refine ⟨fun j x y hj hne h3 h4=>?_,fun j x y _ hj hpar h3 h4=>?_⟩
 ·
  by_cases e1:j=s
  ·
   subst e1
   rw [swp_i hsl (by omega)] at h3
   rw [hs,swp_j hil] at h4
   cases h3;cases h4;exact h1
  ·
   by_cases e2:j=i
   ·
    subst e2
    rw [swp_j hil] at h3
    cases h3
    rw [swp_o (by omega) (by omega)] at h4
    exact h.2 s b y hj hs0 hs hb h4
   ·
    rw [swp_o e1 e2] at h3
    by_cases e3:(j-1) / 2=i
    ·
     rw [e3,swp_j hil] at h4
     cases h4
     exact h2 j x hj e3 h3
    ·
     rw [swp_o hne e3] at h4
     exact h.1 j x y hj e3 h3 h4
 ·
  rw [hs,swp_j hil] at h4
  cases h4
  rw [swp_o (by omega) (by omega)] at h3
  exact h.1 j x b hj (by omega) h3 (by rw [hpar];exact hb)
theorem Dn.start {q:List ε} {e z:ε} (h:Heap O key (e::q++[z])):Dn O key (z::q) 0:=by
 refine ⟨fun j a b h0 hne h1 h2=>?_,fun j a b h0=>absurd h0 (Nat.lt_irrefl 0)⟩
 have hl:=(List.getElem?_eq_some_iff.1 h1).1
 have hg:∀k,0<k→k<(z::q).length→(z::q)[k]?=(e::q++[z])[k]?:=fun k hk hkl=>by
  rcases k with _|k
  · omega
  · rw [List.getElem?_cons_succ,List.cons_append,List.getElem?_cons_succ,List.getElem?_append_left (by simpa using hkl)]
 rw [hg j h0 hl] at h1
 rw [hg _ (by omega) (by omega)] at h2
 exact h j a b h0 h1 h2
theorem heap_nil:Heap O key ([]:List ε):=fun j a b _ h1=>by simp at h1
theorem Heap.min {q:List ε} {e:ε} (h:Heap O key q) (h0:q[0]?=some e):∀(j:Nat) (x:ε),q[j]?=some x→O.lt (key x) (key e)=false:=by
 intro j
 induction j using Nat.strongRecOn with
 | _ j ih=>
  intro x hx
  by_cases hj:j=0
  · subst hj;rw [h0] at hx;cases hx;exact O.irr _
  ·
   have hl:=(List.getElem?_eq_some_iff.1 hx).1
   obtain ⟨y,hy⟩:∃y,q[(j-1) / 2]?=some y:=⟨q[(j-1) / 2]'(by omega),List.getElem?_eq_getElem (by omega)⟩
   exact O.ntr (h j x y (by omega) hx hy) (ih ((j-1) / 2) (by omega) y hy)
theorem Dn.stop {q:List ε} {i:Nat} {a:ε} (h:Dn O key q i) (ha:q[i]?=some a) (hl:∀x,q[i*2+1]?=some x→O.lt (key a) (key x)=true) (hr:∀x,q[i*2+2]?=some x→O.lt (key a) (key x)=true):Heap O key q:=
 h.fin O key fun j x y h0 hj hx hy=>by
  rw [ha] at hy;cases hy
  rcases (show j=i*2+1∨j=i*2+2 by omega) with rfl|rfl
  · exact O.asy (hl x hx)
  · exact O.asy (hr x hx)
theorem Dn.left {q:List ε} {i:Nat} {a b:ε} (h:Dn O key q i) (ha:q[i]?=some a) (hb:q[i*2+1]?=some b) (h1:O.lt (key a) (key b)=false) (hr:∀x,q[i*2+2]?=some x→O.lt (key b) (key x)=true):Dn O key (swp q (i*2+1) i b a) (i*2+1):=
 h.step O key (by omega) (by omega) ha hb h1 fun j x h0 hj hx=>by
  rcases (show j=i*2+1∨j=i*2+2 by omega) with rfl|rfl
  · rw [hb] at hx;cases hx;exact O.irr _
  · exact O.asy (hr x hx)
theorem Dn.right {q:List ε} {i:Nat} {a b c:ε} (h:Dn O key q i) (ha:q[i]?=some a) (hb:q[i*2+2]?=some b) (hc:q[i*2+1]?=some c)
  (h1:(O.lt (key a) (key c)=true∧O.lt (key a) (key b)=false)∨(O.lt (key a) (key c)=false∧O.lt (key c) (key b)=false)):Dn O key (swp q (i*2+2) i b a) (i*2+2):=by
 have hab:O.lt (key a) (key b)=false:=h1.elim (fun h=>h.2) fun h=>O.ntr h.1 h.2
 have hcb:O.lt (key c) (key b)=false:=h1.elim (fun h=>by
  cases e:O.lt (key c) (key b) with
  | false=>rfl
  | true=>exact absurd (O.trans h.1 e) (by rw [h.2];exact Bool.false_ne_true)) fun h=>h.2
 refine h.step O key (by omega) (by omega) ha hb hab fun j x h0 hj hx=>?_
 rcases (show j=i*2+1∨j=i*2+2 by omega) with rfl|rfl
 · rw [hc] at hx;cases hx;exact hcb
 · rw [hb] at hx;cases hx;exact O.irr _
theorem pop_start {q rest:List ε} {e z:ε} (he:q=e::rest) (hz:q[q.length-1]?=some z):((q.set 0 z).take (q.length-1)).Perm rest∧(Heap O key q→Dn O key ((q.set 0 z).take (q.length-1)) 0):=by
 subst he
 rcases List.eq_nil_or_concat rest with rfl|⟨mid,z',e2⟩
 · exact ⟨List.Perm.refl _,fun _=>⟨fun j a b _ _ h1=>by simp at h1,fun j a b h0=>absurd h0 (Nat.lt_irrefl 0)⟩⟩
 ·
  have e3:rest=mid++[z']:=by simpa using e2
  subst e3
  have hz':z'=z:=by
   have hl:(e::(mid++[z'])).length-1=mid.length+1:=by simp
   rw [hl,List.getElem?_cons_succ,List.getElem?_append_right (Nat.le_refl _),Nat.sub_self] at hz
   exact Option.some.inj hz
  subst hz'
  have e4:(((e::(mid++[z'])).set 0 z').take ((e::(mid++[z'])).length-1))=z'::mid:=by simp
  rw [e4]
  exact ⟨List.perm_append_comm (l₁:=[z']) (l₂:=mid),fun h=>Dn.start O key (e:=e) (by simpa using h)⟩
end Hp
theorem Go'.mono {P:Program} {B:World} {f:FuncId} {Q Q':Value→Mem→Prop} {n:Nat} {r:Env} {k:List Item} {H:Mem} (hq:∀v H',Q v H'→Q' v H') (h:Go' P B f Q n r k H):Go' P B f Q' n r k H:=
 fun d a ha b cs hb hk=>
  let ⟨v,w'',fr,h1,h2,h3,h4⟩:=h d a ha b cs hb hk
  ⟨v,w'',fr,by obtain ⟨H',d',e,q⟩:=h1;exact ⟨H',d',e,hq _ _ q⟩,h2,h3,h4⟩
theorem Wr.nil (H:Mem) (b o:Nat):Wr H b o 0:=fun i hi=>absurd hi (Nat.not_lt_zero i)
section
variable {P:Program} {B:World} {f:FuncId} {Q:Value→Mem→Prop} {n:Nat} {r:Env} {k:List Item} {H:Mem} {l:List Oper} {C:Mem→Prop} {p:List (Nat×Nat)}
variable {i kd d:Nat} {ty:TypeId} {pos:String} {af:Array Edge} {gd:Option (Nat×Bool)}
end
end Go.Bt
namespace Go.Bt.Pl
variable {α β:Type} {O:Swo α} {O2:Swo β} {f:α→β} (hf:∀x y,O2.lt (f x) (f y)=O.lt x y)
include hf
end Go.Bt.Pl
namespace Go.Bt.Pl
variable {α β γ:Type}
def runs (f:List α→β→List α×γ) (l:List α) (ks:List β):List α×List γ:=ks.foldl (fun s k=>((f s.1 k).1,s.2++[(f s.1 k).2])) (l,[])
end Go.Bt.Pl
namespace Go.Bt.Pl
end Go.Bt.Pl
namespace Go.Bt
open Go
variable {α:Type} {E:Elt α}
def cix (d:Bool) (n:Nat):Nat:=bif d then n-1 else 0
def Gt.sp (d:Bool):(h:Nat)→Gt E h→Nat→Prop
 | 0,t,q=>q=t.1.p
 | h+1,t,q=>q=t.1.p∨∃k,t.2.2[cix d t.2.2.length]?=some k∧Gt.sp d h k q
def Gt.lf (d:Bool):(h:Nat)→Gt E h→Ng×List α
 | 0,t=>t
 | h+1,t=>match t.2.2[cix d t.2.2.length]? with
  | some k=>Gt.lf d h k
  | none=>(t.1,[])
def glue (d:Bool) (X R:List α):List α:=bif d then R++X else X++R
theorem Gt.sp_af {d:Bool}:∀{h:Nat} {t:Gt E h} {q:Nat},Gt.sp d h t q→∀o,o<4→Gt.af h t q o
 | 0,t,q,hq,o,ho=>.inl ⟨hq,ho⟩
 | h+1,t,q,hq,o,ho=>by
  rcases hq with rfl|⟨k,hk,hq⟩
  · exact .inl (.inl ⟨rfl,ho⟩)
  · exact .inr (.inr ⟨k,List.mem_of_getElem? hk,Gt.sp_af hq o ho⟩)
structure Spn (H0 H:Mem) (P:Ps) (d:Bool) (δ:Nat→Nat) (h0:Nat) (t0:Gt E h0) (D:Nat→Prop) (h:Nat) (t:Gt E h):Prop where
 g:Gt.Good H0 P h t
 fr:Fr (fun b o=>o=1∧D b) H0 H
 val:∀q,D q→cl H q 1=some (.int .i64 (δ (Bt.cnOf H0 q):Int))
 off:∀q,D q→¬Gt.af h t q 1
 all:∀q,Gt.sp d h0 t0 q↔D q∨Gt.sp d h t q
 lf:Gt.lf d h t=Gt.lf d h0 t0
 sub:∀b o,Gt.af h t b o→Gt.af h0 t0 b o
 x1:1≤(Gt.X h t).length
 le:(Gt.L h t).length≤(Gt.L h0 t0).length
 mn:h<h0→P.mn≤(Gt.X h t).length
theorem kid_le {h:Nat} {t:Gt E (h+1)} (hl:t.2.2.length=t.2.1.length+1) {k:Gt E h} (hk:k∈t.2.2):(Gt.L h k).length≤(Gt.L (h+1) t).length:=by
 have h1:(Gt.L (h+1) t).length=_:=Pl.inter_length t.2.1 (t.2.2.map (Gt.L h)) (by rw [List.length_map];exact hl)
 have h2:(Gt.L h k).length≤((t.2.2.map (Gt.L h)).map List.length).sum:=sum_mem List.length (List.mem_map.2 ⟨k,hk,rfl⟩)
 omega
theorem Spn.start {H:Mem} {P:Ps} {d:Bool} {δ:Nat→Nat} {h:Nat} {t:Gt E h} (hg:Gt.Good H P h t) (hx:1≤(Gt.X h t).length):Spn H H P d δ h t (fun _=>False) h t:=
 ⟨hg,Fr.refl _ _,fun _ h=>h.elim,fun _ h=>h.elim,fun q=>⟨.inr,fun h=>h.elim (fun h=>h.elim) id⟩,rfl,fun _ _ h=>h,hx,Nat.le_refl _,fun h=>absurd h (Nat.lt_irrefl _)⟩
section
variable {H0 H H':Mem} {P:Ps} {d:Bool} {δ:Nat→Nat} {h0 h:Nat} {t0:Gt E h0} {D:Nat→Prop}
theorem Spn.cnt {t:Gt E h} (s:Spn H0 H P d δ h0 t0 D h t):cl H (Gt.p h t) 1=some (.int .i64 (Bt.cnOf H0 (Gt.p h t):Int)):=
 s.fr.keep (s.g.cnOf).1 fun hz=>s.off _ hz.2 (Gt.af_p (by omega))
end
variable {α:Type} {E:Elt α}
theorem Gt.Good.own {H:Mem} {P:Ps} {d:Bool} {h:Nat} {t:Gt E (h+1)} (hg:Gt.Good H P (h+1) t) {b o:Nat} (hb:ncl E t.1 b o∨kcl t.1 b o) (hne:¬(b=t.1.p∧o=1)):¬(o=1∧Gt.sp d (h+1) t b):=by
 rintro ⟨ho,hs⟩
 rcases hs with rfl|⟨k,hk,hs⟩
 · exact hne ⟨rfl,ho⟩
 ·
  have h1:=(hg.2.2.2.2.2.2.1 k (List.mem_of_getElem? hk)).2.2 b o (Gt.sp_af hs o (by omega))
  exact hb.elim h1.1 h1.2
structure Sp2 (H0 H:Mem) (P:Ps) (d:Bool) (δ:Nat→Nat) (h0:Nat) (t0:Gt E h0) (bx:Nat) (D:Nat→Prop) (h:Nat) (t:Gt E h):Prop where
 g:Gt.Good H0 P h t
 fr:Fr (fun b o=>(o=1∧Gt.sp d h0 t0 b)∨b=bx) H0 H
 nb:∀o,¬Gt.af h0 t0 bx o
 val:∀q,D q→cl H q 1=some (.int .i64 (Bt.cnOf H0 q:Int))
 val2:∀q,Gt.sp d h t q→cl H q 1=some (.int .i64 (δ (Bt.cnOf H0 q):Int))
 off:∀q,D q→¬Gt.af h t q 1
 all:∀q,Gt.sp d h0 t0 q↔D q∨Gt.sp d h t q
 sub:∀b o,Gt.af h t b o→Gt.af h0 t0 b o
 le:(Gt.L h t).length≤(Gt.L h0 t0).length
 x1:1≤(Gt.X h t).length
section
variable {H0 H H':Mem} {P:Ps} {d:Bool} {δ:Nat→Nat} {h0 h bx:Nat} {t0:Gt E h0} {D:Nat→Prop}
theorem Sp2.keep {t:Gt E (h+1)} (s:Sp2 H0 H P d δ h0 t0 bx D (h+1) t) {b o:Nat} {v:Value} (hb:ncl E t.1 b o∨kcl t.1 b o) (hne:¬(b=t.1.p∧o=1)) (hv:cl H0 b o=some v):cl H b o=some v:=by
 have haf:Gt.af (h+1) t b o:=hb.elim .inl (fun h=>.inr (.inl h))
 refine s.fr.keep hv fun hz=>?_
 rcases hz with ⟨ho,hs⟩|rfl
 ·
  rcases (s.all b).1 hs with hD|hs
  · exact s.off b hD (ho▸haf)
  · exact s.g.own hb hne ⟨ho,hs⟩
 · exact s.nb o (s.sub _ _ haf)
theorem Sp2.start {t:Gt E h} (hg:Gt.Good H0 P h t) (hf:Fr (fun b o=>(o=1∧Gt.sp d h t b)∨b=bx) H0 H) (hn:∀o,¬Gt.af h t bx o) (hv:∀q,Gt.sp d h t q→cl H q 1=some (.int .i64 (δ (Bt.cnOf H0 q):Int))) (hx:1≤(Gt.X h t).length):
  Sp2 H0 H P d δ h t bx (fun _=>False) h t:=
 ⟨hg,hf,hn,fun _ h=>h.elim,hv,fun _ h=>h.elim,fun q=>⟨.inr,fun h=>h.elim (fun h=>h.elim) id⟩,fun _ _ h=>h,Nat.le_refl _,hx⟩
end
namespace Pl
variable {α:Type} (O:Swo α)
end Pl
variable {α:Type} {E:Elt α}
section
variable {H0 H:Mem} {P:Ps} {d:Bool} {δ:Nat→Nat} {h0 h bx:Nat} {t0:Gt E h0} {D:Nat→Prop} {l X:List α} {g:Ng}
theorem Sp2.pos {t:Gt E h} (s:Sp2 H0 H P d δ h0 t0 bx D h t):1≤(Gt.L h t).length:=s.g.ne s.x1
end
variable {α:Type} {E:Elt α}
@[reducible] def Gt.nd {h:Nat} (g:Ng) (X:List α) (K:List (Gt E h)):Gt E (h+1):=(g,X,K)
inductive Dn:{h0:Nat}→Gt E h0→List (Nat×Nat)→{h:Nat}→Gt E h→List α→List α→Prop
 | nil {h:Nat} {t:Gt E h}:Dn t [] t [] []
 | cons {h0:Nat} {g:Ng} {X:List α} {K:List (Gt E h0)} {k:Gt E h0} {i:Nat} {fs:List (Nat×Nat)} {h:Nat} {t:Gt E h} {A C:List α} (hk:K[i]?=some k) (d:Dn k fs t A C):
   Dn (Gt.nd g X K) ((Gt.p h0 k,i)::fs) t (Pl.pre (X.take i) ((K.map (Gt.L h0)).take i)++A) (C++Pl.post (X.drop i) ((K.map (Gt.L h0)).drop (i+1)))
theorem Dn.le {h0 h:Nat} {t0:Gt E h0} {t:Gt E h} {fs:List (Nat×Nat)} {A C:List α} (d:Dn t0 fs t A C):h0=h+fs.length:=by
 induction d with
 | nil=>rfl
 | cons _ _ ih=>simp only [List.length_cons];omega
theorem Dn.L {H:Mem} {P:Ps} {h0 h:Nat} {t0:Gt E h0} {t:Gt E h} {fs:List (Nat×Nat)} {A C:List α} (d:Dn t0 fs t A C) (hg:Gt.Good H P h0 t0):Gt.L h0 t0=A++Gt.L h t++C:=by
 induction d with
 | nil=>simp
 | @cons h0 g X K k i fs h t A C hk d ih=>
  have hl:(K.map (Gt.L h0)).length=X.length+1:=by rw [List.length_map];exact hg.2.2.2.2.2.1
  have e:Gt.L (h0+1) ((g,X,K):Gt E (h0+1))=_:=Pl.inter_self hl (by rw [List.getElem?_map,hk];rfl)
  rw [e,ih (hg.2.2.2.2.2.2.1 k (List.mem_of_getElem? hk)).1]
  simp
theorem Dn.sub {h0 h:Nat} {t0:Gt E h0} {t:Gt E h} {fs:List (Nat×Nat)} {A C:List α} (d:Dn t0 fs t A C):∀b o,Gt.af h t b o→Gt.af h0 t0 b o:=by
 induction d with
 | nil=>exact fun _ _ h=>h
 | cons hk d ih=>exact fun b o hb=>.inr (.inr ⟨_,List.mem_of_getElem? hk,ih b o hb⟩)
theorem Dn.good {H:Mem} {P:Ps} {h0 h:Nat} {t0:Gt E h0} {t:Gt E h} {fs:List (Nat×Nat)} {A C:List α} (d:Dn t0 fs t A C) (hg:Gt.Good H P h0 t0):Gt.Good H P h t∧(fs≠[]→P.mn≤(Gt.X h t).length):=by
 induction d with
 | nil=>exact ⟨hg,fun h=>absurd rfl h⟩
 | @cons h0 g X K k i fs h t A C hk d ih=>
  have hk2:=hg.2.2.2.2.2.2.1 k (List.mem_of_getElem? hk)
  obtain ⟨h1,h2⟩:=ih hk2.1
  refine ⟨h1,fun _=>?_⟩
  cases d with
  | nil=>exact hk2.2.1
  | cons=>exact h2 (by simp)
theorem Dn.pts {h0 h:Nat} {t0:Gt E h0} {t:Gt E h} {fs:List (Nat×Nat)} {A C:List α} (d:Dn t0 fs t A C):∀q∈Gt.p h0 t0::fs.map Prod.fst,∀o,o<4→Gt.af h0 t0 q o:=by
 induction d with
 | nil=>
  intro q hq o ho
  simp only [List.map_nil,List.mem_singleton] at hq
  subst hq
  exact Gt.af_p ho
 | @cons h0 g X K k i fs h t A C hk d ih=>
  intro q hq o ho
  rcases List.mem_cons.1 hq with rfl|hq
  · exact Gt.af_p (t:=Gt.nd g X K) ho
  · exact .inr (.inr ⟨k,List.mem_of_getElem? hk,ih q hq o ho⟩)
theorem Dn.nodup {H:Mem} {P:Ps} {h0 h:Nat} {t0:Gt E h0} {t:Gt E h} {fs:List (Nat×Nat)} {A C:List α} (d:Dn t0 fs t A C) (hg:Gt.Good H P h0 t0):(Gt.p h0 t0::fs.map Prod.fst).Nodup:=by
 induction d with
 | nil=>simp
 | @cons h0 g X K k i fs h t A C hk d ih=>
  have hk2:=hg.2.2.2.2.2.2.1 k (List.mem_of_getElem? hk)
  rw [List.map_cons,List.nodup_cons]
  refine ⟨fun hm=>?_,ih hk2.1⟩
  have:=d.pts _ hm 0 (by decide)
  exact (hk2.2.2 _ _ this).1 (.inl ⟨rfl,by decide⟩)
theorem Dn.cnts {H:Mem} {P:Ps} {h0 h:Nat} {t0:Gt E h0} {t:Gt E h} {fs:List (Nat×Nat)} {A C:List α} (d:Dn t0 fs t A C) (hg:Gt.Good H P h0 t0):∀q∈Gt.p h0 t0::fs.map Prod.fst,∃c:Nat,cl H q 1=some (.int .i64 (c:Int))∧(Gt.L h t).length≤c∧c≤(Gt.L h0 t0).length∧Wr H q 0 4:=by
 induction d with
 | nil=>
  intro q hq
  simp only [List.map_nil,List.mem_singleton] at hq
  subst hq
  obtain ⟨kp,hn⟩:=hg.node
  exact ⟨_,hn.c1,by rw [hg.cnt];exact Nat.le_refl _,by rw [hg.cnt];exact Nat.le_refl _,hn.wr⟩
 | @cons h0 g X K k i fs h t A C hk d ih=>
  have hk2:=hg.2.2.2.2.2.2.1 k (List.mem_of_getElem? hk)
  have hle:=kid_le (t:=Gt.nd g X K) hg.2.2.2.2.2.1 (List.mem_of_getElem? hk)
  have hl:=congrArg List.length (d.L hk2.1)
  simp only [List.length_append] at hl
  intro q hq
  rcases List.mem_cons.1 hq with rfl|hq
  ·
   obtain ⟨kp,hn⟩:=hg.node
   exact ⟨_,hn.c1,by rw [hg.cnt];omega,by rw [hg.cnt];exact Nat.le_refl _,hn.wr⟩
  ·
   obtain ⟨c,h1,h2,h3,h4⟩:=ih hk2.1 q hq
   exact ⟨c,h1,h2,Nat.le_trans h3 hle,h4⟩
def DownOk {h0:Nat} (t0:Gt E h0) (fs:List (Nat×Nat)) (A C:List α):(h1:Nat)→Gt E h1→Prop
 | 0,_=>True
 | h+1,t=>∀i k,t.2.2[i]?=some k→Dn t0 (fs++[(Gt.p h k,i)]) k (A++Pl.pre (t.2.1.take i) ((t.2.2.map (Gt.L h)).take i)) (Pl.post (t.2.1.drop i) ((t.2.2.map (Gt.L h)).drop (i+1))++C)
theorem Dn.down0 {h0 h1:Nat} {t0:Gt E h0} {fs:List (Nat×Nat)} {A C:List α} {t:Gt E h1} (d:Dn t0 fs t A C):DownOk t0 fs A C h1 t:=by
 induction d with
 | @nil h1 t=>
  rcases h1 with _|h
  · trivial
  ·
   intro i k hk
   obtain ⟨g,X,K⟩:=t
   have:=Dn.cons (g:=g) (X:=X) (K:=K) hk (Dn.nil (t:=k))
   simpa using this
 | @cons h2 g X K k2 j fs h1 t A C hk2 d ih=>
  rcases h1 with _|h
  · trivial
  ·
   intro i k hk
   have:=Dn.cons (g:=g) (X:=X) hk2 (ih i k hk)
   simpa using this
theorem Dn.down {h0 h:Nat} {t0:Gt E h0} {fs:List (Nat×Nat)} {A C:List α} {t:Gt E (h+1)} {i:Nat} {k:Gt E h} (d:Dn t0 fs t A C) (hk:t.2.2[i]?=some k):
  Dn t0 (fs++[(Gt.p h k,i)]) k (A++Pl.pre (t.2.1.take i) ((t.2.2.map (Gt.L h)).take i)) (Pl.post (t.2.1.drop i) ((t.2.2.map (Gt.L h)).drop (i+1))++C):=d.down0 i k hk
theorem Dn.up {h0:Nat} {t0:Gt E h0} {fs:List (Nat×Nat)} {q i:Nat} {h:Nat} {k:Gt E h} {A C:List α} (d:Dn t0 (fs++[(q,i)]) k A C):∃(t:Gt E (h+1)) (A' C':List α),Dn t0 fs t A' C'∧t.2.2[i]?=some k∧q=Gt.p h k∧
  A=A'++Pl.pre (t.2.1.take i) ((t.2.2.map (Gt.L h)).take i)∧C=Pl.post (t.2.1.drop i) ((t.2.2.map (Gt.L h)).drop (i+1))++C':=by
 generalize hfs:fs++[(q,i)]=fs1 at d
 induction d generalizing fs with
 | nil=>simp at hfs
 | @cons h0 g X K k1 j fs2 h t A C hk d ih=>
  rcases fs with _|⟨f,fs⟩
  ·
   simp only [List.nil_append,List.cons.injEq,Prod.mk.injEq] at hfs
   obtain ⟨⟨rfl,rfl⟩,rfl⟩:=hfs
   cases d with
   | nil=>exact ⟨(g,X,K),[],[],.nil,hk,rfl,by simp,by simp⟩
  ·
   simp only [List.cons_append,List.cons.injEq] at hfs
   obtain ⟨rfl,h2⟩:=hfs
   obtain ⟨t2,A',C',d2,h3,h4,h5,h6⟩:=ih h2
   exact ⟨t2,_,_,.cons hk d2,h3,h4,by rw [h5];simp,by rw [h6];simp⟩
theorem Kids.one {P:Ps} {Z:Nat→Nat→Prop} {H H':Mem} {h:Nat} {g g':Ng} {K1 K2:List (Gt E h)} {a m:Gt E h} (hK:Kids H P h g (K1++[a]++K2)) (hf:Fr Z H H') (hZ:∀k∈K1++K2,∀b o,Gt.af h k b o→¬Z b o)
  (hg:∀b o,ncl E g' b o∨kcl g' b o→ncl E g b o∨kcl g b o) (hm:Gt.Good H' P h m∧P.mn≤(Gt.X h m).length) (hs:∀b o,Gt.af h m b o→Gt.af h a b o):Kids H' P h g' (K1++[m]++K2):=by
 obtain ⟨h1,h2⟩:=hK
 have hd:∀k∈K1++[a]++K2,∀b o,Gt.af h k b o→¬ncl E g' b o∧¬kcl g' b o:=fun k hk b o hb=>
  ⟨fun hn=>(hg b o (.inl hn)).elim ((h1 k hk).2.2 b o hb).1 ((h1 k hk).2.2 b o hb).2,fun hn=>(hg b o (.inr hn)).elim ((h1 k hk).2.2 b o hb).1 ((h1 k hk).2.2 b o hb).2⟩
 have old:∀k,k∈K1∨k∈K2→k∈K1++[a]++K2:=fun k hk=>by simp;rcases hk with hk|hk;exact .inl hk;exact .inr (.inr hk)
 refine ⟨fun k hk=>?_,?_⟩
 ·
  have hk':(k∈K1∨k∈K2)∨k=m:=by
   simp only [List.mem_append,List.mem_singleton] at hk
   rcases hk with (hk|hk)|hk
   · exact .inl (.inl hk)
   · exact .inr hk
   · exact .inl (.inr hk)
  rcases hk' with hk'|rfl
  · exact ⟨(h1 k (old k hk')).1.fr hf (hZ k (List.mem_append.2 hk')),(h1 k (old k hk')).2.1,hd k (old k hk')⟩
  · exact ⟨hm.1,hm.2,fun b o hb=>hd a (by simp) b o (hs b o hb)⟩
 ·
  rw [List.append_assoc,List.pairwise_append,List.pairwise_append] at h2 ⊢
  obtain ⟨p1,⟨_,p2,pA2⟩,p12⟩:=h2
  refine ⟨p1,⟨List.pairwise_singleton _ _,p2,fun x hx k hk b o hb hb2=>?_⟩,fun k hk x hx b o hb hb2=>?_⟩
  ·
   rw [List.mem_singleton] at hx;subst hx
   exact pA2 a (List.mem_singleton.2 rfl) k hk b o (hs b o hb) hb2
  ·
   rcases List.mem_append.1 hx with hx|hx
   ·
    rw [List.mem_singleton] at hx;subst hx
    exact p12 k hk a (by simp) b o hb (hs b o hb2)
   · exact p12 k hk x (List.mem_append_right _ hx) b o hb hb2
theorem Gt.Seg.mono {R R':α→List α→Prop} {H:Mem} {P:Ps}:∀{h:Nat} {t:Gt E h},Gt.Good H P h t→Gt.Seg R h t→(∀a w l c,Gt.L h t=a++w::l++c→R w l→R' w l)→Gt.Seg R' h t
 | 0,_,_,_,_=>trivial
 | h+1,t,hg,hs,hm=>by
  have hl:(t.2.2.map (Gt.L h)).length=t.2.1.length+1:=by rw [List.length_map];exact hg.2.2.2.2.2.1
  refine ⟨fun i z k hx hk=>?_,fun k hk=>?_⟩
  ·
   obtain ⟨a',c',e⟩:=Pl.inter_piece hl hx hk
   exact hm a' z k c' e (hs.1 i z k hx hk)
  ·
   obtain ⟨j,hj⟩:=List.mem_iff_getElem?.1 hk
   have hj':(t.2.2.map (Gt.L h))[j]?=some (Gt.L h k):=by rw [List.getElem?_map,hj];rfl
   have e:Gt.L (h+1) t=_:=Pl.inter_self hl hj'
   refine Gt.Seg.mono (hg.2.2.2.2.2.2.1 k hk).1 (hs.2 k hk) fun a w l c e2=>hm (Pl.pre (t.2.1.take j) ((t.2.2.map (Gt.L h)).take j)++a) w l (c++Pl.post (t.2.1.drop j) ((t.2.2.map (Gt.L h)).drop (j+1))) ?_
   rw [e,e2];simp
theorem Dn.pt_off {H:Mem} {P:Ps} {h0 h:Nat} {t0:Gt E h0} {t:Gt E h} {fs:List (Nat×Nat)} {A C:List α} (d:Dn t0 fs t A C) (hg:Gt.Good H P h0 t0):∀q∈Gt.p h0 t0::fs.map Prod.fst,q≠Gt.p h t→∀o,o<4→¬Gt.af h t q o:=by
 induction d with
 | nil=>
  intro q hq hne
  simp only [List.map_nil,List.mem_singleton] at hq
  exact absurd hq hne
 | @cons h0 g X K k i fs h t A C hk d ih=>
  have hk2:=hg.2.2.2.2.2.2.1 k (List.mem_of_getElem? hk)
  intro q hq hne o ho hb
  rcases List.mem_cons.1 hq with rfl|hq
  · exact (hk2.2.2 _ _ (d.sub _ _ hb)).1 (.inl ⟨rfl,ho⟩)
  · exact ih hk2.1 q hq hne o ho hb
theorem Dn.at {h0 h:Nat} {t0:Gt E h0} {t:Gt E h} {fs:List (Nat×Nat)} {A C:List α} (d:Dn t0 fs t A C):(Gt.p h0 t0::fs.map Prod.fst)[fs.length]?=some (Gt.p h t):=by
 induction d with
 | nil=>rfl
 | cons hk d ih=>rw [List.map_cons,List.length_cons,List.getElem?_cons_succ];exact ih
theorem Dn.p_mem {h0 h:Nat} {t0:Gt E h0} {t:Gt E h} {fs:List (Nat×Nat)} {A C:List α} (d:Dn t0 fs t A C):Gt.p h t∈Gt.p h0 t0::fs.map Prod.fst:=by
 induction d with
 | nil=>exact List.mem_cons_self
 | cons hk d ih=>exact List.mem_cons_of_mem _ ih
namespace Pl
theorem pre_item {X:List α} {K:List (List α)} {i j:Nat} {z:α} (hl:K.length=X.length+1) (hj:j<i) (hi:i≤X.length) (hz:X[j]?=some z):z∈pre (X.take i) (K.take i):=by
 have:∀(X:List α) (K:List (List α)) (j:Nat),X.length≤K.length→X[j]?=some z→z∈pre X K:=by
  intro X
  induction X with
  | nil=>intro K j _ h;simp at h
  | cons x X ih=>
   intro K j hl h
   rcases K with _|⟨k,K⟩
   · simp at hl
   ·
    rcases j with _|j
    ·
     simp only [List.getElem?_cons_zero,Option.some.injEq] at h
     subst h;simp [pre]
    ·
     rw [List.getElem?_cons_succ] at h
     simp only [pre,List.mem_append,List.mem_cons]
     exact .inr (.inr (ih K j (by simpa using hl) h))
 exact this _ _ j (by rw [List.length_take,List.length_take];omega) (by rw [List.getElem?_take_of_lt hj];exact hz)
theorem pre_kid {X:List α} {K:List (List α)} {i j:Nat} {m:List α} {w:α} (hl:K.length=X.length+1) (hj:j<i) (hi:i≤X.length) (hm:K[j]?=some m) (hw:w∈m):w∈pre (X.take i) (K.take i):=by
 have:∀(X:List α) (K:List (List α)) (j:Nat),K.length≤X.length→K[j]?=some m→w∈pre X K:=by
  intro X
  induction X with
  | nil=>intro K j hl h;have:K=[]:=List.length_eq_zero_iff.1 (by simpa using hl);subst this;simp at h
  | cons x X ih=>
   intro K j hl h
   rcases K with _|⟨k,K⟩
   · simp at h
   ·
    rcases j with _|j
    ·
     simp only [List.getElem?_cons_zero,Option.some.injEq] at h
     subst h;simp [pre,hw]
    ·
     rw [List.getElem?_cons_succ] at h
     simp only [pre,List.mem_append,List.mem_cons]
     exact .inr (.inr (ih K j (by simpa using hl) h))
 exact this _ _ j (by rw [List.length_take,List.length_take];omega) (by rw [List.getElem?_take_of_lt hj];exact hm)
theorem post_piece {X:List α} {K:List (List α)} {j:Nat} {z:α} {k:List α} (hl:X.length=K.length) (hz:X[j]?=some z) (hk:K[j]?=some k):∃a c,post X K=a++z::k++c:=by
 induction X generalizing K j with
 | nil=>simp at hz
 | cons x X ih=>
  rcases K with _|⟨k0,K⟩
  · simp at hl
  ·
   rcases j with _|j
   ·
    simp only [List.getElem?_cons_zero,Option.some.injEq] at hz hk
    subst hz hk
    exact ⟨[],post X K,by simp [post]⟩
   ·
    rw [List.getElem?_cons_succ] at hz hk
    obtain ⟨a,c,e⟩:=ih (by simpa using hl) hz hk
    exact ⟨x::k0++a,c,by simp [post,e]⟩
end Pl
structure SegE (R R':α→List α→Prop) (A C:List α):Prop where
 lo:∀w∈A,∀l,R' w l
 hi:∀a w l c,C=a++w::l++c→R w l→R' w l
theorem Dn.edit {H H':Mem} {P:Ps} {Z:Nat→Nat→Prop} (hf:Fr Z H H') {d:Nat} {h0 h:Nat} {t0:Gt E h0} {t:Gt E h} {fs:List (Nat×Nat)} {A C:List α} (dn:Dn t0 fs t A C) (hg:Gt.Good H P h0 t0) {t':Gt E h} (hg':Gt.Good H' P h t') (hp:Gt.p h t'=Gt.p h t)
  (ha:∀b o,Gt.af h t' b o→Gt.af h t b o) (hd:(Gt.L h t).length=(Gt.L h t').length+d) (hx:fs≠[]→P.mn≤(Gt.X h t').length)
  (hZ:∀b o,Gt.af h0 t0 b o→Z b o→Gt.af h t b o∨(o=1∧b∈Gt.p h0 t0::fs.map Prod.fst))
  (hc:∀q∈Gt.p h0 t0::fs.map Prod.fst,q≠Gt.p h t→∀c:Nat,cl H q 1=some (.int .i64 (c:Int))→cl H' q 1=some (.int .i64 ((c-d:Nat):Int))):
  ∃t0':Gt E h0,Gt.Good H' P h0 t0'∧Dn t0' fs t' A C∧Gt.p h0 t0'=Gt.p h0 t0∧(∀b o,Gt.af h0 t0' b o→Gt.af h0 t0 b o∧(Gt.af h t b o→Gt.af h t' b o))∧(Gt.L h0 t0).length=(Gt.L h0 t0').length+d∧(fs≠[]→Gt.X h0 t0'=Gt.X h0 t0)∧
   ∀R R',SegE R R' A C→(Gt.Seg R h t→Gt.Seg R' h t')→Gt.Seg R h0 t0→Gt.Seg R' h0 t0':=by
 induction dn with
 | nil=>exact ⟨t',hg',.nil,hp,fun b o hb=>⟨ha b o hb,fun _=>hb⟩,hd,fun h=>absurd rfl h,fun R R' _ h1 h2=>h1 h2⟩
 | @cons h0 g X K k i fs h t A C hk dn ih=>
  have hkK:=List.mem_of_getElem? hk
  have hil:=(List.getElem?_eq_some_iff.1 hk).1
  obtain ⟨hgk,hmk,hdk⟩:=hg.2.2.2.2.2.2.1 k hkK
  have hN:NodeM E H g X (.pointer (some ⟨g.cb,0,none⟩)):=hg.1
  have hKl:K.length=X.length+1:=hg.2.2.2.2.2.1
  have hsp:=kid_split hk
  have hpts:=dn.pts
  have hkp:∀q∈Gt.p h0 k::fs.map Prod.fst,q≠g.p:=fun q hq e=>(hdk q 0 (hpts q hq 0 (by decide))).1 (.inl ⟨e,by decide⟩)
  obtain ⟨k',gk',dn',pk',ak',lk',xk',sk'⟩:=ih hgk hg' hp ha hd (fun h=>hx (by simp)) (fun b o hb hz=>by
   rcases hZ b o (.inr (.inr ⟨k,hkK,hb⟩)) hz with h1|⟨rfl,h1⟩
   · exact .inl h1
   ·
    rcases List.mem_cons.1 h1 with rfl|h1
    · exact absurd (.inl ⟨rfl,by decide⟩) (hdk _ _ hb).1
    · exact .inr ⟨rfl,h1⟩) (fun q hq=>hc q (List.mem_cons_of_mem _ hq))
  have htk:=dn.sub
  have hmn':P.mn≤(Gt.X h0 k').length:=by
   cases dn with
   | nil=>
    cases dn' with
    | nil=>exact hx (by simp)
   | cons=>rw [xk' (by simp)];exact hmk
  have hz:∀b o,(ncl E g b o∨kcl g b o)→¬(b=g.p∧o=1)→¬Z b o:=fun b o hb hn hzz=>by
   rcases hZ b o (hb.elim .inl (fun h=>.inr (.inl h))) hzz with h1|⟨rfl,h1⟩
   · exact hb.elim (hdk _ _ (htk _ _ h1)).1 (hdk _ _ (htk _ _ h1)).2
   ·
    rcases List.mem_cons.1 h1 with rfl|h1
    · exact hn ⟨rfl,rfl⟩
    · exact hb.elim (hdk _ _ (hpts _ h1 1 (by decide))).1 (hdk _ _ (hpts _ h1 1 (by decide))).2
  have hzk:∀m∈K.take i++K.drop (i+1),∀b o,Gt.af h0 m b o→¬Z b o:=fun m hm b o hb hzz=>by
   have hmK:m∈K:=(kid_sub hk).subset hm
   have hoff:∀b o,Gt.af h0 k b o→¬Gt.af h0 m b o:=fun b o h1 h2=>kid_off hg.inn hk b o h1 (.inr (.inr ⟨m,hm,h2⟩))
   rcases hZ b o (.inr (.inr ⟨m,hmK,hb⟩)) hzz with h1|⟨rfl,h1⟩
   · exact hoff b o (htk b o h1) hb
   ·
    rcases List.mem_cons.1 h1 with rfl|h1
    · exact ((hg.2.2.2.2.2.2.1 m hmK).2.2 _ _ hb).1 (.inl ⟨rfl,by decide⟩)
    · exact hoff _ _ (hpts _ h1 1 (by decide)) hb
  have hcn:g.cnt=(Gt.L (h0+1) ((g,X,K):Gt E (h0+1))).length:=hg.2.2.2.1
  have hle:(Gt.L h0 k).length≤(Gt.L (h0+1) ((g,X,K):Gt E (h0+1))).length:=kid_le (t:=Gt.nd g X K) hKl hkK
  have hdg:d≤g.cnt:=by omega
  have hpt:g.p≠Gt.p h t:=fun e=>(hdk _ _ (htk _ 0 (Gt.af_p (t:=t) (by decide)))).1 (.inl ⟨e.symm,by decide⟩)
  have hN':NodeM E H' { g with cnt:=g.cnt-d } X (.pointer (some ⟨g.cb,0,none⟩)):={
   c0:=hf.keep hN.c0 (hz _ _ (.inl (.inl ⟨rfl,by decide⟩)) (by omega))
   c1:=hc g.p List.mem_cons_self hpt _ hN.c1
   c2:=hf.keep hN.c2 (hz _ _ (.inl (.inl ⟨rfl,by decide⟩)) (by omega))
   c3:=hf.keep hN.c3 (hz _ _ (.inl (.inl ⟨rfl,by decide⟩)) (by omega))
   wr:=hf.wr hN.wr
   sl:=hN.sl.fr hf fun j h1 h2=>hz _ _ (.inl (.inr ⟨rfl,h1,h2⟩)) (fun e=>hN.ne e.1.symm)
   ic:=hN.ic
   ne:=hN.ne }
  have hKM:KidM H g (Gt.ps h0 K):=hg.2.1
  have hps:Gt.ps h0 (K.take i++[k']++K.drop (i+1))=Gt.ps h0 K:=by
   conv=>rhs;rw [hsp]
   simp [Gt.ps,pk']
  have hKM':KidM H' { g with cnt:=g.cnt-d } (Gt.ps h0 (K.take i++[k']++K.drop (i+1))):=by
   rw [hps]
   have:=hKM.fr hf fun b o hb=>hz b o (.inr hb) (fun e=>by
    rcases hb with hb|hb
    · exact hKM.n2 (e.1.symm.trans hb.1)
    · exact hKM.n3 (e.1.symm.trans hb.1))
   exact ⟨this.c,this.wr,this.sl,this.kc,this.n1,this.n2,this.n3,this.n4,this.n5⟩
  have hkids:Kids H P h0 g (K.take i++[k]++K.drop (i+1)):=by rw [←hsp];exact hg.kids
  have hkids':=hkids.one (g':={ g with cnt:=g.cnt-d }) hf hzk (fun b o hb=>hb) ⟨gk',hmn'⟩ (fun b o hb=>(ak' b o hb).1)
  have hLk:(K.map (Gt.L h0))[i]?=some (Gt.L h0 k):=by rw [List.getElem?_map,hk];rfl
  have hKL:(K.map (Gt.L h0)).length=X.length+1:=by rw [List.length_map];exact hKl
  have e1:Gt.L (h0+1) ((g,X,K):Gt E (h0+1))=Pl.pre (X.take i) ((K.map (Gt.L h0)).take i)++Gt.L h0 k++Pl.post (X.drop i) ((K.map (Gt.L h0)).drop (i+1)):=Pl.inter_self hKL hLk
  have e2:Pl.inter X ((K.take i++[k']++K.drop (i+1)).map (Gt.L h0))=Pl.pre (X.take i) ((K.map (Gt.L h0)).take i)++Gt.L h0 k'++Pl.post (X.drop i) ((K.map (Gt.L h0)).drop (i+1)):=by
   have:=Pl.inter_take (m:=Gt.L h0 k') hKL hLk
   rw [←this];simp
  have lL:(Gt.L (h0+1) ((g,X,K):Gt E (h0+1))).length=(Pl.inter X ((K.take i++[k']++K.drop (i+1)).map (Gt.L h0))).length+d:=by
   rw [e1,e2];simp only [List.length_append];omega
  have lK:(K.take i++[k']++K.drop (i+1)).length=X.length+1:=by simp only [List.length_append,List.length_take,List.length_drop,List.length_singleton];omega
  have lT:(K.take i).length=i:=by rw [List.length_take];omega
  have hdn:Dn (Gt.nd { g with cnt:=g.cnt-d } X (K.take i++[k']++K.drop (i+1))) ((Gt.p h0 k,i)::fs) t' (Pl.pre (X.take i) ((K.map (Gt.L h0)).take i)++A) (C++Pl.post (X.drop i) ((K.map (Gt.L h0)).drop (i+1))):=by
   have hk2:(K.take i++[k']++K.drop (i+1))[i]?=some k':=by
    rw [List.append_assoc,List.getElem?_append_right (by omega),lT,Nat.sub_self];rfl
   have:=Dn.cons (g:=({ g with cnt:=g.cnt-d }:Ng)) (X:=X) hk2 dn'
   rw [pk'] at this
   have q1:((K.take i++[k']++K.drop (i+1)).map (Gt.L h0)).take i=(K.map (Gt.L h0)).take i:=by
    rw [List.append_assoc,List.map_append,List.take_append_of_le_length (by rw [List.length_map];omega),List.take_of_length_le (by rw [List.length_map];omega),List.map_take]
   have q2:((K.take i++[k']++K.drop (i+1)).map (Gt.L h0)).drop (i+1)=(K.map (Gt.L h0)).drop (i+1):=by
    have:(K.take i++[k']).length=i+1:=by rw [List.length_append,lT];rfl
    have l3:((K.take i++[k']).map (Gt.L h0)).length=i+1:=by rw [List.length_map];exact this
    rw [List.map_append,←l3,List.drop_left,l3,List.map_drop]
   rw [q1,q2] at this
   exact this
  refine ⟨(({ g with cnt:=g.cnt-d }:Ng),X,K.take i++[k']++K.drop (i+1)),⟨hN',hKM',hg.2.2.1,?_,hg.2.2.2.2.1,lK,hkids'.1,hkids'.2⟩,hdn,rfl,fun b o hb=>?_,lL,fun _=>rfl,fun R R' hS ht hs=>⟨?_,?_⟩⟩
  ·
   show g.cnt-d=(Pl.inter X ((K.take i++[k']++K.drop (i+1)).map (Gt.L h0))).length
   omega
  ·
   have hoffm:∀m,m∈K.take i++K.drop (i+1)→Gt.af h0 m b o→¬Gt.af h t b o:=fun m hm h1 h2=>kid_off hg.inn hk b o (htk b o h2) (.inr (.inr ⟨m,hm,h1⟩))
   rcases hb with hb|hb|⟨m,hm,hb⟩
   · exact ⟨.inl hb,fun h2=>absurd hb (hdk b o (htk b o h2)).1⟩
   · exact ⟨.inr (.inl hb),fun h2=>absurd hb (hdk b o (htk b o h2)).2⟩
   ·
    simp only [List.mem_append,List.mem_singleton] at hm
    rcases hm with (hm|rfl)|hm
    · exact ⟨.inr (.inr ⟨m,List.mem_of_mem_take hm,hb⟩),fun h2=>absurd h2 (hoffm m (List.mem_append_left _ hm) hb)⟩
    · exact ⟨.inr (.inr ⟨k,hkK,(ak' b o hb).1⟩),(ak' b o hb).2⟩
    · exact ⟨.inr (.inr ⟨m,List.mem_of_mem_drop hm,hb⟩),fun h2=>absurd h2 (hoffm m (List.mem_append_right _ hm) hb)⟩
  ·
   intro j z m hz' hm'
   replace hz':X[j]?=some z:=hz'
   replace hm':((K.take i++[k']++K.drop (i+1)).map (Gt.L h0))[j+1]?=some m:=hm'
   rcases Nat.lt_or_ge j i with hj|hj
   · exact hS.lo z (List.mem_append_left _ (Pl.pre_item hKL hj (by omega) hz')) m
   ·
    have hm2:(K.map (Gt.L h0))[j+1]?=some m:=by
     rw [List.getElem?_map] at hm' ⊢
     rw [←hm',List.getElem?_append_right (by simp only [List.length_append,lT,List.length_singleton];omega),List.getElem?_drop]
     congr 2
     simp only [List.length_append,lT,List.length_singleton];omega
    have hr:R z m:=hs.1 j z m hz' hm2
    obtain ⟨a,c,e⟩:=Pl.post_piece (X:=X.drop i) (K:=(K.map (Gt.L h0)).drop (i+1)) (j:=j-i) (by rw [List.length_drop,List.length_drop,hKL];omega) (by rw [List.getElem?_drop,←hz'];congr 1;omega) (by rw [List.getElem?_drop,←hm2];congr 1;omega)
    exact hS.hi (C++a) z m c (by rw [e];simp) hr
  ·
   intro m hm
   replace hm:m∈K.take i++[k']++K.drop (i+1):=hm
   simp only [List.mem_append,List.mem_singleton] at hm
   rcases hm with (hm|rfl)|hm
   ·
    obtain ⟨j,hj⟩:=List.mem_iff_getElem?.1 hm
    have hji:j<i:=by have:=(List.getElem?_eq_some_iff.1 hj).1;omega
    rw [List.getElem?_take_of_lt hji] at hj
    have hmK:=List.mem_of_getElem? hj
    refine Gt.Seg.of_low (hg.2.2.2.2.2.2.1 m hmK).1 fun w hw l=>hS.lo w (List.mem_append_left _ (Pl.pre_kid hKL hji (by omega) (by rw [List.getElem?_map,hj];rfl) hw)) l
   · exact sk' R R' ⟨fun w hw l=>hS.lo w (List.mem_append_right _ hw) l,fun a w l c e=>hS.hi a w l (c++Pl.post (X.drop i) ((K.map (Gt.L h0)).drop (i+1))) (by rw [e];simp)⟩ ht (hs.2 k hkK)
   ·
    obtain ⟨j,hj⟩:=List.mem_iff_getElem?.1 hm
    rw [List.getElem?_drop] at hj
    have hmK:=List.mem_of_getElem? hj
    have hjl:=(List.getElem?_eq_some_iff.1 hj).1
    obtain ⟨z,hz'⟩:∃z,X[i+j]?=some z:=⟨X[i+j]'(by omega),List.getElem?_eq_getElem (by omega)⟩
    obtain ⟨a,c,e⟩:=Pl.post_piece (X:=X.drop i) (K:=(K.map (Gt.L h0)).drop (i+1)) (j:=j) (z:=z) (k:=Gt.L h0 m) (by rw [List.length_drop,List.length_drop,hKL];omega) (by rw [List.getElem?_drop];exact hz') (by rw [List.getElem?_drop,List.getElem?_map,hj];rfl)
    refine Gt.Seg.mono (hg.2.2.2.2.2.2.1 m hmK).1 (hs.2 m hmK) fun a2 w l c2 e2=>hS.hi (C++a++z::a2) w l (c2++c) ?_
    rw [e,e2];simp
section
variable {α:Type} (O:Pl.Swo α)
abbrev Pc (α:Type):=α×List α
def Pc.l (p:Pc α):List α:=p.1::p.2
def flat (Q:List (Pc α)):List α:=(Q.map Pc.l).flatten
def Bf (p q:Pc α):Prop:=∀w∈p.l,∀z∈q.l,O.lt w z=true
def Ap (z:α) (p:Pc α):Prop:=(∀w∈p.l,O.lt z w=true)∨∀w∈p.l,O.lt w z=true
def Qg (G:List α) (y:α) (l:List α):Prop:=∀w∈y::l,∀z∈y::l,∀g∈G,¬(O.lt w g=true∧O.lt g z=true)
theorem Qg.inf (G:List α):Inf (Qg O G):=fun y l a z b c h e w hw v hv g hg=>h w (by rw [e];simp at hw ⊢;rcases hw with rfl|hw;exact .inr (.inl rfl);exact .inr (.inr (.inl hw))) v (by rw [e];simp at hv ⊢;rcases hv with rfl|hv;exact .inr (.inl rfl);exact .inr (.inr (.inl hv))) g hg
def Ra (A G:List α) (w:α) (l:List α):Prop:=w∈A∨Qg O G w l
theorem Ra.add {A G p:List α} {w:α} {l:List α} (h:Ra O A G w l) (hp:w∈A∨(∀v∈w::l,∀g∈p,O.lt v g=true)∨(∀v∈w::l,∀g∈p,O.lt g v=true)):Ra O A (G++p) w l:=by
 rcases hp with hp|hp
 · exact .inl hp
 ·
  rcases h with h|h
  · exact .inl h
  ·
   refine .inr fun u hu v hv g hg hh=>?_
   rcases List.mem_append.1 hg with hg|hg
   · exact h u hu v hv g hg hh
   ·
    rcases hp with hp|hp
    · have:=O.asy (hp v hv g hg);rw [hh.2] at this;cases this
    · have:=O.asy (hp u hu g hg);rw [hh.1] at this;cases this
structure Dri (A R R0:List α) (Q:List (Pc α)) (stop:α→Bool):Prop where
 srt:Pl.Srt O (A++R)
 srt0:Pl.Srt O (A++R0)
 pm:(R++flat Q).Perm R0
 q:∀p∈Q,Pl.Srt O p.l
 ap:∀p∈Q,∀z∈A++R,Ap O z p
 pw:Q.Pairwise fun p p'=>Bf O p p'∨Bf O p' p
 ns:∀p∈Q,∀w∈p.l,stop w=false
theorem Dri.start {A R:List α} {stop:α→Bool} (h:Pl.Srt O (A++R)):Dri O A R R [] stop:=
 ⟨h,h,by simp [flat],fun _ h=>absurd h List.not_mem_nil,fun _ h=>absurd h List.not_mem_nil,List.Pairwise.nil,fun _ h=>absurd h List.not_mem_nil⟩
theorem Dri.cut {A R1 R2 R0:List α} {Q:List (Pc α)} {stop:α→Bool} {p:Pc α} (h:Dri O A (R1++p.l++R2) R0 Q stop) (hq:Qg O (flat Q) p.1 p.2) (hs:∀w∈p.l,stop w=false):Dri O A (R1++R2) R0 (Q++[p]) stop:=by
 obtain ⟨h1,h2,h3,h4,h5,h6,h7⟩:=h
 have e:A++(R1++p.l++R2)=(A++R1)++p.l++R2:=by simp
 have hsub:(A++(R1++R2)).Sublist (A++(R1++p.l++R2)):=by
  rw [List.append_assoc R1]
  exact List.Sublist.append_left (List.Sublist.append_left (List.sublist_append_right _ _) _) _
 have hsrt:=h1
 rw [e,Pl.Srt.append,Pl.Srt.append] at hsrt
 obtain ⟨⟨_,sp,s1⟩,_,s2⟩:=hsrt
 have hmem:∀w∈p.l,w∈A++(R1++p.l++R2):=fun w hw=>by simp [hw]
 refine ⟨h1.sublist hsub,h2,?_,fun q hq'=>?_,fun q hq' z hz=>?_,?_,fun q hq'=>?_⟩
 ·
  refine List.Perm.trans ?_ h3
  unfold flat
  rw [List.map_append,List.flatten_append]
  simp only [List.map_cons,List.map_nil,List.flatten_cons,List.flatten_nil,List.append_nil]
  have p1:(R1++R2++((Q.map Pc.l).flatten++p.l)).Perm (p.l++(R1++R2++(Q.map Pc.l).flatten)):=by
   rw [←List.append_assoc];exact List.perm_append_comm
  refine p1.trans ?_
  simp only [←List.append_assoc]
  refine List.Perm.append_right _ ?_
  exact List.Perm.append_right _ List.perm_append_comm
 ·
  rcases List.mem_append.1 hq' with hq'|hq'
  · exact h4 q hq'
  · rw [List.mem_singleton] at hq';subst hq';exact sp
 ·
  rcases List.mem_append.1 hq' with hq'|hq'
  · exact h5 q hq' z (hsub.subset hz)
  ·
   rw [List.mem_singleton] at hq';subst hq'
   have hz':z∈A++R1∨z∈R2:=by
    simp only [List.mem_append] at hz ⊢
    rcases hz with hz|hz|hz
    · exact .inl (.inl hz)
    · exact .inl (.inr hz)
    · exact .inr hz
   rcases hz' with hz'|hz'
   · exact .inl fun w hw=>s1 z hz' w hw
   · exact .inr fun w hw=>s2 w (List.mem_append_right _ hw) z hz'
 ·
  rw [List.pairwise_append]
  refine ⟨h6,List.pairwise_singleton _ _,fun q hq' r hr=>?_⟩
  rw [List.mem_singleton] at hr;subst hr
  have side:∀g∈q.l,(∀w∈r.l,O.lt g w=true)∨∀w∈r.l,O.lt w g=true:=fun g hg=>by
   have hap:∀w∈r.l,O.lt w g=true∨O.lt g w=true:=fun w hw=>by
    rcases h5 q hq' w (hmem w hw) with h|h
    · exact .inl (h g hg)
    · exact .inr (h g hg)
   have hgf:g∈flat Q:=by
    unfold flat
    exact List.mem_flatten.2 ⟨q.l,List.mem_map.2 ⟨q,hq',rfl⟩,hg⟩
   by_cases hx:∃w∈r.l,O.lt w g=true
   ·
    obtain ⟨w,hw,hwg⟩:=hx
    refine .inr fun v hv=>?_
    rcases hap v hv with h|h
    · exact h
    · exact absurd ⟨hwg,h⟩ (hq w hw v hv g hgf)
   · exact .inl fun w hw=>(hap w hw).elim (fun h=>absurd ⟨w,hw,h⟩ hx) id
  rcases h5 q hq' r.1 (hmem r.1 List.mem_cons_self) with h|h
  ·
   refine .inr fun w hw g hg=>?_
   rcases side g hg with h'|h'
   · have:=O.asy (h g hg);rw [h' r.1 List.mem_cons_self] at this;cases this
   · exact h' w hw
  ·
   refine .inl fun g hg w hw=>?_
   rcases side g hg with h'|h'
   · exact h' w hw
   · have:=O.asy (h g hg);rw [h' r.1 List.mem_cons_self] at this;cases this
 ·
  rcases List.mem_append.1 hq' with hq'|hq'
  · exact h7 q hq'
  · rw [List.mem_singleton] at hq';subst hq';exact hs
theorem Dri.perm {A R R0:List α} {Q Q':List (Pc α)} {stop:α→Bool} (h:Dri O A R R0 Q stop) (hp:Q'.Perm Q):Dri O A R R0 Q' stop:=
 ⟨h.srt,h.srt0,(List.Perm.append_left R (by unfold flat;exact (hp.map _).flatten)).trans h.pm,fun p hp'=>h.q p (hp.subset hp'),fun p hp'=>h.ap p (hp.subset hp'),hp.symm.pairwise h.pw fun hh=>hh.symm,fun p hp'=>h.ns p (hp.subset hp')⟩
def InO (Q:List (Pc α)):Prop:=Q.Pairwise fun p p'=>O.lt p'.1 p.1=false
theorem Bf.of_le {p p':Pc α} (h:Bf O p p'∨Bf O p' p) (hl:O.lt p'.1 p.1=false):Bf O p p':=by
 rcases h with h|h
 · exact h
 · rw [h p'.1 List.mem_cons_self p.1 List.mem_cons_self] at hl;cases hl
theorem flat_srt {Q:List (Pc α)} (h1:∀p∈Q,Pl.Srt O p.l) (h2:Q.Pairwise fun p p'=>Bf O p p'∨Bf O p' p) (h3:InO O Q):Pl.Srt O (flat Q):=by
 induction Q with
 | nil=>exact List.Pairwise.nil
 | cons p Q ih=>
  obtain ⟨a1,a2⟩:=List.pairwise_cons.1 h2
  obtain ⟨b1,b2⟩:=List.pairwise_cons.1 h3
  show Pl.Srt O (p.l++flat Q)
  rw [Pl.Srt.append]
  refine ⟨h1 p List.mem_cons_self,ih (fun q hq=>h1 q (List.mem_cons_of_mem _ hq)) a2 b2,fun w hw z hz=>?_⟩
  obtain ⟨m,hm,hz⟩:=List.mem_flatten.1 hz
  obtain ⟨q,hq,rfl⟩:=List.mem_map.1 hm
  exact Bf.of_le O (a1 q hq) (b1 q hq) w hw z hz
theorem srt_perm {l m:List α} (hl:Pl.Srt O l) (hm:Pl.Srt O m) (hp:l.Perm m):l=m:=by
 induction l generalizing m with
 | nil=>exact (List.nil_perm.1 hp).symm▸rfl
 | cons x l ih=>
  rcases m with _|⟨y,m⟩
  · exact absurd hp.length_eq (by simp)
  ·
   obtain ⟨a1,a2⟩:=(Pl.Srt.cons O).1 hl
   obtain ⟨b1,b2⟩:=(Pl.Srt.cons O).1 hm
   have hxy:x=y:=by
    have hx:x∈y::m:=hp.subset List.mem_cons_self
    have hy:y∈x::l:=hp.symm.subset List.mem_cons_self
    rcases List.mem_cons.1 hx with h|h
    · exact h
    ·
     rcases List.mem_cons.1 hy with h'|h'
     · exact h'.symm
     · have:=O.asy (a1 y h');rw [b1 x h] at this;cases this
   subst hxy
   rw [ih a2 b2 ((List.perm_cons x).1 hp)]
theorem Dri.fin {A R R0:List α} {Q:List (Pc α)} {stop:α→Bool} (h:Dri O A R R0 Q stop) (hr:∀r∈R,stop r=true) (hi:InO O Q):R=R0.filter stop∧flat Q=R0.filter fun x=>!stop x:=by
 have hns:∀x∈flat Q,stop x=false:=fun x hx=>by
  obtain ⟨m,hm,hx⟩:=List.mem_flatten.1 hx
  obtain ⟨q,hq,rfl⟩:=List.mem_map.1 hm
  exact h.ns q hq x hx
 have sR:Pl.Srt O R:=((Pl.Srt.append O).1 h.srt).2.1
 have sR0:Pl.Srt O R0:=((Pl.Srt.append O).1 h.srt0).2.1
 have p1:=h.pm.filter stop
 have p2:=h.pm.filter fun x=>!stop x
 rw [List.filter_append,List.filter_eq_self.2 hr,List.filter_eq_nil_iff.2 (fun x hx=>by rw [hns x hx];decide),List.append_nil] at p1
 rw [List.filter_append,List.filter_eq_nil_iff.2 (fun x hx=>by rw [hr x hx];decide),List.filter_eq_self.2 (fun x hx=>by rw [hns x hx];rfl),List.nil_append] at p2
 exact ⟨srt_perm O sR (sR0.sublist List.filter_sublist) p1,srt_perm O (flat_srt O h.q h.pw hi) (sR0.sublist List.filter_sublist) p2⟩
theorem Dri.left {A R R0:List α} {Q:List (Pc α)} {stop:α→Bool} (h:Dri O A R R0 Q stop) (hr:∀r∈R,stop r=true):R=R0.filter stop∧(flat Q).Perm (R0.filter fun x=>!stop x):=by
 have hns:∀x∈flat Q,stop x=false:=fun x hx=>by
  obtain ⟨m,hm,hx⟩:=List.mem_flatten.1 hx
  obtain ⟨q,hq,rfl⟩:=List.mem_map.1 hm
  exact h.ns q hq x hx
 have sR:Pl.Srt O R:=((Pl.Srt.append O).1 h.srt).2.1
 have sR0:Pl.Srt O R0:=((Pl.Srt.append O).1 h.srt0).2.1
 have p1:=h.pm.filter stop
 have p2:=h.pm.filter fun x=>!stop x
 rw [List.filter_append,List.filter_eq_self.2 hr,List.filter_eq_nil_iff.2 (fun x hx=>by rw [hns x hx];decide),List.append_nil] at p1
 rw [List.filter_append,List.filter_eq_nil_iff.2 (fun x hx=>by rw [hr x hx];decide),List.filter_eq_self.2 (fun x hx=>by rw [hns x hx];rfl),List.nil_append] at p2
 exact ⟨srt_perm O sR (sR0.sublist List.filter_sublist) p1,p2⟩
end
end Go.Bt
