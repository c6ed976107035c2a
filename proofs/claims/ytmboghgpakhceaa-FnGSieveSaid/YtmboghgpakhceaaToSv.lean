/- The way down one side of a tree: counts that change on it, a leaf that changes at its end. Conditions: none. -/
import Derived.Test.YtmboghgpakhceaaToRn
import Derived.Test.YtmboghgpakhceaaToCb
import Derived.Test.YtmboghgpakhceaaToRb
import Derived.Test.YtmboghgpakhceaaToKi
set_option linter.unusedVariables false
namespace Go.Bt
open Go
variable {α:Type} {E:Elt α}
def cix (d:Bool) (n:Nat):Nat:=bif d then n-1 else 0
theorem cix_lt {d:Bool} {n:Nat} (h:0<n):cix d n<n:=by cases d<;>simp [cix]<;>omega
def Gt.sp (d:Bool):(h:Nat)→Gt E h→Nat→Prop
 | 0,t,q=>q=t.1.p
 | h+1,t,q=>q=t.1.p∨∃k,t.2.2[cix d t.2.2.length]?=some k∧Gt.sp d h k q
def Gt.lf (d:Bool):(h:Nat)→Gt E h→Ng×List α
 | 0,t=>t
 | h+1,t=>match t.2.2[cix d t.2.2.length]? with
  | some k=>Gt.lf d h k
  | none=>(t.1,[])
def Gt.ed (d:Bool) (δ:Nat→Nat) (g':Ng) (X':List α):(h:Nat)→Gt E h→Gt E h
 | 0,_=>(g',X')
 | h+1,t=>({ t.1 with cnt:=δ t.1.cnt },t.2.1,t.2.2.take (cix d t.2.2.length)++(t.2.2[cix d t.2.2.length]?.map (Gt.ed d δ g' X' h)).toList++t.2.2.drop (cix d t.2.2.length+1))
def glue (d:Bool) (X R:List α):List α:=bif d then R++X else X++R
theorem Gt.sp_p (d:Bool):∀{h:Nat} {t:Gt E h},Gt.sp d h t (Gt.p h t)
 | 0,_=>rfl
 | _+1,_=>.inl rfl
theorem Gt.sp_af {d:Bool}:∀{h:Nat} {t:Gt E h} {q:Nat},Gt.sp d h t q→∀o,o<4→Gt.af h t q o
 | 0,t,q,hq,o,ho=>.inl ⟨hq,ho⟩
 | h+1,t,q,hq,o,ho=>by
  rcases hq with rfl|⟨k,hk,hq⟩
  · exact .inl (.inl ⟨rfl,ho⟩)
  · exact .inr (.inr ⟨k,List.mem_of_getElem? hk,Gt.sp_af hq o ho⟩)
theorem Gt.lf_af {d:Bool} {H:Mem} {P:Ps}:∀{h:Nat} {t:Gt E h},Gt.Good H P h t→∀b o,ncl E (Gt.lf d h t).1 b o→Gt.af h t b o
 | 0,t,_,b,o,hb=>hb
 | h+1,t,hg,b,o,hb=>by
  unfold Gt.lf at hb
  cases hk:t.2.2[cix d t.2.2.length]? with
  | none=>rw [hk] at hb;exact .inl hb
  | some k=>
   rw [hk] at hb
   exact .inr (.inr ⟨k,List.mem_of_getElem? hk,Gt.lf_af (hg.2.2.2.2.2.2.1 k (List.mem_of_getElem? hk)).1 b o hb⟩)
theorem Gt.Good.spcn {d:Bool} {H:Mem} {P:Ps}:∀{h:Nat} {t:Gt E h},Gt.Good H P h t→∀{q:Nat},Gt.sp d h t q→cl H q 1=some (.int .i64 (Bt.cnOf H q:Int))
 | 0,t,hg,q,hq=>by subst hq;exact (hg.cnOf).1
 | h+1,t,hg,q,hq=>by
  rcases hq with rfl|⟨k,hk,hq⟩
  · exact (hg.cnOf).1
  · exact Gt.Good.spcn (hg.2.2.2.2.2.2.1 k (List.mem_of_getElem? hk)).1 hq
theorem NodeM.eqv {H H':Mem} {g:Ng} {X:List α} {kp:Value} {Z:Rg} (hn:NodeM E H g X kp) (hf:Fr Z H H') (he:∀b o,ncl E g b o→cl H' b o=cl H b o):NodeM E H' g X kp where
 c0:=(he _ _ (.inl ⟨rfl,by omega⟩)).trans hn.c0
 c1:=(he _ _ (.inl ⟨rfl,by omega⟩)).trans hn.c1
 c2:=(he _ _ (.inl ⟨rfl,by omega⟩)).trans hn.c2
 c3:=(he _ _ (.inl ⟨rfl,by omega⟩)).trans hn.c3
 wr:=hf.wr hn.wr
 sl:=⟨hn.sl.hlen,hn.sl.hle,fun i v hv=>by
  have hi:=(List.getElem?_eq_some_iff.1 hv).1
  rw [hn.sl.hlen] at hi
  have h3:=Nat.mul_le_mul_right E.s hn.sl.hle
  exact (he _ _ (.inr ⟨rfl,by omega,by omega⟩)).trans (hn.sl.rd i v hv),hf.wr hn.sl.wr⟩
 ic:=hn.ic
 ne:=hn.ne
theorem KidM.eqv {H H':Mem} {g:Ng} {ks:List Nat} {Z:Rg} (hk:KidM H g ks) (hf:Fr Z H H') (he:∀b o,kcl g b o→cl H' b o=cl H b o):KidM H' g ks where
 c:=(he _ _ (.inl ⟨rfl,by omega⟩)).trans hk.c
 wr:=hf.wr hk.wr
 sl:=⟨hk.sl.hlen,hk.sl.hle,fun i v hv=>by
  have hi:=(List.getElem?_eq_some_iff.1 hv).1
  rw [hk.sl.hlen] at hi
  have h3:=hk.sl.hle
  rw [show EP.s=1 from rfl] at hi
  exact (he _ _ (.inr ⟨rfl,by omega,by omega⟩)).trans (hk.sl.rd i v hv),hf.wr hk.sl.wr⟩
 kc:=hk.kc
 n1:=hk.n1
 n2:=hk.n2
 n3:=hk.n3
 n4:=hk.n4
 n5:=hk.n5
theorem Gt.Good.eqv {P:Ps} {Z:Rg} {H H':Mem} (hf:Fr Z H H'):∀{h:Nat} {t:Gt E h},Gt.Good H P h t→(∀b o,Gt.af h t b o→cl H' b o=cl H b o)→Gt.Good H' P h t
 | 0,_,⟨h1,h2⟩,he=>⟨h1.eqv hf he,h2⟩
 | h+1,_,⟨h1,h2,h3,h4,h5,h6,h7,h8⟩,he=>
  ⟨h1.eqv hf fun b o hb=>he b o (.inl hb),h2.eqv hf fun b o hb=>he b o (.inr (.inl hb)),h3,h4,h5,h6,
   fun k hk=>⟨Gt.Good.eqv hf (h7 k hk).1 fun b o hb=>he b o (.inr (.inr ⟨k,hk,hb⟩)),(h7 k hk).2⟩,h8⟩
structure Spn (H0 H:Mem) (P:Ps) (d:Bool) (δ:Nat→Nat) (h0:Nat) (t0:Gt E h0) (D:Nat→Prop) (h:Nat) (t:Gt E h):Prop where
 g:Gt.Good H0 P h t
 fr:Fr (fun b o=>o=1∧D b) H0 H
 val:∀q,D q→cl H q 1=some (.int .i64 (δ (Bt.cnOf H0 q):Int))
 off:∀q,D q→¬Gt.af h t q 1
 all:∀q,Gt.sp d h0 t0 q↔D q∨Gt.sp d h t q
 lf:Gt.lf d h t=Gt.lf d h0 t0
 sub:∀b o,Gt.af h t b o→Gt.af h0 t0 b o
 x1:1≤(Gt.X h t).length
 le:(Gt.L h t).length≤(Gt.L h0 t0).length
 mn:h<h0→P.mn≤(Gt.X h t).length
theorem kid_le {h:Nat} {t:Gt E (h+1)} (hl:t.2.2.length=t.2.1.length+1) {k:Gt E h} (hk:k∈t.2.2):(Gt.L h k).length≤(Gt.L (h+1) t).length:=by
 have h1:(Gt.L (h+1) t).length=_:=Pl.inter_length t.2.1 (t.2.2.map (Gt.L h)) (by rw [List.length_map];exact hl)
 have h2:(Gt.L h k).length≤((t.2.2.map (Gt.L h)).map List.length).sum:=sum_mem List.length (List.mem_map.2 ⟨k,hk,rfl⟩)
 omega
theorem Spn.start {H:Mem} {P:Ps} {d:Bool} {δ:Nat→Nat} {h:Nat} {t:Gt E h} (hg:Gt.Good H P h t) (hx:1≤(Gt.X h t).length):Spn H H P d δ h t (fun _=>False) h t:=
 ⟨hg,Fr.refl _ _,fun _ h=>h.elim,fun _ h=>h.elim,fun q=>⟨.inr,fun h=>h.elim (fun h=>h.elim) id⟩,rfl,fun _ _ h=>h,hx,Nat.le_refl _,fun h=>absurd h (Nat.lt_irrefl _)⟩
section
variable {H0 H H':Mem} {P:Ps} {d:Bool} {δ:Nat→Nat} {h0 h:Nat} {t0:Gt E h0} {D:Nat→Prop}
theorem Spn.now {t:Gt E h} (s:Spn H0 H P d δ h0 t0 D h t):Gt.Good H P h t:=s.g.fr s.fr fun b o hb hz=>s.off b hz.2 (hz.1▸hb)
theorem Spn.cnt {t:Gt E h} (s:Spn H0 H P d δ h0 t0 D h t):cl H (Gt.p h t) 1=some (.int .i64 (Bt.cnOf H0 (Gt.p h t):Int)):=
 s.fr.keep (s.g.cnOf).1 fun hz=>s.off _ hz.2 (Gt.af_p (by omega))
theorem Spn.step {t:Gt E (h+1)} {k:Gt E h} (h1:1≤P.mn) (s:Spn H0 H P d δ h0 t0 D (h+1) t) (hk:t.2.2[cix d t.2.2.length]?=some k) (W:Wrote H H' t.1.p 1 [.int .i64 (δ (Bt.cnOf H0 t.1.p):Int)]):
  Spn H0 H' P d δ h0 t0 (fun q=>D q∨q=t.1.p) h k:=by
 obtain ⟨q1,q2,q3⟩:=s.g.2.2.2.2.2.2.1 k (List.mem_of_getElem? hk)
 have hD:∀q,D q→q≠t.1.p:=fun q hq e=>s.off q hq (by rw [e];exact Gt.af_p (t:=t) (by omega))
 refine ⟨q1,s.fr.trans' W.fr (fun b o _ hz=>⟨hz.1,.inl hz.2⟩) (fun b o _ hz=>?_),fun q hq=>?_,fun q hq hb=>?_,fun q=>?_,?_,fun b o hb=>s.sub b o (.inr (.inr ⟨k,List.mem_of_getElem? hk,hb⟩)),Nat.le_trans h1 q2,Nat.le_trans (kid_le s.g.2.2.2.2.2.1 (List.mem_of_getElem? hk)) s.le,fun _=>q2⟩
 ·
  have h1:=hz.1;have h2:=hz.2.1;have h3:=hz.2.2
  simp only [List.length_cons,List.length_nil] at h3
  exact ⟨by omega,.inr h1⟩
 ·
  rcases hq with hq|rfl
  · exact W.fr.keep (s.val q hq) (nr (.inl (hD q hq)))
  · exact W.at
 ·
  rcases hq with hq|rfl
  · exact s.off q hq (.inr (.inr ⟨k,List.mem_of_getElem? hk,hb⟩))
  · exact (q3 _ _ hb).1 (.inl ⟨rfl,by omega⟩)
 ·
  rw [s.all q]
  constructor
  ·
   rintro (hq|hq)
   · exact .inl (.inl hq)
   ·
    rcases hq with rfl|⟨k',hk',hq⟩
    · exact .inl (.inr rfl)
    · rw [hk] at hk';cases hk';exact .inr hq
  ·
   rintro ((hq|rfl)|hq)
   · exact .inl hq
   · exact .inr (.inl rfl)
   · exact .inr (.inr ⟨k,hk,hq⟩)
 ·
  rw [←s.lf]
  show _=(match t.2.2[cix d t.2.2.length]? with
   | some k=>Gt.lf d h k
   | none=>(t.1,[]))
  rw [hk]
end
theorem glue_len (d:Bool) (X R:List α):(glue d X R).length=X.length+R.length:=by cases d<;>simp [glue]<;>omega
theorem glue_up {d:Bool} {X:List α} {K:List (List α)} {k k' A A' R:List α} (hl:K.length=X.length+1) (hk:K[cix d K.length]?=some k) (e:k=glue d A R) (e':k'=glue d A' R):
  ∃R',Pl.inter X K=glue d A R'∧Pl.inter X (K.take (cix d K.length)++[k']++K.drop (cix d K.length+1))=glue d A' R':=by
 rw [Pl.inter_self hl hk,Pl.inter_take hl hk]
 cases d with
 | true=>
  have hc:cix true K.length=X.length:=by simp [cix];omega
  rw [hc,e,e']
  refine ⟨Pl.pre (X.take X.length) (K.take X.length)++R,?_,?_⟩<;>simp [glue,List.drop_of_length_le,Pl.post]
 | false=>
  have hc:cix false K.length=0:=rfl
  rw [hc,e,e']
  refine ⟨R++Pl.post X (K.drop 1),?_,?_⟩<;>simp [glue,Pl.pre]
theorem Gt.Good.edit {H H':Mem} {P:Ps} {d:Bool} {δ:Nat→Nat} {g':Ng} {X':List α} {Z:Rg} (hf:Fr Z H H') (hn:NodeM E H' g' X' (.pointer none)) (e2:g'.iso=P.iso) (e3:g'.cnt=X'.length) (hm:X'.length≤P.mx):
  ∀{h:Nat} {t:Gt E h},Gt.Good H P h t→(∀b o,Gt.af h t b o→Z b o→(o=1∧Gt.sp d h t b)∨ncl E (Gt.lf d h t).1 b o)→(∀q,Gt.sp d h t q→q≠(Gt.lf d h t).1.p→cl H' q 1=some (.int .i64 (δ (Bt.cnOf H q):Int)))→
  g'.p=(Gt.lf d h t).1.p→(1≤h→P.mn≤X'.length)→Gro H (ncl E (Gt.lf d h t).1) (ncl E g')→(∀n,(Gt.lf d h t).2.length≤n→δ n+(Gt.lf d h t).2.length=n+X'.length)→
  Gt.Good H' P h (Gt.ed d δ g' X' h t)∧Gt.p h (Gt.ed d δ g' X' h t)=Gt.p h t∧Gro H (Gt.af h t) (Gt.af h (Gt.ed d δ g' X' h t))∧(∃R,Gt.L h t=glue d (Gt.lf d h t).2 R∧Gt.L h (Gt.ed d δ g' X' h t)=glue d X' R)∧
   (0<h→Gt.X h (Gt.ed d δ g' X' h t)=Gt.X h t)∧(h=0→Gt.X h (Gt.ed d δ g' X' h t)=X')
 | 0,(g,X),hg,hz,hv,e1,hmn,hgro,hδ=>⟨⟨hn,e2,e3,hm⟩,e1,hgro,⟨[],by cases d<;>simp [glue]<;>rfl,by cases d<;>simp [glue]<;>rfl⟩,fun h=>absurd h (by omega),fun _=>rfl⟩
 | h+1,(g,X,K),hg,hz,hv,e1,hmn,hgro,hδ=>by
  obtain ⟨hN,hK,hiso,hcnt,hxm,hKl,hkids,hpw⟩:=hg
  replace hKl:K.length=X.length+1:=hKl
  obtain ⟨k,hk⟩:∃k,K[cix d K.length]?=some k:=⟨K[cix d K.length]'(cix_lt (by omega)),List.getElem?_eq_getElem (cix_lt (by omega))⟩
  have hkK:=List.mem_of_getElem? hk
  obtain ⟨q1,q2,q3⟩:=hkids k hkK
  replace hN:NodeM E H g X (.pointer (some ⟨g.cb,0,none⟩)):=hN
  replace q3:∀b o,Gt.af h k b o→¬ncl E g b o∧¬kcl g b o:=q3
  have elf:Gt.lf d (h+1) ((g,X,K):Gt E (h+1))=Gt.lf d h k:=by
   show (match K[cix d K.length]? with
    | some k=>Gt.lf d h k
    | none=>(g,[]))=_
   rw [hk]
  have eed:Gt.ed d δ g' X' (h+1) ((g,X,K):Gt E (h+1))=({ g with cnt:=δ g.cnt },X,K.take (cix d K.length)++[Gt.ed d δ g' X' h k]++K.drop (cix d K.length+1)):=by
   show ({ g with cnt:=δ g.cnt },X,K.take (cix d K.length)++(K[cix d K.length]?.map (Gt.ed d δ g' X' h)).toList++K.drop (cix d K.length+1))=_
   rw [hk];rfl
  rw [elf] at hz hv e1 hgro hδ
  have hlfk:=Gt.lf_af (d:=d) q1
  have spk:∀b,Gt.sp d h k b→Gt.sp d (h+1) ((g,X,K):Gt E (h+1)) b:=fun b hb=>.inr ⟨k,hk,hb⟩
  have spi:∀b,Gt.sp d (h+1) ((g,X,K):Gt E (h+1)) b→b=g.p∨Gt.sp d h k b:=fun b hb=>by
   rcases hb with hb|⟨k',hk',hb⟩
   · exact .inl hb
   ·
    have hk'':K[cix d K.length]?=some k':=hk'
    rw [hk] at hk'';cases hk'';exact .inr hb
  have hpk:∀o,¬Gt.af h k g.p o∨4≤o:=fun o=>by
   rcases Nat.lt_or_ge o 4 with ho|ho
   · exact .inl fun hb=>(q3 _ _ hb).1 (.inl ⟨rfl,ho⟩)
   · exact .inr ho
  have hlp:g.p≠(Gt.lf d h k).1.p:=fun e=>by
   have:=hlfk g.p 1 (.inl ⟨e,by omega⟩)
   exact (hpk 1).elim (fun h=>h this) (fun h=>by omega)
  obtain ⟨r1,r2,r3,⟨R,r4,r5⟩,r6,r7⟩:=Gt.Good.edit hf hn e2 e3 hm q1 (fun b o hb hzz=>by
    rcases hz b o (.inr (.inr ⟨k,hkK,hb⟩)) hzz with ⟨ho,hs⟩|hl
    ·
     rcases spi b hs with rfl|hs
     · subst ho;exact ((hpk 1).elim (fun h=>h hb) (fun h=>by omega)).elim
     · exact .inl ⟨ho,hs⟩
    · exact .inr hl) (fun q hq=>hv q (spk q hq)) e1 (fun _=>hmn (by omega)) hgro hδ
  rw [eed]
  have own:∀b o,(ncl E g b o∨kcl g b o)→¬(b=g.p∧o=1)→¬Z b o:=fun b o hb hne hzz=>by
   have hoff:¬Gt.af h k b o:=fun ha=>hb.elim (q3 b o ha).1 (q3 b o ha).2
   rcases hz b o (hb.elim .inl (fun h=>.inr (.inl h))) hzz with ⟨ho,hs⟩|hl
   ·
    rcases spi b hs with rfl|hs
    · exact hne ⟨rfl,ho⟩
    · exact hoff (Gt.sp_af hs o (by omega))
   · exact hoff (hlfk b o hl)
  have hv0:cl H' g.p 1=some (.int .i64 (δ g.cnt:Int)):=by
   have:=hv g.p (.inl rfl) hlp
   have e9:Bt.cnOf H g.p=g.cnt:=by
    unfold Bt.cnOf
    rw [hN.c1];exact Int.toNat_natCast _
   rw [e9] at this;exact this
  have hLk:(K.map (Gt.L h))[cix d (K.map (Gt.L h)).length]?=some (Gt.L h k):=by rw [List.length_map,List.getElem?_map,hk];rfl
  have hglue:=glue_up (X:=X) (K:=K.map (Gt.L h)) (by rw [List.length_map];exact hKl) hLk r4 r5
  rw [List.length_map] at hglue
  obtain ⟨R',g1,g2⟩:=hglue
  have hL2:Pl.inter X ((K.take (cix d K.length)++[Gt.ed d δ g' X' h k]++K.drop (cix d K.length+1)).map (Gt.L h))=glue d X' R':=by
   rw [List.map_append,List.map_append,List.map_take,List.map_drop];exact g2
  have hps:Gt.ps h (K.take (cix d K.length)++[Gt.ed d δ g' X' h k]++K.drop (cix d K.length+1))=Gt.ps h K:=by
   conv=>rhs;rw [kid_split hk]
   simp [Gt.ps,r2]
  have hspl:=kid_split hk
  have hcc:δ g.cnt=(glue d X' R').length:=by
   have h1:g.cnt=(Pl.inter X (K.map (Gt.L h))).length:=hcnt
   rw [g1,glue_len] at h1
   have h2:=hδ g.cnt (by omega)
   rw [glue_len]
   omega
  have stay:∀m∈K,(∀b o,Gt.af h m b o→¬Gt.af h k b o)→Gt.Good H' P h m:=fun m hm hoff=>(hkids m hm).1.fr hf fun b o hb hzz=>by
   rcases hz b o (.inr (.inr ⟨m,hm,hb⟩)) hzz with ⟨ho,hs⟩|hl
   ·
    rcases spi b hs with rfl|hs
    · exact ((hkids m hm).2.2 _ _ hb).1 (.inl ⟨rfl,by omega⟩)
    · exact hoff b o hb (Gt.sp_af hs o (by omega))
   · exact hoff b o hb (hlfk b o hl)
  have hpw2:=hpw
  replace hpw2:K.Pairwise fun k k'=>∀b o,Gt.af h k b o→¬Gt.af h k' b o:=hpw2
  rw [hspl,List.append_assoc,List.pairwise_append,List.singleton_append,List.pairwise_cons] at hpw2
  obtain ⟨p1,⟨p2,p3⟩,p4⟩:=hpw2
  have oT:∀m∈K.take (cix d K.length),∀b o,Gt.af h m b o→¬Gt.af h k b o:=fun m hm b o hb=>p4 m hm k List.mem_cons_self b o hb
  have oD:∀m∈K.drop (cix d K.length+1),∀b o,Gt.af h m b o→¬Gt.af h k b o:=fun m hm b o hb hbk=>p2 m hm b o hbk hb
  have fresh:∀m∈K,(∀b o,Gt.af h m b o→¬Gt.af h k b o)→∀b o,Gt.af h m b o→¬Gt.af h (Gt.ed d δ g' X' h k) b o:=fun m hm hoff b o hb hbk=>by
   rcases r3 b o hbk with h9|h9
   · exact hoff b o hb h9
   · have:=(hkids m hm).1.lt hb;omega
  have hlt:∀b o,ncl E g b o∨kcl g b o→b<H.size:=fun b o hb=>hb.elim (fun h=>NodeM.lt hN h) (fun h=>hK.lt h)
  refine ⟨⟨⟨hf.keep hN.c0 (own _ _ (.inl (.inl ⟨rfl,by omega⟩)) (by omega)),hv0,hf.keep hN.c2 (own _ _ (.inl (.inl ⟨rfl,by omega⟩)) (by omega)),hf.keep hN.c3 (own _ _ (.inl (.inl ⟨rfl,by omega⟩)) (by omega)),hf.wr hN.wr,
    hN.sl.fr hf (fun i h1 h2=>own _ _ (.inl (.inr ⟨rfl,h1,h2⟩)) (fun e=>hN.ne e.1.symm)),hN.ic,hN.ne⟩,?_,hiso,?_,hxm,?_,fun m hm=>?_,?_⟩,rfl,fun b o hb=>?_,⟨R',by rw [elf];exact g1,hL2⟩,fun _=>rfl,fun h=>by omega⟩
  ·
   show KidM H' { g with cnt:=δ g.cnt } (Gt.ps h _)
   rw [hps]
   have hk2:=hK.fr hf (fun b o hb=>own b o (.inr hb) (fun e=>by
    rcases hb with ⟨h1,h2⟩|⟨h1,h2,h3⟩
    · exact hK.n2 (e.1.symm.trans h1)
    · exact hK.n3 (e.1.symm.trans h1)))
   exact ⟨hk2.c,hk2.wr,hk2.sl,hk2.kc,hk2.n1,hk2.n2,hk2.n3,hk2.n4,hk2.n5⟩
  ·
   show δ g.cnt=(Pl.inter X _).length
   rw [hL2];exact hcc
  ·
   show (K.take (cix d K.length)++[Gt.ed d δ g' X' h k]++K.drop (cix d K.length+1)).length=X.length+1
   have:=cix_lt (d:=d) (n:=K.length) (by omega)
   simp only [List.length_append,List.length_take,List.length_drop,List.length_cons,List.length_nil];omega
  ·
   simp only [List.mem_append,List.mem_singleton] at hm
   rcases hm with (hm|rfl)|hm
   ·
    have hmK:=List.mem_of_mem_take hm
    exact ⟨stay m hmK (oT m hm),(hkids m hmK).2.1,(hkids m hmK).2.2⟩
   ·
    refine ⟨r1,?_,fun b o hb=>?_⟩
    ·
     rcases Nat.eq_zero_or_pos h with h0|h0
     · rw [r7 h0];exact hmn (by omega)
     · rw [r6 h0];exact q2
    ·
     rcases r3 b o hb with h9|h9
     · exact q3 b o h9
     · exact ⟨fun hc=>by have:=hlt b o (.inl hc);omega,fun hc=>by have:=hlt b o (.inr hc);omega⟩
   ·
    have hmK:=List.mem_of_mem_drop hm
    exact ⟨stay m hmK (oD m hm),(hkids m hmK).2.1,(hkids m hmK).2.2⟩
  ·
   show (K.take (cix d K.length)++[Gt.ed d δ g' X' h k]++K.drop (cix d K.length+1)).Pairwise _
   rw [List.append_assoc,List.pairwise_append,List.singleton_append,List.pairwise_cons]
   refine ⟨p1,⟨fun m hm b o hb hbm=>fresh m (List.mem_of_mem_drop hm) (oD m hm) b o hbm hb,p3⟩,fun m hm m' hm' b o hb hbm=>?_⟩
   rcases List.mem_cons.1 hm' with rfl|hm'
   · exact fresh m (List.mem_of_mem_take hm) (oT m hm) b o hb hbm
   · exact p4 m hm m' (List.mem_cons_of_mem _ hm') b o hb hbm
  ·
   rcases hb with hb|hb|⟨m,hm,hb⟩
   · exact .inl (.inl hb)
   · exact .inl (.inr (.inl hb))
   ·
    simp only [List.mem_append,List.mem_singleton] at hm
    rcases hm with (hm|rfl)|hm
    · exact .inl (.inr (.inr ⟨m,List.mem_of_mem_take hm,hb⟩))
    · exact (r3 b o hb).imp (fun h=>.inr (.inr ⟨k,hkK,h⟩)) id
    · exact .inl (.inr (.inr ⟨m,List.mem_of_mem_drop hm,hb⟩))
variable {α:Type} {E:Elt α}
theorem Gt.Good.own {H:Mem} {P:Ps} {d:Bool} {h:Nat} {t:Gt E (h+1)} (hg:Gt.Good H P (h+1) t) {b o:Nat} (hb:ncl E t.1 b o∨kcl t.1 b o) (hne:¬(b=t.1.p∧o=1)):¬(o=1∧Gt.sp d (h+1) t b):=by
 rintro ⟨ho,hs⟩
 rcases hs with rfl|⟨k,hk,hs⟩
 · exact hne ⟨rfl,ho⟩
 ·
  have h1:=(hg.2.2.2.2.2.2.1 k (List.mem_of_getElem? hk)).2.2 b o (Gt.sp_af hs o (by omega))
  exact hb.elim h1.1 h1.2
structure Sp2 (H0 H:Mem) (P:Ps) (d:Bool) (δ:Nat→Nat) (h0:Nat) (t0:Gt E h0) (bx:Nat) (D:Nat→Prop) (h:Nat) (t:Gt E h):Prop where
 g:Gt.Good H0 P h t
 fr:Fr (fun b o=>(o=1∧Gt.sp d h0 t0 b)∨b=bx) H0 H
 nb:∀o,¬Gt.af h0 t0 bx o
 val:∀q,D q→cl H q 1=some (.int .i64 (Bt.cnOf H0 q:Int))
 val2:∀q,Gt.sp d h t q→cl H q 1=some (.int .i64 (δ (Bt.cnOf H0 q):Int))
 off:∀q,D q→¬Gt.af h t q 1
 all:∀q,Gt.sp d h0 t0 q↔D q∨Gt.sp d h t q
 sub:∀b o,Gt.af h t b o→Gt.af h0 t0 b o
 le:(Gt.L h t).length≤(Gt.L h0 t0).length
 x1:1≤(Gt.X h t).length
section
variable {H0 H H':Mem} {P:Ps} {d:Bool} {δ:Nat→Nat} {h0 h bx:Nat} {t0:Gt E h0} {D:Nat→Prop}
theorem Sp2.keep {t:Gt E (h+1)} (s:Sp2 H0 H P d δ h0 t0 bx D (h+1) t) {b o:Nat} {v:Value} (hb:ncl E t.1 b o∨kcl t.1 b o) (hne:¬(b=t.1.p∧o=1)) (hv:cl H0 b o=some v):cl H b o=some v:=by
 have haf:Gt.af (h+1) t b o:=hb.elim .inl (fun h=>.inr (.inl h))
 refine s.fr.keep hv fun hz=>?_
 rcases hz with ⟨ho,hs⟩|rfl
 ·
  rcases (s.all b).1 hs with hD|hs
  · exact s.off b hD (ho▸haf)
  · exact s.g.own hb hne ⟨ho,hs⟩
 · exact s.nb o (s.sub _ _ haf)
theorem Sp2.inner {t:Gt E (h+1)} (s:Sp2 H0 H P d δ h0 t0 bx D (h+1) t) {k:Gt E h} (hk:t.2.2[cix d t.2.2.length]?=some k):
  cl H t.1.p 3=some (.pointer (some ⟨t.1.cb,0,none⟩))∧cl H t.1.cb 0=some (.slice (some ⟨t.1.kb,t.1.ko,none⟩) t.2.2.length t.1.kc)∧cl H t.1.kb (t.1.ko+cix d t.2.2.length*1)=some (ptr (Gt.p h k)):=by
 have hK:=s.g.2.1
 have hi:=(List.getElem?_eq_some_iff.1 hk).1
 have hc:=hK.c
 rw [Gt.ps,List.length_map] at hc
 have hle:=hK.sl.hle
 rw [List.length_map,Gt.ps,List.length_map] at hle
 refine ⟨s.keep (.inl (.inl ⟨rfl,by omega⟩)) (by omega) s.g.1.c3,s.keep (.inr (.inl ⟨rfl,by omega⟩)) (by omega) hc,s.keep (.inr (.inr ⟨rfl,by omega,by omega⟩)) (fun e=>hK.n3 e.1.symm) ?_⟩
 exact hK.o.at (by rw [Gt.ps,List.map_map,List.getElem?_map,hk];rfl)
theorem Sp2.start {t:Gt E h} (hg:Gt.Good H0 P h t) (hf:Fr (fun b o=>(o=1∧Gt.sp d h t b)∨b=bx) H0 H) (hn:∀o,¬Gt.af h t bx o) (hv:∀q,Gt.sp d h t q→cl H q 1=some (.int .i64 (δ (Bt.cnOf H0 q):Int))) (hx:1≤(Gt.X h t).length):
  Sp2 H0 H P d δ h t bx (fun _=>False) h t:=
 ⟨hg,hf,hn,fun _ h=>h.elim,hv,fun _ h=>h.elim,fun q=>⟨.inr,fun h=>h.elim (fun h=>h.elim) id⟩,fun _ _ h=>h,Nat.le_refl _,hx⟩
theorem Sp2.wfr {t:Gt E h} (s:Sp2 H0 H P d δ h0 t0 bx D h t) (W:Wrote H H' (Gt.p h t) 1 [.int .i64 (Bt.cnOf H0 (Gt.p h t):Int)]):Fr (fun b o=>(o=1∧Gt.sp d h0 t0 b)∨b=bx) H0 H':=
 s.fr.trans' W.fr (fun _ _ _ h=>h) fun b o _ hz=>by
  have h1:=hz.1;have h2:=hz.2.1;have h3:=hz.2.2
  simp only [List.length_cons,List.length_nil] at h3
  exact .inl ⟨by omega,h1▸(s.all _).2 (.inr (Gt.sp_p d))⟩
theorem Sp2.step {t:Gt E (h+1)} {k:Gt E h} (h1:1≤P.mn) (s:Sp2 H0 H P d δ h0 t0 bx D (h+1) t) (hk:t.2.2[cix d t.2.2.length]?=some k) (W:Wrote H H' t.1.p 1 [.int .i64 (Bt.cnOf H0 t.1.p:Int)]):
  Sp2 H0 H' P d δ h0 t0 bx (fun q=>D q∨q=t.1.p) h k:=by
 obtain ⟨q1,q2,q3⟩:=s.g.2.2.2.2.2.2.1 k (List.mem_of_getElem? hk)
 have hD:∀q,D q→q≠t.1.p:=fun q hq e=>s.off q hq (by rw [e];exact Gt.af_p (t:=t) (by omega))
 have hpk:∀q,Gt.sp d h k q→q≠t.1.p:=fun q hq e=>(q3 _ _ (Gt.sp_af hq 1 (by omega))).1 (.inl ⟨e,by omega⟩)
 refine ⟨q1,s.wfr (t:=t) W,s.nb,fun q hq=>?_,fun q hq=>W.fr.keep (s.val2 q (.inr ⟨k,hk,hq⟩)) (nr (.inl (hpk q hq))),fun q hq hb=>?_,fun q=>?_,fun b o hb=>s.sub b o (.inr (.inr ⟨k,List.mem_of_getElem? hk,hb⟩)),Nat.le_trans (kid_le s.g.2.2.2.2.2.1 (List.mem_of_getElem? hk)) s.le,Nat.le_trans h1 q2⟩
 ·
  rcases hq with hq|rfl
  · exact W.fr.keep (s.val q hq) (nr (.inl (hD q hq)))
  · exact W.at
 ·
  rcases hq with hq|rfl
  · exact s.off q hq (.inr (.inr ⟨k,List.mem_of_getElem? hk,hb⟩))
  · exact (q3 _ _ hb).1 (.inl ⟨rfl,by omega⟩)
 ·
  rw [s.all q]
  constructor
  ·
   rintro (hq|hq)
   · exact .inl (.inl hq)
   ·
    rcases hq with rfl|⟨k',hk',hq⟩
    · exact .inl (.inr rfl)
    · rw [hk] at hk';cases hk';exact .inr hq
  ·
   rintro ((hq|rfl)|hq)
   · exact .inl hq
   · exact .inr (.inl rfl)
   · exact .inr (.inr ⟨k,hk,hq⟩)
theorem Sp2.fin {t:Gt E 0} (s:Sp2 H0 H P d δ h0 t0 bx D 0 t) (hg0:Gt.Good H0 P h0 t0) (W:Wrote H H' t.1.p 1 [.int .i64 (Bt.cnOf H0 t.1.p:Int)]):Gt.Good H' P h0 t0:=by
 have hf:=s.wfr (t:=t) W
 have hD:∀q,D q→q≠t.1.p:=fun q hq e=>s.off q hq (by rw [e];exact Gt.af_p (t:=t) (by omega))
 refine hg0.eqv hf fun b o hb=>?_
 by_cases hs:o=1∧Gt.sp d h0 t0 b
 ·
  obtain ⟨rfl,hs⟩:=hs
  rw [hg0.spcn hs]
  rcases (s.all b).1 hs with hq|hq
  · exact W.fr.keep (s.val b hq) (nr (.inl (hD b hq)))
  ·
   have e:b=t.1.p:=hq
   subst e
   exact W.at
 · exact hf.cell b o (hg0.lt hb) fun hz=>hz.elim hs fun e=>s.nb o (e▸hb)
end
namespace Pl
variable {α:Type} (O:Swo α)
theorem got_first {x:α} {l:List α} (hs:Srt O (x::l)):got O x (x::l)=some x∧fnd O x (x::l)=true∧del O x (x::l)=l:=by
 obtain ⟨_,h2,h3,_,h5⟩:=at_item O (a:=[]) (y:=x) (c:=l) hs (O.irr x) (O.irr x)
 exact ⟨h3,h2,h5⟩
theorem got_last {x:α} {l:List α} (hs:Srt O (l++[x])):got O x (l++[x])=some x∧fnd O x (l++[x])=true∧del O x (l++[x])=l:=by
 obtain ⟨_,h2,h3,_,h5⟩:=at_item O (a:=l) (y:=x) (c:=[]) hs (O.irr x) (O.irr x)
 exact ⟨h3,h2,by rw [h5];simp⟩
end Pl
theorem popk_glue {d:Bool} {X X' R:List α} {y:α} (hx:bif d then X=X'++[y] else X=y::X'):Pl.popk (glue d X R) d=(glue d X' R,some y):=by
 cases d with
 | true=>
  have:X=X'++[y]:=hx
  subst this
  have e:R++(X'++[y])=(R++X')++[y]:=by simp
  simp only [glue,cond_true,Pl.popk,e,List.dropLast_concat,List.getLast?_concat]
 | false=>
  have:X=y::X':=hx
  subst this
  simp [glue,Pl.popk]
variable {α:Type} {E:Elt α}
theorem Gt.Good.lfglue {H:Mem} {P:Ps} {d:Bool}:∀{h:Nat} {t:Gt E h},Gt.Good H P h t→∃R,Gt.L h t=glue d (Gt.lf d h t).2 R
 | 0,(g,X),_=>⟨[],by cases d<;>simp [glue]<;>rfl⟩
 | h+1,(g,X,K),hg=>by
  have hKl:K.length=X.length+1:=hg.2.2.2.2.2.1
  obtain ⟨k,hk⟩:∃k,K[cix d K.length]?=some k:=⟨K[cix d K.length]'(cix_lt (by omega)),List.getElem?_eq_getElem (cix_lt (by omega))⟩
  obtain ⟨R,hR⟩:=Gt.Good.lfglue (d:=d) (hg.2.2.2.2.2.2.1 k (List.mem_of_getElem? hk)).1
  have elf:Gt.lf d (h+1) ((g,X,K):Gt E (h+1))=Gt.lf d h k:=by
   show (match K[cix d K.length]? with
    | some k=>Gt.lf d h k
    | none=>(g,[]))=_
   rw [hk]
  have hLk:(K.map (Gt.L h))[cix d (K.map (Gt.L h)).length]?=some (Gt.L h k):=by rw [List.length_map,List.getElem?_map,hk];rfl
  obtain ⟨R',h1,_⟩:=glue_up (X:=X) (K:=K.map (Gt.L h)) (by rw [List.length_map];exact hKl) hLk hR hR
  exact ⟨R',by rw [elf];exact h1⟩
section
variable {H0 H:Mem} {P:Ps} {d:Bool} {δ:Nat→Nat} {h0 h bx:Nat} {t0:Gt E h0} {D:Nat→Prop} {l X:List α} {g:Ng}
theorem Spn.glue {t:Gt E h} (_s:Spn H0 H P d δ h0 t0 D h t) (hg:Gt.Good H0 P h0 t0) (e:Gt.L h0 t0=l) (hl:(g,X)=Gt.lf d h0 t0):∃R,l=Bt.glue d X R:=by
 obtain ⟨R,hR⟩:=hg.lfglue (d:=d)
 rw [←hl,e] at hR
 exact ⟨R,hR⟩
theorem Sp2.pos {t:Gt E h} (s:Sp2 H0 H P d δ h0 t0 bx D h t):1≤(Gt.L h t).length:=s.g.ne s.x1
end
namespace Sv
theorem bez (a b:Nat):∃x y:Int,x*a+y*b=(Nat.gcd a b:Int):=by
 induction a,b using Nat.gcd.induction with
 | H0 n=>exact ⟨0,1,by simp⟩
 | H1 m n hm ih=>
  obtain ⟨x,y,h⟩:=ih
  rw [←Nat.gcd_rec] at h
  refine ⟨y-x*(n / m),x,?_⟩
  rw [←h]
  have e:((n % m:Nat):Int)=n-m*(n / m):=by
   have:=Int.emod_def n m
   omega
  rw [e]
  grind
theorem surj {n s:Nat} (h:Nat.gcd n s=1) {y:Nat} (hy:y<n):∃i,i<n∧i*s % n=y:=by
 obtain ⟨z,x,e⟩:=bez n s
 rw [h] at e
 have hn:(0:Int)<n:=by omega
 have h1:=Int.emod_nonneg (x*y) (by omega:(n:Int)≠0)
 have h2:=Int.emod_lt_of_pos (x*y) hn
 refine ⟨((x*y) % n).toNat,by omega,?_⟩
 have h3:(((x*y) % n).toNat:Int)=(x*y) % n:=Int.toNat_of_nonneg h1
 apply Int.ofNat.inj
 show ((((x*y) % n).toNat*s % n:Nat):Int)=(y:Int)
 rw [Int.natCast_emod,Int.natCast_mul,h3]
 have e2:(x*y) % n*s=y+n*(-(z*y)-(x*y / n)*s):=by
  have:=Int.emod_def (x*y) n
  rw [this]
  grind
 rw [e2,Int.add_mul_emod_self_left]
 exact Int.emod_eq_of_lt (by omega) (by omega)
theorem inj {n s i j:Nat} (h:Nat.gcd n s=1) (hi:i<n) (hj:j<n) (e:i*s % n=j*s % n):i=j:=by
 obtain ⟨z,x,e1⟩:=bez n s
 rw [h] at e1
 have e2:((i*s % n:Nat):Int)=((j*s % n:Nat):Int):=by rw [e]
 rw [Int.natCast_emod,Int.natCast_emod,Int.natCast_mul,Int.natCast_mul] at e2
 have d1:=Int.emod_def (i*s:Int) n
 have d2:=Int.emod_def (j*s:Int) n
 have e3:(i:Int)=j+n*((i-j)*z+x*((i*s) / n-(j*s) / n)):=by
  have e4:(i*s:Int)-n*((i*s) / n)=j*s-n*((j*s) / n):=by rw [←d1,←d2,e2]
  have e5:((i:Int)-j)*s=n*((i*s) / n-(j*s) / n):=by grind
  have e6:((i:Int)-j)*1=((i:Int)-j)*(z*n+x*s):=by rw [e1];rfl
  grind
 have e7:(i:Int) % n=(j:Int) % n:=by
  rw [e3,Int.add_mul_emod_self_left]
 rw [Int.emod_eq_of_lt (by omega) (by omega),Int.emod_eq_of_lt (by omega) (by omega)] at e7
 omega
def stride (n s c:Nat):List (Int×Int):=(List.range c).map fun i=>(((i*s % n:Nat):Int),(i:Int))
theorem stride_snoc (n s c:Nat):stride n s (c+1)=stride n s c++[(((c*s % n:Nat):Int),(c:Int))]:=by simp [stride,List.range_succ]
theorem stride_len (n s c:Nat):(stride n s c).length=c:=by simp [stride]
theorem stride_dis {n s:Nat} (h:Nat.gcd n s=1):∀c,c≤n→Pl.Dis (OO []) (stride n s c)
 | 0,_=>List.Pairwise.nil
 | c+1,hc=>by
  rw [stride_snoc]
  refine List.pairwise_append.2 ⟨stride_dis h c (by omega),List.pairwise_singleton _ _,fun x hx y hy=>?_⟩
  rw [List.mem_singleton.1 hy]
  obtain ⟨i,hi,rfl⟩:=List.mem_map.1 hx
  have hi2:=List.mem_range.1 hi
  have hne:i*s % n≠c*s % n:=fun e=>by have:=inj h (by omega) (by omega) e;omega
  rcases Nat.lt_or_gt_of_ne hne with hl|hl
  · exact .inl (decide_eq_true (show ((i*s % n:Nat):Int)<((c*s % n:Nat):Int) by omega))
  · exact .inr (decide_eq_true (show ((c*s % n:Nat):Int)<((i*s % n:Nat):Int) by omega))
theorem mem_stride {n s:Nat} {y:Int×Int}:y∈stride n s n↔∃i:Nat,i<n∧y=(((i*s % n:Nat):Int),(i:Int)):=by
 unfold stride
 rw [List.mem_map]
 exact ⟨fun ⟨i,hi,e⟩=>⟨i,List.mem_range.1 hi,e.symm⟩,fun ⟨i,hi,e⟩=>⟨i,List.mem_range.2 hi,e.symm⟩⟩
theorem del_mem {α:Type} {O:Pl.Swo α} {l:List α} {x:α} (hs:Pl.Srt O l) (hx:x∈l):Pl.got O x l=some x∧∀y,y∈Pl.del O x l↔y∈l∧y≠x:=by
 obtain ⟨a,c,rfl⟩:=List.append_of_mem hx
 obtain ⟨_,_,h3,_,h5⟩:=Pl.at_item O hs (O.irr x) (O.irr x)
 refine ⟨h3,fun y=>?_⟩
 rw [h5]
 rw [Pl.Srt.append,Pl.Srt.cons] at hs
 have hna:x ∉ a:=fun h=>by have:=hs.2.2 x h x List.mem_cons_self;rw [O.irr] at this;cases this
 have hnc:x ∉ c:=fun h=>by have:=hs.2.1.1 x h;rw [O.irr] at this;cases this
 rw [List.mem_append,List.mem_append,List.mem_cons]
 constructor
 ·
  rintro (h|h)
  · exact ⟨.inl h,fun e=>hna (e▸h)⟩
  · exact ⟨.inr (.inr h),fun e=>hnc (e▸h)⟩
 ·
  rintro ⟨h|h|h,h2⟩
  · exact .inl h
  · exact absurd h h2
  · exact .inr h
theorem runs_cons {α β γ:Type} (f:List α→β→List α×γ) (l:List α) (k:β) (ks:List β):Pl.runs f l (k::ks)=((Pl.runs f (f l k).1 ks).1,(f l k).2::(Pl.runs f (f l k).1 ks).2):=by
 have h:∀(ks:List β) (m:List α) (A B:List γ),ks.foldl (fun s k=>((f s.1 k).1,s.2++[(f s.1 k).2])) (m,A++B)=((ks.foldl (fun s k=>((f s.1 k).1,s.2++[(f s.1 k).2])) (m,B)).1,A++(ks.foldl (fun s k=>((f s.1 k).1,s.2++[(f s.1 k).2])) (m,B)).2):=by
  intro ks
  induction ks with
  | nil=>intros;rfl
  | cons k ks ih=>
   intro m A B
   simp only [List.foldl_cons,List.append_assoc]
   exact ih _ A _
 exact h ks (f l k).1 [(f l k).2] []
theorem runs_del {α:Type} {O:Pl.Swo α}:∀{ks l:List α},Pl.Srt O l→(∀k∈ks,k∈l)→ks.Nodup→(Pl.runs (Pl.delk O) l ks).2=ks.map some∧∀y,y∈(Pl.runs (Pl.delk O) l ks).1↔y∈l∧y ∉ ks
 | [],l,_,_,_=>⟨rfl,fun y=>by simp [Pl.runs_nil]⟩
 | k::ks,l,hs,hm,hn=>by
  obtain ⟨h1,h2⟩:=del_mem hs (hm k List.mem_cons_self)
  rw [List.nodup_cons] at hn
  obtain ⟨h3,h4⟩:=runs_del (ks:=ks) (l:=Pl.del O k l) (hs.del O) (fun x hx=>(h2 x).2 ⟨hm x (List.mem_cons_of_mem _ hx),fun e=>hn.1 (e▸hx)⟩) hn.2
  rw [runs_cons]
  refine ⟨?_,fun y=>?_⟩
  ·
   show Pl.got O k l::(Pl.runs (Pl.delk O) (Pl.del O k l) ks).2=some k::ks.map some
   rw [h1,h3]
  show y∈(Pl.runs (Pl.delk O) (Pl.del O k l) ks).1↔_
  rw [h4,h2,List.mem_cons]
  constructor
  · rintro ⟨⟨a,b⟩,c⟩;exact ⟨a,fun h=>h.elim b c⟩
  · rintro ⟨a,b⟩;exact ⟨⟨a,fun e=>b (.inl e)⟩,fun e=>b (.inr e)⟩
theorem dis_nodup {α:Type} {O:Pl.Swo α} {l:List α} (h:Pl.Dis O l):l.Nodup:=List.Pairwise.imp (fun {a b} h e=>by subst e;rcases h with h|h<;>(rw [O.irr] at h;cases h)) h
def OZ:Pl.Swo Int:={ lt:=fun x y=>decide (x<y),irr:=fun x=>by simp,ntr:=fun h k=>by simp at *;omega,asy:=fun h=>by simp at *;omega }
def keep (n k:Nat):List Nat:=(List.range n).filter fun i=>decide (i % k≠0)
theorem keep_succ (n k:Nat):keep (n+1) k=keep n k++if n % k=0 then [] else [n]:=by
 unfold keep
 rw [List.range_succ,List.filter_append]
 congr 1
 by_cases h:n % k=0<;>simp [h]
theorem keep_get {k:Nat}:∀{n i:Nat},i<n→i % k≠0→(keep n k)[(keep i k).length]?=some i
 | n+1,i,hi,hk=>by
  rw [keep_succ]
  rcases Nat.lt_or_eq_of_le (Nat.le_of_lt_succ hi) with h|rfl
  ·
   have h1:=keep_get (k:=k) h hk
   rw [List.getElem?_append_left (List.getElem?_eq_some_iff.1 h1).1,h1]
  · rw [List.getElem?_append_right (Nat.le_refl _),Nat.sub_self,if_neg hk];rfl
theorem mem_keep {n k i:Nat}:i∈keep n k↔i<n∧i % k≠0:=by
 unfold keep;rw [List.mem_filter,List.mem_range,decide_eq_true_eq]
theorem keep_srt (k:Nat):∀n,Pl.Srt OZ ((keep n k).map fun (i:Nat)=>(i:Int))
 | 0=>List.Pairwise.nil
 | n+1=>by
  rw [keep_succ,List.map_append]
  refine List.pairwise_append.2 ⟨keep_srt k n,?_,fun x hx y hy=>?_⟩
  ·
   split
   · exact List.Pairwise.nil
   · exact List.pairwise_singleton _ _
  ·
   obtain ⟨i,hi,rfl⟩:=List.mem_map.1 hx
   obtain ⟨j,hj,rfl⟩:=List.mem_map.1 hy
   have h1:=(mem_keep.1 hi).1
   split at hj
   · cases hj
   · rw [List.mem_singleton.1 hj];exact decide_eq_true (by omega)
def gone (k:Nat) (l:List (Int×Int)):List (Int×Int):=l.filter fun x=>decide (x.1.tmod k=0)
theorem gone_snoc (k:Nat) (l:List (Int×Int)) (x:Int×Int):gone k (l++[x])=gone k l++if x.1.tmod k=0 then [x] else []:=by
 unfold gone
 rw [List.filter_append]
 congr 1
 by_cases h:x.1.tmod k=0<;>simp [h]
theorem sieve {n s k:Nat} (h:Nat.gcd n s=1):
  let R:=Pl.runs (Pl.delk (OO [])) (Pl.puts (OO []) (stride n s n)) (gone k (stride n s n))
  R.2=(gone k (stride n s n)).map some∧R.1.map (·.1)=(keep n k).map fun (i:Nat)=>(i:Int):=by
 intro R
 have hd:=stride_dis h n (Nat.le_refl _)
 obtain ⟨_,hm⟩:=(Pl.puts_dis (OO []) (stride n s n)).2 hd
 obtain ⟨h1,h2⟩:=runs_del (O:=OO []) (Pl.puts_srt (OO []) (stride n s n)) (ks:=gone k (stride n s n)) (fun x hx=>(hm x).2 (List.mem_filter.1 hx).1) ((dis_nodup hd).filter _)
 refine ⟨h1,Pl.srt_ext (O:=OZ) ?_ (keep_srt k n) fun z=>?_⟩
 ·
  have hs:=Pl.runs_delk_srt (OO []) (Pl.puts_srt (OO []) (stride n s n)) (gone k (stride n s n))
  refine List.pairwise_map.2 (hs.imp fun {a b} hab=>?_)
  exact hab
 ·
  rw [List.mem_map,List.mem_map]
  have key:∀i:Nat,((i:Int)).tmod k=0↔i % k=0:=fun i=>by
   rw [show ((i:Int)).tmod k=((i % k:Nat):Int) from (Int.ofNat_tmod i k).symm];omega
  constructor
  ·
   rintro ⟨y,hy,rfl⟩
   obtain ⟨a,b⟩:=(h2 y).1 hy
   rw [hm] at a
   obtain ⟨i,hi,rfl⟩:=mem_stride.1 a
   refine ⟨i*s % n,mem_keep.2 ⟨Nat.mod_lt _ (by omega),fun e=>b ?_⟩,rfl⟩
   exact List.mem_filter.2 ⟨a,decide_eq_true ((key _).2 e)⟩
  ·
   rintro ⟨i,hi,rfl⟩
   obtain ⟨h3,h4⟩:=mem_keep.1 hi
   obtain ⟨j,hj,e⟩:=surj h h3
   refine ⟨((i:Int),(j:Int)),(h2 _).2 ⟨(hm _).2 (mem_stride.2 ⟨j,hj,by rw [e]⟩),fun hg=>h4 ?_⟩,rfl⟩
   exact (key i).1 (of_decide_eq_true (List.mem_filter.1 hg).2)
end Sv
end Go.Bt
