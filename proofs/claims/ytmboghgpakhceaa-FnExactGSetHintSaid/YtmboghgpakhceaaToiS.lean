/- Contracts of functions of the program, proved by walking through their code. Conditions: those that each theorem names. -/
import Derived.Test.YtmboghgpakhceaaTogH
import Derived.Test.YtmboghgpakhceaaToKi
set_option linter.unusedVariables false
namespace Go.Bt.FG
open Go Go.Proofs Go.Proofs.Try
set_option maxRecDepth 20000
set_option maxHeartbeats 4000000
set_option linter.unusedSectionVars false
section
variable {α:Type} {E:Elt α} {H0 H H':Mem} {it tr:Nat} {mt sk ast ae:Bool} {Z0 Z:Nat→Prop} {fr fs:List (Nat×Int)} {kv:α} {p:Nat} {z:Int}
structure Itr (E:Elt α) (H0 H:Mem) (it tr:Nat) (mt:Bool) (Z0:Nat→Prop) (sk ast ae:Bool) (Z:Nat→Prop) (fr:List (Nat×Int)) (kv:α):Prop where
 c0:cl H it 0=some (.pointer (some ⟨tr,0,none⟩))
 c1:cl H it 1=some (.bool mt)
 lk:cl H it 2=some (.bool false)
 c2:cl H it 3=some (.bool sk)
 c3:cl H it 4=some (.bool ast)
 c4:cl H it 5=some (.bool ae)
 st:∃sv,cl H it 14=some sv∧Acc EK Z H sv fr.reverse
 kv:Rd H it 15 (E.enc kv)
 wr:Wr H it 0 (15+E.s)
 nz:¬Z it
 f:Fr (fun b _=>b=it∨Z0 b) H0 H
 zz:∀b,Z b→Z0 b∨H0.size≤b
 zl:∀b,Z b→b<H.size
theorem Itr.re (h:Itr E H0 H it tr mt Z0 sk ast ae Z fr kv):Itr E H H it tr mt Z sk ast ae Z fr kv:={ h with f:=Fr.refl _ _,zz:=fun _ hb=>.inl hb }
theorem Itr.w (h:Itr E H0 H it tr mt Z0 sk ast ae Z fr kv) (i:Nat) (hi:i<15):Wr H it i 1:=h.wr.at0 i 1 (by omega)
theorem Itr.wk (h:Itr E H0 H it tr mt Z0 sk ast ae Z fr kv):Wr H it 15 E.s:=h.wr.at0 15 E.s (Nat.le_refl _)
theorem Itr.fit (h:Itr E H0 H it tr mt Z0 sk ast ae Z fr kv) {o:Nat} {vs:List Value} (W:Wrote H H' it o vs):Fr (fun b _=>b=it∨Z0 b) H0 H':=
 h.f.trans' W.fr (fun _ _ _ h=>h) fun b o _ hz=>.inl hz.1
theorem Itr.acc1 (h:Itr E H0 H it tr mt Z0 sk ast ae Z fr kv) {o:Nat} {vs:List Value} (W:Wrote H H' it o vs) {sv:Value} {l:List (Nat×Int)} (hA:Acc EK Z H sv l):Acc EK Z H' sv l:=
 hA.fr W.fr fun b o _ hb hz=>h.nz (by have e:b=it:=hz.1;rw [e] at hb;exact hb)
theorem Itr.kv1 (h:Itr E H0 H it tr mt Z0 sk ast ae Z fr kv) {o:Nat} {v:Value} (W:Wrote H H' it o [v]) (ho:o<15):Rd H' it 15 (E.enc kv):=
 W.fr.rd h.kv fun i _ hz=>by have:=hz.2.2;simp only [List.length_singleton] at this;omega
theorem Itr.set2 (h:Itr E H0 H it tr mt Z0 sk ast ae Z fr kv) {v:Bool} (W:Wrote H H' it 3 [.bool v]):Itr E H0 H' it tr mt Z0 v ast ae Z fr kv where
 c0:=W.keep1 h.c0 (.inr (by decide))
 c1:=W.keep1 h.c1 (.inr (by decide))
 lk:=W.keep1 h.lk (.inr (by decide))
 c2:=W.at
 c3:=W.keep1 h.c3 (.inr (by decide))
 c4:=W.keep1 h.c4 (.inr (by decide))
 st:=have ⟨sv,h1,h2⟩:=h.st;⟨sv,W.keep1 h1 (.inr (by decide)),h.acc1 W h2⟩
 kv:=h.kv1 W (by decide)
 wr:=W.fr.wr h.wr
 nz:=h.nz
 f:=h.fit W
 zz:=h.zz
 zl:=fun b hb=>by rw [W.size];exact h.zl b hb
theorem Itr.set3 (h:Itr E H0 H it tr mt Z0 sk ast ae Z fr kv) {v:Bool} (W:Wrote H H' it 4 [.bool v]):Itr E H0 H' it tr mt Z0 sk v ae Z fr kv where
 c0:=W.keep1 h.c0 (.inr (by decide))
 c1:=W.keep1 h.c1 (.inr (by decide))
 lk:=W.keep1 h.lk (.inr (by decide))
 c2:=W.keep1 h.c2 (.inr (by decide))
 c3:=W.at
 c4:=W.keep1 h.c4 (.inr (by decide))
 st:=have ⟨sv,h1,h2⟩:=h.st;⟨sv,W.keep1 h1 (.inr (by decide)),h.acc1 W h2⟩
 kv:=h.kv1 W (by decide)
 wr:=W.fr.wr h.wr
 nz:=h.nz
 f:=h.fit W
 zz:=h.zz
 zl:=fun b hb=>by rw [W.size];exact h.zl b hb
theorem Itr.set4 (h:Itr E H0 H it tr mt Z0 sk ast ae Z fr kv) {v:Bool} (W:Wrote H H' it 5 [.bool v]):Itr E H0 H' it tr mt Z0 sk ast v Z fr kv where
 c0:=W.keep1 h.c0 (.inr (by decide))
 c1:=W.keep1 h.c1 (.inr (by decide))
 lk:=W.keep1 h.lk (.inr (by decide))
 c2:=W.keep1 h.c2 (.inr (by decide))
 c3:=W.keep1 h.c3 (.inr (by decide))
 c4:=W.at
 st:=have ⟨sv,h1,h2⟩:=h.st;⟨sv,W.keep1 h1 (.inr (by decide)),h.acc1 W h2⟩
 kv:=h.kv1 W (by decide)
 wr:=W.fr.wr h.wr
 nz:=h.nz
 f:=h.fit W
 zz:=h.zz
 zl:=fun b hb=>by rw [W.size];exact h.zl b hb
theorem Itr.set5 (h:Itr E H0 H it tr mt Z0 sk ast ae Z fr kv) {sv:Value} {fr':List (Nat×Int)} (hA:Acc EK Z H sv fr'.reverse) (W:Wrote H H' it 14 [sv]):Itr E H0 H' it tr mt Z0 sk ast ae Z fr' kv where
 c0:=W.keep1 h.c0 (.inr (by decide))
 c1:=W.keep1 h.c1 (.inr (by decide))
 lk:=W.keep1 h.lk (.inr (by decide))
 c2:=W.keep1 h.c2 (.inr (by decide))
 c3:=W.keep1 h.c3 (.inr (by decide))
 c4:=W.keep1 h.c4 (.inr (by decide))
 st:=⟨sv,W.at,h.acc1 W hA⟩
 kv:=h.kv1 W (by decide)
 wr:=W.fr.wr h.wr
 nz:=h.nz
 f:=h.fit W
 zz:=h.zz
 zl:=fun b hb=>by rw [W.size];exact h.zl b hb
theorem Itr.set6 (h:Itr E H0 H it tr mt Z0 sk ast ae Z fr kv) {x:α} (W:Wrote H H' it 15 (E.enc x)):Itr E H0 H' it tr mt Z0 sk ast ae Z fr x:=
 have hk:∀{o:Nat} {v:Value},o<15→cl H it o=some v→cl H' it o=some v:=fun ho hc=>W.fr.keep hc fun hz=>by have:=hz.2.1;omega
 { c0:=hk (by decide) h.c0,c1:=hk (by decide) h.c1,lk:=hk (by decide) h.lk,c2:=hk (by decide) h.c2,c3:=hk (by decide) h.c3,c4:=hk (by decide) h.c4,st:=have ⟨sv,h1,h2⟩:=h.st;⟨sv,hk (by decide) h1,h.acc1 W h2⟩,kv:=W.all,wr:=W.fr.wr h.wr,nz:=h.nz,f:=h.fit W,zz:=h.zz,zl:=fun b hb=>by rw [W.size];exact h.zl b hb }
theorem Itr.push' (h:Itr E H0 H it tr mt Z0 sk ast ae Z fr kv) {H4 H5:Mem} {Y:Nat→Prop} {fr':List (Nat×Int)} {v4:Value} (hf:Fr (fun b _=>Z b) H H4) (hA4:Acc EK Y H4 v4 fr'.reverse) (hY:∀b,Y b→Z b∨H.size≤b) (hYl:∀b,Y b→b<H4.size) (W:Wrote H4 H5 it 14 [v4]):
  Itr E H0 H5 it tr mt Z0 sk ast ae Y fr' kv:=
 have hn:¬Z it:=h.nz
 have hl:it<H.size:=cl_lt h.c0
 have hny:¬Y it:=fun hz=>(hY _ hz).elim h.nz (fun h=>by omega)
 have hk:∀{o:Nat} {v:Value},o≠14→cl H it o=some v→cl H5 it o=some v:=fun ho hc=>W.keep1 (hf.keep hc hn) (.inr ho)
 { c0:=hk (by decide) h.c0,c1:=hk (by decide) h.c1,lk:=hk (by decide) h.lk,c2:=hk (by decide) h.c2,c3:=hk (by decide) h.c3,c4:=hk (by decide) h.c4,st:=⟨v4,W.at,hA4.fr W.fr fun b o _ hb hz=>hny (by have e:b=it:=hz.1;rw [e] at hb;exact hb)⟩,kv:=W.fr.rd (hf.rd h.kv fun _ _=>hn) fun i _ hz=>by have:=hz.2.2;simp only [List.length_singleton] at this;omega,wr:=W.fr.wr (hf.wr h.wr),nz:=hny,f:=(h.f.trans' hf (fun _ _ _ h=>h) fun b o hb hz=>(h.zz b hz).elim .inr (fun h=>by omega)).trans' W.fr (fun _ _ _ h=>h) fun b o _ hz=>.inl hz.1,zz:=fun b hb=>(hY b hb).elim (h.zz b) fun hge=>.inr (by have:=h.f.size;omega),zl:=fun b hb=>by rw [W.size];exact hYl b hb }
theorem Itr.push (h:Itr E H0 H it tr mt Z0 sk ast ae Z fr kv) {H3 H4 H5:Mem} {v4:Value} {x:Nat×Int} (hm:Fr nowhere H H3) (hF4:Fr (fun b _=>Z b) H3 H4) (hA4:Acc EK (fun b=>Z b∨(b=H3.size∧b<H4.size)) H4 v4 (fr.reverse++[x])) (W:Wrote H4 H5 it 14 [v4]):
  Itr E H0 H5 it tr mt Z0 sk ast ae (fun b=>Z b∨(b=H3.size∧b<H4.size)) (x::fr) kv:=by
 have hs3:=hm.size
 exact h.push' (hm.trans' hF4 (fun _ _ _ h=>h.elim) (fun _ _ _ h=>h)) (by rw [List.reverse_cons];exact hA4) (fun b hb=>hb.elim .inl (fun h=>.inr (by omega))) (fun b hb=>hb.elim (fun h1=>by have:=h.zl b h1;have:=hF4.size;omega) (fun h=>h.2)) W
structure TopC (H:Mem) (it b o c p:Nat) (z:Int) (n:Nat):Prop where
 c5:cl H it 14=some (.slice (some ⟨b,o,none⟩) (n+1) c)
 cp:cl H b (o+n*2)=some (.pointer (some ⟨p,0,none⟩))
 ci:cl H b (o+n*2+1)=some (.int .i64 z)
 wi:Wr H b (o+n*2+1) 1
 le:n+1≤c
theorem Itr.stk (h:Itr E H0 H it tr mt Z0 sk ast ae Z ((p,z)::fs) kv):∃b o c,cl H it 14=some (.slice (some ⟨b,o,none⟩) (fs.length+1) c)∧Z b∧b<H.size∧SlE EK H b o c (fs.reverse++[(p,z)]):=by
 obtain ⟨sv,h1,h2⟩:=h.st
 rw [List.reverse_cons] at h2
 rcases h2 with ⟨_,e⟩|⟨b,o,c,rfl,hz,hb,hs⟩
 · simp at e
 ·
  rw [List.length_append,List.length_reverse,List.length_singleton] at h1
  exact ⟨b,o,c,h1,hz,hb,hs⟩
theorem TopC.of {b o c:Nat} (h1:cl H it 14=some (.slice (some ⟨b,o,none⟩) (fs.length+1) c)) (hs:SlE EK H b o c (fs.reverse++[(p,z)])):TopC H it b o c p z fs.length:=by
 have hl:(fs.reverse++[(p,z)]).length=fs.length+1:=by rw [List.length_append,List.length_reverse,List.length_singleton]
 have hx:(fs.reverse++[(p,z)])[fs.length]?=some (p,z):=by rw [List.getElem?_append_right (by rw [List.length_reverse];exact Nat.le_refl _),List.length_reverse,Nat.sub_self];rfl
 exact ⟨h1,hs.cell hx (j:=0) rfl,hs.cell hx (j:=1) rfl,by
  have:=(hs.wri (i:=fs.length) (by omega)).part 1 1 (by decide)
  exact this,by have:=hs.hle;omega⟩
theorem Itr.top (h:Itr E H0 H it tr mt Z0 sk ast ae Z ((p,z)::fs) kv):∃b o c,TopC H it b o c p z fs.length:=by
 obtain ⟨b,o,c,h1,_,_,hs⟩:=h.stk
 exact ⟨b,o,c,TopC.of h1 hs⟩
theorem Itr.sti (h:Itr E H0 H it tr mt Z0 sk ast ae Z ((p,z)::fs) kv) {b o c:Nat} {z':Int} (t:TopC H it b o c p z fs.length) (W:Wrote H H' b (o+fs.length*2+1) [.int .i64 z']):
  Itr E H0 H' it tr mt Z0 sk ast ae Z ((p,z')::fs) kv∧TopC H' it b o c p z' fs.length:=by
 obtain ⟨b1,o1,c1,h1,hz,hb,hs⟩:=h.stk
 have e:=h1.symm.trans t.c5
 simp only [Option.some.injEq,Value.slice.injEq,Addr.mk.injEq] at e
 obtain ⟨⟨rfl,rfl,_⟩,_,rfl⟩:=e
 have hne:it≠b1:=fun e=>h.nz (by rw [e];exact hz)
 have hl:(fs.reverse++[(p,z)]).length=fs.length+1:=by rw [List.length_append,List.length_reverse,List.length_singleton]
 have W':Wrote H H' b1 (o1+fs.length*EK.s) (EK.enc (p,z')):=by
  refine ⟨W.fr.mono fun b o _ hh=>?_,W.size,fun i v hv=>?_⟩
  ·
   have h1:=hh.1
   have h2:=hh.2.1
   have h3:=hh.2.2
   simp only [List.length_singleton] at h3
   refine ⟨h1,by show o1+fs.length*2≤o;omega,by show o<o1+fs.length*2+2;omega⟩
  ·
   have hx:(fs.reverse++[(p,z)])[fs.length]?=some (p,z):=by rw [List.getElem?_append_right (by rw [List.length_reverse];exact Nat.le_refl _),List.length_reverse,Nat.sub_self];rfl
   match i,hv with
   | 0,hv=>
    simp only [EK,List.getElem?_cons_zero,Option.some.injEq] at hv
    subst hv
    exact W.keep1 (hs.cell hx (j:=0) rfl) (.inr (by show o1+fs.length*2+0≠_;omega))
   | 1,hv=>
    simp only [EK,List.getElem?_cons_succ,List.getElem?_cons_zero,Option.some.injEq] at hv
    subst hv
    exact W.at
   | i+2,hv=>simp [EK] at hv
 have hs':=hs.set W' (by omega)
 rw [show (fs.reverse++[(p,z)]).take fs.length++(p,z')::(fs.reverse++[(p,z)]).drop (fs.length+1)=fs.reverse++[(p,z')] by
  rw [List.take_append_of_le_length (by rw [List.length_reverse];exact Nat.le_refl _),List.take_of_length_le (by rw [List.length_reverse];exact Nat.le_refl _),List.drop_of_length_le (by omega)]] at hs'
 have hk:∀{o:Nat} {v:Value},cl H it o=some v→cl H' it o=some v:=fun hc=>W.keep1 hc (.inl hne)
 refine ⟨{ c0:=hk h.c0,c1:=hk h.c1,lk:=hk h.lk,c2:=hk h.c2,c3:=hk h.c3,c4:=hk h.c4,st:=?_,kv:=W.fr.rd h.kv fun _ _ hz=>hne hz.1,wr:=W.fr.wr h.wr,nz:=h.nz,f:=h.f.trans' W.fr (fun _ _ _ h=>h) fun b o hb hh=>?_,zz:=h.zz,zl:=fun b hb=>by rw [W.size];exact h.zl b hb },TopC.of (hk h1) hs'⟩
 · exact ⟨_,hk h1,.inr ⟨b1,o1,c1,by rw [List.length_reverse];rfl,hz,by rw [W.size];exact hb,by rw [List.reverse_cons];exact hs'⟩⟩
 ·
  have e:b=b1:=hh.1
  rw [e] at hb ⊢
  exact (h.zz b1 hz).elim .inr (fun h=>by omega)
theorem Itr.pop (h:Itr E H0 H it tr mt Z0 sk ast ae Z ((p,z)::fs) kv) {b o c:Nat} (t:TopC H it b o c p z fs.length) (W:Wrote H H' it 14 [.slice (some ⟨b,o,none⟩) fs.length c]):
  Itr E H0 H' it tr mt Z0 sk ast ae Z fs kv:=by
 obtain ⟨b1,o1,c1,h1,hz,hb,hs⟩:=h.stk
 have e:=h1.symm.trans t.c5
 simp only [Option.some.injEq,Value.slice.injEq,Addr.mk.injEq] at e
 obtain ⟨⟨rfl,rfl,_⟩,_,rfl⟩:=e
 refine h.set5 ?_ W
 have:=Acc.take (Z:=Z) (i:=fs.length) hs hz hb (by rw [List.length_append,List.length_reverse];omega)
 rwa [List.take_append_of_le_length (by rw [List.length_reverse];exact Nat.le_refl _),List.take_of_length_le (by rw [List.length_reverse];exact Nat.le_refl _)] at this
def StI (r:Option ((h:Nat)×Gt E h)) (l:List α) (sk:Bool) (fr:List (Nat×Int)) (kv:α):Option Nat→Prop
 | none=>fr=[]
 | some q=>sk=true∧l[q]?=some kv∧∃h t,r=some ⟨h,t⟩∧Stand t fr q
def ItPost (E:Elt α) (H H':Mem) (it tr:Nat) (mt:Bool) (Z0:Nat→Prop) (r:Option ((h:Nat)×Gt E h)) (l:List α) (st:Option Nat):Prop:=
 ∃sk ast ae Z fr kv,Itr E H H' it tr mt Z0 sk ast ae Z fr kv∧StI r l sk fr kv st
theorem ItPost.trans {H1 H3:Mem} {P:Ps} {S:Nat→Prop} {Z2:Nat→Prop} {r:Option ((h:Nat)×Gt E h)} {l:List α} {sk' ast' ae':Bool} {kv':α} {fr':List (Nat×Int)} {q:Option Nat} (h:Itr E H H1 it tr mt Z sk' ast' ae' Z2 fr' kv') (hp:ItPost E H1 H3 it tr mt Z2 r l q):ItPost E H H3 it tr mt Z r l q:=by
 obtain ⟨sk,ast,ae,Z3,fr,kv,hI,hS⟩:=hp
 have hs1:=h.f.size
 exact ⟨sk,ast,ae,Z3,fr,kv,{ hI with
  f:=h.f.trans' hI.f (fun _ _ _ h=>h) fun b o hb hz=>hz.elim .inl fun hz=>(h.zz b hz).elim .inr fun hge=>by omega
  zz:=fun b hb=>(hI.zz b hb).elim (h.zz b) fun hge=>.inr (by omega) },hS⟩
theorem Itr.frH (h:Itr E H0 H it tr mt Z0 sk ast ae Z fr kv) {hz:Nat→Prop} (hf:Fr (fun b _=>hz b) H H') (h1:∀b,hz b→Z0 b∨H0.size≤b) (h2:¬hz it) (h3:∀b,Z b→¬hz b):Itr E H0 H' it tr mt Z0 sk ast ae Z fr kv where
 c0:=hf.keep h.c0 h2
 c1:=hf.keep h.c1 h2
 lk:=hf.keep h.lk h2
 c2:=hf.keep h.c2 h2
 c3:=hf.keep h.c3 h2
 c4:=hf.keep h.c4 h2
 st:=have ⟨sv,e1,e2⟩:=h.st;⟨sv,hf.keep e1 h2,e2.fr hf fun b o hb hb2=>h3 b hb2⟩
 kv:=hf.rd h.kv fun _ _=>h2
 wr:=hf.wr h.wr
 nz:=h.nz
 f:=h.f.trans' hf (fun _ _ _ h=>h) fun b o hb hz=>(h1 b hz).elim .inr (fun h=>by omega)
 zz:=h.zz
 zl:=fun b hb=>Nat.lt_of_lt_of_le (h.zl b hb) hf.size
theorem Itr.box {H1:Mem} (h:Itr E H H it tr mt Z sk ast ae Z fr kv) (hf:Fr nowhere H H1):Itr E H1 H1 it tr mt Z sk ast ae Z fr kv:=
 (h.frH (hz:=fun _=>False) hf (fun _ h=>h.elim) id (fun _ _ h=>h)).re
theorem Itr.thru {H1 H3:Mem} {sk' as' ae':Bool} {kv':α} {fr':List (Nat×Int)} {Z2 Z3:Nat→Prop} (h:Itr E H H1 it tr mt Z sk' as' ae' Z2 fr' kv') (hI:Itr E H1 H3 it tr mt Z2 sk ast ae Z3 fr kv):Itr E H H3 it tr mt Z sk ast ae Z3 fr kv:=by
 have hs1:=h.f.size
 exact { hI with
  f:=h.f.trans' hI.f (fun _ _ _ h=>h) fun b o hb hz=>hz.elim .inl fun hz=>(h.zz b hz).elim .inr fun hge=>by omega
  zz:=fun b hb=>(hI.zz b hb).elim (h.zz b) fun hge=>.inr (by omega) }
end
section
variable [Inhabited Cx] {H0 H H':Mem} {it tr:Nat}
structure TreeR (H:Mem) (tr:Nat) (P:Ps) (S:Nat→Prop) (l:List (Int×Int)) (r:Option ((h:Nat)×Gt EJ h)):Prop where
 tc:TrC H tr P.iso P.mx P.mn
 ow:∀b,b<cx.base∧cx.own b→S b
 lt:∀b,S b→b<H.size
 ll:l.length≤4294967296
 mn:1≤P.mn
 rt:match r with
  | none=>l=[]∧cl H tr 2=some (.pointer none)
  | some ⟨h,t⟩=>Gt.Good H P h t∧1≤(Gt.X h t).length∧Gt.L h t=l∧cl H tr 2=some (ptr (Gt.p h t))∧∀b o,Gt.af h t b o→S b
theorem TreeR.own {P:Ps} {S:Nat→Prop} {l:List (Int×Int)} {r:Option ((h:Nat)×Gt EJ h)} (h:TreeR H tr P S l r):S tr:=h.ow tr ⟨h.tc.tb,h.tc.tw⟩
theorem TreeR.iso {P:Ps} {S:Nat→Prop} {l:List (Int×Int)} {r:Option ((h:Nat)×Gt EJ h)} (h:TreeR H tr P S l r):cl H tr 0=some (.int .u64 (P.iso:Int)):=h.tc.iso
theorem TreeR.keep {P:Ps} {S:Nat→Prop} {l:List (Int×Int)} {r:Option ((h:Nat)×Gt EJ h)} (h:TreeR H tr P S l r) {X:Nat→Nat→Prop} (hf:Fr X H H') (hx:∀b o,S b→¬X b o):TreeR H' tr P S l r where
 tc:=h.tc.fr hf fun b o hb _=>hx b o (h.ow b hb)
 ow:=h.ow
 lt:=fun b hb=>Nat.lt_of_lt_of_le (h.lt b hb) hf.size
 ll:=h.ll
 mn:=h.mn
 rt:=by
  have h1:=h.rt
  cases r with
  | none=>exact ⟨h1.1,hf.keep h1.2 (hx _ _ h.own)⟩
  | some s=>
   obtain ⟨hh,t⟩:=s
   obtain ⟨h2,h3,h4,h5,h6⟩:=h1
   exact ⟨h2.fr hf fun b o hb=>hx b o (h6 b o hb),h3,h4,hf.keep h5 (hx _ _ h.own),h6⟩
end
end Go.Bt.FG
