/- The items of a sorted list up to a pivot, and those from it on. Conditions: none. -/
import Derived.Laws.Strings
import Derived.ChangeArms
import Derived.Deep.Slices
import Derived.Test.YtmboghgpakhceaaToCb
set_option linter.unusedVariables false
namespace Go.Bt.Pl
variable {α:Type} (O:Swo α)
def dn (x:α) (l:List α):List α:=l.take (pos O x l+(fnd O x l).toNat)
def up (x:α) (l:List α):List α:=l.drop (pos O x l)
theorem dn_mid {x:α} {a m c:List α} (ha:∀y∈a,O.lt y x=true) (hc:∀y∈c,O.lt x y=true):dn O x (a++m++c)=a++dn O x m:=by
 have h1:=pos_le O x m
 have h2:pos O x m+(fnd O x m).toNat≤m.length:=by
  cases h:fnd O x m with
  | false=>simpa using h1
  | true=>have:=fnd_pos_lt O h;simp;omega
 unfold dn
 rw [pos_mid O ha hc,fnd_mid O ha hc,Nat.add_assoc,take_mid h2]
theorem up_mid {x:α} {a m c:List α} (ha:∀y∈a,O.lt y x=true) (hc:∀y∈c,O.lt x y=true):up O x (a++m++c)=up O x m++c:=by
 unfold up
 rw [pos_mid O ha hc,drop_mid (pos_le O x m)]
theorem pre_succ {α:Type}:∀{j:Nat} {X:List α} {K:List (List α)} {x:α} {k:List α},X[j]?=some x→K[j]?=some k→pre (X.take (j+1)) (K.take (j+1))=pre (X.take j) (K.take j)++(k++[x])
 | 0,x::X,k::K,_,_,h1,h2=>by simp at h1 h2;subst h1;subst h2;simp [pre]
 | j+1,x::X,k::K,_,_,h1,h2=>by
  simp only [List.take_succ_cons,pre]
  rw [pre_succ (j:=j) (by simpa using h1) (by simpa using h2)]
  simp
 | _,[],_,_,_,h1,_=>by simp at h1
 | _,_::_,[],_,_,_,h2=>by simp at h2
theorem post_succ {α:Type} {j:Nat} {X:List α} {K:List (List α)} {x:α} {k:List α} (h1:X[j]?=some x) (h2:K[j+1]?=some k):post (X.drop j) (K.drop (j+1))=x::(k++post (X.drop (j+1)) (K.drop (j+1+1))):=by
 obtain ⟨h1,e1⟩:=List.getElem?_eq_some_iff.1 h1
 obtain ⟨h2,e2⟩:=List.getElem?_eq_some_iff.1 h2
 rw [←List.getElem_cons_drop (h:=h1),←List.getElem_cons_drop (h:=h2),e1,e2]
 rfl
theorem inter_eq_pre {α:Type}:∀{j:Nat} {X:List α} {K:List (List α)} {k:List α},j≤X.length→K[j]?=some k→inter (X.take j) (K.take (j+1))=pre (X.take j) (K.take j)++k
 | 0,X,k::K,_,_,h2=>by simp at h2;subst h2;simp [inter,pre]
 | j+1,x::X,k::K,_,h1,h2=>by
  simp only [List.take_succ_cons,inter,pre]
  rw [inter_eq_pre (j:=j) (by simpa using h1) (by simpa using h2)]
  simp
 | _,_,[],_,_,h2=>by simp at h2
 | j+1,[],_::_,_,h1,_=>by simp at h1
theorem at_item_dn {x y:α} {a c:List α} (hs:Srt O (a++y::c)) (h1:O.lt y x=false) (h2:O.lt x y=false):dn O x (a++y::c)=a++[y]∧up O x (a++y::c)=y::c:=by
 obtain ⟨p,f,_⟩:=at_item O hs h1 h2
 unfold dn up
 rw [p,f]
 refine ⟨?_,by simp⟩
 rw [show a++y::c=(a++[y])++c by simp,List.take_left' (by simp)]
theorem dn_found {x:α} {X:List α} {K:List (List α)} (hs:Srt O (inter X K)) (hl:K.length=X.length+1) (h:fnd O x X=true):
  dn O x (inter X K)=pre (X.take (pos O x X+1)) (K.take (pos O x X+1))∧up O x (inter X K)=post (X.drop (pos O x X)) (K.drop (pos O x X+1)):=by
 obtain ⟨y,hy,h1,h2,e,_⟩:=inter_found O hs hl h
 have hlt:=fnd_pos_lt O h
 rw [e] at hs ⊢
 obtain ⟨a,b⟩:=at_item_dn O hs h1 h2
 rw [a,b]
 obtain ⟨k,hk⟩:∃k,K[pos O x X]?=some k:=⟨K[pos O x X],List.getElem?_eq_getElem (by omega)⟩
 obtain ⟨k',hk'⟩:∃k,K[pos O x X+1]?=some k:=⟨K[pos O x X+1],List.getElem?_eq_getElem (by omega)⟩
 refine ⟨by rw [pre_succ hy hk,inter_eq_pre (Nat.le_of_lt hlt) hk,List.append_assoc],?_⟩
 rw [post_succ hy hk']
 obtain ⟨h3,e3⟩:=List.getElem?_eq_some_iff.1 hk'
 rw [←List.getElem_cons_drop (h:=h3),e3,inter_post _ _ _ (by rw [List.length_drop,List.length_drop];omega)]
theorem dn_child {x:α} {X:List α} {K:List (List α)} (hs:Srt O (inter X K)) (hl:K.length=X.length+1) (h:fnd O x X=false) {k:List α} (hk:K[pos O x X]?=some k):
  dn O x (inter X K)=pre (X.take (pos O x X)) (K.take (pos O x X))++dn O x k∧up O x (inter X K)=up O x k++post (X.drop (pos O x X)) (K.drop (pos O x X+1)):=by
 obtain ⟨e,h1,h2,_⟩:=inter_child O hs hl h hk
 rw [e]
 exact ⟨dn_mid O h1 h2,up_mid O h1 h2⟩
theorem child_srt {x:α} {X:List α} {K:List (List α)} (hs:Srt O (inter X K)) (hl:K.length=X.length+1) (h:fnd O x X=false) {k:List α} (hk:K[pos O x X]?=some k):Srt O k:=by
 obtain ⟨e,_⟩:=inter_child O hs hl h hk
 rw [e,Srt.append,Srt.append] at hs
 exact hs.1.2.1
theorem dn_le (x:α) (l:List α):(dn O x l).length≤l.length:=by unfold dn;rw [List.length_take];omega
theorem up_le (x:α) (l:List α):(up O x l).length≤l.length:=by unfold up;rw [List.length_drop];omega
theorem pre_len {α:Type} (X:List α) (K:List (List α)) (h:K.length=X.length+1) (j:Nat) (hj:j≤X.length):(pre (X.take j) (K.take j)).length≤(inter X K).length:=by
 obtain ⟨k,hk⟩:∃k,K[j]?=some k:=⟨K[j],List.getElem?_eq_getElem (by omega)⟩
 have l1:(X.take j).length=(K.take j).length:=by rw [List.length_take,List.length_take];omega
 have l2:(X.drop j).length=(K.drop (j+1)).length:=by rw [List.length_drop,List.length_drop];omega
 have:=inter_focus (X.take j) (X.drop j) (K.take j) k (K.drop (j+1)) l1 l2
 rw [List.take_append_drop,←(List.getElem?_eq_some_iff.1 hk).2,List.getElem_cons_drop,List.take_append_drop] at this
 rw [this,List.length_append,List.length_append]
 omega
end Go.Bt.Pl
namespace Go.Bt
theorem takes_cons {α:Type} (go:List α→Bool) (A:List α) (x:α) (l:List α):takes go A (x::l)=if go (A++[x]) then takes go (A++[x]) l else (A++[x],false):=rfl
theorem takes_rest {α:Type} {go:List α→Bool} {A l r:List α} (h:(takes go A l).2=true):takes go A (l++r)=takes go (takes go A l).1 r:=by rw [takes_append,h];rfl
theorem takes_halt {α:Type} {go:List α→Bool} {A l r:List α} (h:(takes go A l).2=false):takes go A (l++r)=takes go A l:=by rw [takes_append,h];rfl
def Acc {α:Type} (E:Elt α) (Z:Nat→Prop) (H:Mem) (v:Value) (l:List α):Prop:=
 (v=.slice none 0 0∧l=[])∨∃b o c,v=.slice (some ⟨b,o,none⟩) l.length c∧Z b∧b<H.size∧SlE E H b o c l
theorem Acc.nil {α:Type} (E:Elt α) (Z:Nat→Prop) (H:Mem):Acc E Z H (.slice none 0 0) ([]:List α):=.inl ⟨rfl,rfl⟩
theorem Acc.fr {α:Type} {E:Elt α} {Z:Nat→Prop} {X:Nat→Nat→Prop} {H H':Mem} {v:Value} {l:List α} (h:Acc E Z H v l) (hf:Fr X H H') (hz:∀b o,b<H.size→Z b→¬X b o):Acc E Z H' v l:=
 h.imp id fun ⟨b,o,c,e,z,hb,hs⟩=>⟨b,o,c,e,z,Nat.lt_of_lt_of_le hb hf.size,hs.fr hf fun i _ _=>hz b i hb z⟩
theorem Acc.mono {α:Type} {E:Elt α} {Z Y:Nat→Prop} {H:Mem} {v:Value} {l:List α} (h:Acc E Z H v l) (hz:∀b,b<H.size→Z b→Y b):Acc E Y H v l:=
 h.imp id fun ⟨b,o,c,e,z,hb,hs⟩=>⟨b,o,c,e,hz b hb z,hb,hs⟩
theorem Acc.out {α:Type} {E:Elt α} {Z:Nat→Prop} {H:Mem} {v:Value} {l:List α} (h:Acc E Z H v l):OutS E H v l:=h.imp id fun ⟨b,o,c,e,_,_,hs⟩=>⟨b,o,c,e,hs⟩
theorem Acc.inS {α:Type} {E:Elt α} {Z:Nat→Prop} {H:Mem} {v:Value} {l:List α} (h:Acc E Z H v l):InS E H v l:=h.out.inS
section
variable {P:Program} {B:World} {f:FuncId} {Q:Value→Mem→Prop} {n:Nat} {r:Env} {k:List Item} {H:Mem} {l:List Oper} {C:Mem→Prop} {p:List (Nat×Nat)}
variable {i kd d:Nat} {ty:TypeId} {pos:String} {af:Array Edge} {gd:Option (Nat×Bool)}
theorem O.appA {α:Type} {E:Elt α} {t e:TypeId} {by':Nat} {z:Value} {x y:Operand} {v u:Value} {l' Y:List α} {Z:Nat→Prop} (hi:l[i]?=some ⟨some d,.call ⟨.builtin .append,#[x,y],#[t,t]⟩,ty,pos,af,gd⟩)
  (hg:guardOn l r gd=true) (hd:Nat.blt d n=true) (T:SlT P t e E.s by' z) (hx:ev r x=some v) (hA:Acc E Z H v l') (hy:ev r y=some u)
  (hv:∃b2 o2 c2,u=.slice (some ⟨b2,o2,none⟩) Y.length c2∧Rd H b2 o2 (row E Y)) (hm:0<Y.length) (hb:(l'.length+Y.length)*by'≤140737488355328) (h63:l'.length+Y.length<9223372036854775808)
  (h:∀v' H',Acc E (fun b=>Z b∨(b=H.size∧b<H'.size)) H' v' (l'++Y)→Fr (fun b _=>Z b) H H'→H'.size≤H.size+1→C H'∧Pl P B f Q n l C k p ((d,v')::r) H'):Pl P B f Q n l C k ((i,2)::p) r H:=by
 rcases hA with ⟨rfl,rfl⟩|⟨b,o,c,rfl,hz,hlt,hs⟩
 ·
  rw [List.length_nil,Nat.zero_add] at hb h63
  refine O.appN (m:=Y.length) (news:=row E Y) hi hg hd T hx hy hv (row_len E Y) hb h63 hm fun cap' H' h1 h2 h3=>?_
  refine h _ _ (.inr ⟨H.size,0,cap',by rw [List.nil_append],.inr ⟨rfl,by omega⟩,by omega,?_⟩) (h2.mono fun _ _ _ h=>h.elim) (by omega)
  exact h1
 ·
  refine O.app (m:=Y.length) (news:=row E Y) (xs:=row E l') (s:=E.s) hi hg hd T hx hs hy (.inl hv) (row_len E Y) (row_ones E Y) hb h63 fun b' o' cap' H' ha=>?_
  have hp:b'=b∧H'.size=H.size∨b'=H.size∧H'.size=H.size+1:=ha.place.elim (fun h=>.inl ⟨h.1,h.2.2.2⟩) (fun h=>.inr ⟨h.1,h.2.2⟩)
  refine h _ _ (.inr ⟨b',o',cap',by rw [List.length_append],?_,by omega,SlE.apps ha⟩) (ha.fr.mono fun b1 o1 _ h1=>?_) (by omega)
  ·
   rcases hp with ⟨rfl,_⟩|⟨rfl,_⟩
   · exact .inl hz
   · exact .inr ⟨rfl,by omega⟩
  ·
   have:b1=b:=h1.1
   subst this;exact hz
end
section
variable {P:Program} {B:World} {f:FuncId} {Q:Value→Mem→Prop} {n:Nat} {r:Env} {k:List Item} {H:Mem} {l:List Oper} {C:Mem→Prop} {p:List (Nat×Nat)}
variable {i kd d:Nat} {ty:TypeId} {pos:String} {af:Array Edge} {gd:Option (Nat×Bool)}
end
namespace Pl
end Pl
section
variable {P:Program} {B:World} {f:FuncId} {Q:Value→Mem→Prop} {n:Nat} {r:Env} {k:List Item} {H:Mem} {l:List Oper} {C:Mem→Prop} {p:List (Nat×Nat)}
variable {i kd d:Nat} {ty:TypeId} {pos:String} {af:Array Edge} {gd:Option (Nat×Bool)}
def AccN {α:Type} (E:Elt α) (Z:Nat→Prop) (H:Mem) (v:Value) (l:List α):Prop:=∃b o c,v=.slice (some ⟨b,o,none⟩) l.length c∧Z b∧b<H.size∧SlE E H b o c l
theorem AccN.acc {α:Type} {E:Elt α} {Z:Nat→Prop} {H:Mem} {v:Value} {l:List α} (h:AccN E Z H v l):Acc E Z H v l:=.inr h
theorem AccN.fr {α:Type} {E:Elt α} {Z:Nat→Prop} {X:Nat→Nat→Prop} {H H':Mem} {v:Value} {l:List α} (h:AccN E Z H v l) (hf:Fr X H H') (hz:∀b o,b<H.size→Z b→¬X b o):AccN E Z H' v l:=
 have ⟨b,o,c,e,z,hb,hs⟩:=h
 ⟨b,o,c,e,z,Nat.lt_of_lt_of_le hb hf.size,hs.fr hf fun i _ _=>hz b i hb z⟩
theorem AccN.mono {α:Type} {E:Elt α} {Z Y:Nat→Prop} {H:Mem} {v:Value} {l:List α} (h:AccN E Z H v l) (hz:∀b,b<H.size→Z b→Y b):AccN E Y H v l:=
 have ⟨b,o,c,e,z,hb,hs⟩:=h
 ⟨b,o,c,e,hz b hb z,hb,hs⟩
theorem AccN.made {α:Type} {E:Elt α} {H H':Mem} {c:Array Value} {e:TypeId} (h:Made H H' c e):AccN E (fun b=>H.size≤b) H' (.slice (some ⟨H.size,0,none⟩) 0 0) []:=
 ⟨H.size,0,0,rfl,Nat.le_refl _,by rw [h.size];omega,Sl.none _ _ _ _⟩
theorem O.appI {α:Type} {E:Elt α} {t e:TypeId} {by':Nat} {z:Value} {x y:Operand} {v u:Value} {l' Y:List α} {Z:Nat→Prop} (hi:l[i]?=some ⟨some d,.call ⟨.builtin .append,#[x,y],#[t,t]⟩,ty,pos,af,gd⟩)
  (hg:guardOn l r gd=true) (hd:Nat.blt d n=true) (T:SlT P t e E.s by' z) (hx:ev r x=some v) (hA:AccN E Z H v l') (hy:ev r y=some u)
  (hv:InS E H u Y) (hb:(l'.length+Y.length)*by'≤140737488355328) (h63:l'.length+Y.length<9223372036854775808)
  (h:∀v' H',AccN E (fun b=>Z b∨(b=H.size∧b<H'.size)) H' v' (l'++Y)→Fr (fun b _=>Z b) H H'→H'.size≤H.size+1→C H'∧Pl P B f Q n l C k p ((d,v')::r) H'):Pl P B f Q n l C k ((i,2)::p) r H:=by
 obtain ⟨b,o,c,rfl,hz,hlt,hs⟩:=hA
 refine O.app (m:=Y.length) (news:=row E Y) (xs:=row E l') (s:=E.s) hi hg hd T hx hs hy hv.src (row_len E Y) (row_ones E Y) hb h63 fun b' o' cap' H' ha=>?_
 have hp:b'=b∧H'.size=H.size∨b'=H.size∧H'.size=H.size+1:=ha.place.elim (fun h=>.inl ⟨h.1,h.2.2.2⟩) (fun h=>.inr ⟨h.1,h.2.2⟩)
 refine h _ _ ⟨b',o',cap',by rw [List.length_append],?_,by omega,SlE.apps ha⟩ (ha.fr.mono fun b1 o1 _ h1=>?_) (by omega)
 ·
  rcases hp with ⟨rfl,_⟩|⟨rfl,_⟩
  · exact .inl hz
  · exact .inr ⟨rfl,by omega⟩
 ·
  have:b1=b:=h1.1
  subst this;exact hz
end
section
variable {P:Program} {B:World} {H:Mem}
theorem run_append_zeros {t t2 e ty:TypeId} {s by':Nat} {z:Value} {kk:IntKind} (T:SlT P t e s by' z) (h2:P.underlying t2=some (.int kk)) {a:Option Addr} {m:Nat} (hb:m*by'≤140737488355328) (h63:m<9223372036854775808) (hm:0<m)
  (d:Nat):∃cap' H' d',(Builtin.append_ #[t,t2] ty #[.slice a 0 0,.int .i64 (m:Int)]).run P (mk B H d)=.ok (.slice (some ⟨H.size,0,none⟩) m cap') (mk B H' d')∧m≤cap'∧Wr H' H.size 0 (cap'*s)∧Fr nowhere H H'∧H'.size=H.size+1:=by
 obtain ⟨inf,hinf,hby⟩:=T.bytes
 have hcap:((Question.appendCap m 0 e).cut ((mk B H d).tape (mk B H d).drawn (.appendCap m 0 e)))=grownCap (mk B H d) m 0 e:=rfl
 generalize hG:grownCap (mk B H d) m 0 e=G at*
 have hge:m≤G:=by rw [←hG];exact Nat.le_add_right _ _
 have hfit:¬(281474976710656<Builtin.nextslicecap m 0*inf.bytes):=by
  have:=growslice_fits (need:=m) (old:=0) (bytes:=by') (by omega) hb
  rw [hby];omega
 have hmade:=made_push H (Builtin.zeroCells z.cells m++Builtin.zeroCells z.cells (G-m)) e
 have hsize:(Builtin.zeroCells z.cells m++Builtin.zeroCells z.cells (G-m)).size=G*s:=by
  simp only [Array.size_append,zeroCells_size,T.zs,←Nat.add_mul]
  congr 1
  omega
 refine ⟨G,H.push (.cells (Builtin.zeroCells z.cells m++Builtin.zeroCells z.cells (G-m)) e),d+1,?_,hge,hmade.wr _ (by rw [hsize];exact Nat.le_refl _) T.lt,hmade.fr _,hmade.size⟩
 have hi:IntKind.i64.max=9223372036854775807:=rfl
 have hw:IntKind.i64.wrap (m:Int)=(m:Int):=wrap_id ⟨by omega,by omega⟩
 have hq:(choose (.appendCap m 0 e)).run P (mk B H d)=.ok G (mk B H (d+1)):=by
  rw [run_choose]
  simp only [Question.forced,Bool.false_eq_true,if_false]
  rw [hcap];rfl
 have hz:=T.zero (mk B H (d+1))
 have hroom:¬(m≤0):=by omega
 have hneg:¬((m:Int)<0):=by omega
 have hbig:¬((281474976710656:Int)<(m:Int)*(inf.bytes:Int)):=by
  rw [hby]
  have:((m*by':Nat):Int)≤140737488355328:=by omega
  push_cast at this
  omega
 have hms:¬(m*s=0):=fun h=>by
  have:=Nat.mul_pos hm T.pos
  omega
 have hg2:¬((m:Int) > IntKind.i64.max∧(True∨inf.bytes=0)):=fun h=>by have:=h.1;rw [hi] at this;omega
 have hg3:¬(Builtin.nextslicecap m 0*inf.bytes > 2 ^ 48):=by simpa using hfit
 have hg4:¬((9223372036854775807:Int)<(m:Int)):=by omega
 simp [Builtin.append_,run_und T.und,run_und h2,T.sz _,asInt,asIntOf,hw,hneg,hi,hg4,hfit,hbig,hinf,hms,run_askRoom,run_firstCells_empty,newRow,show ∀w,(zeroValue e).run P w=.ok z w from T.zero,show m≠0 by omega,Question.forced,hcap]
 exact ⟨rfl,rfl⟩
end
section
variable {P:Program} {B:World} {f:FuncId} {Q:Value→Mem→Prop} {n:Nat} {r:Env} {k:List Item} {H:Mem} {l:List Oper} {C:Mem→Prop} {p:List (Nat×Nat)}
variable {i kd d:Nat} {ty:TypeId} {pos:String} {af:Array Edge} {gd:Option (Nat×Bool)}
theorem O.appZ {t t2 e:TypeId} {s by':Nat} {z:Value} {kk:IntKind} {x y:Operand} {a:Option Addr} {m:Nat} (hi:l[i]?=some ⟨some d,.call ⟨.builtin .append,#[x,y],#[t,t2]⟩,ty,pos,af,gd⟩)
  (hg:guardOn l r gd=true) (hd:Nat.blt d n=true) (T:SlT P t e s by' z) (h2:P.underlying t2=some (.int kk)) (hx:ev r x=some (.slice a 0 0)) (hy:ev r y=some (.int .i64 (m:Int)))
  (hb:m*by'≤140737488355328) (h63:m<9223372036854775808) (hm:0<m)
  (h:∀cap' H',m≤cap'→Wr H' H.size 0 (cap'*s)→Fr nowhere H H'→H'.size=H.size+1→C H'∧Pl P B f Q n l C k p ((d,.slice (some ⟨H.size,0,none⟩) m cap')::r) H'):Pl P B f Q n l C k ((i,2)::p) r H:=
 Pl.loudV hi rfl hg hd (fun u H'=>∃cap',u=.slice (some ⟨H.size,0,none⟩) m cap'∧m≤cap'∧Wr H' H.size 0 (cap'*s)∧Fr nowhere H H'∧H'.size=H.size+1)
  (fun a2 d' ha=>by
   obtain ⟨cap',H',d'',h1,h3⟩:=run_append_zeros (a:=a) (ty:=ty) T h2 hb h63 hm d'
   refine ⟨_,H',d'',?_,cap',rfl,h3⟩
   simp only [execOp,resolve,List.map_toArray,List.map_cons,List.map_nil,ha.eval hx,ha.eval hy,Sem.run_bind,Sem.run_pure,Result.andThen_ok,invoke,builtin]
   rw [h1];rfl)
  (fun u H' hu=>by obtain ⟨cap',rfl,h1,h2,h3,h4⟩:=hu;exact h cap' H' h1 h2 h3 h4)
theorem O.cvi {src dst:TypeId} {x:Operand} {k1:IntKind} {z v:Int} (hi:l[i]?=some ⟨some d,.convert src dst x,ty,pos,af,gd⟩) (hg:guardOn l r gd=true) (hd:Nat.blt d n=true)
  (hs:(P.underlying src).isSome=true) (hu:P.underlying dst=some (.int (P.intKind dst))) (hk:P.intKind dst=.i64) (hx:ev r x=some (.int k1 z)) (hv:IntKind.i64.wrap z=v) (hC:C H)
  (h:Pl P B f Q n l C k p ((d,.int .i64 v)::r) H):Pl P B f Q n l C k ((i,2)::p) r H:=
 Pl.loudV hi rfl hg hd (fun u H'=>u=.int .i64 v∧H'=H)
  (fun a d' ha=>⟨_,H,d',by
   have hc:(convert src dst (.int k1 z)).run P (mk B H d')=.ok (.int .i64 v) (mk B H d'):=by rw [run_convert_int _ src dst k1 z hs hu,hk,hv]
   simp [execOp,ha.eval hx,hc],rfl,rfl⟩)
  (fun u H' hu=>by obtain ⟨rfl,rfl⟩:=hu;exact ⟨hC,h⟩)
theorem run_equalIn_sl {P:Program} {t e:TypeId} (hu:P.underlying t=some (.slice e)) (k:Nat) (a:Option Addr) (m c:Nat) (w:World):(Op.equalIn (k+1) t (.slice a m c) (.slice none 0 0)).run P w=.ok a.isNone w:=by
 cases a<;>simp [Op.equalIn,run_und hu]
theorem O.slNil {t t' e:TypeId} {x y:Operand} {a:Option Addr} {m c:Nat} (hi:l[i]?=some ⟨some d,.binOp .eql t x y t',ty,pos,af,gd⟩) (hk:Nat.blt kd 2=true) (hg:guardOn l r gd=true) (hd:Nat.blt d n=true)
  (hu:P.underlying t=some (.slice e)) (hx:ev r x=some (.slice a m c)) (hy:ev r y=some (.slice none 0 0)) (h:Pl P B f Q n l C k p ((d,.bool a.isNone)::r) H):Pl P B f Q n l C k ((i,kd)::p) r H:=
 O.bin hi hk hg hd hx hy (fun w=>⟨by unfold eqGuard;simp,by
  have h1:=run_equalIn_sl hu 9999 a m c w
  have h2:binOp .eql t (.slice a m c) (.slice none 0 0)=(do pure (.bool (←Op.equal t (.slice a m c) (.slice none 0 0)))):=by cases a<;>rfl
  rw [h2]
  simp only [Op.equal,Op.maxDepth,Sem.run_bind,h1,Result.andThen_ok,Sem.run_pure]⟩) h
end
theorem run_append_00 {P:Program} {B:World} {H:Mem} {t e ty:TypeId} {s by':Nat} {z:Value} (T:SlT P t e s by' z) (a:Option Addr) (c:Nat) (d:Nat):
  (Builtin.append_ #[t,t] ty #[.slice none 0 0,.slice a 0 c]).run P (mk B H d)=.ok (.slice none 0 0) (mk B H d):=by
 simp [Builtin.append_,run_und T.und,T.sz _,Builtin.lenOf,run_firstCells_empty]
section
variable {P:Program} {B:World} {f:FuncId} {Q:Value→Mem→Prop} {n:Nat} {r:Env} {k:List Item} {H:Mem} {l:List Oper} {C:Mem→Prop} {p:List (Nat×Nat)}
variable {i kd d:Nat} {ty:TypeId} {pos:String} {af:Array Edge} {gd:Option (Nat×Bool)}
theorem O.app00 {t e:TypeId} {s by':Nat} {z:Value} {x y:Operand} {a:Option Addr} {c:Nat} (hi:l[i]?=some ⟨some d,.call ⟨.builtin .append,#[x,y],#[t,t]⟩,ty,pos,af,gd⟩)
  (hg:guardOn l r gd=true) (hd:Nat.blt d n=true) (T:SlT P t e s by' z) (hx:ev r x=some (.slice none 0 0)) (hy:ev r y=some (.slice a 0 c))
  (h:C H∧Pl P B f Q n l C k p ((d,.slice none 0 0)::r) H):Pl P B f Q n l C k ((i,2)::p) r H:=
 Pl.loudV hi rfl hg hd (fun u H'=>u=.slice none 0 0∧H'=H)
  (fun a2 d' ha=>by
   refine ⟨_,H,d',?_,rfl,rfl⟩
   simp only [execOp,resolve,List.map_toArray,List.map_cons,List.map_nil,ha.eval hx,ha.eval hy,Sem.run_bind,Sem.run_pure,Result.andThen_ok,invoke,builtin]
   rw [run_append_00 T];rfl)
  (fun u H' h1=>by
   obtain ⟨rfl,rfl⟩:=h1
   exact h)
theorem O.appAI {α:Type} {E:Elt α} {t e:TypeId} {by':Nat} {z:Value} {x y:Operand} {v u:Value} {l' Y:List α} {Z:Nat→Prop} (hi:l[i]?=some ⟨some d,.call ⟨.builtin .append,#[x,y],#[t,t]⟩,ty,pos,af,gd⟩)
  (hg:guardOn l r gd=true) (hd:Nat.blt d n=true) (T:SlT P t e E.s by' z) (hx:ev r x=some v) (hA:Acc E Z H v l') (hy:ev r y=some u)
  (hv:InS E H u Y) (hb:(l'.length+Y.length)*by'≤140737488355328) (h63:l'.length+Y.length<9223372036854775808)
  (h:∀v' H',Acc E (fun b=>Z b∨(b=H.size∧b<H'.size)) H' v' (l'++Y)→Fr (fun b _=>Z b) H H'→H'.size≤H.size+1→C H'∧Pl P B f Q n l C k p ((d,v')::r) H'):Pl P B f Q n l C k ((i,2)::p) r H:=by
 rcases hA with ⟨rfl,rfl⟩|hA
 ·
  rcases Nat.eq_zero_or_pos Y.length with h0|h0
  ·
   obtain rfl:Y=[]:=List.eq_nil_of_length_eq_zero h0
   obtain ⟨a,c,rfl⟩:=hv.len
   exact O.app00 hi hg hd T hx hy (h _ _ (.inl ⟨rfl,rfl⟩) (Fr.refl _ _) (by omega))
  ·
   refine O.appA hi hg hd T hx (.inl ⟨rfl,rfl⟩:Acc E Z H _ []) hy ?_ h0 hb h63 h
   rcases hv with ⟨b,o,c,e,_,hr⟩|⟨rfl,_⟩
   · exact ⟨b,o,c,e,hr⟩
   · cases h0
 · exact O.appI hi hg hd T hx hA hy hv hb h63 fun v' H' h1 h2 h3=>h v' H' (.inr h1) h2 h3
theorem O.cvk {src dst:TypeId} {x:Operand} {k1:IntKind} (kk:IntKind) {z v:Int} (hi:l[i]?=some ⟨some d,.convert src dst x,ty,pos,af,gd⟩) (hg:guardOn l r gd=true) (hd:Nat.blt d n=true)
  (hs:(P.underlying src).isSome=true) (hu:P.underlying dst=some (.int (P.intKind dst))) (hk:P.intKind dst=kk) (hx:ev r x=some (.int k1 z)) (hv:kk.wrap z=v) (hC:C H)
  (h:Pl P B f Q n l C k p ((d,.int kk v)::r) H):Pl P B f Q n l C k ((i,2)::p) r H:=
 Pl.loudV hi rfl hg hd (fun u H'=>u=.int kk v∧H'=H)
  (fun a d' ha=>⟨_,H,d',by
   have hc:(convert src dst (.int k1 z)).run P (mk B H d')=.ok (.int kk v) (mk B H d'):=by rw [run_convert_int _ src dst k1 z hs hu,hk,hv]
   simp [execOp,ha.eval hx,hc],rfl,rfl⟩)
  (fun u H' hu=>by obtain ⟨rfl,rfl⟩:=hu;exact ⟨hC,h⟩)
theorem wrap_idU {z:Int} (h:0≤z∧z<18446744073709551616):IntKind.u64.wrap z=z:=by
 have e:(2 ^ IntKind.u64.bits:Int)=18446744073709551616:=rfl
 unfold IntKind.wrap
 simp only [IntKind.signed,Bool.false_and,Bool.false_eq_true,if_false]
 rw [e]
 exact Int.emod_eq_of_lt h.1 h.2
theorem wrap_id8 {z:Int} (h:0≤z∧z<256):IntKind.u8.wrap z=z:=by
 have e:(2 ^ IntKind.u8.bits:Int)=256:=rfl
 unfold IntKind.wrap
 simp only [IntKind.signed,Bool.false_and,Bool.false_eq_true,if_false]
 rw [e]
 exact Int.emod_eq_of_lt h.1 h.2
end
section
variable {P:Program} {B:World} {f:FuncId} {Q:Value→Mem→Prop} {n:Nat} {r:Env} {H:Mem} {σ:Type}
theorem Go'.share2 {c c2:Item} {k:List Item} (J:σ→Mem→Prop) (q:σ→Env)
  (ht:∀s H',J s H'→Go' P B f Q n (q s) k H') (h:(∀s H',J s H'→Go' P B f Q n (q s) k H')→Go' P B f Q n r (c::c2::k) H):Go' P B f Q n r (c::c2::k) H:=h ht
theorem Go'.share3 {c c2 c3:Item} {k:List Item} (J:σ→Mem→Prop) (q:σ→Env)
  (ht:∀s H',J s H'→Go' P B f Q n (q s) k H') (h:(∀s H',J s H'→Go' P B f Q n (q s) k H')→Go' P B f Q n r (c::c2::c3::k) H):Go' P B f Q n r (c::c2::c3::k) H:=h ht
theorem Go'.joinL {l:Nat} {body X:Code} {k k2:List Item} (_hx:gotoIn l (.inScope body::k)=some (.code (.seq .skip X)::k2)) (J:σ→Mem→Prop) (q:σ→Env)
  (ht:∀s H',J s H'→Go' P B f Q n (q s) (.code X::k2) H') (h:(∀s H',J s H'→Go' P B f Q n (q s) (.code X::k2) H')→Go' P B f Q n r (.code body::.inScope body::k) H):Go' P B f Q n r (.code body::.inScope body::k) H:=h ht
end
section
variable {P:Program} {B:World} {f:FuncId} {Q:Value→Mem→Prop} {n:Nat} {r:Env} {k:List Item} {H:Mem} {l:List Oper} {C:Mem→Prop} {p:List (Nat×Nat)}
variable {i kd d:Nat} {ty:TypeId} {pos:String} {af:Array Edge} {gd:Option (Nat×Bool)}
theorem run_indexArr {t e:TypeId} {b o s len j:Nat} {kk:IntKind} (hu:P.underlying t=some (.array len e)) (hs:Sz P e s) (hj:j<len) (w:World):(Instr.indexAt t (.pointer (some ⟨b,o,none⟩)) (.int kk (j:Int))).run P w=.ok (.pointer (some ⟨b,o+j*s,none⟩)) w:=by
 have h:(0:Int)≤(j:Int)∧(j:Int)<(len:Int):=by omega
 simp only [Instr.indexAt,asIntOf,Instr.sureAddr,Sem.run_bind,Sem.run_pure,Result.andThen_ok,run_und hu,if_pos h,hs _,Int.toNat_natCast,Addr.add_lit]
theorem O.ixr {t e:TypeId} {x ix:Operand} {b o s len j:Nat} {kk:IntKind} {z:Int} (hi:l[i]?=some ⟨some d,.indexAddr t x ix,ty,pos,af,gd⟩) (hk:Nat.blt kd 2=true) (hg:guardOn l r gd=true) (hd:Nat.blt d n=true)
  (hu:P.underlying t=some (.array len e)) (hs:Sz P e s) (hx:ev r x=some (.pointer (some ⟨b,o,none⟩))) (hix:ev r ix=some (.int kk z)) (hz:z=(j:Int)) (hj:j<len)
  (h:Pl P B f Q n l C k p ((d,.pointer (some ⟨b,o+j*s,none⟩))::r) H):Pl P B f Q n l C k ((i,kd)::p) r H:=
 Pl.quiet hi hk hg hd (fun a H' d' ha _=>by subst hz;simp [execOp,ha.eval hx,ha.eval hix,run_indexArr hu hs hj]) h
end
theorem Fr.split {Z:Nat→Nat→Prop} {H H':Mem} {hb:Nat} (hlt:hb<H.size) (hf:Fr (fun b o=>Z b o∨b=hb) H H'):
  ∃Hm:Mem,Hm.size=H.size∧Fr (fun b _=>b=hb) H Hm∧Fr Z Hm H':=by
 have hlt':hb<H'.size:=Nat.lt_of_lt_of_le hlt hf.size
 obtain ⟨Hm,hm⟩:∃Hm:Mem,Hm=H.setIfInBounds hb H'[hb]:=⟨_,rfl⟩
 have hs:Hm.size=H.size:=by rw [hm,Array.size_setIfInBounds]
 have e1:∀b,b≠hb→Hm[b]?=H[b]?:=fun b hn=>by rw [hm,Array.getElem?_setIfInBounds,if_neg (fun e=>hn e.symm)]
 have e2:Hm[hb]?=H'[hb]?:=by rw [hm,Array.getElem?_setIfInBounds,if_pos rfl,if_pos hlt,Array.getElem?_eq_getElem hlt']
 have c1:∀b o,b≠hb→cl Hm b o=cl H b o∧fz Hm b o=fz H b o∧shp Hm b=shp H b:=fun b o hn=>by
  unfold cl fz shp;rw [e1 b hn];exact ⟨rfl,rfl,rfl⟩
 have c2:∀o,cl Hm hb o=cl H' hb o∧fz Hm hb o=fz H' hb o∧shp Hm hb=shp H' hb:=fun o=>by
  unfold cl fz shp;rw [e2];exact ⟨rfl,rfl,rfl⟩
 refine ⟨Hm,hs,⟨Nat.le_of_eq hs.symm,fun b o _ hn=>(c1 b o hn).1,fun b o hb'=>?_,fun b hb'=>?_,fun b _ hn=>e1 b (hn 0)⟩,⟨by rw [hs];exact hf.size,fun b o hb' hn=>?_,fun b o hb'=>?_,fun b hb'=>?_,fun b hb' hn=>?_⟩⟩
 ·
  by_cases e:b=hb
  · subst e;exact (c2 o).2.1.trans (hf.frz b o hb')
  · exact (c1 b o e).2.1
 ·
  by_cases e:b=hb
  · subst e;exact (c2 0).2.2.trans (hf.shape b hb')
  · exact (c1 b 0 e).2.2
 ·
  rw [hs] at hb'
  by_cases e:b=hb
  · subst e;exact (c2 o).1.symm
  · exact (hf.cell b o hb' (fun h=>h.elim hn e)).trans (c1 b o e).1.symm
 ·
  rw [hs] at hb'
  by_cases e:b=hb
  · subst e;exact (c2 o).2.1.symm
  · exact (hf.frz b o hb').trans (c1 b o e).2.1.symm
 ·
  rw [hs] at hb'
  by_cases e:b=hb
  · subst e;exact (c2 0).2.2.symm
  · exact (hf.shape b hb').trans (c1 b 0 e).2.2.symm
 ·
  rw [hs] at hb'
  by_cases e:b=hb
  · subst e;exact e2.symm
  · exact (hf.blk b hb' (fun o h=>h.elim (hn o) e)).trans (e1 b e).symm
end Go.Bt
namespace Go.Bt.Pl
theorem srt_ext {α:Type} {O:Swo α}:∀{l1 l2:List α},Srt O l1→Srt O l2→(∀y,y∈l1↔y∈l2)→l1=l2
 | [],[],_,_,_=>rfl
 | [],z::l2,_,_,h=>by have:=(h z).2 List.mem_cons_self;cases this
 | x::l1,[],_,_,h=>by have:=(h x).1 List.mem_cons_self;cases this
 | x::l1,z::l2,h1,h2,h=>by
  have g1:=(Srt.cons O).1 h1
  have g2:=(Srt.cons O).1 h2
  have e:x=z:=by
   rcases List.mem_cons.1 ((h x).1 List.mem_cons_self) with e|hx
   · exact e
   ·
    rcases List.mem_cons.1 ((h z).2 List.mem_cons_self) with e|hz
    · exact e.symm
    ·
     have a:=g2.1 x hx
     have b:=g1.1 z hz
     rw [O.asy a] at b;cases b
  subst e
  rw [srt_ext g1.2 g2.2 fun y=>?_]
  constructor
  ·
   intro hy
   rcases List.mem_cons.1 ((h y).1 (List.mem_cons_of_mem _ hy)) with e|hy2
   · subst e;have:=g1.1 _ hy;rw [O.irr] at this;cases this
   · exact hy2
  ·
   intro hy
   rcases List.mem_cons.1 ((h y).2 (List.mem_cons_of_mem _ hy)) with e|hy2
   · subst e;have:=g2.1 _ hy;rw [O.irr] at this;cases this
   · exact hy2
end Go.Bt.Pl
namespace Go.Bt
open Go
namespace Pl
def bl {α:Type} (K:List (List α)) (i:Nat):Nat:=((K.take i).map fun k=>k.length+1).sum
theorem bl_0 {α:Type} (K:List (List α)):bl K 0=0:=by simp [bl]
theorem bl_succ {α:Type} {K:List (List α)} {i:Nat} {k:List α} (h:K[i]?=some k):bl K (i+1)=bl K i+k.length+1:=by
 unfold bl
 rw [List.take_add_one,h]
 simp
 omega
theorem inter_bl {α:Type}:∀(X:List α) (K:List (List α)),K.length=X.length+1→∀{i:Nat} {k:List α},K[i]?=some k→
  (∀j,j<k.length→(inter X K)[bl K i+j]?=k[j]?)∧bl K i+k.length≤(inter X K).length∧(i=X.length→bl K i+k.length=(inter X K).length)∧∀y,X[i]?=some y→(inter X K)[bl K i+k.length]?=some y
 | [],[k0],_,i,k,hk=>by
  have hi:i=0:=by
   rcases i with _|i
   · rfl
   · simp at hk
  subst hi
  simp only [List.getElem?_cons_zero,Option.some.injEq] at hk
  subst hk
  simp [bl,inter]
 | x::X,k0::K,h,i,k,hk=>by
  have hlen:(inter (x::X) (k0::K)).length=k0.length+1+(inter X K).length:=by simp [inter];omega
  rcases i with _|i
  ·
   simp only [List.getElem?_cons_zero,Option.some.injEq] at hk
   subst hk
   rw [bl_0,hlen]
   refine ⟨fun j hj=>?_,by omega,fun hh=>by simp at hh,fun y hy=>?_⟩
   · rw [Nat.zero_add];simp only [inter];rw [List.getElem?_append_left hj]
   ·
    simp only [List.getElem?_cons_zero,Option.some.injEq] at hy
    subst hy
    rw [Nat.zero_add];simp only [inter];rw [List.getElem?_append_right (Nat.le_refl _),Nat.sub_self];rfl
  ·
   simp only [List.getElem?_cons_succ] at hk
   obtain ⟨h1,h2,h3,h4⟩:=inter_bl X K (by simpa using h) hk
   have hb:bl (k0::K) (i+1)=k0.length+1+bl K i:=by simp [bl]
   have hget:∀m,(inter (x::X) (k0::K))[k0.length+1+m]?=(inter X K)[m]?:=fun m=>by
    simp only [inter]
    rw [List.getElem?_append_right (by omega),show k0.length+1+m-k0.length=m+1 by omega,List.getElem?_cons_succ]
   rw [hb,hlen]
   refine ⟨fun j hj=>?_,by omega,fun hh=>?_,fun y hy=>?_⟩
   · rw [Nat.add_assoc,hget];exact h1 j hj
   · have:=h3 (by simpa using hh);omega
   · rw [Nat.add_assoc,hget];exact h4 y (by simpa using hy)
 | [],[],h,_,_,_=>by simp at h
 | [],_::_::_,h,_,_,_=>by simp at h
 | _::_,[],h,_,_,_=>by simp at h
end Pl
section
variable {α:Type} {E:Elt α}
def Ctx {h0:Nat} (t0:Gt E h0):List (Nat×Int)→(h:Nat)→Gt E h→Nat→Prop
 | [],h,s,a=>(⟨h0,t0⟩:(h:Nat)×Gt E h)=⟨h,s⟩∧a=0
 | x::fs,h,s,a=>∃(g:Ng) (X:List α) (K:List (Gt E h)) (i a':Nat),x=(g.p,(i:Int))∧K[i]?=some s∧Ctx t0 fs (h+1) (g,X,K) a'∧a=a'+Pl.bl (K.map (Gt.L h)) i
theorem Ctx.root {h0:Nat} (t0:Gt E h0):Ctx t0 [] h0 t0 0:=⟨rfl,rfl⟩
theorem Ctx.down {h0 h:Nat} {t0:Gt E h0} {fs:List (Nat×Int)} {g:Ng} {X:List α} {K:List (Gt E h)} {a i:Nat} {s:Gt E h} (hc:Ctx t0 fs (h+1) (g,X,K) a) (hi:K[i]?=some s):
  Ctx t0 ((g.p,(i:Int))::fs) h s (a+Pl.bl (K.map (Gt.L h)) i):=⟨g,X,K,i,a,rfl,hi,hc,rfl⟩
theorem Ctx.good {H:Mem} {P:Ps} {h0:Nat} {t0:Gt E h0} (hP:1≤P.mn) (hg:Gt.Good H P h0 t0) (hx:1≤(Gt.X h0 t0).length):∀{fs:List (Nat×Int)} {h:Nat} {s:Gt E h} {a:Nat},Ctx t0 fs h s a→Gt.Good H P h s∧1≤(Gt.X h s).length∧fs.length+h=h0∧∀b o,Gt.af h s b o→Gt.af h0 t0 b o
 | [],h,s,a,hc=>by
  obtain ⟨e,_⟩:=hc
  cases e
  exact ⟨hg,hx,by simp,fun _ _ h=>h⟩
 | x::fs,h,s,a,hc=>by
  obtain ⟨g,X,K,i,a',_,hi,hc',_⟩:=hc
  obtain ⟨h1,_,h3,h4⟩:=Ctx.good hP hg hx hc'
  have hk:s∈K:=List.mem_of_getElem? hi
  have h5:=h1.kids.1 s hk
  exact ⟨h5.1,Nat.le_trans hP h5.2.1,by rw [List.length_cons];omega,fun b o hb=>h4 b o (.inr (.inr ⟨s,hk,hb⟩))⟩
theorem Ctx.list {H:Mem} {P:Ps} {h0:Nat} {t0:Gt E h0} (hP:1≤P.mn) (hg:Gt.Good H P h0 t0) (hx:1≤(Gt.X h0 t0).length):∀{fs:List (Nat×Int)} {h:Nat} {s:Gt E h} {a:Nat},Ctx t0 fs h s a→(∀j,j<(Gt.L h s).length→(Gt.L h0 t0)[a+j]?=(Gt.L h s)[j]?)∧a+(Gt.L h s).length≤(Gt.L h0 t0).length
 | [],h,s,a,hc=>by
  obtain ⟨e,rfl⟩:=hc
  cases e
  exact ⟨fun j _=>by rw [Nat.zero_add],by omega⟩
 | x::fs,h,s,a,hc=>by
  obtain ⟨g,X,K,i,a',_,hi,hc',rfl⟩:=hc
  obtain ⟨h1,h2⟩:=Ctx.list hP hg hx hc'
  have hgd:=(Ctx.good hP hg hx hc').1
  have hKl:(K.map (Gt.L h)).length=X.length+1:=by rw [List.length_map];exact hgd.2.2.2.2.2.1
  have hi':(K.map (Gt.L h))[i]?=some (Gt.L h s):=by rw [List.getElem?_map,hi];rfl
  obtain ⟨b1,b2,_,_⟩:=Pl.inter_bl X (K.map (Gt.L h)) hKl hi'
  have e:Gt.L (h+1) ((g,X,K):Gt E (h+1))=Pl.inter X (K.map (Gt.L h)):=rfl
  rw [e] at h1 h2
  refine ⟨fun j hj=>?_,by omega⟩
  rw [Nat.add_assoc,h1 _ (by omega)]
  exact b1 j hj
theorem Ctx.xl {H:Mem} {P:Ps} {h0:Nat} {t0:Gt E h0} (hP:1≤P.mn) (hg:Gt.Good H P h0 t0) (hx:1≤(Gt.X h0 t0).length) {fs:List (Nat×Int)}:∀{h:Nat} {s:Gt E h} {a:Nat},Ctx t0 fs h s a→(Gt.X h s).length≤(Gt.L h0 t0).length
 | 0,s,a,hc=>by
  have h1:=(Ctx.list hP hg hx hc).2
  have e:(Gt.L 0 s).length=(Gt.X 0 s).length:=rfl
  omega
 | h+1,(g,X,K),a,hc=>by
  have h1:=(Ctx.list hP hg hx hc).2
  have hgd:=(Ctx.good hP hg hx hc).1
  have hKL:K.length=X.length+1:=hgd.2.2.2.2.2.1
  have h2:=(Pl.sublist_inter X (K.map (Gt.L h)) (by rw [List.length_map];omega)).length_le
  have e:(Gt.L (h+1) ((g,X,K):Gt E (h+1))).length=(Pl.inter X (K.map (Gt.L h))).length:=rfl
  show X.length≤_
  omega
theorem Gt.high {H:Mem} {P:Ps} (hP:1≤P.mn):∀{h:Nat} {t:Gt E h},Gt.Good H P h t→1≤(Gt.X h t).length→h+1≤(Gt.L h t).length
 | 0,_,_,hx=>hx
 | h+1,(g,X,K),hg,hx=>by
  have hKl:K.length=X.length+1:=hg.2.2.2.2.2.1
  obtain ⟨k,hk⟩:∃k,K[0]?=some k:=⟨K[0],List.getElem?_eq_getElem (by omega)⟩
  have hm:k∈K:=List.mem_of_getElem? hk
  have h1:=hg.kids.1 k hm
  have h2:=Gt.high hP h1.1 (Nat.le_trans hP h1.2.1)
  have hk':(K.map (Gt.L h))[0]?=some (Gt.L h k):=by rw [List.getElem?_map,hk];rfl
  have hx0:1≤X.length:=hx
  obtain ⟨y,hy⟩:∃y,X[0]?=some y:=⟨X[0],List.getElem?_eq_getElem hx0⟩
  obtain ⟨_,_,_,b4⟩:=Pl.inter_bl X (K.map (Gt.L h)) (by rw [List.length_map];exact hKl) hk'
  have h3:=(List.getElem?_eq_some_iff.1 (b4 y hy)).1
  rw [Pl.bl_0] at h3
  show h+1+1≤(Pl.inter X (K.map (Gt.L h))).length
  omega
theorem Ctx.item0 {H:Mem} {P:Ps} {h0:Nat} {t0:Gt E h0} (hP:1≤P.mn) (hg:Gt.Good H P h0 t0) (hx:1≤(Gt.X h0 t0).length) {fs:List (Nat×Int)} {g:Ng} {X:List α} {a i:Nat} {y:α} (hc:Ctx t0 fs 0 ((g,X):Gt E 0) a) (hy:X[i]?=some y):(Gt.L h0 t0)[a+i]?=some y:=
 ((Ctx.list hP hg hx hc).1 i (List.getElem?_eq_some_iff.1 hy).1).trans hy
theorem Ctx.item1 {H:Mem} {P:Ps} {h0 h:Nat} {t0:Gt E h0} (hP:1≤P.mn) (hg:Gt.Good H P h0 t0) (hx:1≤(Gt.X h0 t0).length) {fs:List (Nat×Int)} {g:Ng} {X:List α} {K:List (Gt E h)} {a i:Nat} {y:α} {k:List α} (hc:Ctx t0 fs (h+1) ((g,X,K):Gt E (h+1)) a) (hk:(K.map (Gt.L h))[i]?=some k) (hy:X[i]?=some y):
  (Gt.L h0 t0)[a+(Pl.bl (K.map (Gt.L h)) i+k.length)]?=some y:=by
 have hgd:=(Ctx.good hP hg hx hc).1
 have hKl:(K.map (Gt.L h)).length=X.length+1:=by rw [List.length_map];exact hgd.2.2.2.2.2.1
 have hb:=(Pl.inter_bl X (K.map (Gt.L h)) hKl hk).2.2.2 y hy
 exact ((Ctx.list hP hg hx hc).1 _ (List.getElem?_eq_some_iff.1 hb).1).trans hb
def Stand {h0:Nat} (t0:Gt E h0) (fr:List (Nat×Int)) (q:Nat):Prop:=
 (∃(fs:List (Nat×Int)) (g:Ng) (X:List α) (a i:Nat),fr=(g.p,(i:Int))::fs∧Ctx t0 fs 0 ((g,X):Gt E 0) a∧i<X.length∧q=a+i)∨
 ∃(fs:List (Nat×Int)) (h:Nat) (g:Ng) (X:List α) (K:List (Gt E h)) (a i:Nat),fr=(g.p,(i:Int))::fs∧Ctx t0 fs (h+1) ((g,X,K):Gt E (h+1)) a∧i<X.length∧q+1=a+Pl.bl (K.map (Gt.L h)) (i+1)
def Gap {h0:Nat} (t0:Gt E h0) (fr:List (Nat×Int)) (q:Nat):Prop:=
 (∃(fs:List (Nat×Int)) (g:Ng) (X:List α) (a i:Nat),fr=(g.p,(i:Int)-1)::fs∧Ctx t0 fs 0 ((g,X):Gt E 0) a∧i≤X.length∧q=a+i)∨
 ∃(fs:List (Nat×Int)) (h:Nat) (g:Ng) (X:List α) (K:List (Gt E h)) (a i:Nat),fr=(g.p,(i:Int))::fs∧Ctx t0 fs (h+1) ((g,X,K):Gt E (h+1)) a∧i<X.length∧q=a+Pl.bl (K.map (Gt.L h)) (i+1)
theorem Stand.gap {h0:Nat} {t0:Gt E h0} {fr:List (Nat×Int)} {q:Nat} (h:Stand t0 fr q):Gap t0 fr (q+1):=by
 rcases h with ⟨fs,g,X,a,i,e,hc,hi,hq⟩|⟨fs,h,g,X,K,a,i,e,hc,hi,hq⟩
 · exact .inl ⟨fs,g,X,a,i+1,by rw [e];congr 2;omega,hc,hi,by omega⟩
 · exact .inr ⟨fs,h,g,X,K,a,i,e,hc,hi,hq⟩
theorem Stand.item {H:Mem} {P:Ps} {h0:Nat} {t0:Gt E h0} {fr:List (Nat×Int)} {q:Nat} (hP:1≤P.mn) (hg:Gt.Good H P h0 t0) (hx:1≤(Gt.X h0 t0).length) (h:Stand t0 fr q):
  ∃(fs:List (Nat×Int)) (g:Ng) (X:List α) (kp:Value) (i:Nat) (y:α),fr=(g.p,(i:Int))::fs∧NodeM E H g X kp∧i<X.length∧X[i]?=some y∧(Gt.L h0 t0)[q]?=some y∧fs.length≤h0:=by
 rcases h with ⟨fs,g,X,a,i,e,hc,hi,hq⟩|⟨fs,h,g,X,K,a,i,e,hc,hi,hq⟩
 ·
  have hgd:=(Ctx.good hP hg hx hc).1
  have hl:=(Ctx.list hP hg hx hc).1 i hi
  have hy:X[i]?=some X[i]:=List.getElem?_eq_getElem hi
  exact ⟨fs,g,X,_,i,X[i],e,hgd.1,hi,hy,by rw [hq,hl];exact hy,by have:=(Ctx.good hP hg hx hc).2.2.1;omega⟩
 ·
  have hgd:=(Ctx.good hP hg hx hc).1
  have hKl:K.length=X.length+1:=hgd.2.2.2.2.2.1
  obtain ⟨k,hk⟩:∃k,K[i]?=some k:=⟨K[i],List.getElem?_eq_getElem (by omega)⟩
  have hk':(K.map (Gt.L h))[i]?=some (Gt.L h k):=by rw [List.getElem?_map,hk];rfl
  have hy:X[i]?=some X[i]:=List.getElem?_eq_getElem hi
  obtain ⟨_,_,_,b4⟩:=Pl.inter_bl X (K.map (Gt.L h)) (by rw [List.length_map];exact hKl) hk'
  have hb:=b4 _ hy
  have hl:=(Ctx.list hP hg hx hc).1 (Pl.bl (K.map (Gt.L h)) i+(Gt.L h k).length) (List.getElem?_eq_some_iff.1 hb).1
  rw [Pl.bl_succ hk'] at hq
  exact ⟨fs,g,X,_,i,X[i],e,hgd.1,hi,hy,by rw [show q=a+(Pl.bl (K.map (Gt.L h)) i+(Gt.L h k).length) by omega,hl];exact hb,by have:=(Ctx.good hP hg hx hc).2.2.1;omega⟩
def EK:Elt (Nat×Int):={ enc:=fun x=>[.pointer (some ⟨x.1,0,none⟩),.int .i64 x.2],s:=2,len:=fun _=>rfl,one:=fun _=>rfl,pos:=by decide }
theorem Acc.form {β:Type} {F:Elt β} {Z:Nat→Prop} {H:Mem} {v:Value} {l:List β} (h:Acc F Z H v l):∃a m c,v=.slice a m c:=by
 rcases h with ⟨e,_⟩|⟨b,o,c,e,_⟩
 · exact ⟨_,_,_,e⟩
 · exact ⟨_,_,_,e⟩
theorem Acc.take {β:Type} {F:Elt β} {Z:Nat→Prop} {H:Mem} {b o c i:Nat} {l:List β} (h:SlE F H b o c l) (hz:Z b) (hb:b<H.size) (hi:i≤l.length):Acc F Z H (.slice (some ⟨b,o,none⟩) i c) (l.take i):=
 .inr ⟨b,o,c,by rw [List.length_take,Nat.min_eq_left hi],hz,hb,h.take i⟩
end
section
variable {α:Type} {E:Elt α} {H0 H H':Mem} {it tr:Nat} {mt sk as ae:Bool} {Z0 Z:Nat→Prop} {fr fs:List (Nat×Int)} {kv:α} {p:Nat} {z:Int}
structure Itr (E:Elt α) (H0 H:Mem) (it tr:Nat) (mt:Bool) (Z0:Nat→Prop) (sk as ae:Bool) (Z:Nat→Prop) (fr:List (Nat×Int)) (kv:α):Prop where
 c0:cl H it 0=some (.pointer (some ⟨tr,0,none⟩))
 c1:cl H it 1=some (.bool mt)
 c2:cl H it 2=some (.bool sk)
 c3:cl H it 3=some (.bool as)
 c4:cl H it 4=some (.bool ae)
 st:∃sv,cl H it 5=some sv∧Acc EK Z H sv fr.reverse
 kv:Rd H it 6 (E.enc kv)
 wr:Wr H it 0 (6+E.s)
 nz:¬Z it
 f:Fr (fun b _=>b=it∨Z0 b) H0 H
 zz:∀b,Z b→Z0 b∨H0.size≤b
theorem Itr.re (h:Itr E H0 H it tr mt Z0 sk as ae Z fr kv):Itr E H H it tr mt Z sk as ae Z fr kv:={ h with f:=Fr.refl _ _,zz:=fun _ hb=>.inl hb }
theorem Itr.w (h:Itr E H0 H it tr mt Z0 sk as ae Z fr kv) (i:Nat) (hi:i<6):Wr H it i 1:=h.wr.at0 i 1 (by omega)
theorem Itr.wk (h:Itr E H0 H it tr mt Z0 sk as ae Z fr kv):Wr H it 6 E.s:=h.wr.at0 6 E.s (Nat.le_refl _)
theorem Itr.fit (h:Itr E H0 H it tr mt Z0 sk as ae Z fr kv) {o:Nat} {vs:List Value} (W:Wrote H H' it o vs):Fr (fun b _=>b=it∨Z0 b) H0 H':=
 h.f.trans' W.fr (fun _ _ _ h=>h) fun b o _ hz=>.inl hz.1
theorem Itr.acc1 (h:Itr E H0 H it tr mt Z0 sk as ae Z fr kv) {o:Nat} {vs:List Value} (W:Wrote H H' it o vs) {sv:Value} {l:List (Nat×Int)} (hA:Acc EK Z H sv l):Acc EK Z H' sv l:=
 hA.fr W.fr fun b o _ hb hz=>h.nz (by have e:b=it:=hz.1;rw [e] at hb;exact hb)
theorem Itr.kv1 (h:Itr E H0 H it tr mt Z0 sk as ae Z fr kv) {o:Nat} {v:Value} (W:Wrote H H' it o [v]) (ho:o<6):Rd H' it 6 (E.enc kv):=
 W.fr.rd h.kv fun i _ hz=>by have:=hz.2.2;simp only [List.length_singleton] at this;omega
theorem Itr.set2 (h:Itr E H0 H it tr mt Z0 sk as ae Z fr kv) {v:Bool} (W:Wrote H H' it 2 [.bool v]):Itr E H0 H' it tr mt Z0 v as ae Z fr kv where
 c0:=W.keep1 h.c0 (.inr (by decide))
 c1:=W.keep1 h.c1 (.inr (by decide))
 c2:=W.at
 c3:=W.keep1 h.c3 (.inr (by decide))
 c4:=W.keep1 h.c4 (.inr (by decide))
 st:=have ⟨sv,h1,h2⟩:=h.st;⟨sv,W.keep1 h1 (.inr (by decide)),h.acc1 W h2⟩
 kv:=h.kv1 W (by decide)
 wr:=W.fr.wr h.wr
 nz:=h.nz
 f:=h.fit W
 zz:=h.zz
theorem Itr.set3 (h:Itr E H0 H it tr mt Z0 sk as ae Z fr kv) {v:Bool} (W:Wrote H H' it 3 [.bool v]):Itr E H0 H' it tr mt Z0 sk v ae Z fr kv where
 c0:=W.keep1 h.c0 (.inr (by decide))
 c1:=W.keep1 h.c1 (.inr (by decide))
 c2:=W.keep1 h.c2 (.inr (by decide))
 c3:=W.at
 c4:=W.keep1 h.c4 (.inr (by decide))
 st:=have ⟨sv,h1,h2⟩:=h.st;⟨sv,W.keep1 h1 (.inr (by decide)),h.acc1 W h2⟩
 kv:=h.kv1 W (by decide)
 wr:=W.fr.wr h.wr
 nz:=h.nz
 f:=h.fit W
 zz:=h.zz
theorem Itr.set4 (h:Itr E H0 H it tr mt Z0 sk as ae Z fr kv) {v:Bool} (W:Wrote H H' it 4 [.bool v]):Itr E H0 H' it tr mt Z0 sk as v Z fr kv where
 c0:=W.keep1 h.c0 (.inr (by decide))
 c1:=W.keep1 h.c1 (.inr (by decide))
 c2:=W.keep1 h.c2 (.inr (by decide))
 c3:=W.keep1 h.c3 (.inr (by decide))
 c4:=W.at
 st:=have ⟨sv,h1,h2⟩:=h.st;⟨sv,W.keep1 h1 (.inr (by decide)),h.acc1 W h2⟩
 kv:=h.kv1 W (by decide)
 wr:=W.fr.wr h.wr
 nz:=h.nz
 f:=h.fit W
 zz:=h.zz
theorem Itr.set5 (h:Itr E H0 H it tr mt Z0 sk as ae Z fr kv) {sv:Value} {fr':List (Nat×Int)} (hA:Acc EK Z H sv fr'.reverse) (W:Wrote H H' it 5 [sv]):Itr E H0 H' it tr mt Z0 sk as ae Z fr' kv where
 c0:=W.keep1 h.c0 (.inr (by decide))
 c1:=W.keep1 h.c1 (.inr (by decide))
 c2:=W.keep1 h.c2 (.inr (by decide))
 c3:=W.keep1 h.c3 (.inr (by decide))
 c4:=W.keep1 h.c4 (.inr (by decide))
 st:=⟨sv,W.at,h.acc1 W hA⟩
 kv:=h.kv1 W (by decide)
 wr:=W.fr.wr h.wr
 nz:=h.nz
 f:=h.fit W
 zz:=h.zz
theorem Itr.set6 (h:Itr E H0 H it tr mt Z0 sk as ae Z fr kv) {x:α} (W:Wrote H H' it 6 (E.enc x)):Itr E H0 H' it tr mt Z0 sk as ae Z fr x:=
 have hk:∀{o:Nat} {v:Value},o<6→cl H it o=some v→cl H' it o=some v:=fun ho hc=>W.fr.keep hc fun hz=>by have:=hz.2.1;omega
 { c0:=hk (by decide) h.c0,c1:=hk (by decide) h.c1,c2:=hk (by decide) h.c2,c3:=hk (by decide) h.c3,c4:=hk (by decide) h.c4,st:=have ⟨sv,h1,h2⟩:=h.st;⟨sv,hk (by decide) h1,h.acc1 W h2⟩,kv:=W.all,wr:=W.fr.wr h.wr,nz:=h.nz,f:=h.fit W,zz:=h.zz }
structure TopC (H:Mem) (it b o c p:Nat) (z:Int) (n:Nat):Prop where
 c5:cl H it 5=some (.slice (some ⟨b,o,none⟩) (n+1) c)
 cp:cl H b (o+n*2)=some (.pointer (some ⟨p,0,none⟩))
 ci:cl H b (o+n*2+1)=some (.int .i64 z)
 wi:Wr H b (o+n*2+1) 1
 le:n+1≤c
theorem Itr.stk (h:Itr E H0 H it tr mt Z0 sk as ae Z ((p,z)::fs) kv):∃b o c,cl H it 5=some (.slice (some ⟨b,o,none⟩) (fs.length+1) c)∧Z b∧b<H.size∧SlE EK H b o c (fs.reverse++[(p,z)]):=by
 obtain ⟨sv,h1,h2⟩:=h.st
 rw [List.reverse_cons] at h2
 rcases h2 with ⟨_,e⟩|⟨b,o,c,rfl,hz,hb,hs⟩
 · simp at e
 ·
  rw [List.length_append,List.length_reverse,List.length_singleton] at h1
  exact ⟨b,o,c,h1,hz,hb,hs⟩
theorem TopC.of {b o c:Nat} (h1:cl H it 5=some (.slice (some ⟨b,o,none⟩) (fs.length+1) c)) (hs:SlE EK H b o c (fs.reverse++[(p,z)])):TopC H it b o c p z fs.length:=by
 have hl:(fs.reverse++[(p,z)]).length=fs.length+1:=by rw [List.length_append,List.length_reverse,List.length_singleton]
 have hx:(fs.reverse++[(p,z)])[fs.length]?=some (p,z):=by rw [List.getElem?_append_right (by rw [List.length_reverse];exact Nat.le_refl _),List.length_reverse,Nat.sub_self];rfl
 exact ⟨h1,hs.cell hx (j:=0) rfl,hs.cell hx (j:=1) rfl,by
  have:=(hs.wri (i:=fs.length) (by omega)).part 1 1 (by decide)
  exact this,by have:=hs.hle;omega⟩
theorem Itr.top (h:Itr E H0 H it tr mt Z0 sk as ae Z ((p,z)::fs) kv):∃b o c,TopC H it b o c p z fs.length:=by
 obtain ⟨b,o,c,h1,_,_,hs⟩:=h.stk
 exact ⟨b,o,c,TopC.of h1 hs⟩
def StI (r:Option ((h:Nat)×Gt E h)) (l:List α) (sk:Bool) (fr:List (Nat×Int)) (kv:α):Option Nat→Prop
 | none=>fr=[]
 | some q=>sk=true∧l[q]?=some kv∧∃h t,r=some ⟨h,t⟩∧Stand t fr q
structure TreeR (H:Mem) (tr:Nat) (P:Ps) (S:Nat→Prop) (l:List α) (r:Option ((h:Nat)×Gt E h)):Prop where
 iso:cl H tr 0=some (.int .u64 (P.iso:Int))
 own:S tr
 lt:∀b,S b→b<H.size
 ll:l.length≤4294967296
 mn:1≤P.mn
 rt:match r with
  | none=>l=[]∧cl H tr 2=some (.pointer none)
  | some ⟨h,t⟩=>Gt.Good H P h t∧1≤(Gt.X h t).length∧Gt.L h t=l∧cl H tr 2=some (ptr (Gt.p h t))∧∀b o,Gt.af h t b o→S b
theorem TreeR.keep {P:Ps} {S:Nat→Prop} {l:List α} {r:Option ((h:Nat)×Gt E h)} (h:TreeR H tr P S l r) {X:Nat→Nat→Prop} (hf:Fr X H H') (hx:∀b o,S b→¬X b o):TreeR H' tr P S l r where
 iso:=hf.keep h.iso (hx _ _ h.own)
 own:=h.own
 lt:=fun b hb=>Nat.lt_of_lt_of_le (h.lt b hb) hf.size
 ll:=h.ll
 mn:=h.mn
 rt:=by
  have h1:=h.rt
  cases r with
  | none=>exact ⟨h1.1,hf.keep h1.2 (hx _ _ h.own)⟩
  | some s=>
   obtain ⟨hh,t⟩:=s
   obtain ⟨h2,h3,h4,h5,h6⟩:=h1
   exact ⟨h2.fr hf fun b o hb=>hx b o (h6 b o hb),h3,h4,hf.keep h5 (hx _ _ h.own),h6⟩
def ItPost (E:Elt α) (H H':Mem) (it tr:Nat) (mt:Bool) (Z0:Nat→Prop) (r:Option ((h:Nat)×Gt E h)) (l:List α) (st:Option Nat):Prop:=
 ∃sk as ae Z fr kv,Itr E H H' it tr mt Z0 sk as ae Z fr kv∧StI r l sk fr kv st
theorem ItPost.trans {H1 H3:Mem} {P:Ps} {S:Nat→Prop} {Z2:Nat→Prop} {r:Option ((h:Nat)×Gt E h)} {l:List α} {sk' as' ae':Bool} {kv':α} {fr':List (Nat×Int)} {q:Option Nat} (h:Itr E H H1 it tr mt Z sk' as' ae' Z2 fr' kv') (hp:ItPost E H1 H3 it tr mt Z2 r l q):ItPost E H H3 it tr mt Z r l q:=by
 obtain ⟨sk,as,ae,Z3,fr,kv,hI,hS⟩:=hp
 have hs1:=h.f.size
 exact ⟨sk,as,ae,Z3,fr,kv,{ hI with
  f:=h.f.trans' hI.f (fun _ _ _ h=>h) fun b o hb hz=>hz.elim .inl fun hz=>(h.zz b hz).elim .inr fun hge=>by omega
  zz:=fun b hb=>(hI.zz b hb).elim (h.zz b) fun hge=>.inr (by omega) },hS⟩
end
namespace Pl
theorem pre_bl {α:Type}:∀(X:List α) (K:List (List α)) (i:Nat),i≤X.length→i≤K.length→(pre (X.take i) (K.take i)).length=bl K i
 | X,K,0,_,_=>by simp [pre,bl]
 | x::X,k::K,i+1,h1,h2=>by
  have:=pre_bl X K i (by simpa using h1) (by simpa using h2)
  simp only [List.take_succ_cons,pre,List.length_append,List.length_cons,this]
  simp [bl]
  omega
 | [],_,i+1,h,_=>by simp at h
 | _::_,[],i+1,_,h=>by simp at h
theorem inter_rank_found {α:Type} {O:Swo α} {x:α} {X:List α} {K:List (List α)} (hs:Srt O (inter X K)) (hl:K.length=X.length+1) (h:fnd O x X=true) {k:List α} (hk:K[pos O x X]?=some k):
  pos O x (inter X K)=bl K (pos O x X)+k.length:=by
 have hlt:=fnd_pos_lt O h
 obtain ⟨y,hy,h1,h2⟩:=fnd_at O (hs.sublist (sublist_inter X K (by omega))) h
 exact (search_found O hs ((inter_bl X K hl hk).2.2.2 y hy) h1 h2).1
theorem inter_rank_child {α:Type} {O:Swo α} {x:α} {X:List α} {K:List (List α)} (hs:Srt O (inter X K)) (hl:K.length=X.length+1) (h:fnd O x X=false) {k:List α} (hk:K[pos O x X]?=some k):
  pos O x (inter X K)=bl K (pos O x X)+pos O x k:=by
 obtain ⟨he,ha,hc,_⟩:=inter_child O hs hl h hk
 have hp:=pos_le O x X
 rw [he,pos_mid O ha hc,pre_bl X K _ hp (by omega)]
end Pl
section
variable {P:Program} {B:World} {f:FuncId} {Q:Value→Mem→Prop} {n:Nat} {r:Env} {k:List Item} {H:Mem} {l:List Oper} {C:Mem→Prop} {p:List (Nat×Nat)}
variable {i kd d:Nat} {ty:TypeId} {pos:String} {af:Array Edge} {gd:Option (Nat×Bool)}
theorem O.slcNil {t e:TypeId} {x:Operand} {hi':Option Operand} {s:Nat} (hi:l[i]?=some ⟨some d,.slice t x none hi' none,ty,pos,af,gd⟩) (hk:Nat.blt kd 2=true) (hg:guardOn l r gd=true) (hd:Nat.blt d n=true)
  (hu:P.underlying t=some (.slice e)) (hs:Sz P e s) (hx:ev r x=some (.slice none 0 0)) (hh:bnd r 0 hi' 0)
  (h:Pl P B f Q n l C k p ((d,.slice none 0 0)::r) H):Pl P B f Q n l C k ((i,kd)::p) r H:=by
 refine Pl.quiet hi hk hg hd (fun ac H' d' ha _=>?_) h
 have hb:(Instr.sliceBounds true 0 0 none (hi'.map ac.eval) none).run P (mk B H' d')=.ok (0,0,0) (mk B H' d'):=by
  have z0:∀(w:World) (kk:IntKind) (m:Nat) (c:BoundsCode),(Instr.sliceBound (.int kk 0) m c).run P w=.ok 0 w:=fun w kk m c=>run_sliceBound w kk 0 m c (Nat.zero_le m)
  unfold Instr.sliceBounds
  cases hi' with
  | none=>simp
  | some z=>
   obtain ⟨kz,hz⟩:=hh
   simp [ha.eval hz,z0]
 simp only [execOp,ha.eval hx,Sem.run_bind,Sem.run_pure,Instr.sliceAt,run_und hu,Result.andThen_ok,Instr.slice,Option.map_none,hb,hs _]
 rfl
theorem O.slcA {β:Type} {F:Elt β} {t e:TypeId} {x:Operand} {hi':Option Operand} {v:Value} {l':List β} {j:Nat} {Z:Nat→Prop} (hi:l[i]?=some ⟨some d,.slice t x none hi' none,ty,pos,af,gd⟩) (hk:Nat.blt kd 2=true) (hg:guardOn l r gd=true) (hd:Nat.blt d n=true)
  (hu:P.underlying t=some (.slice e)) (hs:Sz P e F.s) (hx:ev r x=some v) (hA:Acc F Z H v l') (hh:bnd r l'.length hi' j) (h2:j≤l'.length)
  (h:∀v',Acc F Z H v' (l'.take j)→Pl P B f Q n l C k p ((d,v')::r) H):Pl P B f Q n l C k ((i,kd)::p) r H:=by
 rcases hA with ⟨rfl,rfl⟩|⟨b,o,c,rfl,hz,hb,hS⟩
 ·
  obtain rfl:j=0:=by simpa using h2
  exact O.slcNil hi hk hg hd hu hs hx hh (h _ (by simpa using Acc.nil F Z H))
 ·
  refine O.slc (jl:=0) (jh:=j) (jm:=c) hi hk hg hd hu hs hx rfl hh rfl (Nat.zero_le _) (Nat.le_trans h2 hS.hle) (Nat.le_refl _) (by simp) fun o' ho'=>h _ ?_
  have hlen:(l'.take j).length=j:=by rw [List.length_take];omega
  rw [Nat.sub_zero,Nat.sub_zero]
  refine .inr ⟨b,o',c,by rw [hlen],hz,hb,?_⟩
  have e:=hS.take j
  rcases Nat.eq_zero_or_pos c with rfl|hc
  ·
   obtain rfl:j=0:=by have:=hS.hle;omega
   refine ⟨by simp [row],by simp,by simpa [row] using Rd.nil _ _ _,fun i hi=>by simp at hi⟩
  ·
   have:o'=o:=by have:=ho' hc;omega
   rw [this];exact e
end
theorem Go'.mono {P:Program} {B:World} {f:FuncId} {Q Q':Value→Mem→Prop} {n:Nat} {r:Env} {k:List Item} {H:Mem} (hq:∀v H',Q v H'→Q' v H') (h:Go' P B f Q n r k H):Go' P B f Q' n r k H:=
 fun d a ha b cs hb hk=>
  let ⟨v,w'',fr,h1,h2,h3,h4⟩:=h d a ha b cs hb hk
  ⟨v,w'',fr,by obtain ⟨H',d',e,q⟩:=h1;exact ⟨H',d',e,hq _ _ q⟩,h2,h3,h4⟩
theorem Wr.nil (H:Mem) (b o:Nat):Wr H b o 0:=fun i hi=>absurd hi (Nat.not_lt_zero i)
section
variable {P:Program} {B:World} {f:FuncId} {Q:Value→Mem→Prop} {n:Nat} {r:Env} {k:List Item} {H:Mem} {l:List Oper} {C:Mem→Prop} {p:List (Nat×Nat)}
variable {i kd d:Nat} {ty:TypeId} {pos:String} {af:Array Edge} {gd:Option (Nat×Bool)}
end
section
variable {P:Program} {B:World} {f:FuncId} {Q:Value→Mem→Prop} {n:Nat} {r:Env} {k:List Item} {H:Mem} {σ:Type} {i1 i2 i3 i4:Item}
theorem Go'.cut3 (J:σ→Mem→Prop) (q:σ→Env) (ht:∀s H',J s H'→Go' P B f Q n (q s) k H') (h:(∀s H',J s H'→Go' P B f Q n (q s) k H')→Go' P B f Q n r (i1::i2::i3::k) H):Go' P B f Q n r (i1::i2::i3::k) H:=h ht
theorem Go'.cut4 (J:σ→Mem→Prop) (q:σ→Env) (ht:∀s H',J s H'→Go' P B f Q n (q s) k H') (h:(∀s H',J s H'→Go' P B f Q n (q s) k H')→Go' P B f Q n r (i1::i2::i3::i4::k) H):Go' P B f Q n r (i1::i2::i3::i4::k) H:=h ht
end
section
variable {α:Type} {E:Elt α} {H0 H H':Mem} {it tr:Nat} {mt sk as ae:Bool} {Z0 Z:Nat→Prop} {fr:List (Nat×Int)} {kv:α}
theorem Itr.away (h:Itr E H0 H it tr mt Z0 sk as ae Z fr kv) {X:Nat→Nat→Prop} (hf:Fr X H H') (hx:∀b o,b=it∨Z b→¬X b o):Itr E H' H' it tr mt Z sk as ae Z fr kv where
 c0:=hf.keep h.c0 (hx _ _ (.inl rfl))
 c1:=hf.keep h.c1 (hx _ _ (.inl rfl))
 c2:=hf.keep h.c2 (hx _ _ (.inl rfl))
 c3:=hf.keep h.c3 (hx _ _ (.inl rfl))
 c4:=hf.keep h.c4 (hx _ _ (.inl rfl))
 st:=have ⟨sv,h1,h2⟩:=h.st;⟨sv,hf.keep h1 (hx _ _ (.inl rfl)),h2.fr hf fun b o _ hz=>hx b o (.inr hz)⟩
 kv:=hf.rd h.kv fun _ _=>hx _ _ (.inl rfl)
 wr:=hf.wr h.wr
 nz:=h.nz
 f:=Fr.refl _ _
 zz:=fun _ hb=>.inl hb
theorem Itr.low (h:Itr E H0 H it tr mt Z0 sk as ae Z fr kv):Itr E H H it tr mt (fun b=>Z b∧b<H.size) sk as ae (fun b=>Z b∧b<H.size) fr kv where
 c0:=h.c0
 c1:=h.c1
 c2:=h.c2
 c3:=h.c3
 c4:=h.c4
 st:=have ⟨sv,h1,h2⟩:=h.st;⟨sv,h1,h2.mono fun b hb hz=>⟨hz,hb⟩⟩
 kv:=h.kv
 wr:=h.wr
 nz:=fun hz=>h.nz hz.1
 f:=Fr.refl _ _
 zz:=fun _ hb=>.inl hb
end
inductive Kd where
 | int (k:IntKind)
 | bool
 | str
def Kd.ok:Kd→Value→Prop
 | .int k,v=>∃n,v=.int k n∧(Lit.int k n).wf=true
 | .bool,v=>∃b,v=.bool b
 | .str,v=>∃s:ByteArray,v=.string s∧s.size≤maxLen
def AllOk:List Kd→List Value→Prop
 | [],[]=>True
 | k::ks,v::vs=>k.ok v∧AllOk ks vs
 | _,_=>False
theorem AllOk.app:∀{ks:List Kd} {vs:List Value} {ks':List Kd} {vs':List Value},AllOk ks vs→AllOk ks' vs'→AllOk (ks++ks') (vs++vs')
 | [],[],_,_,_,h=>h
 | _::_,_::_,_,_,h,h'=>⟨h.1,h.2.app h'⟩
 | [],_::_,_,_,h,_=>h.elim
 | _::_,[],_,_,h,_=>h.elim
theorem AllOk.len:∀{ks:List Kd} {vs:List Value},AllOk ks vs→vs.length=ks.length
 | [],[],_=>rfl
 | _::_,_::_,h=>by rw [List.length_cons,List.length_cons,h.2.len]
 | [],_::_,h=>h.elim
 | _::_,[],h=>h.elim
def kindsF (P:Program) (g:TypeId→Option (List Kd)):Nat→List Field→Option (List Kd)
 | _,[]=>some []
 | off,f::fs=>
  match g f.type with
  | none=>none
  | some a=>if f.offset=off∧P.cellsOf f.type=a.length then (kindsF P g (off+a.length) fs).map (a++·) else none
def kinds (P:Program):Nat→TypeId→Option (List Kd)
 | 0,_=>none
 | n+1,t=>
  match P.underlying t with
  | some .bool=>some [.bool]
  | some (.int k)=>some [.int k]
  | some .string=>some [.str]
  | some (.struct fs)=>
   match kindsF P (kinds P n) 0 fs.toList with
   | some ks=>if P.cellsOf t=ks.length then some ks else none
   | none=>none
  | _=>none
section
variable {H:Type} {enc:TypeId×Value→H} {P:Program} {w:World} {base:Nat} {spare:Nat→Bool} {held:Bool}
theorem kindsF_ok {g:TypeId→Option (List Kd)} {n:Nat} {cs:List Value} (hg:∀t cs x ks,DataW.trod enc P w base spare held n t cs=some x→g t=some ks→AllOk ks cs):
  ∀(fs:List Field) (off:Nat) (ks:List Kd),kindsF P g off fs=some ks→(∀f,f∈fs→∃y,DataW.trod enc P w base spare held n f.type ((cs.drop f.offset).take (P.cellsOf f.type))=some y)→cs.length=off+ks.length→AllOk ks (cs.drop off)
 | [],off,ks,h,_,hl=>by
  simp only [kindsF,Option.some.injEq] at h
  subst h
  rw [List.drop_eq_nil_of_le (by simp at hl;omega)]
  exact trivial
 | f::fs,off,ks,h,hy,hl=>by
  unfold kindsF at h
  split at h
  · cases h
  ·
   rename_i a ha
   split at h
   ·
    rename_i ho
    obtain ⟨ho,hc⟩:=ho
    cases hk:kindsF P g (off+a.length) fs with
    | none=>rw [hk] at h;cases h
    | some r=>
     rw [hk] at h
     simp only [Option.map_some,Option.some.injEq] at h
     subst h
     rw [List.length_append] at hl
     obtain ⟨y,hy0⟩:=hy f (List.mem_cons_self ..)
     rw [ho,hc] at hy0
     have h1:=hg _ _ _ _ hy0 ha
     have h2:=kindsF_ok hg fs (off+a.length) r hk (fun f' hf'=>hy f' (List.mem_cons_of_mem _ hf')) (by omega)
     have:=h1.app h2
     rwa [←List.drop_drop,List.take_append_drop] at this
   · cases h
theorem kinds_ok:∀(m:Nat) (fuel:Nat) (t:TypeId) (cs:List Value) (x:DataW H×List MemPlace) (ks:List Kd),DataW.trod enc P w base spare held fuel t cs=some x→kinds P m t=some ks→AllOk ks cs
 | 0,_,_,_,_,_,_,h=>by cases h
 | m+1,fuel,t,cs,x,ks,hx,h=>by
  unfold kinds at h
  split at h
  ·
   rename_i hu
   cases h
   obtain ⟨b,rfl,_⟩:=DataW.trod_bool hu hx
   exact ⟨⟨b,rfl⟩,trivial⟩
  ·
   rename_i k hu
   cases h
   obtain ⟨b,rfl,_,hw⟩:=DataW.trod_int hu hx
   exact ⟨⟨b,rfl,hw⟩,trivial⟩
  ·
   rename_i hu
   cases h
   obtain ⟨b,rfl,_,hw⟩:=DataW.trod_string hu hx
   exact ⟨⟨b,rfl,hw⟩,trivial⟩
  ·
   rename_i fs hu
   split at h
   ·
    rename_i ks' hk
    split at h
    ·
     rename_i hc
     cases h
     obtain ⟨xs,n,_,_,hl,hlen,hf⟩:=DataW.trod_struct hu hx
     have:=kindsF_ok (cs:=cs) (fun t cs x ks hx hk=>kinds_ok m n t cs x ks hx hk) fs.toList 0 ks hk (fun f hf'=>by
      obtain ⟨i,hi⟩:=List.getElem?_of_mem hf'
      have hi':fs[i]?=some f:=by simpa using hi
      have hlt:i<xs.length:=by rw [hlen];exact (Array.getElem?_eq_some_iff.1 hi').1
      exact ⟨xs[i],(hf i f hi').trans (List.getElem?_eq_getElem hlt)⟩) (by rw [hl,hc,Nat.zero_add])
     rwa [List.drop_zero] at this
    · cases h
   · cases h
  · cases h
end
theorem AllOk.get1 {k:Kd} {ks:List Kd} {vs:List Value} (h:AllOk (k::ks) vs):∃v vs',vs=v::vs'∧k.ok v∧AllOk ks vs':=by
 cases vs with
 | nil=>exact h.elim
 | cons v vs=>exact ⟨v,vs,rfl,h.1,h.2⟩
theorem AllOk.nil' {vs:List Value} (h:AllOk [] vs):vs=[]:=by
 cases vs with
 | nil=>rfl
 | cons v vs=>exact h.elim
theorem slice_in {α:Type} (E:Elt α) {Hh:Type} {enc:TypeId×Value→Hh} {P:Program} {w:World} {fuel m:Nat} {t e:TypeId} {a:Option Addr} {len cap:Nat} {x:DataW Hh×List MemPlace} {ks:List Kd} (ht:P.underlying t=some (.slice e))
  (hks:kinds P m e=some ks) (hce:P.cellsOf e=E.s) (hE:∀vs,AllOk ks vs→∃y,E.enc y=vs) (h:DataW.trod enc P w 0 (fun _=>true) true fuel t [.slice a len cap]=some x):∃l,InS E w.heap (.slice a len cap) l:=by
 rcases Go.Deep.open_slice ht h with ⟨hcs,_⟩|⟨a',len',cap',m',n,D,Pl,hcs,_,hl,_,hm,_,hx⟩
 ·
  simp at hcs
  obtain ⟨rfl,rfl,rfl⟩:=hcs
  exact ⟨[],.inr ⟨rfl,_,_,rfl⟩⟩
 ·
  simp at hcs
  obtain ⟨rfl,rfl,rfl⟩:=hcs
  simp only [if_true] at hm
  subst hm
  rcases Nat.eq_zero_or_pos m' with rfl|hc
  ·
   obtain rfl:len=0:=by omega
   exact ⟨[],.inr ⟨rfl,_,_,rfl⟩⟩
  ·
   have hex:∀i,i<m'→∃y:α,w.cells? 0 (a'.add (i*E.s)) E.s=some (E.enc y):=fun i hi=>by
    obtain ⟨cs',h1,h2⟩:=hx i hi
    obtain ⟨y,hy⟩:=hE _ (kinds_ok m _ _ _ _ _ h2 hks)
    rw [hce] at h1
    exact ⟨y,by rw [hy];exact h1⟩
   have hx':∀i,∃y:α,i<m'→w.cells? 0 (a'.add (i*E.s)) E.s=some (E.enc y):=fun i=>by
    by_cases hi:i<m'
    ·
     obtain ⟨y,hy⟩:=hex i hi
     exact ⟨y,fun _=>hy⟩
    ·
     obtain ⟨y,_⟩:=hex 0 hc
     exact ⟨y,fun hh=>absurd hh hi⟩
   obtain ⟨f,hf⟩:∃f:Nat→α,∀i,i<m'→w.cells? 0 (a'.add (i*E.s)) E.s=some (E.enc (f i)):=⟨fun i=>Classical.choose (hx' i),fun i=>Classical.choose_spec (hx' i)⟩
   obtain ⟨b,o,s⟩:=a'
   have cell:∀i j,i<m'→j<E.s→w.cell? ((Addr.add ⟨b,o,s⟩ (i*E.s)).add j)=(E.enc (f i))[j]?:=fun i j hi hj=>(World.cells?_some (hf i hi)).2.2 j hj
   have hs:s=none:=by
    have h0:=cell 0 0 hc E.pos
    cases s with
    | none=>rfl
    | some k=>
     have hne:(E.enc (f 0))[0]?≠none:=by
      intro hh
      have:=List.getElem?_eq_none_iff.1 hh
      rw [E.len] at this
      have:=E.pos
      omega
     rw [←h0] at hne
     simp only [Nat.zero_mul,Addr.add,if_true,World.cell?] at hne
     split at hne<;>simp at hne
   subst hs
   refine ⟨(List.range len).map f,.inl ⟨b,o,m',by simp,by simpa using hl,fun j v hv=>?_⟩⟩
   have hj:=(List.getElem?_eq_some_iff.1 hv).1
   rw [row_len,List.length_map,List.length_range] at hj
   have hi:j / E.s<len:=Nat.div_lt_of_lt_mul (by rw [Nat.mul_comm];exact hj)
   have hr:j % E.s<E.s:=Nat.mod_lt _ E.pos
   have hq:((List.range len).map f)[j / E.s]?=some (f (j / E.s)):=by simp [hi]
   have hjm:j / E.s*E.s+j % E.s=j:=by rw [Nat.mul_comm];exact Nat.div_add_mod j E.s
   have h1:=cell (j / E.s) (j % E.s) (by omega) hr
   have hlt:j % E.s<(E.enc (f (j / E.s))).length:=by rw [E.len];exact hr
   have hg:=row_get E hq (j % E.s) _ (List.getElem?_eq_getElem hlt)
   rw [hjm] at hg
   have hvv:=Option.some.inj (hv.symm.trans hg)
   have cc:∀n,World.cell? w ⟨b,n,none⟩=cl w.heap b n:=fun n=>by rw [←mk_self w];exact mk_cell _ _ _ _ _
   rw [Addr.add_lit,Addr.add_lit,cc] at h1
   rw [show o+j=o+j / E.s*E.s+j % E.s by omega,h1,hvv]
   exact List.getElem?_eq_getElem hlt
end Go.Bt
