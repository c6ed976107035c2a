/- Contracts of functions of the program, proved by walking through their code. Conditions: those that each theorem names. -/
import Derived.Test.YtmboghgpakhceaaToiC
import Derived.Test.YtmboghgpakhceaaTogD
import Derived.Test.YtmboghgpakhceaaToRb
set_option linter.unusedVariables false
namespace Go.Bt.FG
open Go Go.Proofs Go.Proofs.Try
set_option maxRecDepth 20000
set_option maxHeartbeats 4000000
set_option linter.unusedSectionVars false
namespace SI
def ESl:Elt (Option Addr×Nat×Nat):={ enc:=fun x=>[.slice x.1 x.2.1 x.2.2],s:=1,len:=fun _=>rfl,one:=fun _=>rfl,pos:=by decide }
def InSS {α:Type} (E:Elt α) (H:Mem):List (Option Addr×Nat×Nat)→List (List α)→Prop
 | [],[]=>True
 | u::us,l::ls=>InS E H (.slice u.1 u.2.1 u.2.2) l∧InSS E H us ls
 | _,_=>False
theorem InSS.fr {α:Type} {E:Elt α} {H H':Mem} (hf:Fr nowhere H H'):∀{us:List (Option Addr×Nat×Nat)} {ls:List (List α)},InSS E H us ls→InSS E H' us ls
 | [],[],_=>trivial
 | u::us,l::ls,h=>⟨h.1.fr hf,InSS.fr hf h.2⟩
 | [],_::_,h=>h.elim
 | _::_,[],h=>h.elim
theorem InSS.len {α:Type} {E:Elt α} {H:Mem}:∀{us:List (Option Addr×Nat×Nat)} {ls:List (List α)},InSS E H us ls→us.length=ls.length
 | [],[],_=>rfl
 | u::us,l::ls,h=>by rw [List.length_cons,List.length_cons,InSS.len h.2]
 | [],_::_,h=>h.elim
 | _::_,[],h=>h.elim
theorem InSS.at {α:Type} {E:Elt α} {H:Mem}:∀{us:List (Option Addr×Nat×Nat)} {ls:List (List α)} (_:InSS E H us ls) {i:Nat} {u:Option Addr×Nat×Nat},us[i]?=some u→∃l,ls[i]?=some l∧InS E H (.slice u.1 u.2.1 u.2.2) l
 | [],[],_,i,u,hu=>by simp at hu
 | u::us,l::ls,h,0,v,hv=>by
  simp only [List.getElem?_cons_zero,Option.some.injEq] at hv
  subst hv
  exact ⟨l,rfl,h.1⟩
 | u::us,l::ls,h,i+1,v,hv=>by
  simp only [List.getElem?_cons_succ] at hv ⊢
  exact InSS.at h.2 hv
 | [],_::_,h,_,_,_=>h.elim
 | _::_,[],h,_,_,_=>h.elim
theorem flat_take {α:Type} (ls:List (List α)) (j:Nat):(ls.take j).flatten.length≤ls.flatten.length:=by
 conv=>rhs;rw [←List.take_append_drop j ls,List.flatten_append,List.length_append]
 omega
theorem swp_get {α:Type} {X:List α} {i j:Nat} {x y:α} (hi:i<X.length) (hj:j<X.length) (hne:i≠j) (k:Nat):
  ((X.set i x).set j y)[k]?=if k=j then some y else if k=i then some x else X[k]?:=by
 rw [List.getElem?_set]
 by_cases h1:j=k
 ·
  subst h1
  rw [if_pos rfl,if_pos rfl,if_pos (by rw [List.length_set];exact hj)]
 ·
  rw [if_neg h1,if_neg (fun h=>h1 h.symm),List.getElem?_set]
  by_cases h2:i=k
  · subst h2;rw [if_pos rfl,if_pos rfl,if_pos hi]
  · rw [if_neg h2,if_neg (fun h=>h2 h.symm)]
theorem set_td {α:Type} {X:List α} {i:Nat} {x:α} (hi:i<X.length):X.take i++x::X.drop (i+1)=X.set i x:=(List.set_eq_take_append_cons_drop.trans (if_pos hi)).symm
theorem grow_spec {B:World} {H:Mem} {n:Nat} (hn:0<n) (hll:n≤4294967296):
  Fn Try.prog B 93 [.slice none 0 0,.int .i64 (n:Int)] H (fun r H'=>AccN EJ (fun b=>H.size≤b) H' r []∧Fr nowhere H H'):=by
 refine fn_of func93 rfl ntmps93 ?_
 refine (show Go' _ _ _ _ 27 [(0,_),(1,_)] [.code _] _ from ?_)
 refine Ut 1 rfl (Ur 1 0 rfl (Uf 1 [0,1,4] rfl (Ut 2 rfl (Ur 2 0 rfl (Uc 1 rfl (lssF (by omega)) (Uf 0 [0,1,4,6] rfl (Go'.condF rfl (Ut 3 rfl (Ur 8 0 rfl (Uq 2 rfl (O.cap rfl rfl rfl rfl underlying25 rfl ?_)))))))))))
 refine Ub 2 ((0:Int)) rfl (by omega) (Ub 0 ((n:Int)) rfl (by omega) (Uf 1 [0,1,4] rfl (Ut 1 rfl (Ur 2 0 rfl (Uc 1 rfl (gtrT (by omega)) (Uf 0 [0,1,4,16] rfl (Go'.condT rfl (Ur 10 2048 rfl (Uq 2 rfl (O.cap rfl rfl rfl rfl underlying25 rfl (O.slc0 rfl rfl rfl rfl underlying25 sizeOf27 rfl ⟨_,by rfl⟩ rfl ?_)))))))))))
 intro a0
 refine Uq 1 rfl (O.appZ (m:=n) rfl rfl rfl ⟨underlying25,sizeOf27,zeroValue27,⟨_,typeInfo27,rfl⟩,rfl,by decide,by decide⟩ underlying3 rfl rfl (Nat.le_trans (Nat.mul_le_mul_left _ (Nat.le_of_ble_eq_true (n:=_) (m:=4096) rfl)) (by omega)) (by omega) hn ?_)
 intro cap' H1 hc hW hF hs
 refine ⟨trivial,?_⟩
 refine Uq 2 rfl (O.slc (jl:=0) (jh:=0) (jm:=cap') rfl rfl rfl rfl underlying25 sizeOf27 rfl rfl ⟨_,by rfl⟩ rfl (by omega) (by omega) (by omega) (by simp) ?_)
 intro o2 ho2
 refine Uf 1 [0,4] rfl (Ut 1 rfl (Ur 2 0 rfl (Uf 2 [4] rfl (Go'.ret (vs:=[_]) func93 results93 ⟨rfl,trivial⟩ ?_))))
 refine ⟨⟨H.size,o2,cap'-0,rfl,Nat.le_refl _,by omega,?_⟩,hF⟩
 obtain rfl:o2=0:=by have:=ho2 (by omega);omega
 rw [Nat.sub_zero]
 exact ⟨rfl,Nat.zero_le _,Rd.nil _ _ _,hW⟩
theorem rev_spec {B:World} {H:Mem} {v:Value} {l:List (Int×Int)} {Z:Nat→Prop} (hA:AccN EJ Z H v l) (hll:l.length≤4294967296):
  Fn Try.prog B 92 [v] H (fun _ H'=>AccN EJ Z H' v l.reverse∧Fr (fun b _=>Z b) H H'):=by
 obtain ⟨b,o,c,rfl,hz,hb,hS⟩:=hA
 refine fn_of func92 rfl ntmps92 ?_
 refine (show Go' _ _ _ _ 28 [(0,_)] [.code _] _ from ?_)
 refine Ut 1 rfl (Ur 5 0 rfl (Ub 2 (((l.length:Int)-1)) rfl (by omega) (Uf 2 [0,2,3] rfl (Ut 1 rfl (Go'.loop (Uk [0,2,3] rfl ?_))))))
 refine Go'.ind (σ:=Nat×List (Int×Int)) (fun s=>l.length-s.1) (fun s H'=>SlE EJ H' b o c s.2∧s.2.length=l.length∧(∀k,k<l.length→s.2[k]?=if k<s.1∨l.length≤k+s.1 then l[l.length-1-k]? else l[k]?)∧Fr (fun b _=>Z b) H H')
  (fun s=>[(0,.slice (some ⟨b,o,none⟩) l.length c),(2,.int .i64 (s.1:Int)),(3,.int .i64 ((l.length:Int)-1-s.1))]) (0,l) ⟨hS,rfl,fun k hk=>by rw [if_neg (by omega)],Fr.refl _ _⟩ (by simp) ?_
 clear hS
 rintro ⟨i,m⟩ H2 ⟨hS,hml,hm,hF⟩ ih
 simp only at hS hml hm ih
 have hsz:=hF.size
 refine Ut 2 rfl ?_
 by_cases hlt:(i:Int)<(l.length:Int)-1-i
 ·
  have hjl:l.length-1-i<m.length:=by omega
  have hil:i<m.length:=by omega
  obtain ⟨x,hx⟩:∃x,m[i]?=some x:=⟨m[i],List.getElem?_eq_getElem hil⟩
  obtain ⟨y,hy⟩:∃y,m[l.length-1-i]?=some y:=⟨m[l.length-1-i],List.getElem?_eq_getElem hjl⟩
  have hx2:=hx
  rw [hm i (by omega),if_neg (by omega)] at hx2
  have hy2:=hy
  rw [hm _ (by omega),if_neg (by omega)] at hy2
  have wj:=hS.wri hjl
  have wi:=hS.wri hil
  have hlm:l.length=m.length:=hml.symm
  refine Ur 3 0 rfl (Uc 2 rfl (lssT hlt) (Uf 0 [0,2,3,9] rfl (Go'.condT rfl (Ut 3 rfl (Ud 16 3359653888 (by kernel_rfl) (Ux 6 (l.length-1-i) rfl (by omega) (by omega) (Us 0 rfl (hS.item hy) rfl (Ux 2 i rfl (by omega) (by omega) (Us 0 rfl (hS.item hx) rfl (Ux 0 i rfl (by omega) (by omega) (O.st (vs:=(EJ.enc y)) rfl rfl sizeOf27 rfl rfl rfl rfl rfl wi ?_)))))))))))
  intro H3 W3
  have hS3:=hS.set W3 hil
  rw [set_td hil] at hS3
  have wj3:=hS3.wri (i:=l.length-1-i) (by rw [List.length_set];exact hjl)
  refine ⟨trivial,?_⟩
  refine Ux 0 (l.length-1-i) rfl (by omega) (by omega) (O.st3 (vs:=(EJ.enc x)) rfl rfl sizeOf27 rfl rfl rfl rfl rfl wj3 ?_)
  intro H4 W4
  have hS4:=hS3.set W4 (by rw [List.length_set];exact hjl)
  rw [set_td (by rw [List.length_set];exact hjl)] at hS4
  refine Uf 0 [0,2,3,9] rfl (Ut 1 rfl (Ur 6 0 rfl (Ua 1 (((i+1:Nat):Int)) rfl (by omega) (Ub 1 (((l.length:Int)-1-((i+1:Nat):Int))) rfl (by omega) (Uf 2 [0,2,3,9] rfl (Uk [0,2,3] rfl (Go'.inLoop ?_)))))))
  refine ih (i+1,(m.set i y).set (l.length-1-i) x) H4 ⟨hS4,by simpa using hml,fun k hk=>?_,(hF.trans' W3.fr (fun _ _ _ h=>h) (fun b' o' _ h=>by rw [show b'=b from h.1];exact hz)).trans' W4.fr (fun _ _ _ h=>h) (fun b' o' _ h=>by rw [show b'=b from h.1];exact hz)⟩ (by simp only;omega)
  simp only
  rw [swp_get hil hjl (by omega) k]
  by_cases h1:k=l.length-1-i
  · rw [if_pos h1,if_pos (by omega),h1,show l.length-1-(l.length-1-i)=i by omega,hx2]
  ·
   rw [if_neg h1]
   by_cases h2:k=i
   · rw [if_pos h2,if_pos (by omega),h2,hy2]
   ·
    rw [if_neg h2,hm k hk]
    by_cases h3:k<i∨l.length≤k+i
    · rw [if_pos h3,if_pos (by omega)]
    · rw [if_neg h3,if_neg (by omega)]
 ·
  refine Ur 3 0 rfl (Uc 2 rfl (lssF (by simp only;omega)) (Uf 0 [0,2,3,9] rfl (Go'.condF rfl (Ut 1 rfl ?_))))
  have e:m=l.reverse:=by
   refine List.ext_getElem? fun k=>?_
   rcases Nat.lt_or_ge k l.length with hk|hk
   ·
    rw [hm k hk,List.getElem?_reverse hk]
    by_cases h3:k<i∨l.length≤k+i
    · rw [if_pos h3]
    · rw [if_neg h3,show l.length-1-k=k by omega]
   · rw [List.getElem?_eq_none (by omega),List.getElem?_eq_none (by rw [List.length_reverse];exact hk)]
  subst e
  refine Go'.fall func92 results92 (vs:=[]) trivial ?_
  exact ⟨⟨b,o,c,by rw [List.length_reverse],hz,by omega,hS⟩,hF⟩
theorem cloneA_spec {B:World} {H:Mem} {v:Value} {l:List (Int×Int)} (hi:InS EJ H v l) (hll:l.length≤4294967296):
  Fn Try.prog B 91 [v] H (fun r H'=>Acc EJ (fun b=>H.size≤b) H' r l∧Fr nowhere H H'):=by
 obtain ⟨a,c,rfl⟩:=hi.len
 rcases a with _|a
 ·
  obtain rfl:l=[]:=by
   rcases hi with ⟨b,o,c',e,_⟩|⟨e,_⟩
   · cases e
   · exact e
  refine fn_of func91 rfl ntmps91 ?_
  refine (show Go' _ _ _ _ 8 [(0,_)] [.code _] _ from ?_)
  refine Ut 1 rfl (Ur 1 0 rfl (Uf 1 [0,2] rfl (Ut 2 rfl (Ur 2 0 rfl (Uq 1 rfl (O.slNil rfl rfl rfl rfl underlying25 rfl rfl (Uf 0 [0,2,4] rfl (Go'.condT rfl (Ut 1 rfl (Ur 1 0 rfl (Uf 1 [0,2] rfl ?_)))))))))))
  refine Go'.ret (vs:=[_]) func91 results91 ⟨rfl,trivial⟩ ?_
  exact ⟨Acc.nil _ _ _,Fr.refl _ _⟩
 ·
  refine fn_of func91 rfl ntmps91 ?_
  refine (show Go' _ _ _ _ 8 [(0,_)] [.code _] _ from ?_)
  refine Ut 1 rfl (Ur 1 0 rfl (Uf 1 [0,2] rfl (Ut 2 rfl (Ur 2 0 rfl (Uq 1 rfl (O.slNil rfl rfl rfl rfl underlying25 rfl rfl (Uf 0 [0,2,4] rfl (Go'.condF rfl (Ut 2 rfl (Ur 4 34 rfl (O.bsl (cs:=[]) rfl rfl rfl ⟨underlying25,sizeOf27,zeroValue27,⟨_,typeInfo27,rfl⟩,rfl,by decide,by decide⟩ rfl (by decide) (by kernel_rfl) ?_)))))))))))
  intro H1 M1
  have hs1:=M1.size
  have hA1:=AccN.made (E:=EJ) M1
  refine ⟨trivial,?_⟩
  refine Uq 1 rfl (O.appI (E:=EJ) rfl rfl rfl ⟨underlying25,sizeOf27,zeroValue27,⟨_,typeInfo27,rfl⟩,rfl,by decide,by decide⟩ rfl hA1 rfl (hi.fr (M1.fr nowhere)) (Nat.le_trans (Nat.mul_le_mul_left _ (Nat.le_of_ble_eq_true (n:=_) (m:=4096) rfl)) (by simp only [List.length_nil];omega)) (by simp only [List.length_nil];omega) ?_)
  intro v2 H2 hA2 hF2 hs2
  rw [List.nil_append] at hA2
  refine ⟨trivial,?_⟩
  refine Uf 1 [2] rfl (Go'.ret (vs:=[_]) func91 results91 ⟨rfl,trivial⟩ ?_)
  exact ⟨.inr (hA2.mono fun b _ hz=>hz.elim id (fun h=>by omega)),(M1.fr nowhere).trans' hF2 (fun _ _ _ h=>h) (fun b o hb hz=>by have hz':H.size≤b:=hz;omega)⟩
theorem revA_spec {B:World} {H:Mem} {v:Value} {l:List (Int×Int)} {Z:Nat→Prop} (hA:Acc EJ Z H v l) (hll:l.length≤4294967296):
  Fn Try.prog B 92 [v] H (fun _ H'=>Acc EJ Z H' v l.reverse∧Fr (fun b _=>Z b) H H'):=by
 rcases hA with ⟨rfl,rfl⟩|hA
 rotate_left
 · exact (rev_spec hA hll).mono fun _ _ h=>⟨.inr h.1,h.2⟩
 refine fn_of func92 rfl ntmps92 ?_
 refine (show Go' _ _ _ _ 28 [(0,_)] [.code _] _ from ?_)
 refine Ut 1 rfl (Ur 5 0 rfl (Ub 2 ((-1:Int)) rfl (by omega) (Uf 2 [0,2,3] rfl (Ut 1 rfl (Go'.loop (Ut 2 rfl (Ur 3 0 rfl (Uc 2 rfl (lssF (by omega)) (Uf 0 [0,2,3,9] rfl (Go'.condF rfl (Ut 1 rfl ?_)))))))))))
 refine Go'.fall func92 results92 (vs:=[]) trivial ?_
 exact ⟨Acc.nil _ _ _,Fr.refl _ _⟩
theorem turnedA_spec {B:World} {H:Mem} {v:Value} {l:List (Int×Int)} (hi:InS EJ H v l) (hll:l.length≤4294967296):
  Fn Try.prog B 44 [v] H (fun r H'=>Acc EJ (fun b=>H.size≤b) H' r l.reverse∧Fr nowhere H H'):=by
 refine fn_of func44 rfl ntmps44 ?_
 refine (show Go' _ _ _ _ 9 [(0,_)] [.code _] _ from ?_)
 refine Ut 1 rfl (Ur 1 0 rfl (Uf 1 [0,2] rfl (Ut 1 rfl (Ur 3 8 rfl (Uq 1 rfl (O.call rfl rfl rfl call91 rfl (cloneA_spec hi hll) ?_))))))
 rintro v1 H1 ⟨h1,hF1⟩
 refine ⟨trivial,?_⟩
 refine Uf 1 [2,3] rfl (Ut 1 rfl (Ur 2 8 rfl (Uq 1 rfl (O.call rfl rfl rfl call92 rfl (revA_spec h1 hll) ?_))))
 rintro _ H2 ⟨h2,hF2⟩
 refine ⟨trivial,?_⟩
 refine Uf 0 [2,3] rfl (Ut 1 rfl (Ur 2 0 rfl (Uf 2 [2] rfl (Go'.ret (vs:=[_]) func44 results44 ⟨rfl,trivial⟩ ?_))))
 exact ⟨h2,hF1.trans' hF2 (fun _ _ _ h=>h) (fun b o hb hz=>by have hz':H.size≤b:=hz;omega)⟩
theorem growA_spec {B:World} {H:Mem} {n:Nat} (hll:n≤4294967296):
  Fn Try.prog B 93 [.slice none 0 0,.int .i64 (n:Int)] H (fun r H'=>Acc EJ (fun b=>H.size≤b) H' r []∧Fr nowhere H H'):=by
 rcases Nat.eq_zero_or_pos n with rfl|hn
 rotate_left
 · exact (grow_spec hn hll).mono fun _ _ h=>⟨h.1.acc,h.2⟩
 refine fn_of func93 rfl ntmps93 ?_
 refine (show Go' _ _ _ _ 27 [(0,_),(1,_)] [.code _] _ from ?_)
 refine Ut 1 rfl (Ur 1 0 rfl (Uf 1 [0,1,4] rfl (Ut 2 rfl (Ur 2 0 rfl (Uc 1 rfl (lssF (by omega)) (Uf 0 [0,1,4,6] rfl (Go'.condF rfl (Ut 3 rfl (Ur 8 0 rfl (Uq 2 rfl (O.cap rfl rfl rfl rfl underlying25 rfl ?_)))))))))))
 refine Ub 2 ((0:Int)) rfl (by omega) (Ub 0 ((0:Int)) rfl (by omega) (Uf 1 [0,1,4] rfl (Ut 1 rfl (Ur 2 0 rfl (Uc 1 rfl (gtrF (by omega)) (Uf 0 [0,1,4,16] rfl (Go'.condF rfl (Ut 2 rfl (Ur 2 0 rfl (Uf 2 [4] rfl (Go'.ret (vs:=[_]) func93 results93 ⟨rfl,trivial⟩ ?_)))))))))))
 exact ⟨Acc.nil _ _ _,Fr.refl _ _⟩
theorem concatA_spec {B:World} {H:Mem} {v:Value} {us:List (Option Addr×Nat×Nat)} {ls:List (List (Int×Int))} (hi:InS ESl H v us) (hs:InSS EJ H us ls) (hll:ls.flatten.length≤4294967296) (hul:us.length≤4294967296):
  Fn Try.prog B 45 [v] H (fun r H'=>Acc EJ (fun b=>H.size≤b) H' r ls.flatten∧Fr nowhere H H'):=by
 obtain ⟨a,c,hu⟩:=hi.len
 subst hu
 have hlen:=hs.len
 have hi00:=hi
 have hs00:=hs
 refine fn_of func45 rfl ntmps45 ?_
 refine (show Go' _ _ _ _ 36 [(0,_)] [.code _] _ from ?_)
 refine Ut 1 rfl (Ur 1 0 rfl (Uf 1 [0,2] rfl (Ut 1 rfl (Ur 1 0 rfl (Uf 1 [0,2,3] rfl (Ut 2 rfl (Ur 3 0 rfl (Uf 3 [0,2,3,9,10,11] rfl (Ut 1 rfl (Go'.loop (Uk [0,3,9,10,11] rfl ?_)))))))))))
 refine Go'.ind (σ:=Nat) (fun j=>us.length-j) (fun j H'=>H'=H∧j≤us.length)
  (fun j=>[(0,.slice a us.length c),(3,.int .i64 ((ls.take j).flatten.length:Int)),(9,.slice a us.length c),(10,.int .i64 (us.length:Int)),(11,.int .i64 (j:Int))]) 0 ⟨rfl,Nat.zero_le _⟩ rfl ?_
 rintro j H2 ⟨hHH,hjl⟩ ih
 have eH:H=H2:=hHH.symm
 subst eH
 clear hHH
 refine Ut 1 rfl ?_
 by_cases hlt:j<us.length
 ·
  obtain ⟨u,hu⟩:∃u,us[j]?=some u:=⟨us[j],List.getElem?_eq_getElem hlt⟩
  obtain ⟨b,o,cc,e,hr⟩:=hi.at hu
  cases e
  obtain ⟨l,hl,hul2⟩:=hs.at hu
  obtain ⟨a',c',e⟩:=hul2.len
  have e2:u.2.1=l.length:=by injection e
  have hx:(ls.take (j+1)).flatten.length=(ls.take j).flatten.length+l.length:=by rw [List.take_add_one,hl,List.flatten_append,List.length_append];simp
  have hft:=flat_take ls (j+1)
  refine Ur 1 0 rfl (Uc 0 rfl (lssT (by omega)) (Uf 0 [0,3,9,10,11,12] rfl (Ut 1 rfl (Go'.condT rfl (Ut 4 rfl (Ur 3 4 rfl (Ux 0 j rfl (by omega) hlt (Ul 0 rfl (hr 0 _ rfl) (Uf 1 [0,3,5,9,10,11,12] rfl (Ut 1 rfl (Ur 5 0 rfl ?_)))))))))))
  refine Ua 3 (((ls.take (j+1)).flatten.length:Int)) rfl (by omega) (Uf 1 [0,3,5,9,10,11,12] rfl (Ut 1 rfl (Ur 2 0 rfl (Uc 1 rfl (lssF (by omega)) (Uf 0 [0,3,5,9,10,11,12,20] rfl (Go'.condF rfl (Ut 2 rfl (Ur 2 0 rfl (Ua 0 (((j+1:Nat):Int)) rfl (by omega) (Uf 1 [0,3,5,9,10,11,12,20] rfl (Uk [0,3,9,10,11] rfl ?_)))))))))))
  refine Go'.inLoop ?_
  exact ih (j+1) H ⟨rfl,hlt⟩ (by omega)
 ·
  have e0:j=us.length:=by omega
  have e1:ls.take j=ls:=by rw [e0,hlen,List.take_length]
  clear ih
  subst e0
  rw [e1]
  refine Ur 1 0 rfl (Uc 0 rfl (lssF (by omega)) (Uf 0 [0,3,9,10,11,12] rfl (Ut 1 rfl (Go'.condF rfl (Ut 2 rfl (Ur 3 8 rfl (Uq 1 rfl (O.call rfl rfl rfl call93 rfl (growA_spec hll) ?_))))))))
  rintro gv H1 ⟨hA0,hF1⟩
  refine ⟨trivial,?_⟩
  refine Uf 1 [0,6] rfl (Ut 2 rfl (Ur 3 0 rfl (Uf 3 [6,25,26,27] rfl (Ut 1 rfl (Go'.loop (Uk [6,25,26,27] rfl ?_))))))
  refine Go'.ind (σ:=Nat×Value×(Nat→Prop)) (fun s=>us.length-s.1) (fun s H'=>s.1≤us.length∧Acc EJ s.2.2 H' s.2.1 ((ls.take s.1).flatten)∧Fr nowhere H H'∧Fr (fun b _=>H.size≤b) H1 H'∧∀b,s.2.2 b→H.size≤b)
   (fun s=>[(6,s.2.1),(25,.slice a us.length c),(26,.int .i64 (us.length:Int)),(27,.int .i64 (s.1:Int))]) (0,gv,fun b=>H.size≤b) ⟨Nat.zero_le _,by rw [List.take_zero];exact hA0,hF1,Fr.refl _ _,fun b hb=>hb⟩ rfl ?_
  clear hA0
  rintro ⟨j,sv,Z1⟩ H2 ⟨hj,hA,hF,hFZ,hZ1⟩ ih
  simp only at hj hA hZ1
  have hsz:=hF.size
  refine Ut 1 rfl ?_
  by_cases hlt:j<us.length
  ·
   obtain ⟨u,hu⟩:∃u,us[j]?=some u:=⟨us[j],List.getElem?_eq_getElem hlt⟩
   have hi2:=hi00.fr hF
   obtain ⟨b,o,cc,e,hr⟩:=hi2.at hu
   cases e
   obtain ⟨l,hl,hul2⟩:=(hs00.fr hF).at hu
   have hx:(ls.take (j+1)).flatten=(ls.take j).flatten++l:=by rw [List.take_add_one,hl,List.flatten_append];simp
   have hft:=flat_take ls (j+1)
   rw [hx,List.length_append] at hft
   refine Ur 1 0 rfl (Uc 0 rfl (lssT (by omega)) (Uf 0 [6,25,26,27,28] rfl (Ut 1 rfl (Go'.condT rfl (Ut 4 rfl (Ur 3 4 rfl (Ux 0 j rfl (by omega) hlt (Ul 0 rfl (hr 0 _ rfl) (Uf 1 [6,8,25,26,27,28] rfl (Ur 4 32 rfl (Uq 2 rfl ?_)))))))))))
   refine O.appAI (E:=EJ) rfl rfl rfl ⟨underlying25,sizeOf27,zeroValue27,⟨_,typeInfo27,rfl⟩,rfl,by decide,by decide⟩ rfl hA rfl hul2 (Nat.le_trans (Nat.mul_le_mul_left _ (Nat.le_of_ble_eq_true (n:=_) (m:=4096) rfl)) (by omega)) (by omega) ?_
   intro v7 H7 hA7 hF7 hs7
   rw [←hx] at hA7
   refine ⟨trivial,?_⟩
   refine Uf 1 [6,8,25,26,27,28] rfl (Ut 1 rfl (Ur 2 0 rfl (Ua 0 (((j+1:Nat):Int)) rfl (by omega) (Uf 1 [6,8,25,26,27,28] rfl (Uk [6,25,26,27] rfl (Go'.inLoop ?_))))))
   exact ih (j+1,v7,_) H7 ⟨hlt,hA7,hF.trans' hF7 (fun _ _ _ h=>h) (fun b o hb hz=>by have:=hZ1 b hz;omega),hFZ.trans' hF7 (fun _ _ _ h=>h) (fun b o hb hz=>hZ1 b hz),fun b hb=>hb.elim (hZ1 b) (fun h=>by omega)⟩ (by simp only;omega)
  ·
   have e0':j=us.length:=by omega
   have e1':ls.take j=ls:=by rw [e0',hlen,List.take_length]
   rw [e1'] at hA
   refine Ur 1 0 rfl (Uc 0 rfl (lssF (by omega)) (Uf 0 [6,25,26,27,28] rfl (Ut 1 rfl (Go'.condF rfl (Ut 2 rfl (Ur 2 0 rfl (Uf 2 [2] rfl (Go'.ret (vs:=[_]) func45 results45 ⟨rfl,trivial⟩ ?_))))))))
   exact ⟨hA.mono fun b _ hz=>hZ1 b hz,hF⟩
end SI
theorem igitems_spec {B:World} {H:Mem} {d:Nat} {nl:Bool} {v u:Value} {ord:List Int} {l:List (Int×Int)} (hd:d=0∨2≤d∧d≤128) (ho:InS EN H v ord) (hol:ord.length≤4294967296) (hi:InS EJ H u l) (hll:l.length≤4294967296):
  Fn Try.prog B 43 [.agg #[v,.int .i64 (d:Int),.bool nl],u] H (fun r H'=>OutS EJ H' r (Pl.puts (OO ord) l)∧Fr nowhere H H'):=by
 obtain ⟨a,c,hu⟩:=hi.len
 subst hu
 obtain ⟨av,mv,cv,hv⟩:=InS.form ho
 subst hv
 have hF:Fr nowhere H H:=Fr.refl _ _
 have hP:=PD_ok hd
 refine fn_of func43 rfl ntmps43 ?_
 refine (show Go' _ _ _ _ 9 [(0,_),(1,_)] [.code _] _ from ?_)
 refine Ut 1 rfl (Ur 2 2 rfl (O.box rfl rfl rfl rfl ?_))
 intro B1 MB1
 refine ⟨trivial,?_⟩
 have hsB1:=MB1.size
 replace hF:=hF.trans (MB1.fr nowhere)
 have mm:Rd B1 H.size 0 [.slice av mv cv,.int .i64 (d:Int),.bool nl]:=MB1.rd _ [] (by simp [Value.cells])
 have mm0:cl B1 H.size 0=some (.slice av mv cv):=mm 0 _ rfl
 have mm1:cl B1 H.size (0+1)=some (.int .i64 (d:Int)):=mm 1 _ rfl
 refine Uf 1 [1,2,4] rfl (Ut 1 rfl (Ur 5 161 rfl (Us 0 rfl mm rfl (Uq 1 rfl (O.call rfl rfl rfl call68 rfl (grow_spec hd (ho.fr hF) hol (hi.fr hF) hll) ?_)))))
 rintro _ H3 ⟨I,hIo,hIw,hIb,tr,S,rfl,hM,hF3,hS⟩
 have hs3:=hF3.size
 replace hF:=hF.trans hF3
 replace mm:=hF3.rd mm (fun _ _=>nw)
 replace mm0:=hF3.keep mm0 nw
 replace mm1:=hF3.keep mm1 nw
 have hSb:∀b,S b∨(b<cx.base∧cx.own b)→B1.size≤b:=fun b hb=>hb.elim (hS b) (fun h=>hIw b h.2)
 have hOO:OO ord=OI:=by rw [←hIo];rfl
 have hpl:=Pl.puts_length OI l
 have hSlt:=hM.lt
 have hbs:=hM.tc.hb
 unfold ptr
 refine ⟨trivial,?_⟩
 refine O.call rfl rfl rfl call73 rfl (Items_spec hP hM (by omega)) ?_
 rintro v4 H4 ⟨h4,hF4⟩
 replace hF:=hF.trans hF4
 replace mm:=hF4.rd mm (fun _ _=>nw)
 replace mm0:=hF4.keep mm0 nw
 replace mm1:=hF4.keep mm1 nw
 refine ⟨trivial,?_⟩
 refine Uf 1 [4] rfl (Go'.ret (vs:=[_]) func43 results43 ⟨rfl,trivial⟩ ?_)
 rw [hOO];exact ⟨h4,hF⟩
theorem alive_spec {B:World} {H:Mem}:Fn Try.prog B 25 [] H (fun r H'=>r=.bool true∧Fr nowhere H H'):=by
 have hal:(Pl.puts (OO []) ((exl.drop 0).take (3-0))).length=3:=by decide
 refine fn_of func25 rfl ntmps25 ?_
 refine (show Go' _ _ _ _ 7 [] [.code _] _ from ?_)
 refine Ut 1 rfl (Ur 1 0 rfl (Uf 1 [0] rfl (Ut 1 rfl (Ur 7 138 rfl (O.call rfl rfl rfl call30 rfl exMake_spec ?_)))))
 rintro _ H1 ⟨rfl,hF1⟩
 refine ⟨trivial,?_⟩
 refine O.call rfl rfl rfl call32 rfl exItems_spec ?_
 rintro ev H2 ⟨hev,hF2⟩
 obtain ⟨ea,ec,hee⟩:=hev.len
 subst hee
 refine ⟨trivial,?_⟩
 refine O.slcIn (E:=EJ) (jh:=3) rfl rfl rfl rfl underlying25 sizeOf27 rfl hev ⟨_,by rfl⟩ rfl (by decide) (by decide) ?_
 intro sv hsv
 refine O.call rfl rfl rfl call43 rfl (igitems_spec (d:=2) (by decide) (InS.nil EN _) (by decide) hsv (by decide)) ?_
 rintro gv H3 ⟨hg,hF3⟩
 obtain ⟨ga,gc,hge⟩:=hg.inS.len
 subst hge
 refine ⟨trivial,?_⟩
 refine Uc 1 rfl (eqlT (by rw [hal];rfl)) (Uf 1 [0] rfl (Go'.ret (vs:=[_]) func25 results25 ⟨rfl,trivial⟩ ?_))
 exact ⟨rfl,(hF1.trans hF2).trans hF3⟩
end Go.Bt.FG
namespace Go.Bt.FG
open Go Go.Proofs Go.Proofs.Try
set_option maxRecDepth 20000
set_option maxHeartbeats 4000000
set_option linter.unusedSectionVars false
theorem Pl.dn_step {α:Type} (O:Pl.Swo α) {x:α} {l:List α} (hs:Pl.Srt O l) {i:Nat} {y:α} (hy:l[i]?=some y):O.lt x y=false↔i<Pl.pos O x l+(Pl.fnd O x l).toNat:=by
 obtain ⟨hil,hy2⟩:=List.getElem?_eq_some_iff.1 hy
 have hp:=Pl.pos_split O x l
 have hd:=hs.drop_pos O (x:=x)
 cases hf:Pl.fnd O x l with
 | false=>
  have ha:=Pl.after_pos O hs hf
  simp only [Bool.toNat_false,Nat.add_zero]
  constructor
  ·
   intro h
   rcases Nat.lt_or_ge i (Pl.pos O x l) with h1|h1
   · exact h1
   ·
    have:=ha y (List.mem_iff_getElem?.2 ⟨i-Pl.pos O x l,by rw [List.getElem?_drop,Nat.add_sub_cancel' h1];exact hy⟩)
    rw [h] at this;cases this
  ·
   intro h
   have:=hp.1 y (List.mem_iff_getElem?.2 ⟨i,by rw [List.getElem?_take_of_lt h];exact hy⟩)
   exact O.asy this
 | true=>
  obtain ⟨z,hz,h1,h2⟩:=Pl.fnd_at O hs hf
  simp only [Bool.toNat_true]
  constructor
  ·
   intro h
   rcases Nat.lt_or_ge i (Pl.pos O x l+1) with h3|h3
   · exact h3
   ·
    have h4:=List.pairwise_iff_getElem.1 hs (Pl.pos O x l) i (List.getElem?_eq_some_iff.1 hz).1 hil (by omega)
    rw [(List.getElem?_eq_some_iff.1 hz).2,hy2] at h4
    rw [O.lt_of_le_of_lt h1 h4] at h;cases h
  ·
   intro h
   rcases Nat.lt_or_ge i (Pl.pos O x l) with h3|h3
   ·
    have:=hp.1 y (List.mem_iff_getElem?.2 ⟨i,by rw [List.getElem?_take_of_lt h3];exact hy⟩)
    exact O.asy this
   ·
    obtain rfl:i=Pl.pos O x l:=by omega
    rw [hy] at hz;cases hz;exact h2
theorem down_spec {B:World} {H:Mem} {v u:Value} {ord:List Int} {l:List (Int×Int)} {x:Int×Int} (ho:InS EN H v ord) (hl:ord.length<4611686018427387904) (hi:InS EJ H u l) (hs:Pl.Srt (OO ord) l) (hll:l.length≤4294967296):
  Fn Try.prog B 146 [v,u,.agg (EJ.enc x).toArray] H (fun r H'=>OutS EJ H' r (Pl.dn (OO ord) x l).reverse∧Fr nowhere H H'):=by
 obtain ⟨a,c,hu⟩:=hi.len
 subst hu
 have hle:Pl.pos (OO ord) x l+(Pl.fnd (OO ord) x l).toNat≤l.length:=by
  have:=Pl.pos_le (OO ord) x l
  cases h:Pl.fnd (OO ord) x l with
  | false=>simpa using this
  | true=>have:=Pl.fnd_pos_lt (OO ord) h;simp;omega
 refine fn_of func146 rfl ntmps146 ?_
 refine (show Go' _ _ _ _ 28 [(0,_),(1,_),(2,_)] [.code _] _ from ?_)
 refine Ut 1 rfl (Ur 2 2 rfl (O.box rfl rfl rfl rfl ?_))
 intro H1 M1
 refine ⟨trivial,?_⟩
 have hF1:=M1.fr nowhere
 replace ho:=ho.fr hF1
 replace hi:=hi.fr hF1
 have mi:Rd H1 H.size 0 (EJ.enc x):=M1.rd _ [] (by simp [Value.cells])
 refine Uf 1 [0,1,5,6] rfl (Ut 1 rfl (Ur 1 0 rfl (Uf 1 [0,1,5,6,7] rfl (Ut 2 rfl (Go'.loop (Uk [0,1,5,7] rfl ?_))))))
 refine Go'.ind (σ:=Nat) (fun j=>l.length-j) (fun j H'=>Fr nowhere H1 H'∧j≤Pl.pos (OO ord) x l+(Pl.fnd (OO ord) x l).toNat)
  (fun j=>[(0,v),(1,.slice a l.length c),(5,.pointer (some ⟨H.size,0,none⟩)),(7,.int .i64 (j:Int))]) 0 ⟨Fr.refl _ _,Nat.zero_le _⟩ rfl ?_
 rintro j H2 ⟨hF2,hjl⟩ ih
 have ho2:=ho.fr hF2
 have hi2:=hi.fr hF2
 have mi2:Rd H2 H.size 0 (EJ.enc x):=hF2.rd mi (fun _ _=>nw)
 refine Ut 2 rfl ?_
 by_cases hlt:j<l.length
 ·
  obtain ⟨y,hy⟩:∃y,l[j]?=some y:=⟨l[j],List.getElem?_eq_getElem hlt⟩
  obtain ⟨b,o,c',e,hr⟩:=hi2.at hy
  cases e
  have hst:=Pl.dn_step (OO ord) hs (x:=x) hy
  cases hlx:(OO ord).lt x y
  ·
   refine UD (fun H'=>Rd H' H.size 0 (EJ.enc x)∧Rd H' b (o+j*2) (EJ.enc y)) 14 9441280 (by kernel_rfl) (⟨mi2,hr⟩) (Uc 3 rfl (lssT (by omega)) (Us 2 rfl mi2 rfl (Ux 2 j rfl (by omega) hlt (Us 0 rfl hr rfl (O.call rfl rfl rfl call186 rfl (before_spec ho2 hl) ?_)))))
   rintro _ H3 ⟨rfl,hF3⟩
   rw [hlx]
   refine ⟨⟨hF3.rd mi2 (fun _ _=>nw),hF3.rd hr (fun _ _=>nw)⟩,?_⟩
   refine Uf 2 [0,1,5,7,21] rfl (Go'.condT rfl (Ut 2 rfl (Ur 3 0 rfl (Ua 1 (((j+1:Nat):Int)) rfl (by omega) (Uf 1 [0,1,5,7,21] rfl (Ut 1 rfl (Uk [0,1,5,7] rfl (Go'.inLoop ?_))))))))
   exact ih (j+1) H3 ⟨hF2.trans hF3,hst.1 hlx⟩ (by omega)
  ·
   refine UD (fun H'=>Rd H' H.size 0 (EJ.enc x)∧Rd H' b (o+j*2) (EJ.enc y)) 14 9441280 (by kernel_rfl) (⟨mi2,hr⟩) (Uc 3 rfl (lssT (by omega)) (Us 2 rfl mi2 rfl (Ux 2 j rfl (by omega) hlt (Us 0 rfl hr rfl (O.call rfl rfl rfl call186 rfl (before_spec ho2 hl) ?_)))))
   rintro _ H3 ⟨rfl,hF3⟩
   rw [hlx]
   refine ⟨⟨hF3.rd mi2 (fun _ _=>nw),hF3.rd hr (fun _ _=>nw)⟩,?_⟩
   refine Uf 2 [0,1,5,7,21] rfl ?_
   have hj:j=Pl.pos (OO ord) x l+(Pl.fnd (OO ord) x l).toNat:=by
    rcases Nat.lt_or_ge j (Pl.pos (OO ord) x l+(Pl.fnd (OO ord) x l).toNat) with h|h
    · rw [hst.2 h] at hlx;cases hlx
    · omega
   replace hi2:=hi2.fr hF3
   refine Go'.condF rfl (Ut 2 rfl (Ur 5 128 rfl (Uq 2 rfl (O.slcIn (E:=EJ) (jl:=0) (jh:=j) rfl rfl rfl rfl underlying25 sizeOf27 rfl hi2 ⟨_,by rfl⟩ rfl (by omega) (by omega) ?_))))
   intro v1 hv1
   rw [List.drop_zero,Nat.sub_zero] at hv1
   rw [hj] at hv1
   refine O.call rfl rfl rfl call145 rfl (turned_spec (l:=Pl.dn (OO ord) x l) hv1 (by have:=Pl.dn_le (OO ord) x l;omega)) ?_
   rintro tv H4 ⟨htv,hF4⟩
   refine ⟨trivial,?_⟩
   refine Uf 1 [6] rfl (Go'.ret (vs:=[_]) func146 results146 ⟨rfl,trivial⟩ ?_)
   exact ⟨htv,((hF1.trans hF2).trans hF3).trans hF4⟩
 ·
  have hj:j=Pl.pos (OO ord) x l+(Pl.fnd (OO ord) x l).toNat:=by omega
  refine Ud 14 9441280 (by kernel_rfl) (Uc 3 rfl (lssF (by omega)) (Uq 7 rfl (Pl.pass2 rfl rfl rfl rfl trivial (Uf 2 [0,1,5,7,21] rfl (Go'.condF rfl (Ut 2 rfl (Ur 5 128 rfl (Uq 2 rfl (O.slcIn (E:=EJ) (jl:=0) (jh:=j) rfl rfl rfl rfl underlying25 sizeOf27 rfl hi2 ⟨_,by rfl⟩ rfl (by omega) (by omega) ?_)))))))))
  intro v1 hv1
  rw [List.drop_zero,Nat.sub_zero] at hv1
  rw [hj] at hv1
  refine O.call rfl rfl rfl call145 rfl (turned_spec (l:=Pl.dn (OO ord) x l) hv1 (by have:=Pl.dn_le (OO ord) x l;omega)) ?_
  rintro tv H4 ⟨htv,hF4⟩
  refine ⟨trivial,?_⟩
  refine Uf 1 [6] rfl (Go'.ret (vs:=[_]) func146 results146 ⟨rfl,trivial⟩ ?_)
  exact ⟨htv,(hF1.trans hF2).trans hF4⟩
theorem gdescend_spec {B:World} {H:Mem} {v u dg nl:Value} {ord:List Int} {l:List (Int×Int)} {x:Int×Int} {n:Int} (ho:InS EN H v ord) (hl:ord.length<4611686018427387904) (hi:InS EJ H u l) (hll:l.length≤4294967296):
  Fn Try.prog B 94 [.agg #[v,dg,nl],u,.agg (EJ.enc x).toArray,.int .i64 n] H (fun r H'=>InS EJ H' r (firstN (Pl.dn (OO ord) x (Pl.puts (OO ord) l)).reverse n)∧Fr nowhere H H'):=by
 have hpl:=Pl.puts_length (OO ord) l
 refine fn_of func94 rfl ntmps94 ?_
 refine (show Go' _ _ _ _ 19 [(0,_),(1,_),(2,_),(3,_)] [.code _] _ from ?_)
 refine Ut 1 rfl (Ur 3 10 rfl (O.box rfl rfl rfl rfl ?_))
 intro H1 M1
 refine ⟨trivial,?_⟩
 replace ho:=ho.fr (M1.fr nowhere)
 replace hi:=hi.fr (M1.fr nowhere)
 have mi:cl H1 H.size 0=some v:=(M1.cl 0).trans rfl
 refine O.box rfl rfl rfl rfl ?_
 intro H2 M2
 refine ⟨trivial,?_⟩
 replace ho:=ho.fr (M2.fr nowhere)
 replace hi:=hi.fr (M2.fr nowhere)
 replace mi:=M2.keep mi
 have mx:Rd H2 H1.size 0 (EJ.enc x):=M2.rd _ [] (by simp [Value.cells])
 refine Uf 1 [1,3,4,6,8] rfl (Ut 1 rfl (Go'.draw (fun H'=>cl H' H.size 0=some v∧Rd H' H1.size 0 (EJ.enc x)) [(0,0),(1,0),(2,0),(3,1),(4,0),(6,0),(8,0),(5,2),(7,2),(9,2),(10,0)] (by kernel_rfl) (by kernel_rfl) (⟨mi,mx⟩) (UL 1 rfl (fun _ h=>h.1) (Ul 1 rfl mi (US 1 rfl (fun _ h=>h.2) rfl (Uq 1 rfl (O.call rfl rfl rfl call42 rfl (tree_spec ho hl hi hll) ?_)))))))
 rintro sv H3 ⟨hsv,hF3⟩
 replace mi:=hF3.keep mi nw
 replace mx:=hF3.rd mx (fun _ _=>nw)
 refine ⟨⟨mi,mx⟩,?_⟩
 refine O.call rfl rfl rfl call146 rfl (down_spec (x:=x) (ho.fr hF3) hl hsv.inS (Pl.puts_srt _ _) (by omega)) ?_
 rintro tv H4 ⟨htv,hF4⟩
 replace mi:=hF4.keep mi nw
 replace mx:=hF4.rd mx (fun _ _=>nw)
 refine ⟨⟨mi,mx⟩,?_⟩
 refine O.call rfl rfl rfl call144 rfl (first_spec (n:=n) htv.inS) ?_
 rintro fv H5 ⟨hfv,rfl⟩
 refine ⟨⟨mi,mx⟩,?_⟩
 refine Uf 1 [8] rfl (Go'.ret (vs:=[_]) func94 results94 ⟨rfl,trivial⟩ ?_)
 exact ⟨hfv,(((M1.fr nowhere).trans (M2.fr nowhere)).trans hF3).trans hF4⟩
theorem igdescend_spec {B:World} {H:Mem} {d:Nat} {nl:Bool} {v u:Value} {ord:List Int} {l:List (Int×Int)} (hd:d=0∨2≤d∧d≤128) (ho:InS EN H v ord) (hol:ord.length≤4294967296) (hi:InS EJ H u l) (hll:l.length≤4294967296) (x:Int×Int) {n:Int}:
  Fn Try.prog B 60 [.agg #[v,.int .i64 (d:Int),.bool nl],u,.agg (EJ.enc x).toArray,.int .i64 n] H (fun r H'=>OutS EJ H' r (firstN ((Pl.dn (OO ord) x (Pl.puts (OO ord) l)).reverse) n)∧Fr nowhere H H'):=by
 obtain ⟨a,c,hu⟩:=hi.len
 subst hu
 obtain ⟨av,mv,cv,hv⟩:=InS.form ho
 subst hv
 have hF:Fr nowhere H H:=Fr.refl _ _
 have hP:=PD_ok hd
 refine fn_of func60 rfl ntmps60 ?_
 refine (show Go' _ _ _ _ 18 [(0,_),(1,_),(2,_),(3,_)] [.code _] _ from ?_)
 refine Ut 1 rfl (Ur 3 10 rfl (O.box rfl rfl rfl rfl ?_))
 intro B1 MB1
 refine ⟨trivial,?_⟩
 have hsB1:=MB1.size
 replace hF:=hF.trans (MB1.fr nowhere)
 have mm:Rd B1 H.size 0 [.slice av mv cv,.int .i64 (d:Int),.bool nl]:=MB1.rd _ [] (by simp [Value.cells])
 have mm0:cl B1 H.size 0=some (.slice av mv cv):=mm 0 _ rfl
 have mm1:cl B1 H.size (0+1)=some (.int .i64 (d:Int)):=mm 1 _ rfl
 refine O.box rfl rfl rfl rfl ?_
 intro B2 MB2
 refine ⟨trivial,?_⟩
 have hsB2:=MB2.size
 replace hF:=hF.trans (MB2.fr nowhere)
 replace mm:=(MB2.fr nowhere).rd mm (fun _ _=>nw)
 replace mm0:=(MB2.fr nowhere).keep mm0 nw
 replace mm1:=(MB2.fr nowhere).keep mm1 nw
 have mpivot:Rd B2 B1.size 0 (EJ.enc x):=MB2.rd _ [] (by simp [Value.cells])
 refine Uf 1 [1,3,4,6,8] rfl (Ut 1 rfl (Ur 1 2 rfl (O.alloc rfl rfl rfl zeroValue25 ?_)))
 intro H2 M2
 refine ⟨trivial,?_⟩
 have hs2:=M2.size
 replace hF:=hF.trans (M2.fr nowhere)
 replace mm:=(M2.fr nowhere).rd mm (fun _ _=>nw)
 replace mm0:=(M2.fr nowhere).keep mm0 nw
 replace mm1:=(M2.fr nowhere).keep mm1 nw
 replace mpivot:=(M2.fr nowhere).rd mpivot (fun _ _=>nw)
 have hD:cl H2 B2.size 0=some (.slice none 0 0):=(M2.cl 0).trans rfl
 have hw:Wr H2 B2.size 0 1:=M2.wr 1 (by decide)
 refine Uf 0 [1,3,4,6,8,9] rfl (Ut 1 rfl (Go'.draw (fun H'=>Rd H' B1.size 0 (EJ.enc x)) [(0,1),(1,0),(3,0),(4,0),(2,2),(5,2),(6,2)] (by kernel_rfl) (by kernel_rfl) (mpivot) (Us 0 rfl mm rfl (US 1 rfl (fun _ h=>h) rfl (Uq 1 rfl (O.call rfl rfl rfl call68 rfl (grow_spec hd (ho.fr hF) hol (hi.fr hF) hll) ?_))))))
 rintro _ H3 ⟨I,hIo,hIw,hIb,tr,S,rfl,hM,hF3,hS⟩
 have hs3:=hF3.size
 replace hF:=hF.trans hF3
 replace mm:=hF3.rd mm (fun _ _=>nw)
 replace mm0:=hF3.keep mm0 nw
 replace mm1:=hF3.keep mm1 nw
 replace mpivot:=hF3.rd mpivot (fun _ _=>nw)
 replace hD:=hF3.keep hD nw
 replace hw:=hF3.wr hw
 have hSb:∀b,S b∨(b<cx.base∧cx.own b)→H2.size≤b:=fun b hb=>hb.elim (hS b) (fun h=>hIw b h.2)
 have hOO:OO ord=OI:=by rw [←hIo];rfl
 have hpl:=Pl.puts_length OI l
 have hSlt:=hM.lt
 have hbs:=hM.tc.hb
 unfold ptr
 refine ⟨mpivot,?_⟩
 refine O.call rfl rfl rfl call107 rfl (taker_spec (n:=n) hD hw) ?_
 rintro _ H4 ⟨b2,b3,rfl,hT,hF4⟩
 have hs4:=hF4.size
 replace hF:=hF.trans hF4
 replace hM:=hM.fr hF4 (fun _ _ _=>nw)
 replace mm:=hF4.rd mm (fun _ _=>nw)
 replace mm0:=hF4.keep mm0 nw
 replace mm1:=hF4.keep mm1 nw
 replace mpivot:=hF4.rd mpivot (fun _ _=>nw)
 refine ⟨mpivot,?_⟩
 refine O.call rfl rfl rfl call110 rfl (Descend_spec (cbTk B b2 b3 B2.size n) call152 hP x hM hT (fun b hb hz=>hz.elim (fun h=>by have:=hSb b (.inl hb);omega) (fun h=>by have:=hSlt b hb;omega)) (fun b hz hb=>hz.elim (fun h=>by have:=hSb b (.inr hb);omega) (fun h=>by omega)) (by omega) (Nat.le_refl _)) ?_
 rintro _ H5 ⟨Z5,hT5,hF5,hZ5⟩
 have hmk:∀{b o v},cl H4 b o=some v→b≠B2.size→b<B2.size→cl H5 b o=some v:=fun {b o v} h h1 h2=>hF5.keep h (fun hz=>hz.elim h1 (fun h=>by omega))
 replace mm:=hF5.rd mm (fun _ _ hz=>hz.elim (fun h=>by omega) (fun h=>by omega))
 replace mpivot:=hF5.rd mpivot (fun _ _ hz=>hz.elim (fun h=>by omega) (fun h=>by omega))
 obtain ⟨ov,hv,hov⟩:=TkT.out hT5
 rw [takes_first] at hov
 replace hF:=hF.trans' hF5 (fun _ _ _ h=>h) (fun b o hb hz=>hz.elim (fun h=>by omega) (fun h=>by omega))
 refine ⟨mpivot,?_⟩
 refine Uf 0 [8,9] rfl (Ut 1 rfl (Ur 2 1 rfl (Ul 0 rfl hv (Uf 1 [8] rfl (Go'.ret (vs:=[_]) func60 results60 ⟨rfl,trivial⟩ ?_)))))
 rw [hOO];exact ⟨hov,hF⟩
theorem igascend_spec {B:World} {H:Mem} {d:Nat} {nl:Bool} {v u:Value} {ord:List Int} {l:List (Int×Int)} (hd:d=0∨2≤d∧d≤128) (ho:InS EN H v ord) (hol:ord.length≤4294967296) (hi:InS EJ H u l) (hll:l.length≤4294967296) (x:Int×Int) {n:Int}:
  Fn Try.prog B 59 [.agg #[v,.int .i64 (d:Int),.bool nl],u,.agg (EJ.enc x).toArray,.int .i64 n] H (fun r H'=>OutS EJ H' r (firstN (Pl.up (OO ord) x (Pl.puts (OO ord) l)) n)∧Fr nowhere H H'):=by
 obtain ⟨a,c,hu⟩:=hi.len
 subst hu
 obtain ⟨av,mv,cv,hv⟩:=InS.form ho
 subst hv
 have hF:Fr nowhere H H:=Fr.refl _ _
 have hP:=PD_ok hd
 refine fn_of func59 rfl ntmps59 ?_
 refine (show Go' _ _ _ _ 18 [(0,_),(1,_),(2,_),(3,_)] [.code _] _ from ?_)
 refine Ut 1 rfl (Ur 3 10 rfl (O.box rfl rfl rfl rfl ?_))
 intro B1 MB1
 refine ⟨trivial,?_⟩
 have hsB1:=MB1.size
 replace hF:=hF.trans (MB1.fr nowhere)
 have mm:Rd B1 H.size 0 [.slice av mv cv,.int .i64 (d:Int),.bool nl]:=MB1.rd _ [] (by simp [Value.cells])
 have mm0:cl B1 H.size 0=some (.slice av mv cv):=mm 0 _ rfl
 have mm1:cl B1 H.size (0+1)=some (.int .i64 (d:Int)):=mm 1 _ rfl
 refine O.box rfl rfl rfl rfl ?_
 intro B2 MB2
 refine ⟨trivial,?_⟩
 have hsB2:=MB2.size
 replace hF:=hF.trans (MB2.fr nowhere)
 replace mm:=(MB2.fr nowhere).rd mm (fun _ _=>nw)
 replace mm0:=(MB2.fr nowhere).keep mm0 nw
 replace mm1:=(MB2.fr nowhere).keep mm1 nw
 have mpivot:Rd B2 B1.size 0 (EJ.enc x):=MB2.rd _ [] (by simp [Value.cells])
 refine Uf 1 [1,3,4,6,8] rfl (Ut 1 rfl (Ur 1 2 rfl (O.alloc rfl rfl rfl zeroValue25 ?_)))
 intro H2 M2
 refine ⟨trivial,?_⟩
 have hs2:=M2.size
 replace hF:=hF.trans (M2.fr nowhere)
 replace mm:=(M2.fr nowhere).rd mm (fun _ _=>nw)
 replace mm0:=(M2.fr nowhere).keep mm0 nw
 replace mm1:=(M2.fr nowhere).keep mm1 nw
 replace mpivot:=(M2.fr nowhere).rd mpivot (fun _ _=>nw)
 have hD:cl H2 B2.size 0=some (.slice none 0 0):=(M2.cl 0).trans rfl
 have hw:Wr H2 B2.size 0 1:=M2.wr 1 (by decide)
 refine Uf 0 [1,3,4,6,8,9] rfl (Ut 1 rfl (Go'.draw (fun H'=>Rd H' B1.size 0 (EJ.enc x)) [(0,1),(1,0),(3,0),(4,0),(2,2),(5,2),(6,2)] (by kernel_rfl) (by kernel_rfl) (mpivot) (Us 0 rfl mm rfl (US 1 rfl (fun _ h=>h) rfl (Uq 1 rfl (O.call rfl rfl rfl call68 rfl (grow_spec hd (ho.fr hF) hol (hi.fr hF) hll) ?_))))))
 rintro _ H3 ⟨I,hIo,hIw,hIb,tr,S,rfl,hM,hF3,hS⟩
 have hs3:=hF3.size
 replace hF:=hF.trans hF3
 replace mm:=hF3.rd mm (fun _ _=>nw)
 replace mm0:=hF3.keep mm0 nw
 replace mm1:=hF3.keep mm1 nw
 replace mpivot:=hF3.rd mpivot (fun _ _=>nw)
 replace hD:=hF3.keep hD nw
 replace hw:=hF3.wr hw
 have hSb:∀b,S b∨(b<cx.base∧cx.own b)→H2.size≤b:=fun b hb=>hb.elim (hS b) (fun h=>hIw b h.2)
 have hOO:OO ord=OI:=by rw [←hIo];rfl
 have hpl:=Pl.puts_length OI l
 have hSlt:=hM.lt
 have hbs:=hM.tc.hb
 unfold ptr
 refine ⟨mpivot,?_⟩
 refine O.call rfl rfl rfl call107 rfl (taker_spec (n:=n) hD hw) ?_
 rintro _ H4 ⟨b2,b3,rfl,hT,hF4⟩
 have hs4:=hF4.size
 replace hF:=hF.trans hF4
 replace hM:=hM.fr hF4 (fun _ _ _=>nw)
 replace mm:=hF4.rd mm (fun _ _=>nw)
 replace mm0:=hF4.keep mm0 nw
 replace mm1:=hF4.keep mm1 nw
 replace mpivot:=hF4.rd mpivot (fun _ _=>nw)
 refine ⟨mpivot,?_⟩
 refine O.call rfl rfl rfl call109 rfl (Ascend_spec (cbTk B b2 b3 B2.size n) call152 hP x hM hT (fun b hb hz=>hz.elim (fun h=>by have:=hSb b (.inl hb);omega) (fun h=>by have:=hSlt b hb;omega)) (fun b hz hb=>hz.elim (fun h=>by have:=hSb b (.inr hb);omega) (fun h=>by omega)) (by omega) (Nat.le_refl _)) ?_
 rintro _ H5 ⟨Z5,hT5,hF5,hZ5⟩
 have hmk:∀{b o v},cl H4 b o=some v→b≠B2.size→b<B2.size→cl H5 b o=some v:=fun {b o v} h h1 h2=>hF5.keep h (fun hz=>hz.elim h1 (fun h=>by omega))
 replace mm:=hF5.rd mm (fun _ _ hz=>hz.elim (fun h=>by omega) (fun h=>by omega))
 replace mpivot:=hF5.rd mpivot (fun _ _ hz=>hz.elim (fun h=>by omega) (fun h=>by omega))
 obtain ⟨ov,hv,hov⟩:=TkT.out hT5
 rw [takes_first] at hov
 replace hF:=hF.trans' hF5 (fun _ _ _ h=>h) (fun b o hb hz=>hz.elim (fun h=>by omega) (fun h=>by omega))
 refine ⟨mpivot,?_⟩
 refine Uf 0 [8,9] rfl (Ut 1 rfl (Ur 2 1 rfl (Ul 0 rfl hv (Uf 1 [8] rfl (Go'.ret (vs:=[_]) func59 results59 ⟨rfl,trivial⟩ ?_)))))
 rw [hOO];exact ⟨hov,hF⟩
theorem lawGDescend_spec {B:World} {H:Mem} {d:Nat} {nl:Bool} {v u:Value} {ord:List Int} {l:List (Int×Int)} (hd:d=0∨2≤d∧d≤128) (ho:InS EN H v ord) (hol:ord.length≤4294967296) (hi:InS EJ H u l) (hll:l.length≤4294967296) {x:Int×Int} {n:Int}:
  Fn Try.prog B 46 [.agg #[v,.int .i64 (d:Int),.bool nl],u,.agg (EJ.enc x).toArray,.int .i64 n] H (fun r H'=>r=.bool true∧Fr nowhere H H'):=by
 obtain ⟨a,c,hu⟩:=hi.len
 subst hu
 obtain ⟨av,mv,cv,hv⟩:=InS.form ho
 subst hv
 have hF:Fr nowhere H H:=Fr.refl _ _
 have hP:=PD_ok hd
 refine fn_of func46 rfl ntmps46 ?_
 refine (show Go' _ _ _ _ 24 [(0,_),(1,_),(2,_),(3,_)] [.code _] _ from ?_)
 refine Ut 1 rfl (Ur 3 10 rfl (O.box rfl rfl rfl rfl ?_))
 intro B1 MB1
 refine ⟨trivial,?_⟩
 have hsB1:=MB1.size
 replace hF:=hF.trans (MB1.fr nowhere)
 have mm:Rd B1 H.size 0 [.slice av mv cv,.int .i64 (d:Int),.bool nl]:=MB1.rd _ [] (by simp [Value.cells])
 have mm0:cl B1 H.size 0=some (.slice av mv cv):=mm 0 _ rfl
 have mm1:cl B1 H.size (0+1)=some (.int .i64 (d:Int)):=mm 1 _ rfl
 refine O.box rfl rfl rfl rfl ?_
 intro B2 MB2
 refine ⟨trivial,?_⟩
 have hsB2:=MB2.size
 replace hF:=hF.trans (MB2.fr nowhere)
 replace mm:=(MB2.fr nowhere).rd mm (fun _ _=>nw)
 replace mm0:=(MB2.fr nowhere).keep mm0 nw
 replace mm1:=(MB2.fr nowhere).keep mm1 nw
 have mpivot:Rd B2 B1.size 0 (EJ.enc x):=MB2.rd _ [] (by simp [Value.cells])
 refine Uf 1 [1,3,4,6,8] rfl (Ut 1 rfl ?_)
 have hpl:=Pl.puts_length (OO ord) l
 have hdl:=Pl.dn_le (OO ord) x (Pl.puts (OO ord) l)
 have hfl:=firstN_len (Pl.dn (OO ord) x (Pl.puts (OO ord) l)).reverse n
 rw [List.length_reverse] at hfl
 refine Ur 6 529 rfl (Us 0 rfl mm rfl (Us 1 rfl mpivot rfl (Uq 1 rfl (O.call rfl rfl rfl call60 rfl (igdescend_spec hd (ho.fr hF) hol (hi.fr hF) hll x (n:=n)) ?_))))
 rintro v1 H3 ⟨h1,hF3⟩
 replace hF:=hF.trans hF3
 replace mm:=hF3.rd mm (fun _ _=>nw)
 replace mm0:=hF3.keep mm0 nw
 replace mm1:=hF3.keep mm1 nw
 replace mpivot:=hF3.rd mpivot (fun _ _=>nw)
 refine ⟨trivial,?_⟩
 refine Uf 1 [1,3,4,6,8,9] rfl (Ut 1 rfl (Ur 6 529 rfl (Us 0 rfl mm rfl (Us 1 rfl mpivot rfl (Uq 1 rfl (O.call rfl rfl rfl call94 rfl (gdescend_spec (x:=x) (n:=n) (ho.fr hF) (by omega) (hi.fr hF) hll) ?_))))))
 rintro v2 H4 ⟨h2,hF4⟩
 replace hF:=hF.trans hF4
 replace mm:=hF4.rd mm (fun _ _=>nw)
 replace mm0:=hF4.keep mm0 nw
 replace mm1:=hF4.keep mm1 nw
 replace mpivot:=hF4.rd mpivot (fun _ _=>nw)
 refine ⟨trivial,?_⟩
 refine Uf 1 [8,9,10] rfl (Ut 1 rfl (Ur 4 32 rfl (Uq 2 rfl (O.callQ rfl rfl rfl call28 rfl (eqItems_spec (h1.inS.fr hF4) h2 (by omega)) trivial (Uf 1 [8] rfl (Go'.ret (vs:=[_]) func46 results46 ⟨rfl,trivial⟩ ?_))))))
 exact ⟨rfl,hF⟩
theorem fnExactGDescend {B:World} {H:Mem} {z:Int} {nl:Bool} {v u:Value} {ord:List Int} {l:List (Int×Int)} {y2:Int×Int} {n:Int} (ho:InS EN H v ord) (hi:InS EJ H u l):
  Fn Try.prog B 13 [.agg #[v,.int .i64 z,.bool nl],u,.agg (EJ.enc y2).toArray,.int .i64 n] H (fun r H'=>r=.bool true∧Fr nowhere H H'):=by
 obtain ⟨a,c,hu⟩:=hi.len
 subst hu
 obtain ⟨av,mv,cv,hv⟩:=InS.form ho
 subst hv
 have hF:Fr nowhere H H:=Fr.refl _ _
 refine fn_of func13 rfl ntmps13 ?_
 refine (show Go' _ _ _ _ 34 [(0,_),(1,_),(2,_),(3,_)] [.code _] _ from ?_)
 refine Ut 1 rfl (Ur 3 10 rfl (O.box rfl rfl rfl rfl ?_))
 intro B1 MB1
 refine ⟨trivial,?_⟩
 have hsB1:=MB1.size
 replace hF:=hF.trans (MB1.fr nowhere)
 have mm:Rd B1 H.size 0 [.slice av mv cv,.int .i64 z,.bool nl]:=MB1.rd _ [] (by simp [Value.cells])
 have mm0:cl B1 H.size 0=some (.slice av mv cv):=mm 0 _ rfl
 have mm1:cl B1 H.size (0+1)=some (.int .i64 z):=mm 1 _ rfl
 refine O.box rfl rfl rfl rfl ?_
 intro B2 MB2
 refine ⟨trivial,?_⟩
 have hsB2:=MB2.size
 replace hF:=hF.trans (MB2.fr nowhere)
 replace mm:=(MB2.fr nowhere).rd mm (fun _ _=>nw)
 replace mm0:=(MB2.fr nowhere).keep mm0 nw
 replace mm1:=(MB2.fr nowhere).keep mm1 nw
 have mpivot:Rd B2 B1.size 0 (EJ.enc y2):=MB2.rd _ [] (by simp [Value.cells])
 refine Uf 1 [1,3,4,6,8] rfl (Ut 2 rfl ?_)
 cases hoz:decide (ord.length≤2147483647)
 ·
  refine Ur 8 9 rfl (Us 0 rfl mm rfl (O.call rfl rfl rfl call23 rfl (zzFits1_spec (ho.fr hF) hoz) ?_))
  rintro _ H1 ⟨rfl,hF1⟩
  replace hF:=hF.trans hF1
  replace mm:=hF1.rd mm (fun _ _=>nw)
  replace mm0:=hF1.keep mm0 nw
  replace mm1:=hF1.keep mm1 nw
  replace mpivot:=hF1.rd mpivot (fun _ _=>nw)
  refine ⟨trivial,?_⟩
  refine Uf 6 [1,3,4,6,8,16] rfl (Go'.condT rfl (Ut 1 rfl (Ur 1 0 rfl (Uf 1 [1,3,4,6,8] rfl (Go'.ret (vs:=[_]) func13 results13 ⟨rfl,trivial⟩ ?_)))))
  exact ⟨rfl,hF⟩
 ·
  have hoz2:=of_decide_eq_true hoz
  by_cases hb_lenl:(2147483647:Int)<(l.length:Int)
  ·
   refine Ur 8 9 rfl (Us 0 rfl mm rfl (O.call rfl rfl rfl call23 rfl (zzFits1_spec (ho.fr hF) hoz) ?_))
   rintro _ H1 ⟨rfl,hF1⟩
   replace hF:=hF.trans hF1
   replace mm:=hF1.rd mm (fun _ _=>nw)
   replace mm0:=hF1.keep mm0 nw
   replace mm1:=hF1.keep mm1 nw
   replace mpivot:=hF1.rd mpivot (fun _ _=>nw)
   refine ⟨trivial,?_⟩
   refine Uc 4 rfl (gtrT (by omega)) (Uf 1 [1,3,4,6,8,16] rfl (Go'.condT rfl (Ut 1 rfl (Ur 1 0 rfl (Uf 1 [1,3,4,6,8] rfl (Go'.ret (vs:=[_]) func13 results13 ⟨rfl,trivial⟩ ?_))))))
   exact ⟨rfl,hF⟩
  ·
   refine Ur 8 9 rfl (Us 0 rfl mm rfl (O.call rfl rfl rfl call23 rfl (zzFits1_spec (ho.fr hF) hoz) ?_))
   rintro _ H1 ⟨rfl,hF1⟩
   replace hF:=hF.trans hF1
   replace mm:=hF1.rd mm (fun _ _=>nw)
   replace mm0:=hF1.keep mm0 nw
   replace mm1:=hF1.keep mm1 nw
   replace mpivot:=hF1.rd mpivot (fun _ _=>nw)
   refine ⟨trivial,?_⟩
   refine Uc 4 rfl (gtrF (by omega)) (Uf 1 [1,3,4,6,8,16] rfl (Go'.condF rfl (Ut 2 rfl ?_)))
   cases hfz:fitsb z
   ·
    refine Ur 18 554733706 rfl (O.call rfl rfl rfl call30 rfl exMake_spec ?_)
    rintro _ H2 ⟨rfl,hF2⟩
    replace hF:=hF.trans hF2
    replace mm:=hF2.rd mm (fun _ _=>nw)
    replace mm0:=hF2.keep mm0 nw
    replace mm1:=hF2.keep mm1 nw
    replace mpivot:=hF2.rd mpivot (fun _ _=>nw)
    refine ⟨trivial,?_⟩
    refine O.call rfl rfl rfl call32 rfl exItems_spec ?_
    rintro ev H3 ⟨hev,hF3⟩
    replace hF:=hF.trans hF3
    replace mm:=hF3.rd mm (fun _ _=>nw)
    replace mm0:=hF3.keep mm0 nw
    replace mm1:=hF3.keep mm1 nw
    replace mpivot:=hF3.rd mpivot (fun _ _=>nw)
    refine ⟨trivial,?_⟩
    refine O.bld (cs:=[.int .i64 4,.int .i64 0]) rfl rfl rfl rfl (st27) rfl (by kernel_rfl) (O.call rfl rfl rfl call46 rfl (lawGDescend_spec (d:=2) (by decide) (InS.nil EN _) (by decide) hev (by decide) (x:=(4,0)) (n:=2)) ?_)
    rintro _ H4 ⟨rfl,hF4⟩
    replace hF:=hF.trans hF4
    replace mm:=hF4.rd mm (fun _ _=>nw)
    replace mm0:=hF4.keep mm0 nw
    replace mm1:=hF4.keep mm1 nw
    replace mpivot:=hF4.rd mpivot (fun _ _=>nw)
    refine ⟨trivial,?_⟩
    refine Ul 2 rfl mm1 (O.callQ rfl rfl rfl call33 rfl (fits_spec' hfz) trivial (Uq 6 rfl (Pl.pass2 rfl rfl rfl rfl trivial (Uf 3 [8] rfl (Go'.ret (vs:=[_]) func13 results13 ⟨rfl,trivial⟩ ?_)))))
    exact ⟨rfl,hF⟩
   ·
    obtain ⟨d,rfl,hd⟩:=fitsb_nat hfz
    refine Ur 18 554733706 rfl (O.call rfl rfl rfl call30 rfl exMake_spec ?_)
    rintro _ H2 ⟨rfl,hF2⟩
    replace hF:=hF.trans hF2
    replace mm:=hF2.rd mm (fun _ _=>nw)
    replace mm0:=hF2.keep mm0 nw
    replace mm1:=hF2.keep mm1 nw
    replace mpivot:=hF2.rd mpivot (fun _ _=>nw)
    refine ⟨trivial,?_⟩
    refine O.call rfl rfl rfl call32 rfl exItems_spec ?_
    rintro ev H3 ⟨hev,hF3⟩
    replace hF:=hF.trans hF3
    replace mm:=hF3.rd mm (fun _ _=>nw)
    replace mm0:=hF3.keep mm0 nw
    replace mm1:=hF3.keep mm1 nw
    replace mpivot:=hF3.rd mpivot (fun _ _=>nw)
    refine ⟨trivial,?_⟩
    refine O.bld (cs:=[.int .i64 4,.int .i64 0]) rfl rfl rfl rfl (st27) rfl (by kernel_rfl) (O.call rfl rfl rfl call46 rfl (lawGDescend_spec (d:=2) (by decide) (InS.nil EN _) (by decide) hev (by decide) (x:=(4,0)) (n:=2)) ?_)
    rintro _ H4 ⟨rfl,hF4⟩
    replace hF:=hF.trans hF4
    replace mm:=hF4.rd mm (fun _ _=>nw)
    replace mm0:=hF4.keep mm0 nw
    replace mm1:=hF4.keep mm1 nw
    replace mpivot:=hF4.rd mpivot (fun _ _=>nw)
    refine ⟨trivial,?_⟩
    refine Ul 2 rfl mm1 (O.callQ rfl rfl rfl call33 rfl (fits_spec' hfz) trivial (Us 2 rfl mm rfl (Us 1 rfl mpivot rfl (Uq 1 rfl (O.call rfl rfl rfl call46 rfl (lawGDescend_spec hd (ho.fr hF) (by omega) (hi.fr hF) (by omega) (x:=y2)) ?_)))))
    rintro _ H5 ⟨rfl,hF5⟩
    replace hF:=hF.trans hF5
    replace mm:=hF5.rd mm (fun _ _=>nw)
    replace mm0:=hF5.keep mm0 nw
    replace mm1:=hF5.keep mm1 nw
    replace mpivot:=hF5.rd mpivot (fun _ _=>nw)
    refine ⟨trivial,?_⟩
    refine Uf 3 [8] rfl (Go'.ret (vs:=[_]) func13 results13 ⟨rfl,trivial⟩ ?_)
    exact ⟨rfl,hF⟩
end Go.Bt.FG
namespace Go.Bt.FG
open Go Go.Proofs Go.Proofs.Try
set_option maxRecDepth 20000
set_option maxHeartbeats 4000000
set_option linter.unusedSectionVars false
theorem igdescendhint_spec {B:World} {H:Mem} {d:Nat} {nl:Bool} {v u:Value} {ord:List Int} {l:List (Int×Int)} (hd:d=0∨2≤d∧d≤128) (ho:InS EN H v ord) (hol:ord.length≤4294967296) (hi:InS EJ H u l) (hll:l.length≤4294967296) (x:Int×Int) {n:Int}:
  Fn Try.prog B 95 [.agg #[v,.int .i64 (d:Int),.bool nl],u,.agg (EJ.enc x).toArray,.int .i64 n] H (fun r H'=>OutS EJ H' r (firstN ((Pl.dn (OO ord) x (Pl.puts (OO ord) l)).reverse) n)∧Fr nowhere H H'):=by
 obtain ⟨a,c,hu⟩:=hi.len
 subst hu
 obtain ⟨av,mv,cv,hv⟩:=InS.form ho
 subst hv
 have hF:Fr nowhere H H:=Fr.refl _ _
 have hP:=PD_ok hd
 refine fn_of func95 rfl ntmps95 ?_
 refine (show Go' _ _ _ _ 19 [(0,_),(1,_),(2,_),(3,_)] [.code _] _ from ?_)
 refine Ut 1 rfl (Ur 3 10 rfl (O.box rfl rfl rfl rfl ?_))
 intro B1 MB1
 refine ⟨trivial,?_⟩
 have hsB1:=MB1.size
 replace hF:=hF.trans (MB1.fr nowhere)
 have mm:Rd B1 H.size 0 [.slice av mv cv,.int .i64 (d:Int),.bool nl]:=MB1.rd _ [] (by simp [Value.cells])
 have mm0:cl B1 H.size 0=some (.slice av mv cv):=mm 0 _ rfl
 have mm1:cl B1 H.size (0+1)=some (.int .i64 (d:Int)):=mm 1 _ rfl
 refine O.box rfl rfl rfl rfl ?_
 intro B2 MB2
 refine ⟨trivial,?_⟩
 have hsB2:=MB2.size
 replace hF:=hF.trans (MB2.fr nowhere)
 replace mm:=(MB2.fr nowhere).rd mm (fun _ _=>nw)
 replace mm0:=(MB2.fr nowhere).keep mm0 nw
 replace mm1:=(MB2.fr nowhere).keep mm1 nw
 have mpivot:Rd B2 B1.size 0 (EJ.enc x):=MB2.rd _ [] (by simp [Value.cells])
 refine Uf 1 [1,3,4,6,8] rfl (Ut 1 rfl (Ur 1 2 rfl (O.alloc rfl rfl rfl zeroValue25 ?_)))
 intro H2 M2
 refine ⟨trivial,?_⟩
 have hs2:=M2.size
 replace hF:=hF.trans (M2.fr nowhere)
 replace mm:=(M2.fr nowhere).rd mm (fun _ _=>nw)
 replace mm0:=(M2.fr nowhere).keep mm0 nw
 replace mm1:=(M2.fr nowhere).keep mm1 nw
 replace mpivot:=(M2.fr nowhere).rd mpivot (fun _ _=>nw)
 have hD:cl H2 B2.size 0=some (.slice none 0 0):=(M2.cl 0).trans rfl
 have hw:Wr H2 B2.size 0 1:=M2.wr 1 (by decide)
 refine Uf 0 [1,3,4,6,8,9] rfl (Ut 1 rfl ?_)
 refine Go'.drawT (σ:=Unit) (fun H'=>Rd H' H.size 0 [.slice av mv cv,.int .i64 (d:Int),.bool nl]∧Rd H' B1.size 0 (EJ.enc x)) (fun _ H'=>Fr nowhere H H'∧∃ov,cl H' B2.size 0=some ov∧OutS EJ H' ov (firstN ((Pl.dn (OO ord) x (Pl.puts (OO ord) l)).reverse) n)) (fun s=>[(9,.pointer (some ⟨B2.size,0,none⟩))]) 6 [2,5] (.node [(0,0),(1,0),(3,0),(4,0),(6,2),(2,2),(5,2),(7,2)] [(0,0),(1,0),(3,0),(4,0),(2,2)] (.node [(6,2),(5,2),(7,2)] [(5,2)] (.leaf [(6,2),(7,2)]))) (by kernel_rfl) (by kernel_rfl) (⟨mm,mpivot⟩) ?_ ?_
 ·
  intro _ _ _ hj
  refine Tk.node ?_ ?_
  ·
   refine US 0 rfl (fun _ h=>h.1) rfl (US 1 rfl (fun _ h=>h.2) rfl (Uq 1 rfl (O.alloc rfl rfl rfl zeroValue153 ?_)))
   intro H5 M5
   have hs5:=M5.size
   replace hF:=hF.trans (M5.fr nowhere)
   replace mm:=(M5.fr nowhere).rd mm (fun _ _=>nw)
   replace mm0:=(M5.fr nowhere).keep mm0 nw
   replace mm1:=(M5.fr nowhere).keep mm1 nw
   replace mpivot:=(M5.fr nowhere).rd mpivot (fun _ _=>nw)
   replace hD:=(M5.fr nowhere).keep hD nw
   replace hw:=(M5.fr nowhere).wr hw
   have hkM:HintM H5 H2.size:=by
    letI:Inhabited Cx:=nilCx
    exact (HintM.new M5 (fun i hi=>by have hi8:i=0∨i=1∨i=2∨i=3∨i=4∨i=5∨i=6∨i=7:=(by omega);rcases hi8 with rfl|rfl|rfl|rfl|rfl|rfl|rfl|rfl<;>rfl) (fun i hi=>by have hi8:i=0∨i=1∨i=2∨i=3∨i=4∨i=5∨i=6∨i=7:=(by omega);rcases hi8 with rfl|rfl|rfl|rfl|rfl|rfl|rfl|rfl<;>rfl) (by decide))
   refine ⟨⟨mm,mpivot⟩,?_⟩
   refine O.call rfl rfl rfl call68 rfl (grow_spec hd (ho.fr hF) hol (hi.fr hF) hll) ?_
   rintro _ H3 ⟨I,hIo,hIw,hIb,tr,S,rfl,hM,hF3,hS⟩
   have hs3:=hF3.size
   replace hF:=hF.trans hF3
   replace mm:=hF3.rd mm (fun _ _=>nw)
   replace mm0:=hF3.keep mm0 nw
   replace mm1:=hF3.keep mm1 nw
   replace mpivot:=hF3.rd mpivot (fun _ _=>nw)
   replace hD:=hF3.keep hD nw
   replace hw:=hF3.wr hw
   have hSb:∀b,S b∨(b<cx.base∧cx.own b)→H5.size≤b:=fun b hb=>hb.elim (hS b) (fun h=>hIw b h.2)
   have hOO:OO ord=OI:=by rw [←hIo];rfl
   have hpl:=Pl.puts_length OI l
   have hSlt:=hM.lt
   have hbs:=hM.tc.hb
   unfold ptr
   replace hkM:=hkM.fr hF3 (fun _=>nw)
   refine ⟨⟨mm,mpivot⟩,?_⟩
   refine O.call rfl rfl rfl call107 rfl (taker_spec (n:=n) hD hw) ?_
   rintro _ H4 ⟨b2,b3,rfl,hT,hF4⟩
   have hs4:=hF4.size
   replace hF:=hF.trans hF4
   replace mm:=hF4.rd mm (fun _ _=>nw)
   replace mm0:=hF4.keep mm0 nw
   replace mm1:=hF4.keep mm1 nw
   replace mpivot:=hF4.rd mpivot (fun _ _=>nw)
   replace hD:=hF4.keep hD nw
   replace hw:=hF4.wr hw
   replace hM:=hM.fr hF4 (fun _ _ _=>nw)
   replace hkM:=hkM.fr hF4 (fun _=>nw)
   refine ⟨⟨mm,mpivot⟩,?_⟩
   refine O.call rfl rfl rfl call147 rfl (DescendHint_spec (cbTk B b2 b3 B2.size n) call152 hP x hM hT (fun b hb hz=>hz.elim (fun h=>by have:=hSb b (.inl hb);omega) (fun h=>by have:=hSlt b hb;omega)) (fun b hz hb=>hz.elim (fun h=>by have:=hSb b (.inr hb);omega) (fun h=>by omega)) (by omega) (Nat.le_refl _) (hv:=.pointer (some ⟨H2.size,0,none⟩)) (hz:=fun b=>b=H2.size) (.inr ⟨H2.size,rfl,fun _=>Iff.rfl,by omega,fun h=>by have h1:=hIw _ h.2;have h2:=h.1;omega,hkM⟩) (fun b h hb=>by have h1:=hSlt b hb;have h2:=hSb b (.inl hb);omega) (fun b hz h=>hz.elim (fun e=>by omega) (fun e=>by omega))) ?_
   rintro _ H6 ⟨Z6,hT6,hF6,hZ6⟩
   replace mm:=hF6.rd mm (fun _ _ hz=>hz.elim (fun hz=>hz.elim (fun h=>by omega) (fun h=>by omega)) (fun h=>by omega))
   replace mpivot:=hF6.rd mpivot (fun _ _ hz=>hz.elim (fun hz=>hz.elim (fun h=>by omega) (fun h=>by omega)) (fun h=>by omega))
   obtain ⟨ov,hv,hov⟩:=TkT.out hT6
   rw [takes_first] at hov
   replace hF:=hF.trans' hF6 (fun _ _ _ h=>h) (fun b o hb hz=>hz.elim (fun hz=>hz.elim (fun h=>by omega) (fun h=>by omega)) (fun h=>by omega))
   refine ⟨⟨mm,mpivot⟩,?_⟩
   refine Pl.fin [(9,_)] ⟨rfl,trivial⟩ (hj () _ ?_)
   exact ⟨hF,ov,hv,by rw [hOO];exact hov⟩
  ·
   refine Ok.ldsC rfl rfl rfl (fun w=>⟨isAgg24 w,sizeOf24 w⟩) rfl rfl (fun _ h=>h.1) (Ok.mv rfl rfl rfl rfl rfl (Ok.ldsC rfl rfl rfl (fun w=>⟨isAgg27 w,sizeOf27 w⟩) rfl rfl (fun _ h=>h.2) (Ok.mv rfl rfl rfl rfl rfl (Ok.call rfl rfl rfl call68 rfl (grow_spec hd (ho.fr hF) hol (hi.fr hF) hll) ?_))))
   rintro _ H3 ⟨I,hIo,hIw,hIb,tr,S,rfl,hM,hF3,hS⟩
   have hs3:=hF3.size
   replace hF:=hF.trans hF3
   replace mm:=hF3.rd mm (fun _ _=>nw)
   replace mm0:=hF3.keep mm0 nw
   replace mm1:=hF3.keep mm1 nw
   replace mpivot:=hF3.rd mpivot (fun _ _=>nw)
   replace hD:=hF3.keep hD nw
   replace hw:=hF3.wr hw
   have hSb:∀b,S b∨(b<cx.base∧cx.own b)→H2.size≤b:=fun b hb=>hb.elim (hS b) (fun h=>hIw b h.2)
   have hOO:OO ord=OI:=by rw [←hIo];rfl
   have hpl:=Pl.puts_length OI l
   have hSlt:=hM.lt
   have hbs:=hM.tc.hb
   unfold ptr
   refine ⟨⟨mm,mpivot⟩,?_⟩
   refine Pk.fin ?_
   refine Tk.node ?_ ?_
   ·
    refine O.alloc rfl rfl rfl zeroValue153 ?_
    intro H5 M5
    have hs5:=M5.size
    replace hF:=hF.trans (M5.fr nowhere)
    replace mm:=(M5.fr nowhere).rd mm (fun _ _=>nw)
    replace mm0:=(M5.fr nowhere).keep mm0 nw
    replace mm1:=(M5.fr nowhere).keep mm1 nw
    replace mpivot:=(M5.fr nowhere).rd mpivot (fun _ _=>nw)
    replace hD:=(M5.fr nowhere).keep hD nw
    replace hw:=(M5.fr nowhere).wr hw
    replace hM:=hM.fr (M5.fr nowhere) (fun _ _ _=>nw)
    have hkM:HintM H5 H3.size:=by
     letI:Inhabited Cx:=nilCx
     exact (HintM.new M5 (fun i hi=>by have hi8:i=0∨i=1∨i=2∨i=3∨i=4∨i=5∨i=6∨i=7:=(by omega);rcases hi8 with rfl|rfl|rfl|rfl|rfl|rfl|rfl|rfl<;>rfl) (fun i hi=>by have hi8:i=0∨i=1∨i=2∨i=3∨i=4∨i=5∨i=6∨i=7:=(by omega);rcases hi8 with rfl|rfl|rfl|rfl|rfl|rfl|rfl|rfl<;>rfl) (by decide))
    refine ⟨⟨mm,mpivot⟩,?_⟩
    refine O.call rfl rfl rfl call107 rfl (taker_spec (n:=n) hD hw) ?_
    rintro _ H4 ⟨b2,b3,rfl,hT,hF4⟩
    have hs4:=hF4.size
    replace hF:=hF.trans hF4
    replace mm:=hF4.rd mm (fun _ _=>nw)
    replace mm0:=hF4.keep mm0 nw
    replace mm1:=hF4.keep mm1 nw
    replace mpivot:=hF4.rd mpivot (fun _ _=>nw)
    replace hD:=hF4.keep hD nw
    replace hw:=hF4.wr hw
    replace hM:=hM.fr hF4 (fun _ _ _=>nw)
    replace hkM:=hkM.fr hF4 (fun _=>nw)
    refine ⟨⟨mm,mpivot⟩,?_⟩
    refine O.call rfl rfl rfl call147 rfl (DescendHint_spec (cbTk B b2 b3 B2.size n) call152 hP x hM hT (fun b hb hz=>hz.elim (fun h=>by have:=hSb b (.inl hb);omega) (fun h=>by have:=hSlt b hb;omega)) (fun b hz hb=>hz.elim (fun h=>by have:=hSb b (.inr hb);omega) (fun h=>by omega)) (by omega) (Nat.le_refl _) (hv:=.pointer (some ⟨H3.size,0,none⟩)) (hz:=fun b=>b=H3.size) (.inr ⟨H3.size,rfl,fun _=>Iff.rfl,by omega,fun h=>by have h1:=hIw _ h.2;have h2:=h.1;omega,hkM⟩) (fun b h hb=>by have h1:=hSlt b hb;have h2:=hSb b (.inl hb);omega) (fun b hz h=>hz.elim (fun e=>by omega) (fun e=>by omega))) ?_
    rintro _ H6 ⟨Z6,hT6,hF6,hZ6⟩
    replace mm:=hF6.rd mm (fun _ _ hz=>hz.elim (fun hz=>hz.elim (fun h=>by omega) (fun h=>by omega)) (fun h=>by omega))
    replace mpivot:=hF6.rd mpivot (fun _ _ hz=>hz.elim (fun hz=>hz.elim (fun h=>by omega) (fun h=>by omega)) (fun h=>by omega))
    obtain ⟨ov,hv,hov⟩:=TkT.out hT6
    rw [takes_first] at hov
    replace hF:=hF.trans' hF6 (fun _ _ _ h=>h) (fun b o hb hz=>hz.elim (fun hz=>hz.elim (fun h=>by omega) (fun h=>by omega)) (fun h=>by omega))
    refine ⟨⟨mm,mpivot⟩,?_⟩
    refine Pl.fin [(9,_)] ⟨rfl,trivial⟩ (hj () _ ?_)
    exact ⟨hF,ov,hv,by rw [hOO];exact hov⟩
   ·
    refine Ok.call rfl rfl rfl call107 rfl (taker_spec (n:=n) hD hw) ?_
    rintro _ H4 ⟨b2,b3,rfl,hT,hF4⟩
    have hs4:=hF4.size
    replace hF:=hF.trans hF4
    replace mm:=hF4.rd mm (fun _ _=>nw)
    replace mm0:=hF4.keep mm0 nw
    replace mm1:=hF4.keep mm1 nw
    replace mpivot:=hF4.rd mpivot (fun _ _=>nw)
    replace hD:=hF4.keep hD nw
    replace hw:=hF4.wr hw
    replace hM:=hM.fr hF4 (fun _ _ _=>nw)
    refine ⟨⟨mm,mpivot⟩,?_⟩
    refine Pk.fin (Tk.leaf (O.alloc rfl rfl rfl zeroValue153 ?_))
    intro H5 M5
    have hs5:=M5.size
    replace hF:=hF.trans (M5.fr nowhere)
    replace mm:=(M5.fr nowhere).rd mm (fun _ _=>nw)
    replace mm0:=(M5.fr nowhere).keep mm0 nw
    replace mm1:=(M5.fr nowhere).keep mm1 nw
    replace mpivot:=(M5.fr nowhere).rd mpivot (fun _ _=>nw)
    replace hM:=hM.fr (M5.fr nowhere) (fun _ _ _=>nw)
    replace hT:=(cbTk B b2 b3 B2.size n).fr hT (M5.fr nowhere) (fun _ _ _=>nw)
    have hkM:HintM H5 H4.size:=by
     letI:Inhabited Cx:=nilCx
     exact (HintM.new M5 (fun i hi=>by have hi8:i=0∨i=1∨i=2∨i=3∨i=4∨i=5∨i=6∨i=7:=(by omega);rcases hi8 with rfl|rfl|rfl|rfl|rfl|rfl|rfl|rfl<;>rfl) (fun i hi=>by have hi8:i=0∨i=1∨i=2∨i=3∨i=4∨i=5∨i=6∨i=7:=(by omega);rcases hi8 with rfl|rfl|rfl|rfl|rfl|rfl|rfl|rfl<;>rfl) (by decide))
    refine ⟨⟨mm,mpivot⟩,?_⟩
    refine O.call rfl rfl rfl call147 rfl (DescendHint_spec (cbTk B b2 b3 B2.size n) call152 hP x hM hT (fun b hb hz=>hz.elim (fun h=>by have:=hSb b (.inl hb);omega) (fun h=>by have:=hSlt b hb;omega)) (fun b hz hb=>hz.elim (fun h=>by have:=hSb b (.inr hb);omega) (fun h=>by omega)) (by omega) (Nat.le_refl _) (hv:=.pointer (some ⟨H4.size,0,none⟩)) (hz:=fun b=>b=H4.size) (.inr ⟨H4.size,rfl,fun _=>Iff.rfl,by omega,fun h=>by have h1:=hIw _ h.2;have h2:=h.1;omega,hkM⟩) (fun b h hb=>by have h1:=hSlt b hb;have h2:=hSb b (.inl hb);omega) (fun b hz h=>hz.elim (fun e=>by omega) (fun e=>by omega))) ?_
    rintro _ H6 ⟨Z6,hT6,hF6,hZ6⟩
    replace mm:=hF6.rd mm (fun _ _ hz=>hz.elim (fun hz=>hz.elim (fun h=>by omega) (fun h=>by omega)) (fun h=>by omega))
    replace mpivot:=hF6.rd mpivot (fun _ _ hz=>hz.elim (fun hz=>hz.elim (fun h=>by omega) (fun h=>by omega)) (fun h=>by omega))
    obtain ⟨ov,hv,hov⟩:=TkT.out hT6
    rw [takes_first] at hov
    replace hF:=hF.trans' hF6 (fun _ _ _ h=>h) (fun b o hb hz=>hz.elim (fun hz=>hz.elim (fun h=>by omega) (fun h=>by omega)) (fun h=>by omega))
    refine ⟨⟨mm,mpivot⟩,?_⟩
    refine Pl.fin [(9,_)] ⟨rfl,trivial⟩ (hj () _ ?_)
    exact ⟨hF,ov,hv,by rw [hOO];exact hov⟩
 clear hF
 rintro _ H6 ⟨hF,ov,hv,hov⟩
 refine Ut 1 rfl (Ur 2 1 rfl (Ul 0 rfl hv (Uf 1 [8] rfl (Go'.ret (vs:=[_]) func95 results95 ⟨rfl,trivial⟩ ?_))))
 exact ⟨hov,hF⟩
theorem lawGDescendHint_spec {B:World} {H:Mem} {d:Nat} {nl:Bool} {v u:Value} {ord:List Int} {l:List (Int×Int)} (hd:d=0∨2≤d∧d≤128) (ho:InS EN H v ord) (hol:ord.length≤4294967296) (hi:InS EJ H u l) (hll:l.length≤4294967296) {x:Int×Int} {n:Int}:
  Fn Try.prog B 47 [.agg #[v,.int .i64 (d:Int),.bool nl],u,.agg (EJ.enc x).toArray,.int .i64 n] H (fun r H'=>r=.bool true∧Fr nowhere H H'):=by
 obtain ⟨a,c,hu⟩:=hi.len
 subst hu
 obtain ⟨av,mv,cv,hv⟩:=InS.form ho
 subst hv
 have hF:Fr nowhere H H:=Fr.refl _ _
 have hP:=PD_ok hd
 refine fn_of func47 rfl ntmps47 ?_
 refine (show Go' _ _ _ _ 24 [(0,_),(1,_),(2,_),(3,_)] [.code _] _ from ?_)
 refine Ut 1 rfl (Ur 3 10 rfl (O.box rfl rfl rfl rfl ?_))
 intro B1 MB1
 refine ⟨trivial,?_⟩
 have hsB1:=MB1.size
 replace hF:=hF.trans (MB1.fr nowhere)
 have mm:Rd B1 H.size 0 [.slice av mv cv,.int .i64 (d:Int),.bool nl]:=MB1.rd _ [] (by simp [Value.cells])
 have mm0:cl B1 H.size 0=some (.slice av mv cv):=mm 0 _ rfl
 have mm1:cl B1 H.size (0+1)=some (.int .i64 (d:Int)):=mm 1 _ rfl
 refine O.box rfl rfl rfl rfl ?_
 intro B2 MB2
 refine ⟨trivial,?_⟩
 have hsB2:=MB2.size
 replace hF:=hF.trans (MB2.fr nowhere)
 replace mm:=(MB2.fr nowhere).rd mm (fun _ _=>nw)
 replace mm0:=(MB2.fr nowhere).keep mm0 nw
 replace mm1:=(MB2.fr nowhere).keep mm1 nw
 have mpivot:Rd B2 B1.size 0 (EJ.enc x):=MB2.rd _ [] (by simp [Value.cells])
 refine Uf 1 [1,3,4,6,8] rfl (Ut 1 rfl ?_)
 have hpl:=Pl.puts_length (OO ord) l
 have hdl:=Pl.dn_le (OO ord) x (Pl.puts (OO ord) l)
 have hfl:=firstN_len (Pl.dn (OO ord) x (Pl.puts (OO ord) l)).reverse n
 rw [List.length_reverse] at hfl
 refine Ur 6 529 rfl (Us 0 rfl mm rfl (Us 1 rfl mpivot rfl (Uq 1 rfl (O.call rfl rfl rfl call95 rfl (igdescendhint_spec hd (ho.fr hF) hol (hi.fr hF) hll x (n:=n)) ?_))))
 rintro v1 H3 ⟨h1,hF3⟩
 replace hF:=hF.trans hF3
 replace mm:=hF3.rd mm (fun _ _=>nw)
 replace mm0:=hF3.keep mm0 nw
 replace mm1:=hF3.keep mm1 nw
 replace mpivot:=hF3.rd mpivot (fun _ _=>nw)
 refine ⟨trivial,?_⟩
 refine Uf 1 [1,3,4,6,8,9] rfl (Ut 1 rfl (Ur 6 529 rfl (Us 0 rfl mm rfl (Us 1 rfl mpivot rfl (Uq 1 rfl (O.call rfl rfl rfl call94 rfl (gdescend_spec (x:=x) (n:=n) (ho.fr hF) (by omega) (hi.fr hF) hll) ?_))))))
 rintro v2 H4 ⟨h2,hF4⟩
 replace hF:=hF.trans hF4
 replace mm:=hF4.rd mm (fun _ _=>nw)
 replace mm0:=hF4.keep mm0 nw
 replace mm1:=hF4.keep mm1 nw
 replace mpivot:=hF4.rd mpivot (fun _ _=>nw)
 refine ⟨trivial,?_⟩
 refine Uf 1 [8,9,10] rfl (Ut 1 rfl (Ur 4 32 rfl (Uq 2 rfl (O.callQ rfl rfl rfl call28 rfl (eqItems_spec (h1.inS.fr hF4) h2 (by omega)) trivial (Uf 1 [8] rfl (Go'.ret (vs:=[_]) func47 results47 ⟨rfl,trivial⟩ ?_))))))
 exact ⟨rfl,hF⟩
theorem fnExactGDescendHint {B:World} {H:Mem} {z:Int} {nl:Bool} {v u:Value} {ord:List Int} {l:List (Int×Int)} {y2:Int×Int} {n:Int} (ho:InS EN H v ord) (hi:InS EJ H u l):
  Fn Try.prog B 14 [.agg #[v,.int .i64 z,.bool nl],u,.agg (EJ.enc y2).toArray,.int .i64 n] H (fun r H'=>r=.bool true∧Fr nowhere H H'):=by
 obtain ⟨a,c,hu⟩:=hi.len
 subst hu
 obtain ⟨av,mv,cv,hv⟩:=InS.form ho
 subst hv
 have hF:Fr nowhere H H:=Fr.refl _ _
 refine fn_of func14 rfl ntmps14 ?_
 refine (show Go' _ _ _ _ 34 [(0,_),(1,_),(2,_),(3,_)] [.code _] _ from ?_)
 refine Ut 1 rfl (Ur 3 10 rfl (O.box rfl rfl rfl rfl ?_))
 intro B1 MB1
 refine ⟨trivial,?_⟩
 have hsB1:=MB1.size
 replace hF:=hF.trans (MB1.fr nowhere)
 have mm:Rd B1 H.size 0 [.slice av mv cv,.int .i64 z,.bool nl]:=MB1.rd _ [] (by simp [Value.cells])
 have mm0:cl B1 H.size 0=some (.slice av mv cv):=mm 0 _ rfl
 have mm1:cl B1 H.size (0+1)=some (.int .i64 z):=mm 1 _ rfl
 refine O.box rfl rfl rfl rfl ?_
 intro B2 MB2
 refine ⟨trivial,?_⟩
 have hsB2:=MB2.size
 replace hF:=hF.trans (MB2.fr nowhere)
 replace mm:=(MB2.fr nowhere).rd mm (fun _ _=>nw)
 replace mm0:=(MB2.fr nowhere).keep mm0 nw
 replace mm1:=(MB2.fr nowhere).keep mm1 nw
 have mpivot:Rd B2 B1.size 0 (EJ.enc y2):=MB2.rd _ [] (by simp [Value.cells])
 refine Uf 1 [1,3,4,6,8] rfl (Ut 2 rfl ?_)
 cases hoz:decide (ord.length≤2147483647)
 ·
  refine Ur 8 9 rfl (Us 0 rfl mm rfl (O.call rfl rfl rfl call23 rfl (zzFits1_spec (ho.fr hF) hoz) ?_))
  rintro _ H1 ⟨rfl,hF1⟩
  replace hF:=hF.trans hF1
  replace mm:=hF1.rd mm (fun _ _=>nw)
  replace mm0:=hF1.keep mm0 nw
  replace mm1:=hF1.keep mm1 nw
  replace mpivot:=hF1.rd mpivot (fun _ _=>nw)
  refine ⟨trivial,?_⟩
  refine Uf 6 [1,3,4,6,8,16] rfl (Go'.condT rfl (Ut 1 rfl (Ur 1 0 rfl (Uf 1 [1,3,4,6,8] rfl (Go'.ret (vs:=[_]) func14 results14 ⟨rfl,trivial⟩ ?_)))))
  exact ⟨rfl,hF⟩
 ·
  have hoz2:=of_decide_eq_true hoz
  by_cases hb_lenl:(2147483647:Int)<(l.length:Int)
  ·
   refine Ur 8 9 rfl (Us 0 rfl mm rfl (O.call rfl rfl rfl call23 rfl (zzFits1_spec (ho.fr hF) hoz) ?_))
   rintro _ H1 ⟨rfl,hF1⟩
   replace hF:=hF.trans hF1
   replace mm:=hF1.rd mm (fun _ _=>nw)
   replace mm0:=hF1.keep mm0 nw
   replace mm1:=hF1.keep mm1 nw
   replace mpivot:=hF1.rd mpivot (fun _ _=>nw)
   refine ⟨trivial,?_⟩
   refine Uc 4 rfl (gtrT (by omega)) (Uf 1 [1,3,4,6,8,16] rfl (Go'.condT rfl (Ut 1 rfl (Ur 1 0 rfl (Uf 1 [1,3,4,6,8] rfl (Go'.ret (vs:=[_]) func14 results14 ⟨rfl,trivial⟩ ?_))))))
   exact ⟨rfl,hF⟩
  ·
   refine Ur 8 9 rfl (Us 0 rfl mm rfl (O.call rfl rfl rfl call23 rfl (zzFits1_spec (ho.fr hF) hoz) ?_))
   rintro _ H1 ⟨rfl,hF1⟩
   replace hF:=hF.trans hF1
   replace mm:=hF1.rd mm (fun _ _=>nw)
   replace mm0:=hF1.keep mm0 nw
   replace mm1:=hF1.keep mm1 nw
   replace mpivot:=hF1.rd mpivot (fun _ _=>nw)
   refine ⟨trivial,?_⟩
   refine Uc 4 rfl (gtrF (by omega)) (Uf 1 [1,3,4,6,8,16] rfl (Go'.condF rfl (Ut 2 rfl ?_)))
   cases hfz:fitsb z
   ·
    refine Ur 18 554733706 rfl (O.call rfl rfl rfl call30 rfl exMake_spec ?_)
    rintro _ H2 ⟨rfl,hF2⟩
    replace hF:=hF.trans hF2
    replace mm:=hF2.rd mm (fun _ _=>nw)
    replace mm0:=hF2.keep mm0 nw
    replace mm1:=hF2.keep mm1 nw
    replace mpivot:=hF2.rd mpivot (fun _ _=>nw)
    refine ⟨trivial,?_⟩
    refine O.call rfl rfl rfl call32 rfl exItems_spec ?_
    rintro ev H3 ⟨hev,hF3⟩
    replace hF:=hF.trans hF3
    replace mm:=hF3.rd mm (fun _ _=>nw)
    replace mm0:=hF3.keep mm0 nw
    replace mm1:=hF3.keep mm1 nw
    replace mpivot:=hF3.rd mpivot (fun _ _=>nw)
    refine ⟨trivial,?_⟩
    refine O.bld (cs:=[.int .i64 4,.int .i64 0]) rfl rfl rfl rfl (st27) rfl (by kernel_rfl) (O.call rfl rfl rfl call47 rfl (lawGDescendHint_spec (d:=2) (by decide) (InS.nil EN _) (by decide) hev (by decide) (x:=(4,0)) (n:=2)) ?_)
    rintro _ H4 ⟨rfl,hF4⟩
    replace hF:=hF.trans hF4
    replace mm:=hF4.rd mm (fun _ _=>nw)
    replace mm0:=hF4.keep mm0 nw
    replace mm1:=hF4.keep mm1 nw
    replace mpivot:=hF4.rd mpivot (fun _ _=>nw)
    refine ⟨trivial,?_⟩
    refine Ul 2 rfl mm1 (O.callQ rfl rfl rfl call33 rfl (fits_spec' hfz) trivial (Uq 6 rfl (Pl.pass2 rfl rfl rfl rfl trivial (Uf 3 [8] rfl (Go'.ret (vs:=[_]) func14 results14 ⟨rfl,trivial⟩ ?_)))))
    exact ⟨rfl,hF⟩
   ·
    obtain ⟨d,rfl,hd⟩:=fitsb_nat hfz
    refine Ur 18 554733706 rfl (O.call rfl rfl rfl call30 rfl exMake_spec ?_)
    rintro _ H2 ⟨rfl,hF2⟩
    replace hF:=hF.trans hF2
    replace mm:=hF2.rd mm (fun _ _=>nw)
    replace mm0:=hF2.keep mm0 nw
    replace mm1:=hF2.keep mm1 nw
    replace mpivot:=hF2.rd mpivot (fun _ _=>nw)
    refine ⟨trivial,?_⟩
    refine O.call rfl rfl rfl call32 rfl exItems_spec ?_
    rintro ev H3 ⟨hev,hF3⟩
    replace hF:=hF.trans hF3
    replace mm:=hF3.rd mm (fun _ _=>nw)
    replace mm0:=hF3.keep mm0 nw
    replace mm1:=hF3.keep mm1 nw
    replace mpivot:=hF3.rd mpivot (fun _ _=>nw)
    refine ⟨trivial,?_⟩
    refine O.bld (cs:=[.int .i64 4,.int .i64 0]) rfl rfl rfl rfl (st27) rfl (by kernel_rfl) (O.call rfl rfl rfl call47 rfl (lawGDescendHint_spec (d:=2) (by decide) (InS.nil EN _) (by decide) hev (by decide) (x:=(4,0)) (n:=2)) ?_)
    rintro _ H4 ⟨rfl,hF4⟩
    replace hF:=hF.trans hF4
    replace mm:=hF4.rd mm (fun _ _=>nw)
    replace mm0:=hF4.keep mm0 nw
    replace mm1:=hF4.keep mm1 nw
    replace mpivot:=hF4.rd mpivot (fun _ _=>nw)
    refine ⟨trivial,?_⟩
    refine Ul 2 rfl mm1 (O.callQ rfl rfl rfl call33 rfl (fits_spec' hfz) trivial (Us 2 rfl mm rfl (Us 1 rfl mpivot rfl (Uq 1 rfl (O.call rfl rfl rfl call47 rfl (lawGDescendHint_spec hd (ho.fr hF) (by omega) (hi.fr hF) (by omega) (x:=y2)) ?_)))))
    rintro _ H5 ⟨rfl,hF5⟩
    replace hF:=hF.trans hF5
    replace mm:=hF5.rd mm (fun _ _=>nw)
    replace mm0:=hF5.keep mm0 nw
    replace mm1:=hF5.keep mm1 nw
    replace mpivot:=hF5.rd mpivot (fun _ _=>nw)
    refine ⟨trivial,?_⟩
    refine Uf 3 [8] rfl (Go'.ret (vs:=[_]) func14 results14 ⟨rfl,trivial⟩ ?_)
    exact ⟨rfl,hF⟩
end Go.Bt.FG
