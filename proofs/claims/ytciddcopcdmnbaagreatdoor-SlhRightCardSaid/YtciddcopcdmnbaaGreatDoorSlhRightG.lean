/-
  SlhRight, part 7: lemmas for the law.
-/

import Derived.Test.YtciddcopcdmnbaaGreatDoorSlhRightF
open Nat renaming eq_of_beq_eq_true → Aa, beq → Ab, ne_of_beq_eq_false → Ah, blt → Ai, le_refl → Al
open Bool renaming and_eq_true → Ac, or_true → Ad, true_or → Af, not_eq_true' → Ag
open List renaming mem_cons_of_mem → Ae, mem_cons_self → Aj
open Array renaming getElem?_eq_some_iff → Ak, getElem?_push_lt → Am
set_option linter.unusedVariables false
set_option linter.unusedSimpArgs false

section
namespace Go.Abs
open Go Go.RowKit
theorem bdj{h:Hp}{id:Nat}{b:Blk}:gq h id=some b↔assoc h id=some (some b):=by
 induction h with
 | nil=>simp[gq,assoc]
 | cons x r ih =>
  obtain ⟨k,y⟩:=x
  simp only[gq,assoc]
  cases Ab k id with
  | true=>simp
  | false=>simpa using ih
theorem bcj(a b:List (Nat×AVal))(t:Nat):look (ru a b) t=(match assoc a t with | some x=>x | none=>look b t):=by
 induction a with
 | nil=>rfl
 | cons x r ih =>
  obtain ⟨k,y⟩:=x
  simp only[ru,look,assoc]
  cases Ab k t<;>simp[ih]
theorem bht(a:List (Nat×AVal))(t:Nat):look a t=(match assoc a t with | some x=>x | none=>.bot):=by
 induction a with
 | nil=>rfl
 | cons x r ih =>
  obtain ⟨k,y⟩:=x
  simp only[look,assoc]
  cases Ab k t<;>simp[ih]
def aep(tv:Nat→Value):Nat→List (Nat×TypeId×Cont)→Nat→Option Value
 | _,[],_=>none
 | n,(t,_,_)::r,id=>bif Ab n id then some (tv t) else aep tv (n+1) r id
theorem anw{tv:Nat→Value}:∀(rows:List (Nat×TypeId×Cont)) (n id:Nat) (u:Value),aep tv n rows id=some u→n≤id∧id<n+rows.length
 | [],n,id,u,h=>by simp[aep] at h
 | (t,e,c)::r,n,id,u,h=>by
  simp only[aep] at h
  cases hb:Ab n id with
  | true=>have:=Aa hb;simp;omega
  | false =>
   rw[hb] at h
   have:=anw r (n+1) id u h
   simp;omega
def Slf(u:Value):Prop:=(∃A n c,u=.slice A n c)∨∃a,u=.pointer (some a)
structure Rows (E:Env) (w:World) (B0:Nat) (h:Hp) (tv:Nat→Value) (n:Nat) (rows:List (Nat×TypeId×Cont)) (fs:List (Nat×AVal)) (hs:Hp) (us:List Nat):Prop where
 slots:∀t x,assoc fs t=some x→∃id,x=.own id∧aep tv n rows id=some (tv t)
 blks:∀id b,assoc hs id=some b→∃e c u,b=some ⟨.row e c,false⟩∧n≤id∧aep tv n rows id=some u∧(∃xs,w.ownsRow B0 e c.size u c.len xs∧∀j x,xs[j]?=some x→x.oneCell'=true∧cellC E.S w c j x) ∧
  (∀k,iy u=some k→¬E.S k∧∃id0,id0∈us∧∃b0,gq h id0=some b0∧b0.frz=false∧∃u0,E.ρ id0=some u0∧iy u0=some k)
 apart:∀id id' b b' u u' k,assoc hs id=some b→assoc hs id'=some b'→id≠id'→aep tv n rows id=some u→aep tv n rows id'=some u'→iy u=some k→iy u'≠some k
 form:∀id u,aep tv n rows id=some u→Slf u
section
variable {D:Ctx} {B0:Nat} {w0:W0} {E:Env} {st:ASt} {act:Act} {w:World}
theorem ownsRow_nil{B0:Nat}{e:TypeId}{c:Cont}(hc:c.len=0):w.ownsRow B0 e c.size (.slice none 0 0) c.len []:=by
 refine ⟨by simp[hc],.inl ?_⟩
 simp[hc]
theorem be8(hR:Rel D B0 w0 E st act w){g:Nat→AVal}{tv:Nat→Value}(hg:∀t,eu E w (g t) (tv t)):∀(rows:List (Nat×TypeId×Cont)) (n:Nat) (fs:List (Nat×AVal)) (hs:Hp) (us:List Nat),keepR g st.h n rows=some (fs,hs,us) →
    Rows E w B0 st.h tv n rows fs hs us
 | [],n,fs,hs,us,h=>by
  simp only[keepR] at h
  cases h
  exact ⟨fun t x h=>by simp[assoc] at h,fun id b h=>by simp[assoc] at h,fun id id' b b' u u' k h=>by simp[assoc] at h,fun id u h=>by simp[aep] at h⟩
 | (t,e,c0)::rows,n,fs,hs,us,h=>by
  simp only[keepR] at h
  split at h
  ·cases h
  ·rename_i fs1 hs1 us1 hkr
   have ih:=be8 hR hg rows (n+1) _ _ _ hkr
   have htv:=hg t
   -- one more
   have build:∀(u:Value) (c:Cont) (us2:List Nat),tv t=u→(∃xs,w.ownsRow B0 e c.size u c.len xs∧∀j x,xs[j]?=some x→x.oneCell'=true∧cellC E.S w c j x)→Slf u →
       (∀id0,id0∈us1→id0∈us2)→(∀k,iy u=some k→¬E.S k∧∃id0,id0∈us2∧id0∉us1∧∃b0,gq st.h id0=some b0∧b0.frz=false∧∃u0,E.ρ id0=some u0∧iy u0=some k) →
       Rows E w B0 st.h tv n ((t,e,c0)::rows) ((t,.own n)::fs1) ((n,some ⟨.row e c,false⟩)::hs1) us2:=by
    intro u c us2 hu hrow hform hsub hor
    have rv:aep tv n ((t,e,c0)::rows) n=some u:=by simp[aep,hu]
    have rv':∀id,id≠n→aep tv n ((t,e,c0)::rows) id=aep tv (n+1) rows id:=by
     intro id hid
     simp only[aep]
     cases hb:Ab n id with
     | true=>exact absurd (Aa hb).symm hid
     | false=>rfl
    have as':∀id b,assoc ((n,some ⟨.row e c,false⟩)::hs1) id=some b→(id=n∧b=some ⟨.row e c,false⟩)∨(id≠n∧assoc hs1 id=some b):=by
     intro id b hb
     simp only[assoc] at hb
     cases hq:Ab n id with
     | true=>rw[hq] at hb;cases hb;exact .inl ⟨(Aa hq).symm,rfl⟩
     | false=>rw[hq] at hb;exact .inr ⟨fun he=>Ah hq he.symm,hb⟩
    refine ⟨fun t' x hx=>?_,fun id b hb=>?_,fun id id' b b' v v' k hb hb' hne hv hv' hk hk'=>?_,fun id v hv=>?_⟩
    ·simp only[assoc] at hx
     cases hq:Ab t t' with
     | true =>
      rw[hq] at hx
      cases hx
      have:=Aa hq
      subst this
      exact ⟨n,rfl,by rw[rv,hu]⟩
     | false =>
      rw[hq] at hx
      obtain ⟨id,h1,h2⟩:=ih.slots t' x hx
      have:=(anw _ _ _ _ h2).1
      exact ⟨id,h1,by rw[rv' id (by omega)];exact h2⟩
    ·rcases as' id b hb with ⟨rfl,rfl⟩ | ⟨hid,hb⟩
     ·exact ⟨e,c,u,rfl,Al _,rv,hrow,fun k hk=>by
        obtain ⟨h1,id0,h2,_,h3⟩:=hor k hk
        exact ⟨h1,id0,h2,h3⟩⟩
     ·obtain ⟨e1,c1,u1,h1,h2,h3,h4,h5⟩:=ih.blks id b hb
      exact ⟨e1,c1,u1,h1,by omega,by rw[rv' id hid];exact h3,h4,fun k hk=>by
       obtain ⟨h6,id0,h7,h8⟩:=h5 k hk
       exact ⟨h6,id0,hsub _ h7,h8⟩⟩
    ·have key:∀j b v' k,j≠n→assoc hs1 j=some b→aep tv (n+1) rows j=some v'→iy u=some k→iy v'≠some k:=by
       intro j b v' k hj hb hv' hk hk'
       obtain ⟨e1,c1,u1,h1,h2,h3,h4,h5⟩:=ih.blks j b hb
       rw[hv'] at h3
       cases h3
       obtain ⟨_,id1,g1,b1,g2,g3,u1,g4,g5⟩:=h5 k hk'
       obtain ⟨_,id0,f1,f2,b0,f3,f4,u0,f5,f6⟩:=hor k hk
       exact hR.apart id0 id1 b0 b1 u0 u1 k f3 f4 g2 g3 (by rintro rfl;exact f2 g1) f5 g4 f6 g5
     rcases as' id b hb with ⟨rfl,rfl⟩ | ⟨hid,hb1⟩
     ·rcases as' id' b' hb' with ⟨rfl,rfl⟩ | ⟨hid',hb1'⟩
      ·exact hne rfl
      ·rw[rv] at hv
       cases hv
       rw[rv' id' hid'] at hv'
       exact key id' b' v' k hid' hb1' hv' hk hk'
     ·rw[rv' id hid] at hv
      rcases as' id' b' hb' with ⟨rfl,rfl⟩ | ⟨hid',hb1'⟩
      ·rw[rv] at hv'
       cases hv'
       exact key id b v k hid hb1 hv hk' hk
      ·rw[rv' id' hid'] at hv'
       exact ih.apart id id' b b' v v' k hb1 hb1' hne hv hv' hk hk'
    ·by_cases hid:id=n
     ·subst hid
      rw[rv] at hv
      cases hv
      exact hform
     ·rw[rv' id hid] at hv
      exact ih.form id v hv
   split at h
   ·rename_i id0 hlk
    split at h
    ·rename_i e' c hb
     cases hq:Ab e e' && !atu id0 us1 with
     | false=>rw[hq] at h;cases h
     | true =>
      rw[hq] at h
      cases h
      simp only[Ac,Ag] at hq
      have:=Aa hq.1
      subst this
      rw[hlk] at htv
      simp only[eu] at htv
      obtain ⟨u,hu,hrow,hns,_⟩:=hR.heap _ _ hb
      rw[htv] at hu
      refine build _ c (id0::us1) rfl (by cases hu;exact hrow) ((hR.heap _ _ hb).form htv) (fun _ h=>Ae _ h) (fun k hk=>⟨by cases hu;exact hns rfl k hk,id0,Aj ..,?_,_,hb,rfl,_,htv,hk⟩)
      intro hm
      rw[adi.2 hm] at hq
      cases hq.2
    ·cases h
   ·rename_i id0 len hlk
    split at h
    ·rename_i e' c hb
     cases hq:Ab e e' && !atu id0 us1 with
     | false=>rw[hq] at h;cases h
     | true =>
      rw[hq] at h
      cases h
      simp only[Ac,Ag] at hq
      have:=Aa hq.1
      subst this
      rw[hlk] at htv
      simp only[eu] at htv
      obtain ⟨A,q,cap,hρ',hle,A',_,hA',htv⟩:=htv
      rw[show A'=A from hA' trivial,Nat.sub_zero] at htv
      obtain ⟨u,hu,⟨xs,ho,hxs⟩,hns,_⟩:=hR.heap _ _ hb
      rw[hρ'] at hu
      cases hu
      have hq':q=c.len:=by
       rcases (show _ from ho.2) with ⟨h1,h2⟩ | ⟨g,cap',cur,h1,_⟩
       ·cases h1;exact h2.symm
       ·cases h1;rfl
      obtain ⟨t1,t2,t3⟩:=Cont.aqh (c:=c) (m:=len) (by omega)
      rw[←hq'] at ho
      have ho':=agd (m:=len) ho rfl (by omega)
      refine build _ (c.take len) (id0::us1) htv ⟨_,by rw[t1,t2];exact ho',fun j x hj=>?_⟩ (.inl ⟨_,_,_,rfl⟩) (fun _ h=>Ae _ h) (fun k hk=>⟨hns rfl k (by cases A<;>exact hk),id0,Aj ..,?_,_,hb,rfl,_,hρ',by cases A<;>exact hk⟩)
      ·have hlt:=(List.getElem?_eq_some_iff.1 hj).1
       rw[ho'.1] at hlt
       rw[List.getElem?_take,if_pos hlt] at hj
       exact ⟨(hxs j x hj).1,t3 _ _ _ _ hlt (hxs j x hj).2⟩
      ·intro hm
       rw[adi.2 hm] at hq
       cases hq.2
    ·cases h
   ·rename_i hlk
    cases hq:Ab c0.len 0 with
    | false=>rw[hq] at h;cases h
    | true =>
     rw[hq] at h
     cases h
     have hc0:=Aa hq
     rw[hlk] at htv
     simp only[eu] at htv
     exact build _ c0 _ htv ⟨[],ownsRow_nil hc0,fun j x h=>by simp at h⟩ (.inl ⟨_,_,_,rfl⟩) (fun _ h=>h) (fun k hk=>by simp[iy] at hk)
   ·cases h
theorem bgl{f:List (Nat×AVal)}{n:Nat}:∀(ts:List Nat) (l:List (Nat×AVal)),bjd f n ts=some l→∀t x,assoc l t=some x→x=look f t∧bnd n x=true
 | [],l,h,t,x,hx=>by simp only[bjd] at h;cases h;simp[assoc] at hx
 | a::ts,l,h,t,x,hx=>by
  simp only[bjd] at h
  cases hb:bnd n (look f a) with
  | false=>rw[hb] at h;cases h
  | true =>
   rw[hb] at h
   simp only[cond_true] at h
   split at h
   ·rename_i l' hl'
    cases h
    simp only[assoc] at hx
    cases hq:Ab a t with
    | true =>
     rw[hq] at hx
     cases hx
     have:=Aa hq
     subst this
     exact ⟨rfl,hb⟩
    | false=>rw[hq] at hx;exact bgl ts l' hl' t x hx
   ·cases h
theorem bfd{h:Hp}{n:Nat}{us:List Nat}:∀(ids:List Nat) (l:Hp),bbq h n us ids=some l→∀id b,assoc l id=some (some b)→gq h id=some b∧id∉us∧bua n b.b=true∧id<n
 | [],l,hk,id,b,hx=>by simp only[bbq] at hk;cases hk;simp[assoc] at hx
 | a::ids,l,hk,id,b,hx=>by
  simp only[bbq] at hk
  split at hk
  ·cases hk
  ·rename_i l' hl'
   have ih:=bfd ids l' hl' id b
   cases hm:atu a us with
   | true =>
    rw[hm] at hk
    cases hk
    simp only[assoc] at hx
    cases hq:Ab a id with
    | true=>rw[hq] at hx;cases hx
    | false=>rw[hq] at hx;exact ih hx
   | false =>
    rw[hm] at hk
    simp only[cond_false] at hk
    split at hk
    ·cases hk
     simp only[assoc] at hx
     cases hq:Ab a id with
     | true=>rw[hq] at hx;cases hx
     | false=>rw[hq] at hx;exact ih hx
    ·rename_i b1 hb1
     cases hq2:bua n b1.b&&Ai a n with
     | false=>rw[hq2] at hk;cases hk
     | true =>
      rw[hq2] at hk
      cases hk
      simp only[assoc] at hx
      cases hq:Ab a id with
      | true =>
       rw[hq] at hx
       cases hx
       have:=Aa hq
       subst this
       simp only[Ac] at hq2
       exact ⟨hb1,(fun hm'=>by rw[adi.2 hm'] at hm;cases hm),hq2.1,by simpa using hq2.2⟩
      | false=>rw[hq] at hx;exact ih hx
theorem ba3{f:Nat→AVal}{h:Hp}:∀(rows:List (Nat×TypeId×Cont)) (n:Nat) (fs:List (Nat×AVal)) (hs:Hp) (us:List Nat),keepR f h n rows=some (fs,hs,us)→hs.length=rows.length
 | [],n,fs,hs,us,hk=>by simp only[keepR] at hk;cases hk;rfl
 | (t,e,c0)::rows,n,fs,hs,us,hk=>by
  simp only[keepR] at hk
  split at hk
  ·cases hk
  ·rename_i fs1 hs1 us1 h1
   have ih:=ba3 rows _ _ _ _ h1
   split at hk
   ·split at hk
    ·cases hq:Ab e _ && !atu _ us1 with
     | false=>rw[hq] at hk;cases hk
     | true=>rw[hq] at hk;cases hk;simp[ih]
    ·cases hk
   ·split at hk
    ·cases hq:Ab e _ && !atu _ us1 with
     | false=>rw[hq] at hk;cases hk
     | true=>rw[hq] at hk;cases hk;simp[ih]
    ·cases hk
   ·cases hq:Ab c0.len 0 with
    | false=>rw[hq] at hk;cases hk
    | true=>rw[hq] at hk;cases hk;simp[ih]
   ·cases hk
theorem ax9{h:Hp}{n:Nat}{us:List Nat}:∀(ids:List Nat) (l:Hp),bbq h n us ids=some l→keysOf l=ids
 | [],l,hk=>by simp only[bbq] at hk;cases hk;rfl
 | a::ids,l,hk=>by
  simp only[bbq] at hk
  split at hk
  ·cases hk
  ·rename_i l' hl'
   have ih:=ax9 ids l' hl'
   cases hm:atu a us with
   | true=>rw[hm] at hk;cases hk;simp[keysOf,ih]
   | false =>
    rw[hm] at hk
    simp only[cond_false] at hk
    split at hk
    ·cases hk;simp[keysOf,ih]
    ·rename_i b1 hb1
     cases hq2:bua n b1.b&&Ai a n with
     | false=>rw[hq2] at hk;cases hk
     | true=>rw[hq2] at hk;cases hk;simp[keysOf,ih]
theorem axg{α:Type}:∀(l r:List α),awn l.length (ru l r)=r
 | [],r=>by cases r<;>rfl
 | a::l,r=>by simp only[List.length_cons,ru,awn];exact axg l r
theorem awl(fs:List (Nat×AVal)):∀h:Hp,keysOf (bhx fs h)=keysOf h
 | []=>rfl
 | (id,b)::r=>by simp only[bhx,keysOf,awl fs r]
theorem bdz(fs:List (Nat×AVal))(l:List Nat)(h:Hp):keysOf (boy fs l h)=keysOf h:=by
 unfold boy
 split
 ·rfl
 ·exact awl fs h
theorem ax6(fs:List (Nat×AVal)):∀(n:Nat) (h:Hp),awn n (bhx fs h)=bhx fs (awn n h)
 | 0,h=>by cases h<;>rfl
 | n+1,[]=>rfl
 | n+1,(id,b)::r=>by simp only[bhx,awn,ax6 fs n r]
theorem bhk(fs:List (Nat×AVal))(l:List Nat)(n:Nat)(h:Hp):awn n (boy fs l h)=boy fs l (awn n h):=by
 unfold boy
 split
 ·rfl
 ·exact ax6 fs n h
theorem bcr{h:Hint}{n:Nat}{ids:List Nat}{st st1:ASt}(hn:norm h n ids st=some st1):st1.n-h.rows.length=n∧keysOf (awn h.rows.length st1.h)=ids:=by
 unfold norm at hn
 split at hn
 ·cases hn
 ·rename_i fs hs us hk
  split at hn
  ·rename_i f hh hf hhh
   cases hn
   refine ⟨by simp,?_⟩
   simp only
   rw[←ba3 _ _ _ _ _ hk,bhk,axg,bdz]
   exact ax9 _ _ hhh
  ·cases hn
theorem an3(c:Cont)(y a:AVal):(a=.v (.slice none 0 0)∧c.len=0∧bcd c y a=y)∨bcd c y a=a:=by
 unfold bcd
 split
 ·cases hq:Ab c.len 0 with
  | false=>exact .inr rfl
  | true=>exact .inl ⟨rfl,Aa hq,rfl⟩
 ·exact .inr rfl
theorem bix{S:Nat→Prop}{w:World}{c:Cont}(hc:c.len=0):SlC S w c (.slice none 0 0) :=
 ⟨none,0,by rw[hc],by rw[hc];exact Al _,fun h=>by rw[hc] at h;cases h⟩
theorem bca{f g:Fn}(h:ayf f g=true):f=g:=by
 unfold ayf at h
 split at h
 ·rw[Aa h]
 ·cases h
theorem aza(f:Fn)(fa fc:List AVal)(g:Fn)(ga gc:List AVal)(a:AVal):(a=.v .nilFunc∧awh f fa fc g ga gc a=.alt 0 f fa fc g ga gc)∨(∃x y,a=.fn f x y∧awh f fa fc g ga gc a=.alt 1 f x y g ga gc) ∨
    (∃x y,a=.fn g x y∧awh f fa fc g ga gc a=.alt 2 f fa fc g x y)∨awh f fa fc g ga gc a=a:=by
 unfold awh
 split
 ·rename_i h x y
  cases hq:ayf h f with
  | true=>rw[bca hq];exact .inr (.inl ⟨_,_,rfl,rfl⟩)
  | false =>
   cases hq':ayf h g with
   | true=>rw[bca hq'];exact .inr (.inr (.inl ⟨_,_,rfl,rfl⟩))
   | false=>exact .inr (.inr (.inr rfl))
 ·exact .inl ⟨rfl,rfl⟩
 ·exact .inr (.inr (.inr rfl))
theorem bim{E:Env}{w:World}{f:Fn}{fa fc:List AVal}{g:Fn}{ga gc:List AVal}{a:AVal}{u:Value}(h:eu E w a u):eu E w (awh f fa fc g ga gc a) u:=by
 rcases aza f fa fc g ga gc a with ⟨rfl,e⟩ | ⟨x,y,rfl,e⟩ | ⟨x,y,rfl,e⟩ | e
 ·rw[e];exact anz.2 (.inl ⟨rfl,by simpa only[eu] using h⟩)
 ·rw[e];exact anz.2 (.inr (.inl ⟨rfl,h⟩))
 ·rw[e];exact anz.2 (.inr (.inr ⟨rfl,h⟩))
 ·rw[e];exact h
theorem bcl{f:Fn}{fa fc:List AVal}{g:Fn}{ga gc:List AVal}{a:AVal}(ha:∀k n l,a≠.arr k n l):∀k n l,awh f fa fc g ga gc a≠.arr k n l:=by
 intro k n l he
 rcases aza f fa fc g ga gc a with ⟨rfl,e⟩ | ⟨x,y,rfl,e⟩ | ⟨x,y,rfl,e⟩ | e<;>rw[e] at he<;>first | (cases he;done) | exact ha _ _ _ he
mutual
theorem avn{E:Env}{w:World}:∀(s:Sh) (a:AVal) (u:Value),eu E w a u→eu E w (amf s a) u
 | .any,a,u,h=>by simpa only[amf] using h
 | .fr e c,a,u,h=>by simpa only[amf] using h
 | .alt f fa fc g ga gc,a,u,h=>by simp only[amf];exact bim h
 | .sl c,a,u,h=>by
  simp only[amf]
  rcases an3 c (.sl c) a with ⟨rfl,hc,e⟩ | e
  ·rw[e]
   simp only[eu] at h ⊢
   subst h
   exact bix hc
  ·rw[e];exact h
 | .agg ss,a,u,h=>by
  cases a with
  | agg l =>
   simp only[amf,eu] at h ⊢
   obtain ⟨cs,h1,h2⟩:=h
   exact ⟨cs,h1,anm ss l cs h2⟩
  | sta l =>
   simp only[amf,eu] at h ⊢
   obtain ⟨a,cs,h1,h2,h3,h4⟩:=h
   exact ⟨a,cs,h1,h2,anm ss l cs h3,h4⟩
  | fn f a c =>
   simp only[amf,eu] at h ⊢
   obtain ⟨x,y,h1,h2,h3⟩:=h
   exact ⟨x,y,h1,h2,aqr ss c y h3⟩
  | _=>simpa only[amf] using h
theorem aqr{E:Env}{w:World}:∀(ss:List Sh) (l:List AVal) (vs:List Value),lg E w l vs→lg E w (o8 ss l) vs
 | [],[],vs,h=>by simpa only[o8] using h
 | s::ss,[],vs,h=>by simpa only[o8] using h
 | [],a::r,vs,h=>by simpa only[o8] using h
 | s::ss,a::r,vs,h=>by
  simp only[o8,lg] at h ⊢
  obtain ⟨u,us,h1,h2,h3⟩:=h
  exact ⟨u,us,h1,avn s a u h2,aqr ss r us h3⟩
theorem anm{E:Env}{w:World}:∀(ss:List Sh) (l:List AVal) (vs:List Value),ql E w l vs→ql E w (o8 ss l) vs
 | [],[],vs,h=>by simpa only[o8] using h
 | s::ss,[],vs,h=>by simpa only[o8] using h
 | [],a::r,vs,h=>by simpa only[o8] using h
 | s::ss,a::r,vs,h=>by
  simp only[o8]
  rcases x9 h with ⟨k,n,l,cs',rfl,h1,rfl,h3⟩ | ⟨ha,u,cs',rfl,h2,h3,h4⟩
  ·have e:amf s (.arr k n l)=.arr k n l:=by cases s<;>simp only[amf,bcd,awh]
   rw[e]
   exact aas h1 (anm ss r cs' h3)
  ·refine nu (fun k n l he=>?_) h2 (avn s a u h3) (anm ss r cs' h4)
   cases s with
   | sl c => 
    simp only[amf] at he
    rcases an3 c (.sl c) a with ⟨rfl,hc,e⟩ | e
    ·rw[e] at he;cases he
    ·rw[e] at he;exact ha _ _ _ he
   | agg ss=>cases a<;>simp only[amf] at he<;>first | (cases he;done) | exact ha _ _ _ he
   | alt f fa fc g ga gc=>simp only[amf] at he;exact bcl ha _ _ _ he
   | _=>simp only[amf] at he;exact ha _ _ _ he
end
theorem av5(hl:Nat→Option Blk)(f:List (Nat×AVal)):∀(l:List (Nat×Sh)) (t:Nat) (x:AVal),assoc (axt hl f l) t=some x→∃s,x=amf s (zo hl (look f t))∧∀id,id∈vk (look f t)→id∈axi f l
 | [],t,x,h=>by simp[axt,assoc] at h
 | (a,s)::r,t,x,h=>by
  simp only[axt,assoc] at h
  cases hb:Ab a t with
  | true =>
   rw[hb] at h
   cases h
   have:=Aa hb
   subst this
   exact ⟨s,rfl,fun id hid=>by simp only[axi];exact ko.2 (.inl hid)⟩
  | false =>
   rw[hb] at h
   obtain ⟨s',h1,h2⟩:=av5 hl f r t x h
   exact ⟨s',h1,fun id hid=>by simp only[axi];exact ko.2 (.inr (h2 id hid))⟩
theorem bmm(l:List (Nat×Sh))(hR:Rel D B0 w0 E st act w):∃E',E'.ρ=E.ρ∧Up E E' w w∧Rel D B0 w0 E' (apj l st) act w:=by
 unfold apj
 split
 ·exact ⟨E,rfl,Up.refl _ _,hR⟩
 ·obtain ⟨E1,hρ,up,hR1,hS,hsame⟩:=abb (hl:=gq st.h) (fun _ _ h=>h) (axi st.f l) hR
  refine ⟨E1,hρ,up,{ hR1 with tmps:=fun t=>?_ }⟩
  show eu E1 w (look (ru (axt (gq st.h) st.f l) st.f) t) _
  rw[bcj]
  split
  ·rename_i x hx
   obtain ⟨s,rfl,hid⟩:=av5 _ _ _ _ _ hx
   refine avn s _ _ ?_
   have:=zn hR (fun _ _ h=>h) (S':=E1.S) up.keeps.sub (look st.f t) (act.tmps.getD t undef) (hR.tmps t) (fun id hid' b v k hb hv hk=>hS id (hid id hid') b v k hb hv hk)
   exact uw this
  ·exact hR1.tmps t
theorem ayx{a:AVal}(h:bhh a=true):(∃id,a=.own id)∨∃id o l,a=.win id o l:=by
 cases a<;>simp only[bhh] at h<;>first
  | exact .inl ⟨_,rfl⟩
  | exact .inr ⟨_,_,_,rfl⟩
  | cases h
theorem an2(hR:Rel D B0 w0 E st act w){E1:Env}(hρ:E1.ρ=E.ρ)(hS:∀b,E.S b→E1.S b):∀(l:List AVal) (cs:List Value),
    (∀id,id∈att l→∀b v k,gq st.h id=some b→E.ρ id=some v→iy v=some k→E1.S k)→ql E1 w l cs→ql E1 w (ayb (gq st.h) l) cs
 | [],cs,_,h=>h
 | a::r,cs,hi,h=>by
  have hi2:∀id,id∈att r→∀b v k,gq st.h id=some b→E.ρ id=some v→iy v=some k→E1.S k:=fun id hid=>hi id (by
   simp only[att]
   cases bhh a with
   | true=>exact ko.2 (.inr hid)
   | false=>exact hid)
  simp only[ayb]
  rcases x9 h with ⟨k',n,l,cs',rfl,h1,rfl,h3⟩ | ⟨ha,u,cs',rfl,h2,h3,h4⟩
  ·exact aas h1 (an2 hR hρ hS r cs' hi2 h3)
  ·cases hq:bhh a with
   | false =>
    have e:bid (gq st.h) a=a:=by unfold bid;rw[hq];rfl
    rw[e]
    exact nu ha h2 h3 (an2 hR hρ hS r cs' hi2 h4)
   | true =>
    have e:bid (gq st.h) a=zo (gq st.h) a:=by unfold bid;rw[hq];rfl
    rw[e]
    have hrel:eu E w a u:=by
     rcases ayx hq with ⟨id,rfl⟩ | ⟨id,o,l,rfl⟩
     ·simp only[eu] at h3 ⊢;rw[←hρ];exact h3
     ·simp only[eu] at h3 ⊢;rw[←hρ];exact h3
    refine nu (fun k n l he=>?_) h2 (uw (zn hR (fun _ _ h=>h) (S':=E1.S) hS a u hrel (fun id hid=>hi id (by
     simp only[att,hq,cond_true];exact ko.2 (.inl hid))))) (an2 hR hρ hS r cs' hi2 h4)
    rcases ayx hq with ⟨id,rfl⟩ | ⟨id,o,l,rfl⟩<;>(simp only[zo] at he;split at he<;>cases he)
theorem anh(hl:Nat→Option Blk)(h:Hp):∀(ids:List Nat) (id:Nat) (x:Option Blk),assoc (anf hl h ids) id=some x→∃e l f,gq h id=some ⟨.box e l,f⟩∧x=some ⟨.box e (ayb hl l),f⟩∧id∈ids
 | [],id,x,hx=>by simp[anf,assoc] at hx
 | a::r,id,x,hx=>by
  simp only[anf] at hx
  split at hx
  ·rename_i e l f hb
   simp only[assoc] at hx
   cases hq:Ab a id with
   | true =>
    rw[hq] at hx
    have:=Aa hq
    subst this
    cases hx
    exact ⟨e,l,f,hb,rfl,Aj ..⟩
   | false =>
    rw[hq] at hx
    obtain ⟨e',l',f',h1,h2,h3⟩:=anh hl h r id x hx
    exact ⟨e',l',f',h1,h2,Ae _ h3⟩
  ·obtain ⟨e',l',f',h1,h2,h3⟩:=anh hl h r id x hx
   exact ⟨e',l',f',h1,h2,Ae _ h3⟩
theorem bbm(h:Hp){e:TypeId}{l:List AVal}{f:Bool}{q:Nat}(hq:q∈att l):∀(ids:List Nat) (id:Nat),id∈ids→gq h id=some ⟨.box e l,f⟩→q∈arh h ids
 | a::r,id,hid,hb=>by
  simp only[arh]
  rcases List.mem_cons.1 hid with rfl | hid
  ·rw[hb]
   exact ko.2 (.inl hq)
  ·have ih:=bbm h hq r id hid hb
   split
   ·exact ko.2 (.inr ih)
   ·exact ih
theorem aws(ids:List Nat)(hR:Rel D B0 w0 E st act w):∃E',E'.ρ=E.ρ∧Up E E' w w∧Rel D B0 w0 E' (abl ids st) act w:=by
 unfold abl
 split
 ·exact ⟨E,rfl,Up.refl _ _,hR⟩
 ·obtain ⟨E1,hρ,up,hR1,hS,hsame⟩:=abb (hl:=gq st.h) (fun _ _ h=>h) (arh st.h ids) hR
  have key:∀id b,gq (ru (anf (gq st.h) (ru (freeze (gq st.h) (arh st.h ids) []) st.h) ids) (ru (freeze (gq st.h) (arh st.h ids) []) st.h)) id=some b →
      gq (ru (freeze (gq st.h) (arh st.h ids) []) st.h) id=some b∨∃e l f,gq (ru (freeze (gq st.h) (arh st.h ids) []) st.h) id=some ⟨.box e l,f⟩∧b=⟨.box e (ayb (gq st.h) l),f⟩∧id∈ids:=by
   intro id b hb
   rw[adn] at hb
   split at hb
   ·rename_i x hx
    obtain ⟨e,l,f,h1,h2,h3⟩:=anh _ _ _ _ _ hx
    rw[h2] at hb
    cases hb
    exact .inr ⟨e,l,f,h1,rfl,h3⟩
   ·exact .inl hb
  refine ⟨E1,hρ,up,{ hR1 with heap:=fun id b hb=>?_,apart:=fun id id' b b' u u' k hb hf hb' hf' hne hu hu' hk=>?_ }⟩
  ·rcases key id b hb with h | ⟨e,l,f,h1,rfl,h3⟩
   ·exact hR1.heap id b h
   ·obtain ⟨u,hu,⟨k,cs,g1,g2,g3,g4⟩,hf1,hf2⟩:=hR1.heap id _ h1
    obtain ⟨b0,hb0,he0⟩:=hsame id _ h1
    refine ⟨u,hu,⟨k,cs,g1,g2,g3,?_⟩,hf1,hf2⟩
    refine an2 hR hρ up.keeps.sub l _ (fun q hq b v k hb hv hk=>?_) g4
    obtain ⟨bb,ff⟩:=b0
    simp only at he0
    subst he0
    exact hS q (bbm st.h hq _ id h3 hb0) b v k hb hv hk
  ·have g:∀id b,gq (ru (anf (gq st.h) (ru (freeze (gq st.h) (arh st.h ids) []) st.h) ids) (ru (freeze (gq st.h) (arh st.h ids) []) st.h)) id=some b→b.frz=false →
       ∃c,gq (ru (freeze (gq st.h) (arh st.h ids) []) st.h) id=some c∧c.frz=false:=by
     intro id b hb hf
     rcases key id b hb with h | ⟨e,l,f,h1,rfl,h3⟩
     ·exact ⟨b,h,hf⟩
     ·exact ⟨_,h1,hf⟩
   obtain ⟨c,hc,hcf⟩:=g id b hb hf
   obtain ⟨c',hc',hcf'⟩:=g id' b' hb' hf'
   exact hR1.apart id id' c c' u u' k hc hcf hc' hcf' hne hu hu' hk
theorem azo(h:Hp):∀(ids:List (Nat×List Sh)) (id:Nat) (x:Option Blk),assoc (coB h ids) id=some x→∃e l f s,gq h id=some ⟨.box e l,f⟩∧x=some ⟨.box e (o8 s l),f⟩
 | [],id,x,hx=>by simp[coB,assoc] at hx
 | (a,s)::r,id,x,hx=>by
  simp only[coB] at hx
  split at hx
  ·rename_i e l f hb
   simp only[assoc] at hx
   cases hq:Ab a id with
   | true =>
    rw[hq] at hx
    have:=Aa hq
    subst this
    cases hx
    exact ⟨e,l,f,s,hb,rfl⟩
   | false =>
    rw[hq] at hx
    exact azo h r id x hx
  ·exact azo h r id x hx
theorem bn7(ids:List (Nat×List Sh))(hR:Rel D B0 w0 E st act w):Rel D B0 w0 E (bma ids st) act w:=by
 unfold bma
 split
 ·exact hR
 ·have key:∀id b,gq (ru (coB st.h ids) st.h) id=some b→gq st.h id=some b∨∃e l f s,gq st.h id=some ⟨.box e l,f⟩∧b=⟨.box e (o8 s l),f⟩:=by
    intro id b hb
    rw[adn] at hb
    split at hb
    ·rename_i x hx
     obtain ⟨e,l,f,s,h1,h2⟩:=azo _ _ _ _ hx
     rw[h2] at hb
     cases hb
     exact .inr ⟨e,l,f,s,h1,rfl⟩
    ·exact .inl hb
  refine { hR with heap:=fun id b hb=>?_,apart:=fun id id' b b' u u' k hb hf hb' hf' hne hu hu' hk=>?_ }
  ·rcases key id b hb with h | ⟨e,l,f,s,h1,rfl⟩
   ·exact hR.heap id b h
   ·obtain ⟨u,hu,⟨k,cs,g1,g2,g3,g4⟩,hf1,hf2⟩:=hR.heap id _ h1
    exact ⟨u,hu,⟨k,cs,g1,g2,g3,anm _ _ _ g4⟩,hf1,hf2⟩
  ·have g:∀id b,gq (ru (coB st.h ids) st.h) id=some b→b.frz=false→∃c,gq st.h id=some c∧c.frz=false:=by
     intro id b hb hf
     rcases key id b hb with h | ⟨e,l,f,s,h1,rfl⟩
     ·exact ⟨b,h,hf⟩
     ·exact ⟨_,h1,hf⟩
   obtain ⟨c,hc,hcf⟩:=g id b hb hf
   obtain ⟨c',hc',hcf'⟩:=g id' b' hb' hf'
   exact hR.apart id id' c c' u u' k hc hcf hc' hcf' hne hu hu' hk
theorem bat(id:Nat)(l:List AVal):∀(f:List (Nat×AVal)) (t:Nat),look (bsp id l f) t=b23 id l (look f t)
 | [],t=>rfl
 | (k,a)::r,t=>by
  simp only[bsp,look]
  cases Ab k t with
  | true=>rfl
  | false=>exact bat id l r t
theorem bik(id:Nat)(hR:Rel D B0 w0 E st act w):(as7 id st).m=st.m∧(as7 id st).n=st.n∧∃E',E'.ρ=E.ρ∧Up E E' w w∧Rel D B0 w0 E' (as7 id st) act w:=by
 unfold as7
 split
 ·rename_i e l f hb
  cases hc:ap7 0 l with
  | false=>exact ⟨rfl,rfl,E,rfl,Up.refl _ _,hR⟩
  | true =>
   obtain ⟨E1,hρ,up,hR1,hS,hsame⟩:=abb (hl:=gq st.h) (fun _ _ h=>h) [id] hR
   refine ⟨rfl,rfl,E1,hρ,up,{ hR1 with tmps:=fun t=>?_ }⟩
   show eu E1 w (look (bsp id l st.f) t) _
   rw[bat]
   have h0:eu E1 w (look st.f t) (act.tmps.getD t undef):=hR1.tmps t
   revert h0
   generalize look st.f t=a
   generalize act.tmps.getD t undef=u
   intro h0
   unfold b23
   split
   ·rename_i j
    cases hq:Ab id j with
    | false=>exact h0
    | true =>
     have:=Aa hq
     subst this
     have hf:gq (ru (freeze (gq st.h) [id] []) st.h) id=some ⟨.box e l,true⟩:=by
      simp only[freeze,hb,ru,gq,Nat.beq_refl,cond_true]
     obtain ⟨v,hv,⟨k,cs,rfl,g2,g3,g4⟩,hf1,hf2⟩:=hR1.heap id _ hf
     simp only[eu] at h0
     obtain ⟨b,h1,rfl⟩:=h0
     rw[hv] at h1
     cases h1
     simp only[cond_true,eu]
     refine ⟨⟨k,0,none⟩,cs.toList,rfl,hf2 rfl k rfl,g4,fun j hj=>?_⟩
     rw[w9,Nat.zero_add]
     simp only[World.cell?,g3]
     simp
   ·exact h0
 ·exact ⟨rfl,rfl,E,rfl,Up.refl _ _,hR⟩
theorem bbx:∀(ids:List Nat) {E:Env} {st:ASt},Rel D B0 w0 E st act w→(ave ids st).m=st.m∧(ave ids st).n=st.n∧∃E',E'.ρ=E.ρ∧Up E E' w w∧Rel D B0 w0 E' (ave ids st) act w
 | [],E,st,hR=>⟨rfl,rfl,E,rfl,Up.refl _ _,hR⟩
 | id::r,E,st,hR=>by
  obtain ⟨m1,n1,E1,h1,h2,h3⟩:=bik id hR
  obtain ⟨m2,n2,E2,k1,k2,k3⟩:=bbx r h3
  exact ⟨m2.trans m1,n2.trans n1,E2,k1.trans h1,h2.trans k2,k3⟩
theorem bll(ops:List Oper)(hR:Rel D B0 w0 E st act w):∃E',E'.ρ=E.ρ∧Up E E' w w∧Rel D B0 w0 E' (bq2 D ops st) act w:=by
 unfold bq2
 cases D.sta with
 | false=>exact ⟨E,rfl,Up.refl _ _,hR⟩
 | true =>
  obtain ⟨E1,h1,h2,h3⟩:=aws (aqt D (bsc st.f ops) ops) hR
  obtain ⟨_,_,E2,k1,k2,k3⟩:=bbx (aqt D (bsc st.f ops) ops) h3
  exact ⟨E2,k1.trans h1,h2.trans k2,k3⟩
theorem bb8(id:Nat)(st:ASt):(as7 id st).m=st.m∧(as7 id st).n=st.n:=by
 unfold as7
 split
 ·rename_i e l f hb
  cases hc:ap7 0 l<;>exact ⟨rfl,rfl⟩
 ·exact ⟨rfl,rfl⟩
theorem aqs:∀(ids:List Nat) (st:ASt),(ave ids st).m=st.m∧(ave ids st).n=st.n
 | [],st=>⟨rfl,rfl⟩
 | id::r,st=>⟨(aqs r _).1.trans (bb8 id st).1,(aqs r _).2.trans (bb8 id st).2⟩
theorem az9(D:Ctx)(ops:List Oper)(st:ASt):(bq2 D ops st).m=st.m∧(bq2 D ops st).n=st.n:=by
 have e:∀ids,(abl ids st).m=st.m∧(abl ids st).n=st.n:=fun ids=>by unfold abl;split<;>exact ⟨rfl,rfl⟩
 unfold bq2
 cases D.sta with
 | false=>exact ⟨rfl,rfl⟩
 | true=>exact ⟨(aqs _ _).1.trans (e _).1,(aqs _ _).2.trans (e _).2⟩
theorem aul(h:Hp):∀(l:List Nat) (id:Nat) (x:Option Blk),assoc (clr h l) id=some x→∃e a f,gq h id=some ⟨.box e [a],f⟩∧(∀k n l,a≠.arr k n l)∧x=some ⟨.box e [.bot],f⟩
 | [],id,x,hx=>by simp[clr,assoc] at hx
 | b::r,id,x,hx=>by
  simp only[clr] at hx
  split at hx
  ·rename_i e j f hb
   simp only[assoc] at hx
   cases hq:Ab b id with
   | true =>
    rw[hq] at hx
    have:=Aa hq
    subst this
    cases hx
    exact ⟨e,_,f,hb,(fun k n l h=>by cases h),rfl⟩
   | false=>rw[hq] at hx;exact aul h r id x hx
  ·rename_i e f hb
   simp only[assoc] at hx
   cases hq:Ab b id with
   | true =>
    rw[hq] at hx
    have:=Aa hq
    subst this
    cases hx
    exact ⟨e,_,f,hb,(fun k n l h=>by cases h),rfl⟩
   | false=>rw[hq] at hx;exact aul h r id x hx
  ·exact aul h r id x hx
theorem bnw{E:Env}{w:World}{a:AVal}(ha:∀k n l,a≠.arr k n l){vs:List Value}(h:ql E w [a] vs):ql E w [.bot] vs:=by
 rcases x9 h with ⟨k,n,l,cs',rfl,h1,rfl,h3⟩ | ⟨_,u,cs',rfl,h2,h3,h4⟩
 ·exact absurd rfl (ha _ _ _)
 ·exact nu (fun k n l he=>by cases he) h2 (by simp only[eu]) h4
theorem boe(l:List Nat)(hR:Rel D B0 w0 E st act w):Rel D B0 w0 E { st with h:=bs4 st.h l } act w:=by
 unfold bs4
 split
 ·exact hR
 ·have key:∀id b,gq (ru (clr st.h l) st.h) id=some b→gq st.h id=some b∨∃e a f,gq st.h id=some ⟨.box e [a],f⟩∧(∀k n l,a≠.arr k n l)∧b=⟨.box e [.bot],f⟩:=by
    intro id b hb
    rw[adn] at hb
    split at hb
    ·rename_i x hx
     obtain ⟨e,a,f,h1,h2,h3⟩:=aul _ _ _ _ hx
     rw[h3] at hb
     cases hb
     exact .inr ⟨e,a,f,h1,h2,rfl⟩
    ·exact .inl hb
  refine { hR with heap:=fun id b hb=>?_,apart:=fun id id' b b' u u' k hb hf hb' hf' hne hu hu' hk=>?_ }
  ·rcases key id b hb with h | ⟨e,a,f,h1,h2,rfl⟩
   ·exact hR.heap id b h
   ·obtain ⟨u,hu,⟨k,cs,g1,g2,g3,g4⟩,hf1,hf2⟩:=hR.heap id _ h1
    exact ⟨u,hu,⟨k,cs,g1,g2,g3,bnw h2 g4⟩,hf1,hf2⟩
  ·have g:∀id b,gq (ru (clr st.h l) st.h) id=some b→b.frz=false→∃c,gq st.h id=some c∧c.frz=false:=by
     intro id b hb hf
     rcases key id b hb with h | ⟨e,a,f,h1,h2,rfl⟩
     ·exact ⟨b,h,hf⟩
     ·exact ⟨_,h1,hf⟩
   obtain ⟨c,hc,hcf⟩:=g id b hb hf
   obtain ⟨c',hc',hcf'⟩:=g id' b' hb' hf'
   exact hR.apart id id' c c' u u' k hc hcf hc' hcf' hne hu hu' hk
def bp3(E:Env)(w:World)(b:Nat):Value:=match E.ρ b with
 | some (.pointer (some a))=>match w.heap[a.block]? with
  | some (.cells cs _ _)=>match cs.toList with
   | v::_=>v
   | []=>undef
  | _=>undef
 | _=>undef
def bn4(E:Env)(w:World)(act:Act)(t:Nat):Value:=bif Ai t 1000000 then act.tmps.getD t undef else bp3 E w (t-1000000)
theorem bjp{id k:Nat}{cs:Array Value}{e:TypeId}{v:Value}{r:List Value}(hu:E.ρ id=some (.pointer (some ⟨k,0,none⟩)))(hc:w.heap[k]?=some (.cells cs e (0,0)))(hv:cs.toList=v::r):bp3 E w id=v:=by
 unfold bp3
 rw[hu]
 simp only[hc,hv]
theorem bji{a:AVal}{e:TypeId}{f:Bool}{b:Nat}(ha:∀k n l,a≠.arr k n l)(hR:Rel D B0 w0 E st act w)(hb:gq st.h b=some ⟨.box e [a],f⟩):eu E w a (bp3 E w b):=by
 obtain ⟨u,hu,⟨k,cs,g1,g2,g3,g4⟩,hf1,hf2⟩:=hR.heap b _ hb
 rcases x9 g4 with ⟨k,n,l,cs',h0,h1,h2,h3⟩ | ⟨_,v,cs',hcs,h2,h3,h4⟩
 ·exact absurd h0 (ha _ _ _)
 ·rw[bjp (by rw[hu,g1]) g3 hcs]
  exact h3
theorem bhj(hR:Rel D B0 w0 E st act w)(t:Nat):eu E w (bjh st t) (bn4 E w act t):=by
 unfold bjh bn4
 cases Ai t 1000000 with
 | true=>exact hR.tmps t
 | false =>
  simp only[cond_false]
  unfold blv
  split
  ·rename_i hb
   exact bji (fun k n l h=>by cases h) hR hb
  ·rename_i hb
   exact bji (fun k n l h=>by cases h) hR hb
  ·simp only[eu]
theorem ajd:∀(fs:List (Nat×AVal)) (t:Nat) (x:AVal),assoc (slotsOf fs) t=some x→Ai t 1000000=true∧assoc fs t=some x
 | [],t,x,h=>by simp[slotsOf,assoc] at h
 | (a,y)::r,t,x,h=>by
  simp only[slotsOf] at h
  simp only[assoc]
  cases hq:Ab a t with
  | true =>
   have:=Aa hq
   subst this
   cases hb:Ai a 1000000 with
   | true=>rw[hb] at h;simp only[cond_true,assoc,hq] at h;exact ⟨rfl,h⟩
   | false =>
    rw[hb] at h
    obtain ⟨h1,_⟩:=ajd r a x h
    rw[hb] at h1
    cases h1
  | false =>
   cases hb:Ai a 1000000 with
   | true=>rw[hb] at h;simp only[cond_true,assoc,hq] at h;exact ajd r t x h
   | false=>rw[hb] at h;exact ajd r t x h
theorem bb4(fs:List (Nat×AVal)):∀(h:Hp) (id:Nat) (b:Blk),gq (bhx fs h) id=some b→∃b0,gq h id=some b0∧bxb fs id (some b0)=some b
 | [],id,b,h=>by simp[bhx,gq] at h
 | (a,y)::r,id,b,h=>by
  simp only[bhx,gq] at h ⊢
  cases hq:Ab a id with
  | true =>
   rw[hq] at h
   have:=Aa hq
   subst this
   cases y with
   | none=>simp[bxb] at h
   | some b0=>exact ⟨b0,rfl,h⟩
  | false=>rw[hq] at h;exact bb4 fs r id b h
theorem boj{fs:List (Nat×AVal)}(l:List Nat)(hR:Rel D B0 w0 E st act w)(hfs:∀id x,assoc fs (id+1000000)=some x→∀e f,gq st.h id=some ⟨.box e [.bot],f⟩→∃j,x=.own j∧E.ρ j=some (bp3 E w id)) :
    Rel D B0 w0 E { st with h:=boy fs l st.h } act w:=by
 unfold boy
 split
 ·exact hR
 ·have key:∀id b,gq (bhx fs st.h) id=some b→gq st.h id=some b∨∃e f x,gq st.h id=some ⟨.box e [.bot],f⟩∧assoc fs (id+1000000)=some x∧b=⟨.box e [x],f⟩:=by
    intro id b hb
    obtain ⟨b0,h1,h2⟩:=bb4 _ _ _ _ hb
    unfold bxb at h2
    split at h2
    ·rename_i e f he
     cases he
     split at h2
     ·rename_i x hx
      cases h2
      exact .inr ⟨_,_,x,h1,hx,rfl⟩
     ·cases h2
      exact .inl h1
    ·cases h2
     exact .inl h1
  refine { hR with heap:=fun id b hb=>?_,apart:=fun id id' b b' u u' k hb hf hb' hf' hne hu hu' hk=>?_ }
  ·rcases key id b hb with h | ⟨e,f,x,h1,h2,rfl⟩
   ·exact hR.heap id b h
   ·obtain ⟨j,rfl,hj⟩:=hfs id x h2 e f h1
    obtain ⟨u,hu,⟨k,cs,g1,g2,g3,g4⟩,hf1,hf2⟩:=hR.heap id _ h1
    refine ⟨u,hu,⟨k,cs,g1,g2,g3,?_⟩,hf1,hf2⟩
    rcases x9 g4 with ⟨k,n,l,cs',h0,_,_,_⟩ | ⟨_,v,cs',hcs,h2,h3,h4⟩
    ·cases h0
    ·rw[bjp (by rw[hu,g1]) g3 hcs] at hj
     rw[hcs]
     exact nu (fun k n l he=>by cases he) h2 (by simp only[eu];exact hj) h4
  ·have g:∀id b,gq (bhx fs st.h) id=some b→b.frz=false→∃c,gq st.h id=some c∧c.frz=false:=by
     intro id b hb hf
     rcases key id b hb with h | ⟨e,f,x,h1,h2,rfl⟩
     ·exact ⟨b,h,hf⟩
     ·exact ⟨_,h1,hf⟩
   obtain ⟨c,hc,hcf⟩:=g id b hb hf
   obtain ⟨c',hc',hcf'⟩:=g id' b' hb' hf'
   exact hR.apart id id' c c' u u' k hc hcf hc' hcf' hne hu hu' hk
theorem brz(hG2:pq D){h:Hint}{n:Nat}{ids:List Nat}{st1:ASt}(hn:norm h n ids st=some st1) :
    st1.m=st.m∧n≤st1.n∧∀(B0:Nat) (w0:W0) E act w,Rel D B0 w0 E st act w→∃E',E'.S=E.S∧(∀id,id<n→E'.ρ id=E.ρ id)∧Rel D B0 w0 E' st1 act w∧Dom E' st1.n:=by
 unfold norm at hn
 split at hn
 ·cases hn
 ·rename_i fs hs us hk
  split at hn
  ·rename_i f hh hf hhh
   cases hn
   refine ⟨rfl,by simp,fun B0 w0 E act w hR=>?_⟩
   have hsrc:=bhj hR
   have hR0:=hR
   replace hR:=boe (br4 h.rows) hR
   have hrows:=be8 hR hsrc _ _ _ _ _ hk
   simp only at hrows
   have hfs:=bgl _ _ hf
   have hhs:=bfd _ _ hhh
   let E':Env:=⟨E.S,fun id=>if id<n then E.ρ id else aep (bn4 E w act) n h.rows id⟩
   have hlow:∀id,id<n→E'.ρ id=E.ρ id:=fun id hid=>by simp only[E',if_pos hid]
   have hhigh:∀id u,aep (bn4 E w act) n h.rows id=some u→E'.ρ id=some u:=fun id u hu=>by
    have:=(anw _ _ _ _ hu).1
    simp only[E',if_neg (show ¬id<n by omega)]
    exact hu
   have hheap:∀id b,gq (ru hs hh) id=some b→(∃u,assoc hs id=some (some b)∧n≤id∧aep (bn4 E w act) n h.rows id=some u)∨(id<n∧gq (bs4 st.h (br4 h.rows)) id=some b∧id∉us∧bua n b.b=true):=by
    intro id b hb
    rw[adn] at hb
    split at hb
    ·rename_i b' hb'
     subst hb
     obtain ⟨e,c,u,h1,h2,h3,_⟩:=hrows.blks id _ hb'
     exact .inl ⟨u,hb',h2,h3⟩
    ·rw[bdj] at hb
     obtain ⟨h1,h2,h3,h4⟩:=hhs id b hb
     exact .inr ⟨h4,h1,h2,h3⟩
   refine ⟨E',rfl,hlow,boj (st:={ f:=ru (slotsOf fs) f,h:=ru hs hh,n:=n+h.rows.length,m:=st.m }) _ ?_ (fun id x hx e fz hb=>?_),fun id u hu=>?_⟩
   ·refine ⟨hR.below,hR.base,hR.size,hR.idle,hR.marks.keeps (E':=E') (Keeps.refl E.S w),hR.recs.keeps (E':=E') (Keeps.refl E.S w),fun t=>?_,fun id b hb=>?_,fun id id' b b' u u' k hb hfr hb' hfr' hne hu hu' hk1 hk2=>?_,hR.sOld,hR.sNew,fun id u hu=>?_,fun g l hg=>?_⟩
    ·show eu E' w (look (ru (slotsOf fs) f) t) _
     rw[bcj]
     split
     ·rename_i x hx
      obtain ⟨ht,hx⟩:=ajd _ _ _ hx
      obtain ⟨id,rfl,hv⟩:=hrows.slots t x hx
      simp only[eu]
      have e0:bn4 E w act t=act.tmps.getD t undef:=by unfold bn4;rw[ht];rfl
      rw[e0] at hv
      exact hhigh id _ hv
     ·rw[bht]
      split
      ·rename_i x hx
       obtain ⟨rfl,hb⟩:=hfs t x hx
       exact at6 (E:=E) (E':=E') rfl hlow _ _ hb (hR.tmps t)
      ·simp only[eu]
    ·rcases hheap id b hb with ⟨u,h1,h2,h3⟩ | ⟨h1,h2,h3,h4⟩
     ·obtain ⟨e,c,u',g1,g2,g3,g4,g5⟩:=hrows.blks id _ h1
      cases g1
      rw[h3] at g3
      cases g3
      exact ⟨u,hhigh id u h3,g4,fun _ k hk=>(g5 k hk).1,fun hf=>by cases hf⟩
     ·obtain ⟨u,hu,hbb,hf1,hf2⟩:=hR.heap id b h2
      refine ⟨u,by rw[hlow id h1];exact hu,?_,hf1,hf2⟩
      cases hbk:b.b with
      | row e c=>rw[hbk] at hbb;exact hbb
      | box e l =>
       rw[hbk] at hbb h4
       obtain ⟨k,cs,g1,g2,g3,g4⟩:=hbb
       exact ⟨k,cs,g1,g2,g3,ai8 (E:=E) (E':=E') rfl hlow _ _ h4 g4⟩
    ·rcases hheap id b hb with ⟨v,h1,h2,h3⟩ | ⟨h1,h2,h3,h4⟩
     ·have e1:=hhigh id v h3
      rw[hu] at e1
      cases e1
      rcases hheap id' b' hb' with ⟨v',h1',h2',h3'⟩ | ⟨h1',h2',h3',h4'⟩
      ·have e2:=hhigh id' v' h3'
       rw[hu'] at e2
       cases e2
       exact hrows.apart id id' _ _ u u' k h1 h1' hne h3 h3' hk1 hk2
      ·rw[hlow id' h1'] at hu'
       obtain ⟨e,c,u2,g1,g2,g3,g4,g5⟩:=hrows.blks id _ h1
       rw[h3] at g3
       cases g3
       obtain ⟨_,id0,f1,b0,f2,f3,u0,f4,f5⟩:=g5 k hk1
       exact hR.apart id0 id' b0 b' u0 u' k f2 f3 h2' hfr' (by rintro rfl;exact h3' f1) f4 hu' f5 hk2
     ·rw[hlow id h1] at hu
      rcases hheap id' b' hb' with ⟨v',h1',h2',h3'⟩ | ⟨h1',h2',h3',h4'⟩
      ·have e2:=hhigh id' v' h3'
       rw[hu'] at e2
       cases e2
       obtain ⟨e,c,u2,g1,g2,g3,g4,g5⟩:=hrows.blks id' _ h1'
       rw[h3'] at g3
       cases g3
       obtain ⟨_,id0,f1,b0,f2,f3,u0,f4,f5⟩:=g5 k hk2
       exact hR.apart id id0 b b0 u u0 k h2 hfr f2 f3 (by rintro rfl;exact h3 f1) hu f4 hk1 f5
      ·rw[hlow id' h1'] at hu'
       exact hR.apart id id' b b' u u' k h2 hfr h2' hfr' hne hu hu' hk1 hk2
    ·simp only[E'] at hu
     split at hu
     ·exact hR.form id u hu
     ·exact .inl (hrows.form id u hu)
    ·obtain ⟨h1,cs,e,fz,h2,h3⟩:=hR.globs g l hg
     exact ⟨h1,cs,e,fz,h2,hG2 g l hg E E' w _ h3 rfl⟩
   ·obtain ⟨j,rfl,hv⟩:=hrows.slots _ x hx
    refine ⟨j,rfl,?_⟩
    have e0:bn4 E w act (id+1000000)=bp3 E w id:=by
     unfold bn4
     rw[show Ai (id+1000000) 1000000=false by rw[←Bool.not_eq_true,Nat.blt_eq];omega,Nat.add_sub_cancel]
     rfl
    rw[e0] at hv
    have hid:E'.ρ id=E.ρ id:=by
     rcases hheap id _ hb with ⟨u,h1,h2,h3⟩ | ⟨h1,_⟩
     ·obtain ⟨e',c,u',g1,_⟩:=hrows.blks id _ h1
      cases g1
     ·exact hlow id h1
    rw[hhigh j _ hv]
    unfold bp3
    rw[hid]
   ·simp only[E'] at hu
    split at hu
    ·simp;omega
    ·have:=(anw _ _ _ _ hu).2
     simpa using this
  ·cases hn
theorem blw{id:Nat}{e:TypeId}{l l':List AVal}{f:Bool}(hb:gq st.h id=some ⟨.box e l,f⟩)(hR:Rel D B0 w0 E st act w)(hF:∀cs,ql E w l cs→ql E w l' cs) :
    Rel D B0 w0 E { st with h:=(id,some ⟨.box e l',f⟩)::st.h } act w:=by
 have key:∀i b,gq ((id,some ⟨.box e l',f⟩)::st.h) i=some b→(i=id∧b=⟨.box e l',f⟩)∨gq st.h i=some b:=by
  intro i b hi
  by_cases h:i=id
  ·subst h;rw[wm] at hi;cases hi;exact .inl ⟨rfl,rfl⟩
  ·rw[uj h] at hi;exact .inr hi
 refine { hR with heap:=fun i b hi=>?_,apart:=fun i i' b b' u u' k hi hf hi' hf' hne hu hu' hk=>?_ }
 ·rcases key i b hi with ⟨rfl,rfl⟩ | h
  ·obtain ⟨u,hu,⟨k,cs,g1,g2,g3,g4⟩,hf1,hf2⟩:=hR.heap _ _ hb
   exact ⟨u,hu,⟨k,cs,g1,g2,g3,hF _ g4⟩,hf1,hf2⟩
  ·exact hR.heap i b h
 ·have g:∀i b,gq ((id,some ⟨.box e l',f⟩)::st.h) i=some b→b.frz=false→∃c,gq st.h i=some c∧c.frz=false:=by
    intro i b hi hf
    rcases key i b hi with ⟨rfl,rfl⟩ | h
    ·exact ⟨_,hb,hf⟩
    ·exact ⟨b,h,hf⟩
  obtain ⟨c,hc,hcf⟩:=g i b hi hf
  obtain ⟨c',hc',hcf'⟩:=g i' b' hi' hf'
  exact hR.apart i i' c c' u u' k hc hcf hc' hcf' hne hu hu' hk
theorem azs(ids:List Nat)(st:ASt):(abl ids st).m=st.m:=by unfold abl;split<;>rfl
theorem bp6(id:Nat)(d:List AVal)(st:ASt):(bk4 id d st).m=st.m:=by
 unfold bk4
 split
 ·rfl
 ·rename_i j _ _
  split
  ·rename_i e j' f e' l f' _ _
   cases hq:Ab j' j&&ap7 0 l && !Nat.beq id j with
   | false=>simp only[cond_false];exact azs _ _
   | true=>simp only[cond_true];exact azs _ _
  ·exact azs _ _
 ·rfl
theorem bl2:∀(l:List (Nat×List AVal)) (st:ASt),(bj7 l st).m=st.m
 | [],st=>rfl
 | (id,d)::r,st=>by rw[bj7,bl2 r,bp6]
theorem bmc(id:Nat)(d:List AVal)(hR:Rel D B0 w0 E st act w):∃E',E'.ρ=E.ρ∧Up E E' w w∧Rel D B0 w0 E' (bk4 id d st) act w:=by
 unfold bk4
 split
 ·rename_i e f hb
  refine ⟨E,rfl,Up.refl _ _,blw hb hR (fun cs h=>?_)⟩
  simp only[ql,eu] at h ⊢
  obtain ⟨u,cs',rfl,h1,rfl,h3⟩:=h
  exact ⟨_,cs',rfl,h1,.inl ⟨trivial,rfl⟩,h3⟩
 ·rename_i j _ _
  obtain ⟨E1,hρ1,up1,hR1⟩:=aws [j] hR
  split
  ·rename_i e j' f e' l f' hb hj
   cases hq:Ab j' j&&ap7 0 l && !Nat.beq id j with
   | false=>simp only[cond_false];exact ⟨E1,hρ1,up1,hR1⟩
   | true =>
    simp only[cond_true]
    simp only[Ac,Ag] at hq
    have:=Aa hq.1.1
    subst this
    have hne:id≠j':=Ah hq.2
    obtain ⟨E2,hρ2,up2,hR2,hS,hsame⟩:=abb (hl:=gq (abl [j'] st).h) (fun _ _ h=>h) [j'] hR1
    have hf:gq (ru (freeze (gq (abl [j'] st).h) [j'] []) (abl [j'] st).h) j'=some ⟨.box e' l,true⟩:=by
     simp only[freeze,hj,ru,gq,Nat.beq_refl,cond_true]
    have hb2:gq (ru (freeze (gq (abl [j'] st).h) [j'] []) (abl [j'] st).h) id=some ⟨.box e [.ptr j' 0],f⟩:=by
     simp only[freeze,hj,ru,gq]
     cases he:Ab j' id with
     | true=>exact absurd (Aa he).symm hne
     | false=>exact hb
    refine ⟨E2,by rw[hρ2,hρ1],up1.trans up2,blw (st:={ abl [j'] st with h:=ru (freeze (gq (abl [j'] st).h) [j'] []) (abl [j'] st).h }) hb2 hR2 (fun cs h=>?_)⟩
    obtain ⟨v,hv,⟨k,cs0,rfl,g2,g3,g4⟩,hf1,hf2⟩:=hR2.heap j' _ hf
    simp only[ql,eu] at h ⊢
    obtain ⟨u,cs',rfl,h1,⟨b,h4,rfl⟩,h3⟩:=h
    rw[hv] at h4
    cases h4
    refine ⟨_,cs',rfl,h1,.inr ⟨trivial,⟨k,0,none⟩,cs0.toList,rfl,hf2 rfl k rfl,g4,fun q hq=>?_⟩,h3⟩
    rw[w9,Nat.zero_add]
    simp only[World.cell?,g3]
    simp
  ·exact ⟨E1,hρ1,up1,hR1⟩
 ·exact ⟨E,rfl,Up.refl _ _,hR⟩
theorem bg0:∀(l:List (Nat×List AVal)) {E:Env} {st:ASt},Rel D B0 w0 E st act w→∃E',E'.ρ=E.ρ∧Up E E' w w∧Rel D B0 w0 E' (bj7 l st) act w
 | [],E,st,hR=>⟨E,rfl,Up.refl _ _,hR⟩
 | (id,d)::r,E,st,hR=>by
  obtain ⟨E1,h1,h2,h3⟩:=bmc id d hR
  obtain ⟨E2,k1,k2,k3⟩:=bg0 r h3
  exact ⟨E2,k1.trans h1,h2.trans k2,k3⟩
theorem azu(hG2:pq D){h:Hint}{n:Nat}{ids:List Nat}{st1:ASt}(hn:norm h n ids (ati h st)=some st1) :
    st1.m=st.m∧n≤st1.n∧∀(B0:Nat) (w0:W0) E act w,Rel D B0 w0 E st act w→∃E',(∀b,E.S b→E'.S b)∧(∀id,id<n→E'.ρ id=E.ρ id)∧Rel D B0 w0 E' st1 act w∧Dom E' st1.n:=by
 obtain ⟨h1,h2,h3⟩:=brz (st:=ati h st) hG2 hn
 have hm:(ati h st).m=st.m:=by
  have e:(apj h.sls st).m=st.m:=by unfold apj;split<;>rfl
  have e2:(abl h.shb (apj h.sls st)).m=(apj h.sls st).m:=by unfold abl;split<;>rfl
  rw[←e,←e2]
  unfold ati
  rw[bl2]
  unfold bma
  split<;>rfl
 refine ⟨by rw[h1,hm],h2,fun B0 w0 E act w hR=>?_⟩
 obtain ⟨E0,i1,i2,i3⟩:=bmm h.sls hR
 obtain ⟨E1,k1,k2,k3⟩:=aws h.shb i3
 replace k3:=bn7 h.shc k3
 obtain ⟨E3,o1,o2,o3⟩:=bg0 h.osb k3
 obtain ⟨E2,j1,j2,j3,j4⟩:=h3 B0 w0 E3 act w o3
 exact ⟨E2,fun b hb=>by rw[j1];exact o2.keeps.sub b (k2.keeps.sub b (i2.keeps.sub b hb)),fun id hid=>by rw[j2 id hid,o1,k1,i1],j3,j4⟩
end
end Go.Abs
end

section
namespace Go.Abs
open Go Go.RowKit
structure Turn (w w':World):Prop where
 cell:∀a,w'.cell? a=w.cell? a
 blk:∀(k:Nat) cs e f,w.heap[k]?=some (Obj.cells cs e f)→w'.heap[k]?=some (Obj.cells cs e f)
theorem Turn.refl(w:World):Turn w w:=⟨fun _=>rfl,fun _ _ _ _ h=>h⟩
theorem Turn.trans{w w' w'':World}(h:Turn w w')(k:Turn w' w''):Turn w w'' :=
 ⟨fun a=>(k.cell a).trans (h.cell a),fun b cs e f hb=>k.blk b cs e f (h.blk b cs e f hb)⟩
theorem alf{w:World}{l:Nat}{o o':Obj}(h:w.heap[l]?=some o)(hc:∀cs e f,o≠Obj.cells cs e f)(hc':∀cs e f,o'≠Obj.cells cs e f):Turn w (w.putObj l o'):=by
 have hlt:l<w.heap.size:=(Ak.1 h).1
 refine ⟨fun a=>?_,fun k cs e f hk=>?_⟩
 ·by_cases ha:a.block=l
  ·unfold World.cell?
   rw[ha,World.putObj_heap_same hlt,h]
   cases o<;>cases o'<;>first
    | rfl
    | exact absurd rfl (hc _ _ _)
    | exact absurd rfl (hc' _ _ _)
  ·exact World.cell?_of_block (World.putObj_heap_other ha)
 ·by_cases hk':k=l
  ·subst hk'
   rw[h] at hk
   cases hk
   exact absurd rfl (hc _ _ _)
  ·rw[World.putObj_heap_other hk']
   exact hk
theorem ajg{w:World}{B l:Nat}{o:Obj}(h:B≤l):Below B w (w.putObj l o) where
 os:=rfl
 tape:=rfl
 output:=rfl
 size:=by simp
 block:=fun k hk=>World.putObj_heap_other (by omega)
section
variable {S:Nat→Prop} {w w':World}
theorem beb.turn(hc:∀a,w'.cell? a=w.cell? a){len sz:Nat}{cell cell':Nat→Value→Prop}{u:Value}(hcc:∀j x,cell j x→cell' j x)(h:beb S w len sz cell u):beb S w' len sz cell' u:=by
 obtain ⟨A,cap,hu,hl,hx⟩:=h
 refine ⟨A,cap,hu,hl,fun h0=>?_⟩
 obtain ⟨a,hA,hS,hcell⟩:=hx h0
 refine ⟨a,hA,hS,fun j hj=>?_⟩
 obtain ⟨x,hx1,hx2⟩:=hcell j hj
 exact ⟨x,by rw[hc];exact hx1,hcc j x hx2⟩
theorem SlI.turn(hc:∀a,w'.cell? a=w.cell? a){ki:IntKind}{l:List Int}{u:Value}(h:SlI S w ki l u):SlI S w' ki l u:=beb.turn hc (fun _ _ h=>h) h
theorem SlR.turn(hc:∀a,w'.cell? a=w.cell? a){ki:IntKind}{l:List (List Int)}{u:Value}(h:SlR S w ki l u):SlR S w' ki l u:=beb.turn hc (fun _ _ h=>SlI.turn hc h) h
theorem cell1.turn(hc:∀a,w'.cell? a=w.cell? a){c:Cont}{j:Nat}{x:Value}(h:cell1 S w c j x):cell1 S w' c j x:=by
 cases c with
 | ints=>exact h
 | rows=>exact SlI.turn hc h
 | rows2=>exact SlR.turn hc h
 | cols=>exact h
theorem cellC.turn(hc:∀a,w'.cell? a=w.cell? a){c:Cont}{j:Nat}{x:Value}(h:cellC S w c j x):cellC S w' c j x:=by
 cases c with
 | cols n cs=>obtain ⟨c,hc',h⟩:=h;exact ⟨c,hc',cell1.turn hc h⟩
 | ints=>exact h
 | rows=>exact SlI.turn hc h
 | rows2=>exact SlR.turn hc h
theorem SlC.turn(hc:∀a,w'.cell? a=w.cell? a){c:Cont}{u:Value}(h:SlC S w c u):SlC S w' c u:=beb.turn hc (fun _ _ h=>cellC.turn hc h) h
end
section
variable {E E':Env} {w w':World}
mutual
theorem aqd(hS:E'.S=E.S)(hc:∀a,w'.cell? a=w.cell? a):∀(a:AVal) (u:Value),(∀id,mentions id a=true→E'.ρ id=E.ρ id)→eu E w a u→eu E' w' a u
 | .v x,u,hb,h=>by simp only[eu] at h ⊢;exact h
 | .bot,u,hb,_=>by simp only[eu]
 | .sl c,u,hb,h=>by simp only[eu] at h ⊢;rw[hS];exact SlC.turn hc h
 | .own id,u,hb,h=>by simp only[eu] at h ⊢;rw[hb id (by simp[mentions])];exact h
 | .win id off len,u,hb,h=>by simp only[eu] at h ⊢;rw[hb id (by simp[mentions])];exact h
 | .awin id off m lo len,u,hb,h=>by simp only[eu] at h ⊢;rw[hb id (by simp[mentions])];exact h
 | .arr k m l,u,hb,h=>by simp only[eu] at h ⊢;exact h
 | .agg l,u,hb,h=>by
  simp only[eu] at h ⊢
  obtain ⟨cs,h1,h2⟩:=h
  exact ⟨cs,h1,ah1 hS hc l cs (fun id hi=>hb id (by simpa only[mentions] using hi)) h2⟩
 | .ptr id off,u,hb,h=>by simp only[eu] at h ⊢;rw[hb id (by simp[mentions])];exact h
 | .pel id sz i,u,hb,h=>by simp only[eu] at h ⊢;rw[hb id (by simp[mentions])];exact h
 | .fel id sz i off,u,hb,h=>by simp only[eu] at h ⊢;rw[hb id (by simp[mentions])];exact h
 | .apel id off m i,u,hb,h=>by simp only[eu] at h ⊢;rw[hb id (by simp[mentions])];exact h
 | .sta l,u,hb,h=>by
  simp only[eu] at h ⊢
  obtain ⟨a,cs,h1,h2,h3,h4⟩:=h
  exact ⟨a,cs,h1,by rw[hS];exact h2,ah1 hS hc l cs (fun id hi=>hb id (by simpa only[mentions] using hi)) h3,fun j hj=>by rw[hc];exact h4 j hj⟩
 | .osta q l,u,hb,h=>by
  simp only[eu] at h ⊢
  rcases h with h | ⟨h0,a,cs,h1,h2,h3,h4⟩
  ·exact .inl h
  ·exact .inr ⟨h0,a,cs,h1,by rw[hS];exact h2,ah1 hS hc l cs (fun id hi=>hb id (by simpa only[mentions] using hi)) h3,fun j hj=>by rw[hc];exact h4 j hj⟩
 | .fn f a b,u,hb,h=>by
  simp only[eu] at h ⊢
  obtain ⟨x,y,h1,h2,h3⟩:=h
  exact ⟨x,y,h1,adl hS hc a x (fun id hi=>hb id (by simp only[mentions,hi,Af])) h2,adl hS hc b y (fun id hi=>hb id (by simp only[mentions,hi,Ad])) h3⟩
 | .iface t x,u,hb,h=>by
  simp only[eu] at h ⊢
  obtain ⟨y,h1,h2⟩:=h
  exact ⟨y,h1,aqd hS hc x y (fun id hi=>hb id (by simpa only[mentions] using hi)) h2⟩
 | .tuple l,u,hb,h=>by
  simp only[eu] at h ⊢
  obtain ⟨vs,h1,h2⟩:=h
  exact ⟨vs,h1,adl hS hc l vs (fun id hi=>hb id (by simpa only[mentions] using hi)) h2⟩
 | .fr e c,u,hb,h=>by simp only[eu] at h
 | .glob g off,u,hb,h=>by simp only[eu] at h ⊢;exact h
 | .gel g off m i,u,hb,h=>by simp only[eu] at h ⊢;exact h
 | .yld id ts vs,u,hb,h=>by
  simp only[eu] at h ⊢
  obtain ⟨l,T,h1,h2,h3⟩:=h
  exact ⟨l,T,by rw[hb id (by simp[mentions])];exact h1,h2,adl hS hc vs _ (fun id hi=>hb id (by simp only[mentions,hi,Ad])) h3⟩
 | .alt t f fa fc g ga gc,u,hb,h=>by
  simp only[eu] at h ⊢
  rcases h with h | ⟨h0,x,y,h1,h2,h3⟩ | ⟨h0,x,y,h1,h2,h3⟩
  ·exact .inl h
  ·exact .inr (.inl ⟨h0,x,y,h1,adl hS hc fa x (fun id hi=>hb id (by simp only[mentions,hi,Af])) h2,adl hS hc fc y (fun id hi=>hb id (by simp only[mentions,hi,Af,Ad])) h3⟩)
  ·exact .inr (.inr ⟨h0,x,y,h1,adl hS hc ga x (fun id hi=>hb id (by simp only[mentions,hi,Af,Ad])) h2,adl hS hc gc y (fun id hi=>hb id (by simp only[mentions,hi,Ad])) h3⟩)
theorem adl(hS:E'.S=E.S)(hc:∀a,w'.cell? a=w.cell? a):∀(l:List AVal) (vs:List Value),(∀id,qx id l=true→E'.ρ id=E.ρ id)→lg E w l vs→lg E' w' l vs
 | [],vs,hb,h=>by simp only[lg] at h ⊢;exact h
 | a::r,vs,hb,h=>by
  simp only[lg] at h ⊢
  obtain ⟨u,us,h1,h2,h3⟩:=h
  exact ⟨u,us,h1,aqd hS hc a u (fun id hi=>hb id (by simp only[qx,hi,Af])) h2,adl hS hc r us (fun id hi=>hb id (by simp only[qx,hi,Ad])) h3⟩
theorem ah1(hS:E'.S=E.S)(hc:∀a,w'.cell? a=w.cell? a):∀(l:List AVal) (cs:List Value),(∀id,qx id l=true→E'.ρ id=E.ρ id)→ql E w l cs→ql E' w' l cs
 | [],cs,hb,h=>by simp only[ql] at h ⊢;exact h
 | a::r,cs,hb,h=>by
  rcases x9 h with ⟨k',m,l,cs',rfl,h1,rfl,h3⟩ | ⟨ha,u,cs',rfl,h2,h3,h4⟩
  ·exact aas h1 (ah1 hS hc r cs' (fun id hi=>hb id (by simp only[qx,hi,Ad])) h3)
  ·exact nu ha h2 (aqd hS hc a u (fun id hi=>hb id (by simp only[qx,hi,Af])) h3) (ah1 hS hc r cs' (fun id hi=>hb id (by simp only[qx,hi,Ad])) h4)
end
end
def bn3:Bk→List AVal
 | .row _ _=>[]
 | .box _ l=>l
theorem aty.turn{E E':Env}{w w':World}{B0 id:Nat}{b:Blk}(hS:E'.S=E.S)(ht:Turn w w')(hi:E'.ρ id=E.ρ id)(hb:∀j,qx j (bn3 b.b)=true→E'.ρ j=E.ρ j)(h:aty E w B0 id b):aty E' w' B0 id b:=by
 obtain ⟨u,hu,hbb,hf,hz⟩:=h
 refine ⟨u,by rw[hi];exact hu,?_,fun h1 k hk=>by rw[hS];exact hf h1 k hk,fun h1 k hk=>by rw[hS];exact hz h1 k hk⟩
 cases hb':b.b with
 | row e c =>
  rw[hb'] at hbb
  obtain ⟨xs,⟨ho1,ho2⟩,hx⟩:=hbb
  refine ⟨xs,⟨ho1,?_⟩,fun j x hjx=>⟨(hx j x hjx).1,by rw[hS];exact cellC.turn ht.cell (hx j x hjx).2⟩⟩
  rcases ho2 with hn | ⟨g,cap,cur,rfl,hb,hg,rest⟩
  ·exact .inl hn
  ·exact .inr ⟨g,cap,cur,rfl,hb,ht.blk _ _ _ _ hg,rest⟩
 | box e l =>
  rw[hb'] at hbb
  obtain ⟨g,cs,rfl,hB,hh,hl⟩:=hbb
  exact ⟨g,cs,rfl,hB,ht.blk _ _ _ _ hh,ah1 hS ht.cell l _ (fun j hj=>hb j (by rw[hb'];exact hj)) hl⟩
section
variable {D D':Ctx} {B0:Nat} {w0:W0} {E E':Env} {st:ASt} {act act':Act} {w w':World}
theorem Rel.turn(hG2:pq D)(hR:Rel D B0 w0 E st act w)(y':Option (Nat×Nat×Array Value))(hg:D'.globs=D.globs)(hS:E'.S=E.S)(ht:Turn w w')(hbel:Below B0 w w')(hρ:∀id u,E'.ρ id=some u→E.ρ id=some u)
    (hslots:∀t id,mentions id (look st.f t)=true→E'.ρ id=E.ρ id) (hheap:∀id b,gq st.h id=some b→E'.ρ id=E.ρ id∧∀j,qx j (bn3 b.b)=true→E'.ρ j=E.ρ j)
    (htm:act'.tmps=act.tmps) (hidle:D'.top=false→act'.defers=[]) (hmarks:Marks B0 E' w' act'.defers) (hrecs:aob D' B0 ⟨w0.w,w0.S0,y'⟩ E' w') (hform:∀id u,E'.ρ id=some u→bh7 ⟨w0.w,w0.S0,y'⟩ id u) :
    Rel D' B0 ⟨w0.w,w0.S0,y'⟩ E' st act' w' where
 below:=hR.below.trans hbel
 base:=Nat.le_trans hR.base hbel.size
 size:=by rw[htm];exact hR.size
 idle:=hidle
 marks:=hmarks
 recs:=hrecs
 tmps:=fun t=>by rw[htm];exact aqd hS ht.cell _ _ (hslots t) (hR.tmps t)
 heap:=fun id b hb=>(hR.heap id b hb).turn hS ht (hheap id b hb).1 (hheap id b hb).2
 apart:=fun id id' b b' u u' k h1 h2 h3 h4 h5 h6 h7 h8=>hR.apart id id' b b' u u' k h1 h2 h3 h4 h5 (hρ _ _ h6) (hρ _ _ h7) h8
 sOld:=fun b hb=>Nat.lt_of_lt_of_le (hR.sOld b (by rw[←hS];exact hb)) hbel.size
 sNew:=fun b hb=>hR.sNew b (by rw[←hS];exact hb)
 form:=hform
 globs:=fun g l hl=>by
  rw[hg] at hl
  obtain ⟨h1,cs,e,fz,h2,h3⟩:=hR.globs g l hl
  refine ⟨by rw[hS];exact h1,cs,e,fz,ht.blk _ _ _ _ h2,?_⟩
  exact ah1 (E:=E') rfl ht.cell _ _ (fun _ _=>rfl) (hG2 g l hl E E' w _ h3 hS.symm)
end
end Go.Abs
end

section
namespace Go.Abs
open Go Go.RowKit
def conv:AExit→Exit
 | .normal=>.normal
 | .exit id=>.exit id
 | .ret=>.ret
def bcw(D:Ctx)(B0:Nat)(w0:W0)(E0:Env)(w00:World)(ex:AExit)(st:ASt)(e:Exit)(a:Act)(w:World):Prop :=
 e=conv ex∧∃E',Up E0 E' w00 w∧Rel D B0 w0 E' st a w∧Dom E' st.n
def bpm(D:Ctx)(c:Code)(ex:AExit)(st st':ASt):Prop :=
 ∀(q:Option Nat) (n0 B0:Nat) (w0:W0) E act w,(D.top=true→q=none)→Rel D B0 w0 E st act w→Dom E st.n→c.wpIn (FR q) n0 D.P (bcw D B0 w0 E w ex st') act w
theorem bnl(h:Hint)(n:Nat):n≤bm4 h n:=by
 unfold bm4
 split
 ·exact Al _
 ·rename_i m _ _
  cases hq:Nat.ble n m with
  | true=>exact Nat.le_of_ble_eq_true hq
  | false=>exact Al _
section
variable {D:Ctx} {B0:Nat} {w0:W0}
theorem bcw.up{E0 E1:Env}{w00 w1:World}{ex:AExit}{st:ASt}{e:Exit}{a:Act}{w:World}(k:Up E0 E1 w00 w1)(h:bcw D B0 w0 E1 w1 ex st e a w):bcw D B0 w0 E0 w00 ex st e a w:=by
 obtain ⟨h1,E',h2,h3⟩:=h
 exact ⟨h1,E',k.trans h2,h3⟩
theorem bau(f:List (Nat×AVal)):∀(ts:List Nat) (t:Nat),look (bnn f ts) t=look f t∨look (bnn f ts) t=.bot
 | [],t=>.inr rfl
 | a::r,t=>by
  simp only[bnn,look]
  cases hb:Ab a t with
  | true=>have:=Aa hb;subst this;exact .inl rfl
  | false=>exact bau f r t
theorem Rel.bnn{E:Env}{st:ASt}{act:Act}{w:World}(h:Rel D B0 w0 E st act w)(ts:List Nat):Rel D B0 w0 E { st with f:=Abs.bnn st.f ts } act w :=
 { h with
   tmps:=fun t=>by
    have e:=bau st.f ts t
    revert e
    simp only
    generalize look (Abs.bnn st.f ts) t=x
    rintro (rfl | rfl)
    ·exact h.tmps t
    ·exact aja _ }
theorem bqi(hG2:pq D){c:Code}(hc:∀(st:ASt) (K:AExit→ASt→Option R) (r:R),afe D c st K=some r→∃ex st',K ex st'=some r∧st'.m=st.m∧bpm D c ex st st')
    {h:Hint} {n:Nat} {ids:List Nat} {K:AExit→ASt→Option R}:∀(k:Nat) (st:ASt) (r:R),iter h n ids (afe D c) K k st=some r →
    ∃ex st',K ex st'=some r∧st'.m=st.m∧∀(q:Option Nat) (n0 B0:Nat) (w0:W0) E0 w00 E act w,(D.top=true→q=none)→Dom E0 n→Up E0 E w00 w→Rel D B0 w0 E st act w→Dom E st.n→Code.roundsIn (FR q) n0 D.P c (bcw D B0 w0 E0 w00 ex st') (k+1) act w:=by
 have enter:∀{E0 E E':Env} {w00 w:World},Dom E0 n→Up E0 E w00 w→(∀b,E.S b→E'.S b)→(∀id,id<n→E'.ρ id=E.ρ id)→Up E0 E' w00 w:=by
  intro E0 E E' w00 w hD hup hS hρ
  exact ⟨⟨fun b hb=>hS b (hup.keeps.sub b hb),hup.keeps.blk⟩,fun id u hu=>by rw[hρ id (hD id u hu)];exact hup.ρ id u hu⟩
 have round:∀(k:Nat) (next:ASt→Option R) (st:ASt) (r:R),afe D c st (boh h n ids K next)=some r →
     (∀st1,next st1=some r→∃ex st',K ex st'=some r∧st'.m=st1.m∧∀(q:Option Nat) (n0 B0:Nat) (w0:W0) E0 w00 E act w,(D.top=true→q=none)→Dom E0 n→Up E0 E w00 w→Rel D B0 w0 E st1 act w→Dom E st1.n→Code.roundsIn (FR q) n0 D.P c (bcw D B0 w0 E0 w00 ex st') k act w) →
     ∃ex st',K ex st'=some r∧st'.m=st.m∧∀(q:Option Nat) (n0 B0:Nat) (w0:W0) E0 w00 E act w,(D.top=true→q=none)→Dom E0 n→Up E0 E w00 w→Rel D B0 w0 E st act w→Dom E st.n→Code.roundsIn (FR q) n0 D.P c (bcw D B0 w0 E0 w00 ex st') (k+1) act w:=by
  intro k next st r hi hnext
  obtain ⟨ex1,st2,hK,hm2,hok⟩:=hc st _ r hi
  cases ex1 with
  | normal =>
   simp only[boh] at hK
   split at hK
   ·rename_i st1 hn
    obtain ⟨hm,hle,hnorm⟩:=azu hG2 hn
    obtain ⟨ex,st',h1,h2,h3⟩:=hnext st1 hK
    refine ⟨ex,st',h1,by rw[h2,hm,hm2],fun q n0 B0 w0 E0 w00 E act w hq hD hup hR hD2=>?_⟩
    rw[roundsIn_succ]
    refine wpIn_mono (hok q n0 B0 w0 E act w hq hR hD2) (fun e a w' hL=>?_)
    obtain ⟨rfl,E2,k1,k2,k3⟩:=hL
    obtain ⟨E',hS,hρ,hR',hD'⟩:=hnorm B0 w0 E2 a w' k2
    exact h3 q n0 B0 w0 E0 w00 E' a w' hq hD (enter hD (hup.trans k1) hS hρ) hR' hD'
   ·cases hK
  | exit j =>
   simp only[boh] at hK
   split at hK
   ·rename_i st1 hn
    obtain ⟨hm,hle,hnorm⟩:=azu hG2 hn
    refine ⟨.exit j,st1,hK,by rw[hm,hm2],fun q n0 B0 w0 E0 w00 E act w hq hD hup hR hD2=>?_⟩
    rw[roundsIn_succ]
    refine wpIn_mono (hok q n0 B0 w0 E act w hq hR hD2) (fun e a w' hL=>?_)
    obtain ⟨rfl,E2,k1,k2,k3⟩:=hL
    obtain ⟨E',hS,hρ,hR',hD'⟩:=hnorm B0 w0 E2 a w' k2
    exact ⟨rfl,E',enter hD (hup.trans k1) hS hρ,hR',hD'⟩
   ·cases hK
  | ret =>
   refine ⟨.ret,_,hK,hm2,fun q n0 B0 w0 E0 w00 E act w hq hD hup hR hD2=>?_⟩
   rw[roundsIn_succ]
   refine wpIn_mono (hok q n0 B0 w0 E act w hq hR hD2) (fun e a w' hL=>?_)
   obtain ⟨rfl,E2,k1,k2,k3⟩:=hL
   exact ⟨rfl,E2,hup.trans k1,k2.bnn _,k3⟩
 intro k
 induction k with
 | zero =>
  intro st r hi
  exact round 0 _ st r hi (fun st1 h=>by cases h)
 | succ k ih =>
  intro st r hi
  exact round (k+1) _ st r hi (fun st1 h=>ih st1 r h)
def amz(D:Ctx):Code→Prop
 | .rangeFunc _ ps assign body=>∀e,ayg D.rng (jy body)=some e→∃Di:Ctx,Di.P=D.P∧Di.globs=D.globs∧Di.y=some ⟨ps,assign,body,e.m,true⟩∧Enters D.P e.g∧bex Di e.g e.s
 | _=>True
theorem bg3{D:Ctx}{st:ASt}{g:Operand}{body:Code}{e:RngE}{first caps:List AVal}(h:bp4 D st g body=some (e,first,caps)) :
    ev st.f g=.fn (.func e.g) first caps∧ayg D.rng (jy body)=some e∧D.top=true∧D.y=none∧st.m=e.m:=by
 unfold bp4 at h
 split at h
 ·rename_i gid first' caps' hx
  split at h
  ·rename_i e' he
   cases hq:D.top&&noY D.y&&Ab gid e'.g&&Ab st.m e'.m with
   | false=>rw[hq] at h;cases h
   | true =>
    rw[hq] at h
    cases h
    simp only[Ac] at hq
    obtain ⟨⟨⟨h1,h2⟩,h3⟩,h4⟩:=hq
    have e1:=Aa h3
    have e2:=Aa h4
    subst e1
    refine ⟨hx,he,h1,?_,e2⟩
    revert h2
    cases D.y with
    | none=>intro _;rfl
    | some _=>intro h;cases h
  ·cases h
 ·cases h
theorem Rel.swap{D:Ctx}{B0:Nat}{w0:W0}{E E':Env}{f f':List (Nat×AVal)}{h h':Hp}{n n' m m':Nat}{act act':Act}{w w':World}(hR:Rel D B0 w0 E ⟨f,h,n,m⟩ act w)(up:Up E E' w w')
    (hR':Rel D B0 w0 E' ⟨f',h',n',m'⟩ act' w'):Rel D B0 w0 E' ⟨f,h',n',m⟩ act w' where
 below:=hR'.below
 base:=hR'.base
 size:=hR.size
 idle:=hR.idle
 marks:=hR.marks.mono up
 recs:=hR'.recs
 tmps:=fun t=>eu.mono up _ _ (hR.tmps t)
 heap:=hR'.heap
 apart:=hR'.apart
 sOld:=hR'.sOld
 sNew:=hR'.sNew
 form:=hR'.form
 globs:=hR'.globs
theorem bc8{D:Ctx}{B0:Nat}{w0:W0}{E:Env}{st:ASt}{act:Act}{w:World}(hR:Rel D B0 w0 E st act w):∀(ts:List Nat),lg E w (looks st.f ts) (ts.map fun t=>act.tmps.getD t undef)
 | []=>by simp only[looks,lg,List.map_nil]
 | t::r=>by
  simp only[looks,lg,List.map_cons]
  exact ⟨_,_,rfl,hR.tmps t,bc8 hR r⟩
theorem bde:∀(h:Hp) {x id:Nat} {b:Blk},bbg x h=true→gq h id=some b→qx x (bn3 b.b)=false
 | [],x,id,b,_,hb=>by simp[gq] at hb
 | (k,c)::r,x,id,b,hf,hb=>by
  have key:(∀e l z,c=some ⟨.box e l,z⟩→qx x l=false)∧bbg x r=true:=by
   unfold bbg at hf
   split at hf
   ·rename_i heq
    cases heq
   ·rename_i heq
    cases heq
    simp only[Ac,Ag] at hf
    exact ⟨fun e l z h=>by cases h;exact hf.1,hf.2⟩
   ·rename_i hno heq
    cases heq
    exact ⟨fun e l z h=>absurd h (by intro h;exact hno _ _ _ _ (by rw[h])),hf⟩
  simp only[gq] at hb
  cases hq:Ab k id with
  | true =>
   rw[hq] at hb
   simp only[cond_true] at hb
   subst hb
   obtain ⟨bk,z⟩:=b
   cases bk with
   | row e c=>simp[bn3,qx]
   | box e l=>exact key.1 e l z rfl
  | false=>rw[hq] at hb;exact bde r key.2 hb
theorem bge{B0:Nat}{E:Env}{w:World}:∀{ds:List Deferred},Marks B0 E w ds→∀d,d∈ds→∃b,d.target=.collected b∧b<w.heap.size
 | [],_,d,hd=>by simp at hd
 | x::r,h,d,hd=>by
  obtain ⟨⟨b,h1,h2,h3,h4,h5⟩,h6⟩:=h
  rcases List.mem_cons.1 hd with rfl | hd
  ·exact ⟨b,by rw[h1],(Ak.1 h4).1⟩
  ·exact bge h6 d hd
theorem bm6{D Di:Ctx}(hG2:pq D){g:Operand}{ps:Array Tmp}{assign body:Code}{st:ASt}{e:RngE}{first caps:List AVal}{v:AVal}{h':Hp}{n' n0 B0:Nat}{w0:W0}{E:Env}{act:Act}{w:World}
    (hev:ev st.f g=.fn (.func e.g) first caps) (htop:D.top=true) (hyn:D.y=none) (hm:st.m=e.m) (hP:Di.P=D.P) (hgl:Di.globs=D.globs) (hy:Di.y=some ⟨ps,assign,body,e.m,true⟩) (hent:Enters D.P e.g)
    (hcall:∀(B0:Nat) (w0:W0) (E:Env) (f:List (Nat×AVal)) (m:Nat) (act:Act) (w:World) (cargs:List Value),Rel Di B0 w0 E ⟨f,st.h,st.n+1,m⟩ act w→Dom E (st.n+1)→lg E w (ru first (.yld st.n e.ts (looks st.f e.ts)::caps)) cargs →
     Calls Di.P e.g cargs.toArray w fun e w'=>∃u E',e=.returned u∧Up E E' w w'∧Rel Di B0 w0 E' ⟨f,h',n',m⟩ act w'∧Dom E' n'∧eu E' w' v u)
    (hfree:bbg st.n h'=true) (hR:Rel D B0 w0 E st act w) (hD:Dom E st.n) :
    (Code.rangeFunc g ps assign body).wpIn (FR none) n0 D.P (bcw D B0 w0 E w .normal { f:=st.f,h:=h',n:=n',m:=st.m }) act w:=by
 have hw0:w0.y=none:=by
  cases hq:w0.y with
  | none=>rfl
  | some x =>
   obtain ⟨id,l,T⟩:=x
   obtain ⟨_,_,Y,r,h1,_⟩:=hR.recs id l T hq
   rw[hyn] at h1
   cases h1
 have hX:=hR.ev g
 rw[hev] at hX
 simp only[eu] at hX
 obtain ⟨fv,cv,hfn,hrf,hrc⟩:=hX
 refine wpIn_rangeFunc (fun fn _=>?_)
 obtain ⟨rec0,hrec⟩:∃r:Loop,r={ state:=.ready,pending:=none,fn,tmps:=act.tmps,params:=ps,assign,body,defers:=w.heap.size }:=⟨_,rfl⟩
 obtain ⟨w1,hw1⟩:∃w1,w1=(w.alloc (.deferred (some []))).alloc (.loop rec0):=⟨_,rfl⟩
 have hs1:w1.heap.size=w.heap.size+2:=by rw[hw1];simp only[World.size_alloc]
 have hold:∀k,k<w.heap.size→w1.heap[k]?=w.heap[k]?:=by
  intro k hk
  rw[hw1]
  simp only[World.alloc]
  rw[Am (by simp;omega),Array.getElem?_eq_getElem hk,Array.getElem_push_lt hk]
 have hd1:w1.heap[w.heap.size]?=some (.deferred (some [])):=by
  rw[hw1]
  simp only[World.alloc]
  rw[Am (by simp)]
  simp
 have hl1:w1.heap[w.heap.size+1]?=some (.loop rec0):=by
  rw[hw1]
  have:=World.alloc_heap_new (w.alloc (.deferred (some []))) (.loop rec0)
  rw[World.size_alloc] at this
  exact this
 have hb0:=hR.base
 obtain ⟨E1,hE1⟩:∃E1:Env,E1=⟨fun k=>E.S k∨k=w.heap.size∨k=w.heap.size+1,fun j=>if j=st.n then some (mark (w.heap.size+1) act.tmps) else E.ρ j⟩:=⟨_,rfl⟩
 have hne:∀id u,E.ρ id=some u→id≠st.n:=fun id u hu=>Nat.ne_of_lt (hD id u hu)
 have hρ1:∀id,id≠st.n→E1.ρ id=E.ρ id:=fun id hi=>by rw[hE1];simp only[if_neg hi]
 have hρn:E1.ρ st.n=some (mark (w.heap.size+1) act.tmps):=by rw[hE1];simp only[if_true]
 have up1:Up E E1 w w1:=⟨⟨fun b hb=>by rw[hE1];exact .inl hb,fun b hb=>hold b (hR.sOld b hb)⟩,fun id u hu=>by rw[hρ1 id (hne id u hu)];exact hu⟩
 have hbel:Below B0 w w1:={ os:=by rw[hw1];rfl,tape:=by rw[hw1];rfl,output:=by rw[hw1];rfl,size:=by rw[hs1];omega,block:=fun k hk=>hold k (by omega) }
 have hS1:∀b,E1.S b→E.S b∨(w.heap.size≤b∧b<w1.heap.size):=by
  intro b hb
  rw[hE1] at hb
  rcases hb with h | h | h
  ·exact .inl h
  ·exact .inr ⟨by omega,by omega⟩
  ·exact .inr ⟨by omega,by omega⟩
 have hR1:Rel Di B0 ⟨w0.w,w0.S0,some (st.n,w.heap.size+1,act.tmps)⟩ E1 ⟨[],st.h,st.n+1,0⟩ ⟨#[],[]⟩ w1 :=
  { below:=hR.below.trans hbel
    base:=Nat.le_trans hb0 hbel.size
    size:=rfl
    idle:=fun _=>rfl
    marks:=trivial
    recs:=fun id l T hyy=>by
     cases hyy
     refine ⟨by omega,by rw[hE1];exact .inr (.inr rfl),_,rec0,hy,hl1,by rw[hrec],by rw[hrec],by rw[hrec],by rw[hrec],by rw[hR.size,hm],fun _=>by rw[hrec];exact ⟨rfl,rfl⟩⟩
    tmps:=fun t=>aja _
    heap:=fun id b hb=>(hR.heap id b hb).mono up1 (fun u j hu hj=>hold j ((hR.heap id b hb).lt hu hj).2) (fun _ u j hu hj hS=>by
     rcases hS1 j hS with h | h
     ·exact h
     ·have:=((hR.heap id b hb).lt hu hj).2
      omega)
    apart:=fun id id' b b' u u' k h1 h2 h3 h4 h5 h6 h7=>by
     obtain ⟨u1,hu1,_⟩:=hR.heap id b h1
     obtain ⟨u2,hu2,_⟩:=hR.heap id' b' h3
     rw[hρ1 id (hne _ _ hu1)] at h6
     rw[hρ1 id' (hne _ _ hu2)] at h7
     exact hR.apart id id' b b' u u' k h1 h2 h3 h4 h5 h6 h7
    sOld:=fun b hb=>by
     rcases hS1 b hb with h | h
     ·have:=hR.sOld b h
      omega
     ·exact h.2
    sNew:=fun b hb=>by
     rcases hS1 b hb with h | h
     ·exact hR.sNew b h
     ·exact .inr (by omega)
    form:=fun id u hu=>by
     by_cases hi:id=st.n
     ·subst hi
      rw[hρn] at hu
      cases hu
      exact .inr ⟨_,_,rfl,rfl⟩
     ·rw[hρ1 id hi] at hu
      rcases hR.form id u hu with h | ⟨l,T,h,_⟩
      ·exact .inl h
      ·rw[hw0] at h
       cases h
    globs:=fun gg l hg=>by
     rw[hgl] at hg
     obtain ⟨h1,cs,e,fz,h2,h3⟩:=hR.globs gg l hg
     exact ⟨up1.keeps.sub _ h1,cs,e,fz,by rw[hold _ (hR.sOld _ h1)];exact h2,ql.mono up1 _ _ h3⟩ }
 have hD1:Dom E1 (st.n+1):=by
  intro id u hu
  by_cases hi:id=st.n
  ·omega
  ·rw[hρ1 id hi] at hu
   have:=hD id u hu
   omega
 have hargs:lg E1 w1 (ru first (.yld st.n e.ts (looks st.f e.ts)::caps)) (fv++(.func (.yield (w.heap.size+1)) #[] #[]::cv)):=by
  rw[ag5]
  refine ahy _ _ _ _ (lg.mono up1 _ _ hrf) ?_
  simp only[lg]
  refine ⟨_,_,rfl,?_,lg.mono up1 _ _ hrc⟩
  simp only[eu]
  exact ⟨_,act.tmps,hρn,rfl,lg.mono up1 _ _ (bc8 hR _)⟩
 have hc:=hcall B0 _ E1 [] 0 ⟨#[],[]⟩ w1 _ hR1 hD1 hargs
 rw[hP] at hc
 refine ⟨w.heap.size+1,[{ target:=.collected w.heap.size,args:=#[] }],w1,⟨.fn (.func e.g) cv.toArray,fv.toArray++#[.func (.yield (w.heap.size+1)) #[] #[]]⟩,w1,e.g,(fv++(.func (.yield (w.heap.size+1)) #[] #[]::cv)).toArray,w1,?_,?_,fun _ _=>trivial,?_,fun h=>bgf h,ahx.2 (hc.mono ?_)⟩
 ·rw[hw1,hrec]
  exact run_enterLoop_outer fn act.tmps ps assign body
 ·simp only[resolve,hfn,Deferred.ofValue,Sem.run_pure,List.map_toArray,List.map_cons,List.map_nil]
  rfl
 ·have e1:(fv.toArray++#[Value.func (.yield (w.heap.size+1)) #[] #[]])++cv.toArray=(fv++(Value.func (.yield (w.heap.size+1)) #[] #[]::cv)).toArray:=by
    apply Array.ext'
    simp
  simp only[invoke,e1,amv hent]
 ·rintro e0 w3 ⟨u,E2,rfl,up2,hR2,hD2,_⟩
  have hl3:w3.heap[w.heap.size+1]?=some (.loop rec0):=by
   rw[up2.keeps.blk _ (by rw[hE1];exact .inr (.inr rfl))]
   exact hl1
  have hd3:w3.heap[w.heap.size]?=some (.deferred (some [])):=by
   rw[up2.keeps.blk _ (by rw[hE1];exact .inr (.inl rfl))]
   exact hd1
  obtain ⟨w4,⟨o4,ho4,hw4⟩,hend⟩:∃w4,(∃o,(∀cs e f,o≠Obj.cells cs e f)∧w4=w3.putObj (w.heap.size+1) o)∧(Instr.endLoop (w.heap.size+1)).run D.P w3=.ok none w4:=by
   have h:=run_endLoop (P:=D.P) hl3 (by rw[hrec];simp)
   rw[show rec0.pending=none by rw[hrec]] at h
   exact ⟨_,⟨_,by simp,rfl⟩,h⟩
  refine ⟨none,w4,hend,?_⟩
  obtain ⟨E4,hE4⟩:∃E4:Env,E4=⟨E2.S,fun j=>if j=st.n then none else E2.ρ j⟩:=⟨_,rfl⟩
  have hρ4:∀id,id≠st.n→E4.ρ id=E2.ρ id:=fun id hi=>by rw[hE4];simp only[if_neg hi]
  have hρ4':∀id u,E4.ρ id=some u→id≠st.n∧E2.ρ id=some u:=by
   intro id u hu
   by_cases hi:id=st.n
   ·rw[hE4] at hu
    simp[hi] at hu
   ·rw[hρ4 id hi] at hu
    exact ⟨hi,hu⟩
  have hn2:E2.ρ st.n=some (mark (w.heap.size+1) act.tmps):=up2.ρ _ _ hρn
  have hoth:∀k,k≠w.heap.size+1→w4.heap[k]?=w3.heap[k]?:=fun k hk=>by rw[hw4];exact World.putObj_heap_other hk
  have up4:Up E E4 w w4:=by
   refine ⟨⟨fun b hb=>?_,fun b hb=>?_⟩,fun id u hu=>?_⟩
   ·rw[hE4]
    exact up2.keeps.sub _ (up1.keeps.sub _ hb)
   ·have:=hR.sOld b hb
    rw[hoth b (by omega),up2.keeps.blk _ (up1.keeps.sub _ hb),up1.keeps.blk _ hb]
   ·rw[hρ4 id (hne id u hu)]
    exact up2.ρ _ _ (up1.ρ _ _ hu)
  have hRt:Rel D B0 ⟨w0.w,w0.S0,none⟩ E4 ⟨[],h',n',0⟩ ⟨#[],[]⟩ w4:=by
   refine hR2.turn (D':=D) (E':=E4) (act':=⟨#[],[]⟩) (fun gg l hg=>hG2 gg l (by rw[←hgl];exact hg)) none hgl.symm (by rw[hE4]) (by rw[hw4];exact alf hl3 (by simp) ho4) (by rw[hw4];exact ajg (by omega)) (fun id u hu=>(hρ4' id u hu).2)
    (fun t id hi=>by simp[look,mentions] at hi) (fun id b hb=>⟨?_,fun j hj=>hρ4 j ?_⟩) rfl (fun _=>rfl) trivial (ar7 rfl) (fun id u hu=>?_)
   ·refine hρ4 id ?_
    rintro rfl
    rcases (hR2.heap _ b hb).form hn2 with ⟨_,_,_,h⟩ | ⟨_,h⟩<;>cases h
   ·rintro rfl
    rw[bde h' hfree hb] at hj
    cases hj
   ·obtain ⟨h1,h2⟩:=hρ4' id u hu
    rcases hR2.form id u h2 with h | ⟨l,T,h,_⟩
    ·exact .inl h
    ·cases h
     exact absurd rfl h1
  have hw0':w0=⟨w0.w,w0.S0,none⟩:=by
   cases w0
   simp only at hw0
   rw[hw0]
  rw[←hw0'] at hRt
  have hRs:=Rel.swap (f:=st.f) (h:=st.h) (n:=st.n) (m:=st.m) hR up4 hRt
  refine ⟨rfl,E4,up4,{ hRs with idle:=?_,marks:=?_,size:=hRs.size,tmps:=hRs.tmps },fun id u hu=>hD2 id u (hρ4' id u hu).2⟩
  ·intro h
   rw[htop] at h
   cases h
  ·refine ⟨⟨w.heap.size,rfl,hb0,?_,?_,fun d' hd'=>?_⟩,hRs.marks⟩
   ·rw[hE4]
    exact up2.keeps.sub _ (by rw[hE1];exact .inr (.inl rfl))
   ·rw[hoth _ (by omega)]
    exact hd3
   ·obtain ⟨b,hb1,hb2⟩:=bge hR.marks d' hd'
    rw[hb1]
    intro h
    cases h
    omega
theorem avc(hG:GOk D)(hG2:pq D)(hI:InlOk D)(hmix:D.P.follows .mixedOrders=true):∀(c:Code),(∀c',c'∈gu c→o9 D c')→(∀c',c'∈vg c→amz D c')→∀(st:ASt) (K:AExit→ASt→Option R) (r:R),afe D c st K=some r →
    ∃ex st',K ex st'=some r∧st'.m=st.m∧bpm D c ex st st':=by
 intro c
 induction c with
 | skip =>
  intro hL hRg st K r h
  exact ⟨.normal,st,h,rfl,fun q n0 B0 w0 E act w hq hR hD=>wpIn_skip ⟨rfl,E,Up.refl _ _,hR,hD⟩⟩
 | label l =>
  intro hL hRg st K r h
  exact ⟨.normal,st,h,rfl,fun q n0 B0 w0 E act w hq hR hD=>wpIn_label ⟨rfl,E,Up.refl _ _,hR,hD⟩⟩
 | region id ops draw =>
  intro hL hRg st K r h
  cases draw with
  | false =>
   simp only[afe] at h
   obtain ⟨st',h1,h2,h4⟩:=bkq (id:=id) hG hG2 hI h
   refine ⟨.normal,st',h1,h2.trans (az9 D ops.toList st).1,fun q n0 B0 w0 E act w hq hR hD=>?_⟩
   obtain ⟨E1,hρ,up1,hR1⟩:=bll ops.toList hR
   exact h4 q n0 B0 w0 E1 act w _ hR1 (fun id u hu=>by rw[(az9 D ops.toList st).2];rw[hρ] at hu;exact hD id u hu) (fun E' a' w' k1 k2 k3=>⟨rfl,E',up1.trans k1,k2,k3⟩)
  | true =>
   simp only[afe] at h
   obtain ⟨st',h1,h2,h4⟩:=bmi (id:=id) hG hG2 hI hmix h
   refine ⟨.normal,st',h1,h2.trans (az9 D ops.toList st).1,fun q n0 B0 w0 E act w hq hR hD=>?_⟩
   obtain ⟨E1,hρ,up1,hR1⟩:=bll ops.toList hR
   exact h4 q n0 B0 w0 E1 act w _ hR1 (fun id u hu=>by rw[(az9 D ops.toList st).2];rw[hρ] at hu;exact hD id u hu) (fun E' a' w' k1 k2 k3=>⟨rfl,E',up1.trans k1,k2,k3⟩)
 | seq a b iha ihb =>
  intro hL hRg st K r h
  simp only[afe] at h
  obtain ⟨ex1,st1,h1,h2,h3⟩:=iha (fun c' hc=>hL c' (by simp[gu,hc])) (fun c' hc=>hRg c' (by simp[vg,hc])) st _ r h
  cases ex1 with
  | normal =>
   obtain ⟨ex,st',k1,k2,k3⟩:=ihb (fun c' hc=>hL c' (by simp[gu,hc])) (fun c' hc=>hRg c' (by simp[vg,hc])) st1 K r h1
   refine ⟨ex,st',k1,k2.trans h2,fun q n0 B0 w0 E act w hq hR hD=>wpIn_seq (wpIn_mono (h3 q n0 B0 w0 E act w hq hR hD) (fun e a w' hL=>?_))⟩
   obtain ⟨rfl,E1,u1,u2,u3⟩:=hL
   exact wpIn_mono (k3 q n0 B0 w0 E1 a w' hq u2 u3) (fun e a w'' hL=>hL.up u1)
  | exit j =>
   refine ⟨.exit j,st1,h1,h2,fun q n0 B0 w0 E act w hq hR hD=>wpIn_seq (wpIn_mono (h3 q n0 B0 w0 E act w hq hR hD) (fun e a w' hL=>?_))⟩
   have h5:=hL
   obtain ⟨rfl,_⟩:=hL
   exact h5
  | ret =>
   refine ⟨.ret,st1,h1,h2,fun q n0 B0 w0 E act w hq hR hD=>wpIn_seq (wpIn_mono (h3 q n0 B0 w0 E act w hq hR hD) (fun e a w' hL=>?_))⟩
   have h5:=hL
   obtain ⟨rfl,_⟩:=hL
   exact h5
 | cond x a b iha ihb =>
  intro hL hRg st K r h
  simp only[afe] at h
  split at h
  ·rename_i t ht
   have hcv:∀{B0:Nat} {w0:W0} {E act w},Rel D B0 w0 E st act w→act.eval x=.bool t:=by
    intro B0 w0 E act w hR
    have:=hR.ev x
    rw[ht] at this
    simpa only[eu] using this
   rcases aap h with ⟨rfl,h4⟩ | ⟨rfl,h4⟩
   ·obtain ⟨ex,st',k1,k2,k3⟩:=iha (fun c' hc=>hL c' (by simp[gu,hc])) (fun c' hc=>hRg c' (by simp[vg,hc])) st K r h4
    exact ⟨ex,st',k1,k2,fun q n0 B0 w0 E act w hq hR hD=>wpIn_cond (hcv hR) (k3 q n0 B0 w0 E act w hq hR hD)⟩
   ·obtain ⟨ex,st',k1,k2,k3⟩:=ihb (fun c' hc=>hL c' (by simp[gu,hc])) (fun c' hc=>hRg c' (by simp[vg,hc])) st K r h4
    exact ⟨ex,st',k1,k2,fun q n0 B0 w0 E act w hq hR hD=>wpIn_cond (hcv hR) (k3 q n0 B0 w0 E act w hq hR hD)⟩
  ·cases h
 | block id c ih =>
  intro hL hRg st K r h
  simp only[afe] at h
  obtain ⟨ex1,st1,h1,h2,h3⟩:=ih (fun c' hc=>hL c' (by simpa [gu] using hc)) (fun c' hc=>hRg c' (by simpa [vg] using hc)) st _ r h
  cases ex1 with
  | normal =>
   refine ⟨.normal,st1,h1,h2,fun q n0 B0 w0 E act w hq hR hD=>wpIn_block (wpIn_mono (h3 q n0 B0 w0 E act w hq hR hD) (fun e a w' hL=>?_))⟩
   have h5:=hL
   obtain ⟨rfl,_⟩:=hL
   exact h5
  | ret =>
   refine ⟨.ret,st1,h1,h2,fun q n0 B0 w0 E act w hq hR hD=>wpIn_block (wpIn_mono (h3 q n0 B0 w0 E act w hq hR hD) (fun e a w' hL=>?_))⟩
   have h5:=hL
   obtain ⟨rfl,_⟩:=hL
   exact h5
  | exit j =>
   cases hb:Ab j id with
   | true =>
    simp only[hb,cond_true] at h1
    have:=Aa hb
    subst this
    refine ⟨.normal,st1,h1,h2,fun q n0 B0 w0 E act w hq hR hD=>wpIn_block (wpIn_mono (h3 q n0 B0 w0 E act w hq hR hD) (fun e a w' hL=>?_))⟩
    obtain ⟨rfl,h5⟩:=hL
    simp only[conv,Exit.inBlock,if_true]
    exact ⟨rfl,h5⟩
   | false =>
    simp only[hb,cond_false] at h1
    have hne:=Ah hb
    refine ⟨.exit j,st1,h1,h2,fun q n0 B0 w0 E act w hq hR hD=>wpIn_block (wpIn_mono (h3 q n0 B0 w0 E act w hq hR hD) (fun e a w' hL=>?_))⟩
    obtain ⟨rfl,h5⟩:=hL
    simp only[conv,Exit.inBlock,if_neg hne]
    exact ⟨rfl,h5⟩
 | loop c ih =>
  intro hL hRg st K r h
  simp only[afe] at h
  split at h
  ·cases h
  ·rename_i st1 hn
   split at h
   ·rename_i s hs
    obtain ⟨k,hk⟩:=hL c (by simp[gu]) s hs st1 K r h
    obtain ⟨hb1,hb2⟩:=bcr hn
    unfold itA at hk
    rw[hb1,hb2] at hk
    obtain ⟨hm,hle,hnorm⟩:=azu hG2 hn
    obtain ⟨ex,st',h1,h2,h3⟩:=bqi hG2 (ih (fun c' hc=>hL c' (by simp[gu,hc])) (fun c' hc=>hRg c' (by simp[vg,hc]))) k st1 r hk
    refine ⟨ex,st',h1,h2.trans hm,fun q n0 B0 w0 E act w hq hR hD=>wpIn_loop_rounds (k+1) ?_⟩
    obtain ⟨E',hS,hρ,hR',hD'⟩:=hnorm B0 w0 E act w hR
    have hge:=bnl (hintOf D.hints (jy c)) st.n
    have hDn:Dom E (bm4 (hintOf D.hints (jy c)) st.n):=fun id u hu=>Nat.lt_of_lt_of_le (hD id u hu) hge
    exact h3 q n0 B0 w0 E w E' act w hq hDn ⟨⟨hS,fun _ _=>rfl⟩,fun id u hu=>by rw[hρ id (hDn id u hu)];exact hu⟩ hR' hD'
   ·cases h
 | exit id =>
  intro hL hRg st K r h
  exact ⟨.exit id,st,h,rfl,fun q n0 B0 w0 E act w hq hR hD=>wpIn_exit ⟨rfl,E,Up.refl _ _,hR,hD⟩⟩
 | ret =>
  intro hL hRg st K r h
  exact ⟨.ret,st,h,rfl,fun q n0 B0 w0 E act w hq hR hD=>wpIn_ret ⟨rfl,E,Up.refl _ _,hR,hD⟩⟩
 | rangeFunc g ps assign body iha ihb =>
  intro hL hRg st K r h
  simp only[afe] at h
  split at h
  ·rename_i e first caps hrng
   obtain ⟨hev,hra,htop,hyn,hm⟩:=bg3 hrng
   obtain ⟨Di,hP,hgl,hy,hent,hrun⟩:=hRg (.rangeFunc g ps assign body) (by simp[vg]) e hra
   obtain ⟨v,h',n',hK,hcall⟩:=hrun _ _ _ _ r h
   cases hfree:bbg st.n h' with
   | false=>rw[hfree] at hK;cases hK
   | true =>
    rw[hfree] at hK
    refine ⟨.normal,_,hK,rfl,fun q n0 B0 w0 E act w hq hR hD=>?_⟩
    have hqn:=hq htop
    subst hqn
    exact bm6 hG2 hev htop hyn hm hP hgl hy hent hcall hfree hR hD
  ·cases h
 | scope=>intro hL hRg st K r h;simp[afe] at h
 | goto=>intro hL hRg st K r h;simp[afe] at h
 | refuse=>intro hL hRg st K r h;simp[afe] at h
end
end Go.Abs
end
