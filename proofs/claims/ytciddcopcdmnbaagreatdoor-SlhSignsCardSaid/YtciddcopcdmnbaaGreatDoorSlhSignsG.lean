/-
  SlhSigns, part 7: lemmas for the law.
-/

import Derived.Test.YtciddcopcdmnbaaGreatDoorSlhSignsF
open Nat renaming eq_of_beq_eq_true → Aa, beq → Ab, ne_of_beq_eq_false → Ah, blt → Ai, le_refl → Al
open Bool renaming and_eq_true → Ac, or_true → Ad, true_or → Af, not_eq_true' → Ag
open List renaming mem_cons_of_mem → Ae, mem_cons_self → Aj
open Array renaming getElem?_eq_some_iff → Ak, getElem?_push_lt → Am
set_option linter.unusedVariables false
set_option linter.unusedSimpArgs false

section
namespace Go.Abs
open Go Go.RowKit
theorem brv{h:Hp}{id:Nat}{b:Blk}:iw h id=some b↔assoc h id=some (some b):=by
 induction h with
 | nil=>simp[iw,assoc]
 | cons x r ih =>
  obtain ⟨k,y⟩:=x
  simp only[iw,assoc]
  cases Ab k id with
  | true=>simp
  | false=>simpa using ih
theorem bpd(a b:List (Nat×AVal))(t:Nat):look (tq a b) t=(match assoc a t with | some x=>x | none=>look b t):=by
 induction a with
 | nil=>rfl
 | cons x r ih =>
  obtain ⟨k,y⟩:=x
  simp only[tq,look,assoc]
  cases Ab k t<;>simp[ih]
theorem bue(a:List (Nat×AVal))(t:Nat):look a t=(match assoc a t with | some x=>x | none=>.bot):=by
 induction a with
 | nil=>rfl
 | cons x r ih =>
  obtain ⟨k,y⟩:=x
  simp only[look,assoc]
  cases Ab k t<;>simp[ih]
def ag3(tv:Nat→Value):Nat→List (Nat×TypeId×Cont)→Nat→Option Value
 | _,[],_=>none
 | n,(t,_,_)::r,id=>bif Ab n id then some (tv t) else ag3 tv (n+1) r id
theorem aup{tv:Nat→Value}:∀(rows:List (Nat×TypeId×Cont)) (n id:Nat) (u:Value),ag3 tv n rows id=some u→n≤id∧id<n+rows.length
 | [],n,id,u,h=>by simp[ag3] at h
 | (t,e,c)::r,n,id,u,h=>by
  simp only[ag3] at h
  cases hb:Ab n id with
  | true=>have:=Aa hb;simp;omega
  | false =>
   rw[hb] at h
   have:=aup r (n+1) id u h
   simp;omega
def Slf(u:Value):Prop:=(∃A n c,u=.slice A n c)∨∃a,u=.pointer (some a)
structure Rows (E:Env) (w:World) (B0:Nat) (h:Hp) (tv:Nat→Value) (n:Nat) (rows:List (Nat×TypeId×Cont)) (fs:List (Nat×AVal)) (hs:Hp) (us:List Nat):Prop where
 slots:∀t x,assoc fs t=some x→∃id,x=.own id∧ag3 tv n rows id=some (tv t)
 blks:∀id b,assoc hs id=some b→∃e c u,b=some ⟨.row e c,false⟩∧n≤id∧ag3 tv n rows id=some u∧(∃xs,w.ownsRow B0 e c.size u c.len xs∧∀j x,xs[j]?=some x→x.oneCell'=true∧cellC E.S w c j x) ∧
  (∀k,jk u=some k→¬E.S k∧∃id0,id0∈us∧∃b0,iw h id0=some b0∧b0.frz=false∧∃u0,E.ρ id0=some u0∧jk u0=some k)
 apart:∀id id' b b' u u' k,assoc hs id=some b→assoc hs id'=some b'→id≠id'→ag3 tv n rows id=some u→ag3 tv n rows id'=some u'→jk u=some k→jk u'≠some k
 form:∀id u,ag3 tv n rows id=some u→Slf u
section
variable {D:Ctx} {B0:Nat} {w0:W0} {E:Env} {st:ASt} {act:Act} {w:World}
theorem ownsRow_nil{B0:Nat}{e:TypeId}{c:Cont}(hc:c.len=0):w.ownsRow B0 e c.size (.slice none 0 0) c.len []:=by
 refine ⟨by simp[hc],.inl ?_⟩
 simp[hc]
theorem btg(hR:Rel D B0 w0 E st act w){g:Nat→AVal}{tv:Nat→Value}(hg:∀t,ig E w (g t) (tv t)):∀(rows:List (Nat×TypeId×Cont)) (n:Nat) (fs:List (Nat×AVal)) (hs:Hp) (us:List Nat),keepR g st.h n rows=some (fs,hs,us) →
    Rows E w B0 st.h tv n rows fs hs us
 | [],n,fs,hs,us,h=>by
  simp only[keepR] at h
  cases h
  exact ⟨fun t x h=>by simp[assoc] at h,fun id b h=>by simp[assoc] at h,fun id id' b b' u u' k h=>by simp[assoc] at h,fun id u h=>by simp[ag3] at h⟩
 | (t,e,c0)::rows,n,fs,hs,us,h=>by
  simp only[keepR] at h
  split at h
  ·cases h
  ·rename_i fs1 hs1 us1 hkr
   have ih:=btg hR hg rows (n+1) _ _ _ hkr
   have htv:=hg t
   -- one more
   have build:∀(u:Value) (c:Cont) (us2:List Nat),tv t=u→(∃xs,w.ownsRow B0 e c.size u c.len xs∧∀j x,xs[j]?=some x→x.oneCell'=true∧cellC E.S w c j x)→Slf u →
       (∀id0,id0∈us1→id0∈us2)→(∀k,jk u=some k→¬E.S k∧∃id0,id0∈us2∧id0∉us1∧∃b0,iw st.h id0=some b0∧b0.frz=false∧∃u0,E.ρ id0=some u0∧jk u0=some k) →
       Rows E w B0 st.h tv n ((t,e,c0)::rows) ((t,.own n)::fs1) ((n,some ⟨.row e c,false⟩)::hs1) us2:=by
    intro u c us2 hu hrow hform hsub hor
    have rv:ag3 tv n ((t,e,c0)::rows) n=some u:=by simp[ag3,hu]
    have rv':∀id,id≠n→ag3 tv n ((t,e,c0)::rows) id=ag3 tv (n+1) rows id:=by
     intro id hid
     simp only[ag3]
     cases hb:Ab n id with
     | true=>exact absurd (Aa hb).symm hid
     | false=>rfl
    have as':∀id b,assoc ((n,some ⟨.row e c,false⟩)::hs1) id=some b→(id=n∧b=some ⟨.row e c,false⟩)∨(id≠n∧assoc hs1 id=some b):=by
     intro id b hb
     simp only[assoc] at hb
     cases hq:Ab n id with
     | true=>rw[hq] at hb;cases hb;exact .inl ⟨(Aa hq).symm,rfl⟩
     | false=>rw[hq] at hb;exact .inr ⟨fun he=>Ah hq he.symm,hb⟩
    refine ⟨fun t' x hx=>?_,fun id b hb=>?_,fun id id' b b' v v' k hb hb' hne hv hv' hk hk'=>?_,fun id v hv=>?_⟩
    ·simp only[assoc] at hx
     cases hq:Ab t t' with
     | true =>
      rw[hq] at hx
      cases hx
      have:=Aa hq
      subst this
      exact ⟨n,rfl,by rw[rv,hu]⟩
     | false =>
      rw[hq] at hx
      obtain ⟨id,h1,h2⟩:=ih.slots t' x hx
      have:=(aup _ _ _ _ h2).1
      exact ⟨id,h1,by rw[rv' id (by omega)];exact h2⟩
    ·rcases as' id b hb with ⟨rfl,rfl⟩ | ⟨hid,hb⟩
     ·exact ⟨e,c,u,rfl,Al _,rv,hrow,fun k hk=>by
        obtain ⟨h1,id0,h2,_,h3⟩:=hor k hk
        exact ⟨h1,id0,h2,h3⟩⟩
     ·obtain ⟨e1,c1,u1,h1,h2,h3,h4,h5⟩:=ih.blks id b hb
      exact ⟨e1,c1,u1,h1,by omega,by rw[rv' id hid];exact h3,h4,fun k hk=>by
       obtain ⟨h6,id0,h7,h8⟩:=h5 k hk
       exact ⟨h6,id0,hsub _ h7,h8⟩⟩
    ·have key:∀j b v' k,j≠n→assoc hs1 j=some b→ag3 tv (n+1) rows j=some v'→jk u=some k→jk v'≠some k:=by
       intro j b v' k hj hb hv' hk hk'
       obtain ⟨e1,c1,u1,h1,h2,h3,h4,h5⟩:=ih.blks j b hb
       rw[hv'] at h3
       cases h3
       obtain ⟨_,id1,g1,b1,g2,g3,u1,g4,g5⟩:=h5 k hk'
       obtain ⟨_,id0,f1,f2,b0,f3,f4,u0,f5,f6⟩:=hor k hk
       exact hR.apart id0 id1 b0 b1 u0 u1 k f3 f4 g2 g3 (by rintro rfl;exact f2 g1) f5 g4 f6 g5
     rcases as' id b hb with ⟨rfl,rfl⟩ | ⟨hid,hb1⟩
     ·rcases as' id' b' hb' with ⟨rfl,rfl⟩ | ⟨hid',hb1'⟩
      ·exact hne rfl
      ·rw[rv] at hv
       cases hv
       rw[rv' id' hid'] at hv'
       exact key id' b' v' k hid' hb1' hv' hk hk'
     ·rw[rv' id hid] at hv
      rcases as' id' b' hb' with ⟨rfl,rfl⟩ | ⟨hid',hb1'⟩
      ·rw[rv] at hv'
       cases hv'
       exact key id b v k hid hb1 hv hk' hk
      ·rw[rv' id' hid'] at hv'
       exact ih.apart id id' b b' v v' k hb1 hb1' hne hv hv' hk hk'
    ·by_cases hid:id=n
     ·subst hid
      rw[rv] at hv
      cases hv
      exact hform
     ·rw[rv' id hid] at hv
      exact ih.form id v hv
   split at h
   ·rename_i id0 hlk
    split at h
    ·rename_i e' c hb
     cases hq:Ab e e' && !bdt id0 us1 with
     | false=>rw[hq] at h;cases h
     | true =>
      rw[hq] at h
      cases h
      simp only[Ac,Ag] at hq
      have:=Aa hq.1
      subst this
      rw[hlk] at htv
      simp only[ig] at htv
      obtain ⟨u,hu,hrow,hns,_⟩:=hR.heap _ _ hb
      rw[htv] at hu
      refine build _ c (id0::us1) rfl (by cases hu;exact hrow) ((hR.heap _ _ hb).form htv) (fun _ h=>Ae _ h) (fun k hk=>⟨by cases hu;exact hns rfl k hk,id0,Aj ..,?_,_,hb,rfl,_,htv,hk⟩)
      intro hm
      rw[aes.2 hm] at hq
      cases hq.2
    ·cases h
   ·rename_i id0 len hlk
    split at h
    ·rename_i e' c hb
     cases hq:Ab e e' && !bdt id0 us1 with
     | false=>rw[hq] at h;cases h
     | true =>
      rw[hq] at h
      cases h
      simp only[Ac,Ag] at hq
      have:=Aa hq.1
      subst this
      rw[hlk] at htv
      simp only[ig] at htv
      obtain ⟨A,q,cap,hρ',hle,A',_,hA',htv⟩:=htv
      rw[show A'=A from hA' trivial,Nat.sub_zero] at htv
      obtain ⟨u,hu,⟨xs,ho,hxs⟩,hns,_⟩:=hR.heap _ _ hb
      rw[hρ'] at hu
      cases hu
      have hq':q=c.len:=by
       rcases (show _ from ho.2) with ⟨h1,h2⟩ | ⟨g,cap',cur,h1,_⟩
       ·cases h1;exact h2.symm
       ·cases h1;rfl
      obtain ⟨t1,t2,t3⟩:=Cont.ay7 (c:=c) (m:=len) (by omega)
      rw[←hq'] at ho
      have ho':=ai6 (m:=len) ho rfl (by omega)
      refine build _ (c.take len) (id0::us1) htv ⟨_,by rw[t1,t2];exact ho',fun j x hj=>?_⟩ (.inl ⟨_,_,_,rfl⟩) (fun _ h=>Ae _ h) (fun k hk=>⟨hns rfl k (by cases A<;>exact hk),id0,Aj ..,?_,_,hb,rfl,_,hρ',by cases A<;>exact hk⟩)
      ·have hlt:=(List.getElem?_eq_some_iff.1 hj).1
       rw[ho'.1] at hlt
       rw[List.getElem?_take,if_pos hlt] at hj
       exact ⟨(hxs j x hj).1,t3 _ _ _ _ hlt (hxs j x hj).2⟩
      ·intro hm
       rw[aes.2 hm] at hq
       cases hq.2
    ·cases h
   ·rename_i hlk
    cases hq:Ab c0.len 0 with
    | false=>rw[hq] at h;cases h
    | true =>
     rw[hq] at h
     cases h
     have hc0:=Aa hq
     rw[hlk] at htv
     simp only[ig] at htv
     exact build _ c0 _ htv ⟨[],ownsRow_nil hc0,fun j x h=>by simp at h⟩ (.inl ⟨_,_,_,rfl⟩) (fun _ h=>h) (fun k hk=>by simp[jk] at hk)
   ·cases h
theorem bsi{f:List (Nat×AVal)}{n:Nat}:∀(ts:List Nat) (l:List (Nat×AVal)),bxn f n ts=some l→∀t x,assoc l t=some x→x=look f t∧bnd n x=true
 | [],l,h,t,x,hx=>by simp only[bxn] at h;cases h;simp[assoc] at hx
 | a::ts,l,h,t,x,hx=>by
  simp only[bxn] at h
  cases hb:bnd n (look f a) with
  | false=>rw[hb] at h;cases h
  | true =>
   rw[hb] at h
   simp only[cond_true] at h
   split at h
   ·rename_i l' hl'
    cases h
    simp only[assoc] at hx
    cases hq:Ab a t with
    | true =>
     rw[hq] at hx
     cases hx
     have:=Aa hq
     subst this
     exact ⟨rfl,hb⟩
    | false=>rw[hq] at hx;exact bsi ts l' hl' t x hx
   ·cases h
theorem bry{h:Hp}{n:Nat}{us:List Nat}:∀(ids:List Nat) (l:Hp),bos h n us ids=some l→∀id b,assoc l id=some (some b)→iw h id=some b∧id∉us∧b8g n b.b=true∧id<n
 | [],l,hk,id,b,hx=>by simp only[bos] at hk;cases hk;simp[assoc] at hx
 | a::ids,l,hk,id,b,hx=>by
  simp only[bos] at hk
  split at hk
  ·cases hk
  ·rename_i l' hl'
   have ih:=bry ids l' hl' id b
   cases hm:bdt a us with
   | true =>
    rw[hm] at hk
    cases hk
    simp only[assoc] at hx
    cases hq:Ab a id with
    | true=>rw[hq] at hx;cases hx
    | false=>rw[hq] at hx;exact ih hx
   | false =>
    rw[hm] at hk
    simp only[cond_false] at hk
    split at hk
    ·cases hk
     simp only[assoc] at hx
     cases hq:Ab a id with
     | true=>rw[hq] at hx;cases hx
     | false=>rw[hq] at hx;exact ih hx
    ·rename_i b1 hb1
     cases hq2:b8g n b1.b&&Ai a n with
     | false=>rw[hq2] at hk;cases hk
     | true =>
      rw[hq2] at hk
      cases hk
      simp only[assoc] at hx
      cases hq:Ab a id with
      | true =>
       rw[hq] at hx
       cases hx
       have:=Aa hq
       subst this
       simp only[Ac] at hq2
       exact ⟨hb1,(fun hm'=>by rw[aes.2 hm'] at hm;cases hm),hq2.1,by simpa using hq2.2⟩
      | false=>rw[hq] at hx;exact ih hx
theorem bny{f:Nat→AVal}{h:Hp}:∀(rows:List (Nat×TypeId×Cont)) (n:Nat) (fs:List (Nat×AVal)) (hs:Hp) (us:List Nat),keepR f h n rows=some (fs,hs,us)→hs.length=rows.length
 | [],n,fs,hs,us,hk=>by simp only[keepR] at hk;cases hk;rfl
 | (t,e,c0)::rows,n,fs,hs,us,hk=>by
  simp only[keepR] at hk
  split at hk
  ·cases hk
  ·rename_i fs1 hs1 us1 h1
   have ih:=bny rows _ _ _ _ h1
   split at hk
   ·split at hk
    ·cases hq:Ab e _ && !bdt _ us1 with
     | false=>rw[hq] at hk;cases hk
     | true=>rw[hq] at hk;cases hk;simp[ih]
    ·cases hk
   ·split at hk
    ·cases hq:Ab e _ && !bdt _ us1 with
     | false=>rw[hq] at hk;cases hk
     | true=>rw[hq] at hk;cases hk;simp[ih]
    ·cases hk
   ·cases hq:Ab c0.len 0 with
    | false=>rw[hq] at hk;cases hk
    | true=>rw[hq] at hk;cases hk;simp[ih]
   ·cases hk
theorem bi7{h:Hp}{n:Nat}{us:List Nat}:∀(ids:List Nat) (l:Hp),bos h n us ids=some l→keysOf l=ids
 | [],l,hk=>by simp only[bos] at hk;cases hk;rfl
 | a::ids,l,hk=>by
  simp only[bos] at hk
  split at hk
  ·cases hk
  ·rename_i l' hl'
   have ih:=bi7 ids l' hl'
   cases hm:bdt a us with
   | true=>rw[hm] at hk;cases hk;simp[keysOf,ih]
   | false =>
    rw[hm] at hk
    simp only[cond_false] at hk
    split at hk
    ·cases hk;simp[keysOf,ih]
    ·rename_i b1 hb1
     cases hq2:b8g n b1.b&&Ai a n with
     | false=>rw[hq2] at hk;cases hk
     | true=>rw[hq2] at hk;cases hk;simp[keysOf,ih]
theorem bko{α:Type}:∀(l r:List α),bex l.length (tq l r)=r
 | [],r=>by cases r<;>rfl
 | a::l,r=>by simp only[List.length_cons,tq,bex];exact bko l r
theorem bgk(fs:List (Nat×AVal)):∀h:Hp,keysOf (bu8 fs h)=keysOf h
 | []=>rfl
 | (id,b)::r=>by simp only[bu8,keysOf,bgk fs r]
theorem bqo(fs:List (Nat×AVal))(l:List Nat)(h:Hp):keysOf (b2h fs l h)=keysOf h:=by
 unfold b2h
 split
 ·rfl
 ·exact bgk fs h
theorem bki(fs:List (Nat×AVal)):∀(n:Nat) (h:Hp),bex n (bu8 fs h)=bu8 fs (bex n h)
 | 0,h=>by cases h<;>rfl
 | n+1,[]=>rfl
 | n+1,(id,b)::r=>by simp only[bu8,bex,bki fs n r]
theorem bux(fs:List (Nat×AVal))(l:List Nat)(n:Nat)(h:Hp):bex n (b2h fs l h)=b2h fs l (bex n h):=by
 unfold b2h
 split
 ·rfl
 ·exact bki fs n h
theorem bpf{h:Hint}{n:Nat}{ids:List Nat}{st st1:ASt}(hn:norm h n ids st=some st1):st1.n-h.rows.length=n∧keysOf (bex h.rows.length st1.h)=ids:=by
 unfold norm at hn
 split at hn
 ·cases hn
 ·rename_i fs hs us hk
  split at hn
  ·rename_i f hh hf hhh
   cases hn
   refine ⟨by simp,?_⟩
   simp only
   rw[←bny _ _ _ _ _ hk,bux,bko,bqo]
   exact bi7 _ _ hhh
  ·cases hn
theorem aum(c:Cont)(y a:AVal):(a=.v (.slice none 0 0)∧c.len=0∧bo0 c y a=y)∨bo0 c y a=a:=by
 unfold bo0
 split
 ·cases hq:Ab c.len 0 with
  | false=>exact .inr rfl
  | true=>exact .inl ⟨rfl,Aa hq,rfl⟩
 ·exact .inr rfl
theorem byi{S:Nat→Prop}{w:World}{c:Cont}(hc:c.len=0):SlC S w c (.slice none 0 0) :=
 ⟨none,0,by rw[hc],by rw[hc];exact Al _,fun h=>by rw[hc] at h;cases h⟩
theorem bo3{f g:Fn}(h:bkw f g=true):f=g:=by
 unfold bkw at h
 split at h
 ·rw[Aa h]
 ·cases h
theorem bmw(f:Fn)(fa fc:List AVal)(g:Fn)(ga gc:List AVal)(a:AVal):(a=.v .nilFunc∧bfz f fa fc g ga gc a=.alt 0 f fa fc g ga gc)∨(∃x y,a=.fn f x y∧bfz f fa fc g ga gc a=.alt 1 f x y g ga gc) ∨
    (∃x y,a=.fn g x y∧bfz f fa fc g ga gc a=.alt 2 f fa fc g x y)∨bfz f fa fc g ga gc a=a:=by
 unfold bfz
 split
 ·rename_i h x y
  cases hq:bkw h f with
  | true=>rw[bo3 hq];exact .inr (.inl ⟨_,_,rfl,rfl⟩)
  | false =>
   cases hq':bkw h g with
   | true=>rw[bo3 hq'];exact .inr (.inr (.inl ⟨_,_,rfl,rfl⟩))
   | false=>exact .inr (.inr (.inr rfl))
 ·exact .inl ⟨rfl,rfl⟩
 ·exact .inr (.inr (.inr rfl))
theorem byc{E:Env}{w:World}{f:Fn}{fa fc:List AVal}{g:Fn}{ga gc:List AVal}{a:AVal}{u:Value}(h:ig E w a u):ig E w (bfz f fa fc g ga gc a) u:=by
 rcases bmw f fa fc g ga gc a with ⟨rfl,e⟩ | ⟨x,y,rfl,e⟩ | ⟨x,y,rfl,e⟩ | e
 ·rw[e];exact auj.2 (.inl ⟨rfl,by simpa only[ig] using h⟩)
 ·rw[e];exact auj.2 (.inr (.inl ⟨rfl,h⟩))
 ·rw[e];exact auj.2 (.inr (.inr ⟨rfl,h⟩))
 ·rw[e];exact h
theorem bn3{f:Fn}{fa fc:List AVal}{g:Fn}{ga gc:List AVal}{a:AVal}(ha:∀k n l,a≠.arr k n l):∀k n l,bfz f fa fc g ga gc a≠.arr k n l:=by
 intro k n l he
 rcases bmw f fa fc g ga gc a with ⟨rfl,e⟩ | ⟨x,y,rfl,e⟩ | ⟨x,y,rfl,e⟩ | e<;>rw[e] at he<;>first | (cases he;done) | exact ha _ _ _ he
mutual
theorem bh8{E:Env}{w:World}:∀(s:Sh) (a:AVal) (u:Value),ig E w a u→ig E w (arx s a) u
 | .any,a,u,h=>by simpa only[arx] using h
 | .fr e c,a,u,h=>by simpa only[arx] using h
 | .alt f fa fc g ga gc,a,u,h=>by simp only[arx];exact byc h
 | .sl c,a,u,h=>by
  simp only[arx]
  rcases aum c (.sl c) a with ⟨rfl,hc,e⟩ | e
  ·rw[e]
   simp only[ig] at h ⊢
   subst h
   exact byi hc
  ·rw[e];exact h
 | .agg ss,a,u,h=>by
  cases a with
  | agg l =>
   simp only[arx,ig] at h ⊢
   obtain ⟨cs,h1,h2⟩:=h
   exact ⟨cs,h1,att ss l cs h2⟩
  | sta l =>
   simp only[arx,ig] at h ⊢
   obtain ⟨a,cs,h1,h2,h3,h4⟩:=h
   exact ⟨a,cs,h1,h2,att ss l cs h3,h4⟩
  | fn f a c =>
   simp only[arx,ig] at h ⊢
   obtain ⟨x,y,h1,h2,h3⟩:=h
   exact ⟨x,y,h1,h2,ay9 ss c y h3⟩
  | _=>simpa only[arx] using h
theorem ay9{E:Env}{w:World}:∀(ss:List Sh) (l:List AVal) (vs:List Value),mq E w l vs→mq E w (j5 ss l) vs
 | [],[],vs,h=>by simpa only[j5] using h
 | s::ss,[],vs,h=>by simpa only[j5] using h
 | [],a::r,vs,h=>by simpa only[j5] using h
 | s::ss,a::r,vs,h=>by
  simp only[j5,mq] at h ⊢
  obtain ⟨u,us,h1,h2,h3⟩:=h
  exact ⟨u,us,h1,bh8 s a u h2,ay9 ss r us h3⟩
theorem att{E:Env}{w:World}:∀(ss:List Sh) (l:List AVal) (vs:List Value),qw E w l vs→qw E w (j5 ss l) vs
 | [],[],vs,h=>by simpa only[j5] using h
 | s::ss,[],vs,h=>by simpa only[j5] using h
 | [],a::r,vs,h=>by simpa only[j5] using h
 | s::ss,a::r,vs,h=>by
  simp only[j5]
  rcases y8 h with ⟨k,n,l,cs',rfl,h1,rfl,h3⟩ | ⟨ha,u,cs',rfl,h2,h3,h4⟩
  ·have e:arx s (.arr k n l)=.arr k n l:=by cases s<;>simp only[arx,bo0,bfz]
   rw[e]
   exact abo h1 (att ss r cs' h3)
  ·refine om (fun k n l he=>?_) h2 (bh8 s a u h3) (att ss r cs' h4)
   cases s with
   | sl c => 
    simp only[arx] at he
    rcases aum c (.sl c) a with ⟨rfl,hc,e⟩ | e
    ·rw[e] at he;cases he
    ·rw[e] at he;exact ha _ _ _ he
   | agg ss=>cases a<;>simp only[arx] at he<;>first | (cases he;done) | exact ha _ _ _ he
   | alt f fa fc g ga gc=>simp only[arx] at he;exact bn3 ha _ _ _ he
   | _=>simp only[arx] at he;exact ha _ _ _ he
end
theorem bfn(hl:Nat→Option Blk)(f:List (Nat×AVal)):∀(l:List (Nat×Sh)) (t:Nat) (x:AVal),assoc (bkg hl f l) t=some x→∃s,x=arx s (aap hl (look f t))∧∀id,id∈xg (look f t)→id∈bkk f l
 | [],t,x,h=>by simp[bkg,assoc] at h
 | (a,s)::r,t,x,h=>by
  simp only[bkg,assoc] at h
  cases hb:Ab a t with
  | true =>
   rw[hb] at h
   cases h
   have:=Aa hb
   subst this
   exact ⟨s,rfl,fun id hid=>by simp only[bkk];exact mg.2 (.inl hid)⟩
  | false =>
   rw[hb] at h
   obtain ⟨s',h1,h2⟩:=bfn hl f r t x h
   exact ⟨s',h1,fun id hid=>by simp only[bkk];exact mg.2 (.inr (h2 id hid))⟩
theorem b05(l:List (Nat×Sh))(hR:Rel D B0 w0 E st act w):∃E',E'.ρ=E.ρ∧Up E E' w w∧Rel D B0 w0 E' (axy l st) act w:=by
 unfold axy
 split
 ·exact ⟨E,rfl,Up.refl _ _,hR⟩
 ·obtain ⟨E1,hρ,up,hR1,hS,hsame⟩:=acp (hl:=iw st.h) (fun _ _ h=>h) (bkk st.f l) hR
  refine ⟨E1,hρ,up,{ hR1 with tmps:=fun t=>?_ }⟩
  show ig E1 w (look (tq (bkg (iw st.h) st.f l) st.f) t) _
  rw[bpd]
  split
  ·rename_i x hx
   obtain ⟨s,rfl,hid⟩:=bfn _ _ _ _ _ hx
   refine bh8 s _ _ ?_
   have:=aao hR (fun _ _ h=>h) (S':=E1.S) up.keeps.sub (look st.f t) (act.tmps.getD t undef) (hR.tmps t) (fun id hid' b v k hb hv hk=>hS id (hid id hid') b v k hb hv hk)
   exact vw this
  ·exact hR1.tmps t
theorem bkq{a:AVal}(h:bu2 a=true):(∃id,a=.own id)∨∃id o l,a=.win id o l:=by
 cases a<;>simp only[bu2] at h<;>first
  | exact .inl ⟨_,rfl⟩
  | exact .inr ⟨_,_,_,rfl⟩
  | cases h
theorem aus(hR:Rel D B0 w0 E st act w){E1:Env}(hρ:E1.ρ=E.ρ)(hS:∀b,E.S b→E1.S b):∀(l:List AVal) (cs:List Value),
    (∀id,id∈bbw l→∀b v k,iw st.h id=some b→E.ρ id=some v→jk v=some k→E1.S k)→qw E1 w l cs→qw E1 w (bk0 (iw st.h) l) cs
 | [],cs,_,h=>h
 | a::r,cs,hi,h=>by
  have hi2:∀id,id∈bbw r→∀b v k,iw st.h id=some b→E.ρ id=some v→jk v=some k→E1.S k:=fun id hid=>hi id (by
   simp only[bbw]
   cases bu2 a with
   | true=>exact mg.2 (.inr hid)
   | false=>exact hid)
  simp only[bk0]
  rcases y8 h with ⟨k',n,l,cs',rfl,h1,rfl,h3⟩ | ⟨ha,u,cs',rfl,h2,h3,h4⟩
  ·exact abo h1 (aus hR hρ hS r cs' hi2 h3)
  ·cases hq:bu2 a with
   | false =>
    have e:bv4 (iw st.h) a=a:=by unfold bv4;rw[hq];rfl
    rw[e]
    exact om ha h2 h3 (aus hR hρ hS r cs' hi2 h4)
   | true =>
    have e:bv4 (iw st.h) a=aap (iw st.h) a:=by unfold bv4;rw[hq];rfl
    rw[e]
    have hrel:ig E w a u:=by
     rcases bkq hq with ⟨id,rfl⟩ | ⟨id,o,l,rfl⟩
     ·simp only[ig] at h3 ⊢;rw[←hρ];exact h3
     ·simp only[ig] at h3 ⊢;rw[←hρ];exact h3
    refine om (fun k n l he=>?_) h2 (vw (aao hR (fun _ _ h=>h) (S':=E1.S) hS a u hrel (fun id hid=>hi id (by
     simp only[bbw,hq,cond_true];exact mg.2 (.inl hid))))) (aus hR hρ hS r cs' hi2 h4)
    rcases bkq hq with ⟨id,rfl⟩ | ⟨id,o,l,rfl⟩<;>(simp only[aap] at he;split at he<;>cases he)
theorem ar1(hl:Nat→Option Blk)(h:Hp):∀(ids:List Nat) (id:Nat) (x:Option Blk),assoc (ata hl h ids) id=some x→∃e l f,iw h id=some ⟨.box e l,f⟩∧x=some ⟨.box e (bk0 hl l),f⟩∧id∈ids
 | [],id,x,hx=>by simp[ata,assoc] at hx
 | a::r,id,x,hx=>by
  simp only[ata] at hx
  split at hx
  ·rename_i e l f hb
   simp only[assoc] at hx
   cases hq:Ab a id with
   | true =>
    rw[hq] at hx
    have:=Aa hq
    subst this
    cases hx
    exact ⟨e,l,f,hb,rfl,Aj ..⟩
   | false =>
    rw[hq] at hx
    obtain ⟨e',l',f',h1,h2,h3⟩:=ar1 hl h r id x hx
    exact ⟨e',l',f',h1,h2,Ae _ h3⟩
  ·obtain ⟨e',l',f',h1,h2,h3⟩:=ar1 hl h r id x hx
   exact ⟨e',l',f',h1,h2,Ae _ h3⟩
theorem bpj(h:Hp){e:TypeId}{l:List AVal}{f:Bool}{q:Nat}(hq:q∈bbw l):∀(ids:List Nat) (id:Nat),id∈ids→iw h id=some ⟨.box e l,f⟩→q∈ax9 h ids
 | a::r,id,hid,hb=>by
  simp only[ax9]
  rcases List.mem_cons.1 hid with rfl | hid
  ·rw[hb]
   exact mg.2 (.inl hq)
  ·have ih:=bpj h hq r id hid hb
   split
   ·exact mg.2 (.inr ih)
   ·exact ih
theorem bew(ids:List Nat)(hR:Rel D B0 w0 E st act w):∃E',E'.ρ=E.ρ∧Up E E' w w∧Rel D B0 w0 E' (ac2 ids st) act w:=by
 unfold ac2
 split
 ·exact ⟨E,rfl,Up.refl _ _,hR⟩
 ·obtain ⟨E1,hρ,up,hR1,hS,hsame⟩:=acp (hl:=iw st.h) (fun _ _ h=>h) (ax9 st.h ids) hR
  have key:∀id b,iw (tq (ata (iw st.h) (tq (freeze (iw st.h) (ax9 st.h ids) []) st.h) ids) (tq (freeze (iw st.h) (ax9 st.h ids) []) st.h)) id=some b →
      iw (tq (freeze (iw st.h) (ax9 st.h ids) []) st.h) id=some b∨∃e l f,iw (tq (freeze (iw st.h) (ax9 st.h ids) []) st.h) id=some ⟨.box e l,f⟩∧b=⟨.box e (bk0 (iw st.h) l),f⟩∧id∈ids:=by
   intro id b hb
   rw[afe] at hb
   split at hb
   ·rename_i x hx
    obtain ⟨e,l,f,h1,h2,h3⟩:=ar1 _ _ _ _ _ hx
    rw[h2] at hb
    cases hb
    exact .inr ⟨e,l,f,h1,rfl,h3⟩
   ·exact .inl hb
  refine ⟨E1,hρ,up,{ hR1 with heap:=fun id b hb=>?_,apart:=fun id id' b b' u u' k hb hf hb' hf' hne hu hu' hk=>?_ }⟩
  ·rcases key id b hb with h | ⟨e,l,f,h1,rfl,h3⟩
   ·exact hR1.heap id b h
   ·obtain ⟨u,hu,⟨k,cs,g1,g2,g3,g4⟩,hf1,hf2⟩:=hR1.heap id _ h1
    obtain ⟨b0,hb0,he0⟩:=hsame id _ h1
    refine ⟨u,hu,⟨k,cs,g1,g2,g3,?_⟩,hf1,hf2⟩
    refine aus hR hρ up.keeps.sub l _ (fun q hq b v k hb hv hk=>?_) g4
    obtain ⟨bb,ff⟩:=b0
    simp only at he0
    subst he0
    exact hS q (bpj st.h hq _ id h3 hb0) b v k hb hv hk
  ·have g:∀id b,iw (tq (ata (iw st.h) (tq (freeze (iw st.h) (ax9 st.h ids) []) st.h) ids) (tq (freeze (iw st.h) (ax9 st.h ids) []) st.h)) id=some b→b.frz=false →
       ∃c,iw (tq (freeze (iw st.h) (ax9 st.h ids) []) st.h) id=some c∧c.frz=false:=by
     intro id b hb hf
     rcases key id b hb with h | ⟨e,l,f,h1,rfl,h3⟩
     ·exact ⟨b,h,hf⟩
     ·exact ⟨_,h1,hf⟩
   obtain ⟨c,hc,hcf⟩:=g id b hb hf
   obtain ⟨c',hc',hcf'⟩:=g id' b' hb' hf'
   exact hR1.apart id id' c c' u u' k hc hcf hc' hcf' hne hu hu' hk
theorem bmq(h:Hp):∀(ids:List (Nat×List Sh)) (id:Nat) (x:Option Blk),assoc (coB h ids) id=some x→∃e l f s,iw h id=some ⟨.box e l,f⟩∧x=some ⟨.box e (j5 s l),f⟩
 | [],id,x,hx=>by simp[coB,assoc] at hx
 | (a,s)::r,id,x,hx=>by
  simp only[coB] at hx
  split at hx
  ·rename_i e l f hb
   simp only[assoc] at hx
   cases hq:Ab a id with
   | true =>
    rw[hq] at hx
    have:=Aa hq
    subst this
    cases hx
    exact ⟨e,l,f,s,hb,rfl⟩
   | false =>
    rw[hq] at hx
    exact bmq h r id x hx
  ·exact bmq h r id x hx
theorem byz(ids:List (Nat×List Sh))(hR:Rel D B0 w0 E st act w):Rel D B0 w0 E (b06 ids st) act w:=by
 unfold b06
 split
 ·exact hR
 ·have key:∀id b,iw (tq (coB st.h ids) st.h) id=some b→iw st.h id=some b∨∃e l f s,iw st.h id=some ⟨.box e l,f⟩∧b=⟨.box e (j5 s l),f⟩:=by
    intro id b hb
    rw[afe] at hb
    split at hb
    ·rename_i x hx
     obtain ⟨e,l,f,s,h1,h2⟩:=bmq _ _ _ _ hx
     rw[h2] at hb
     cases hb
     exact .inr ⟨e,l,f,s,h1,rfl⟩
    ·exact .inl hb
  refine { hR with heap:=fun id b hb=>?_,apart:=fun id id' b b' u u' k hb hf hb' hf' hne hu hu' hk=>?_ }
  ·rcases key id b hb with h | ⟨e,l,f,s,h1,rfl⟩
   ·exact hR.heap id b h
   ·obtain ⟨u,hu,⟨k,cs,g1,g2,g3,g4⟩,hf1,hf2⟩:=hR.heap id _ h1
    exact ⟨u,hu,⟨k,cs,g1,g2,g3,att _ _ _ g4⟩,hf1,hf2⟩
  ·have g:∀id b,iw (tq (coB st.h ids) st.h) id=some b→b.frz=false→∃c,iw st.h id=some c∧c.frz=false:=by
     intro id b hb hf
     rcases key id b hb with h | ⟨e,l,f,s,h1,rfl⟩
     ·exact ⟨b,h,hf⟩
     ·exact ⟨_,h1,hf⟩
   obtain ⟨c,hc,hcf⟩:=g id b hb hf
   obtain ⟨c',hc',hcf'⟩:=g id' b' hb' hf'
   exact hR.apart id id' c c' u u' k hc hcf hc' hcf' hne hu hu' hk
theorem bnt(id:Nat)(l:List AVal):∀(f:List (Nat×AVal)) (t:Nat),look (b74 id l f) t=cl1 id l (look f t)
 | [],t=>rfl
 | (k,a)::r,t=>by
  simp only[b74,look]
  cases Ab k t with
  | true=>rfl
  | false=>exact bnt id l r t
theorem bwo(id:Nat)(hR:Rel D B0 w0 E st act w):(bb7 id st).m=st.m∧(bb7 id st).n=st.n∧∃E',E'.ρ=E.ρ∧Up E E' w w∧Rel D B0 w0 E' (bb7 id st) act w:=by
 unfold bb7
 split
 ·rename_i e l f hb
  cases hc:ax3 0 l with
  | false=>exact ⟨rfl,rfl,E,rfl,Up.refl _ _,hR⟩
  | true =>
   obtain ⟨E1,hρ,up,hR1,hS,hsame⟩:=acp (hl:=iw st.h) (fun _ _ h=>h) [id] hR
   refine ⟨rfl,rfl,E1,hρ,up,{ hR1 with tmps:=fun t=>?_ }⟩
   show ig E1 w (look (b74 id l st.f) t) _
   rw[bnt]
   have h0:ig E1 w (look st.f t) (act.tmps.getD t undef):=hR1.tmps t
   revert h0
   generalize look st.f t=a
   generalize act.tmps.getD t undef=u
   intro h0
   unfold cl1
   split
   ·rename_i j
    cases hq:Ab id j with
    | false=>exact h0
    | true =>
     have:=Aa hq
     subst this
     have hf:iw (tq (freeze (iw st.h) [id] []) st.h) id=some ⟨.box e l,true⟩:=by
      simp only[freeze,hb,tq,iw,Nat.beq_refl,cond_true]
     obtain ⟨v,hv,⟨k,cs,rfl,g2,g3,g4⟩,hf1,hf2⟩:=hR1.heap id _ hf
     simp only[ig] at h0
     obtain ⟨b,h1,rfl⟩:=h0
     rw[hv] at h1
     cases h1
     simp only[cond_true,ig]
     refine ⟨⟨k,0,none⟩,cs.toList,rfl,hf2 rfl k rfl,g4,fun j hj=>?_⟩
     rw[y5,Nat.zero_add]
     simp only[World.cell?,g3]
     simp
   ·exact h0
 ·exact ⟨rfl,rfl,E,rfl,Up.refl _ _,hR⟩
theorem bod:∀(ids:List Nat) {E:Env} {st:ASt},Rel D B0 w0 E st act w→(bhv ids st).m=st.m∧(bhv ids st).n=st.n∧∃E',E'.ρ=E.ρ∧Up E E' w w∧Rel D B0 w0 E' (bhv ids st) act w
 | [],E,st,hR=>⟨rfl,rfl,E,rfl,Up.refl _ _,hR⟩
 | id::r,E,st,hR=>by
  obtain ⟨m1,n1,E1,h1,h2,h3⟩:=bwo id hR
  obtain ⟨m2,n2,E2,k1,k2,k3⟩:=bod r h3
  exact ⟨m2.trans m1,n2.trans n1,E2,k1.trans h1,h2.trans k2,k3⟩
theorem bvl(ops:List Oper)(hR:Rel D B0 w0 E st act w):∃E',E'.ρ=E.ρ∧Up E E' w w∧Rel D B0 w0 E' (b4e D ops st) act w:=by
 unfold b4e
 cases D.sta with
 | false=>exact ⟨E,rfl,Up.refl _ _,hR⟩
 | true =>
  obtain ⟨E1,h1,h2,h3⟩:=bew (ayn D (b5g st.f ops) ops) hR
  obtain ⟨_,_,E2,k1,k2,k3⟩:=bod (ayn D (b5g st.f ops) ops) h3
  exact ⟨E2,k1.trans h1,h2.trans k2,k3⟩
theorem bo6(id:Nat)(st:ASt):(bb7 id st).m=st.m∧(bb7 id st).n=st.n:=by
 unfold bb7
 split
 ·rename_i e l f hb
  cases hc:ax3 0 l<;>exact ⟨rfl,rfl⟩
 ·exact ⟨rfl,rfl⟩
theorem ayv:∀(ids:List Nat) (st:ASt),(bhv ids st).m=st.m∧(bhv ids st).n=st.n
 | [],st=>⟨rfl,rfl⟩
 | id::r,st=>⟨(ayv r _).1.trans (bo6 id st).1,(ayv r _).2.trans (bo6 id st).2⟩
theorem bmv(D:Ctx)(ops:List Oper)(st:ASt):(b4e D ops st).m=st.m∧(b4e D ops st).n=st.n:=by
 have e:∀ids,(ac2 ids st).m=st.m∧(ac2 ids st).n=st.n:=fun ids=>by unfold ac2;split<;>exact ⟨rfl,rfl⟩
 unfold b4e
 cases D.sta with
 | false=>exact ⟨rfl,rfl⟩
 | true=>exact ⟨(ayv _ _).1.trans (e _).1,(ayv _ _).2.trans (e _).2⟩
theorem bdy(h:Hp):∀(l:List Nat) (id:Nat) (x:Option Blk),assoc (clr h l) id=some x→∃e a f,iw h id=some ⟨.box e [a],f⟩∧(∀k n l,a≠.arr k n l)∧x=some ⟨.box e [.bot],f⟩
 | [],id,x,hx=>by simp[clr,assoc] at hx
 | b::r,id,x,hx=>by
  simp only[clr] at hx
  split at hx
  ·rename_i e j f hb
   simp only[assoc] at hx
   cases hq:Ab b id with
   | true =>
    rw[hq] at hx
    have:=Aa hq
    subst this
    cases hx
    exact ⟨e,_,f,hb,(fun k n l h=>by cases h),rfl⟩
   | false=>rw[hq] at hx;exact bdy h r id x hx
  ·rename_i e f hb
   simp only[assoc] at hx
   cases hq:Ab b id with
   | true =>
    rw[hq] at hx
    have:=Aa hq
    subst this
    cases hx
    exact ⟨e,_,f,hb,(fun k n l h=>by cases h),rfl⟩
   | false=>rw[hq] at hx;exact bdy h r id x hx
  ·exact bdy h r id x hx
theorem bz3{E:Env}{w:World}{a:AVal}(ha:∀k n l,a≠.arr k n l){vs:List Value}(h:qw E w [a] vs):qw E w [.bot] vs:=by
 rcases y8 h with ⟨k,n,l,cs',rfl,h1,rfl,h3⟩ | ⟨_,u,cs',rfl,h2,h3,h4⟩
 ·exact absurd rfl (ha _ _ _)
 ·exact om (fun k n l he=>by cases he) h2 (by simp only[ig]) h4
theorem b09(l:List Nat)(hR:Rel D B0 w0 E st act w):Rel D B0 w0 E { st with h:=b73 st.h l } act w:=by
 unfold b73
 split
 ·exact hR
 ·have key:∀id b,iw (tq (clr st.h l) st.h) id=some b→iw st.h id=some b∨∃e a f,iw st.h id=some ⟨.box e [a],f⟩∧(∀k n l,a≠.arr k n l)∧b=⟨.box e [.bot],f⟩:=by
    intro id b hb
    rw[afe] at hb
    split at hb
    ·rename_i x hx
     obtain ⟨e,a,f,h1,h2,h3⟩:=bdy _ _ _ _ hx
     rw[h3] at hb
     cases hb
     exact .inr ⟨e,a,f,h1,h2,rfl⟩
    ·exact .inl hb
  refine { hR with heap:=fun id b hb=>?_,apart:=fun id id' b b' u u' k hb hf hb' hf' hne hu hu' hk=>?_ }
  ·rcases key id b hb with h | ⟨e,a,f,h1,h2,rfl⟩
   ·exact hR.heap id b h
   ·obtain ⟨u,hu,⟨k,cs,g1,g2,g3,g4⟩,hf1,hf2⟩:=hR.heap id _ h1
    exact ⟨u,hu,⟨k,cs,g1,g2,g3,bz3 h2 g4⟩,hf1,hf2⟩
  ·have g:∀id b,iw (tq (clr st.h l) st.h) id=some b→b.frz=false→∃c,iw st.h id=some c∧c.frz=false:=by
     intro id b hb hf
     rcases key id b hb with h | ⟨e,a,f,h1,h2,rfl⟩
     ·exact ⟨b,h,hf⟩
     ·exact ⟨_,h1,hf⟩
   obtain ⟨c,hc,hcf⟩:=g id b hb hf
   obtain ⟨c',hc',hcf'⟩:=g id' b' hb' hf'
   exact hR.apart id id' c c' u u' k hc hcf hc' hcf' hne hu hu' hk
def b3u(E:Env)(w:World)(b:Nat):Value:=match E.ρ b with
 | some (.pointer (some a))=>match w.heap[a.block]? with
  | some (.cells cs _ _)=>match cs.toList with
   | v::_=>v
   | []=>undef
  | _=>undef
 | _=>undef
def b0k(E:Env)(w:World)(act:Act)(t:Nat):Value:=bif Ai t 1000000 then act.tmps.getD t undef else b3u E w (t-1000000)
theorem bx5{id k:Nat}{cs:Array Value}{e:TypeId}{v:Value}{r:List Value}(hu:E.ρ id=some (.pointer (some ⟨k,0,none⟩)))(hc:w.heap[k]?=some (.cells cs e (0,0)))(hv:cs.toList=v::r):b3u E w id=v:=by
 unfold b3u
 rw[hu]
 simp only[hc,hv]
theorem bvb{a:AVal}{e:TypeId}{f:Bool}{b:Nat}(ha:∀k n l,a≠.arr k n l)(hR:Rel D B0 w0 E st act w)(hb:iw st.h b=some ⟨.box e [a],f⟩):ig E w a (b3u E w b):=by
 obtain ⟨u,hu,⟨k,cs,g1,g2,g3,g4⟩,hf1,hf2⟩:=hR.heap b _ hb
 rcases y8 g4 with ⟨k,n,l,cs',h0,h1,h2,h3⟩ | ⟨_,v,cs',hcs,h2,h3,h4⟩
 ·exact absurd h0 (ha _ _ _)
 ·rw[bx5 (by rw[hu,g1]) g3 hcs]
  exact h3
theorem buh(hR:Rel D B0 w0 E st act w)(t:Nat):ig E w (bw3 st t) (b0k E w act t):=by
 unfold bw3 b0k
 cases Ai t 1000000 with
 | true=>exact hR.tmps t
 | false =>
  simp only[cond_false]
  unfold byh
  split
  ·rename_i hb
   exact bvb (fun k n l h=>by cases h) hR hb
  ·rename_i hb
   exact bvb (fun k n l h=>by cases h) hR hb
  ·simp only[ig]
theorem amj:∀(fs:List (Nat×AVal)) (t:Nat) (x:AVal),assoc (slotsOf fs) t=some x→Ai t 1000000=true∧assoc fs t=some x
 | [],t,x,h=>by simp[slotsOf,assoc] at h
 | (a,y)::r,t,x,h=>by
  simp only[slotsOf] at h
  simp only[assoc]
  cases hq:Ab a t with
  | true =>
   have:=Aa hq
   subst this
   cases hb:Ai a 1000000 with
   | true=>rw[hb] at h;simp only[cond_true,assoc,hq] at h;exact ⟨rfl,h⟩
   | false =>
    rw[hb] at h
    obtain ⟨h1,_⟩:=amj r a x h
    rw[hb] at h1
    cases h1
  | false =>
   cases hb:Ai a 1000000 with
   | true=>rw[hb] at h;simp only[cond_true,assoc,hq] at h;exact amj r t x h
   | false=>rw[hb] at h;exact amj r t x h
theorem boq(fs:List (Nat×AVal)):∀(h:Hp) (id:Nat) (b:Blk),iw (bu8 fs h) id=some b→∃b0,iw h id=some b0∧cbs fs id (some b0)=some b
 | [],id,b,h=>by simp[bu8,iw] at h
 | (a,y)::r,id,b,h=>by
  simp only[bu8,iw] at h ⊢
  cases hq:Ab a id with
  | true =>
   rw[hq] at h
   have:=Aa hq
   subst this
   cases y with
   | none=>simp[cbs] at h
   | some b0=>exact ⟨b0,rfl,h⟩
  | false=>rw[hq] at h;exact boq fs r id b h
theorem b0n{fs:List (Nat×AVal)}(l:List Nat)(hR:Rel D B0 w0 E st act w)(hfs:∀id x,assoc fs (id+1000000)=some x→∀e f,iw st.h id=some ⟨.box e [.bot],f⟩→∃j,x=.own j∧E.ρ j=some (b3u E w id)) :
    Rel D B0 w0 E { st with h:=b2h fs l st.h } act w:=by
 unfold b2h
 split
 ·exact hR
 ·have key:∀id b,iw (bu8 fs st.h) id=some b→iw st.h id=some b∨∃e f x,iw st.h id=some ⟨.box e [.bot],f⟩∧assoc fs (id+1000000)=some x∧b=⟨.box e [x],f⟩:=by
    intro id b hb
    obtain ⟨b0,h1,h2⟩:=boq _ _ _ _ hb
    unfold cbs at h2
    split at h2
    ·rename_i e f he
     cases he
     split at h2
     ·rename_i x hx
      cases h2
      exact .inr ⟨_,_,x,h1,hx,rfl⟩
     ·cases h2
      exact .inl h1
    ·cases h2
     exact .inl h1
  refine { hR with heap:=fun id b hb=>?_,apart:=fun id id' b b' u u' k hb hf hb' hf' hne hu hu' hk=>?_ }
  ·rcases key id b hb with h | ⟨e,f,x,h1,h2,rfl⟩
   ·exact hR.heap id b h
   ·obtain ⟨j,rfl,hj⟩:=hfs id x h2 e f h1
    obtain ⟨u,hu,⟨k,cs,g1,g2,g3,g4⟩,hf1,hf2⟩:=hR.heap id _ h1
    refine ⟨u,hu,⟨k,cs,g1,g2,g3,?_⟩,hf1,hf2⟩
    rcases y8 g4 with ⟨k,n,l,cs',h0,_,_,_⟩ | ⟨_,v,cs',hcs,h2,h3,h4⟩
    ·cases h0
    ·rw[bx5 (by rw[hu,g1]) g3 hcs] at hj
     rw[hcs]
     exact om (fun k n l he=>by cases he) h2 (by simp only[ig];exact hj) h4
  ·have g:∀id b,iw (bu8 fs st.h) id=some b→b.frz=false→∃c,iw st.h id=some c∧c.frz=false:=by
     intro id b hb hf
     rcases key id b hb with h | ⟨e,f,x,h1,h2,rfl⟩
     ·exact ⟨b,h,hf⟩
     ·exact ⟨_,h1,hf⟩
   obtain ⟨c,hc,hcf⟩:=g id b hb hf
   obtain ⟨c',hc',hcf'⟩:=g id' b' hb' hf'
   exact hR.apart id id' c c' u u' k hc hcf hc' hcf' hne hu hu' hk
theorem b3p(hG2:qg D){h:Hint}{n:Nat}{ids:List Nat}{st1:ASt}(hn:norm h n ids st=some st1) :
    st1.m=st.m∧n≤st1.n∧∀(B0:Nat) (w0:W0) E act w,Rel D B0 w0 E st act w→∃E',E'.S=E.S∧(∀id,id<n→E'.ρ id=E.ρ id)∧Rel D B0 w0 E' st1 act w∧Dom E' st1.n:=by
 unfold norm at hn
 split at hn
 ·cases hn
 ·rename_i fs hs us hk
  split at hn
  ·rename_i f hh hf hhh
   cases hn
   refine ⟨rfl,by simp,fun B0 w0 E act w hR=>?_⟩
   have hsrc:=buh hR
   have hR0:=hR
   replace hR:=b09 (b41 h.rows) hR
   have hrows:=btg hR hsrc _ _ _ _ _ hk
   simp only at hrows
   have hfs:=bsi _ _ hf
   have hhs:=bry _ _ hhh
   let E':Env:=⟨E.S,fun id=>if id<n then E.ρ id else ag3 (b0k E w act) n h.rows id⟩
   have hlow:∀id,id<n→E'.ρ id=E.ρ id:=fun id hid=>by simp only[E',if_pos hid]
   have hhigh:∀id u,ag3 (b0k E w act) n h.rows id=some u→E'.ρ id=some u:=fun id u hu=>by
    have:=(aup _ _ _ _ hu).1
    simp only[E',if_neg (show ¬id<n by omega)]
    exact hu
   have hheap:∀id b,iw (tq hs hh) id=some b→(∃u,assoc hs id=some (some b)∧n≤id∧ag3 (b0k E w act) n h.rows id=some u)∨(id<n∧iw (b73 st.h (b41 h.rows)) id=some b∧id∉us∧b8g n b.b=true):=by
    intro id b hb
    rw[afe] at hb
    split at hb
    ·rename_i b' hb'
     subst hb
     obtain ⟨e,c,u,h1,h2,h3,_⟩:=hrows.blks id _ hb'
     exact .inl ⟨u,hb',h2,h3⟩
    ·rw[brv] at hb
     obtain ⟨h1,h2,h3,h4⟩:=hhs id b hb
     exact .inr ⟨h4,h1,h2,h3⟩
   refine ⟨E',rfl,hlow,b0n (st:={ f:=tq (slotsOf fs) f,h:=tq hs hh,n:=n+h.rows.length,m:=st.m }) _ ?_ (fun id x hx e fz hb=>?_),fun id u hu=>?_⟩
   ·refine ⟨hR.below,hR.base,hR.size,hR.idle,hR.marks.keeps (E':=E') (Keeps.refl E.S w),hR.recs.keeps (E':=E') (Keeps.refl E.S w),fun t=>?_,fun id b hb=>?_,fun id id' b b' u u' k hb hfr hb' hfr' hne hu hu' hk1 hk2=>?_,hR.sOld,hR.sNew,fun id u hu=>?_,fun g l hg=>?_⟩
    ·show ig E' w (look (tq (slotsOf fs) f) t) _
     rw[bpd]
     split
     ·rename_i x hx
      obtain ⟨ht,hx⟩:=amj _ _ _ hx
      obtain ⟨id,rfl,hv⟩:=hrows.slots t x hx
      simp only[ig]
      have e0:b0k E w act t=act.tmps.getD t undef:=by unfold b0k;rw[ht];rfl
      rw[e0] at hv
      exact hhigh id _ hv
     ·rw[bue]
      split
      ·rename_i x hx
       obtain ⟨rfl,hb⟩:=hfs t x hx
       exact bd0 (E:=E) (E':=E') rfl hlow _ _ hb (hR.tmps t)
      ·simp only[ig]
    ·rcases hheap id b hb with ⟨u,h1,h2,h3⟩ | ⟨h1,h2,h3,h4⟩
     ·obtain ⟨e,c,u',g1,g2,g3,g4,g5⟩:=hrows.blks id _ h1
      cases g1
      rw[h3] at g3
      cases g3
      exact ⟨u,hhigh id u h3,g4,fun _ k hk=>(g5 k hk).1,fun hf=>by cases hf⟩
     ·obtain ⟨u,hu,hbb,hf1,hf2⟩:=hR.heap id b h2
      refine ⟨u,by rw[hlow id h1];exact hu,?_,hf1,hf2⟩
      cases hbk:b.b with
      | row e c=>rw[hbk] at hbb;exact hbb
      | box e l =>
       rw[hbk] at hbb h4
       obtain ⟨k,cs,g1,g2,g3,g4⟩:=hbb
       exact ⟨k,cs,g1,g2,g3,amu (E:=E) (E':=E') rfl hlow _ _ h4 g4⟩
    ·rcases hheap id b hb with ⟨v,h1,h2,h3⟩ | ⟨h1,h2,h3,h4⟩
     ·have e1:=hhigh id v h3
      rw[hu] at e1
      cases e1
      rcases hheap id' b' hb' with ⟨v',h1',h2',h3'⟩ | ⟨h1',h2',h3',h4'⟩
      ·have e2:=hhigh id' v' h3'
       rw[hu'] at e2
       cases e2
       exact hrows.apart id id' _ _ u u' k h1 h1' hne h3 h3' hk1 hk2
      ·rw[hlow id' h1'] at hu'
       obtain ⟨e,c,u2,g1,g2,g3,g4,g5⟩:=hrows.blks id _ h1
       rw[h3] at g3
       cases g3
       obtain ⟨_,id0,f1,b0,f2,f3,u0,f4,f5⟩:=g5 k hk1
       exact hR.apart id0 id' b0 b' u0 u' k f2 f3 h2' hfr' (by rintro rfl;exact h3' f1) f4 hu' f5 hk2
     ·rw[hlow id h1] at hu
      rcases hheap id' b' hb' with ⟨v',h1',h2',h3'⟩ | ⟨h1',h2',h3',h4'⟩
      ·have e2:=hhigh id' v' h3'
       rw[hu'] at e2
       cases e2
       obtain ⟨e,c,u2,g1,g2,g3,g4,g5⟩:=hrows.blks id' _ h1'
       rw[h3'] at g3
       cases g3
       obtain ⟨_,id0,f1,b0,f2,f3,u0,f4,f5⟩:=g5 k hk2
       exact hR.apart id id0 b b0 u u0 k h2 hfr f2 f3 (by rintro rfl;exact h3 f1) hu f4 hk1 f5
      ·rw[hlow id' h1'] at hu'
       exact hR.apart id id' b b' u u' k h2 hfr h2' hfr' hne hu hu' hk1 hk2
    ·simp only[E'] at hu
     split at hu
     ·exact hR.form id u hu
     ·exact .inl (hrows.form id u hu)
    ·obtain ⟨h1,cs,e,fz,h2,h3⟩:=hR.globs g l hg
     exact ⟨h1,cs,e,fz,h2,hG2 g l hg E E' w _ h3 rfl⟩
   ·obtain ⟨j,rfl,hv⟩:=hrows.slots _ x hx
    refine ⟨j,rfl,?_⟩
    have e0:b0k E w act (id+1000000)=b3u E w id:=by
     unfold b0k
     rw[show Ai (id+1000000) 1000000=false by rw[←Bool.not_eq_true,Nat.blt_eq];omega,Nat.add_sub_cancel]
     rfl
    rw[e0] at hv
    have hid:E'.ρ id=E.ρ id:=by
     rcases hheap id _ hb with ⟨u,h1,h2,h3⟩ | ⟨h1,_⟩
     ·obtain ⟨e',c,u',g1,_⟩:=hrows.blks id _ h1
      cases g1
     ·exact hlow id h1
    rw[hhigh j _ hv]
    unfold b3u
    rw[hid]
   ·simp only[E'] at hu
    split at hu
    ·simp;omega
    ·have:=(aup _ _ _ _ hu).2
     simpa using this
  ·cases hn
theorem bvf{id:Nat}{e:TypeId}{l l':List AVal}{f:Bool}(hb:iw st.h id=some ⟨.box e l,f⟩)(hR:Rel D B0 w0 E st act w)(hF:∀cs,qw E w l cs→qw E w l' cs) :
    Rel D B0 w0 E { st with h:=(id,some ⟨.box e l',f⟩)::st.h } act w:=by
 have key:∀i b,iw ((id,some ⟨.box e l',f⟩)::st.h) i=some b→(i=id∧b=⟨.box e l',f⟩)∨iw st.h i=some b:=by
  intro i b hi
  by_cases h:i=id
  ·subst h;rw[yt] at hi;cases hi;exact .inl ⟨rfl,rfl⟩
  ·rw[vo h] at hi;exact .inr hi
 refine { hR with heap:=fun i b hi=>?_,apart:=fun i i' b b' u u' k hi hf hi' hf' hne hu hu' hk=>?_ }
 ·rcases key i b hi with ⟨rfl,rfl⟩ | h
  ·obtain ⟨u,hu,⟨k,cs,g1,g2,g3,g4⟩,hf1,hf2⟩:=hR.heap _ _ hb
   exact ⟨u,hu,⟨k,cs,g1,g2,g3,hF _ g4⟩,hf1,hf2⟩
  ·exact hR.heap i b h
 ·have g:∀i b,iw ((id,some ⟨.box e l',f⟩)::st.h) i=some b→b.frz=false→∃c,iw st.h i=some c∧c.frz=false:=by
    intro i b hi hf
    rcases key i b hi with ⟨rfl,rfl⟩ | h
    ·exact ⟨_,hb,hf⟩
    ·exact ⟨b,h,hf⟩
  obtain ⟨c,hc,hcf⟩:=g i b hi hf
  obtain ⟨c',hc',hcf'⟩:=g i' b' hi' hf'
  exact hR.apart i i' c c' u u' k hc hcf hc' hcf' hne hu hu' hk
theorem bmo(ids:List Nat)(st:ASt):(ac2 ids st).m=st.m:=by unfold ac2;split<;>rfl
theorem b3z(id:Nat)(d:List AVal)(st:ASt):(bxt id d st).m=st.m:=by
 unfold bxt
 split
 ·rfl
 ·rename_i j _ _
  split
  ·rename_i e j' f e' l f' _ _
   cases hq:Ab j' j&&ax3 0 l && !Nat.beq id j with
   | false=>simp only[cond_false];exact bmo _ _
   | true=>simp only[cond_true];exact bmo _ _
  ·exact bmo _ _
 ·rfl
theorem bwm:∀(l:List (Nat×List AVal)) (st:ASt),(bx4 l st).m=st.m
 | [],st=>rfl
 | (id,d)::r,st=>by rw[bx4,bwm r,b3z]
theorem bze(id:Nat)(d:List AVal)(hR:Rel D B0 w0 E st act w):∃E',E'.ρ=E.ρ∧Up E E' w w∧Rel D B0 w0 E' (bxt id d st) act w:=by
 unfold bxt
 split
 ·rename_i e f hb
  refine ⟨E,rfl,Up.refl _ _,bvf hb hR (fun cs h=>?_)⟩
  simp only[qw,ig] at h ⊢
  obtain ⟨u,cs',rfl,h1,rfl,h3⟩:=h
  exact ⟨_,cs',rfl,h1,.inl ⟨trivial,rfl⟩,h3⟩
 ·rename_i j _ _
  obtain ⟨E1,hρ1,up1,hR1⟩:=bew [j] hR
  split
  ·rename_i e j' f e' l f' hb hj
   cases hq:Ab j' j&&ax3 0 l && !Nat.beq id j with
   | false=>simp only[cond_false];exact ⟨E1,hρ1,up1,hR1⟩
   | true =>
    simp only[cond_true]
    simp only[Ac,Ag] at hq
    have:=Aa hq.1.1
    subst this
    have hne:id≠j':=Ah hq.2
    obtain ⟨E2,hρ2,up2,hR2,hS,hsame⟩:=acp (hl:=iw (ac2 [j'] st).h) (fun _ _ h=>h) [j'] hR1
    have hf:iw (tq (freeze (iw (ac2 [j'] st).h) [j'] []) (ac2 [j'] st).h) j'=some ⟨.box e' l,true⟩:=by
     simp only[freeze,hj,tq,iw,Nat.beq_refl,cond_true]
    have hb2:iw (tq (freeze (iw (ac2 [j'] st).h) [j'] []) (ac2 [j'] st).h) id=some ⟨.box e [.ptr j' 0],f⟩:=by
     simp only[freeze,hj,tq,iw]
     cases he:Ab j' id with
     | true=>exact absurd (Aa he).symm hne
     | false=>exact hb
    refine ⟨E2,by rw[hρ2,hρ1],up1.trans up2,bvf (st:={ ac2 [j'] st with h:=tq (freeze (iw (ac2 [j'] st).h) [j'] []) (ac2 [j'] st).h }) hb2 hR2 (fun cs h=>?_)⟩
    obtain ⟨v,hv,⟨k,cs0,rfl,g2,g3,g4⟩,hf1,hf2⟩:=hR2.heap j' _ hf
    simp only[qw,ig] at h ⊢
    obtain ⟨u,cs',rfl,h1,⟨b,h4,rfl⟩,h3⟩:=h
    rw[hv] at h4
    cases h4
    refine ⟨_,cs',rfl,h1,.inr ⟨trivial,⟨k,0,none⟩,cs0.toList,rfl,hf2 rfl k rfl,g4,fun q hq=>?_⟩,h3⟩
    rw[y5,Nat.zero_add]
    simp only[World.cell?,g3]
    simp
  ·exact ⟨E1,hρ1,up1,hR1⟩
 ·exact ⟨E,rfl,Up.refl _ _,hR⟩
theorem br4:∀(l:List (Nat×List AVal)) {E:Env} {st:ASt},Rel D B0 w0 E st act w→∃E',E'.ρ=E.ρ∧Up E E' w w∧Rel D B0 w0 E' (bx4 l st) act w
 | [],E,st,hR=>⟨E,rfl,Up.refl _ _,hR⟩
 | (id,d)::r,E,st,hR=>by
  obtain ⟨E1,h1,h2,h3⟩:=bze id d hR
  obtain ⟨E2,k1,k2,k3⟩:=br4 r h3
  exact ⟨E2,k1.trans h1,h2.trans k2,k3⟩
theorem bma(hG2:qg D){h:Hint}{n:Nat}{ids:List Nat}{st1:ASt}(hn:norm h n ids (bcx h st)=some st1) :
    st1.m=st.m∧n≤st1.n∧∀(B0:Nat) (w0:W0) E act w,Rel D B0 w0 E st act w→∃E',(∀b,E.S b→E'.S b)∧(∀id,id<n→E'.ρ id=E.ρ id)∧Rel D B0 w0 E' st1 act w∧Dom E' st1.n:=by
 obtain ⟨h1,h2,h3⟩:=b3p (st:=bcx h st) hG2 hn
 have hm:(bcx h st).m=st.m:=by
  have e:(axy h.sls st).m=st.m:=by unfold axy;split<;>rfl
  have e2:(ac2 h.shb (axy h.sls st)).m=(axy h.sls st).m:=by unfold ac2;split<;>rfl
  rw[←e,←e2]
  unfold bcx
  rw[bwm]
  unfold b06
  split<;>rfl
 refine ⟨by rw[h1,hm],h2,fun B0 w0 E act w hR=>?_⟩
 obtain ⟨E0,i1,i2,i3⟩:=b05 h.sls hR
 obtain ⟨E1,k1,k2,k3⟩:=bew h.shb i3
 replace k3:=byz h.shc k3
 obtain ⟨E3,o1,o2,o3⟩:=br4 h.osb k3
 obtain ⟨E2,j1,j2,j3,j4⟩:=h3 B0 w0 E3 act w o3
 exact ⟨E2,fun b hb=>by rw[j1];exact o2.keeps.sub b (k2.keeps.sub b (i2.keeps.sub b hb)),fun id hid=>by rw[j2 id hid,o1,k1,i1],j3,j4⟩
end
end Go.Abs
end

section
namespace Go.Abs
open Go Go.RowKit
structure Turn (w w':World):Prop where
 cell:∀a,w'.cell? a=w.cell? a
 blk:∀(k:Nat) cs e f,w.heap[k]?=some (Obj.cells cs e f)→w'.heap[k]?=some (Obj.cells cs e f)
theorem Turn.refl(w:World):Turn w w:=⟨fun _=>rfl,fun _ _ _ _ h=>h⟩
theorem Turn.trans{w w' w'':World}(h:Turn w w')(k:Turn w' w''):Turn w w'' :=
 ⟨fun a=>(k.cell a).trans (h.cell a),fun b cs e f hb=>k.blk b cs e f (h.blk b cs e f hb)⟩
theorem apg{w:World}{l:Nat}{o o':Obj}(h:w.heap[l]?=some o)(hc:∀cs e f,o≠Obj.cells cs e f)(hc':∀cs e f,o'≠Obj.cells cs e f):Turn w (w.putObj l o'):=by
 have hlt:l<w.heap.size:=(Ak.1 h).1
 refine ⟨fun a=>?_,fun k cs e f hk=>?_⟩
 ·by_cases ha:a.block=l
  ·unfold World.cell?
   rw[ha,World.putObj_heap_same hlt,h]
   cases o<;>cases o'<;>first
    | rfl
    | exact absurd rfl (hc _ _ _)
    | exact absurd rfl (hc' _ _ _)
  ·exact World.cell?_of_block (World.putObj_heap_other ha)
 ·by_cases hk':k=l
  ·subst hk'
   rw[h] at hk
   cases hk
   exact absurd rfl (hc _ _ _)
  ·rw[World.putObj_heap_other hk']
   exact hk
theorem amz{w:World}{B l:Nat}{o:Obj}(h:B≤l):Below B w (w.putObj l o) where
 os:=rfl
 tape:=rfl
 output:=rfl
 size:=by simp
 block:=fun k hk=>World.putObj_heap_other (by omega)
section
variable {S:Nat→Prop} {w w':World}
theorem bqr.turn(hc:∀a,w'.cell? a=w.cell? a){len sz:Nat}{cell cell':Nat→Value→Prop}{u:Value}(hcc:∀j x,cell j x→cell' j x)(h:bqr S w len sz cell u):bqr S w' len sz cell' u:=by
 obtain ⟨A,cap,hu,hl,hx⟩:=h
 refine ⟨A,cap,hu,hl,fun h0=>?_⟩
 obtain ⟨a,hA,hS,hcell⟩:=hx h0
 refine ⟨a,hA,hS,fun j hj=>?_⟩
 obtain ⟨x,hx1,hx2⟩:=hcell j hj
 exact ⟨x,by rw[hc];exact hx1,hcc j x hx2⟩
theorem SlI.turn(hc:∀a,w'.cell? a=w.cell? a){ki:IntKind}{l:List Int}{u:Value}(h:SlI S w ki l u):SlI S w' ki l u:=bqr.turn hc (fun _ _ h=>h) h
theorem SlR.turn(hc:∀a,w'.cell? a=w.cell? a){ki:IntKind}{l:List (List Int)}{u:Value}(h:SlR S w ki l u):SlR S w' ki l u:=bqr.turn hc (fun _ _ h=>SlI.turn hc h) h
theorem cell1.turn(hc:∀a,w'.cell? a=w.cell? a){c:Cont}{j:Nat}{x:Value}(h:cell1 S w c j x):cell1 S w' c j x:=by
 cases c with
 | ints=>exact h
 | rows=>exact SlI.turn hc h
 | rows2=>exact SlR.turn hc h
 | cols=>exact h
theorem cellC.turn(hc:∀a,w'.cell? a=w.cell? a){c:Cont}{j:Nat}{x:Value}(h:cellC S w c j x):cellC S w' c j x:=by
 cases c with
 | cols n cs=>obtain ⟨c,hc',h⟩:=h;exact ⟨c,hc',cell1.turn hc h⟩
 | ints=>exact h
 | rows=>exact SlI.turn hc h
 | rows2=>exact SlR.turn hc h
theorem SlC.turn(hc:∀a,w'.cell? a=w.cell? a){c:Cont}{u:Value}(h:SlC S w c u):SlC S w' c u:=bqr.turn hc (fun _ _ h=>cellC.turn hc h) h
end
section
variable {E E':Env} {w w':World}
mutual
theorem azh(hS:E'.S=E.S)(hc:∀a,w'.cell? a=w.cell? a):∀(a:AVal) (u:Value),(∀id,mentions id a=true→E'.ρ id=E.ρ id)→ig E w a u→ig E' w' a u
 | .v x,u,hb,h=>by simp only[ig] at h ⊢;exact h
 | .bot,u,hb,_=>by simp only[ig]
 | .sl c,u,hb,h=>by simp only[ig] at h ⊢;rw[hS];exact SlC.turn hc h
 | .own id,u,hb,h=>by simp only[ig] at h ⊢;rw[hb id (by simp[mentions])];exact h
 | .win id off len,u,hb,h=>by simp only[ig] at h ⊢;rw[hb id (by simp[mentions])];exact h
 | .awin id off m lo len,u,hb,h=>by simp only[ig] at h ⊢;rw[hb id (by simp[mentions])];exact h
 | .arr k m l,u,hb,h=>by simp only[ig] at h ⊢;exact h
 | .agg l,u,hb,h=>by
  simp only[ig] at h ⊢
  obtain ⟨cs,h1,h2⟩:=h
  exact ⟨cs,h1,alo hS hc l cs (fun id hi=>hb id (by simpa only[mentions] using hi)) h2⟩
 | .ptr id off,u,hb,h=>by simp only[ig] at h ⊢;rw[hb id (by simp[mentions])];exact h
 | .pel id sz i,u,hb,h=>by simp only[ig] at h ⊢;rw[hb id (by simp[mentions])];exact h
 | .fel id sz i off,u,hb,h=>by simp only[ig] at h ⊢;rw[hb id (by simp[mentions])];exact h
 | .apel id off m i,u,hb,h=>by simp only[ig] at h ⊢;rw[hb id (by simp[mentions])];exact h
 | .sta l,u,hb,h=>by
  simp only[ig] at h ⊢
  obtain ⟨a,cs,h1,h2,h3,h4⟩:=h
  exact ⟨a,cs,h1,by rw[hS];exact h2,alo hS hc l cs (fun id hi=>hb id (by simpa only[mentions] using hi)) h3,fun j hj=>by rw[hc];exact h4 j hj⟩
 | .osta q l,u,hb,h=>by
  simp only[ig] at h ⊢
  rcases h with h | ⟨h0,a,cs,h1,h2,h3,h4⟩
  ·exact .inl h
  ·exact .inr ⟨h0,a,cs,h1,by rw[hS];exact h2,alo hS hc l cs (fun id hi=>hb id (by simpa only[mentions] using hi)) h3,fun j hj=>by rw[hc];exact h4 j hj⟩
 | .fn f a b,u,hb,h=>by
  simp only[ig] at h ⊢
  obtain ⟨x,y,h1,h2,h3⟩:=h
  exact ⟨x,y,h1,afg hS hc a x (fun id hi=>hb id (by simp only[mentions,hi,Af])) h2,afg hS hc b y (fun id hi=>hb id (by simp only[mentions,hi,Ad])) h3⟩
 | .iface t x,u,hb,h=>by
  simp only[ig] at h ⊢
  obtain ⟨y,h1,h2⟩:=h
  exact ⟨y,h1,azh hS hc x y (fun id hi=>hb id (by simpa only[mentions] using hi)) h2⟩
 | .tuple l,u,hb,h=>by
  simp only[ig] at h ⊢
  obtain ⟨vs,h1,h2⟩:=h
  exact ⟨vs,h1,afg hS hc l vs (fun id hi=>hb id (by simpa only[mentions] using hi)) h2⟩
 | .fr e c,u,hb,h=>by simp only[ig] at h
 | .glob g off,u,hb,h=>by simp only[ig] at h ⊢;exact h
 | .gel g off m i,u,hb,h=>by simp only[ig] at h ⊢;exact h
 | .yld id ts vs,u,hb,h=>by
  simp only[ig] at h ⊢
  obtain ⟨l,T,h1,h2,h3⟩:=h
  exact ⟨l,T,by rw[hb id (by simp[mentions])];exact h1,h2,afg hS hc vs _ (fun id hi=>hb id (by simp only[mentions,hi,Ad])) h3⟩
 | .alt t f fa fc g ga gc,u,hb,h=>by
  simp only[ig] at h ⊢
  rcases h with h | ⟨h0,x,y,h1,h2,h3⟩ | ⟨h0,x,y,h1,h2,h3⟩
  ·exact .inl h
  ·exact .inr (.inl ⟨h0,x,y,h1,afg hS hc fa x (fun id hi=>hb id (by simp only[mentions,hi,Af])) h2,afg hS hc fc y (fun id hi=>hb id (by simp only[mentions,hi,Af,Ad])) h3⟩)
  ·exact .inr (.inr ⟨h0,x,y,h1,afg hS hc ga x (fun id hi=>hb id (by simp only[mentions,hi,Af,Ad])) h2,afg hS hc gc y (fun id hi=>hb id (by simp only[mentions,hi,Ad])) h3⟩)
theorem afg(hS:E'.S=E.S)(hc:∀a,w'.cell? a=w.cell? a):∀(l:List AVal) (vs:List Value),(∀id,sj id l=true→E'.ρ id=E.ρ id)→mq E w l vs→mq E' w' l vs
 | [],vs,hb,h=>by simp only[mq] at h ⊢;exact h
 | a::r,vs,hb,h=>by
  simp only[mq] at h ⊢
  obtain ⟨u,us,h1,h2,h3⟩:=h
  exact ⟨u,us,h1,azh hS hc a u (fun id hi=>hb id (by simp only[sj,hi,Af])) h2,afg hS hc r us (fun id hi=>hb id (by simp only[sj,hi,Ad])) h3⟩
theorem alo(hS:E'.S=E.S)(hc:∀a,w'.cell? a=w.cell? a):∀(l:List AVal) (cs:List Value),(∀id,sj id l=true→E'.ρ id=E.ρ id)→qw E w l cs→qw E' w' l cs
 | [],cs,hb,h=>by simp only[qw] at h ⊢;exact h
 | a::r,cs,hb,h=>by
  rcases y8 h with ⟨k',m,l,cs',rfl,h1,rfl,h3⟩ | ⟨ha,u,cs',rfl,h2,h3,h4⟩
  ·exact abo h1 (alo hS hc r cs' (fun id hi=>hb id (by simp only[sj,hi,Ad])) h3)
  ·exact om ha h2 (azh hS hc a u (fun id hi=>hb id (by simp only[sj,hi,Af])) h3) (alo hS hc r cs' (fun id hi=>hb id (by simp only[sj,hi,Ad])) h4)
end
end
def b07:Bk→List AVal
 | .row _ _=>[]
 | .box _ l=>l
theorem bdm.turn{E E':Env}{w w':World}{B0 id:Nat}{b:Blk}(hS:E'.S=E.S)(ht:Turn w w')(hi:E'.ρ id=E.ρ id)(hb:∀j,sj j (b07 b.b)=true→E'.ρ j=E.ρ j)(h:bdm E w B0 id b):bdm E' w' B0 id b:=by
 obtain ⟨u,hu,hbb,hf,hz⟩:=h
 refine ⟨u,by rw[hi];exact hu,?_,fun h1 k hk=>by rw[hS];exact hf h1 k hk,fun h1 k hk=>by rw[hS];exact hz h1 k hk⟩
 cases hb':b.b with
 | row e c =>
  rw[hb'] at hbb
  obtain ⟨xs,⟨ho1,ho2⟩,hx⟩:=hbb
  refine ⟨xs,⟨ho1,?_⟩,fun j x hjx=>⟨(hx j x hjx).1,by rw[hS];exact cellC.turn ht.cell (hx j x hjx).2⟩⟩
  rcases ho2 with hn | ⟨g,cap,cur,rfl,hb,hg,rest⟩
  ·exact .inl hn
  ·exact .inr ⟨g,cap,cur,rfl,hb,ht.blk _ _ _ _ hg,rest⟩
 | box e l =>
  rw[hb'] at hbb
  obtain ⟨g,cs,rfl,hB,hh,hl⟩:=hbb
  exact ⟨g,cs,rfl,hB,ht.blk _ _ _ _ hh,alo hS ht.cell l _ (fun j hj=>hb j (by rw[hb'];exact hj)) hl⟩
section
variable {D D':Ctx} {B0:Nat} {w0:W0} {E E':Env} {st:ASt} {act act':Act} {w w':World}
theorem Rel.turn(hG2:qg D)(hR:Rel D B0 w0 E st act w)(y':Option (Nat×Nat×Array Value))(hg:D'.globs=D.globs)(hS:E'.S=E.S)(ht:Turn w w')(hbel:Below B0 w w')(hρ:∀id u,E'.ρ id=some u→E.ρ id=some u)
    (hslots:∀t id,mentions id (look st.f t)=true→E'.ρ id=E.ρ id) (hheap:∀id b,iw st.h id=some b→E'.ρ id=E.ρ id∧∀j,sj j (b07 b.b)=true→E'.ρ j=E.ρ j)
    (htm:act'.tmps=act.tmps) (hidle:D'.top=false→act'.defers=[]) (hmarks:Marks B0 E' w' act'.defers) (hrecs:au4 D' B0 ⟨w0.w,w0.S0,y'⟩ E' w') (hform:∀id u,E'.ρ id=some u→bwh ⟨w0.w,w0.S0,y'⟩ id u) :
    Rel D' B0 ⟨w0.w,w0.S0,y'⟩ E' st act' w' where
 below:=hR.below.trans hbel
 base:=Nat.le_trans hR.base hbel.size
 size:=by rw[htm];exact hR.size
 idle:=hidle
 marks:=hmarks
 recs:=hrecs
 tmps:=fun t=>by rw[htm];exact azh hS ht.cell _ _ (hslots t) (hR.tmps t)
 heap:=fun id b hb=>(hR.heap id b hb).turn hS ht (hheap id b hb).1 (hheap id b hb).2
 apart:=fun id id' b b' u u' k h1 h2 h3 h4 h5 h6 h7 h8=>hR.apart id id' b b' u u' k h1 h2 h3 h4 h5 (hρ _ _ h6) (hρ _ _ h7) h8
 sOld:=fun b hb=>Nat.lt_of_lt_of_le (hR.sOld b (by rw[←hS];exact hb)) hbel.size
 sNew:=fun b hb=>hR.sNew b (by rw[←hS];exact hb)
 form:=hform
 globs:=fun g l hl=>by
  rw[hg] at hl
  obtain ⟨h1,cs,e,fz,h2,h3⟩:=hR.globs g l hl
  refine ⟨by rw[hS];exact h1,cs,e,fz,ht.blk _ _ _ _ h2,?_⟩
  exact alo (E:=E') rfl ht.cell _ _ (fun _ _=>rfl) (hG2 g l hl E E' w _ h3 hS.symm)
end
end Go.Abs
end

section
namespace Go.Abs
open Go Go.RowKit
def conv:AExit→Exit
 | .normal=>.normal
 | .exit id=>.exit id
 | .ret=>.ret
def boa(D:Ctx)(B0:Nat)(w0:W0)(E0:Env)(w00:World)(ex:AExit)(st:ASt)(e:Exit)(a:Act)(w:World):Prop :=
 e=conv ex∧∃E',Up E0 E' w00 w∧Rel D B0 w0 E' st a w∧Dom E' st.n
def b2o(D:Ctx)(c:Code)(ex:AExit)(st st':ASt):Prop :=
 ∀(q:Option Nat) (n0 B0:Nat) (w0:W0) E act w,(D.top=true→q=none)→Rel D B0 w0 E st act w→Dom E st.n→c.wpIn (FR q) n0 D.P (boa D B0 w0 E w ex st') act w
theorem bza(h:Hint)(n:Nat):n≤b0d h n:=by
 unfold b0d
 split
 ·exact Al _
 ·rename_i m _ _
  cases hq:Nat.ble n m with
  | true=>exact Nat.le_of_ble_eq_true hq
  | false=>exact Al _
section
variable {D:Ctx} {B0:Nat} {w0:W0}
theorem boa.up{E0 E1:Env}{w00 w1:World}{ex:AExit}{st:ASt}{e:Exit}{a:Act}{w:World}(k:Up E0 E1 w00 w1)(h:boa D B0 w0 E1 w1 ex st e a w):boa D B0 w0 E0 w00 ex st e a w:=by
 obtain ⟨h1,E',h2,h3⟩:=h
 exact ⟨h1,E',k.trans h2,h3⟩
theorem bpn(f:List (Nat×AVal)):∀(ts:List Nat) (t:Nat),look (bz2 f ts) t=look f t∨look (bz2 f ts) t=.bot
 | [],t=>.inr rfl
 | a::r,t=>by
  simp only[bz2,look]
  cases hb:Ab a t with
  | true=>have:=Aa hb;subst this;exact .inl rfl
  | false=>exact bpn f r t
theorem Rel.bz2{E:Env}{st:ASt}{act:Act}{w:World}(h:Rel D B0 w0 E st act w)(ts:List Nat):Rel D B0 w0 E { st with f:=Abs.bz2 st.f ts } act w :=
 { h with
   tmps:=fun t=>by
    have e:=bpn st.f ts t
    revert e
    simp only
    generalize look (Abs.bz2 st.f ts) t=x
    rintro (rfl | rfl)
    ·exact h.tmps t
    ·exact aml _ }
theorem b2x(hG2:qg D){c:Code}(hc:∀(st:ASt) (K:AExit→ASt→Option R) (r:R),aho D c st K=some r→∃ex st',K ex st'=some r∧st'.m=st.m∧b2o D c ex st st')
    {h:Hint} {n:Nat} {ids:List Nat} {K:AExit→ASt→Option R}:∀(k:Nat) (st:ASt) (r:R),iter h n ids (aho D c) K k st=some r →
    ∃ex st',K ex st'=some r∧st'.m=st.m∧∀(q:Option Nat) (n0 B0:Nat) (w0:W0) E0 w00 E act w,(D.top=true→q=none)→Dom E0 n→Up E0 E w00 w→Rel D B0 w0 E st act w→Dom E st.n→Code.roundsIn (FR q) n0 D.P c (boa D B0 w0 E0 w00 ex st') (k+1) act w:=by
 have enter:∀{E0 E E':Env} {w00 w:World},Dom E0 n→Up E0 E w00 w→(∀b,E.S b→E'.S b)→(∀id,id<n→E'.ρ id=E.ρ id)→Up E0 E' w00 w:=by
  intro E0 E E' w00 w hD hup hS hρ
  exact ⟨⟨fun b hb=>hS b (hup.keeps.sub b hb),hup.keeps.blk⟩,fun id u hu=>by rw[hρ id (hD id u hu)];exact hup.ρ id u hu⟩
 have round:∀(k:Nat) (next:ASt→Option R) (st:ASt) (r:R),aho D c st (by5 h n ids K next)=some r →
     (∀st1,next st1=some r→∃ex st',K ex st'=some r∧st'.m=st1.m∧∀(q:Option Nat) (n0 B0:Nat) (w0:W0) E0 w00 E act w,(D.top=true→q=none)→Dom E0 n→Up E0 E w00 w→Rel D B0 w0 E st1 act w→Dom E st1.n→Code.roundsIn (FR q) n0 D.P c (boa D B0 w0 E0 w00 ex st') k act w) →
     ∃ex st',K ex st'=some r∧st'.m=st.m∧∀(q:Option Nat) (n0 B0:Nat) (w0:W0) E0 w00 E act w,(D.top=true→q=none)→Dom E0 n→Up E0 E w00 w→Rel D B0 w0 E st act w→Dom E st.n→Code.roundsIn (FR q) n0 D.P c (boa D B0 w0 E0 w00 ex st') (k+1) act w:=by
  intro k next st r hi hnext
  obtain ⟨ex1,st2,hK,hm2,hok⟩:=hc st _ r hi
  cases ex1 with
  | normal =>
   simp only[by5] at hK
   split at hK
   ·rename_i st1 hn
    obtain ⟨hm,hle,hnorm⟩:=bma hG2 hn
    obtain ⟨ex,st',h1,h2,h3⟩:=hnext st1 hK
    refine ⟨ex,st',h1,by rw[h2,hm,hm2],fun q n0 B0 w0 E0 w00 E act w hq hD hup hR hD2=>?_⟩
    rw[roundsIn_succ]
    refine wpIn_mono (hok q n0 B0 w0 E act w hq hR hD2) (fun e a w' hL=>?_)
    obtain ⟨rfl,E2,k1,k2,k3⟩:=hL
    obtain ⟨E',hS,hρ,hR',hD'⟩:=hnorm B0 w0 E2 a w' k2
    exact h3 q n0 B0 w0 E0 w00 E' a w' hq hD (enter hD (hup.trans k1) hS hρ) hR' hD'
   ·cases hK
  | exit j =>
   simp only[by5] at hK
   split at hK
   ·rename_i st1 hn
    obtain ⟨hm,hle,hnorm⟩:=bma hG2 hn
    refine ⟨.exit j,st1,hK,by rw[hm,hm2],fun q n0 B0 w0 E0 w00 E act w hq hD hup hR hD2=>?_⟩
    rw[roundsIn_succ]
    refine wpIn_mono (hok q n0 B0 w0 E act w hq hR hD2) (fun e a w' hL=>?_)
    obtain ⟨rfl,E2,k1,k2,k3⟩:=hL
    obtain ⟨E',hS,hρ,hR',hD'⟩:=hnorm B0 w0 E2 a w' k2
    exact ⟨rfl,E',enter hD (hup.trans k1) hS hρ,hR',hD'⟩
   ·cases hK
  | ret =>
   refine ⟨.ret,_,hK,hm2,fun q n0 B0 w0 E0 w00 E act w hq hD hup hR hD2=>?_⟩
   rw[roundsIn_succ]
   refine wpIn_mono (hok q n0 B0 w0 E act w hq hR hD2) (fun e a w' hL=>?_)
   obtain ⟨rfl,E2,k1,k2,k3⟩:=hL
   exact ⟨rfl,E2,hup.trans k1,k2.bz2 _,k3⟩
 intro k
 induction k with
 | zero =>
  intro st r hi
  exact round 0 _ st r hi (fun st1 h=>by cases h)
 | succ k ih =>
  intro st r hi
  exact round (k+1) _ st r hi (fun st1 h=>ih st1 r h)
def asx(D:Ctx):Code→Prop
 | .rangeFunc _ ps assign body=>∀e,bi9 D.rng (l5 body)=some e→∃Di:Ctx,Di.P=D.P∧Di.globs=D.globs∧Di.y=some ⟨ps,assign,body,e.m,true⟩∧Enters D.P e.g∧bq4 Di e.g e.s
 | _=>True
theorem bu3{D:Ctx}{st:ASt}{g:Operand}{body:Code}{e:RngE}{first caps:List AVal}(h:b4l D st g body=some (e,first,caps)) :
    ev st.f g=.fn (.func e.g) first caps∧bi9 D.rng (l5 body)=some e∧D.top=true∧D.y=none∧st.m=e.m:=by
 unfold b4l at h
 split at h
 ·rename_i gid first' caps' hx
  split at h
  ·rename_i e' he
   cases hq:D.top&&noY D.y&&Ab gid e'.g&&Ab st.m e'.m with
   | false=>rw[hq] at h;cases h
   | true =>
    rw[hq] at h
    cases h
    simp only[Ac] at hq
    obtain ⟨⟨⟨h1,h2⟩,h3⟩,h4⟩:=hq
    have e1:=Aa h3
    have e2:=Aa h4
    subst e1
    refine ⟨hx,he,h1,?_,e2⟩
    revert h2
    cases D.y with
    | none=>intro _;rfl
    | some _=>intro h;cases h
  ·cases h
 ·cases h
theorem Rel.swap{D:Ctx}{B0:Nat}{w0:W0}{E E':Env}{f f':List (Nat×AVal)}{h h':Hp}{n n' m m':Nat}{act act':Act}{w w':World}(hR:Rel D B0 w0 E ⟨f,h,n,m⟩ act w)(up:Up E E' w w')
    (hR':Rel D B0 w0 E' ⟨f',h',n',m'⟩ act' w'):Rel D B0 w0 E' ⟨f,h',n',m⟩ act w' where
 below:=hR'.below
 base:=hR'.base
 size:=hR.size
 idle:=hR.idle
 marks:=hR.marks.mono up
 recs:=hR'.recs
 tmps:=fun t=>ig.mono up _ _ (hR.tmps t)
 heap:=hR'.heap
 apart:=hR'.apart
 sOld:=hR'.sOld
 sNew:=hR'.sNew
 form:=hR'.form
 globs:=hR'.globs
theorem bno{D:Ctx}{B0:Nat}{w0:W0}{E:Env}{st:ASt}{act:Act}{w:World}(hR:Rel D B0 w0 E st act w):∀(ts:List Nat),mq E w (looks st.f ts) (ts.map fun t=>act.tmps.getD t undef)
 | []=>by simp only[looks,mq,List.map_nil]
 | t::r=>by
  simp only[looks,mq,List.map_cons]
  exact ⟨_,_,rfl,hR.tmps t,bno hR r⟩
theorem bnw:∀(h:Hp) {x id:Nat} {b:Blk},bnp x h=true→iw h id=some b→sj x (b07 b.b)=false
 | [],x,id,b,_,hb=>by simp[iw] at hb
 | (k,c)::r,x,id,b,hf,hb=>by
  have key:(∀e l z,c=some ⟨.box e l,z⟩→sj x l=false)∧bnp x r=true:=by
   unfold bnp at hf
   split at hf
   ·rename_i heq
    cases heq
   ·rename_i heq
    cases heq
    simp only[Ac,Ag] at hf
    exact ⟨fun e l z h=>by cases h;exact hf.1,hf.2⟩
   ·rename_i hno heq
    cases heq
    exact ⟨fun e l z h=>absurd h (by intro h;exact hno _ _ _ _ (by rw[h])),hf⟩
  simp only[iw] at hb
  cases hq:Ab k id with
  | true =>
   rw[hq] at hb
   simp only[cond_true] at hb
   subst hb
   obtain ⟨bk,z⟩:=b
   cases bk with
   | row e c=>simp[b07,sj]
   | box e l=>exact key.1 e l z rfl
  | false=>rw[hq] at hb;exact bnw r key.2 hb
theorem bt1{B0:Nat}{E:Env}{w:World}:∀{ds:List Deferred},Marks B0 E w ds→∀d,d∈ds→∃b,d.target=.collected b∧b<w.heap.size
 | [],_,d,hd=>by simp at hd
 | x::r,h,d,hd=>by
  obtain ⟨⟨b,h1,h2,h3,h4,h5⟩,h6⟩:=h
  rcases List.mem_cons.1 hd with rfl | hd
  ·exact ⟨b,by rw[h1],(Ak.1 h4).1⟩
  ·exact bt1 h6 d hd
theorem b0y{D Di:Ctx}(hG2:qg D){g:Operand}{ps:Array Tmp}{assign body:Code}{st:ASt}{e:RngE}{first caps:List AVal}{v:AVal}{h':Hp}{n' n0 B0:Nat}{w0:W0}{E:Env}{act:Act}{w:World}
    (hev:ev st.f g=.fn (.func e.g) first caps) (htop:D.top=true) (hyn:D.y=none) (hm:st.m=e.m) (hP:Di.P=D.P) (hgl:Di.globs=D.globs) (hy:Di.y=some ⟨ps,assign,body,e.m,true⟩) (hent:Enters D.P e.g)
    (hcall:∀(B0:Nat) (w0:W0) (E:Env) (f:List (Nat×AVal)) (m:Nat) (act:Act) (w:World) (cargs:List Value),Rel Di B0 w0 E ⟨f,st.h,st.n+1,m⟩ act w→Dom E (st.n+1)→mq E w (tq first (.yld st.n e.ts (looks st.f e.ts)::caps)) cargs →
     Calls Di.P e.g cargs.toArray w fun e w'=>∃u E',e=.returned u∧Up E E' w w'∧Rel Di B0 w0 E' ⟨f,h',n',m⟩ act w'∧Dom E' n'∧ig E' w' v u)
    (hfree:bnp st.n h'=true) (hR:Rel D B0 w0 E st act w) (hD:Dom E st.n) :
    (Code.rangeFunc g ps assign body).wpIn (FR none) n0 D.P (boa D B0 w0 E w .normal { f:=st.f,h:=h',n:=n',m:=st.m }) act w:=by
 have hw0:w0.y=none:=by
  cases hq:w0.y with
  | none=>rfl
  | some x =>
   obtain ⟨id,l,T⟩:=x
   obtain ⟨_,_,Y,r,h1,_⟩:=hR.recs id l T hq
   rw[hyn] at h1
   cases h1
 have hX:=hR.ev g
 rw[hev] at hX
 simp only[ig] at hX
 obtain ⟨fv,cv,hfn,hrf,hrc⟩:=hX
 refine wpIn_rangeFunc (fun fn _=>?_)
 obtain ⟨rec0,hrec⟩:∃r:Loop,r={ state:=.ready,pending:=none,fn,tmps:=act.tmps,params:=ps,assign,body,defers:=w.heap.size }:=⟨_,rfl⟩
 obtain ⟨w1,hw1⟩:∃w1,w1=(w.alloc (.deferred (some []))).alloc (.loop rec0):=⟨_,rfl⟩
 have hs1:w1.heap.size=w.heap.size+2:=by rw[hw1];simp only[World.size_alloc]
 have hold:∀k,k<w.heap.size→w1.heap[k]?=w.heap[k]?:=by
  intro k hk
  rw[hw1]
  simp only[World.alloc]
  rw[Am (by simp;omega),Array.getElem?_eq_getElem hk,Array.getElem_push_lt hk]
 have hd1:w1.heap[w.heap.size]?=some (.deferred (some [])):=by
  rw[hw1]
  simp only[World.alloc]
  rw[Am (by simp)]
  simp
 have hl1:w1.heap[w.heap.size+1]?=some (.loop rec0):=by
  rw[hw1]
  have:=World.alloc_heap_new (w.alloc (.deferred (some []))) (.loop rec0)
  rw[World.size_alloc] at this
  exact this
 have hb0:=hR.base
 obtain ⟨E1,hE1⟩:∃E1:Env,E1=⟨fun k=>E.S k∨k=w.heap.size∨k=w.heap.size+1,fun j=>if j=st.n then some (mark (w.heap.size+1) act.tmps) else E.ρ j⟩:=⟨_,rfl⟩
 have hne:∀id u,E.ρ id=some u→id≠st.n:=fun id u hu=>Nat.ne_of_lt (hD id u hu)
 have hρ1:∀id,id≠st.n→E1.ρ id=E.ρ id:=fun id hi=>by rw[hE1];simp only[if_neg hi]
 have hρn:E1.ρ st.n=some (mark (w.heap.size+1) act.tmps):=by rw[hE1];simp only[if_true]
 have up1:Up E E1 w w1:=⟨⟨fun b hb=>by rw[hE1];exact .inl hb,fun b hb=>hold b (hR.sOld b hb)⟩,fun id u hu=>by rw[hρ1 id (hne id u hu)];exact hu⟩
 have hbel:Below B0 w w1:={ os:=by rw[hw1];rfl,tape:=by rw[hw1];rfl,output:=by rw[hw1];rfl,size:=by rw[hs1];omega,block:=fun k hk=>hold k (by omega) }
 have hS1:∀b,E1.S b→E.S b∨(w.heap.size≤b∧b<w1.heap.size):=by
  intro b hb
  rw[hE1] at hb
  rcases hb with h | h | h
  ·exact .inl h
  ·exact .inr ⟨by omega,by omega⟩
  ·exact .inr ⟨by omega,by omega⟩
 have hR1:Rel Di B0 ⟨w0.w,w0.S0,some (st.n,w.heap.size+1,act.tmps)⟩ E1 ⟨[],st.h,st.n+1,0⟩ ⟨#[],[]⟩ w1 :=
  { below:=hR.below.trans hbel
    base:=Nat.le_trans hb0 hbel.size
    size:=rfl
    idle:=fun _=>rfl
    marks:=trivial
    recs:=fun id l T hyy=>by
     cases hyy
     refine ⟨by omega,by rw[hE1];exact .inr (.inr rfl),_,rec0,hy,hl1,by rw[hrec],by rw[hrec],by rw[hrec],by rw[hrec],by rw[hR.size,hm],fun _=>by rw[hrec];exact ⟨rfl,rfl⟩⟩
    tmps:=fun t=>aml _
    heap:=fun id b hb=>(hR.heap id b hb).mono up1 (fun u j hu hj=>hold j ((hR.heap id b hb).lt hu hj).2) (fun _ u j hu hj hS=>by
     rcases hS1 j hS with h | h
     ·exact h
     ·have:=((hR.heap id b hb).lt hu hj).2
      omega)
    apart:=fun id id' b b' u u' k h1 h2 h3 h4 h5 h6 h7=>by
     obtain ⟨u1,hu1,_⟩:=hR.heap id b h1
     obtain ⟨u2,hu2,_⟩:=hR.heap id' b' h3
     rw[hρ1 id (hne _ _ hu1)] at h6
     rw[hρ1 id' (hne _ _ hu2)] at h7
     exact hR.apart id id' b b' u u' k h1 h2 h3 h4 h5 h6 h7
    sOld:=fun b hb=>by
     rcases hS1 b hb with h | h
     ·have:=hR.sOld b h
      omega
     ·exact h.2
    sNew:=fun b hb=>by
     rcases hS1 b hb with h | h
     ·exact hR.sNew b h
     ·exact .inr (by omega)
    form:=fun id u hu=>by
     by_cases hi:id=st.n
     ·subst hi
      rw[hρn] at hu
      cases hu
      exact .inr ⟨_,_,rfl,rfl⟩
     ·rw[hρ1 id hi] at hu
      rcases hR.form id u hu with h | ⟨l,T,h,_⟩
      ·exact .inl h
      ·rw[hw0] at h
       cases h
    globs:=fun gg l hg=>by
     rw[hgl] at hg
     obtain ⟨h1,cs,e,fz,h2,h3⟩:=hR.globs gg l hg
     exact ⟨up1.keeps.sub _ h1,cs,e,fz,by rw[hold _ (hR.sOld _ h1)];exact h2,qw.mono up1 _ _ h3⟩ }
 have hD1:Dom E1 (st.n+1):=by
  intro id u hu
  by_cases hi:id=st.n
  ·omega
  ·rw[hρ1 id hi] at hu
   have:=hD id u hu
   omega
 have hargs:mq E1 w1 (tq first (.yld st.n e.ts (looks st.f e.ts)::caps)) (fv++(.func (.yield (w.heap.size+1)) #[] #[]::cv)):=by
  rw[ajz]
  refine akx _ _ _ _ (mq.mono up1 _ _ hrf) ?_
  simp only[mq]
  refine ⟨_,_,rfl,?_,mq.mono up1 _ _ hrc⟩
  simp only[ig]
  exact ⟨_,act.tmps,hρn,rfl,mq.mono up1 _ _ (bno hR _)⟩
 have hc:=hcall B0 _ E1 [] 0 ⟨#[],[]⟩ w1 _ hR1 hD1 hargs
 rw[hP] at hc
 refine ⟨w.heap.size+1,[{ target:=.collected w.heap.size,args:=#[] }],w1,⟨.fn (.func e.g) cv.toArray,fv.toArray++#[.func (.yield (w.heap.size+1)) #[] #[]]⟩,w1,e.g,(fv++(.func (.yield (w.heap.size+1)) #[] #[]::cv)).toArray,w1,?_,?_,fun _ _=>trivial,?_,fun h=>bta h,aky.2 (hc.mono ?_)⟩
 ·rw[hw1,hrec]
  exact run_enterLoop_outer fn act.tmps ps assign body
 ·simp only[resolve,hfn,Deferred.ofValue,Sem.run_pure,List.map_toArray,List.map_cons,List.map_nil]
  rfl
 ·have e1:(fv.toArray++#[Value.func (.yield (w.heap.size+1)) #[] #[]])++cv.toArray=(fv++(Value.func (.yield (w.heap.size+1)) #[] #[]::cv)).toArray:=by
    apply Array.ext'
    simp
  simp only[invoke,e1,asf hent]
 ·rintro e0 w3 ⟨u,E2,rfl,up2,hR2,hD2,_⟩
  have hl3:w3.heap[w.heap.size+1]?=some (.loop rec0):=by
   rw[up2.keeps.blk _ (by rw[hE1];exact .inr (.inr rfl))]
   exact hl1
  have hd3:w3.heap[w.heap.size]?=some (.deferred (some [])):=by
   rw[up2.keeps.blk _ (by rw[hE1];exact .inr (.inl rfl))]
   exact hd1
  obtain ⟨w4,⟨o4,ho4,hw4⟩,hend⟩:∃w4,(∃o,(∀cs e f,o≠Obj.cells cs e f)∧w4=w3.putObj (w.heap.size+1) o)∧(Instr.endLoop (w.heap.size+1)).run D.P w3=.ok none w4:=by
   have h:=run_endLoop (P:=D.P) hl3 (by rw[hrec];simp)
   rw[show rec0.pending=none by rw[hrec]] at h
   exact ⟨_,⟨_,by simp,rfl⟩,h⟩
  refine ⟨none,w4,hend,?_⟩
  obtain ⟨E4,hE4⟩:∃E4:Env,E4=⟨E2.S,fun j=>if j=st.n then none else E2.ρ j⟩:=⟨_,rfl⟩
  have hρ4:∀id,id≠st.n→E4.ρ id=E2.ρ id:=fun id hi=>by rw[hE4];simp only[if_neg hi]
  have hρ4':∀id u,E4.ρ id=some u→id≠st.n∧E2.ρ id=some u:=by
   intro id u hu
   by_cases hi:id=st.n
   ·rw[hE4] at hu
    simp[hi] at hu
   ·rw[hρ4 id hi] at hu
    exact ⟨hi,hu⟩
  have hn2:E2.ρ st.n=some (mark (w.heap.size+1) act.tmps):=up2.ρ _ _ hρn
  have hoth:∀k,k≠w.heap.size+1→w4.heap[k]?=w3.heap[k]?:=fun k hk=>by rw[hw4];exact World.putObj_heap_other hk
  have up4:Up E E4 w w4:=by
   refine ⟨⟨fun b hb=>?_,fun b hb=>?_⟩,fun id u hu=>?_⟩
   ·rw[hE4]
    exact up2.keeps.sub _ (up1.keeps.sub _ hb)
   ·have:=hR.sOld b hb
    rw[hoth b (by omega),up2.keeps.blk _ (up1.keeps.sub _ hb),up1.keeps.blk _ hb]
   ·rw[hρ4 id (hne id u hu)]
    exact up2.ρ _ _ (up1.ρ _ _ hu)
  have hRt:Rel D B0 ⟨w0.w,w0.S0,none⟩ E4 ⟨[],h',n',0⟩ ⟨#[],[]⟩ w4:=by
   refine hR2.turn (D':=D) (E':=E4) (act':=⟨#[],[]⟩) (fun gg l hg=>hG2 gg l (by rw[←hgl];exact hg)) none hgl.symm (by rw[hE4]) (by rw[hw4];exact apg hl3 (by simp) ho4) (by rw[hw4];exact amz (by omega)) (fun id u hu=>(hρ4' id u hu).2)
    (fun t id hi=>by simp[look,mentions] at hi) (fun id b hb=>⟨?_,fun j hj=>hρ4 j ?_⟩) rfl (fun _=>rfl) trivial (bbc rfl) (fun id u hu=>?_)
   ·refine hρ4 id ?_
    rintro rfl
    rcases (hR2.heap _ b hb).form hn2 with ⟨_,_,_,h⟩ | ⟨_,h⟩<;>cases h
   ·rintro rfl
    rw[bnw h' hfree hb] at hj
    cases hj
   ·obtain ⟨h1,h2⟩:=hρ4' id u hu
    rcases hR2.form id u h2 with h | ⟨l,T,h,_⟩
    ·exact .inl h
    ·cases h
     exact absurd rfl h1
  have hw0':w0=⟨w0.w,w0.S0,none⟩:=by
   cases w0
   simp only at hw0
   rw[hw0]
  rw[←hw0'] at hRt
  have hRs:=Rel.swap (f:=st.f) (h:=st.h) (n:=st.n) (m:=st.m) hR up4 hRt
  refine ⟨rfl,E4,up4,{ hRs with idle:=?_,marks:=?_,size:=hRs.size,tmps:=hRs.tmps },fun id u hu=>hD2 id u (hρ4' id u hu).2⟩
  ·intro h
   rw[htop] at h
   cases h
  ·refine ⟨⟨w.heap.size,rfl,hb0,?_,?_,fun d' hd'=>?_⟩,hRs.marks⟩
   ·rw[hE4]
    exact up2.keeps.sub _ (by rw[hE1];exact .inr (.inl rfl))
   ·rw[hoth _ (by omega)]
    exact hd3
   ·obtain ⟨b,hb1,hb2⟩:=bt1 hR.marks d' hd'
    rw[hb1]
    intro h
    cases h
    omega
theorem bgq(hG:GOk D)(hG2:qg D)(hI:InlOk D)(hmix:D.P.follows .mixedOrders=true):∀(c:Code),(∀c',c'∈gy c→jl D c')→(∀c',c'∈xk c→asx D c')→∀(st:ASt) (K:AExit→ASt→Option R) (r:R),aho D c st K=some r →
    ∃ex st',K ex st'=some r∧st'.m=st.m∧b2o D c ex st st':=by
 intro c
 induction c with
 | skip =>
  intro hL hRg st K r h
  exact ⟨.normal,st,h,rfl,fun q n0 B0 w0 E act w hq hR hD=>wpIn_skip ⟨rfl,E,Up.refl _ _,hR,hD⟩⟩
 | label l =>
  intro hL hRg st K r h
  exact ⟨.normal,st,h,rfl,fun q n0 B0 w0 E act w hq hR hD=>wpIn_label ⟨rfl,E,Up.refl _ _,hR,hD⟩⟩
 | region id ops draw =>
  intro hL hRg st K r h
  cases draw with
  | false =>
   simp only[aho] at h
   obtain ⟨st',h1,h2,h4⟩:=bye (id:=id) hG hG2 hI h
   refine ⟨.normal,st',h1,h2.trans (bmv D ops.toList st).1,fun q n0 B0 w0 E act w hq hR hD=>?_⟩
   obtain ⟨E1,hρ,up1,hR1⟩:=bvl ops.toList hR
   exact h4 q n0 B0 w0 E1 act w _ hR1 (fun id u hu=>by rw[(bmv D ops.toList st).2];rw[hρ] at hu;exact hD id u hu) (fun E' a' w' k1 k2 k3=>⟨rfl,E',up1.trans k1,k2,k3⟩)
  | true =>
   simp only[aho] at h
   obtain ⟨st',h1,h2,h4⟩:=b0e (id:=id) hG hG2 hI hmix h
   refine ⟨.normal,st',h1,h2.trans (bmv D ops.toList st).1,fun q n0 B0 w0 E act w hq hR hD=>?_⟩
   obtain ⟨E1,hρ,up1,hR1⟩:=bvl ops.toList hR
   exact h4 q n0 B0 w0 E1 act w _ hR1 (fun id u hu=>by rw[(bmv D ops.toList st).2];rw[hρ] at hu;exact hD id u hu) (fun E' a' w' k1 k2 k3=>⟨rfl,E',up1.trans k1,k2,k3⟩)
 | seq a b iha ihb =>
  intro hL hRg st K r h
  simp only[aho] at h
  obtain ⟨ex1,st1,h1,h2,h3⟩:=iha (fun c' hc=>hL c' (by simp[gy,hc])) (fun c' hc=>hRg c' (by simp[xk,hc])) st _ r h
  cases ex1 with
  | normal =>
   obtain ⟨ex,st',k1,k2,k3⟩:=ihb (fun c' hc=>hL c' (by simp[gy,hc])) (fun c' hc=>hRg c' (by simp[xk,hc])) st1 K r h1
   refine ⟨ex,st',k1,k2.trans h2,fun q n0 B0 w0 E act w hq hR hD=>wpIn_seq (wpIn_mono (h3 q n0 B0 w0 E act w hq hR hD) (fun e a w' hL=>?_))⟩
   obtain ⟨rfl,E1,u1,u2,u3⟩:=hL
   exact wpIn_mono (k3 q n0 B0 w0 E1 a w' hq u2 u3) (fun e a w'' hL=>hL.up u1)
  | exit j =>
   refine ⟨.exit j,st1,h1,h2,fun q n0 B0 w0 E act w hq hR hD=>wpIn_seq (wpIn_mono (h3 q n0 B0 w0 E act w hq hR hD) (fun e a w' hL=>?_))⟩
   have h5:=hL
   obtain ⟨rfl,_⟩:=hL
   exact h5
  | ret =>
   refine ⟨.ret,st1,h1,h2,fun q n0 B0 w0 E act w hq hR hD=>wpIn_seq (wpIn_mono (h3 q n0 B0 w0 E act w hq hR hD) (fun e a w' hL=>?_))⟩
   have h5:=hL
   obtain ⟨rfl,_⟩:=hL
   exact h5
 | cond x a b iha ihb =>
  intro hL hRg st K r h
  simp only[aho] at h
  split at h
  ·rename_i t ht
   have hcv:∀{B0:Nat} {w0:W0} {E act w},Rel D B0 w0 E st act w→act.eval x=.bool t:=by
    intro B0 w0 E act w hR
    have:=hR.ev x
    rw[ht] at this
    simpa only[ig] using this
   rcases abm h with ⟨rfl,h4⟩ | ⟨rfl,h4⟩
   ·obtain ⟨ex,st',k1,k2,k3⟩:=iha (fun c' hc=>hL c' (by simp[gy,hc])) (fun c' hc=>hRg c' (by simp[xk,hc])) st K r h4
    exact ⟨ex,st',k1,k2,fun q n0 B0 w0 E act w hq hR hD=>wpIn_cond (hcv hR) (k3 q n0 B0 w0 E act w hq hR hD)⟩
   ·obtain ⟨ex,st',k1,k2,k3⟩:=ihb (fun c' hc=>hL c' (by simp[gy,hc])) (fun c' hc=>hRg c' (by simp[xk,hc])) st K r h4
    exact ⟨ex,st',k1,k2,fun q n0 B0 w0 E act w hq hR hD=>wpIn_cond (hcv hR) (k3 q n0 B0 w0 E act w hq hR hD)⟩
  ·cases h
 | block id c ih =>
  intro hL hRg st K r h
  simp only[aho] at h
  obtain ⟨ex1,st1,h1,h2,h3⟩:=ih (fun c' hc=>hL c' (by simpa [gy] using hc)) (fun c' hc=>hRg c' (by simpa [xk] using hc)) st _ r h
  cases ex1 with
  | normal =>
   refine ⟨.normal,st1,h1,h2,fun q n0 B0 w0 E act w hq hR hD=>wpIn_block (wpIn_mono (h3 q n0 B0 w0 E act w hq hR hD) (fun e a w' hL=>?_))⟩
   have h5:=hL
   obtain ⟨rfl,_⟩:=hL
   exact h5
  | ret =>
   refine ⟨.ret,st1,h1,h2,fun q n0 B0 w0 E act w hq hR hD=>wpIn_block (wpIn_mono (h3 q n0 B0 w0 E act w hq hR hD) (fun e a w' hL=>?_))⟩
   have h5:=hL
   obtain ⟨rfl,_⟩:=hL
   exact h5
  | exit j =>
   cases hb:Ab j id with
   | true =>
    simp only[hb,cond_true] at h1
    have:=Aa hb
    subst this
    refine ⟨.normal,st1,h1,h2,fun q n0 B0 w0 E act w hq hR hD=>wpIn_block (wpIn_mono (h3 q n0 B0 w0 E act w hq hR hD) (fun e a w' hL=>?_))⟩
    obtain ⟨rfl,h5⟩:=hL
    simp only[conv,Exit.inBlock,if_true]
    exact ⟨rfl,h5⟩
   | false =>
    simp only[hb,cond_false] at h1
    have hne:=Ah hb
    refine ⟨.exit j,st1,h1,h2,fun q n0 B0 w0 E act w hq hR hD=>wpIn_block (wpIn_mono (h3 q n0 B0 w0 E act w hq hR hD) (fun e a w' hL=>?_))⟩
    obtain ⟨rfl,h5⟩:=hL
    simp only[conv,Exit.inBlock,if_neg hne]
    exact ⟨rfl,h5⟩
 | loop c ih =>
  intro hL hRg st K r h
  simp only[aho] at h
  split at h
  ·cases h
  ·rename_i st1 hn
   split at h
   ·rename_i s hs
    obtain ⟨k,hk⟩:=hL c (by simp[gy]) s hs st1 K r h
    obtain ⟨hb1,hb2⟩:=bpf hn
    unfold itA at hk
    rw[hb1,hb2] at hk
    obtain ⟨hm,hle,hnorm⟩:=bma hG2 hn
    obtain ⟨ex,st',h1,h2,h3⟩:=b2x hG2 (ih (fun c' hc=>hL c' (by simp[gy,hc])) (fun c' hc=>hRg c' (by simp[xk,hc]))) k st1 r hk
    refine ⟨ex,st',h1,h2.trans hm,fun q n0 B0 w0 E act w hq hR hD=>wpIn_loop_rounds (k+1) ?_⟩
    obtain ⟨E',hS,hρ,hR',hD'⟩:=hnorm B0 w0 E act w hR
    have hge:=bza (hintOf D.hints (l5 c)) st.n
    have hDn:Dom E (b0d (hintOf D.hints (l5 c)) st.n):=fun id u hu=>Nat.lt_of_lt_of_le (hD id u hu) hge
    exact h3 q n0 B0 w0 E w E' act w hq hDn ⟨⟨hS,fun _ _=>rfl⟩,fun id u hu=>by rw[hρ id (hDn id u hu)];exact hu⟩ hR' hD'
   ·cases h
 | exit id =>
  intro hL hRg st K r h
  exact ⟨.exit id,st,h,rfl,fun q n0 B0 w0 E act w hq hR hD=>wpIn_exit ⟨rfl,E,Up.refl _ _,hR,hD⟩⟩
 | ret =>
  intro hL hRg st K r h
  exact ⟨.ret,st,h,rfl,fun q n0 B0 w0 E act w hq hR hD=>wpIn_ret ⟨rfl,E,Up.refl _ _,hR,hD⟩⟩
 | rangeFunc g ps assign body iha ihb =>
  intro hL hRg st K r h
  simp only[aho] at h
  split at h
  ·rename_i e first caps hrng
   obtain ⟨hev,hra,htop,hyn,hm⟩:=bu3 hrng
   obtain ⟨Di,hP,hgl,hy,hent,hrun⟩:=hRg (.rangeFunc g ps assign body) (by simp[xk]) e hra
   obtain ⟨v,h',n',hK,hcall⟩:=hrun _ _ _ _ r h
   cases hfree:bnp st.n h' with
   | false=>rw[hfree] at hK;cases hK
   | true =>
    rw[hfree] at hK
    refine ⟨.normal,_,hK,rfl,fun q n0 B0 w0 E act w hq hR hD=>?_⟩
    have hqn:=hq htop
    subst hqn
    exact b0y hG2 hev htop hyn hm hP hgl hy hent hcall hfree hR hD
  ·cases h
 | scope=>intro hL hRg st K r h;simp[aho] at h
 | goto=>intro hL hRg st K r h;simp[aho] at h
 | refuse=>intro hL hRg st K r h;simp[aho] at h
end
end Go.Abs
end
