/-
  SlhSigns, part 6: lemmas for the law.
-/

import Derived.Test.YtciddcopcdmnbaaGreatDoorSlhSignsE
import Derived.OrdersIn
import Derived.LoopNIn
import Derived.RangeFuncCalls
import Derived.RangeFuncRecord
open Array renaming getD_eq_getD_getElem? → Aa, getElem?_eq_getElem → Ab, getElem?_replicate → Ae, getElem?_setIfInBounds → Af, getElem?_eq_some_iff → Ag, replicate → Ak
open Nat renaming eq_of_beq_eq_true → Ac, beq → Ad, le_refl → Ap, strongRecOn → Ar
open List renaming length_cons → Ah, cons_append → Ai, mem_cons_self → Aj, mem_cons_of_mem → Al, mem_cons → Am, append_nil → Ao, append_inj → Au, map_eq_append_iff → Av, map_eq_cons_iff → Ay, cons → A8
open Bool renaming and_eq_true → Aq, or_eq_false_iff → Aw, false_or → Az
set_option linter.unusedVariables false
set_option linter.unusedSimpArgs false

section
namespace Go.Abs
open Go Go.RowKit
def FR(r:Option Nat):Fence:={ Fence.wide with round:=r }
theorem aky{r:Option Nat}{n:Nat}{P:Program}{f:FuncId}{args:Array Value}{w:World}{R:Ending→World→Prop}:CallsIn (FR r) n P f args w R↔Calls P f args w R :=
 callsIn_wide (n:=n)
theorem bta{r:Option Nat}{Q:Prop}(h:(FR r).depth.isSome=true):Q:=by simp[FR,Fence.wide] at h
theorem b4s{r:Option Nat}{n:Nat}{P:Program}{o:Oper}{a:Act}{w:World}{K:Act→World→Prop}{Q:Exit→Act→World→Prop}(hd:∀c,o.op≠.defer c)(h:o.wp P a w K Q):o.wpIn (FR r) n P a w K Q:=by
 unfold Oper.wp at h
 unfold Oper.wpIn
 refine ⟨fun _ _=>trivial,?_⟩
 rw[Oper.semAt_eq _ _ _ hd]
 generalize (execOp a.eval o).run P w=x at h ⊢
 cases x with
 | ok y w' =>
  cases y<;>simp only[Oper.upon,Oper.uponIn] at h ⊢<;>first
   | exact h
   | exact ⟨fun h=>bta h,aky.2 h⟩
   | exact ⟨fun h=>bta h,fun c cs _=>let ⟨v,w',r,s⟩:=h c cs;⟨v,w',r,stepsIn_wide.2 s⟩⟩
 | halt x w'=>cases x<;>simp only[Oper.upon,Oper.uponIn] at h ⊢<;>exact h
structure EqS (a b:ASt):Prop where
 f:∀t,look a.f t=look b.f t
 h:∀id,iw a.h id=iw b.h id
 m:a.m=b.m
theorem EqS.refl(a:ASt):EqS a a:=⟨fun _=>rfl,fun _=>rfl,rfl⟩
theorem EqS.symm{a b:ASt}(h:EqS a b):EqS b a:=⟨fun t=>(h.f t).symm,fun t=>(h.h t).symm,h.m.symm⟩
theorem EqS.trans{a b c:ASt}(h:EqS a b)(k:EqS b c):EqS a c:=⟨fun t=>(h.f t).trans (k.f t),fun t=>(h.h t).trans (k.h t),h.m.trans k.m⟩
def Dom(E:Env)(n:Nat):Prop:=∀id u,E.ρ id=some u→id<n
section
variable {D:Ctx} {B0:Nat} {w0:W0} {E:Env} {act:Act} {w:World} {ops:Array Oper}
theorem Rel.eqS{a b:ASt}(h:Rel D B0 w0 E a act w)(e:EqS a b):Rel D B0 w0 E b act w where
 below:=h.below
 base:=h.base
 size:=h.size.trans e.m
 idle:=h.idle
 marks:=h.marks
 recs:=h.recs
 tmps:=fun t=>by rw[←e.f t];exact h.tmps t
 heap:=fun id b hb=>h.heap id b (by rw[e.h id];exact hb)
 apart:=fun id id' b b' u u' k h1 h2 h3 h4=>h.apart id id' b b' u u' k (by rw[e.h id];exact h1) h2 (by rw[e.h id'];exact h3) h4
 sOld:=h.sOld
 sNew:=h.sNew
 form:=h.form
 globs:=h.globs
theorem bd8{st:ASt}{t:Nat}{a:AVal}(h:look st.f t=a):EqS st (st.put (some t) a):=by
 refine ⟨fun t'=>?_,fun _=>rfl,rfl⟩
 simp only[ASt.put]
 rw[adj]
 split
 ·rename_i hc
  cases hc.1
  exact h
 ·rfl
def ad7(ops:Array Oper)(o:Oper)(st:ASt)(q:Bool):Prop :=
 match o.guard with
 | none=>q=true
 | some (j,want)=>∃t,bgw ops j=some t∧((∃b,look st.f t=.v (.bool b)∧q=(b==want))∨(∃x,look st.f t=.v (.tuple x)∧q=false))
theorem bg9{o:Oper}{st:ASt}{F S:ASt→Option R}{r:R}(h:btw ops o st F S=some r) :
    ∃st',EqS st st'∧st'.n=st.n∧((ad7 ops o st true∧F st'=some r)∨(ad7 ops o st false∧S st'=some r)):=by
 unfold btw at h
 unfold ad7
 split at h
 ·rename_i hg
  rw[hg]
  exact ⟨st,EqS.refl _,rfl,.inl ⟨rfl,h⟩⟩
 ·rename_i j want hg
  rw[hg]
  split at h
  ·cases h
  ·rename_i t ht
   split at h
   ·rename_i b hb
    rcases abm h with ⟨rfl,h4⟩ | ⟨rfl,h4⟩
    ·cases want with
     | true=>exact ⟨_,bd8 hb,rfl,.inl ⟨⟨t,ht,.inl ⟨true,hb,rfl⟩⟩,h4⟩⟩
     | false=>exact ⟨_,bd8 hb,rfl,.inr ⟨⟨t,ht,.inl ⟨true,hb,rfl⟩⟩,h4⟩⟩
    ·cases want with
     | true=>exact ⟨_,bd8 hb,rfl,.inr ⟨⟨t,ht,.inl ⟨false,hb,rfl⟩⟩,h4⟩⟩
     | false=>exact ⟨_,bd8 hb,rfl,.inl ⟨⟨t,ht,.inl ⟨false,hb,rfl⟩⟩,h4⟩⟩
   ·rename_i x hx
    exact ⟨st,EqS.refl _,rfl,.inr ⟨⟨t,ht,.inr ⟨x,hx,rfl⟩⟩,h⟩⟩
   ·cases h
theorem ad7.wanted{o:Oper}{st:ASt}{q:Bool}(h:ad7 ops o st q)(hR:Rel D B0 w0 E st act w):Region.wanted o (yielded ops act.tmps)=q:=by
 unfold ad7 at h
 unfold Region.wanted
 split at h
 ·rename_i hg
  rw[hg]
  exact h.symm
 ·rename_i j want hg
  rw[hg]
  obtain ⟨t,ht,⟨b,hb,rfl⟩ | ⟨x,hb,rfl⟩⟩:=h
  ·have h1:=hR.tmps t
   rw[hb] at h1
   simp only[ig] at h1
   have h2:yielded ops act.tmps j=some b:=by
    unfold yielded
    unfold bgw at ht
    rw[ht]
    simp only[Option.bind_some]
    rw[Aa] at h1
    cases hx:act.tmps[t]? with
    | none=>rw[hx] at h1;simp[undef] at h1
    | some x=>rw[hx] at h1;simp at h1;subst h1;rfl
   simp only[h2]
   cases b<;>cases want<;>rfl
  ·have h1:=hR.tmps t
   rw[hb] at h1
   simp only[ig] at h1
   have h2:yielded ops act.tmps j=none:=by
    unfold yielded
    unfold bgw at ht
    rw[ht]
    simp only[Option.bind_some]
    rw[Aa] at h1
    cases hx:act.tmps[t]? with
    | none=>rfl
    | some y=>rw[hx] at h1;simp at h1;subst h1;rfl
   simp only[h2]
   cases want<;>rfl
theorem aml(u:Value):ig E w .bot u:=by simp only[ig]
theorem bj0:ig E w (.v undef) undef:=by simp only[ig]
theorem Up.dom{E E':Env}{n n':Nat}{st:ASt}(hd:Dom E n)(hle:n≤n')(h:∀id x,E'.ρ id=some x→E.ρ id=some x∨(n≤id∧id<n')):Dom E' n':=by
 intro id u hu
 rcases h id u hu with h | h
 ·exact Nat.lt_of_lt_of_le (hd id u h) hle
 ·exact h.2
def bq4(D:Ctx)(g:FuncId)(s:biz):Prop :=
 ∀(args:List AVal) (h:Hp) (n:Nat) (K:AVal→Hp→Nat→Option R) (r:R),s args h n K=some r→∃v h' n',K v h' n'=some r ∧
  ∀(B0:Nat) (w0:W0) (E:Env) (f:List (Nat×AVal)) (m:Nat) (act:Act) (w:World) (cargs:List Value),Rel D B0 w0 E ⟨f,h,n,m⟩ act w→Dom E n→mq E w args cargs →
   Calls D.P g cargs.toArray w fun e w'=>∃u E',e=.returned u∧Up E E' w w'∧Rel D B0 w0 E' ⟨f,h',n',m⟩ act w'∧Dom E' n'∧ig E' w' v u
def ape(D:Ctx)(s:b4d):Prop :=
 ∀(ts:List Nat) (vs args:List AVal) (h:Hp) (n:Nat) (K:Hp→Nat→Option R) (r:R),s ts vs args h n K=some r→∃h' n',K h' n'=some r ∧
  ∀(B0:Nat) (w0:W0) (E:Env) (f:List (Nat×AVal)) (m:Nat) (act:Act) (w:World) (cargs:List Value) (id l:Nat) (T:Array Value),Rel D B0 w0 E ⟨f,h,n,m⟩ act w→Dom E n→mq E w args cargs →
   E.ρ id=some (mark l T)→mq E w vs (ts.map fun t=>T.getD t undef) →
   ∃r0,w.heap[l]?=some (.loop r0)∧cargs.toArray.size=r0.params.size∧∀(n0:Nat) (q:Option Nat),RoundIn (FR q) n0 D.P l r0.fn ((r0.params.zip cargs.toArray).foldl (fun tmps (t,a)=>tmps.setIfInBounds t a) r0.tmps) r0.assign r0.body w
    fun e w'=>∃E',e=.returned (.bool true)∧Up E E' w w'∧Rel D B0 w0 E' ⟨f,h',n',m⟩ act w'∧Dom E' n'
structure InlOk (D:Ctx):Prop where
 run:∀g s,bfj D.inl g=some s→Enters D.P g∧bq4 D g s
 yld:∀s,D.ys=some s→ape D s
theorem buj{f:List (Nat×AVal)}{op:Op}{ts:List Nat}{vs as:List AVal}(h:b3s f op=some (ts,vs,as)) :
    ∃x xs at_ id,op=.call ⟨.value x,xs,at_⟩∧ev f x=.yld id ts vs∧as=evs f xs.toList:=by
 unfold b3s at h
 split at h
 ·split at h
  ·rename_i hx
   cases h
   exact ⟨_,_,_,_,rfl,hx,rfl⟩
  ·cases h
 ·cases h
theorem bvi{f:List (Nat×AVal)}{op:Op}{g:Nat}{as:List AVal}(h:cdx f op=some (g,as)) :
    ∃x xs at_ first caps,op=.call ⟨.value x,xs,at_⟩∧ev f x=.fn (.func g) first caps∧as=tq first (tq (evs f xs.toList) caps):=by
 unfold cdx at h
 split at h
 ·split at h
  ·rename_i hx
   cases h
   exact ⟨_,_,_,_,_,rfl,hx,rfl⟩
  ·cases h
 ·cases h
theorem bym{op:Op}{vs:List AVal}{hl:Nat→Option Blk}{n:Nat}{K:Eff→Option R}{r:R}(h:core D op vs hl n K=some r):∀c,op≠.defer c:=by
 rintro c rfl
 simp[core] at h
theorem b1i(hG:GOk D)(hG2:qg D)(hI:InlOk D){o:Oper}{st:ASt}{K:ASt→Option R}{r:R}(h:doA D o st K=some r) :
    ∃st',K st'=some r∧st'.m=st.m∧∀(q:Option Nat) (n0 B0:Nat) (w0:W0) E act w (next:Act→World→Prop) (Q:Exit→Act→World→Prop),Rel D B0 w0 E st act w→Dom E st.n →
     (∀E' act' w',Up E E' w w'→Rel D B0 w0 E' st' act' w'→Dom E' st'.n→next act' w')→o.wpIn (FR q) n0 D.P act w next Q:=by
 unfold doA at h
 split at h
 ·rename_i ts vs as hy
  split at h
  ·rename_i s hs
   obtain ⟨x,xs,at_,id,hop,hx,rfl⟩:=buj hy
   obtain ⟨h',n',hK,hrnd⟩:=hI.yld s hs _ _ _ _ _ _ r h
   refine ⟨_,hK,rfl,fun q n0 B0 w0 E act w next Q hR hD hnext=>?_⟩
   have hX:=hR.ev x
   rw[hx] at hX
   simp only[ig] at hX
   obtain ⟨l,T,hρ,hfn,hvs⟩:=hX
   obtain ⟨r0,hl,hsz,hround⟩:=hrnd B0 w0 E st.f st.m act w _ id l T hR hD (hR.evs _) hρ hvs
   have hexec:(execOp act.eval o).run D.P w=.ok (.round l r0.fn ((r0.params.zip (xs.toList.map act.eval).toArray).foldl (fun tmps (t,a)=>tmps.setIfInBounds t a) r0.tmps) r0.assign r0.body) w:=by
    have e1:(#[]:Array Value)++Array.map act.eval xs=(xs.toList.map act.eval).toArray:=by
     apply Array.ext'
     simp
    obtain ⟨dst,op,type,pos,after,guard⟩:=o
    simp only at hop
    subst hop
    simp only[execOp,resolve,hfn,Deferred.ofValue,invoke,Sem.run_bind,Sem.run_pure,Result.andThen_ok,e1,run_yield hl hsz]
   unfold Oper.wpIn
   refine ⟨fun _ _=>trivial,?_⟩
   rw[Oper.semAt_eq _ _ _ (by rw[hop];intro c hc;cases hc),hexec,Oper.uponIn_round]
   refine ⟨fun h=>bta h,(hround (n0-1) q).mono ?_⟩
   rintro e w' ⟨E',rfl,k1,k2,k3⟩
   exact hnext E' _ w' k1 (Rel.put (st:=⟨st.f,h',n',st.m⟩) (a:=.v (.bool true)) k2 (by simp only[ig]) o.dst) k3
  ·cases h
 ·split at h
  ·rename_i s as hi
   unfold bz5 at hi
   split at hi
   ·rename_i g as' hd
    split at hi
    ·rename_i s' hs
     cases hi
     obtain ⟨x,xs,at_,first,caps,hop,hx,rfl⟩:=bvi hd
     obtain ⟨hent,hrun⟩:=hI.run g s hs
     obtain ⟨v,h',n',hK,hcall⟩:=hrun _ _ _ _ r h
     refine ⟨_,hK,rfl,fun q n0 B0 w0 E act w next Q hR hD hnext=>b4s (by rw[hop];intro c hc;cases hc) ?_⟩
     have hX:=hR.ev x
     rw[hx] at hX
     simp only[ig] at hX
     obtain ⟨fv,cv,hfn,hrf,hrc⟩:=hX
     have hargs:mq E w (tq first (tq (evs st.f xs.toList) caps)) (fv++(xs.toList.map act.eval++cv)):=by
      rw[ajz,ajz]
      exact akx _ _ _ _ hrf (akx _ _ _ _ (hR.evs _) hrc)
     have hc:=hcall B0 w0 E st.f st.m act w _ hR hD hargs
     have hexec:(execOp act.eval o).run D.P w=.ok (.enter g (fv++(xs.toList.map act.eval++cv)).toArray) w:=by
      have e1:(fv.toArray++Array.map act.eval xs)++cv.toArray=(fv++(xs.toList.map act.eval++cv)).toArray:=by
       apply Array.ext'
       simp
      obtain ⟨dst,op,type,pos,after,guard⟩:=o
      simp only at hop
      subst hop
      simp only[execOp,resolve,hfn,Deferred.ofValue,invoke,Sem.run_bind,Sem.run_pure,Result.andThen_ok,e1,asf hent]
     unfold Oper.wp
     rw[hexec,Oper.upon_enter]
     refine hc.mono ?_
     rintro e w' ⟨u,E',rfl,k1,k2,k3,k4⟩
     exact hnext E' _ w' k1 (Rel.put (st:=⟨st.f,h',n',st.m⟩) k2 k4 o.dst) k3
    ·cases hi
   ·cases hi
  ·unfold opA at h
   have hnd:=bym h
   obtain ⟨eff,hK,hle,hok⟩:=byq (dst:=o.dst) (type:=o.type) (pos:=o.pos) (after:=o.after) (guard:=o.guard) hG hG2 h
   refine ⟨_,hK,rfl,fun q n0 B0 w0 E act w next Q hR hD hnext=>b4s hnd ?_⟩
   refine hok B0 w0 st rfl (fun id b hb=>?_) rfl E act w hR (fun id h1 h2=>?_) _ Q (fun E' w' u k1 k2 k3=>?_)
   ·unfold mask at hb
    cases hm:sj id (evs st.f (arv o.op)) with
    | true=>rw[hm] at hb;exact hb
    | false=>rw[hm] at hb;cases hb
   ·cases hx:E.ρ id with
    | none=>rfl
    | some x=>have:=hD id x hx;omega
   ·exact hnext E' _ w' k1 k3 (Up.dom (st:=st) (n:=st.n) hD hle k2)
theorem bp9(hG:GOk D)(hG2:qg D)(hI:InlOk D):∀(rest:List Oper) (i:Nat) (st:ASt) (K:ASt→Option R) (r:R),ops.toList.drop i=rest→b5e D ops rest st K=some r →
    ∃st',K st'=some r∧st'.m=st.m∧∀(q:Option Nat) (n0 B0:Nat) (w0:W0) E act w Q,Rel D B0 w0 E st act w→Dom E st.n →
     (∀E' act' w',Up E E' w w'→Rel D B0 w0 E' st' act' w'→Dom E' st'.n→Q Exit.normal act' w')→wpOpsIn (FR q) n0 D.P ops Q (List.range' i rest.length) act w
 | [],i,st,K,r,hd,h=>⟨st,h,rfl,fun q n0 B0 w0 E act w Q hR hD hQ=>hQ E act w (Up.refl _ _) hR hD⟩
 | o::rest,i,st,K,r,hd,h=>by
  have hoi:ops[i]?=some o:=by
   have:(ops.toList.drop i)[0]?=some o:=by rw[hd];rfl
   simpa using this
  have hd':ops.toList.drop (i+1)=rest:=by
   rw[←List.drop_drop,hd];rfl
  unfold b5e at h
  obtain ⟨s1,e1,hn1,hc⟩:=bg9 h
  rcases hc with ⟨hg,h⟩ | ⟨hg,h⟩
  ·obtain ⟨s2,hK,hm2,hok⟩:=b1i hG hG2 hI h
   obtain ⟨st',h1,h2,h4⟩:=bp9 hG hG2 hI rest (i+1) _ K r hd' hK
   refine ⟨st',h1,h2.trans (hm2.trans e1.m.symm),fun q n0 B0 w0 E act w Q hR hD hQ=>?_⟩
   simp only[Ah,List.range'_succ,wpOpsIn,hoi]
   rw[if_pos (hg.wanted hR)]
   refine hok q n0 B0 w0 E act w _ Q (hR.eqS e1) (by rw[hn1];exact hD) (fun E' a' w' k1 k2 k3=>?_)
   exact h4 q n0 B0 w0 E' a' w' Q k2 k3 (fun E2 a2 w2 k4 k5 k6=>hQ E2 a2 w2 (k1.trans k4) k5 k6)
  ·obtain ⟨st',h1,h2,h4⟩:=bp9 hG hG2 hI rest (i+1) _ K r hd' h
   refine ⟨st',h1,h2.trans e1.m.symm,fun q n0 B0 w0 E act w Q hR hD hQ=>?_⟩
   simp only[Ah,List.range'_succ,wpOpsIn,hoi]
   rw[if_neg (by rw[hg.wanted hR];simp)]
   refine ⟨fun _ _=>trivial,?_⟩
   refine h4 q n0 B0 w0 E _ w Q ((hR.eqS e1).put bj0 _) ?_ hQ
   simp only[ASt.put]
   rw[hn1]
   exact hD
theorem bye(hG:GOk D)(hG2:qg D)(hI:InlOk D){id:Nat}{st:ASt}{K:ASt→Option R}{r:R}(h:b5e D ops ops.toList st K=some r) :
    ∃st',K st'=some r∧st'.m=st.m∧∀(q:Option Nat) (n0 B0:Nat) (w0:W0) E act w Q,Rel D B0 w0 E st act w→Dom E st.n →
     (∀E' act' w',Up E E' w w'→Rel D B0 w0 E' st' act' w'→Dom E' st'.n→Q Exit.normal act' w')→(Code.region id ops false).wpIn (FR q) n0 D.P Q act w:=by
 obtain ⟨st',h1,h2,h4⟩:=bp9 hG hG2 hI ops.toList 0 st K r rfl h
 refine ⟨st',h1,h2,fun q n0 B0 w0 E act w Q hR hD hQ=>wpIn_region ?_⟩
 have:=h4 q n0 B0 w0 E act w Q hR hD hQ
 rw[List.range_eq_range']
 simpa using this
end
end Go.Abs
end

section
namespace Go.Abs
open Go Go.RowKit
structure Stp where
 o:Oper
 i:Info
 n:Nat
 n':Nat
 val:AVal
 skip:Bool
def Stp.eff(s:Stp):Eff:=⟨s.val,s.i.puts,s.n'⟩
def ai7(st0:ASt)(L:Nat→Bool):List Stp→ASt
 | []=>st0
 | s::r=>bif L r.length then (ai7 st0 L r).app s.eff s.o.dst else ai7 st0 L r
def auw(st0:ASt):List Stp→Nat
 | []=>st0.n
 | s::_=>s.n'
def bnc:Nat→Bool:=fun _=>true
def bp5(D:Ctx)(ops:Array Oper)(st0:ASt):List Stp→Prop
 | []=>True
 | s::r=>bp5 D ops st0 r∧ops[r.length]?=some s.o∧s.i.dst=s.o.dst∧bzm (r.map (·.i)) r.length s.o.after.toList=some s.i.cl∧bnu (r.map (·.i)) r.length s.i=true ∧
     s.n=auw st0 r∧s.n≤s.n'∧ad7 ops s.o (ai7 st0 bnc r) (!s.skip)∧(∀j want t,s.o.guard=some (j,want)→bgw ops j=some t→t∈s.i.looks) ∧
     (s.skip=true→s.val=.v undef∧s.i.puts=[]∧s.n'=s.n) ∧
     (s.skip=false→(∀c,s.o.op≠.defer c)∧(∀t,t∈tmpsOf (arv s.o.op)→t∈s.i.looks) ∧
      ∀(B0:Nat) (w0:W0) (st:ASt),evs st.f (arv s.o.op)=evs (ai7 st0 bnc r).f (arv s.o.op)→(∀id b,mask s.i.vs (ai7 st0 bnc r).h id=some b→iw st.h id=some b)→st.n=s.n→agk D B0 w0 st s.o s.eff)
section
variable {D:Ctx} {B0:Nat} {w0:W0} {ops:Array Oper} {st0:ASt}
theorem EqS.app{a b:ASt}(h:EqS a b)(e:Eff)(d:Option Nat):EqS (a.app e d) (b.app e d):=by
 refine ⟨fun t=>?_,fun id=>?_,h.m⟩
 ·simp only[ASt.app,adj,h.m,h.f]
 ·simp only[ASt.app,afe,h.h]
theorem bzd{a:ASt}{e e':Eff}{d d':Option Nat}(hd:bgo d d'=false)(hp:∀id,(assoc e.puts id).isSome=true→(assoc e'.puts id).isSome=true→False) :
    EqS ((a.app e d).app e' d') ((a.app e' d').app e d):=by
 refine ⟨fun t=>?_,fun id=>?_,rfl⟩
 ·simp only[ASt.app,adj]
  by_cases h1:d=some t
  ·by_cases h2:d'=some t
   ·subst h1;subst h2
    simp[bgo] at hd
   ·simp[h1,h2]
  ·simp[h1]
 ·simp only[ASt.app,afe]
  have:=hp id
  cases h1:assoc e.puts id with
  | none=>rfl
  | some b =>
   cases h2:assoc e'.puts id with
   | none=>rfl
   | some b'=>rw[h1,h2] at this;exact (this rfl rfl).elim
theorem bhe{f f':List (Nat×AVal)}:∀(xs:List Operand),(∀t,t∈tmpsOf xs→look f t=look f' t)→evs f xs=evs f' xs
 | [],_=>rfl
 | x::r,h=>by
  have ih:=bhe r (fun t ht=>h t (by cases x<;>simp[tmpsOf,ht]))
  simp only[evs,ih]
  congr 1
  cases x with
  | tmp t=>exact h t (by simp[tmpsOf])
  | _=>rfl
theorem ad7.congr{a b:ASt}{o:Oper}{q:Bool}(he:∀t,look a.f t=look b.f t)(h:ad7 ops o b q):ad7 ops o a q:=by
 unfold ad7 at *
 cases hg:o.guard with
 | none=>simp only[hg] at h ⊢;exact h
 | some jw =>
  obtain ⟨j,want⟩:=jw
  simp only[hg] at h ⊢
  obtain ⟨t,h1,⟨b,h2,h3⟩ | ⟨x,h2,h3⟩⟩:=h
  ·exact ⟨t,h1,.inl ⟨b,by rw[he];exact h2,h3⟩⟩
  ·exact ⟨t,h1,.inr ⟨x,by rw[he];exact h2,h3⟩⟩
theorem aes{x:Nat}:∀{l:List Nat},bdt x l=true↔x∈l
 | []=>by simp[bdt]
 | y::r=>by
  simp only[bdt,Bool.or_eq_true,aes (l:=r),Am]
  constructor
  ·rintro (h | h)
   ·exact .inl (Ac h)
   ·exact .inr h
  ·rintro (rfl | h)
   ·exact .inl (Nat.beq_refl _)
   ·exact .inr h
theorem bef{acc:List Info}{i:Nat}{I:Info}{F:List Info→Option R}{r:R}(h:br7 acc i I F=some r):bnu acc i I=true∧F (I::acc)=some r:=by
 unfold br7 at h
 cases hf:bnu acc i I with
 | false=>rw[hf] at h;cases h
 | true=>rw[hf] at h;exact ⟨rfl,h⟩
theorem ao4(hG:GOk D)(hG2:qg D):∀(rest:List Oper) (i:Nat) (acc:List Info) (st:ASt) (K:List Info→ASt→Option R) (r:R) (steps:List Stp),(∃tl,ops.toList.drop i=rest++tl)→steps.length=i →
    acc=steps.map (·.i)→bp5 D ops st0 steps→EqS (ai7 st0 bnc steps) st→st.n=auw st0 steps→blf D ops rest i acc st K=some r →
    ∃steps' st',K (steps'.map (·.i)) st'=some r∧bp5 D ops st0 steps'∧steps'.length=i+rest.length∧EqS (ai7 st0 bnc steps') st'∧st'.n=auw st0 steps'
 | [],i,acc,st,K,r,steps,hd,hl,ha,ht,he,hn,h=>⟨steps,st,by rw[←ha];exact h,ht,by simp[hl],he,hn⟩
 | o::rest,i,acc,st,K,r,steps,hd,hl,ha,ht,he,hn,h=>by
  obtain ⟨tl,hd⟩:=hd
  have hoi:ops[i]?=some o:=by
   have:(ops.toList.drop i)[0]?=some o:=by rw[hd];rfl
   simpa using this
  have hd':∃tl,ops.toList.drop (i+1)=rest++tl:=⟨tl,by rw[←List.drop_drop,hd];rfl⟩
  unfold blf at h
  split at h
  ·cases h
  ·rename_i cl hcl
   obtain ⟨s1,e1,hn1,hc⟩:=bg9 h
   have es1:EqS (ai7 st0 bnc steps) s1:=he.trans e1
   have gcongr:∀q,ad7 ops o st q→ad7 ops o (ai7 st0 bnc steps) q:=fun q hg=>hg.congr he.f
   rcases hc with ⟨hg,h⟩ | ⟨hg,h⟩
   ·unfold opD at h
    have hnd:=bym h
    obtain ⟨eff,hK,hle,hok⟩:=byq (dst:=o.dst) (type:=o.type) (pos:=o.pos) (after:=o.after) (guard:=o.guard) hG hG2 h
    obtain ⟨hf,hK⟩:=bef hK
    have hev:evs (ai7 st0 bnc steps).f (arv o.op)=evs s1.f (arv o.op):=bhe _ (fun t _=>es1.f t)
    obtain ⟨steps',st',k1,k2,k3,k4,k5⟩:=ao4 hG hG2 rest (i+1) _ _ K r (⟨o,b1n ops o (bl1 o.op (evs s1.f (arv o.op))) eff.puts cl,s1.n,eff.n,eff.val,false⟩::steps) hd' (by simp[hl]) (by simp[ha])
     (by
      refine ⟨ht,by rw[hl];exact hoi,rfl,?_,?_,by rw[hn1,hn],hle,gcongr _ hg,?_,(fun h=>by cases h),fun _=>⟨hnd,?_,?_⟩⟩
      ·rw[←ha,hl];exact hcl
      ·rw[←ha,hl];exact hf
      ·intro j want t hgd hgt
       refine mg.2 (.inl ?_)
       simp only at hgd
       simp only[bsb,hgd,hgt]
       simp
      ·intro t ht'
       exact mg.2 (.inr ht')
      ·intro B0 w0 s hs hh hsn
       refine hok B0 w0 s (hs.trans hev) (fun id b hb=>hh id b ?_) hsn
       unfold mask at hb ⊢
       rw[es1.h]
       exact hb) (es1.app _ _) rfl hK
    exact ⟨steps',st',k1,k2,by rw[k3];simp;omega,k4,k5⟩
   ·obtain ⟨hf,hK⟩:=bef h
    obtain ⟨steps',st',k1,k2,k3,k4,k5⟩:=ao4 hG hG2 rest (i+1) _ _ K r (⟨o,bmb ops o cl,s1.n,s1.n,.v undef,true⟩::steps) hd' (by simp[hl]) (by simp[ha])
     (by
      refine ⟨ht,by rw[hl];exact hoi,rfl,?_,?_,by rw[hn1,hn],Ap _,gcongr _ hg,?_,(fun _=>⟨rfl,rfl,rfl⟩),fun h=>by cases h⟩
      ·rw[←ha,hl];exact hcl
      ·rw[←ha,hl];exact hf
      ·intro j want t hgd hgt
       simp only at hgd
       simp only[bmb,bsb,hgd,hgt]
       simp) ((es1.app ⟨.v undef,[],s1.n⟩ o.dst).trans ⟨fun _=>rfl,fun _=>rfl,rfl⟩) rfl hK
    exact ⟨steps',st',k1,k2,by rw[k3];simp;omega,k4,k5⟩
end
end Go.Abs
end

section
namespace Go.Abs
open Go Go.RowKit
section
variable {D:Ctx} {B0:Nat} {w0:W0} {ops:Array Oper} {st0:ASt}
theorem abj:∀(p:List Stp) {r:List Stp},bp5 D ops st0 (p++r)→bp5 D ops st0 r
 | [],r,h=>h
 | s::p,r,h=>abj p h.1
theorem bof(L:Nat→Bool):∀(l:List Stp),(ai7 st0 L l).m=st0.m
 | []=>rfl
 | s::r=>by
  simp only[ai7]
  cases L r.length with
  | true=>exact bof L r
  | false=>exact bof L r
theorem aon{L L':Nat→Bool}:∀(l:List Stp),(∀j,j<l.length→L j=L' j)→ai7 st0 L l=ai7 st0 L' l
 | [],_=>rfl
 | s::r,h=>by
  simp only[ai7,h r.length (by simp)]
  rw[aon r (fun j hj=>h j (by simp;omega))]
theorem bj2{L:Nat→Bool}{t:Nat}:∀(r:List Stp),(∀p x q,r=p++x::q→L q.length=false→x.o.dst≠some t) →
    look (ai7 st0 L r).f t=look (ai7 st0 bnc r).f t
 | [],_=>rfl
 | s::r,h=>by
  have ih:=bj2 r (fun p x q hx=>h (s::p) x q (by rw[hx];rfl))
  simp only[ai7,bnc,cond_true]
  cases hl:L r.length with
  | true =>
   simp only[cond_true,ASt.app,adj,bof,ih]
  | false =>
   have:=h [] s r rfl hl
   simp only[cond_false,ASt.app,adj,this,false_and,if_false,ih]
theorem bg7{L:Nat→Bool}{id:Nat}:∀(r:List Stp),(∀p x q,r=p++x::q→L q.length=false→assoc x.i.puts id=none) →
    iw (ai7 st0 L r).h id=iw (ai7 st0 bnc r).h id
 | [],_=>rfl
 | s::r,h=>by
  have ih:=bg7 r (fun p x q hx=>h (s::p) x q (by rw[hx];rfl))
  simp only[ai7,bnc,cond_true]
  cases hl:L r.length with
  | true =>
   simp only[cond_true,ASt.app,afe,ih]
  | false =>
   have:=h [] s r rfl hl
   simp only[cond_false,ASt.app,afe,Stp.eff,this,ih]
theorem bjt{L:Nat→Bool}{t:Nat}:∀(p r:List Stp),(∀p1 x q,p++r=p1++x::(q++r)→L (q++r).length=true→x.o.dst≠some t) →
    look (ai7 st0 L (p++r)).f t=look (ai7 st0 L r).f t
 | [],r,_=>rfl
 | s::p,r,h=>by
  have ih:=bjt p r (fun p1 x q hx=>h (s::p1) x q (by rw[Ai,hx];rfl))
  simp only[Ai,ai7]
  cases hl:L (p++r).length with
  | true =>
   have:=h [] s p rfl hl
   simp only[cond_true,ASt.app,adj,this,false_and,if_false,ih]
  | false=>simp only[cond_false,ih]
theorem bgx{L:Nat→Bool}{id:Nat}:∀(p r:List Stp),(∀p1 x q,p++r=p1++x::(q++r)→L (q++r).length=true→assoc x.i.puts id=none) →
    iw (ai7 st0 L (p++r)).h id=iw (ai7 st0 L r).h id
 | [],r,_=>rfl
 | s::p,r,h=>by
  have ih:=bgx p r (fun p1 x q hx=>h (s::p1) x q (by rw[Ai,hx];rfl))
  simp only[Ai,ai7]
  cases hl:L (p++r).length with
  | true =>
   have:=h [] s p rfl hl
   simp only[cond_true,ASt.app,afe,Stp.eff,this,ih]
  | false=>simp only[cond_false,ih]
theorem bf0{L:Nat→Bool}{s:Stp}{r:List Stp}(hL:L r.length=false):∀(p:List Stp),
    (∀p1 x q,p=p1++x::q→L (q++s::r).length=true→bgo s.o.dst x.o.dst=false∧∀id,(assoc s.i.puts id).isSome=true→(assoc x.i.puts id).isSome=true→False) →
    EqS (ai7 st0 (fun j=>Ad j r.length||L j) (p++s::r)) ((ai7 st0 L (p++s::r)).app s.eff s.o.dst)
 | [],_=>by
  simp only[List.nil_append,ai7,Nat.beq_refl,Bool.true_or,cond_true,hL,cond_false]
  rw[aon (L:=fun j=>Ad j r.length||L j) (L':=L) r (fun j hj=>by
   have:Ad j r.length=false:=by
    cases hb:Ad j r.length with
    | false=>rfl
    | true=>have:=Ac hb;omega
   simp[this])]
  exact EqS.refl _
 | x::p,h=>by
  have ih:=bf0 hL p (fun p1 y q hy=>h (x::p1) y q (by rw[hy];rfl))
  simp only[Ai,ai7]
  have hne:Ad (p++s::r).length r.length=false:=by
   cases hb:Ad (p++s::r).length r.length with
   | false=>rfl
   | true=>have:=Ac hb;simp at this;omega
  rw[hne,Az]
  cases hl:L (p++s::r).length with
  | false=>simp only[cond_false];exact ih
  | true =>
   simp only[cond_true]
   obtain ⟨h1,h2⟩:=h [] x p rfl hl
   exact (ih.app _ _).trans (bzd h1 (fun id a b=>h2 id a b))
theorem bov{α:Type}:∀(l:List α) (n:Nat) (x:α),nth l n=some x→∃p q,l=p++x::q∧p.length=n
 | [],n,x,h=>by simp[nth] at h
 | a::r,0,x,h=>by simp[nth] at h;subst h;exact ⟨[],r,rfl,rfl⟩
 | a::r,n+1,x,h=>by
  simp only[nth] at h
  obtain ⟨p,q,h1,h2⟩:=bov r n x h
  exact ⟨a::p,q,by rw[h1];rfl,by simp[h2]⟩
theorem brw{k:Nat}:∀{a l:List Nat},k∈lun a l→k∈a∨k∈l
 | [],l,h=>.inr h
 | x::r,l,h=>by
  simp only[lun] at h
  cases hm:bdt x l with
  | true =>
   rw[hm] at h
   exact (brw h).imp (Al _) id
  | false =>
   rw[hm] at h
   rcases Am.1 h with rfl | h
   ·exact .inl (Aj ..)
   ·exact (brw h).imp (Al _) id
theorem alm{acc:List Info}{i:Nat}(hi:acc.length=i):∀(es:List Edge) (cl:List Nat),bzm acc i es=some cl →
    (∀e,e∈es→Region.binds .any e=true→e.on<i) ∧
    ∀k,k∈cl→∃e,e∈es∧Region.binds .any e=true∧(k=e.on∨∃p x q,acc=p++x::q∧q.length=e.on∧k∈x.cl)
 | [],cl,h=>by
  simp only[bzm] at h
  cases h
  exact ⟨fun e he=>by simp at he,fun k hk=>by simp at hk⟩
 | e::es,cl,h=>by
  simp only[bzm] at h
  cases hb:Region.binds .any e with
  | false =>
   rw[hb] at h
   simp only[cond_false] at h
   obtain ⟨h1,h2⟩:=alm hi es cl h
   refine ⟨fun e' he' hb'=>?_,fun k hk=>?_⟩
   ·rcases Am.1 he' with rfl | he'
    ·rw[hb] at hb';cases hb'
    ·exact h1 e' he' hb'
   ·obtain ⟨e',he',rest⟩:=h2 k hk
    exact ⟨e',Al _ he',rest⟩
  | true =>
   rw[hb] at h
   simp only[cond_true] at h
   cases hlt:Nat.blt e.on i with
   | false=>rw[hlt] at h;cases h
   | true =>
    rw[hlt] at h
    simp only[cond_true] at h
    have hlt':e.on<i:=by simpa using hlt
    split at h
    ·rename_i x l hx hl
     cases h
     obtain ⟨h1,h2⟩:=alm hi es l hl
     obtain ⟨p,q,hacc,hp⟩:=bov _ _ _ hx
     refine ⟨fun e' he' hb'=>?_,fun k hk=>?_⟩
     ·rcases Am.1 he' with rfl | he'
      ·exact hlt'
      ·exact h1 e' he' hb'
     ·rcases brw hk with hk | hk
      ·rcases Am.1 hk with rfl | hk
       ·exact ⟨e,Aj ..,hb,.inl rfl⟩
       ·refine ⟨e,Aj ..,hb,.inr ⟨p,x,q,hacc,?_,hk⟩⟩
        have:acc.length=p.length+(q.length+1):=by rw[hacc];simp
        omega
      ·obtain ⟨e',he',rest⟩:=h2 k hk
       exact ⟨e',Al _ he',rest⟩
    ·cases h
theorem bky:∀(acc:List Info) (y:Info),bnu acc acc.length y=true→∀p x q,acc=p++x::q→q.length∈y.cl∨bfb x y=true
 | [],y,h,p,x,q,hx=>by simp at hx
 | a::r,y,h,p,x,q,hx=>by
  simp only[bnu,Aq,Bool.or_eq_true,Ah,Nat.add_sub_cancel] at h
  cases p with
  | nil =>
   simp only[List.nil_append,A8.injEq] at hx
   obtain ⟨rfl,rfl⟩:=hx
   exact h.1.imp aes.1 id
  | cons b p =>
   simp only[Ai,A8.injEq] at hx
   exact bky r y h.2 p x q hx.2
theorem ail{x y:Info}(h:bfb x y=true):(∀d,x.dst=some d→d∉y.looks)∧(∀d,y.dst=some d→d∉x.looks)∧bgo x.dst y.dst=false∧axe x.puts y.vs y.puts=false∧axe y.puts x.vs x.puts=false:=by
 simp only[bfb,Bool.not_eq_true',Aw] at h
 obtain ⟨⟨⟨⟨h1,h2⟩,h3⟩,h4⟩,h5⟩:=h
 have key:∀{d l},bl4 d l=false→∀e,d=some e→e∉l:=by
  rintro d l hd e rfl hm
  simp only[bl4] at hd
  rw[aes.2 hm] at hd
  cases hd
 exact ⟨key h1,key h2,h3,h4,h5⟩
theorem am0:∀(p:Hp) {vs:List AVal} {h:Hp},axe p vs h=false→∀id,(assoc p id).isSome=true→sj id vs=false∧assoc h id=none
 | [],vs,h,hp,id,hs=>by simp[assoc] at hs
 | (k,b)::r,vs,h,hp,id,hs=>by
  simp only[axe,Aw] at hp
  simp only[assoc] at hs
  cases hb:Ad k id with
  | true =>
   have:=Ac hb
   subst this
   refine ⟨hp.1.1,?_⟩
   cases h1:assoc h k with
   | none=>rfl
   | some _=>rw[h1] at hp;simp at hp
  | false =>
   rw[hb] at hs
   exact am0 r hp.2 id hs
theorem bn6{p:List Stp}{y:Stp}{m:List Stp}{x:Stp}{q:List Stp}(h:bp5 D ops st0 (p++y::(m++x::q))):q.length∈y.i.cl∨bfb x.i y.i=true:=by
 have h1:=abj p h
 obtain ⟨_,_,_,_,hf,_⟩:=h1
 have hf':bnu ((m++x::q).map (·.i)) ((m++x::q).map (·.i)).length y.i=true:=by rw[List.length_map];exact hf
 have:=bky _ _ hf' (m.map (·.i)) x.i (q.map (·.i)) (by simp)
 simpa using this
theorem ae5:∀(p:List Stp) {r:List Stp},bp5 D ops st0 (p++r)→auw st0 r≤auw st0 (p++r)
 | [],r,h=>Ap _
 | s::p,r,h=>by
  have h3:=ae5 p h.1
  obtain ⟨_,_,_,_,_,h1,h2,_⟩:=h
  have h1:s.n=auw st0 (p++r):=h1
  show auw st0 r≤s.n'
  omega
theorem ckr:∀(l:List Stp),bp5 D ops st0 l→∀p s r,l=p++s::r→∀k,k∈s.i.cl→k<r.length:=by
 intro l h p s r hl k hk
 have h1:bp5 D ops st0 (s::r):=abj p (hl ▸ h)
 have key:∀(n:Nat) (s:Stp) (r:List Stp),r.length=n→bp5 D ops st0 (s::r)→∀k,k∈s.i.cl→k<r.length:=by
  intro n
  induction n using Ar with
  | _ n ih =>
   intro s r hn h k hk
   obtain ⟨h0,_,_,hc,_⟩:=h
   obtain ⟨g1,g2⟩:=alm (by simp) _ _ hc
   obtain ⟨e,he,hb,rfl | ⟨p,x,q,hx,hq,hk'⟩⟩:=g2 k hk
   ·exact g1 e he hb
   ·have hlt:=g1 e he hb
    obtain ⟨p',q0,hpq,hp1,hp2⟩:=Av.1 hx
    obtain ⟨x',q',hq0,hx1,hx2⟩:=Ay.1 hp2
    subst hq0
    subst hpq
    subst hx1
    have hq':q'.length=e.on:=by rw[←hq,←hx2];simp
    have:=ih q'.length (by rw[←hn];simp;omega) x' q' rfl (abj p' h0) k hk'
    simp;omega
 exact key _ s r rfl h1 k hk
end
end Go.Abs
end

section
namespace Go.Abs
open Go Go.RowKit
section
variable {D:Ctx} {B0:Nat} {w0:W0} {ops:Array Oper} {st0:ASt}
structure Under (D:Ctx) (B0:Nat) (w0:W0) (st0:ASt) (steps:List Stp) (E0:Env) (w00:World) (L:Nat→Bool) (E:Env) (act:Act) (w:World):Prop where
 up:Up E0 E w00 w
 rel:Rel D B0 w0 E (ai7 st0 L steps) act w
 dom:∀id u,E.ρ id=some u→id<st0.n∨∃p s r,steps=p++s::r∧L r.length=true∧s.n≤id∧id<s.n'
 closed:∀p s r,steps=p++s::r→L r.length=true→∀k,k∈s.i.cl→L k=true
theorem ad7.congr'{a b:ASt}{o:Oper}{q:Bool}(he:∀j want t,o.guard=some (j,want)→bgw ops j=some t→look a.f t=look b.f t)(h:ad7 ops o b q):ad7 ops o a q:=by
 unfold ad7 at *
 cases hg:o.guard with
 | none=>simp only[hg] at h ⊢;exact h
 | some jw =>
  obtain ⟨j,want⟩:=jw
  simp only[hg] at h ⊢
  obtain ⟨t,h1,⟨b,h2,h3⟩ | ⟨x,h2,h3⟩⟩:=h
  ·exact ⟨t,h1,.inl ⟨b,by rw[he j want t hg h1];exact h2,h3⟩⟩
  ·exact ⟨t,h1,.inr ⟨x,by rw[he j want t hg h1];exact h2,h3⟩⟩
theorem aob{h:Hp}{id:Nat}(hn:(assoc h id).isSome=true→False):assoc h id=none:=by
 cases hx:assoc h id with
 | none=>rfl
 | some _=>rw[hx] at hn;exact (hn rfl).elim
theorem btz{p:List Stp}{s:Stp}{r:List Stp}(h:bp5 D ops st0 (p++s::r)):s.i.dst=s.o.dst:=(abj p h).2.2.1
theorem aia{α:Type}:∀(l:List α) (i:Nat),i<l.length→∃p s r,l=p++s::r∧r.length=i
 | [],i,h=>by simp at h
 | a::l,i,h=>by
  by_cases he:i=l.length
  ·exact ⟨[],a,l,rfl,he.symm⟩
  ·simp only[Ah] at h
   obtain ⟨p,s,r,h1,h2⟩:=aia l i (by omega)
   exact ⟨a::p,s,r,by rw[h1];rfl,h2⟩
theorem aif{α:Type}{p p':List α}{s s':α}{r r':List α}(h:p++s::r=p'++s'::r')(hl:r.length=r'.length):s=s'∧r=r':=by
 have h1:(p++s::r).length=(p'++s'::r').length:=by rw[h]
 have h2:p.length=p'.length:=by simp at h1;omega
 have h3:=Au h h2
 simp only[A8.injEq] at h3
 exact h3.2
theorem bjc{steps p r:List Stp}{s:Stp}(hT:bp5 D ops st0 steps)(hs:steps=p++s::r){E0:Env}{w00:World}{L:Nat→Bool}{E:Env}{act:Act}{w:World}(hU:Under D B0 w0 st0 steps E0 w00 L E act w)
    (hL:L r.length=false) (hready:∀e,e∈s.o.after→Region.binds .any e=true→L e.on=true) {q:Option Nat} {n0:Nat} {Q:Exit→Act→World→Prop} {K:Act→World→Prop}
    (hK:∀E' a' w',Under D B0 w0 st0 steps E0 w00 (fun j=>Ad j r.length||L j) E' a' w'→K a' w'):wpOpIn (FR q) n0 D.P ops Q r.length K act w:=by
 subst hs
 obtain ⟨hT0,hop,hdst,hcl,hfit,hn,hle,hguard,hglook,hskip,hdo⟩:=abj p hT
 -- all ahead has been done
 have hahead:∀k,k∈s.i.cl→L k=true:=by
  intro k hk
  obtain ⟨g1,g2⟩:=alm (by simp) _ _ hcl
  obtain ⟨e,he,hb,rfl | ⟨p1,x,q,hx,hq,hk'⟩⟩:=g2 k hk
  ·exact hready e (by simpa using he) hb
  ·obtain ⟨p',q0,hpq,hp1,hp2⟩:=Av.1 hx
   obtain ⟨x',q',hq0,hx1,hx2⟩:=Ay.1 hp2
   subst hq0
   subst hx1
   refine hU.closed (p++s::p') x' q' (by rw[hpq];simp) ?_ k hk'
   have:q'.length=e.on:=by rw[←hq,←hx2];simp
   rw[this]
   exact hready e (by simpa using he) hb
 -- the later ones that have been done are apart from this one
 have later:∀p1 x q,p++s::r=p1++x::(q++s::r)→L (q++s::r).length=true→bfb s.i x.i=true∧x.i.dst=x.o.dst:=by
  intro p1 x q hx hLx
  refine ⟨?_,btz (hx ▸ hT)⟩
  rcases bn6 (hx ▸ hT) with h | h
  ·have:=hU.closed p1 x (q++s::r) hx hLx _ h
   rw[hL] at this
   cases this
  ·exact h
 have earlier:∀p1 x q,r=p1++x::q→L q.length=false→bfb x.i s.i=true∧x.i.dst=x.o.dst:=by
  intro p1 x q hx hLx
  refine ⟨?_,btz (hx ▸ hT0)⟩
  rcases bn6 (p:=p) (y:=s) (m:=p1) (x:=x) (q:=q) (hx ▸ hT) with h | h
  ·have:=hahead _ h
   rw[hLx] at this
   cases this
  ·exact h
 have hlk:∀t,t∈s.i.looks→look (ai7 st0 L (p++s::r)).f t=look (ai7 st0 bnc r).f t:=by
  intro t ht
  rw[bjt p (s::r) (fun p1 x q hx hLx=>?_)]
  ·have:ai7 st0 L (s::r)=ai7 st0 L r:=by simp only[ai7,hL,cond_false]
   rw[this]
   refine bj2 r (fun p1 x q hx hLx hd=>?_)
   obtain ⟨ha,hxd⟩:=earlier p1 x q hx hLx
   exact (ail ha).1 t (by rw[hxd];exact hd) ht
  ·intro hd
   obtain ⟨ha,hxd⟩:=later p1 x q hx hLx
   exact (ail ha).2.1 t (by rw[hxd];exact hd) ht
 have hhlook:∀id,sj id s.i.vs=true→iw (ai7 st0 L (p++s::r)).h id=iw (ai7 st0 bnc r).h id:=by
  intro id hid
  rw[bgx p (s::r) (fun p1 x q hx hLx=>?_)]
  ·have:ai7 st0 L (s::r)=ai7 st0 L r:=by simp only[ai7,hL,cond_false]
   rw[this]
   refine bg7 r (fun p1 x q hx hLx=>aob fun hd=>?_)
   obtain ⟨ha,hxd⟩:=earlier p1 x q hx hLx
   have:=(am0 _ (ail ha).2.2.2.1 id hd).1
   rw[hid] at this
   cases this
  ·refine aob fun hd=>?_
   obtain ⟨ha,hxd⟩:=later p1 x q hx hLx
   have:=(am0 _ (ail ha).2.2.2.2 id hd).1
   rw[hid] at this
   cases this
 have hins:=bf0 (st0:=st0) hL p (s:=s) (fun p1 x q hx hLx=>by
  obtain ⟨ha,hxd⟩:=later p1 x q (by rw[hx];simp) hLx
  refine ⟨by rw[←hdst,←hxd];exact (ail ha).2.2.1,fun id h1 h2=>?_⟩
  have:=(am0 _ (ail ha).2.2.2.1 id h1).2
  rw[this] at h2
  cases h2)
 have hclosed:∀p1 x q,p++s::r=p1++x::q→(Ad q.length r.length||L q.length)=true→∀k,k∈x.i.cl→(Ad k r.length||L k)=true:=by
  intro p1 x q hx hLx k hk
  cases hb:Ad q.length r.length with
  | true =>
   have hql:=Ac hb
   obtain ⟨rfl,rfl⟩:=aif hx hql.symm
   rw[hahead k hk]
   simp
  | false =>
   rw[hb,Az] at hLx
   rw[hU.closed p1 x q hx hLx k hk]
   simp
 have hwant:=(hguard.congr' (a:=ai7 st0 L (p++s::r)) (fun j want t h1 h2=>hlk t (hglook j want t h1 h2))).wanted hU.rel
 unfold wpOpIn
 rw[hop]
 simp only[hwant]
 cases hsk:s.skip with
 | true =>
  obtain ⟨hv,hp,hn'⟩:=hskip hsk
  simp only[Bool.not_true,Bool.false_eq_true,if_false]
  refine ⟨fun _ _=>trivial,?_⟩
  refine hK E _ w ⟨hU.up,?_,fun id u hu=>?_,hclosed⟩
  ·have h1:=hU.rel.put bj0 s.o.dst
   refine h1.eqS (EqS.trans ?_ hins.symm)
   have:s.eff=⟨.v undef,[],s.n'⟩:=by unfold Stp.eff;rw[hv,hp]
   rw[this]
   exact ⟨fun _=>rfl,fun _=>rfl,rfl⟩
  ·rcases hU.dom id u hu with h | ⟨p1,x,q,h1,h2,h3⟩
   ·exact .inl h
   ·exact .inr ⟨p1,x,q,h1,by simp only[h2,Bool.or_true],h3⟩
 | false =>
  obtain ⟨hnd,htm,hok⟩:=hdo hsk
  simp only[Bool.not_false,if_true]
  refine b4s hnd ?_
  refine hok B0 w0 { ai7 st0 L (p++s::r) with n:=s.n } ?_ (fun id b hb=>?_) rfl E act w (hU.rel.b2q _) (fun id h1 h2=>?_) K Q (fun E' w' u k1 k2 k3=>?_)
  ·exact bhe _ (fun t ht=>hlk t (htm t ht))
  ·unfold mask at hb
   cases hm:sj id s.i.vs with
   | false=>rw[hm] at hb;cases hb
   | true=>rw[hm] at hb;simp only[cond_true] at hb;rw[hhlook id hm];exact hb
  ·cases hx:E.ρ id with
   | none=>rfl
   | some x =>
    exfalso
    simp only[Stp.eff] at h2
    simp only at h1
    rcases hU.dom id x hx with h | ⟨p1,y,q,e1,e2,e3,e4⟩
    ·have:=ae5 r (r:=[]) (by simpa using hT0)
     simp only[Ao] at this
     have h5:auw st0 ([]:List Stp)=st0.n:=rfl
     omega
    ·-- two operations' numbers
     rcases Nat.lt_trichotomy q.length r.length with hlt | heq | hgt
     ·-- earlier
      obtain ⟨p2,y',q',f1,f2⟩:=aia r q.length hlt
      have f3:(p++s::p2)++y'::q'=p1++y::q:=by rw[←e1,f1];simp
      obtain ⟨rfl,rfl⟩:=aif f3 f2
      have:=ae5 p2 (r:=y'::q') (by rw[←f1];exact hT0)
      rw[←f1] at this
      have h5:auw st0 (y'::q')=y'.n':=rfl
      omega
     ·obtain ⟨rfl,rfl⟩:=aif e1 heq.symm
      rw[hL] at e2
      cases e2
     ·-- later
      have hlen:(p++s::r).length=p1.length+(q.length+1):=by rw[e1];simp
      have:∃q0,q=q0++s::r:=by
       obtain ⟨q0,t0,h5,h6⟩:∃q0 t0,q=q0++t0∧t0.length=r.length+1:=⟨q.take (q.length-(r.length+1)),q.drop (q.length-(r.length+1)),(List.take_append_drop _ _).symm,by rw[List.length_drop];omega⟩
       refine ⟨q0,?_⟩
       have h7:p++s::r=(p1++y::q0)++t0:=by rw[e1,h5];simp
       have h8:p.length=(p1++y::q0).length:=by
        have:=congrArg List.length h7
        simp only[List.length_append,Ah] at this ⊢
        omega
       have:=(Au h7 h8).2
       rw[h5,this]
      obtain ⟨q0,rfl⟩:=this
      have h9:=abj p1 (e1 ▸ hT)
      obtain ⟨h10,_,_,_,_,h11,_⟩:=h9
      have:=ae5 q0 h10
      have h5:auw st0 (s::r)=s.n':=rfl
      omega
  ·refine hK E' _ w' ⟨hU.up.trans k1,k3.eqS (EqS.trans ?_ hins.symm),fun id x hx=>?_,hclosed⟩
   ·exact ⟨fun _=>rfl,fun _=>rfl,rfl⟩
   ·rcases k2 id x hx with h | h
    ·rcases hU.dom id x h with h | ⟨p1,y,q,h1,h2,h3⟩
     ·exact .inl h
     ·exact .inr ⟨p1,y,q,h1,by simp only[h2,Bool.or_true],h3⟩
    ·exact .inr ⟨p,s,r,rfl,by simp,h⟩
def unl(L:Nat→Bool):Nat→Nat
 | 0=>0
 | n+1=>unl L n+(bif L n then 0 else 1)
theorem bmk{L:Nat→Bool}:∀(n:Nat),unl L n=0→∀j,j<n→L j=true
 | 0,_,j,hj=>by omega
 | n+1,h,j,hj=>by
  simp only[unl] at h
  by_cases he:j=n
  ·subst he
   cases hl:L j with
   | true=>rfl
   | false=>rw[hl] at h;simp at h
  ·exact bmk n (by omega) j (by omega)
theorem brm{L:Nat→Bool}{i:Nat}(hi:L i=false):∀(n:Nat),unl L n=unl (fun j=>Ad j i||L j) n+(if i<n then 1 else 0)
 | 0=>by simp[unl]
 | n+1=>by
  simp only[unl,brm hi n]
  by_cases he:n=i
  ·subst he
   simp[hi]
  ·have:Ad n i=false:=by
     cases hb:Ad n i with
     | false=>rfl
     | true=>exact absurd (Ac hb) he
   rw[this,Az]
   by_cases h2:i<n
   ·rw[if_pos h2,if_pos (by omega)];omega
   ·rw[if_neg h2,if_neg (by omega)];omega
theorem bmt{L:Nat→Bool}(hL:∀j,L j=false):∀n,unl L n=n
 | 0=>rfl
 | n+1=>by simp[unl,hL,bmt hL n]
theorem beh{steps:List Stp}{E0:Env}{w00:World}{L L':Nat→Bool}{E:Env}{act:Act}{w:World}(h:∀j,j<steps.length→L j=L' j)(hT:bp5 D ops st0 steps)(hU:Under D B0 w0 st0 steps E0 w00 L E act w):Under D B0 w0 st0 steps E0 w00 L' E act w:=by
 have hlt:∀{p:List Stp} {s:Stp} {r:List Stp},steps=p++s::r→r.length<steps.length:=by intro p s r h;rw[h];simp;omega
 refine ⟨hU.up,by rw[←aon steps h];exact hU.rel,fun id u hu=>?_,fun p s r hs hl k hk=>?_⟩
 ·rcases hU.dom id u hu with h1 | ⟨p,s,r,h1,h2,h3⟩
  ·exact .inl h1
  ·exact .inr ⟨p,s,r,h1,by rw[←h _ (hlt h1)];exact h2,h3⟩
 ·have hk':=ckr steps hT p s r hs k hk
  have:=hlt hs
  rw[←h k (by omega)]
  exact hU.closed p s r hs (by rw[h _ (hlt hs)];exact hl) k hk
theorem bz7{steps:List Stp}(hT:bp5 D ops st0 steps)(hlen:steps.length=ops.size){E0:Env}{w00:World}{st':ASt}(he:EqS (ai7 st0 bnc steps) st')(hn':st'.n=auw st0 steps){q:Option Nat}{n0:Nat}{Q:Exit→Act→World→Prop}
    (hQ:∀E' a' w',Up E0 E' w00 w'→Rel D B0 w0 E' st' a' w'→Dom E' st'.n→Q .normal a' w') :
    ∀(fuel:Nat) (listed:Array Bool) (E:Env) (act:Act) (w:World),listed.size=ops.size→unl (fun j=>listed.getD j false) ops.size=fuel→Under D B0 w0 st0 steps E0 w00 (fun j=>listed.getD j false) E act w →
     wpAnyIn (FR q) n0 D.P .any ops Q fuel listed act w:=by
 have edges:∀p s r,steps=p++s::r→∀e,e∈s.o.after→Region.binds .any e=true→e.on<r.length:=by
  intro p s r hs e hmem hb
  obtain ⟨_,_,_,hc,_⟩:=abj p (hs ▸ hT)
  exact (alm (by simp) _ _ hc).1 e (by simpa using hmem) hb
 have opAt:∀p s r,steps=p++s::r→ops[r.length]?=some s.o:=fun p s r hs=>by
  obtain ⟨_,h,_⟩:=abj p (hs ▸ hT)
  exact h
 have done:∀(listed:Array Bool) E act w,listed.size=ops.size→Region.ready .any ops listed=[]→Under D B0 w0 st0 steps E0 w00 (fun j=>listed.getD j false) E act w→Q .normal act w:=by
  intro listed E act w hsz hr hU
  have hall:∀j,j<ops.size→listed.getD j false=true:=by
   intro j
   induction j using Ar with
   | _ j ih =>
    intro hj
    cases hl:listed.getD j false with
    | true=>rfl
    | false =>
     exfalso
     obtain ⟨p,s,r,hs,hrl⟩:=aia steps j (by omega)
     have:j∈Region.ready .any ops listed:=by
      refine mem_ready.2 ⟨?_,s.o,by rw[←hrl];exact opAt p s r hs,fun e hmem hb=>?_⟩
      ·rw[Aa] at hl ⊢
       rw[Ab (by omega)] at hl ⊢
       exact hl
      ·have:=edges p s r hs e hmem hb
       exact ih e.on (by omega) (by omega)
     rw[hr] at this
     cases this
  have hrun:ai7 st0 (fun j=>listed.getD j false) steps=ai7 st0 bnc steps:=aon steps (fun j hj=>hall j (by omega))
  refine hQ E act w hU.up ?_ ?_
  ·have:=hU.rel
   rw[hrun] at this
   exact this.eqS he
  ·intro id u hu
   rcases hU.dom id u hu with h | ⟨p,s,r,hs,_,_,h⟩
   ·have:=ae5 steps (r:=[]) (by simpa using hT)
    simp only[Ao] at this
    have h5:auw st0 ([]:List Stp)=st0.n:=rfl
    omega
   ·have:=ae5 p (r:=s::r) (hs ▸ hT)
    rw[←hs] at this
    have h5:auw st0 (s::r)=s.n':=rfl
    omega
 intro fuel
 induction fuel with
 | zero =>
  intro listed E act w hsz hun hU
  have hr:Region.ready .any ops listed=[]:=by
   cases h:Region.ready .any ops listed with
   | nil=>rfl
   | cons i rest =>
    exfalso
    have hi:i∈Region.ready .any ops listed:=by rw[h];exact Aj ..
    obtain ⟨h1,o,ho,_⟩:=mem_ready.1 hi
    have hlt:=(Ag.1 ho).1
    have:=bmk _ hun i hlt
    rw[Aa,Ab (by omega)] at this h1
    simp at this h1
    rw[this] at h1
    cases h1
  exact ⟨hr,done listed E act w hsz hr hU⟩
 | succ fuel ih =>
  intro listed E act w hsz hun hU
  refine ⟨fun hr=>done listed E act w hsz hr hU,fun i hi=>?_⟩
  obtain ⟨h1,o,ho,hedge⟩:=mem_ready.1 hi
  have hlt:=(Ag.1 ho).1
  obtain ⟨p,s,r,hs,hrl⟩:=aia steps i (by omega)
  have hso:s.o=o:=by
   have:=opAt p s r hs
   rw[hrl,ho] at this
   cases this
   rfl
  have hLi:listed.getD i false=false:=by
   rw[Aa,Ab (by omega)] at h1 ⊢
   exact h1
  subst hrl
  refine bjc hT hs hU hLi (fun e he hb=>hedge e (by rw[←hso];exact he) hb) (fun E' a' w' hU'=>?_)
  have hset:∀j,j<ops.size→(Ad j r.length||listed.getD j false)=(listed.setIfInBounds r.length true).getD j false:=by
   intro j hj
   rw[Aa,Aa,Af]
   by_cases he:r.length=j
   ·subst he
    simp[hsz,hj]
   ·have:Ad j r.length=false:=by
      cases hb:Ad j r.length with
      | false=>rfl
      | true=>exact absurd (Ac hb).symm he
    rw[this,if_neg he]
    simp
  refine ih _ E' a' w' (by simp[hsz]) ?_ (beh (fun j hj=>hset j (by omega)) hT hU')
  have h5:=brm (L:=fun j=>listed.getD j false) hLi ops.size
  rw[if_pos hlt,hun] at h5
  have h6:unl (fun j=>Ad j r.length||listed.getD j false) ops.size=unl (fun j=>(listed.setIfInBounds r.length true).getD j false) ops.size:=by
   have:∀n,n≤ops.size→unl (fun j=>Ad j r.length||listed.getD j false) n=unl (fun j=>(listed.setIfInBounds r.length true).getD j false) n:=by
    intro n
    induction n with
    | zero=>intro _;rfl
    | succ n ih2 =>
     intro hle
     simp only[unl]
     rw[ih2 (by omega),hset n (by omega)]
   exact this _ (Ap _)
  omega
theorem bht{α:Type}:∀{l x:List α} {y:α},bnz l=some (x,y)→l=x++[y]
 | [],x,y,h=>by cases h
 | a::r,x,y,h=>by
  simp only[bnz] at h
  split at h
  ·rename_i x' y' hr
   cases h
   rw[bht hr]
   rfl
  ·rename_i hr
   cases h
   cases r with
   | nil=>rfl
   | cons b r=>simp only[bnz] at hr;split at hr<;>cases hr
theorem bn9:∀{n:Nat} {l:List Nat},allIn n l=true→∀j,j<n→j∈l
 | n+1,l,h,j,hj=>by
  simp only[allIn,Aq] at h
  by_cases he:j=n
  ·subst he;exact aes.1 h.1
  ·exact bn9 h.2 j (by omega)
theorem bvm{steps:List Stp}(hT:bp5 D ops st0 steps)(hlen:steps.length+1=ops.size){o:Oper}(ho:ops[steps.length]?=some o)(hg:o.guard=none){cl:List Nat}(hcl:bzm (steps.map (·.i)) steps.length o.after.toList=some cl)
    (hall:∀j,j<steps.length→j∈cl) {E0:Env} {w00:World} {st1 st':ASt} (he:EqS (ai7 st0 bnc steps) st1) (hn':st1.n=auw st0 steps) {q:Option Nat} {n0:Nat} {Q:Exit→Act→World→Prop}
    (hrun:∀E act w (next:Act→World→Prop),Rel D B0 w0 E st1 act w→Dom E st1.n→(∀E' act' w',Up E E' w w'→Rel D B0 w0 E' st' act' w'→Dom E' st'.n→next act' w')→o.wpIn (FR q) n0 D.P act w next Q)
    (hQ:∀E' a' w',Up E0 E' w00 w'→Rel D B0 w0 E' st' a' w'→Dom E' st'.n→Q .normal a' w') :
    ∀(fuel:Nat) (listed:Array Bool) (E:Env) (act:Act) (w:World),listed.size=ops.size→listed.getD steps.length false=false→unl (fun j=>listed.getD j false) ops.size=fuel→Under D B0 w0 st0 steps E0 w00 (fun j=>listed.getD j false) E act w →
     wpAnyIn (FR q) n0 D.P .any ops Q fuel listed act w:=by
 obtain ⟨ce,cc⟩:=alm (by simp) _ _ hcl
 have edges:∀p s r,steps=p++s::r→∀e,e∈s.o.after→Region.binds .any e=true→e.on<r.length:=by
  intro p s r hs e hmem hb
  obtain ⟨_,_,_,hc,_⟩:=abj p (hs ▸ hT)
  exact (alm (by simp) _ _ hc).1 e (by simpa using hmem) hb
 have opAt:∀p s r,steps=p++s::r→ops[r.length]?=some s.o:=fun p s r hs=>by
  obtain ⟨_,h,_⟩:=abj p (hs ▸ hT)
  exact h
 have nready:∀(listed:Array Bool),listed.size=ops.size→listed.getD steps.length false=false→Region.ready .any ops listed=[]→False:=by
  intro listed hsz hlast hr
  have hal:∀j,j<steps.length→listed.getD j false=true:=by
   intro j
   induction j using Ar with
   | _ j ih =>
    intro hj
    cases hl:listed.getD j false with
    | true=>rfl
    | false =>
     exfalso
     obtain ⟨p,s,r,hs,hrl⟩:=aia steps j (by omega)
     have:j∈Region.ready .any ops listed:=by
      refine mem_ready.2 ⟨?_,s.o,by rw[←hrl];exact opAt p s r hs,fun e hmem hb=>?_⟩
      ·rw[Aa] at hl ⊢
       rw[Ab (by omega)] at hl ⊢
       exact hl
      ·have:=edges p s r hs e hmem hb
       exact ih e.on (by omega) (by omega)
     rw[hr] at this
     cases this
  have:steps.length∈Region.ready .any ops listed:=by
   refine mem_ready.2 ⟨?_,o,ho,fun e hmem hb=>hal _ (ce e (by simpa using hmem) hb)⟩
   rw[Aa] at hlast ⊢
   rw[Ab (by omega)] at hlast ⊢
   exact hlast
  rw[hr] at this
  cases this
 intro fuel
 induction fuel with
 | zero =>
  intro listed E act w hsz hlast hun hU
  have:=bmk _ hun steps.length (by omega)
  rw[hlast] at this
  cases this
 | succ fuel ih =>
  intro listed E act w hsz hlast hun hU
  refine ⟨fun hr=>(nready listed hsz hlast hr).elim,fun i hi=>?_⟩
  obtain ⟨h1,o',ho',hedge⟩:=mem_ready.1 hi
  have hlt:=(Ag.1 ho').1
  have hLi:listed.getD i false=false:=by
   rw[Aa,Ab (by omega)] at h1 ⊢
   exact h1
  by_cases hil:i=steps.length
  ·-- the call
   subst hil
   obtain rfl:o'=o:=Option.some.inj (ho'.symm.trans ho)
   have hal:∀j,j<steps.length→listed.getD j false=true:=by
    intro j hj
    obtain ⟨e,hemem,hb,hk⟩:=cc j (hall j hj)
    have hon:=hedge e (by simpa using hemem) hb
    rcases hk with rfl | ⟨p,x,q',hacc,hql,hjx⟩
    ·exact hon
    ·obtain ⟨p',s,r,hs,hrl⟩:=aia steps e.on (ce e hemem hb)
     have hm:(steps.map (·.i))=p'.map (·.i)++s.i::r.map (·.i):=by rw[hs];simp
     have h2:=hm.symm.trans hacc
     have h3:(p'.map (·.i)).length=p.length:=by
      have e1:=congrArg List.length h2
      simp only[List.length_append,Ah,List.length_map] at e1 ⊢
      omega
     have h4:=(Au h2 h3).2
     simp only[A8.injEq] at h4
     exact hU.closed p' s r hs (by rw[hrl];exact hon) j (by rw[h4.1];exact hjx)
   have hrel:Rel D B0 w0 E st1 act w:=by
    have:=hU.rel
    rw[aon steps (fun j hj=>hal j hj:∀j,j<steps.length→(fun j=>listed.getD j false) j=bnc j)] at this
    exact this.eqS he
   have hdom:Dom E st1.n:=by
    intro id u hu
    rcases hU.dom id u hu with h | ⟨p,s,r,hs,_,_,h⟩
    ·have:=ae5 steps (r:=[]) (by simpa using hT)
     simp only[Ao] at this
     have h5:auw st0 ([]:List Stp)=st0.n:=rfl
     omega
    ·have:=ae5 p (r:=s::r) (hs ▸ hT)
     rw[←hs] at this
     have h5:auw st0 (s::r)=s.n':=rfl
     omega
   unfold wpOpIn
   rw[ho']
   simp only
   rw[if_pos (by simp[Region.wanted,hg])]
   refine hrun E act w _ hrel hdom (fun E' a' w' k1 k2 k3=>?_)
   have hal2:∀j,j<ops.size→(listed.setIfInBounds steps.length true).getD j false=true:=by
    intro j hj
    rw[Aa,Af]
    by_cases hje:steps.length=j
    ·subst hje
     simp[hsz,hj]
    ·rw[if_neg hje]
     have:=hal j (by omega)
     rwa [Aa] at this
   have hr0:Region.ready .any ops (listed.setIfInBounds steps.length true)=[]:=by
    cases h:Region.ready .any ops (listed.setIfInBounds steps.length true) with
    | nil=>rfl
    | cons a rest =>
     exfalso
     have ha:a∈Region.ready .any ops (listed.setIfInBounds steps.length true):=by rw[h];exact Aj ..
     obtain ⟨g1,o2,g2,_⟩:=mem_ready.1 ha
     have hlt2:=(Ag.1 g2).1
     have:=hal2 a hlt2
     rw[Aa,Ab (by simp[hsz,hlt2])] at this g1
     simp at this g1
     rw[this] at g1
     cases g1
   have hfin:Q .normal a' w':=hQ E' a' w' (hU.up.trans k1) k2 k3
   cases fuel with
   | zero=>exact ⟨hr0,hfin⟩
   | succ fuel =>
    refine ⟨fun _=>hfin,fun i2 hi2=>?_⟩
    rw[hr0] at hi2
    cases hi2
  ·obtain ⟨p,s,r,hs,hrl⟩:=aia steps i (by omega)
   have hso:s.o=o':=by
    have:=opAt p s r hs
    rw[hrl,ho'] at this
    cases this
    rfl
   subst hrl
   refine bjc hT hs hU hLi (fun e he hb=>hedge e (by rw[←hso];exact he) hb) (fun E' a' w' hU'=>?_)
   have hset:∀j,j<ops.size→(Ad j r.length||listed.getD j false)=(listed.setIfInBounds r.length true).getD j false:=by
    intro j hj
    rw[Aa,Aa,Af]
    by_cases he:r.length=j
    ·subst he
     simp[hsz,hj]
    ·have:Ad j r.length=false:=by
       cases hb:Ad j r.length with
       | false=>rfl
       | true=>exact absurd (Ac hb).symm he
     rw[this,if_neg he]
     simp
   refine ih _ E' a' w' (by simp[hsz]) ?_ ?_ (beh (fun j hj=>hset j (by omega)) hT hU')
   ·rw[Aa,Af,if_neg hil]
    rwa [Aa] at hlast
   have h5:=brm (L:=fun j=>listed.getD j false) hLi ops.size
   rw[if_pos hlt,hun] at h5
   have h6:unl (fun j=>Ad j r.length||listed.getD j false) ops.size=unl (fun j=>(listed.setIfInBounds r.length true).getD j false) ops.size:=by
    have:∀n,n≤ops.size→unl (fun j=>Ad j r.length||listed.getD j false) n=unl (fun j=>(listed.setIfInBounds r.length true).getD j false) n:=by
     intro n
     induction n with
     | zero=>intro _;rfl
     | succ n ih2 =>
      intro hle
      simp only[unl]
      rw[ih2 (by omega),hset n (by omega)]
    exact this _ (Ap _)
   omega
theorem b3d(hG:GOk D)(hG2:qg D)(hmix:D.P.follows .mixedOrders=true){id:Nat}{st:ASt}{K:ASt→Option R}{r:R}(h:(blf D ops ops.toList 0 [] st fun _=>K)=some r) :
    ∃st',K st'=some r∧st'.m=st.m∧st.n≤st'.n∧∀(q:Option Nat) (n0 B0:Nat) (w0:W0) E act w Q,Rel D B0 w0 E st act w→Dom E st.n →
     (∀E' act' w',Up E E' w w'→Rel D B0 w0 E' st' act' w'→Dom E' st'.n→Q Exit.normal act' w')→(Code.region id ops true).wpIn (FR q) n0 D.P Q act w:=by
 obtain ⟨steps,st',h1,hT,hlen,he,hn⟩:=ao4 (st0:=st) hG hG2 ops.toList 0 [] st (fun _=>K) r [] ⟨[],by simp⟩ rfl rfl trivial (EqS.refl _) rfl h
 have hlen':steps.length=ops.size:=by rw[hlen];simp
 refine ⟨st',h1,he.m.symm.trans (bof _ _),?_,fun q n0 B0 w0 E act w Q hR hD hQ=>wpIn_region_any hmix ?_⟩
 ·have:=ae5 steps (r:=[]) (by simpa using hT)
  simp only[Ao] at this
  rw[hn]
  exact this
 ·refine bz7 hT hlen' he hn (E0:=E) (w00:=w) (fun E' a' w' k1 k2 k3=>hQ E' a' w' k1 k2 k3) ops.size _ E act _ (by simp) (bmt (fun j=>?_) _) ⟨?_,?_,fun id u hu=>.inl (hD id u hu),fun p s r hs hl=>?_⟩
  ·rw[Aa,Ae]
   split<;>rfl
  ·exact ⟨⟨fun _ h=>h,fun _ _=>rfl⟩,fun _ _ h=>h⟩
  ·have hz:ai7 st (fun j=>(Ak ops.size false).getD j false) steps=st:=by
     have:∀l:List Stp,ai7 st (fun j=>(Ak ops.size false).getD j false) l=st:=by
      intro l
      induction l with
      | nil=>rfl
      | cons s r ih =>
       simp only[ai7]
       have:(Ak ops.size false).getD r.length false=false:=by
        rw[Aa,Ae]
        split<;>rfl
       rw[this]
       exact ih
     exact this steps
   rw[hz]
   have up:Up E E w w.drew:=⟨⟨fun _ h=>h,fun _ _=>rfl⟩,fun _ _ h=>h⟩
   exact hR.step up (Below.refl _ _).drew st.n (fun id b hb=>(hR.heap id b hb).mono up (fun _ _ _ _=>rfl) (fun _ _ _ _ _ h=>h)) hR.apart (fun _ h=>.inl h) hR.form
  ·exfalso
   rw[Aa,Ae] at hl
   split at hl<;>cases hl
theorem b0e(hG:GOk D)(hG2:qg D)(hI:InlOk D)(hmix:D.P.follows .mixedOrders=true){id:Nat}{st:ASt}{K:ASt→Option R}{r:R}(h:b4r D ops st K=some r) :
    ∃st',K st'=some r∧st'.m=st.m∧∀(q:Option Nat) (n0 B0:Nat) (w0:W0) E act w Q,Rel D B0 w0 E st act w→Dom E st.n →
     (∀E' act' w',Up E E' w w'→Rel D B0 w0 E' st' act' w'→Dom E' st'.n→Q Exit.normal act' w')→(Code.region id ops true).wpIn (FR q) n0 D.P Q act w:=by
 unfold b4r at h
 have plain:(blf D ops ops.toList 0 [] st fun _=>K)=some r→∃st',K st'=some r∧st'.m=st.m∧∀(q:Option Nat) (n0 B0:Nat) (w0:W0) E act w Q,Rel D B0 w0 E st act w→Dom E st.n →
     (∀E' act' w',Up E E' w w'→Rel D B0 w0 E' st' act' w'→Dom E' st'.n→Q Exit.normal act' w')→(Code.region id ops true).wpIn (FR q) n0 D.P Q act w:=fun h=>by
  obtain ⟨st',h1,h2,_,h4⟩:=b3d (id:=id) hG hG2 hmix h
  exact ⟨st',h1,h2,h4⟩
 split at h
 ·rename_i l0 o hsp
  cases hc:(bz5 D [] o.op).isSome&&o.guard.isNone with
  | false=>rw[hc] at h;exact plain h
  | true =>
   rw[hc] at h
   simp only[cond_true] at h
   simp only[Aq,Option.isNone_iff_eq_none] at hc
   have hops:=bht hsp
   obtain ⟨steps,st1,h1,hT,hlen,he,hn⟩:=ao4 (st0:=st) hG hG2 l0 0 [] st _ r [] ⟨[o],by simpa using hops⟩ rfl rfl trivial (EqS.refl _) rfl h
   have hlen':steps.length=l0.length:=by rw[hlen];simp
   split at h1
   ·rename_i cl hcl
    cases hal:allIn l0.length cl with
    | false=>rw[hal] at h1;cases h1
    | true =>
     rw[hal] at h1
     simp only[cond_true] at h1
     obtain ⟨st',hK,hm,hok⟩:=b1i hG hG2 hI h1
     have hsize:steps.length+1=ops.size:=by
      have:=congrArg List.length hops
      simp at this
      omega
     have hlast:ops[steps.length]?=some o:=by
      rw[←Array.getElem?_toList,hops,hlen',List.getElem?_append_right (Ap _)]
      simp
     refine ⟨st',hK,hm.trans (he.m.symm.trans (bof _ _)),fun q n0 B0 w0 E act w Q hR hD hQ=>wpIn_region_any hmix ?_⟩
     refine bvm hT hsize hlast hc.2 (by rw[hlen'];exact hcl) (fun j hj=>bn9 hal j (by omega)) he hn (E0:=E) (w00:=w) (fun E1 a1 w1 next r1 d1 hnext=>hok q n0 B0 w0 E1 a1 w1 next Q r1 d1 hnext) (fun E' a' w' k1 k2 k3=>hQ E' a' w' k1 k2 k3) ops.size _ E act _ (by simp) ?_ (bmt (fun j=>?_) _) ⟨?_,?_,fun id u hu=>.inl (hD id u hu),fun p s r hs hl=>?_⟩
     ·rw[Aa,Ae]
      split<;>rfl
     ·rw[Aa,Ae]
      split<;>rfl
     ·exact ⟨⟨fun _ h=>h,fun _ _=>rfl⟩,fun _ _ h=>h⟩
     ·have hz:ai7 st (fun j=>(Ak ops.size false).getD j false) steps=st:=by
        have:∀l:List Stp,ai7 st (fun j=>(Ak ops.size false).getD j false) l=st:=by
         intro l
         induction l with
         | nil=>rfl
         | cons s r ih =>
          simp only[ai7]
          have:(Ak ops.size false).getD r.length false=false:=by
           rw[Aa,Ae]
           split<;>rfl
          rw[this]
          exact ih
        exact this steps
      rw[hz]
      have up:Up E E w w.drew:=⟨⟨fun _ h=>h,fun _ _=>rfl⟩,fun _ _ h=>h⟩
      exact hR.step up (Below.refl _ _).drew st.n (fun id b hb=>(hR.heap id b hb).mono up (fun _ _ _ _=>rfl) (fun _ _ _ _ _ h=>h)) hR.apart (fun _ h=>.inl h) hR.form
     ·exfalso
      rw[Aa,Ae] at hl
      split at hl<;>cases hl
   ·cases h1
 ·exact plain h
end
end Go.Abs
end
