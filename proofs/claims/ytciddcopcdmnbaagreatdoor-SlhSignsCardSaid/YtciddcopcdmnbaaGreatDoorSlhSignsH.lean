/-
  SlhSigns, part 8: lemmas for the law.
-/

import Derived.Test.YtciddcopcdmnbaaGreatDoorSlhSignsG
import Derived.Laws.Sem
import Derived.KernelRfl
import Derived.IntWalk
import Derived.Test.YtciddcopcdmnbaaGreatDoorSlhSignsD
import Derived.OpenShut
import Derived.ChangeSlices
import Derived.Deep.Slices
import Derived.WideShapes
import Derived.SizedLaws
import Derived.LaidMore
import Derived.FnData
open Nat renaming eq_of_beq_eq_true → Aa, beq → Ae, le_mul_of_pos_right → Az, le_of_ble_eq_true → A9, succ_mul → Bc, le_refl → Bf, mul_one → Bg, ne_of_beq_eq_false → Bn, blt → Bp, sub_zero → Bv, le_trans → Bw
open List renaming getElem?_eq_getElem → Ab, getD_eq_getElem?_getD → Af, mem_cons_of_mem → Ai, getElem?_of_mem → Aj, getElem?_map → Ak, getElem?_cons_zero → Al, mem_cons → Am, mem_cons_self → Ao, eq_nil_of_length_eq_zero → Ap, getElem?_eq_none → Aq, length_cons → Av, getElem?_toArray → Ba, take_append_drop → Bb, mem_map_of_mem → Bd, getElem?_eq_some_iff → Bj, foldl_cons → Bl, drop_zero → Bq, drop_drop → Br, range → Bt, mem_append_left → Bu
open Bool renaming and_eq_true → Ac, not_eq_true' → Bh
open Array renaming getD_eq_getD_getElem? → Ad, replicate → Ag, getElem?_eq_some_iff → Ah, getElem?_setIfInBounds → Ar, getElem?_toList → Au, getElem?_append_left → Aw, mapM_eq_mapM_toList → Ay
open Option renaming some → A8
open Classical renaming choose_spec → Bo, choose → Bz
set_option linter.unusedVariables false
set_option linter.unusedSimpArgs false

section
namespace Go.Abs
open Go Go.RowKit
section
variable {D:Ctx} {B0:Nat} {w0:W0} {E:Env} {st:ASt} {act:Act} {w:World}
theorem vv{S:Nat→Prop}{B:Nat}{a:AVal}{u:Value}(h:ig (xq S) w a u)(h1:∀l,a≠.agg l)(h2:∀l,a≠.tuple l):aau S w B a u []:=by
 cases a<;>simp only[aau]<;>first
  | exact absurd rfl (h1 _)
  | exact absurd rfl (h2 _)
  | exact ⟨h,trivial⟩
  | exact ⟨h,rfl⟩
  | (simp only[ig] at h;done)
def axo(E:Env)(st:ASt)(ids:List Nat)(bs:List Nat):Prop :=
 bs.Nodup∧∀k,k∈bs→∃id,id∈ids∧∃b v,iw st.h id=some b∧b.frz=false∧E.ρ id=some v∧jk v=some k
theorem axo.nil{ids:List Nat}:axo E st ids []:=⟨List.nodup_nil,fun k hk=>by simp at hk⟩
theorem apx:∀(l r:List Nat),ama (tq l r)=true→ama l=true∧ama r=true∧∀x,x∈l→x∉r
 | [],r,h=>⟨rfl,h,fun x hx=>by simp at hx⟩
 | a::l,r,h=>by
  simp only[tq,ama,Ac,Bh] at h
  obtain ⟨h1,h2⟩:=h
  obtain ⟨k1,k2,k3⟩:=apx l r h2
  have hm:a∉l∧a∉r:=by
   constructor
   ·intro hx
    rw[aes.2 (mg.2 (.inl hx))] at h1
    cases h1
   ·intro hx
    rw[aes.2 (mg.2 (.inr hx))] at h1
    cases h1
  refine ⟨?_,k2,fun x hx=>?_⟩
  ·simp only[ama,Ac,Bh]
   refine ⟨?_,k1⟩
   cases hq:bdt a l with
   | false=>rfl
   | true=>exact absurd (aes.1 hq) hm.1
  ·rcases Am.1 hx with rfl | hx
   ·exact hm.2
   ·exact k3 x hx
theorem axo.append(hR:Rel D B0 w0 E st act w){i1 i2:List Nat}{b1 b2:List Nat}(hn:∀x,x∈i1→x∉i2)(h1:axo E st i1 b1)(h2:axo E st i2 b2):axo E st (tq i1 i2) (b1++b2):=by
 refine ⟨List.nodup_append.2 ⟨h1.1,h2.1,fun x hx y hy he=>?_⟩,fun k hk=>?_⟩
 ·subst he
  obtain ⟨id,g1,b,v,g2,g3,g4,g5⟩:=h1.2 x hx
  obtain ⟨id',f1,b',v',f2,f3,f4,f5⟩:=h2.2 x hy
  exact hR.apart id id' b b' v v' x g2 g3 f2 f3 (by rintro rfl;exact hn _ g1 f1) g4 f4 g5 f5
 ·rcases List.mem_append.1 hk with hk | hk
  ·obtain ⟨id,g1,rest⟩:=h1.2 k hk
   exact ⟨id,mg.2 (.inl g1),rest⟩
  ·obtain ⟨id,g1,rest⟩:=h2.2 k hk
   exact ⟨id,mg.2 (.inr g1),rest⟩
mutual
theorem bsn(hR:Rel D B0 w0 E st act w){l0:List Nat}(hi:∀id,id∈l0→∀b v k,iw st.h id=some b→E.ρ id=some v→jk v=some k→E.S k) :
    ∀(a:AVal) (u:Value),ig E w a u→(∀id,id∈ax6 a→id∈l0)→ama (azd a)=true→∃bs,aau E.S w B0 (bd9 (iw st.h) a) u bs∧axo E st (azd a) bs
 | .own id,u,h,hw,hn=>by
  simp only[ig] at h
  simp only[bd9]
  split
  ·rename_i e c hb
   obtain ⟨v,hv,hrow,hns,_⟩:=hR.heap _ _ hb
   rw[h] at hv
   cases hv
   refine ⟨(jk u).toList,?_,?_,fun k hk=>?_⟩
   ·simp only[aau]
    exact ⟨hrow,trivial⟩
   ·cases jk u<;>simp
   ·refine ⟨id,by simp[azd],_,u,hb,rfl,h,?_⟩
    cases hvb:jk u with
    | none=>rw[hvb] at hk;simp at hk
    | some k'=>rw[hvb] at hk;simp at hk;rw[hk]
  ·rename_i e c hb
   refine ⟨[],?_,axo.nil⟩
   obtain ⟨v,hv,_,_,hs⟩:=hR.heap _ _ hb
   have hc:anj (iw st.h) (.own id)=some c:=by simp only[anj,hb]
   have:=ayu hR (fun _ _ h=>h) (S':=E.S) (fun _ h=>h) hc (u:=u) (by simp only[ig];exact h) (fun id' hid' b' v' k hb' hv' hk=>by
    simp only[xg,List.mem_singleton] at hid'
    subst hid'
    rw[hb] at hb'
    cases hb'
    rw[hv] at hv'
    cases hv'
    exact hs rfl k hk)
   exact vv (by simp only[ig,xq];exact this) (fun _ h=>by cases h) (fun _ h=>by cases h)
  ·exact ⟨[],vv (by simp only[ig]) (fun _ h=>by cases h) (fun _ h=>by cases h),axo.nil⟩
 | .agg l,u,h,hw,hn=>by
  simp only[ig] at h
  obtain ⟨cs,h1,h2⟩:=h
  obtain ⟨bs,k1,k2⟩:=bh3 hR hi l cs h2 (by simpa only[ax6] using hw) (by simpa only[azd] using hn)
  exact ⟨bs,by simp only[bd9,aau];exact ⟨cs,h1,k1⟩,by simpa only[azd] using k2⟩
 | .tuple l,u,h,hw,hn=>by
  simp only[ig] at h
  obtain ⟨vs,h1,h2⟩:=h
  obtain ⟨bs,k1,k2⟩:=bfx hR hi l vs h2 (by simpa only[ax6] using hw) (by simpa only[azd] using hn)
  exact ⟨bs,by simp only[bd9,aau];exact ⟨vs,h1,k1⟩,by simpa only[azd] using k2⟩
 | .v x,u,h,hw,hn=>⟨[],vv (aao hR (fun _ _ h=>h) (fun _ h=>h) (.v x) u h (fun id hid=>by simp[xg] at hid)) (fun _ h=>by cases h) (fun _ h=>by cases h),axo.nil⟩
 | .bot,u,h,hw,hn=>⟨[],vv (aao hR (fun _ _ h=>h) (fun _ h=>h) .bot u h (fun id hid=>by simp[xg] at hid)) (fun _ h=>by cases h) (fun _ h=>by cases h),axo.nil⟩
 | .sl c,u,h,hw,hn=>⟨[],vv (aao hR (fun _ _ h=>h) (fun _ h=>h) (.sl c) u h (fun id hid=>by simp[xg] at hid)) (fun _ h=>by cases h) (fun _ h=>by cases h),axo.nil⟩
 | .arr k n l,u,h,hw,hn=>⟨[],vv (aao hR (fun _ _ h=>h) (fun _ h=>h) (.arr k n l) u h (fun id hid=>by simp[xg] at hid)) (fun _ h=>by cases h) (fun _ h=>by cases h),axo.nil⟩
 | .win id off len,u,h,hw,hn=>⟨[],vv (aao hR (fun _ _ h=>h) (fun _ h=>h) (.win id off len) u h (fun id' hid b v k hb hv hk=>hi id' (hw id' (by simpa [ax6,xg] using hid)) b v k hb hv hk)) (fun _ h=>by simp only[bd9,aap] at h;split at h<;>cases h) (fun _ h=>by simp only[bd9,aap] at h;split at h<;>cases h),axo.nil⟩
 | .awin id off m lo len,u,h,hw,hn=>⟨[],vv (aao hR (fun _ _ h=>h) (fun _ h=>h) (.awin id off m lo len) u h (fun id' hid b v k hb hv hk=>hi id' (hw id' (by simpa [ax6,xg] using hid)) b v k hb hv hk)) (fun _ h=>by simp only[bd9,aap] at h;split at h<;>cases h) (fun _ h=>by simp only[bd9,aap] at h;split at h<;>cases h),axo.nil⟩
 | .ptr id off,u,h,hw,hn=>⟨[],vv (by simp only[bd9,aap,ig]) (fun _ h=>by cases h) (fun _ h=>by cases h),axo.nil⟩
 | .pel id sz i,u,h,hw,hn=>⟨[],vv (by simp only[bd9,aap,ig]) (fun _ h=>by cases h) (fun _ h=>by cases h),axo.nil⟩
 | .fel id sz i off,u,h,hw,hn=>⟨[],vv (by simp only[bd9,aap,ig]) (fun _ h=>by cases h) (fun _ h=>by cases h),axo.nil⟩
 | .apel id off m i,u,h,hw,hn=>⟨[],vv (by simp only[bd9,aap,ig]) (fun _ h=>by cases h) (fun _ h=>by cases h),axo.nil⟩
 | .sta l,u,h,hw,hn=>⟨[],vv (aao hR (fun _ _ h=>h) (fun _ h=>h) (.sta l) u h (fun id hid=>by simp[xg] at hid)) (fun _ h=>by simp only[bd9,aap] at h;cases hb:ax3 0 l<;>rw[hb] at h<;>cases h) (fun _ h=>by simp only[bd9,aap] at h;cases hb:ax3 0 l<;>rw[hb] at h<;>cases h),axo.nil⟩
 | .osta q l,u,h,hw,hn=>⟨[],vv (aao hR (fun _ _ h=>h) (fun _ h=>h) (.osta q l) u h (fun id hid=>by simp[xg] at hid)) (fun _ h=>by simp only[bd9,aap] at h;cases hb:ax3 0 l<;>rw[hb] at h<;>cases h) (fun _ h=>by simp only[bd9,aap] at h;cases hb:ax3 0 l<;>rw[hb] at h<;>cases h),axo.nil⟩
 | .fn f a b,u,h,hw,hn=>⟨[],vv (aao hR (fun _ _ h=>h) (fun _ h=>h) (.fn f a b) u h (fun id' hid b' v k hb hv hk=>hi id' (hw id' (by simpa [ax6,xg] using hid)) b' v k hb hv hk)) (fun _ h=>by cases h) (fun _ h=>by cases h),axo.nil⟩
 | .iface t x,u,h,hw,hn=>⟨[],vv (aao hR (fun _ _ h=>h) (fun _ h=>h) (.iface t x) u h (fun id' hid b' v k hb hv hk=>hi id' (hw id' (by simpa [ax6,xg] using hid)) b' v k hb hv hk)) (fun _ h=>by cases h) (fun _ h=>by cases h),axo.nil⟩
 | .fr e c,u,h,hw,hn=>by simp only[ig] at h
 | .glob g off,u,h,hw,hn=>⟨[],vv (by simp only[bd9,aap,ig]) (fun _ h=>by cases h) (fun _ h=>by cases h),axo.nil⟩
 | .gel g off m i,u,h,hw,hn=>⟨[],vv (by simp only[bd9,aap,ig]) (fun _ h=>by cases h) (fun _ h=>by cases h),axo.nil⟩
 | .yld id ts vs,u,h,hw,hn=>⟨[],vv (by simp only[bd9,aap,ig]) (fun _ h=>by cases h) (fun _ h=>by cases h),axo.nil⟩
 | .alt t f fa fc g ga gc,u,h,hw,hn=>⟨[],vv (aao hR (fun _ _ h=>h) (fun _ h=>h) (.alt t f fa fc g ga gc) u h (fun id' hid b' v k hb hv hk=>hi id' (hw id' (by simpa [ax6,xg] using hid)) b' v k hb hv hk)) (fun _ h=>by cases h) (fun _ h=>by cases h),axo.nil⟩
theorem bfx(hR:Rel D B0 w0 E st act w){l0:List Nat}(hi:∀id,id∈l0→∀b v k,iw st.h id=some b→E.ρ id=some v→jk v=some k→E.S k) :
    ∀(l:List AVal) (vs:List Value),mq E w l vs→(∀id,id∈aiv l→id∈l0)→ama (ane l)=true→∃bs,amd E.S w B0 (ay2 (iw st.h) l) vs bs∧axo E st (ane l) bs
 | [],vs,h,hw,hn=>by
  simp only[mq] at h
  exact ⟨[],by simp only[ay2,amd];exact ⟨h,trivial⟩,axo.nil⟩
 | a::r,vs,h,hw,hn=>by
  simp only[mq] at h
  obtain ⟨u,us,rfl,h2,h3⟩:=h
  simp only[ane] at hn ⊢
  simp only[aiv] at hw
  obtain ⟨n1,n2,n3⟩:=apx _ _ hn
  obtain ⟨b1,k1,k2⟩:=bsn hR hi a u h2 (fun id hid=>hw id (mg.2 (.inl hid))) n1
  obtain ⟨b2,j1,j2⟩:=bfx hR hi r us h3 (fun id hid=>hw id (mg.2 (.inr hid))) n2
  exact ⟨b1++b2,by simp only[ay2,amd];exact ⟨u,us,b1,b2,rfl,rfl,k1,j1⟩,k2.append hR n3 j2⟩
theorem bh3(hR:Rel D B0 w0 E st act w){l0:List Nat}(hi:∀id,id∈l0→∀b v k,iw st.h id=some b→E.ρ id=some v→jk v=some k→E.S k) :
    ∀(l:List AVal) (cs:List Value),qw E w l cs→(∀id,id∈aiv l→id∈l0)→ama (ane l)=true→∃bs,akt E.S w B0 (ay2 (iw st.h) l) cs bs∧axo E st (ane l) bs
 | [],cs,h,hw,hn=>by
  simp only[qw] at h
  exact ⟨[],by simp only[ay2,akt];exact ⟨h,trivial⟩,axo.nil⟩
 | a::r,cs,h,hw,hn=>by
  simp only[ane] at hn ⊢
  simp only[aiv] at hw
  obtain ⟨n1,n2,n3⟩:=apx _ _ hn
  rcases y8 h with ⟨k',n,l,cs',rfl,h1,rfl,h3⟩ | ⟨ha,u,cs',rfl,h2,h3,h4⟩
  ·obtain ⟨b2,j1,j2⟩:=bh3 hR hi r cs' h3 (fun id hid=>hw id (mg.2 (.inr hid))) n2
   exact ⟨b2,by simp only[ay2,bd9,aap,akt];exact ⟨cs',h1,rfl,j1⟩,by simpa only[azd,tq] using j2⟩
  ·obtain ⟨b1,k1,k2⟩:=bsn hR hi a u h3 (fun id hid=>hw id (mg.2 (.inl hid))) n1
   obtain ⟨b2,j1,j2⟩:=bh3 hR hi r cs' h4 (fun id hid=>hw id (mg.2 (.inr hid))) n2
   refine ⟨b1++b2,?_,k2.append hR n3 j2⟩
   have hx:∀k n l,bd9 (iw st.h) a≠.arr k n l:=by
    intro k n l
    cases a<;>simp only[bd9,aap]<;>first
     | exact ha _ _ _
     | (intro h;cases h;done)
     | (rename_i z;cases ax3 0 z<;>(intro h;cases h;done))
     | (split<;>(intro h;cases h;done))
   simp only[ay2]
   revert k1 hx
   generalize bd9 (iw st.h) a=y
   intro k1 hx
   cases y<;>simp only[akt]<;>first
    | exact absurd rfl (hx _ _ _)
    | exact ⟨u,cs',b1,b2,rfl,h2,rfl,k1,j1⟩
end
mutual
theorem bty{S:Nat→Prop}{B:Nat}:∀(s:Sh) (a:AVal) (u:Value) (bs:List Nat),aau S w B a u bs→aau S w B (bnb s a) u bs
 | .any,a,u,bs,h=>by simpa only[bnb] using h
 | .alt f fa fc g ga gc,a,u,bs,h=>by
  simp only[bnb]
  rcases bmw f fa fc g ga gc a with ⟨rfl,e⟩ | ⟨x,y,rfl,e⟩ | ⟨x,y,rfl,e⟩ | e
  ·rw[e];simp only[aau] at h ⊢;exact ⟨auj.2 (.inl ⟨rfl,by simpa only[ig] using h.1⟩),h.2⟩
  ·rw[e];simp only[aau] at h ⊢;exact ⟨auj.2 (.inr (.inl ⟨rfl,h.1⟩)),h.2⟩
  ·rw[e];simp only[aau] at h ⊢;exact ⟨auj.2 (.inr (.inr ⟨rfl,h.1⟩)),h.2⟩
  ·rw[e];exact h
 | .sl c,a,u,bs,h=>by
  simp only[bnb]
  rcases aum c (.sl c) a with ⟨rfl,hc,e⟩ | e
  ·rw[e]
   simp only[aau,ig] at h ⊢
   obtain ⟨rfl,rfl⟩:=h
   exact ⟨byi hc,rfl⟩
  ·rw[e];exact h
 | .fr e c,a,u,bs,h=>by
  simp only[bnb]
  rcases aum c (.fr e c) a with ⟨rfl,hc,e⟩ | e
  ·rw[e]
   simp only[aau,ig] at h ⊢
   obtain ⟨rfl,rfl⟩:=h
   exact ⟨⟨[],ownsRow_nil hc,fun j x h=>by simp at h⟩,rfl⟩
  ·rw[e];exact h
 | .agg ss,a,u,bs,h=>by
  cases a with
  | agg l =>
   simp only[bnb,aau] at h ⊢
   obtain ⟨cs,h1,h2⟩:=h
   exact ⟨cs,h1,bmr ss l cs bs h2⟩
  | fn f a c =>
   simp only[bnb,aau,ig] at h ⊢
   obtain ⟨⟨x,y,h1,h2,h3⟩,h4⟩:=h
   exact ⟨⟨x,y,h1,h2,ay9 ss c y h3⟩,h4⟩
  | _=>simpa only[bnb] using h
theorem bsr{S:Nat→Prop}{B:Nat}:∀(sig:List Sh) (l:List AVal) (vs:List Value) (bs:List Nat),amd S w B l vs bs→amd S w B (bp3 sig l) vs bs
 | [],[],vs,bs,h=>by simpa only[bp3] using h
 | s::ss,[],vs,bs,h=>by simpa only[bp3] using h
 | [],a::r,vs,bs,h=>by simpa only[bp3] using h
 | s::ss,a::r,vs,bs,h=>by
  simp only[bp3,amd] at h ⊢
  obtain ⟨u,us,b1,b2,h1,h2,h3,h4⟩:=h
  exact ⟨u,us,b1,b2,h1,h2,bty s a u b1 h3,bsr ss r us b2 h4⟩
theorem bmr{S:Nat→Prop}{B:Nat}:∀(sig:List Sh) (l:List AVal) (vs:List Value) (bs:List Nat),akt S w B l vs bs→akt S w B (bp3 sig l) vs bs
 | [],[],vs,bs,h=>by simpa only[bp3] using h
 | s::ss,[],vs,bs,h=>by simpa only[bp3] using h
 | [],a::r,vs,bs,h=>by simpa only[bp3] using h
 | s::ss,a::r,vs,bs,h=>by
  simp only[bp3]
  rcases auq h with ⟨k,n,l,cs',rfl,h1,h2,h3⟩ | ⟨ha,u,cs',b1,b2,h1,h2,h3,h4,h5⟩
  ·have e:bnb s (.arr k n l)=.arr k n l:=by cases s<;>simp only[bnb,bo0,bfz]
   rw[e]
   simp only[akt]
   exact ⟨cs',h1,h2,bmr ss r cs' bs h3⟩
  ·have hx:∀k n l,bnb s a≠.arr k n l:=by
     intro k n l he
     cases s with
     | sl c => 
      simp only[bnb] at he
      rcases aum c (.sl c) a with ⟨rfl,hc,e⟩ | e
      ·rw[e] at he;cases he
      ·rw[e] at he;exact ha _ _ _ he
     | fr t c => 
      simp only[bnb] at he
      rcases aum c (.fr t c) a with ⟨rfl,hc,e⟩ | e
      ·rw[e] at he;cases he
      ·rw[e] at he;exact ha _ _ _ he
     | agg ss=>cases a<;>simp only[bnb] at he<;>first | (cases he;done) | exact ha _ _ _ he
     | any=>simp only[bnb] at he;exact ha _ _ _ he
     | alt f fa fc g ga gc=>simp only[bnb] at he;exact bn3 ha _ _ _ he
   have k1:=bty s a u b1 h4
   have k2:=bmr ss r cs' b2 h5
   generalize bnb s a=y at k1 hx ⊢
   cases y<;>simp only[akt]<;>first
    | exact absurd rfl (hx _ _ _)
    | exact ⟨u,cs',b1,b2,h1,h2,h3,k1,k2⟩
end
theorem b0r(hR:Rel D B0 w0 E st act w){t:Nat}{ty:TypeId}{a:AVal}(h:cellV D st t ty=some a):∃u,ig E w a u∧(do loadVar ty (←asAddr (act.tmps.getD t undef)):Sem Value).run D.P w=.ok u w:=by
 unfold cellV at h
 split at h
 ·rename_i g sz hg hs
  split at h
  ·rename_i mid hp
   obtain ⟨ad,cs,hu,hl,hsz,hc⟩:=bjg hp (fun _ _ h=>h) hR (hR.tmps t)
   have lv:∀u,(if g then u=.agg cs.toArray else cs=[u])→(do loadVar ty (←asAddr (act.tmps.getD t undef)):Sem Value).run D.P w=.ok u w:=by
    intro u hu'
    have:=baj hg hs ad cs hsz hc u hu'
    rw[hu]
    simpa [Instr.loadAt,Instr.sureAddr,asAddr] using this
   cases g with
   | true =>
    simp only[cond_true] at h
    cases h
    exact ⟨_,agj hl,lv _ (by simp)⟩
   | false =>
    simp only[cond_false] at h
    split at h
    ·cases h
    ·rename_i a' ha
     cases h
     obtain ⟨u,rfl,_,hv⟩:=ak5 hl (fun k n l e=>ha k n l (by rw[e]))
     exact ⟨u,hv,lv u (by simp)⟩
    ·cases h
  ·cases h
 ·cases h
theorem bf3(hR:Rel D B0 w0 E st act w):∀(rs:List ResultVar) (l:List AVal),byv D st rs=some l→∃vs,mq E w l vs ∧
    ∀(g:ResultVar→Sem Value),(∀t,g (.tmp t)=pure (act.tmps.getD t undef))→(∀a t,g (.cell a t)=do loadVar t (←asAddr (act.tmps.getD a undef)))→(rs.mapM g).run D.P w=.ok vs w
 | [],l,h=>by
  simp only[byv] at h
  cases h
  exact ⟨[],by simp only[mq],fun g hg _=>rfl⟩
 | .cell a t::r,l,h=>by
  simp only[byv] at h
  split at h
  ·rename_i x l' hx hl'
   cases h
   obtain ⟨vs,h1,h2⟩:=bf3 hR r l' hl'
   obtain ⟨u,h3,h4⟩:=b0r hR hx
   refine ⟨u::vs,by simp only[mq];exact ⟨_,_,rfl,h3,h1⟩,fun g hg hg2=>?_⟩
   simp only[List.mapM_cons,Sem.run_bind,hg2] at h4 ⊢
   rw[h4]
   simp only[Sem.run_pure,Result.andThen_ok,h2 g hg hg2]
  ·cases h
 | .tmp t::r,l,h=>by
  simp only[byv] at h
  split at h
  ·rename_i l' hl'
   cases h
   obtain ⟨vs,h1,h2⟩:=bf3 hR r l' hl'
   refine ⟨act.tmps.getD t undef::vs,by simp only[mq];exact ⟨_,_,rfl,hR.tmps t,h1⟩,fun g hg hg2=>?_⟩
   simp only[List.mapM_cons,hg,Sem.run_bind,Sem.run_pure,Result.andThen_ok,h2 g hg hg2]
  ·cases h
theorem ba9:∀(l:List AVal) (i t:Nat),look (aws i l) t=if i≤t then l.getD (t-i) .bot else .bot
 | [],i,t=>by simp[aws,look]
 | a::r,i,t=>by
  simp only[aws,look,ba9 r (i+1) t]
  cases hb:Ae i t with
  | true =>
   have:=Aa hb
   subst this
   simp
  | false =>
   have:=Bn hb
   simp only[cond_false]
   by_cases h1:i+1≤t
   ·rw[if_pos h1,if_pos (by omega),show t-i=(t-(i+1))+1 by omega]
    simp
   ·rw[if_neg h1,if_neg (by omega)]
theorem bae:∀(l:List AVal) (vs:List Value),mq E w l vs→∀t,t<l.length→ig E w (l.getD t .bot) (vs.getD t undef)
 | [],vs,h,t,ht=>by simp at ht
 | a::r,vs,h,t,ht=>by
  simp only[mq] at h
  obtain ⟨u,us,rfl,h1,h2⟩:=h
  cases t with
  | zero=>simpa using h1
  | succ t=>simpa using bae r us h2 t (by simpa using ht)
end
theorem br1{E:Env}{w:World}{args:List AVal}{cargs:List Value}{m:Nat}(hargs:mq E w args cargs)(hle:args.length≤m)(t:Nat) :
    ig E w (look (aws 0 args) t) ((cargs.toArray++Ag (m-cargs.toArray.size) undef).getD t undef):=by
 have hlen:=al3 _ _ hargs
 simp only[ba9,Nat.zero_le,if_true,Bv]
 by_cases ht:t<args.length
 ·have:=bae args cargs hargs t ht
  have e:(cargs.toArray++Ag (m-cargs.toArray.size) undef).getD t undef=cargs.getD t undef:=by
   rw[Ad,Aw (by simp;omega)]
   simp
  rw[e]
  exact this
 ·have e:args.getD t .bot=.bot:=by
    rw[Af,Aq (by omega)]
    rfl
  rw[e]
  exact aml _
theorem bwl{D:Ctx}(hG2:qg D){B0:Nat}{w0:W0}{E:Env}{st:ASt}{fn:Func}{tmps:Array Value}{R:Ending→World→Prop}
    (hend:∀w',Rel D B0 w0 E st ⟨tmps,[]⟩ w'→∃v,(results fn tmps).run D.P w'=.ok v w'∧R (.returned v) w') :
    ∀(ds:List Deferred) (w:World),Rel D B0 w0 E st ⟨tmps,ds⟩ w→LeavesInM (FR none) 0 D.P fn tmps R ds .returning w
 | [],w,hR=>hend w hR
 | d::r,w,hR=>by
  have hm:=hR.marks
  obtain ⟨⟨b,rfl,hB,hS,hb,hnot⟩,hrest⟩:=hm
  refine ⟨by simp,.inl ⟨b,w.putObj b (.deferred none),rfl,run_takeDeferred hb,bwl hG2 hend r _ ?_⟩⟩
  have hoth:∀k,k≠b→(w.putObj b (.deferred none)).heap[k]?=w.heap[k]?:=fun k hk=>World.putObj_heap_other hk
  have hms:∀ds,Marks B0 E w ds→(∀d',d'∈ds→d'.target≠.collected b)→Marks B0 E (w.putObj b (.deferred none)) ds:=by
   intro ds
   induction ds with
   | nil=>intro _ _;trivial
   | cons x r ih =>
    intro h h2
    obtain ⟨⟨b',rfl,g2,g3,g4,g5⟩,g6⟩:=h
    refine ⟨⟨b',rfl,g2,g3,?_,g5⟩,ih g6 (fun d' hd'=>h2 d' (Ai _ hd'))⟩
    rw[hoth b' (by rintro rfl;exact h2 _ (Ao ..) rfl)]
    exact g4
  refine hR.turn (D':=D) (E':=E) (act':=⟨tmps,r⟩) hG2 w0.y rfl rfl (apg hb (by simp) (by simp)) (amz hB) (fun _ _ h=>h) (fun _ _ _=>rfl) (fun _ _ _=>⟨rfl,fun _ _=>rfl⟩) rfl (fun h=>?_) (hms r hrest hnot) (fun id l T hy=>?_) (fun id u hu=>hR.form id u hu)
  ·have:=hR.idle h
   simp at this
  ·obtain ⟨h1,h2,Y,r0,h3,h4,h5⟩:=hR.recs id l T hy
   exact ⟨h1,h2,Y,r0,h3,by rw[hoth l (by rintro rfl;rw[hb] at h4;cases h4)];exact h4,h5⟩
theorem bv0{D:Ctx}(hG:GOk D)(hG2:qg D)(hI:InlOk D)(hmix:D.P.follows .mixedOrders=true){fn:Func}{c:Code}(hL:∀c',c'∈gy c→jl D c')(hRg:∀c',c'∈xk c→asx D c')(sig:List Sh){st0:ASt}{K:AVal→Option R}{r:R}
    (h:aho D c st0 (fun ex st=>match ex with
        | .exit _=>none
        | .normal=>b1k D sig fn st K
        | .ret=>b1k D sig fn st K)=some r) :
    ∃y,K y=some r∧∀(S:Nat→Prop) (w:World) (act:Act) (w1:World) (E:Env),Rel D w.heap.size ⟨w,S,none⟩ E st0 act w1→Dom E st0.n →
     c.wpIn (FR none) 0 D.P (bodyPostM (FR none) 0 D.P fn fun e w'=>∃v Sn bs,e=.returned v∧Below w.heap.size w w'∧(∀b,Sn b→S b∨(w.heap.size≤b∧b<w'.heap.size))∧aau Sn w' w.heap.size y v bs∧bs.Nodup∧∀b,b∈bs→¬Sn b) act w1:=by
 obtain ⟨ex,st,hK,hm,hcode⟩:=bgq hG hG2 hI hmix c hL hRg _ _ r h
 have hout:(ex=.normal∨ex=.ret)∧b1k D sig fn st K=some r:=by
  cases ex with
  | normal=>exact ⟨.inl rfl,hK⟩
  | ret=>exact ⟨.inr rfl,hK⟩
  | exit j=>cases hK
 obtain ⟨hex,hout⟩:=hout
 unfold b1k at hout
 split at hout
 ·cases hout
 ·rename_i l hl
  cases hnd:ama (ane l) with
  | false=>rw[hnd] at hout;cases hout
  | true =>
   rw[hnd] at hout
   simp only[cond_true] at hout
   refine ⟨_,hout,fun S w act w1 E hRel hDom=>?_⟩
   refine wpIn_mono (hcode none 0 _ _ E act w1 (fun _=>rfl) hRel hDom) (fun e a w' hL=>?_)
   obtain ⟨rfl,E',hup,hRa,hD⟩:=hL
   have hres:∀w',Rel D w.heap.size ⟨w,S,none⟩ E' st ⟨a.tmps,[]⟩ w'→∃v,(results fn a.tmps).run D.P w'=.ok v w'∧∃Sn bs,Below w.heap.size w w'∧(∀b,Sn b→S b∨(w.heap.size≤b∧b<w'.heap.size))∧aau Sn w' w.heap.size (oneOf (bp3 sig (ay2 (iw (tq (freeze (iw st.h) (tq (aiv l) (akp sig l)) []) st.h)) l))) v bs∧bs.Nodup∧∀b,b∈bs→¬Sn b:=by
    intro w' hR
    obtain ⟨vs,hvs,hrun⟩:=bf3 hR _ _ hl
    obtain ⟨E1,hρ1,up1,hR1,hfS,_⟩:=acp (hl:=iw st.h) (fun _ _ h=>h) (tq (aiv l) (akp sig l)) hR
    have hvs1:=mq.mono up1 l vs hvs
    obtain ⟨bs,hx,ho⟩:=bfx hR1 (l0:=tq (aiv l) (akp sig l)) (fun id hid b v k hb hv hk=>by
     have hfz:=‹∀id b,iw (tq (freeze (iw st.h) (tq (aiv l) (akp sig l)) []) st.h) id=some b→∃b',iw st.h id=some b'∧b'.b=b.b› id b hb
     obtain ⟨b',hb',_⟩:=hfz
     exact hfS id hid b' v k hb' (by rw[←hρ1];exact hv) hk) l vs hvs1 (fun _ h=>mg.2 (.inl h)) hnd
    have hx2:=bsr sig _ _ _ hx
    refine ⟨if h:vs.toArray.size=1 then vs.toArray[0] else .tuple vs.toArray,?_,E1.S,bs,hR.below,fun b hb=>?_,?_,ho.1,fun b hb hS=>?_⟩
    ·unfold results
     rw[Ay]
     simp only[Sem.run_bind,Sem.run_map]
     rw[hrun _ (fun _=>rfl) (fun _ _=>rfl)]
     rfl
    ·rcases hR1.sNew b hb with h | h
     ·exact .inl h
     ·exact .inr ⟨h,hR1.sOld b hb⟩
    ·generalize hy:bp3 sig (ay2 (iw (tq (freeze (iw st.h) (tq (aiv l) (akp sig l)) []) st.h)) l)=y at hx2
     have hly:y.length=vs.length:=by
      have:∀(y:List AVal) (vs:List Value) (bs:List Nat),amd E1.S w' w.heap.size y vs bs→y.length=vs.length:=by
       intro y
       induction y with
       | nil=>intro vs bs h;simp only[amd] at h;rw[h.1];rfl
       | cons a r ih =>
        intro vs bs h
        simp only[amd] at h
        obtain ⟨u,us,b1,b2,rfl,_,_,h⟩:=h
        simp[ih us b2 h]
      exact this y vs bs hx2
     match y,vs,hx2,hly with
     | [],[],hx2,_=>exact (by simp only[oneOf,aau];exact ⟨[],rfl,hx2⟩)
     | [a],[u],hx2,_ =>
      simp only[amd] at hx2
      obtain ⟨u',us,b1,b2,h1,h2,h3,h4,h5⟩:=hx2
      cases h1
      subst h5
      subst h2
      simpa [oneOf] using h3
     | a::b::r,u::u'::us,hx2,_ =>
      simp only[oneOf,aau]
      exact ⟨_,by simp,hx2⟩
    ·obtain ⟨id,_,b',v,h2,h3,h4,h5⟩:=ho.2 b hb
     obtain ⟨v',hv',_,hns,_⟩:=hR1.heap id b' h2
     rw[h4] at hv'
     cases hv'
     exact hns h3 b h5 hS
   have hend:=bwl (fn:=fn) hG2 (R:=fun e w'=>∃v Sn bs,e=.returned v∧Below w.heap.size w w'∧(∀b,Sn b→S b∨(w.heap.size≤b∧b<w'.heap.size))∧aau Sn w' w.heap.size (oneOf (bp3 sig (ay2 (iw (tq (freeze (iw st.h) (tq (aiv l) (akp sig l)) []) st.h)) l))) v bs∧bs.Nodup∧∀b,b∈bs→¬Sn b) (tmps:=a.tmps) (fun w'' hR''=>by
    obtain ⟨v,hrun,Sn,bs,k1,k2,k3,k4,k5⟩:=hres w'' hR''
    exact ⟨v,hrun,v,Sn,bs,rfl,k1,k2,k3,k4,k5⟩) a.defers w' hRa
   rcases hex with rfl | rfl
   ·exact hend
   ·exact hend
theorem buq{D:Ctx}(hG:GOk D)(hG2:qg D)(hI:InlOk D)(hmix:D.P.follows .mixedOrders=true){f:FuncId}{fn:Func}(hf:D.P.funcs[f]?=some fn)(hL:∀c,fn.body=some c→∀c',c'∈gy c→jl D c')(hRg:∀c,fn.body=some c→∀c',c'∈xk c→asx D c')(sig:List Sh) :
    bhm D.P D.globs f (bqe D fn sig):=by
 intro args K r h
 unfold bqe at h
 split at h
 ·cases h
 ·rename_i c hb
  cases hle:Nat.ble args.length fn.ntmps with
  | false=>rw[hle] at h;cases h
  | true =>
   rw[hle] at h
   simp only[cond_true] at h
   have hle:=A9 hle
   obtain ⟨y,hK,hrest⟩:=bv0 hG hG2 hI hmix (hL c hb) (hRg c hb) sig h
   refine ⟨y,hK,fun S w cargs hSw hgl hargs=>?_⟩
   have hlen:=al3 _ _ hargs
   have hR0:Rel D w.heap.size ⟨w,S,none⟩ (xq S) ⟨aws 0 args,[],0,fn.ntmps⟩ { tmps:=cargs.toArray++Ag (fn.ntmps-cargs.toArray.size) undef,defers:=[] } w:=by
    refine ⟨Below.refl _ _,Bf _,by simp;omega,fun _=>rfl,trivial,bbc rfl,fun t=>?_,fun id b hb=>by simp[iw] at hb,fun id id' b b' u u' k hb=>by simp[iw] at hb,hSw,fun b hb=>.inl hb,fun id u hu=>by simp[xq] at hu,hgl⟩
    simp only[ba9,Nat.zero_le,if_true,Bv]
    by_cases ht:t<args.length
    ·have:=bae args cargs hargs t ht
     have e:(cargs.toArray++Ag (fn.ntmps-cargs.toArray.size) undef).getD t undef=cargs.getD t undef:=by
      rw[Ad,Aw (by simp;omega)]
      simp
     rw[e]
     exact this
    ·have e:args.getD t .bot=.bot:=by
       rw[Af,Aq (by omega)]
       rfl
     rw[e]
     exact aml _
   exact aky.1 (callsIn_of_wp_marks (F:=FR none) (n:=0) hf hb trivial (hrest S w _ w (xq S) hR0 (fun id u hu=>by simp[xq] at hu)))
theorem bvq{D:Ctx}(hG:GOk D)(hG2:qg D)(hI:InlOk D)(hmix:D.P.follows .mixedOrders=true){f:FuncId}{fn:Func}(hf:D.P.funcs[f]?=some fn)(hL:∀c,fn.body=some c→∀c',c'∈gy c→jl D c')(hRg:∀c,fn.body=some c→∀c',c'∈xk c→asx D c')(htop:D.top=false) :
    bq4 D f (afj D fn):=by
 intro args h n K r hb
 unfold afj at hb
 split at hb
 ·cases hb
 ·rename_i c hc
  cases hle:Nat.ble args.length fn.ntmps with
  | false=>rw[hle] at hb;cases hb
  | true =>
   rw[hle] at hb
   simp only[cond_true] at hb
   have hle:=A9 hle
   obtain ⟨ex,st,hK,hm,hcode⟩:=bgq hG hG2 hI hmix c (hL c hc) (hRg c hc) _ _ r hb
   have hout:(ex=.normal∨ex=.ret)∧afj.outIn D fn st K=some r:=by
    cases ex with
    | normal=>exact ⟨.inl rfl,hK⟩
    | ret=>exact ⟨.inr rfl,hK⟩
    | exit j=>cases hK
   obtain ⟨hex,hout⟩:=hout
   unfold afj.outIn at hout
   split at hout
   ·cases hout
   ·rename_i l hl
    refine ⟨_,_,_,hout,fun B0 w0 E f' m act w cargs hR hD hargs=>?_⟩
    have hlen:=al3 _ _ hargs
    have hR0:Rel D B0 w0 E ⟨aws 0 args,h,n,fn.ntmps⟩ { tmps:=cargs.toArray++Ag (fn.ntmps-cargs.toArray.size) undef,defers:=[] } w :=
     { hR with
       size:=by simp;omega
       idle:=fun _=>rfl
       marks:=trivial
       tmps:=br1 hargs hle }
    refine aky.1 (callsIn_of_wp (F:=FR none) (n:=0) hf hc trivial (wpIn_mono (hcode none 0 _ _ E _ w (fun _=>rfl) hR0 hD) (fun e a w' hL=>?_)))
    obtain ⟨rfl,E',hup,hR',hD'⟩:=hL
    obtain ⟨vs,hvs,hrun⟩:=bf3 hR' _ _ hl
    have hres:a.defers=[]∧∃v,(results fn a.tmps).run D.P w'=.ok v w'∧ig E' w' (oneOf l) v:=by
     refine ⟨hR'.idle htop,if h:vs.toArray.size=1 then vs.toArray[0] else .tuple vs.toArray,?_,?_⟩
     ·unfold results
      rw[Ay]
      simp only[Sem.run_bind,Sem.run_map]
      rw[hrun _ (fun _=>rfl) (fun _ _=>rfl)]
      rfl
     ·have hly:=al3 _ _ hvs
      match l,vs,hvs,hly with
      | [],[],hvs,_=>exact (by simp only[oneOf,ig];exact ⟨[],rfl,hvs⟩)
      | [x],[u],hvs,_ =>
       simp only[mq] at hvs
       obtain ⟨u',us,h1,h2,h3⟩:=hvs
       cases h1
       simpa [oneOf] using h2
      | x::y::r,u::u'::us,hvs,_ =>
       simp only[oneOf,ig]
       exact ⟨_,by simp,hvs⟩
    obtain ⟨hdf,v,hrun,hv⟩:=hres
    rcases hex with rfl | rfl
    ·exact ⟨hdf,v,hrun,v,E',rfl,hup,hR.swap hup hR',hD',hv⟩
    ·exact ⟨hdf,v,hrun,v,E',rfl,hup,hR.swap hup hR',hD',hv⟩
abbrev b0u(tmps:Array Value)(x:Tmp×Value):Array Value:=tmps.setIfInBounds x.1 x.2
theorem bpc:∀(l:List (Tmp×Value)) (T:Array Value),(l.foldl b0u T).size=T.size
 | [],T=>rfl
 | x::r,T=>by
  rw[Bl,bpc r]
  simp
theorem bjx:∀(ps:List Tmp) (cs:List Value) (T:Array Value) (t:Nat),t∉ps→((ps.zip cs).foldl b0u T).getD t undef=T.getD t undef
 | [],cs,T,t,h=>rfl
 | p::ps,[],T,t,h=>rfl
 | p::ps,c::cs,T,t,h=>by
  simp only[Am,not_or] at h
  rw[List.zip_cons_cons,Bl,bjx ps cs _ t h.2]
  simp only[b0u,Ad,Ar,if_neg (Ne.symm h.1)]
theorem br6{E:Env}{w:World}{rest:List (Nat×AVal)}{t m:Nat}:∀(ps:List Tmp) (args:List AVal) (cs:List Value) (T:Array Value),ama ps=true→bv3 m ps=true→T.size=m→args.length=ps.length→mq E w args cs →
    (t∉ps→ig E w (look rest t) (T.getD t undef))→ig E w (look (tq (bu5 ps args) rest) t) (((ps.zip cs).foldl b0u T).getD t undef)
 | [],args,cs,T,hn,hl,hT,hlen,ha,hr=>by
  simp only[bu5,tq,List.zip_nil_left,List.foldl_nil]
  exact hr (by simp)
 | p::ps,[],cs,T,hn,hl,hT,hlen,ha,hr=>by simp at hlen
 | p::ps,a::args,cs,T,hn,hl,hT,hlen,ha,hr=>by
  simp only[mq] at ha
  obtain ⟨u,us,rfl,h1,h2⟩:=ha
  simp only[ama,Ac,Bh] at hn
  simp only[bv3,Ac] at hl
  simp only[bu5,tq,look,List.zip_cons_cons,Bl]
  have hlt:p<m:=by simpa using hl.1
  cases hb:Ae p t with
  | true =>
   have:=Aa hb
   subst this
   simp only[cond_true]
   rw[bjx ps us _ p (fun hm=>by rw[aes.2 hm] at hn;cases hn.1)]
   simp only[b0u,Ad,Ar]
   rw[if_pos trivial,if_pos (by rw[hT];exact hlt)]
   exact h1
  | false =>
   simp only[cond_false]
   refine br6 ps args us _ hn.2 hl.2 (by simp[b0u,hT]) (by simpa using hlen) h2 (fun hm=>?_)
   have hne:p≠t:=Bn hb
   simp only[b0u,Ad,Ar,if_neg hne]
   have:=hr (by simp only[Am,not_or];exact ⟨Ne.symm hne,hm⟩)
   rw[Ad] at this
   exact this
theorem bo9{E:Env}{w:World}{t:Nat}:∀(ts:List Nat) (vs:List AVal) (T:Array Value),mq E w vs (ts.map fun t=>T.getD t undef)→ig E w (look (bu5 ts vs) t) (T.getD t undef)
 | [],vs,T,h=>by simp only[bu5,look];exact aml _
 | p::ts,[],T,h=>by simp only[bu5,look];exact aml _
 | p::ts,a::vs,T,h=>by
  simp only[mq,List.map_cons] at h
  obtain ⟨u,us,h0,h1,h2⟩:=h
  cases h0
  simp only[bu5,look]
  cases hb:Ae p t with
  | true =>
   have:=Aa hb
   subst this
   exact h1
  | false=>exact bo9 ts vs T h2
theorem amb{D:Ctx}(h:D.rng=[]):∀c,asx D c:=by
 intro c
 cases c<;>first
  | trivial
  | (intro e he;rw[h] at he;simp[bi9] at he)
theorem ayr{Db Di:Ctx}{Y:YCtx}(hG:GOk Db)(hG2:qg Db)(hI:InlOk Db)(hmix:Db.P.follows .mixedOrders=true)(hP:Di.P=Db.P)(hgl:Di.globs=Db.globs)(hyi:Di.y=some { Y with ready:=true })(hyb:Db.y=some { Y with ready:=false })
    (hti:Di.top=false) (htb:Db.top=false) (hrng:Db.rng=[]) (hLa:∀c',c'∈gy Y.assign→jl Db c') (hLb:∀c',c'∈gy Y.body→jl Db c'):ape Di (amg Db Y):=by
 intro ts vs args h n K r hs
 unfold amg at hs
 cases hq:Ae args.length Y.ps.size&&ama Y.ps.toList&&bv3 Y.m Y.ps.toList with
 | false=>rw[hq] at hs;cases hs
 | true =>
  rw[hq] at hs
  simp only[cond_true] at hs
  simp only[Ac] at hq
  obtain ⟨⟨hlen,hnd⟩,hlt⟩:=hq
  have hlen:=Aa hlen
  obtain ⟨ex,st1,hK1,hm1,hA⟩:=bgq hG hG2 hI hmix Y.assign hLa (fun c _=>amb hrng c) _ _ r hs
  cases ex with
  | exit j=>cases hK1
  | ret=>cases hK1
  | normal =>
   simp only at hK1
   obtain ⟨ex2,st2,hK2,hm2,hB⟩:=bgq hG hG2 hI hmix Y.body hLb (fun c _=>amb hrng c) _ _ r hK1
   cases ex2 with
   | exit j=>cases hK2
   | ret=>cases hK2
   | normal =>
    simp only at hK2
    refine ⟨_,_,hK2,fun B0 w0 E f m act w cargs id l T hR hD hargs hρ hvs=>?_⟩
    obtain ⟨hy0⟩:Nonempty (w0.y=some (id,l,T)):=by
     rcases hR.form id _ hρ with (⟨_,_,_,h⟩ | ⟨_,h⟩) | ⟨l',T',h1,h2⟩
     ·cases h
     ·cases h
     ·cases h2
      exact ⟨h1⟩
    obtain ⟨hBl,hSl,Y',r0,hY',hl,hT,hps,has,hbo,hsz,hrdy⟩:=hR.recs id l T hy0
    rw[hyi] at hY'
    cases hY'
    obtain ⟨hst,hpd⟩:=hrdy rfl
    simp only at hps has hbo hsz
    have hcl:=al3 _ _ hargs
    refine ⟨r0,hl,by rw[hps];simp;omega,fun n0 q=>?_⟩
    rw[hP]
    show RoundIn (FR none) n0 Db.P l r0.fn _ r0.assign r0.body w _
    rw[has,hbo]
    refine roundIn_of_wpIn (F:=FR none) trivial ?_
    have hfold:(r0.params.zip cargs.toArray).foldl (fun tmps (t,a)=>tmps.setIfInBounds t a) r0.tmps=(Y.ps.toList.zip cargs).foldl b0u T:=by
     rw[hps,hT,←Array.foldl_toList,Array.toList_zip]
    rw[hfold]
    have hrec2:∀(E':Env) (w':World) (o:Loop),E'.S l→w'.heap[l]?=some (.loop o)→o.tmps=T→o.params=Y.ps→o.assign=Y.assign→o.body=Y.body→au4 Db B0 w0 E' w':=by
     intro E' w' o k1 k2 k3 k4 k5 k6 id' l' T' hy
     rw[hy0] at hy
     cases hy
     exact ⟨hBl,k1,_,o,hyb,k2,k3,k4,k5,k6,hsz,fun h=>by cases h⟩
    have hR0:Rel Db B0 w0 E ⟨tq (bu5 Y.ps.toList args) (bu5 ts vs),h,n,Y.m⟩ ⟨(Y.ps.toList.zip cargs).foldl b0u T,[]⟩ w :=
     { below:=hR.below
       base:=hR.base
       size:=by rw[bpc];exact hsz
       idle:=fun _=>rfl
       marks:=trivial
       recs:=hrec2 E w r0 hSl hl hT hps has hbo
       tmps:=fun t=>br6 _ _ _ _ hnd hlt hsz (by simpa using hlen) hargs (fun _=>bo9 ts vs T hvs)
       heap:=hR.heap
       apart:=hR.apart
       sOld:=hR.sOld
       sNew:=hR.sNew
       form:=hR.form
       globs:=by rw[←hgl];exact hR.globs }
    refine wpIn_mono (hA (some l) n0 B0 w0 E _ w (fun h=>by rw[htb] at h;cases h) hR0 hD) (fun e a w1 hL=>?_)
    obtain ⟨rfl,E1,u1,hR1,hD1⟩:=hL
    have hl1:w1.heap[l]?=some (.loop r0):=by rw[u1.keeps.blk _ hSl];exact hl
    have hlt1:l<w1.heap.size:=(Ah.1 hl1).1
    have hS1:=u1.keeps.sub _ hSl
    refine ⟨_,run_beginRound hl1 hst,?_⟩
    have hw0:w0=⟨w0.w,w0.S0,w0.y⟩:=rfl
    have hbusy:(w1.putObj l (.loop { r0 with state:=.busy })).heap[l]?=some (.loop { r0 with state:=.busy }):=World.putObj_heap_same hlt1
    have hR2:Rel Db B0 w0 E1 st1 a (w1.putObj l (.loop { r0 with state:=.busy })):=by
     refine hR1.turn (D':=Db) (E':=E1) (act':=a) hG2 w0.y rfl rfl (apg hl1 (by simp) (by simp)) (amz hBl) (fun _ _ h=>h) (fun _ _ _=>rfl) (fun _ _ _=>⟨rfl,fun _ _=>rfl⟩) rfl (fun h=>hR1.idle h) ?_ (hrec2 _ _ _ hS1 hbusy hT hps has hbo) (fun id u hu=>hR1.form id u hu)
     rw[hR1.idle htb]
     trivial
    refine wpIn_mono (hB (some l) n0 B0 w0 E1 a _ (fun h=>by rw[htb] at h;cases h) hR2 hD1) (fun e a2 w3 hL=>?_)
    obtain ⟨rfl,E2,u2,hR3,hD3⟩:=hL
    have hl3:w3.heap[l]?=some (.loop { r0 with state:=.busy }):=by rw[u2.keeps.blk _ hS1];exact hbusy
    have hlt3:l<w3.heap.size:=(Ah.1 hl3).1
    have hend:=run_endRound (P:=Db.P) none hl3
    have hobj:({ ({ r0 with state:=.busy }:Loop) with state:=if (none:Option Code).isNone then LoopState.ready else LoopState.done,pending:=none }:Loop)=r0:=by
     cases r0
     simp only at hst hpd
     subst hst
     subst hpd
     rfl
    rw[hobj] at hend
    refine ⟨_,_,hend,E2,rfl,?_,?_,hD3⟩
    ·have hk:∀b,b≠l→(w3.putObj l (.loop r0)).heap[b]?=w3.heap[b]?:=fun b hb=>World.putObj_heap_other hb
     refine ⟨⟨fun b hb=>u2.keeps.sub _ (u1.keeps.sub _ hb),fun b hb=>?_⟩,fun id u hu=>u2.ρ _ _ (u1.ρ _ _ hu)⟩
     by_cases hbl:b=l
     ·subst hbl
      rw[World.putObj_heap_same hlt3,hl]
     ·rw[hk b hbl,u2.keeps.blk _ (u1.keeps.sub _ hb),World.putObj_heap_other hbl,u1.keeps.blk _ hb]
    ·have up:Up E E2 w (w3.putObj l (.loop r0)):=by
       refine ⟨⟨fun b hb=>u2.keeps.sub _ (u1.keeps.sub _ hb),fun b hb=>?_⟩,fun id u hu=>u2.ρ _ _ (u1.ρ _ _ hu)⟩
       by_cases hbl:b=l
       ·subst hbl
        rw[World.putObj_heap_same hlt3,hl]
       ·rw[World.putObj_heap_other hbl,u2.keeps.blk _ (u1.keeps.sub _ hb),World.putObj_heap_other hbl,u1.keeps.blk _ hb]
     have hRt:Rel Di B0 w0 E2 ⟨st2.f,st2.h,st2.n,st2.m⟩ ⟨a2.tmps,[]⟩ (w3.putObj l (.loop r0)):=by
      refine hR3.turn (D':=Di) (E':=E2) (act':=⟨a2.tmps,[]⟩) hG2 w0.y hgl rfl (apg hl3 (by simp) (by simp)) (amz hBl) (fun _ _ h=>h) (fun _ _ _=>rfl) (fun _ _ _=>⟨rfl,fun _ _=>rfl⟩) rfl (fun h=>rfl) trivial (fun id' l' T' hy=>?_) (fun id u hu=>hR3.form id u hu)
      have hy:=hy0.symm.trans hy
      cases hy
      exact ⟨hBl,u2.keeps.sub _ hS1,_,r0,hyi,World.putObj_heap_same hlt3,hT,hps,has,hbo,hsz,fun _=>⟨hst,hpd⟩⟩
     exact Rel.swap hR up hRt
end Go.Abs
end

section
namespace Go.Abs
open Go
structure Proved (P:Program) (globs:List (Nat×List AVal)) (f:FuncId) (s:Spec):Prop where
 enters:Enters P f
 sound:bhm P globs f s
def bz8(P:Program)(globs:List (Nat×List AVal)):List (Nat×Spec)→Prop
 | []=>True
 | (f,s)::r=>Proved P globs f s∧bz8 P globs r
theorem bbv{D:Ctx}(h:bz8 D.P D.globs D.G):GOk D:=by
 intro f s hs
 have:∀(l:List (Nat×Spec)),bz8 D.P D.globs l→ay3 l f=some s→Enters D.P f∧bhm D.P D.globs f s:=by
  intro l
  induction l with
  | nil=>intro _ h;simp[ay3] at h
  | cons x r ih =>
   obtain ⟨k,s'⟩:=x
   intro hg h
   simp only[ay3] at h
   cases hb:Ae k f with
   | true =>
    rw[hb] at h
    cases h
    have:=Aa hb
    subst this
    exact ⟨hg.1.enters,hg.1.sound⟩
   | false=>rw[hb] at h;exact ih hg.2 h
 exact this D.G h hs
def bnk:List AVal→Bool
 | []=>true
 | .arr ..::r=>bnk r
 | .v _::r=>bnk r
 | _::_=>false
theorem bak{E E':Env}{w:World}:∀(l:List AVal) (cs:List Value),bnk l=true→qw E w l cs→qw E' w l cs
 | [],cs,_,h=>by simpa only[qw] using h
 | a::r,cs,hp,h=>by
  rcases y8 h with ⟨k,n,l,cs',rfl,h1,rfl,h3⟩ | ⟨ha,u,cs',rfl,h2,h3,h4⟩
  ·exact abo h1 (bak r cs' hp h3)
  ·cases a<;>simp only[bnk] at hp<;>first
     | exact absurd rfl (ha _ _ _)
     | (simp only[ig] at h3;exact om ha h2 (by simp only[ig];exact h3) (bak r cs' hp h4))
     | cases hp
def bnq:List (Nat×List AVal)→Bool
 | []=>true
 | (_,l)::r=>bnk l&&bnq r
theorem je{D:Ctx}(h:bnq D.globs=true):qg D:=by
 intro g l hg E E' w cs hr _
 refine bak l cs ?_ hr
 revert h hg
 generalize D.globs=gs
 induction gs with
 | nil=>intro h hg;simp[assoc] at hg
 | cons x r ih =>
  obtain ⟨k,m⟩:=x
  intro h hg
  simp only[bnq,Ac] at h
  simp only[assoc] at hg
  cases hb:Ae k g with
  | true=>rw[hb] at hg;cases hg;exact h.1
  | false=>rw[hb] at hg;exact ih h.2 hg
def b2b(D:Ctx):List (Nat×biz)→Prop
 | []=>True
 | (g,s)::r=>(Enters D.P g∧bq4 D g s)∧b2b D r
theorem bcj{D:Ctx}(h:b2b D D.inl)(hY:∀s,D.ys=some s→ape D s):InlOk D:=by
 refine ⟨?_,hY⟩
 intro g s hs
 have:∀(l:List (Nat×biz)),b2b D l→bfj l g=some s→Enters D.P g∧bq4 D g s:=by
  intro l
  induction l with
  | nil=>intro _ h;simp[bfj] at h
  | cons x r ih =>
   obtain ⟨k,s'⟩:=x
   intro hg h
   simp only[bfj] at h
   cases hb:Ae k g with
   | true =>
    rw[hb] at h
    cases h
    have:=Aa hb
    subst this
    exact hg.1
   | false=>rw[hb] at h;exact ih hg.2 h
 exact this D.inl h hs
def gu(fn:Func)(id:Nat):Code :=
 match fn.body with
 | some c=>findC (gy c) id
 | none=>.skip
 where findC:List Code→Nat→Code
 | [],_=>.skip
 | c::r,id=>bif Ae (l5 c) id then c else findC r id
theorem bv7{D:Ctx}{c:Code}{s0:p8}(h0:bjp D.loops (l5 c)=some s0)(h:∀st K r,s0 st K=some r→∃k,itA D c K k st=some r):jl D c:=by
 intro s hs
 rw[h0] at hs
 cases hs
 exact h
def aun(D:Ctx):List Code→Prop
 | []=>True
 | c::r=>jl D c∧aun D r
theorem afy{D:Ctx}:∀(l:List Code),aun D l→∀c,c∈l→jl D c
 | [],_,c,h=>by simp at h
 | a::r,h,c,hc=>by
  rcases Am.1 hc with rfl | hc
  ·exact h.1
  ·exact afy r h.2 c hc
theorem atv{D:Ctx}(h:D.ys=none):∀s,D.ys=some s→ape D s:=by
 intro s hs
 rw[h] at hs
 cases hs
def akz(D:Ctx):List Code→Prop
 | []=>True
 | c::r=>asx D c∧akz D r
theorem be5{D:Ctx}:∀(l:List Code),akz D l→∀c,c∈l→asx D c
 | [],_,c,h=>by simp at h
 | a::r,h,c,hc=>by
  rcases Am.1 hc with rfl | hc
  ·exact h.1
  ·exact be5 r h.2 c hc
theorem aks{D:Ctx}(h:D.rng=[]):∀(l:List Code),akz D l
 | []=>trivial
 | c::r=>⟨amb h c,aks h r⟩
def abp(fn:Func)(id:Nat):Code :=
 match fn.body with
 | some c=>findR (xk c) id
 | none=>.skip
 where findR:List Code→Nat→Code
 | [],_=>.skip
 | c::r,id=>match c with
  | .rangeFunc g ps a b=>bif Ae (l5 b) id then .rangeFunc g ps a b else findR r id
  | _=>findR r id
def au3(c:Code)(m:Nat)(ready:Bool):YCtx :=
 match c with
 | .rangeFunc _ ps a b=>⟨ps,a,b,m,ready⟩
 | _=>⟨#[],.skip,.skip,m,ready⟩
def bvs:Code→Code
 | .rangeFunc _ _ _ b=>b
 | _=>.skip
def b2g(c:Code)(id:Nat):Code:=gu.findC (gy (bvs c)) id
theorem auo{D Di:Ctx}{c:Code}{e:RngE}(h0:bi9 D.rng (l5 (bvs c))=some e)(hP:Di.P=D.P)(hgl:Di.globs=D.globs)(hy:Di.y=some (au3 c e.m true))(h:Enters D.P e.g∧bq4 Di e.g e.s):asx D c:=by
 cases c<;>first
  | trivial
  | (intro e' he';simp only[bvs] at h0;rw[h0] at he';cases he';exact ⟨Di,hP,hgl,hy,h⟩)
theorem z8 {D : Ctx} {f : FuncId} {fn : Func} {c : Code} {s : Spec} (sig : List Sh) (hmix : D.P.follows .mixedOrders = true) (hgl : qg D) (hf : D.P.funcs[f]? = some fn) (hn : (fn.name == "runtime.NumGoroutine") = false) (hb : fn.body = some c)
    (hG:bz8 D.P D.globs D.G) (hI:b2b D D.inl) (hL:aun D (gy c)) (h:∀args K r,s args K=some r→bqe D fn sig args K=some r) (hRg:akz D (xk c):=by exact aks rfl _) (hY:D.ys=none:=by rfl):Proved D.P D.globs f s:=by
 refine ⟨⟨fn,hf,hn,by rw[hb];rfl⟩,fun args K r hs=>?_⟩
 exact buq (bbv hG) hgl (bcj hI (atv hY)) hmix hf (fun c' hc'=>by rw[hb] at hc';cases hc';exact afy _ hL) (fun c' hc'=>by rw[hb] at hc';cases hc';exact be5 _ hRg) sig args K r (h args K r hs)
theorem aor {D D' : Ctx} {f : FuncId} {fn : Func} {c : Code} {s : biz} (hP : D'.P = D.P) (hgg : D'.globs = D.globs) (hmix : D.P.follows .mixedOrders = true) (hgl : qg D) (hf : D.P.funcs[f]? = some fn) (hn : (fn.name == "runtime.NumGoroutine") = false) (hb : fn.body = some c)
    (hG:bz8 D.P D.globs D.G) (hI:b2b D D.inl) (hL:aun D (gy c)) (h:∀args hh n K r,s args hh n K=some r→afj D fn args hh n K=some r) (hy:D'.y=D.y:=by rfl) (htop:D.top=false:=by rfl) (hRg:akz D (xk c):=by exact aks rfl _) (hY:∀s,D.ys=some s→ape D s:=by exact atv rfl):Enters D'.P f∧bq4 D' f s:=by
 refine ⟨⟨fn,by rw[hP];exact hf,hn,by rw[hb];rfl⟩,fun args hh n K r hs=>?_⟩
 have h1:=bvq (bbv hG) hgl (bcj hI hY) hmix hf (fun c' hc'=>by rw[hb] at hc';cases hc';exact afy _ hL) (fun c' hc'=>by rw[hb] at hc';cases hc';exact be5 _ hRg) htop args hh n K r (h args hh n K r hs)
 obtain ⟨v,h',n',k1,k2⟩:=h1
 refine ⟨v,h',n',k1,fun B0 w0 E f m act w cargs hR hD ha=>?_⟩
 have hrec:∀{E w},au4 D' B0 w0 E w→au4 D B0 w0 E w:=by
  intro E w h
  unfold au4 at h ⊢
  rw[←hy]
  exact h
 have hrec':∀{E w},au4 D B0 w0 E w→au4 D' B0 w0 E w:=by
  intro E w h
  unfold au4 at h ⊢
  rw[hy]
  exact h
 have hR':Rel D B0 w0 E ⟨[],hh,n,0⟩ ⟨#[],[]⟩ w :=
  { hR with
    size:=rfl
    idle:=fun _=>rfl
    marks:=trivial
    recs:=hrec hR.recs
    tmps:=fun t=>aml _
    globs:=by rw[←hgg];exact hR.globs }
 rw[hP]
 refine (k2 B0 w0 E [] 0 _ w cargs hR' hD ha).mono ?_
 rintro e w' ⟨u,E',rfl,g1,g2,g3,g4⟩
 have hR2:Rel D' B0 w0 E' ⟨[],h',n',0⟩ ⟨#[],[]⟩ w':={ g2 with idle:=fun _=>rfl,marks:=trivial,recs:=hrec' g2.recs,globs:=by rw[hgg];exact g2.globs }
 exact ⟨u,E',rfl,g1,Rel.swap hR g1 hR2,g3,g4⟩
@[simp] theorem oq {α:Type} (x y:α):br true x y=x:=by unfold br;rfl
@[simp] theorem w9 {α:Type} (x y:α):br false x y=y:=by unfold br;rfl
theorem bf{α:Type}{p:Prop}[Decidable p](h:p)(x y:α):br (decide p) x y=x:=by rw[decide_eq_true h];exact oq x y
theorem bn{α:Type}{p:Prop}[Decidable p](h:¬p)(x y:α):br (decide p) x y=y:=by rw[decide_eq_false h];exact w9 x y
def bpu(D:Ctx)(c:Code)(K:AExit→ASt→Option R)(next:ASt→Option R)(st:ASt):Option R :=
 aho D c st (by5 (hintOf D.hints (l5 c)) (st.n-(hintOf D.hints (l5 c)).rows.length) (keysOf (bex (hintOf D.hints (l5 c)).rows.length st.h)) K next)
theorem bzg(D:Ctx)(c:Code)(K:AExit→ASt→Option R)(k:Nat)(st:ASt):itA D c K (k+1) st=bpu D c K (itA D c K k) st:=by
 unfold bpu
 show iter _ _ _ _ _ _ _=_
 simp only[iter]
 congr 1
 funext ex st'
 cases ex with
 | normal =>
  simp only[by5]
  split
  ·rename_i st1 hn
   obtain ⟨h1,h2⟩:=bpf hn
   unfold itA
   rw[h1,h2]
  ·rfl
 | exit id=>rfl
 | ret=>rfl
theorem bzl(D:Ctx)(c:Code)(K:AExit→ASt→Option R)(st:ASt):itA D c K 0 st=bpu D c K (fun _=>none) st:=rfl
end Go.Abs
end

section
namespace Go.Abs
open Go
theorem l7{x:Int}(h : -9223372036854775808≤x)(h2:x≤9223372036854775807):IntKind.i64.wrap x=x:=IntWalk.i64_in x ⟨h,h2⟩
theorem pre_some{p:Prop}[Decidable p]{x:Option R}{r:R}(h:br (decide p) x none=some r):p∧x=some r:=by
 obtain ⟨h1,h2⟩:=ah7 h
 exact ⟨of_decide_eq_true h1,h2⟩
end Go.Abs
end

section
/- The pure side: loops as rounds that go on, with rounds enough for any loop of a program. -/
namespace Go.Abs
open Go
theorem b7p:∃n:Nat,n=18446744073709551616:=⟨_,rfl⟩
noncomputable def FU:Nat:=Bz b7p
theorem b22:FU=18446744073709551616:=Bo b7p
def lpN{X Y ρ:Type}(stp:X→(X→Option ρ)→(Y→Option ρ)→Option ρ)(K:Y→Option ρ):Nat→X→Option ρ
 | 0,x=>stp x (fun _=>none) K
 | n+1,x=>stp x (lpN stp K n) K
noncomputable def lp{X Y ρ:Type}(stp:X→(X→Option ρ)→(Y→Option ρ)→Option ρ)(x:X)(K:Y→Option ρ):Option ρ:=lpN stp K FU x
theorem b94{X Y ρ:Type}{stp:X→(X→Option ρ)→(Y→Option ρ)→Option ρ}{K:Y→Option ρ}{r:Option ρ}(P:X→Prop)(μ:X→Nat)
    (step:∀x,P x→∀next,(∀x',P x'→μ x'<μ x→next x'=r)→stp x next K=r) {x:X} (hx:P x) (hm:μ x≤18446744073709551616):lp stp x K=r:=by
 have key:∀n x,P x→μ x≤n→lpN stp K n x=r:=by
  intro n
  induction n with
  | zero=>intro x hx hm;exact step x hx _ (fun x' _ h=>by omega)
  | succ n ih=>intro x hx hm;exact step x hx _ (fun x' hx' h=>ih x' hx' (by omega))
 exact key FU x hx (by rw[b22];exact hm)
theorem byp{α:Sort _}(a:α):∃b,b=a:=⟨a,rfl⟩
noncomputable def shut{α:Sort _}(a:α):α:=Bz (byp a)
theorem bg{α:Sort _}(a:α):shut a=a:=Bo (byp a)
def abx{X:Type}(o:Option X)(f:X→Option R):Option R :=
 match o with
 | some x=>f x
 | none=>none
theorem bxq{D:Ctx}{c:Code}{X Y:Type}(S:X→ASt){V:ASt→Option X}(hV:∀st x,V st=some x→st=S x)
    {stp:X→(X→Option R)→(Y→Option R)→Option R} {enc:(AExit→ASt→Option R)→Y→Option R}
    {L:p8} (h0:bjp D.loops (l5 c)=some L) (hL:∀st K,L st K=abx (V st) (fun x=>lp stp x (enc K)))
    (h:∀K next x,bpu D c K next (S x)=stp x (fun x'=>next (S x')) (enc K)):jl D c:=by
 refine bv7 h0 (fun st K r hr=>?_)
 rw[hL] at hr
 unfold abx at hr
 split at hr
 ·rename_i x hx
  rw[hV st x hx]
  refine ⟨FU,?_⟩
  rw[←hr]
  have key:∀n x,itA D c K n (S x)=lpN stp (enc K) n x:=by
   intro n
   induction n with
   | zero=>intro x;rw[bzl,h];rfl
   | succ n ih =>
    intro x
    rw[bzg,h]
    simp only[lpN]
    congr 1
    funext x'
    exact ih x'
  exact key FU x
 ·cases hr
theorem bq{P:Program}{globs:List (Nat×List AVal)}{f:FuncId}{s:Spec}(ss:List Sh)(h:Proved P globs f s):Proved P globs f (fun args K=>s (j5 ss args) K) :=
 ⟨h.enters,fun args K r hs=>by
  obtain ⟨a,h1,h2⟩:=h.sound (j5 ss args) K r hs
  exact ⟨a,h1,fun S w cargs hS hg ha=>h2 S w cargs hS hg (ay9 ss args cargs ha)⟩⟩
@[congr] theorem cbu {α:Type} {b c:Bool} (h:b=c) (x y:α):br b x y=br c x y:=by rw[h]
end Go.Abs
abbrev Go.Abs.ab5(T Y ρ:Type):=T→(T→Option ρ)→(Y→Option ρ)→Option ρ
abbrev Go.Abs.ab6(T Y ρ:Type):=T→(Y→Option ρ)→Option ρ
theorem Go.Abs.fq{D:Go.Abs.Ctx}{c:Go.Code}{X Y:Type}(S:X→Go.Abs.ASt){V:Go.Abs.ASt→Option X}(hV:∀st x,V st=some x→st=S x)
    {stp:X→(X→Option Go.Abs.R)→(Y→Option Go.Abs.R)→Option Go.Abs.R} {enc:(Go.Abs.AExit→Go.Abs.ASt→Option Go.Abs.R)→Y→Option Go.Abs.R} {M:X→(Y→Option Go.Abs.R)→Option Go.Abs.R}
    (h0:Go.Abs.bjp D.loops (Go.Abs.l5 c)=some (fun st K=>Go.Abs.abx (V st) fun x=>M x (enc K))) (hM:M=Go.Abs.lp stp)
    (h:∀K next x,Go.Abs.bpu D c K next (S x)=stp x (fun x'=>next (S x')) (enc K)):Go.Abs.jl D c:=Go.Abs.bxq S hV h0 (fun st K=>by rw[hM]) h
abbrev Go.Abs.cX(P:Go.Program)(G:List (Nat×Go.Abs.Spec))(g:List (Nat×List Go.Abs.AVal)):Go.Abs.Ctx:={ P:=P,G:=G,globs:=g,hints:=[],loops:=[],inl:=[] }
theorem Go.Abs.pK{P:Go.Program}{G:List (Nat×Go.Abs.Spec)}{g:List (Nat×List Go.Abs.AVal)}{f:Go.FuncId}{fn:Go.Func}{s:Go.Abs.Spec}(sig:List Go.Abs.Sh)(hG:Go.Abs.bz8 P g G)
    (h : ∀ args K r, s args K = some r → Go.Abs.bqe (Go.Abs.cX P G g) fn sig args K = some r) (h1 : P.follows .mixedOrders = true := by kernel_rfl) (h2 : Go.Abs.bnq g = true := by kernel_rfl) (h3 : P.funcs[f]? = some fn := by kernel_rfl) (h4 : (fn.name == "runtime.NumGoroutine") = false := by kernel_rfl)
    (h5:fn.body=some (fn.body.getD .skip):=by kernel_rfl) (h6:Go.Abs.gy (fn.body.getD .skip)=[]:=by kernel_rfl) (h7:Go.Abs.akz (Go.Abs.cX P G g) (Go.Abs.xk (fn.body.getD .skip)):=by exact Go.Abs.aks rfl _):Go.Abs.Proved P g f s :=
  Go.Abs.z8 (D:=Go.Abs.cX P G g) (c:=fn.body.getD .skip) sig h1 (Go.Abs.je h2) h3 h4 h5 hG trivial (by rw[h6];exact trivial) h h7 rfl
theorem Go.Abs.pL{D:Go.Abs.Ctx}{f:Go.FuncId}{fn:Go.Func}{s:Go.Abs.Spec}{L:List Go.Code}(sig:List Go.Abs.Sh)(hG:Go.Abs.bz8 D.P D.globs D.G)(hl:Go.Abs.gy (fn.body.getD .skip)=L)(hL:Go.Abs.aun D L)
    (h : ∀ args K r, s args K = some r → Go.Abs.bqe D fn sig args K = some r) (h1 : D.P.follows .mixedOrders = true := by kernel_rfl) (h2 : Go.Abs.bnq D.globs = true := by kernel_rfl) (h3 : D.P.funcs[f]? = some fn := by kernel_rfl) (h4 : (fn.name == "runtime.NumGoroutine") = false := by kernel_rfl)
    (h5:fn.body=some (fn.body.getD .skip):=by kernel_rfl) (h6:Go.Abs.b2b D D.inl:=by exact trivial) (h7:Go.Abs.akz D (Go.Abs.xk (fn.body.getD .skip)):=by exact Go.Abs.aks rfl _) (h8:D.ys=none:=by rfl):Go.Abs.Proved D.P D.globs f s :=
  Go.Abs.z8 (D:=D) (c:=fn.body.getD .skip) sig h1 (Go.Abs.je h2) h3 h4 h5 hG h6 (by rw[hl];exact hL) h h7 h8
end

section
/- Functions that hand back a beginning of a row of their own; slices.Clone. -/
namespace Go.Abs
open Go Go.RowKit
def b81(D:Ctx)(e:TypeId)(c0:Cont)(fn:Func)(st:ASt)(K:AVal→Option R):Option R :=
 match byv D st fn.results.toList with
 | some [.win id 0 len]=>match iw st.h id with
  | some ⟨.row e' c,false⟩=>bif Ae e e' then K (.fr e (c.take len)) else none
  | _=>none
 | some [.own id]=>match iw st.h id with
  | some ⟨.row e' c,false⟩=>bif Ae e e' then K (.fr e c) else none
  | _=>none
 | some [.v (.slice none 0 0)]=>bif Ae c0.len 0 then K (.fr e c0) else none
 | _=>none
def b4j(D:Ctx)(fn:Func)(e:TypeId)(c0:Cont)(args:List AVal)(K:AVal→Option R):Option R :=
 match fn.body with
 | none=>none
 | some c=>bif Nat.ble args.length fn.ntmps then
     aho D c ⟨aws 0 args,[],0,fn.ntmps⟩ fun ex st=>match ex with
      | .exit _=>none
      | .normal=>b81 D e c0 fn st K
      | .ret=>b81 D e c0 fn st K
  else none
theorem bsk{D:Ctx}{S:Nat→Prop}{w:World}{args:List AVal}{cargs:List Value}{m:Nat}(hSw:∀b,S b→b<w.heap.size)(hgl:auf D.globs S w)(hargs:mq (xq S) w args cargs)(hle:args.length≤m) :
    Rel D w.heap.size ⟨w,S,none⟩ (xq S) ⟨aws 0 args,[],0,m⟩ { tmps:=cargs.toArray++Ag (m-cargs.toArray.size) undef,defers:=[] } w:=by
 have hlen:=al3 _ _ hargs
 refine ⟨Below.refl _ _,Bf _,by simp;omega,fun _=>rfl,trivial,bbc rfl,fun t=>br1 hargs hle t,fun id b hb=>by simp[iw] at hb,fun id id' b b' u u' k hb=>by simp[iw] at hb,hSw,fun b hb=>.inl hb,fun id u hu=>by simp[xq] at hu,hgl⟩
theorem bt7{D:Ctx}{e:TypeId}{c0:Cont}{fn:Func}{st:ASt}{K:AVal→Option R}{r:R}(h:b81 D e c0 fn st K=some r):∃y,K y=some r∧∀(S:Nat→Prop) (w:World) (E:Env) (a:Act) (w':World),Rel D w.heap.size ⟨w,S,none⟩ E st a w' →
    ∃v,(results fn a.tmps).run D.P w'=.ok v w'∧∃Sn bs,Below w.heap.size w w'∧(∀b,Sn b→S b∨(w.heap.size≤b∧b<w'.heap.size))∧aau Sn w' w.heap.size y v bs∧bs.Nodup∧∀b,b∈bs→¬Sn b:=by
 have one:∀(x:AVal) (y:AVal),byv D st fn.results.toList=some [x]→K y=some r→(∀(S:Nat→Prop) (w:World) (E:Env) (a:Act) (w':World),Rel D w.heap.size ⟨w,S,none⟩ E st a w'→∀u,ig E w' x u→∃bs,aau E.S w' w.heap.size y u bs∧bs.Nodup∧∀b,b∈bs→¬E.S b) →
     ∃y,K y=some r∧∀(S:Nat→Prop) (w:World) (E:Env) (a:Act) (w':World),Rel D w.heap.size ⟨w,S,none⟩ E st a w' →
      ∃v,(results fn a.tmps).run D.P w'=.ok v w'∧∃Sn bs,Below w.heap.size w w'∧(∀b,Sn b→S b∨(w.heap.size≤b∧b<w'.heap.size))∧aau Sn w' w.heap.size y v bs∧bs.Nodup∧∀b,b∈bs→¬Sn b:=by
  intro x y hl hK hx
  refine ⟨y,hK,fun S w E a w' hR=>?_⟩
  obtain ⟨vs,hvs,hrun⟩:=bf3 hR _ _ hl
  simp only[mq] at hvs
  obtain ⟨u,us,rfl,h1,rfl⟩:=hvs
  obtain ⟨bs,k1,k2,k3⟩:=hx S w E a w' hR u h1
  refine ⟨u,?_,E.S,bs,hR.below,fun b hb=>?_,k1,k2,k3⟩
  ·unfold results
   rw[Ay]
   simp only[Sem.run_bind,Sem.run_map]
   rw[hrun _ (fun _=>rfl) (fun _ _=>rfl)]
   rfl
  ·rcases hR.sNew b hb with h | h
   ·exact .inl h
   ·exact .inr ⟨h,hR.sOld b hb⟩
 have fin:∀(S:Nat→Prop) (w:World) (E:Env) (a:Act) (w':World),Rel D w.heap.size ⟨w,S,none⟩ E st a w'→∀(id:Nat) (e':TypeId) (c c':Cont) (u v:Value) (xs':List Value),iw st.h id=some ⟨.row e' c,false⟩→E.ρ id=some v→(∀k,jk u=some k→jk v=some k) →
     w'.ownsRow w.heap.size e' c'.size u c'.len xs'→(∀j x,xs'[j]?=some x→x.oneCell'=true∧cellC E.S w' c' j x)→∃bs,aau E.S w' w.heap.size (.fr e' c') u bs∧bs.Nodup∧∀b,b∈bs→¬E.S b:=by
  intro S w E a w' hR id e' c c' u v xs' hb hv hvb ho hxs
  refine ⟨(jk u).toList,by simp only[aau];exact ⟨⟨xs',ho,hxs⟩,trivial⟩,by cases jk u<;>simp,fun b hb'=>?_⟩
  obtain ⟨v',hv',_,hns,_⟩:=hR.heap id _ hb
  rw[hv] at hv'
  cases hv'
  cases hvu:jk u with
  | none=>rw[hvu] at hb';simp at hb'
  | some k =>
   rw[hvu] at hb'
   simp at hb'
   subst hb'
   exact hns rfl b (hvb b hvu)
 unfold b81 at h
 split at h
 ·rename_i id len hl
  split at h
  ·rename_i e' c hb
   cases hq:Ae e e' with
   | false=>rw[hq] at h;cases h
   | true =>
    rw[hq] at h
    have:=Aa hq
    subst this
    refine one _ _ hl h (fun S w E a w' hR u hu=>?_)
    simp only[ig] at hu
    obtain ⟨A,q,cap,hρ',hle,A',_,hA',hu⟩:=hu
    obtain ⟨v,hρ,⟨xs,ho,hxs⟩,_⟩:=hR.heap _ _ hb
    rw[hρ] at hρ'
    cases hρ'
    rw[show A'=A from hA' trivial,Bv] at hu
    have hq:q=c.len:=by
     rcases (show _ from ho.2) with ⟨h1,h2⟩ | ⟨g,cap',cur,h1,_⟩
     ·cases h1;exact h2.symm
     ·cases h1;rfl
    obtain ⟨t1,t2,t3⟩:=Cont.ay7 (c:=c) (m:=len) (by omega)
    rw[←hq] at ho
    have ho':=ai6 (m:=len) ho rfl (by omega)
    refine fin S w E a w' hR id e c (c.take len) u _ _ hb hρ (fun k hk=>by rw[hu] at hk;cases A<;>exact hk) (by rw[t1,t2,hu];exact ho') (fun j y hj=>?_)
    have hlt:=(Bj.1 hj).1
    rw[ho'.1] at hlt
    rw[List.getElem?_take,if_pos hlt] at hj
    exact ⟨(hxs j y hj).1,t3 _ _ _ _ hlt (hxs j y hj).2⟩
  ·cases h
 ·rename_i id hl
  split at h
  ·rename_i e' c hb
   cases hq:Ae e e' with
   | false=>rw[hq] at h;cases h
   | true =>
    rw[hq] at h
    have:=Aa hq
    subst this
    refine one _ _ hl h (fun S w E a w' hR u hu=>?_)
    simp only[ig] at hu
    obtain ⟨v,hρ,⟨xs,ho,hxs⟩,_⟩:=hR.heap _ _ hb
    rw[hu] at hρ
    cases hρ
    exact fin S w E a w' hR id e c c u u xs hb hu (fun k hk=>hk) ho hxs
  ·cases h
 ·rename_i hl
  cases hq:Ae c0.len 0 with
  | false=>rw[hq] at h;cases h
  | true =>
   rw[hq] at h
   have hc:=Aa hq
   refine one _ _ hl h (fun S w E a w' hR u hu=>?_)
   simp only[ig] at hu
   subst hu
   exact ⟨[],by simp only[aau];exact ⟨⟨[],ownsRow_nil hc,by simp⟩,rfl⟩,by simp,by simp⟩
 ·cases h
theorem bqf{D:Ctx}(hG:GOk D)(hG2:qg D)(hI:InlOk D)(hmix:D.P.follows .mixedOrders=true){f:FuncId}{fn:Func}(hf:D.P.funcs[f]?=some fn)(hL:∀c,fn.body=some c→∀c',c'∈gy c→jl D c')(hrng:D.rng=[])(htop:D.top=false)(e:TypeId)(c0:Cont) :
    bhm D.P D.globs f (b4j D fn e c0):=by
 intro args K r h
 unfold b4j at h
 split at h
 ·cases h
 ·rename_i c hb
  cases hle:Nat.ble args.length fn.ntmps with
  | false=>rw[hle] at h;cases h
  | true =>
   rw[hle] at h
   simp only[cond_true] at h
   have hle:=A9 hle
   obtain ⟨ex,st,hK,hm,hcode⟩:=bgq hG hG2 hI hmix c (hL c hb) (fun c _=>amb hrng c) _ _ r h
   have hout:(ex=.normal∨ex=.ret)∧b81 D e c0 fn st K=some r:=by
    cases ex with
    | normal=>exact ⟨.inl rfl,hK⟩
    | ret=>exact ⟨.inr rfl,hK⟩
    | exit j=>cases hK
   obtain ⟨hex,hout⟩:=hout
   obtain ⟨y,hKy,hy⟩:=bt7 (D:=D) hout
   refine ⟨y,hKy,fun S w cargs hSw hgl hargs=>?_⟩
   refine aky.1 (callsIn_of_wp (F:=FR none) (n:=0) hf hb trivial (wpIn_mono (hcode none 0 _ _ (xq S) _ w (fun _=>rfl) (bsk hSw hgl hargs hle) (fun id u hu=>by simp[xq] at hu)) (fun e a w' hL=>?_)))
   obtain ⟨rfl,E',hup,hR,hD⟩:=hL
   obtain ⟨v,hrun,Sn,bs,k⟩:=hy S w E' a w' hR
   rcases hex with rfl | rfl
   ·exact ⟨hR.idle htop,v,hrun,v,Sn,bs,rfl,k⟩
   ·exact ⟨hR.idle htop,v,hrun,v,Sn,bs,rfl,k⟩
theorem bbd {D : Ctx} {f : FuncId} {fn : Func} {c : Code} {s : Spec} (e : TypeId) (c0 : Cont) (hmix : D.P.follows .mixedOrders = true) (hgl : qg D) (hf : D.P.funcs[f]? = some fn) (hn : (fn.name == "runtime.NumGoroutine") = false) (hb : fn.body = some c)
    (hG:bz8 D.P D.globs D.G) (hI:b2b D D.inl) (hL:aun D (gy c)) (h:∀args K r,s args K=some r→b4j D fn e c0 args K=some r) (hrng:D.rng=[]:=by rfl) (htop:D.top=false:=by rfl) (hY:D.ys=none:=by rfl):Proved D.P D.globs f s:=by
 refine ⟨⟨fn,hf,hn,by rw[hb];rfl⟩,fun args K r hs=>?_⟩
 exact bqf (bbv hG) hgl (bcj hI (atv hY)) hmix hf (fun c' hc'=>by rw[hb] at hc';cases hc';exact afy _ hL) hrng htop e c0 args K r (h args K r hs)
def sq1:Code→Code
 | .seq a _=>a
 | c=>c
def sq2:Code→Code
 | .seq _ b=>b
 | c=>c
def bs9:Code→Array Oper
 | .region _ ops _=>ops
 | _=>#[]
def chz:Code→Code
 | .cond _ x _=>x
 | c=>c
def btm : Oper := ⟨none, .move (.tmp 0), 0, "", #[], none⟩
def clq:AVal→Option R:=fun x=>some x
def cqh(D:Ctx)(sig:List Sh)(fn:Func):AExit→ASt→Option R:=fun ex st=>match ex with
 | .exit _=>none
 | .normal=>b1k D sig fn st clq
 | .ret=>b1k D sig fn st clq
theorem bsy{P:Program}{o:Oper}{a:Act}{w:World}{v:Value}{next:Act→World→Prop}{Q:Exit→Act→World→Prop}(hr:(execOp a.eval o).run P w=.ok (.value v) w)(h:next (a.put o.dst v) w):o.wp P a w next Q:=by
 unfold Oper.wp
 rw[hr,Oper.upon_value]
 exact h
set_option maxHeartbeats 2000000 in
theorem b03{D:Ctx}{f:FuncId}{fn:Func}{t e:TypeId}{c:Cont}(hG:bz8 D.P D.globs D.G)(hgl:qg D)(hI:b2b D D.inl)(hmix:D.P.follows .mixedOrders=true)(hf:D.P.funcs[f]?=some fn)
    {o0 o1 o2:Oper} {i0 i1:Nat} {X rest:Code} (hb:fn.body=some (.seq (.region i0 #[o0] false) (.seq (.seq (.region i1 #[o1,o2] false) (.cond (.tmp 4) X .skip)) rest)))
    (h0:o0.op=.assign (.const (.slice none 0 0))∧o0.dst=some 2∧o0.guard=none) (h1:o1.op=.move (.tmp 0)∧o1.dst=some 3∧o1.guard=none)
    (h2:o2.op=.binOp .eql t (.tmp 3) (.const (.slice none 0 0)) t∧o2.dst=some 4∧o2.guard=none) (ht:D.P.underlying t=some (.slice e)) (hm:5≤fn.ntmps)
    (hLX:gy X=[]) (hLr:gy rest=[]) (hX2:∃i o,X=.seq (.region i #[o] false) .ret∧o.op=.assign (.const (.slice none 0 0))∧o.dst=some 2∧o.guard=none) (hres:fn.results=#[.tmp 2])
    (hrng:D.rng=[]) (htop:D.top=false) (hY:D.ys=none) (hr:aho D rest ⟨[(0,.sl c),(2,.v (.slice none 0 0))],[],0,fn.ntmps⟩ (cqh D [.fr e c] fn)=some (.fr e c)) :
    ∀(S:Nat→Prop) (w:World) (cargs:List Value),(∀b,S b→b<w.heap.size)→auf D.globs S w→mq (xq S) w [.sl c] cargs →
     Calls D.P f cargs.toArray w fun e' w'=>∃v Sn bs,e'=.returned v∧Below w.heap.size w w'∧(∀b,Sn b→S b∨(w.heap.size≤b∧b<w'.heap.size))∧aau Sn w' w.heap.size (.fr e c) v bs∧bs.Nodup∧∀b,b∈bs→¬Sn b:=by
 intro S w cargs hSw hgl' hargs
 have hR0:=bsk (m:=fn.ntmps) hSw hgl' hargs (by simp;omega)
 simp only[mq] at hargs
 obtain ⟨u,us,rfl,hu,rfl⟩:=hargs
 refine aky.1 (callsIn_of_wp_marks (F:=FR none) (n:=0) hf hb trivial (wpIn_wide.2 (wp_seq (wp_region ?_))))
 obtain ⟨dst0,op0,ty0,pos0,after0,g0⟩:=o0
 obtain ⟨dst1,op1,ty1,pos1,after1,g1⟩:=o1
 obtain ⟨dst2,op2,ty2,pos2,after2,g2⟩:=o2
 simp only at h0 h1 h2
 obtain ⟨rfl,rfl,rfl⟩:=h0
 obtain ⟨rfl,rfl,rfl⟩:=h1
 obtain ⟨rfl,rfl,rfl⟩:=h2
 have hu0:=hu
 simp only[ig] at hu
 obtain ⟨A,cap,hu1,hcap,hrd⟩:=hu
 -- the first region
 show wpOps D.P _ _ [0] _ _
 simp only[wpOps,Ba,Al,Region.wanted,if_true]
 refine .inl (bsy (v:=.slice none 0 0) rfl ?_)
 have hR1:=Rel.put (a:=.v (.slice none 0 0)) (u:=.slice none 0 0) hR0 (by simp only[ig]) (some 2)
 simp only[Exit.then]
 refine wp_seq (wp_seq (wp_region ?_))
 show wpOps D.P _ _ [0,1] _ _
 simp only[wpOps,Ba,Al,List.getElem?_cons_succ,Region.wanted,if_true]
 have hev:∀t,t≠2→(Act.put { tmps:=[u].toArray++Ag (fn.ntmps-[u].toArray.size) undef,defers:=[] } (some 2) (.slice none 0 0)).tmps.getD t undef=(([u].toArray++Ag (fn.ntmps-[u].toArray.size) undef:Array Value)).getD t undef:=by
  intro t ht
  simp only[Act.put]
  rw[Ad,Ad,Array.getElem?_setIfInBounds_ne (by omega)]
 have hr3:ig (xq S) w (.sl c) ((Act.put { tmps:=[u].toArray++Ag (fn.ntmps-[u].toArray.size) undef,defers:=[] } (some 2) (.slice none 0 0)).eval (.tmp 0)):=by
  have h1:=hR1.tmps 0
  have e1:look (ASt.put ⟨aws 0 [.sl c],[],0,fn.ntmps⟩ (some 2) (.v (.slice none 0 0))).f 0=.sl c:=by simp[ASt.put,adj,aws,look]
  rw[e1] at h1
  exact h1
 have hu3:(Act.put { tmps:=[u].toArray++Ag (fn.ntmps-[u].toArray.size) undef,defers:=[] } (some 2) (.slice none 0 0)).eval (.tmp 0)=u:=by
  show (Act.put _ (some 2) _).tmps.getD 0 undef=u
  rw[hev 0 (by omega),Ad,Aw (by simp)]
  rfl
 rw[hu3] at hr3
 refine .inl (bsy (v:=u) (by simp only[execOp,hu3];rfl) ?_)
 have hR2:=Rel.put (a:=.sl c) (u:=u) hR1 hr3 (some 3)
 have he3:(Act.put (Act.put { tmps:=[u].toArray++Ag (fn.ntmps-[u].toArray.size) undef,defers:=[] } (some 2) (.slice none 0 0)) (some 3) u).eval (.tmp 3)=u:=by
  show (Act.put _ (some 3) _).tmps.getD 3 undef=u
  simp only[Act.put]
  rw[Ad,Array.getElem?_setIfInBounds_self_of_lt (by simp;omega)]
  rfl
 generalize hact2:(Act.put (Act.put { tmps:=[u].toArray++Ag (fn.ntmps-[u].toArray.size) undef,defers:=[] } (some 2) (.slice none 0 0)) (some 3) u)=a2 at hR2 he3 ⊢
 refine .inl (bsy (v:=.bool A.isNone) (by
  have hcn:a2.eval (.const (.slice none 0 0))=.slice none 0 0:=rfl
  simp only[execOp,he3,hcn]
  rw[hu1]
  simp[eqGuard,binOp,run_equal_slice_nil w t e A c.len cap ht]) ?_)
 have hR3:=Rel.put (a:=.v (.bool A.isNone)) (u:=.bool A.isNone) hR2 (by simp only[ig]) (some 4)
 simp only[Exit.then]
 generalize hact:Act.put a2 (some 4) (.bool A.isNone)=act at hR3 ⊢
 have hc4:act.eval (.tmp 4)=.bool A.isNone:=by
  have:=hR3.tmps 4
  simp only[ASt.put,adj] at this
  rw[if_pos ⟨trivial,by omega⟩] at this
  simp only[ig] at this
  exact this
 have hk:∀t,look ([(0,AVal.sl c),(2,AVal.v (.slice none 0 0))]:List (Nat×AVal)) t=.bot∨ig (xq S) w (look [(0,.sl c),(2,.v (.slice none 0 0))] t) (act.tmps.getD t undef):=by
  intro t
  by_cases h0:t=0
  ·subst h0
   right
   have:=hR3.tmps 0
   simpa [ASt.put,adj,aws,look] using this
  ·by_cases h2:t=2
   ·subst h2
    right
    have h3:=hR3.tmps 2
    have e2:look (ASt.put (ASt.put (ASt.put ⟨aws 0 [.sl c],[],0,fn.ntmps⟩ (some 2) (.v (.slice none 0 0))) (some 3) (.sl c)) (some 4) (.v (.bool A.isNone))).f 2=.v (.slice none 0 0):=by
     simp only[ASt.put,adj]
     rw[if_neg (by simp),if_neg (by simp),if_pos ⟨trivial,by omega⟩]
    rw[e2] at h3
    exact h3
   ·left
    have a0:Ae 0 t=false:=by cases hq:Ae 0 t with
     | false=>rfl
     | true=>exact absurd (Aa hq).symm h0
    have a2:Ae 2 t=false:=by cases hq:Ae 2 t with
     | false=>rfl
     | true=>exact absurd (Aa hq).symm h2
    simp only[look,a0,a2,cond_false]
 have htm:∀t,ig (xq S) w (look [(0,.sl c),(2,.v (.slice none 0 0))] t) (act.tmps.getD t undef):=by
  intro t
  rcases hk t with h | h
  ·rw[h];exact aml _
  ·exact h
 have hR4:Rel D w.heap.size ⟨w,S,none⟩ (xq S) ⟨[(0,.sl c),(2,.v (.slice none 0 0))],[],0,fn.ntmps⟩ act w :=
  { hR3 with tmps:=htm }
 have hD0:Dom (xq S) 0:=fun id u hu=>by simp[xq] at hu
 refine wp_cond hc4 ?_
 cases A with
 | some a =>
  simp only[Option.isNone_some,Bool.false_eq_true,if_false]
  refine wp_skip ?_
  simp only[Exit.then]
  obtain ⟨y,hy,hrest⟩:=bv0 (bbv hG) hgl (bcj hI (atv hY)) hmix (fn:=fn) (c:=rest) (fun c' hc=>by rw[hLr] at hc;cases hc) (fun c _=>amb hrng c) [.fr e c] (K:=clq) (r:=.fr e c) hr
  cases hy
  exact wpIn_wide.1 (hrest S w act w (xq S) hR4 hD0)
 | none =>
  simp only[Option.isNone_none,if_true]
  have hc0:c.len=0:=by
   refine Nat.eq_zero_of_not_pos (fun h=>?_)
   obtain ⟨a,ha,_⟩:=hrd h
   cases ha
  obtain ⟨ix,ox,rfl,ho,hod,hog⟩:=hX2
  obtain ⟨dstx,opx,tyx,posx,afterx,gx⟩:=ox
  simp only at ho hod hog
  subst ho
  subst hod
  subst hog
  refine wp_seq (wp_region ?_)
  show wpOps D.P _ _ [0] _ _
  simp only[wpOps,Ba,Al,Region.wanted,if_true]
  refine .inl (bsy (v:=.slice none 0 0) rfl ?_)
  simp only[Exit.then]
  refine wp_ret ?_
  simp only[Exit.then]
  have hR5:=Rel.put (a:=.v (.slice none 0 0)) (u:=.slice none 0 0) hR4 (by simp only[ig]) (some 2)
  show LeavesInM _ _ _ _ _ _ (Act.put act (some 2) (.slice none 0 0)).defers _ _
  rw[hR5.idle htop]
  refine ⟨.slice none 0 0,?_,_,S,[],rfl,hR5.below,fun b hb=>.inl hb,by simp only[aau];exact ⟨⟨[],ownsRow_nil hc0,by simp⟩,rfl⟩,by simp,by simp⟩
  have h2:=hR5.tmps 2
  simp only[ASt.put,adj] at h2
  rw[if_pos ⟨trivial,by omega⟩] at h2
  simp only[ig] at h2
  unfold results
  rw[hres]
  simp
  rw[←Ad]
  exact h2
end Go.Abs
end

section
/- A law's arguments, as they are read. -/
namespace Go.Abs
open Go Go.Deep Go.ChangeShapes
def wfI(k:IntKind)(n:Int):Prop:=(Lit.int k n).wf=true
def bni(P:Program)(n:Nat)(t:TypeId)(c:Cont):Prop :=
 match P.underlying t with
 | some (.int k)=>∃xs,c=.ints k xs∧xs.length=n∧∀x,x∈xs→wfI k x
 | some (.slice f)=>match P.underlying f with
  | some (.int k)=>∃xs,c=.rows k xs∧xs.length=n∧∀y,y∈xs→y.length≤140737488355328∧∀x,x∈y→wfI k x
  | _=>False
 | _=>False
def blr(P:Program)(n:Nat):List Field→List Cont→Prop
 | [],cs=>cs=[]
 | f::fs,cs=>∃c r,cs=c::r∧bni P n f.type c∧blr P n fs r
def bs6(P:Program)(t:TypeId):Bool :=
 match P.underlying t with
 | some (.int _)=>true
 | some (.slice f)=>Ae (P.cellsOf f) 1&&Bp 0 (P.bytesOf f)&&match P.underlying f with
  | some (.int _)=>true
  | _=>false
 | _=>false
def bdw(P:Program):List Field→Nat→Nat→Bool
 | [],o,m=>Ae o m
 | f::fs,o,m=>Ae f.offset o&&Ae (P.cellsOf f.type) 1&&bs6 P f.type&&bdw P fs (o+1) m
mutual
def Good(P:Program):Nat→TypeId→List AVal→Prop
 | 0,_,_=>False
 | d+1,t,l=>match P.underlying t with
  | some .bool=>∃b,l=[.v (.bool b)]
  | some (.int k)=>∃n,l=[.v (.int k n)]∧wfI k n
  | some (.slice e)=>match P.underlying e with
   | some (.int k)=>∃xs,l=[.sl (.ints k xs)]∧xs.length≤140737488355328∧∀x,x∈xs→wfI k x
   | some (.slice f)=>match P.underlying f with
    | some (.int k)=>∃xs,l=[.sl (.rows k xs)]∧xs.length≤140737488355328∧∀y,y∈xs→y.length≤140737488355328∧∀x,x∈y→wfI k x
    | _=>False
   | some (.struct fs)=>∃n cs,l=[.sl (.cols n cs)]∧n≤140737488355328∧blr P n fs.toList cs
   | _=>False
  | some (.array n e)=>match P.underlying e with
   | some (.int k)=>∃xs,l=[.arr k n xs]∧xs.length=n∧∀x,x∈xs→wfI k x
   | _=>bxa P d e n l
  | some (.struct fs)=>bw5 P d fs.toList l
  | _=>False
def bxa(P:Program):Nat→TypeId→Nat→List AVal→Prop
 | 0,_,_,_=>False
 | _+1,_,0,l=>l=[]
 | d+1,e,n+1,l=>∃a b,l=a++b∧Good P d e a∧bxa P d e n b
def bw5(P:Program):Nat→List Field→List AVal→Prop
 | 0,_,_=>False
 | _+1,[],l=>l=[]
 | d+1,f::fs,l=>∃a b,l=a++b∧Good P d f.type a∧bw5 P d fs b
end
mutual
def blj(P:Program):Nat→TypeId→Bool
 | 0,_=>false
 | d+1,t=>match P.underlying t with
  | some .bool=>true
  | some (.int _)=>true
  | some (.slice e)=>match P.underlying e with
   | some (.int _)=>Ae (P.cellsOf e) 1&&Bp 0 (P.bytesOf e)
   | some (.slice f)=>(Ae (P.cellsOf e) 1&&Bp 0 (P.bytesOf e))&&(Ae (P.cellsOf f) 1&&Bp 0 (P.bytesOf f)&&match P.underlying f with
    | some (.int _)=>true
    | _=>false)
   | some (.struct fs)=>(Bp 0 (P.bytesOf e)&&Bp 0 (P.cellsOf e))&&bdw P fs.toList 0 (P.cellsOf e)
   | _=>false
  | some (.array n e)=>Ae (P.cellsOf t) (n*P.cellsOf e)&&match P.underlying e with
   | some (.int _)=>Ae (P.cellsOf e) 1
   | _=>byb P d e n
  | some (.struct fs)=>bii P d fs.toList 0 (P.cellsOf t)
  | _=>false
def byb(P:Program):Nat→TypeId→Nat→Bool
 | 0,_,_=>false
 | _+1,_,0=>true
 | d+1,e,n+1=>blj P d e&&byb P d e n
def bii(P:Program):Nat→List Field→Nat→Nat→Bool
 | 0,_,_,_=>false
 | _+1,[],o,m=>Ae o m
 | d+1,f::fs,o,m=>Ae f.offset o&&blj P d f.type&&bii P d fs (o+P.cellsOf f.type) m
end
section
variable {H:Type} {enc:TypeId×Value→H} {P:Program} {w:World} {base:Nat} {spare:Nat→Bool} {held:Bool}
def bms(w:World):Nat→Prop:=fun b=>b<w.heap.size
theorem bq5{a:Addr}{v:Value}(h:w.cell? a=some v):a.block<w.heap.size:=by
 refine Nat.lt_of_not_le fun hge=>?_
 unfold World.cell? at h
 rw[Array.getElem?_eq_none hge] at h
 cases h
theorem be0{t e:TypeId}{k:IntKind}{fuel:Nat}{cs:List Value}{x:DataW H×List MemPlace}(ht:P.underlying t=some (.slice e))(he:P.underlying e=some (.int k))(hc:P.cellsOf e=1)(h:DataW.trod enc P w base spare held fuel t cs=some x)(hw:∀n,n∈x.1.weights P t→n≤reachBytes)(hby:0<P.bytesOf e) :
    ∃u xs,cs=[u]∧u.oneCell'=true∧SlI (bms w) w k xs u∧xs.length≤140737488355328∧∀x,x∈xs→wfI k x:=by
 rcases open_ints ht he hc h with ⟨rfl,_⟩ | ⟨a,len,cap,zs,rfl,hb,hl,hm,hz,hxx,hcell,hwz⟩
 ·exact ⟨_,[],rfl,rfl,⟨none,0,rfl,Bf _,fun h=>by simp at h⟩,by simp,by simp⟩
 ·have hzl:len≤zs.length:=by rw[hz];split<;>omega
  have hlim:zs.length≤140737488355328:=by
   subst hxx
   have h1:=hw (((lits k (zs.take len):List (DataW H)).length+(lits k (zs.drop len):List (DataW H)).length)*P.bytesOf e) (by unfold DataW.weights;rw[ht];exact Ao ..)
   have h2:(lits k (zs.take len):List (DataW H)).length+(lits k (zs.drop len):List (DataW H)).length=zs.length:=by simp[lits];omega
   rw[h2] at h1
   have:=Bw (Az zs.length hby) h1
   have h3:=reachBytes_lt
   omega
  refine ⟨_,zs.take len,rfl,rfl,⟨some a,cap,?_,by simp;omega,fun h=>⟨a,rfl,?_,fun j hj=>?_⟩⟩,by simp;omega,fun y hy=>hwz y (List.mem_of_mem_take hy)⟩
  ·rw[List.length_take,Nat.min_eq_left hzl]
  ·have h9:0<zs.length:=by simp at h;omega
   have:=bq5 (hcell 0 h9)
   rwa [add_block] at this
  ·simp at hj
   refine ⟨_,hcell j (by omega),?_⟩
   simp only[anp]
   rw[Af,Af,List.getElem?_take_of_lt (by omega)]
theorem ak6{α:Type}{p:Nat→α→Prop}:∀(n:Nat),(∀i,i<n→∃a,p i a)→∃l:List α,l.length=n∧∀i a,l[i]?=some a→p i a
 | 0,_=>⟨[],rfl,by simp⟩
 | n+1,h=>by
  obtain ⟨l,h1,h2⟩:=ak6 n (fun i hi=>h i (by omega))
  obtain ⟨a,ha⟩:=h n (by omega)
  refine ⟨l++[a],by simp[h1],fun i b hb=>?_⟩
  by_cases hi:i<n
  ·rw[List.getElem?_append_left (by omega)] at hb;exact h2 i b hb
  ·rw[List.getElem?_append_right (by omega)] at hb
   have:i=n:=by
    have:=(Bj.1 hb).1
    simp at this;omega
   subst this
   simp[h1] at hb
   subst hb
   exact ha
theorem agx{e:TypeId}:∀{ds:List (DataW H)} {d:DataW H},d∈ds→∀n,n∈d.weights P e→n∈DataW.weightsAll P e ds
 | d0::ds,d,hd,n,hn=>by
  simp only[DataW.weightsAll,List.mem_append]
  rcases Am.1 hd with rfl | hd
  ·exact .inl hn
  ·exact .inr (agx hd n hn)
theorem bff{m:Nat}:∀(fs:List Field) (o:Nat),bdw P fs o m=true→o+fs.length=m
 | [],o,h=>by simp only[bdw] at h;have:=Aa h;simpa using this
 | f::fs,o,h=>by
  simp only[bdw,Ac] at h
  have:=bff fs (o+1) h.2
  simp only[Av]
  omega
theorem bor:∀(fs:List Field) (o m:Nat),bdw P fs o m=true→∃cc,blr P 0 fs cc∧cc.length=fs.length
 | [],o,m,_=>⟨[],by simp only[blr],rfl⟩
 | f::fs,o,m,h=>by
  simp only[bdw,Ac] at h
  obtain ⟨r,hr,hl⟩:=bor fs (o+1) m h.2
  have h1:=h.1.2
  have:∃c,bni P 0 f.type c:=by
   unfold bs6 at h1
   unfold bni
   split at h1
   ·rename_i k he;exact ⟨_,[],rfl,rfl,by simp⟩
   ·rename_i g he
    simp only[Ac] at h1
    have h2:=h1.2
    split at h2
    ·rename_i k hg;exact ⟨_,[],rfl,rfl,by simp⟩
    ·cases h2
   ·cases h1
  obtain ⟨c,hc⟩:=this
  exact ⟨c::r,by simp only[blr];exact ⟨c,r,rfl,hc,hr⟩,by simp[hl]⟩
theorem byx{t:TypeId}{n fuel:Nat}{A:Nat→Addr}(hg:bs6 P t=true)(h:∀i,i<n→∃v d,w.cell? (A i)=some v∧DataW.trod enc P w base spare held fuel t [v]=some d∧∀q,q∈d.1.weights P t→q≤reachBytes) :
    ∃c,bni P n t c∧∀i,i<n→∃v,w.cell? (A i)=some v∧cell1 (bms w) w c i v:=by
 unfold bs6 at hg
 unfold bni
 split at hg
 ·rename_i k he
  obtain ⟨zs,hzl,hzs⟩:=ak6 (α:=Int) (p:=fun i z=>w.cell? (A i)=some (.int k z)∧wfI k z) n (fun i hi=>by
   obtain ⟨v,d,h1,h2,_⟩:=h i hi
   obtain ⟨z,g1,_,g2⟩:=DataW.trod_int he h2
   cases g1
   exact ⟨z,h1,g2⟩)
  refine ⟨_,⟨zs,rfl,hzl,fun x hx=>?_⟩,fun i hi=>⟨_,(hzs i (zs.getD i 0) (by rw[Af,Ab (by omega)];rfl)).1,rfl⟩⟩
  obtain ⟨i,hi⟩:=Aj hx
  exact (hzs i x hi).2
 ·rename_i g he
  simp only[Ac] at hg
  have hcf:=Aa hg.1.1
  have hbf:0<P.bytesOf g:=by simpa using hg.1.2
  have hg:=hg.2
  split at hg
  ·rename_i k hk
   obtain ⟨xs,hxl,hxs⟩:=ak6 (α:=List Int) (p:=fun i y=>∃v,w.cell? (A i)=some v∧SlI (bms w) w k y v∧y.length≤140737488355328∧∀x,x∈y→wfI k x) n (fun i hi=>by
    obtain ⟨v,d,h1,h2,h3⟩:=h i hi
    obtain ⟨u,ys,g3,g4,g5,g7,g6⟩:=be0 he hk hcf h2 h3 hbf
    cases g3
    exact ⟨ys,v,h1,g5,g7,g6⟩)
   refine ⟨_,⟨xs,rfl,hxl,fun y hy=>?_⟩,fun i hi=>?_⟩
   ·obtain ⟨i,hi⟩:=Aj hy
    obtain ⟨v,_,_,h3,h4⟩:=hxs i y hi
    exact ⟨h3,h4⟩
   ·obtain ⟨v,h1,h2,_⟩:=hxs i (xs.getD i []) (by rw[Af,Ab (by omega)];rfl)
    exact ⟨v,h1,h2⟩
  ·cases hg
 ·cases hg
theorem bj7{n m fuel:Nat}{a:Addr}:∀(fs:List Field) (o:Nat),bdw P fs o m=true →
    (∀i,i<n→∀f,f∈fs→∃v d,w.cell? (a.add (i*m+f.offset))=some v∧DataW.trod enc P w base spare held fuel f.type [v]=some d∧∀q,q∈d.1.weights P f.type→q≤reachBytes) →
    ∃cc,blr P n fs cc∧cc.length=fs.length∧∀j c,cc[j]?=some c→∀i,i<n→∃v,w.cell? (a.add (i*m+(o+j)))=some v∧cell1 (bms w) w c i v
 | [],o,_,_=>⟨[],by simp only[blr],rfl,by simp⟩
 | f::fs,o,hg,h=>by
  simp only[bdw,Ac] at hg
  have hof:=Aa hg.1.1.1
  obtain ⟨c,hc1,hc2⟩:=byx (A:=fun i=>a.add (i*m+f.offset)) hg.1.2 (fun i hi=>h i hi f (Ao ..))
  obtain ⟨r,hr1,hr2,hr3⟩:=bj7 fs (o+1) hg.2 (fun i hi g hg'=>h i hi g (Ai _ hg'))
  refine ⟨c::r,by simp only[blr];exact ⟨c,r,rfl,hc1,hr1⟩,by simp[hr2],fun j c' hj i hi=>?_⟩
  cases j with
  | zero =>
   simp at hj
   subst hj
   obtain ⟨v,h1,h2⟩:=hc2 i hi
   exact ⟨v,by rw[←hof];exact h1,h2⟩
  | succ j =>
   obtain ⟨v,h1,h2⟩:=hr3 j c' (by simpa using hj) i hi
   exact ⟨v,by rw[show o+(j+1)=o+1+j by omega];exact h1,h2⟩
theorem bh4:∀(fs:List Field) (o m:Nat),bdw P fs o m=true→∀f,f∈fs→P.cellsOf f.type=1∧f.offset<m
 | f0::fs,o,m,h,f,hf=>by
  have hl:=bff _ _ h
  simp only[bdw,Ac] at h
  rcases Am.1 hf with rfl | hf
  ·have h1:=Aa h.1.1.1
   simp only[Av] at hl
   exact ⟨Aa h.1.1.2,by omega⟩
  ·exact bh4 fs (o+1) m h.2 f hf
theorem bxv{t e:TypeId}{fs:Array Field}{fuel:Nat}{cs:List Value}{x:DataW H×List MemPlace}(ht:P.underlying t=some (.slice e))(he:P.underlying e=some (.struct fs))(hby:0<P.bytesOf e)(hce:0<P.cellsOf e)(hg:bdw P fs.toList 0 (P.cellsOf e)=true)
    (h:DataW.trod enc P w base spare held fuel t cs=some x) (hw:∀n,n∈x.1.weights P t→n≤reachBytes) :
    ∃u n cc,cs=[u]∧u.oneCell'=true∧SlC (bms w) w (.cols n cc) u∧n≤140737488355328∧blr P n fs.toList cc:=by
 have hlen:=bff _ _ hg
 rw[Nat.zero_add] at hlen
 rcases open_slice ht h with ⟨rfl,_⟩ | ⟨a,len,cap,m,n,D,Pl,rfl,hb,hl,hm,hmm,hxx,hx⟩
 ·obtain ⟨cc,h1,_⟩:=bor _ _ _ hg
  exact ⟨_,0,cc,rfl,rfl,⟨none,0,rfl,Bf _,fun h=>by simp[Cont.len] at h⟩,by omega,h1⟩
 ·have hlm:len≤m:=by rw[hmm];split<;>omega
  subst hxx
  have hlim:len≤140737488355328:=by
   have h1:=hw ((((Bt len).map D).length+((Bt (m-len)).map fun j=>D (len+j)).length)*P.bytesOf e) (by simp[DataW.weights,ht])
   simp only[List.length_map,List.length_range] at h1
   have:=Bw (Az (len+(m-len)) hby) h1
   have h3:=reachBytes_lt
   omega
  have hwD:∀i,i<len→∀n,n∈(D i).weights P e→n≤reachBytes:=by
   intro i hi n hn
   refine hw n ?_
   simp only[DataW.weights,ht]
   refine Ai _ (Bu _ (agx (d:=D i) (Bd (List.mem_range.2 hi)) n hn))
  obtain ⟨cc,h1,h2,h3⟩:=bj7 (n:=len) (m:=P.cellsOf e) (fuel:=n-1) (a:=a) fs.toList 0 hg (fun i hi f hf=>by
   obtain ⟨cs',g1,g2⟩:=hx i (by omega)
   obtain ⟨_,hl',hcell⟩:=World.cells?_some g1
   obtain ⟨xs,k,hk,hxe,_,hxl,hxf⟩:=DataW.trod_struct he g2
   have hk':k=n-1:=by omega
   subst hk'
   obtain ⟨j,hj⟩:=Aj hf
   rw[Au] at hj
   have hil:j<xs.length:=by rw[hxl];exact (Ah.1 hj).1
   obtain ⟨hc1,hof⟩:=bh4 _ _ _ hg f hf
   have g3:=hxf j f hj
   rw[hc1,Ab hil] at g3
   have e1:=hcell f.offset hof
   rw[add_add] at e1
   have e2:(cs'.drop f.offset).take 1=[cs'[f.offset]'(by omega)]:=by
    rw[List.drop_eq_getElem_cons (by omega)]
    rfl
   rw[e2] at g3
   refine ⟨_,_,by rw[e1,Ab (by omega)],g3,fun q hq=>hwD i hi q ?_⟩
   have e3:D i=DataW.agg (xs.map (·.1)):=congrArg Prod.fst hxe
   rw[e3]
   unfold DataW.weights
   rw[he]
   exact DataW.weights_mem_each (j:=j) (t:=f.type) (by rw[Ak,Au,hj];rfl) (by rw[Ak,Ab hil];rfl) q hq)
  have hcl:cc.length=P.cellsOf e:=by rw[h2,hlen]
  refine ⟨_,len,cc,rfl,rfl,⟨some a,cap,rfl,hl,fun h0=>⟨a,rfl,?_,fun j hj=>?_⟩⟩,hlim,h1⟩
  ·simp only[Cont.len] at h0
   have hcc:0<cc.length:=by omega
   obtain ⟨v,hv,_⟩:=h3 0 _ (Ab hcc) 0 h0
   have:=bq5 hv
   rwa [add_block] at this
  ·simp only[Cont.len,Cont.size,hcl] at hj
   have hc0:0<P.cellsOf e:=by
    rcases Nat.eq_zero_or_pos (P.cellsOf e) with h | h
    ·rw[h] at hj;omega
    ·exact h
   have hjm:=Nat.mod_lt j hc0
   have hjd:j/P.cellsOf e<len:=Nat.div_lt_of_lt_mul (by rw[Nat.mul_comm];exact hj)
   obtain ⟨v,hv,hv2⟩:=h3 (j%P.cellsOf e) _ (Ab (by omega)) (j/P.cellsOf e) hjd
   refine ⟨v,?_,?_⟩
   ·rw[←hv]
    congr 2
    have:=Nat.div_add_mod j (P.cellsOf e)
    rw[Nat.mul_comm] at this
    omega
   ·simp only[cellC,hcl]
    exact ⟨_,Ab (by omega),hv2⟩
theorem bsx{E:Env}:∀(l r:List AVal) (a b:List Value),qw E w l a→qw E w r b→qw E w (l++r) (a++b):=fun l r a b h1 h2=>by
 have:=ad9 (E:=E) (w:=w) l r a b h1 h2
 rwa [ajz] at this
theorem bqy:∀(d:Nat),
    (∀(t:TypeId) (fuel:Nat) (cs:List Value) (x:DataW H×List MemPlace),blj P d t=true→DataW.trod enc P w base spare held fuel t cs=some x→(∀n,n∈x.1.weights P t→n≤reachBytes)→∃l,Good P d t l∧qw (xq (bms w)) w l cs) ∧
    (∀(e:TypeId) (n fuel:Nat) (cs:List Value),byb P d e n=true→cs.length=n*P.cellsOf e→(∀i,i<n→∃x,DataW.trod enc P w base spare held fuel e ((cs.drop (i*P.cellsOf e)).take (P.cellsOf e))=some x∧∀n,n∈x.1.weights P e→n≤reachBytes)→∃l,bxa P d e n l∧qw (xq (bms w)) w l cs) ∧
    (∀(fs:List Field) (o m fuel:Nat) (cs:List Value),bii P d fs o m=true→cs.length=m→(∀f,f∈fs→∃x,DataW.trod enc P w base spare held fuel f.type ((cs.drop f.offset).take (P.cellsOf f.type))=some x∧∀n,n∈x.1.weights P f.type→n≤reachBytes)→o≤m→∃l,bw5 P d fs l∧qw (xq (bms w)) w l (cs.drop o))
 | 0=>⟨fun t fuel cs x h=>by simp[blj] at h,fun e n fuel cs h=>by simp[byb] at h,fun fs o m fuel cs h=>by simp[bii] at h⟩
 | d+1=>by
  obtain ⟨ihT,ihN,ihF⟩:=bqy d
  refine ⟨fun t fuel cs x hg h hw=>?_,fun e n fuel cs hg hlen h=>?_,fun fs o m fuel cs hg hlen h ho=>?_⟩
  ·unfold blj at hg
   unfold Good
   split at hg
   ·rename_i ht
    obtain ⟨b,rfl,_⟩:=DataW.trod_bool ht h
    exact ⟨_,⟨b,rfl⟩,om (by simp) rfl (by simp only[ig]) (by simp only[qw])⟩
   ·rename_i k ht
    obtain ⟨n,rfl,_,hw⟩:=DataW.trod_int ht h
    exact ⟨_,⟨n,rfl,hw⟩,om (by simp) rfl (by simp only[ig]) (by simp only[qw])⟩
   ·rename_i e ht
    split at hg
    ·rename_i k he
     simp only[Ac] at hg
     have hc:=Aa hg.1
     have hby:0<P.bytesOf e:=by simpa using hg.2
     obtain ⟨u,xs,rfl,h1,h2,h4,h3⟩:=be0 ht he hc h hw hby
     exact ⟨_,⟨xs,rfl,h4,h3⟩,om (by simp) h1 (by simp only[ig];exact h2) (by simp only[qw])⟩
    ·rename_i f he
     simp only[Ac] at hg
     have hc:=Aa hg.1.1
     have hby:0<P.bytesOf e:=by simpa using hg.1.2
     have hg:=hg.2
     have hcf:=Aa hg.1.1
     have hbf:0<P.bytesOf f:=by simpa using hg.1.2
     have hg:=hg.2
     split at hg
     ·rename_i k hf
      rcases open_slice1 ht hc h with ⟨rfl,_⟩ | ⟨a,len,cap,m,n,V,D,Pl,rfl,hb,hl,hm,hmm,hxx,hx⟩
      ·exact ⟨_,⟨[],rfl,by simp,by simp⟩,om (by simp) rfl (by simp only[ig];exact ⟨none,0,rfl,Bf _,fun h=>by simp[Cont.len] at h⟩) (by simp only[qw])⟩
      ·have hlm:len≤m:=by rw[hmm];split<;>omega
       subst hxx
       have hlim:len≤140737488355328:=by
        have h1:=hw ((((Bt len).map D).length+((Bt (m-len)).map fun j=>D (len+j)).length)*P.bytesOf e) (by simp[DataW.weights,ht])
        simp only[List.length_map,List.length_range] at h1
        have:=Bw (Az (len+(m-len)) hby) h1
        have h3:=reachBytes_lt
        omega
       have hwD:∀i,i<len→∀n,n∈(D i).weights P e→n≤reachBytes:=by
        intro i hi n hn
        refine hw n ?_
        simp only[DataW.weights,ht]
        refine Ai _ (Bu _ (agx (d:=D i) (Bd (List.mem_range.2 hi)) n hn))
       obtain ⟨xs,hxl,hxs⟩:=ak6 (α:=List Int) (p:=fun i y=>SlI (bms w) w k y (V i)∧y.length≤140737488355328∧∀x,x∈y→wfI k x) len (fun i hi=>by
        obtain ⟨g1,g2⟩:=hx i (by omega)
        obtain ⟨u,ys,g3,g4,g5,g7,g6⟩:=be0 he hf hcf g2 (hwD i hi) hbf
        cases g3
        exact ⟨ys,g5,g7,g6⟩)
       refine ⟨_,⟨xs,rfl,by omega,fun y hy=>?_⟩,om (by simp) rfl (by
        simp only[ig]
        refine ⟨some a,cap,by simp only[Cont.len];rw[hxl],by simp only[Cont.len];omega,fun h0=>⟨a,rfl,?_,fun j hj=>?_⟩⟩
        ·simp only[Cont.len] at h0
         have:=bq5 (hx 0 (by omega)).1
         rwa [add_block] at this
        ·simp only[Cont.len,Cont.size,Bg] at hj
         refine ⟨V j,(hx j (by omega)).1,?_⟩
         simp only[cellC,cell1,au2]
         have:=(hxs j (xs.getD j []) (by rw[Af,Ab hj];rfl)).1
         exact this) (by simp only[qw])⟩
       obtain ⟨i,hi⟩:=Aj hy
       exact (hxs i y hi).2
     ·cases hg
    ·rename_i fs he
     simp only[Ac] at hg
     have hby:0<P.bytesOf e:=by simpa using hg.1.1
     have hce:0<P.cellsOf e:=by simpa using hg.1.2
     obtain ⟨u,n,cc,rfl,h1,h2,h3,h4⟩:=bxv ht he hby hce hg.2 h hw
     exact ⟨_,⟨n,cc,rfl,h3,h4⟩,om (by simp) h1 (by simp only[ig];exact h2) (by simp only[qw])⟩
    ·cases hg
   ·rename_i n e ht
    simp only[Ac] at hg
    have hct:=Aa hg.1
    have hg:=hg.2
    obtain ⟨xs,m,rfl,hxe,hlen,hxl,hx⟩:=DataW.trod_array ht h
    subst hxe
    have hx':∀i,i<n→∃x,DataW.trod enc P w base spare held m e ((cs.drop (i*P.cellsOf e)).take (P.cellsOf e))=some x∧∀n,n∈x.1.weights P e→n≤reachBytes:=fun i hi=>by
     rw[hx i hi,Ab (by omega)]
     refine ⟨_,rfl,fun q hq=>hw q ?_⟩
     unfold DataW.weights
     rw[ht]
     exact agx (Bd (List.getElem_mem _)) q hq
    split at hg
    ·rename_i k he
     have hc:=Aa hg
     rw[hct,hc,Bg] at hlen
     obtain ⟨zs,hzl,hzs⟩:=ak6 (α:=Int) (p:=fun i z=>cs[i]?=some (.int k z)∧wfI k z) n (fun i hi=>by
      obtain ⟨x,hx,_⟩:=hx' i hi
      rw[hc,Bg] at hx
      obtain ⟨z,g1,_,g2⟩:=DataW.trod_int he hx
      refine ⟨z,?_,g2⟩
      have:(List.take 1 (List.drop i cs))[0]?=some (Value.int k z):=by rw[g1];rfl
      rw[List.getElem?_take,if_pos (by omega),List.getElem?_drop] at this
      simpa using this)
     have hcs:cs=zs.map (Value.int k):=by
      apply List.ext_getElem?
      intro i
      by_cases hi:i<n
      ·rw[Ak,Ab (show i<zs.length by omega)]
       exact (hzs i _ (Ab (by omega))).1
      ·rw[Aq (by omega),Aq (by simp;omega)]
     refine ⟨_,⟨zs,rfl,hzl,fun x hx=>?_⟩,by rw[hcs];have:=abo (E:=xq (bms w)) (w:=w) (k:=k) (r:=[]) (cs':=[]) hzl (by simp only[qw]);simpa using this⟩
     obtain ⟨i,hi⟩:=Aj hx
     exact (hzs i x hi).2
    ·obtain ⟨l,k1,k2⟩:=ihN e n m cs hg (by rw[hlen,hct]) hx'
     exact ⟨l,k1,k2⟩
   ·rename_i fs ht
    obtain ⟨xs,m,rfl,hxe,hlen,hxl,hx⟩:=DataW.trod_struct ht h
    subst hxe
    obtain ⟨l,k1,k2⟩:=ihF fs.toList 0 (P.cellsOf t) m cs hg hlen (fun f hf=>by
     obtain ⟨i,hi⟩:=Aj hf
     rw[Au] at hi
     have hil:i<xs.length:=by rw[hxl];exact (Ah.1 hi).1
     rw[hx i f hi,Ab hil]
     refine ⟨_,rfl,fun q hq=>hw q ?_⟩
     unfold DataW.weights
     rw[ht]
     exact DataW.weights_mem_each (j:=i) (t:=f.type) (by rw[Ak,Au,hi];rfl) (by rw[Ak,Ab hil];rfl) q hq) (Nat.zero_le _)
    exact ⟨l,k1,by simpa using k2⟩
   ·cases hg
  ·cases n with
   | zero =>
    have:cs=[]:=Ap (by simpa using hlen)
    subst this
    exact ⟨[],by simp only[bxa],by simp only[qw]⟩
   | succ n =>
    simp only[byb,Ac] at hg
    obtain ⟨x,hx,hxw⟩:=h 0 (by omega)
    rw[Nat.zero_mul,Bq] at hx
    obtain ⟨a,a1,a2⟩:=ihT e fuel _ x hg.1 hx hxw
    obtain ⟨b,b1,b2⟩:=ihN e n fuel (cs.drop (P.cellsOf e)) hg.2 (by rw[List.length_drop,hlen,Bc];omega) (fun i hi=>by
     obtain ⟨y,hy,hyw⟩:=h (i+1) (by omega)
     refine ⟨y,?_,hyw⟩
     rw[Br,show P.cellsOf e+i*P.cellsOf e=(i+1)*P.cellsOf e by rw[Bc];omega]
     exact hy)
    refine ⟨a++b,by simp only[bxa];exact ⟨a,b,rfl,a1,b1⟩,?_⟩
    have:=bsx a b _ _ a2 b2
    rwa [Bb] at this
  ·cases fs with
   | nil =>
    simp only[bii] at hg
    have:=Aa hg
    subst this
    exact ⟨[],by simp only[bw5],by rw[List.drop_eq_nil_of_le (by omega)];simp only[qw]⟩
   | cons f fs =>
    simp only[bii,Ac] at hg
    have hof:=Aa hg.1.1
    obtain ⟨x,hx,hxw⟩:=h f (Ao ..)
    rw[hof] at hx
    obtain ⟨a,a1,a2⟩:=ihT f.type fuel _ x hg.1.2 hx hxw
    have hle:o+P.cellsOf f.type≤m:=by
     clear a1 a2 hx h ihT ihN ihF hlen
     have key:∀(d:Nat) (fs:List Field) (o m:Nat),bii P d fs o m=true→o≤m:=by
      intro d
      induction d with
      | zero=>intro fs o m h;simp[bii] at h
      | succ d ih =>
       intro fs o m h
       cases fs with
       | nil=>simp only[bii] at h;have:=Aa h;omega
       | cons f fs =>
        simp only[bii,Ac] at h
        have:=ih fs _ m h.2
        omega
     exact key d fs _ m hg.2
    obtain ⟨b,b1,b2⟩:=ihF fs (o+P.cellsOf f.type) m fuel cs hg.2 hlen (fun g hg'=>h g (Ai _ hg')) hle
    refine ⟨a++b,by simp only[bw5];exact ⟨a,b,rfl,a1,b1⟩,?_⟩
    have:=bsx a b _ _ a2 b2
    rwa [←Br,Bb] at this
theorem b0l{r:Reach}{b0:Nat}(d:Nat){t:TypeId}{v:Value}{dd:DataW H}{p:List MemPlace}(hg:blj P d t=true)(ha:ahb P t=some true)(hok:Value.okWide P w r b0 t v)(h:DataW.Trod enc P w base spare held t v dd p)(hw:∀n,n∈dd.weights P t→n≤reachBytes) :
    ∃l,Good P d t l∧ig (xq (bms w)) w (bdu l) v:=by
 obtain ⟨fuel,hf⟩:=h
 have hv:∃cs,v=.agg cs:=by
  unfold ahb at ha
  unfold Value.okWide at hok
  split at ha
  ·rename_i h;rw[h] at hok;obtain ⟨cs,h,_⟩:=hok;exact ⟨cs,h⟩
  ·rename_i h;rw[h] at hok;obtain ⟨cs,h,_⟩:=hok;exact ⟨cs,h⟩
  ·cases ha
  ·cases ha
 obtain ⟨cs,rfl⟩:=hv
 obtain ⟨l,h1,h2⟩:=(bqy d).1 t fuel _ _ hg hf hw
 exact ⟨l,h1,by have:=agj h2;simpa [Value.cells] using this⟩
theorem auu{r:Reach}{b0:Nat}(d:Nat){t e:TypeId}{v:Value}{dd:DataW H}{p:List MemPlace}(hg:blj P (d+1) t=true)(ht:P.underlying t=some (.slice e))(hok:Value.okWide P w r b0 t v)(h:DataW.Trod enc P w base spare held t v dd p)(hw:∀n,n∈dd.weights P t→n≤reachBytes) :
    ∃a,Good P (d+1) t [a]∧ig (xq (bms w)) w a v:=by
 obtain ⟨fuel,hf⟩:=h
 obtain ⟨A,len,cap,rfl⟩:=WideShapes.okWide_slice ht hok
 obtain ⟨l,h1,h2⟩:=(bqy (d+1)).1 t fuel _ _ hg hf hw
 have hl:∃a,l=[a]∧∀k n m,a≠.arr k n m:=by
  unfold Good at h1
  rw[ht] at h1
  simp only at h1
  split at h1
  ·obtain ⟨xs,rfl,_⟩:=h1;exact ⟨_,rfl,by simp⟩
  ·split at h1
   ·obtain ⟨xs,rfl,_⟩:=h1;exact ⟨_,rfl,by simp⟩
   ·cases h1
  ·obtain ⟨n,cs,rfl,_⟩:=h1;exact ⟨_,rfl,by simp⟩
  ·cases h1
 obtain ⟨a,rfl,ha⟩:=hl
 refine ⟨a,h1,?_⟩
 obtain ⟨u,hu,_,hv⟩:=ak5 h2 ha
 simp[Value.cells] at hu
 rw[hu]
 exact hv
theorem alg{t:TypeId}{v:Value}{dd:DataW H}{p:List MemPlace}(h:DataW.Trod enc P w base spare held t v dd p):∀x,x∈p→x.block<w.heap.size:=by
 obtain ⟨m,hm⟩:=h
 exact DataW.trod_lt m _ _ _ hm
end
end Go.Abs
end

section
/- Package variables that the program's text lays. -/
namespace Go.Abs
open Go Go.Deep Go.ChangeShapes
theorem bqz(S:Nat→Prop)(w:World):auf [] S w:=fun g l h=>by simp[assoc] at h
theorem aey{S:Nat→Prop}{w:World}{g:Nat}{l:List AVal}{r:List (Nat×List AVal)}(h0:S g∧∃cs e fz,w.heap[g]?=some (.cells cs e fz)∧qw (xq S) w l cs.toList)(h:auf r S w):auf ((g,l)::r) S w:=by
 intro g' l' hg
 simp only[assoc] at hg
 cases hb:Ae g g' with
 | true =>
  rw[hb] at hg
  cases hg
  have:=Aa hb
  subst this
  exact h0
 | false =>
  rw[hb] at hg
  exact h g' l' hg
theorem aps{H:Type}{k:IntKind}:∀(l:List Int) (cs:List Value) (xs:List (DataW H×List MemPlace)),cs.length=l.length→xs.length=l.length →
    xs.map (·.1)=l.map (fun z=>.lit (.int k z))→(∀i,i<l.length→∃n,(cs.drop i).take 1=[.int k n]∧xs[i]?=some (.lit (.int k n),[]))→cs=l.map (Value.int k)
 | [],cs,xs,h1,h2,h3,h4=>by
  have:cs=[]:=Ap h1
  rw[this];rfl
 | z::l,[],xs,h1,h2,h3,h4=>by simp at h1
 | z::l,c::cs,[],h1,h2,h3,h4=>by simp at h2
 | z::l,c::cs,x::xs,h1,h2,h3,h4=>by
  simp only[Av,Nat.add_right_cancel_iff] at h1 h2
  simp only[List.map_cons,List.cons.injEq] at h3
  obtain ⟨n,e1,e2⟩:=h4 0 (by simp)
  simp only[Bq,List.take_succ_cons,List.take_zero,List.cons.injEq,and_true] at e1
  simp only[Al,A8.injEq] at e2
  have e3:=h3.1
  rw[e2] at e3
  simp only[DataW.lit.injEq,Lit.int.injEq,true_and] at e3
  rw[aps l cs xs h1 h2 h3.2 (fun i hi=>by
   obtain ⟨n,f1,f2⟩:=h4 (i+1) (by simp;omega)
   exact ⟨n,by simpa using f1,by simpa using f2⟩)]
  rw[e1,e3]
  rfl
theorem as5{P:Program}{w:World}{name:String}{d:DataW Unit}{r:List (String×DataW Unit)}{ps:List MemPlace}(h:DataW.LaidVars P w ((name,d)::r) ps){g t e n:Nat}{k:IntKind}{l:List Int}
    (hg:P.globalNamed name=some g) (ht:(P.globals[g]?).map (·.type)=some t) (hu:P.underlying t=some (.array n e)) (he:P.underlying e=some (.int k)) (hc:P.cellsOf e=1) (hct:P.cellsOf t=n) (hl:l.length=n)
    (hd:d=.agg (l.map fun z=>.lit (.int k z))):(bms w g∧∃cs et fz,w.heap[g]?=some (.cells cs et fz)∧qw (xq (bms w)) w [.arr k n l] cs.toList)∧∃q,DataW.LaidVars P w r q:=by
 obtain ⟨g',t',cs,fuel,p,q,h1,h2,h3,h4,h5,_⟩:=h
 obtain rfl:=A8.inj (hg.symm.trans h1)
 obtain rfl:=A8.inj (ht.symm.trans h2)
 refine ⟨?_,q,h5⟩
 obtain ⟨xs,m,rfl,hx,hlen,hxl,hel⟩:=DataW.trod_array hu h4
 simp only[Prod.mk.injEq] at hx
 rw[hd] at hx
 simp only[DataW.agg.injEq] at hx
 rw[hct] at hlen
 have hcs:cs.toList=l.map (Value.int k):=by
  refine aps l cs.toList xs (by rw[hlen,hl]) (by rw[hxl,hl]) hx.1.symm (fun i hi=>?_)
  have:=hel i (by omega)
  rw[hc,Bg] at this
  obtain ⟨y,hy⟩:∃y,xs[i]?=some y:=⟨xs[i]'(by omega),Ab (by omega)⟩
  rw[hy] at this
  obtain ⟨z,e1,e2,_⟩:=DataW.trod_int he this
  exact ⟨z,e1,by rw[hy,e2]⟩
 have hheap:∃et fz,w.heap[g]?=some (.cells cs et fz):=by
  unfold World.var? at h3
  rw[hg,Option.bind_some] at h3
  split at h3
  ·rename_i c et fz hh
   cases h3
   exact ⟨_,_,hh⟩
  ·cases h3
 obtain ⟨et,fz,hh⟩:=hheap
 refine ⟨(Ah.1 hh).1,cs,et,fz,hh,?_⟩
 rw[hcs]
 simp only[qw]
 exact ⟨[],hl,by simp,rfl⟩
theorem bkh{k:IntKind}{m:Nat}:∀(ls:List (List Int)) (cs:List Value),cs.length=ls.length*m→(∀l,l∈ls→l.length=m) →
    (∀i,i<ls.length→(cs.drop (i*m)).take m=(ls.getD i []).map (Value.int k))→cs=ls.flatten.map (Value.int k)∧ls.flatten.length=ls.length*m
 | [],cs,h1,_,_=>by
  have:cs=[]:=Ap (by simpa using h1)
  subst this
  simp
 | l::ls,cs,h1,h2,h3=>by
  simp only[Av,Bc] at h1
  have e0:=h3 0 (by simp)
  simp only[Nat.zero_mul,Bq,List.getD_cons_zero] at e0
  obtain ⟨g1,g2⟩:=bkh (k:=k) ls (cs.drop m) (by rw[List.length_drop,h1];omega) (fun x hx=>h2 x (Ai _ hx)) (fun i hi=>by
   have:=h3 (i+1) (by simp;omega)
   rw[List.getD_cons_succ] at this
   rw[Br,show m+i*m=(i+1)*m by rw[Bc];omega]
   exact this)
  refine ⟨?_,by rw[List.flatten_cons,List.length_append,g2,h2 l (Ao ..),Av,Bc,Nat.add_comm]⟩
  rw[List.flatten_cons,List.map_append,←g1,←e0,Bb]
theorem bj4{P:Program}{w:World}{name:String}{d:DataW Unit}{r:List (String×DataW Unit)}{ps:List MemPlace}(h:DataW.LaidVars P w ((name,d)::r) ps){g t e f n m:Nat}{k:IntKind}{ls:List (List Int)}
    (hg:P.globalNamed name=some g) (ht:(P.globals[g]?).map (·.type)=some t) (hu:P.underlying t=some (.array n e)) (he:P.underlying e=some (.array m f)) (hf:P.underlying f=some (.int k)) (hc:P.cellsOf f=1) (hce:P.cellsOf e=m) (hct:P.cellsOf t=n*m) (hl:ls.length=n)
    (hls:(ls.all fun l=>Ae l.length m)=true)
    (hd:d=.agg (ls.map fun l=>.agg (l.map fun z=>.lit (.int k z)))):(bms w g∧∃cs et fz,w.heap[g]?=some (.cells cs et fz)∧qw (xq (bms w)) w [.arr k (n*m) ls.flatten] cs.toList)∧∃q,DataW.LaidVars P w r q:=by
 have hls:∀l,l∈ls→l.length=m:=fun l h=>Aa (List.all_eq_true.1 hls l h)
 obtain ⟨g',t',cs,fuel,p,q,h1,h2,h3,h4,h5,_⟩:=h
 obtain rfl:=A8.inj (hg.symm.trans h1)
 obtain rfl:=A8.inj (ht.symm.trans h2)
 refine ⟨?_,q,h5⟩
 obtain ⟨xs,fu,rfl,hx,hlen,hxl,hel⟩:=DataW.trod_array hu h4
 simp only[Prod.mk.injEq] at hx
 rw[hd] at hx
 simp only[DataW.agg.injEq] at hx
 rw[hct] at hlen
 have hcs:∀i,i<ls.length→(cs.toList.drop (i*m)).take m=(ls.getD i []).map (Value.int k):=by
  intro i hi
  have h6:=hel i (by omega)
  rw[hce] at h6
  obtain ⟨y,hy⟩:∃y,xs[i]?=some y:=⟨xs[i]'(by omega),Ab (by omega)⟩
  rw[hy] at h6
  obtain ⟨zs,fu',rfl,hz,hzlen,hzl,hzel⟩:=DataW.trod_array he h6
  have hgi:ls.getD i []=ls[i]:=by rw[Af,Ab hi];rfl
  have hli:(ls.getD i []).length=m:=by rw[hgi];exact hls _ (List.getElem_mem hi)
  have hy1:y.1=DataW.agg ((ls.getD i []).map fun z=>.lit (.int k z)):=by
   have:=congrArg (fun l=>l[i]?) hx.1
   simp only[Ak,hy,Ab hi,Option.map_some,A8.injEq] at this
   rw[hgi,←this]
  rw[hz] at hy1
  simp only[DataW.agg.injEq] at hy1
  refine aps (ls.getD i []) _ zs (by rw[hzlen,hce,hli]) (by rw[hzl,hli]) hy1 (fun j hj=>?_)
  have h7:=hzel j (by omega)
  rw[hc,Bg] at h7
  obtain ⟨v,hv⟩:∃v,zs[j]?=some v:=⟨zs[j]'(by omega),Ab (by omega)⟩
  rw[hv] at h7
  obtain ⟨z,e1,e2,_⟩:=DataW.trod_int hf h7
  exact ⟨z,e1,by rw[hv,e2]⟩
 have hheap:∃et fz,w.heap[g]?=some (.cells cs et fz):=by
  unfold World.var? at h3
  rw[hg,Option.bind_some] at h3
  split at h3
  ·rename_i c et fz hh
   cases h3
   exact ⟨_,_,hh⟩
  ·cases h3
 obtain ⟨et,fz,hh⟩:=hheap
 obtain ⟨f1,f2⟩:=bkh ls cs.toList (by rw[hlen,hl]) hls hcs
 refine ⟨(Ah.1 hh).1,cs,et,fz,hh,?_⟩
 have:=abo (E:=xq (bms w)) (w:=w) (k:=k) (r:=[]) (cs':=[]) (f2.trans (by rw[hl])) (by simp only[qw])
 rw[List.append_nil,←f1] at this
 exact this
end Go.Abs
end
