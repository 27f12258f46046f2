/-
  SlhSigns, part 4: lemmas for the law.
-/

import Derived.Test.YtciddcopcdmnbaaGreatDoorSlhSignsC
import Derived.Laws.StructEq
import Derived.ChangeKeysEq
import Derived.Laws.Cover3
open Nat renaming eq_of_beq_eq_true → Aa, le_refl → Ab, beq → Ac, le_of_ble_eq_true → Ae, blt → Ar, le_mul_of_pos_right → Bb, mul_one → Bd, zero_add → Bg
open Bool renaming and_eq_true → Ad, not_eq_true' → Af, false_eq_true → Av
open List renaming getElem?_eq_getElem → Ag, map_cons → Ah, append_nil → Ai, length_append → Aj, getElem?_eq_some_iff → Ak, append_assoc → Am, take_of_length_le → Ao, drop_eq_nil_of_le → Ap, length_cons → Aq, getElem?_append_right → Aw, getElem?_map → Az, getElem?_append_left → A8, drop_eq_getElem_cons → A9, mem_map → Ba, nil_append → Bc
open Option renaming isSome_iff_exists → Al
open Array renaming length_toList → Au, toList_setIfInBounds → Ay, toList_zipIdx → Bf
set_option linter.unusedVariables false
set_option linter.unusedSimpArgs false

section
namespace Go.Abs
open Go Go.RowKit
def adi(D:Ctx)(o:Oper)(vs:List AVal)(hl:Nat→Option Blk)(n:Nat)(K:Eff→Option R)(r:R):Prop :=
 ∃eff,K eff=some r∧n≤eff.n∧∀(B0:Nat) (w0:W0) (st:ASt),evs st.f (arv o.op)=vs→(∀id b,hl id=some b→iw st.h id=some b)→st.n=n→agk D B0 w0 st o eff
section
variable {D:Ctx} {B0:Nat} {w0:W0} {dst:Option Tmp} {type:TypeId} {pos:String} {after:Array Edge} {guard:Option (Nat×Bool)} {hl:Nat→Option Blk} {n:Nat} {K:Eff→Option R} {r:R}
theorem bap{g:Bool}{mid:List AVal}(h:bwc g mid n K=some r):∃a,K ⟨a,[],n⟩=some r∧(if g then a=bdu mid else mid=[a]∧∀k m l,a≠.arr k m l):=by
 unfold bwc at h
 cases g with
 | true=>exact ⟨_,h,by simp⟩
 | false =>
  simp only[cond_false] at h
  unfold cpr at h
  split at h
  ·cases h
  ·rename_i a ha
   exact ⟨a,h,by simp;exact fun k m l e=>ha k m l (by rw[e])⟩
  ·cases h
theorem bjg{x:AVal}{sz:Nat}{mid:List AVal}(h:placeOf D hl x sz=some mid){st:ASt}(hm:∀id b,hl id=some b→iw st.h id=some b)
    {E:Env} {act:Act} {w:World} (hR:Rel D B0 w0 E st act w) {u:Value} (hu:ig E w x u):Place E w u mid sz:=by
 unfold placeOf at h
 split at h
 ·split at h
  ·rename_i l _ hs
   cases h
   obtain ⟨h1,h2⟩:=agd _ _ _ _ hs
   rw[ajz,Ai] at h1
   subst h1
   exact bw1 hu h2
  ·cases h
 ·split at h
  ·rename_i hb
   split at h
   ·rename_i hg
    cases h
    exact bvw (hR.heap _ _ (hm _ _ hb)) hg hu
   ·cases h
  ·cases h
 ·split at h
  ·rename_i hgl
   split at h
   ·rename_i hg
    cases h
    exact bt5 (hR.globs _ _ hgl).2 hg hu
   ·cases h
  ·cases h
 ·split at h
  ·rename_i c _ hb
   cases hq:Ac _ c.size&&Ac _ sz with
   | false=>rw[hq] at h;cases h
   | true =>
    rw[hq] at h
    cases h
    simp only[Ad] at hq
    have h1:=Aa hq.1
    have h2:=Aa hq.2
    subst h1
    subst h2
    exact bpp (hR.heap _ _ (hm _ _ hb)) hu
  ·cases h
 ·split at h
  ·rename_i c _ hb
   cases hq:Ac _ c.size&&Ac 1 sz with
   | false=>rw[hq] at h;cases h
   | true =>
    rw[hq] at h
    cases h
    simp only[Ad] at hq
    have h1:=Aa hq.1
    have h2:=Aa hq.2
    subst h1
    subst h2
    exact bw7 (hR.heap _ _ (hm _ _ hb)) hu
  ·cases h
 ·split at h
  ·rename_i hb
   split at h
   ·rename_i hs
    cases hq:Ac _ _&&Ac sz 1 with
    | false=>rw[hq] at h;cases h
    | true =>
     rw[hq] at h
     cases h
     simp only[Ad] at hq
     have h1:=Aa hq.1
     have h2:=Aa hq.2
     subst h1
     subst h2
     exact bt4 (hR.heap _ _ (hm _ _ hb)) hs hu
   ·cases h
  ·cases h
 ·split at h
  ·rename_i hgl
   split at h
   ·rename_i hs
    cases hq:Ac _ _&&Ac sz 1 with
    | false=>rw[hq] at h;cases h
    | true =>
     rw[hq] at h
     cases h
     simp only[Ad] at hq
     have h1:=Aa hq.1
     have h2:=Aa hq.2
     subst h1
     subst h2
     exact byd (hR.globs _ _ hgl).2 hs hu
   ·cases h
  ·cases h
 ·cases h
theorem y9{f:List (Nat×AVal)}{x y:Operand}{X Y:AVal}(h:evs f [x,y]=[X,Y]):ev f x=X∧ev f y=Y:=by
 simp only[evs] at h
 cases h
 exact ⟨rfl,rfl⟩
theorem acf{f:List (Nat×AVal)}{x:Operand}{X:AVal}(h:evs f [x]=[X]):ev f x=X:=by
 simp only[evs] at h
 cases h
 rfl
theorem bj8{t:TypeId}{x:Operand}{X X':AVal}(hXX:∀(E:Env) (w:World) (u:Value),ig E w X' u→ig E w X u)(h:bqk D t X hl n K=some r):adi D ⟨dst,.load t x,type,pos,after,guard⟩ [X'] hl n K r:=by
 unfold bqk at h
 split at h
 ·rename_i g sz hg hs
  split at h
  ·rename_i mid hp
   obtain ⟨a,hK,ha⟩:=bap h
   refine ⟨_,hK,Ab _,fun B0 w0 st hv hm hn=>?_⟩
   have hx:=acf hv
   subst hn
   have hpl:∀E act w,Rel D B0 w0 E st act w→Place E w (act.eval x) mid sz:=fun E act w hR=>bjg hp hm hR (hXX _ _ _ (by rw[←hx];exact hR.ev x))
   cases g with
   | true =>
    simp only[if_true] at ha
    subst ha
    exact awj t x hg hs hpl
   | false =>
    simp only[if_false,Av] at ha
    obtain ⟨rfl,ha⟩:=ha
    exact bp7 t x hg hs ha hpl
  ·cases h
 ·cases h
theorem bea{t:TypeId}{x:Operand}{X:AVal}(h:bqk D t X hl n K=some r):adi D ⟨dst,.load t x,type,pos,after,guard⟩ [X] hl n K r:=bj8 (fun _ _ _ h=>h) h
theorem br3{E:Env}{w:World}{q:Nat}{l:List AVal}{u:Value}(hq:q=1)(h:ig E w (.osta q l) u):ig E w (.sta l) u:=by
 simp only[ig] at h ⊢
 rcases h with ⟨h,_⟩ | ⟨_,h⟩
 ·omega
 ·exact h
theorem ber{P:Program}{t:TypeId}{len:Nat}(h:bst P t=some len):ahb P t=some true∧oo P t=some len:=by
 unfold bst at h
 split at h
 ·split at h
  ·rename_i s h1 h2
   cases hq:Ac _ s with
   | false=>rw[hq] at h;cases h
   | true =>
    rw[hq] at h
    cases h
    have:=Aa hq
    subst this
    exact ⟨h1,h2⟩
  ·cases h
 ·cases h
theorem bt8{t:TypeId}{x:Operand}{X:AVal}(h:b4q D t X hl n K=some r):adi D ⟨dst,.load t x,type,pos,after,guard⟩ [X] hl n K r:=by
 unfold b4q at h
 split at h
 ·rcases abm h with ⟨h1,h⟩ | ⟨_,h⟩
  ·exact bj8 (fun E w u hu=>br3 (of_decide_eq_true h1) hu) h
  ·cases h
 ·rename_i id off m i
  split at h
  ·rename_i len hlen
   split at h
   ·rename_i l _ hb
    split at h
    ·rename_i k m' z post hs
     cases hq:Ac m m' with
     | false=>rw[hq] at h;cases h
     | true =>
      rw[hq] at h
      have:=Aa hq
      subst this
      obtain ⟨hle,hK⟩:=ah7 h
      have hle:=of_decide_eq_true hle
      obtain ⟨h1,h2⟩:=ber hlen
      refine ⟨_,hK,Ab _,fun B0 w0 st hv hm hn=>?_⟩
      have hx:=acf hv
      subst hn
      exact awj (l:=[.arr k len ((z.drop i).take len)]) t x h1 h2 (fun E act w hR=>bq2 (hR.heap _ _ (hm _ _ hb)) hs (by rw[←hx];exact hR.ev x) hle)
    ·cases h
   ·cases h
  ·exact bea h
 ·rename_i gl off m i
  split at h
  ·rename_i len hlen
   split at h
   ·rename_i l hgl
    split at h
    ·rename_i k m' z post hs
     cases hq:Ac m m' with
     | false=>rw[hq] at h;cases h
     | true =>
      rw[hq] at h
      have:=Aa hq
      subst this
      obtain ⟨hle,hK⟩:=ah7 h
      have hle:=of_decide_eq_true hle
      obtain ⟨h1,h2⟩:=ber hlen
      refine ⟨_,hK,Ab _,fun B0 w0 st hv hm hn=>?_⟩
      have hx:=acf hv
      subst hn
      exact awj (l:=[.arr k len ((z.drop i).take len)]) t x h1 h2 (fun E act w hR=>bt3 (hR.globs _ _ hgl).2 hs (by rw[←hx];exact hR.ev x) hle)
    ·cases h
   ·cases h
  ·exact bea h
 ·exact bea h
theorem bj1{x:Nat}:∀{l:List Nat},bdt x l=false→x∉l
 | [],_=>by simp
 | y::r,h=>by
  simp only[bdt,Bool.or_eq_false_iff] at h
  intro hx
  rcases List.mem_cons.1 hx with rfl | hx
  ·exact Nat.ne_of_beq_eq_false h.1 rfl
  ·exact bj1 h.2 hx
theorem buk{t:TypeId}{x y:Operand}{X Y:AVal}(h:bwa D t X Y hl n K=some r):adi D ⟨dst,.store t x y,type,pos,after,guard⟩ [X,Y] hl n K r:=by
 unfold bwa at h
 split at h
 ·rename_i sz hs
  split at h
  ·split at h
   ·rename_i id off _ _ e l p hb hp
    split at h
    ·rename_i pre mid post p' hg hsp
     refine ⟨_,h,Ab _,fun B0 w0 st hv hm hn=>?_⟩
     obtain ⟨hx,hy⟩:=y9 hv
     subst hn
     obtain ⟨h1,h2⟩:=agd _ _ _ _ hsp
     rw[ajz,Ai] at h1
     subst h1
     exact bou hs x y hx (hm _ _ hb) (by rw[hy];exact hp) hg h2
    ·cases h
   ·cases h
  ·rename_i id s i
   split at h
   ·rename_i e c hb
    cases hq:Ac s 1&&Ac sz 1 && !bdt id (xg Y) with
    | false=>rw[hq] at h;cases h
    | true =>
     rw[hq] at h
     simp only[cond_true] at h
     simp only[Ad,Af] at hq
     have h1:=Aa hq.1.1
     have h2:=Aa hq.1.2
     subst h1
     subst h2
     split at h
     ·rename_i c' hc
      refine ⟨_,h,Ab _,fun B0 w0 st hv hm hn=>?_⟩
      obtain ⟨hx,hy⟩:=y9 hv
      subst hn
      subst hy
      exact bnx hs x y hx (hm _ _ hb) hm hc (bj1 hq.2)
     ·cases h
   ·cases h
  ·rename_i id off m i
   split at h
   ·rename_i e l k' a hb
    split at h
    ·rename_i pre k m' z post hsp
     cases hq:Ac m m'&&Ac sz 1 with
     | false=>rw[hq] at h;cases h
     | true =>
      rw[hq] at h
      simp only[cond_true] at h
      simp only[Ad] at hq
      have h1:=Aa hq.1
      have h2:=Aa hq.2
      subst h1
      subst h2
      have hk:=(ap3 h).1
      have hK:=(ap3 h).2
      subst hk
      refine ⟨_,hK,Ab _,fun B0 w0 st hv hm hn=>?_⟩
      obtain ⟨hx,hy⟩:=y9 hv
      subst hn
      exact bm2 hs x y hx (hm _ _ hb) hy hsp
    ·cases h
   ·cases h
  ·cases h
 ·cases h
theorem biw{s:TypeId}{x:Operand}{f:Nat}{X:AVal}(h:bbf D s X f n K=some r):adi D ⟨dst,.fieldAddr s x f,type,pos,after,guard⟩ [X] hl n K r:=by
 unfold bbf at h
 split at h
 ·rename_i fs ht
  split at h
  ·rename_i fd hf
   split at h
   ·rename_i sz hs
    split at h
    ·refine ⟨_,h,Ab _,fun B0 w0 st hv hm hn=>?_⟩
     have hx:=acf hv
     subst hn
     exact bp1 ht hf hs x hx
    ·refine ⟨_,h,Ab _,fun B0 w0 st hv hm hn=>?_⟩
     have hx:=acf hv
     subst hn
     exact bl6 ht hf hs x hx
    ·split at h
     ·rename_i hg
      refine ⟨_,h,Ab _,fun B0 w0 st hv hm hn=>?_⟩
      have hx:=acf hv
      subst hn
      exact bo2 ht hf hs x hx hg
     ·cases h
    ·cases hq:Ar fd.offset _ with
     | false=>rw[hq] at h;cases h
     | true =>
      rw[hq] at h
      refine ⟨_,h,Ab _,fun B0 w0 st hv hm hn=>?_⟩
      have hx:=acf hv
      subst hn
      exact bnv ht hf hs x hx (Ae hq)
    ·cases h
   ·cases h
  ·cases h
 ·cases h
theorem buy{s:TypeId}{x:Operand}{f:Nat}{l:List AVal}(h:bvc D s l f n K=some r):adi D ⟨dst,.field s x f,type,pos,after,guard⟩ [.agg l] hl n K r:=by
 unfold bvc at h
 split at h
 ·rename_i fs ht
  split at h
  ·rename_i fd hf
   split at h
   ·rename_i g sz hg hs
    split at h
    ·rename_i pre mid post hgc
     obtain ⟨a,hK,ha⟩:=bap h
     refine ⟨_,hK,Ab _,fun B0 w0 st hv hm hn=>?_⟩
     have hx:=acf hv
     subst hn
     exact by4 ht hf hg hs x hx hgc ha
    ·cases h
   ·cases h
  ·cases h
 ·cases h
theorem adg{i:Int}{len:Nat}{x:Option R}(h:within i len x=some r):0≤i∧i<(len:Int)∧x=some r:=by
 unfold within at h
 rcases abm h with ⟨h1,h⟩ | ⟨_,h⟩
 ·rcases abm h with ⟨h2,h⟩ | ⟨_,h⟩
  ·exact ⟨of_decide_eq_true h1,of_decide_eq_true h2,h⟩
  ·cases h
 ·cases h
theorem ah4{i:Int}{K:Nat→Option R}:∀(m j:Nat),ayo i m j K=some r→∃q:Nat,i=(q:Int)∧j≤q∧q<j+m∧K q=some r
 | 0,j,h=>by simp[ayo] at h
 | m+1,j,h=>by
  simp only[ayo] at h
  rcases abm h with ⟨h1,h⟩ | ⟨_,h⟩
  ·exact ⟨j,of_decide_eq_true h1,Ab _,by omega,h⟩
  ·obtain ⟨q,g1,g2,g3,g4⟩:=ah4 m (j+1) h
   exact ⟨q,g1,by omega,by omega,g4⟩
theorem bix{t:TypeId}{x i:Operand}{X:AVal}{k:IntKind}{z:Int}(h:bam D t X z hl n K=some r):adi D ⟨dst,.indexAddr t x i,type,pos,after,guard⟩ [X,.v (.int k z)] hl n K r:=by
 unfold bam at h
 split at h
 ·rename_i e ht
  split at h
  ·rename_i sz hs
   unfold btq at h
   split at h
   ·rename_i c
    cases hq:Ac c.size sz with
    | false=>rw[hq] at h;cases h
    | true =>
     rw[hq] at h
     obtain ⟨h0,h1,hK⟩:=adg h
     refine ⟨_,hK,Ab _,fun B0 w0 st hv hm hn=>?_⟩
     obtain ⟨hx,hi⟩:=y9 hv
     subst hn
     exact bqa ht hs x i hx (Aa hq) hi h0 h1
   ·rename_i id
    split at h
    ·rename_i hb
     obtain ⟨h0,h1,hK⟩:=adg h
     refine ⟨_,hK,Ab _,fun B0 w0 st hv hm hn=>?_⟩
     obtain ⟨hx,hi⟩:=y9 hv
     subst hn
     exact bok ht hs x i hx (hm _ _ hb) hi h0 h1
    ·cases h
   ·rename_i id off len
    split at h
    ·rename_i hb
     cases hq:Ac sz 1 with
     | false=>rw[hq] at h;cases h
     | true =>
      rw[hq] at h
      have:=Aa hq
      subst this
      obtain ⟨h0,h1,hK⟩:=adg h
      refine ⟨_,hK,Ab _,fun B0 w0 st hv hm hn=>?_⟩
      obtain ⟨hx,hi⟩:=y9 hv
      subst hn
      exact boj ht hs x i hx hi h0 h1 (hm _ _ hb)
    ·cases h
   ·rename_i id off m lo len
    cases hq:Ac sz 1 with
    | false=>rw[hq] at h;cases h
    | true =>
     rw[hq] at h
     have:=Aa hq
     subst this
     obtain ⟨h0,h1,hK⟩:=adg h
     refine ⟨_,hK,Ab _,fun B0 w0 st hv hm hn=>?_⟩
     obtain ⟨hx,hi⟩:=y9 hv
     subst hn
     exact blo ht hs x i hx hi h0 h1
   ·cases h
  ·cases h
 ·rename_i m e ht
  split at h
  ·rename_i sz hs
   unfold bsf at h
   split at h
   ·rename_i id off
    split at h
    ·rename_i hb
     split at h
     ·rename_i hsp
      cases hq:Ac m _&&Ac sz 1 with
      | false =>
       rw[hq] at h
       obtain ⟨q,g1,g2,g3,hK⟩:=ah4 m 0 h
       refine ⟨_,hK,Ab _,fun B0 w0 st hv hm hn=>?_⟩
       obtain ⟨hx,hi⟩:=y9 hv
       subst hn
       exact bch ht hs x i hx hi q g1 (by omega)
      | true =>
       rw[hq] at h
       simp only[Ad] at hq
       have h2:=Aa hq.2
       subst h2
       obtain ⟨h0,h1,hK⟩:=adg h
       refine ⟨_,hK,Ab _,fun B0 w0 st hv hm hn=>?_⟩
       obtain ⟨hx,hi⟩:=y9 hv
       subst hn
       exact bdi ht hs x i hx hi h0 h1
     ·obtain ⟨q,g1,g2,g3,hK⟩:=ah4 m 0 h
      refine ⟨_,hK,Ab _,fun B0 w0 st hv hm hn=>?_⟩
      obtain ⟨hx,hi⟩:=y9 hv
      subst hn
      exact bch ht hs x i hx hi q g1 (by omega)
     ·cases h
    ·cases h
   ·rename_i g off
    split at h
    ·rename_i hb
     split at h
     ·rename_i hsp
      cases hq:Ac m _&&Ac sz 1 with
      | false =>
       rw[hq] at h
       simp only[cond_false] at h
       cases hq2:Ac (m*sz) _&&Ar 0 sz with
       | true =>
        rw[hq2] at h
        simp only[Ad] at hq2
        have e1:=Aa hq2.1
        have e2:0<sz:=by simpa using hq2.2
        subst e1
        obtain ⟨h0,h1,hK⟩:=adg h
        refine ⟨_,hK,Ab _,fun B0 w0 st hv hm hn=>?_⟩
        obtain ⟨hx,hi⟩:=y9 hv
        subst hn
        exact ayg ht hs e2 x i hx hi h0 h1
       | false =>
        rw[hq2] at h
        obtain ⟨q,g1,g2,g3,hK⟩:=ah4 m 0 h
        refine ⟨_,hK,Ab _,fun B0 w0 st hv hm hn=>?_⟩
        obtain ⟨hx,hi⟩:=y9 hv
        subst hn
        exact ay0 ht hs x i hx hi q g1 (by omega)
      | true =>
       rw[hq] at h
       simp only[Ad] at hq
       have h2:=Aa hq.2
       subst h2
       obtain ⟨h0,h1,hK⟩:=adg h
       refine ⟨_,hK,Ab _,fun B0 w0 st hv hm hn=>?_⟩
       obtain ⟨hx,hi⟩:=y9 hv
       subst hn
       exact az8 ht hs x i hx hi h0 h1
     ·obtain ⟨q,g1,g2,g3,hK⟩:=ah4 m 0 h
      refine ⟨_,hK,Ab _,fun B0 w0 st hv hm hn=>?_⟩
      obtain ⟨hx,hi⟩:=y9 hv
      subst hn
      exact ay0 ht hs x i hx hi q g1 (by omega)
     ·cases h
    ·cases h
   ·rename_i g off m' j
    cases hq:Ac sz 1 with
    | false=>rw[hq] at h;cases h
    | true =>
     rw[hq] at h
     have:=Aa hq
     subst this
     obtain ⟨h0,h1,h⟩:=adg h
     obtain ⟨h2,hK⟩:=ah7 h
     refine ⟨_,hK,Ab _,fun B0 w0 st hv hm hn=>?_⟩
     obtain ⟨hx,hi⟩:=y9 hv
     subst hn
     exact bn2 ht hs x i hx hi h0 h1 (of_decide_eq_true h2)
   ·cases h
  ·cases h
 ·cases h
theorem buz{t:TypeId}{x i:Operand}{X:AVal}{k:IntKind}{z:Int}(h:bx6 D t X z n K=some r):adi D ⟨dst,.index t x i,type,pos,after,guard⟩ [X,.v (.int k z)] hl n K r:=by
 unfold bx6 at h
 split at h
 ·rename_i m e ht
  split at h
  ·rename_i sz g hs hg
   split at h
   ·rename_i k' m' l
    cases hq:Ac m m'&&Ac sz 1 && !g with
    | false=>rw[hq] at h;cases h
    | true =>
     rw[hq] at h
     simp only[Ad,Af] at hq
     have h1:=Aa hq.1.1
     have h2:=Aa hq.1.2
     have h3:=hq.2
     subst h1
     subst h2
     subst h3
     obtain ⟨h0,h1,hK⟩:=adg h
     refine ⟨_,hK,Ab _,fun B0 w0 st hv hm hn=>?_⟩
     obtain ⟨hx,hi⟩:=y9 hv
     subst hn
     exact bn0 ht hs hg x i hx hi h0 h1
   ·rename_i l
    obtain ⟨q,g1,g2,g3,h⟩:=ah4 m 0 h
    split at h
    ·rename_i hgc
     obtain ⟨a,hK,ha⟩:=bap h
     refine ⟨_,hK,Ab _,fun B0 w0 st hv hm hn=>?_⟩
     obtain ⟨hx,hi⟩:=y9 hv
     subst hn
     exact bnh ht hs hg x i hx hi q g1 (by omega) hgc ha
    ·cases h
   ·cases h
  ·cases h
 ·cases h
theorem biv{t:TypeId}{x y:Operand}{k k':IntKind}{l c:Int}(h:baf D t l c n K=some r):adi D ⟨dst,.makeSlice t x y,type,pos,after,guard⟩ [.v (.int k l),.v (.int k' c)] hl n K r:=by
 unfold baf at h
 split at h
 ·rename_i e ht
  split at h
  ·rename_i by_ hb
   split at h
   ·rename_i ct hct
    rcases abm h with ⟨h1,h⟩ | ⟨_,h⟩
    ·rcases abm h with ⟨h2,h⟩ | ⟨_,h⟩
     ·rcases abm h with ⟨h3,h⟩ | ⟨_,h⟩
      ·refine ⟨_,h,by simp,fun B0 w0 st hv hm hn=>?_⟩
       obtain ⟨hx,hy⟩:=y9 hv
       subst hn
       exact bnf ht hb x y hx hy (of_decide_eq_true h1) (of_decide_eq_true h2) (of_decide_eq_true h3) hct
      ·cases h
     ·cases h
    ·cases h
   ·cases h
  ·cases h
 ·cases h
theorem bhz{t:TypeId}{len:Nat}{ps:Array (Nat×Operand)}{vs:List AVal}(h:av4 D t len ps vs hl n K=some r):adi D ⟨dst,.buildSlice t len ps,type,pos,after,guard⟩ vs hl n K r:=by
 unfold av4 at h
 split at h
 ·rename_i e ht
  cases hq:af4 0 ps.toList&&Ac len ps.size&&Nat.ble len 16777216&&bsd D.P e with
  | false=>rw[hq] at h;cases h
  | true =>
   rw[hq] at h
   simp only[cond_true] at h
   simp only[Ad] at hq
   have h2:=Aa hq.1.1.2
   subst h2
   split at h
   ·rename_i c hc
    refine ⟨_,h,by simp,fun B0 w0 st hv hm hn=>?_⟩
    simp only[arv] at hv
    subst hn
    subst hv
    exact bme ht ps hq.1.1.1 (Ae hq.1.2) hq.2 hm hc
   ·cases h
 ·cases h
theorem bq0{t:TypeId}{s x:Operand}{S X:AVal}(h:brb D t S X hl n K=some r):adi D ⟨dst,.call ⟨.builtin .append,#[s,x],#[t,t]⟩,type,pos,after,guard⟩ [S,X] hl n K r:=by
 unfold brb at h
 split at h
 ·rename_i e ht
  split at h
  ·rename_i i hi
   cases hq:Ar 0 i.size&&Ar 0 i.bytes&&bmj i with
   | false=>rw[hq] at h;cases h
   | true =>
    rw[hq] at h
    simp only[cond_true] at h
    simp only[Ad] at hq
    have hsz:0<i.size:=Ae hq.1.1
    have hby:0<i.bytes:=Ae hq.1.2
    obtain ⟨z,hz,hzs⟩:∃z,i.zero=some z∧z.cells.size=i.size:=by
     have hq2:=hq.2
     unfold bmj at hq2
     cases hz:i.zero with
     | none=>rw[hz] at hq2;cases hq2
     | some z=>rw[hz] at hq2;exact ⟨z,rfl,Aa hq2⟩
    -- to an own row
    have own:∀(S:AVal) (id:Nat) (e':TypeId) (c:Cont) (m:Nat),hl id=some ⟨.row e' c,false⟩→(Ac e e')=true→(S=.own id∧m=c.len∨S=.win id 0 m)→∀(cd cx c':Cont),
        cd.len=m→cd.size=c.size→(∀S' w j x,j<m*c.size→cellC S' w c j x→cellC S' w cd j x)→anj hl X=some cx→cd.app cx=some c'→cd.size=i.size→(cd.len+cx.len)*i.bytes≤limit→K ⟨.own n,(n,some ⟨.row e c',false⟩)::[(id,none)],n+1⟩=some r →
        adi D ⟨dst,.call ⟨.builtin .append,#[s,x],#[t,t]⟩,type,pos,after,guard⟩ [S,X] hl n K r:=by
     intro S id e' c m hb he hS cd cx c' hcl hcs hcell hx happ hsize hlim hK
     have he':=Aa he
     subst he'
     obtain ⟨a1,a2,a3,a5⟩:=Cont.btk happ
     refine ⟨_,hK,by simp,fun B0 w0 st hv hm hn=>?_⟩
     obtain ⟨hs',hx'⟩:=y9 (x:=s) (y:=x) hv
     subst hn
     refine bow ht hi hz hzs hsz hby hm s x (by rw[hx'];exact hx) (by rw[a3,hsize]) (n:=m) (dead:=fun d=>d=id) (by rw[hcl] at hlim;exact hlim) (by rw[a1,hcl]) (by rw[a2,hsize]) (fun j b hj hb2=>?_) (fun E act w hR=>?_)
     ·simp only[tq] at hb2
      by_cases hji:j=id
      ·subst hji;rw[yt] at hb2;cases hb2
      ·rw[vo hji] at hb2;exact ⟨hb2,hji⟩
     ·have hv:=hR.ev s
      rw[hs'] at hv
      obtain ⟨v,hρ,⟨xs,ho,hxs⟩,_⟩:=hR.heap _ _ (hm _ _ hb)
      have hsz2:c.size=i.size:=by rw[←hcs,hsize]
      rw[hsz2] at ho hcell
      have fin:∀(u:Value) (xs':List Value),act.eval s=u→w.ownsRow B0 e i.size u m xs'→(∀j y,xs'[j]?=some y→xs[j]?=some y∧j<m*i.size)→(∀k,jk u=some k→jk v=some k) →
          ∃xs,w.ownsRow B0 e i.size (act.eval s) m xs∧(∀j y,xs[j]?=some y→y.oneCell'=true∧cellC E.S w c' j y)∧(∀j y,cellC E.S w cx j y→cellC E.S w c' (m*i.size+j) y)∧(∀k,jk (act.eval s)=some k→boh E st.h (fun d=>d=id) k):=by
       intro u xs' hu ho' hsub hvb
       refine ⟨xs',by rw[hu];exact ho',fun j y hj=>?_,fun j y hy=>?_,fun k hk=>⟨id,_,v,rfl,hm _ _ hb,rfl,hρ,hvb k (by rw[←hu];exact hk)⟩⟩
       ·obtain ⟨h1,h2⟩:=hsub j y hj
        obtain ⟨g1,g2⟩:=hxs j y h1
        refine ⟨g1,(a5 E.S w).1 j y ?_ (hcell _ _ _ _ h2 g2)⟩
        rw[hcl,hsize]
        exact h2
       ·have:=(a5 E.S w).2 j y hy
        rw[hcl,hsize] at this
        exact this
      rcases hS with ⟨rfl,rfl⟩ | rfl
      ·simp only[ig] at hv
       rw[hρ] at hv
       cases hv
       exact fin _ xs rfl ho (fun j y hj=>⟨hj,by have:=(Ak.1 hj).1;rw[ho.1] at this;exact this⟩) (fun k hk=>hk)
      ·simp only[ig] at hv
       obtain ⟨A,q,cap,hρ',hle,A',_,hA',hu⟩:=hv
       rw[hρ] at hρ'
       cases hρ'
       rw[show A'=A from hA' trivial,Nat.sub_zero] at hu
       have hq:q=c.len:=by
        rcases (show _ from ho.2) with ⟨h1,h2⟩ | ⟨g,cap',cur,h1,_⟩
        ·cases h1;exact h2.symm
        ·cases h1;rfl
       rw[←hq] at ho
       have ho':=ai6 (m:=m) ho rfl (by omega)
       exact fin _ _ hu ho' (fun j y hj=>by
        have hlt:=(Ak.1 hj).1
        rw[ho'.1] at hlt
        rw[List.getElem?_take,if_pos hlt] at hj
        exact ⟨hj,hlt⟩) (fun k hk=>by cases A<;>exact hk)
    split at h
    ·-- a row, or a row's beginning
     rename_i c dead cx hold hx
     split at h
     ·rename_i c' happ
      cases hs1:Ac c.size i.size with
      | false=>rw[hs1] at h;cases h
      | true =>
       rw[hs1] at h
       have hs1:=Aa hs1
       rcases abm h with ⟨h1,hK⟩ | ⟨_,h⟩
       ·have hlim:=of_decide_eq_true h1
        unfold b3r at hold
        split at hold
        ·cases hold
        ·rename_i id
         split at hold
         ·rename_i e' c0 hb
          cases hq2:Ac e e' with
          | false=>rw[hq2] at hold;cases hold
          | true =>
           rw[hq2] at hold
           cases hold
           exact own _ id e' c c.len hb hq2 (.inl ⟨rfl,rfl⟩) c cx c' rfl rfl (fun _ _ _ _ _ h=>h) hx happ hs1 hlim hK
         ·cases hold
        ·rename_i id len
         split at hold
         ·rename_i e' c0 hb
          cases hq2:Ac e e' with
          | false=>rw[hq2] at hold;cases hold
          | true =>
           rw[hq2] at hold
           cases hold
           by_cases hlen:len≤c0.len
           ·obtain ⟨t1,t2,t3⟩:=Cont.ay7 hlen
            exact own _ id e' c0 len hb hq2 (.inr rfl) (c0.take len) cx c' t1 t2 t3 hx happ hs1 hlim hK
           ·-- no such state
            refine ⟨_,hK,by simp,fun B0 w0 st hv hm hn=>?_⟩
            obtain ⟨hs',hx'⟩:=y9 (x:=s) (y:=x) hv
            intro E act w hR
            exfalso
            have hv:=hR.ev s
            rw[hs'] at hv
            simp only[ig] at hv
            obtain ⟨A,q,cap,hρ',hle,_⟩:=hv
            obtain ⟨v,hρ,⟨xs,ho,hxs⟩,_⟩:=hR.heap _ _ (hm _ _ hb)
            rw[hρ] at hρ'
            cases hρ'
            rcases ho.2 with ⟨h1,h2⟩ | ⟨g,cap',cur,h1,_⟩
            ·cases h1;omega
            ·cases h1;omega
         ·cases hold
        ·cases hold
       ·cases h
     ·cases h
    ·-- nil
     rename_i dead cx hold hx
     cases hs1:Ac cx.size i.size with
     | false=>rw[hs1] at h;cases h
     | true =>
      rw[hs1] at h
      have hs1:=Aa hs1
      rcases abm h with ⟨h1,hK⟩ | ⟨_,h⟩
      ·have hlim:=of_decide_eq_true h1
       unfold b3r at hold
       split at hold
       ·cases hold
        refine ⟨_,hK,by simp,fun B0 w0 st hv hm hn=>?_⟩
        obtain ⟨hs',hx'⟩:=y9 (x:=s) (y:=x) hv
        subst hn
        refine bow ht hi hz hzs hsz hby hm s x (by rw[hx'];exact hx) hs1 (n:=0) (dead:=fun _=>False) (by rw[Bg];exact hlim) (by simp) hs1 (fun j b hj hb2=>⟨hb2,fun h=>h⟩) (fun E act w hR=>?_)
        have hv:=hR.ev s
        rw[hs'] at hv
        simp only[ig] at hv
        refine ⟨[],by rw[hv];exact World.ownsRow_nil w B0 e i.size,by simp,fun j y hy=>by simpa using hy,fun k hk=>by rw[hv] at hk;cases hk⟩
       ·split at hold
        ·cases hq2:Ac e _ with
         | false=>rw[hq2] at hold;cases hold
         | true=>rw[hq2] at hold;cases hold
        ·cases hold
       ·split at hold
        ·cases hq2:Ac e _ with
         | false=>rw[hq2] at hold;cases hold
         | true=>rw[hq2] at hold;cases hold
        ·cases hold
       ·cases hold
      ·cases h
    ·cases h
  ·cases h
 ·cases h
end
end Go.Abs
end

section
namespace Go.Abs
open Go Go.RowKit
theorem axn{P:Program}{t:TypeId}(h:bbu P t=true):∃k,P.underlying t=some (.int k):=by
 unfold bbu at h
 split at h
 ·exact ⟨_,by assumption⟩
 ·cases h
theorem ayp{P:Program}{t:TypeId}(h:b2n P t=true):oo P t=some 1:=by
 unfold b2n at h
 split at h
 ·rename_i s hs
  rw[hs,Aa h]
 ·cases h
theorem ah2{P:Program}{t:TypeId}{s:Nat}(h:oo P t=some s):∃i,P.info? t=some i∧i.size=s:=by
 unfold oo at h
 cases hi:P.info? t with
 | none=>rw[hi] at h;cases h
 | some i=>rw[hi] at h;cases h;exact ⟨i,rfl,rfl⟩
section
variable {D:Ctx} {B0:Nat} {w0:W0} {st:ASt} {dst:Option Tmp} {type:TypeId} {pos:String} {after:Array Edge} {guard:Option (Nat×Bool)}
theorem b0c{op:Op}{e:TypeId}{c':Cont}{dead:Nat→Prop}{puts:Hp}
    (hputs:∀id c,id≠st.n→iw (tq puts st.h) id=some c→iw st.h id=some c∧¬dead id)
    (hs:∀E act w,Rel D B0 w0 E st act w→∃(v v':Value) (w':World) (ys:List Value),(execOp act.eval ⟨dst,op,type,pos,after,guard⟩).run D.P w=.ok (.value v') w'∧w'.ownsRow B0 e c'.size v' c'.len ys∧w.grownBy w' (jk v) ∧
     (∀k,jk v'=some k→jk v=some k∨k=w.heap.size)∧(∀k,jk v=some k→boh E st.h dead k)∧(∀j y,ys[j]?=some y→y.oneCell'=true∧cellC E.S w c' j y)) :
    agk D B0 w0 st ⟨dst,op,type,pos,after,guard⟩ ⟨.own st.n,(st.n,some ⟨.row e c',false⟩)::puts,st.n+1⟩:=by
 intro E act w hR hn next Q hnext
 obtain ⟨v,v',w',ys,hexec,ho,hg,hb,hblk,hcell⟩:=hs E act w hR
 have hxn:E.ρ st.n=none:=hn st.n (Ab _) (by simp)
 have hbel:Below B0 w w':=⟨hg.os,hg.tape,hg.output,hg.size,fun k hk=>hg.block k (Nat.lt_of_lt_of_le hk hR.base) (fun he=>by
  obtain ⟨d,c,u,_,hd,_,hu2,hv2⟩:=hblk k he.symm
  have:=((hR.heap d c hd).lt hu2 hv2).1
  omega)⟩
 have hold:∀k,k<w.heap.size→w'.heap[k]?=w.heap[k]?∨boh E st.h (fun d=>dead d∨d=st.n) k:=by
  intro k hk
  by_cases he:jk v=some k
  ·obtain ⟨d,c,u,hd,rest⟩:=hblk k he
   exact .inr ⟨d,c,u,.inl hd,rest⟩
  ·exact .inl (hg.block k hk (fun h=>he h.symm))
 have hSk:∀b,E.S b→w'.heap[b]?=w.heap[b]?:=by
  intro b hb'
  refine hg.block b (hR.sOld b hb') (fun he=>?_)
  obtain ⟨d,c,u,_,hd,hf,hu2,hv2⟩:=hblk b he.symm
  obtain ⟨u',hu',_,hns,_⟩:=hR.heap d c hd
  rw[hu2] at hu'
  cases hu'
  exact hns hf b hv2 hb'
 have kp:Keeps E.S E.S w w':=⟨fun _ h=>h,hSk⟩
 have hB:bdm ⟨E.S,upd E.ρ st.n v'⟩ w' B0 st.n ⟨.row e c',false⟩:=by
  refine ⟨v',upd_same _ _ _,⟨ys,ho,fun j y hj=>⟨(hcell j y hj).1,cellC.mono kp (hcell j y hj).2⟩⟩,fun _ k hk hs'=>?_,fun hf=>by cases hf⟩
  rcases hb k hk with h | h
  ·obtain ⟨d,c,u,_,hd,hf,hu2,hv2⟩:=hblk k h
   obtain ⟨u',hu',_,hns,_⟩:=hR.heap d c hd
   rw[hu2] at hu'
   cases hu'
   exact hns hf k hv2 hs'
  ·exact absurd (hR.sOld k hs') (by omega)
 obtain ⟨hR',up⟩:=bbg hR (E':=⟨E.S,upd E.ρ st.n v'⟩) rfl (bfu hxn) (x:=st.n) (fun id u hu=>by
     by_cases e:id=st.n
     ·exact .inl e
     ·simp only[upd,if_neg e] at hu;exact .inr hu) hbel (b:=⟨.row e c',false⟩) (dead:=dead) (h':=(st.n,some ⟨.row e c',false⟩)::tq puts st.h) yt
     (fun id c hid hc=>hputs id c hid (by rw[vo hid] at hc;exact hc)) hB rfl hold
     (fun u k hu hk=>by
      simp only[upd_same] at hu
      cases hu
      rcases hb k hk with h | h
      ·obtain ⟨d,c,u,hd,rest⟩:=hblk k h
       exact .inr ⟨d,c,u,.inl hd,rest⟩
      ·exact .inl (by omega)) (st.n+1)
 unfold Oper.wp
 rw[hexec,Oper.upon_value]
 refine hnext _ _ _ up (fun id y hy=>?_) (Rel.put hR' (a:=.own st.n) (by simp only[ig];exact upd_same _ _ _) dst)
 by_cases hid:id=st.n
 ·exact .inr ⟨by omega,by simp only;omega⟩
 ·simp only[upd,if_neg hid] at hy;exact .inl hy
end
theorem b4y{hl:Nat→Option Blk}{e:TypeId}{S:AVal}{oc:Option Cont}{dead:Hp}(h:b3r hl e S=some (oc,dead)){size:Nat}(hsz:∀c,oc=some c→c.size=size) :
    ∃D0:Nat→Prop,(∀(hh:Hp) id c,iw (tq dead hh) id=some c→iw hh id=some c∧¬D0 id) ∧
     ∀(D:Ctx) (B0:Nat) (w0:W0) (st:ASt) E act w,(∀id b,hl id=some b→iw st.h id=some b)→Rel D B0 w0 E st act w→∀u,ig E w S u →
      ∃xs,w.ownsRow B0 e size u (match oc with | some c=>c.len | none=>0) xs∧(∀j y,xs[j]?=some y→y.oneCell'=true∧∀c,oc=some c→cellC E.S w c j y)∧(∀k,jk u=some k→boh E st.h D0 k):=by
 have deadOk:∀(id:Nat) (hh:Hp) (j:Nat) (c:Blk),iw (tq [(id,none)] hh) j=some c→iw hh j=some c∧¬(j=id):=by
  intro id hh j c hc
  simp only[tq] at hc
  by_cases hj:j=id
  ·subst hj;rw[yt] at hc;cases hc
  ·rw[vo hj] at hc;exact ⟨hc,hj⟩
 unfold b3r at h
 split at h
 ·cases h
  refine ⟨fun _=>False,fun hh id c hc=>⟨hc,fun h=>h⟩,fun D B0 w0 st E act w hm hR u hu=>?_⟩
  simp only[ig] at hu
  subst hu
  exact ⟨[],World.ownsRow_nil w B0 e size,by simp,fun k hk=>by cases hk⟩
 ·rename_i id
  split at h
  ·rename_i e' c hb
   cases hq:Ac e e' with
   | false=>rw[hq] at h;cases h
   | true =>
    rw[hq] at h
    cases h
    have:=Aa hq
    subst this
    refine ⟨fun d=>d=id,deadOk id,fun D B0 w0 st E act w hm hR u hu=>?_⟩
    simp only[ig] at hu
    obtain ⟨v,hv,⟨xs,ho,hxs⟩,_⟩:=hR.heap _ _ (hm _ _ hb)
    rw[hu] at hv
    cases hv
    rw[hsz c rfl] at ho
    exact ⟨xs,ho,fun j y hj=>⟨(hxs j y hj).1,fun c' hc=>by cases hc;exact (hxs j y hj).2⟩,fun k hk=>⟨id,_,u,rfl,hm _ _ hb,rfl,hu,hk⟩⟩
  ·cases h
 ·rename_i id len
  split at h
  ·rename_i e' c hb
   cases hq:Ac e e' with
   | false=>rw[hq] at h;cases h
   | true =>
    rw[hq] at h
    cases h
    have:=Aa hq
    subst this
    refine ⟨fun d=>d=id,deadOk id,fun D B0 w0 st E act w hm hR u hu=>?_⟩
    simp only[ig] at hu
    obtain ⟨A,q,cap,hρ',hle,A',_,hA',hu⟩:=hu
    obtain ⟨v,hρ,⟨xs,ho,hxs⟩,_⟩:=hR.heap _ _ (hm _ _ hb)
    rw[hρ] at hρ'
    cases hρ'
    rw[show A'=A from hA' trivial,Nat.sub_zero] at hu
    have hq:q=c.len:=by
     rcases (show _ from ho.2) with ⟨h1,h2⟩ | ⟨g,cap',cur,h1,_⟩
     ·cases h1;exact h2.symm
     ·cases h1;rfl
    obtain ⟨t1,t2,t3⟩:=Cont.ay7 (c:=c) (m:=len) (by omega)
    have hsz2:=hsz _ rfl
    rw[t2] at hsz2
    rw[←hq] at ho
    have ho':=ai6 (m:=len) ho rfl (by omega)
    rw[hsz2] at ho'
    refine ⟨_,by rw[hu];simp only;rw[t1];exact ho',fun j y hj=>?_,fun k hk=>⟨id,_,_,rfl,hm _ _ hb,rfl,hρ,by rw[hu] at hk;cases A<;>exact hk⟩⟩
    have hlt:=(Ak.1 hj).1
    rw[ho'.1] at hlt
    rw[List.getElem?_take,if_pos hlt] at hj
    exact ⟨(hxs j y hj).1,fun c' hc=>by cases hc;exact t3 _ _ _ _ (by rw[hsz2];exact hlt) (hxs j y hj).2⟩
  ·cases h
 ·cases h
section
variable {D:Ctx} {B0:Nat} {w0:W0} {dst:Option Tmp} {type:TypeId} {pos:String} {after:Array Edge} {guard:Option (Nat×Bool)} {hl:Nat→Option Blk} {n:Nat} {K:Eff→Option R} {r:R}
theorem bn8{t t':TypeId}{s x:Operand}{S:AVal}{k:IntKind}{z:Int}(h:bl3 D t t' S z hl n K=some r):adi D ⟨dst,.call ⟨.builtin .append,#[s,x],#[t,t']⟩,type,pos,after,guard⟩ [S,.v (.int k z)] hl n K r:=by
 unfold bl3 at h
 split at h
 ·rename_i e ht
  cases hq:bbu D.P t' with
  | false=>rw[hq] at h;cases h
  | true =>
   rw[hq] at h
   simp only[cond_true] at h
   obtain ⟨ki,ht'⟩:=axn hq
   split at h
   ·rename_i i hi
    cases hb:Ar 0 i.bytes with
    | false=>rw[hb] at h;cases h
    | true =>
     rw[hb] at h
     simp only[cond_true] at h
     have hby:0<i.bytes:=Ae hb
     have main:∀(oc:Option Cont) (dead:Hp) (cz c':Cont) (m:Nat),b3r hl e S=some (oc,dead)→aut D.P e z.toNat=some cz→(match oc with | some c=>c.len | none=>0)=m→c'.len=m+z.toNat→c'.size=1→(∀c,oc=some c→c.size=1) →
         (∀S' w j y,(∀c,oc=some c→j<m→cellC S' w c j y)→j<m→cellC S' w c' j y)→(∀S' w j y,(∀q,cellC S' w cz q y)→m≤j→cellC S' w c' j y)→0≤z→(m+z.toNat)*i.bytes≤limit →
         K ⟨.own n,(n,some ⟨.row e c',false⟩)::dead,n+1⟩=some r→adi D ⟨dst,.call ⟨.builtin .append,#[s,x],#[t,t']⟩,type,pos,after,guard⟩ [S,.v (.int k z)] hl n K r:=by
      intro oc dead cz c' m hold hcz hm' hlen hsize hs1 hold2 hnew hz0 hlim hK
      obtain ⟨D0,hd1,hd2⟩:=b4y hold hs1
      obtain ⟨i',zv,hi',hi1,hzv,hzc,hz1,_,_,hcell⟩:=akl hcz
      rw[hi] at hi'
      cases hi'
      refine ⟨_,hK,by simp,fun B0 w0 st hv hm hn=>?_⟩
      obtain ⟨hsv,hxv⟩:=y9 (x:=s) (y:=x) hv
      subst hn
      refine b0c (dead:=D0) (fun id c _ hc=>hd1 st.h id c hc) (fun E act w hR=>?_)
      have hS:=hR.ev s
      rw[hsv] at hS
      have hX:=hR.ev x
      rw[hxv] at hX
      simp only[ig] at hX
      obtain ⟨xs,ho,hxs,hblk⟩:=hd2 D B0 w0 st E act w hm hR _ hS
      rw[hm'] at ho
      have hlim':(m+z.toNat)*i.bytes≤140737488355328:=hlim
      have h63:m+z.toNat≤maxLen:=by
       have:=Nat.le_trans (Bb (m+z.toNat) hby) hlim'
       simp only[maxLen];omega
      obtain ⟨v',w',hr,ho',hg,hb'⟩:=bm9 (P:=D.P) w B0 t t' type e i zv ki k ht ht' hi hzv hzc hi1 hz1 hby (act.eval s) m xs ho z.toNat h63 hlim' hR.base
      refine ⟨act.eval s,v',w',xs++List.replicate z.toNat zv,?_,by rw[hsize,hlen];exact ho',hg,hb',hblk,fun j y hj=>?_⟩
      ·rw[show ((z.toNat:Nat):Int)=z by omega] at hr
       simp[execOp,resolve,invoke,builtin,hX,hr]
      ·have hxl:xs.length=m:=by rw[ho.1,Bd]
       by_cases hjx:j<m
       ·rw[A8 (by omega)] at hj
        exact ⟨(hxs j y hj).1,hold2 _ _ _ _ (fun c hc _=>(hxs j y hj).2 c hc) hjx⟩
       ·rw[Aw (by omega),List.getElem?_replicate] at hj
        split at hj
        ·cases hj
         exact ⟨hz1,hnew _ _ _ _ (fun q=>hcell _ _ _) (by omega)⟩
        ·cases hj
     split at h
     ·rename_i c dead cz hold hcz
      split at h
      ·rename_i c' happ
       obtain ⟨a1,a2,a3,a5⟩:=Cont.btk happ
       obtain ⟨_,_,_,_,_,_,_,z1,z2,_⟩:=akl hcz
       have a4:c.size=1:=by rw[←a3,z2]
       rcases abm h with ⟨h1,h⟩ | ⟨_,h⟩
       ·rcases abm h with ⟨h2,hK⟩ | ⟨_,h⟩
        ·refine main (some c) dead cz c' c.len hold hcz rfl (by rw[a1,z1]) (by rw[a2,a4]) (fun c0 hc=>by cases hc;exact a4) (fun S' w j y hc hj=>?_) (fun S' w j y hc hj=>?_) (of_decide_eq_true h1) (of_decide_eq_true h2) hK
         ·exact (a5 S' w).1 j y (by rw[a4,Bd];exact hj) (hc c rfl hj)
         ·have:=(a5 S' w).2 (j-c.len) y (hc _)
          rw[a4,Bd,show c.len+(j-c.len)=j by omega] at this
          exact this
        ·cases h
       ·cases h
      ·cases h
     ·rename_i dead cz hold hcz
      obtain ⟨_,_,_,_,_,_,_,z1,z2,_⟩:=akl hcz
      rcases abm h with ⟨h1,h⟩ | ⟨_,h⟩
      ·rcases abm h with ⟨h2,hK⟩ | ⟨_,h⟩
       ·refine main none dead cz cz 0 hold hcz rfl (by rw[z1];omega) z2 (fun c0 hc=>by cases hc) (fun S' w j y hc hj=>by omega) (fun S' w j y hc hj=>hc j) (of_decide_eq_true h1) (by have:=of_decide_eq_true h2;rw[Bg];exact this) hK
       ·cases h
      ·cases h
     ·cases h
   ·cases h
 ·cases h
theorem b0f{t:TypeId}{ts:List TypeId}{x:Operand}{X:AVal}(h:chd D t X n K=some r):adi D ⟨dst,.call ⟨.builtin .cap,#[x],(t::ts).toArray⟩,type,pos,after,guard⟩ [X] hl n K r:=by
 unfold chd at h
 split at h
 ·rename_i e ht
  refine ⟨_,h,Ab _,fun B0 w0 st hv hm hn=>?_⟩
  have hx:=acf (x:=x) hv
  subst hn
  refine ko fun E act w hR=>?_
  have hX:=hR.ev x
  rw[hx] at hX
  simp only[ig] at hX
  exact ⟨.int .i64 0,by simp[execOp,resolve,invoke,builtin,Builtin.cap_,hX,run_underlying ht,goInt],by simp only[ig]⟩
 ·cases h
theorem aqo{P:Program}{e:TypeId}{ki k:IntKind}(he:P.underlying e=some (.int ki)){i:TypeInfo}(hi:P.info? e=some i)(h1:i.size=1)(d:Nat)(w:World)(l l':List Int)(hl:l.length=l'.length) :
    ∀(m a:Nat),a+m≤l.length→(Op.eqItems (d+1) e (P.cellsOf e) (l.map (Value.int k)).toArray (l'.map (Value.int k)).toArray (List.range' a m)).run P w=.ok (decide ((l.drop a).take m=(l'.drop a).take m)) w
 | 0,a,_=>by simp[Op.eqItems]
 | m+1,a,ha=>by
  have hc:P.cellsOf e=1:=by simp[Program.cellsOf,hi,h1]
  have e1:l.drop a=l[a]::l.drop (a+1):=A9 (by omega)
  have e2:l'.drop a=l'[a]::l'.drop (a+1):=A9 (by omega)
  have ih:=aqo he hi h1 d w l l' (k:=k) hl m (a+1) (by omega)
  have p1:(part e (l.map (Value.int k)).toArray (a*P.cellsOf e)).run P w=.ok (.int k l[a]) w:=by
   simp[part,isAgg,run_underlying he,hc,show a<l.length by omega]
  have p2:(part e (l'.map (Value.int k)).toArray (a*P.cellsOf e)).run P w=.ok (.int k l'[a]) w:=by
   simp[part,isAgg,run_underlying he,hc,show a<l'.length by omega]
  simp only[List.range'_succ,Op.eqItems,Sem.run_bind,p1,p2,Result.andThen_ok,run_equalIn_int w d e k ki _ _ he]
  have heq:((l.drop a).take (m+1)=(l'.drop a).take (m+1))↔(l[a]=l'[a]∧(l.drop (a+1)).take m=(l'.drop (a+1)).take m):=by
   rw[e1,e2]
   simp only[List.take_succ_cons,List.cons.injEq]
  by_cases hab:l[a]=l'[a]
  ·have h2:decide ((l.drop a).take (m+1)=(l'.drop a).take (m+1))=decide ((l.drop (a+1)).take m=(l'.drop (a+1)).take m):=decide_eq_decide.2 (heq.trans (by simp[hab]))
   rw[h2]
   simp only[hab,beq_self_eq_true,Bool.not_true,Av,if_false,ih]
  ·have hb:(l[a]==l'[a])=false:=by simpa using hab
   have h2:decide ((l.drop a).take (m+1)=(l'.drop a).take (m+1))=false:=decide_eq_false (fun h=>hab (heq.1 h).1)
   rw[h2]
   simp[hb]
theorem bml{P:Program}{cs cs':List Value}(w:World)(d:Nat):∀(fs:List Field) (b:Bool),b1m P cs cs' fs=some b→(Op.eqFields (d+1) cs.toArray cs'.toArray fs).run P w=.ok b w
 | [],b,h=>by simp only[b1m] at h;cases h;simp[Op.eqFields]
 | f::fs,b,h=>by
  simp only[b1m] at h
  cases hq : bbu P f.type && !(f.name == "_") with
  | false =>
   rw[hq] at h
   simp only[cond_false] at h
   cases hq2 : brd P f.type && !(f.name == "_") with
   | false=>rw[hq2] at h;cases h
   | true =>
    rw[hq2] at h
    simp only[cond_true] at h
    simp only[Ad,Af] at hq2
    have hbt:P.underlying f.type=some .bool:=by
     have:=hq2.1
     unfold brd at this
     split at this
     ·assumption
     ·cases this
    have hn : f.name ≠ "_" := by simpa using hq2.2
    split at h
    ·rename_i a b' h1 h2
     cases hr:b1m P cs cs' fs with
     | none=>rw[hr] at h;cases h
     | some r =>
      rw[hr] at h
      cases h
      have ih:=bml w d fs r hr
      have p1:(part f.type cs.toArray f.offset).run P w=.ok (.bool a) w:=by simp[part,isAgg,run_underlying hbt,h1]
      have p2:(part f.type cs'.toArray f.offset).run P w=.ok (.bool b') w:=by simp[part,isAgg,run_underlying hbt,h2]
      have pe:(Op.equalIn (d+1) f.type (.bool a) (.bool b')).run P w=.ok (a==b') w:=by simp[Op.equalIn,run_underlying hbt]
      simp only[Op.eqFields,hn,ne_eq,not_false_eq_true,if_true,Sem.run_bind,p1,p2,Result.andThen_ok,pe]
      by_cases hab:a=b'
      ·subst hab;simp[ih]
      ·have hb:(a==b')=false:=by simpa using hab
       simp[hb]
    ·cases h
  | true =>
   rw[hq] at h
   simp only[cond_true] at h
   simp only[Ad,Af] at hq
   obtain ⟨ki,hki⟩:=axn hq.1
   have hn : f.name ≠ "_" := by simpa using hq.2
   split at h
   ·rename_i k a k' b' h1 h2
    cases hk:aw1 k k' with
    | false=>rw[hk] at h;cases h
    | true =>
     rw[hk] at h
     simp only[cond_true] at h
     have:=agf hk
     subst this
     cases hr:b1m P cs cs' fs with
     | none=>rw[hr] at h;cases h
     | some r =>
      rw[hr] at h
      cases h
      have ih:=bml w d fs r hr
      have p1:(part f.type cs.toArray f.offset).run P w=.ok (.int k a) w:=by simp[part,isAgg,run_underlying hki,h1]
      have p2:(part f.type cs'.toArray f.offset).run P w=.ok (.int k b') w:=by simp[part,isAgg,run_underlying hki,h2]
      simp only[Op.eqFields,hn,ne_eq,not_false_eq_true,if_true,Sem.run_bind,p1,p2,Result.andThen_ok,run_equalIn_int w d f.type k ki _ _ hki]
      by_cases hab:a=b'
      ·subst hab;simp[ih]
      ·have hb:(a==b')=false:=by simpa using hab
       simp[hb]
   ·cases h
theorem bh6{E:Env}{w:World}:∀(l:List AVal) (cs us:List Value),awy l=some cs→qw E w l us→us=cs
 | [],cs,us,h,hr=>by simp only[awy] at h;cases h;simpa only[qw] using hr
 | a::r,cs,us,h,hr=>by
  cases a with
  | v x =>
   have hx:∃l,awy r=some l∧cs=x::l:=by
    cases x<;>simp only[awy] at h<;>first
     | (cases h;done)
     | (split at h
        ·rename_i l hl;cases h;exact ⟨l,hl,rfl⟩
        ·cases h)
   obtain ⟨l,h1,rfl⟩:=hx
   simp only[qw,ig] at hr
   obtain ⟨u,us',rfl,_,rfl,h3⟩:=hr
   rw[bh6 r l us' h1 h3]
  | _=>simp[awy] at h
theorem b47{t:TypeId}{X Y:AVal}{Kb:Bool→Option R}(h:eqX D t X Y hl Kb=some r):∃b,Kb b=some r∧∀(B0:Nat) (w0:W0) (st:ASt) E act w,(∀id b,hl id=some b→iw st.h id=some b)→Rel D B0 w0 E st act w→∀u v,ig E w X u→ig E w Y v →
    ∀(x y:Operand),((do eqGuard .eql t x y u v;binOp .eql t u v:Sem Value).run D.P w=.ok (.bool b) w)∧((do eqGuard .neq t x y u v;binOp .neq t u v:Sem Value).run D.P w=.ok (.bool !b) w):=by
 unfold eqX at h
 split at h
 ·rename_i ht
  split at h
  ·rename_i a b
   refine ⟨_,h,fun B0 w0 st E act w hm hR u v hu hv x y=>?_⟩
   simp only[ig] at hu hv
   subst hu
   subst hv
   constructor<;>simp[eqGuard,binOp,run_equal_bool w t a b ht]
  ·cases h
 ·rename_i e ht
  split at h
  ·refine ⟨_,h,fun B0 w0 st E act w hm hR u v hu hv x y=>?_⟩
   simp only[ig] at hu hv
   subst hu
   subst hv
   constructor<;>simp[eqGuard,binOp,run_equal_slice_nil w t e none 0 0 ht]
  ·split at h
   ·rename_i c hc
    rcases abm h with ⟨h1,h⟩ | ⟨_,h⟩
    ·refine ⟨_,h,fun B0 w0 st E act w hm hR u v hu hv x y=>?_⟩
     simp only[ig] at hv
     subst hv
     obtain ⟨A,cap,rfl,hcap,hrd⟩:=adb hR hm hc hu
     obtain ⟨a,rfl,_⟩:=hrd (of_decide_eq_true h1)
     constructor<;>simp[eqGuard,binOp,run_equal_slice_nil w t e (some a) c.len cap ht]
    ·cases h
   ·cases h
  ·cases h
 ·rename_i e ht
  have pn:∀(w:World) (p:Option Addr),(Op.equal t (.pointer p) (.pointer none)).run D.P w=.ok p.isNone w:=by
   intro w p
   have q:∀d,(Op.equalIn (d+1) t (.pointer p) (.pointer none)).run D.P w=.ok p.isNone w:=by
    intro d
    cases p<;>simp[Op.equalIn,run_underlying ht]
   exact q 9999
  split at h
  ·rename_i q l
   refine ⟨_,h,fun B0 w0 st E act w hm hR u v hu hv x y=>?_⟩
   simp only[ig] at hu hv
   subst hv
   rcases hu with ⟨rfl,rfl⟩ | ⟨rfl,a,cs,rfl,_⟩
   ·constructor<;>simp[eqGuard,binOp,pn]
   ·constructor<;>simp[eqGuard,binOp,pn]
  ·refine ⟨_,h,fun B0 w0 st E act w hm hR u v hu hv x y=>?_⟩
   simp only[ig] at hu hv
   subst hu
   subst hv
   constructor<;>simp[eqGuard,binOp,pn]
  ·refine ⟨_,h,fun B0 w0 st E act w hm hR u v hu hv x y=>?_⟩
   simp only[ig] at hu hv
   obtain ⟨b,_,rfl⟩:=hu
   subst hv
   constructor<;>simp[eqGuard,binOp,pn]
  ·refine ⟨_,h,fun B0 w0 st E act w hm hR u v hu hv x y=>?_⟩
   simp only[ig] at hu hv
   obtain ⟨a,cs,rfl,_⟩:=hu
   subst hv
   constructor<;>simp[eqGuard,binOp,pn]
  ·cases h
 ·rename_i m e ht
  split at h
  ·rename_i k n l k' n' l'
   cases hq:bbu D.P e&&b2n D.P e&&aw1 k k'&&Ac n m&&Ac n' m && !D.P.eqGuardType D.P.depth t with
   | false=>rw[hq] at h;cases h
   | true =>
    rw[hq] at h
    simp only[cond_true] at h
    simp only[Ad,Af] at hq
    obtain ⟨⟨⟨⟨⟨h1,h2⟩,h3⟩,h4⟩,h5⟩,h6⟩:=hq
    refine ⟨_,h,fun B0 w0 st E act w hm hR u v hu hv x y=>?_⟩
    simp only[ig] at hu hv
    obtain ⟨hl1,rfl⟩:=hu
    obtain ⟨hl2,rfl⟩:=hv
    obtain ⟨ki,he⟩:=axn h1
    obtain ⟨i,hi,hi1⟩:=ah2 (ayp h2)
    have h3:=agf h3
    have h4:=Aa h4
    have h5:=Aa h5
    subst h3
    subst h4
    subst h5
    have hr:=aqo (k:=k) he hi hi1 9998 w l l' (by rw[hl1,hl2]) l.length 0 (by omega)
    have key:(Op.equalIn 10000 t (.agg (l.map (Value.int k)).toArray) (.agg (l'.map (Value.int k)).toArray)).run D.P w=.ok (decide (l=l')) w:=by
     rw[show (10000:Nat)=9999+1 from rfl,run_equalIn_array w 9999 _ _ ht hi,List.range_eq_range',←hl1,show (9999:Nat)=9998+1 from rfl,hr]
     simp only[List.drop_zero]
     rw[Ao (Ab _),Ao (by omega)]
    constructor
    ·simp only[Sem.run_bind,run_eqGuard_agg w _ t x y _ _ h6,Result.andThen_ok,run_eql_struct,key]
    ·simp only[Sem.run_bind,run_eqGuard_agg w _ t x y _ _ h6,Result.andThen_ok,run_neq_struct,key]
  ·cases h
 ·rename_i fs ht
  split at h
  ·rename_i l l'
   cases hq : !D.P.stoodInHeld t && !D.P.eqGuardType D.P.depth t with
   | false=>rw[hq] at h;cases h
   | true =>
    rw[hq] at h
    simp only[cond_true] at h
    simp only[Ad,Af] at hq
    split at h
    ·rename_i cs cs' hf1 hf2
     split at h
     ·rename_i b hb
      refine ⟨_,h,fun B0 w0 st E act w hm hR u v hu hv x y=>?_⟩
      simp only[ig] at hu hv
      obtain ⟨us,rfl,hu⟩:=hu
      obtain ⟨vs,rfl,hv⟩:=hv
      rw[bh6 _ _ _ hf1 hu,bh6 _ _ _ hf2 hv]
      have hfs:D.P.fieldsOf t=fs:=by simp[Program.fieldsOf,ht]
      have key:(Op.equalIn 10000 t (.agg cs.toArray) (.agg cs'.toArray)).run D.P w=.ok b w:=by
       rw[show (10000:Nat)=9999+1 from rfl,run_equalIn_struct w 9999 t _ _ (by rw[hfs];exact ht) hq.1,hfs]
       exact bml w 9998 _ _ hb
      constructor
      ·simp only[Sem.run_bind,run_eqGuard_agg w _ t x y _ _ hq.2,Result.andThen_ok,run_eql_struct,key]
      ·simp only[Sem.run_bind,run_eqGuard_agg w _ t x y _ _ hq.2,Result.andThen_ok,run_neq_struct,key]
     ·cases h
    ·cases h
  ·cases h
 ·cases h
theorem bz1{bop:BinOp}{t1 t2:TypeId}{x y:Operand}{X Y:AVal}(h:co0 D bop t1 X Y hl n K=some r):adi D ⟨dst,.binOp bop t1 x y t2,type,pos,after,guard⟩ [X,Y] hl n K r:=by
 have eqs:∀(neg:Bool),eqX D t1 X Y hl (fun b=>K ⟨.v (.bool (if neg then !b else b)),[],n⟩)=some r→bop=(if neg then .neq else .eql)→adi D ⟨dst,.binOp bop t1 x y t2,type,pos,after,guard⟩ [X,Y] hl n K r:=by
  intro neg h hb
  obtain ⟨b,hK,hrun⟩:=b47 h
  refine ⟨_,hK,Ab _,fun B0 w0 st hv hm hn=>?_⟩
  obtain ⟨h1,h2⟩:=y9 hv
  subst hn
  refine ko fun E act w hR=>⟨.bool (if neg then !b else b),?_,by simp only[ig]⟩
  have e1:=hR.ev x
  rw[h1] at e1
  have e2:=hR.ev y
  rw[h2] at e2
  have:=hrun B0 w0 st E act w hm hR _ _ e1 e2 x y
  simp only[Sem.run_bind] at this
  subst hb
  cases neg
  ·simp only[execOp,Sem.run_bind,this.1,Av,if_false];rfl
  ·simp only[execOp,Sem.run_bind,this.2,if_true];rfl
 unfold co0 at h
 split at h
 ·rename_i k a k' b
  obtain ⟨u,v,z,hx,hy,hK,hrun⟩:=bzo (P:=D.P) h
  cases hx
  cases hy
  refine ⟨_,hK,Ab _,fun B0 w0 st hv hm hn=>?_⟩
  obtain ⟨h1,h2⟩:=y9 hv
  subst hn
  refine ko fun E act w hR=>⟨z,?_,by simp only[ig]⟩
  have e1:=hR.ev x
  rw[h1] at e1
  have e2:=hR.ev y
  rw[h2] at e2
  simp only[ig] at e1 e2
  have:=hrun t1 x y w
  simp only[Sem.run_bind] at this
  simp only[execOp,e1,e2,Sem.run_bind,this]
  rfl
 ·split at h
  ·exact eqs false (by simpa using h) rfl
  ·exact eqs true (by simpa using h) rfl
  ·cases h
theorem foldl_set(vs:List Value):∀(k off:Nat) (cells:Array Value),off+k+vs.length≤cells.size →
    ((vs.zipIdx k).foldl (fun (cs:Array Value) (p:Value×Nat)=>cs.setIfInBounds (off+p.2) p.1) cells).toList=cells.toList.take (off+k)++vs++cells.toList.drop (off+k+vs.length):=by
 induction vs with
 | nil=>intro k off cells h;simp
 | cons v vs ih =>
  intro k off cells h
  simp only[Aq] at h
  simp only[List.zipIdx_cons,List.foldl_cons]
  rw[ih (k+1) off _ (by simp;omega)]
  rw[Ay]
  have hcl:cells.toList.length=cells.size:=by simp
  have hlt:off+k<cells.toList.length:=by omega
  rw[show off+(k+1)=(off+k)+1 by omega,List.take_add_one,List.take_set_of_le (Ab _),List.getElem?_set_self hlt,List.drop_set_of_lt (by omega)]
  simp only[Option.toList,Am,List.cons_append,Bc,Aq]
  rw[show off+k+1+vs.length=off+k+(vs.length+1) by omega]
theorem blw{place:Nat→Option (Nat×Nat)}{E:Env}{w:World}{D:Ctx}{B0:Nat}{w0:W0}{st:ASt}{act:Act}(hR:Rel D B0 w0 E st act w):∀(ps:List (Nat×Operand)) (l l':List AVal) (vs:List AVal) (cells:Array Value),buc place l ps vs=some l'→evs st.f (ps.map (·.2))=vs→qw E w l cells.toList →
    ∃cells',Instr.fill place cells (ps.map fun p=>(p.1,act.eval p.2))=some cells'∧qw E w l' cells'.toList
 | [],l,l',vs,cells,h,hv,hr=>by
  simp only[List.map_nil,evs] at hv
  subst hv
  simp only[buc] at h
  cases h
  exact ⟨cells,rfl,hr⟩
 | (i,x)::ps,l,l',vs,cells,h,hv,hr=>by
  simp only[Ah,evs] at hv
  subst hv
  simp only[buc] at h
  split at h
  ·cases h
  ·rename_i off sz hp
   split at h
   ·rename_i pre mid post p hg hpt
    split at h
    ·rename_i p' hs
     obtain ⟨s1,s2⟩:=agd _ _ _ _ hs
     rw[ajz,Ai] at s1
     subst s1
     obtain ⟨c1,c2,c3,he,g1,g2,g3,l1,l2⟩:=ayb hg hr
     have hpr:=aze hR hpt (hR.ev x)
     have hpl:(act.eval x).cells.size=sz:=by have:=ai3 _ _ hpr;rw[s2] at this;simpa using this
     have hcs:cells.size=off+sz+c3.length:=by
      have:cells.toList.length=(c1++(c2++c3)).length:=by rw[he]
      simp at this;omega
     have hfold:=foldl_set (act.eval x).cells.toList 0 off cells (by simp;omega)
     have h1:cells.toList.take off=c1:=by rw[he,←l1];simp
     have h3:cells.toList.drop (off+sz)=c3:=by
      rw[he,←l1,←l2,←Am,←Aj]
      exact List.drop_left
     have hz:((act.eval x).cells.zipIdx.foldl (fun (cs:Array Value) (p:Value×Nat)=>cs.setIfInBounds (off+p.2) p.1) cells).toList=c1++((act.eval x).cells.toList++c3):=by
      rw[←Array.foldl_toList,Bf]
      rw[hfold]
      simp only[Nat.add_zero,Au,hpl,h1,h3,Am]
     obtain ⟨cells',k1,k2⟩:=blw hR ps _ l' _ (((act.eval x).cells.zipIdx.foldl (fun (cs:Array Value) (p:Value×Nat)=>cs.setIfInBounds (off+p.2) p.1) cells)) h rfl (by rw[hz];exact ad9 _ _ _ _ g1 (ad9 _ _ _ _ hpr g3))
     refine ⟨cells',?_,k2⟩
     simp only[Ah,Instr.fill,hp]
     rw[if_neg (by simp;omega)]
     exact k1
    ·cases h
   ·cases h
theorem bpm:∀(ps:List (Nat×Operand)) (l z z':List Int),bdl ps l z=some z'→z'.length=z.length
 | [],[],z,z',h=>by simp only[bdl] at h;cases h;rfl
 | [],_::_,z,z',h=>by simp[bdl] at h
 | _::_,[],z,z',h=>by simp[bdl] at h
 | (i,x)::ps,v::l,z,z',h=>by
  simp only[bdl] at h
  cases hb:Ar i z.length with
  | false=>rw[hb] at h;cases h
  | true =>
   rw[hb] at h
   rw[bpm ps l _ z' h,List.length_set]
theorem bo8{k:IntKind}{ev:Operand→Value}:∀(ps:List (Nat×Operand)) (l z z':List Int) (cells:Array Value),bdl ps l z=some z'→ps.map (fun p=>ev p.2)=l.map (Value.int k)→cells.toList=z.map (Value.int k) →
    ∃cells',Instr.fill (fun i=>some (i*1,1)) cells (ps.map fun p=>(p.1,ev p.2))=some cells'∧cells'.toList=z'.map (Value.int k)
 | [],[],z,z',cells,h,he,hc=>by simp only[bdl] at h;cases h;exact ⟨cells,rfl,hc⟩
 | [],_::_,z,z',cells,h,he,hc=>by simp[bdl] at h
 | _::_,[],z,z',cells,h,he,hc=>by simp[bdl] at h
 | (i,x)::ps,v::l,z,z',cells,h,he,hc=>by
  simp only[bdl] at h
  simp only[Ah,List.cons.injEq] at he
  cases hb:Ar i z.length with
  | false=>rw[hb] at h;cases h
  | true =>
   rw[hb] at h
   have hlt:i<z.length:=by simpa using hb
   have hsz:cells.size=z.length:=by
    have:cells.toList.length=(z.map (Value.int k)).length:=by rw[hc]
    simpa using this
   obtain ⟨cells',h1,h2⟩:=bo8 ps l (z.set i v) z' (cells.setIfInBounds i (.int k v)) h he.2 (by rw[Ay,hc,List.map_set])
   refine ⟨cells',?_,h2⟩
   simp only[Ah,Instr.fill,he.1]
   rw[if_neg (by simp[Value.cells];omega)]
   simpa [Value.cells] using h1
theorem bu1{t:TypeId}{ps:Array (Nat×Operand)}{vs:List AVal}(h:bvj D t ps vs n K=some r):adi D ⟨dst,.build t ps,type,pos,after,guard⟩ vs hl n K r:=by
 unfold bvj at h
 have hop:arv (.build t ps)=ps.toList.map (·.2):=rfl
 split at h
 ·rename_i fs ht
  split at h
  ·rename_i l hz
   cases hall:fs.toList.all (fun f=>(oo D.P f.type).isSome) with
   | false=>rw[hall] at h;cases h
   | true =>
   rw[hall] at h
   simp only[Bool.not_true,cond_false] at h
   split at h
   ·rename_i l' hf
    refine ⟨_,h,Ab _,fun B0 w0 st hv hm hn=>?_⟩
    subst hn
    refine ko fun E act w hR=>?_
    obtain ⟨i,z,hi,hzz,hzr⟩:=ado E w D.P hz
    obtain ⟨cells',hfill,hr⟩:=blw hR ps.toList l l' vs z.cells hf hv hzr
    refine ⟨.agg cells',?_,by have:=agj (be3 (P:=D.P) (t:=t) E w hr);simpa using this⟩
    have hmap:∀(gs:List Field),(gs.all fun f=>(oo D.P f.type).isSome)=true→∀(w:World),(gs.mapM (fun f=>do pure (f.offset,←sizeOf f.type):Field→Sem (Nat×Nat))).run D.P w=.ok (gs.map fun f=>(f.offset,(oo D.P f.type).getD 0)) w:=by
     intro gs
     induction gs with
     | nil=>intro _ w;rfl
     | cons f gs ih =>
      intro ha w
      simp only[List.all_cons,Ad] at ha
      obtain ⟨s,hs⟩:=Al.1 ha.1
      obtain ⟨ii,hii,his⟩:=ah2 hs
      simp only[List.mapM_cons,Sem.run_bind,run_sizeOf hs,Result.andThen_ok,Sem.run_pure,ih ha.2 w,Ah,hs,his,Option.getD_some]
    have hpl:(fun i=>(fs.toList.map fun f=>(f.offset,(oo D.P f.type).getD 0)).toArray[i]?)=bq3 D.P fs:=by
     funext q
     simp only[bq3,List.getElem?_toArray,Az,Array.getElem?_toList]
     cases hq:fs[q]? with
     | none=>rfl
     | some f =>
      have hmem:f∈fs.toList:=by rw[Array.mem_toList_iff];exact Array.mem_of_getElem? hq
      obtain ⟨s,hs⟩:=Al.1 (List.all_eq_true.1 hall f hmem)
      simp[hs]
    have hps:(ps.map fun (p:Nat×Operand)=>(p.1,act.eval p.2)).toList=ps.toList.map fun p=>(p.1,act.eval p.2):=by simp
    simp only[execOp,Instr.build,zeroValue,typeInfo,Sem.run_bind,run_program,hi,hzz,Result.andThen_ok,Sem.run_pure,run_underlying ht]
    rw[Array.mapM_eq_mapM_toList]
    simp only[Sem.run_map,hmap _ hall,Result.andThen_ok,hpl,hps,hfill]
    rfl
   ·cases h
  ·cases h
 ·rename_i m e ht
  split at h
  ·rename_i k he
   split at h
   ·rename_i l hints
    cases hq:af4 0 ps.toList&&Ac ps.size m&&Ac vs.length m&&byj D.P t m&&b2n D.P e with
    | false =>
     rw[hq] at h
     simp only[cond_false] at h
     split at h
     ·rename_i l0 sz hps hz hsz
      refine ⟨_,h,Ab _,fun B0 w0 st hv hm hn=>?_⟩
      subst hn
      refine ko fun E act w hR=>?_
      obtain ⟨i,z,hi,hzz,hzr⟩:=ado E w D.P hz
      obtain ⟨ie,hie,hies⟩:=ah2 hsz
      have hps':(ps.map fun (p:Nat×Operand)=>(p.1,act.eval p.2)).toList=[]:=by simp[hps]
      refine ⟨.agg z.cells,?_,by have:=agj hzr;simpa using this⟩
      simp only[execOp,Instr.build,zeroValue,typeInfo,Sem.run_bind,run_program,hi,hzz,Result.andThen_ok,Sem.run_pure,run_underlying ht,run_sizeOf hsz,hies,hps',Instr.fill]
     ·rename_i p0 r0 k' m' z0 hps hz hsz
      cases hkm:aw1 k k'&&Ac m' m with
      | false=>rw[hkm] at h;cases h
      | true =>
       rw[hkm] at h
       simp only[cond_true] at h
       simp only[Ad] at hkm
       have hk:=agf hkm.1
       have hm':=Aa hkm.2
       subst hk hm'
       split at h
       ·rename_i z1 hset
        refine ⟨_,h,Ab _,fun B0 w0 st hv hm hn=>?_⟩
        subst hn
        refine ko fun E act w hR=>?_
        obtain ⟨i,z,hi,hzz,hzr⟩:=ado E w D.P hz
        obtain ⟨ie,hie,hies⟩:=ah2 hsz
        have hzs:=ai3 _ _ hzr
        have hvv:=hR.evs (ps.toList.map (·.2))
        rw[show evs st.f (ps.toList.map (·.2))=vs from hv] at hvv
        obtain ⟨g1,g2⟩:=apn vs l _ hints hvv
        obtain ⟨cs',hl0,hcs,hnil⟩:=ab1 hzr
        simp only[qw] at hnil
        subst hnil
        rw[Ai] at hcs
        rw[←hps] at hset
        obtain ⟨cells',hfill,hcells⟩:=bo8 (k:=k) (ev:=act.eval) ps.toList l z0 z1 z.cells hset (by rw[←g1,List.map_map];rfl) hcs
        have hpm:(ps.map fun (p:Nat×Operand)=>(p.1,act.eval p.2)).toList=ps.toList.map fun p=>(p.1,act.eval p.2):=by simp
        refine ⟨.agg cells',?_,by simp only[ig];exact ⟨by rw[bpm _ _ _ _ hset,hl0],by rw[←hcells]⟩⟩
        simp only[execOp,Instr.build,zeroValue,typeInfo,Sem.run_bind,run_program,hi,hzz,Result.andThen_ok,Sem.run_pure,run_underlying ht,run_sizeOf hsz,hies,hpm,hfill]
       ·cases h
     ·cases h
    | true =>
     rw[hq] at h
     simp only[cond_true] at h
     simp only[Ad] at hq
     obtain ⟨⟨⟨⟨h1,h2⟩,h3⟩,h4⟩,h5⟩:=hq
     have h2:=Aa h2
     have h3:=Aa h3
     obtain ⟨k',n',l',hz,hn'⟩:∃k' n' l',agy D.P t=some [.arr k' n' l']∧n'=m:=by
      unfold byj at h4
      split at h4
      ·rename_i h;exact ⟨_,_,_,h,Aa h4⟩
      ·cases h4
     subst hn'
     obtain ⟨ie,hie,hies⟩:=ah2 (ayp h5)
     refine ⟨_,h,Ab _,fun B0 w0 st hv hm hn=>?_⟩
     subst hn
     refine ko fun E act w hR=>?_
     obtain ⟨i,z,hi,hzz,hzr⟩:=ado E w D.P hz
     have hzs:=ai3 _ _ hzr
     simp[bax] at hzs
     have hvv:=hR.evs (ps.toList.map (·.2))
     rw[show evs st.f (ps.toList.map (·.2))=vs from hv] at hvv
     obtain ⟨g1,g2⟩:=apn vs l _ hints hvv
     have hpsl:ps.toList.length=n':=by simpa using h2
     have hone:∀p∈ps.toList,(act.eval p.2).oneCell'=true:=by
      intro p hp
      have hmem:act.eval p.2∈(ps.toList.map (·.2)).map act.eval:=List.mem_map_of_mem (List.mem_map_of_mem hp)
      rw[g1] at hmem
      obtain ⟨q,_,hq⟩:=Ba.1 hmem
      rw[←hq];rfl
     have hf:=asq (pl:=fun i=>some (i*1,1)) (fun i=>by rw[Bd]) ps.toList act.eval 0 z.cells h1 (by rw[hpsl,hzs];omega) hone
     have hps:(ps.map fun (p:Nat×Operand)=>(p.1,act.eval p.2)).toList=ps.toList.map fun p=>(p.1,act.eval p.2):=by simp
     refine ⟨.agg (l.map (Value.int k)).toArray,?_,by simp only[ig];exact ⟨by rw[g2,h3],trivial⟩⟩
     have hcell:(z.cells.toList.take 0++ps.toList.map (fun p=>act.eval p.2)++z.cells.toList.drop (0+ps.toList.length)).toArray=(l.map (Value.int k)).toArray:=by
      rw[←g1,Ap (by rw[hpsl];simp[hzs])]
      simp
     rw[hcell] at hf
     simp only[execOp,Instr.build,zeroValue,typeInfo,Sem.run_bind,run_program,hi,hzz,Result.andThen_ok,Sem.run_pure,run_underlying ht,run_sizeOf (ayp h5),hies,hps,hf]
   ·cases h
  ·split at h
   ·rename_i l sz hz hsz
    split at h
    ·rename_i l' hf
     refine ⟨_,h,Ab _,fun B0 w0 st hv hm hn=>?_⟩
     subst hn
     refine ko fun E act w hR=>?_
     obtain ⟨i,z,hi,hzz,hzr⟩:=ado E w D.P hz
     obtain ⟨cells',hfill,hr⟩:=blw hR ps.toList l l' vs z.cells hf hv hzr
     refine ⟨.agg cells',?_,by have:=agj hr;simpa using this⟩
     obtain ⟨ie,hie,hies⟩:=ah2 hsz
     have hps:(ps.map fun (p:Nat×Operand)=>(p.1,act.eval p.2)).toList=ps.toList.map fun p=>(p.1,act.eval p.2):=by simp
     simp only[execOp,Instr.build,zeroValue,typeInfo,Sem.run_bind,run_program,hi,hzz,Result.andThen_ok,Sem.run_pure,run_underlying ht,run_sizeOf hsz,hies,hps,hfill]
    ·cases h
   ·cases h
 ·cases h
end
end Go.Abs
end

section
/- Slices of structs, built. -/
namespace Go.Abs
open Go Go.RowKit
theorem bxw{sz:Nat}:∀(ps:List (Nat×Operand)) (ρ:Operand→Value) (i:Nat) (cells:Array Value),af4 i ps=true→(i+ps.length)*sz≤cells.size→(∀p∈ps,(ρ p.2).cells.size=sz) →
    ∃out,Instr.fill (fun i=>some (i*sz,sz)) cells (ps.map fun p=>(p.1,ρ p.2))=some out∧out.toList=cells.toList.take (i*sz)++(ps.map fun p=>(ρ p.2).cells.toList).flatten++cells.toList.drop ((i+ps.length)*sz)
 | [],ρ,i,cells,_,_,_=>⟨cells,by simp[Instr.fill],by simp⟩
 | (j,x)::r,ρ,i,cells,h,hlen,h1=>by
  simp only[af4,Ad] at h
  have hj:=Aa h.1
  subst hj
  have hx:(ρ x).cells.size=sz:=h1 (i,x) (by simp)
  have hxl:(ρ x).cells.toList.length=sz:=by simpa using hx
  simp only[Aq] at hlen
  have hle:(i+1)*sz≤(i+(r.length+1))*sz:=Nat.mul_le_mul (by omega) (Ab _)
  rw[Nat.add_mul,Nat.one_mul] at hle
  have hfold:=foldl_set (ρ x).cells.toList 0 (i*sz) cells (by rw[hxl];omega)
  have hz:((ρ x).cells.zipIdx.foldl (fun (cs:Array Value) (p:Value×Nat)=>cs.setIfInBounds (i*sz+p.2) p.1) cells).toList=cells.toList.take (i*sz)++(ρ x).cells.toList++cells.toList.drop (i*sz+sz):=by
   rw[←Array.foldl_toList,Bf,hfold]
   simp only[Nat.add_zero,hxl]
  generalize hc2:(ρ x).cells.zipIdx.foldl (fun (cs:Array Value) (p:Value×Nat)=>cs.setIfInBounds (i*sz+p.2) p.1) cells=cells2 at hz
  have hcl:cells.toList.length=cells.size:=by simp
  have hsz:cells2.size=cells.size:=by
   have:cells2.toList.length=cells.size:=by rw[hz];simp only[Aj,List.length_take,List.length_drop,hxl,hcl];omega
   simpa using this
  obtain ⟨out,o1,o2⟩:=bxw r ρ (i+1) cells2 h.2 (by rw[hsz,show i+1+r.length=i+(r.length+1) by omega];exact hlen) (fun p hp=>h1 p (by simp[hp]))
  refine ⟨out,?_,?_⟩
  ·simp only[Ah,Instr.fill]
   rw[if_neg (by rw[hx];simp;omega),hc2]
   exact o1
  ·have ht:(cells.toList.take (i*sz)).length=i*sz:=by simp;omega
   rw[o2,hz,show i+1+r.length=i+(r.length+1) by omega]
   simp only[Ah,List.flatten_cons,Aq]
   have e1:(cells.toList.take (i*sz)++(ρ x).cells.toList++cells.toList.drop (i*sz+sz)).take ((i+1)*sz)=cells.toList.take (i*sz)++(ρ x).cells.toList:=by
    rw[List.take_left' (by rw[Aj,ht,hxl,Nat.add_mul,Nat.one_mul])]
   have e2:(cells.toList.take (i*sz)++(ρ x).cells.toList++cells.toList.drop (i*sz+sz)).drop ((i+(r.length+1))*sz)=cells.toList.drop ((i+(r.length+1))*sz):=by
    rw[List.drop_append,Ap (by rw[Aj,ht,hxl];omega),Bc,Aj,ht,hxl,List.drop_drop]
    congr 1
    omega
   rw[e1,e2]
   simp only[Am]
theorem flat_get{sz:Nat}(hs:0<sz):∀(ls:List (List Value)),(∀l,l∈ls→l.length=sz)→ls.flatten.length=ls.length*sz∧∀j x,ls.flatten[j]?=some x→∃l,ls[j/sz]?=some l∧l[j%sz]?=some x
 | [],_=>⟨by simp,fun j x h=>by simp at h⟩
 | l::ls,h=>by
  obtain ⟨h1,h2⟩:=flat_get hs ls (fun l hl=>h l (by simp[hl]))
  have hl:=h l (by simp)
  refine ⟨by simp[h1,hl,Nat.add_mul,Nat.add_comm],fun j x hx=>?_⟩
  rw[List.flatten_cons] at hx
  by_cases hj:j<sz
  ·rw[A8 (by omega)] at hx
   exact ⟨l,by rw[Nat.div_eq_of_lt hj];rfl,by rw[Nat.mod_eq_of_lt hj];exact hx⟩
  ·rw[Aw (by omega),hl] at hx
   obtain ⟨l',g1,g2⟩:=h2 _ _ hx
   have e1:j/sz=(j-sz)/sz+1:=by rw[←Nat.add_div_right _ hs];congr 1;omega
   have e2:j%sz=(j-sz)%sz:=by rw[←Nat.add_mod_right (j-sz) sz];congr 1;omega
   exact ⟨l',by rw[e1];exact g1,by rw[e2];exact g2⟩
theorem bte{E:Env}{w:World}:∀(p:List AVal) (cs:List Value),bun p=true→qw E w p cs→cs.length=p.length∧∀j x,cs[j]?=some x→x.oneCell'=true∧ig E w (bid p j) x
 | [],cs,_,h=>by simp only[qw] at h;subst h;exact ⟨rfl,fun j x hx=>by simp at hx⟩
 | a::r,cs,hn,h=>by
  have ha:∀k n l,a≠.arr k n l:=by rintro k n l rfl;simp[bun] at hn
  have hr:bun r=true:=by
   cases a<;>first | exact hn | (exact absurd rfl (ha _ _ _))
  have h':∃u cs',cs=u::cs'∧u.oneCell'=true∧ig E w a u∧qw E w r cs':=by
   cases a<;>first | (exact absurd rfl (ha _ _ _)) | (simpa only[qw] using h)
  obtain ⟨u,cs',rfl,h1,h2,h3⟩:=h'
  obtain ⟨g1,g2⟩:=bte r cs' hr h3
  refine ⟨by simp[g1],fun j x hx=>?_⟩
  cases j with
  | zero=>simp at hx;subst hx;exact ⟨h1,h2⟩
  | succ j=>simp at hx;exact g2 j x hx
theorem bup{P:Program}{hl:Nat→Option Blk}{e:TypeId}{vs:List AVal}{c:Cont}(h:bbo P hl e vs=some c):∀S w j x,cellC S w c j x→cell1 S w c j x:=by
 unfold bbo at h
 intro S w j x hx
 repeat' split at h
 all_goals first | (cases h;done) | (cases h;exact hx)
theorem bgs{P:Program}{hl:Nat→Option Blk}{rows:List (List AVal)}:∀(ts:List Field) (j:Nat) (cs:List Cont),bj6 P hl rows j ts=some cs→cs.length=ts.length∧∀k c,cs[k]?=some c→∃t,bbo P hl t (bmu (j+k) rows)=some c
 | [],j,cs,h=>by simp only[bj6] at h;cases h;exact ⟨rfl,fun k c hc=>by simp at hc⟩
 | t::ts,j,cs,h=>by
  simp only[bj6] at h
  split at h
  ·rename_i c hc
   split at h
   ·rename_i cs' hcs
    cases h
    obtain ⟨h1,h2⟩:=bgs ts (j+1) cs' hcs
    refine ⟨by simp[h1],fun k c0 hk=>?_⟩
    cases k with
    | zero=>simp at hk;subst hk;exact ⟨_,hc⟩
    | succ k =>
     simp at hk
     obtain ⟨t',ht⟩:=h2 k c0 hk
     exact ⟨t',by rw[show j+(k+1)=j+1+k by omega];exact ht⟩
   ·cases h
  ·cases h
theorem bkc:∀(p:List AVal) (j id:Nat),id∈xg (bid p j)→id∈ru p
 | [],j,id,h=>by simp[bid,xg] at h
 | a::r,0,id,h=>by simp only[bid] at h;simp only[ru];exact mg.2 (.inl h)
 | a::r,j+1,id,h=>by simp only[bid] at h;simp only[ru];exact mg.2 (.inr (bkc r j id h))
theorem bql{v:AVal}{p:List AVal}(h:partsOf v=some p):∀id,id∈ru p→id∈xg v:=by
 intro id hid
 cases v with
 | agg l=>simp only[partsOf] at h;cases h;simpa only[xg] using hid
 | v x=>cases x<;>simp only[partsOf] at h<;>cases h<;>simp[ru,xg,tq] at hid
 | bot=>simp[partsOf] at h
 | tuple=>simp[partsOf] at h
 | fr=>simp[partsOf] at h
 | _=>simp only[partsOf] at h;cases h;simp only[ru] at hid;rcases mg.1 hid with h | h<;>first | exact h | cases h
section
variable {D:Ctx} {B0:Nat} {w0:W0} {E:Env} {st:ASt} {act:Act} {w:World}
theorem ayj(hR:Rel D B0 w0 E st act w){sz:Nat}:∀(vs:List AVal) (rows:List (List AVal)) (us:List Value),aui sz vs=some rows→mq E w vs us →
    (∀u,u∈us→u.cells.size=sz)∧(∀j id,id∈ru (bmu j rows)→id∈ru vs) ∧
    ∀j,j<sz→∃xs,mq E w (bmu j rows) xs∧xs.length=us.length∧∀(i:Nat) u,us[i]?=some u→∀x,u.cells.toList[j]?=some x→x.oneCell'=true∧xs[i]?=some x
 | [],rows,us,h,hr=>by
  simp only[aui] at h
  cases h
  simp only[mq] at hr
  subst hr
  exact ⟨fun u hu=>(by cases hu),fun j id hid=>(by simp[bmu,ru] at hid),fun j hj=>⟨[],by simp only[bmu,mq],rfl,fun i u hu=>by simp at hu⟩⟩
 | v::vs,rows,us,h,hr=>by
  simp only[aui] at h
  split at h
  ·rename_i p hp
   cases hq:Ac p.length sz&&bun p with
   | false=>rw[hq] at h;cases h
   | true =>
    rw[hq] at h
    simp only[cond_true] at h
    simp only[Ad] at hq
    have hpl:=Aa hq.1
    split at h
    ·rename_i rows' hrows
     cases h
     simp only[mq] at hr
     obtain ⟨u,us',rfl,hu,hus⟩:=hr
     obtain ⟨i1,i2,i3⟩:=ayj hR vs rows' us' hrows hus
     have hF:=aze hR hp hu
     obtain ⟨f1,f2⟩:=bte p _ hq.2 hF
     have hsz:u.cells.size=sz:=by rw[←hpl,←f1];simp
     refine ⟨fun u' hu'=>?_,fun j id hid=>?_,fun j hj=>?_⟩
     ·rcases List.mem_cons.1 hu' with rfl | h
      ·exact hsz
      ·exact i1 _ h
     ·simp only[bmu,ru] at hid ⊢
      rcases mg.1 hid with h | h
      ·exact mg.2 (.inl (bql hp id (bkc _ _ _ h)))
      ·exact mg.2 (.inr (i2 j id h))
     ·obtain ⟨xs,x1,x2,x3⟩:=i3 j hj
      have hlt:j<u.cells.toList.length:=by rw[f1];omega
      obtain ⟨g1,g2⟩:=f2 j _ (Ag hlt)
      refine ⟨u.cells.toList[j]::xs,?_,by simp[x2],fun i u' hu' x hx=>?_⟩
      ·simp only[bmu,mq]
       exact ⟨_,_,rfl,g2,x1⟩
      ·cases i with
       | zero =>
        simp at hu'
        subst hu'
        rw[Ag hlt] at hx
        cases hx
        exact ⟨g1,rfl⟩
       | succ i=>simp at hu';simpa using x3 i u' hu' x hx
    ·cases h
  ·cases h
end
theorem bre{P:Program}{w:World}{t e:TypeId}{i:TypeInfo}{z:Value}(ht:P.underlying t=some (.slice e))(hi:P.info? e=some i)(hz:i.zero=some z)(ps:Array (Nat×Operand))(ρ:Operand→Value)(ho:af4 0 ps.toList=true)
    (hn:ps.size*i.size≤16777216) (h1:∀p∈ps.toList,(ρ p.2).cells.size=i.size) :
    ∃out,(Instr.buildSlice t ps.size (ps.map fun (i,x)=>(i,ρ x))).run P w=.ok (.slice (some ⟨w.heap.size,0,none⟩) ps.size ps.size) (w.alloc (.cells out e))∧out.toList=(ps.toList.map fun p=>(ρ p.2).cells.toList).flatten:=by
 have hsz:(sizeOf e).run P w=.ok i.size w:=by simp[sizeOf,typeInfo,hi]
 have hfill:∀cells:Array Value,cells.size=ps.size*i.size→∃out,Instr.fill (fun j=>some (j*i.size,i.size)) cells (ps.map fun (i,x)=>(i,ρ x)).toList=some out∧out.toList=(ps.toList.map fun p=>(ρ p.2).cells.toList).flatten:=by
  intro cells hc
  obtain ⟨out,o1,o2⟩:=bxw ps.toList ρ 0 cells ho (by rw[hc];simp) h1
  refine ⟨out,?_,?_⟩
  ·rw[Array.toList_map]
   exact o1
  ·rw[o2,Nat.zero_mul,List.take_zero,Bc,Ap (by simp[hc]),Ai]
 have hlim:¬(ps.size*i.size>2^24):=by omega
 by_cases h0:ps.size*i.size=0
 ·obtain ⟨out,o1,o2⟩:=hfill ((Array.range (ps.size*i.size)).map ((#[]:Array Value)[·%(#[]:Array Value).size]!)) (by simp)
  refine ⟨out,?_,o2⟩
  simp only[Instr.buildSlice,Sem.run_bind,run_underlying ht,Result.andThen_ok,hsz]
  rw[if_neg hlim]
  simp only[Sem.run_bind,Sem.run_pure,Result.andThen_ok,if_pos h0]
  rw[o1]
  simp[newRow]
 ·obtain ⟨out,o1,o2⟩:=hfill ((Array.range (ps.size*i.size)).map (z.cells[·%z.cells.size]!)) (by simp)
  refine ⟨out,?_,o2⟩
  simp only[Instr.buildSlice,Sem.run_bind,run_underlying ht,Result.andThen_ok,hsz]
  rw[if_neg hlim]
  simp only[Sem.run_bind,Sem.run_pure,Result.andThen_ok,if_neg h0,zeroValue,typeInfo,run_program,hi,hz]
  rw[o1]
  simp[newRow]
section
variable {D:Ctx} {B0:Nat} {w0:W0} {st:ASt} {dst:Option Tmp} {type:TypeId} {pos:String} {after:Array Edge} {guard:Option (Nat×Bool)}
theorem bud{t e:TypeId}{i:TypeInfo}(ht:D.P.underlying t=some (.slice e))(hi:D.P.info? e=some i)(hzs:i.zero.isSome=true)(hs0:0<i.size)(ps:Array (Nat×Operand))(ho:af4 0 ps.toList=true)(hn:ps.size*i.size≤16777216){hl:Nat→Option Blk}
    (hm:∀id b,hl id=some b→iw st.h id=some b) {rows:List (List AVal)} (hrows:aui i.size (evs st.f (ps.toList.map (·.2)))=some rows) {fs:List Field} (hfs:fs.length=i.size) {cs:List Cont} (hc:bj6 D.P hl rows 0 fs=some cs) :
    agk D B0 w0 st ⟨dst,.buildSlice t ps.size ps,type,pos,after,guard⟩ ⟨.own st.n,(st.n,some ⟨.row e (.cols ps.size cs),false⟩)::freeze hl (ru (evs st.f (ps.toList.map (·.2)))) [],st.n+1⟩:=by
 intro E act w hR hnew next Q hnext
 have hrv:=hR.evs (ps.toList.map (·.2))
 obtain ⟨E1,hρ1,up1,hR1,hS1,hsame⟩:=acp hm (ru (evs st.f (ps.toList.map (·.2)))) hR
 have hul:((ps.toList.map (·.2)).map act.eval)=ps.toList.map fun p=>act.eval p.2:=by simp
 rw[hul] at hrv
 obtain ⟨p1,p2,p3⟩:=ayj hR _ _ _ hrows hrv
 obtain ⟨q1,q2⟩:=bgs fs 0 cs hc
 obtain ⟨z,hz⟩:=Al.1 hzs
 obtain ⟨out,hrun,hout⟩:=bre (P:=D.P) (w:=w) ht hi hz ps act.eval ho hn (fun p hp=>p1 _ (Ba.2 ⟨p,hp,rfl⟩))
 obtain ⟨l1,l2⟩:=flat_get hs0 (ps.toList.map fun p=>(act.eval p.2).cells.toList) (fun l hl=>by
  obtain ⟨p,hp,rfl⟩:=Ba.1 hl
  have:=p1 _ (Ba.2 ⟨p,hp,rfl⟩)
  simpa using this)
 have hcl:cs.length=i.size:=by rw[q1,hfs]
 have hcell:∀j x,out.toList[j]?=some x→x.oneCell'=true∧cellC E1.S w (.cols ps.size cs) j x:=by
  intro j x hx
  rw[hout] at hx
  obtain ⟨l,g1,g2⟩:=l2 j x hx
  rw[Az] at g1
  cases hp:ps.toList[j/i.size]? with
  | none=>rw[hp] at g1;cases g1
  | some p =>
   rw[hp] at g1
   simp only[Option.map_some,Option.some.injEq] at g1
   subst g1
   have hlt:j%i.size<i.size:=Nat.mod_lt _ hs0
   obtain ⟨xs,x1,x2,x3⟩:=p3 (j%i.size) hlt
   obtain ⟨y1,y2⟩:=x3 (j/i.size) (act.eval p.2) (by rw[Az,hp];rfl) x g2
   have hcs:j%i.size<cs.length:=by omega
   obtain ⟨t',ht'⟩:=q2 (j%i.size) _ (Ag hcs)
   rw[Bg] at ht'
   obtain ⟨c1,c2,c3⟩:=bhu hR hm (S':=E1.S) up1.keeps.sub ht' x1 (fun id hid b v k hb hv hk=>hS1 id (p2 _ id hid) b v k hb hv hk)
   refine ⟨y1,_,by rw[hcl];exact Ag hcs,?_⟩
   rw[hcl]
   exact bup ht' _ _ _ _ (c3 _ x y2).2
 have hx:E1.ρ st.n=none:=by rw[hρ1];exact hnew st.n (Ab _) (by simp)
 have kp:Keeps E1.S E1.S w (w.alloc (.cells out e)):=⟨fun _ h=>h,fun b hb=>heap_alloc_old w _ b (hR1.sOld b hb)⟩
 have hol:out.toList.length=ps.size*i.size:=by rw[hout,l1];simp
 obtain ⟨hR',up⟩:=ayl hR1 hx out e (u:=.slice (some ⟨w.heap.size,0,none⟩) ps.size ps.size) (b:=.row e (.cols ps.size cs)) rfl
  ⟨_,upd_same _ _ _,⟨out.toList,⟨by rw[hol];simp only[Cont.len,Cont.size,hcl],.inr ⟨w.heap.size,ps.size,_,rfl,hR1.base,heap_alloc_new w _,Ab _,by
   have:=Bb ps.size hs0
   simp only[maxLen];omega,by simp only[Cont.size,hcl];simpa using hol,by
   simp only[Cont.len,Cont.size,hcl];exact Ao (by rw[hol];exact Ab _)⟩⟩,fun j x hj=>⟨(hcell j x hj).1,cellC.mono kp (hcell j x hj).2⟩⟩,fun _ k hk hs=>by
   simp[jk] at hk
   subst hk
   exact absurd (hR1.sOld _ hs) (Nat.lt_irrefl _),fun hf=>by cases hf⟩ (st.n+1)
 unfold Oper.wp
 have hexec:(execOp act.eval ⟨dst,.buildSlice t ps.size ps,type,pos,after,guard⟩).run D.P w=.ok (.value (.slice (some ⟨w.heap.size,0,none⟩) ps.size ps.size)) (w.alloc (.cells out e)):=by
  simp only[execOp,Sem.run_bind,hrun,Result.andThen_ok,Sem.run_pure]
 rw[hexec,Oper.upon_value]
 refine hnext _ _ _ (up1.trans up) (fun id x hx'=>?_) (Rel.put hR' (a:=.own st.n) (by simp only[ig];exact upd_same _ _ _) dst)
 by_cases hid:id=st.n
 ·exact .inr ⟨by omega,by simp only;omega⟩
 ·simp only[upd,if_neg hid,hρ1] at hx';exact .inl hx'
end
section
variable {D:Ctx} {dst:Option Tmp} {type:TypeId} {pos:String} {after:Array Edge} {guard:Option (Nat×Bool)} {hl:Nat→Option Blk} {n:Nat} {K:Eff→Option R} {r:R}
theorem bdh{t:TypeId}{len:Nat}{ps:Array (Nat×Operand)}{vs:List AVal}(h:ax2 D t len ps vs hl n K=some r):adi D ⟨dst,.buildSlice t len ps,type,pos,after,guard⟩ vs hl n K r:=by
 unfold ax2 at h
 cases hs:b6p D.P t with
 | false=>rw[hs] at h;exact bhz h
 | true =>
  rw[hs] at h
  simp only[cond_true] at h
  unfold bso at h
  split at h
  ·rename_i e ht
   split at h
   ·rename_i i fs hi hfs
    cases hq:af4 0 ps.toList&&Ac len ps.size&&Nat.ble (len*i.size) 16777216&&Ac fs.size i.size&&Ar 0 i.size&&i.zero.isSome with
    | false=>rw[hq] at h;cases h
    | true =>
     rw[hq] at h
     simp only[cond_true] at h
     simp only[Ad] at hq
     have h2:=Aa hq.1.1.1.1.2
     subst h2
     split at h
     ·rename_i rows hrows
      split at h
      ·rename_i cs hcs
       refine ⟨_,h,by simp,fun B0 w0 st hv hm hn=>?_⟩
       simp only[arv] at hv
       subst hn
       subst hv
       exact bud ht hi hq.2 (Ae hq.1.2) ps hq.1.1.1.1.1 (Ae hq.1.1.1.2) hm hrows (by have:=Aa hq.1.1.2;simpa using this) hcs
      ·cases h
     ·cases h
   ·cases h
  ·cases h
end
end Go.Abs
end

section
namespace Go.Abs
open Go Go.RowKit
def qg(D:Ctx):Prop:=∀g l,assoc D.globs g=some l→∀(E E':Env) (w:World) (cs:List Value),qw E w l cs→E.S=E'.S→qw E' w l cs
section
variable {D:Ctx} {B0:Nat} {w0:W0} {dst:Option Tmp} {type:TypeId} {pos:String} {after:Array Edge} {guard:Option (Nat×Bool)} {hl:Nat→Option Blk} {n:Nat} {K:Eff→Option R} {r:R}
theorem amh{f:List (Nat×AVal)}{x:Operand}{xs:List Operand}{X:AVal}{Xs:List AVal}(h:evs f (x::xs)=X::Xs):ev f x=X∧evs f xs=Xs:=by
 simp only[evs] at h
 cases h
 exact ⟨rfl,rfl⟩
theorem btr(f:List (Nat×AVal)):∀(a b:List Operand),evs f (tq a b)=evs f a++evs f b
 | [],_=>rfl
 | x::a,b=>by simp[tq,evs,btr f a b]
theorem brq(f:List (Nat×AVal)):∀(a:List Operand),(evs f a).length=a.length
 | []=>rfl
 | x::a=>by simp[evs,brq f a]
theorem bqx{o:Option Operand}{l l':List AVal}{v:Option Int}(h:b6x o l=some (v,l')){f:List (Nat×AVal)}{xs:List Operand}(hl:evs f (tq o.toList xs)=l) :
    evs f xs=l'∧((o=none∧v=none)∨∃x k i,o=some x∧v=some i∧ev f x=.v (.int k i)):=by
 unfold b6x at h
 split at h
 ·cases h
  exact ⟨hl,.inl ⟨rfl,rfl⟩⟩
 ·cases h
  simp only[Option.toList,tq] at hl
  obtain ⟨h1,h2⟩:=amh hl
  exact ⟨h2,.inr ⟨_,_,_,rfl,rfl,h1⟩⟩
 ·cases h
def blg(f:List (Nat×AVal))(o:Option Operand)(v:Option Int):Prop:=(o=none∧v=none)∨∃x k i,o=some x∧v=some i∧ev f x=.v (.int k i)
theorem bpt{st:ASt}{t e:TypeId}(ht:D.P.underlying t=some (.slice e))(hs:oo D.P e=some 1)(x:Operand)(lo hi mx:Option Operand){vl vh vm:Option Int}(hvl:abz D B0 w0 st lo vl)(hvh:abz D B0 w0 st hi vh)(hvm:abz D B0 w0 st mx vm){m:Int}(hmv:vm=some m)(hhi:vh≠none)
    (hm:∀id b,hl id=some b→iw st.h id=some b) {c c':Cont} (hx:anj hl (ev st.f x)=some c) (h0:0≤vl.getD 0) (h1:vl.getD 0≤vh.getD (c.len:Int)) (h2:vh.getD (c.len:Int)≤m) (h3:m≤(c.len:Int)) (hc:c.sub (vl.getD 0).toNat (vh.getD (c.len:Int)).toNat=some c') :
    agk D B0 w0 st ⟨dst,.slice t x lo hi mx,type,pos,after,guard⟩ ⟨.sl c',freeze hl (xg (ev st.f x)) [],st.n⟩:=by
 intro E act w hR hnew next Q hnext
 obtain ⟨E1,hρ1,up1,hR1,hS1,hsame⟩:=acp hm (xg (ev st.f x)) hR
 have hsl:=ayu hR hm up1.keeps.sub hx (hR.ev x) (fun id hid b v k hb hv hk=>hS1 id hid b v k hb hv hk)
 obtain ⟨A,cap,hu,hcap,_⟩:=(show _ from hsl)
 rcases hvm with ⟨rfl,rfl⟩ | ⟨xm,km,im,rfl,rfl,hxm⟩
 ·cases hmv
 ·cases hmv
  have hme:=hR.ev xm
  rw[hxm] at hme
  simp only[ig] at hme
  have hhn:hi.map act.eval≠none:=by
   rcases hvh with ⟨_,rfl⟩ | ⟨xh,_,_,rfl,_,_⟩
   ·exact absurd rfl hhi
   ·simp
  have hr:=ah6 (P:=D.P) (w:=w) ht hs A (mx:=some (.int km m)) (m:=m) (len:=c.len) (cap:=cap) (hvl.azr hR 0) (hvh.azr hR (c.len:Int)) (.inr ⟨km,rfl,hhn⟩) h0 h1 h2 (by omega)
  have hexec:(execOp act.eval ⟨dst,.slice t x lo hi (some xm),type,pos,after,guard⟩).run D.P w=.ok (.value (.slice (if m.toNat=(vl.getD 0).toNat then A else A.map (·.add ((vl.getD 0).toNat*1))) ((vh.getD (c.len:Int)).toNat-(vl.getD 0).toNat) (m.toNat-(vl.getD 0).toNat))) w:=by
   simp only[execOp,hu,Option.map_some,hme,Sem.run_bind,hr,Result.andThen_ok,Sem.run_pure]
  unfold Oper.wp
  rw[hexec,Oper.upon_value]
  rw[hu] at hsl
  refine hnext E1 w _ up1 (fun id y hy=>.inl (by rw[←hρ1];exact hy)) (Rel.put hR1 (a:=.sl c') ?_ dst)
  simp only[ig]
  exact bvr hc (by omega) (by omega) (by omega) (by omega) hsl
theorem buu{t:TypeId}{x:Operand}{lo hi mx:Option Operand}{X:AVal}{vl vh vm:Option Int}{vs:List AVal}(hvs:∀f,evs f (arv (.slice t x lo hi mx))=vs→ev f x=X∧blg f lo vl∧blg f hi vh∧blg f mx vm)
    (h:bls D t X vl vh vm hl n K=some r):adi D ⟨dst,.slice t x lo hi mx,type,pos,after,guard⟩ vs hl n K r:=by
 have bnone:∀{f o},blg f o none→o=none:=by
  rintro f o (⟨h,_⟩ | ⟨_,_,_,_,h,_⟩)
  ·exact h
  ·cases h
 unfold bls at h
 split at h
 ·rename_i e ht
  split at h
  ·rename_i sz len hs hlen
   split at h
   ·-- all
    refine ⟨_,h,Ab _,fun B0 w0 st hv hm hn=>?_⟩
    obtain ⟨hx,h1,h2,h3⟩:=hvs st.f hv
    subst hn
    have e1:=bnone h1
    have e2:=bnone h2
    have e3:=bnone h3
    subst e1
    subst e2
    subst e3
    rw[←hx]
    refine bon ht hs x (fun E act w hR=>?_)
    obtain ⟨A,cap,hu⟩:=bl5 hm hlen hR (hx ▸ hR.ev x)
    exact ⟨A,len,cap,hu⟩
   ·cases h
   ·rename_i hnn1 hnn2
    obtain ⟨g0,h5⟩:=ah7 h
    obtain ⟨g1,h6⟩:=ah7 h5
    obtain ⟨g2,h7⟩:=ah7 h6
    clear h h5 h6
    have h:=h7
    clear h7
    have g0:=of_decide_eq_true g0
    have g1:=of_decide_eq_true g1
    have g2:=of_decide_eq_true g2
    unfold b2d at h
    split at h
    ·-- no third index
     split at h
     ·rename_i c
      simp only[byw] at hlen
      cases hlen
      split at h
      ·rename_i c' hc
       cases hq:Ac sz 1 with
       | false=>rw[hq] at h;cases h
       | true =>
        rw[hq] at h
        refine ⟨_,h,Ab _,fun B0 w0 st hv hm hn=>?_⟩
        obtain ⟨hx,h1,h2,h3⟩:=hvs st.f hv
        subst hn
        have e3:=bnone h3
        subst e3
        exact bru ht hs x lo hi h1 h2 hx g0 g1 g2 hc (Aa hq)
      ·cases h
     ·rename_i id
      simp only[byw] at hlen
      split at hlen
      ·rename_i e' c f hb
       cases hlen
       cases hq:Ac sz 1 with
       | true =>
        rw[hq] at h
        refine ⟨_,h,Ab _,fun B0 w0 st hv hm hn=>?_⟩
        obtain ⟨hx,h1,h2,h3⟩:=hvs st.f hv
        subst hn
        have e3:=bnone h3
        subst e3
        exact bc9 ht hs x lo hi h1 h2 (hm _ _ hb) hx g0 g1 g2 (.inl (Aa hq))
       | false =>
        rw[hq] at h
        simp only[cond_false] at h
        split at h
        ·rename_i hl0
         refine ⟨_,h,Ab _,fun B0 w0 st hv hm hn=>?_⟩
         obtain ⟨hx,h1,h2,h3⟩:=hvs st.f hv
         subst hn
         have e3:=bnone h3
         subst e3
         have:=bc9 (D:=D) (B0:=B0) (w0:=w0) (st:=st) (dst:=dst) (type:=type) (pos:=pos) (after:=after) (guard:=guard) ht hs x lo hi h1 h2 (hm _ _ hb) hx g0 g1 g2 (.inr hl0)
         rw[hl0] at this
         simpa using this
        ·cases h
      ·cases hlen
     ·rename_i id off len'
      simp only[byw] at hlen
      cases hlen
      split at h
      ·rename_i hb
       cases hq:Ac sz 1 with
       | false=>rw[hq] at h;cases h
       | true =>
        rw[hq] at h
        have:=Aa hq
        subst this
        refine ⟨_,h,Ab _,fun B0 w0 st hv hm hn=>?_⟩
        obtain ⟨hx,h1,h2,h3⟩:=hvs st.f hv
        subst hn
        have e3:=bnone h3
        subst e3
        exact boi ht hs x lo hi h1 h2 (hm _ _ hb) hx g0 g1 g2
      ·cases h
     ·rename_i id off m wl len'
      simp only[byw] at hlen
      cases hlen
      cases hq:Ac sz 1 with
      | false=>rw[hq] at h;cases h
      | true =>
       rw[hq] at h
       have:=Aa hq
       subst this
       refine ⟨_,h,Ab _,fun B0 w0 st hv hm hn=>?_⟩
       obtain ⟨hx,h1,h2,h3⟩:=hvs st.f hv
       subst hn
       have e3:=bnone h3
       subst e3
       exact blh ht hs x lo hi h1 h2 hx g0 g1 g2
     ·simp only[byw] at hlen
      cases hlen
      refine ⟨_,h,Ab _,fun B0 w0 st hv hm hn=>?_⟩
      obtain ⟨hx,h1,h2,h3⟩:=hvs st.f hv
      subst hn
      have e3:=bnone h3
      subst e3
      refine ko fun E act w hR=>?_
      have hX:=hR.ev x
      rw[hx] at hX
      simp only[ig] at hX
      have b1:abz D B0 w0 st lo vl:=h1
      have b2:abz D B0 w0 st hi vh:=h2
      have hr:=ah6 (P:=D.P) (w:=w) ht hs none (mx:=none) (len:=0) (cap:=0) (m:=(0:Int)) (b1.azr hR 0) (b2.azr hR ((0:Nat):Int)) (.inl ⟨rfl,rfl⟩) g0 g1 g2 (Int.le_refl _)
      refine ⟨.slice none 0 0,?_,by simp only[ig]⟩
      simp only[execOp,hX,Option.map_none,Sem.run_bind,hr,Result.andThen_ok,Sem.run_pure]
      have e1:(vl.getD 0).toNat=0:=by omega
      have e2:(vh.getD ((0:Nat):Int)).toNat=0:=by omega
      rw[e1,e2]
      rfl
     ·cases h
    ·rename_i m
     cases hq:Ac sz 1 with
     | false=>rw[hq] at h;cases h
     | true =>
      rw[hq] at h
      simp only[cond_true] at h
      have:=Aa hq
      subst this
      obtain ⟨g3,h8⟩:=ah7 h
      obtain ⟨g4,h9⟩:=ah7 h8
      have g3:=of_decide_eq_true g3
      have g4:=of_decide_eq_true g4
      split at h9
      ·rename_i c hc
       split at h9
       ·rename_i c' hc'
        refine ⟨_,h9,Ab _,fun B0 w0 st hv hm hn=>?_⟩
        obtain ⟨hx,h1,h2,h3⟩:=hvs st.f hv
        subst hn
        subst hx
        intro E act w hR
        -- the lengths are one
        obtain ⟨A,cap,hu,_⟩:=adb hR hm hc (hR.ev x)
        obtain ⟨A',cap',hu'⟩:=bl5 hm hlen hR (hR.ev x)
        rw[hu] at hu'
        cases hu'
        exact bpt ht hs x lo hi mx h1 h2 h3 rfl (by rintro rfl;exact hnn1 m rfl rfl) hm hc g0 g1 g3 g4 hc' E act w hR
       ·cases h9
      ·cases h9
  ·cases h
 ·rename_i m e ht
  split at h
  ·rename_i sz id off hs
   cases hq:Ac sz 1 with
   | false=>rw[hq] at h;cases h
   | true =>
    rw[hq] at h
    simp only[cond_true] at h
    have:=Aa hq
    subst this
    obtain ⟨g0,h⟩:=ah7 h
    obtain ⟨g1,h⟩:=ah7 h
    obtain ⟨g2,h⟩:=ah7 h
    have g0:=of_decide_eq_true g0
    have g1:=of_decide_eq_true g1
    have g2:=of_decide_eq_true g2
    refine ⟨_,h,Ab _,fun B0 w0 st hv hm hn=>?_⟩
    obtain ⟨hx,h1,h2,h3⟩:=hvs st.f hv
    subst hn
    have e3:=bnone h3
    subst e3
    exact boy ht hs x lo hi h1 h2 hx g0 g1 g2
  ·cases h
 ·cases h
theorem bwb{t t':TypeId}{x y:Operand}{X Y:AVal}(h:b30 D t X Y hl n K=some r):adi D ⟨dst,.call ⟨.builtin .copy,#[x,y],#[t,t']⟩,type,pos,after,guard⟩ [X,Y] hl n K r:=by
 unfold b30 at h
 split at h
 ·rename_i e ht
  cases hq:b2n D.P e with
  | false=>rw[hq] at h;cases h
  | true =>
   rw[hq] at h
   simp only[cond_true] at h
   have hs:=ayp hq
   split at h
   ·rename_i k' zs hc
    split at h
    ·rename_i id off m lo len
     split at h
     ·rename_i et l hid
      split at h
      ·rename_i pre k m' z post hg
       cases hb:Ac m m' with
       | false=>rw[hb] at h;cases h
       | true =>
        rw[hb] at h
        have hb:=Aa hb
        subst hb
        obtain ⟨rfl,hK⟩:=ap3 h
        refine ⟨_,hK,Ab _,fun B0 w0 st hv hm hn=>?_⟩
        obtain ⟨h1,h2⟩:=y9 hv
        subst hn
        exact bo4 ht hs hm x y h1 hid (by rw[h2];exact hc) hg
      ·cases h
     ·cases h
    ·rename_i id
     split at h
     ·rename_i et k z hid
      obtain ⟨rfl,hK⟩:=ap3 h
      refine ⟨_,hK,Ab _,fun B0 w0 st hv hm hn=>?_⟩
      obtain ⟨h1,h2⟩:=y9 hv
      subst hn
      refine bfk ht hs hm x y hid (by rw[h2];exact hc) (off:=0) (len:=z.length) (fun E act w hR=>?_)
      have hv:=hR.ev x
      rw[h1] at hv
      simp only[ig] at hv
      obtain ⟨v,hρ,⟨xs,ho,hxs⟩,_⟩:=hR.heap _ _ (hm _ _ hid)
      rw[hv] at hρ
      cases hρ
      rcases (show _ from ho.2) with ⟨e1,e2⟩ | ⟨g,cap,cur,e1,_⟩
      ·simp only[Cont.len] at e2
       exact ⟨_,none,0,0,none,0,hv,e1,by omega,by rw[e1,e2],fun _=>rfl⟩
      ·simp only[Cont.len] at e1
       exact ⟨_,_,z.length,cap,_,cap,hv,e1,by omega,e1,fun _=>by simp[Addr.add]⟩
     ·cases h
    ·rename_i id off len
     split at h
     ·rename_i et k z hid
      obtain ⟨rfl,hK⟩:=ap3 h
      refine ⟨_,hK,Ab _,fun B0 w0 st hv hm hn=>?_⟩
      obtain ⟨h1,h2⟩:=y9 hv
      subst hn
      refine bfk ht hs hm x y hid (by rw[h2];exact hc) (off:=off) (len:=len) (fun E act w hR=>?_)
      have hv:=hR.ev x
      rw[h1] at hv
      simp only[ig] at hv
      obtain ⟨A,q,cap,hρ,hle,A',hA',_,hu⟩:=hv
      exact ⟨_,A,q,cap,A',_,hρ,rfl,hle,hu,hA'⟩
     ·cases h
    ·cases h
   ·cases h
 ·cases h
theorem bwg(hG:GOk D)(hG2:qg D){c:Call}{vs:List AVal}(h:b33 D c.callee c.args.toList c.argTypes.toList vs hl n K=some r):adi D ⟨dst,.call c,type,pos,after,guard⟩ vs hl n K r:=by
 obtain ⟨cal,⟨as⟩,⟨ts⟩⟩:=c
 simp only at h
 unfold b33 at h
 split at h
 ·-- len
  rename_i x t ts X
  unfold b1y at h
  split at h
  ·rename_i e ht
   split at h
   ·rename_i m hlen
    refine ⟨_,h,Ab _,fun B0 w0 st hv hm hn=>?_⟩
    have:=acf hv
    subst this
    subst hn
    exact b8u hm x (by simp) ht hlen
   ·cases h
  ·cases h
 ·refine ⟨_,h,Ab _,fun B0 w0 st hv hm hn=>?_⟩
  obtain ⟨h1,h2⟩:=y9 hv
  subst hn
  exact b98 _ _ h1 h2
 ·refine ⟨_,h,Ab _,fun B0 w0 st hv hm hn=>?_⟩
  obtain ⟨h1,h2⟩:=y9 hv
  subst hn
  exact b60 _ _ h1 h2
 ·rename_i s x t t' S X
  cases hq:Ac t t' with
  | false =>
   rw[hq] at h
   simp only[cond_false] at h
   split at h
   ·exact bn8 h
   ·cases h
  | true =>
   rw[hq] at h
   have:=Aa hq
   subst this
   exact bq0 h
 ·exact b0f h
 ·exact bwb h
 ·rename_i f g first caps vs
  split at h
  ·rename_i s hs
   obtain ⟨eff,hK,hle,hok⟩:=bl7 (dst:=dst) (type:=type) (pos:=pos) (after:=after) (guard:=guard) hG hs hG2 h
   refine ⟨eff,hK,hle,fun B0 w0 st hv hm hn=>?_⟩
   obtain ⟨h1,h2⟩:=amh hv
   exact hok B0 w0 st f _ _ (fun E act w hR=>by have:=hR.ev f;rw[h1] at this;exact this) h2 hm hn
  ·cases h
 ·rename_i x t f fa fc g ga gc vs
  split at h
  ·rename_i s s' hs hs'
   rcases abm h with ⟨ht,h⟩ | ⟨_,h⟩
   ·have ht:=of_decide_eq_true ht
    obtain ⟨eff,hK,hle,hok⟩:=bl7 (dst:=dst) (type:=type) (pos:=pos) (after:=after) (guard:=guard) hG hs hG2 h
    refine ⟨eff,hK,hle,fun B0 w0 st hv hm hn=>?_⟩
    obtain ⟨h1,h2⟩:=amh hv
    exact hok B0 w0 st x _ _ (fun E act w hR=>by
     have:=hR.ev x
     rw[h1] at this
     simp only[ig] at this ⊢
     rcases this with ⟨h,_⟩ | ⟨_,h⟩ | ⟨h,_⟩
     ·omega
     ·exact h
     ·omega) h2 hm hn
   ·rcases abm h with ⟨ht,h⟩ | ⟨_,h⟩
    ·have ht:=of_decide_eq_true ht
     obtain ⟨eff,hK,hle,hok⟩:=bl7 (dst:=dst) (type:=type) (pos:=pos) (after:=after) (guard:=guard) hG hs' hG2 h
     refine ⟨eff,hK,hle,fun B0 w0 st hv hm hn=>?_⟩
     obtain ⟨h1,h2⟩:=amh hv
     exact hok B0 w0 st x _ _ (fun E act w hR=>by
      have:=hR.ev x
      rw[h1] at this
      simp only[ig] at this ⊢
      rcases this with ⟨h,_⟩ | ⟨h,_⟩ | ⟨_,h⟩
      ·omega
      ·omega
      ·exact h) h2 hm hn
    ·cases h
  ·cases h
 ·cases h
theorem byq(hG:GOk D)(hG2:qg D){op:Op}{vs:List AVal}(h:core D op vs hl n K=some r):adi D ⟨dst,op,type,pos,after,guard⟩ vs hl n K r:=by
 unfold core at h
 split at h
 ·refine ⟨_,h,Ab _,fun B0 w0 st hv hm hn=>?_⟩
  have:=acf hv
  subst this
  subst hn
  exact b4g _
 ·refine ⟨_,h,Ab _,fun B0 w0 st hv hm hn=>?_⟩
  have:=acf hv
  subst this
  subst hn
  exact byg _
 ·rename_i c a b t A B
  have key:∀z,z=(if t then A else B)→K ⟨z,[],n⟩=some r→adi D ⟨dst,.pick c a b,type,pos,after,guard⟩ [.v (.bool t),A,B] hl n K r:=by
   rintro z rfl hK
   refine ⟨_,hK,Ab _,fun B0 w0 st hv hm hn=>?_⟩
   obtain ⟨h1,h2⟩:=amh hv
   obtain ⟨h3,h4⟩:=amh h2
   obtain ⟨h5,_⟩:=amh h4
   subst hn
   subst h3
   subst h5
   exact b4w c a b h1
  rcases abm h with ⟨rfl,h4⟩ | ⟨rfl,h4⟩
  ·exact key A rfl h4
  ·exact key B rfl h4
 ·split at h
  ·rename_i l hl'
   refine ⟨_,h,by simp,fun B0 w0 st hv hm hn=>?_⟩
   subst hn
   exact bzn _ hl'
  ·cases h
 ·split at h
  ·rename_i l hl'
   refine ⟨_,h,by simp,fun B0 w0 st hv hm hn=>?_⟩
   have:=acf hv
   subst this
   subst hn
   exact b7l _ _ hl'
  ·cases h
 ·exact bdh h
 ·exact bt8 h
 ·exact buk h
 ·-- nilCheck
  rename_i x X
  have key:(∀(E:Env) (w:World) (u:Value),ig E w X u→(∃a,u=.pointer (some a))∨(∃f a b,u=.func (.func f) a b)∨(∃t v,u=.iface t v))→K ⟨X,[],n⟩=some r→adi D ⟨dst,.nilCheck x,type,pos,after,guard⟩ [X] hl n K r:=by
   intro hx hK
   refine ⟨_,hK,Ab _,fun B0 w0 st hv hm hn=>?_⟩
   have:=acf hv
   subst this
   subst hn
   exact bqh _ (fun E act w hR=>hx E w _ (hR.ev x))
  split at h
  ·exact key (fun E w u hu=>by simp only[ig] at hu;obtain ⟨b,_,rfl⟩:=hu;exact .inl ⟨_,rfl⟩) h
  ·exact key (fun E w u hu=>by simp only[ig] at hu;obtain ⟨_,_,_,_,_,rfl⟩:=hu;exact .inl ⟨_,rfl⟩) h
  ·exact key (fun E w u hu=>by simp only[ig] at hu;obtain ⟨_,_,_,rfl⟩:=hu;exact .inl ⟨_,rfl⟩) h
  ·exact key (fun E w u hu=>by simp only[ig] at hu;obtain ⟨_,_,_,_,_,_,rfl⟩:=hu;exact .inl ⟨_,rfl⟩) h
  ·exact key (fun E w u hu=>by simp only[ig] at hu;obtain ⟨_,_,rfl,_⟩:=hu;exact .inl ⟨_,rfl⟩) h
  ·exact key (fun E w u hu=>by simp only[ig] at hu;subst hu;exact .inl ⟨_,rfl⟩) h
  ·exact key (fun E w u hu=>by simp only[ig] at hu;obtain ⟨_,rfl⟩:=hu;exact .inl ⟨_,rfl⟩) h
  ·exact key (fun E w u hu=>by simp only[ig] at hu;obtain ⟨_,_,rfl,_,_⟩:=hu;exact .inr (.inl ⟨_,_,_,rfl⟩)) h
  ·exact key (fun E w u hu=>by simp only[ig] at hu;obtain ⟨_,rfl,_⟩:=hu;exact .inr (.inr ⟨_,_,rfl⟩)) h
  ·rcases abm h with ⟨h1,h⟩ | ⟨_,h⟩
   ·exact key (fun E w u hu=>by
      have hu:=br3 (of_decide_eq_true h1) hu
      simp only[ig] at hu
      obtain ⟨_,_,rfl,_⟩:=hu
      exact .inl ⟨_,rfl⟩) h
   ·cases h
  ·cases h
 ·exact bz1 h
 ·exact bu1 h
 ·refine ⟨_,h,Ab _,fun B0 w0 st hv hm hn=>?_⟩
  have:=acf hv
  subst hn
  exact b6k _ _ this
 ·refine ⟨_,h,Ab _,fun B0 w0 st hv hm hn=>?_⟩
  have:=acf hv
  subst hn
  exact b7j _ _ this
 ·split at h
  ·rename_i hs ht
   refine ⟨_,h,Ab _,fun B0 w0 st hv hm hn=>?_⟩
   have:=acf hv
   subst hn
   exact bul _ _ _ this hs ht
  ·cases h
 ·rename_i src tgt x id
  cases hq:Ac src tgt with
  | false=>rw[hq] at h;cases h
  | true =>
   rw[hq] at h
   have:=Aa hq
   subst this
   simp only[cond_true] at h
   unfold btd at h
   split at h
   ·rename_i e ht
    split at h
    ·rename_i et k a l he hid
     refine ⟨_,h,Ab _,fun B0 w0 st hv hm hn=>?_⟩
     have hx:=acf hv
     subst hn
     exact brf ht he x hx (by simp) (hm _ _ hid)
    ·cases h
   ·cases h
 ·split at h
  ·cases h
  ·cases h
  ·rename_i d hd ht
   refine ⟨_,h,Ab _,fun B0 w0 st hv hm hn=>?_⟩
   have:=acf hv
   subst this
   subst hn
   exact bdv _ _ ht (fun ms e=>hd ms e)
 ·rename_i fn first captured
  refine ⟨_,h,Ab _,fun B0 w0 st hv hm hn=>?_⟩
  have hv:evs st.f (tq first.toList captured.toList)=_:=hv
  rw[btr] at hv
  subst hv
  subst hn
  have e1:(evs st.f first.toList++evs st.f captured.toList).take first.size=evs st.f first.toList:=by
   rw[List.take_left' (by rw[brq,Au])]
  have e2:(evs st.f first.toList++evs st.f captured.toList).drop first.size=evs st.f captured.toList:=by
   rw[List.drop_left' (by rw[brq,Au])]
  rw[e1,e2]
  exact brr _ _ _
 ·rename_i x i l
  cases hq:Ar i l.length with
  | false=>rw[hq] at h;cases h
  | true =>
   rw[hq] at h
   refine ⟨_,h,Ab _,fun B0 w0 st hv hm hn=>?_⟩
   have:=acf hv
   subst hn
   exact bur _ _ this (by simpa using hq)
 ·-- slice
  rename_i t x lo hi mx X rest
  split at h
  ·rename_i vl r1 hl1
   split at h
   ·rename_i vh r2 hl2
    split at h
    ·rename_i vm r3 hl3
     refine buu (fun f hv=>?_) h
     obtain ⟨hx,h1⟩:=amh hv
     obtain ⟨h2,k1⟩:=bqx hl1 h1
     obtain ⟨h3,k2⟩:=bqx hl2 h2
     obtain ⟨h4,k3⟩:=bqx (xs:=[]) hl3 (by rw[←h3];congr 1;rw[ajz,Ai])
     exact ⟨hx,k1,k2,k3⟩
    ·cases h
   ·cases h
  ·cases h
 ·exact biv h
 ·exact biw h
 ·exact buy h
 ·exact bix h
 ·exact buz h
 ·rename_i t x id off m lo len
  split at h
  ·rename_i k e ht
   obtain ⟨hle,hK⟩:=ah7 h
   have hle:=of_decide_eq_true hle
   refine ⟨_,hK,Ab _,fun B0 w0 st hv hm hn=>?_⟩
   have hx:=acf hv
   subst hn
   refine ko fun E act w hR=>?_
   have hu:=hR.ev x
   rw[hx] at hu
   simp only[ig] at hu
   obtain ⟨b,A,cap,h1,h2,h3,h4,h5⟩:=hu
   refine ⟨.pointer A,?_,?_⟩
   ·have hnl:¬len<k+1:=by omega
    simp[execOp,h5,Instr.arrayAt,run_underlying ht,hnl]
   ·rw[h4 (by omega)]
    simp only[ig]
    exact ⟨b,h1,by omega,rfl⟩
  ·cases h
 ·rename_i c vs
  exact bwg hG hG2 h
 ·cases h
end
end Go.Abs
end
