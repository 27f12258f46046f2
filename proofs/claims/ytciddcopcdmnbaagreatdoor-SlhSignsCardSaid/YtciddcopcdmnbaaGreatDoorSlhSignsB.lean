/-
  SlhSigns, part 2: lemmas for the law.
-/

import Derived.Test.YtciddcopcdmnbaaGreatDoorSlhSignsA
import Derived.Laws.MakeOwn
import Derived.Laws.OwnMore
open List renaming getD_eq_getElem?_getD → Aa, getElem?_take → Ab, getElem?_eq_getElem → Ac, getElem?_append_right → Ad, getElem?_append_left → Ae, getElem?_drop → Ah, getElem?_replicate → Ak, getElem?_eq_some_iff → Am, eq_nil_of_length_eq_zero → Ap, drop → Av, take → Aw
open Nat renaming eq_of_beq_eq_true → Af, mul_one → Ag, le_refl → Ai, mul_le_mul_right → Aj, beq → Ao, min_eq_left → Ay, ne_of_beq_eq_false → Az, add_assoc → A8, add_comm → A9
open Option renaming map_none → Al
open Int renaming le_refl → Aq, toNat_natCast → Au
open Bool renaming false_eq_true → Ar
set_option linter.unusedVariables false
set_option linter.unusedSimpArgs false

section
namespace Go.Abs
open Go Go.RowKit
section
variable {P:Program} {w:World}
theorem ai4{t e:TypeId}{sz:Nat}(ht:P.underlying t=some (.slice e))(hs:oo P e=some sz)(a:Addr)(len cap:Nat)(k:IntKind)(i:Int)(h0:0≤i)(h1:i<len) :
    (Instr.indexAt t (.slice (some a) len cap) (.int k i)).run P w=.ok (.pointer (some (a.add (i.toNat*sz)))) w:=by
 simp only[Instr.indexAt,asIntOf,Sem.run_bind,Sem.run_pure,Result.andThen_ok,run_underlying ht]
 simp[h0,h1,run_sizeOf hs]
theorem acr{t e:TypeId}{m sz:Nat}(ht:P.underlying t=some (.array m e))(hs:oo P e=some sz)(a:Addr)(k:IntKind)(i:Int)(h0:0≤i)(h1:i<m) :
    (Instr.indexAt t (.pointer (some a)) (.int k i)).run P w=.ok (.pointer (some (a.add (i.toNat*sz)))) w:=by
 simp only[Instr.indexAt,asIntOf,Sem.run_bind,Sem.run_pure,Result.andThen_ok,run_underlying ht,Instr.sureAddr]
 simp[h0,h1,run_sizeOf hs]
theorem ao9{s:TypeId}{fs:Array Field}{f:Nat}{fd:Field}{sz:Nat}(ht:P.underlying s=some (.struct fs))(hf:fs[f]?=some fd)(hs:oo P fd.type=some (sz+1))(a:Addr) :
    (Instr.fieldAt s (.pointer (some a)) f).run P w=.ok (.pointer (some (a.add fd.offset))) w:=by
 simp only[Instr.fieldAt,Sem.run_bind,run_underlying ht,Result.andThen_ok]
 simp[hf,Instr.sureAddr,fieldPlace,run_sizeOf hs]
theorem btp{t:TypeId}{g:Bool}{sz:Nat}(hg:ahb P t=some g)(hs:oo P t=some sz)(c1 c2 c3:List Value)(hl:c2.length=sz)(u:Value)(hu:if g then u=.agg c2.toArray else c2=[u]) :
    (part t (c1++(c2++c3)).toArray c1.length).run P w=.ok u w:=by
 simp only[part,Sem.run_bind,bns hg,Result.andThen_ok]
 cases g with
 | true =>
  simp only[if_true] at hu ⊢
  subst hl hu
  simp only[Sem.run_bind,run_sizeOf hs,Result.andThen_ok,Sem.run_pure]
  congr 2
  simp[List.extract_eq_take_drop]
 | false =>
  simp only[if_false,Ar] at hu ⊢
  subst hu
  simp
end
theorem bnj{E:Env}{w:World}{c:Cont}{A:Option Addr}{len cap:Nat}(h:SlC E.S w c (.slice A len cap)){i:Nat}(hi:i<c.len) :
    len=c.len∧∃a,A=some a∧ig E w (.sta (c.elem i)) (.pointer (some (a.add (i*c.size)))):=by
 obtain ⟨A',cap',hu,hcap,hx⟩:=h
 cases hu
 refine ⟨rfl,?_⟩
 obtain ⟨a,rfl,hS,hc⟩:=hx (by omega)
 refine ⟨a,rfl,?_⟩
 have hle:i*c.size+c.size≤c.len*c.size:=by rw[←Nat.succ_mul];exact Aj _ hi
 -- the cells of the element
 have hex:∀n,n≤c.size→∃xs:List Value,xs.length=n∧∀j x,xs[j]?=some x→w.cell? (a.add (i*c.size+j))=some x∧cellC E.S w c (i*c.size+j) x:=by
  intro n
  induction n with
  | zero=>exact fun _=>⟨[],rfl,by simp⟩
  | succ n ih =>
   intro hn
   obtain ⟨xs,hl,hxs⟩:=ih (by omega)
   obtain ⟨x,h1,h2⟩:=hc (i*c.size+n) (by omega)
   refine ⟨xs++[x],by simp[hl],fun j y hy=>?_⟩
   by_cases hj:j<n
   ·rw[Ae (by omega)] at hy;exact hxs j y hy
   ·have hjn:j=n:=by
      have:=(Am.1 hy).1
      simp at this
      omega
    subst hjn
    rw[Ad (by omega)] at hy
    simp[hl] at hy
    subst hy
    exact ⟨h1,h2⟩
 obtain ⟨xs,hl,hxs⟩:=hex c.size (Ai _)
 simp only[ig]
 refine ⟨_,xs,rfl,by rw[add_block];exact hS,bs4 hl fun j x hj=>(hxs j x hj).2,fun j hj=>?_⟩
 rw[add_add,Ac hj]
 exact (hxs j _ (Ac hj)).1
section
variable {D:Ctx} {B0:Nat} {w0:W0} {st:ASt} {dst:Option Tmp} {type:TypeId} {pos:String} {after:Array Edge} {guard:Option (Nat×Bool)}
theorem bqa{t e:TypeId}{sz:Nat}(ht:D.P.underlying t=some (.slice e))(hs:oo D.P e=some sz)(x i:Operand){c:Cont}(hx:ev st.f x=.sl c)(hc:c.size=sz)
    {k:IntKind} {z:Int} (hi:ev st.f i=.v (.int k z)) (h0:0≤z) (h1:z<c.len) :
    agk D B0 w0 st ⟨dst,.indexAddr t x i,type,pos,after,guard⟩ ⟨.sta (c.elem z.toNat),[],st.n⟩ :=
 ko fun E act w hR=>by
  have hX:=hR.ev x
  have hI:=hR.ev i
  rw[hx] at hX
  rw[hi] at hI
  simp only[ig] at hX hI
  obtain ⟨A,cap,hu,hcap,_⟩:=id hX
  rw[hu] at hX
  obtain ⟨_,a,rfl,hr⟩:=bnj hX (i:=z.toNat) (by omega)
  refine ⟨_,?_,hr⟩
  simp only[execOp,hu,hI,Sem.run_bind,ai4 ht hs a c.len cap k z h0 h1,Result.andThen_ok,Sem.run_pure,hc]
theorem bok{t e:TypeId}{sz:Nat}(ht:D.P.underlying t=some (.slice e))(hs:oo D.P e=some sz)(x i:Operand){id:Nat}(hx:ev st.f x=.own id){e':TypeId}{c:Cont}{f:Bool}
    (hb:iw st.h id=some ⟨.row e' c,f⟩) {k:IntKind} {z:Int} (hi:ev st.f i=.v (.int k z)) (h0:0≤z) (h1:z<c.len) :
    agk D B0 w0 st ⟨dst,.indexAddr t x i,type,pos,after,guard⟩ ⟨.pel id sz z.toNat,[],st.n⟩ :=
 ko fun E act w hR=>by
  have hX:=hR.ev x
  have hI:=hR.ev i
  rw[hx] at hX
  rw[hi] at hI
  simp only[ig] at hX hI
  obtain ⟨v,hv,⟨xs,ho,_⟩,_⟩:=hR.heap _ _ hb
  rw[hX] at hv
  cases hv
  rcases (show _ from ho.2) with ⟨_,hn⟩ | ⟨g,cap,cur,hu,_,_,hn,_⟩
  ·omega
  ·refine ⟨.pointer (some (Addr.add ⟨g,0,none⟩ (z.toNat*sz))),?_,?_⟩
   ·simp only[execOp,hu,hI,Sem.run_bind,ai4 ht hs ⟨g,0,none⟩ c.len cap k z h0 h1,Result.andThen_ok,Sem.run_pure]
   ·simp only[ig];exact ⟨⟨g,0,none⟩,_,_,by rw[hX,hu],by omega,rfl⟩
theorem boj{t e:TypeId}(ht:D.P.underlying t=some (.slice e))(hs:oo D.P e=some 1)(x i:Operand){id off len:Nat}(hx:ev st.f x=.win id off len)
    {k:IntKind} {z:Int} (hi:ev st.f i=.v (.int k z)) (h0:0≤z) (h1:z<len) {e':TypeId} {c:Cont} {f:Bool} (hb:iw st.h id=some ⟨.row e' c,f⟩) :
    agk D B0 w0 st ⟨dst,.indexAddr t x i,type,pos,after,guard⟩ ⟨.pel id 1 (off+z.toNat),[],st.n⟩ :=
 ko fun E act w hR=>by
  have hX:=hR.ev x
  have hI:=hR.ev i
  rw[hx] at hX
  rw[hi] at hI
  simp only[ig] at hX hI
  obtain ⟨A,n,cap,hρ,hle,A',hA',_,hu⟩:=hX
  obtain ⟨v,hv,⟨xs,ho,_⟩,_⟩:=hR.heap _ _ hb
  rw[hρ] at hv
  cases hv
  cases A with
  | none=>have:=acs ho rfl;omega
  | some a =>
   rw[hA' (by omega)] at hu
   refine ⟨.pointer (some ((a.add off).add (z.toNat*1))),?_,?_⟩
   ·simp only[execOp,hu,hI,Option.map_some,Sem.run_bind,ai4 ht hs (a.add off) len (cap-off) k z h0 h1,Result.andThen_ok,Sem.run_pure]
   ·simp only[ig]
    exact ⟨a,n,cap,hρ,by omega,by rw[add_add];simp⟩
theorem blo{t e:TypeId}(ht:D.P.underlying t=some (.slice e))(hs:oo D.P e=some 1)(x i:Operand){id off m lo len:Nat}(hx:ev st.f x=.awin id off m lo len)
    {k:IntKind} {z:Int} (hi:ev st.f i=.v (.int k z)) (h0:0≤z) (h1:z<len) :
    agk D B0 w0 st ⟨dst,.indexAddr t x i,type,pos,after,guard⟩ ⟨.apel id off m (lo+z.toNat),[],st.n⟩ :=
 ko fun E act w hR=>by
  have hX:=hR.ev x
  have hI:=hR.ev i
  rw[hx] at hX
  rw[hi] at hI
  simp only[ig] at hX hI
  obtain ⟨b,A,cap,hρ,hle,hcap,hA,hu⟩:=hX
  have hA':=hA (by omega)
  subst hA'
  refine ⟨Value.pointer (some (Addr.add ⟨b,off+lo,none⟩ (z.toNat*1))),by simp only[execOp,hu,hI,Sem.run_bind,ai4 ht hs ⟨b,off+lo,none⟩ len cap k z h0 h1,Result.andThen_ok,Sem.run_pure],?_⟩
  simp only[ig]
  exact ⟨b,hρ,by omega,by rw[y5];simp[A8]⟩
theorem bch{t e:TypeId}{m sz:Nat}(ht:D.P.underlying t=some (.array m e))(hs:oo D.P e=some sz)(x i:Operand){id off:Nat}(hx:ev st.f x=.ptr id off)
    {k:IntKind} {z:Int} (hi:ev st.f i=.v (.int k z)) (j:Nat) (hj:z=j) (h1:j<m) :
    agk D B0 w0 st ⟨dst,.indexAddr t x i,type,pos,after,guard⟩ ⟨.ptr id (off+j*sz),[],st.n⟩ :=
 ko fun E act w hR=>by
  have hX:=hR.ev x
  have hI:=hR.ev i
  rw[hx] at hX
  rw[hi] at hI
  simp only[ig] at hX hI
  obtain ⟨b,hρ,hu⟩:=hX
  refine ⟨Value.pointer (some (Addr.add ⟨b,off,none⟩ (z.toNat*sz))),by simp only[execOp,hu,hI,Sem.run_bind,acr ht hs ⟨b,off,none⟩ k z (by omega) (by omega),Result.andThen_ok,Sem.run_pure],?_⟩
  simp only[ig]
  exact ⟨b,hρ,by rw[y5,hj];simp⟩
theorem bdi{t e:TypeId}{m:Nat}(ht:D.P.underlying t=some (.array m e))(hs:oo D.P e=some 1)(x i:Operand){id off:Nat}(hx:ev st.f x=.ptr id off)
    {k:IntKind} {z:Int} (hi:ev st.f i=.v (.int k z)) (h0:0≤z) (h1:z<m) :
    agk D B0 w0 st ⟨dst,.indexAddr t x i,type,pos,after,guard⟩ ⟨.apel id off m z.toNat,[],st.n⟩ :=
 ko fun E act w hR=>by
  have hX:=hR.ev x
  have hI:=hR.ev i
  rw[hx] at hX
  rw[hi] at hI
  simp only[ig] at hX hI
  obtain ⟨b,hρ,hu⟩:=hX
  refine ⟨Value.pointer (some (Addr.add ⟨b,off,none⟩ (z.toNat*1))),by simp only[execOp,hu,hI,Sem.run_bind,acr ht hs ⟨b,off,none⟩ k z h0 h1,Result.andThen_ok,Sem.run_pure],?_⟩
  simp only[ig]
  exact ⟨b,hρ,by omega,by rw[y5];simp⟩
theorem ay0{t e:TypeId}{m sz:Nat}(ht:D.P.underlying t=some (.array m e))(hs:oo D.P e=some sz)(x i:Operand){g off:Nat}(hx:ev st.f x=.glob g off)
    {k:IntKind} {z:Int} (hi:ev st.f i=.v (.int k z)) (j:Nat) (hj:z=j) (h1:j<m) :
    agk D B0 w0 st ⟨dst,.indexAddr t x i,type,pos,after,guard⟩ ⟨.glob g (off+j*sz),[],st.n⟩ :=
 ko fun E act w hR=>by
  have hX:=hR.ev x
  have hI:=hR.ev i
  rw[hx] at hX
  rw[hi] at hI
  simp only[ig] at hX hI
  refine ⟨Value.pointer (some (Addr.add ⟨g,off,none⟩ (z.toNat*sz))),by simp only[execOp,hX,hI,Sem.run_bind,acr ht hs ⟨g,off,none⟩ k z (by omega) (by omega),Result.andThen_ok,Sem.run_pure],?_⟩
  simp only[ig]
  rw[y5,hj];simp
theorem az8{t e:TypeId}{m:Nat}(ht:D.P.underlying t=some (.array m e))(hs:oo D.P e=some 1)(x i:Operand){g off:Nat}(hx:ev st.f x=.glob g off)
    {k:IntKind} {z:Int} (hi:ev st.f i=.v (.int k z)) (h0:0≤z) (h1:z<m) :
    agk D B0 w0 st ⟨dst,.indexAddr t x i,type,pos,after,guard⟩ ⟨.gel g off m z.toNat,[],st.n⟩ :=
 ko fun E act w hR=>by
  have hX:=hR.ev x
  have hI:=hR.ev i
  rw[hx] at hX
  rw[hi] at hI
  simp only[ig] at hX hI
  refine ⟨Value.pointer (some (Addr.add ⟨g,off,none⟩ (z.toNat*1))),by simp only[execOp,hX,hI,Sem.run_bind,acr ht hs ⟨g,off,none⟩ k z h0 h1,Result.andThen_ok,Sem.run_pure],?_⟩
  simp only[ig]
  exact ⟨by omega,by rw[y5];simp⟩
theorem ayg{t e:TypeId}{m sz:Nat}(ht:D.P.underlying t=some (.array m e))(hs:oo D.P e=some sz)(hsz:0<sz)(x i:Operand){g off:Nat}(hx:ev st.f x=.glob g off)
    {k:IntKind} {z:Int} (hi:ev st.f i=.v (.int k z)) (h0:0≤z) (h1:z<m) :
    agk D B0 w0 st ⟨dst,.indexAddr t x i,type,pos,after,guard⟩ ⟨.gel g off (m*sz) (z.toNat*sz),[],st.n⟩ :=
 ko fun E act w hR=>by
  have hX:=hR.ev x
  have hI:=hR.ev i
  rw[hx] at hX
  rw[hi] at hI
  simp only[ig] at hX hI
  refine ⟨Value.pointer (some (Addr.add ⟨g,off,none⟩ (z.toNat*sz))),by simp only[execOp,hX,hI,Sem.run_bind,acr ht hs ⟨g,off,none⟩ k z h0 h1,Result.andThen_ok,Sem.run_pure],?_⟩
  simp only[ig]
  exact ⟨(Nat.mul_lt_mul_right hsz).2 (by omega),by rw[y5]⟩
theorem bn2{t e:TypeId}{m:Nat}(ht:D.P.underlying t=some (.array m e))(hs:oo D.P e=some 1)(x i:Operand){g off m' j:Nat}(hx:ev st.f x=.gel g off m' j)
    {k:IntKind} {z:Int} (hi:ev st.f i=.v (.int k z)) (h0:0≤z) (h1:z<m) (h2:j+z.toNat<m') :
    agk D B0 w0 st ⟨dst,.indexAddr t x i,type,pos,after,guard⟩ ⟨.gel g off m' (j+z.toNat),[],st.n⟩ :=
 ko fun E act w hR=>by
  have hX:=hR.ev x
  have hI:=hR.ev i
  rw[hx] at hX
  rw[hi] at hI
  simp only[ig] at hX hI
  obtain ⟨_,hX⟩:=hX
  refine ⟨Value.pointer (some (Addr.add ⟨g,off+j,none⟩ (z.toNat*1))),by simp only[execOp,hX,hI,Sem.run_bind,acr ht hs ⟨g,off+j,none⟩ k z h0 h1,Result.andThen_ok,Sem.run_pure],?_⟩
  simp only[ig]
  exact ⟨h2,by rw[y5,Ag,A8]⟩
theorem bp1{s:TypeId}{fs:Array Field}{f:Nat}{fd:Field}{sz:Nat}(ht:D.P.underlying s=some (.struct fs))(hf:fs[f]?=some fd)(hs:oo D.P fd.type=some (sz+1))(x:Operand){id off:Nat}(hx:ev st.f x=.ptr id off) :
    agk D B0 w0 st ⟨dst,.fieldAddr s x f,type,pos,after,guard⟩ ⟨.ptr id (off+fd.offset),[],st.n⟩ :=
 ko fun E act w hR=>by
  have hX:=hR.ev x
  rw[hx] at hX
  simp only[ig] at hX
  obtain ⟨b,hρ,hu⟩:=hX
  refine ⟨Value.pointer (some (Addr.add ⟨b,off,none⟩ fd.offset)),by simp only[execOp,hu,Sem.run_bind,ao9 ht hf hs ⟨b,off,none⟩,Result.andThen_ok,Sem.run_pure],?_⟩
  simp only[ig]
  exact ⟨b,hρ,by rw[y5]⟩
theorem bnv{s:TypeId}{fs:Array Field}{f:Nat}{fd:Field}{sz:Nat}(ht:D.P.underlying s=some (.struct fs))(hf:fs[f]?=some fd)(hs:oo D.P fd.type=some (sz+1))(x:Operand){id q i:Nat}(hx:ev st.f x=.pel id q i)(ho:fd.offset<q) :
    agk D B0 w0 st ⟨dst,.fieldAddr s x f,type,pos,after,guard⟩ ⟨.fel id q i fd.offset,[],st.n⟩ :=
 ko fun E act w hR=>by
  have hX:=hR.ev x
  rw[hx] at hX
  simp only[ig] at hX
  obtain ⟨a,m,cap,hρ,hi,hu⟩:=hX
  refine ⟨Value.pointer (some ((a.add (i*q)).add fd.offset)),by simp only[execOp,hu,Sem.run_bind,ao9 ht hf hs (a.add (i*q)),Result.andThen_ok,Sem.run_pure],?_⟩
  simp only[ig]
  exact ⟨a,m,cap,hρ,hi,ho,by rw[add_add]⟩
theorem bl6{s:TypeId}{fs:Array Field}{f:Nat}{fd:Field}{sz:Nat}(ht:D.P.underlying s=some (.struct fs))(hf:fs[f]?=some fd)(hs:oo D.P fd.type=some (sz+1))(x:Operand){g off:Nat}(hx:ev st.f x=.glob g off) :
    agk D B0 w0 st ⟨dst,.fieldAddr s x f,type,pos,after,guard⟩ ⟨.glob g (off+fd.offset),[],st.n⟩ :=
 ko fun E act w hR=>by
  have hX:=hR.ev x
  rw[hx] at hX
  simp only[ig] at hX
  refine ⟨Value.pointer (some (Addr.add ⟨g,off,none⟩ fd.offset)),by simp only[execOp,hX,Sem.run_bind,ao9 ht hf hs ⟨g,off,none⟩,Result.andThen_ok,Sem.run_pure],?_⟩
  simp only[ig]
  rw[y5]
theorem bo2{s:TypeId}{fs:Array Field}{f:Nat}{fd:Field}{sz:Nat}(ht:D.P.underlying s=some (.struct fs))(hf:fs[f]?=some fd)(hs:oo D.P fd.type=some (sz+1))(x:Operand){l pre mid post:List AVal}
    (hx:ev st.f x=.sta l) (hg:bn4 l fd.offset (sz+1)=some (pre,mid,post)) :
    agk D B0 w0 st ⟨dst,.fieldAddr s x f,type,pos,after,guard⟩ ⟨.sta mid,[],st.n⟩ :=
 ko fun E act w hR=>by
  have hX:=hR.ev x
  rw[hx] at hX
  simp only[ig] at hX
  obtain ⟨a,cs,hu,hS,hl,hc⟩:=hX
  refine ⟨Value.pointer (some (a.add fd.offset)),by simp only[execOp,hu,Sem.run_bind,ao9 ht hf hs a,Result.andThen_ok,Sem.run_pure],?_⟩
  obtain ⟨c2,g1,g2,g3⟩:=bfs hg hl a hc
  simp only[ig]
  exact ⟨_,c2,rfl,by rw[add_block];exact hS,g1,g3⟩
theorem by4{s:TypeId}{fs:Array Field}{f:Nat}{fd:Field}{sz:Nat}{g:Bool}(ht:D.P.underlying s=some (.struct fs))(hf:fs[f]?=some fd)(hg:ahb D.P fd.type=some g)(hs:oo D.P fd.type=some sz)(x:Operand)
    {l pre mid post:List AVal} (hx:ev st.f x=.agg l) (hl:bn4 l fd.offset sz=some (pre,mid,post)) {a:AVal} (ha:if g then a=bdu mid else mid=[a]∧∀k n l,a≠.arr k n l) :
    agk D B0 w0 st ⟨dst,.field s x f,type,pos,after,guard⟩ ⟨a,[],st.n⟩ :=
 ko fun E act w hR=>by
  have hX:=hR.ev x
  rw[hx] at hX
  simp only[ig] at hX
  obtain ⟨cs,hu,hr⟩:=hX
  obtain ⟨c1,c2,c3,rfl,g1,g2,g3,l1,l2⟩:=ayb hl hr
  have fin:∀u,(if g then u=.agg c2.toArray else c2=[u])→(execOp act.eval ⟨dst,.field s x f,type,pos,after,guard⟩).run D.P w=.ok (.value u) w:=by
   intro u hu'
   have:=btp (P:=D.P) (w:=w) hg hs c1 c2 c3 l2 u hu'
   rw[l1] at this
   simp only[execOp,hu,Instr.field,Sem.run_bind,run_underlying ht,Result.andThen_ok,hf,asAgg,Sem.run_pure,this]
  cases g with
  | true =>
   simp only[if_true] at ha
   subst ha
   exact ⟨_,fin _ (by simp),agj g2⟩
  | false =>
   simp only[if_false,Ar] at ha
   obtain ⟨rfl,ha⟩:=ha
   obtain ⟨u,rfl,_,hv⟩:=ak5 g2 ha
   exact ⟨u,fin u (by simp),hv⟩
theorem ax8{P:Program}{w:World}{t e:TypeId}{m sz:Nat}{g:Bool}(ht:P.underlying t=some (.array m e))(hs:oo P e=some sz)(hg:ahb P e=some g)(k:IntKind)(j:Nat)(hj:j<m)
    (c1 c2 c3:List Value) (h1:c1.length=j*sz) (h2:c2.length=sz) (u:Value) (hu:if g then u=.agg c2.toArray else c2=[u]) :
    (Instr.index t (.agg (c1++(c2++c3)).toArray) (.int k (j:Int))).run P w=.ok u w:=by
 have:=btp (P:=P) (w:=w) hg hs c1 c2 c3 h2 u hu
 rw[h1] at this
 simp only[Instr.index,asIntOf,Sem.run_bind,Sem.run_pure,Result.andThen_ok,run_underlying ht]
 rw[if_pos ⟨by omega,by omega⟩]
 simp only[Sem.run_bind,run_sizeOf hs,Result.andThen_ok,Au,this]
theorem bnh{t e:TypeId}{m sz:Nat}{g:Bool}(ht:D.P.underlying t=some (.array m e))(hs:oo D.P e=some sz)(hg:ahb D.P e=some g)(x i:Operand){l pre mid post:List AVal}(hx:ev st.f x=.agg l)
    {k:IntKind} {z:Int} (hi:ev st.f i=.v (.int k z)) (j:Nat) (hj:z=j) (h1:j<m) (hl:bn4 l (j*sz) sz=some (pre,mid,post)) {a:AVal} (ha:if g then a=bdu mid else mid=[a]∧∀k n l,a≠.arr k n l) :
    agk D B0 w0 st ⟨dst,.index t x i,type,pos,after,guard⟩ ⟨a,[],st.n⟩ :=
 ko fun E act w hR=>by
  have hX:=hR.ev x
  have hI:=hR.ev i
  rw[hx] at hX
  rw[hi] at hI
  simp only[ig] at hX hI
  obtain ⟨cs,hu,hr⟩:=hX
  obtain ⟨c1,c2,c3,rfl,g1,g2,g3,l1,l2⟩:=ayb hl hr
  have fin:∀u,(if g then u=.agg c2.toArray else c2=[u])→(execOp act.eval ⟨dst,.index t x i,type,pos,after,guard⟩).run D.P w=.ok (.value u) w:=by
   intro u hu'
   have:=ax8 (P:=D.P) (w:=w) ht hs hg k j h1 c1 c2 c3 l1 l2 u hu'
   simp only[execOp,hu,hI,hj,Sem.run_bind,this,Result.andThen_ok,Sem.run_pure]
  cases g with
  | true =>
   simp only[if_true] at ha
   subst ha
   exact ⟨_,fin _ (by simp),agj g2⟩
  | false =>
   simp only[if_false,Ar] at ha
   obtain ⟨rfl,ha⟩:=ha
   obtain ⟨u,rfl,_,hv⟩:=ak5 g2 ha
   exact ⟨u,fin u (by simp),hv⟩
theorem bn0{t e:TypeId}{m:Nat}(ht:D.P.underlying t=some (.array m e))(hs:oo D.P e=some 1)(hg:ahb D.P e=some false)(x i:Operand){ki:IntKind}{l:List Int}(hx:ev st.f x=.arr ki m l)
    {k:IntKind} {z:Int} (hi:ev st.f i=.v (.int k z)) (h0:0≤z) (h1:z<m) :
    agk D B0 w0 st ⟨dst,.index t x i,type,pos,after,guard⟩ ⟨.v (.int ki (l.getD z.toNat 0)),[],st.n⟩ :=
 ko fun E act w hR=>by
  have hX:=hR.ev x
  have hI:=hR.ev i
  rw[hx] at hX
  rw[hi] at hI
  simp only[ig] at hX hI
  obtain ⟨hl,hu⟩:=hX
  refine ⟨.int ki (l.getD z.toNat 0),?_,by simp only[ig]⟩
  have hz:z=(z.toNat:Int):=by omega
  have hlt:z.toNat<l.length:=by omega
  have hsplit:l.map (Value.int ki)=(l.take z.toNat).map (Value.int ki)++([Value.int ki (l.getD z.toNat 0)]++(l.drop (z.toNat+1)).map (Value.int ki)):=by
   have h3:l=l.take z.toNat++l.getD z.toNat 0::l.drop (z.toNat+1):=by
    rw[show l.getD z.toNat 0=l[z.toNat] from by simp[Ac hlt]]
    rw[List.getElem_cons_drop hlt,List.take_append_drop]
   conv=>lhs;rw[h3]
   simp
  have:=ax8 (P:=D.P) (w:=w) ht hs hg k z.toNat (by omega) ((l.take z.toNat).map (Value.int ki)) [Value.int ki (l.getD z.toNat 0)] ((l.drop (z.toNat+1)).map (Value.int ki)) (by simp;omega) rfl (.int ki (l.getD z.toNat 0)) (by simp)
  rw[←hsplit,←hz] at this
  simp only[execOp,hu,hI,Sem.run_bind,this,Result.andThen_ok,Sem.run_pure]
end
end Go.Abs
end

section
namespace Go.Abs
open Go Go.RowKit
def brg(o:Option Value)(d i:Int):Prop:=(o=none∧i=d)∨∃k,o=some (.int k i)
theorem bj3{P:Program}{w:World}(isS:Bool){lo hi mx:Option Value}{len cap:Nat}{l h m:Int}(hl:brg lo 0 l)(hh:brg hi len h)(hm:(mx=none∧m=cap)∨(∃k,mx=some (.int k m)∧hi≠none))
    (h0:0≤l) (h1:l≤h) (h2:h≤m) (h3:m≤cap):(Instr.sliceBounds isS len cap lo hi mx).run P w=.ok (l.toNat,h.toNat,m.toNat) w:=by
 have hb:∀(k:IntKind) (i:Int) (y:Nat) (c:BoundsCode),0≤i→i≤y→(Instr.sliceBound (.int k i) y c).run P w=.ok i.toNat w:=by
  intro k i y c g0 g1
  simp[Instr.sliceBound,asIntOf,g0,g1]
 rcases hm with ⟨rfl,rfl⟩ | ⟨km,rfl,hne⟩
 ·rcases hh with ⟨rfl,rfl⟩ | ⟨kh,rfl⟩
  ·rcases hl with ⟨rfl,rfl⟩ | ⟨kl,rfl⟩
   ·simp[Instr.sliceBounds]
   ·simp[Instr.sliceBounds,hb kl l len _ h0 h1]
  ·rcases hl with ⟨rfl,rfl⟩ | ⟨kl,rfl⟩
   ·simp[Instr.sliceBounds,hb kh h cap _ (by omega) (by omega)]
   ·simp[Instr.sliceBounds,hb kh h cap _ (by omega) (by omega),hb kl l h.toNat _ h0 (by omega)]
 ·rcases hh with ⟨rfl,rfl⟩ | ⟨kh,rfl⟩
  ·exact absurd rfl hne
  ·rcases hl with ⟨rfl,rfl⟩ | ⟨kl,rfl⟩
   ·simp[Instr.sliceBounds,hb km m cap _ (by omega) (by omega),hb kh h m.toNat _ (by omega) (by omega)]
   ·simp[Instr.sliceBounds,hb km m cap _ (by omega) (by omega),hb kh h m.toNat _ (by omega) (by omega),hb kl l h.toNat _ h0 (by omega)]
theorem ah6{P:Program}{w:World}{t e:TypeId}{sz:Nat}(ht:P.underlying t=some (.slice e))(hs:oo P e=some sz)(A:Option Addr){lo hi mx:Option Value}{len cap:Nat}{l h m:Int}
    (hl:brg lo 0 l) (hh:brg hi len h) (hm:(mx=none∧m=cap)∨(∃k,mx=some (.int k m)∧hi≠none))
    (h0:0≤l) (h1:l≤h) (h2:h≤m) (h3:m≤cap) :
    (Instr.sliceAt t (.slice A len cap) lo hi mx).run P w=.ok (.slice (if m.toNat=l.toNat then A else A.map (·.add (l.toNat*sz))) (h.toNat-l.toNat) (m.toNat-l.toNat)) w:=by
 simp only[Instr.sliceAt,Instr.slice,Sem.run_bind,run_underlying ht,Result.andThen_ok,bj3 true hl hh hm h0 h1 h2 h3,run_sizeOf hs,Sem.run_pure]
theorem bes{P:Program}{w:World}{t e:TypeId}{n:Nat}(ht:P.underlying t=some (.array n e))(hs:oo P e=some 1)(a:Addr){lo hi:Option Value}{l h:Int}
    (hl:brg lo 0 l) (hh:brg hi n h) (h0:0≤l) (h1:l≤h) (h2:h≤n) :
    (Instr.sliceAt t (.pointer (some a)) lo hi none).run P w=.ok (.slice (some (if n=l.toNat then a else a.add (l.toNat*1))) (h.toNat-l.toNat) (n-l.toNat)) w:=by
 have:=bj3 (P:=P) (w:=w) false (mx:=none) (cap:=n) (m:=n) hl hh (.inl ⟨rfl,rfl⟩) h0 h1 h2 (Aq _)
 simp only[Instr.sliceAt,Sem.run_bind,run_underlying ht,Result.andThen_ok,Instr.sureAddr,Sem.run_pure,this,run_sizeOf hs]
 simp
theorem Cont.bzb{c c':Cont}{l h:Nat}(hc:c.sub l h=some c')(h1:l≤h)(h2:h≤c.len):c.size=1∧c'.size=1∧c'.len=h-l∧∀S w j x,j<h-l→cellC S w c (l+j) x→cellC S w c' j x:=by
 cases c with
 | cols=>cases hc
 | ints k z =>
  cases hc
  simp only[Cont.len] at h2
  refine ⟨rfl,rfl,by simp[Cont.len];omega,fun S w j x hj hx=>?_⟩
  simp only[cellC,cell1,anp] at hx ⊢
  rw[hx]
  congr 1
  simp only[Aa,Ah,Ab]
  rw[if_pos (by omega)]
 | rows k z =>
  cases hc
  simp only[Cont.len] at h2
  refine ⟨rfl,rfl,by simp[Cont.len];omega,fun S w j x hj hx=>?_⟩
  simp only[cellC,cell1,au2] at hx ⊢
  have:(Av l (Aw h z)).getD j []=z.getD (l+j) []:=by
   simp only[Aa,Ah,Ab]
   rw[if_pos (by omega)]
  rw[this]
  exact hx
 | rows2 k z =>
  cases hc
  simp only[Cont.len] at h2
  refine ⟨rfl,rfl,by simp[Cont.len];omega,fun S w j x hj hx=>?_⟩
  simp only[cellC,cell1,avo] at hx ⊢
  have:(Av l (Aw h z)).getD j []=z.getD (l+j) []:=by
   simp only[Aa,Ah,Ab]
   rw[if_pos (by omega)]
  rw[this]
  exact hx
theorem bvr{S:Nat→Prop}{w:World}{c c':Cont}{l h m:Nat}(hc:c.sub l h=some c')(h1:l≤h)(h2:h≤m){A:Option Addr}{len cap:Nat}(hm:m≤cap)(hlen:h≤c.len)(hs:SlC S w c (.slice A len cap)) :
    SlC S w c' (.slice (if m=l then A else A.map (·.add (l*1))) (h-l) (m-l)):=by
 obtain ⟨A',cap',hu,hcap,hx⟩:=hs
 cases hu
 obtain ⟨s1,s2,s3,hcell⟩:=Cont.bzb hc h1 hlen
 refine ⟨_,_,by rw[s3],by rw[s3];omega,fun hpos=>?_⟩
 rw[s3] at hpos
 obtain ⟨a,rfl,hS,hx⟩:=hx (by omega)
 rw[if_neg (by omega)]
 refine ⟨a.add (l*1),rfl,by rw[add_block];exact hS,fun j hj=>?_⟩
 rw[s2,s3] at hj
 obtain ⟨x,g1,g2⟩:=hx (l+j) (by rw[s1];omega)
 exact ⟨x,by rw[add_add,Ag];exact g1,hcell S w j x (by omega) g2⟩
section
variable {D:Ctx} {B0:Nat} {w0:W0} {st:ASt} {dst:Option Tmp} {type:TypeId} {pos:String} {after:Array Edge} {guard:Option (Nat×Bool)}
def abz(D:Ctx)(B0:Nat)(w0:W0)(st:ASt)(o:Option Operand)(v:Option Int):Prop :=
 (o=none∧v=none)∨∃x k i,o=some x∧v=some i∧ev st.f x=.v (.int k i)
theorem abz.azr{o:Option Operand}{v:Option Int}(h:abz D B0 w0 st o v){E:Env}{act:Act}{w:World}(hR:Rel D B0 w0 E st act w)(d:Int):brg (o.map act.eval) d (v.getD d):=by
 rcases h with ⟨rfl,rfl⟩ | ⟨x,k,i,rfl,rfl,hx⟩
 ·exact .inl ⟨rfl,rfl⟩
 ·have:=hR.ev x
  rw[hx] at this
  simp only[ig] at this
  exact .inr ⟨k,by simp[this]⟩
theorem bru{t e:TypeId}{sz:Nat}(ht:D.P.underlying t=some (.slice e))(hs:oo D.P e=some sz)(x:Operand)(lo hi:Option Operand){vl vh:Option Int}(hvl:abz D B0 w0 st lo vl)(hvh:abz D B0 w0 st hi vh)
    {c c':Cont} (hx:ev st.f x=.sl c) (h0:0≤vl.getD 0) (h1:vl.getD 0≤vh.getD (c.len:Int)) (h2:vh.getD (c.len:Int)≤(c.len:Int)) (hc:c.sub (vl.getD 0).toNat (vh.getD (c.len:Int)).toNat=some c') (hsz:sz=1) :
    agk D B0 w0 st ⟨dst,.slice t x lo hi none,type,pos,after,guard⟩ ⟨.sl c',[],st.n⟩ :=
 ko fun E act w hR=>by
  have hX:=hR.ev x
  rw[hx] at hX
  simp only[ig] at hX
  obtain ⟨A,cap,hu,hcap,_⟩:=(show _ from hX)
  have hr:=ah6 (P:=D.P) (w:=w) ht hs A (mx:=none) (m:=cap) (hvl.azr hR 0) (hvh.azr hR (c.len:Int)) (.inl ⟨rfl,rfl⟩) h0 h1 (by omega) (Aq _)
  subst hsz
  rw[hu] at hX
  refine ⟨_,by simp only[execOp,hu,Al,Sem.run_bind,hr,Result.andThen_ok,Sem.run_pure];rfl,?_⟩
  simp only[ig]
  exact bvr hc (by omega) (by omega) (by omega) (by omega) hX
theorem bon{t e:TypeId}{sz:Nat}(ht:D.P.underlying t=some (.slice e))(hs:oo D.P e=some sz)(x:Operand)(hA:∀E act w,Rel D B0 w0 E st act w→∃a len cap,act.eval x=.slice a len cap) :
    agk D B0 w0 st ⟨dst,.slice t x none none none,type,pos,after,guard⟩ ⟨ev st.f x,[],st.n⟩ :=
 ko fun E act w hR=>by
  have hX:=hR.ev x
  obtain ⟨a,len,cap,hu⟩:=hA E act w hR
  have hrb:(Instr.sliceBounds true len cap none none none).run D.P w=.ok (0,len,cap) w:=by simp[Instr.sliceBounds]
  have hr:(Instr.sliceAt t (.slice a len cap) none none none).run D.P w=.ok (.slice a len cap) w:=by
   simp only[Instr.sliceAt,Instr.slice,Sem.run_bind,run_underlying ht,Result.andThen_ok,hrb,run_sizeOf hs,Sem.run_pure]
   congr 1
   simp only[Nat.sub_zero,Nat.zero_mul]
   congr 1
   split
   ·rfl
   ·cases a<;>simp[Addr.add]
  refine ⟨act.eval x,?_,hX⟩
  simp only[execOp,hu,Al,Sem.run_bind,hr,Result.andThen_ok,Sem.run_pure]
theorem bc9{t e:TypeId}{sz:Nat}(ht:D.P.underlying t=some (.slice e))(hs:oo D.P e=some sz)(x:Operand)(lo hi:Option Operand){vl vh:Option Int}(hvl:abz D B0 w0 st lo vl)(hvh:abz D B0 w0 st hi vh)
    {id:Nat} {e':TypeId} {c:Cont} {f:Bool} (hb:iw st.h id=some ⟨.row e' c,f⟩) (hx:ev st.f x=.own id) (h0:0≤vl.getD 0) (h1:vl.getD 0≤vh.getD (c.len:Int)) (h2:vh.getD (c.len:Int)≤(c.len:Int)) (hsz:sz=1∨vl.getD 0=0) :
    agk D B0 w0 st ⟨dst,.slice t x lo hi none,type,pos,after,guard⟩ ⟨.win id (vl.getD 0).toNat (vh.getD (c.len:Int)-vl.getD 0).toNat,[],st.n⟩ :=
 ko fun E act w hR=>by
  have hX:=hR.ev x
  rw[hx] at hX
  simp only[ig] at hX
  obtain ⟨v,hv,⟨xs,ho,_⟩,_⟩:=hR.heap _ _ hb
  rw[hX] at hv
  cases hv
  obtain ⟨A,n,cap,hu,hn,hcap⟩:∃A n cap,act.eval x=.slice A n cap∧n=c.len∧n≤cap:=by
   rcases (show _ from ho.2) with ⟨h,h'⟩ | ⟨g,cap,cur,h,_,_,hn,_⟩
   ·exact ⟨none,0,0,h,h'.symm,Ai _⟩
   ·exact ⟨_,_,_,h,rfl,hn⟩
  subst hn
  have hr:=ah6 (P:=D.P) (w:=w) ht hs A (mx:=none) (m:=cap) (hvl.azr hR 0) (hvh.azr hR (c.len:Int)) (.inl ⟨rfl,rfl⟩) h0 h1 (by omega) (Aq _)
  refine ⟨_,by simp only[execOp,hu,Al,Sem.run_bind,hr,Result.andThen_ok,Sem.run_pure];rfl,?_⟩
  simp only[ig]
  refine ⟨A,c.len,cap,by rw[hX,hu],by omega,?A',fun hlen=>?h1,fun hoff=>?h2,?h3⟩
  case h3 =>
   simp only[Au]
   rw[show (vh.getD (c.len:Int)).toNat-(vl.getD 0).toNat=(vh.getD (c.len:Int)-vl.getD 0).toNat from by omega]
  ·have e1:(vl.getD 0).toNat*sz=(vl.getD 0).toNat:=by rcases hsz with h | h<;>simp[h]
   rw[if_neg (by omega),e1]
  ·split
   ·rfl
   ·rw[hoff];cases A<;>simp[Addr.add]
theorem boi{t e:TypeId}(ht:D.P.underlying t=some (.slice e))(hs:oo D.P e=some 1)(x:Operand)(lo hi:Option Operand){vl vh:Option Int}(hvl:abz D B0 w0 st lo vl)(hvh:abz D B0 w0 st hi vh)
    {id off len:Nat} {e':TypeId} {c:Cont} {f:Bool} (hb:iw st.h id=some ⟨.row e' c,f⟩) (hx:ev st.f x=.win id off len) (h0:0≤vl.getD 0) (h1:vl.getD 0≤vh.getD (len:Int)) (h2:vh.getD (len:Int)≤(len:Int)) :
    agk D B0 w0 st ⟨dst,.slice t x lo hi none,type,pos,after,guard⟩ ⟨.win id (off+(vl.getD 0).toNat) (vh.getD (len:Int)-vl.getD 0).toNat,[],st.n⟩ :=
 ko fun E act w hR=>by
  have hX:=hR.ev x
  rw[hx] at hX
  simp only[ig] at hX
  obtain ⟨A,n,cap,hρ,hle,A',hA1,hA2,hu⟩:=hX
  have hcap:n≤cap:=by
   obtain ⟨v,hv,⟨xs,ho,_⟩,_⟩:=hR.heap _ _ hb
   rw[hρ] at hv
   cases hv
   cases A with
   | none=>have:=acs ho rfl;omega
   | some a=>obtain ⟨g1,g2,_⟩:=ac5 ho rfl;omega
  have hr:=ah6 (P:=D.P) (w:=w) ht hs A' (mx:=none) (len:=len) (cap:=cap-off) (m:=(cap-off:Nat)) (hvl.azr hR 0) (hvh.azr hR (len:Int)) (.inl ⟨rfl,rfl⟩) h0 h1 (by omega) (Aq _)
  refine ⟨_,by simp only[execOp,hu,Al,Sem.run_bind,hr,Result.andThen_ok,Sem.run_pure];rfl,?_⟩
  simp only[ig]
  refine ⟨A,n,cap,hρ,by omega,?A',fun hlen=>?h1,fun hoff=>?h2,?h3⟩
  case h3 =>
   simp only[Au,Ag]
   rw[show (vh.getD (len:Int)).toNat-(vl.getD 0).toNat=(vh.getD (len:Int)-vl.getD 0).toNat from by omega,Nat.sub_sub]
  ·rw[if_neg (by omega),hA1 (by omega)]
   cases A<;>simp[add_add]
  ·rw[hA2 (by omega),show (vl.getD 0).toNat=0 from by omega]
   split
   ·rfl
   ·cases A<;>simp[Addr.add]
theorem blh{t e:TypeId}(ht:D.P.underlying t=some (.slice e))(hs:oo D.P e=some 1)(x:Operand)(lo hi:Option Operand){vl vh:Option Int}(hvl:abz D B0 w0 st lo vl)(hvh:abz D B0 w0 st hi vh)
    {id off m wl len:Nat} (hx:ev st.f x=.awin id off m wl len) (h0:0≤vl.getD 0) (h1:vl.getD 0≤vh.getD (len:Int)) (h2:vh.getD (len:Int)≤(len:Int)) :
    agk D B0 w0 st ⟨dst,.slice t x lo hi none,type,pos,after,guard⟩ ⟨.awin id off m (wl+(vl.getD 0).toNat) (vh.getD (len:Int)-vl.getD 0).toNat,[],st.n⟩ :=
 ko fun E act w hR=>by
  have hX:=hR.ev x
  rw[hx] at hX
  simp only[ig] at hX
  obtain ⟨b,A,cap,hρ,hle,hcap,hA,hu⟩:=hX
  have hr:=ah6 (P:=D.P) (w:=w) ht hs A (mx:=none) (len:=len) (cap:=cap) (m:=cap) (hvl.azr hR 0) (hvh.azr hR (len:Int)) (.inl ⟨rfl,rfl⟩) h0 h1 (by omega) (Aq _)
  refine ⟨_,by simp only[execOp,hu,Al,Sem.run_bind,hr,Result.andThen_ok,Sem.run_pure];rfl,?_⟩
  simp only[ig]
  refine ⟨b,?A',?c',hρ,by omega,?h1,fun hlen=>?h2,?h3⟩
  case h3 =>
   rw[show (vh.getD (len:Int)).toNat-(vl.getD 0).toNat=(vh.getD (len:Int)-vl.getD 0).toNat from by omega]
  ·omega
  ·rw[if_neg (by omega),hA (by omega)]
   simp[y5,A8]
theorem boy{t e:TypeId}{m:Nat}(ht:D.P.underlying t=some (.array m e))(hs:oo D.P e=some 1)(x:Operand)(lo hi:Option Operand){vl vh:Option Int}(hvl:abz D B0 w0 st lo vl)(hvh:abz D B0 w0 st hi vh)
    {id off:Nat} (hx:ev st.f x=.ptr id off) (h0:0≤vl.getD 0) (h1:vl.getD 0≤vh.getD (m:Int)) (h2:vh.getD (m:Int)≤(m:Int)) :
    agk D B0 w0 st ⟨dst,.slice t x lo hi none,type,pos,after,guard⟩ ⟨.awin id off m (vl.getD 0).toNat (vh.getD (m:Int)-vl.getD 0).toNat,[],st.n⟩ :=
 ko fun E act w hR=>by
  have hX:=hR.ev x
  rw[hx] at hX
  simp only[ig] at hX
  obtain ⟨b,hρ,hu⟩:=hX
  have hr:=bes (P:=D.P) (w:=w) ht hs ⟨b,off,none⟩ (hvl.azr hR 0) (hvh.azr hR (m:Int)) h0 h1 h2
  refine ⟨_,by simp only[execOp,hu,Al,Sem.run_bind,hr,Result.andThen_ok,Sem.run_pure];rfl,?_⟩
  simp only[ig]
  refine ⟨b,?A',?c',hρ,by omega,?h1,fun hlen=>?h2,?h3⟩
  case h3 =>
   rw[show (vh.getD (m:Int)).toNat-(vl.getD 0).toNat=(vh.getD (m:Int)-vl.getD 0).toNat from by omega]
  ·omega
  ·rw[if_neg (by omega)]
   simp[y5]
theorem bl5{hl:Nat→Option Blk}(hm:∀id b,hl id=some b→iw st.h id=some b){x:AVal}{n:Nat}(h:byw hl x=some n){E:Env}{act:Act}{w:World}(hR:Rel D B0 w0 E st act w){u:Value}(hu:ig E w x u) :
    ∃A cap,u=.slice A n cap:=by
 unfold byw at h
 split at h
 ·cases h
  simp only[ig] at hu
  obtain ⟨A,cap,rfl,hc,_⟩:=hu
  exact ⟨A,cap,rfl⟩
 ·rename_i id
  split at h
  ·rename_i e c f hb
   cases h
   simp only[ig] at hu
   obtain ⟨v,hv,⟨xs,ho,_⟩,_⟩:=hR.heap _ _ (hm _ _ hb)
   rw[hu] at hv
   cases hv
   rcases ho.2 with ⟨rfl,h0⟩ | ⟨g,cap,cur,rfl,_⟩
   ·exact ⟨none,0,by rw[h0]⟩
   ·exact ⟨_,cap,rfl⟩
  ·cases h
 ·cases h
  simp only[ig] at hu
  obtain ⟨A,n,cap,_,_,A',_,_,rfl⟩:=hu
  exact ⟨_,_,rfl⟩
 ·cases h
  simp only[ig] at hu
  obtain ⟨b,A,cap,_,_,_,_,rfl⟩:=hu
  exact ⟨_,_,rfl⟩
 ·cases h
  simp only[ig] at hu
  exact ⟨_,_,hu⟩
 ·cases h
theorem b8u{hl:Nat→Option Blk}(hm:∀id b,hl id=some b→iw st.h id=some b)(x:Operand){t:TypeId}{at_:Array TypeId}(hat:at_[0]?=some t){e:TypeId}(ht:D.P.underlying t=some (.slice e)){n:Nat}(h:byw hl (ev st.f x)=some n) :
    agk D B0 w0 st ⟨dst,.call ⟨.builtin .len,#[x],at_⟩,type,pos,after,guard⟩ ⟨.v (.int .i64 (n:Int)),[],st.n⟩ :=
 ko fun E act w hR=>by
  obtain ⟨A,cap,hu⟩:=bl5 hm h hR (hR.ev x)
  refine ⟨.int .i64 (n:Int),?_,by simp only[ig]⟩
  simp[execOp,resolve,invoke,builtin,Builtin.len_,hat,hu,run_underlying ht,goInt]
theorem b98(x y:Operand){at_:Array TypeId}{k k':IntKind}{a b:Int}(hx:ev st.f x=.v (.int k a))(hy:ev st.f y=.v (.int k' b)) :
    agk D B0 w0 st ⟨dst,.call ⟨.builtin .min,#[x,y],at_⟩,type,pos,after,guard⟩ ⟨.v (.int k (cond (decide (b<a)) b a)),[],st.n⟩ :=
 ko fun E act w hR=>by
  have h1:=hR.ev x
  have h2:=hR.ev y
  rw[hx] at h1
  rw[hy] at h2
  simp only[ig] at h1 h2
  refine ⟨.int k (cond (decide (b<a)) b a),?_,by simp only[ig]⟩
  simp only[Bool.cond_decide]
  simp[execOp,resolve,invoke,builtin,Builtin.min_,h1,h2,Builtin.min2]
theorem b60(x y:Operand){at_:Array TypeId}{k k':IntKind}{a b:Int}(hx:ev st.f x=.v (.int k a))(hy:ev st.f y=.v (.int k' b)) :
    agk D B0 w0 st ⟨dst,.call ⟨.builtin .max,#[x,y],at_⟩,type,pos,after,guard⟩ ⟨.v (.int k (cond (decide (b>a)) b a)),[],st.n⟩ :=
 ko fun E act w hR=>by
  have h1:=hR.ev x
  have h2:=hR.ev y
  rw[hx] at h1
  rw[hy] at h2
  simp only[ig] at h1 h2
  refine ⟨.int k (cond (decide (b>a)) b a),?_,by simp only[ig]⟩
  simp only[Bool.cond_decide]
  simp[execOp,resolve,invoke,builtin,Builtin.max_,h1,h2,Builtin.max2]
end
end Go.Abs
end

section
namespace Go.Abs
open Go Go.RowKit
section
variable {D:Ctx} {B0:Nat} {w0:W0} {E:Env} {st:ASt} {act:Act} {w:World}
def boh(E:Env)(h:Hp)(p:Nat→Prop)(k:Nat):Prop :=
 ∃d c u,p d∧iw h d=some c∧c.frz=false∧E.ρ d=some u∧jk u=some k
theorem bbg(h:Rel D B0 w0 E st act w){E':Env}{w':World}(hS:E'.S=E.S)(hρ:∀id u,E.ρ id=some u→E'.ρ id=some u){x:Nat}(hρ2:∀id u,E'.ρ id=some u→id=x∨E.ρ id=some u)(hb:Below B0 w w')
    {b:Blk} {dead:Nat→Prop} {h':Hp} (hl1:iw h' x=some b) (hl2:∀id c,id≠x→iw h' id=some c→iw st.h id=some c∧¬dead id)
    (hB:bdm E' w' B0 x b) (hfr:b.frz=false)
    (hch:∀k,k<w.heap.size→w'.heap[k]?=w.heap[k]?∨boh E st.h (fun d=>dead d∨d=x) k)
    (hux0:∀u k,E'.ρ x=some u→jk u=some k→w.heap.size≤k∨boh E st.h (fun d=>dead d∨d=x) k) (n:Nat) :
    Rel D B0 w0 E' { st with h:=h',n:=n } act w'∧Up E E' w w':=by
 have hSk:∀k,E.S k→w'.heap[k]?=w.heap[k]?:=by
  intro k hk
  rcases hch k (h.sOld k hk) with e | ⟨d,c,u,_,hd,hc,hu,hv⟩
  ·exact e
  ·obtain ⟨u',hu',_,hns,_⟩:=h.heap d c hd
   rw[hu] at hu'
   cases hu'
   exact absurd hk (hns hc k hv)
 have up:Up E E' w w':=⟨⟨fun b hb=>by rw[hS];exact hb,hSk⟩,hρ⟩
 have oth:∀id c,id≠x→iw h' id=some c→∀u k,E.ρ id=some u→jk u=some k→w'.heap[k]?=w.heap[k]?:=by
  intro id c hid hc u k hu hk
  obtain ⟨hc',hnd⟩:=hl2 id c hid hc
  have hlt:=(h.heap id c hc').lt hu hk
  rcases hch k hlt.2 with e | ⟨d,c2,u2,hd,hd2,hf2,hu2,hv2⟩
  ·exact e
  ·cases hf:c.frz with
   | false =>
    have hne:id≠d:=by rintro rfl;exact hd.elim hnd hid
    exact absurd hv2 (h.apart id d c c2 u u2 k hc' hf hd2 hf2 hne hu hu2 hk)
   | true =>
    obtain ⟨u',hu',_,_,hs⟩:=h.heap id c hc'
    rw[hu] at hu'
    cases hu'
    exact hSk k (hs hf k hk)
 refine ⟨h.step up hb n (fun id c hc=>?_) (fun id id' c c' u u' k hc hf hc' hf' hne hu1 hu2 hk hk'=>?_) (fun k hk=>?_) (fun id u hu=>?_),up⟩
 ·by_cases hid:id=x
  ·subst hid
   rw[hl1] at hc
   cases hc
   exact hB
  ·exact (h.heap id c (hl2 id c hid hc).1).mono up (fun u j=>oth id c hid hc u j) (fun _ _ _ _ _ hs=>by rw[hS] at hs;exact hs)
 ·-- apart
  have live:∀i c,i≠x→iw h' i=some c→∃u,E.ρ i=some u∧E'.ρ i=some u:=by
   intro i c hi hc
   obtain ⟨u,hu,_⟩:=h.heap i c (hl2 i c hi hc).1
   exact ⟨u,hu,hρ i u hu⟩
  have other:∀i c u,i≠x→iw h' i=some c→c.frz=false→E'.ρ i=some u→∀ux k,E'.ρ x=some ux→jk ux=some k→jk u≠some k:=by
   intro i c u hi hc hf hu ux k hux hkx hk
   obtain ⟨v,hv,hv'⟩:=live i c hi hc
   rw[hu] at hv'
   cases hv'
   obtain ⟨hc',hnd⟩:=hl2 i c hi hc
   rcases hux0 ux k hux hkx with hge | ⟨d,c2,u2,hd,hd2,hf2,hu2,hv2⟩
   ·have:=(h.heap i c hc').lt hv hk
    omega
   ·have hne:i≠d:=by rintro rfl;exact hd.elim hnd hi
    exact h.apart i d c c2 u u2 k hc' hf hd2 hf2 hne hv hu2 hk hv2
  by_cases h1:id=x
  ·subst h1
   exact other id' c' u' (Ne.symm hne) hc' hf' hu2 u k hu1 hk hk'
  ·by_cases h2:id'=x
   ·subst h2
    exact other id c u h1 hc hf hu1 u' k hu2 hk' hk
   ·obtain ⟨v,hv,hv'⟩:=live id c h1 hc
    obtain ⟨v',hv2,hv2'⟩:=live id' c' h2 hc'
    rw[hu1] at hv'
    cases hv'
    rw[hu2] at hv2'
    cases hv2'
    exact h.apart id id' c c' u u' k (hl2 id c h1 hc).1 hf (hl2 id' c' h2 hc').1 hf' hne hv hv2 hk hk'
 ·rw[hS] at hk
  exact .inl hk
 ·rcases hρ2 id u hu with rfl | hu'
  ·exact .inl (hB.form hu)
  ·exact h.form id u hu'
theorem brp(h:Rel D B0 w0 E st act w){x:Nat}{b:Blk}(hx:iw st.h x=some b) :
    ∃E',E'.ρ=E.ρ∧Up E E' w w∧Rel D B0 w0 E' { st with h:=(x,some ⟨b.b,true⟩)::st.h } act w∧(∀u k,E.ρ x=some u→jk u=some k→E'.S k):=by
 let E':Env:=⟨fun k=>E.S k∨∃u,E.ρ x=some u∧jk u=some k,E.ρ⟩
 have up:Up E E' w w:=⟨⟨fun _ h=>.inl h,fun _ _=>rfl⟩,fun _ _ h=>h⟩
 have hx':=h.heap x b hx
 have look':∀id c,iw ((x,some ⟨b.b,true⟩)::st.h) id=some c→(id=x∧c=⟨b.b,true⟩)∨(id≠x∧iw st.h id=some c):=by
  intro id c hc
  simp only[iw] at hc
  cases he:Ao x id with
  | true=>rw[he] at hc;cases hc;exact .inl ⟨(Af he).symm,rfl⟩
  | false=>rw[he] at hc;exact .inr ⟨fun e=>Az he e.symm,hc⟩
 refine ⟨E',rfl,up,?_,fun u k hu hk=>.inr ⟨u,hu,hk⟩⟩
 refine h.step up (Below.refl _ _) st.n (fun id c hc=>?_) (fun id id' c c' u u' k hc hf hc' hf' hne hu1 hu2 hk hk'=>?_) (fun k hk=>?_) h.form
 ·rcases look' id c hc with ⟨rfl,rfl⟩ | ⟨hid,hc⟩
  ·obtain ⟨u,hu,hb,_,_⟩:=hx'
   refine ⟨u,hu,?_,(fun hf=>by cases hf),fun _ k hk=>.inr ⟨u,hu,hk⟩⟩
   cases hbb:b.b with
   | row e c =>
    rw[hbb] at hb
    obtain ⟨xs,ho,hxs⟩:=hb
    exact ⟨xs,ho,fun j y hy=>⟨(hxs j y hy).1,cellC.mono up.keeps (hxs j y hy).2⟩⟩
   | box e l =>
    rw[hbb] at hb
    obtain ⟨k,cs,h1,h2,h3,h4⟩:=hb
    exact ⟨k,cs,h1,h2,h3,qw.mono up l _ h4⟩
  ·exact (h.heap id c hc).mono up (fun _ _ _ _=>rfl) (fun hf u j hu hj hs=>by
     rcases hs with hs | ⟨v,hv,hvj⟩
     ·exact hs
     ·cases hbf:b.frz with
      | false=>exact absurd hvj (h.apart id x c b u v j hc hf hx hbf hid hu hv hj)
      | true =>
       obtain ⟨v',hv',_,_,hs⟩:=hx'
       rw[hv] at hv'
       cases hv'
       exact hs hbf j hvj)
 ·rcases look' id c hc with ⟨rfl,rfl⟩ | ⟨hid,hc⟩
  ·cases hf
  ·rcases look' id' c' hc' with ⟨rfl,rfl⟩ | ⟨hid',hc'⟩
   ·cases hf'
   ·exact h.apart id id' c c' u u' k hc hf hc' hf' hne hu1 hu2 hk hk'
 ·rcases hk with hk | ⟨u,hu,hk⟩
  ·exact .inl hk
  ·exact .inr (hx'.lt hu hk)
theorem acp{hl:Nat→Option Blk}(hm:∀id b,hl id=some b→iw st.h id=some b):∀(ids:List Nat) (h:Rel D B0 w0 E st act w),
    ∃E',E'.ρ=E.ρ∧Up E E' w w∧Rel D B0 w0 E' { st with h:=tq (freeze hl ids []) st.h } act w ∧
     (∀id,id∈ids→∀b u k,hl id=some b→E.ρ id=some u→jk u=some k→E'.S k) ∧
     (∀id b,iw (tq (freeze hl ids []) st.h) id=some b→∃b',iw st.h id=some b'∧b'.b=b.b)
 | [],h=>⟨E,rfl,Up.refl _ _,h,by simp,fun id b hb=>⟨b,hb,rfl⟩⟩
 | x::r,h=>by
  obtain ⟨E1,hρ,up,hR,hS,hsame⟩:=acp hm r h
  simp only[freeze]
  cases hx:hl x with
  | none =>
   refine ⟨E1,hρ,up,hR,fun id hid b u k hb=>?_,hsame⟩
   rcases List.mem_cons.1 hid with rfl | hid
   ·rw[hx] at hb;cases hb
   ·exact hS id hid b u k hb
  | some b =>
   simp only[tq]
   -- the block as it is now
   have hx1:=hm x b hx
   have hfz:∀(ids:List Nat) (h0:Hp),iw (tq (freeze hl ids []) h0) x=iw h0 x∨iw (tq (freeze hl ids []) h0) x=some ⟨b.b,true⟩:=by
    intro ids h0
    induction ids with
    | nil=>exact .inl rfl
    | cons y r ih =>
     simp only[freeze]
     cases hy:hl y with
     | none=>exact ih
     | some c =>
      simp only[tq,iw]
      cases he:Ao y x with
      | true =>
       have:=Af he
       subst this
       rw[hx] at hy
       cases hy
       exact .inr rfl
      | false=>exact ih
   have hx2:∃c,iw (tq (freeze hl r []) st.h) x=some c∧c.b=b.b:=by
    rcases hfz r st.h with e | e
    ·exact ⟨b,by rw[e];exact hx1,rfl⟩
    ·exact ⟨_,e,rfl⟩
   obtain ⟨c,hc,hcb⟩:=hx2
   obtain ⟨E2,hρ2,up2,hR2,hS2⟩:=brp hR hc
   rw[hcb] at hR2
   refine ⟨E2,hρ2.trans hρ,up.trans up2,hR2,fun id hid b' u k hb hu hk=>?_,fun id b' hb'=>?_⟩
   ·rcases List.mem_cons.1 hid with rfl | hid
    ·exact hS2 u k (by rw[hρ];exact hu) hk
    ·exact up2.keeps.sub _ (hS id hid b' u k hb hu hk)
   ·simp only[iw] at hb'
    cases he:Ao x id with
    | true =>
     rw[he] at hb'
     cases hb'
     have:=Af he
     subst this
     exact ⟨b,hx1,rfl⟩
    | false=>rw[he] at hb';exact hsame id b' hb'
end
def upd(ρ:Nat→Option Value)(x:Nat)(u:Value)(id:Nat):Option Value:=if id=x then some u else ρ id
theorem upd_same(ρ:Nat→Option Value)(x:Nat)(u:Value):upd ρ x u x=some u:=by simp[upd]
theorem bfu{ρ:Nat→Option Value}{x:Nat}{u:Value}(h:ρ x=none):∀id v,ρ id=some v→upd ρ x u id=some v:=by
 intro id v hv
 unfold upd
 split
 ·rename_i e;subst e;rw[h] at hv;cases hv
 ·exact hv
section
variable {D:Ctx} {B0:Nat} {w0:W0} {E:Env} {st:ASt} {act:Act} {w:World}
theorem vo{h:Hp}{x id:Nat}{b:Option Blk}(hne:id≠x):iw ((x,b)::h) id=iw h id:=by
 simp only[iw]
 rw[show Ao x id=false from by
  cases he:Ao x id with
  | false=>rfl
  | true=>exact absurd (Af he).symm hne]
 rfl
theorem yt{h:Hp}{x:Nat}{b:Option Blk}:iw ((x,b)::h) x=b:=by
 simp only[iw]
 rw[show Ao x x=true from by
  cases he:Ao x x with
  | true=>rfl
  | false=>exact absurd rfl (Az he)]
 rfl
theorem ayl(h:Rel D B0 w0 E st act w){x:Nat}(hx:E.ρ x=none)(cs:Array Value)(e:TypeId){u:Value}{b:Bk}(hv:jk u=some w.heap.size)
    (hB:bdm ⟨E.S,upd E.ρ x u⟩ (w.alloc (.cells cs e)) B0 x ⟨b,false⟩) (n:Nat) :
    Rel D B0 w0 ⟨E.S,upd E.ρ x u⟩ { st with h:=(x,some ⟨b,false⟩)::st.h,n:=n } act (w.alloc (.cells cs e))∧Up E ⟨E.S,upd E.ρ x u⟩ w (w.alloc (.cells cs e)):=by
 refine bbg h (E':=⟨E.S,upd E.ρ x u⟩) rfl (bfu hx) (x:=x) (fun id u hu=>by
     by_cases e:id=x
     ·exact .inl e
     ·simp only[upd,if_neg e] at hu;exact .inr hu) ((Below.refl _ _).alloc h.base _) (b:=⟨b,false⟩) (dead:=fun _=>False) yt
  (fun id c hid hc=>⟨by rw[vo hid] at hc;exact hc,fun h=>h⟩) hB rfl (fun k hk=>.inl (heap_alloc_old w _ k hk)) (fun u' k hu' hk=>?_) n
 simp only[upd_same] at hu'
 cases hu'
 rw[hv] at hk
 cases hk
 exact .inl (Ai _)
end
end Go.Abs
end

section
namespace Go.Abs
open Go Go.RowKit
theorem ay8{k:IntKind}:∀(n:Nat) (cs:List Value) (l:List Int) (r:List Value),amt k n cs=some (l,r)→l.length=n∧cs=l.map (Value.int k)++r
 | 0,cs,l,r,h=>by simp only[amt] at h;cases h;exact ⟨rfl,rfl⟩
 | n+1,cs,l,r,h=>by
  match cs with
  | []=>simp[amt] at h
  | .int k' x::cs =>
   simp only[amt] at h
   cases hk:aw1 k k' with
   | false=>rw[hk] at h;cases h
   | true =>
    rw[hk] at h
    simp only[cond_true] at h
    cases ht:amt k n cs with
    | none=>rw[ht] at h;cases h
    | some p =>
     obtain ⟨l',r'⟩:=p
     rw[ht] at h
     cases h
     obtain ⟨h1,h2⟩:=ay8 n cs l' r ht
     have:=agf hk
     subst this
     exact ⟨by simp[h1],by simp[h2]⟩
  | .bool _::_ | .float _ _::_ | .complex _ _ _::_ | .string _::_ | .pointer _::_ | .slice _ _ _::_ | .map _::_ | .chan _::_ | .func _ _ _::_ | .nilFunc::_ | .iface _ _::_ | .nilIface::_ | .agg _::_ | .tuple _::_=>simp[amt] at h
section
variable (E:Env) (w:World) (P:Program)
theorem ba0:∀d,
    (∀t cs l r,comps P d t cs=some (l,r)→∃c1,cs=c1++r∧qw E w l c1) ∧
    (∀fs cs l r,bkf P d fs cs=some (l,r)→∃c1,cs=c1++r∧qw E w l c1) ∧
    (∀e n cs l r,bi4 P d e n cs=some (l,r)→∃c1,cs=c1++r∧qw E w l c1)
 | 0=>⟨fun _ _ _ _ h=>by simp[comps] at h,fun _ _ _ _ h=>by simp[bkf] at h,fun _ _ _ _ _ h=>by simp[bi4] at h⟩
 | d+1=>by
  obtain ⟨ih1,ih2,ih3⟩:=ba0 d
  refine ⟨fun t cs l r h=>?_,fun fs cs l r h=>?_,fun e n cs l r h=>?_⟩
  ·simp only[comps] at h
   split at h
   ·exact ih2 _ _ _ _ h
   ·split at h
    ·split at h
     ·rename_i l' r' ht
      cases h
      obtain ⟨h1,h2⟩:=ay8 _ _ _ _ ht
      refine ⟨_,h2,?_⟩
      have:=fun k=>abo (E:=E) (w:=w) (k:=k) (r:=[]) (cs':=[]) h1 rfl
      simpa using this _
     ·cases h
    ·exact ih3 _ _ _ _ _ h
   ·split at h
    ·cases h
    ·cases h
    ·cases h
    ·rename_i x r' hx1 hx2
     cases h
     refine ⟨[x],rfl,om (by simp) ?_ (by simp only[ig]) (by simp only[qw])⟩
     cases x<;>first | rfl | exact absurd rfl (hx1 _) | exact absurd rfl (hx2 _)
  ·match fs with
   | []=>simp only[bkf] at h;cases h;exact ⟨[],rfl,by simp only[qw]⟩
   | f::fs =>
    simp only[bkf] at h
    split at h
    ·rename_i a cs1 ha
     split at h
     ·rename_i b cs2 hb
      cases h
      obtain ⟨c1,rfl,g1⟩:=ih1 _ _ _ _ ha
      obtain ⟨c2,rfl,g2⟩:=ih2 _ _ _ _ hb
      exact ⟨c1++c2,by simp,ad9 _ _ _ _ g1 g2⟩
     ·cases h
    ·cases h
  ·match n with
   | 0=>simp only[bi4] at h;cases h;exact ⟨[],rfl,by simp only[qw]⟩
   | n+1 =>
    simp only[bi4] at h
    split at h
    ·rename_i a cs1 ha
     split at h
     ·rename_i b cs2 hb
      cases h
      obtain ⟨c1,rfl,g1⟩:=ih1 _ _ _ _ ha
      obtain ⟨c2,rfl,g2⟩:=ih3 _ _ _ _ _ hb
      exact ⟨c1++c2,by simp,ad9 _ _ _ _ g1 g2⟩
     ·cases h
    ·cases h
theorem ado{t:TypeId}{l:List AVal}(h:agy P t=some l):∃i z,P.info? t=some i∧i.zero=some z∧qw E w l z.cells.toList:=by
 unfold agy at h
 split at h
 ·rename_i i hi
  split at h
  ·rename_i z hz
   split at h
   ·rename_i l' hc
    cases h
    obtain ⟨c1,h1,h2⟩:=(ba0 E w P 24).1 _ _ _ _ hc
    simp at h1
    exact ⟨i,z,hi,hz,by rw[h1];exact h2⟩
   ·cases h
  ·cases h
 ·cases h
theorem bjv:∀(l:List AVal) (vs:List Value),awy l=some vs→∀cs,qw E w l cs→cs=vs
 | [],vs,h,cs,hr=>by simp only[awy] at h;cases h;simpa only[qw] using hr
 | a::r,vs,h,cs,hr=>by
  cases a with
  | v x =>
   have hx:(∀c,x≠.agg c)∧(∀c,x≠.tuple c)∧(match awy r with | some l=>some (x::l) | none=>none)=some vs:=by
    cases x<;>simp[awy] at h ⊢<;>exact h
   obtain ⟨_,_,h⟩:=hx
   rcases y8 hr with ⟨_,_,_,_,he,_⟩ | ⟨_,u,cs',rfl,_,h3,h4⟩
   ·cases he
   ·simp only[ig] at h3
    subst h3
    cases hf:awy r with
    | none=>rw[hf] at h;cases h
    | some l =>
     rw[hf] at h
     cases h
     rw[bjv r l hf cs' h4]
  | _=>simp[awy] at h
theorem be3{t:TypeId}{l:List AVal}{cs:List Value}(h:qw E w l cs):qw E w (bgy P t l) cs:=by
 unfold bgy
 split
 ·rename_i vs hv
  split
  ·rename_i l' hc
   obtain ⟨c1,h1,h2⟩:=(ba0 E w P 24).1 _ _ _ _ hc
   have:=bjv E w l vs hv cs h
   subst this
   simp at h1
   rw[h1]
   exact h2
  ·exact h
 ·exact h
end
section
variable {D:Ctx} {B0:Nat} {w0:W0} {E:Env} {st:ASt} {act:Act} {w:World}
theorem aze(h:Rel D B0 w0 E st act w){x:AVal}{l:List AVal}(hx:partsOf x=some l){u:Value}(hu:ig E w x u):qw E w l u.cells.toList:=by
 have one:∀u:Value,u.oneCell'=true→u.cells.toList=[u]:=by
  intro u h
  cases u<;>first | rfl | cases h
 cases x with
 | agg l' =>
  simp only[partsOf] at hx
  cases hx
  simp only[ig] at hu
  obtain ⟨cs,rfl,hr⟩:=hu
  simpa [Value.cells] using hr
 | arr k n z =>
  simp only[partsOf] at hx
  cases hx
  simp only[ig] at hu
  obtain ⟨h1,rfl⟩:=hu
  have:=abo (E:=E) (w:=w) (k:=k) (r:=[]) (cs':=[]) h1 (by simp only[qw])
  simpa [Value.cells] using this
 | v x =>
  have hu':=hu
  simp only[ig] at hu
  subst hu
  have:u.oneCell'=true∧l=[.v u]:=by
   cases u<;>simp[partsOf] at hx ⊢<;>first | (exact ⟨rfl,hx.symm⟩) | (exact hx.symm ▸ rfl)
  obtain ⟨h1,rfl⟩:=this
  rw[one u h1]
  exact om (by simp) h1 hu' (by simp only[qw])
 | bot=>simp[partsOf] at hx
 | tuple=>simp[partsOf] at hx
 | fr=>simp[partsOf] at hx
 | sl c =>
  simp only[partsOf] at hx
  cases hx
  have h1:u.oneCell'=true:=by simp only[ig] at hu;obtain ⟨A,cap,rfl,_⟩:=hu;rfl
  rw[one u h1]
  exact om (by simp) h1 hu (by simp only[qw])
 | own id =>
  simp only[partsOf] at hx
  cases hx
  have h1:u.oneCell'=true:=by simp only[ig] at hu;rcases h.form _ _ hu with (⟨_,_,_,rfl⟩ | ⟨_,rfl⟩) | ⟨_,_,_,rfl⟩<;>rfl
  rw[one u h1]
  exact om (by simp) h1 hu (by simp only[qw])
 | win =>
  simp only[partsOf] at hx
  cases hx
  have h1:u.oneCell'=true:=by simp only[ig] at hu;obtain ⟨_,_,_,_,_,_,_,_,rfl⟩:=hu;rfl
  rw[one u h1]
  exact om (by simp) h1 hu (by simp only[qw])
 | awin =>
  simp only[partsOf] at hx
  cases hx
  have h1:u.oneCell'=true:=by simp only[ig] at hu;obtain ⟨_,_,_,_,_,_,_,rfl⟩:=hu;rfl
  rw[one u h1]
  exact om (by simp) h1 hu (by simp only[qw])
 | ptr =>
  simp only[partsOf] at hx
  cases hx
  have h1:u.oneCell'=true:=by simp only[ig] at hu;obtain ⟨_,_,rfl⟩:=hu;rfl
  rw[one u h1]
  exact om (by simp) h1 hu (by simp only[qw])
 | fel =>
  simp only[partsOf] at hx
  cases hx
  have h1:u.oneCell'=true:=by simp only[ig] at hu;obtain ⟨_,_,_,_,_,_,rfl⟩:=hu;rfl
  rw[one u h1]
  exact om (by simp) h1 hu (by simp only[qw])
 | pel =>
  simp only[partsOf] at hx
  cases hx
  have h1:u.oneCell'=true:=by simp only[ig] at hu;obtain ⟨_,_,_,_,_,rfl⟩:=hu;rfl
  rw[one u h1]
  exact om (by simp) h1 hu (by simp only[qw])
 | apel =>
  simp only[partsOf] at hx
  cases hx
  have h1:u.oneCell'=true:=by simp only[ig] at hu;obtain ⟨_,_,_,rfl⟩:=hu;rfl
  rw[one u h1]
  exact om (by simp) h1 hu (by simp only[qw])
 | osta =>
  simp only[partsOf] at hx
  cases hx
  have h1:u.oneCell'=true:=by simp only[ig] at hu;rcases hu with ⟨_,rfl⟩ | ⟨_,_,_,rfl,_⟩<;>rfl
  rw[one u h1]
  exact om (by simp) h1 hu (by simp only[qw])
 | sta =>
  simp only[partsOf] at hx
  cases hx
  have h1:u.oneCell'=true:=by simp only[ig] at hu;obtain ⟨_,_,rfl,_⟩:=hu;rfl
  rw[one u h1]
  exact om (by simp) h1 hu (by simp only[qw])
 | fn =>
  simp only[partsOf] at hx
  cases hx
  have h1:u.oneCell'=true:=by simp only[ig] at hu;obtain ⟨_,_,rfl,_⟩:=hu;rfl
  rw[one u h1]
  exact om (by simp) h1 hu (by simp only[qw])
 | iface =>
  simp only[partsOf] at hx
  cases hx
  have h1:u.oneCell'=true:=by simp only[ig] at hu;obtain ⟨_,rfl,_⟩:=hu;rfl
  rw[one u h1]
  exact om (by simp) h1 hu (by simp only[qw])
 | glob =>
  simp only[partsOf] at hx
  cases hx
  have h1:u.oneCell'=true:=by simp only[ig] at hu;subst hu;rfl
  rw[one u h1]
  exact om (by simp) h1 hu (by simp only[qw])
 | gel =>
  simp only[partsOf] at hx
  cases hx
  have h1:u.oneCell'=true:=by simp only[ig] at hu;obtain ⟨_,rfl⟩:=hu;rfl
  rw[one u h1]
  exact om (by simp) h1 hu (by simp only[qw])
 | yld =>
  simp only[partsOf] at hx
  cases hx
  have h1:u.oneCell'=true:=by simp only[ig] at hu;obtain ⟨_,_,_,rfl,_⟩:=hu;rfl
  rw[one u h1]
  exact om (by simp) h1 hu (by simp only[qw])
 | alt =>
  simp only[partsOf] at hx
  cases hx
  have h1:u.oneCell'=true:=by simp only[ig] at hu;rcases hu with ⟨_,rfl⟩ | ⟨_,_,_,rfl,_⟩ | ⟨_,_,_,rfl,_⟩<;>rfl
  rw[one u h1]
  exact om (by simp) h1 hu (by simp only[qw])
end
section
variable {D:Ctx} {B0:Nat} {w0:W0} {st:ASt} {dst:Option Tmp} {type:TypeId} {pos:String} {after:Array Edge} {guard:Option (Nat×Bool)}
theorem bs7{op:Op}{e:TypeId}{l:List AVal}
    (h:∀E act w,Rel D B0 w0 E st act w→∃cs:Array Value,(execOp act.eval ⟨dst,op,type,pos,after,guard⟩).run D.P w=.ok (.value (.pointer (some ⟨w.heap.size,0,none⟩))) (w.alloc (.cells cs e))∧qw E w l cs.toList) :
    agk D B0 w0 st ⟨dst,op,type,pos,after,guard⟩ ⟨.ptr st.n 0,[(st.n,some ⟨.box e l,false⟩)],st.n+1⟩:=by
 intro E act w hR hn next Q hnext
 obtain ⟨cs,hrun,hl⟩:=h E act w hR
 have hx:E.ρ st.n=none:=hn st.n (Ai _) (by simp)
 have up0:Up E ⟨E.S,upd E.ρ st.n (.pointer (some ⟨w.heap.size,0,none⟩))⟩ w (w.alloc (.cells cs e)) :=
  ⟨⟨fun _ h=>h,fun b hb=>heap_alloc_old w _ b (hR.sOld b hb)⟩,bfu hx⟩
 obtain ⟨hR',up⟩:=ayl hR hx cs e (u:=.pointer (some ⟨w.heap.size,0,none⟩)) (b:=.box e l) rfl
  ⟨_,upd_same _ _ _,⟨w.heap.size,cs,rfl,hR.base,heap_alloc_new w _,qw.mono up0 l _ hl⟩,fun _ k hk hs=>by
   simp[jk] at hk
   subst hk
   exact absurd (hR.sOld _ hs) (Nat.lt_irrefl _),fun hf=>by cases hf⟩ (st.n+1)
 unfold Oper.wp
 rw[hrun,Oper.upon_value]
 refine hnext _ _ _ up (fun id x hx'=>?_) (Rel.put hR' (a:=.ptr st.n 0) (by simp only[ig];exact ⟨w.heap.size,upd_same _ _ _,rfl⟩) dst)
 by_cases hid:id=st.n
 ·exact .inr ⟨by omega,by simp only;omega⟩
 ·simp only[upd,if_neg hid] at hx';exact .inl hx'
theorem bzn(e:TypeId){l:List AVal}(hl:agy D.P e=some l) :
    agk D B0 w0 st ⟨dst,.alloc e,type,pos,after,guard⟩ ⟨.ptr st.n 0,[(st.n,some ⟨.box e l,false⟩)],st.n+1⟩ :=
 bs7 fun E act w hR=>by
  obtain ⟨i,z,hi,hz,hr⟩:=ado E w D.P hl
  refine ⟨z.cells,?_,hr⟩
  simp[execOp,Instr.alloc,zeroValue,typeInfo,hi,hz,newVar,newRow]
theorem b7l(e:TypeId)(x:Operand){l:List AVal}(hl:partsOf (ev st.f x)=some l) :
    agk D B0 w0 st ⟨dst,.box e x,type,pos,after,guard⟩ ⟨.ptr st.n 0,[(st.n,some ⟨.box e (bgy D.P e l),false⟩)],st.n+1⟩ :=
 bs7 fun E act w hR=>by
  refine ⟨(act.eval x).cells,?_,be3 E w D.P (aze hR hl (hR.ev x))⟩
  simp[execOp,Instr.box,newVar,newRow]
end
end Go.Abs
end

section
namespace Go.Abs
open Go Go.RowKit
def Reads(E:Env)(w:World)(c:Cont)(u:Value):Prop :=
 ∃A cap,u=.slice A c.len cap∧c.len≤cap ∧
  (0<c.len→∃a,A=some a∧∀j,j<c.len*c.size→∃x,w.cell? (a.add j)=some x∧x.oneCell'=true∧cellC E.S w c j x)
theorem azb{S:Nat→Prop}{w:World}{c:Cont}{j:Nat}{x:Value}(h:cell1 S w c j x):x.oneCell'=true:=by
 cases c with
 | ints k l=>simp only[cell1,anp] at h;subst h;rfl
 | rows k l=>simp only[cell1,au2,SlI] at h;obtain ⟨A,cap,rfl,_⟩:=h;rfl
 | rows2 k l=>simp only[cell1,avo,SlR] at h;obtain ⟨A,cap,rfl,_⟩:=h;rfl
 | cols n cs=>exact h.elim
theorem at1{S:Nat→Prop}{w:World}{c:Cont}{j:Nat}{x:Value}(h:cellC S w c j x):x.oneCell'=true:=by
 cases c with
 | cols n cs=>obtain ⟨c,_,h⟩:=h;exact azb h
 | ints=>exact azb (S:=S) (w:=w) (c:=.ints _ _) h
 | rows=>exact azb (S:=S) (w:=w) (c:=.rows _ _) h
 | rows2=>exact azb (S:=S) (w:=w) (c:=.rows2 _ _) h
theorem bph{E:Env}{w:World}{c:Cont}{u:Value}(h:SlC E.S w c u):Reads E w c u:=by
 obtain ⟨A,cap,hu,hc,hx⟩:=h
 refine ⟨A,cap,hu,hc,fun h0=>?_⟩
 obtain ⟨a,hA,_,hj⟩:=hx h0
 refine ⟨a,hA,fun j hlt=>?_⟩
 obtain ⟨x,h1,h2⟩:=hj j hlt
 exact ⟨x,h1,at1 h2,h2⟩
theorem amy{E E':Env}{w:World}{c:Cont}{u:Value}(h:Reads E w c u)(k:∀b,E.S b→E'.S b)(hS:0<c.len→∀b,jk u=some b→E'.S b):SlC E'.S w c u:=by
 obtain ⟨A,cap,hu,hc,hx⟩:=h
 refine ⟨A,cap,hu,hc,fun h0=>?_⟩
 obtain ⟨a,rfl,hj⟩:=hx h0
 refine ⟨a,rfl,hS h0 _ (by rw[hu];rfl),fun j hlt=>?_⟩
 obtain ⟨x,h1,_,h2⟩:=hj j hlt
 exact ⟨x,h1,cellC.mono ⟨k,fun _ _=>rfl⟩ h2⟩
theorem bb5{c:Cont}{off len:Nat}{c':Cont}(h:(match c with
    | .ints k l=>some (Cont.ints k ((l.drop off).take len))
    | .rows k l=>some (.rows k ((l.drop off).take len))
    | .rows2 k l=>some (.rows2 k ((l.drop off).take len))
    | _=>none)=some c') (hle:off+len≤c.len):c.size=1∧c'.size=1∧c'.len=len∧∀S w j x,j<len→cellC S w c (off+j) x→cellC S w c' j x:=by
 cases c with
 | cols=>cases h
 | ints k z =>
  cases h
  simp only[Cont.len] at hle
  refine ⟨rfl,rfl,by simp[Cont.len];omega,fun S w j x hj hx=>?_⟩
  simp only[cellC,cell1,anp] at hx ⊢
  rw[hx]
  congr 1
  simp only[Aa,Ab,Ah]
  rw[if_pos hj]
 | rows k z =>
  cases h
  simp only[Cont.len] at hle
  refine ⟨rfl,rfl,by simp[Cont.len];omega,fun S w j x hj hx=>?_⟩
  simp only[cellC,cell1,au2] at hx ⊢
  have:(Aw len (Av off z)).getD j []=z.getD (off+j) []:=by
   simp only[Aa,Ab,Ah]
   rw[if_pos hj]
  rw[this]
  exact hx
 | rows2 k z =>
  cases h
  simp only[Cont.len] at hle
  refine ⟨rfl,rfl,by simp[Cont.len];omega,fun S w j x hj hx=>?_⟩
  simp only[cellC,cell1,avo] at hx ⊢
  have:(Aw len (Av off z)).getD j []=z.getD (off+j) []:=by
   simp only[Aa,Ab,Ah]
   rw[if_pos hj]
  rw[this]
  exact hx
section
variable {D:Ctx} {B0:Nat} {w0:W0} {E:Env} {st:ASt} {act:Act} {w:World}
theorem adb(hR:Rel D B0 w0 E st act w){hl:Nat→Option Blk}(hm:∀id b,hl id=some b→iw st.h id=some b){x:AVal}{c:Cont}(h:anj hl x=some c){u:Value}(hu:ig E w x u):Reads E w c u:=by
 unfold anj at h
 split at h
 ·cases h
  simp only[ig] at hu
  exact bph hu
 ·rename_i id
  split at h
  ·rename_i e c' f hb
   cases h
   simp only[ig] at hu
   obtain ⟨v,hv,⟨xs,ho,hx⟩,_⟩:=hR.heap _ _ (hm _ _ hb)
   rw[hu] at hv
   cases hv
   have hlen:=ho.1
   rcases (show _ from ho.2) with ⟨rfl,h0⟩ | ⟨g,cap,cur,rfl,_,_,hn,_⟩
   ·exact ⟨none,0,by rw[h0],by omega,fun h=>by omega⟩
   ·refine ⟨_,cap,rfl,hn,fun _=>⟨_,rfl,fun j hj=>?_⟩⟩
    obtain ⟨_,_,_,hc⟩:=ac5 ho rfl
    have hj':j<xs.length:=by omega
    exact ⟨xs[j],by rw[hc j hj'];exact Ac hj',hx j _ (Ac hj')⟩
  ·cases h
 ·rename_i id off len
  simp only[ig] at hu
  obtain ⟨A,n,cap,hρ,hle,A',hA',_,rfl⟩:=hu
  have key:∀e c0 f,hl id=some ⟨.row e c0,f⟩→(match c0 with
      | .ints k l=>some (Cont.ints k ((l.drop off).take len))
      | .rows k l=>some (.rows k ((l.drop off).take len))
      | .rows2 k l=>some (.rows2 k ((l.drop off).take len))
      | _=>none)=some c→Reads E w c (.slice A' len (cap-off)):=by
   intro e c0 f hb hc
   obtain ⟨v,hv,⟨xs,ho,hx⟩,_⟩:=hR.heap _ _ (hm _ _ hb)
   rw[hρ] at hv
   cases hv
   have hn:n=c0.len∧n≤cap:=by
    cases A with
    | none=>have:=acs ho rfl;omega
    | some a=>obtain ⟨g1,g2,_⟩:=ac5 ho rfl;omega
   obtain ⟨s1,s2,s3,hcell⟩:=bb5 hc (by omega)
   refine ⟨A',cap-off,by rw[s3],by omega,fun h0=>?_⟩
   rw[s3] at h0
   cases A with
   | none=>have:=acs ho rfl;omega
   | some a =>
    rw[hA' h0]
    refine ⟨_,rfl,fun j hj=>?_⟩
    rw[s2,s3] at hj
    obtain ⟨_,_,_,hcc⟩:=ac5 ho rfl
    have hxl:=ho.1
    rw[s1] at hxl
    have hj':off+j<xs.length:=by omega
    have:=hx (off+j) _ (Ac hj')
    exact ⟨xs[off+j],by rw[add_add,hcc _ hj'];exact Ac hj',this.1,hcell _ _ _ _ (by omega) this.2⟩
  split at h
  ·rename_i hb;exact key _ _ _ hb h
  ·rename_i hb;exact key _ _ _ hb h
  ·rename_i hb;exact key _ _ _ hb h
  ·cases h
 ·rename_i id off m lo len
  simp only[ig] at hu
  obtain ⟨b,A,cap,hρ,hle,hcap,hA,rfl⟩:=hu
  split at h
  ·rename_i e cs f hb
   split at h
   ·rename_i pre k m' l post hs
    cases hbm:Ao m m' with
    | false=>rw[hbm] at h;cases h
    | true =>
     rw[hbm] at h
     cases h
     have:=Af hbm
     subst this
     obtain ⟨v,hv,⟨kb,cells,rfl,hB,hh,hl⟩,_⟩:=hR.heap _ _ (hm _ _ hb)
     rw[hρ] at hv
     cases hv
     obtain ⟨c1,c2,he,g1,g2,l1⟩:=awm hs hl
     obtain ⟨cs',hz,rfl,_⟩:=ab1 g2
     have hl2:(Aw len (Av lo l)).length=len:=by simp;omega
     refine ⟨A,cap,by simp only[Cont.len,hl2],by simp only[Cont.len,hl2];exact hcap,fun h0=>?_⟩
     simp only[Cont.len,hl2] at h0
     refine ⟨_,hA h0,fun j hj=>?_⟩
     simp only[Cont.len,Cont.size,hl2,Ag] at hj
     have hlt:lo+j<l.length:=by omega
     refine ⟨.int k l[lo+j],?_,rfl,?_⟩
     ·rw[y5,ae7 hh,←Array.getElem?_toList,he]
      rw[Ad (by omega),Ae (by simp;omega)]
      rw[l1,show off+lo+j-off=lo+j from by omega]
      simp[Ac hlt]
     ·simp only[cellC,cell1,anp]
      simp only[Aa,Ab,Ah]
      rw[if_pos hj,Ac hlt]
      rfl
   ·cases h
  ·cases h
 ·cases h
end
theorem bpe{α:Type}(n:Nat)(l l':List α)(d:α):(bu7 n l d).length=n∧(∀i,i<n→(bu7 n l d++l').getD i d=l.getD i d)∧∀i,(bu7 n l d++l').getD (n+i) d=l'.getD i d:=by
 have hl:(bu7 n l d).length=n:=by simp[bu7];omega
 refine ⟨hl,fun i hi=>?_,fun i=>?_⟩
 ·rw[Aa,Ae (by omega),Aa]
  unfold bu7
  by_cases h:i<l.length
  ·rw[Ae (by simp;omega),Ab,if_pos hi]
  ·rw[Ad (by simp;omega),Ak,if_pos (by simp;omega),List.getElem?_eq_none (by omega)]
   rfl
 ·rw[Aa,Ad (by omega),hl,Nat.add_sub_cancel_left,Aa]
theorem bpg{n:Nat}{c d c':Cont}(h:Cont.app1 n c d=some c'):∀S w,(∀i x,i<n→cell1 S w c i x→cell1 S w c' i x)∧∀i x,cell1 S w d i x→cell1 S w c' (n+i) x:=by
 intro S w
 cases c with
 | ints k l =>
  cases d with
  | ints k' l' =>
   simp only[Cont.app1] at h
   cases hk:aw1 k k' with
   | false=>rw[hk] at h;cases h
   | true =>
    rw[hk] at h
    cases h
    have:=agf hk
    subst this
    obtain ⟨_,f1,f2⟩:=bpe n l l' 0
    exact ⟨fun i x hi hx=>by simp only[cell1,anp] at hx ⊢;rw[f1 i hi];exact hx,fun i x hx=>by simp only[cell1,anp] at hx ⊢;rw[f2 i];exact hx⟩
  | _=>cases h
 | rows k l =>
  cases d with
  | rows k' l' =>
   simp only[Cont.app1] at h
   cases hk:aw1 k k' with
   | false=>rw[hk] at h;cases h
   | true =>
    rw[hk] at h
    cases h
    have:=agf hk
    subst this
    obtain ⟨_,f1,f2⟩:=bpe n l l' []
    exact ⟨fun i x hi hx=>by simp only[cell1,au2] at hx ⊢;rw[f1 i hi];exact hx,fun i x hx=>by simp only[cell1,au2] at hx ⊢;rw[f2 i];exact hx⟩
  | _=>cases h
 | _=>cases h
theorem bpq{n:Nat}:∀{cs ds l:List Cont},Cont.apps n cs ds=some l→l.length=cs.length∧ds.length=cs.length∧(∀(j:Nat) c,cs[j]?=some c→∃d c',ds[j]?=some d∧l[j]?=some c'∧Cont.app1 n c d=some c')
 | [],[],l,h=>by simp only[Cont.apps] at h;cases h;exact ⟨rfl,rfl,fun j c hc=>by simp at hc⟩
 | [],_::_,l,h=>by simp[Cont.apps] at h
 | _::_,[],l,h=>by simp[Cont.apps] at h
 | c::r,d::s,l,h=>by
  simp only[Cont.apps] at h
  split at h
  ·rename_i x hx
   split at h
   ·rename_i y hy
    cases h
    obtain ⟨h1,h2,h3⟩:=bpq hy
    refine ⟨by simp[h1],by simp[h2],fun j c0 hc=>?_⟩
    cases j with
    | zero=>simp at hc;subst hc;exact ⟨d,x,rfl,rfl,hx⟩
    | succ j=>simp at hc;simpa using h3 j c0 hc
   ·cases h
  ·cases h
theorem Cont.btk{c d c':Cont}(h:c.app d=some c'):c'.len=c.len+d.len∧c'.size=c.size∧d.size=c.size ∧
    ∀S w,(∀j x,j<c.len*c.size→cellC S w c j x→cellC S w c' j x)∧(∀j x,cellC S w d j x→cellC S w c' (c.len*c.size+j) x):=by
 cases c with
 | ints k l =>
  cases d with
  | ints k' l' =>
   simp only[Cont.app] at h
   cases hk:aw1 k k' with
   | false=>rw[hk] at h;cases h
   | true =>
    rw[hk] at h
    cases h
    have:=agf hk
    subst this
    refine ⟨by simp[Cont.len],rfl,rfl,fun S w=>⟨fun j x hj hx=>?_,fun j x hx=>?_⟩⟩
    ·simp only[cellC,cell1,anp,Cont.len,Cont.size,Ag] at hx hj ⊢
     rw[hx];congr 1
     simp only[Aa];rw[Ae hj]
    ·simp only[cellC,cell1,anp,Cont.len,Cont.size,Ag] at hx ⊢
     rw[hx];congr 1
     simp only[Aa];rw[Ad (by omega)];simp
  | _=>cases h
 | rows k l =>
  cases d with
  | rows k' l' =>
   simp only[Cont.app] at h
   cases hk:aw1 k k' with
   | false=>rw[hk] at h;cases h
   | true =>
    rw[hk] at h
    cases h
    have:=agf hk
    subst this
    refine ⟨by simp[Cont.len],rfl,rfl,fun S w=>⟨fun j x hj hx=>?_,fun j x hx=>?_⟩⟩
    ·simp only[cellC,cell1,au2,Cont.len,Cont.size,Ag] at hx hj ⊢
     have:(l++l').getD j []=l.getD j []:=by simp only[Aa];rw[Ae hj]
     rw[this];exact hx
    ·simp only[cellC,cell1,au2,Cont.len,Cont.size,Ag] at hx ⊢
     have:(l++l').getD (l.length+j) []=l'.getD j []:=by simp only[Aa];rw[Ad (by omega)];simp
     rw[this];exact hx
  | _=>cases h
 | rows2 k l =>
  cases d with
  | rows2 k' l' =>
   simp only[Cont.app] at h
   cases hk:aw1 k k' with
   | false=>rw[hk] at h;cases h
   | true =>
    rw[hk] at h
    cases h
    have:=agf hk
    subst this
    refine ⟨by simp[Cont.len],rfl,rfl,fun S w=>⟨fun j x hj hx=>?_,fun j x hx=>?_⟩⟩
    ·simp only[cellC,cell1,avo,Cont.len,Cont.size,Ag] at hx hj ⊢
     have:(l++l').getD j []=l.getD j []:=by simp only[Aa];rw[Ae hj]
     rw[this];exact hx
    ·simp only[cellC,cell1,avo,Cont.len,Cont.size,Ag] at hx ⊢
     have:(l++l').getD (l.length+j) []=l'.getD j []:=by simp only[Aa];rw[Ad (by omega)];simp
     rw[this];exact hx
  | _=>cases h
 | cols n cs =>
  cases d with
  | cols m ds =>
   simp only[Cont.app] at h
   split at h
   ·rename_i l hl
    cases h
    obtain ⟨h1,h2,h3⟩:=bpq hl
    refine ⟨rfl,h1,h2,fun S w=>⟨fun j x hj hx=>?_,fun j x hx=>?_⟩⟩
    ·simp only[cellC,Cont.len,Cont.size,h1] at hx hj ⊢
     obtain ⟨c,hc,hx⟩:=hx
     obtain ⟨d,c',_,g2,g3⟩:=h3 _ c hc
     exact ⟨c',g2,(bpg g3 S w).1 _ x (Nat.div_lt_of_lt_mul (by rw[Nat.mul_comm];exact hj)) hx⟩
    ·simp only[cellC,Cont.len,Cont.size,h1,h2] at hx ⊢
     obtain ⟨d,hd,hx⟩:=hx
     by_cases h0:cs.length=0
     ·rw[h0] at h2
      rw[Ap h2] at hd
      simp at hd
     ·have hlt:j%cs.length<cs.length:=Nat.mod_lt _ (by omega)
      obtain ⟨d',c',g1,g2,g3⟩:=h3 (j%cs.length) _ (Ac hlt)
      rw[hd] at g1
      cases g1
      have e1:(n*cs.length+j)%cs.length=j%cs.length:=by rw[A9,Nat.add_mul_mod_self_right]
      have e2:(n*cs.length+j)/cs.length=n+j/cs.length:=by rw[A9,Nat.add_mul_div_right _ _ (by omega),A9]
      exact ⟨c',by rw[e1];exact g2,by rw[e2];exact (bpg g3 S w).2 _ x hx⟩
   ·cases h
  | _=>cases h
end Go.Abs
end

section
namespace Go.Abs
open Go Go.RowKit
theorem bzf{P:Program}{t:TypeId}{b:Nat}(h:br0 P t=some b):∃i,P.info? t=some i∧i.bytes=b:=by
 unfold br0 at h
 cases hi:P.info? t with
 | none=>rw[hi] at h;cases h
 | some i=>rw[hi] at h;cases h;exact ⟨i,rfl,rfl⟩
theorem bvt{P:Program}(w:World)(base:Nat)(t ty e:TypeId)(i:TypeInfo)(z:Value)(ht:P.underlying t=some (.slice e))(hi:P.info? e=some i)(hz:i.zero=some z)(hzs:z.cells.size=i.size)(hsz:0<i.size)
    (v:Value) (n:Nat) (xs:List Value) (hown:w.ownsRow base e i.size v n xs) (a:Addr) (m c:Nat) (news:List Value) (hl:news.length=m*i.size) (hnews:∀j u,news[j]?=some u→w.cell? (a.add j)=some u)
    (h1:∀u∈news,u.oneCell'=true) (h63:n+m≤maxLen) (hbytes:(n+m)*i.bytes≤140737488355328) (hbase:base≤w.heap.size) :
    ∃v' w',(Builtin.append_ #[t,t] ty #[v,.slice (some a) m c]).run P w=.ok v' w'∧w'.ownsRow base e i.size v' (n+m) (xs++news)∧w.grownBy w' (jk v) ∧
     (∀k,jk v'=some k→jk v=some k∨k=w.heap.size):=by
 obtain ⟨v',w',hr,ho,hg,_⟩:=run_append_own (P:=P) w base t ty e i z i.size i.bytes ht hi hz rfl rfl hzs hsz v n xs hown a m c news hl hnews h1 h63 hbytes hbase
 have hvb:v.ownBlock=jk v:=by
  rcases hown.2 with ⟨rfl,_⟩ | ⟨g,cap,cur,rfl,_⟩<;>rfl
 rw[hvb] at hg
 refine ⟨v',w',hr,ho,hg,fun k hk=>?_⟩
 -- the result, written out
 have hsmall:n+m≤9223372036854775807:=by simp only[maxLen] at h63;omega
 rcases hown.2 with ⟨rfl,rfl⟩ | ⟨g,cap,cur,rfl,hbg,hgr,hnc,hcm,hcs,htake⟩
 ·by_cases hm:m=0
  ·subst hm
   have hn:news=[]:=Ap (by simpa using hl)
   subst hn
   have:(Builtin.append_ #[t,t] ty #[Value.slice none 0 0,.slice (some a) 0 c]).run P w=.ok (.slice none 0 0) w:=by
    simp[Builtin.append_,run_underlying ht,sizeOf,typeInfo,hi,Builtin.lenOf,Builtin.firstCells,loadCells,loadCellsFrom]
   rw[this] at hr
   cases hr
   cases hk
  ·have hr2:=run_append_nil (P:=P) w t ty e i z ht hi hz a m c news hl hnews (by omega) (by omega) (by have hb:=hbytes;simp only[Nat.zero_add] at hb;omega)
   rw[hr2] at hr
   cases hr
   cases hk
   exact .inr rfl
 ·by_cases hroom:n+m≤cap
  ·have hfit:n*i.size+news.length≤cur.size:=by rw[hl,hcs,←Nat.add_mul];exact Aj _ hroom
   have hr2:=run_append_room (P:=P) w t ty e i ht hi g n cap cur hgr a m c news hl hnews h1 hroom hfit
   rw[hr2] at hr
   cases hr
   exact .inl hk
  ·have holds:∀j u,xs[j]?=some u→w.cell? ((⟨g,0,none⟩:Addr).add j)=some u:=hown.cells (g:=g) rfl
   have hr2:=run_append_grow (P:=P) w t ty e i z ht hi hz ⟨g,0,none⟩ n cap xs hown.1 holds a m c news hl hnews (by omega) (by omega) (growslice_fits (by omega) hbytes)
   rw[hr2] at hr
   cases hr
   cases hk
   exact .inr rfl
theorem ai6{w:World}{base:Nat}{e:TypeId}{size n:Nat}{v:Value}{xs:List Value}(h:w.ownsRow base e size v n xs){A:Option Addr}{cap m:Nat}(hv:v=.slice A n cap)(hm:m≤n) :
    w.ownsRow base e size (.slice A m cap) m (xs.take (m*size)):=by
 have hlen:(xs.take (m*size)).length=m*size:=by
  rw[List.length_take,h.1,Ay (Aj _ hm)]
 refine ⟨hlen,?_⟩
 rcases h.2 with ⟨hn,h0⟩ | ⟨g,cap',cur,hv',hb,hg,hn,hcm,hc,ht⟩
 ·rw[hv] at hn
  cases hn
  have:m=0:=by omega
  subst this
  exact .inl ⟨rfl,rfl⟩
 ·rw[hv] at hv'
  cases hv'
  exact .inr ⟨g,_,cur,rfl,hb,hg,by omega,hcm,hc,by rw[←ht,List.take_take,Ay (Aj _ hm)]⟩
theorem Cont.ay7{c:Cont}{m:Nat}(hm:m≤c.len):(c.take m).len=m∧(c.take m).size=c.size∧∀S w j x,j<m*c.size→cellC S w c j x→cellC S w (c.take m) j x:=by
 cases c with
 | ints k l =>
  simp only[Cont.len] at hm
  refine ⟨by simp[Cont.take,Cont.take1,Cont.len];omega,rfl,fun S w j x hj hx=>?_⟩
  simp only[Cont.size,Ag] at hj
  simp only[Cont.take,Cont.take1,cellC,cell1,anp] at hx ⊢
  rw[hx];congr 1
  simp only[Aa,Ab,if_pos hj]
 | rows k l =>
  simp only[Cont.len] at hm
  refine ⟨by simp[Cont.take,Cont.take1,Cont.len];omega,rfl,fun S w j x hj hx=>?_⟩
  simp only[Cont.size,Ag] at hj
  simp only[Cont.take,Cont.take1,cellC,cell1,au2] at hx ⊢
  have:(l.take m).getD j []=l.getD j []:=by simp only[Aa,Ab,if_pos hj]
  rw[this];exact hx
 | rows2 k l =>
  simp only[Cont.len] at hm
  refine ⟨by simp[Cont.take,Cont.take1,Cont.len];omega,rfl,fun S w j x hj hx=>?_⟩
  simp only[Cont.size,Ag] at hj
  simp only[Cont.take,Cont.take1,cellC,cell1,avo] at hx ⊢
  have:(l.take m).getD j []=l.getD j []:=by simp only[Aa,Ab,if_pos hj]
  rw[this];exact hx
 | cols n cs =>
  simp only[Cont.len] at hm
  have hl:(Cont.takes m cs).length=cs.length:=by
   clear hm
   induction cs with
   | nil=>rfl
   | cons c r ih=>simp[Cont.takes,ih]
  refine ⟨by simp[Cont.take,Cont.len];omega,by simp[Cont.take,Cont.size,hl],fun S w j x hj hx=>?_⟩
  simp only[Cont.size] at hj
  simp only[Cont.take,cellC,hl] at hx ⊢
  obtain ⟨c,hc,hx⟩:=hx
  have hget:∀(cs:List Cont) (i:Nat) (c:Cont),cs[i]?=some c→(Cont.takes m cs)[i]?=some (c.take1 m):=by
   intro cs
   induction cs with
   | nil=>intro i c h;simp at h
   | cons d r ih =>
    intro i c h
    cases i with
    | zero=>simp at h;subst h;rfl
    | succ i=>simp at h;simp[Cont.takes,ih i c h]
  refine ⟨_,hget _ _ _ hc,?_⟩
  have hd:j/cs.length<m:=Nat.div_lt_of_lt_mul (by rw[Nat.mul_comm];exact hj)
  cases c with
  | ints k l =>
   simp only[Cont.take1,cell1,anp] at hx ⊢
   rw[hx];congr 1
   simp only[Aa,Ab,if_pos hd]
  | rows k l =>
   simp only[Cont.take1,cell1,au2] at hx ⊢
   have:(l.take m).getD (j/cs.length) []=l.getD (j/cs.length) []:=by simp only[Aa,Ab,if_pos hd]
   rw[this];exact hx
  | rows2 k l =>
   simp only[Cont.take1,cell1,avo] at hx ⊢
   have:(l.take m).getD (j/cs.length) []=l.getD (j/cs.length) []:=by simp only[Aa,Ab,if_pos hd]
   rw[this];exact hx
  | cols n cs=>exact hx.elim
section
variable {D:Ctx} {B0:Nat} {w0:W0} {st:ASt} {dst:Option Tmp} {type:TypeId} {pos:String} {after:Array Edge} {guard:Option (Nat×Bool)}
theorem bow{t e:TypeId}{i:TypeInfo}{z:Value}(ht:D.P.underlying t=some (.slice e))(hi:D.P.info? e=some i)(hz:i.zero=some z)(hzs:z.cells.size=i.size)(hsz:0<i.size)(hby:0<i.bytes)
    {hl:Nat→Option Blk} (hm:∀id b,hl id=some b→iw st.h id=some b) (s x:Operand) {cx c':Cont} (hx:anj hl (ev st.f x)=some cx) (hcx:cx.size=i.size) {n:Nat} {dead:Nat→Prop} {puts:Hp}
    (hlim:(n+cx.len)*i.bytes≤limit) (hc':c'.len=n+cx.len) (hcs:c'.size=i.size)
    (hputs:∀id c,id≠st.n→iw (tq puts st.h) id=some c→iw st.h id=some c∧¬dead id)
    (hs:∀E act w,Rel D B0 w0 E st act w→∃xs,w.ownsRow B0 e i.size (act.eval s) n xs ∧
     (∀j y,xs[j]?=some y→y.oneCell'=true∧cellC E.S w c' j y)∧(∀j y,cellC E.S w cx j y→cellC E.S w c' (n*i.size+j) y) ∧
     (∀k,jk (act.eval s)=some k→boh E st.h dead k)) :
    agk D B0 w0 st ⟨dst,.call ⟨.builtin .append,#[s,x],#[t,t]⟩,type,pos,after,guard⟩ ⟨.own st.n,(st.n,some ⟨.row e c',false⟩)::puts,st.n+1⟩:=by
 intro E act w hR hn next Q hnext
 obtain ⟨xs,hown,hcell,hcell2,hblk⟩:=hs E act w hR
 have hxn:E.ρ st.n=none:=hn st.n (Ai _) (by simp)
 obtain ⟨A,cap,hu,hcap,hrd⟩:=adb hR hm hx (hR.ev x)
 have hlim':(n+cx.len)*i.bytes≤140737488355328:=hlim
 have h63:n+cx.len≤maxLen:=by
  have:=Nat.le_trans (Nat.le_mul_of_pos_right (n+cx.len) hby) hlim'
  simp only[maxLen];omega
 -- the run
 have hrun:∃v' w' news,(Builtin.append_ #[t,t] type #[act.eval s,act.eval x]).run D.P w=.ok v' w'∧w'.ownsRow B0 e i.size v' (n+cx.len) (xs++news)∧w.grownBy w' (jk (act.eval s)) ∧
     (∀k,jk v'=some k→jk (act.eval s)=some k∨k=w.heap.size)∧(∀j y,news[j]?=some y→y.oneCell'=true∧cellC E.S w cx j y):=by
  by_cases hne:0<cx.len
  ·obtain ⟨a,rfl,hrd2⟩:=hrd hne
   have hex:∀m,m≤cx.len*cx.size→∃ns:List Value,ns.length=m∧∀j y,ns[j]?=some y→w.cell? (a.add j)=some y∧y.oneCell'=true∧cellC E.S w cx j y:=by
    intro m
    induction m with
    | zero=>exact fun _=>⟨[],rfl,by simp⟩
    | succ m ih =>
     intro hm'
     obtain ⟨ns,h1,h2⟩:=ih (by omega)
     obtain ⟨y,g1,g2,g3⟩:=hrd2 m (by omega)
     refine ⟨ns++[y],by simp[h1],fun j y' hy=>?_⟩
     by_cases hj:j<m
     ·rw[Ae (by omega)] at hy;exact h2 j y' hy
     ·have hjm:j=m:=by
        have:=(Am.1 hy).1
        simp at this
        omega
      subst hjm
      rw[Ad (by omega)] at hy
      simp[h1] at hy
      subst hy
      exact ⟨g1,g2,g3⟩
   obtain ⟨news,hnl,hnews⟩:=hex _ (Ai _)
   obtain ⟨v',w',hr,ho,hg,hb⟩:=bvt (P:=D.P) w B0 t type e i z ht hi hz hzs hsz (act.eval s) n xs hown a cx.len cap news (by rw[hnl,hcx]) (fun j u hj=>(hnews j u hj).1)
    (fun u hu=>by obtain ⟨j,hj⟩:=List.getElem?_of_mem hu;exact (hnews j u hj).2.1) h63 hlim' hR.base
   exact ⟨v',w',news,by rw[hu];exact hr,ho,hg,hb,fun j y hj=>(hnews j y hj).2⟩
  ·have h0:cx.len=0:=by omega
   rw[h0] at hu
   cases A with
   | none =>
    have hr:(Builtin.append_ #[t,t] type #[act.eval s,.slice none 0 cap]).run D.P w=.ok (act.eval s) w:=by
     rcases (show _ from hown.2) with ⟨h1,rfl⟩ | ⟨g,cap',cur,h1,_,_,hnc,_⟩
     ·rw[h1];simp[Builtin.append_,run_underlying ht,sizeOf,typeInfo,hi,Builtin.lenOf,Builtin.firstCells]
     ·rw[h1];simp[Builtin.append_,run_underlying ht,sizeOf,typeInfo,hi,Builtin.lenOf,Builtin.firstCells,hnc,storeCells]
    exact ⟨_,w,[],by rw[hu];exact hr,by rw[h0];simpa using hown,⟨rfl,rfl,rfl,Ai _,fun _ _ _=>rfl⟩,fun k hk=>.inl hk,by simp⟩
   | some a =>
    obtain ⟨v',w',hr,ho,hg,hb⟩:=bvt (P:=D.P) w B0 t type e i z ht hi hz hzs hsz (act.eval s) n xs hown a 0 cap [] (by simp) (by simp) (by simp) (by omega) (by rw[h0] at hlim';exact hlim') hR.base
    exact ⟨v',w',[],by rw[hu];exact hr,by rw[h0];exact ho,hg,hb,by simp⟩
 obtain ⟨v',w',news,hr,ho,hg,hb,hnews⟩:=hrun
 have hbel:Below B0 w w':=⟨hg.os,hg.tape,hg.output,hg.size,fun k hk=>hg.block k (Nat.lt_of_lt_of_le hk hR.base) (fun he=>by
  obtain ⟨d,c,u,_,hd,_,hu2,hv2⟩:=hblk k he.symm
  have:=((hR.heap d c hd).lt hu2 hv2).1
  omega)⟩
 have hold:∀k,k<w.heap.size→w'.heap[k]?=w.heap[k]?∨boh E st.h (fun d=>dead d∨d=st.n) k:=by
  intro k hk
  by_cases he:jk (act.eval s)=some k
  ·obtain ⟨d,c,u,hd,rest⟩:=hblk k he
   exact .inr ⟨d,c,u,.inl hd,rest⟩
  ·exact .inl (hg.block k hk (fun h=>he h.symm))
 have hSk:∀b,E.S b→w'.heap[b]?=w.heap[b]?:=by
  intro b hb'
  refine hg.block b (hR.sOld b hb') (fun he=>?_)
  obtain ⟨d,c,u,_,hd,hf,hu2,hv2⟩:=hblk b he.symm
  obtain ⟨u',hu',_,hns,_⟩:=hR.heap d c hd
  rw[hu2] at hu'
  cases hu'
  exact hns hf b hv2 hb'
 have kp:Keeps E.S E.S w w':=⟨fun _ h=>h,hSk⟩
 have hB:bdm ⟨E.S,upd E.ρ st.n v'⟩ w' B0 st.n ⟨.row e c',false⟩:=by
  refine ⟨v',upd_same _ _ _,⟨xs++news,by rw[hcs,hc'];exact ho,fun j y hj=>?_⟩,fun _ k hk hs'=>?_,fun hf=>by cases hf⟩
  ·by_cases hjx:j<xs.length
   ·rw[Ae hjx] at hj
    exact ⟨(hcell j y hj).1,cellC.mono kp (hcell j y hj).2⟩
   ·rw[Ad (by omega)] at hj
    have:=hnews _ y hj
    refine ⟨this.1,cellC.mono kp ?_⟩
    have h2:=hcell2 _ y this.2
    rw[hown.1] at h2 hjx
    rw[show n*i.size+(j-n*i.size)=j from by omega] at h2
    exact h2
  ·rcases hb k hk with h | h
   ·obtain ⟨d,c,u,_,hd,hf,hu2,hv2⟩:=hblk k h
    obtain ⟨u',hu',_,hns,_⟩:=hR.heap d c hd
    rw[hu2] at hu'
    cases hu'
    exact hns hf k hv2 hs'
   ·exact absurd (hR.sOld k hs') (by omega)
 obtain ⟨hR',up⟩:=bbg hR (E':=⟨E.S,upd E.ρ st.n v'⟩) rfl (bfu hxn) (x:=st.n) (fun id u hu=>by
     by_cases e:id=st.n
     ·exact .inl e
     ·simp only[upd,if_neg e] at hu;exact .inr hu) hbel (b:=⟨.row e c',false⟩) (dead:=dead) (h':=(st.n,some ⟨.row e c',false⟩)::tq puts st.h) yt
     (fun id c hid hc=>hputs id c hid (by rw[vo hid] at hc;exact hc)) hB rfl hold
     (fun u k hu hk=>by
      simp only[upd_same] at hu
      cases hu
      rcases hb k hk with h | h
      ·obtain ⟨d,c,u,hd,rest⟩:=hblk k h
       exact .inr ⟨d,c,u,.inl hd,rest⟩
      ·exact .inl (by omega)) (st.n+1)
 have hexec:(execOp act.eval ⟨dst,.call ⟨.builtin .append,#[s,x],#[t,t]⟩,type,pos,after,guard⟩).run D.P w=.ok (.value v') w':=by
  simp[execOp,resolve,invoke,builtin,hr]
 unfold Oper.wp
 rw[hexec,Oper.upon_value]
 refine hnext _ _ _ up (fun id y hy=>?_) (Rel.put hR' (a:=.own st.n) (by simp only[ig];exact upd_same _ _ _) dst)
 by_cases hid:id=st.n
 ·exact .inr ⟨by omega,by simp only;omega⟩
 ·simp only[upd,if_neg hid] at hy;exact .inl hy
end
end Go.Abs
end

section
namespace Go.Abs
open Go Go.RowKit
theorem akl{P:Program}{e:TypeId}{n:Nat}{ct:Cont}(h:aut P e n=some ct) :
    ∃i z,P.info? e=some i∧i.size=1∧i.zero=some z∧z.cells=#[z]∧z.oneCell'=true∧ct.len=n∧ct.size=1∧∀S w j,cellC S w ct j z:=by
 unfold aut at h
 split at h
 ·rename_i i hi
  cases hs:Ao i.size 1 with
  | false=>rw[hs] at h;cases h
  | true =>
   rw[hs] at h
   simp only[cond_true] at h
   have hs1:=Af hs
   split at h
   ·rename_i k hz
    cases h
    refine ⟨i,_,hi,hs1,hz,rfl,rfl,by simp[Cont.len],rfl,fun S w j=>?_⟩
    simp only[cellC,cell1,anp]
    congr 1
    simp only[Aa,Ak]
    split<;>rfl
   ·rename_i hz
    have nilOk:∀(S:Nat→Prop) (w:World) (k:IntKind) (l:List Int),l=[]→SlI S w k l (.slice none 0 0):=fun S w k l hl=>by
     subst hl
     exact ⟨none,0,rfl,Ai _,fun h=>absurd h (by simp)⟩
    have nilOk2:∀(S:Nat→Prop) (w:World) (k:IntKind) (l:List (List Int)),l=[]→SlR S w k l (.slice none 0 0):=fun S w k l hl=>by
     subst hl
     exact ⟨none,0,rfl,Ai _,fun h=>absurd h (by simp)⟩
    split at h
    ·split at h
     ·cases h
      refine ⟨i,_,hi,hs1,hz,rfl,rfl,by simp[Cont.len],rfl,fun S w j=>?_⟩
      simp only[cellC,cell1,au2]
      refine nilOk _ _ _ _ ?_
      simp only[Aa,Ak]
      split<;>rfl
     ·split at h
      ·cases h
       refine ⟨i,_,hi,hs1,hz,rfl,rfl,by simp[Cont.len],rfl,fun S w j=>?_⟩
       simp only[cellC,cell1,avo]
       refine nilOk2 _ _ _ _ ?_
       simp only[Aa,Ak]
       split<;>rfl
      ·cases h
     ·cases h
    ·cases h
   ·cases h
 ·cases h
section
variable {D:Ctx} {B0:Nat} {w0:W0} {st:ASt} {dst:Option Tmp} {type:TypeId} {pos:String} {after:Array Edge} {guard:Option (Nat×Bool)}
theorem btf{op:Op}{e:TypeId}{c:Cont} 
    (h:∀E act w,Rel D B0 w0 E st act w→∃(cs:Array Value) (cap:Nat),(execOp act.eval ⟨dst,op,type,pos,after,guard⟩).run D.P w=.ok (.value (.slice (some ⟨w.heap.size,0,none⟩) c.len cap)) (w.alloc (.cells cs e)) ∧
     c.len≤cap∧cap≤maxLen∧cs.size=cap*c.size∧∀j x,j<c.len*c.size→cs[j]?=some x→x.oneCell'=true∧cellC E.S w c j x) :
    agk D B0 w0 st ⟨dst,op,type,pos,after,guard⟩ ⟨.own st.n,[(st.n,some ⟨.row e c,false⟩)],st.n+1⟩:=by
 intro E act w hR hn next Q hnext
 obtain ⟨cs,cap,hrun,hcap,hmax,hsz,hc⟩:=h E act w hR
 have hx:E.ρ st.n=none:=hn st.n (Ai _) (by simp)
 have kp:Keeps E.S E.S w (w.alloc (.cells cs e)):=⟨fun _ h=>h,fun b hb=>heap_alloc_old w _ b (hR.sOld b hb)⟩
 have hlen:c.len*c.size≤cs.size:=by rw[hsz];exact Aj _ hcap
 obtain ⟨hR',up⟩:=ayl hR hx cs e (u:=.slice (some ⟨w.heap.size,0,none⟩) c.len cap) (b:=.row e c) rfl
  ⟨_,upd_same _ _ _,⟨cs.toList.take (c.len*c.size),⟨by simp;omega,.inr ⟨w.heap.size,cap,cs,rfl,hR.base,heap_alloc_new w _,hcap,hmax,hsz,rfl⟩⟩,fun j x hj=>by
   have hjl:j<c.len*c.size:=by
    have:=(Am.1 hj).1
    simp at this
    omega
   rw[Ab,if_pos hjl] at hj
   have:=hc j x hjl (by simpa using hj)
   exact ⟨this.1,cellC.mono kp this.2⟩⟩,fun _ k hk hs=>by
   simp[jk] at hk
   subst hk
   exact absurd (hR.sOld _ hs) (Nat.lt_irrefl _),fun hf=>by cases hf⟩ (st.n+1)
 unfold Oper.wp
 rw[hrun,Oper.upon_value]
 refine hnext _ _ _ up (fun id x hx'=>?_) (Rel.put hR' (a:=.own st.n) (by simp only[ig];exact upd_same _ _ _) dst)
 by_cases hid:id=st.n
 ·exact .inr ⟨by omega,by simp only;omega⟩
 ·simp only[upd,if_neg hid] at hx';exact .inl hx'
theorem bnf{t e:TypeId}{by_:Nat}(ht:D.P.underlying t=some (.slice e))(hb:br0 D.P e=some (by_+1))(x y:Operand){k k':IntKind}{l c:Int}(hx:ev st.f x=.v (.int k l))(hy:ev st.f y=.v (.int k' c))
    (h0:0≤l) (h1:l≤c) (h2:c*((by_+1:Nat):Int)≤(limit:Int)) {ct:Cont} (hct:aut D.P e l.toNat=some ct) :
    agk D B0 w0 st ⟨dst,.makeSlice t x y,type,pos,after,guard⟩ ⟨.own st.n,[(st.n,some ⟨.row e ct,false⟩)],st.n+1⟩ :=
 btf fun E act w hR=>by
  obtain ⟨i,z,hi,hs1,hz,hzc,hz1,hlen,hsize,hcell⟩:=akl hct
  obtain ⟨i',hi',hby⟩:=bzf hb
  rw[hi] at hi'
  cases hi'
  have hX:=hR.ev x
  have hY:=hR.ev y
  rw[hx] at hX
  rw[hy] at hY
  simp only[ig] at hX hY
  have hc63:c≤140737488355328:=by
   have h3:c*1≤c*((by_+1:Nat):Int):=Int.mul_le_mul_of_nonneg_left (by omega) (by omega)
   have h4:(limit:Int)=140737488355328:=rfl
   omega
  have hr:=run_make (P:=D.P) w t e i z ht hi hz k k' l c h0 h1 (by rw[hby,Int.mul_comm];have h4:(limit:Int)=140737488355328:=rfl;omega) (by omega)
  refine ⟨madeCells z.cells (c.toNat*i.size),c.toNat,?_,by rw[hlen];omega,by simp only[maxLen];omega,by rw[size_madeCells,hs1,hsize],fun j y hj hy=>?_⟩
  ·simp only[execOp,hX,hY,Sem.run_bind,hr,Result.andThen_ok,Sem.run_pure,hlen]
  ·have hy2:y=z:=by
     simp only[madeCells,hzc] at hy
     rw[Array.getElem?_map] at hy
     cases hg:(Array.range (c.toNat*i.size))[j]? with
     | none=>rw[hg] at hy;cases hy
     | some q =>
      rw[hg] at hy
      simp[Nat.mod_one] at hy
      exact hy.symm
   subst hy2
   exact ⟨hz1,hcell _ _ _⟩
theorem asq{pl:Nat→Option (Nat×Nat)}(hpl:∀i,pl i=some (i,1)):∀(ps:List (Nat×Operand)) (ρ:Operand→Value) (i:Nat) (cells:Array Value),af4 i ps=true→i+ps.length≤cells.size→(∀p∈ps,(ρ p.2).oneCell'=true) →
    Instr.fill pl cells (ps.map fun p=>(p.1,ρ p.2))=some (cells.toList.take i++ps.map (fun p=>ρ p.2)++cells.toList.drop (i+ps.length)).toArray
 | [],ρ,i,cells,_,_,_=>by simp[Instr.fill]
 | (j,x)::r,ρ,i,cells,h,hlen,h1=>by
  simp only[af4,Bool.and_eq_true] at h
  have hj:=Af h.1
  subst hj
  have hone:=h1 (i,x) (by simp)
  have hcl:(ρ x).cells=#[ρ x]:=by
   simp only at hone
   cases hv:ρ x<;>rw[hv] at hone<;>first | rfl | cases hone
  simp only[List.length_cons] at hlen
  have hlt:i<cells.size:=by omega
  have ih:=asq hpl r ρ (i+1) (cells.setIfInBounds i (ρ x)) h.2 (by simp;omega) (fun p hp=>h1 p (by simp[hp]))
  simp only[List.map_cons,Instr.fill,hcl,hpl]
  have hcond:¬((#[ρ x]:Array Value).size≠1∨(decide (i+(#[ρ x]:Array Value).size>cells.size)=true)):=by simp;omega
  rw[if_neg (by simpa using hcond)]
  have hfold:((#[ρ x]:Array Value).zipIdx.foldl (fun cs (c,j)=>cs.setIfInBounds (i+j) c) cells)=cells.setIfInBounds i (ρ x):=by simp
  rw[hfold,ih]
  congr 1
  congr 1
  rw[Array.toList_setIfInBounds]
  have hl:cells.toList.length=cells.size:=by simp
  simp only[List.append_assoc,List.length_cons]
  rw[List.take_set,List.drop_set,if_pos (by omega)]
  rw[List.take_add_one,List.set_append_right _ _ (by simp;omega)]
  simp[Ac (show i<cells.toList.length by omega),Ay (show i≤cells.size by omega)]
  omega
end
end Go.Abs
end

section
namespace Go.Abs
open Go Go.RowKit
theorem mg{α:Type}{x:α}{l r:List α}:x∈tq l r↔x∈l∨x∈r:=by rw[ajz];exact List.mem_append
section
variable {D:Ctx} {B0:Nat} {w0:W0} {E:Env} {st:ASt} {act:Act} {w:World}
theorem aqg(hR:Rel D B0 w0 E st act w){hl:Nat→Option Blk}(hm:∀id b,hl id=some b→iw st.h id=some b){x:AVal}{c:Cont}(h:anj hl x=some c){u:Value}(hu:ig E w x u)(h0:0<c.len)
    {k:Nat} (hk:jk u=some k):E.S k∨∃id,id∈xg x∧∃b v,hl id=some b∧E.ρ id=some v∧jk v=some k:=by
 unfold anj at h
 split at h
 ·cases h
  simp only[ig] at hu
  obtain ⟨A,cap,rfl,_,hx⟩:=hu
  obtain ⟨a,rfl,hS,_⟩:=hx h0
  simp[jk] at hk
  subst hk
  exact .inl hS
 ·rename_i id
  split at h
  ·rename_i e c' f hb
   simp only[ig] at hu
   exact .inr ⟨id,by simp[xg],_,u,hb,hu,hk⟩
  ·cases h
 ·rename_i id off len
  simp only[ig] at hu
  obtain ⟨A,n,cap,hρ,hle,A',hA',_,rfl⟩:=hu
  have key:∀e c0 f,hl id=some ⟨.row e c0,f⟩→(match c0 with
      | .ints k l=>some (Cont.ints k ((l.drop off).take len))
      | .rows k l=>some (.rows k ((l.drop off).take len))
      | .rows2 k l=>some (.rows2 k ((l.drop off).take len))
      | _=>none)=some c→E.S k∨∃id',id'∈xg (.win id off len)∧∃b v,hl id'=some b∧E.ρ id'=some v∧jk v=some k:=by
   intro e c0 f hb hc
   obtain ⟨v,hv,⟨xs,ho,hx⟩,_⟩:=hR.heap _ _ (hm _ _ hb)
   rw[hρ] at hv
   cases hv
   have hn:n=c0.len:=by
    cases A with
    | none=>have:=acs ho rfl;omega
    | some a=>exact (ac5 ho rfl).1
   obtain ⟨s1,s2,s3,hcell⟩:=bb5 hc (by omega)
   rw[s3] at h0
   cases A with
   | none=>have:=acs ho rfl;omega
   | some a =>
    rw[hA' h0] at hk
    simp[jk,add_block] at hk
    exact .inr ⟨id,by simp[xg],_,_,hb,hρ,by simp[jk,hk]⟩
  split at h
  ·rename_i hb;exact key _ _ _ hb h
  ·rename_i hb;exact key _ _ _ hb h
  ·rename_i hb;exact key _ _ _ hb h
  ·cases h
 ·rename_i id off m lo len
  simp only[ig] at hu
  obtain ⟨b,A,cap,hρ,hle,hcap,hA,rfl⟩:=hu
  split at h
  ·rename_i e cs f hb
   split at h
   ·rename_i pre k' m' l post hs
    cases hbm:Ao m m' with
    | false=>rw[hbm] at h;cases h
    | true =>
     rw[hbm] at h
     cases h
     simp only[Cont.len,List.length_take,List.length_drop] at h0
     rw[hA (by omega)] at hk
     simp[jk] at hk
     exact .inr ⟨id,by simp[xg],_,_,hb,hρ,by simp[jk,hk]⟩
   ·cases h
  ·cases h
 ·cases h
mutual
theorem aao(hR:Rel D B0 w0 E st act w){hl:Nat→Option Blk}(hm:∀id b,hl id=some b→iw st.h id=some b){S':Nat→Prop}(hS:∀b,E.S b→S' b) :
    ∀(a:AVal) (u:Value),ig E w a u→(∀id,id∈xg a→∀b v k,hl id=some b→E.ρ id=some v→jk v=some k→S' k)→ig ⟨S',fun _=>none⟩ w (aap hl a) u
 | .own id,u,h,hi=>by
  simp only[aap]
  split
  ·rename_i c hc
   simp only[ig]
   exact amy (E':=⟨S',fun _=>none⟩) (adb hR hm hc h) hS fun h0 k hk=>by
    rcases aqg hR hm hc h h0 hk with hk | ⟨id',h1,b,v,h2,h3,h4⟩
    ·exact hS _ hk
    ·exact hi id' h1 b v k h2 h3 h4
  ·simp only[ig]
 | .win id off len,u,h,hi=>by
  simp only[aap]
  split
  ·rename_i c hc
   simp only[ig]
   exact amy (E':=⟨S',fun _=>none⟩) (adb hR hm hc h) hS fun h0 k hk=>by
    rcases aqg hR hm hc h h0 hk with hk | ⟨id',h1,b,v,h2,h3,h4⟩
    ·exact hS _ hk
    ·exact hi id' h1 b v k h2 h3 h4
  ·simp only[ig]
 | .awin id off m lo len,u,h,hi=>by
  simp only[aap]
  split
  ·rename_i c hc
   simp only[ig]
   exact amy (E':=⟨S',fun _=>none⟩) (adb hR hm hc h) hS fun h0 k hk=>by
    rcases aqg hR hm hc h h0 hk with hk | ⟨id',h1,b,v,h2,h3,h4⟩
    ·exact hS _ hk
    ·exact hi id' h1 b v k h2 h3 h4
  ·simp only[ig]
 | .ptr _ _,u,h,hi=>by simp only[aap,ig]
 | .pel _ _ _,u,h,hi=>by simp only[aap,ig]
 | .fel _ _ _ _,u,h,hi=>by simp only[aap,ig]
 | .apel _ _ _ _,u,h,hi=>by simp only[aap,ig]
 | .sta l,u,h,hi=>by
  simp only[aap]
  cases hb:ax3 0 l with
  | false=>simp only[cond_false,ig]
  | true =>
   simp only[cond_true,ig] at h ⊢
   obtain ⟨a,cs,h1,h2,h3,h4⟩:=h
   have h5:=amu (E:=E) (E':=⟨E.S,fun _=>none⟩) rfl (n:=0) (fun id hid=>absurd hid (Nat.not_lt_zero _)) l cs hb h3
   exact ⟨a,cs,h1,hS _ h2,qw.mono (E:=⟨E.S,fun _=>none⟩) (E':=⟨S',fun _=>none⟩) ⟨⟨hS,fun _ _=>rfl⟩,fun _ _ h=>h⟩ l cs h5,h4⟩
 | .osta q l,u,h,hi=>by
  simp only[aap]
  cases hb:ax3 0 l with
  | false=>simp only[cond_false,ig]
  | true =>
   simp only[cond_true,ig] at h ⊢
   rcases h with h | ⟨h0,a,cs,h1,h2,h3,h4⟩
   ·exact .inl h
   have h5:=amu (E:=E) (E':=⟨E.S,fun _=>none⟩) rfl (n:=0) (fun id hid=>absurd hid (Nat.not_lt_zero _)) l cs hb h3
   exact .inr ⟨h0,a,cs,h1,hS _ h2,qw.mono (E:=⟨E.S,fun _=>none⟩) (E':=⟨S',fun _=>none⟩) ⟨⟨hS,fun _ _=>rfl⟩,fun _ _ h=>h⟩ l cs h5,h4⟩
 | .alt t f fa fc g ga gc,u,h,hi=>by
  simp only[aap,ig] at h ⊢
  simp only[xg] at hi
  rcases h with h | ⟨h0,x,y,h1,h2,h3⟩ | ⟨h0,x,y,h1,h2,h3⟩
  ·exact .inl h
  ·exact .inr (.inl ⟨h0,x,y,h1,afd hR hm hS fa x h2 (fun id hid=>hi id (mg.2 (.inl (mg.2 (.inl hid))))),afd hR hm hS fc y h3 (fun id hid=>hi id (mg.2 (.inl (mg.2 (.inr hid)))))⟩)
  ·exact .inr (.inr ⟨h0,x,y,h1,afd hR hm hS ga x h2 (fun id hid=>hi id (mg.2 (.inr (mg.2 (.inl hid))))),afd hR hm hS gc y h3 (fun id hid=>hi id (mg.2 (.inr (mg.2 (.inr hid)))))⟩)
 | .glob _ _,u,h,hi=>by simp only[aap,ig]
 | .gel _ _ _ _,u,h,hi=>by simp only[aap,ig]
 | .fr _ _,u,h,hi=>by simp only[aap,ig]
 | .yld _ _ _,u,h,hi=>by simp only[aap,ig]
 | .agg l,u,h,hi=>by
  simp only[aap,ig] at h ⊢
  obtain ⟨cs,h1,h2⟩:=h
  exact ⟨cs,h1,ba2 hR hm hS l cs h2 (by simpa only[xg] using hi)⟩
 | .tuple l,u,h,hi=>by
  simp only[aap,ig] at h ⊢
  obtain ⟨vs,h1,h2⟩:=h
  exact ⟨vs,h1,afd hR hm hS l vs h2 (by simpa only[xg] using hi)⟩
 | .fn f a b,u,h,hi=>by
  simp only[aap,ig] at h ⊢
  obtain ⟨x,y,h1,h2,h3⟩:=h
  simp only[xg] at hi
  exact ⟨x,y,h1,afd hR hm hS a x h2 (fun id hid=>hi id (mg.2 (.inl hid))),afd hR hm hS b y h3 (fun id hid=>hi id (mg.2 (.inr hid)))⟩
 | .iface t x,u,h,hi=>by
  simp only[aap,ig] at h ⊢
  obtain ⟨y,h1,h2⟩:=h
  exact ⟨y,h1,aao hR hm hS x y h2 (by simpa only[xg] using hi)⟩
 | .v x,u,h,hi=>by simp only[aap,ig] at h ⊢;exact h
 | .bot,u,h,hi=>by simp only[aap,ig]
 | .sl c,u,h,hi=>by simp only[aap,ig] at h ⊢;exact SlC.mono ⟨hS,fun _ _=>rfl⟩ h
 | .arr k n l,u,h,hi=>by simp only[aap,ig] at h ⊢;exact h
theorem afd(hR:Rel D B0 w0 E st act w){hl:Nat→Option Blk}(hm:∀id b,hl id=some b→iw st.h id=some b){S':Nat→Prop}(hS:∀b,E.S b→S' b) :
    ∀(l:List AVal) (vs:List Value),mq E w l vs→(∀id,id∈ru l→∀b v k,hl id=some b→E.ρ id=some v→jk v=some k→S' k)→mq ⟨S',fun _=>none⟩ w (ah0 hl l) vs
 | [],vs,h,_=>by simp only[ah0,mq] at h ⊢;exact h
 | a::r,vs,h,hi=>by
  simp only[ah0,mq] at h ⊢
  obtain ⟨u,us,h1,h2,h3⟩:=h
  simp only[ru] at hi
  exact ⟨u,us,h1,aao hR hm hS a u h2 (fun id hid=>hi id (mg.2 (.inl hid))),afd hR hm hS r us h3 (fun id hid=>hi id (mg.2 (.inr hid)))⟩
theorem ba2(hR:Rel D B0 w0 E st act w){hl:Nat→Option Blk}(hm:∀id b,hl id=some b→iw st.h id=some b){S':Nat→Prop}(hS:∀b,E.S b→S' b) :
    ∀(l:List AVal) (cs:List Value),qw E w l cs→(∀id,id∈ru l→∀b v k,hl id=some b→E.ρ id=some v→jk v=some k→S' k)→qw ⟨S',fun _=>none⟩ w (ah0 hl l) cs
 | [],cs,h,_=>by simp only[ah0,qw] at h ⊢;exact h
 | a::r,cs,h,hi=>by
  simp only[ru] at hi
  rcases y8 h with ⟨k',n,l,cs',rfl,h1,rfl,h3⟩ | ⟨ha,u,cs',rfl,h2,h3,h4⟩
  ·simp only[ah0,aap]
   exact abo h1 (ba2 hR hm hS r cs' h3 (fun id hid=>hi id (mg.2 (.inr hid))))
  ·simp only[ah0]
   refine om ?_ h2 (aao hR hm hS a u h3 (fun id hid=>hi id (mg.2 (.inl hid)))) (ba2 hR hm hS r cs' h4 (fun id hid=>hi id (mg.2 (.inr hid))))
   intro k n l
   cases a<;>simp only[aap]<;>first
    | exact absurd rfl (ha _ _ _)
    | (split<;>simp)
    | (rename_i z;cases ax3 0 z<;>simp)
    | simp
end
end
end Go.Abs
end
