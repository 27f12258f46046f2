/-
  SlhRight, part 16: lemmas for the law.
-/

import Derived.Test.YtciddcopcdmnbaaGreatDoorSlhRightK
import Derived.Test.YtciddcopcdmnbaaGreatDoorSlhRightH
import Derived.Test.YtciddcopcdmnbaaGreatDoorProg
import Derived.Test.YtciddcopcdmnbaaGreatDoorSlhRightJ
import Derived.Test.YtciddcopcdmnbaaGreatDoorSlhRightO
import Derived.KernelRfl
import Derived.Test.YtciddcopcdmnbaaGreatDoorSlhRightM
import Derived.Test.YtciddcopcdmnbaaGreatDoorSlhRightL
import Derived.Test.YtciddcopcdmnbaaGreatDoorSlhRightN
open Eq renaming trans → Aa

section
open Go Go.Abs Go.Proofs
set_option maxRecDepth 100000
set_option maxHeartbeats 0
set_option linter.unusedVariables false

namespace yc
noncomputable def dn:Abs.Spec:=fun args K=>match args with
 | [.agg [.v (.int .i64 b),.v (.int .i64 c),.v (.int .i64 d),.v (.int .i64 e),.v (.int .i64 f),.v (.bool a)],.sl (.ints .u8 g),.arr .u8 32 h,.sl (.ints .u8 i)]=>P.yc b c d e f a g h i (fun j=>K (.sl (.ints .u8 j)))
 | _=>none
noncomputable def spec:Abs.Spec:=fun args K=>dn (o8 [.any,.sl (.ints .u8 []),.any,.sl (.ints .u8 [])] args) K
theorem ok0:Proved Tryz.prog GLO.gx 104 dn:=pK (G:=[(144,vo.spec),(186,jh.spec),(188,jf.spec)]) (fn:=Tryz.f104) [.sl (.ints .u8 [])] ⟨vo.ok,jh.ok,jf.ok,trivial⟩ fun _ K _ h=>by
  unfold dn at h
  split at h
  · rw[P.au4] at h;exact Aa (by kernel_rfl) h
  · cases h
theorem ok:Proved Tryz.prog GLO.gx 104 spec:=cu _ ok0
end yc

namespace qm
noncomputable def dn:Abs.Spec:=fun args K=>match args with
 | [.agg [.v (.int .i64 c),.v (.int .i64 d),.v (.int .i64 e),.v (.int .i64 f),.v (.int .i64 g),.v (.bool a),.sl (.ints .u8 b),.sl (.ints .u8 h),.arr .u8 32 i],.sl (.ints .u8 j)]=>P.qm c d e f g a b h i j (fun k=>K (.sl (.ints .u8 k)))
 | _=>none
noncomputable def spec:Abs.Spec:=fun args K=>dn (o8 [.agg [.any,.any,.any,.any,.any,.any,.sl (.ints .u8 []),.sl (.ints .u8 []),.any],.sl (.ints .u8 [])] args) K
theorem ok0:Proved Tryz.prog GLO.gx 54 dn:=pK (G:=[(104,yc.spec),(105,mg.spec)]) (fn:=Tryz.f54) [.sl (.ints .u8 [])] ⟨yc.ok,mg.ok,trivial⟩ fun _ K _ h=>by
  unfold dn at h
  split at h
  · rw[P.akm] at h;exact Aa (by kernel_rfl) h
  · cases h
theorem ok:Proved Tryz.prog GLO.gx 54 spec:=cu _ ok0
end qm

namespace u7
noncomputable def dn:Abs.Spec:=fun args K=>match args with
 | [.agg [.v (.int .i64 c),.v (.int .i64 d),.v (.int .i64 e),.v (.int .i64 f),.v (.int .i64 g),.v (.bool a),.sl (.ints .u8 b),.sl (.ints .u8 h),.arr .u8 32 i],.v (.int .i64 j),.v (.int .u64 k)]=>P.u7 c d e f g a b h i j k (fun l=>K (.arr .u8 32 l))
 | _=>none
noncomputable def spec:Abs.Spec:=fun args K=>dn (o8 [.agg [.any,.any,.any,.any,.any,.any,.sl (.ints .u8 []),.sl (.ints .u8 []),.any],.any,.any] args) K
theorem ok0:Proved Tryz.prog GLO.gx 143 dn:=pK (G:=[(39,dh.spec),(105,mg.spec)]) (fn:=Tryz.f143) [.any] ⟨dh.ok,mg.ok,trivial⟩ fun _ K _ h=>by
  unfold dn at h
  split at h
  · rw[P.ahi] at h;exact Aa (by kernel_rfl) h
  · cases h
theorem ok:Proved Tryz.prog GLO.gx 143 spec:=cu _ ok0
end u7

namespace jr
noncomputable def dn:Abs.Spec:=fun args K=>match args with
 | [.agg [.v (.int .i64 c),.v (.int .i64 d),.v (.int .i64 e),.v (.int .i64 f),.v (.int .i64 g),.v (.bool a),.sl (.ints .u8 b),.sl (.ints .u8 h),.arr .u8 32 i],.v (.int .i64 j),.v (.int .u64 k),.sl (.rows .u8 l)]=>P.jr c d e f g a b h i j k l (fun m=>K (.sl (.ints .u8 m)))
 | _=>none
noncomputable def spec:Abs.Spec:=fun args K=>dn (o8 [.agg [.any,.any,.any,.any,.any,.any,.sl (.ints .u8 []),.sl (.ints .u8 []),.any],.any,.any,.sl (.rows .u8 [])] args) K
theorem ok0:Proved Tryz.prog GLO.gx 103 dn:=pK (G:=[(40,dz.spec),(104,yc.spec),(143,u7.spec)]) (fn:=Tryz.f103) [.sl (.ints .u8 [])] ⟨dz.ok,yc.ok,u7.ok,trivial⟩ fun _ K _ h=>by
  unfold dn at h
  split at h
  · rw[P.ajb] at h;exact Aa (by kernel_rfl) h
  · cases h
theorem ok:Proved Tryz.prog GLO.gx 103 spec:=cu _ ok0
end jr

namespace su
abbrev X3:=P.bt0
def S3:X3→ASt:=fun (l,m,n,j,k,a,b,c,d,e,f,g,h,i)=>⟨[(1,.v (.int .u64 l)),(2,.sl (.ints .u8 m)),(3,.ptr 0 0),(7,.sl (.ints .u8 n)),(22,.v (.int .i64 j)),(23,.v (.int .i64 k))],[(0,some ⟨.box 82 [.v (.int .i64 a),.v (.int .i64 b),.v (.int .i64 c),.v (.int .i64 d),.v (.int .i64 e),.v (.bool f),.sl (.ints .u8 g),.sl (.ints .u8 h),.arr .u8 32 i],false⟩)],40,57⟩
def V3:ASt→Option X3
 | ⟨[(1,.v (.int .u64 l)),(2,.sl (.ints .u8 m)),(3,.ptr 0 0),(7,.sl (.ints .u8 n)),(22,.v (.int .i64 j)),(23,.v (.int .i64 k))],[(0,some ⟨.box 82 [.v (.int .i64 a),.v (.int .i64 b),.v (.int .i64 c),.v (.int .i64 d),.v (.int .i64 e),.v (.bool f),.sl (.ints .u8 g),.sl (.ints .u8 h),.arr .u8 32 i],false⟩)],40,57⟩=>some (l,m,n,j,k,a,b,c,d,e,f,g,h,i)
 | _=>none
theorem au5(st)(x)(h:V3 st=some x):st=S3 x:=by unfold V3 at h;split at h;(cases h;rfl);cases h
abbrev Y3:=P.b3j
def E3(K:AExit→ASt→Option R):Y3→Option R:=(fun x=>K (.exit 0) (S3 x))
noncomputable def L3:za:=fun st K=>ag0 (V3 st) fun x=>P.byt x (E3 K)
noncomputable def D:Ctx:=⟨Tryz.prog,[(103,jr.spec)],GLO.gx,[(3,⟨[1,2,3,7,22,23],[],[6],[(2,.sl (.ints .u8 [])),(7,.sl (.ints .u8 []))],some (40,[0]),[],[],[]⟩)],[(3,L3)],[],false,none,none,[],false⟩
theorem aur:o9 D (je Tryz.f53 3):=jd S3 au5 (by kernel_rfl) P.b4v (enc:=E3) fun _ _ _=>by kernel_rfl
theorem loops:gu (Tryz.f53.body.getD .skip)=[je Tryz.f53 3]:=by kernel_rfl
noncomputable def dn:Abs.Spec:=fun args K=>match args with
 | [.agg [.v (.int .i64 c),.v (.int .i64 d),.v (.int .i64 e),.v (.int .i64 f),.v (.int .i64 g),.v (.bool a),.sl (.ints .u8 b),.sl (.ints .u8 h),.arr .u8 32 i],.v (.int .u64 j),.sl (.ints .u8 k)]=>P.su c d e f g a b h i j k (fun l=>K (.sl (.ints .u8 l)))
 | _=>none
noncomputable def spec:Abs.Spec:=fun args K=>dn (o8 [.agg [.any,.any,.any,.any,.any,.any,.sl (.ints .u8 []),.sl (.ints .u8 []),.any],.any,.sl (.ints .u8 [])] args) K
theorem ok0:Proved Tryz.prog GLO.gx 53 dn:=pL (D:=D) (fn:=Tryz.f53) [.sl (.ints .u8 [])] ⟨jr.ok,trivial⟩ loops ⟨aur,trivial⟩ fun _ K _ h=>by
  unfold dn at h
  split at h
  · rw[P.al4] at h;exact Aa (by kernel_rfl) h
  · cases h
theorem ok:Proved Tryz.prog GLO.gx 53 spec:=cu _ ok0
end su

namespace ny
abbrev blr:=P.bte
def bey:blr→ASt:=fun (A,B,a,b,c,d,e,f,g,h,i,j,k,l,m,n,o,p,q,r,s,t,u,w,y,z,C)=>⟨[(0,.yld 7 [5,6,13,14] [.ptr 0 0,.ptr 1 0,.ptr 3 0,.ptr 4 0]),(2,.ptr 5 0),(13,.own 8),(14,.v (.int .i64 A)),(15,.v (.int .i64 B))],[(840,some ⟨.row 5 (.ints .u8 a),false⟩),(0,some ⟨.box 23 [.v (.int .i64 b),.v (.int .i64 c),.v (.int .i64 d),.v (.int .i64 e),.v (.int .i64 f),.v (.bool g)],false⟩),(1,some ⟨.box 24 [.sl (.ints .u8 h)],false⟩),(3,some ⟨.box 82 [.v (.int .i64 i),.v (.int .i64 j),.v (.int .i64 k),.v (.int .i64 l),.v (.int .i64 m),.v (.bool n),.v (.slice none 0 0),.sl (.ints .u8 o),.arr .u8 32 p],false⟩),(4,some ⟨.box 24 [.own 840],false⟩),(5,some ⟨.box 82 [.v (.int .i64 q),.v (.int .i64 r),.v (.int .i64 s),.v (.int .i64 t),.v (.int .i64 u),.v (.bool w),.v (.slice none 0 0),.sl (.ints .u8 y),.arr .u8 32 z],false⟩),(8,some ⟨.row 102 (.ints .u32 C),false⟩)],841,33⟩
def beo:ASt→Option blr
 | ⟨[(0,.yld 7 [5,6,13,14] [.ptr 0 0,.ptr 1 0,.ptr 3 0,.ptr 4 0]),(2,.ptr 5 0),(13,.own 8),(14,.v (.int .i64 A)),(15,.v (.int .i64 B))],[(840,some ⟨.row 5 (.ints .u8 a),false⟩),(0,some ⟨.box 23 [.v (.int .i64 b),.v (.int .i64 c),.v (.int .i64 d),.v (.int .i64 e),.v (.int .i64 f),.v (.bool g)],false⟩),(1,some ⟨.box 24 [.sl (.ints .u8 h)],false⟩),(3,some ⟨.box 82 [.v (.int .i64 i),.v (.int .i64 j),.v (.int .i64 k),.v (.int .i64 l),.v (.int .i64 m),.v (.bool n),.v (.slice none 0 0),.sl (.ints .u8 o),.arr .u8 32 p],false⟩),(4,some ⟨.box 24 [.own 840],false⟩),(5,some ⟨.box 82 [.v (.int .i64 q),.v (.int .i64 r),.v (.int .i64 s),.v (.int .i64 t),.v (.int .i64 u),.v (.bool w),.v (.slice none 0 0),.sl (.ints .u8 y),.arr .u8 32 z],false⟩),(8,some ⟨.row 102 (.ints .u32 C),false⟩)],841,33⟩=>some (A,B,a,b,c,d,e,f,g,h,i,j,k,l,m,n,o,p,q,r,s,t,u,w,y,z,C)
 | _=>none
theorem ao9(st)(x)(h:beo st=some x):st=bey x:=by unfold beo at h;split at h;(cases h;rfl);cases h
abbrev br2:=P.b28
def bi4(K:AExit→ASt→Option R):br2→Option R:=(fun x=>K (.exit 0) (bey x))
noncomputable def bru:za:=fun st K=>ag0 (beo st) fun x=>P.b3b x (bi4 K)
noncomputable def D3:Ctx:=({ P:=Tryz.prog,G:=[(22,ji.spec),(23,jo.spec),(53,su.spec),(54,qm.spec),(102,jl.spec)],globs:=GLO.gx,hints:=[],loops:=[],inl:=[],y:=some (an9 (aat Tryz.f27 8) 68 false) }:Ctx)
noncomputable def D2:Ctx:=({ P:=Tryz.prog,G:=[(22,ji.spec),(23,jo.spec),(53,su.spec),(54,qm.spec),(102,jl.spec)],globs:=GLO.gx,hints:=[(1,⟨[0,2,13,14,15],[(1000004,5,.ints .u8 [])],[],[],some (840,[0,1,3,4,5,8]),[0,1,3,5],[],[]⟩)],loops:=[(1,bru)],inl:=[],y:=some (an9 (aat Tryz.f27 8) 68 true),ys:=some (aji D3 (an9 (aat Tryz.f27 8) 68 true)) }:Ctx)
noncomputable def D1:Ctx:=({ P:=Tryz.prog,G:=[(22,ji.spec),(23,jo.spec),(53,su.spec),(54,qm.spec),(102,jl.spec)],globs:=GLO.gx,hints:=[],loops:=[],inl:=[] }:Ctx)
noncomputable def D:Ctx:=({ P:=Tryz.prog,G:=[(22,ji.spec),(23,jo.spec),(53,su.spec),(54,qm.spec),(102,jl.spec)],globs:=GLO.gx,hints:=[],loops:=[],inl:=[(52,adv D1 Tryz.f52)],top:=true,rng:=[(8,⟨101,68,[5,6,13,14],adv D2 Tryz.f101⟩)] }:Ctx)
theorem apf:o9 D2 (je Tryz.f101 1):=jd bey ao9 (by kernel_rfl) P.b4w (enc:=bi4) fun _ _ _=>by kernel_rfl
theorem loops:gu (Tryz.f27.body.getD .skip)=[]:=by kernel_rfl
theorem ain:gu (Tryz.f52.body.getD .skip)=[]:=by kernel_rfl
theorem aqk:gu (Tryz.f101.body.getD .skip)=[je Tryz.f101 1]:=by kernel_rfl
theorem awy:gu (blc (aat Tryz.f27 8))=[]:=by kernel_rfl
theorem ranges:vg (Tryz.f27.body.getD .skip)=[aat Tryz.f27 8]:=by kernel_rfl
theorem ak4:alm D2 (aji D3 (an9 (aat Tryz.f27 8) 68 true)):=aqf (Y:=an9 (aat Tryz.f27 8) 68 true) (asi (D:=D3) ⟨ji.ok,jo.ok,su.ok,qm.ok,jl.ok,trivial⟩) (gy (by kernel_rfl)) (as0 (D:=D3) trivial (anl rfl)) (by kernel_rfl) rfl rfl (by kernel_rfl) (by kernel_rfl) rfl rfl rfl (ad4 _ (by rw[show gu (an9 (aat Tryz.f27 8) 68 true).assign=[] from by kernel_rfl];exact trivial)) (ad4 _ (by rw[show gu (an9 (aat Tryz.f27 8) 68 true).body=gu (blc (aat Tryz.f27 8)) from by kernel_rfl,awy];exact trivial))
noncomputable def dn:Abs.Spec:=fun args K=>match args with
 | [.agg [.v (.int .i64 b),.v (.int .i64 c),.v (.int .i64 d),.v (.int .i64 e),.v (.int .i64 f),.v (.bool a)],.sl (.ints .u8 g),.sl (.ints .u8 h),.sl (.ints .u8 i),.arr .u8 32 j]=>P.ny b c d e f a g h i j (fun k=>K (.sl (.ints .u8 k)))
 | _=>none
noncomputable def spec:Abs.Spec:=fun args K=>dn (o8 [.any,.sl (.ints .u8 []),.sl (.ints .u8 []),.sl (.ints .u8 []),.any] args) K
theorem ok0:Proved Tryz.prog GLO.gx 27 dn:=by
 refine zi (D:=D) (fn:=Tryz.f27) (c:=Tryz.f27.body.getD .skip) [.sl (.ints .u8 [])] (by kernel_rfl) (gy (by kernel_rfl)) (by kernel_rfl) (by kernel_rfl) (by kernel_rfl) ⟨ji.ok,jo.ok,su.ok,qm.ok,jl.ok,trivial⟩ ⟨akh (D:=D1) (D':=D) (fn:=Tryz.f52) (c:=Tryz.f52.body.getD .skip) rfl rfl (by kernel_rfl) (gy (by kernel_rfl)) (by kernel_rfl) (by kernel_rfl) (by kernel_rfl) ⟨ji.ok,jo.ok,su.ok,qm.ok,jl.ok,trivial⟩ trivial (by rw[ain];exact trivial) (fun _ _ _ _ _ h=>h),trivial⟩ ?_ ?_ (hRg:=by rw[ranges];exact ⟨anr (D:=D) (Di:=D2) (e:=⟨101,68,[5,6,13,14],adv D2 Tryz.f101⟩) (by kernel_rfl) rfl rfl (by kernel_rfl) (akh (D:=D2) (D':=D2) (fn:=Tryz.f101) (c:=Tryz.f101.body.getD .skip) rfl rfl (by kernel_rfl) (gy (by kernel_rfl)) (by kernel_rfl) (by kernel_rfl) (by kernel_rfl) ⟨ji.ok,jo.ok,su.ok,qm.ok,jl.ok,trivial⟩ trivial (by rw[aqk];exact ⟨apf,trivial⟩) (fun _ _ _ _ _ h=>h) rfl rfl (aho rfl _) (fun s hs=>by have hs:some (aji D3 (an9 (aat Tryz.f27 8) 68 true))=some s:=hs;cases hs;exact ak4)),trivial⟩)
 · rw[loops];exact trivial
 · intro args K r h
   unfold dn at h
   split at h
   · rw[P.aj7] at h;exact Aa (by kernel_rfl) h
   · cases h
theorem ok:Proved Tryz.prog GLO.gx 27 spec:=cu _ ok0
end ny

namespace aev
noncomputable def spec:Abs.Spec:=fun args K=>match args with
 | [.v (.int .i64 a)]=>P.aev a (fun b=>K (.v (.bool b)))
 | _=>none
theorem ok:Proved Tryz.prog GLO.gx 137 spec:=pK (G:=[]) (fn:=Tryz.f137) [.any] trivial fun _ K _ h=>by
  unfold spec at h
  split at h
  · rw[P.asz] at h;exact Aa (by kernel_rfl) h
  · cases h
end aev

namespace yt
noncomputable def dn:Abs.Spec:=fun args K=>match args with
 | [.v (.int .i64 a),.sl (.ints .u8 b),.v (.int .i64 c)]=>P.yt a b c (fun d e=>K (.tuple [.fr 5 (.ints .u8 d),.v (.int .i64 e)]))
 | _=>none
noncomputable def spec:Abs.Spec:=fun args K=>dn (o8 [.any,.sl (.ints .u8 []),.any] args) K
theorem ok0:Proved Tryz.prog GLO.gx 92 dn:=pK (G:=[(134,abg.spec),(135,qo.spec),(136,ow.spec)]) (fn:=Tryz.f92) [.fr 5 (.ints .u8 []),.any] ⟨abg.ok,qo.ok,ow.ok,trivial⟩ fun _ K _ h=>by
  unfold dn at h
  split at h
  · rw[P.arf] at h;exact Aa (by kernel_rfl) h
  · cases h
theorem ok:Proved Tryz.prog GLO.gx 92 spec:=cu _ ok0
end yt

namespace adp
noncomputable def spec:Abs.Spec:=fun args K=>match args with
 | [.v (.int .i64 a)]=>P.adp a (fun b=>K (.v (.int .i64 b)))
 | _=>none
theorem ok:Proved Tryz.prog GLO.gx 139 spec:=pK (G:=[]) (fn:=Tryz.f139) [.any] trivial fun _ K _ h=>by
  unfold spec at h
  split at h
  · rw[P.auw] at h;exact Aa (by kernel_rfl) h
  · cases h
end adp

namespace ah7
noncomputable def dn:Abs.Spec:=fun args K=>match args with
 | [.v (.int .i64 a),.sl (.ints .u8 b)]=>P.ah7 a b (fun c d=>K (.tuple [.fr 5 (.ints .u8 c),.v (.int .i64 d)]))
 | _=>none
noncomputable def spec:Abs.Spec:=fun args K=>dn (o8 [.any,.sl (.ints .u8 [])] args) K
theorem ok0:Proved Tryz.prog GLO.gx 140 dn:=pK (G:=[(164,ad8.spec),(165,ab2.spec),(166,y9.spec)]) (fn:=Tryz.f140) [.fr 5 (.ints .u8 []),.any] ⟨ad8.ok,ab2.ok,y9.ok,trivial⟩ fun _ K _ h=>by
  unfold dn at h
  split at h
  · rw[P.ayj] at h;exact Aa (by kernel_rfl) h
  · cases h
theorem ok:Proved Tryz.prog GLO.gx 140 spec:=cu _ ok0
end ah7

namespace y8
noncomputable def dn:Abs.Spec:=fun args K=>match args with
 | [.v (.int .i64 a),.sl (.ints .u8 b)]=>P.y8 a b (fun c d=>K (.tuple [.fr 5 (.ints .u8 c),.v (.int .i64 d)]))
 | _=>none
noncomputable def spec:Abs.Spec:=fun args K=>dn (o8 [.any,.sl (.ints .u8 [])] args) K
theorem ok0:Proved Tryz.prog GLO.gx 98 dn:=pK (G:=[(92,yt.spec),(139,adp.spec),(140,ah7.spec)]) (fn:=Tryz.f98) [.fr 5 (.ints .u8 []),.any] ⟨yt.ok,adp.ok,ah7.ok,trivial⟩ fun _ K _ h=>by
  unfold dn at h
  split at h
  · rw[P.aqz] at h;exact Aa (by kernel_rfl) h
  · cases h
theorem ok:Proved Tryz.prog GLO.gx 98 spec:=cu _ ok0
end y8

namespace mh
noncomputable def dn:Abs.Spec:=fun args K=>match args with
 | [.sl (.rows .u8 a),.sta [.v (.int .i64 b)]]=>P.mh a b (fun c=>K (.fr 5 (.ints .u8 c)))
 | _=>none
noncomputable def spec:Abs.Spec:=fun args K=>dn (o8 [.sl (.rows .u8 []),.any] args) K
theorem ok0:Proved Tryz.prog GLO.gx 167 dn:=pK (G:=[(40,dz.spec),(98,y8.spec)]) (fn:=Tryz.f167) [.fr 5 (.ints .u8 [])] ⟨dz.ok,y8.ok,trivial⟩ fun _ K _ h=>by
  unfold dn at h
  split at h
  · rw[P.akw] at h;exact Aa (by kernel_rfl) h
  · cases h
theorem ok:Proved Tryz.prog GLO.gx 167 spec:=cu _ ok0
end mh

namespace zx
noncomputable def D:Ctx:=({ P:=Tryz.prog,G:=[(167,mh.spec)],globs:=GLO.gx,hints:=[],loops:=[],inl:=[],sta:=true }:Ctx)
theorem loops:gu (Tryz.f141.body.getD .skip)=[]:=by kernel_rfl
noncomputable def spec:Abs.Spec:=fun args K=>match args with
 | [.v (.int .i64 b)]=>P.zx b (fun a=>K (.fn (.func 167) [] [.sta [.v (.int .i64 a)]]))
 | _=>none
theorem ok:Proved Tryz.prog GLO.gx 141 spec:=by
 refine zi (D:=D) (fn:=Tryz.f141) (c:=Tryz.f141.body.getD .skip) [.any] (by kernel_rfl) (gy (by kernel_rfl)) (by kernel_rfl) (by kernel_rfl) (by kernel_rfl) ⟨mh.ok,trivial⟩ trivial ?_ ?_
 · rw[loops];exact trivial
 · intro args K r h
   unfold spec at h
   split at h
   · rw[P.ao4] at h;exact Aa (by kernel_rfl) h
   · cases h
end zx

namespace uy
abbrev X4:=P.bsh
def S4:X4→ASt:=fun (c,a,b,d)=>⟨[(2,.v (.int .u8 c)),(7,.own 0),(15,.v (.int .i64 a)),(16,.v (.int .i64 b))],[(0,some ⟨.row 5 (.ints .u8 d),false⟩)],1,28⟩
def V4:ASt→Option X4
 | ⟨[(2,.v (.int .u8 c)),(7,.own 0),(15,.v (.int .i64 a)),(16,.v (.int .i64 b))],[(0,some ⟨.row 5 (.ints .u8 d),false⟩)],1,28⟩=>some (c,a,b,d)
 | _=>none
theorem bjb(st)(x)(h:V4 st=some x):st=S4 x:=by unfold V4 at h;split at h;(cases h;rfl);cases h
abbrev Y4:=P.b2n
def E4(K:AExit→ASt→Option R):Y4→Option R:=(fun x=>K (.exit 0) (S4 x))
noncomputable def L4:za:=fun st K=>ag0 (V4 st) fun x=>P.bz2 x (E4 K)
noncomputable def D:Ctx:=⟨Tryz.prog,[],GLO.gx,[(4,⟨[2,7,15,16],[],[6],[],none,[],[],[]⟩)],[(4,L4)],[],false,none,none,[],false⟩
theorem bkv:o9 D (je Tryz.f162 4):=jd S4 bjb (by kernel_rfl) P.b4o (enc:=E4) fun _ _ _=>by kernel_rfl
theorem loops:gu (Tryz.f162.body.getD .skip)=[je Tryz.f162 4]:=by kernel_rfl
noncomputable def dn:Abs.Spec:=fun args K=>match args with
 | [.sl (.ints .u8 a),.v (.int .i64 b),.v (.int .u8 c)]=>P.uy a b c (fun d=>K (.fr 5 (.ints .u8 d)))
 | _=>none
noncomputable def spec:Abs.Spec:=fun args K=>dn (o8 [.sl (.ints .u8 []),.any,.any] args) K
theorem ok0:Proved Tryz.prog GLO.gx 162 dn:=pL (D:=D) (fn:=Tryz.f162) [.fr 5 (.ints .u8 [])] trivial loops ⟨bkv,trivial⟩ fun _ K _ h=>by
  unfold dn at h
  split at h
  · rw[P.aon] at h;exact Aa (by kernel_rfl) h
  · cases h
theorem ok:Proved Tryz.prog GLO.gx 162 spec:=cu _ ok0
end uy

namespace aak
noncomputable def dn:Abs.Spec:=fun args K=>match args with
 | [.sl (.rows .u8 b),.sta [.fn (.func 167) [] [.sta [.v (.int .i64 a)]]],.sta [.sl (.ints .u8 c)],.sta [.sl (.ints .u8 d)]]=>P.aak b a c d (fun e=>K (.fr 5 (.ints .u8 e)))
 | _=>none
noncomputable def spec:Abs.Spec:=fun args K=>dn (o8 [.sl (.rows .u8 []),.any,.agg [.sl (.ints .u8 [])],.agg [.sl (.ints .u8 [])]] args) K
theorem ok0:Proved Tryz.prog GLO.gx 163 dn:=pK (G:=[(40,dz.spec),(167,mh.spec)]) (fn:=Tryz.f163) [.fr 5 (.ints .u8 [])] ⟨dz.ok,mh.ok,trivial⟩ fun _ K _ h=>by
  unfold dn at h
  split at h
  · rw[P.aos] at h;exact Aa (by kernel_rfl) h
  · cases h
theorem ok:Proved Tryz.prog GLO.gx 163 spec:=cu _ ok0
end aak

namespace aen
noncomputable def D:Ctx:=({ P:=Tryz.prog,G:=[(141,zx.spec),(162,uy.spec),(163,aak.spec),(167,mh.spec)],globs:=GLO.gx,hints:=[],loops:=[],inl:=[],sta:=true }:Ctx)
theorem loops:gu (Tryz.f138.body.getD .skip)=[]:=by kernel_rfl
noncomputable def dn:Abs.Spec:=fun args K=>match args with
 | [.v (.int .i64 d),.sl (.ints .u8 e)]=>P.aen d e (fun a b c=>K (.fn (.func 163) [] [.sta [.fn (.func 167) [] [.sta [.v (.int .i64 a)]]],.sta [.sl (.ints .u8 b)],.sta [.sl (.ints .u8 c)]]))
 | _=>none
noncomputable def spec:Abs.Spec:=fun args K=>dn (o8 [.any,.sl (.ints .u8 [])] args) K
theorem ok0:Proved Tryz.prog GLO.gx 138 dn:=by
 refine zi (D:=D) (fn:=Tryz.f138) (c:=Tryz.f138.body.getD .skip) [.agg [.any,.agg [.sl (.ints .u8 [])],.agg [.sl (.ints .u8 [])]]] (by kernel_rfl) (gy (by kernel_rfl)) (by kernel_rfl) (by kernel_rfl) (by kernel_rfl) ⟨zx.ok,uy.ok,aak.ok,mh.ok,trivial⟩ trivial ?_ ?_
 · rw[loops];exact trivial
 · intro args K r h
   unfold dn at h
   split at h
   · rw[P.auo] at h;exact Aa (by kernel_rfl) h
   · cases h
theorem ok:Proved Tryz.prog GLO.gx 138 spec:=cu _ ok0
end aen

namespace ae3
noncomputable def dn:Abs.Spec:=fun args K=>match args with
 | [.v (.int .i64 a),.sl (.ints .u8 b),.sl (.ints .u8 c)]=>P.ae3 a b c (fun d e=>K (.tuple [.fr 5 (.ints .u8 d),.v (.int .i64 e)]))
 | _=>none
noncomputable def spec:Abs.Spec:=fun args K=>dn (o8 [.any,.sl (.ints .u8 []),.sl (.ints .u8 [])] args) K
theorem ok0:Proved Tryz.prog GLO.gx 96 dn:=pK (G:=[(137,aev.spec),(138,aen.spec),(163,aak.spec)]) (fn:=Tryz.f96) [.fr 5 (.ints .u8 []),.any] ⟨aev.ok,aen.ok,aak.ok,trivial⟩ fun _ K _ h=>by
  unfold dn at h
  split at h
  · rw[P.avu] at h;exact Aa (by kernel_rfl) h
  · cases h
theorem ok:Proved Tryz.prog GLO.gx 96 spec:=cu _ ok0
end ae3

namespace qc
noncomputable def dn:Abs.Spec:=fun args K=>match args with
 | [.sl (.ints .u8 g),.sl (.ints .u8 h),.sl (.ints .u8 i),.sta [.v (.int .i64 j)],.sta [.v (.int .i64 b),.v (.int .i64 c),.v (.int .i64 d),.v (.int .i64 e),.v (.int .i64 f),.v (.bool a)]]=>P.qc g h i j b c d e f a (fun k=>K (.sl (.ints .u8 k)))
 | _=>none
noncomputable def spec:Abs.Spec:=fun args K=>dn (o8 [.sl (.ints .u8 []),.sl (.ints .u8 []),.sl (.ints .u8 []),.any,.any] args) K
theorem ok0:Proved Tryz.prog GLO.gx 95 dn:=pK (G:=[(40,dz.spec),(96,ae3.spec)]) (fn:=Tryz.f95) [.sl (.ints .u8 [])] ⟨dz.ok,ae3.ok,trivial⟩ fun _ K _ h=>by
  unfold dn at h
  split at h
  · rw[P.al2] at h;exact Aa (by kernel_rfl) h
  · cases h
theorem ok:Proved Tryz.prog GLO.gx 95 spec:=cu _ ok0
end qc

namespace ae6
abbrev X8:=P.bse
def S8:X8→ASt:=fun (c,d,a,b,e)=>⟨[(9,.own 0),(1,.sl (.ints .u8 c)),(2,.v (.int .i64 d)),(8,.fn (.func 167) [] [.sta [.v (.int .i64 a)]]),(10,.v (.int .u64 b))],[(0,some ⟨.row 5 (.ints .u8 e),false⟩)],1,45⟩
def V8:ASt→Option X8
 | ⟨[(9,.own 0),(1,.sl (.ints .u8 c)),(2,.v (.int .i64 d)),(8,.fn (.func 167) [] [.sta [.v (.int .i64 a)]]),(10,.v (.int .u64 b))],[(0,some ⟨.row 5 (.ints .u8 e),false⟩)],1,45⟩=>some (c,d,a,b,e)
 | _=>none
theorem beu(st)(x)(h:V8 st=some x):st=S8 x:=by unfold V8 at h;split at h;(cases h;rfl);cases h
abbrev Y8:=P.bzo
def E8(K:AExit→ASt→Option R):Y8→Option R:=(fun x=>K (.exit 1) (S8 x))
noncomputable def L8:za:=fun st K=>ag0 (V8 st) fun x=>P.b2g x (E8 K)
noncomputable def D:Ctx:=⟨Tryz.prog,[(75,xg.spec),(141,zx.spec),(167,mh.spec)],GLO.gx,[(8,⟨[1,2,8,10],[(9,5,.ints .u8 [])],[6,7],[],none,[],[],[]⟩)],[(8,L8)],[],false,none,none,[],false⟩
theorem bds:o9 D (je Tryz.f99 8):=jd S8 beu (by kernel_rfl) P.b5b (enc:=E8) fun _ _ _=>by kernel_rfl
theorem loops:gu (Tryz.f99.body.getD .skip)=[je Tryz.f99 8]:=by kernel_rfl
noncomputable def dn:Abs.Spec:=fun args K=>match args with
 | [.v (.int .i64 a),.sl (.ints .u8 b),.v (.int .i64 c)]=>P.ae6 a b c (fun d e=>K (.tuple [.sl (.ints .u8 d),.v (.int .i64 e)]))
 | _=>none
noncomputable def spec:Abs.Spec:=fun args K=>dn (o8 [.any,.sl (.ints .u8 []),.any] args) K
theorem ok0:Proved Tryz.prog GLO.gx 99 dn:=pL (D:=D) (fn:=Tryz.f99) [.sl (.ints .u8 []),.any] ⟨xg.ok,zx.ok,mh.ok,trivial⟩ loops ⟨bds,trivial⟩ fun _ K _ h=>by
  unfold dn at h
  split at h
  · rw[P.awd] at h;exact Aa (by kernel_rfl) h
  · cases h
theorem ok:Proved Tryz.prog GLO.gx 99 spec:=cu _ ok0
end ae6

namespace qb
noncomputable def dn:Abs.Spec:=fun args K=>match args with
 | [.v (.int .i64 g),.sl (.ints .u8 h),.sl (.ints .u8 i),.sl (.ints .u8 j),.sta [.v (.int .i64 k)],.sta [.v (.int .i64 b),.v (.int .i64 c),.v (.int .i64 d),.v (.int .i64 e),.v (.int .i64 f),.v (.bool a)]]=>P.qb g h i j k b c d e f a (fun l=>K (.sl (.ints .u8 l)))
 | _=>none
noncomputable def spec:Abs.Spec:=fun args K=>dn (o8 [.any,.sl (.ints .u8 []),.sl (.ints .u8 []),.sl (.ints .u8 []),.any,.any] args) K
theorem ok0:Proved Tryz.prog GLO.gx 97 dn:=pK (G:=[(40,dz.spec),(98,y8.spec),(99,ae6.spec)]) (fn:=Tryz.f97) [.sl (.ints .u8 [])] ⟨dz.ok,y8.ok,ae6.ok,trivial⟩ fun _ K _ h=>by
  unfold dn at h
  split at h
  · rw[P.al3] at h;exact Aa (by kernel_rfl) h
  · cases h
theorem ok:Proved Tryz.prog GLO.gx 97 spec:=cu _ ok0
end qb

end
