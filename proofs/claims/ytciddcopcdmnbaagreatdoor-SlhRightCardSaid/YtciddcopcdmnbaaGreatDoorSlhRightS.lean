/-
  SlhRight, part 19: lemmas for the law.
-/

import Derived.Test.YtciddcopcdmnbaaGreatDoorSlhRightL
import Derived.Test.YtciddcopcdmnbaaGreatDoorSlhRightH
import Derived.Test.YtciddcopcdmnbaaGreatDoorProg
import Derived.Test.YtciddcopcdmnbaaGreatDoorSlhRightJ
import Derived.Test.YtciddcopcdmnbaaGreatDoorSlhRightM
import Derived.Test.YtciddcopcdmnbaaGreatDoorSlhRightR
import Derived.KernelRfl
import Derived.Test.YtciddcopcdmnbaaGreatDoorSlhRightP
import Derived.Test.YtciddcopcdmnbaaGreatDoorSlhRightQ
import Derived.Test.YtciddcopcdmnbaaGreatDoorSlhRightO
open Eq renaming trans → Aa

section
open Go Go.Abs Go.Proofs
set_option maxRecDepth 100000
set_option maxHeartbeats 0
set_option linter.unusedVariables false

namespace j6
noncomputable def dn:Abs.Spec:=fun args K=>match args with
 | [.agg [.v (.int .i64 c),.v (.int .i64 d),.v (.int .i64 e),.v (.int .i64 f),.v (.int .i64 g),.v (.bool a),.sl (.ints .u8 b),.sl (.ints .u8 h),.arr .u8 32 i],.v (.int .u64 j)]=>P.j6 c d e f g a b h i j (fun k=>K (.sl (.ints .u8 k)))
 | _=>none
noncomputable def spec:Abs.Spec:=fun args K=>dn (o8 [.agg [.any,.any,.any,.any,.any,.any,.sl (.ints .u8 []),.sl (.ints .u8 []),.any],.any] args) K
theorem ok0:Proved Tryz.prog GLO.gx 83 dn:=pK (G:=[(39,dh.spec),(105,mg.spec),(129,agl.spec)]) (fn:=Tryz.f83) [.sl (.ints .u8 [])] ⟨dh.ok,mg.ok,agl.ok,trivial⟩ fun _ K _ h=>by
  unfold dn at h
  split at h
  · rw[P.ai6] at h;exact Aa (by kernel_rfl) h
  · cases h
theorem ok:Proved Tryz.prog GLO.gx 83 spec:=cu _ ok0
end j6

namespace o7
abbrev X7:=P.bsx
def S7:X7→ASt:=fun (p,q,r,o,a,b,c,d,e,f,g,h,i,j,k,l,m,n)=>⟨[(7,.own 80),(1,.v (.int .i64 p)),(2,.v (.int .u64 q)),(3,.ptr 0 0),(8,.v (.int .u64 r)),(9,.ptr 3 0),(10,.v (.int .i64 o))],[(80,some ⟨.row 155 (.cols a [.ints .i64 b,.rows .u8 c]),false⟩),(0,some ⟨.box 82 [.v (.int .i64 d),.v (.int .i64 e),.v (.int .i64 f),.v (.int .i64 g),.v (.int .i64 h),.v (.bool i),.sl (.ints .u8 j),.sl (.ints .u8 k),.arr .u8 32 l],false⟩),(3,some ⟨.box 155 [.v (.int .i64 m),.sl (.ints .u8 n)],false⟩)],81,82⟩
def V7:ASt→Option X7
 | ⟨[(7,.own 80),(1,.v (.int .i64 p)),(2,.v (.int .u64 q)),(3,.ptr 0 0),(8,.v (.int .u64 r)),(9,.ptr 3 0),(10,.v (.int .i64 o))],[(80,some ⟨.row 155 (.cols a [.ints .i64 b,.rows .u8 c]),false⟩),(0,some ⟨.box 82 [.v (.int .i64 d),.v (.int .i64 e),.v (.int .i64 f),.v (.int .i64 g),.v (.int .i64 h),.v (.bool i),.sl (.ints .u8 j),.sl (.ints .u8 k),.arr .u8 32 l],false⟩),(3,some ⟨.box 155 [.v (.int .i64 m),.sl (.ints .u8 n)],false⟩)],81,82⟩=>some (p,q,r,o,a,b,c,d,e,f,g,h,i,j,k,l,m,n)
 | _=>none
theorem bkb(st)(x)(h:V7 st=some x):st=S7 x:=by unfold V7 at h;split at h;(cases h;rfl);cases h
abbrev Y7:=P.b3w
abbrev X3:=P.bu3
def S3:X3→ASt:=fun (m,n,o,j,k,l,a,b,c,d,e,f,g,h,i)=>⟨[(7,.own 1),(1,.v (.int .i64 m)),(2,.v (.int .u64 n)),(3,.ptr 0 0),(8,.v (.int .u64 o))],[(1,some ⟨.row 155 (.cols j [.ints .i64 k,.rows .u8 l]),false⟩),(0,some ⟨.box 82 [.v (.int .i64 a),.v (.int .i64 b),.v (.int .i64 c),.v (.int .i64 d),.v (.int .i64 e),.v (.bool f),.sl (.ints .u8 g),.sl (.ints .u8 h),.arr .u8 32 i],false⟩)],2,82⟩
def V3:ASt→Option X3
 | ⟨[(7,.own 1),(1,.v (.int .i64 m)),(2,.v (.int .u64 n)),(3,.ptr 0 0),(8,.v (.int .u64 o))],[(1,some ⟨.row 155 (.cols j [.ints .i64 k,.rows .u8 l]),false⟩),(0,some ⟨.box 82 [.v (.int .i64 a),.v (.int .i64 b),.v (.int .i64 c),.v (.int .i64 d),.v (.int .i64 e),.v (.bool f),.sl (.ints .u8 g),.sl (.ints .u8 h),.arr .u8 32 i],false⟩)],2,82⟩=>some (m,n,o,j,k,l,a,b,c,d,e,f,g,h,i)
 | _=>none
theorem au5(st)(x)(h:V3 st=some x):st=S3 x:=by unfold V3 at h;split at h;(cases h;rfl);cases h
abbrev Y3:=P.b2o
def E7(K:AExit→ASt→Option R):Y7→Option R:=(fun x=>K (.exit 2) (S7 x))
noncomputable def L7:za:=fun st K=>ag0 (V7 st) fun x=>P.b1j x (E7 K)
def E3(K:AExit→ASt→Option R):Y3→Option R:=(fun x=>K (.exit 0) (S3 x))
noncomputable def L3:za:=fun st K=>ag0 (V3 st) fun x=>P.b07 x (E3 K)
noncomputable def D:Ctx:=⟨Tryz.prog,[(83,j6.spec),(103,jr.spec)],GLO.gx,[(7,⟨[1,2,3,8,9,10],[(7,155,.cols 0 [.ints .i64 [],.rows .u8 []])],[6],[],some (80,[0,3]),[],[],[]⟩),(3,⟨[1,2,3,8],[(7,155,.cols 0 [.ints .i64 [],.rows .u8 []])],[6],[],none,[],[],[]⟩)],[(7,L7),(3,L3)],[],false,none,none,[],false⟩
theorem bjf:o9 D (je Tryz.f84 7):=jd S7 bkb (by kernel_rfl) P.b44 (enc:=E7) fun _ _ _=>by kernel_rfl
theorem aur:o9 D (je Tryz.f84 3):=jd S3 au5 (by kernel_rfl) P.b4x (enc:=E3) fun _ _ _=>by kernel_rfl
theorem loops:gu (Tryz.f84.body.getD .skip)=[je Tryz.f84 3,je Tryz.f84 7]:=by kernel_rfl
noncomputable def dn:Abs.Spec:=fun args K=>match args with
 | [.agg [.v (.int .i64 c),.v (.int .i64 d),.v (.int .i64 e),.v (.int .i64 f),.v (.int .i64 g),.v (.bool a),.sl (.ints .u8 b),.sl (.ints .u8 h),.arr .u8 32 i],.v (.int .i64 j),.v (.int .u64 k)]=>P.o7 c d e f g a b h i j k (fun l=>K (.sl (.ints .u8 l)))
 | _=>none
noncomputable def spec:Abs.Spec:=fun args K=>dn (o8 [.agg [.any,.any,.any,.any,.any,.any,.sl (.ints .u8 []),.sl (.ints .u8 []),.any],.any,.any] args) K
theorem ok0:Proved Tryz.prog GLO.gx 84 dn:=pL (D:=D) (fn:=Tryz.f84) [.sl (.ints .u8 [])] ⟨j6.ok,jr.ok,trivial⟩ loops ⟨aur,bjf,trivial⟩ fun _ K _ h=>by
  unfold dn at h
  split at h
  · rw[P.ai9] at h;exact Aa (by kernel_rfl) h
  · cases h
theorem ok:Proved Tryz.prog GLO.gx 84 spec:=cu _ ok0
end o7

namespace qz
noncomputable def dn:Abs.Spec:=fun args K=>match args with
 | [.agg [.v (.int .i64 k),.v (.int .i64 l),.v (.int .i64 m),.v (.int .i64 n),.v (.int .i64 o),.v (.bool c)],.sl (.ints .u8 p),.sl (.ints .u8 q),.arr .u8 32 r]=>P.qz k l m n o c p q r (fun d e f g h a b i j s=>K (.tuple [.agg [.v (.int .i64 d),.v (.int .i64 e),.v (.int .i64 f),.v (.int .i64 g),.v (.int .i64 h),.v (.bool a),.sl (.ints .u8 b),.sl (.ints .u8 i),.arr .u8 32 j],.v (.bool s)]))
 | _=>none
noncomputable def spec:Abs.Spec:=fun args K=>dn (o8 [.any,.sl (.ints .u8 []),.sl (.ints .u8 []),.any] args) K
theorem ok0:Proved Tryz.prog GLO.gx 82 dn:=pK (G:=[(22,ji.spec)]) (fn:=Tryz.f82) [.agg [.any,.any,.any,.any,.any,.any,.sl (.ints .u8 []),.sl (.ints .u8 []),.any],.any] ⟨ji.ok,trivial⟩ fun _ K _ h=>by
  unfold dn at h
  split at h
  · rw[P.anp] at h;exact Aa (by kernel_rfl) h
  · cases h
theorem ok:Proved Tryz.prog GLO.gx 82 spec:=cu _ ok0
end qz

namespace abd
abbrev bu7:=P.btq
def bqa:bu7→ASt:=fun (B,C,F,a,b,c,d,e,f,g,h,i,j,k,l,m,n,o,p,q,r,s,t,u,w,y,z,A,G)=>⟨[(11,.ptr 2 0),(15,.ptr 3 0),(16,.v (.int .u64 B)),(49,.v (.int .i64 C)),(50,.v (.int .i64 F))],[(1240,some ⟨.row 5 (.ints .u8 a),false⟩),(0,some ⟨.box 23 [.v (.int .i64 b),.v (.int .i64 c),.v (.int .i64 d),.v (.int .i64 e),.v (.int .i64 f),.v (.bool g)],false⟩),(2,some ⟨.box 82 [.v (.int .i64 h),.v (.int .i64 i),.v (.int .i64 j),.v (.int .i64 k),.v (.int .i64 l),.v (.bool m),.sl (.ints .u8 n),.sl (.ints .u8 o),.arr .u8 32 p],false⟩),(3,some ⟨.box 24 [.own 1240],false⟩),(4,some ⟨.box 82 [.v (.int .i64 q),.v (.int .i64 r),.v (.int .i64 s),.v (.int .i64 t),.v (.int .i64 u),.v (.bool w),.sl (.ints .u8 y),.sl (.ints .u8 z),.arr .u8 32 A],false⟩),(7,some ⟨.row 102 (.ints .u32 G),false⟩)],1241,64⟩
def bqm:ASt→Option bu7
 | ⟨[(11,.ptr 2 0),(15,.ptr 3 0),(16,.v (.int .u64 B)),(49,.v (.int .i64 C)),(50,.v (.int .i64 F))],[(1240,some ⟨.row 5 (.ints .u8 a),false⟩),(0,some ⟨.box 23 [.v (.int .i64 b),.v (.int .i64 c),.v (.int .i64 d),.v (.int .i64 e),.v (.int .i64 f),.v (.bool g)],false⟩),(2,some ⟨.box 82 [.v (.int .i64 h),.v (.int .i64 i),.v (.int .i64 j),.v (.int .i64 k),.v (.int .i64 l),.v (.bool m),.sl (.ints .u8 n),.sl (.ints .u8 o),.arr .u8 32 p],false⟩),(3,some ⟨.box 24 [.own 1240],false⟩),(4,some ⟨.box 82 [.v (.int .i64 q),.v (.int .i64 r),.v (.int .i64 s),.v (.int .i64 t),.v (.int .i64 u),.v (.bool w),.sl (.ints .u8 y),.sl (.ints .u8 z),.arr .u8 32 A],false⟩),(7,some ⟨.row 102 (.ints .u32 G),false⟩)],1241,64⟩=>some (B,C,F,a,b,c,d,e,f,g,h,i,j,k,l,m,n,o,p,q,r,s,t,u,w,y,z,A,G)
 | _=>none
theorem boc(st)(x)(h:bqm st=some x):st=bqa x:=by unfold bqm at h;split at h;(cases h;rfl);cases h
abbrev bzz:=P.b1g
abbrev blr:=P.btc
def bey:blr→ASt:=fun (B,C,a,b,c,d,e,f,g,h,i,j,k,l,m,n,o,p,q,r,s,t,u,w,y,z,A,F)=>⟨[(0,.yld 6 [5,11,15] [.ptr 0 0,.ptr 2 0,.ptr 3 0]),(2,.ptr 4 0),(13,.own 7),(14,.v (.int .i64 B)),(15,.v (.int .i64 C))],[(840,some ⟨.row 5 (.ints .u8 a),false⟩),(0,some ⟨.box 23 [.v (.int .i64 b),.v (.int .i64 c),.v (.int .i64 d),.v (.int .i64 e),.v (.int .i64 f),.v (.bool g)],false⟩),(2,some ⟨.box 82 [.v (.int .i64 h),.v (.int .i64 i),.v (.int .i64 j),.v (.int .i64 k),.v (.int .i64 l),.v (.bool m),.sl (.ints .u8 n),.sl (.ints .u8 o),.arr .u8 32 p],false⟩),(3,some ⟨.box 24 [.own 840],false⟩),(4,some ⟨.box 82 [.v (.int .i64 q),.v (.int .i64 r),.v (.int .i64 s),.v (.int .i64 t),.v (.int .i64 u),.v (.bool w),.sl (.ints .u8 y),.sl (.ints .u8 z),.arr .u8 32 A],false⟩),(7,some ⟨.row 102 (.ints .u32 F),false⟩)],841,33⟩
def beo:ASt→Option blr
 | ⟨[(0,.yld 6 [5,11,15] [.ptr 0 0,.ptr 2 0,.ptr 3 0]),(2,.ptr 4 0),(13,.own 7),(14,.v (.int .i64 B)),(15,.v (.int .i64 C))],[(840,some ⟨.row 5 (.ints .u8 a),false⟩),(0,some ⟨.box 23 [.v (.int .i64 b),.v (.int .i64 c),.v (.int .i64 d),.v (.int .i64 e),.v (.int .i64 f),.v (.bool g)],false⟩),(2,some ⟨.box 82 [.v (.int .i64 h),.v (.int .i64 i),.v (.int .i64 j),.v (.int .i64 k),.v (.int .i64 l),.v (.bool m),.sl (.ints .u8 n),.sl (.ints .u8 o),.arr .u8 32 p],false⟩),(3,some ⟨.box 24 [.own 840],false⟩),(4,some ⟨.box 82 [.v (.int .i64 q),.v (.int .i64 r),.v (.int .i64 s),.v (.int .i64 t),.v (.int .i64 u),.v (.bool w),.sl (.ints .u8 y),.sl (.ints .u8 z),.arr .u8 32 A],false⟩),(7,some ⟨.row 102 (.ints .u32 F),false⟩)],841,33⟩=>some (B,C,a,b,c,d,e,f,g,h,i,j,k,l,m,n,o,p,q,r,s,t,u,w,y,z,A,F)
 | _=>none
theorem ao9(st)(x)(h:beo st=some x):st=bey x:=by unfold beo at h;split at h;(cases h;rfl);cases h
abbrev br2:=P.b0j
def buw(K:AExit→ASt→Option R):bzz→Option R:=(fun x=>K (.exit 2) (bqa x))
noncomputable def byf:za:=fun st K=>ag0 (bqm st) fun x=>P.byw x (buw K)
def bi4(K:AExit→ASt→Option R):br2→Option R:=(fun x=>K (.exit 0) (bey x))
noncomputable def bru:za:=fun st K=>ag0 (beo st) fun x=>P.bzp x (bi4 K)
noncomputable def D3:Ctx:=({ P:=Tryz.prog,G:=[(23,jo.spec),(82,qz.spec),(83,j6.spec),(84,o7.spec),(102,jl.spec)],globs:=GLO.gx,hints:=[(10,⟨[11,15,16,49,50],[(1000003,5,.ints .u8 [])],[10],[],some (1240,[0,2,3,4,7]),[2],[],[]⟩)],loops:=[(10,byf)],inl:=[],y:=some (an9 (aat Tryz.f44 8) 64 false) }:Ctx)
noncomputable def D2:Ctx:=({ P:=Tryz.prog,G:=[(23,jo.spec),(82,qz.spec),(83,j6.spec),(84,o7.spec),(102,jl.spec)],globs:=GLO.gx,hints:=[(1,⟨[0,2,13,14,15],[(1000003,5,.ints .u8 [])],[],[],some (840,[0,2,3,4,7]),[0,2,4],[],[]⟩)],loops:=[(1,bru)],inl:=[],y:=some (an9 (aat Tryz.f44 8) 64 true),ys:=some (aji D3 (an9 (aat Tryz.f44 8) 64 true)) }:Ctx)
noncomputable def D1:Ctx:=({ P:=Tryz.prog,G:=[(23,jo.spec),(82,qz.spec),(83,j6.spec),(84,o7.spec),(102,jl.spec)],globs:=GLO.gx,hints:=[],loops:=[],inl:=[] }:Ctx)
noncomputable def D:Ctx:=({ P:=Tryz.prog,G:=[(23,jo.spec),(82,qz.spec),(83,j6.spec),(84,o7.spec),(102,jl.spec)],globs:=GLO.gx,hints:=[],loops:=[],inl:=[(52,adv D1 Tryz.f52)],top:=true,rng:=[(8,⟨101,64,[5,11,15],adv D2 Tryz.f101⟩)] }:Ctx)
theorem bme:o9 D3 (bpn (aat Tryz.f44 8) 10):=jd bqa boc (by kernel_rfl) P.b4q (enc:=buw) fun _ _ _=>by kernel_rfl
theorem apf:o9 D2 (je Tryz.f101 1):=jd bey ao9 (by kernel_rfl) P.b5a (enc:=bi4) fun _ _ _=>by kernel_rfl
theorem loops:gu (Tryz.f44.body.getD .skip)=[]:=by kernel_rfl
theorem ain:gu (Tryz.f52.body.getD .skip)=[]:=by kernel_rfl
theorem aqk:gu (Tryz.f101.body.getD .skip)=[je Tryz.f101 1]:=by kernel_rfl
theorem awy:gu (blc (aat Tryz.f44 8))=[bpn (aat Tryz.f44 8) 10]:=by kernel_rfl
theorem ranges:vg (Tryz.f44.body.getD .skip)=[aat Tryz.f44 8]:=by kernel_rfl
theorem ak4:alm D2 (aji D3 (an9 (aat Tryz.f44 8) 64 true)):=aqf (Y:=an9 (aat Tryz.f44 8) 64 true) (asi (D:=D3) ⟨jo.ok,qz.ok,j6.ok,o7.ok,jl.ok,trivial⟩) (gy (by kernel_rfl)) (as0 (D:=D3) trivial (anl rfl)) (by kernel_rfl) rfl rfl (by kernel_rfl) (by kernel_rfl) rfl rfl rfl (ad4 _ (by rw[show gu (an9 (aat Tryz.f44 8) 64 true).assign=[] from by kernel_rfl];exact trivial)) (ad4 _ (by rw[show gu (an9 (aat Tryz.f44 8) 64 true).body=gu (blc (aat Tryz.f44 8)) from by kernel_rfl,awy];exact ⟨bme,trivial⟩))
noncomputable def dn:Abs.Spec:=fun args K=>match args with
 | [.agg [.v (.int .i64 b),.v (.int .i64 c),.v (.int .i64 d),.v (.int .i64 e),.v (.int .i64 f),.v (.bool a)],.sl (.ints .u8 g),.sl (.ints .u8 h),.sl (.ints .u8 i),.arr .u8 32 j]=>P.abd b c d e f a g h i j (fun k=>K (.fr 5 (.ints .u8 k)))
 | _=>none
noncomputable def spec:Abs.Spec:=fun args K=>dn (o8 [.any,.sl (.ints .u8 []),.sl (.ints .u8 []),.sl (.ints .u8 []),.any] args) K
theorem ok0:Proved Tryz.prog GLO.gx 44 dn:=by
 refine zi (D:=D) (fn:=Tryz.f44) (c:=Tryz.f44.body.getD .skip) [.fr 5 (.ints .u8 [])] (by kernel_rfl) (gy (by kernel_rfl)) (by kernel_rfl) (by kernel_rfl) (by kernel_rfl) ⟨jo.ok,qz.ok,j6.ok,o7.ok,jl.ok,trivial⟩ ⟨akh (D:=D1) (D':=D) (fn:=Tryz.f52) (c:=Tryz.f52.body.getD .skip) rfl rfl (by kernel_rfl) (gy (by kernel_rfl)) (by kernel_rfl) (by kernel_rfl) (by kernel_rfl) ⟨jo.ok,qz.ok,j6.ok,o7.ok,jl.ok,trivial⟩ trivial (by rw[ain];exact trivial) (fun _ _ _ _ _ h=>h),trivial⟩ ?_ ?_ (hRg:=by rw[ranges];exact ⟨anr (D:=D) (Di:=D2) (e:=⟨101,64,[5,11,15],adv D2 Tryz.f101⟩) (by kernel_rfl) rfl rfl (by kernel_rfl) (akh (D:=D2) (D':=D2) (fn:=Tryz.f101) (c:=Tryz.f101.body.getD .skip) rfl rfl (by kernel_rfl) (gy (by kernel_rfl)) (by kernel_rfl) (by kernel_rfl) (by kernel_rfl) ⟨jo.ok,qz.ok,j6.ok,o7.ok,jl.ok,trivial⟩ trivial (by rw[aqk];exact ⟨apf,trivial⟩) (fun _ _ _ _ _ h=>h) rfl rfl (aho rfl _) (fun s hs=>by have hs:some (aji D3 (an9 (aat Tryz.f44 8) 64 true))=some s:=hs;cases hs;exact ak4)),trivial⟩)
 · rw[loops];exact trivial
 · intro args K r h
   unfold dn at h
   split at h
   · rw[P.asl] at h;exact Aa (by kernel_rfl) h
   · cases h
theorem ok:Proved Tryz.prog GLO.gx 44 spec:=cu _ ok0
end abd

namespace ac6
abbrev X6:=P.bum
def S6:X6→ASt:=fun (B,y,z,A,o,p,q,r,s,t,u,w,a,b,c,d,e,f,g,h,i,j,k,l,m,n,C)=>⟨[(13,.own 40),(2,.sl (.ints .u8 B)),(9,.ptr 1 0),(11,.ptr 2 0),(41,.own 3),(42,.v (.int .i64 y)),(43,.v (.int .i64 z))],[(40,some ⟨.row 5 (.ints .u8 A),false⟩),(1,some ⟨.box 64 [.arr .u8 32 o],false⟩),(2,some ⟨.box 165 [.v (.int .i64 p),.v (.int .i64 q),.v (.int .i64 r),.v (.int .i64 s),.v (.int .i64 t),.v (.bool u),.alt w (.func 186) [] [.sta [.v (.int .i64 a),.arr .u64 25 b,.v (.int .i64 c),.v (.bool d)],.sta [.v (.int .i64 e)]] (.func 188) [] [.sta [.v (.int .i64 f),.arr .u64 8 g,.sl (.ints .u8 h),.v (.int .u64 i)],.sta [.v (.int .i64 j)],.sta [.v (.int .i64 k),.arr .u64 8 l,.sl (.ints .u8 m),.v (.int .u64 n)]]],false⟩),(3,some ⟨.row 102 (.ints .u32 C),false⟩)],41,64⟩
def V6:ASt→Option X6
 | ⟨[(13,.own 40),(2,.sl (.ints .u8 B)),(9,.ptr 1 0),(11,.ptr 2 0),(41,.own 3),(42,.v (.int .i64 y)),(43,.v (.int .i64 z))],[(40,some ⟨.row 5 (.ints .u8 A),false⟩),(1,some ⟨.box 64 [.arr .u8 32 o],false⟩),(2,some ⟨.box 165 [.v (.int .i64 p),.v (.int .i64 q),.v (.int .i64 r),.v (.int .i64 s),.v (.int .i64 t),.v (.bool u),.alt w (.func 186) [] [.sta [.v (.int .i64 a),.arr .u64 25 b,.v (.int .i64 c),.v (.bool d)],.sta [.v (.int .i64 e)]] (.func 188) [] [.sta [.v (.int .i64 f),.arr .u64 8 g,.sl (.ints .u8 h),.v (.int .u64 i)],.sta [.v (.int .i64 j)],.sta [.v (.int .i64 k),.arr .u64 8 l,.sl (.ints .u8 m),.v (.int .u64 n)]]],false⟩),(3,some ⟨.row 102 (.ints .u32 C),false⟩)],41,64⟩=>some (B,y,z,A,o,p,q,r,s,t,u,w,a,b,c,d,e,f,g,h,i,j,k,l,m,n,C)
 | _=>none
theorem awe(st)(x)(h:V6 st=some x):st=S6 x:=by unfold V6 at h;split at h;(cases h;rfl);cases h
abbrev Y6:=P.b0v
def E6(K:AExit→ASt→Option R):Y6→Option R:=(fun x=>K (.exit 0) (S6 x))
noncomputable def L6:za:=fun st K=>ag0 (V6 st) fun x=>P.b0b x (E6 K)
noncomputable def D:Ctx:=⟨Tryz.prog,[(39,dh.spec),(144,vo.spec),(146,wu.spec),(147,ku.spec),(156,p9.spec)],GLO.gx,[(6,⟨[2,9,11,41,42,43],[(13,5,.ints .u8 [])],[10],[],some (40,[1,2,3]),[],[],[]⟩)],[(6,L6)],[],false,none,none,[],false⟩
theorem av6:o9 D (je Tryz.f130 6):=jd S6 awe (by kernel_rfl) P.b5e (enc:=E6) fun _ _ _=>by kernel_rfl
theorem loops:gu (Tryz.f130.body.getD .skip)=[je Tryz.f130 6]:=by kernel_rfl
noncomputable def dn:Abs.Spec:=fun args K=>match args with
 | [.agg [.v (.int .i64 b),.v (.int .i64 c),.v (.int .i64 d),.v (.int .i64 e),.v (.int .i64 f),.v (.bool a)],.sl (.ints .u8 g),.sl (.ints .u8 h),.sl (.ints .u8 i),.arr .u8 32 j]=>P.ac6 b c d e f a g h i j (fun k=>K (.fr 5 (.ints .u8 k)))
 | _=>none
noncomputable def spec:Abs.Spec:=fun args K=>dn (o8 [.any,.sl (.ints .u8 []),.sl (.ints .u8 []),.sl (.ints .u8 []),.any] args) K
theorem ok0:Proved Tryz.prog GLO.gx 130 dn:=pL (D:=D) (fn:=Tryz.f130) [.fr 5 (.ints .u8 [])] ⟨dh.ok,vo.ok,wu.ok,ku.ok,p9.ok,trivial⟩ loops ⟨av6,trivial⟩ fun _ K _ h=>by
  unfold dn at h
  split at h
  · rw[P.aso] at h;exact Aa (by kernel_rfl) h
  · cases h
theorem ok:Proved Tryz.prog GLO.gx 130 spec:=cu _ ok0
end ac6

namespace zl
abbrev X6:=P.btj
def S6:X6→ASt:=fun (m,j,k,l,a,b,c,d,e,f,g,h,i)=>⟨[(14,.own 40),(5,.v (.int .u64 m)),(13,.ptr 3 0),(44,.v (.int .i64 j)),(45,.v (.int .i64 k))],[(40,some ⟨.row 5 (.ints .u8 l),false⟩),(3,some ⟨.box 108 [.v (.int .i64 a),.v (.int .i64 b),.v (.int .i64 c),.v (.int .i64 d),.v (.int .i64 e),.v (.bool f),.sl (.ints .u8 g),.sl (.ints .u8 h),.arr .u8 32 i],false⟩)],41,59⟩
def V6:ASt→Option X6
 | ⟨[(14,.own 40),(5,.v (.int .u64 m)),(13,.ptr 3 0),(44,.v (.int .i64 j)),(45,.v (.int .i64 k))],[(40,some ⟨.row 5 (.ints .u8 l),false⟩),(3,some ⟨.box 108 [.v (.int .i64 a),.v (.int .i64 b),.v (.int .i64 c),.v (.int .i64 d),.v (.int .i64 e),.v (.bool f),.sl (.ints .u8 g),.sl (.ints .u8 h),.arr .u8 32 i],false⟩)],41,59⟩=>some (m,j,k,l,a,b,c,d,e,f,g,h,i)
 | _=>none
theorem awe(st)(x)(h:V6 st=some x):st=S6 x:=by unfold V6 at h;split at h;(cases h;rfl);cases h
abbrev Y6:=P.byl
def E6(K:AExit→ASt→Option R):Y6→Option R:=(fun x=>K (.exit 0) (S6 x))
noncomputable def L6:za:=fun st K=>ag0 (V6 st) fun x=>P.b1y x (E6 K)
noncomputable def D:Ctx:=⟨Tryz.prog,[(55,oo.spec),(73,ig.spec),(74,qy.spec),(108,qw.spec),(130,ac6.spec)],GLO.gx,[(6,⟨[5,13,44,45],[(14,5,.ints .u8 [])],[12],[],some (40,[3]),[],[],[]⟩)],[(6,L6)],[],false,none,none,[],false⟩
theorem av6:o9 D (je Tryz.f85 6):=jd S6 awe (by kernel_rfl) P.b5f (enc:=E6) fun _ _ _=>by kernel_rfl
theorem loops:gu (Tryz.f85.body.getD .skip)=[je Tryz.f85 6]:=by kernel_rfl
noncomputable def dn:Abs.Spec:=fun args K=>match args with
 | [.agg [.v (.int .i64 b),.v (.int .i64 c),.v (.int .i64 d),.v (.int .i64 e),.v (.int .i64 f),.v (.bool a)],.sl (.ints .u8 g),.sl (.ints .u8 h),.sl (.ints .u8 i),.arr .u8 32 j,.v (.int .u64 k)]=>P.zl b c d e f a g h i j k (fun l=>K (.fr 5 (.ints .u8 l)))
 | _=>none
noncomputable def spec:Abs.Spec:=fun args K=>dn (o8 [.any,.sl (.ints .u8 []),.sl (.ints .u8 []),.sl (.ints .u8 []),.any,.any] args) K
theorem ok0:Proved Tryz.prog GLO.gx 85 dn:=pL (D:=D) (fn:=Tryz.f85) [.fr 5 (.ints .u8 [])] ⟨oo.ok,ig.ok,qy.ok,qw.ok,ac6.ok,trivial⟩ loops ⟨av6,trivial⟩ fun _ K _ h=>by
  unfold dn at h
  split at h
  · rw[P.atb] at h;exact Aa (by kernel_rfl) h
  · cases h
theorem ok:Proved Tryz.prog GLO.gx 85 spec:=cu _ ok0
end zl

namespace aag
abbrev blr:=P.buo
def bey:blr→ASt:=fun (s,t,a,b,c,d,e,f,g,h,i,j,k,l,m,n,o,p,q,r)=>⟨[(0,.yld 9 [6,7,8,9,13] [.ptr 0 0,.ptr 1 0,.ptr 2 0,.ptr 3 0,.ptr 5 0]),(1,.ptr 6 0),(2,.ptr 7 0),(3,.ptr 8 0),(8,.v (.int .i64 s)),(9,.v (.int .i64 t))],[(840,some ⟨.row 5 (.ints .u8 a),false⟩),(0,some ⟨.box 23 [.v (.int .i64 b),.v (.int .i64 c),.v (.int .i64 d),.v (.int .i64 e),.v (.int .i64 f),.v (.bool g)],false⟩),(1,some ⟨.box 24 [.sl (.ints .u8 h)],false⟩),(2,some ⟨.box 24 [.sl (.ints .u8 i)],false⟩),(3,some ⟨.box 24 [.sl (.ints .u8 j)],false⟩),(5,some ⟨.box 24 [.own 840],false⟩),(6,some ⟨.box 23 [.v (.int .i64 k),.v (.int .i64 l),.v (.int .i64 m),.v (.int .i64 n),.v (.int .i64 o),.v (.bool p)],false⟩),(7,some ⟨.box 53 [.v (.int .u64 q)],false⟩),(8,some ⟨.box 53 [.v (.int .u64 r)],false⟩)],841,35⟩
def beo:ASt→Option blr
 | ⟨[(0,.yld 9 [6,7,8,9,13] [.ptr 0 0,.ptr 1 0,.ptr 2 0,.ptr 3 0,.ptr 5 0]),(1,.ptr 6 0),(2,.ptr 7 0),(3,.ptr 8 0),(8,.v (.int .i64 s)),(9,.v (.int .i64 t))],[(840,some ⟨.row 5 (.ints .u8 a),false⟩),(0,some ⟨.box 23 [.v (.int .i64 b),.v (.int .i64 c),.v (.int .i64 d),.v (.int .i64 e),.v (.int .i64 f),.v (.bool g)],false⟩),(1,some ⟨.box 24 [.sl (.ints .u8 h)],false⟩),(2,some ⟨.box 24 [.sl (.ints .u8 i)],false⟩),(3,some ⟨.box 24 [.sl (.ints .u8 j)],false⟩),(5,some ⟨.box 24 [.own 840],false⟩),(6,some ⟨.box 23 [.v (.int .i64 k),.v (.int .i64 l),.v (.int .i64 m),.v (.int .i64 n),.v (.int .i64 o),.v (.bool p)],false⟩),(7,some ⟨.box 53 [.v (.int .u64 q)],false⟩),(8,some ⟨.box 53 [.v (.int .u64 r)],false⟩)],841,35⟩=>some (s,t,a,b,c,d,e,f,g,h,i,j,k,l,m,n,o,p,q,r)
 | _=>none
theorem ao9(st)(x)(h:beo st=some x):st=bey x:=by unfold beo at h;split at h;(cases h;rfl);cases h
abbrev br2:=P.b0a
def bi4(K:AExit→ASt→Option R):br2→Option R:=(fun x=>K (.exit 0) (bey x))
noncomputable def bru:za:=fun st K=>ag0 (beo st) fun x=>P.b3n x (bi4 K)
noncomputable def D3:Ctx:=({ P:=Tryz.prog,G:=[(39,dh.spec),(55,oo.spec),(56,kr.spec),(58,iw.spec),(73,ig.spec),(85,zl.spec)],globs:=GLO.gx,hints:=[],loops:=[],inl:=[],y:=some (an9 (aat Tryz.f45 6) 57 false) }:Ctx)
noncomputable def D2:Ctx:=({ P:=Tryz.prog,G:=[(39,dh.spec),(55,oo.spec),(56,kr.spec),(58,iw.spec),(73,ig.spec),(85,zl.spec)],globs:=GLO.gx,hints:=[(1,⟨[0,1,2,3,8,9],[(1000005,5,.ints .u8 [])],[],[],some (840,[0,1,2,3,5,6,7,8]),[0,1,2,3,6,7,8],[],[]⟩)],loops:=[(1,bru)],inl:=[],y:=some (an9 (aat Tryz.f45 6) 57 true),ys:=some (aji D3 (an9 (aat Tryz.f45 6) 57 true)) }:Ctx)
noncomputable def D1:Ctx:=({ P:=Tryz.prog,G:=[(39,dh.spec),(55,oo.spec),(56,kr.spec),(58,iw.spec),(73,ig.spec),(85,zl.spec)],globs:=GLO.gx,hints:=[],loops:=[],inl:=[] }:Ctx)
noncomputable def D:Ctx:=({ P:=Tryz.prog,G:=[(39,dh.spec),(55,oo.spec),(56,kr.spec),(58,iw.spec),(73,ig.spec),(85,zl.spec)],globs:=GLO.gx,hints:=[],loops:=[],inl:=[(57,adv D1 Tryz.f57)],top:=true,rng:=[(6,⟨106,57,[6,7,8,9,13],adv D2 Tryz.f106⟩)] }:Ctx)
theorem apf:o9 D2 (je Tryz.f106 1):=jd bey ao9 (by kernel_rfl) P.b4d (enc:=bi4) fun _ _ _=>by kernel_rfl
theorem loops:gu (Tryz.f45.body.getD .skip)=[]:=by kernel_rfl
theorem ain:gu (Tryz.f57.body.getD .skip)=[]:=by kernel_rfl
theorem aqk:gu (Tryz.f106.body.getD .skip)=[je Tryz.f106 1]:=by kernel_rfl
theorem awy:gu (blc (aat Tryz.f45 6))=[]:=by kernel_rfl
theorem ranges:vg (Tryz.f45.body.getD .skip)=[aat Tryz.f45 6]:=by kernel_rfl
theorem ak4:alm D2 (aji D3 (an9 (aat Tryz.f45 6) 57 true)):=aqf (Y:=an9 (aat Tryz.f45 6) 57 true) (asi (D:=D3) ⟨dh.ok,oo.ok,kr.ok,iw.ok,ig.ok,zl.ok,trivial⟩) (gy (by kernel_rfl)) (as0 (D:=D3) trivial (anl rfl)) (by kernel_rfl) rfl rfl (by kernel_rfl) (by kernel_rfl) rfl rfl rfl (ad4 _ (by rw[show gu (an9 (aat Tryz.f45 6) 57 true).assign=[] from by kernel_rfl];exact trivial)) (ad4 _ (by rw[show gu (an9 (aat Tryz.f45 6) 57 true).body=gu (blc (aat Tryz.f45 6)) from by kernel_rfl,awy];exact trivial))
noncomputable def dn:Abs.Spec:=fun args K=>match args with
 | [.agg [.v (.int .i64 b),.v (.int .i64 c),.v (.int .i64 d),.v (.int .i64 e),.v (.int .i64 f),.v (.bool a)],.sl (.ints .u8 g),.sl (.ints .u8 h),.sl (.ints .u8 i),.v (.int .u64 j),.v (.int .u64 k)]=>P.aag b c d e f a g h i j k (fun l=>K (.fr 5 (.ints .u8 l)))
 | _=>none
noncomputable def spec:Abs.Spec:=fun args K=>dn (o8 [.any,.sl (.ints .u8 []),.sl (.ints .u8 []),.sl (.ints .u8 []),.any,.any] args) K
theorem ok0:Proved Tryz.prog GLO.gx 45 dn:=by
 refine zi (D:=D) (fn:=Tryz.f45) (c:=Tryz.f45.body.getD .skip) [.fr 5 (.ints .u8 [])] (by kernel_rfl) (gy (by kernel_rfl)) (by kernel_rfl) (by kernel_rfl) (by kernel_rfl) ⟨dh.ok,oo.ok,kr.ok,iw.ok,ig.ok,zl.ok,trivial⟩ ⟨akh (D:=D1) (D':=D) (fn:=Tryz.f57) (c:=Tryz.f57.body.getD .skip) rfl rfl (by kernel_rfl) (gy (by kernel_rfl)) (by kernel_rfl) (by kernel_rfl) (by kernel_rfl) ⟨dh.ok,oo.ok,kr.ok,iw.ok,ig.ok,zl.ok,trivial⟩ trivial (by rw[ain];exact trivial) (fun _ _ _ _ _ h=>h),trivial⟩ ?_ ?_ (hRg:=by rw[ranges];exact ⟨anr (D:=D) (Di:=D2) (e:=⟨106,57,[6,7,8,9,13],adv D2 Tryz.f106⟩) (by kernel_rfl) rfl rfl (by kernel_rfl) (akh (D:=D2) (D':=D2) (fn:=Tryz.f106) (c:=Tryz.f106.body.getD .skip) rfl rfl (by kernel_rfl) (gy (by kernel_rfl)) (by kernel_rfl) (by kernel_rfl) (by kernel_rfl) ⟨dh.ok,oo.ok,kr.ok,iw.ok,ig.ok,zl.ok,trivial⟩ trivial (by rw[aqk];exact ⟨apf,trivial⟩) (fun _ _ _ _ _ h=>h) rfl rfl (aho rfl _) (fun s hs=>by have hs:some (aji D3 (an9 (aat Tryz.f45 6) 57 true))=some s:=hs;cases hs;exact ak4)),trivial⟩)
 · rw[loops];exact trivial
 · intro args K r h
   unfold dn at h
   split at h
   · rw[P.aq1] at h;exact Aa (by kernel_rfl) h
   · cases h
theorem ok:Proved Tryz.prog GLO.gx 45 spec:=cu _ ok0
end aag

namespace agh
noncomputable def dn:Abs.Spec:=fun args K=>match args with
 | [.agg [.v (.int .i64 b),.v (.int .i64 c),.v (.int .i64 d),.v (.int .i64 e),.v (.int .i64 f),.v (.bool a)],.sl (.ints .u8 g),.sl (.ints .u8 h),.sl (.ints .u8 i),.sl (.ints .u8 j)]=>P.agh b c d e f a g h i j (fun k l=>K (.tuple [.fr 5 (.ints .u8 k),.v (.int .i64 l)]))
 | _=>none
noncomputable def spec:Abs.Spec:=fun args K=>dn (o8 [.any,.sl (.ints .u8 []),.sl (.ints .u8 []),.sl (.ints .u8 []),.sl (.ints .u8 [])] args) K
theorem ok0:Proved Tryz.prog GLO.gx 19 dn:=pK (G:=[(22,ji.spec),(24,abh.spec),(25,qg.spec),(26,aby.spec),(27,ny.spec),(28,og.spec),(40,dz.spec),(44,abd.spec),(45,aag.spec),(91,l9.spec),(93,qh.spec),(94,qd.spec),(95,qc.spec),(97,qb.spec)]) (fn:=Tryz.f19) [.fr 5 (.ints .u8 []),.any] ⟨ji.ok,abh.ok,qg.ok,aby.ok,ny.ok,og.ok,dz.ok,abd.ok,aag.ok,l9.ok,qh.ok,qd.ok,qc.ok,qb.ok,trivial⟩ fun _ K _ h=>by
  unfold dn at h
  split at h
  · rw[P.au6] at h;exact Aa (by kernel_rfl) h
  · cases h
theorem ok:Proved Tryz.prog GLO.gx 19 spec:=cu _ ok0
end agh

end
