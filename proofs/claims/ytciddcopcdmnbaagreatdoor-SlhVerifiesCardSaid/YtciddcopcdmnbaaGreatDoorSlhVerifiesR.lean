/-
  SlhVerifies, part 18: an interpreter of my own over abstract values, the pure functions, the walks and the plain law.
-/

import Derived.Test.YtciddcopcdmnbaaGreatDoorSlhVerifiesK
import Derived.Test.YtciddcopcdmnbaaGreatDoorSlhVerifiesH
import Derived.Test.YtciddcopcdmnbaaGreatDoorProg
import Derived.Test.YtciddcopcdmnbaaGreatDoorSlhVerifiesJ
import Derived.Test.YtciddcopcdmnbaaGreatDoorSlhVerifiesN
import Derived.Test.YtciddcopcdmnbaaGreatDoorSlhVerifiesQ
import Derived.KernelRfl
import Derived.Test.YtciddcopcdmnbaaGreatDoorSlhVerifiesL
import Derived.Test.YtciddcopcdmnbaaGreatDoorSlhVerifiesP
open Eq renaming trans → Aa

section
open Go Go.Abs Go.Proofs
set_option maxRecDepth 100000
set_option maxHeartbeats 0
set_option linter.unusedVariables false

namespace qc
noncomputable def D:Ctx:=({ P:=Tryz.prog,G:=[(40,jd.spec),(104,aao.spec),(143,uo.spec)],globs:=GLO.gx,hints:=[],loops:=[],inl:=[] }:Ctx)
theorem loops:dn (Tryz.f103.body.getD .skip)=[]:=by kernel_rfl
noncomputable def bn:Abs.Spec:=fun args K=>match args with
 | [.agg [.v (.int .i64 c),.v (.int .i64 d),.v (.int .i64 e),.v (.int .i64 f),.v (.int .i64 g),.v (.bool a),.sl (.ints .u8 b),.sl (.ints .u8 h),.arr .u8 32 i],.v (.int .i64 j),.v (.int .u64 k),.sl (.rows .u8 l)]=>P.qc c d e f g a b h i j k l (fun m=>K (.sl (.ints .u8 m)))
 | _=>none
noncomputable def spec:Abs.Spec:=fun args K=>bn (mh [.agg [.any,.any,.any,.any,.any,.any,.sl (.ints .u8 []),.sl (.ints .u8 []),.any],.any,.any,.sl (.rows .u8 [])] args) K
theorem ok0:Proved Tryz.prog GLO.gx 103 bn:=by
 refine bq (D:=D) (fn:=Tryz.f103) (c:=Tryz.f103.body.getD .skip) [.sl (.ints .u8 [])] (by kernel_rfl) (bg (by kernel_rfl)) (by kernel_rfl) (by kernel_rfl) (by kernel_rfl) ⟨jd.ok,aao.ok,uo.ok,trivial⟩ trivial ?_ ?_
 · rw[loops];exact trivial
 · intro args K r h
   unfold bn at h
   split at h
   · rw[P.alo] at h;exact Aa (by kernel_rfl) h
   · cases h
theorem ok:Proved Tryz.prog GLO.gx 103 spec:=dx _ ok0
end qc

namespace qp
abbrev X3:=P.b4u
def S3:X3→ASt:=fun (l,m,n,j,k,a,b,c,d,e,f,g,h,i)=>⟨[(1,.v (.int .u64 l)),(2,.sl (.ints .u8 m)),(3,.ptr 0 0),(7,.sl (.ints .u8 n)),(22,.v (.int .i64 j)),(23,.v (.int .i64 k))],[(0,some ⟨.box 82 [.v (.int .i64 a),.v (.int .i64 b),.v (.int .i64 c),.v (.int .i64 d),.v (.int .i64 e),.v (.bool f),.sl (.ints .u8 g),.sl (.ints .u8 h),.arr .u8 32 i],false⟩)],40,57⟩
def V3:ASt→Option X3
 | ⟨[(1,.v (.int .u64 l)),(2,.sl (.ints .u8 m)),(3,.ptr 0 0),(7,.sl (.ints .u8 n)),(22,.v (.int .i64 j)),(23,.v (.int .i64 k))],[(0,some ⟨.box 82 [.v (.int .i64 a),.v (.int .i64 b),.v (.int .i64 c),.v (.int .i64 d),.v (.int .i64 e),.v (.bool f),.sl (.ints .u8 g),.sl (.ints .u8 h),.arr .u8 32 i],false⟩)],40,57⟩=>some (l,m,n,j,k,a,b,c,d,e,f,g,h,i)
 | _=>none
theorem aq0(st)(x)(h:V3 st=some x):st=S3 x:=by
 unfold V3 at h
 split at h
 · cases h;rfl
 · cases h
abbrev Y3:=P.cdj
def E3(K:AExit→ASt→Option R):Y3→Option R:=(fun x=>K (.exit 0) (S3 x))
noncomputable def L3:qy:=fun st K=>adb (V3 st) fun x=>P.cei x (E3 K)
noncomputable def D:Ctx:=({ P:=Tryz.prog,G:=[(103,qc.spec)],globs:=GLO.gx,hints:=[(3,⟨[1,2,3,7,22,23],[],[6],[(2,.sl (.ints .u8 [])),(7,.sl (.ints .u8 []))],some (40,[0]),[],[],[]⟩)],loops:=[(3,L3)],inl:=[] }:Ctx)
theorem air(K)(next)(x):kg D (gq Tryz.f53 3) K next (S3 x)=P.b56 x (fun x=>next (S3 x)) (E3 K):=by kernel_rfl
theorem arv:jr D (gq Tryz.f53 3):=iy S3 aq0 (by kernel_rfl) P.chp air
theorem loops:dn (Tryz.f53.body.getD .skip)=[gq Tryz.f53 3]:=by kernel_rfl
noncomputable def bn:Abs.Spec:=fun args K=>match args with
 | [.agg [.v (.int .i64 c),.v (.int .i64 d),.v (.int .i64 e),.v (.int .i64 f),.v (.int .i64 g),.v (.bool a),.sl (.ints .u8 b),.sl (.ints .u8 h),.arr .u8 32 i],.v (.int .u64 j),.sl (.ints .u8 k)]=>P.qp c d e f g a b h i j k (fun l=>K (.sl (.ints .u8 l)))
 | _=>none
noncomputable def spec:Abs.Spec:=fun args K=>bn (mh [.agg [.any,.any,.any,.any,.any,.any,.sl (.ints .u8 []),.sl (.ints .u8 []),.any],.any,.sl (.ints .u8 [])] args) K
theorem ok0:Proved Tryz.prog GLO.gx 53 bn:=by
 refine bq (D:=D) (fn:=Tryz.f53) (c:=Tryz.f53.body.getD .skip) [.sl (.ints .u8 [])] (by kernel_rfl) (bg (by kernel_rfl)) (by kernel_rfl) (by kernel_rfl) (by kernel_rfl) ⟨qc.ok,trivial⟩ trivial ?_ ?_
 · rw[loops];exact ⟨arv,trivial⟩
 · intro args K r h
   unfold bn at h
   split at h
   · rw[P.ao6] at h;exact Aa (by kernel_rfl) h
   · cases h
theorem ok:Proved Tryz.prog GLO.gx 53 spec:=dx _ ok0
end qp

namespace um
abbrev b4e:=P.b3i
def br8:b4e→ASt:=fun (A,B,a,b,c,d,e,f,g,h,i,j,k,l,m,n,o,p,q,r,s,t,u,w,y,z,C)=>⟨[(0,.yld 7 [5,6,13,14] [.ptr 0 0,.ptr 1 0,.ptr 3 0,.ptr 4 0]),(2,.ptr 5 0),(13,.own 8),(14,.v (.int .i64 A)),(15,.v (.int .i64 B))],[(840,some ⟨.row 5 (.ints .u8 a),false⟩),(0,some ⟨.box 23 [.v (.int .i64 b),.v (.int .i64 c),.v (.int .i64 d),.v (.int .i64 e),.v (.int .i64 f),.v (.bool g)],false⟩),(1,some ⟨.box 24 [.sl (.ints .u8 h)],false⟩),(3,some ⟨.box 82 [.v (.int .i64 i),.v (.int .i64 j),.v (.int .i64 k),.v (.int .i64 l),.v (.int .i64 m),.v (.bool n),.v (.slice none 0 0),.sl (.ints .u8 o),.arr .u8 32 p],false⟩),(4,some ⟨.box 24 [.own 840],false⟩),(5,some ⟨.box 82 [.v (.int .i64 q),.v (.int .i64 r),.v (.int .i64 s),.v (.int .i64 t),.v (.int .i64 u),.v (.bool w),.v (.slice none 0 0),.sl (.ints .u8 y),.arr .u8 32 z],false⟩),(8,some ⟨.row 102 (.ints .u32 C),false⟩)],841,33⟩
def bx3:ASt→Option b4e
 | ⟨[(0,.yld 7 [5,6,13,14] [.ptr 0 0,.ptr 1 0,.ptr 3 0,.ptr 4 0]),(2,.ptr 5 0),(13,.own 8),(14,.v (.int .i64 A)),(15,.v (.int .i64 B))],[(840,some ⟨.row 5 (.ints .u8 a),false⟩),(0,some ⟨.box 23 [.v (.int .i64 b),.v (.int .i64 c),.v (.int .i64 d),.v (.int .i64 e),.v (.int .i64 f),.v (.bool g)],false⟩),(1,some ⟨.box 24 [.sl (.ints .u8 h)],false⟩),(3,some ⟨.box 82 [.v (.int .i64 i),.v (.int .i64 j),.v (.int .i64 k),.v (.int .i64 l),.v (.int .i64 m),.v (.bool n),.v (.slice none 0 0),.sl (.ints .u8 o),.arr .u8 32 p],false⟩),(4,some ⟨.box 24 [.own 840],false⟩),(5,some ⟨.box 82 [.v (.int .i64 q),.v (.int .i64 r),.v (.int .i64 s),.v (.int .i64 t),.v (.int .i64 u),.v (.bool w),.v (.slice none 0 0),.sl (.ints .u8 y),.arr .u8 32 z],false⟩),(8,some ⟨.row 102 (.ints .u32 C),false⟩)],841,33⟩=>some (A,B,a,b,c,d,e,f,g,h,i,j,k,l,m,n,o,p,q,r,s,t,u,w,y,z,C)
 | _=>none
theorem blf(st)(x)(h:bx3 st=some x):st=br8 x:=by
 unfold bx3 at h
 split at h
 · cases h;rfl
 · cases h
abbrev cbl:=P.cd4
def b30(K:AExit→ASt→Option R):cbl→Option R:=(fun x=>K (.exit 0) (br8 x))
noncomputable def ceb:qy:=fun st K=>adb (bx3 st) fun x=>P.cb4 x (b30 K)
noncomputable def D3:Ctx:=({ P:=Tryz.prog,G:=[(22,jv.spec),(23,ow.spec),(53,qp.spec),(54,pz.spec),(102,ny.spec)],globs:=GLO.gx,hints:=[],loops:=[],inl:=[],y:=some (bi6 (ak8 Tryz.f27 8) 68 false) }:Ctx)
noncomputable def D2:Ctx:=({ P:=Tryz.prog,G:=[(22,jv.spec),(23,ow.spec),(53,qp.spec),(54,pz.spec),(102,ny.spec)],globs:=GLO.gx,hints:=[(1,⟨[0,2,13,14,15],[(1000004,5,.ints .u8 [])],[],[],some (840,[0,1,3,4,5,8]),[0,1,3,5],[],[]⟩)],loops:=[(1,ceb)],inl:=[],y:=some (bi6 (ak8 Tryz.f27 8) 68 true),ys:=some (ayz D3 (bi6 (ak8 Tryz.f27 8) 68 true)) }:Ctx)
noncomputable def D1:Ctx:=({ P:=Tryz.prog,G:=[(22,jv.spec),(23,ow.spec),(53,qp.spec),(54,pz.spec),(102,ny.spec)],globs:=GLO.gx,hints:=[],loops:=[],inl:=[] }:Ctx)
noncomputable def D:Ctx:=({ P:=Tryz.prog,G:=[(22,jv.spec),(23,ow.spec),(53,qp.spec),(54,pz.spec),(102,ny.spec)],globs:=GLO.gx,hints:=[],loops:=[],inl:=[(52,ajd D1 Tryz.f52)],top:=true,rng:=[(8,⟨101,68,[5,6,13,14],ajd D2 Tryz.f101⟩)] }:Ctx)
theorem bhb(K)(next)(x):kg D2 (gq Tryz.f101 1) K next (br8 x)=P.b5h x (fun x=>next (br8 x)) (b30 K):=by kernel_rfl
theorem bl5:jr D2 (gq Tryz.f101 1):=iy br8 blf (by kernel_rfl) P.ch4 bhb
theorem loops:dn (Tryz.f27.body.getD .skip)=[]:=by kernel_rfl
theorem aqi:dn (Tryz.f52.body.getD .skip)=[]:=by kernel_rfl
theorem bj5:dn (Tryz.f101.body.getD .skip)=[gq Tryz.f101 1]:=by kernel_rfl
theorem bs8:dn (bzy (ak8 Tryz.f27 8))=[]:=by kernel_rfl
theorem ranges:zk (Tryz.f27.body.getD .skip)=[ak8 Tryz.f27 8]:=by kernel_rfl
theorem bgr:auq D2 (ayz D3 (bi6 (ak8 Tryz.f27 8) 68 true)):=bkp (Y:=bi6 (ak8 Tryz.f27 8) 68 true) (bfn (D:=D3) ⟨jv.ok,ow.ok,qp.ok,pz.ok,ny.ok,trivial⟩) (bg (by kernel_rfl)) (be7 (D:=D3) trivial (axr rfl)) (by kernel_rfl) rfl rfl (by kernel_rfl) (by kernel_rfl) rfl rfl rfl (alr _ (by rw[show dn (bi6 (ak8 Tryz.f27 8) 68 true).assign=[] from by kernel_rfl];exact trivial)) (alr _ (by rw[show dn (bi6 (ak8 Tryz.f27 8) 68 true).body=dn (bzy (ak8 Tryz.f27 8)) from by kernel_rfl,bs8];exact trivial))
noncomputable def bn:Abs.Spec:=fun args K=>match args with
 | [.agg [.v (.int .i64 b),.v (.int .i64 c),.v (.int .i64 d),.v (.int .i64 e),.v (.int .i64 f),.v (.bool a)],.sl (.ints .u8 g),.sl (.ints .u8 h),.sl (.ints .u8 i),.arr .u8 32 j]=>P.um b c d e f a g h i j (fun k=>K (.sl (.ints .u8 k)))
 | _=>none
noncomputable def spec:Abs.Spec:=fun args K=>bn (mh [.any,.sl (.ints .u8 []),.sl (.ints .u8 []),.sl (.ints .u8 []),.any] args) K
theorem ok0:Proved Tryz.prog GLO.gx 27 bn:=by
 refine bq (D:=D) (fn:=Tryz.f27) (c:=Tryz.f27.body.getD .skip) [.sl (.ints .u8 [])] (by kernel_rfl) (bg (by kernel_rfl)) (by kernel_rfl) (by kernel_rfl) (by kernel_rfl) ⟨jv.ok,ow.ok,qp.ok,pz.ok,ny.ok,trivial⟩ ⟨awu (D:=D1) (D':=D) (fn:=Tryz.f52) (c:=Tryz.f52.body.getD .skip) rfl rfl (by kernel_rfl) (bg (by kernel_rfl)) (by kernel_rfl) (by kernel_rfl) (by kernel_rfl) ⟨jv.ok,ow.ok,qp.ok,pz.ok,ny.ok,trivial⟩ trivial (by rw[aqi];exact trivial) (fun _ _ _ _ _ h=>h),trivial⟩ ?_ ?_ (hRg:=by rw[ranges];exact ⟨bd9 (D:=D) (Di:=D2) (e:=⟨101,68,[5,6,13,14],ajd D2 Tryz.f101⟩) (by kernel_rfl) rfl rfl (by kernel_rfl) (awu (D:=D2) (D':=D2) (fn:=Tryz.f101) (c:=Tryz.f101.body.getD .skip) rfl rfl (by kernel_rfl) (bg (by kernel_rfl)) (by kernel_rfl) (by kernel_rfl) (by kernel_rfl) ⟨jv.ok,ow.ok,qp.ok,pz.ok,ny.ok,trivial⟩ trivial (by rw[bj5];exact ⟨bl5,trivial⟩) (fun _ _ _ _ _ h=>h) rfl rfl (awc rfl _) (fun s hs=>by have hs:some (ayz D3 (bi6 (ak8 Tryz.f27 8) 68 true))=some s:=hs;cases hs;exact bgr)),trivial⟩)
 · rw[loops];exact trivial
 · intro args K r h
   unfold bn at h
   split at h
   · rw[P.amz] at h;exact Aa (by kernel_rfl) h
   · cases h
theorem ok:Proved Tryz.prog GLO.gx 27 spec:=dx _ ok0
end um

namespace afz
noncomputable def D:Ctx:=({ P:=Tryz.prog,G:=[],globs:=GLO.gx,hints:=[],loops:=[],inl:=[] }:Ctx)
theorem loops:dn (Tryz.f137.body.getD .skip)=[]:=by kernel_rfl
noncomputable def bn:Abs.Spec:=fun args K=>match args with
 | [.v (.int .i64 a)]=>P.afz a (fun b=>K (.v (.bool b)))
 | _=>none
noncomputable def spec:Abs.Spec:=bn
theorem ok0:Proved Tryz.prog GLO.gx 137 bn:=by
 refine bq (D:=D) (fn:=Tryz.f137) (c:=Tryz.f137.body.getD .skip) [.any] (by kernel_rfl) (bg (by kernel_rfl)) (by kernel_rfl) (by kernel_rfl) (by kernel_rfl) trivial trivial ?_ ?_
 · rw[loops];exact trivial
 · intro args K r h
   unfold bn at h
   split at h
   · rw[P.aym] at h;exact Aa (by kernel_rfl) h
   · cases h
theorem ok:Proved Tryz.prog GLO.gx 137 spec:=ok0
end afz

namespace zq
noncomputable def D:Ctx:=({ P:=Tryz.prog,G:=[(134,ab8.spec),(135,pq.spec),(136,om.spec)],globs:=GLO.gx,hints:=[],loops:=[],inl:=[] }:Ctx)
theorem loops:dn (Tryz.f92.body.getD .skip)=[]:=by kernel_rfl
noncomputable def bn:Abs.Spec:=fun args K=>match args with
 | [.v (.int .i64 a),.sl (.ints .u8 b),.v (.int .i64 c)]=>P.zq a b c (fun d e=>K (.tuple [.fr 5 (.ints .u8 d),.v (.int .i64 e)]))
 | _=>none
noncomputable def spec:Abs.Spec:=fun args K=>bn (mh [.any,.sl (.ints .u8 []),.any] args) K
theorem ok0:Proved Tryz.prog GLO.gx 92 bn:=by
 refine bq (D:=D) (fn:=Tryz.f92) (c:=Tryz.f92.body.getD .skip) [.fr 5 (.ints .u8 []),.any] (by kernel_rfl) (bg (by kernel_rfl)) (by kernel_rfl) (by kernel_rfl) (by kernel_rfl) ⟨ab8.ok,pq.ok,om.ok,trivial⟩ trivial ?_ ?_
 · rw[loops];exact trivial
 · intro args K r h
   unfold bn at h
   split at h
   · rw[P.awl] at h;exact Aa (by kernel_rfl) h
   · cases h
theorem ok:Proved Tryz.prog GLO.gx 92 spec:=dx _ ok0
end zq

namespace aeh
noncomputable def D:Ctx:=({ P:=Tryz.prog,G:=[],globs:=GLO.gx,hints:=[],loops:=[],inl:=[] }:Ctx)
theorem loops:dn (Tryz.f139.body.getD .skip)=[]:=by kernel_rfl
noncomputable def bn:Abs.Spec:=fun args K=>match args with
 | [.v (.int .i64 a)]=>P.aeh a (fun b=>K (.v (.int .i64 b)))
 | _=>none
noncomputable def spec:Abs.Spec:=bn
theorem ok0:Proved Tryz.prog GLO.gx 139 bn:=by
 refine bq (D:=D) (fn:=Tryz.f139) (c:=Tryz.f139.body.getD .skip) [.any] (by kernel_rfl) (bg (by kernel_rfl)) (by kernel_rfl) (by kernel_rfl) (by kernel_rfl) trivial trivial ?_ ?_
 · rw[loops];exact trivial
 · intro args K r h
   unfold bn at h
   split at h
   · rw[P.bca] at h;exact Aa (by kernel_rfl) h
   · cases h
theorem ok:Proved Tryz.prog GLO.gx 139 spec:=ok0
end aeh

namespace akl
noncomputable def D:Ctx:=({ P:=Tryz.prog,G:=[(164,afn.spec),(165,ac8.spec),(166,zo.spec)],globs:=GLO.gx,hints:=[],loops:=[],inl:=[] }:Ctx)
theorem loops:dn (Tryz.f140.body.getD .skip)=[]:=by kernel_rfl
noncomputable def bn:Abs.Spec:=fun args K=>match args with
 | [.v (.int .i64 a),.sl (.ints .u8 b)]=>P.akl a b (fun c d=>K (.tuple [.fr 5 (.ints .u8 c),.v (.int .i64 d)]))
 | _=>none
noncomputable def spec:Abs.Spec:=fun args K=>bn (mh [.any,.sl (.ints .u8 [])] args) K
theorem ok0:Proved Tryz.prog GLO.gx 140 bn:=by
 refine bq (D:=D) (fn:=Tryz.f140) (c:=Tryz.f140.body.getD .skip) [.fr 5 (.ints .u8 []),.any] (by kernel_rfl) (bg (by kernel_rfl)) (by kernel_rfl) (by kernel_rfl) (by kernel_rfl) ⟨afn.ok,ac8.ok,zo.ok,trivial⟩ trivial ?_ ?_
 · rw[loops];exact trivial
 · intro args K r h
   unfold bn at h
   split at h
   · rw[P.be8] at h;exact Aa (by kernel_rfl) h
   · cases h
theorem ok:Proved Tryz.prog GLO.gx 140 spec:=dx _ ok0
end akl

namespace zx
noncomputable def D:Ctx:=({ P:=Tryz.prog,G:=[(92,zq.spec),(139,aeh.spec),(140,akl.spec)],globs:=GLO.gx,hints:=[],loops:=[],inl:=[] }:Ctx)
theorem loops:dn (Tryz.f98.body.getD .skip)=[]:=by kernel_rfl
noncomputable def bn:Abs.Spec:=fun args K=>match args with
 | [.v (.int .i64 a),.sl (.ints .u8 b)]=>P.zx a b (fun c d=>K (.tuple [.fr 5 (.ints .u8 c),.v (.int .i64 d)]))
 | _=>none
noncomputable def spec:Abs.Spec:=fun args K=>bn (mh [.any,.sl (.ints .u8 [])] args) K
theorem ok0:Proved Tryz.prog GLO.gx 98 bn:=by
 refine bq (D:=D) (fn:=Tryz.f98) (c:=Tryz.f98.body.getD .skip) [.fr 5 (.ints .u8 []),.any] (by kernel_rfl) (bg (by kernel_rfl)) (by kernel_rfl) (by kernel_rfl) (by kernel_rfl) ⟨zq.ok,aeh.ok,akl.ok,trivial⟩ trivial ?_ ?_
 · rw[loops];exact trivial
 · intro args K r h
   unfold bn at h
   split at h
   · rw[P.avk] at h;exact Aa (by kernel_rfl) h
   · cases h
theorem ok:Proved Tryz.prog GLO.gx 98 spec:=dx _ ok0
end zx

namespace l9
noncomputable def D:Ctx:=({ P:=Tryz.prog,G:=[(40,jd.spec),(98,zx.spec)],globs:=GLO.gx,hints:=[],loops:=[],inl:=[] }:Ctx)
theorem loops:dn (Tryz.f167.body.getD .skip)=[]:=by kernel_rfl
noncomputable def bn:Abs.Spec:=fun args K=>match args with
 | [.sl (.rows .u8 a),.sta [.v (.int .i64 b)]]=>P.l9 a b (fun c=>K (.fr 5 (.ints .u8 c)))
 | _=>none
noncomputable def spec:Abs.Spec:=fun args K=>bn (mh [.sl (.rows .u8 []),.any] args) K
theorem ok0:Proved Tryz.prog GLO.gx 167 bn:=by
 refine bq (D:=D) (fn:=Tryz.f167) (c:=Tryz.f167.body.getD .skip) [.fr 5 (.ints .u8 [])] (by kernel_rfl) (bg (by kernel_rfl)) (by kernel_rfl) (by kernel_rfl) (by kernel_rfl) ⟨jd.ok,zx.ok,trivial⟩ trivial ?_ ?_
 · rw[loops];exact trivial
 · intro args K r h
   unfold bn at h
   split at h
   · rw[P.am4] at h;exact Aa (by kernel_rfl) h
   · cases h
theorem ok:Proved Tryz.prog GLO.gx 167 spec:=dx _ ok0
end l9

namespace aal
noncomputable def D:Ctx:=({ P:=Tryz.prog,G:=[(167,l9.spec)],globs:=GLO.gx,hints:=[],loops:=[],inl:=[],sta:=true }:Ctx)
theorem loops:dn (Tryz.f141.body.getD .skip)=[]:=by kernel_rfl
noncomputable def bn:Abs.Spec:=fun args K=>match args with
 | [.v (.int .i64 b)]=>P.aal b (fun a=>K (.fn (.func 167) [] [.sta [.v (.int .i64 a)]]))
 | _=>none
noncomputable def spec:Abs.Spec:=bn
theorem ok0:Proved Tryz.prog GLO.gx 141 bn:=by
 refine bq (D:=D) (fn:=Tryz.f141) (c:=Tryz.f141.body.getD .skip) [.any] (by kernel_rfl) (bg (by kernel_rfl)) (by kernel_rfl) (by kernel_rfl) (by kernel_rfl) ⟨l9.ok,trivial⟩ trivial ?_ ?_
 · rw[loops];exact trivial
 · intro args K r h
   unfold bn at h
   split at h
   · rw[P.as2] at h;exact Aa (by kernel_rfl) h
   · cases h
theorem ok:Proved Tryz.prog GLO.gx 141 spec:=ok0
end aal

namespace uf
abbrev X4:=P.b3c
def S4:X4→ASt:=fun (c,a,b,d)=>⟨[(2,.v (.int .u8 c)),(7,.own 0),(15,.v (.int .i64 a)),(16,.v (.int .i64 b))],[(0,some ⟨.row 5 (.ints .u8 d),false⟩)],1,28⟩
def V4:ASt→Option X4
 | ⟨[(2,.v (.int .u8 c)),(7,.own 0),(15,.v (.int .i64 a)),(16,.v (.int .i64 b))],[(0,some ⟨.row 5 (.ints .u8 d),false⟩)],1,28⟩=>some (c,a,b,d)
 | _=>none
theorem auk(st)(x)(h:V4 st=some x):st=S4 x:=by
 unfold V4 at h
 split at h
 · cases h;rfl
 · cases h
abbrev Y4:=P.cfk
def E4(K:AExit→ASt→Option R):Y4→Option R:=(fun x=>K (.exit 0) (S4 x))
noncomputable def L4:qy:=fun st K=>adb (V4 st) fun x=>P.cdq x (E4 K)
noncomputable def D:Ctx:=({ P:=Tryz.prog,G:=[],globs:=GLO.gx,hints:=[(4,⟨[2,7,15,16],[],[6],[],none,[],[],[]⟩)],loops:=[(4,L4)],inl:=[] }:Ctx)
theorem aj1(K)(next)(x):kg D (gq Tryz.f162 4) K next (S4 x)=P.b3t x (fun x=>next (S4 x)) (E4 K):=by kernel_rfl
theorem auy:jr D (gq Tryz.f162 4):=iy S4 auk (by kernel_rfl) P.chv aj1
theorem loops:dn (Tryz.f162.body.getD .skip)=[gq Tryz.f162 4]:=by kernel_rfl
noncomputable def bn:Abs.Spec:=fun args K=>match args with
 | [.sl (.ints .u8 a),.v (.int .i64 b),.v (.int .u8 c)]=>P.uf a b c (fun d=>K (.fr 5 (.ints .u8 d)))
 | _=>none
noncomputable def spec:Abs.Spec:=fun args K=>bn (mh [.sl (.ints .u8 []),.any,.any] args) K
theorem ok0:Proved Tryz.prog GLO.gx 162 bn:=by
 refine bq (D:=D) (fn:=Tryz.f162) (c:=Tryz.f162.body.getD .skip) [.fr 5 (.ints .u8 [])] (by kernel_rfl) (bg (by kernel_rfl)) (by kernel_rfl) (by kernel_rfl) (by kernel_rfl) trivial trivial ?_ ?_
 · rw[loops];exact ⟨auy,trivial⟩
 · intro args K r h
   unfold bn at h
   split at h
   · rw[P.asu] at h;exact Aa (by kernel_rfl) h
   · cases h
theorem ok:Proved Tryz.prog GLO.gx 162 spec:=dx _ ok0
end uf

namespace aa8
noncomputable def D:Ctx:=({ P:=Tryz.prog,G:=[(40,jd.spec),(167,l9.spec)],globs:=GLO.gx,hints:=[],loops:=[],inl:=[] }:Ctx)
theorem loops:dn (Tryz.f163.body.getD .skip)=[]:=by kernel_rfl
noncomputable def bn:Abs.Spec:=fun args K=>match args with
 | [.sl (.rows .u8 b),.sta [.fn (.func 167) [] [.sta [.v (.int .i64 a)]]],.sta [.sl (.ints .u8 c)],.sta [.sl (.ints .u8 d)]]=>P.aa8 b a c d (fun e=>K (.fr 5 (.ints .u8 e)))
 | _=>none
noncomputable def spec:Abs.Spec:=fun args K=>bn (mh [.sl (.rows .u8 []),.any,.agg [.sl (.ints .u8 [])],.agg [.sl (.ints .u8 [])]] args) K
theorem ok0:Proved Tryz.prog GLO.gx 163 bn:=by
 refine bq (D:=D) (fn:=Tryz.f163) (c:=Tryz.f163.body.getD .skip) [.fr 5 (.ints .u8 [])] (by kernel_rfl) (bg (by kernel_rfl)) (by kernel_rfl) (by kernel_rfl) (by kernel_rfl) ⟨jd.ok,l9.ok,trivial⟩ trivial ?_ ?_
 · rw[loops];exact trivial
 · intro args K r h
   unfold bn at h
   split at h
   · rw[P.as4] at h;exact Aa (by kernel_rfl) h
   · cases h
theorem ok:Proved Tryz.prog GLO.gx 163 spec:=dx _ ok0
end aa8

namespace af5
noncomputable def D:Ctx:=({ P:=Tryz.prog,G:=[(141,aal.spec),(162,uf.spec),(163,aa8.spec),(167,l9.spec)],globs:=GLO.gx,hints:=[],loops:=[],inl:=[],sta:=true }:Ctx)
theorem loops:dn (Tryz.f138.body.getD .skip)=[]:=by kernel_rfl
noncomputable def bn:Abs.Spec:=fun args K=>match args with
 | [.v (.int .i64 d),.sl (.ints .u8 e)]=>P.af5 d e (fun a b c=>K (.fn (.func 163) [] [.sta [.fn (.func 167) [] [.sta [.v (.int .i64 a)]]],.sta [.sl (.ints .u8 b)],.sta [.sl (.ints .u8 c)]]))
 | _=>none
noncomputable def spec:Abs.Spec:=fun args K=>bn (mh [.any,.sl (.ints .u8 [])] args) K
theorem ok0:Proved Tryz.prog GLO.gx 138 bn:=by
 refine bq (D:=D) (fn:=Tryz.f138) (c:=Tryz.f138.body.getD .skip) [.agg [.any,.agg [.sl (.ints .u8 [])],.agg [.sl (.ints .u8 [])]]] (by kernel_rfl) (bg (by kernel_rfl)) (by kernel_rfl) (by kernel_rfl) (by kernel_rfl) ⟨aal.ok,uf.ok,aa8.ok,l9.ok,trivial⟩ trivial ?_ ?_
 · rw[loops];exact trivial
 · intro args K r h
   unfold bn at h
   split at h
   · rw[P.bae] at h;exact Aa (by kernel_rfl) h
   · cases h
theorem ok:Proved Tryz.prog GLO.gx 138 spec:=dx _ ok0
end af5

namespace ah4
noncomputable def D:Ctx:=({ P:=Tryz.prog,G:=[(137,afz.spec),(138,af5.spec),(163,aa8.spec)],globs:=GLO.gx,hints:=[],loops:=[],inl:=[] }:Ctx)
theorem loops:dn (Tryz.f96.body.getD .skip)=[]:=by kernel_rfl
noncomputable def bn:Abs.Spec:=fun args K=>match args with
 | [.v (.int .i64 a),.sl (.ints .u8 b),.sl (.ints .u8 c)]=>P.ah4 a b c (fun d e=>K (.tuple [.fr 5 (.ints .u8 d),.v (.int .i64 e)]))
 | _=>none
noncomputable def spec:Abs.Spec:=fun args K=>bn (mh [.any,.sl (.ints .u8 []),.sl (.ints .u8 [])] args) K
theorem ok0:Proved Tryz.prog GLO.gx 96 bn:=by
 refine bq (D:=D) (fn:=Tryz.f96) (c:=Tryz.f96.body.getD .skip) [.fr 5 (.ints .u8 []),.any] (by kernel_rfl) (bg (by kernel_rfl)) (by kernel_rfl) (by kernel_rfl) (by kernel_rfl) ⟨afz.ok,af5.ok,aa8.ok,trivial⟩ trivial ?_ ?_
 · rw[loops];exact trivial
 · intro args K r h
   unfold bn at h
   split at h
   · rw[P.bc4] at h;exact Aa (by kernel_rfl) h
   · cases h
theorem ok:Proved Tryz.prog GLO.gx 96 spec:=dx _ ok0
end ah4

namespace u6
noncomputable def D:Ctx:=({ P:=Tryz.prog,G:=[(40,jd.spec),(96,ah4.spec)],globs:=GLO.gx,hints:=[],loops:=[],inl:=[] }:Ctx)
theorem loops:dn (Tryz.f95.body.getD .skip)=[]:=by kernel_rfl
noncomputable def bn:Abs.Spec:=fun args K=>match args with
 | [.sl (.ints .u8 g),.sl (.ints .u8 h),.sl (.ints .u8 i),.sta [.v (.int .i64 j)],.sta [.v (.int .i64 b),.v (.int .i64 c),.v (.int .i64 d),.v (.int .i64 e),.v (.int .i64 f),.v (.bool a)]]=>P.u6 g h i j b c d e f a (fun k=>K (.sl (.ints .u8 k)))
 | _=>none
noncomputable def spec:Abs.Spec:=fun args K=>bn (mh [.sl (.ints .u8 []),.sl (.ints .u8 []),.sl (.ints .u8 []),.any,.any] args) K
theorem ok0:Proved Tryz.prog GLO.gx 95 bn:=by
 refine bq (D:=D) (fn:=Tryz.f95) (c:=Tryz.f95.body.getD .skip) [.sl (.ints .u8 [])] (by kernel_rfl) (bg (by kernel_rfl)) (by kernel_rfl) (by kernel_rfl) (by kernel_rfl) ⟨jd.ok,ah4.ok,trivial⟩ trivial ?_ ?_
 · rw[loops];exact trivial
 · intro args K r h
   unfold bn at h
   split at h
   · rw[P.azi] at h;exact Aa (by kernel_rfl) h
   · cases h
theorem ok:Proved Tryz.prog GLO.gx 95 spec:=dx _ ok0
end u6

namespace af0
abbrev X8:=P.b29
def S8:X8→ASt:=fun (c,d,a,b,e)=>⟨[(9,.own 0),(1,.sl (.ints .u8 c)),(2,.v (.int .i64 d)),(8,.fn (.func 167) [] [.sta [.v (.int .i64 a)]]),(10,.v (.int .u64 b))],[(0,some ⟨.row 5 (.ints .u8 e),false⟩)],1,45⟩
def V8:ASt→Option X8
 | ⟨[(9,.own 0),(1,.sl (.ints .u8 c)),(2,.v (.int .i64 d)),(8,.fn (.func 167) [] [.sta [.v (.int .i64 a)]]),(10,.v (.int .u64 b))],[(0,some ⟨.row 5 (.ints .u8 e),false⟩)],1,45⟩=>some (c,d,a,b,e)
 | _=>none
theorem bh3(st)(x)(h:V8 st=some x):st=S8 x:=by
 unfold V8 at h
 split at h
 · cases h;rfl
 · cases h
abbrev Y8:=P.ca5
def E8(K:AExit→ASt→Option R):Y8→Option R:=(fun x=>K (.exit 1) (S8 x))
noncomputable def L8:qy:=fun st K=>adb (V8 st) fun x=>P.b8m x (E8 K)
noncomputable def D:Ctx:=({ P:=Tryz.prog,G:=[(75,xq.spec),(141,aal.spec),(167,l9.spec)],globs:=GLO.gx,hints:=[(8,⟨[1,2,8,10],[(9,5,.ints .u8 [])],[6,7],[],none,[],[],[]⟩)],loops:=[(8,L8)],inl:=[] }:Ctx)
theorem avf(K)(next)(x):kg D (gq Tryz.f99 8) K next (S8 x)=P.b2w x (fun x=>next (S8 x)) (E8 K):=by kernel_rfl
theorem bh6:jr D (gq Tryz.f99 8):=iy S8 bh3 (by kernel_rfl) P.cgw avf
theorem loops:dn (Tryz.f99.body.getD .skip)=[gq Tryz.f99 8]:=by kernel_rfl
noncomputable def bn:Abs.Spec:=fun args K=>match args with
 | [.v (.int .i64 a),.sl (.ints .u8 b),.v (.int .i64 c)]=>P.af0 a b c (fun d e=>K (.tuple [.sl (.ints .u8 d),.v (.int .i64 e)]))
 | _=>none
noncomputable def spec:Abs.Spec:=fun args K=>bn (mh [.any,.sl (.ints .u8 []),.any] args) K
theorem ok0:Proved Tryz.prog GLO.gx 99 bn:=by
 refine bq (D:=D) (fn:=Tryz.f99) (c:=Tryz.f99.body.getD .skip) [.sl (.ints .u8 []),.any] (by kernel_rfl) (bg (by kernel_rfl)) (by kernel_rfl) (by kernel_rfl) (by kernel_rfl) ⟨xq.ok,aal.ok,l9.ok,trivial⟩ trivial ?_ ?_
 · rw[loops];exact ⟨bh6,trivial⟩
 · intro args K r h
   unfold bn at h
   split at h
   · rw[P.az7] at h;exact Aa (by kernel_rfl) h
   · cases h
theorem ok:Proved Tryz.prog GLO.gx 99 spec:=dx _ ok0
end af0

end
