/-
  SlhMakes, part 18: an interpreter of my own over abstract values, the pure functions, the walks and the plain law.
-/

import Derived.Test.YtciddcopcdmnbaaGreatDoorSlhMakesK
import Derived.Test.YtciddcopcdmnbaaGreatDoorSlhMakesH
import Derived.Test.YtciddcopcdmnbaaGreatDoorProg
import Derived.Test.YtciddcopcdmnbaaGreatDoorSlhMakesJ
import Derived.Test.YtciddcopcdmnbaaGreatDoorSlhMakesN
import Derived.Test.YtciddcopcdmnbaaGreatDoorSlhMakesQ
import Derived.KernelRfl
import Derived.Test.YtciddcopcdmnbaaGreatDoorSlhMakesL
import Derived.Test.YtciddcopcdmnbaaGreatDoorSlhMakesP
open Eq renaming trans → Aa

section
open Go Go.Abs Go.Proofs
set_option maxRecDepth 100000
set_option maxHeartbeats 0
set_option linter.unusedVariables false

namespace qb
noncomputable def D:Ctx:=({ P:=Tryz.prog,G:=[(40,jc.spec),(104,zy.spec),(143,uj.spec)],globs:=GLO.gx,hints:=[],loops:=[],inl:=[] }:Ctx)
theorem loops:dn (Tryz.f103.body.getD .skip)=[]:=by kernel_rfl
noncomputable def bn:Abs.Spec:=fun args K=>match args with
 | [.agg [.v (.int .i64 c),.v (.int .i64 d),.v (.int .i64 e),.v (.int .i64 f),.v (.int .i64 g),.v (.bool a),.sl (.ints .u8 b),.sl (.ints .u8 h),.arr .u8 32 i],.v (.int .i64 j),.v (.int .u64 k),.sl (.rows .u8 l)]=>P.qb c d e f g a b h i j k l (fun m=>K (.sl (.ints .u8 m)))
 | _=>none
noncomputable def spec:Abs.Spec:=fun args K=>bn (l8 [.agg [.any,.any,.any,.any,.any,.any,.sl (.ints .u8 []),.sl (.ints .u8 []),.any],.any,.any,.sl (.rows .u8 [])] args) K
theorem ok0:Proved Tryz.prog GLO.gx 103 bn:=by
 refine bq (D:=D) (fn:=Tryz.f103) (c:=Tryz.f103.body.getD .skip) [.sl (.ints .u8 [])] (by kernel_rfl) (bf (by kernel_rfl)) (by kernel_rfl) (by kernel_rfl) (by kernel_rfl) ⟨jc.ok,zy.ok,uj.ok,trivial⟩ trivial ?_ ?_
 · rw[loops];exact trivial
 · intro args K r h
   unfold bn at h
   split at h
   · rw[P.akx] at h;exact Aa (by kernel_rfl) h
   · cases h
theorem ok:Proved Tryz.prog GLO.gx 103 spec:=dw _ ok0
end qb

namespace qm
abbrev X3:=P.bzs
def S3:X3→ASt:=fun (l,m,n,j,k,a,b,c,d,e,f,g,h,i)=>⟨[(1,.v (.int .u64 l)),(2,.sl (.ints .u8 m)),(3,.ptr 0 0),(7,.sl (.ints .u8 n)),(22,.v (.int .i64 j)),(23,.v (.int .i64 k))],[(0,some ⟨.box 82 [.v (.int .i64 a),.v (.int .i64 b),.v (.int .i64 c),.v (.int .i64 d),.v (.int .i64 e),.v (.bool f),.sl (.ints .u8 g),.sl (.ints .u8 h),.arr .u8 32 i],false⟩)],40,57⟩
def V3:ASt→Option X3
 | ⟨[(1,.v (.int .u64 l)),(2,.sl (.ints .u8 m)),(3,.ptr 0 0),(7,.sl (.ints .u8 n)),(22,.v (.int .i64 j)),(23,.v (.int .i64 k))],[(0,some ⟨.box 82 [.v (.int .i64 a),.v (.int .i64 b),.v (.int .i64 c),.v (.int .i64 d),.v (.int .i64 e),.v (.bool f),.sl (.ints .u8 g),.sl (.ints .u8 h),.arr .u8 32 i],false⟩)],40,57⟩=>some (l,m,n,j,k,a,b,c,d,e,f,g,h,i)
 | _=>none
theorem apy(st)(x)(h:V3 st=some x):st=S3 x:=by
 unfold V3 at h
 split at h
 · cases h;rfl
 · cases h
abbrev Y3:=P.b90
def E3(K:AExit→ASt→Option R):Y3→Option R:=(fun x=>K (.exit 0) (S3 x))
noncomputable def L3:tq:=fun st K=>ady (V3 st) fun x=>P.b7u x (E3 K)
noncomputable def D:Ctx:=({ P:=Tryz.prog,G:=[(103,qb.spec)],globs:=GLO.gx,hints:=[(3,⟨[1,2,3,7,22,23],[],[6],[(2,.sl (.ints .u8 [])),(7,.sl (.ints .u8 []))],some (40,[0]),[],[],[]⟩)],loops:=[(3,L3)],inl:=[] }:Ctx)
theorem ahx(K)(next)(x):l5 D (fq Tryz.f53 3) K next (S3 x)=P.b1z x (fun x=>next (S3 x)) (E3 K):=by kernel_rfl
theorem apa:jv D (fq Tryz.f53 3):=iy S3 apy (by kernel_rfl) P.cdz ahx
theorem loops:dn (Tryz.f53.body.getD .skip)=[fq Tryz.f53 3]:=by kernel_rfl
noncomputable def bn:Abs.Spec:=fun args K=>match args with
 | [.agg [.v (.int .i64 c),.v (.int .i64 d),.v (.int .i64 e),.v (.int .i64 f),.v (.int .i64 g),.v (.bool a),.sl (.ints .u8 b),.sl (.ints .u8 h),.arr .u8 32 i],.v (.int .u64 j),.sl (.ints .u8 k)]=>P.qm c d e f g a b h i j k (fun l=>K (.sl (.ints .u8 l)))
 | _=>none
noncomputable def spec:Abs.Spec:=fun args K=>bn (l8 [.agg [.any,.any,.any,.any,.any,.any,.sl (.ints .u8 []),.sl (.ints .u8 []),.any],.any,.sl (.ints .u8 [])] args) K
theorem ok0:Proved Tryz.prog GLO.gx 53 bn:=by
 refine bq (D:=D) (fn:=Tryz.f53) (c:=Tryz.f53.body.getD .skip) [.sl (.ints .u8 [])] (by kernel_rfl) (bf (by kernel_rfl)) (by kernel_rfl) (by kernel_rfl) (by kernel_rfl) ⟨qb.ok,trivial⟩ trivial ?_ ?_
 · rw[loops];exact ⟨apa,trivial⟩
 · intro args K r h
   unfold bn at h
   split at h
   · rw[P.an1] at h;exact Aa (by kernel_rfl) h
   · cases h
theorem ok:Proved Tryz.prog GLO.gx 53 spec:=dw _ ok0
end qm

namespace wz
abbrev b2s:=P.b0v
def bny:b2s→ASt:=fun (A,B,a,b,c,d,e,f,g,h,i,j,k,l,m,n,o,p,q,r,s,t,u,w,y,z,C)=>⟨[(0,.yld 7 [5,6,13,14] [.ptr 0 0,.ptr 1 0,.ptr 3 0,.ptr 4 0]),(2,.ptr 5 0),(13,.own 8),(14,.v (.int .i64 A)),(15,.v (.int .i64 B))],[(840,some ⟨.row 5 (.ints .u8 a),false⟩),(0,some ⟨.box 23 [.v (.int .i64 b),.v (.int .i64 c),.v (.int .i64 d),.v (.int .i64 e),.v (.int .i64 f),.v (.bool g)],false⟩),(1,some ⟨.box 24 [.sl (.ints .u8 h)],false⟩),(3,some ⟨.box 82 [.v (.int .i64 i),.v (.int .i64 j),.v (.int .i64 k),.v (.int .i64 l),.v (.int .i64 m),.v (.bool n),.v (.slice none 0 0),.sl (.ints .u8 o),.arr .u8 32 p],false⟩),(4,some ⟨.box 24 [.own 840],false⟩),(5,some ⟨.box 82 [.v (.int .i64 q),.v (.int .i64 r),.v (.int .i64 s),.v (.int .i64 t),.v (.int .i64 u),.v (.bool w),.v (.slice none 0 0),.sl (.ints .u8 y),.arr .u8 32 z],false⟩),(8,some ⟨.row 102 (.ints .u32 C),false⟩)],841,33⟩
def bvi:ASt→Option b2s
 | ⟨[(0,.yld 7 [5,6,13,14] [.ptr 0 0,.ptr 1 0,.ptr 3 0,.ptr 4 0]),(2,.ptr 5 0),(13,.own 8),(14,.v (.int .i64 A)),(15,.v (.int .i64 B))],[(840,some ⟨.row 5 (.ints .u8 a),false⟩),(0,some ⟨.box 23 [.v (.int .i64 b),.v (.int .i64 c),.v (.int .i64 d),.v (.int .i64 e),.v (.int .i64 f),.v (.bool g)],false⟩),(1,some ⟨.box 24 [.sl (.ints .u8 h)],false⟩),(3,some ⟨.box 82 [.v (.int .i64 i),.v (.int .i64 j),.v (.int .i64 k),.v (.int .i64 l),.v (.int .i64 m),.v (.bool n),.v (.slice none 0 0),.sl (.ints .u8 o),.arr .u8 32 p],false⟩),(4,some ⟨.box 24 [.own 840],false⟩),(5,some ⟨.box 82 [.v (.int .i64 q),.v (.int .i64 r),.v (.int .i64 s),.v (.int .i64 t),.v (.int .i64 u),.v (.bool w),.v (.slice none 0 0),.sl (.ints .u8 y),.arr .u8 32 z],false⟩),(8,some ⟨.row 102 (.ints .u32 C),false⟩)],841,33⟩=>some (A,B,a,b,c,d,e,f,g,h,i,j,k,l,m,n,o,p,q,r,s,t,u,w,y,z,C)
 | _=>none
theorem bjl(st)(x)(h:bvi st=some x):st=bny x:=by
 unfold bvi at h
 split at h
 · cases h;rfl
 · cases h
abbrev cbm:=P.b9r
def b0e(K:AExit→ASt→Option R):cbm→Option R:=(fun x=>K (.exit 0) (bny x))
noncomputable def b7v:tq:=fun st K=>ady (bvi st) fun x=>P.ccb x (b0e K)
noncomputable def D3:Ctx:=({ P:=Tryz.prog,G:=[(22,jk.spec),(23,pz.spec),(53,qm.spec),(54,o8.spec),(102,nu.spec)],globs:=GLO.gx,hints:=[],loops:=[],inl:=[],y:=some (bhj (akf Tryz.f27 8) 68 false) }:Ctx)
noncomputable def D2:Ctx:=({ P:=Tryz.prog,G:=[(22,jk.spec),(23,pz.spec),(53,qm.spec),(54,o8.spec),(102,nu.spec)],globs:=GLO.gx,hints:=[(1,⟨[0,2,13,14,15],[(1000004,5,.ints .u8 [])],[],[],some (840,[0,1,3,4,5,8]),[0,1,3,5],[],[]⟩)],loops:=[(1,b7v)],inl:=[],y:=some (bhj (akf Tryz.f27 8) 68 true),ys:=some (axe D3 (bhj (akf Tryz.f27 8) 68 true)) }:Ctx)
noncomputable def D1:Ctx:=({ P:=Tryz.prog,G:=[(22,jk.spec),(23,pz.spec),(53,qm.spec),(54,o8.spec),(102,nu.spec)],globs:=GLO.gx,hints:=[],loops:=[],inl:=[] }:Ctx)
noncomputable def D:Ctx:=({ P:=Tryz.prog,G:=[(22,jk.spec),(23,pz.spec),(53,qm.spec),(54,o8.spec),(102,nu.spec)],globs:=GLO.gx,hints:=[],loops:=[],inl:=[(52,ain D1 Tryz.f52)],top:=true,rng:=[(8,⟨101,68,[5,6,13,14],ain D2 Tryz.f101⟩)] }:Ctx)
theorem be7(K)(next)(x):l5 D2 (fq Tryz.f101 1) K next (bny x)=P.bzb x (fun x=>next (bny x)) (b0e K):=by kernel_rfl
theorem bjs:jv D2 (fq Tryz.f101 1):=iy bny bjl (by kernel_rfl) P.cct be7
theorem loops:dn (Tryz.f27.body.getD .skip)=[]:=by kernel_rfl
theorem ap4:dn (Tryz.f52.body.getD .skip)=[]:=by kernel_rfl
theorem bg5:dn (Tryz.f101.body.getD .skip)=[fq Tryz.f101 1]:=by kernel_rfl
theorem bn0:dn (bxa (akf Tryz.f27 8))=[]:=by kernel_rfl
theorem ranges:yh (Tryz.f27.body.getD .skip)=[akf Tryz.f27 8]:=by kernel_rfl
theorem bfp:atd D2 (axe D3 (bhj (akf Tryz.f27 8) 68 true)):=biq (Y:=bhj (akf Tryz.f27 8) 68 true) (bb6 (D:=D3) ⟨jk.ok,pz.ok,qm.ok,o8.ok,nu.ok,trivial⟩) (bf (by kernel_rfl)) (bdf (D:=D3) trivial (avg rfl)) (by kernel_rfl) rfl rfl (by kernel_rfl) (by kernel_rfl) rfl rfl rfl (aks _ (by rw[show dn (bhj (akf Tryz.f27 8) 68 true).assign=[] from by kernel_rfl];exact trivial)) (aks _ (by rw[show dn (bhj (akf Tryz.f27 8) 68 true).body=dn (bxa (akf Tryz.f27 8)) from by kernel_rfl,bn0];exact trivial))
noncomputable def bn:Abs.Spec:=fun args K=>match args with
 | [.agg [.v (.int .i64 b),.v (.int .i64 c),.v (.int .i64 d),.v (.int .i64 e),.v (.int .i64 f),.v (.bool a)],.sl (.ints .u8 g),.sl (.ints .u8 h),.sl (.ints .u8 i),.arr .u8 32 j]=>P.wz b c d e f a g h i j (fun k=>K (.sl (.ints .u8 k)))
 | _=>none
noncomputable def spec:Abs.Spec:=fun args K=>bn (l8 [.any,.sl (.ints .u8 []),.sl (.ints .u8 []),.sl (.ints .u8 []),.any] args) K
theorem ok0:Proved Tryz.prog GLO.gx 27 bn:=by
 refine bq (D:=D) (fn:=Tryz.f27) (c:=Tryz.f27.body.getD .skip) [.sl (.ints .u8 [])] (by kernel_rfl) (bf (by kernel_rfl)) (by kernel_rfl) (by kernel_rfl) (by kernel_rfl) ⟨jk.ok,pz.ok,qm.ok,o8.ok,nu.ok,trivial⟩ ⟨auq (D:=D1) (D':=D) (fn:=Tryz.f52) (c:=Tryz.f52.body.getD .skip) rfl rfl (by kernel_rfl) (bf (by kernel_rfl)) (by kernel_rfl) (by kernel_rfl) (by kernel_rfl) ⟨jk.ok,pz.ok,qm.ok,o8.ok,nu.ok,trivial⟩ trivial (by rw[ap4];exact trivial) (fun _ _ _ _ _ h=>h),trivial⟩ ?_ ?_ (hRg:=by rw[ranges];exact ⟨bcj (D:=D) (Di:=D2) (e:=⟨101,68,[5,6,13,14],ain D2 Tryz.f101⟩) (by kernel_rfl) rfl rfl (by kernel_rfl) (auq (D:=D2) (D':=D2) (fn:=Tryz.f101) (c:=Tryz.f101.body.getD .skip) rfl rfl (by kernel_rfl) (bf (by kernel_rfl)) (by kernel_rfl) (by kernel_rfl) (by kernel_rfl) ⟨jk.ok,pz.ok,qm.ok,o8.ok,nu.ok,trivial⟩ trivial (by rw[bg5];exact ⟨bjs,trivial⟩) (fun _ _ _ _ _ h=>h) rfl rfl (atl rfl _) (fun s hs=>by have hs:some (axe D3 (bhj (akf Tryz.f27 8) 68 true))=some s:=hs;cases hs;exact bfp)),trivial⟩)
 · rw[loops];exact trivial
 · intro args K r h
   unfold bn at h
   split at h
   · rw[P.amh] at h;exact Aa (by kernel_rfl) h
   · cases h
theorem ok:Proved Tryz.prog GLO.gx 27 spec:=dw _ ok0
end wz

namespace af3
noncomputable def D:Ctx:=({ P:=Tryz.prog,G:=[],globs:=GLO.gx,hints:=[],loops:=[],inl:=[] }:Ctx)
theorem loops:dn (Tryz.f137.body.getD .skip)=[]:=by kernel_rfl
noncomputable def bn:Abs.Spec:=fun args K=>match args with
 | [.v (.int .i64 a)]=>P.af3 a (fun b=>K (.v (.bool b)))
 | _=>none
noncomputable def spec:Abs.Spec:=bn
theorem ok0:Proved Tryz.prog GLO.gx 137 bn:=by
 refine bq (D:=D) (fn:=Tryz.f137) (c:=Tryz.f137.body.getD .skip) [.any] (by kernel_rfl) (bf (by kernel_rfl)) (by kernel_rfl) (by kernel_rfl) (by kernel_rfl) trivial trivial ?_ ?_
 · rw[loops];exact trivial
 · intro args K r h
   unfold bn at h
   split at h
   · rw[P.aw0] at h;exact Aa (by kernel_rfl) h
   · cases h
theorem ok:Proved Tryz.prog GLO.gx 137 spec:=ok0
end af3

namespace zl
noncomputable def D:Ctx:=({ P:=Tryz.prog,G:=[(134,abp.spec),(135,o7.spec),(136,mh.spec)],globs:=GLO.gx,hints:=[],loops:=[],inl:=[] }:Ctx)
theorem loops:dn (Tryz.f92.body.getD .skip)=[]:=by kernel_rfl
noncomputable def bn:Abs.Spec:=fun args K=>match args with
 | [.v (.int .i64 a),.sl (.ints .u8 b),.v (.int .i64 c)]=>P.zl a b c (fun d e=>K (.tuple [.fr 5 (.ints .u8 d),.v (.int .i64 e)]))
 | _=>none
noncomputable def spec:Abs.Spec:=fun args K=>bn (l8 [.any,.sl (.ints .u8 []),.any] args) K
theorem ok0:Proved Tryz.prog GLO.gx 92 bn:=by
 refine bq (D:=D) (fn:=Tryz.f92) (c:=Tryz.f92.body.getD .skip) [.fr 5 (.ints .u8 []),.any] (by kernel_rfl) (bf (by kernel_rfl)) (by kernel_rfl) (by kernel_rfl) (by kernel_rfl) ⟨abp.ok,o7.ok,mh.ok,trivial⟩ trivial ?_ ?_
 · rw[loops];exact trivial
 · intro args K r h
   unfold bn at h
   split at h
   · rw[P.atx] at h;exact Aa (by kernel_rfl) h
   · cases h
theorem ok:Proved Tryz.prog GLO.gx 92 spec:=dw _ ok0
end zl

namespace ad9
noncomputable def D:Ctx:=({ P:=Tryz.prog,G:=[],globs:=GLO.gx,hints:=[],loops:=[],inl:=[] }:Ctx)
theorem loops:dn (Tryz.f139.body.getD .skip)=[]:=by kernel_rfl
noncomputable def bn:Abs.Spec:=fun args K=>match args with
 | [.v (.int .i64 a)]=>P.ad9 a (fun b=>K (.v (.int .i64 b)))
 | _=>none
noncomputable def spec:Abs.Spec:=bn
theorem ok0:Proved Tryz.prog GLO.gx 139 bn:=by
 refine bq (D:=D) (fn:=Tryz.f139) (c:=Tryz.f139.body.getD .skip) [.any] (by kernel_rfl) (bf (by kernel_rfl)) (by kernel_rfl) (by kernel_rfl) (by kernel_rfl) trivial trivial ?_ ?_
 · rw[loops];exact trivial
 · intro args K r h
   unfold bn at h
   split at h
   · rw[P.bbf] at h;exact Aa (by kernel_rfl) h
   · cases h
theorem ok:Proved Tryz.prog GLO.gx 139 spec:=ok0
end ad9

namespace ajn
noncomputable def D:Ctx:=({ P:=Tryz.prog,G:=[(164,ae1.spec),(165,acf.spec),(166,y8.spec)],globs:=GLO.gx,hints:=[],loops:=[],inl:=[] }:Ctx)
theorem loops:dn (Tryz.f140.body.getD .skip)=[]:=by kernel_rfl
noncomputable def bn:Abs.Spec:=fun args K=>match args with
 | [.v (.int .i64 a),.sl (.ints .u8 b)]=>P.ajn a b (fun c d=>K (.tuple [.fr 5 (.ints .u8 c),.v (.int .i64 d)]))
 | _=>none
noncomputable def spec:Abs.Spec:=fun args K=>bn (l8 [.any,.sl (.ints .u8 [])] args) K
theorem ok0:Proved Tryz.prog GLO.gx 140 bn:=by
 refine bq (D:=D) (fn:=Tryz.f140) (c:=Tryz.f140.body.getD .skip) [.fr 5 (.ints .u8 []),.any] (by kernel_rfl) (bf (by kernel_rfl)) (by kernel_rfl) (by kernel_rfl) (by kernel_rfl) ⟨ae1.ok,acf.ok,y8.ok,trivial⟩ trivial ?_ ?_
 · rw[loops];exact trivial
 · intro args K r h
   unfold bn at h
   split at h
   · rw[P.bdo] at h;exact Aa (by kernel_rfl) h
   · cases h
theorem ok:Proved Tryz.prog GLO.gx 140 spec:=dw _ ok0
end ajn

namespace zn
noncomputable def D:Ctx:=({ P:=Tryz.prog,G:=[(92,zl.spec),(139,ad9.spec),(140,ajn.spec)],globs:=GLO.gx,hints:=[],loops:=[],inl:=[] }:Ctx)
theorem loops:dn (Tryz.f98.body.getD .skip)=[]:=by kernel_rfl
noncomputable def bn:Abs.Spec:=fun args K=>match args with
 | [.v (.int .i64 a),.sl (.ints .u8 b)]=>P.zn a b (fun c d=>K (.tuple [.fr 5 (.ints .u8 c),.v (.int .i64 d)]))
 | _=>none
noncomputable def spec:Abs.Spec:=fun args K=>bn (l8 [.any,.sl (.ints .u8 [])] args) K
theorem ok0:Proved Tryz.prog GLO.gx 98 bn:=by
 refine bq (D:=D) (fn:=Tryz.f98) (c:=Tryz.f98.body.getD .skip) [.fr 5 (.ints .u8 []),.any] (by kernel_rfl) (bf (by kernel_rfl)) (by kernel_rfl) (by kernel_rfl) (by kernel_rfl) ⟨zl.ok,ad9.ok,ajn.ok,trivial⟩ trivial ?_ ?_
 · rw[loops];exact trivial
 · intro args K r h
   unfold bn at h
   split at h
   · rw[P.auw] at h;exact Aa (by kernel_rfl) h
   · cases h
theorem ok:Proved Tryz.prog GLO.gx 98 spec:=dw _ ok0
end zn

namespace ku
noncomputable def D:Ctx:=({ P:=Tryz.prog,G:=[(40,jc.spec),(98,zn.spec)],globs:=GLO.gx,hints:=[],loops:=[],inl:=[] }:Ctx)
theorem loops:dn (Tryz.f167.body.getD .skip)=[]:=by kernel_rfl
noncomputable def bn:Abs.Spec:=fun args K=>match args with
 | [.sl (.rows .u8 a),.sta [.v (.int .i64 b)]]=>P.ku a b (fun c=>K (.fr 5 (.ints .u8 c)))
 | _=>none
noncomputable def spec:Abs.Spec:=fun args K=>bn (l8 [.sl (.rows .u8 []),.any] args) K
theorem ok0:Proved Tryz.prog GLO.gx 167 bn:=by
 refine bq (D:=D) (fn:=Tryz.f167) (c:=Tryz.f167.body.getD .skip) [.fr 5 (.ints .u8 [])] (by kernel_rfl) (bf (by kernel_rfl)) (by kernel_rfl) (by kernel_rfl) (by kernel_rfl) ⟨jc.ok,zn.ok,trivial⟩ trivial ?_ ?_
 · rw[loops];exact trivial
 · intro args K r h
   unfold bn at h
   split at h
   · rw[P.alv] at h;exact Aa (by kernel_rfl) h
   · cases h
theorem ok:Proved Tryz.prog GLO.gx 167 spec:=dw _ ok0
end ku

namespace zo
noncomputable def D:Ctx:=({ P:=Tryz.prog,G:=[(167,ku.spec)],globs:=GLO.gx,hints:=[],loops:=[],inl:=[],sta:=true }:Ctx)
theorem loops:dn (Tryz.f141.body.getD .skip)=[]:=by kernel_rfl
noncomputable def bn:Abs.Spec:=fun args K=>match args with
 | [.v (.int .i64 b)]=>P.zo b (fun a=>K (.fn (.func 167) [] [.sta [.v (.int .i64 a)]]))
 | _=>none
noncomputable def spec:Abs.Spec:=bn
theorem ok0:Proved Tryz.prog GLO.gx 141 bn:=by
 refine bq (D:=D) (fn:=Tryz.f141) (c:=Tryz.f141.body.getD .skip) [.any] (by kernel_rfl) (bf (by kernel_rfl)) (by kernel_rfl) (by kernel_rfl) (by kernel_rfl) ⟨ku.ok,trivial⟩ trivial ?_ ?_
 · rw[loops];exact trivial
 · intro args K r h
   unfold bn at h
   split at h
   · rw[P.aqz] at h;exact Aa (by kernel_rfl) h
   · cases h
theorem ok:Proved Tryz.prog GLO.gx 141 spec:=ok0
end zo

namespace tu
abbrev X4:=P.byr
def S4:X4→ASt:=fun (c,a,b,d)=>⟨[(2,.v (.int .u8 c)),(7,.own 0),(15,.v (.int .i64 a)),(16,.v (.int .i64 b))],[(0,some ⟨.row 5 (.ints .u8 d),false⟩)],1,28⟩
def V4:ASt→Option X4
 | ⟨[(2,.v (.int .u8 c)),(7,.own 0),(15,.v (.int .i64 a)),(16,.v (.int .i64 b))],[(0,some ⟨.row 5 (.ints .u8 d),false⟩)],1,28⟩=>some (c,a,b,d)
 | _=>none
theorem as4(st)(x)(h:V4 st=some x):st=S4 x:=by
 unfold V4 at h
 split at h
 · cases h;rfl
 · cases h
abbrev Y4:=P.b6e
def E4(K:AExit→ASt→Option R):Y4→Option R:=(fun x=>K (.exit 0) (S4 x))
noncomputable def L4:tq:=fun st K=>ady (V4 st) fun x=>P.b7b x (E4 K)
noncomputable def D:Ctx:=({ P:=Tryz.prog,G:=[],globs:=GLO.gx,hints:=[(4,⟨[2,7,15,16],[],[6],[],none,[],[],[]⟩)],loops:=[(4,L4)],inl:=[] }:Ctx)
theorem ajq(K)(next)(x):l5 D (fq Tryz.f162 4) K next (S4 x)=P.b0d x (fun x=>next (S4 x)) (E4 K):=by kernel_rfl
theorem asj:jv D (fq Tryz.f162 4):=iy S4 as4 (by kernel_rfl) P.ccr ajq
theorem loops:dn (Tryz.f162.body.getD .skip)=[fq Tryz.f162 4]:=by kernel_rfl
noncomputable def bn:Abs.Spec:=fun args K=>match args with
 | [.sl (.ints .u8 a),.v (.int .i64 b),.v (.int .u8 c)]=>P.tu a b c (fun d=>K (.fr 5 (.ints .u8 d)))
 | _=>none
noncomputable def spec:Abs.Spec:=fun args K=>bn (l8 [.sl (.ints .u8 []),.any,.any] args) K
theorem ok0:Proved Tryz.prog GLO.gx 162 bn:=by
 refine bq (D:=D) (fn:=Tryz.f162) (c:=Tryz.f162.body.getD .skip) [.fr 5 (.ints .u8 [])] (by kernel_rfl) (bf (by kernel_rfl)) (by kernel_rfl) (by kernel_rfl) (by kernel_rfl) trivial trivial ?_ ?_
 · rw[loops];exact ⟨asj,trivial⟩
 · intro args K r h
   unfold bn at h
   split at h
   · rw[P.aqv] at h;exact Aa (by kernel_rfl) h
   · cases h
theorem ok:Proved Tryz.prog GLO.gx 162 spec:=dw _ ok0
end tu

namespace aan
noncomputable def D:Ctx:=({ P:=Tryz.prog,G:=[(40,jc.spec),(167,ku.spec)],globs:=GLO.gx,hints:=[],loops:=[],inl:=[] }:Ctx)
theorem loops:dn (Tryz.f163.body.getD .skip)=[]:=by kernel_rfl
noncomputable def bn:Abs.Spec:=fun args K=>match args with
 | [.sl (.rows .u8 b),.sta [.fn (.func 167) [] [.sta [.v (.int .i64 a)]]],.sta [.sl (.ints .u8 c)],.sta [.sl (.ints .u8 d)]]=>P.aan b a c d (fun e=>K (.fr 5 (.ints .u8 e)))
 | _=>none
noncomputable def spec:Abs.Spec:=fun args K=>bn (l8 [.sl (.rows .u8 []),.any,.agg [.sl (.ints .u8 [])],.agg [.sl (.ints .u8 [])]] args) K
theorem ok0:Proved Tryz.prog GLO.gx 163 bn:=by
 refine bq (D:=D) (fn:=Tryz.f163) (c:=Tryz.f163.body.getD .skip) [.fr 5 (.ints .u8 [])] (by kernel_rfl) (bf (by kernel_rfl)) (by kernel_rfl) (by kernel_rfl) (by kernel_rfl) ⟨jc.ok,ku.ok,trivial⟩ trivial ?_ ?_
 · rw[loops];exact trivial
 · intro args K r h
   unfold bn at h
   split at h
   · rw[P.aq6] at h;exact Aa (by kernel_rfl) h
   · cases h
theorem ok:Proved Tryz.prog GLO.gx 163 spec:=dw _ ok0
end aan

namespace agb
noncomputable def D:Ctx:=({ P:=Tryz.prog,G:=[(141,zo.spec),(162,tu.spec),(163,aan.spec),(167,ku.spec)],globs:=GLO.gx,hints:=[],loops:=[],inl:=[],sta:=true }:Ctx)
theorem loops:dn (Tryz.f138.body.getD .skip)=[]:=by kernel_rfl
noncomputable def bn:Abs.Spec:=fun args K=>match args with
 | [.v (.int .i64 d),.sl (.ints .u8 e)]=>P.agb d e (fun a b c=>K (.fn (.func 163) [] [.sta [.fn (.func 167) [] [.sta [.v (.int .i64 a)]]],.sta [.sl (.ints .u8 b)],.sta [.sl (.ints .u8 c)]]))
 | _=>none
noncomputable def spec:Abs.Spec:=fun args K=>bn (l8 [.any,.sl (.ints .u8 [])] args) K
theorem ok0:Proved Tryz.prog GLO.gx 138 bn:=by
 refine bq (D:=D) (fn:=Tryz.f138) (c:=Tryz.f138.body.getD .skip) [.agg [.any,.agg [.sl (.ints .u8 [])],.agg [.sl (.ints .u8 [])]]] (by kernel_rfl) (bf (by kernel_rfl)) (by kernel_rfl) (by kernel_rfl) (by kernel_rfl) ⟨zo.ok,tu.ok,aan.ok,ku.ok,trivial⟩ trivial ?_ ?_
 · rw[loops];exact trivial
 · intro args K r h
   unfold bn at h
   split at h
   · rw[P.azm] at h;exact Aa (by kernel_rfl) h
   · cases h
theorem ok:Proved Tryz.prog GLO.gx 138 spec:=dw _ ok0
end agb

namespace ag9
noncomputable def D:Ctx:=({ P:=Tryz.prog,G:=[(137,af3.spec),(138,agb.spec),(163,aan.spec)],globs:=GLO.gx,hints:=[],loops:=[],inl:=[] }:Ctx)
theorem loops:dn (Tryz.f96.body.getD .skip)=[]:=by kernel_rfl
noncomputable def bn:Abs.Spec:=fun args K=>match args with
 | [.v (.int .i64 a),.sl (.ints .u8 b),.sl (.ints .u8 c)]=>P.ag9 a b c (fun d e=>K (.tuple [.fr 5 (.ints .u8 d),.v (.int .i64 e)]))
 | _=>none
noncomputable def spec:Abs.Spec:=fun args K=>bn (l8 [.any,.sl (.ints .u8 []),.sl (.ints .u8 [])] args) K
theorem ok0:Proved Tryz.prog GLO.gx 96 bn:=by
 refine bq (D:=D) (fn:=Tryz.f96) (c:=Tryz.f96.body.getD .skip) [.fr 5 (.ints .u8 []),.any] (by kernel_rfl) (bf (by kernel_rfl)) (by kernel_rfl) (by kernel_rfl) (by kernel_rfl) ⟨af3.ok,agb.ok,aan.ok,trivial⟩ trivial ?_ ?_
 · rw[loops];exact trivial
 · intro args K r h
   unfold bn at h
   split at h
   · rw[P.ba9] at h;exact Aa (by kernel_rfl) h
   · cases h
theorem ok:Proved Tryz.prog GLO.gx 96 spec:=dw _ ok0
end ag9

namespace um
noncomputable def D:Ctx:=({ P:=Tryz.prog,G:=[(40,jc.spec),(96,ag9.spec)],globs:=GLO.gx,hints:=[],loops:=[],inl:=[] }:Ctx)
theorem loops:dn (Tryz.f95.body.getD .skip)=[]:=by kernel_rfl
noncomputable def bn:Abs.Spec:=fun args K=>match args with
 | [.sl (.ints .u8 g),.sl (.ints .u8 h),.sl (.ints .u8 i),.sta [.v (.int .i64 j)],.sta [.v (.int .i64 b),.v (.int .i64 c),.v (.int .i64 d),.v (.int .i64 e),.v (.int .i64 f),.v (.bool a)]]=>P.um g h i j b c d e f a (fun k=>K (.sl (.ints .u8 k)))
 | _=>none
noncomputable def spec:Abs.Spec:=fun args K=>bn (l8 [.sl (.ints .u8 []),.sl (.ints .u8 []),.sl (.ints .u8 []),.any,.any] args) K
theorem ok0:Proved Tryz.prog GLO.gx 95 bn:=by
 refine bq (D:=D) (fn:=Tryz.f95) (c:=Tryz.f95.body.getD .skip) [.sl (.ints .u8 [])] (by kernel_rfl) (bf (by kernel_rfl)) (by kernel_rfl) (by kernel_rfl) (by kernel_rfl) ⟨jc.ok,ag9.ok,trivial⟩ trivial ?_ ?_
 · rw[loops];exact trivial
 · intro args K r h
   unfold bn at h
   split at h
   · rw[P.axn] at h;exact Aa (by kernel_rfl) h
   · cases h
theorem ok:Proved Tryz.prog GLO.gx 95 spec:=dw _ ok0
end um

namespace ag8
abbrev X8:=P.byi
def S8:X8→ASt:=fun (c,d,a,b,e)=>⟨[(9,.own 0),(1,.sl (.ints .u8 c)),(2,.v (.int .i64 d)),(8,.fn (.func 167) [] [.sta [.v (.int .i64 a)]]),(10,.v (.int .u64 b))],[(0,some ⟨.row 5 (.ints .u8 e),false⟩)],1,45⟩
def V8:ASt→Option X8
 | ⟨[(9,.own 0),(1,.sl (.ints .u8 c)),(2,.v (.int .i64 d)),(8,.fn (.func 167) [] [.sta [.v (.int .i64 a)]]),(10,.v (.int .u64 b))],[(0,some ⟨.row 5 (.ints .u8 e),false⟩)],1,45⟩=>some (c,d,a,b,e)
 | _=>none
theorem bek(st)(x)(h:V8 st=some x):st=S8 x:=by
 unfold V8 at h
 split at h
 · cases h;rfl
 · cases h
abbrev Y8:=P.b8i
def E8(K:AExit→ASt→Option R):Y8→Option R:=(fun x=>K (.exit 1) (S8 x))
noncomputable def L8:tq:=fun st K=>ady (V8 st) fun x=>P.b8k x (E8 K)
noncomputable def D:Ctx:=({ P:=Tryz.prog,G:=[(75,wu.spec),(141,zo.spec),(167,ku.spec)],globs:=GLO.gx,hints:=[(8,⟨[1,2,8,10],[(9,5,.ints .u8 [])],[6,7],[],none,[],[],[]⟩)],loops:=[(8,L8)],inl:=[] }:Ctx)
theorem atq(K)(next)(x):l5 D (fq Tryz.f99 8) K next (S8 x)=P.bxx x (fun x=>next (S8 x)) (E8 K):=by kernel_rfl
theorem bej:jv D (fq Tryz.f99 8):=iy S8 bek (by kernel_rfl) P.cdq atq
theorem loops:dn (Tryz.f99.body.getD .skip)=[fq Tryz.f99 8]:=by kernel_rfl
noncomputable def bn:Abs.Spec:=fun args K=>match args with
 | [.v (.int .i64 a),.sl (.ints .u8 b),.v (.int .i64 c)]=>P.ag8 a b c (fun d e=>K (.tuple [.sl (.ints .u8 d),.v (.int .i64 e)]))
 | _=>none
noncomputable def spec:Abs.Spec:=fun args K=>bn (l8 [.any,.sl (.ints .u8 []),.any] args) K
theorem ok0:Proved Tryz.prog GLO.gx 99 bn:=by
 refine bq (D:=D) (fn:=Tryz.f99) (c:=Tryz.f99.body.getD .skip) [.sl (.ints .u8 []),.any] (by kernel_rfl) (bf (by kernel_rfl)) (by kernel_rfl) (by kernel_rfl) (by kernel_rfl) ⟨wu.ok,zo.ok,ku.ok,trivial⟩ trivial ?_ ?_
 · rw[loops];exact ⟨bej,trivial⟩
 · intro args K r h
   unfold bn at h
   split at h
   · rw[P.azb] at h;exact Aa (by kernel_rfl) h
   · cases h
theorem ok:Proved Tryz.prog GLO.gx 99 spec:=dw _ ok0
end ag8

end
