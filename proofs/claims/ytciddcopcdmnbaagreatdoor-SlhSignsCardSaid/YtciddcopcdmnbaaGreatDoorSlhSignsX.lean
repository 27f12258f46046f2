/-
  SlhSigns, part 24: lemmas for the law.
-/

import Derived.Test.YtciddcopcdmnbaaGreatDoorSlhSignsL
import Derived.Test.YtciddcopcdmnbaaGreatDoorSlhSignsH
import Derived.Test.YtciddcopcdmnbaaGreatDoorProg
import Derived.Test.YtciddcopcdmnbaaGreatDoorSlhSignsJ
import Derived.Test.YtciddcopcdmnbaaGreatDoorSlhSignsN
import Derived.Test.YtciddcopcdmnbaaGreatDoorSlhSignsW
import Derived.KernelRfl
import Derived.Test.YtciddcopcdmnbaaGreatDoorSlhSignsP
import Derived.Test.YtciddcopcdmnbaaGreatDoorSlhSignsR
import Derived.Test.YtciddcopcdmnbaaGreatDoorSlhSignsS
open Eq renaming trans → Aa

section
open Go Go.Abs Go.Proofs
set_option maxRecDepth 100000
set_option maxHeartbeats 0
set_option linter.unusedVariables false

namespace aco
abbrev b8r:=P.b9a
def b3m:b8r→ASt:=fun (B,C,F,a,b,c,d,e,f,g,h,i,j,k,l,m,n,o,p,q,r,s,t,u,w,y,z,A,G)=>⟨[(11,.ptr 2 0),(15,.ptr 3 0),(16,.v (.int .u64 B)),(49,.v (.int .i64 C)),(50,.v (.int .i64 F))],[(1240,some ⟨.row 5 (.ints .u8 a),false⟩),(0,some ⟨.box 23 [.v (.int .i64 b),.v (.int .i64 c),.v (.int .i64 d),.v (.int .i64 e),.v (.int .i64 f),.v (.bool g)],false⟩),(2,some ⟨.box 82 [.v (.int .i64 h),.v (.int .i64 i),.v (.int .i64 j),.v (.int .i64 k),.v (.int .i64 l),.v (.bool m),.sl (.ints .u8 n),.sl (.ints .u8 o),.arr .u8 32 p],false⟩),(3,some ⟨.box 24 [.own 1240],false⟩),(4,some ⟨.box 82 [.v (.int .i64 q),.v (.int .i64 r),.v (.int .i64 s),.v (.int .i64 t),.v (.int .i64 u),.v (.bool w),.sl (.ints .u8 y),.sl (.ints .u8 z),.arr .u8 32 A],false⟩),(7,some ⟨.row 102 (.ints .u32 G),false⟩)],1241,64⟩
def b2r:ASt→Option b8r
 | ⟨[(11,.ptr 2 0),(15,.ptr 3 0),(16,.v (.int .u64 B)),(49,.v (.int .i64 C)),(50,.v (.int .i64 F))],[(1240,some ⟨.row 5 (.ints .u8 a),false⟩),(0,some ⟨.box 23 [.v (.int .i64 b),.v (.int .i64 c),.v (.int .i64 d),.v (.int .i64 e),.v (.int .i64 f),.v (.bool g)],false⟩),(2,some ⟨.box 82 [.v (.int .i64 h),.v (.int .i64 i),.v (.int .i64 j),.v (.int .i64 k),.v (.int .i64 l),.v (.bool m),.sl (.ints .u8 n),.sl (.ints .u8 o),.arr .u8 32 p],false⟩),(3,some ⟨.box 24 [.own 1240],false⟩),(4,some ⟨.box 82 [.v (.int .i64 q),.v (.int .i64 r),.v (.int .i64 s),.v (.int .i64 t),.v (.int .i64 u),.v (.bool w),.sl (.ints .u8 y),.sl (.ints .u8 z),.arr .u8 32 A],false⟩),(7,some ⟨.row 102 (.ints .u32 G),false⟩)],1241,64⟩=>some (B,C,F,a,b,c,d,e,f,g,h,i,j,k,l,m,n,o,p,q,r,s,t,u,w,y,z,A,G)
 | _=>none
theorem by9(st)(x)(h:b2r st=some x):st=b3m x:=by unfold b2r at h;split at h;(cases h;rfl);cases h
abbrev cl5:=P.ch1
abbrev bwn:=P.b59
def bqv:bwn→ASt:=fun (B,C,a,b,c,d,e,f,g,h,i,j,k,l,m,n,o,p,q,r,s,t,u,w,y,z,A,F)=>⟨[(0,.yld 6 [5,11,15] [.ptr 0 0,.ptr 2 0,.ptr 3 0]),(2,.ptr 4 0),(13,.own 7),(14,.v (.int .i64 B)),(15,.v (.int .i64 C))],[(840,some ⟨.row 5 (.ints .u8 a),false⟩),(0,some ⟨.box 23 [.v (.int .i64 b),.v (.int .i64 c),.v (.int .i64 d),.v (.int .i64 e),.v (.int .i64 f),.v (.bool g)],false⟩),(2,some ⟨.box 82 [.v (.int .i64 h),.v (.int .i64 i),.v (.int .i64 j),.v (.int .i64 k),.v (.int .i64 l),.v (.bool m),.sl (.ints .u8 n),.sl (.ints .u8 o),.arr .u8 32 p],false⟩),(3,some ⟨.box 24 [.own 840],false⟩),(4,some ⟨.box 82 [.v (.int .i64 q),.v (.int .i64 r),.v (.int .i64 s),.v (.int .i64 t),.v (.int .i64 u),.v (.bool w),.sl (.ints .u8 y),.sl (.ints .u8 z),.arr .u8 32 A],false⟩),(7,some ⟨.row 102 (.ints .u32 F),false⟩)],841,33⟩
def bqd:ASt→Option bwn
 | ⟨[(0,.yld 6 [5,11,15] [.ptr 0 0,.ptr 2 0,.ptr 3 0]),(2,.ptr 4 0),(13,.own 7),(14,.v (.int .i64 B)),(15,.v (.int .i64 C))],[(840,some ⟨.row 5 (.ints .u8 a),false⟩),(0,some ⟨.box 23 [.v (.int .i64 b),.v (.int .i64 c),.v (.int .i64 d),.v (.int .i64 e),.v (.int .i64 f),.v (.bool g)],false⟩),(2,some ⟨.box 82 [.v (.int .i64 h),.v (.int .i64 i),.v (.int .i64 j),.v (.int .i64 k),.v (.int .i64 l),.v (.bool m),.sl (.ints .u8 n),.sl (.ints .u8 o),.arr .u8 32 p],false⟩),(3,some ⟨.box 24 [.own 840],false⟩),(4,some ⟨.box 82 [.v (.int .i64 q),.v (.int .i64 r),.v (.int .i64 s),.v (.int .i64 t),.v (.int .i64 u),.v (.bool w),.sl (.ints .u8 y),.sl (.ints .u8 z),.arr .u8 32 A],false⟩),(7,some ⟨.row 102 (.ints .u32 F),false⟩)],841,33⟩=>some (B,C,a,b,c,d,e,f,g,h,i,j,k,l,m,n,o,p,q,r,s,t,u,w,y,z,A,F)
 | _=>none
theorem awi(st)(x)(h:bqd st=some x):st=bqv x:=by unfold bqd at h;split at h;(cases h;rfl);cases h
abbrev b5a:=P.ckk
def b8t(K:AExit→ASt→Option R):cl5→Option R:=(fun x=>K (.exit 2) (b3m x))
noncomputable def ci2:p8:=fun st K=>abx (b2r st) fun x=>P.cpb x (b8t K)
def bxu(K:AExit→ASt→Option R):b5a→Option R:=(fun x=>K (.exit 0) (bqv x))
noncomputable def b40:p8:=fun st K=>abx (bqd st) fun x=>P.cji x (bxu K)
noncomputable def D3:Ctx:=({ P:=Tryz.prog,G:=[(23,ku.spec),(82,tu.spec),(83,l6.spec),(84,pz.spec),(102,jr.spec)],globs:=GLO.gx,hints:=[(10,⟨[11,15,16,49,50],[(1000003,5,.ints .u8 [])],[10],[],some (1240,[0,2,3,4,7]),[2],[],[]⟩)],loops:=[(10,ci2)],inl:=[],y:=some (au3 (abp Tryz.f44 8) 64 false) }:Ctx)
noncomputable def D2:Ctx:=({ P:=Tryz.prog,G:=[(23,ku.spec),(82,tu.spec),(83,l6.spec),(84,pz.spec),(102,jr.spec)],globs:=GLO.gx,hints:=[(1,⟨[0,2,13,14,15],[(1000003,5,.ints .u8 [])],[],[],some (840,[0,2,3,4,7]),[0,2,4],[],[]⟩)],loops:=[(1,b40)],inl:=[],y:=some (au3 (abp Tryz.f44 8) 64 true),ys:=some (amg D3 (au3 (abp Tryz.f44 8) 64 true)) }:Ctx)
noncomputable def D1:Ctx:=({ P:=Tryz.prog,G:=[(23,ku.spec),(82,tu.spec),(83,l6.spec),(84,pz.spec),(102,jr.spec)],globs:=GLO.gx,hints:=[],loops:=[],inl:=[] }:Ctx)
noncomputable def D:Ctx:=({ P:=Tryz.prog,G:=[(23,ku.spec),(82,tu.spec),(83,l6.spec),(84,pz.spec),(102,jr.spec)],globs:=GLO.gx,hints:=[],loops:=[],inl:=[(52,afj D1 Tryz.f52)],top:=true,rng:=[(8,⟨101,64,[5,11,15],afj D2 Tryz.f101⟩)] }:Ctx)
theorem b0t:jl D3 (b2g (abp Tryz.f44 8) 10):=fq b3m by9 (by kernel_rfl) P.crn (enc:=b8t) fun _ _ _=>by kernel_rfl
theorem axi:jl D2 (gu Tryz.f101 1):=fq bqv awi (by kernel_rfl) P.cr2 (enc:=bxu) fun _ _ _=>by kernel_rfl
theorem loops:gy (Tryz.f44.body.getD .skip)=[]:=by kernel_rfl
theorem alz:gy (Tryz.f52.body.getD .skip)=[]:=by kernel_rfl
theorem azj:gy (Tryz.f101.body.getD .skip)=[gu Tryz.f101 1]:=by kernel_rfl
theorem bgp:gy (bvs (abp Tryz.f44 8))=[b2g (abp Tryz.f44 8) 10]:=by kernel_rfl
theorem ranges:xk (Tryz.f44.body.getD .skip)=[abp Tryz.f44 8]:=by kernel_rfl
theorem apq:ape D2 (amg D3 (au3 (abp Tryz.f44 8) 64 true)):=ayr (Y:=au3 (abp Tryz.f44 8) 64 true) (bbv (D:=D3) ⟨ku.ok,tu.ok,l6.ok,pz.ok,jr.ok,trivial⟩) (je (by kernel_rfl)) (bcj (D:=D3) trivial (atv rfl)) (by kernel_rfl) rfl rfl (by kernel_rfl) (by kernel_rfl) rfl rfl rfl (afy _ (by rw[show gy (au3 (abp Tryz.f44 8) 64 true).assign=[] from by kernel_rfl];exact trivial)) (afy _ (by rw[show gy (au3 (abp Tryz.f44 8) 64 true).body=gy (bvs (abp Tryz.f44 8)) from by kernel_rfl,bgp];exact ⟨b0t,trivial⟩))
noncomputable def cu:Abs.Spec:=fun args K=>match args with
 | [.agg [.v (.int .i64 b),.v (.int .i64 c),.v (.int .i64 d),.v (.int .i64 e),.v (.int .i64 f),.v (.bool a)],.sl (.ints .u8 g),.sl (.ints .u8 h),.sl (.ints .u8 i),.arr .u8 32 j]=>P.aco b c d e f a g h i j (fun k=>K (.fr 5 (.ints .u8 k)))
 | _=>none
noncomputable def spec:Abs.Spec:=fun args K=>cu (j5 [.any,.sl (.ints .u8 []),.sl (.ints .u8 []),.sl (.ints .u8 []),.any] args) K
theorem ok0:Proved Tryz.prog GLO.gx 44 cu:=by
 refine z8 (D:=D) (fn:=Tryz.f44) (c:=Tryz.f44.body.getD .skip) [.fr 5 (.ints .u8 [])] (by kernel_rfl) (je (by kernel_rfl)) (by kernel_rfl) (by kernel_rfl) (by kernel_rfl) ⟨ku.ok,tu.ok,l6.ok,pz.ok,jr.ok,trivial⟩ ⟨aor (D:=D1) (D':=D) (fn:=Tryz.f52) (c:=Tryz.f52.body.getD .skip) rfl rfl (by kernel_rfl) (je (by kernel_rfl)) (by kernel_rfl) (by kernel_rfl) (by kernel_rfl) ⟨ku.ok,tu.ok,l6.ok,pz.ok,jr.ok,trivial⟩ trivial (by rw[alz];exact trivial) (fun _ _ _ _ _ h=>h),trivial⟩ ?_ ?_ (hRg:=by rw[ranges];exact ⟨auo (D:=D) (Di:=D2) (e:=⟨101,64,[5,11,15],afj D2 Tryz.f101⟩) (by kernel_rfl) rfl rfl (by kernel_rfl) (aor (D:=D2) (D':=D2) (fn:=Tryz.f101) (c:=Tryz.f101.body.getD .skip) rfl rfl (by kernel_rfl) (je (by kernel_rfl)) (by kernel_rfl) (by kernel_rfl) (by kernel_rfl) ⟨ku.ok,tu.ok,l6.ok,pz.ok,jr.ok,trivial⟩ trivial (by rw[azj];exact ⟨axi,trivial⟩) (fun _ _ _ _ _ h=>h) rfl rfl (aks rfl _) (fun s hs=>by have hs:some (amg D3 (au3 (abp Tryz.f44 8) 64 true))=some s:=hs;cases hs;exact apq)),trivial⟩)
 · rw[loops];exact trivial
 · intro args K r h
   unfold cu at h
   split at h
   · rw[P.bdg] at h;exact Aa (by kernel_rfl) h
   · cases h
theorem ok:Proved Tryz.prog GLO.gx 44 spec:=bq _ ok0
end aco

namespace qc
noncomputable def cu:Abs.Spec:=fun args K=>match args with
 | [.agg [.v (.int .i64 p),.v (.int .i64 q),.v (.int .i64 r),.v (.int .i64 s),.v (.int .i64 t),.v (.bool l),.alt u (.func 186) [] [.sta [.v (.int .i64 d),.arr .u64 25 a,.v (.int .i64 m),.v (.bool k)],.sta [.v (.int .i64 n)]] (.func 188) [] [.sta [.v (.int .i64 e),.arr .u64 8 b,.sl (.ints .u8 f),.v (.int .u64 g)],.sta [.v (.int .i64 o)],.sta [.v (.int .i64 h),.arr .u64 8 c,.sl (.ints .u8 i),.v (.int .u64 j)]]],.sl (.ints .u8 w),.arr .u8 32 y,.v (.int .i64 z)]=>P.qc p q r s t l u d a m k n e b f g o h c i j w y z (fun A=>K (.sl (.ints .u8 A)))
 | _=>none
noncomputable def spec:Abs.Spec:=fun args K=>cu (j5 [.agg [.any,.any,.any,.any,.any,.any,.alt (.func 186) [] [.sta [.v (.int .i64 0),.arr .u64 25 [],.v (.int .i64 0),.v (.bool false)],.sta [.v (.int .i64 0)]] (.func 188) [] [.sta [.v (.int .i64 0),.arr .u64 8 [],.sl (.ints .u8 []),.v (.int .u64 0)],.sta [.v (.int .i64 0)],.sta [.v (.int .i64 0),.arr .u64 8 [],.sl (.ints .u8 []),.v (.int .u64 0)]]],.sl (.ints .u8 []),.any,.any] args) K
theorem ok0:Proved Tryz.prog GLO.gx 156 cu:=pK (G:=[(39,dz.spec),(170,yw.spec),(186,jq.spec),(188,jm.spec)]) (fn:=Tryz.f156) [.sl (.ints .u8 [])] ⟨dz.ok,yw.ok,jq.ok,jm.ok,trivial⟩ fun _ K _ h=>by
  unfold cu at h
  split at h
  · rw[P.aj8] at h;exact Aa (by kernel_rfl) h
  · cases h
theorem ok:Proved Tryz.prog GLO.gx 156 spec:=bq _ ok0
end qc

namespace aea
abbrev X6:=P.b6m
def S6:X6→ASt:=fun (B,y,z,A,o,p,q,r,s,t,u,w,a,b,c,d,e,f,g,h,i,j,k,l,m,n,C)=>⟨[(13,.own 40),(2,.sl (.ints .u8 B)),(9,.ptr 1 0),(11,.ptr 2 0),(41,.own 3),(42,.v (.int .i64 y)),(43,.v (.int .i64 z))],[(40,some ⟨.row 5 (.ints .u8 A),false⟩),(1,some ⟨.box 64 [.arr .u8 32 o],false⟩),(2,some ⟨.box 165 [.v (.int .i64 p),.v (.int .i64 q),.v (.int .i64 r),.v (.int .i64 s),.v (.int .i64 t),.v (.bool u),.alt w (.func 186) [] [.sta [.v (.int .i64 a),.arr .u64 25 b,.v (.int .i64 c),.v (.bool d)],.sta [.v (.int .i64 e)]] (.func 188) [] [.sta [.v (.int .i64 f),.arr .u64 8 g,.sl (.ints .u8 h),.v (.int .u64 i)],.sta [.v (.int .i64 j)],.sta [.v (.int .i64 k),.arr .u64 8 l,.sl (.ints .u8 m),.v (.int .u64 n)]]],false⟩),(3,some ⟨.row 102 (.ints .u32 C),false⟩)],41,64⟩
def V6:ASt→Option X6
 | ⟨[(13,.own 40),(2,.sl (.ints .u8 B)),(9,.ptr 1 0),(11,.ptr 2 0),(41,.own 3),(42,.v (.int .i64 y)),(43,.v (.int .i64 z))],[(40,some ⟨.row 5 (.ints .u8 A),false⟩),(1,some ⟨.box 64 [.arr .u8 32 o],false⟩),(2,some ⟨.box 165 [.v (.int .i64 p),.v (.int .i64 q),.v (.int .i64 r),.v (.int .i64 s),.v (.int .i64 t),.v (.bool u),.alt w (.func 186) [] [.sta [.v (.int .i64 a),.arr .u64 25 b,.v (.int .i64 c),.v (.bool d)],.sta [.v (.int .i64 e)]] (.func 188) [] [.sta [.v (.int .i64 f),.arr .u64 8 g,.sl (.ints .u8 h),.v (.int .u64 i)],.sta [.v (.int .i64 j)],.sta [.v (.int .i64 k),.arr .u64 8 l,.sl (.ints .u8 m),.v (.int .u64 n)]]],false⟩),(3,some ⟨.row 102 (.ints .u32 C),false⟩)],41,64⟩=>some (B,y,z,A,o,p,q,r,s,t,u,w,a,b,c,d,e,f,g,h,i,j,k,l,m,n,C)
 | _=>none
theorem alr(st)(x)(h:V6 st=some x):st=S6 x:=by unfold V6 at h;split at h;(cases h;rfl);cases h
abbrev Y6:=P.cg9
def E6(K:AExit→ASt→Option R):Y6→Option R:=(fun x=>K (.exit 0) (S6 x))
noncomputable def L6:p8:=fun st K=>abx (V6 st) fun x=>P.coj x (E6 K)
noncomputable def D:Ctx:=⟨Tryz.prog,[(39,dz.spec),(144,xw.spec),(146,yu.spec),(147,mo.spec),(156,qc.spec)],GLO.gx,[(6,⟨[2,9,11,41,42,43],[(13,5,.ints .u8 [])],[10],[],some (40,[1,2,3]),[],[],[]⟩)],[(6,L6)],[],false,none,none,[],false⟩
theorem al6:jl D (gu Tryz.f130 6):=fq S6 alr (by kernel_rfl) P.cri (enc:=E6) fun _ _ _=>by kernel_rfl
theorem loops:gy (Tryz.f130.body.getD .skip)=[gu Tryz.f130 6]:=by kernel_rfl
noncomputable def cu:Abs.Spec:=fun args K=>match args with
 | [.agg [.v (.int .i64 b),.v (.int .i64 c),.v (.int .i64 d),.v (.int .i64 e),.v (.int .i64 f),.v (.bool a)],.sl (.ints .u8 g),.sl (.ints .u8 h),.sl (.ints .u8 i),.arr .u8 32 j]=>P.aea b c d e f a g h i j (fun k=>K (.fr 5 (.ints .u8 k)))
 | _=>none
noncomputable def spec:Abs.Spec:=fun args K=>cu (j5 [.any,.sl (.ints .u8 []),.sl (.ints .u8 []),.sl (.ints .u8 []),.any] args) K
theorem ok0:Proved Tryz.prog GLO.gx 130 cu:=pL (D:=D) (fn:=Tryz.f130) [.fr 5 (.ints .u8 [])] ⟨dz.ok,xw.ok,yu.ok,mo.ok,qc.ok,trivial⟩ loops ⟨al6,trivial⟩ fun _ K _ h=>by
  unfold cu at h
  split at h
  · rw[P.bbk] at h;exact Aa (by kernel_rfl) h
  · cases h
theorem ok:Proved Tryz.prog GLO.gx 130 spec:=bq _ ok0
end aea

namespace aa8
abbrev X6:=P.b5p
def S6:X6→ASt:=fun (B,y,z,A,o,p,q,r,s,t,u,w,a,b,c,d,e,f,g,h,i,j,k,l,m,n)=>⟨[(11,.own 40),(1,.sl (.ints .u8 B)),(7,.ptr 1 0),(9,.ptr 2 0),(29,.v (.int .i64 y)),(30,.v (.int .i64 z))],[(40,some ⟨.row 5 (.ints .u8 A),false⟩),(1,some ⟨.box 64 [.arr .u8 32 o],false⟩),(2,some ⟨.box 165 [.v (.int .i64 p),.v (.int .i64 q),.v (.int .i64 r),.v (.int .i64 s),.v (.int .i64 t),.v (.bool u),.alt w (.func 186) [] [.sta [.v (.int .i64 a),.arr .u64 25 b,.v (.int .i64 c),.v (.bool d)],.sta [.v (.int .i64 e)]] (.func 188) [] [.sta [.v (.int .i64 f),.arr .u64 8 g,.sl (.ints .u8 h),.v (.int .u64 i)],.sta [.v (.int .i64 j)],.sta [.v (.int .i64 k),.arr .u64 8 l,.sl (.ints .u8 m),.v (.int .u64 n)]]],false⟩)],41,51⟩
def V6:ASt→Option X6
 | ⟨[(11,.own 40),(1,.sl (.ints .u8 B)),(7,.ptr 1 0),(9,.ptr 2 0),(29,.v (.int .i64 y)),(30,.v (.int .i64 z))],[(40,some ⟨.row 5 (.ints .u8 A),false⟩),(1,some ⟨.box 64 [.arr .u8 32 o],false⟩),(2,some ⟨.box 165 [.v (.int .i64 p),.v (.int .i64 q),.v (.int .i64 r),.v (.int .i64 s),.v (.int .i64 t),.v (.bool u),.alt w (.func 186) [] [.sta [.v (.int .i64 a),.arr .u64 25 b,.v (.int .i64 c),.v (.bool d)],.sta [.v (.int .i64 e)]] (.func 188) [] [.sta [.v (.int .i64 f),.arr .u64 8 g,.sl (.ints .u8 h),.v (.int .u64 i)],.sta [.v (.int .i64 j)],.sta [.v (.int .i64 k),.arr .u64 8 l,.sl (.ints .u8 m),.v (.int .u64 n)]]],false⟩)],41,51⟩=>some (B,y,z,A,o,p,q,r,s,t,u,w,a,b,c,d,e,f,g,h,i,j,k,l,m,n)
 | _=>none
theorem alr(st)(x)(h:V6 st=some x):st=S6 x:=by unfold V6 at h;split at h;(cases h;rfl);cases h
abbrev Y6:=P.cjp
def E6(K:AExit→ASt→Option R):Y6→Option R:=(fun x=>K (.exit 0) (S6 x))
noncomputable def L6:p8:=fun st K=>abx (V6 st) fun x=>P.cib x (E6 K)
noncomputable def D:Ctx:=⟨Tryz.prog,[(39,dz.spec),(144,xw.spec),(145,qd.spec),(147,mo.spec),(148,uw.spec),(156,qc.spec)],GLO.gx,[(6,⟨[1,7,9,29,30],[(11,5,.ints .u8 [])],[8],[],some (40,[1,2]),[],[],[]⟩)],[(6,L6)],[],false,none,none,[],false⟩
theorem al6:jl D (gu Tryz.f121 6):=fq S6 alr (by kernel_rfl) P.cro (enc:=E6) fun _ _ _=>by kernel_rfl
theorem loops:gy (Tryz.f121.body.getD .skip)=[gu Tryz.f121 6]:=by kernel_rfl
noncomputable def cu:Abs.Spec:=fun args K=>match args with
 | [.agg [.v (.int .i64 b),.v (.int .i64 c),.v (.int .i64 d),.v (.int .i64 e),.v (.int .i64 f),.v (.bool a)],.sl (.ints .u8 g),.sl (.ints .u8 h),.arr .u8 32 i]=>P.aa8 b c d e f a g h i (fun j=>K (.sl (.ints .u8 j)))
 | _=>none
noncomputable def spec:Abs.Spec:=fun args K=>cu (j5 [.any,.sl (.ints .u8 []),.sl (.ints .u8 []),.any] args) K
theorem ok0:Proved Tryz.prog GLO.gx 121 cu:=pL (D:=D) (fn:=Tryz.f121) [.sl (.ints .u8 [])] ⟨dz.ok,xw.ok,qd.ok,mo.ok,uw.ok,qc.ok,trivial⟩ loops ⟨al6,trivial⟩ fun _ K _ h=>by
  unfold cu at h
  split at h
  · rw[P.avt] at h;exact Aa (by kernel_rfl) h
  · cases h
theorem ok:Proved Tryz.prog GLO.gx 121 spec:=bq _ ok0
end aa8

namespace yg
noncomputable def aw3(n:Nat):Abs.Spec:=fun args K=>match args with
 | [.agg [.v (.int .i64 c),.v (.int .i64 d),.v (.int .i64 e),.v (.int .i64 f),.v (.int .i64 g),.v (.bool a),.sl (.ints .u8 b),.sl (.ints .u8 h),.arr .u8 32 i],.v (.int .i64 j),.v (.int .u64 k)]=>P.yg n c d e f g a b h i j k (fun l=>K (.sl (.ints .u8 l)))
 | _=>none
noncomputable def b4t(n:Nat):Abs.Spec:=fun args K=>aw3 n (j5 [.agg [.any,.any,.any,.any,.any,.any,.sl (.ints .u8 []),.sl (.ints .u8 []),.any],.any,.any] args) K
noncomputable def D(n:Nat):Ctx:=({ P:=Tryz.prog,G:=[(108,qy.spec),(109,u6.spec),(121,aa8.spec),(74,b4t n)],globs:=GLO.gx,hints:=[],loops:=[],inl:=[] }:Ctx)
theorem body(n:Nat)(c:Int)(d:Int)(e:Int)(f:Int)(g:Int)(a:Bool)(b:List Int)(h:List Int)(i:List Int)(j:Int)(k:Int)(K:AVal→Option R):bqe (D n) Tryz.f74 [.sl (.ints .u8 [])] [.agg [.v (.int .i64 c),.v (.int .i64 d),.v (.int .i64 e),.v (.int .i64 f),.v (.int .i64 g),.v (.bool a),.sl (.ints .u8 b),.sl (.ints .u8 h),.arr .u8 32 i],.v (.int .i64 j),.v (.int .u64 k)] K=P.yg (n+1) c d e f g a b h i j k (fun l=>K (.sl (.ints .u8 l))):=by
 rw[P.aiz]
 kernel_rfl
theorem loops:gy (Tryz.f74.body.getD .skip)=[]:=by kernel_rfl
noncomputable def cu:Abs.Spec:=fun args K=>match args with
 | [.agg [.v (.int .i64 c),.v (.int .i64 d),.v (.int .i64 e),.v (.int .i64 f),.v (.int .i64 g),.v (.bool a),.sl (.ints .u8 b),.sl (.ints .u8 h),.arr .u8 32 i],.v (.int .i64 j),.v (.int .u64 k)]=>P.yg ((j.toNat+1)) c d e f g a b h i j k (fun l=>K (.sl (.ints .u8 l)))
 | _=>none
noncomputable def spec:Abs.Spec:=fun args K=>cu (j5 [.agg [.any,.any,.any,.any,.any,.any,.sl (.ints .u8 []),.sl (.ints .u8 []),.any],.any,.any] args) K
theorem step(n:Nat)(ih:Proved Tryz.prog GLO.gx 74 (aw3 n)):Proved Tryz.prog GLO.gx 74 (aw3 (n+1)):=by
 refine z8 (D:=D n) (fn:=Tryz.f74) (c:=Tryz.f74.body.getD .skip) [.sl (.ints .u8 [])] (by kernel_rfl) (je (by kernel_rfl)) (by kernel_rfl) (by kernel_rfl) (by kernel_rfl) ⟨qy.ok,u6.ok,aa8.ok,bq _ ih,trivial⟩ trivial ?_ ?_
 · rw[loops];exact trivial
 · intro args K r h
   unfold aw3 at h
   split at h
   · rw[body];exact h
   · cases h
theorem okN:∀n,Proved Tryz.prog GLO.gx 74 (aw3 n)
 | 0=>⟨⟨Tryz.f74,by kernel_rfl,by kernel_rfl,by kernel_rfl⟩,fun args K r h=>by unfold aw3 at h;split at h<;>cases h⟩
 | n+1=>step n (okN n)
theorem ok0:Proved Tryz.prog GLO.gx 74 cu:=⟨(okN 0).enters,fun args K r h=>by
 unfold cu at h
 split at h
 · exact (okN _).sound _ K r (by unfold aw3;exact h)
 · cases h⟩
theorem ok:Proved Tryz.prog GLO.gx 74 spec:=bq _ ok0
end yg

namespace aan
abbrev X6:=P.b6a
def S6:X6→ASt:=fun (m,j,k,l,a,b,c,d,e,f,g,h,i)=>⟨[(14,.own 40),(5,.v (.int .u64 m)),(13,.ptr 3 0),(44,.v (.int .i64 j)),(45,.v (.int .i64 k))],[(40,some ⟨.row 5 (.ints .u8 l),false⟩),(3,some ⟨.box 108 [.v (.int .i64 a),.v (.int .i64 b),.v (.int .i64 c),.v (.int .i64 d),.v (.int .i64 e),.v (.bool f),.sl (.ints .u8 g),.sl (.ints .u8 h),.arr .u8 32 i],false⟩)],41,59⟩
def V6:ASt→Option X6
 | ⟨[(14,.own 40),(5,.v (.int .u64 m)),(13,.ptr 3 0),(44,.v (.int .i64 j)),(45,.v (.int .i64 k))],[(40,some ⟨.row 5 (.ints .u8 l),false⟩),(3,some ⟨.box 108 [.v (.int .i64 a),.v (.int .i64 b),.v (.int .i64 c),.v (.int .i64 d),.v (.int .i64 e),.v (.bool f),.sl (.ints .u8 g),.sl (.ints .u8 h),.arr .u8 32 i],false⟩)],41,59⟩=>some (m,j,k,l,a,b,c,d,e,f,g,h,i)
 | _=>none
theorem alr(st)(x)(h:V6 st=some x):st=S6 x:=by unfold V6 at h;split at h;(cases h;rfl);cases h
abbrev Y6:=P.cj7
def E6(K:AExit→ASt→Option R):Y6→Option R:=(fun x=>K (.exit 0) (S6 x))
noncomputable def L6:p8:=fun st K=>abx (V6 st) fun x=>P.cmm x (E6 K)
noncomputable def D:Ctx:=⟨Tryz.prog,[(55,qb.spec),(73,jh.spec),(74,yg.spec),(108,qy.spec),(130,aea.spec)],GLO.gx,[(6,⟨[5,13,44,45],[(14,5,.ints .u8 [])],[12],[],some (40,[3]),[],[],[]⟩)],[(6,L6)],[],false,none,none,[],false⟩
theorem al6:jl D (gu Tryz.f85 6):=fq S6 alr (by kernel_rfl) P.cps (enc:=E6) fun _ _ _=>by kernel_rfl
theorem loops:gy (Tryz.f85.body.getD .skip)=[gu Tryz.f85 6]:=by kernel_rfl
noncomputable def cu:Abs.Spec:=fun args K=>match args with
 | [.agg [.v (.int .i64 b),.v (.int .i64 c),.v (.int .i64 d),.v (.int .i64 e),.v (.int .i64 f),.v (.bool a)],.sl (.ints .u8 g),.sl (.ints .u8 h),.sl (.ints .u8 i),.arr .u8 32 j,.v (.int .u64 k)]=>P.aan b c d e f a g h i j k (fun l=>K (.fr 5 (.ints .u8 l)))
 | _=>none
noncomputable def spec:Abs.Spec:=fun args K=>cu (j5 [.any,.sl (.ints .u8 []),.sl (.ints .u8 []),.sl (.ints .u8 []),.any,.any] args) K
theorem ok0:Proved Tryz.prog GLO.gx 85 cu:=pL (D:=D) (fn:=Tryz.f85) [.fr 5 (.ints .u8 [])] ⟨qb.ok,jh.ok,yg.ok,qy.ok,aea.ok,trivial⟩ loops ⟨al6,trivial⟩ fun _ K _ h=>by
  unfold cu at h
  split at h
  · rw[P.bcr] at h;exact Aa (by kernel_rfl) h
  · cases h
theorem ok:Proved Tryz.prog GLO.gx 85 spec:=bq _ ok0
end aan

namespace aa1
abbrev bwn:=P.b9l
def bqv:bwn→ASt:=fun (s,t,a,b,c,d,e,f,g,h,i,j,k,l,m,n,o,p,q,r)=>⟨[(0,.yld 9 [6,7,8,9,13] [.ptr 0 0,.ptr 1 0,.ptr 2 0,.ptr 3 0,.ptr 5 0]),(1,.ptr 6 0),(2,.ptr 7 0),(3,.ptr 8 0),(8,.v (.int .i64 s)),(9,.v (.int .i64 t))],[(840,some ⟨.row 5 (.ints .u8 a),false⟩),(0,some ⟨.box 23 [.v (.int .i64 b),.v (.int .i64 c),.v (.int .i64 d),.v (.int .i64 e),.v (.int .i64 f),.v (.bool g)],false⟩),(1,some ⟨.box 24 [.sl (.ints .u8 h)],false⟩),(2,some ⟨.box 24 [.sl (.ints .u8 i)],false⟩),(3,some ⟨.box 24 [.sl (.ints .u8 j)],false⟩),(5,some ⟨.box 24 [.own 840],false⟩),(6,some ⟨.box 23 [.v (.int .i64 k),.v (.int .i64 l),.v (.int .i64 m),.v (.int .i64 n),.v (.int .i64 o),.v (.bool p)],false⟩),(7,some ⟨.box 53 [.v (.int .u64 q)],false⟩),(8,some ⟨.box 53 [.v (.int .u64 r)],false⟩)],841,35⟩
def bqd:ASt→Option bwn
 | ⟨[(0,.yld 9 [6,7,8,9,13] [.ptr 0 0,.ptr 1 0,.ptr 2 0,.ptr 3 0,.ptr 5 0]),(1,.ptr 6 0),(2,.ptr 7 0),(3,.ptr 8 0),(8,.v (.int .i64 s)),(9,.v (.int .i64 t))],[(840,some ⟨.row 5 (.ints .u8 a),false⟩),(0,some ⟨.box 23 [.v (.int .i64 b),.v (.int .i64 c),.v (.int .i64 d),.v (.int .i64 e),.v (.int .i64 f),.v (.bool g)],false⟩),(1,some ⟨.box 24 [.sl (.ints .u8 h)],false⟩),(2,some ⟨.box 24 [.sl (.ints .u8 i)],false⟩),(3,some ⟨.box 24 [.sl (.ints .u8 j)],false⟩),(5,some ⟨.box 24 [.own 840],false⟩),(6,some ⟨.box 23 [.v (.int .i64 k),.v (.int .i64 l),.v (.int .i64 m),.v (.int .i64 n),.v (.int .i64 o),.v (.bool p)],false⟩),(7,some ⟨.box 53 [.v (.int .u64 q)],false⟩),(8,some ⟨.box 53 [.v (.int .u64 r)],false⟩)],841,35⟩=>some (s,t,a,b,c,d,e,f,g,h,i,j,k,l,m,n,o,p,q,r)
 | _=>none
theorem awi(st)(x)(h:bqd st=some x):st=bqv x:=by unfold bqd at h;split at h;(cases h;rfl);cases h
abbrev b5a:=P.cpe
def bxu(K:AExit→ASt→Option R):b5a→Option R:=(fun x=>K (.exit 0) (bqv x))
noncomputable def b40:p8:=fun st K=>abx (bqd st) fun x=>P.cjv x (bxu K)
noncomputable def D3:Ctx:=({ P:=Tryz.prog,G:=[(39,dz.spec),(55,qb.spec),(56,mh.spec),(58,ji.spec),(73,jh.spec),(85,aan.spec)],globs:=GLO.gx,hints:=[],loops:=[],inl:=[],y:=some (au3 (abp Tryz.f45 6) 57 false) }:Ctx)
noncomputable def D2:Ctx:=({ P:=Tryz.prog,G:=[(39,dz.spec),(55,qb.spec),(56,mh.spec),(58,ji.spec),(73,jh.spec),(85,aan.spec)],globs:=GLO.gx,hints:=[(1,⟨[0,1,2,3,8,9],[(1000005,5,.ints .u8 [])],[],[],some (840,[0,1,2,3,5,6,7,8]),[0,1,2,3,6,7,8],[],[]⟩)],loops:=[(1,b40)],inl:=[],y:=some (au3 (abp Tryz.f45 6) 57 true),ys:=some (amg D3 (au3 (abp Tryz.f45 6) 57 true)) }:Ctx)
noncomputable def D1:Ctx:=({ P:=Tryz.prog,G:=[(39,dz.spec),(55,qb.spec),(56,mh.spec),(58,ji.spec),(73,jh.spec),(85,aan.spec)],globs:=GLO.gx,hints:=[],loops:=[],inl:=[] }:Ctx)
noncomputable def D:Ctx:=({ P:=Tryz.prog,G:=[(39,dz.spec),(55,qb.spec),(56,mh.spec),(58,ji.spec),(73,jh.spec),(85,aan.spec)],globs:=GLO.gx,hints:=[],loops:=[],inl:=[(57,afj D1 Tryz.f57)],top:=true,rng:=[(6,⟨106,57,[6,7,8,9,13],afj D2 Tryz.f106⟩)] }:Ctx)
theorem axi:jl D2 (gu Tryz.f106 1):=fq bqv awi (by kernel_rfl) P.crl (enc:=bxu) fun _ _ _=>by kernel_rfl
theorem loops:gy (Tryz.f45.body.getD .skip)=[]:=by kernel_rfl
theorem alz:gy (Tryz.f57.body.getD .skip)=[]:=by kernel_rfl
theorem azj:gy (Tryz.f106.body.getD .skip)=[gu Tryz.f106 1]:=by kernel_rfl
theorem bgp:gy (bvs (abp Tryz.f45 6))=[]:=by kernel_rfl
theorem ranges:xk (Tryz.f45.body.getD .skip)=[abp Tryz.f45 6]:=by kernel_rfl
theorem apq:ape D2 (amg D3 (au3 (abp Tryz.f45 6) 57 true)):=ayr (Y:=au3 (abp Tryz.f45 6) 57 true) (bbv (D:=D3) ⟨dz.ok,qb.ok,mh.ok,ji.ok,jh.ok,aan.ok,trivial⟩) (je (by kernel_rfl)) (bcj (D:=D3) trivial (atv rfl)) (by kernel_rfl) rfl rfl (by kernel_rfl) (by kernel_rfl) rfl rfl rfl (afy _ (by rw[show gy (au3 (abp Tryz.f45 6) 57 true).assign=[] from by kernel_rfl];exact trivial)) (afy _ (by rw[show gy (au3 (abp Tryz.f45 6) 57 true).body=gy (bvs (abp Tryz.f45 6)) from by kernel_rfl,bgp];exact trivial))
noncomputable def cu:Abs.Spec:=fun args K=>match args with
 | [.agg [.v (.int .i64 b),.v (.int .i64 c),.v (.int .i64 d),.v (.int .i64 e),.v (.int .i64 f),.v (.bool a)],.sl (.ints .u8 g),.sl (.ints .u8 h),.sl (.ints .u8 i),.v (.int .u64 j),.v (.int .u64 k)]=>P.aa1 b c d e f a g h i j k (fun l=>K (.fr 5 (.ints .u8 l)))
 | _=>none
noncomputable def spec:Abs.Spec:=fun args K=>cu (j5 [.any,.sl (.ints .u8 []),.sl (.ints .u8 []),.sl (.ints .u8 []),.any,.any] args) K
theorem ok0:Proved Tryz.prog GLO.gx 45 cu:=by
 refine z8 (D:=D) (fn:=Tryz.f45) (c:=Tryz.f45.body.getD .skip) [.fr 5 (.ints .u8 [])] (by kernel_rfl) (je (by kernel_rfl)) (by kernel_rfl) (by kernel_rfl) (by kernel_rfl) ⟨dz.ok,qb.ok,mh.ok,ji.ok,jh.ok,aan.ok,trivial⟩ ⟨aor (D:=D1) (D':=D) (fn:=Tryz.f57) (c:=Tryz.f57.body.getD .skip) rfl rfl (by kernel_rfl) (je (by kernel_rfl)) (by kernel_rfl) (by kernel_rfl) (by kernel_rfl) ⟨dz.ok,qb.ok,mh.ok,ji.ok,jh.ok,aan.ok,trivial⟩ trivial (by rw[alz];exact trivial) (fun _ _ _ _ _ h=>h),trivial⟩ ?_ ?_ (hRg:=by rw[ranges];exact ⟨auo (D:=D) (Di:=D2) (e:=⟨106,57,[6,7,8,9,13],afj D2 Tryz.f106⟩) (by kernel_rfl) rfl rfl (by kernel_rfl) (aor (D:=D2) (D':=D2) (fn:=Tryz.f106) (c:=Tryz.f106.body.getD .skip) rfl rfl (by kernel_rfl) (je (by kernel_rfl)) (by kernel_rfl) (by kernel_rfl) (by kernel_rfl) ⟨dz.ok,qb.ok,mh.ok,ji.ok,jh.ok,aan.ok,trivial⟩ trivial (by rw[azj];exact ⟨axi,trivial⟩) (fun _ _ _ _ _ h=>h) rfl rfl (aks rfl _) (fun s hs=>by have hs:some (amg D3 (au3 (abp Tryz.f45 6) 57 true))=some s:=hs;cases hs;exact apq)),trivial⟩)
 · rw[loops];exact trivial
 · intro args K r h
   unfold cu at h
   split at h
   · rw[P.ayy] at h;exact Aa (by kernel_rfl) h
   · cases h
theorem ok:Proved Tryz.prog GLO.gx 45 spec:=bq _ ok0
end aa1

end
