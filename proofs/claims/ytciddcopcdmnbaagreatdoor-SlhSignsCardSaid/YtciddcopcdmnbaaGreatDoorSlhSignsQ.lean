/-
  SlhSigns, part 17: lemmas for the law.
-/

import Derived.Test.YtciddcopcdmnbaaGreatDoorSlhSignsK
import Derived.Test.YtciddcopcdmnbaaGreatDoorSlhSignsH
import Derived.Test.YtciddcopcdmnbaaGreatDoorProg
import Derived.Test.YtciddcopcdmnbaaGreatDoorSlhSignsJ
import Derived.Test.YtciddcopcdmnbaaGreatDoorSlhSignsP
import Derived.KernelRfl
import Derived.Test.YtciddcopcdmnbaaGreatDoorSlhSignsN
import Derived.Test.YtciddcopcdmnbaaGreatDoorSlhSignsL
import Derived.Test.YtciddcopcdmnbaaGreatDoorSlhSignsO
open Eq renaming trans → Aa

section
open Go Go.Abs Go.Proofs
set_option maxRecDepth 100000
set_option maxHeartbeats 0
set_option linter.unusedVariables false

namespace zk
noncomputable def cu:Abs.Spec:=fun args K=>match args with
 | [.agg [.v (.int .i64 b),.v (.int .i64 c),.v (.int .i64 d),.v (.int .i64 e),.v (.int .i64 f),.v (.bool a)],.sl (.ints .u8 g),.arr .u8 32 h,.sl (.ints .u8 i)]=>P.zk b c d e f a g h i (fun j=>K (.sl (.ints .u8 j)))
 | _=>none
noncomputable def spec:Abs.Spec:=fun args K=>cu (j5 [.any,.sl (.ints .u8 []),.any,.sl (.ints .u8 [])] args) K
theorem ok0:Proved Tryz.prog GLO.gx 104 cu:=pK (G:=[(144,xw.spec),(186,jq.spec),(188,jm.spec)]) (fn:=Tryz.f104) [.sl (.ints .u8 [])] ⟨xw.ok,jq.ok,jm.ok,trivial⟩ fun _ K _ h=>by
  unfold cu at h
  split at h
  · rw[P.bfe] at h;exact Aa (by kernel_rfl) h
  · cases h
theorem ok:Proved Tryz.prog GLO.gx 104 spec:=bq _ ok0
end zk

namespace qx
noncomputable def cu:Abs.Spec:=fun args K=>match args with
 | [.agg [.v (.int .i64 c),.v (.int .i64 d),.v (.int .i64 e),.v (.int .i64 f),.v (.int .i64 g),.v (.bool a),.sl (.ints .u8 b),.sl (.ints .u8 h),.arr .u8 32 i],.sl (.ints .u8 j)]=>P.qx c d e f g a b h i j (fun k=>K (.sl (.ints .u8 k)))
 | _=>none
noncomputable def spec:Abs.Spec:=fun args K=>cu (j5 [.agg [.any,.any,.any,.any,.any,.any,.sl (.ints .u8 []),.sl (.ints .u8 []),.any],.sl (.ints .u8 [])] args) K
theorem ok0:Proved Tryz.prog GLO.gx 54 cu:=pK (G:=[(104,zk.spec),(105,ny.spec)]) (fn:=Tryz.f54) [.sl (.ints .u8 [])] ⟨zk.ok,ny.ok,trivial⟩ fun _ K _ h=>by
  unfold cu at h
  split at h
  · rw[P.aoo] at h;exact Aa (by kernel_rfl) h
  · cases h
theorem ok:Proved Tryz.prog GLO.gx 54 spec:=bq _ ok0
end qx

namespace wu
noncomputable def cu:Abs.Spec:=fun args K=>match args with
 | [.agg [.v (.int .i64 c),.v (.int .i64 d),.v (.int .i64 e),.v (.int .i64 f),.v (.int .i64 g),.v (.bool a),.sl (.ints .u8 b),.sl (.ints .u8 h),.arr .u8 32 i],.v (.int .i64 j),.v (.int .u64 k)]=>P.wu c d e f g a b h i j k (fun l=>K (.arr .u8 32 l))
 | _=>none
noncomputable def spec:Abs.Spec:=fun args K=>cu (j5 [.agg [.any,.any,.any,.any,.any,.any,.sl (.ints .u8 []),.sl (.ints .u8 []),.any],.any,.any] args) K
theorem ok0:Proved Tryz.prog GLO.gx 143 cu:=pK (G:=[(39,dz.spec),(105,ny.spec)]) (fn:=Tryz.f143) [.any] ⟨dz.ok,ny.ok,trivial⟩ fun _ K _ h=>by
  unfold cu at h
  split at h
  · rw[P.ake] at h;exact Aa (by kernel_rfl) h
  · cases h
theorem ok:Proved Tryz.prog GLO.gx 143 spec:=bq _ ok0
end wu

namespace kr
noncomputable def cu:Abs.Spec:=fun args K=>match args with
 | [.agg [.v (.int .i64 c),.v (.int .i64 d),.v (.int .i64 e),.v (.int .i64 f),.v (.int .i64 g),.v (.bool a),.sl (.ints .u8 b),.sl (.ints .u8 h),.arr .u8 32 i],.v (.int .i64 j),.v (.int .u64 k),.sl (.rows .u8 l)]=>P.kr c d e f g a b h i j k l (fun m=>K (.sl (.ints .u8 m)))
 | _=>none
noncomputable def spec:Abs.Spec:=fun args K=>cu (j5 [.agg [.any,.any,.any,.any,.any,.any,.sl (.ints .u8 []),.sl (.ints .u8 []),.any],.any,.any,.sl (.rows .u8 [])] args) K
theorem ok0:Proved Tryz.prog GLO.gx 103 cu:=pK (G:=[(40,jc.spec),(104,zk.spec),(143,wu.spec)]) (fn:=Tryz.f103) [.sl (.ints .u8 [])] ⟨jc.ok,zk.ok,wu.ok,trivial⟩ fun _ K _ h=>by
  unfold cu at h
  split at h
  · rw[P.amo] at h;exact Aa (by kernel_rfl) h
  · cases h
theorem ok:Proved Tryz.prog GLO.gx 103 spec:=bq _ ok0
end kr

namespace ug
abbrev X3:=P.b6b
def S3:X3→ASt:=fun (l,m,n,j,k,a,b,c,d,e,f,g,h,i)=>⟨[(1,.v (.int .u64 l)),(2,.sl (.ints .u8 m)),(3,.ptr 0 0),(7,.sl (.ints .u8 n)),(22,.v (.int .i64 j)),(23,.v (.int .i64 k))],[(0,some ⟨.box 82 [.v (.int .i64 a),.v (.int .i64 b),.v (.int .i64 c),.v (.int .i64 d),.v (.int .i64 e),.v (.bool f),.sl (.ints .u8 g),.sl (.ints .u8 h),.arr .u8 32 i],false⟩)],40,57⟩
def V3:ASt→Option X3
 | ⟨[(1,.v (.int .u64 l)),(2,.sl (.ints .u8 m)),(3,.ptr 0 0),(7,.sl (.ints .u8 n)),(22,.v (.int .i64 j)),(23,.v (.int .i64 k))],[(0,some ⟨.box 82 [.v (.int .i64 a),.v (.int .i64 b),.v (.int .i64 c),.v (.int .i64 d),.v (.int .i64 e),.v (.bool f),.sl (.ints .u8 g),.sl (.ints .u8 h),.arr .u8 32 i],false⟩)],40,57⟩=>some (l,m,n,j,k,a,b,c,d,e,f,g,h,i)
 | _=>none
theorem apk(st)(x)(h:V3 st=some x):st=S3 x:=by unfold V3 at h;split at h;(cases h;rfl);cases h
abbrev Y3:=P.cow
def E3(K:AExit→ASt→Option R):Y3→Option R:=(fun x=>K (.exit 0) (S3 x))
noncomputable def L3:p8:=fun st K=>abx (V3 st) fun x=>P.cna x (E3 K)
noncomputable def D:Ctx:=⟨Tryz.prog,[(103,kr.spec)],GLO.gx,[(3,⟨[1,2,3,7,22,23],[],[6],[(2,.sl (.ints .u8 [])),(7,.sl (.ints .u8 []))],some (40,[0]),[],[],[]⟩)],[(3,L3)],[],false,none,none,[],false⟩
theorem aqa:jl D (gu Tryz.f53 3):=fq S3 apk (by kernel_rfl) P.csh (enc:=E3) fun _ _ _=>by kernel_rfl
theorem loops:gy (Tryz.f53.body.getD .skip)=[gu Tryz.f53 3]:=by kernel_rfl
noncomputable def cu:Abs.Spec:=fun args K=>match args with
 | [.agg [.v (.int .i64 c),.v (.int .i64 d),.v (.int .i64 e),.v (.int .i64 f),.v (.int .i64 g),.v (.bool a),.sl (.ints .u8 b),.sl (.ints .u8 h),.arr .u8 32 i],.v (.int .u64 j),.sl (.ints .u8 k)]=>P.ug c d e f g a b h i j k (fun l=>K (.sl (.ints .u8 l)))
 | _=>none
noncomputable def spec:Abs.Spec:=fun args K=>cu (j5 [.agg [.any,.any,.any,.any,.any,.any,.sl (.ints .u8 []),.sl (.ints .u8 []),.any],.any,.sl (.ints .u8 [])] args) K
theorem ok0:Proved Tryz.prog GLO.gx 53 cu:=pL (D:=D) (fn:=Tryz.f53) [.sl (.ints .u8 [])] ⟨kr.ok,trivial⟩ loops ⟨aqa,trivial⟩ fun _ K _ h=>by
  unfold cu at h
  split at h
  · rw[P.arh] at h;exact Aa (by kernel_rfl) h
  · cases h
theorem ok:Proved Tryz.prog GLO.gx 53 spec:=bq _ ok0
end ug

namespace p9
abbrev bwn:=P.b7v
def bqv:bwn→ASt:=fun (A,B,a,b,c,d,e,f,g,h,i,j,k,l,m,n,o,p,q,r,s,t,u,w,y,z,C)=>⟨[(0,.yld 7 [5,6,13,14] [.ptr 0 0,.ptr 1 0,.ptr 3 0,.ptr 4 0]),(2,.ptr 5 0),(13,.own 8),(14,.v (.int .i64 A)),(15,.v (.int .i64 B))],[(840,some ⟨.row 5 (.ints .u8 a),false⟩),(0,some ⟨.box 23 [.v (.int .i64 b),.v (.int .i64 c),.v (.int .i64 d),.v (.int .i64 e),.v (.int .i64 f),.v (.bool g)],false⟩),(1,some ⟨.box 24 [.sl (.ints .u8 h)],false⟩),(3,some ⟨.box 82 [.v (.int .i64 i),.v (.int .i64 j),.v (.int .i64 k),.v (.int .i64 l),.v (.int .i64 m),.v (.bool n),.v (.slice none 0 0),.sl (.ints .u8 o),.arr .u8 32 p],false⟩),(4,some ⟨.box 24 [.own 840],false⟩),(5,some ⟨.box 82 [.v (.int .i64 q),.v (.int .i64 r),.v (.int .i64 s),.v (.int .i64 t),.v (.int .i64 u),.v (.bool w),.v (.slice none 0 0),.sl (.ints .u8 y),.arr .u8 32 z],false⟩),(8,some ⟨.row 102 (.ints .u32 C),false⟩)],841,33⟩
def bqd:ASt→Option bwn
 | ⟨[(0,.yld 7 [5,6,13,14] [.ptr 0 0,.ptr 1 0,.ptr 3 0,.ptr 4 0]),(2,.ptr 5 0),(13,.own 8),(14,.v (.int .i64 A)),(15,.v (.int .i64 B))],[(840,some ⟨.row 5 (.ints .u8 a),false⟩),(0,some ⟨.box 23 [.v (.int .i64 b),.v (.int .i64 c),.v (.int .i64 d),.v (.int .i64 e),.v (.int .i64 f),.v (.bool g)],false⟩),(1,some ⟨.box 24 [.sl (.ints .u8 h)],false⟩),(3,some ⟨.box 82 [.v (.int .i64 i),.v (.int .i64 j),.v (.int .i64 k),.v (.int .i64 l),.v (.int .i64 m),.v (.bool n),.v (.slice none 0 0),.sl (.ints .u8 o),.arr .u8 32 p],false⟩),(4,some ⟨.box 24 [.own 840],false⟩),(5,some ⟨.box 82 [.v (.int .i64 q),.v (.int .i64 r),.v (.int .i64 s),.v (.int .i64 t),.v (.int .i64 u),.v (.bool w),.v (.slice none 0 0),.sl (.ints .u8 y),.arr .u8 32 z],false⟩),(8,some ⟨.row 102 (.ints .u32 C),false⟩)],841,33⟩=>some (A,B,a,b,c,d,e,f,g,h,i,j,k,l,m,n,o,p,q,r,s,t,u,w,y,z,C)
 | _=>none
theorem awi(st)(x)(h:bqd st=some x):st=bqv x:=by unfold bqd at h;split at h;(cases h;rfl);cases h
abbrev b5a:=P.chf
def bxu(K:AExit→ASt→Option R):b5a→Option R:=(fun x=>K (.exit 0) (bqv x))
noncomputable def b40:p8:=fun st K=>abx (bqd st) fun x=>P.cnm x (bxu K)
noncomputable def D3:Ctx:=({ P:=Tryz.prog,G:=[(22,jy.spec),(23,ku.spec),(53,ug.spec),(54,qx.spec),(102,jr.spec)],globs:=GLO.gx,hints:=[],loops:=[],inl:=[],y:=some (au3 (abp Tryz.f27 8) 68 false) }:Ctx)
noncomputable def D2:Ctx:=({ P:=Tryz.prog,G:=[(22,jy.spec),(23,ku.spec),(53,ug.spec),(54,qx.spec),(102,jr.spec)],globs:=GLO.gx,hints:=[(1,⟨[0,2,13,14,15],[(1000004,5,.ints .u8 [])],[],[],some (840,[0,1,3,4,5,8]),[0,1,3,5],[],[]⟩)],loops:=[(1,b40)],inl:=[],y:=some (au3 (abp Tryz.f27 8) 68 true),ys:=some (amg D3 (au3 (abp Tryz.f27 8) 68 true)) }:Ctx)
noncomputable def D1:Ctx:=({ P:=Tryz.prog,G:=[(22,jy.spec),(23,ku.spec),(53,ug.spec),(54,qx.spec),(102,jr.spec)],globs:=GLO.gx,hints:=[],loops:=[],inl:=[] }:Ctx)
noncomputable def D:Ctx:=({ P:=Tryz.prog,G:=[(22,jy.spec),(23,ku.spec),(53,ug.spec),(54,qx.spec),(102,jr.spec)],globs:=GLO.gx,hints:=[],loops:=[],inl:=[(52,afj D1 Tryz.f52)],top:=true,rng:=[(8,⟨101,68,[5,6,13,14],afj D2 Tryz.f101⟩)] }:Ctx)
theorem axi:jl D2 (gu Tryz.f101 1):=fq bqv awi (by kernel_rfl) P.crk (enc:=bxu) fun _ _ _=>by kernel_rfl
theorem loops:gy (Tryz.f27.body.getD .skip)=[]:=by kernel_rfl
theorem alz:gy (Tryz.f52.body.getD .skip)=[]:=by kernel_rfl
theorem azj:gy (Tryz.f101.body.getD .skip)=[gu Tryz.f101 1]:=by kernel_rfl
theorem bgp:gy (bvs (abp Tryz.f27 8))=[]:=by kernel_rfl
theorem ranges:xk (Tryz.f27.body.getD .skip)=[abp Tryz.f27 8]:=by kernel_rfl
theorem apq:ape D2 (amg D3 (au3 (abp Tryz.f27 8) 68 true)):=ayr (Y:=au3 (abp Tryz.f27 8) 68 true) (bbv (D:=D3) ⟨jy.ok,ku.ok,ug.ok,qx.ok,jr.ok,trivial⟩) (je (by kernel_rfl)) (bcj (D:=D3) trivial (atv rfl)) (by kernel_rfl) rfl rfl (by kernel_rfl) (by kernel_rfl) rfl rfl rfl (afy _ (by rw[show gy (au3 (abp Tryz.f27 8) 68 true).assign=[] from by kernel_rfl];exact trivial)) (afy _ (by rw[show gy (au3 (abp Tryz.f27 8) 68 true).body=gy (bvs (abp Tryz.f27 8)) from by kernel_rfl,bgp];exact trivial))
noncomputable def cu:Abs.Spec:=fun args K=>match args with
 | [.agg [.v (.int .i64 b),.v (.int .i64 c),.v (.int .i64 d),.v (.int .i64 e),.v (.int .i64 f),.v (.bool a)],.sl (.ints .u8 g),.sl (.ints .u8 h),.sl (.ints .u8 i),.arr .u8 32 j]=>P.p9 b c d e f a g h i j (fun k=>K (.sl (.ints .u8 k)))
 | _=>none
noncomputable def spec:Abs.Spec:=fun args K=>cu (j5 [.any,.sl (.ints .u8 []),.sl (.ints .u8 []),.sl (.ints .u8 []),.any] args) K
theorem ok0:Proved Tryz.prog GLO.gx 27 cu:=by
 refine z8 (D:=D) (fn:=Tryz.f27) (c:=Tryz.f27.body.getD .skip) [.sl (.ints .u8 [])] (by kernel_rfl) (je (by kernel_rfl)) (by kernel_rfl) (by kernel_rfl) (by kernel_rfl) ⟨jy.ok,ku.ok,ug.ok,qx.ok,jr.ok,trivial⟩ ⟨aor (D:=D1) (D':=D) (fn:=Tryz.f52) (c:=Tryz.f52.body.getD .skip) rfl rfl (by kernel_rfl) (je (by kernel_rfl)) (by kernel_rfl) (by kernel_rfl) (by kernel_rfl) ⟨jy.ok,ku.ok,ug.ok,qx.ok,jr.ok,trivial⟩ trivial (by rw[alz];exact trivial) (fun _ _ _ _ _ h=>h),trivial⟩ ?_ ?_ (hRg:=by rw[ranges];exact ⟨auo (D:=D) (Di:=D2) (e:=⟨101,68,[5,6,13,14],afj D2 Tryz.f101⟩) (by kernel_rfl) rfl rfl (by kernel_rfl) (aor (D:=D2) (D':=D2) (fn:=Tryz.f101) (c:=Tryz.f101.body.getD .skip) rfl rfl (by kernel_rfl) (je (by kernel_rfl)) (by kernel_rfl) (by kernel_rfl) (by kernel_rfl) ⟨jy.ok,ku.ok,ug.ok,qx.ok,jr.ok,trivial⟩ trivial (by rw[azj];exact ⟨axi,trivial⟩) (fun _ _ _ _ _ h=>h) rfl rfl (aks rfl _) (fun s hs=>by have hs:some (amg D3 (au3 (abp Tryz.f27 8) 68 true))=some s:=hs;cases hs;exact apq)),trivial⟩)
 · rw[loops];exact trivial
 · intro args K r h
   unfold cu at h
   split at h
   · rw[P.aox] at h;exact Aa (by kernel_rfl) h
   · cases h
theorem ok:Proved Tryz.prog GLO.gx 27 spec:=bq _ ok0
end p9

namespace ahd
noncomputable def spec:Abs.Spec:=fun args K=>match args with
 | [.v (.int .i64 a)]=>P.ahd a (fun b=>K (.v (.bool b)))
 | _=>none
theorem ok:Proved Tryz.prog GLO.gx 137 spec:=pK (G:=[]) (fn:=Tryz.f137) [.any] trivial fun _ K _ h=>by
  unfold spec at h
  split at h
  · rw[P.bcu] at h;exact Aa (by kernel_rfl) h
  · cases h
end ahd

namespace zw
noncomputable def cu:Abs.Spec:=fun args K=>match args with
 | [.v (.int .i64 a),.sl (.ints .u8 b),.v (.int .i64 c)]=>P.zw a b c (fun d e=>K (.tuple [.fr 5 (.ints .u8 d),.v (.int .i64 e)]))
 | _=>none
noncomputable def spec:Abs.Spec:=fun args K=>cu (j5 [.any,.sl (.ints .u8 []),.any] args) K
theorem ok0:Proved Tryz.prog GLO.gx 92 cu:=pK (G:=[(134,acw.spec),(135,qz.spec),(136,o7.spec)]) (fn:=Tryz.f92) [.fr 5 (.ints .u8 []),.any] ⟨acw.ok,qz.ok,o7.ok,trivial⟩ fun _ K _ h=>by
  unfold cu at h
  split at h
  · rw[P.ay4] at h;exact Aa (by kernel_rfl) h
  · cases h
theorem ok:Proved Tryz.prog GLO.gx 92 spec:=bq _ ok0
end zw

namespace afc
noncomputable def spec:Abs.Spec:=fun args K=>match args with
 | [.v (.int .i64 a)]=>P.afc a (fun b=>K (.v (.int .i64 b)))
 | _=>none
theorem ok:Proved Tryz.prog GLO.gx 139 spec:=pK (G:=[]) (fn:=Tryz.f139) [.any] trivial fun _ K _ h=>by
  unfold spec at h
  split at h
  · rw[P.bhn] at h;exact Aa (by kernel_rfl) h
  · cases h
end afc

namespace alb
noncomputable def cu:Abs.Spec:=fun args K=>match args with
 | [.v (.int .i64 a),.sl (.ints .u8 b)]=>P.alb a b (fun c d=>K (.tuple [.fr 5 (.ints .u8 c),.v (.int .i64 d)]))
 | _=>none
noncomputable def spec:Abs.Spec:=fun args K=>cu (j5 [.any,.sl (.ints .u8 [])] args) K
theorem ok0:Proved Tryz.prog GLO.gx 140 cu:=pK (G:=[(164,af8.spec),(165,adw.spec),(166,aaf.spec)]) (fn:=Tryz.f140) [.fr 5 (.ints .u8 []),.any] ⟨af8.ok,adw.ok,aaf.ok,trivial⟩ fun _ K _ h=>by
  unfold cu at h
  split at h
  · rw[P.bjn] at h;exact Aa (by kernel_rfl) h
  · cases h
theorem ok:Proved Tryz.prog GLO.gx 140 spec:=bq _ ok0
end alb

namespace aad
noncomputable def cu:Abs.Spec:=fun args K=>match args with
 | [.v (.int .i64 a),.sl (.ints .u8 b)]=>P.aad a b (fun c d=>K (.tuple [.fr 5 (.ints .u8 c),.v (.int .i64 d)]))
 | _=>none
noncomputable def spec:Abs.Spec:=fun args K=>cu (j5 [.any,.sl (.ints .u8 [])] args) K
theorem ok0:Proved Tryz.prog GLO.gx 98 cu:=pK (G:=[(92,zw.spec),(139,afc.spec),(140,alb.spec)]) (fn:=Tryz.f98) [.fr 5 (.ints .u8 []),.any] ⟨zw.ok,afc.ok,alb.ok,trivial⟩ fun _ K _ h=>by
  unfold cu at h
  split at h
  · rw[P.azs] at h;exact Aa (by kernel_rfl) h
  · cases h
theorem ok:Proved Tryz.prog GLO.gx 98 spec:=bq _ ok0
end aad

namespace ng
noncomputable def cu:Abs.Spec:=fun args K=>match args with
 | [.sl (.rows .u8 a),.sta [.v (.int .i64 b)]]=>P.ng a b (fun c=>K (.fr 5 (.ints .u8 c)))
 | _=>none
noncomputable def spec:Abs.Spec:=fun args K=>cu (j5 [.sl (.rows .u8 []),.any] args) K
theorem ok0:Proved Tryz.prog GLO.gx 167 cu:=pK (G:=[(40,jc.spec),(98,aad.spec)]) (fn:=Tryz.f167) [.fr 5 (.ints .u8 [])] ⟨jc.ok,aad.ok,trivial⟩ fun _ K _ h=>by
  unfold cu at h
  split at h
  · rw[P.aod] at h;exact Aa (by kernel_rfl) h
  · cases h
theorem ok:Proved Tryz.prog GLO.gx 167 spec:=bq _ ok0
end ng

namespace aar
noncomputable def D:Ctx:=({ P:=Tryz.prog,G:=[(167,ng.spec)],globs:=GLO.gx,hints:=[],loops:=[],inl:=[],sta:=true }:Ctx)
theorem loops:gy (Tryz.f141.body.getD .skip)=[]:=by kernel_rfl
noncomputable def spec:Abs.Spec:=fun args K=>match args with
 | [.v (.int .i64 b)]=>P.aar b (fun a=>K (.fn (.func 167) [] [.sta [.v (.int .i64 a)]]))
 | _=>none
theorem ok:Proved Tryz.prog GLO.gx 141 spec:=by
 refine z8 (D:=D) (fn:=Tryz.f141) (c:=Tryz.f141.body.getD .skip) [.any] (by kernel_rfl) (je (by kernel_rfl)) (by kernel_rfl) (by kernel_rfl) (by kernel_rfl) ⟨ng.ok,trivial⟩ trivial ?_ ?_
 · rw[loops];exact trivial
 · intro args K r h
   unfold spec at h
   split at h
   · rw[P.avr] at h;exact Aa (by kernel_rfl) h
   · cases h
end aar

namespace wh
abbrev X4:=P.b9g
def S4:X4→ASt:=fun (c,a,b,d)=>⟨[(2,.v (.int .u8 c)),(7,.own 0),(15,.v (.int .i64 a)),(16,.v (.int .i64 b))],[(0,some ⟨.row 5 (.ints .u8 d),false⟩)],1,28⟩
def V4:ASt→Option X4
 | ⟨[(2,.v (.int .u8 c)),(7,.own 0),(15,.v (.int .i64 a)),(16,.v (.int .i64 b))],[(0,some ⟨.row 5 (.ints .u8 d),false⟩)],1,28⟩=>some (c,a,b,d)
 | _=>none
theorem axb(st)(x)(h:V4 st=some x):st=S4 x:=by unfold V4 at h;split at h;(cases h;rfl);cases h
abbrev Y4:=P.clj
def E4(K:AExit→ASt→Option R):Y4→Option R:=(fun x=>K (.exit 0) (S4 x))
noncomputable def L4:p8:=fun st K=>abx (V4 st) fun x=>P.co2 x (E4 K)
noncomputable def D:Ctx:=⟨Tryz.prog,[],GLO.gx,[(4,⟨[2,7,15,16],[],[6],[],none,[],[],[]⟩)],[(4,L4)],[],false,none,none,[],false⟩
theorem awr:jl D (gu Tryz.f162 4):=fq S4 axb (by kernel_rfl) P.cqj (enc:=E4) fun _ _ _=>by kernel_rfl
theorem loops:gy (Tryz.f162.body.getD .skip)=[gu Tryz.f162 4]:=by kernel_rfl
noncomputable def cu:Abs.Spec:=fun args K=>match args with
 | [.sl (.ints .u8 a),.v (.int .i64 b),.v (.int .u8 c)]=>P.wh a b c (fun d=>K (.fr 5 (.ints .u8 d)))
 | _=>none
noncomputable def spec:Abs.Spec:=fun args K=>cu (j5 [.sl (.ints .u8 []),.any,.any] args) K
theorem ok0:Proved Tryz.prog GLO.gx 162 cu:=pL (D:=D) (fn:=Tryz.f162) [.fr 5 (.ints .u8 [])] trivial loops ⟨awr,trivial⟩ fun _ K _ h=>by
  unfold cu at h
  split at h
  · rw[P.ava] at h;exact Aa (by kernel_rfl) h
  · cases h
theorem ok:Proved Tryz.prog GLO.gx 162 spec:=bq _ ok0
end wh

namespace abg
noncomputable def cu:Abs.Spec:=fun args K=>match args with
 | [.sl (.rows .u8 b),.sta [.fn (.func 167) [] [.sta [.v (.int .i64 a)]]],.sta [.sl (.ints .u8 c)],.sta [.sl (.ints .u8 d)]]=>P.abg b a c d (fun e=>K (.fr 5 (.ints .u8 e)))
 | _=>none
noncomputable def spec:Abs.Spec:=fun args K=>cu (j5 [.sl (.rows .u8 []),.any,.agg [.sl (.ints .u8 [])],.agg [.sl (.ints .u8 [])]] args) K
theorem ok0:Proved Tryz.prog GLO.gx 163 cu:=pK (G:=[(40,jc.spec),(167,ng.spec)]) (fn:=Tryz.f163) [.fr 5 (.ints .u8 [])] ⟨jc.ok,ng.ok,trivial⟩ fun _ K _ h=>by
  unfold cu at h
  split at h
  · rw[P.avn] at h;exact Aa (by kernel_rfl) h
  · cases h
theorem ok:Proved Tryz.prog GLO.gx 163 spec:=bq _ ok0
end abg

namespace agt
noncomputable def D:Ctx:=({ P:=Tryz.prog,G:=[(141,aar.spec),(162,wh.spec),(163,abg.spec),(167,ng.spec)],globs:=GLO.gx,hints:=[],loops:=[],inl:=[],sta:=true }:Ctx)
theorem loops:gy (Tryz.f138.body.getD .skip)=[]:=by kernel_rfl
noncomputable def cu:Abs.Spec:=fun args K=>match args with
 | [.v (.int .i64 d),.sl (.ints .u8 e)]=>P.agt d e (fun a b c=>K (.fn (.func 163) [] [.sta [.fn (.func 167) [] [.sta [.v (.int .i64 a)]]],.sta [.sl (.ints .u8 b)],.sta [.sl (.ints .u8 c)]]))
 | _=>none
noncomputable def spec:Abs.Spec:=fun args K=>cu (j5 [.any,.sl (.ints .u8 [])] args) K
theorem ok0:Proved Tryz.prog GLO.gx 138 cu:=by
 refine z8 (D:=D) (fn:=Tryz.f138) (c:=Tryz.f138.body.getD .skip) [.agg [.any,.agg [.sl (.ints .u8 [])],.agg [.sl (.ints .u8 [])]]] (by kernel_rfl) (je (by kernel_rfl)) (by kernel_rfl) (by kernel_rfl) (by kernel_rfl) ⟨aar.ok,wh.ok,abg.ok,ng.ok,trivial⟩ trivial ?_ ?_
 · rw[loops];exact trivial
 · intro args K r h
   unfold cu at h
   split at h
   · rw[P.bek] at h;exact Aa (by kernel_rfl) h
   · cases h
theorem ok:Proved Tryz.prog GLO.gx 138 spec:=bq _ ok0
end agt

namespace ahp
noncomputable def cu:Abs.Spec:=fun args K=>match args with
 | [.v (.int .i64 a),.sl (.ints .u8 b),.sl (.ints .u8 c)]=>P.ahp a b c (fun d e=>K (.tuple [.fr 5 (.ints .u8 d),.v (.int .i64 e)]))
 | _=>none
noncomputable def spec:Abs.Spec:=fun args K=>cu (j5 [.any,.sl (.ints .u8 []),.sl (.ints .u8 [])] args) K
theorem ok0:Proved Tryz.prog GLO.gx 96 cu:=pK (G:=[(137,ahd.spec),(138,agt.spec),(163,abg.spec)]) (fn:=Tryz.f96) [.fr 5 (.ints .u8 []),.any] ⟨ahd.ok,agt.ok,abg.ok,trivial⟩ fun _ K _ h=>by
  unfold cu at h
  split at h
  · rw[P.bgi] at h;exact Aa (by kernel_rfl) h
  · cases h
theorem ok:Proved Tryz.prog GLO.gx 96 spec:=bq _ ok0
end ahp

namespace qo
noncomputable def cu:Abs.Spec:=fun args K=>match args with
 | [.sl (.ints .u8 g),.sl (.ints .u8 h),.sl (.ints .u8 i),.sta [.v (.int .i64 j)],.sta [.v (.int .i64 b),.v (.int .i64 c),.v (.int .i64 d),.v (.int .i64 e),.v (.int .i64 f),.v (.bool a)]]=>P.qo g h i j b c d e f a (fun k=>K (.sl (.ints .u8 k)))
 | _=>none
noncomputable def spec:Abs.Spec:=fun args K=>cu (j5 [.sl (.ints .u8 []),.sl (.ints .u8 []),.sl (.ints .u8 []),.any,.any] args) K
theorem ok0:Proved Tryz.prog GLO.gx 95 cu:=pK (G:=[(40,jc.spec),(96,ahp.spec)]) (fn:=Tryz.f95) [.sl (.ints .u8 [])] ⟨jc.ok,ahp.ok,trivial⟩ fun _ K _ h=>by
  unfold cu at h
  split at h
  · rw[P.aqt] at h;exact Aa (by kernel_rfl) h
  · cases h
theorem ok:Proved Tryz.prog GLO.gx 95 spec:=bq _ ok0
end qo

namespace ag6
abbrev X8:=P.b7u
def S8:X8→ASt:=fun (c,d,a,b,e)=>⟨[(9,.own 0),(1,.sl (.ints .u8 c)),(2,.v (.int .i64 d)),(8,.fn (.func 167) [] [.sta [.v (.int .i64 a)]]),(10,.v (.int .u64 b))],[(0,some ⟨.row 5 (.ints .u8 e),false⟩)],1,45⟩
def V8:ASt→Option X8
 | ⟨[(9,.own 0),(1,.sl (.ints .u8 c)),(2,.v (.int .i64 d)),(8,.fn (.func 167) [] [.sta [.v (.int .i64 a)]]),(10,.v (.int .u64 b))],[(0,some ⟨.row 5 (.ints .u8 e),false⟩)],1,45⟩=>some (c,d,a,b,e)
 | _=>none
theorem bli(st)(x)(h:V8 st=some x):st=S8 x:=by unfold V8 at h;split at h;(cases h;rfl);cases h
abbrev Y8:=P.cfd
def E8(K:AExit→ASt→Option R):Y8→Option R:=(fun x=>K (.exit 1) (S8 x))
noncomputable def L8:p8:=fun st K=>abx (V8 st) fun x=>P.cik x (E8 K)
noncomputable def D:Ctx:=⟨Tryz.prog,[(75,y7.spec),(141,aar.spec),(167,ng.spec)],GLO.gx,[(8,⟨[1,2,8,10],[(9,5,.ints .u8 [])],[6,7],[],none,[],[],[]⟩)],[(8,L8)],[],false,none,none,[],false⟩
theorem bmn:jl D (gu Tryz.f99 8):=fq S8 bli (by kernel_rfl) P.cpz (enc:=E8) fun _ _ _=>by kernel_rfl
theorem loops:gy (Tryz.f99.body.getD .skip)=[gu Tryz.f99 8]:=by kernel_rfl
noncomputable def cu:Abs.Spec:=fun args K=>match args with
 | [.v (.int .i64 a),.sl (.ints .u8 b),.v (.int .i64 c)]=>P.ag6 a b c (fun d e=>K (.tuple [.sl (.ints .u8 d),.v (.int .i64 e)]))
 | _=>none
noncomputable def spec:Abs.Spec:=fun args K=>cu (j5 [.any,.sl (.ints .u8 []),.any] args) K
theorem ok0:Proved Tryz.prog GLO.gx 99 cu:=pL (D:=D) (fn:=Tryz.f99) [.sl (.ints .u8 []),.any] ⟨y7.ok,aar.ok,ng.ok,trivial⟩ loops ⟨bmn,trivial⟩ fun _ K _ h=>by
  unfold cu at h
  split at h
  · rw[P.bhh] at h;exact Aa (by kernel_rfl) h
  · cases h
theorem ok:Proved Tryz.prog GLO.gx 99 spec:=bq _ ok0
end ag6

namespace qj
noncomputable def cu:Abs.Spec:=fun args K=>match args with
 | [.v (.int .i64 g),.sl (.ints .u8 h),.sl (.ints .u8 i),.sl (.ints .u8 j),.sta [.v (.int .i64 k)],.sta [.v (.int .i64 b),.v (.int .i64 c),.v (.int .i64 d),.v (.int .i64 e),.v (.int .i64 f),.v (.bool a)]]=>P.qj g h i j k b c d e f a (fun l=>K (.sl (.ints .u8 l)))
 | _=>none
noncomputable def spec:Abs.Spec:=fun args K=>cu (j5 [.any,.sl (.ints .u8 []),.sl (.ints .u8 []),.sl (.ints .u8 []),.any,.any] args) K
theorem ok0:Proved Tryz.prog GLO.gx 97 cu:=pK (G:=[(40,jc.spec),(98,aad.spec),(99,ag6.spec)]) (fn:=Tryz.f97) [.sl (.ints .u8 [])] ⟨jc.ok,aad.ok,ag6.ok,trivial⟩ fun _ K _ h=>by
  unfold cu at h
  split at h
  · rw[P.aqv] at h;exact Aa (by kernel_rfl) h
  · cases h
theorem ok:Proved Tryz.prog GLO.gx 97 spec:=bq _ ok0
end qj

end
