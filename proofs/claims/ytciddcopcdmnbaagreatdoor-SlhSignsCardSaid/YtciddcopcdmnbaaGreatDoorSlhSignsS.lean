/-
  SlhSigns, part 19: lemmas for the law.
-/

import Derived.Test.YtciddcopcdmnbaaGreatDoorSlhSignsL
import Derived.Test.YtciddcopcdmnbaaGreatDoorSlhSignsH
import Derived.Test.YtciddcopcdmnbaaGreatDoorProg
import Derived.Test.YtciddcopcdmnbaaGreatDoorSlhSignsJ
import Derived.Test.YtciddcopcdmnbaaGreatDoorSlhSignsN
import Derived.KernelRfl
import Derived.Test.YtciddcopcdmnbaaGreatDoorSlhSignsQ
import Derived.Test.YtciddcopcdmnbaaGreatDoorSlhSignsR
import Derived.Test.YtciddcopcdmnbaaGreatDoorSlhSignsI
import Derived.Test.YtciddcopcdmnbaaGreatDoorSlhSignsM
open Eq renaming trans → Aa

section
open Go Go.Abs Go.Proofs
set_option maxRecDepth 100000
set_option maxHeartbeats 0
set_option linter.unusedVariables false

namespace qb
abbrev X2:=P.ceb
def S2:X2→ASt:=fun (g,h,i,a,b,c,d,e,f)=>⟨[(2,.ptr 0 0),(7,.sl (.rows .u8 g)),(8,.v (.int .i64 h)),(9,.v (.int .i64 i))],[(0,some ⟨.box 23 [.v (.int .i64 a),.v (.int .i64 b),.v (.int .i64 c),.v (.int .i64 d),.v (.int .i64 e),.v (.bool f)],false⟩)],1,21⟩
def V2:ASt→Option X2
 | ⟨[(2,.ptr 0 0),(7,.sl (.rows .u8 g)),(8,.v (.int .i64 h)),(9,.v (.int .i64 i))],[(0,some ⟨.box 23 [.v (.int .i64 a),.v (.int .i64 b),.v (.int .i64 c),.v (.int .i64 d),.v (.int .i64 e),.v (.bool f)],false⟩)],1,21⟩=>some (g,h,i,a,b,c,d,e,f)
 | _=>none
theorem bfp(st)(x)(h:V2 st=some x):st=S2 x:=by unfold V2 at h;split at h;(cases h;rfl);cases h
abbrev Y2:=P.cgd
def E2(K:AExit→ASt→Option R):Y2→Option R:=(Sum.elim (fun x=>K (.exit 0) (S2 x)) (fun (g,a,b,c,d,e,f)=>K .ret ⟨[(4,.v (.bool g))],[(0,some ⟨.box 23 [.v (.int .i64 a),.v (.int .i64 b),.v (.int .i64 c),.v (.int .i64 d),.v (.int .i64 e),.v (.bool f)],false⟩)],1,21⟩))
noncomputable def L2:p8:=fun st K=>abx (V2 st) fun x=>P.cpl x (E2 K)
noncomputable def D:Ctx:=⟨Tryz.prog,[(22,jy.spec)],GLO.gx,[(2,⟨[2,7,8,9],[],[4],[],none,[],[],[]⟩)],[(2,L2)],[],false,none,none,[],false⟩
theorem bgm:jl D (gu Tryz.f55 2):=fq S2 bfp (by kernel_rfl) P.cqi (enc:=E2) fun _ _ _=>by kernel_rfl
theorem loops:gy (Tryz.f55.body.getD .skip)=[gu Tryz.f55 2]:=by kernel_rfl
noncomputable def cu:Abs.Spec:=fun args K=>match args with
 | [.agg [.v (.int .i64 b),.v (.int .i64 c),.v (.int .i64 d),.v (.int .i64 e),.v (.int .i64 f),.v (.bool a)],.sl (.rows .u8 g)]=>P.qb b c d e f a g (fun h=>K (.v (.bool h)))
 | _=>none
noncomputable def spec:Abs.Spec:=fun args K=>cu (j5 [.any,.sl (.rows .u8 [])] args) K
theorem ok0:Proved Tryz.prog GLO.gx 55 cu:=pL (D:=D) (fn:=Tryz.f55) [.any] ⟨jy.ok,trivial⟩ loops ⟨bgm,trivial⟩ fun _ K _ h=>by
  unfold cu at h
  split at h
  · rw[P.bdf] at h;exact Aa (by kernel_rfl) h
  · cases h
theorem ok:Proved Tryz.prog GLO.gx 55 spec:=bq _ ok0
end qb

namespace qy
noncomputable def cu:Abs.Spec:=fun args K=>match args with
 | [.agg [.v (.int .i64 c),.v (.int .i64 d),.v (.int .i64 e),.v (.int .i64 f),.v (.int .i64 g),.v (.bool a),.sl (.ints .u8 b),.sl (.ints .u8 h),.arr .u8 32 i],.v (.int .u64 j)]=>P.qy c d e f g a b h i j (fun k=>K (.arr .u8 32 k))
 | _=>none
noncomputable def spec:Abs.Spec:=fun args K=>cu (j5 [.agg [.any,.any,.any,.any,.any,.any,.sl (.ints .u8 []),.sl (.ints .u8 []),.any],.any] args) K
theorem ok0:Proved Tryz.prog GLO.gx 108 cu:=pK (G:=[(39,dz.spec)]) (fn:=Tryz.f108) [.any] ⟨dz.ok,trivial⟩ fun _ K _ h=>by
  unfold cu at h
  split at h
  · rw[P.aoa] at h;exact Aa (by kernel_rfl) h
  · cases h
theorem ok:Proved Tryz.prog GLO.gx 108 spec:=bq _ ok0
end qy

namespace u6
noncomputable def cu:Abs.Spec:=fun args K=>match args with
 | [.agg [.v (.int .i64 c),.v (.int .i64 d),.v (.int .i64 e),.v (.int .i64 f),.v (.int .i64 g),.v (.bool a),.sl (.ints .u8 b),.sl (.ints .u8 h),.arr .u8 32 i],.v (.int .i64 j),.v (.int .u64 k),.sl (.ints .u8 l),.sl (.ints .u8 m)]=>P.u6 c d e f g a b h i j k l m (fun n=>K (.sl (.ints .u8 n)))
 | _=>none
noncomputable def spec:Abs.Spec:=fun args K=>cu (j5 [.agg [.any,.any,.any,.any,.any,.any,.sl (.ints .u8 []),.sl (.ints .u8 []),.any],.any,.any,.sl (.ints .u8 []),.sl (.ints .u8 [])] args) K
theorem ok0:Proved Tryz.prog GLO.gx 109 cu:=pK (G:=[(39,dz.spec),(40,jc.spec),(104,zk.spec)]) (fn:=Tryz.f109) [.sl (.ints .u8 [])] ⟨dz.ok,jc.ok,zk.ok,trivial⟩ fun _ K _ h=>by
  unfold cu at h
  split at h
  · rw[P.aop] at h;exact Aa (by kernel_rfl) h
  · cases h
theorem ok:Proved Tryz.prog GLO.gx 109 spec:=bq _ ok0
end u6

namespace ji
abbrev X7:=P.b9m
def S7:X7→ASt:=fun (s,o,p,q,r,a,b,c,d,e,f,g,h,i,j,k,l,m,n)=>⟨[(5,.v (.int .u64 s)),(6,.ptr 0 0),(13,.ptr 3 0),(15,.sl (.ints .u8 o)),(16,.sl (.ints .u8 p)),(66,.v (.int .i64 q)),(67,.v (.int .i64 r))],[(0,some ⟨.box 23 [.v (.int .i64 a),.v (.int .i64 b),.v (.int .i64 c),.v (.int .i64 d),.v (.int .i64 e),.v (.bool f)],false⟩),(3,some ⟨.box 108 [.v (.int .i64 g),.v (.int .i64 h),.v (.int .i64 i),.v (.int .i64 j),.v (.int .i64 k),.v (.bool l),.v (.slice none 0 0),.sl (.ints .u8 m),.arr .u8 32 n],false⟩)],40,98⟩
def V7:ASt→Option X7
 | ⟨[(5,.v (.int .u64 s)),(6,.ptr 0 0),(13,.ptr 3 0),(15,.sl (.ints .u8 o)),(16,.sl (.ints .u8 p)),(66,.v (.int .i64 q)),(67,.v (.int .i64 r))],[(0,some ⟨.box 23 [.v (.int .i64 a),.v (.int .i64 b),.v (.int .i64 c),.v (.int .i64 d),.v (.int .i64 e),.v (.bool f)],false⟩),(3,some ⟨.box 108 [.v (.int .i64 g),.v (.int .i64 h),.v (.int .i64 i),.v (.int .i64 j),.v (.int .i64 k),.v (.bool l),.v (.slice none 0 0),.sl (.ints .u8 m),.arr .u8 32 n],false⟩)],40,98⟩=>some (s,o,p,q,r,a,b,c,d,e,f,g,h,i,j,k,l,m,n)
 | _=>none
theorem av9(st)(x)(h:V7 st=some x):st=S7 x:=by unfold V7 at h;split at h;(cases h;rfl);cases h
abbrev Y7:=P.coc
def E7(K:AExit→ASt→Option R):Y7→Option R:=(fun x=>K (.exit 0) (S7 x))
noncomputable def L7:p8:=fun st K=>abx (V7 st) fun x=>P.ch4 x (E7 K)
noncomputable def D:Ctx:=⟨Tryz.prog,[(36,qh.spec),(55,qb.spec),(73,jh.spec),(107,yh.spec),(108,qy.spec),(109,u6.spec)],GLO.gx,[(7,⟨[5,6,13,15,16,66,67],[],[12],[(15,.sl (.ints .u8 [])),(16,.sl (.ints .u8 []))],some (40,[0,3]),[],[],[]⟩)],[(7,L7)],[],false,none,none,[],false⟩
theorem axu:jl D (gu Tryz.f58 7):=fq S7 av9 (by kernel_rfl) P.cqa (enc:=E7) fun _ _ _=>by kernel_rfl
theorem loops:gy (Tryz.f58.body.getD .skip)=[gu Tryz.f58 7]:=by kernel_rfl
noncomputable def cu:Abs.Spec:=fun args K=>match args with
 | [.agg [.v (.int .i64 b),.v (.int .i64 c),.v (.int .i64 d),.v (.int .i64 e),.v (.int .i64 f),.v (.bool a)],.sl (.ints .u8 g),.sl (.ints .u8 h),.sl (.ints .u8 i),.arr .u8 32 j,.v (.int .u64 k)]=>P.ji b c d e f a g h i j k (fun l=>K (.sl (.ints .u8 l)))
 | _=>none
noncomputable def spec:Abs.Spec:=fun args K=>cu (j5 [.any,.sl (.ints .u8 []),.sl (.ints .u8 []),.sl (.ints .u8 []),.any,.any] args) K
theorem ok0:Proved Tryz.prog GLO.gx 58 cu:=pL (D:=D) (fn:=Tryz.f58) [.sl (.ints .u8 [])] ⟨qh.ok,qb.ok,jh.ok,yh.ok,qy.ok,u6.ok,trivial⟩ loops ⟨axu,trivial⟩ fun _ K _ h=>by
  unfold cu at h
  split at h
  · rw[P.an4] at h;exact Aa (by kernel_rfl) h
  · cases h
theorem ok:Proved Tryz.prog GLO.gx 58 spec:=bq _ ok0
end ji

namespace mh
noncomputable def spec:Abs.Spec:=fun args K=>match args with
 | [.agg [.v (.int .i64 b),.v (.int .i64 c),.v (.int .i64 d),.v (.int .i64 e),.v (.int .i64 f),.v (.bool a)],.v (.int .u64 g),.v (.int .u64 h)]=>P.mh b c d e f a g h (fun i=>K (.v (.bool i)))
 | _=>none
theorem ok:Proved Tryz.prog GLO.gx 56 spec:=pK (G:=[(73,jh.spec)]) (fn:=Tryz.f56) [.any] ⟨jh.ok,trivial⟩ fun _ K _ h=>by
  unfold spec at h
  split at h
  · rw[P.avk] at h;exact Aa (by kernel_rfl) h
  · cases h
end mh

namespace ab8
abbrev bwn:=P.b78
def bqv:bwn→ASt:=fun (a,s,t,b,c,d,e,f,g,h,i,j,k,l,m,n,o,p,q,r)=>⟨[(0,.yld 8 [4,7,8,9,10] [.sl (.ints .u8 a),.ptr 0 0,.ptr 1 0,.ptr 2 0,.ptr 3 0]),(1,.ptr 5 0),(2,.ptr 6 0),(3,.ptr 7 0),(8,.v (.int .i64 s)),(9,.v (.int .i64 t))],[(0,some ⟨.box 23 [.v (.int .i64 b),.v (.int .i64 c),.v (.int .i64 d),.v (.int .i64 e),.v (.int .i64 f),.v (.bool g)],false⟩),(1,some ⟨.box 24 [.sl (.ints .u8 h)],false⟩),(2,some ⟨.box 24 [.sl (.ints .u8 i)],false⟩),(3,some ⟨.box 24 [.sl (.ints .u8 j)],false⟩),(5,some ⟨.box 23 [.v (.int .i64 k),.v (.int .i64 l),.v (.int .i64 m),.v (.int .i64 n),.v (.int .i64 o),.v (.bool p)],false⟩),(6,some ⟨.box 53 [.v (.int .u64 q)],false⟩),(7,some ⟨.box 53 [.v (.int .u64 r)],false⟩)],840,35⟩
def bqd:ASt→Option bwn
 | ⟨[(0,.yld 8 [4,7,8,9,10] [.sl (.ints .u8 a),.ptr 0 0,.ptr 1 0,.ptr 2 0,.ptr 3 0]),(1,.ptr 5 0),(2,.ptr 6 0),(3,.ptr 7 0),(8,.v (.int .i64 s)),(9,.v (.int .i64 t))],[(0,some ⟨.box 23 [.v (.int .i64 b),.v (.int .i64 c),.v (.int .i64 d),.v (.int .i64 e),.v (.int .i64 f),.v (.bool g)],false⟩),(1,some ⟨.box 24 [.sl (.ints .u8 h)],false⟩),(2,some ⟨.box 24 [.sl (.ints .u8 i)],false⟩),(3,some ⟨.box 24 [.sl (.ints .u8 j)],false⟩),(5,some ⟨.box 23 [.v (.int .i64 k),.v (.int .i64 l),.v (.int .i64 m),.v (.int .i64 n),.v (.int .i64 o),.v (.bool p)],false⟩),(6,some ⟨.box 53 [.v (.int .u64 q)],false⟩),(7,some ⟨.box 53 [.v (.int .u64 r)],false⟩)],840,35⟩=>some (a,s,t,b,c,d,e,f,g,h,i,j,k,l,m,n,o,p,q,r)
 | _=>none
theorem awi(st)(x)(h:bqd st=some x):st=bqv x:=by unfold bqd at h;split at h;(cases h;rfl);cases h
abbrev b5a:=P.ckm
def bxu(K:AExit→ASt→Option R):b5a→Option R:=(fun x=>K (.exit 0) (bqv x))
noncomputable def b40:p8:=fun st K=>abx (bqd st) fun x=>P.clh x (bxu K)
noncomputable def D3:Ctx:=({ P:=Tryz.prog,G:=[(36,qh.spec),(39,dz.spec),(55,qb.spec),(56,mh.spec),(58,ji.spec),(59,aam.spec),(73,jh.spec)],globs:=GLO.gx,hints:=[],loops:=[],inl:=[],y:=some (au3 (abp Tryz.f29 5) 64 false) }:Ctx)
noncomputable def D2:Ctx:=({ P:=Tryz.prog,G:=[(36,qh.spec),(39,dz.spec),(55,qb.spec),(56,mh.spec),(58,ji.spec),(59,aam.spec),(73,jh.spec)],globs:=GLO.gx,hints:=[(1,⟨[0,1,2,3,8,9],[],[],[],some (840,[0,1,2,3,5,6,7]),[0,1,2,3,5,6,7],[],[]⟩)],loops:=[(1,b40)],inl:=[],y:=some (au3 (abp Tryz.f29 5) 64 true),ys:=some (amg D3 (au3 (abp Tryz.f29 5) 64 true)) }:Ctx)
noncomputable def D1:Ctx:=({ P:=Tryz.prog,G:=[(36,qh.spec),(39,dz.spec),(55,qb.spec),(56,mh.spec),(58,ji.spec),(59,aam.spec),(73,jh.spec)],globs:=GLO.gx,hints:=[],loops:=[],inl:=[] }:Ctx)
noncomputable def D:Ctx:=({ P:=Tryz.prog,G:=[(36,qh.spec),(39,dz.spec),(55,qb.spec),(56,mh.spec),(58,ji.spec),(59,aam.spec),(73,jh.spec)],globs:=GLO.gx,hints:=[],loops:=[],inl:=[(57,afj D1 Tryz.f57)],top:=true,rng:=[(5,⟨106,64,[4,7,8,9,10],afj D2 Tryz.f106⟩)] }:Ctx)
theorem axi:jl D2 (gu Tryz.f106 1):=fq bqv awi (by kernel_rfl) P.cru (enc:=bxu) fun _ _ _=>by kernel_rfl
theorem loops:gy (Tryz.f29.body.getD .skip)=[]:=by kernel_rfl
theorem alz:gy (Tryz.f57.body.getD .skip)=[]:=by kernel_rfl
theorem azj:gy (Tryz.f106.body.getD .skip)=[gu Tryz.f106 1]:=by kernel_rfl
theorem bgp:gy (bvs (abp Tryz.f29 5))=[]:=by kernel_rfl
theorem ranges:xk (Tryz.f29.body.getD .skip)=[abp Tryz.f29 5]:=by kernel_rfl
theorem apq:ape D2 (amg D3 (au3 (abp Tryz.f29 5) 64 true)):=ayr (Y:=au3 (abp Tryz.f29 5) 64 true) (bbv (D:=D3) ⟨qh.ok,dz.ok,qb.ok,mh.ok,ji.ok,aam.ok,jh.ok,trivial⟩) (je (by kernel_rfl)) (bcj (D:=D3) trivial (atv rfl)) (by kernel_rfl) rfl rfl (by kernel_rfl) (by kernel_rfl) rfl rfl rfl (afy _ (by rw[show gy (au3 (abp Tryz.f29 5) 64 true).assign=[] from by kernel_rfl];exact trivial)) (afy _ (by rw[show gy (au3 (abp Tryz.f29 5) 64 true).body=gy (bvs (abp Tryz.f29 5)) from by kernel_rfl,bgp];exact trivial))
noncomputable def cu:Abs.Spec:=fun args K=>match args with
 | [.agg [.v (.int .i64 b),.v (.int .i64 c),.v (.int .i64 d),.v (.int .i64 e),.v (.int .i64 f),.v (.bool a)],.sl (.ints .u8 g),.sl (.ints .u8 h),.sl (.ints .u8 i),.sl (.ints .u8 j),.v (.int .u64 k),.v (.int .u64 l)]=>P.ab8 b c d e f a g h i j k l (fun m=>K (.v (.bool m)))
 | _=>none
noncomputable def spec:Abs.Spec:=fun args K=>cu (j5 [.any,.sl (.ints .u8 []),.sl (.ints .u8 []),.sl (.ints .u8 []),.sl (.ints .u8 []),.any,.any] args) K
theorem ok0:Proved Tryz.prog GLO.gx 29 cu:=by
 refine z8 (D:=D) (fn:=Tryz.f29) (c:=Tryz.f29.body.getD .skip) [.any] (by kernel_rfl) (je (by kernel_rfl)) (by kernel_rfl) (by kernel_rfl) (by kernel_rfl) ⟨qh.ok,dz.ok,qb.ok,mh.ok,ji.ok,aam.ok,jh.ok,trivial⟩ ⟨aor (D:=D1) (D':=D) (fn:=Tryz.f57) (c:=Tryz.f57.body.getD .skip) rfl rfl (by kernel_rfl) (je (by kernel_rfl)) (by kernel_rfl) (by kernel_rfl) (by kernel_rfl) ⟨qh.ok,dz.ok,qb.ok,mh.ok,ji.ok,aam.ok,jh.ok,trivial⟩ trivial (by rw[alz];exact trivial) (fun _ _ _ _ _ h=>h),trivial⟩ ?_ ?_ (hRg:=by rw[ranges];exact ⟨auo (D:=D) (Di:=D2) (e:=⟨106,64,[4,7,8,9,10],afj D2 Tryz.f106⟩) (by kernel_rfl) rfl rfl (by kernel_rfl) (aor (D:=D2) (D':=D2) (fn:=Tryz.f106) (c:=Tryz.f106.body.getD .skip) rfl rfl (by kernel_rfl) (je (by kernel_rfl)) (by kernel_rfl) (by kernel_rfl) (by kernel_rfl) ⟨qh.ok,dz.ok,qb.ok,mh.ok,ji.ok,aam.ok,jh.ok,trivial⟩ trivial (by rw[azj];exact ⟨axi,trivial⟩) (fun _ _ _ _ _ h=>h) rfl rfl (aks rfl _) (fun s hs=>by have hs:some (amg D3 (au3 (abp Tryz.f29 5) 64 true))=some s:=hs;cases hs;exact apq)),trivial⟩)
 · rw[loops];exact trivial
 · intro args K r h
   unfold cu at h
   split at h
   · rw[P.ave] at h;exact Aa (by kernel_rfl) h
   · cases h
theorem ok:Proved Tryz.prog GLO.gx 29 spec:=bq _ ok0
end ab8

namespace ae8
noncomputable def cu:Abs.Spec:=fun args K=>match args with
 | [.agg [.v (.int .i64 b),.v (.int .i64 c),.v (.int .i64 d),.v (.int .i64 e),.v (.int .i64 f),.v (.bool a)],.sl (.ints .u8 g),.sl (.ints .u8 h),.sl (.ints .u8 i),.sl (.ints .u8 j)]=>P.ae8 b c d e f a g h i j (fun k=>K (.v (.int .i64 k)))
 | _=>none
noncomputable def spec:Abs.Spec:=fun args K=>cu (j5 [.any,.sl (.ints .u8 []),.sl (.ints .u8 []),.sl (.ints .u8 []),.sl (.ints .u8 [])] args) K
theorem ok0:Proved Tryz.prog GLO.gx 11 cu:=pK (G:=[(14,adh.spec),(22,jy.spec),(23,ku.spec),(24,acv.spec),(25,qp.spec),(26,adl.spec),(27,p9.spec),(28,o8.spec),(29,ab8.spec),(91,nu.spec),(93,ql.spec),(94,qm.spec),(95,qo.spec),(97,qj.spec)]) (fn:=Tryz.f11) [.any] ⟨adh.ok,jy.ok,ku.ok,acv.ok,qp.ok,adl.ok,p9.ok,o8.ok,ab8.ok,nu.ok,ql.ok,qm.ok,qo.ok,qj.ok,trivial⟩ fun _ K _ h=>by
  unfold cu at h
  split at h
  · rw[P.ay1] at h;exact Aa (by kernel_rfl) h
  · cases h
theorem ok:Proved Tryz.prog GLO.gx 11 spec:=bq _ ok0
end ae8

namespace aa7
noncomputable def spec:Abs.Spec:=fun args K=>match args with
 | []=>P.aa7 (fun a=>K (.v (.bool a)))
 | _=>none
theorem ok:Proved Tryz.prog GLO.gx 9 spec:=pK (G:=[(11,ae8.spec),(13,apd.spec),(14,adh.spec)]) (fn:=Tryz.f9) [.any] ⟨ae8.ok,apd.ok,adh.ok,trivial⟩ fun _ K _ h=>by
  unfold spec at h
  split at h
  · rw[P.bb6] at h;exact Aa (by kernel_rfl) h
  · cases h
end aa7

namespace ajx
abbrev X2:=P.cb0
def S2:X2→ASt:=fun (a,b,c)=>⟨[(5,.sl (.rows .u8 a)),(6,.v (.int .i64 b)),(7,.v (.int .i64 c))],[],0,15⟩
def V2:ASt→Option X2
 | ⟨[(5,.sl (.rows .u8 a)),(6,.v (.int .i64 b)),(7,.v (.int .i64 c))],[],0,15⟩=>some (a,b,c)
 | _=>none
theorem bfp(st)(x)(h:V2 st=some x):st=S2 x:=by unfold V2 at h;split at h;(cases h;rfl);cases h
abbrev Y2:=P.cly
def E2(K:AExit→ASt→Option R):Y2→Option R:=(Sum.elim (fun x=>K (.exit 0) (S2 x)) (fun a=>K .ret ⟨[(2,.v (.bool a))],[],0,15⟩))
noncomputable def L2:p8:=fun st K=>abx (V2 st) fun x=>P.cgm x (E2 K)
noncomputable def D:Ctx:=⟨Tryz.prog,[],GLO.gx,[(2,⟨[5,6,7],[],[2],[],none,[],[],[]⟩)],[(2,L2)],[],false,none,none,[],false⟩
theorem bgm:jl D (gu Tryz.f10 2):=fq S2 bfp (by kernel_rfl) P.cpw (enc:=E2) fun _ _ _=>by kernel_rfl
theorem loops:gy (Tryz.f10.body.getD .skip)=[gu Tryz.f10 2]:=by kernel_rfl
noncomputable def cu:Abs.Spec:=fun args K=>match args with
 | [.sl (.rows .u8 a)]=>P.ajx a (fun b=>K (.v (.bool b)))
 | _=>none
noncomputable def spec:Abs.Spec:=fun args K=>cu (j5 [.sl (.rows .u8 [])] args) K
theorem ok0:Proved Tryz.prog GLO.gx 10 cu:=pL (D:=D) (fn:=Tryz.f10) [.any] trivial loops ⟨bgm,trivial⟩ fun _ K _ h=>by
  unfold cu at h
  split at h
  · rw[P.bjd] at h;exact Aa (by kernel_rfl) h
  · cases h
theorem ok:Proved Tryz.prog GLO.gx 10 spec:=bq _ ok0
end ajx

namespace kg
noncomputable def spec:Abs.Spec:=fun args K=>match args with
 | [.agg [.v (.int .i64 b),.v (.int .i64 c),.v (.int .i64 d),.v (.int .i64 e),.v (.int .i64 f),.v (.bool a)]]=>P.kg b c d e f a (fun g=>K (.v (.bool g)))
 | _=>none
theorem ok:Proved Tryz.prog GLO.gx 21 spec:=pK (G:=[]) (fn:=Tryz.f21) [.any] trivial fun _ K _ h=>by
  unfold spec at h
  split at h
  · rw[P.bjm] at h;exact Aa (by kernel_rfl) h
  · cases h
end kg

namespace ahs
noncomputable def spec:Abs.Spec:=fun args K=>match args with
 | [.agg [.v (.int .i64 b),.v (.int .i64 c),.v (.int .i64 d),.v (.int .i64 e),.v (.int .i64 f),.v (.bool a)]]=>P.ahs b c d e f a (fun g=>K (.v (.bool g)))
 | _=>none
theorem ok:Proved Tryz.prog GLO.gx 8 spec:=pK (G:=[(21,kg.spec)]) (fn:=Tryz.f8) [.any] ⟨kg.ok,trivial⟩ fun _ K _ h=>by
  unfold spec at h
  split at h
  · rw[P.ajk] at h;exact Aa (by kernel_rfl) h
  · cases h
end ahs

namespace ag5
abbrev X4:=P.cdt
def S4:X4→ASt:=fun (a,b,c)=>⟨[(0,.sl (.ints .u8 a)),(1,.sl (.ints .u8 b)),(5,.v (.int .i64 c))],[],0,26⟩
def V4:ASt→Option X4
 | ⟨[(0,.sl (.ints .u8 a)),(1,.sl (.ints .u8 b)),(5,.v (.int .i64 c))],[],0,26⟩=>some (a,b,c)
 | _=>none
theorem axb(st)(x)(h:V4 st=some x):st=S4 x:=by unfold V4 at h;split at h;(cases h;rfl);cases h
abbrev Y4:=P.cnx
def E4(K:AExit→ASt→Option R):Y4→Option R:=(Sum.elim (fun x=>K (.exit 0) (S4 x)) (fun a=>K .ret ⟨[(4,.v (.bool a))],[],0,26⟩))
noncomputable def L4:p8:=fun st K=>abx (V4 st) fun x=>P.cm9 x (E4 K)
noncomputable def D:Ctx:=⟨Tryz.prog,[],GLO.gx,[(4,⟨[0,1,5],[],[4],[],none,[],[],[]⟩)],[(4,L4)],[],false,none,none,[],false⟩
theorem awr:jl D (gu Tryz.f18 4):=fq S4 axb (by kernel_rfl) P.cp5 (enc:=E4) fun _ _ _=>by kernel_rfl
theorem loops:gy (Tryz.f18.body.getD .skip)=[gu Tryz.f18 4]:=by kernel_rfl
noncomputable def cu:Abs.Spec:=fun args K=>match args with
 | [.sl (.ints .u8 a),.sl (.ints .u8 b)]=>P.ag5 a b (fun c=>K (.v (.bool c)))
 | _=>none
noncomputable def spec:Abs.Spec:=fun args K=>cu (j5 [.sl (.ints .u8 []),.sl (.ints .u8 [])] args) K
theorem ok0:Proved Tryz.prog GLO.gx 18 cu:=pL (D:=D) (fn:=Tryz.f18) [.any] trivial loops ⟨awr,trivial⟩ fun _ K _ h=>by
  unfold cu at h
  split at h
  · rw[P.bhc] at h;exact Aa (by kernel_rfl) h
  · cases h
theorem ok:Proved Tryz.prog GLO.gx 18 spec:=bq _ ok0
end ag5

namespace iy
abbrev X3:=P.b5v
def S3:X3→ASt:=fun (a,b,c)=>⟨[(3,.own 0),(0,.sl (.rows .u8 a)),(4,.v (.int .i64 b))],[(0,some ⟨.row 5 (.ints .u8 c),false⟩)],1,18⟩
def V3:ASt→Option X3
 | ⟨[(3,.own 0),(0,.sl (.rows .u8 a)),(4,.v (.int .i64 b))],[(0,some ⟨.row 5 (.ints .u8 c),false⟩)],1,18⟩=>some (a,b,c)
 | _=>none
theorem apk(st)(x)(h:V3 st=some x):st=S3 x:=by unfold V3 at h;split at h;(cases h;rfl);cases h
abbrev Y3:=P.cfs
def E3(K:AExit→ASt→Option R):Y3→Option R:=(fun x=>K (.exit 0) (S3 x))
noncomputable def L3:p8:=fun st K=>abx (V3 st) fun x=>P.cku x (E3 K)
noncomputable def D:Ctx:=⟨Tryz.prog,[],GLO.gx,[(3,⟨[0,4],[(3,5,.ints .u8 [])],[2],[],none,[],[],[]⟩)],[(3,L3)],[],false,none,none,[],false⟩
theorem aqa:jl D (gu Tryz.f43 3):=fq S3 apk (by kernel_rfl) P.cqm (enc:=E3) fun _ _ _=>by kernel_rfl
theorem loops:gy (Tryz.f43.body.getD .skip)=[gu Tryz.f43 3]:=by kernel_rfl
noncomputable def cu:Abs.Spec:=fun args K=>match args with
 | [.sl (.rows .u8 a)]=>P.iy a (fun b=>K (.fr 5 (.ints .u8 b)))
 | _=>none
noncomputable def spec:Abs.Spec:=fun args K=>cu (j5 [.sl (.rows .u8 [])] args) K
theorem ok0:Proved Tryz.prog GLO.gx 43 cu:=pL (D:=D) (fn:=Tryz.f43) [.fr 5 (.ints .u8 [])] trivial loops ⟨aqa,trivial⟩ fun _ K _ h=>by
  unfold cu at h
  split at h
  · rw[P.be8] at h;exact Aa (by kernel_rfl) h
  · cases h
theorem ok:Proved Tryz.prog GLO.gx 43 spec:=bq _ ok0
end iy

namespace yx
abbrev X5:=P.b8d
def S5:X5→ASt:=fun (a,b,c)=>⟨[(0,.v (.int .u64 a)),(5,.own 0),(6,.v (.int .i64 b))],[(0,some ⟨.row 5 (.ints .u8 c),false⟩)],1,30⟩
def V5:ASt→Option X5
 | ⟨[(0,.v (.int .u64 a)),(5,.own 0),(6,.v (.int .i64 b))],[(0,some ⟨.row 5 (.ints .u8 c),false⟩)],1,30⟩=>some (a,b,c)
 | _=>none
theorem aub(st)(x)(h:V5 st=some x):st=S5 x:=by unfold V5 at h;split at h;(cases h;rfl);cases h
abbrev Y5:=P.cj3
def E5(K:AExit→ASt→Option R):Y5→Option R:=(fun x=>K (.exit 0) (S5 x))
noncomputable def L5:p8:=fun st K=>abx (V5 st) fun x=>P.cf7 x (E5 K)
noncomputable def D:Ctx:=⟨Tryz.prog,[],GLO.gx,[(5,⟨[0,5,6],[],[4],[],none,[],[],[]⟩)],[(5,L5)],[],false,none,none,[],false⟩
theorem ar3:jl D (gu Tryz.f81 5):=fq S5 aub (by kernel_rfl) P.cqs (enc:=E5) fun _ _ _=>by kernel_rfl
theorem loops:gy (Tryz.f81.body.getD .skip)=[gu Tryz.f81 5]:=by kernel_rfl
noncomputable def spec:Abs.Spec:=fun args K=>match args with
 | [.v (.int .u64 a),.v (.int .i64 b)]=>P.yx a b (fun c=>K (.fr 5 (.ints .u8 c)))
 | _=>none
theorem ok:Proved Tryz.prog GLO.gx 81 spec:=pL (D:=D) (fn:=Tryz.f81) [.fr 5 (.ints .u8 [])] trivial loops ⟨ar3,trivial⟩ fun _ K _ h=>by
  unfold spec at h
  split at h
  · rw[P.bn1] at h;exact Aa (by kernel_rfl) h
  · cases h
end yx

namespace ahc
noncomputable def cu:Abs.Spec:=fun args K=>match args with
 | [.sl (.ints .u8 a),.v (.int .i64 b),.v (.int .i64 c)]=>P.ahc a b c (fun d=>K (.v (.bool d)))
 | _=>none
noncomputable def spec:Abs.Spec:=fun args K=>cu (j5 [.sl (.ints .u8 []),.any,.any] args) K
theorem ok0:Proved Tryz.prog GLO.gx 117 cu:=pK (G:=[]) (fn:=Tryz.f117) [.any] trivial fun _ K _ h=>by
  unfold cu at h
  split at h
  · rw[P.bf9] at h;exact Aa (by kernel_rfl) h
  · cases h
theorem ok:Proved Tryz.prog GLO.gx 117 spec:=bq _ ok0
end ahc

namespace pq
abbrev X9:=P.b56
def S9:X9→ASt:=fun (b,c,d,e,f,a,g)=>⟨[(0,.sl (.ints .u8 b)),(1,.v (.int .i64 c)),(2,.v (.int .i64 d)),(7,.own 0),(8,.v (.int .i64 e)),(9,.v (.int .u32 f)),(10,.v (.int .i64 a))],[(0,some ⟨.row 102 (.ints .u32 g),false⟩)],1,51⟩
def V9:ASt→Option X9
 | ⟨[(0,.sl (.ints .u8 b)),(1,.v (.int .i64 c)),(2,.v (.int .i64 d)),(7,.own 0),(8,.v (.int .i64 e)),(9,.v (.int .u32 f)),(10,.v (.int .i64 a))],[(0,some ⟨.row 102 (.ints .u32 g),false⟩)],1,51⟩=>some (b,c,d,e,f,a,g)
 | _=>none
theorem b43(st)(x)(h:V9 st=some x):st=S9 x:=by unfold V9 at h;split at h;(cases h;rfl);cases h
abbrev Y9:=P.cnk
abbrev X5:=P.b6v
def S5:X5→ASt:=fun (a,b,c,d,e)=>⟨[(7,.own 0),(0,.sl (.ints .u8 a)),(1,.v (.int .i64 b)),(2,.v (.int .i64 c)),(8,.v (.int .i64 d))],[(0,some ⟨.row 102 (.ints .u32 e),false⟩)],1,51⟩
def V5:ASt→Option X5
 | ⟨[(7,.own 0),(0,.sl (.ints .u8 a)),(1,.v (.int .i64 b)),(2,.v (.int .i64 c)),(8,.v (.int .i64 d))],[(0,some ⟨.row 102 (.ints .u32 e),false⟩)],1,51⟩=>some (a,b,c,d,e)
 | _=>none
theorem aub(st)(x)(h:V5 st=some x):st=S5 x:=by unfold V5 at h;split at h;(cases h;rfl);cases h
abbrev Y5:=P.cie
def E9(K:AExit→ASt→Option R):Y9→Option R:=(fun x=>K (.exit 2) (S9 x))
noncomputable def L9:p8:=fun st K=>abx (V9 st) fun x=>P.cjk x (E9 K)
def E5(K:AExit→ASt→Option R):Y5→Option R:=(fun x=>K (.exit 0) (S5 x))
noncomputable def L5:p8:=fun st K=>abx (V5 st) fun x=>P.cjx x (E5 K)
noncomputable def D:Ctx:=⟨Tryz.prog,[(117,ahc.spec)],GLO.gx,[(9,⟨[0,1,2,7,8,9,10],[],[6],[],none,[],[],[]⟩),(5,⟨[0,1,2,8],[(7,102,.ints .u32 [])],[6],[],none,[],[],[]⟩)],[(9,L9),(5,L5)],[],false,none,none,[],false⟩
theorem b3y:jl D (gu Tryz.f66 9):=fq S9 b43 (by kernel_rfl) P.crp (enc:=E9) fun _ _ _=>by kernel_rfl
theorem ar3:jl D (gu Tryz.f66 5):=fq S5 aub (by kernel_rfl) P.csa (enc:=E5) fun _ _ _=>by kernel_rfl
theorem loops:gy (Tryz.f66.body.getD .skip)=[gu Tryz.f66 5,gu Tryz.f66 9]:=by kernel_rfl
noncomputable def cu:Abs.Spec:=fun args K=>match args with
 | [.sl (.ints .u8 a),.v (.int .i64 b),.v (.int .i64 c)]=>P.pq a b c (fun d=>K (.fr 102 (.ints .u32 d)))
 | _=>none
noncomputable def spec:Abs.Spec:=fun args K=>cu (j5 [.sl (.ints .u8 []),.any,.any] args) K
theorem ok0:Proved Tryz.prog GLO.gx 66 cu:=pL (D:=D) (fn:=Tryz.f66) [.fr 102 (.ints .u32 [])] ⟨ahc.ok,trivial⟩ loops ⟨ar3,b3y,trivial⟩ fun _ K _ h=>by
  unfold cu at h
  split at h
  · rw[P.ax4] at h;exact Aa (by kernel_rfl) h
  · cases h
theorem ok:Proved Tryz.prog GLO.gx 66 spec:=bq _ ok0
end pq

end
