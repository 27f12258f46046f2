/-
  SlhVerifies, part 20: an interpreter of my own over abstract values, the pure functions, the walks and the plain law.
-/

import Derived.Test.YtciddcopcdmnbaaGreatDoorSlhVerifiesL
import Derived.Test.YtciddcopcdmnbaaGreatDoorSlhVerifiesH
import Derived.Test.YtciddcopcdmnbaaGreatDoorProg
import Derived.Test.YtciddcopcdmnbaaGreatDoorSlhVerifiesJ
import Derived.Test.YtciddcopcdmnbaaGreatDoorSlhVerifiesN
import Derived.Test.YtciddcopcdmnbaaGreatDoorSlhVerifiesP
import Derived.Test.YtciddcopcdmnbaaGreatDoorSlhVerifiesS
import Derived.Test.YtciddcopcdmnbaaGreatDoorSlhVerifiesQ
import Derived.KernelRfl
import Derived.Test.YtciddcopcdmnbaaGreatDoorSlhVerifiesR
import Derived.Test.YtciddcopcdmnbaaGreatDoorSlhVerifiesI
open Eq renaming trans → Aa

section
open Go Go.Abs Go.Proofs
set_option maxRecDepth 100000
set_option maxHeartbeats 0
set_option linter.unusedVariables false

namespace yu
noncomputable def D:Ctx:=({ P:=Tryz.prog,G:=[(39,jc.spec),(170,zy.spec),(186,jo.spec),(188,jq.spec)],globs:=GLO.gx,hints:=[],loops:=[],inl:=[] }:Ctx)
theorem loops:dn (Tryz.f148.body.getD .skip)=[]:=by kernel_rfl
noncomputable def bn:Abs.Spec:=fun args K=>match args with
 | [.agg [.v (.int .i64 p),.v (.int .i64 q),.v (.int .i64 r),.v (.int .i64 s),.v (.int .i64 t),.v (.bool l),.alt u (.func 186) [] [.sta [.v (.int .i64 d),.arr .u64 25 a,.v (.int .i64 m),.v (.bool k)],.sta [.v (.int .i64 n)]] (.func 188) [] [.sta [.v (.int .i64 e),.arr .u64 8 b,.sl (.ints .u8 f),.v (.int .u64 g)],.sta [.v (.int .i64 o)],.sta [.v (.int .i64 h),.arr .u64 8 c,.sl (.ints .u8 i),.v (.int .u64 j)]]],.sl (.ints .u8 w),.arr .u8 32 y]=>P.yu p q r s t l u d a m k n e b f g o h c i j w y (fun z=>K (.sl (.ints .u8 z)))
 | _=>none
noncomputable def spec:Abs.Spec:=fun args K=>bn (mh [.agg [.any,.any,.any,.any,.any,.any,.alt (.func 186) [] [.sta [.v (.int .i64 0),.arr .u64 25 [],.v (.int .i64 0),.v (.bool false)],.sta [.v (.int .i64 0)]] (.func 188) [] [.sta [.v (.int .i64 0),.arr .u64 8 [],.sl (.ints .u8 []),.v (.int .u64 0)],.sta [.v (.int .i64 0)],.sta [.v (.int .i64 0),.arr .u64 8 [],.sl (.ints .u8 []),.v (.int .u64 0)]]],.sl (.ints .u8 []),.any] args) K
theorem ok0:Proved Tryz.prog GLO.gx 148 bn:=by
 refine bq (D:=D) (fn:=Tryz.f148) (c:=Tryz.f148.body.getD .skip) [.sl (.ints .u8 [])] (by kernel_rfl) (bg (by kernel_rfl)) (by kernel_rfl) (by kernel_rfl) (by kernel_rfl) ⟨jc.ok,zy.ok,jo.ok,jq.ok,trivial⟩ trivial ?_ ?_
 · rw[loops];exact trivial
 · intro args K r h
   unfold bn at h
   split at h
   · rw[P.alg] at h;exact Aa (by kernel_rfl) h
   · cases h
theorem ok:Proved Tryz.prog GLO.gx 148 spec:=dx _ ok0
end yu

namespace vv
abbrev X6:=P.b0w
def S6:X6→ASt:=fun (I,G,H,J,o,p,q,r,s,t,u,w,y,z,A,B,C,F,a,b,c,d,e,f,g,h,i,j,k,l,m,n,M)=>⟨[(13,.own 4),(1,.sl (.ints .u8 I)),(5,.ptr 0 0),(9,.ptr 1 0),(11,.ptr 2 0),(44,.own 3),(45,.v (.int .i64 G)),(46,.v (.int .i64 H))],[(4,some ⟨.row 5 (.ints .u8 J),false⟩),(0,some ⟨.box 23 [.v (.int .i64 o),.v (.int .i64 p),.v (.int .i64 q),.v (.int .i64 r),.v (.int .i64 s),.v (.bool t)],false⟩),(1,some ⟨.box 64 [.arr .u8 32 u],false⟩),(2,some ⟨.box 165 [.v (.int .i64 w),.v (.int .i64 y),.v (.int .i64 z),.v (.int .i64 A),.v (.int .i64 B),.v (.bool C),.alt F (.func 186) [] [.sta [.v (.int .i64 a),.arr .u64 25 b,.v (.int .i64 c),.v (.bool d)],.sta [.v (.int .i64 e)]] (.func 188) [] [.sta [.v (.int .i64 f),.arr .u64 8 g,.sl (.ints .u8 h),.v (.int .u64 i)],.sta [.v (.int .i64 j)],.sta [.v (.int .i64 k),.arr .u64 8 l,.sl (.ints .u8 m),.v (.int .u64 n)]]],false⟩),(3,some ⟨.row 102 (.ints .u32 M),false⟩)],5,73⟩
def V6:ASt→Option X6
 | ⟨[(13,.own 4),(1,.sl (.ints .u8 I)),(5,.ptr 0 0),(9,.ptr 1 0),(11,.ptr 2 0),(44,.own 3),(45,.v (.int .i64 G)),(46,.v (.int .i64 H))],[(4,some ⟨.row 5 (.ints .u8 J),false⟩),(0,some ⟨.box 23 [.v (.int .i64 o),.v (.int .i64 p),.v (.int .i64 q),.v (.int .i64 r),.v (.int .i64 s),.v (.bool t)],false⟩),(1,some ⟨.box 64 [.arr .u8 32 u],false⟩),(2,some ⟨.box 165 [.v (.int .i64 w),.v (.int .i64 y),.v (.int .i64 z),.v (.int .i64 A),.v (.int .i64 B),.v (.bool C),.alt F (.func 186) [] [.sta [.v (.int .i64 a),.arr .u64 25 b,.v (.int .i64 c),.v (.bool d)],.sta [.v (.int .i64 e)]] (.func 188) [] [.sta [.v (.int .i64 f),.arr .u64 8 g,.sl (.ints .u8 h),.v (.int .u64 i)],.sta [.v (.int .i64 j)],.sta [.v (.int .i64 k),.arr .u64 8 l,.sl (.ints .u8 m),.v (.int .u64 n)]]],false⟩),(3,some ⟨.row 102 (.ints .u32 M),false⟩)],5,73⟩=>some (I,G,H,J,o,p,q,r,s,t,u,w,y,z,A,B,C,F,a,b,c,d,e,f,g,h,i,j,k,l,m,n,M)
 | _=>none
theorem aua(st)(x)(h:V6 st=some x):st=S6 x:=by
 unfold V6 at h
 split at h
 · cases h;rfl
 · cases h
abbrev Y6:=P.cdo
def E6(K:AExit→ASt→Option R):Y6→Option R:=(fun x=>K (.exit 0) (S6 x))
noncomputable def L6:qy:=fun st K=>adb (V6 st) fun x=>P.cga x (E6 K)
noncomputable def D:Ctx:=({ P:=Tryz.prog,G:=[(39,jc.spec),(144,abk.spec),(145,uw.spec),(146,aau.spec),(147,uz.spec),(148,yu.spec)],globs:=GLO.gx,hints:=[(6,⟨[1,5,9,11,44,45,46],[(13,5,.ints .u8 [])],[10],[(1,.sl (.ints .u8 []))],none,[],[],[]⟩)],loops:=[(6,L6)],inl:=[] }:Ctx)
theorem akj(K)(next)(x):kg D (gq Tryz.f107 6) K next (S6 x)=P.b4a x (fun x=>next (S6 x)) (E6 K):=by kernel_rfl
theorem au4:jr D (gq Tryz.f107 6):=iy S6 aua (by kernel_rfl) P.cil akj
theorem loops:dn (Tryz.f107.body.getD .skip)=[gq Tryz.f107 6]:=by kernel_rfl
noncomputable def bn:Abs.Spec:=fun args K=>match args with
 | [.agg [.v (.int .i64 b),.v (.int .i64 c),.v (.int .i64 d),.v (.int .i64 e),.v (.int .i64 f),.v (.bool a)],.sl (.ints .u8 g),.sl (.ints .u8 h),.sl (.ints .u8 i),.arr .u8 32 j]=>P.vv b c d e f a g h i j (fun k=>K (.sl (.ints .u8 k)))
 | _=>none
noncomputable def spec:Abs.Spec:=fun args K=>bn (mh [.any,.sl (.ints .u8 []),.sl (.ints .u8 []),.sl (.ints .u8 []),.any] args) K
theorem ok0:Proved Tryz.prog GLO.gx 107 bn:=by
 refine bq (D:=D) (fn:=Tryz.f107) (c:=Tryz.f107.body.getD .skip) [.sl (.ints .u8 [])] (by kernel_rfl) (bg (by kernel_rfl)) (by kernel_rfl) (by kernel_rfl) (by kernel_rfl) ⟨jc.ok,abk.ok,uw.ok,aau.ok,uz.ok,yu.ok,trivial⟩ trivial ?_ ?_
 · rw[loops];exact ⟨au4,trivial⟩
 · intro args K r h
   unfold bn at h
   split at h
   · rw[P.am9] at h;exact Aa (by kernel_rfl) h
   · cases h
theorem ok:Proved Tryz.prog GLO.gx 107 spec:=dx _ ok0
end vv

namespace zn
abbrev X2:=P.b7y
def S2:X2→ASt:=fun (g,h,i,a,b,c,d,e,f)=>⟨[(2,.ptr 0 0),(7,.sl (.rows .u8 g)),(8,.v (.int .i64 h)),(9,.v (.int .i64 i))],[(0,some ⟨.box 23 [.v (.int .i64 a),.v (.int .i64 b),.v (.int .i64 c),.v (.int .i64 d),.v (.int .i64 e),.v (.bool f)],false⟩)],1,21⟩
def V2:ASt→Option X2
 | ⟨[(2,.ptr 0 0),(7,.sl (.rows .u8 g)),(8,.v (.int .i64 h)),(9,.v (.int .i64 i))],[(0,some ⟨.box 23 [.v (.int .i64 a),.v (.int .i64 b),.v (.int .i64 c),.v (.int .i64 d),.v (.int .i64 e),.v (.bool f)],false⟩)],1,21⟩=>some (g,h,i,a,b,c,d,e,f)
 | _=>none
theorem bcl(st)(x)(h:V2 st=some x):st=S2 x:=by
 unfold V2 at h
 split at h
 · cases h;rfl
 · cases h
abbrev Y2:=P.b8o
def E2(K:AExit→ASt→Option R):Y2→Option R:=(Sum.elim (fun x=>K (.exit 0) (S2 x)) (fun (g,a,b,c,d,e,f)=>K .ret ⟨[(4,.v (.bool g))],[(0,some ⟨.box 23 [.v (.int .i64 a),.v (.int .i64 b),.v (.int .i64 c),.v (.int .i64 d),.v (.int .i64 e),.v (.bool f)],false⟩)],1,21⟩))
noncomputable def L2:qy:=fun st K=>adb (V2 st) fun x=>P.cfm x (E2 K)
noncomputable def D:Ctx:=({ P:=Tryz.prog,G:=[(22,jv.spec)],globs:=GLO.gx,hints:=[(2,⟨[2,7,8,9],[],[4],[],none,[],[],[]⟩)],loops:=[(2,L2)],inl:=[] }:Ctx)
theorem arj(K)(next)(x):kg D (gq Tryz.f55 2) K next (S2 x)=P.b2i x (fun x=>next (S2 x)) (E2 K):=by kernel_rfl
theorem bdd:jr D (gq Tryz.f55 2):=iy S2 bcl (by kernel_rfl) P.chh arj
theorem loops:dn (Tryz.f55.body.getD .skip)=[gq Tryz.f55 2]:=by kernel_rfl
noncomputable def bn:Abs.Spec:=fun args K=>match args with
 | [.agg [.v (.int .i64 b),.v (.int .i64 c),.v (.int .i64 d),.v (.int .i64 e),.v (.int .i64 f),.v (.bool a)],.sl (.rows .u8 g)]=>P.zn b c d e f a g (fun h=>K (.v (.bool h)))
 | _=>none
noncomputable def spec:Abs.Spec:=fun args K=>bn (mh [.any,.sl (.rows .u8 [])] args) K
theorem ok0:Proved Tryz.prog GLO.gx 55 bn:=by
 refine bq (D:=D) (fn:=Tryz.f55) (c:=Tryz.f55.body.getD .skip) [.any] (by kernel_rfl) (bg (by kernel_rfl)) (by kernel_rfl) (by kernel_rfl) (by kernel_rfl) ⟨jv.ok,trivial⟩ trivial ?_ ?_
 · rw[loops];exact ⟨bdd,trivial⟩
 · intro args K r h
   unfold bn at h
   split at h
   · rw[P.ayd] at h;exact Aa (by kernel_rfl) h
   · cases h
theorem ok:Proved Tryz.prog GLO.gx 55 spec:=dx _ ok0
end zn

namespace z8
noncomputable def D:Ctx:=({ P:=Tryz.prog,G:=[(39,jc.spec)],globs:=GLO.gx,hints:=[],loops:=[],inl:=[] }:Ctx)
theorem loops:dn (Tryz.f108.body.getD .skip)=[]:=by kernel_rfl
noncomputable def bn:Abs.Spec:=fun args K=>match args with
 | [.agg [.v (.int .i64 c),.v (.int .i64 d),.v (.int .i64 e),.v (.int .i64 f),.v (.int .i64 g),.v (.bool a),.sl (.ints .u8 b),.sl (.ints .u8 h),.arr .u8 32 i],.v (.int .u64 j)]=>P.z8 c d e f g a b h i j (fun k=>K (.arr .u8 32 k))
 | _=>none
noncomputable def spec:Abs.Spec:=fun args K=>bn (mh [.agg [.any,.any,.any,.any,.any,.any,.sl (.ints .u8 []),.sl (.ints .u8 []),.any],.any] args) K
theorem ok0:Proved Tryz.prog GLO.gx 108 bn:=by
 refine bq (D:=D) (fn:=Tryz.f108) (c:=Tryz.f108.body.getD .skip) [.any] (by kernel_rfl) (bg (by kernel_rfl)) (by kernel_rfl) (by kernel_rfl) (by kernel_rfl) ⟨jc.ok,trivial⟩ trivial ?_ ?_
 · rw[loops];exact trivial
 · intro args K r h
   unfold bn at h
   split at h
   · rw[P.anm] at h;exact Aa (by kernel_rfl) h
   · cases h
theorem ok:Proved Tryz.prog GLO.gx 108 spec:=dx _ ok0
end z8

namespace x9
noncomputable def D:Ctx:=({ P:=Tryz.prog,G:=[(39,jc.spec),(40,jd.spec),(104,aao.spec)],globs:=GLO.gx,hints:=[],loops:=[],inl:=[] }:Ctx)
theorem loops:dn (Tryz.f109.body.getD .skip)=[]:=by kernel_rfl
noncomputable def bn:Abs.Spec:=fun args K=>match args with
 | [.agg [.v (.int .i64 c),.v (.int .i64 d),.v (.int .i64 e),.v (.int .i64 f),.v (.int .i64 g),.v (.bool a),.sl (.ints .u8 b),.sl (.ints .u8 h),.arr .u8 32 i],.v (.int .i64 j),.v (.int .u64 k),.sl (.ints .u8 l),.sl (.ints .u8 m)]=>P.x9 c d e f g a b h i j k l m (fun n=>K (.sl (.ints .u8 n)))
 | _=>none
noncomputable def spec:Abs.Spec:=fun args K=>bn (mh [.agg [.any,.any,.any,.any,.any,.any,.sl (.ints .u8 []),.sl (.ints .u8 []),.any],.any,.any,.sl (.ints .u8 []),.sl (.ints .u8 [])] args) K
theorem ok0:Proved Tryz.prog GLO.gx 109 bn:=by
 refine bq (D:=D) (fn:=Tryz.f109) (c:=Tryz.f109.body.getD .skip) [.sl (.ints .u8 [])] (by kernel_rfl) (bg (by kernel_rfl)) (by kernel_rfl) (by kernel_rfl) (by kernel_rfl) ⟨jc.ok,jd.ok,aao.ok,trivial⟩ trivial ?_ ?_
 · rw[loops];exact trivial
 · intro args K r h
   unfold bn at h
   split at h
   · rw[P.amv] at h;exact Aa (by kernel_rfl) h
   · cases h
theorem ok:Proved Tryz.prog GLO.gx 109 spec:=dx _ ok0
end x9

namespace l8
abbrev X7:=P.b5s
def S7:X7→ASt:=fun (s,o,p,q,r,a,b,c,d,e,f,g,h,i,j,k,l,m,n)=>⟨[(5,.v (.int .u64 s)),(6,.ptr 0 0),(13,.ptr 3 0),(15,.sl (.ints .u8 o)),(16,.sl (.ints .u8 p)),(66,.v (.int .i64 q)),(67,.v (.int .i64 r))],[(0,some ⟨.box 23 [.v (.int .i64 a),.v (.int .i64 b),.v (.int .i64 c),.v (.int .i64 d),.v (.int .i64 e),.v (.bool f)],false⟩),(3,some ⟨.box 108 [.v (.int .i64 g),.v (.int .i64 h),.v (.int .i64 i),.v (.int .i64 j),.v (.int .i64 k),.v (.bool l),.v (.slice none 0 0),.sl (.ints .u8 m),.arr .u8 32 n],false⟩)],40,98⟩
def V7:ASt→Option X7
 | ⟨[(5,.v (.int .u64 s)),(6,.ptr 0 0),(13,.ptr 3 0),(15,.sl (.ints .u8 o)),(16,.sl (.ints .u8 p)),(66,.v (.int .i64 q)),(67,.v (.int .i64 r))],[(0,some ⟨.box 23 [.v (.int .i64 a),.v (.int .i64 b),.v (.int .i64 c),.v (.int .i64 d),.v (.int .i64 e),.v (.bool f)],false⟩),(3,some ⟨.box 108 [.v (.int .i64 g),.v (.int .i64 h),.v (.int .i64 i),.v (.int .i64 j),.v (.int .i64 k),.v (.bool l),.v (.slice none 0 0),.sl (.ints .u8 m),.arr .u8 32 n],false⟩)],40,98⟩=>some (s,o,p,q,r,a,b,c,d,e,f,g,h,i,j,k,l,m,n)
 | _=>none
theorem bcq(st)(x)(h:V7 st=some x):st=S7 x:=by
 unfold V7 at h
 split at h
 · cases h;rfl
 · cases h
abbrev Y7:=P.cbd
def E7(K:AExit→ASt→Option R):Y7→Option R:=(fun x=>K (.exit 0) (S7 x))
noncomputable def L7:qy:=fun st K=>adb (V7 st) fun x=>P.ceq x (E7 K)
noncomputable def D:Ctx:=({ P:=Tryz.prog,G:=[(36,o7.spec),(55,zn.spec),(73,kr.spec),(107,vv.spec),(108,z8.spec),(109,x9.spec)],globs:=GLO.gx,hints:=[(7,⟨[5,6,13,15,16,66,67],[],[12],[(15,.sl (.ints .u8 [])),(16,.sl (.ints .u8 []))],some (40,[0,3]),[],[],[]⟩)],loops:=[(7,L7)],inl:=[] }:Ctx)
theorem ars(K)(next)(x):kg D (gq Tryz.f58 7) K next (S7 x)=P.b2a x (fun x=>next (S7 x)) (E7 K):=by kernel_rfl
theorem bbt:jr D (gq Tryz.f58 7):=iy S7 bcq (by kernel_rfl) P.cgm ars
theorem loops:dn (Tryz.f58.body.getD .skip)=[gq Tryz.f58 7]:=by kernel_rfl
noncomputable def bn:Abs.Spec:=fun args K=>match args with
 | [.agg [.v (.int .i64 b),.v (.int .i64 c),.v (.int .i64 d),.v (.int .i64 e),.v (.int .i64 f),.v (.bool a)],.sl (.ints .u8 g),.sl (.ints .u8 h),.sl (.ints .u8 i),.arr .u8 32 j,.v (.int .u64 k)]=>P.l8 b c d e f a g h i j k (fun l=>K (.sl (.ints .u8 l)))
 | _=>none
noncomputable def spec:Abs.Spec:=fun args K=>bn (mh [.any,.sl (.ints .u8 []),.sl (.ints .u8 []),.sl (.ints .u8 []),.any,.any] args) K
theorem ok0:Proved Tryz.prog GLO.gx 58 bn:=by
 refine bq (D:=D) (fn:=Tryz.f58) (c:=Tryz.f58.body.getD .skip) [.sl (.ints .u8 [])] (by kernel_rfl) (bg (by kernel_rfl)) (by kernel_rfl) (by kernel_rfl) (by kernel_rfl) ⟨o7.ok,zn.ok,kr.ok,vv.ok,z8.ok,x9.ok,trivial⟩ trivial ?_ ?_
 · rw[loops];exact ⟨bbt,trivial⟩
 · intro args K r h
   unfold bn at h
   split at h
   · rw[P.amw] at h;exact Aa (by kernel_rfl) h
   · cases h
theorem ok:Proved Tryz.prog GLO.gx 58 spec:=dx _ ok0
end l8

namespace ug
noncomputable def D:Ctx:=({ P:=Tryz.prog,G:=[(73,kr.spec)],globs:=GLO.gx,hints:=[],loops:=[],inl:=[] }:Ctx)
theorem loops:dn (Tryz.f56.body.getD .skip)=[]:=by kernel_rfl
noncomputable def bn:Abs.Spec:=fun args K=>match args with
 | [.agg [.v (.int .i64 b),.v (.int .i64 c),.v (.int .i64 d),.v (.int .i64 e),.v (.int .i64 f),.v (.bool a)],.v (.int .u64 g),.v (.int .u64 h)]=>P.ug b c d e f a g h (fun i=>K (.v (.bool i)))
 | _=>none
noncomputable def spec:Abs.Spec:=bn
theorem ok0:Proved Tryz.prog GLO.gx 56 bn:=by
 refine bq (D:=D) (fn:=Tryz.f56) (c:=Tryz.f56.body.getD .skip) [.any] (by kernel_rfl) (bg (by kernel_rfl)) (by kernel_rfl) (by kernel_rfl) (by kernel_rfl) ⟨kr.ok,trivial⟩ trivial ?_ ?_
 · rw[loops];exact trivial
 · intro args K r h
   unfold bn at h
   split at h
   · rw[P.ath] at h;exact Aa (by kernel_rfl) h
   · cases h
theorem ok:Proved Tryz.prog GLO.gx 56 spec:=ok0
end ug

namespace aak
abbrev b4e:=P.b1b
def br8:b4e→ASt:=fun (a,s,t,b,c,d,e,f,g,h,i,j,k,l,m,n,o,p,q,r)=>⟨[(0,.yld 8 [4,7,8,9,10] [.sl (.ints .u8 a),.ptr 0 0,.ptr 1 0,.ptr 2 0,.ptr 3 0]),(1,.ptr 5 0),(2,.ptr 6 0),(3,.ptr 7 0),(8,.v (.int .i64 s)),(9,.v (.int .i64 t))],[(0,some ⟨.box 23 [.v (.int .i64 b),.v (.int .i64 c),.v (.int .i64 d),.v (.int .i64 e),.v (.int .i64 f),.v (.bool g)],false⟩),(1,some ⟨.box 24 [.sl (.ints .u8 h)],false⟩),(2,some ⟨.box 24 [.sl (.ints .u8 i)],false⟩),(3,some ⟨.box 24 [.sl (.ints .u8 j)],false⟩),(5,some ⟨.box 23 [.v (.int .i64 k),.v (.int .i64 l),.v (.int .i64 m),.v (.int .i64 n),.v (.int .i64 o),.v (.bool p)],false⟩),(6,some ⟨.box 53 [.v (.int .u64 q)],false⟩),(7,some ⟨.box 53 [.v (.int .u64 r)],false⟩)],840,35⟩
def bx3:ASt→Option b4e
 | ⟨[(0,.yld 8 [4,7,8,9,10] [.sl (.ints .u8 a),.ptr 0 0,.ptr 1 0,.ptr 2 0,.ptr 3 0]),(1,.ptr 5 0),(2,.ptr 6 0),(3,.ptr 7 0),(8,.v (.int .i64 s)),(9,.v (.int .i64 t))],[(0,some ⟨.box 23 [.v (.int .i64 b),.v (.int .i64 c),.v (.int .i64 d),.v (.int .i64 e),.v (.int .i64 f),.v (.bool g)],false⟩),(1,some ⟨.box 24 [.sl (.ints .u8 h)],false⟩),(2,some ⟨.box 24 [.sl (.ints .u8 i)],false⟩),(3,some ⟨.box 24 [.sl (.ints .u8 j)],false⟩),(5,some ⟨.box 23 [.v (.int .i64 k),.v (.int .i64 l),.v (.int .i64 m),.v (.int .i64 n),.v (.int .i64 o),.v (.bool p)],false⟩),(6,some ⟨.box 53 [.v (.int .u64 q)],false⟩),(7,some ⟨.box 53 [.v (.int .u64 r)],false⟩)],840,35⟩=>some (a,s,t,b,c,d,e,f,g,h,i,j,k,l,m,n,o,p,q,r)
 | _=>none
theorem blf(st)(x)(h:bx3 st=some x):st=br8 x:=by
 unfold bx3 at h
 split at h
 · cases h;rfl
 · cases h
abbrev cbl:=P.cbh
def b30(K:AExit→ASt→Option R):cbl→Option R:=(fun x=>K (.exit 0) (br8 x))
noncomputable def ceb:qy:=fun st K=>adb (bx3 st) fun x=>P.b9i x (b30 K)
noncomputable def D3:Ctx:=({ P:=Tryz.prog,G:=[(36,o7.spec),(39,jc.spec),(55,zn.spec),(56,ug.spec),(58,l8.spec),(59,aag.spec),(73,kr.spec)],globs:=GLO.gx,hints:=[],loops:=[],inl:=[],y:=some (bi6 (ak8 Tryz.f29 5) 64 false) }:Ctx)
noncomputable def D2:Ctx:=({ P:=Tryz.prog,G:=[(36,o7.spec),(39,jc.spec),(55,zn.spec),(56,ug.spec),(58,l8.spec),(59,aag.spec),(73,kr.spec)],globs:=GLO.gx,hints:=[(1,⟨[0,1,2,3,8,9],[],[],[],some (840,[0,1,2,3,5,6,7]),[0,1,2,3,5,6,7],[],[]⟩)],loops:=[(1,ceb)],inl:=[],y:=some (bi6 (ak8 Tryz.f29 5) 64 true),ys:=some (ayz D3 (bi6 (ak8 Tryz.f29 5) 64 true)) }:Ctx)
noncomputable def D1:Ctx:=({ P:=Tryz.prog,G:=[(36,o7.spec),(39,jc.spec),(55,zn.spec),(56,ug.spec),(58,l8.spec),(59,aag.spec),(73,kr.spec)],globs:=GLO.gx,hints:=[],loops:=[],inl:=[] }:Ctx)
noncomputable def D:Ctx:=({ P:=Tryz.prog,G:=[(36,o7.spec),(39,jc.spec),(55,zn.spec),(56,ug.spec),(58,l8.spec),(59,aag.spec),(73,kr.spec)],globs:=GLO.gx,hints:=[],loops:=[],inl:=[(57,ajd D1 Tryz.f57)],top:=true,rng:=[(5,⟨106,64,[4,7,8,9,10],ajd D2 Tryz.f106⟩)] }:Ctx)
theorem bhb(K)(next)(x):kg D2 (gq Tryz.f106 1) K next (br8 x)=P.b3e x (fun x=>next (br8 x)) (b30 K):=by kernel_rfl
theorem bl5:jr D2 (gq Tryz.f106 1):=iy br8 blf (by kernel_rfl) P.cgi bhb
theorem loops:dn (Tryz.f29.body.getD .skip)=[]:=by kernel_rfl
theorem aqi:dn (Tryz.f57.body.getD .skip)=[]:=by kernel_rfl
theorem bj5:dn (Tryz.f106.body.getD .skip)=[gq Tryz.f106 1]:=by kernel_rfl
theorem bs8:dn (bzy (ak8 Tryz.f29 5))=[]:=by kernel_rfl
theorem ranges:zk (Tryz.f29.body.getD .skip)=[ak8 Tryz.f29 5]:=by kernel_rfl
theorem bgr:auq D2 (ayz D3 (bi6 (ak8 Tryz.f29 5) 64 true)):=bkp (Y:=bi6 (ak8 Tryz.f29 5) 64 true) (bfn (D:=D3) ⟨o7.ok,jc.ok,zn.ok,ug.ok,l8.ok,aag.ok,kr.ok,trivial⟩) (bg (by kernel_rfl)) (be7 (D:=D3) trivial (axr rfl)) (by kernel_rfl) rfl rfl (by kernel_rfl) (by kernel_rfl) rfl rfl rfl (alr _ (by rw[show dn (bi6 (ak8 Tryz.f29 5) 64 true).assign=[] from by kernel_rfl];exact trivial)) (alr _ (by rw[show dn (bi6 (ak8 Tryz.f29 5) 64 true).body=dn (bzy (ak8 Tryz.f29 5)) from by kernel_rfl,bs8];exact trivial))
noncomputable def bn:Abs.Spec:=fun args K=>match args with
 | [.agg [.v (.int .i64 b),.v (.int .i64 c),.v (.int .i64 d),.v (.int .i64 e),.v (.int .i64 f),.v (.bool a)],.sl (.ints .u8 g),.sl (.ints .u8 h),.sl (.ints .u8 i),.sl (.ints .u8 j),.v (.int .u64 k),.v (.int .u64 l)]=>P.aak b c d e f a g h i j k l (fun m=>K (.v (.bool m)))
 | _=>none
noncomputable def spec:Abs.Spec:=fun args K=>bn (mh [.any,.sl (.ints .u8 []),.sl (.ints .u8 []),.sl (.ints .u8 []),.sl (.ints .u8 []),.any,.any] args) K
theorem ok0:Proved Tryz.prog GLO.gx 29 bn:=by
 refine bq (D:=D) (fn:=Tryz.f29) (c:=Tryz.f29.body.getD .skip) [.any] (by kernel_rfl) (bg (by kernel_rfl)) (by kernel_rfl) (by kernel_rfl) (by kernel_rfl) ⟨o7.ok,jc.ok,zn.ok,ug.ok,l8.ok,aag.ok,kr.ok,trivial⟩ ⟨awu (D:=D1) (D':=D) (fn:=Tryz.f57) (c:=Tryz.f57.body.getD .skip) rfl rfl (by kernel_rfl) (bg (by kernel_rfl)) (by kernel_rfl) (by kernel_rfl) (by kernel_rfl) ⟨o7.ok,jc.ok,zn.ok,ug.ok,l8.ok,aag.ok,kr.ok,trivial⟩ trivial (by rw[aqi];exact trivial) (fun _ _ _ _ _ h=>h),trivial⟩ ?_ ?_ (hRg:=by rw[ranges];exact ⟨bd9 (D:=D) (Di:=D2) (e:=⟨106,64,[4,7,8,9,10],ajd D2 Tryz.f106⟩) (by kernel_rfl) rfl rfl (by kernel_rfl) (awu (D:=D2) (D':=D2) (fn:=Tryz.f106) (c:=Tryz.f106.body.getD .skip) rfl rfl (by kernel_rfl) (bg (by kernel_rfl)) (by kernel_rfl) (by kernel_rfl) (by kernel_rfl) ⟨o7.ok,jc.ok,zn.ok,ug.ok,l8.ok,aag.ok,kr.ok,trivial⟩ trivial (by rw[bj5];exact ⟨bl5,trivial⟩) (fun _ _ _ _ _ h=>h) rfl rfl (awc rfl _) (fun s hs=>by have hs:some (ayz D3 (bi6 (ak8 Tryz.f29 5) 64 true))=some s:=hs;cases hs;exact bgr)),trivial⟩)
 · rw[loops];exact trivial
 · intro args K r h
   unfold bn at h
   split at h
   · rw[P.asx] at h;exact Aa (by kernel_rfl) h
   · cases h
theorem ok:Proved Tryz.prog GLO.gx 29 spec:=dx _ ok0
end aak

namespace ze
noncomputable def D:Ctx:=({ P:=Tryz.prog,G:=[(14,aby.spec),(22,jv.spec),(23,ow.spec),(24,ae4.spec),(25,wh.spec),(26,af3.spec),(27,um.spec),(28,xw.spec),(29,aak.spec),(91,oq.spec),(93,uq.spec),(94,qo.spec),(95,u6.spec),(97,qj.spec)],globs:=GLO.gx,hints:=[],loops:=[],inl:=[] }:Ctx)
theorem loops:dn (Tryz.f11.body.getD .skip)=[]:=by kernel_rfl
noncomputable def bn:Abs.Spec:=fun args K=>match args with
 | [.agg [.v (.int .i64 b),.v (.int .i64 c),.v (.int .i64 d),.v (.int .i64 e),.v (.int .i64 f),.v (.bool a)],.sl (.ints .u8 g),.sl (.ints .u8 h),.sl (.ints .u8 i),.sl (.ints .u8 j)]=>P.ze b c d e f a g h i j (fun k=>K (.v (.int .i64 k)))
 | _=>none
noncomputable def spec:Abs.Spec:=fun args K=>bn (mh [.any,.sl (.ints .u8 []),.sl (.ints .u8 []),.sl (.ints .u8 []),.sl (.ints .u8 [])] args) K
theorem ok0:Proved Tryz.prog GLO.gx 11 bn:=by
 refine bq (D:=D) (fn:=Tryz.f11) (c:=Tryz.f11.body.getD .skip) [.any] (by kernel_rfl) (bg (by kernel_rfl)) (by kernel_rfl) (by kernel_rfl) (by kernel_rfl) ⟨aby.ok,jv.ok,ow.ok,ae4.ok,wh.ok,af3.ok,um.ok,xw.ok,aak.ok,oq.ok,uq.ok,qo.ok,u6.ok,qj.ok,trivial⟩ trivial ?_ ?_
 · rw[loops];exact trivial
 · intro args K r h
   unfold bn at h
   split at h
   · rw[P.acr] at h;exact Aa (by kernel_rfl) h
   · cases h
theorem ok:Proved Tryz.prog GLO.gx 11 spec:=dx _ ok0
end ze

namespace tu
noncomputable def D:Ctx:=({ P:=Tryz.prog,G:=[(11,ze.spec),(13,ai4.spec),(14,aby.spec)],globs:=GLO.gx,hints:=[],loops:=[],inl:=[] }:Ctx)
theorem loops:dn (Tryz.f9.body.getD .skip)=[]:=by kernel_rfl
noncomputable def bn:Abs.Spec:=fun args K=>match args with
 | []=>P.tu (fun a=>K (.v (.bool a)))
 | _=>none
noncomputable def spec:Abs.Spec:=bn
theorem ok0:Proved Tryz.prog GLO.gx 9 bn:=by
 refine bq (D:=D) (fn:=Tryz.f9) (c:=Tryz.f9.body.getD .skip) [.any] (by kernel_rfl) (bg (by kernel_rfl)) (by kernel_rfl) (by kernel_rfl) (by kernel_rfl) ⟨ze.ok,ai4.ok,aby.ok,trivial⟩ trivial ?_ ?_
 · rw[loops];exact trivial
 · intro args K r h
   unfold bn at h
   split at h
   · rw[P.ay7] at h;exact Aa (by kernel_rfl) h
   · cases h
theorem ok:Proved Tryz.prog GLO.gx 9 spec:=ok0
end tu

namespace af6
abbrev X2:=P.b6p
def S2:X2→ASt:=fun (a,b,c)=>⟨[(5,.sl (.rows .u8 a)),(6,.v (.int .i64 b)),(7,.v (.int .i64 c))],[],0,15⟩
def V2:ASt→Option X2
 | ⟨[(5,.sl (.rows .u8 a)),(6,.v (.int .i64 b)),(7,.v (.int .i64 c))],[],0,15⟩=>some (a,b,c)
 | _=>none
theorem bcl(st)(x)(h:V2 st=some x):st=S2 x:=by
 unfold V2 at h
 split at h
 · cases h;rfl
 · cases h
abbrev Y2:=P.cbt
def E2(K:AExit→ASt→Option R):Y2→Option R:=(Sum.elim (fun x=>K (.exit 0) (S2 x)) (fun a=>K .ret ⟨[(2,.v (.bool a))],[],0,15⟩))
noncomputable def L2:qy:=fun st K=>adb (V2 st) fun x=>P.ca2 x (E2 K)
noncomputable def D:Ctx:=({ P:=Tryz.prog,G:=[],globs:=GLO.gx,hints:=[(2,⟨[5,6,7],[],[2],[],none,[],[],[]⟩)],loops:=[(2,L2)],inl:=[] }:Ctx)
theorem arj(K)(next)(x):kg D (gq Tryz.f10 2) K next (S2 x)=P.b41 x (fun x=>next (S2 x)) (E2 K):=by kernel_rfl
theorem bdd:jr D (gq Tryz.f10 2):=iy S2 bcl (by kernel_rfl) P.ch8 arj
theorem loops:dn (Tryz.f10.body.getD .skip)=[gq Tryz.f10 2]:=by kernel_rfl
noncomputable def bn:Abs.Spec:=fun args K=>match args with
 | [.sl (.rows .u8 a)]=>P.af6 a (fun b=>K (.v (.bool b)))
 | _=>none
noncomputable def spec:Abs.Spec:=fun args K=>bn (mh [.sl (.rows .u8 [])] args) K
theorem ok0:Proved Tryz.prog GLO.gx 10 bn:=by
 refine bq (D:=D) (fn:=Tryz.f10) (c:=Tryz.f10.body.getD .skip) [.any] (by kernel_rfl) (bg (by kernel_rfl)) (by kernel_rfl) (by kernel_rfl) (by kernel_rfl) trivial trivial ?_ ?_
 · rw[loops];exact ⟨bdd,trivial⟩
 · intro args K r h
   unfold bn at h
   split at h
   · rw[P.bfg] at h;exact Aa (by kernel_rfl) h
   · cases h
theorem ok:Proved Tryz.prog GLO.gx 10 spec:=dx _ ok0
end af6

namespace lg
noncomputable def D:Ctx:=({ P:=Tryz.prog,G:=[],globs:=GLO.gx,hints:=[],loops:=[],inl:=[] }:Ctx)
theorem loops:dn (Tryz.f21.body.getD .skip)=[]:=by kernel_rfl
noncomputable def bn:Abs.Spec:=fun args K=>match args with
 | [.agg [.v (.int .i64 b),.v (.int .i64 c),.v (.int .i64 d),.v (.int .i64 e),.v (.int .i64 f),.v (.bool a)]]=>P.lg b c d e f a (fun g=>K (.v (.bool g)))
 | _=>none
noncomputable def spec:Abs.Spec:=bn
theorem ok0:Proved Tryz.prog GLO.gx 21 bn:=by
 refine bq (D:=D) (fn:=Tryz.f21) (c:=Tryz.f21.body.getD .skip) [.any] (by kernel_rfl) (bg (by kernel_rfl)) (by kernel_rfl) (by kernel_rfl) (by kernel_rfl) trivial trivial ?_ ?_
 · rw[loops];exact trivial
 · intro args K r h
   unfold bn at h
   split at h
   · rw[P.bew] at h;exact Aa (by kernel_rfl) h
   · cases h
theorem ok:Proved Tryz.prog GLO.gx 21 spec:=ok0
end lg

namespace agl
noncomputable def D:Ctx:=({ P:=Tryz.prog,G:=[(21,lg.spec)],globs:=GLO.gx,hints:=[],loops:=[],inl:=[] }:Ctx)
theorem loops:dn (Tryz.f8.body.getD .skip)=[]:=by kernel_rfl
noncomputable def bn:Abs.Spec:=fun args K=>match args with
 | [.agg [.v (.int .i64 b),.v (.int .i64 c),.v (.int .i64 d),.v (.int .i64 e),.v (.int .i64 f),.v (.bool a)]]=>P.agl b c d e f a (fun g=>K (.v (.bool g)))
 | _=>none
noncomputable def spec:Abs.Spec:=bn
theorem ok0:Proved Tryz.prog GLO.gx 8 bn:=by
 refine bq (D:=D) (fn:=Tryz.f8) (c:=Tryz.f8.body.getD .skip) [.any] (by kernel_rfl) (bg (by kernel_rfl)) (by kernel_rfl) (by kernel_rfl) (by kernel_rfl) ⟨lg.ok,trivial⟩ trivial ?_ ?_
 · rw[loops];exact trivial
 · intro args K r h
   unfold bn at h
   split at h
   · rw[P.aiv] at h;exact Aa (by kernel_rfl) h
   · cases h
theorem ok:Proved Tryz.prog GLO.gx 8 spec:=ok0
end agl

end
