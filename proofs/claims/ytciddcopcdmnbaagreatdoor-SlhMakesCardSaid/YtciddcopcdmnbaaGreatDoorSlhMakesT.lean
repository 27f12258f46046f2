/-
  SlhMakes, part 20: an interpreter of my own over abstract values, the pure functions, the walks and the plain law.
-/

import Derived.Test.YtciddcopcdmnbaaGreatDoorSlhMakesL
import Derived.Test.YtciddcopcdmnbaaGreatDoorSlhMakesH
import Derived.Test.YtciddcopcdmnbaaGreatDoorProg
import Derived.Test.YtciddcopcdmnbaaGreatDoorSlhMakesJ
import Derived.Test.YtciddcopcdmnbaaGreatDoorSlhMakesN
import Derived.Test.YtciddcopcdmnbaaGreatDoorSlhMakesP
import Derived.Test.YtciddcopcdmnbaaGreatDoorSlhMakesS
import Derived.Test.YtciddcopcdmnbaaGreatDoorSlhMakesQ
import Derived.KernelRfl
import Derived.Test.YtciddcopcdmnbaaGreatDoorSlhMakesR
import Derived.Test.YtciddcopcdmnbaaGreatDoorSlhMakesI
open Eq renaming trans → Aa

section
open Go Go.Abs Go.Proofs
set_option maxRecDepth 100000
set_option maxHeartbeats 0
set_option linter.unusedVariables false

namespace qp
noncomputable def D:Ctx:=({ P:=Tryz.prog,G:=[(39,gy.spec),(170,wh.spec),(186,jg.spec),(188,jf.spec)],globs:=GLO.gx,hints:=[],loops:=[],inl:=[] }:Ctx)
theorem loops:dn (Tryz.f148.body.getD .skip)=[]:=by kernel_rfl
noncomputable def bn:Abs.Spec:=fun args K=>match args with
 | [.agg [.v (.int .i64 p),.v (.int .i64 q),.v (.int .i64 r),.v (.int .i64 s),.v (.int .i64 t),.v (.bool l),.alt u (.func 186) [] [.sta [.v (.int .i64 d),.arr .u64 25 a,.v (.int .i64 m),.v (.bool k)],.sta [.v (.int .i64 n)]] (.func 188) [] [.sta [.v (.int .i64 e),.arr .u64 8 b,.sl (.ints .u8 f),.v (.int .u64 g)],.sta [.v (.int .i64 o)],.sta [.v (.int .i64 h),.arr .u64 8 c,.sl (.ints .u8 i),.v (.int .u64 j)]]],.sl (.ints .u8 w),.arr .u8 32 y]=>P.qp p q r s t l u d a m k n e b f g o h c i j w y (fun z=>K (.sl (.ints .u8 z)))
 | _=>none
noncomputable def spec:Abs.Spec:=fun args K=>bn (l8 [.agg [.any,.any,.any,.any,.any,.any,.alt (.func 186) [] [.sta [.v (.int .i64 0),.arr .u64 25 [],.v (.int .i64 0),.v (.bool false)],.sta [.v (.int .i64 0)]] (.func 188) [] [.sta [.v (.int .i64 0),.arr .u64 8 [],.sl (.ints .u8 []),.v (.int .u64 0)],.sta [.v (.int .i64 0)],.sta [.v (.int .i64 0),.arr .u64 8 [],.sl (.ints .u8 []),.v (.int .u64 0)]]],.sl (.ints .u8 []),.any] args) K
theorem ok0:Proved Tryz.prog GLO.gx 148 bn:=by
 refine bq (D:=D) (fn:=Tryz.f148) (c:=Tryz.f148.body.getD .skip) [.sl (.ints .u8 [])] (by kernel_rfl) (bf (by kernel_rfl)) (by kernel_rfl) (by kernel_rfl) (by kernel_rfl) ⟨gy.ok,wh.ok,jg.ok,jf.ok,trivial⟩ trivial ?_ ?_
 · rw[loops];exact trivial
 · intro args K r h
   unfold bn at h
   split at h
   · rw[P.akm] at h;exact Aa (by kernel_rfl) h
   · cases h
theorem ok:Proved Tryz.prog GLO.gx 148 spec:=dw _ ok0
end qp

namespace vk
abbrev X6:=P.b2f
def S6:X6→ASt:=fun (I,G,H,J,o,p,q,r,s,t,u,w,y,z,A,B,C,F,a,b,c,d,e,f,g,h,i,j,k,l,m,n,M)=>⟨[(13,.own 4),(1,.sl (.ints .u8 I)),(5,.ptr 0 0),(9,.ptr 1 0),(11,.ptr 2 0),(44,.own 3),(45,.v (.int .i64 G)),(46,.v (.int .i64 H))],[(4,some ⟨.row 5 (.ints .u8 J),false⟩),(0,some ⟨.box 23 [.v (.int .i64 o),.v (.int .i64 p),.v (.int .i64 q),.v (.int .i64 r),.v (.int .i64 s),.v (.bool t)],false⟩),(1,some ⟨.box 64 [.arr .u8 32 u],false⟩),(2,some ⟨.box 165 [.v (.int .i64 w),.v (.int .i64 y),.v (.int .i64 z),.v (.int .i64 A),.v (.int .i64 B),.v (.bool C),.alt F (.func 186) [] [.sta [.v (.int .i64 a),.arr .u64 25 b,.v (.int .i64 c),.v (.bool d)],.sta [.v (.int .i64 e)]] (.func 188) [] [.sta [.v (.int .i64 f),.arr .u64 8 g,.sl (.ints .u8 h),.v (.int .u64 i)],.sta [.v (.int .i64 j)],.sta [.v (.int .i64 k),.arr .u64 8 l,.sl (.ints .u8 m),.v (.int .u64 n)]]],false⟩),(3,some ⟨.row 102 (.ints .u32 M),false⟩)],5,73⟩
def V6:ASt→Option X6
 | ⟨[(13,.own 4),(1,.sl (.ints .u8 I)),(5,.ptr 0 0),(9,.ptr 1 0),(11,.ptr 2 0),(44,.own 3),(45,.v (.int .i64 G)),(46,.v (.int .i64 H))],[(4,some ⟨.row 5 (.ints .u8 J),false⟩),(0,some ⟨.box 23 [.v (.int .i64 o),.v (.int .i64 p),.v (.int .i64 q),.v (.int .i64 r),.v (.int .i64 s),.v (.bool t)],false⟩),(1,some ⟨.box 64 [.arr .u8 32 u],false⟩),(2,some ⟨.box 165 [.v (.int .i64 w),.v (.int .i64 y),.v (.int .i64 z),.v (.int .i64 A),.v (.int .i64 B),.v (.bool C),.alt F (.func 186) [] [.sta [.v (.int .i64 a),.arr .u64 25 b,.v (.int .i64 c),.v (.bool d)],.sta [.v (.int .i64 e)]] (.func 188) [] [.sta [.v (.int .i64 f),.arr .u64 8 g,.sl (.ints .u8 h),.v (.int .u64 i)],.sta [.v (.int .i64 j)],.sta [.v (.int .i64 k),.arr .u64 8 l,.sl (.ints .u8 m),.v (.int .u64 n)]]],false⟩),(3,some ⟨.row 102 (.ints .u32 M),false⟩)],5,73⟩=>some (I,G,H,J,o,p,q,r,s,t,u,w,y,z,A,B,C,F,a,b,c,d,e,f,g,h,i,j,k,l,m,n,M)
 | _=>none
theorem bax(st)(x)(h:V6 st=some x):st=S6 x:=by
 unfold V6 at h
 split at h
 · cases h;rfl
 · cases h
abbrev Y6:=P.b5z
def E6(K:AExit→ASt→Option R):Y6→Option R:=(fun x=>K (.exit 0) (S6 x))
noncomputable def L6:tq:=fun st K=>ady (V6 st) fun x=>P.b98 x (E6 K)
noncomputable def D:Ctx:=({ P:=Tryz.prog,G:=[(39,gy.spec),(144,y7.spec),(145,ou.spec),(146,aaf.spec),(147,oq.spec),(148,qp.spec)],globs:=GLO.gx,hints:=[(6,⟨[1,5,9,11,44,45,46],[(13,5,.ints .u8 [])],[10],[(1,.sl (.ints .u8 []))],none,[],[],[]⟩)],loops:=[(6,L6)],inl:=[] }:Ctx)
theorem aos(K)(next)(x):l5 D (fq Tryz.f107 6) K next (S6 x)=P.b08 x (fun x=>next (S6 x)) (E6 K):=by kernel_rfl
theorem ba7:jv D (fq Tryz.f107 6):=iy S6 bax (by kernel_rfl) P.ced aos
theorem loops:dn (Tryz.f107.body.getD .skip)=[fq Tryz.f107 6]:=by kernel_rfl
noncomputable def bn:Abs.Spec:=fun args K=>match args with
 | [.agg [.v (.int .i64 b),.v (.int .i64 c),.v (.int .i64 d),.v (.int .i64 e),.v (.int .i64 f),.v (.bool a)],.sl (.ints .u8 g),.sl (.ints .u8 h),.sl (.ints .u8 i),.arr .u8 32 j]=>P.vk b c d e f a g h i j (fun k=>K (.sl (.ints .u8 k)))
 | _=>none
noncomputable def spec:Abs.Spec:=fun args K=>bn (l8 [.any,.sl (.ints .u8 []),.sl (.ints .u8 []),.sl (.ints .u8 []),.any] args) K
theorem ok0:Proved Tryz.prog GLO.gx 107 bn:=by
 refine bq (D:=D) (fn:=Tryz.f107) (c:=Tryz.f107.body.getD .skip) [.sl (.ints .u8 [])] (by kernel_rfl) (bf (by kernel_rfl)) (by kernel_rfl) (by kernel_rfl) (by kernel_rfl) ⟨gy.ok,y7.ok,ou.ok,aaf.ok,oq.ok,qp.ok,trivial⟩ trivial ?_ ?_
 · rw[loops];exact ⟨ba7,trivial⟩
 · intro args K r h
   unfold bn at h
   split at h
   · rw[P.alr] at h;exact Aa (by kernel_rfl) h
   · cases h
theorem ok:Proved Tryz.prog GLO.gx 107 spec:=dw _ ok0
end vk

namespace vo
abbrev X2:=P.b4w
def S2:X2→ASt:=fun (g,h,i,a,b,c,d,e,f)=>⟨[(2,.ptr 0 0),(7,.sl (.rows .u8 g)),(8,.v (.int .i64 h)),(9,.v (.int .i64 i))],[(0,some ⟨.box 23 [.v (.int .i64 a),.v (.int .i64 b),.v (.int .i64 c),.v (.int .i64 d),.v (.int .i64 e),.v (.bool f)],false⟩)],1,21⟩
def V2:ASt→Option X2
 | ⟨[(2,.ptr 0 0),(7,.sl (.rows .u8 g)),(8,.v (.int .i64 h)),(9,.v (.int .i64 i))],[(0,some ⟨.box 23 [.v (.int .i64 a),.v (.int .i64 b),.v (.int .i64 c),.v (.int .i64 d),.v (.int .i64 e),.v (.bool f)],false⟩)],1,21⟩=>some (g,h,i,a,b,c,d,e,f)
 | _=>none
theorem ay9(st)(x)(h:V2 st=some x):st=S2 x:=by
 unfold V2 at h
 split at h
 · cases h;rfl
 · cases h
abbrev Y2:=P.caf
def E2(K:AExit→ASt→Option R):Y2→Option R:=(Sum.elim (fun x=>K (.exit 0) (S2 x)) (fun (g,a,b,c,d,e,f)=>K .ret ⟨[(4,.v (.bool g))],[(0,some ⟨.box 23 [.v (.int .i64 a),.v (.int .i64 b),.v (.int .i64 c),.v (.int .i64 d),.v (.int .i64 e),.v (.bool f)],false⟩)],1,21⟩))
noncomputable def L2:tq:=fun st K=>ady (V2 st) fun x=>P.cca x (E2 K)
noncomputable def D:Ctx:=({ P:=Tryz.prog,G:=[(22,jk.spec)],globs:=GLO.gx,hints:=[(2,⟨[2,7,8,9],[],[4],[],none,[],[],[]⟩)],loops:=[(2,L2)],inl:=[] }:Ctx)
theorem apv(K)(next)(x):l5 D (fq Tryz.f55 2) K next (S2 x)=P.b0m x (fun x=>next (S2 x)) (E2 K):=by kernel_rfl
theorem bal:jv D (fq Tryz.f55 2):=iy S2 ay9 (by kernel_rfl) P.cei apv
theorem loops:dn (Tryz.f55.body.getD .skip)=[fq Tryz.f55 2]:=by kernel_rfl
noncomputable def bn:Abs.Spec:=fun args K=>match args with
 | [.agg [.v (.int .i64 b),.v (.int .i64 c),.v (.int .i64 d),.v (.int .i64 e),.v (.int .i64 f),.v (.bool a)],.sl (.rows .u8 g)]=>P.vo b c d e f a g (fun h=>K (.v (.bool h)))
 | _=>none
noncomputable def spec:Abs.Spec:=fun args K=>bn (l8 [.any,.sl (.rows .u8 [])] args) K
theorem ok0:Proved Tryz.prog GLO.gx 55 bn:=by
 refine bq (D:=D) (fn:=Tryz.f55) (c:=Tryz.f55.body.getD .skip) [.any] (by kernel_rfl) (bf (by kernel_rfl)) (by kernel_rfl) (by kernel_rfl) (by kernel_rfl) ⟨jk.ok,trivial⟩ trivial ?_ ?_
 · rw[loops];exact ⟨bal,trivial⟩
 · intro args K r h
   unfold bn at h
   split at h
   · rw[P.axh] at h;exact Aa (by kernel_rfl) h
   · cases h
theorem ok:Proved Tryz.prog GLO.gx 55 spec:=dw _ ok0
end vo

namespace uh
noncomputable def D:Ctx:=({ P:=Tryz.prog,G:=[(39,gy.spec)],globs:=GLO.gx,hints:=[],loops:=[],inl:=[] }:Ctx)
theorem loops:dn (Tryz.f108.body.getD .skip)=[]:=by kernel_rfl
noncomputable def bn:Abs.Spec:=fun args K=>match args with
 | [.agg [.v (.int .i64 c),.v (.int .i64 d),.v (.int .i64 e),.v (.int .i64 f),.v (.int .i64 g),.v (.bool a),.sl (.ints .u8 b),.sl (.ints .u8 h),.arr .u8 32 i],.v (.int .u64 j)]=>P.uh c d e f g a b h i j (fun k=>K (.arr .u8 32 k))
 | _=>none
noncomputable def spec:Abs.Spec:=fun args K=>bn (l8 [.agg [.any,.any,.any,.any,.any,.any,.sl (.ints .u8 []),.sl (.ints .u8 []),.any],.any] args) K
theorem ok0:Proved Tryz.prog GLO.gx 108 bn:=by
 refine bq (D:=D) (fn:=Tryz.f108) (c:=Tryz.f108.body.getD .skip) [.any] (by kernel_rfl) (bf (by kernel_rfl)) (by kernel_rfl) (by kernel_rfl) (by kernel_rfl) ⟨gy.ok,trivial⟩ trivial ?_ ?_
 · rw[loops];exact trivial
 · intro args K r h
   unfold bn at h
   split at h
   · rw[P.amj] at h;exact Aa (by kernel_rfl) h
   · cases h
theorem ok:Proved Tryz.prog GLO.gx 108 spec:=dw _ ok0
end uh

namespace qx
noncomputable def D:Ctx:=({ P:=Tryz.prog,G:=[(39,gy.spec),(40,jc.spec),(104,zy.spec)],globs:=GLO.gx,hints:=[],loops:=[],inl:=[] }:Ctx)
theorem loops:dn (Tryz.f109.body.getD .skip)=[]:=by kernel_rfl
noncomputable def bn:Abs.Spec:=fun args K=>match args with
 | [.agg [.v (.int .i64 c),.v (.int .i64 d),.v (.int .i64 e),.v (.int .i64 f),.v (.int .i64 g),.v (.bool a),.sl (.ints .u8 b),.sl (.ints .u8 h),.arr .u8 32 i],.v (.int .i64 j),.v (.int .u64 k),.sl (.ints .u8 l),.sl (.ints .u8 m)]=>P.qx c d e f g a b h i j k l m (fun n=>K (.sl (.ints .u8 n)))
 | _=>none
noncomputable def spec:Abs.Spec:=fun args K=>bn (l8 [.agg [.any,.any,.any,.any,.any,.any,.sl (.ints .u8 []),.sl (.ints .u8 []),.any],.any,.any,.sl (.ints .u8 []),.sl (.ints .u8 [])] args) K
theorem ok0:Proved Tryz.prog GLO.gx 109 bn:=by
 refine bq (D:=D) (fn:=Tryz.f109) (c:=Tryz.f109.body.getD .skip) [.sl (.ints .u8 [])] (by kernel_rfl) (bf (by kernel_rfl)) (by kernel_rfl) (by kernel_rfl) (by kernel_rfl) ⟨gy.ok,jc.ok,zy.ok,trivial⟩ trivial ?_ ?_
 · rw[loops];exact trivial
 · intro args K r h
   unfold bn at h
   split at h
   · rw[P.alp] at h;exact Aa (by kernel_rfl) h
   · cases h
theorem ok:Proved Tryz.prog GLO.gx 109 spec:=dw _ ok0
end qx

namespace lg
abbrev X7:=P.byf
def S7:X7→ASt:=fun (s,o,p,q,r,a,b,c,d,e,f,g,h,i,j,k,l,m,n)=>⟨[(5,.v (.int .u64 s)),(6,.ptr 0 0),(13,.ptr 3 0),(15,.sl (.ints .u8 o)),(16,.sl (.ints .u8 p)),(66,.v (.int .i64 q)),(67,.v (.int .i64 r))],[(0,some ⟨.box 23 [.v (.int .i64 a),.v (.int .i64 b),.v (.int .i64 c),.v (.int .i64 d),.v (.int .i64 e),.v (.bool f)],false⟩),(3,some ⟨.box 108 [.v (.int .i64 g),.v (.int .i64 h),.v (.int .i64 i),.v (.int .i64 j),.v (.int .i64 k),.v (.bool l),.v (.slice none 0 0),.sl (.ints .u8 m),.arr .u8 32 n],false⟩)],40,98⟩
def V7:ASt→Option X7
 | ⟨[(5,.v (.int .u64 s)),(6,.ptr 0 0),(13,.ptr 3 0),(15,.sl (.ints .u8 o)),(16,.sl (.ints .u8 p)),(66,.v (.int .i64 q)),(67,.v (.int .i64 r))],[(0,some ⟨.box 23 [.v (.int .i64 a),.v (.int .i64 b),.v (.int .i64 c),.v (.int .i64 d),.v (.int .i64 e),.v (.bool f)],false⟩),(3,some ⟨.box 108 [.v (.int .i64 g),.v (.int .i64 h),.v (.int .i64 i),.v (.int .i64 j),.v (.int .i64 k),.v (.bool l),.v (.slice none 0 0),.sl (.ints .u8 m),.arr .u8 32 n],false⟩)],40,98⟩=>some (s,o,p,q,r,a,b,c,d,e,f,g,h,i,j,k,l,m,n)
 | _=>none
theorem bkb(st)(x)(h:V7 st=some x):st=S7 x:=by
 unfold V7 at h
 split at h
 · cases h;rfl
 · cases h
abbrev Y7:=P.b6n
def E7(K:AExit→ASt→Option R):Y7→Option R:=(fun x=>K (.exit 0) (S7 x))
noncomputable def L7:tq:=fun st K=>ady (V7 st) fun x=>P.b59 x (E7 K)
noncomputable def D:Ctx:=({ P:=Tryz.prog,G:=[(36,oo.spec),(55,vo.spec),(73,jl.spec),(107,vk.spec),(108,uh.spec),(109,qx.spec)],globs:=GLO.gx,hints:=[(7,⟨[5,6,13,15,16,66,67],[],[12],[(15,.sl (.ints .u8 [])),(16,.sl (.ints .u8 []))],some (40,[0,3]),[],[],[]⟩)],loops:=[(7,L7)],inl:=[] }:Ctx)
theorem ays(K)(next)(x):l5 D (fq Tryz.f58 7) K next (S7 x)=P.bxs x (fun x=>next (S7 x)) (E7 K):=by kernel_rfl
theorem bi1:jv D (fq Tryz.f58 7):=iy S7 bkb (by kernel_rfl) P.cd8 ays
theorem loops:dn (Tryz.f58.body.getD .skip)=[fq Tryz.f58 7]:=by kernel_rfl
noncomputable def bn:Abs.Spec:=fun args K=>match args with
 | [.agg [.v (.int .i64 b),.v (.int .i64 c),.v (.int .i64 d),.v (.int .i64 e),.v (.int .i64 f),.v (.bool a)],.sl (.ints .u8 g),.sl (.ints .u8 h),.sl (.ints .u8 i),.arr .u8 32 j,.v (.int .u64 k)]=>P.lg b c d e f a g h i j k (fun l=>K (.sl (.ints .u8 l)))
 | _=>none
noncomputable def spec:Abs.Spec:=fun args K=>bn (l8 [.any,.sl (.ints .u8 []),.sl (.ints .u8 []),.sl (.ints .u8 []),.any,.any] args) K
theorem ok0:Proved Tryz.prog GLO.gx 58 bn:=by
 refine bq (D:=D) (fn:=Tryz.f58) (c:=Tryz.f58.body.getD .skip) [.sl (.ints .u8 [])] (by kernel_rfl) (bf (by kernel_rfl)) (by kernel_rfl) (by kernel_rfl) (by kernel_rfl) ⟨oo.ok,vo.ok,jl.ok,vk.ok,uh.ok,qx.ok,trivial⟩ trivial ?_ ?_
 · rw[loops];exact ⟨bi1,trivial⟩
 · intro args K r h
   unfold bn at h
   split at h
   · rw[P.ame] at h;exact Aa (by kernel_rfl) h
   · cases h
theorem ok:Proved Tryz.prog GLO.gx 58 spec:=dw _ ok0
end lg

namespace uf
noncomputable def D:Ctx:=({ P:=Tryz.prog,G:=[(73,jl.spec)],globs:=GLO.gx,hints:=[],loops:=[],inl:=[] }:Ctx)
theorem loops:dn (Tryz.f56.body.getD .skip)=[]:=by kernel_rfl
noncomputable def bn:Abs.Spec:=fun args K=>match args with
 | [.agg [.v (.int .i64 b),.v (.int .i64 c),.v (.int .i64 d),.v (.int .i64 e),.v (.int .i64 f),.v (.bool a)],.v (.int .u64 g),.v (.int .u64 h)]=>P.uf b c d e f a g h (fun i=>K (.v (.bool i)))
 | _=>none
noncomputable def spec:Abs.Spec:=bn
theorem ok0:Proved Tryz.prog GLO.gx 56 bn:=by
 refine bq (D:=D) (fn:=Tryz.f56) (c:=Tryz.f56.body.getD .skip) [.any] (by kernel_rfl) (bf (by kernel_rfl)) (by kernel_rfl) (by kernel_rfl) (by kernel_rfl) ⟨jl.ok,trivial⟩ trivial ?_ ?_
 · rw[loops];exact trivial
 · intro args K r h
   unfold bn at h
   split at h
   · rw[P.aq4] at h;exact Aa (by kernel_rfl) h
   · cases h
theorem ok:Proved Tryz.prog GLO.gx 56 spec:=ok0
end uf

namespace abf
abbrev b2s:=P.bzo
def bny:b2s→ASt:=fun (a,s,t,b,c,d,e,f,g,h,i,j,k,l,m,n,o,p,q,r)=>⟨[(0,.yld 8 [4,7,8,9,10] [.sl (.ints .u8 a),.ptr 0 0,.ptr 1 0,.ptr 2 0,.ptr 3 0]),(1,.ptr 5 0),(2,.ptr 6 0),(3,.ptr 7 0),(8,.v (.int .i64 s)),(9,.v (.int .i64 t))],[(0,some ⟨.box 23 [.v (.int .i64 b),.v (.int .i64 c),.v (.int .i64 d),.v (.int .i64 e),.v (.int .i64 f),.v (.bool g)],false⟩),(1,some ⟨.box 24 [.sl (.ints .u8 h)],false⟩),(2,some ⟨.box 24 [.sl (.ints .u8 i)],false⟩),(3,some ⟨.box 24 [.sl (.ints .u8 j)],false⟩),(5,some ⟨.box 23 [.v (.int .i64 k),.v (.int .i64 l),.v (.int .i64 m),.v (.int .i64 n),.v (.int .i64 o),.v (.bool p)],false⟩),(6,some ⟨.box 53 [.v (.int .u64 q)],false⟩),(7,some ⟨.box 53 [.v (.int .u64 r)],false⟩)],840,35⟩
def bvi:ASt→Option b2s
 | ⟨[(0,.yld 8 [4,7,8,9,10] [.sl (.ints .u8 a),.ptr 0 0,.ptr 1 0,.ptr 2 0,.ptr 3 0]),(1,.ptr 5 0),(2,.ptr 6 0),(3,.ptr 7 0),(8,.v (.int .i64 s)),(9,.v (.int .i64 t))],[(0,some ⟨.box 23 [.v (.int .i64 b),.v (.int .i64 c),.v (.int .i64 d),.v (.int .i64 e),.v (.int .i64 f),.v (.bool g)],false⟩),(1,some ⟨.box 24 [.sl (.ints .u8 h)],false⟩),(2,some ⟨.box 24 [.sl (.ints .u8 i)],false⟩),(3,some ⟨.box 24 [.sl (.ints .u8 j)],false⟩),(5,some ⟨.box 23 [.v (.int .i64 k),.v (.int .i64 l),.v (.int .i64 m),.v (.int .i64 n),.v (.int .i64 o),.v (.bool p)],false⟩),(6,some ⟨.box 53 [.v (.int .u64 q)],false⟩),(7,some ⟨.box 53 [.v (.int .u64 r)],false⟩)],840,35⟩=>some (a,s,t,b,c,d,e,f,g,h,i,j,k,l,m,n,o,p,q,r)
 | _=>none
theorem bjl(st)(x)(h:bvi st=some x):st=bny x:=by
 unfold bvi at h
 split at h
 · cases h;rfl
 · cases h
abbrev cbm:=P.b8c
def b0e(K:AExit→ASt→Option R):cbm→Option R:=(fun x=>K (.exit 0) (bny x))
noncomputable def b7v:tq:=fun st K=>ady (bvi st) fun x=>P.ccg x (b0e K)
noncomputable def D3:Ctx:=({ P:=Tryz.prog,G:=[(36,oo.spec),(39,gy.spec),(55,vo.spec),(56,uf.spec),(58,lg.spec),(59,zf.spec),(73,jl.spec)],globs:=GLO.gx,hints:=[],loops:=[],inl:=[],y:=some (bhj (akf Tryz.f29 5) 64 false) }:Ctx)
noncomputable def D2:Ctx:=({ P:=Tryz.prog,G:=[(36,oo.spec),(39,gy.spec),(55,vo.spec),(56,uf.spec),(58,lg.spec),(59,zf.spec),(73,jl.spec)],globs:=GLO.gx,hints:=[(1,⟨[0,1,2,3,8,9],[],[],[],some (840,[0,1,2,3,5,6,7]),[0,1,2,3,5,6,7],[],[]⟩)],loops:=[(1,b7v)],inl:=[],y:=some (bhj (akf Tryz.f29 5) 64 true),ys:=some (axe D3 (bhj (akf Tryz.f29 5) 64 true)) }:Ctx)
noncomputable def D1:Ctx:=({ P:=Tryz.prog,G:=[(36,oo.spec),(39,gy.spec),(55,vo.spec),(56,uf.spec),(58,lg.spec),(59,zf.spec),(73,jl.spec)],globs:=GLO.gx,hints:=[],loops:=[],inl:=[] }:Ctx)
noncomputable def D:Ctx:=({ P:=Tryz.prog,G:=[(36,oo.spec),(39,gy.spec),(55,vo.spec),(56,uf.spec),(58,lg.spec),(59,zf.spec),(73,jl.spec)],globs:=GLO.gx,hints:=[],loops:=[],inl:=[(57,ain D1 Tryz.f57)],top:=true,rng:=[(5,⟨106,64,[4,7,8,9,10],ain D2 Tryz.f106⟩)] }:Ctx)
theorem be7(K)(next)(x):l5 D2 (fq Tryz.f106 1) K next (bny x)=P.bzi x (fun x=>next (bny x)) (b0e K):=by kernel_rfl
theorem bjs:jv D2 (fq Tryz.f106 1):=iy bny bjl (by kernel_rfl) P.cem be7
theorem loops:dn (Tryz.f29.body.getD .skip)=[]:=by kernel_rfl
theorem ap4:dn (Tryz.f57.body.getD .skip)=[]:=by kernel_rfl
theorem bg5:dn (Tryz.f106.body.getD .skip)=[fq Tryz.f106 1]:=by kernel_rfl
theorem bn0:dn (bxa (akf Tryz.f29 5))=[]:=by kernel_rfl
theorem ranges:yh (Tryz.f29.body.getD .skip)=[akf Tryz.f29 5]:=by kernel_rfl
theorem bfp:atd D2 (axe D3 (bhj (akf Tryz.f29 5) 64 true)):=biq (Y:=bhj (akf Tryz.f29 5) 64 true) (bb6 (D:=D3) ⟨oo.ok,gy.ok,vo.ok,uf.ok,lg.ok,zf.ok,jl.ok,trivial⟩) (bf (by kernel_rfl)) (bdf (D:=D3) trivial (avg rfl)) (by kernel_rfl) rfl rfl (by kernel_rfl) (by kernel_rfl) rfl rfl rfl (aks _ (by rw[show dn (bhj (akf Tryz.f29 5) 64 true).assign=[] from by kernel_rfl];exact trivial)) (aks _ (by rw[show dn (bhj (akf Tryz.f29 5) 64 true).body=dn (bxa (akf Tryz.f29 5)) from by kernel_rfl,bn0];exact trivial))
noncomputable def bn:Abs.Spec:=fun args K=>match args with
 | [.agg [.v (.int .i64 b),.v (.int .i64 c),.v (.int .i64 d),.v (.int .i64 e),.v (.int .i64 f),.v (.bool a)],.sl (.ints .u8 g),.sl (.ints .u8 h),.sl (.ints .u8 i),.sl (.ints .u8 j),.v (.int .u64 k),.v (.int .u64 l)]=>P.abf b c d e f a g h i j k l (fun m=>K (.v (.bool m)))
 | _=>none
noncomputable def spec:Abs.Spec:=fun args K=>bn (l8 [.any,.sl (.ints .u8 []),.sl (.ints .u8 []),.sl (.ints .u8 []),.sl (.ints .u8 []),.any,.any] args) K
theorem ok0:Proved Tryz.prog GLO.gx 29 bn:=by
 refine bq (D:=D) (fn:=Tryz.f29) (c:=Tryz.f29.body.getD .skip) [.any] (by kernel_rfl) (bf (by kernel_rfl)) (by kernel_rfl) (by kernel_rfl) (by kernel_rfl) ⟨oo.ok,gy.ok,vo.ok,uf.ok,lg.ok,zf.ok,jl.ok,trivial⟩ ⟨auq (D:=D1) (D':=D) (fn:=Tryz.f57) (c:=Tryz.f57.body.getD .skip) rfl rfl (by kernel_rfl) (bf (by kernel_rfl)) (by kernel_rfl) (by kernel_rfl) (by kernel_rfl) ⟨oo.ok,gy.ok,vo.ok,uf.ok,lg.ok,zf.ok,jl.ok,trivial⟩ trivial (by rw[ap4];exact trivial) (fun _ _ _ _ _ h=>h),trivial⟩ ?_ ?_ (hRg:=by rw[ranges];exact ⟨bcj (D:=D) (Di:=D2) (e:=⟨106,64,[4,7,8,9,10],ain D2 Tryz.f106⟩) (by kernel_rfl) rfl rfl (by kernel_rfl) (auq (D:=D2) (D':=D2) (fn:=Tryz.f106) (c:=Tryz.f106.body.getD .skip) rfl rfl (by kernel_rfl) (bf (by kernel_rfl)) (by kernel_rfl) (by kernel_rfl) (by kernel_rfl) ⟨oo.ok,gy.ok,vo.ok,uf.ok,lg.ok,zf.ok,jl.ok,trivial⟩ trivial (by rw[bg5];exact ⟨bjs,trivial⟩) (fun _ _ _ _ _ h=>h) rfl rfl (atl rfl _) (fun s hs=>by have hs:some (axe D3 (bhj (akf Tryz.f29 5) 64 true))=some s:=hs;cases hs;exact bfp)),trivial⟩)
 · rw[loops];exact trivial
 · intro args K r h
   unfold bn at h
   split at h
   · rw[P.aqy] at h;exact Aa (by kernel_rfl) h
   · cases h
theorem ok:Proved Tryz.prog GLO.gx 29 spec:=dw _ ok0
end abf

namespace aeb
noncomputable def D:Ctx:=({ P:=Tryz.prog,G:=[(14,zx.spec),(22,jk.spec),(23,pz.spec),(24,ahq.spec),(25,ze.spec),(26,ahr.spec),(27,wz.spec),(28,aae.spec),(29,abf.spec),(91,ng.spec),(93,uo.spec),(94,rz.spec),(95,um.spec),(97,qz.spec)],globs:=GLO.gx,hints:=[],loops:=[],inl:=[] }:Ctx)
theorem loops:dn (Tryz.f11.body.getD .skip)=[]:=by kernel_rfl
noncomputable def bn:Abs.Spec:=fun args K=>match args with
 | [.agg [.v (.int .i64 b),.v (.int .i64 c),.v (.int .i64 d),.v (.int .i64 e),.v (.int .i64 f),.v (.bool a)],.sl (.ints .u8 g),.sl (.ints .u8 h),.sl (.ints .u8 i),.sl (.ints .u8 j)]=>P.aeb b c d e f a g h i j (fun k=>K (.v (.int .i64 k)))
 | _=>none
noncomputable def spec:Abs.Spec:=fun args K=>bn (l8 [.any,.sl (.ints .u8 []),.sl (.ints .u8 []),.sl (.ints .u8 []),.sl (.ints .u8 [])] args) K
theorem ok0:Proved Tryz.prog GLO.gx 11 bn:=by
 refine bq (D:=D) (fn:=Tryz.f11) (c:=Tryz.f11.body.getD .skip) [.any] (by kernel_rfl) (bf (by kernel_rfl)) (by kernel_rfl) (by kernel_rfl) (by kernel_rfl) ⟨zx.ok,jk.ok,pz.ok,ahq.ok,ze.ok,ahr.ok,wz.ok,aae.ok,abf.ok,ng.ok,uo.ok,rz.ok,um.ok,qz.ok,trivial⟩ trivial ?_ ?_
 · rw[loops];exact trivial
 · intro args K r h
   unfold bn at h
   split at h
   · rw[P.atp] at h;exact Aa (by kernel_rfl) h
   · cases h
theorem ok:Proved Tryz.prog GLO.gx 11 spec:=dw _ ok0
end aeb

namespace yw
noncomputable def D:Ctx:=({ P:=Tryz.prog,G:=[(11,aeb.spec),(13,ae2.spec),(14,zx.spec)],globs:=GLO.gx,hints:=[],loops:=[],inl:=[] }:Ctx)
theorem loops:dn (Tryz.f9.body.getD .skip)=[]:=by kernel_rfl
noncomputable def bn:Abs.Spec:=fun args K=>match args with
 | []=>P.yw (fun a=>K (.v (.bool a)))
 | _=>none
noncomputable def spec:Abs.Spec:=bn
theorem ok0:Proved Tryz.prog GLO.gx 9 bn:=by
 refine bq (D:=D) (fn:=Tryz.f9) (c:=Tryz.f9.body.getD .skip) [.any] (by kernel_rfl) (bf (by kernel_rfl)) (by kernel_rfl) (by kernel_rfl) (by kernel_rfl) ⟨aeb.ok,ae2.ok,zx.ok,trivial⟩ trivial ?_ ?_
 · rw[loops];exact trivial
 · intro args K r h
   unfold bn at h
   split at h
   · rw[P.aw2] at h;exact Aa (by kernel_rfl) h
   · cases h
theorem ok:Proved Tryz.prog GLO.gx 9 spec:=ok0
end yw

namespace agk
abbrev X2:=P.b26
def S2:X2→ASt:=fun (a,b,c)=>⟨[(5,.sl (.rows .u8 a)),(6,.v (.int .i64 b)),(7,.v (.int .i64 c))],[],0,15⟩
def V2:ASt→Option X2
 | ⟨[(5,.sl (.rows .u8 a)),(6,.v (.int .i64 b)),(7,.v (.int .i64 c))],[],0,15⟩=>some (a,b,c)
 | _=>none
theorem ay9(st)(x)(h:V2 st=some x):st=S2 x:=by
 unfold V2 at h
 split at h
 · cases h;rfl
 · cases h
abbrev Y2:=P.b6z
def E2(K:AExit→ASt→Option R):Y2→Option R:=(Sum.elim (fun x=>K (.exit 0) (S2 x)) (fun a=>K .ret ⟨[(2,.v (.bool a))],[],0,15⟩))
noncomputable def L2:tq:=fun st K=>ady (V2 st) fun x=>P.cau x (E2 K)
noncomputable def D:Ctx:=({ P:=Tryz.prog,G:=[],globs:=GLO.gx,hints:=[(2,⟨[5,6,7],[],[2],[],none,[],[],[]⟩)],loops:=[(2,L2)],inl:=[] }:Ctx)
theorem apv(K)(next)(x):l5 D (fq Tryz.f10 2) K next (S2 x)=P.bxw x (fun x=>next (S2 x)) (E2 K):=by kernel_rfl
theorem bal:jv D (fq Tryz.f10 2):=iy S2 ay9 (by kernel_rfl) P.cdy apv
theorem loops:dn (Tryz.f10.body.getD .skip)=[fq Tryz.f10 2]:=by kernel_rfl
noncomputable def bn:Abs.Spec:=fun args K=>match args with
 | [.sl (.rows .u8 a)]=>P.agk a (fun b=>K (.v (.bool b)))
 | _=>none
noncomputable def spec:Abs.Spec:=fun args K=>bn (l8 [.sl (.rows .u8 [])] args) K
theorem ok0:Proved Tryz.prog GLO.gx 10 bn:=by
 refine bq (D:=D) (fn:=Tryz.f10) (c:=Tryz.f10.body.getD .skip) [.any] (by kernel_rfl) (bf (by kernel_rfl)) (by kernel_rfl) (by kernel_rfl) (by kernel_rfl) trivial trivial ?_ ?_
 · rw[loops];exact ⟨bal,trivial⟩
 · intro args K r h
   unfold bn at h
   split at h
   · rw[P.bct] at h;exact Aa (by kernel_rfl) h
   · cases h
theorem ok:Proved Tryz.prog GLO.gx 10 spec:=dw _ ok0
end agk

namespace om
noncomputable def D:Ctx:=({ P:=Tryz.prog,G:=[],globs:=GLO.gx,hints:=[],loops:=[],inl:=[] }:Ctx)
theorem loops:dn (Tryz.f21.body.getD .skip)=[]:=by kernel_rfl
noncomputable def bn:Abs.Spec:=fun args K=>match args with
 | [.agg [.v (.int .i64 b),.v (.int .i64 c),.v (.int .i64 d),.v (.int .i64 e),.v (.int .i64 f),.v (.bool a)]]=>P.om b c d e f a (fun g=>K (.v (.bool g)))
 | _=>none
noncomputable def spec:Abs.Spec:=bn
theorem ok0:Proved Tryz.prog GLO.gx 21 bn:=by
 refine bq (D:=D) (fn:=Tryz.f21) (c:=Tryz.f21.body.getD .skip) [.any] (by kernel_rfl) (bf (by kernel_rfl)) (by kernel_rfl) (by kernel_rfl) (by kernel_rfl) trivial trivial ?_ ?_
 · rw[loops];exact trivial
 · intro args K r h
   unfold bn at h
   split at h
   · rw[P.bb9] at h;exact Aa (by kernel_rfl) h
   · cases h
theorem ok:Proved Tryz.prog GLO.gx 21 spec:=ok0
end om

namespace aeo
noncomputable def D:Ctx:=({ P:=Tryz.prog,G:=[(21,om.spec)],globs:=GLO.gx,hints:=[],loops:=[],inl:=[] }:Ctx)
theorem loops:dn (Tryz.f8.body.getD .skip)=[]:=by kernel_rfl
noncomputable def bn:Abs.Spec:=fun args K=>match args with
 | [.agg [.v (.int .i64 b),.v (.int .i64 c),.v (.int .i64 d),.v (.int .i64 e),.v (.int .i64 f),.v (.bool a)]]=>P.aeo b c d e f a (fun g=>K (.v (.bool g)))
 | _=>none
noncomputable def spec:Abs.Spec:=bn
theorem ok0:Proved Tryz.prog GLO.gx 8 bn:=by
 refine bq (D:=D) (fn:=Tryz.f8) (c:=Tryz.f8.body.getD .skip) [.any] (by kernel_rfl) (bf (by kernel_rfl)) (by kernel_rfl) (by kernel_rfl) (by kernel_rfl) ⟨om.ok,trivial⟩ trivial ?_ ?_
 · rw[loops];exact trivial
 · intro args K r h
   unfold bn at h
   split at h
   · rw[P.ahw] at h;exact Aa (by kernel_rfl) h
   · cases h
theorem ok:Proved Tryz.prog GLO.gx 8 spec:=ok0
end aeo

end
