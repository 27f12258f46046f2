/-
  SlhMakes, part 24: an interpreter of my own over abstract values, the pure functions, the walks and the plain law.
-/

import Derived.Test.YtciddcopcdmnbaaGreatDoorSlhMakesL
import Derived.Test.YtciddcopcdmnbaaGreatDoorSlhMakesH
import Derived.Test.YtciddcopcdmnbaaGreatDoorProg
import Derived.Test.YtciddcopcdmnbaaGreatDoorSlhMakesJ
import Derived.Test.YtciddcopcdmnbaaGreatDoorSlhMakesN
import Derived.Test.YtciddcopcdmnbaaGreatDoorSlhMakesP
import Derived.Test.YtciddcopcdmnbaaGreatDoorSlhMakesS
import Derived.Test.YtciddcopcdmnbaaGreatDoorSlhMakesQ
import Derived.KernelRfl
import Derived.Test.YtciddcopcdmnbaaGreatDoorSlhMakesT
import Derived.Test.YtciddcopcdmnbaaGreatDoorSlhMakesM
import Derived.Test.YtciddcopcdmnbaaGreatDoorSlhMakesU
import Derived.Test.YtciddcopcdmnbaaGreatDoorSlhMakesW
open Eq renaming trans → Aa

section
open Go Go.Abs Go.Proofs
set_option maxRecDepth 100000
set_option maxHeartbeats 0
set_option linter.unusedVariables false

namespace uq
noncomputable def D:Ctx:=({ P:=Tryz.prog,G:=[(39,gy.spec),(170,wh.spec),(186,jg.spec),(188,jf.spec)],globs:=GLO.gx,hints:=[],loops:=[],inl:=[] }:Ctx)
theorem loops:dn (Tryz.f156.body.getD .skip)=[]:=by kernel_rfl
noncomputable def bn:Abs.Spec:=fun args K=>match args with
 | [.agg [.v (.int .i64 p),.v (.int .i64 q),.v (.int .i64 r),.v (.int .i64 s),.v (.int .i64 t),.v (.bool l),.alt u (.func 186) [] [.sta [.v (.int .i64 d),.arr .u64 25 a,.v (.int .i64 m),.v (.bool k)],.sta [.v (.int .i64 n)]] (.func 188) [] [.sta [.v (.int .i64 e),.arr .u64 8 b,.sl (.ints .u8 f),.v (.int .u64 g)],.sta [.v (.int .i64 o)],.sta [.v (.int .i64 h),.arr .u64 8 c,.sl (.ints .u8 i),.v (.int .u64 j)]]],.sl (.ints .u8 w),.arr .u8 32 y,.v (.int .i64 z)]=>P.uq p q r s t l u d a m k n e b f g o h c i j w y z (fun A=>K (.sl (.ints .u8 A)))
 | _=>none
noncomputable def spec:Abs.Spec:=fun args K=>bn (l8 [.agg [.any,.any,.any,.any,.any,.any,.alt (.func 186) [] [.sta [.v (.int .i64 0),.arr .u64 25 [],.v (.int .i64 0),.v (.bool false)],.sta [.v (.int .i64 0)]] (.func 188) [] [.sta [.v (.int .i64 0),.arr .u64 8 [],.sl (.ints .u8 []),.v (.int .u64 0)],.sta [.v (.int .i64 0)],.sta [.v (.int .i64 0),.arr .u64 8 [],.sl (.ints .u8 []),.v (.int .u64 0)]]],.sl (.ints .u8 []),.any,.any] args) K
theorem ok0:Proved Tryz.prog GLO.gx 156 bn:=by
 refine bq (D:=D) (fn:=Tryz.f156) (c:=Tryz.f156.body.getD .skip) [.sl (.ints .u8 [])] (by kernel_rfl) (bf (by kernel_rfl)) (by kernel_rfl) (by kernel_rfl) (by kernel_rfl) ⟨gy.ok,wh.ok,jg.ok,jf.ok,trivial⟩ trivial ?_ ?_
 · rw[loops];exact trivial
 · intro args K r h
   unfold bn at h
   split at h
   · rw[P.aip] at h;exact Aa (by kernel_rfl) h
   · cases h
theorem ok:Proved Tryz.prog GLO.gx 156 spec:=dw _ ok0
end uq

namespace aah
abbrev X6:=P.by9
def S6:X6→ASt:=fun (B,y,z,A,o,p,q,r,s,t,u,w,a,b,c,d,e,f,g,h,i,j,k,l,m,n)=>⟨[(11,.own 40),(1,.sl (.ints .u8 B)),(7,.ptr 1 0),(9,.ptr 2 0),(29,.v (.int .i64 y)),(30,.v (.int .i64 z))],[(40,some ⟨.row 5 (.ints .u8 A),false⟩),(1,some ⟨.box 64 [.arr .u8 32 o],false⟩),(2,some ⟨.box 165 [.v (.int .i64 p),.v (.int .i64 q),.v (.int .i64 r),.v (.int .i64 s),.v (.int .i64 t),.v (.bool u),.alt w (.func 186) [] [.sta [.v (.int .i64 a),.arr .u64 25 b,.v (.int .i64 c),.v (.bool d)],.sta [.v (.int .i64 e)]] (.func 188) [] [.sta [.v (.int .i64 f),.arr .u64 8 g,.sl (.ints .u8 h),.v (.int .u64 i)],.sta [.v (.int .i64 j)],.sta [.v (.int .i64 k),.arr .u64 8 l,.sl (.ints .u8 m),.v (.int .u64 n)]]],false⟩)],41,51⟩
def V6:ASt→Option X6
 | ⟨[(11,.own 40),(1,.sl (.ints .u8 B)),(7,.ptr 1 0),(9,.ptr 2 0),(29,.v (.int .i64 y)),(30,.v (.int .i64 z))],[(40,some ⟨.row 5 (.ints .u8 A),false⟩),(1,some ⟨.box 64 [.arr .u8 32 o],false⟩),(2,some ⟨.box 165 [.v (.int .i64 p),.v (.int .i64 q),.v (.int .i64 r),.v (.int .i64 s),.v (.int .i64 t),.v (.bool u),.alt w (.func 186) [] [.sta [.v (.int .i64 a),.arr .u64 25 b,.v (.int .i64 c),.v (.bool d)],.sta [.v (.int .i64 e)]] (.func 188) [] [.sta [.v (.int .i64 f),.arr .u64 8 g,.sl (.ints .u8 h),.v (.int .u64 i)],.sta [.v (.int .i64 j)],.sta [.v (.int .i64 k),.arr .u64 8 l,.sl (.ints .u8 m),.v (.int .u64 n)]]],false⟩)],41,51⟩=>some (B,y,z,A,o,p,q,r,s,t,u,w,a,b,c,d,e,f,g,h,i,j,k,l,m,n)
 | _=>none
theorem bax(st)(x)(h:V6 st=some x):st=S6 x:=by
 unfold V6 at h
 split at h
 · cases h;rfl
 · cases h
abbrev Y6:=P.car
def E6(K:AExit→ASt→Option R):Y6→Option R:=(fun x=>K (.exit 0) (S6 x))
noncomputable def L6:tq:=fun st K=>ady (V6 st) fun x=>P.b9k x (E6 K)
noncomputable def D:Ctx:=({ P:=Tryz.prog,G:=[(39,gy.spec),(144,y7.spec),(145,ou.spec),(147,oq.spec),(148,qp.spec),(156,uq.spec)],globs:=GLO.gx,hints:=[(6,⟨[1,7,9,29,30],[(11,5,.ints .u8 [])],[8],[],some (40,[1,2]),[],[],[]⟩)],loops:=[(6,L6)],inl:=[] }:Ctx)
theorem aos(K)(next)(x):l5 D (fq Tryz.f121 6) K next (S6 x)=P.b1o x (fun x=>next (S6 x)) (E6 K):=by kernel_rfl
theorem ba7:jv D (fq Tryz.f121 6):=iy S6 bax (by kernel_rfl) P.cc0 aos
theorem loops:dn (Tryz.f121.body.getD .skip)=[fq Tryz.f121 6]:=by kernel_rfl
noncomputable def bn:Abs.Spec:=fun args K=>match args with
 | [.agg [.v (.int .i64 b),.v (.int .i64 c),.v (.int .i64 d),.v (.int .i64 e),.v (.int .i64 f),.v (.bool a)],.sl (.ints .u8 g),.sl (.ints .u8 h),.arr .u8 32 i]=>P.aah b c d e f a g h i (fun j=>K (.sl (.ints .u8 j)))
 | _=>none
noncomputable def spec:Abs.Spec:=fun args K=>bn (l8 [.any,.sl (.ints .u8 []),.sl (.ints .u8 []),.any] args) K
theorem ok0:Proved Tryz.prog GLO.gx 121 bn:=by
 refine bq (D:=D) (fn:=Tryz.f121) (c:=Tryz.f121.body.getD .skip) [.sl (.ints .u8 [])] (by kernel_rfl) (bf (by kernel_rfl)) (by kernel_rfl) (by kernel_rfl) (by kernel_rfl) ⟨gy.ok,y7.ok,ou.ok,oq.ok,qp.ok,uq.ok,trivial⟩ trivial ?_ ?_
 · rw[loops];exact ⟨ba7,trivial⟩
 · intro args K r h
   unfold bn at h
   split at h
   · rw[P.aq7] at h;exact Aa (by kernel_rfl) h
   · cases h
theorem ok:Proved Tryz.prog GLO.gx 121 spec:=dw _ ok0
end aah

namespace vv
noncomputable def bjq(n:Nat):Abs.Spec:=fun args K=>match args with
 | [.agg [.v (.int .i64 c),.v (.int .i64 d),.v (.int .i64 e),.v (.int .i64 f),.v (.int .i64 g),.v (.bool a),.sl (.ints .u8 b),.sl (.ints .u8 h),.arr .u8 32 i],.v (.int .i64 j),.v (.int .u64 k)]=>P.vv n c d e f g a b h i j k (fun l=>K (.sl (.ints .u8 l)))
 | _=>none
noncomputable def b92(n:Nat):Abs.Spec:=fun args K=>bjq n (l8 [.agg [.any,.any,.any,.any,.any,.any,.sl (.ints .u8 []),.sl (.ints .u8 []),.any],.any,.any] args) K
noncomputable def D(n:Nat):Ctx:=({ P:=Tryz.prog,G:=[(108,uh.spec),(109,qx.spec),(121,aah.spec),(74,b92 n)],globs:=GLO.gx,hints:=[],loops:=[],inl:=[] }:Ctx)
theorem body(n:Nat)(c:Int)(d:Int)(e:Int)(f:Int)(g:Int)(a:Bool)(b:List Int)(h:List Int)(i:List Int)(j:Int)(k:Int)(K:AVal→Option R):brc (D n) Tryz.f74 [.sl (.ints .u8 [])] [.agg [.v (.int .i64 c),.v (.int .i64 d),.v (.int .i64 e),.v (.int .i64 f),.v (.int .i64 g),.v (.bool a),.sl (.ints .u8 b),.sl (.ints .u8 h),.arr .u8 32 i],.v (.int .i64 j),.v (.int .u64 k)] K=P.vv (n+1) c d e f g a b h i j k (fun l=>K (.sl (.ints .u8 l))):=by
 rw[P.ag7]
 kernel_rfl
theorem loops:dn (Tryz.f74.body.getD .skip)=[]:=by kernel_rfl
noncomputable def bn:Abs.Spec:=fun args K=>match args with
 | [.agg [.v (.int .i64 c),.v (.int .i64 d),.v (.int .i64 e),.v (.int .i64 f),.v (.int .i64 g),.v (.bool a),.sl (.ints .u8 b),.sl (.ints .u8 h),.arr .u8 32 i],.v (.int .i64 j),.v (.int .u64 k)]=>P.vv ((j.toNat+1)) c d e f g a b h i j k (fun l=>K (.sl (.ints .u8 l)))
 | _=>none
noncomputable def spec:Abs.Spec:=fun args K=>bn (l8 [.agg [.any,.any,.any,.any,.any,.any,.sl (.ints .u8 []),.sl (.ints .u8 []),.any],.any,.any] args) K
theorem step(n:Nat)(ih:Proved Tryz.prog GLO.gx 74 (bjq n)):Proved Tryz.prog GLO.gx 74 (bjq (n+1)):=by
 refine bq (D:=D n) (fn:=Tryz.f74) (c:=Tryz.f74.body.getD .skip) [.sl (.ints .u8 [])] (by kernel_rfl) (bf (by kernel_rfl)) (by kernel_rfl) (by kernel_rfl) (by kernel_rfl) ⟨uh.ok,qx.ok,aah.ok,dw _ ih,trivial⟩ trivial ?_ ?_
 · rw[loops];exact trivial
 · intro args K r h
   unfold bjq at h
   split at h
   · rw[body];exact h
   · cases h
theorem okN:∀n,Proved Tryz.prog GLO.gx 74 (bjq n)
 | 0=>⟨⟨Tryz.f74,by kernel_rfl,by kernel_rfl,by kernel_rfl⟩,fun args K r h=>by unfold bjq at h;split at h<;>cases h⟩
 | n+1=>step n (okN n)
theorem ok0:Proved Tryz.prog GLO.gx 74 bn:=⟨(okN 0).enters,fun args K r h=>by
 unfold bn at h
 split at h
 · exact (okN _).sound _ K r (by unfold bjq;exact h)
 · cases h⟩
theorem ok:Proved Tryz.prog GLO.gx 74 spec:=dw _ ok0
end vv

namespace abn
noncomputable def D:Ctx:=({ P:=Tryz.prog,G:=[(55,vo.spec),(73,jl.spec),(74,vv.spec)],globs:=GLO.gx,hints:=[],loops:=[],inl:=[] }:Ctx)
theorem loops:dn (Tryz.f38.body.getD .skip)=[]:=by kernel_rfl
noncomputable def bn:Abs.Spec:=fun args K=>match args with
 | [.agg [.v (.int .i64 b),.v (.int .i64 c),.v (.int .i64 d),.v (.int .i64 e),.v (.int .i64 f),.v (.bool a)],.sl (.ints .u8 g),.sl (.ints .u8 h),.arr .u8 32 i,.v (.int .i64 j),.v (.int .u64 k)]=>P.abn b c d e f a g h i j k (fun l=>K (.sl (.ints .u8 l)))
 | _=>none
noncomputable def spec:Abs.Spec:=fun args K=>bn (l8 [.any,.sl (.ints .u8 []),.sl (.ints .u8 []),.any,.any,.any] args) K
theorem ok0:Proved Tryz.prog GLO.gx 38 bn:=by
 refine bq (D:=D) (fn:=Tryz.f38) (c:=Tryz.f38.body.getD .skip) [.sl (.ints .u8 [])] (by kernel_rfl) (bf (by kernel_rfl)) (by kernel_rfl) (by kernel_rfl) (by kernel_rfl) ⟨vo.ok,jl.ok,vv.ok,trivial⟩ trivial ?_ ?_
 · rw[loops];exact trivial
 · intro args K r h
   unfold bn at h
   split at h
   · rw[P.awq] at h;exact Aa (by kernel_rfl) h
   · cases h
theorem ok:Proved Tryz.prog GLO.gx 38 spec:=dw _ ok0
end abn

namespace afx
noncomputable def D:Ctx:=({ P:=Tryz.prog,G:=[(22,jk.spec),(38,abn.spec),(39,gy.spec),(40,jc.spec)],globs:=GLO.gx,hints:=[],loops:=[],inl:=[] }:Ctx)
theorem loops:dn (Tryz.f16.body.getD .skip)=[]:=by kernel_rfl
noncomputable def bn:Abs.Spec:=fun args K=>match args with
 | [.agg [.v (.int .i64 b),.v (.int .i64 c),.v (.int .i64 d),.v (.int .i64 e),.v (.int .i64 f),.v (.bool a)],.sl (.ints .u8 g),.sl (.ints .u8 h),.sl (.ints .u8 i)]=>P.afx b c d e f a g h i (fun j k l=>K (.tuple [.sl (.ints .u8 j),.fr 5 (.ints .u8 k),.v (.int .i64 l)]))
 | _=>none
noncomputable def spec:Abs.Spec:=fun args K=>bn (l8 [.any,.sl (.ints .u8 []),.sl (.ints .u8 []),.sl (.ints .u8 [])] args) K
theorem ok0:Proved Tryz.prog GLO.gx 16 bn:=by
 refine bq (D:=D) (fn:=Tryz.f16) (c:=Tryz.f16.body.getD .skip) [.sl (.ints .u8 []),.fr 5 (.ints .u8 []),.any] (by kernel_rfl) (bf (by kernel_rfl)) (by kernel_rfl) (by kernel_rfl) (by kernel_rfl) ⟨jk.ok,abn.ok,gy.ok,jc.ok,trivial⟩ trivial ?_ ?_
 · rw[loops];exact trivial
 · intro args K r h
   unfold bn at h
   split at h
   · rw[P.ag4] at h;exact Aa (by kernel_rfl) h
   · cases h
theorem ok:Proved Tryz.prog GLO.gx 16 spec:=dw _ ok0
end afx

namespace aa5
noncomputable def D:Ctx:=({ P:=Tryz.prog,G:=[(7,ajb.spec),(8,aeo.spec),(9,yw.spec),(10,agk.spec),(13,ae2.spec),(14,zx.spec),(15,af8.spec),(16,afx.spec),(17,afo.spec),(18,ab4.spec)],globs:=GLO.gx,hints:=[],loops:=[],inl:=[] }:Ctx)
theorem loops:dn (Tryz.f4.body.getD .skip)=[]:=by kernel_rfl
noncomputable def bn:Abs.Spec:=fun args K=>match args with
 | [.v (.int .i64 g),.agg [.v (.int .i64 b),.v (.int .i64 c),.v (.int .i64 d),.v (.int .i64 e),.v (.int .i64 f),.v (.bool a)],.sl (.ints .u8 h),.sl (.ints .u8 i),.sl (.ints .u8 j)]=>P.aa5 g b c d e f a h i j (fun k=>K (.v (.bool k)))
 | _=>none
noncomputable def spec:Abs.Spec:=fun args K=>bn (l8 [.any,.any,.sl (.ints .u8 []),.sl (.ints .u8 []),.sl (.ints .u8 [])] args) K
theorem ok0:Proved Tryz.prog GLO.gx 4 bn:=by
 refine bq (D:=D) (fn:=Tryz.f4) (c:=Tryz.f4.body.getD .skip) [.any] (by kernel_rfl) (bf (by kernel_rfl)) (by kernel_rfl) (by kernel_rfl) (by kernel_rfl) ⟨ajb.ok,aeo.ok,yw.ok,agk.ok,ae2.ok,zx.ok,af8.ok,afx.ok,afo.ok,ab4.ok,trivial⟩ trivial ?_ ?_
 · rw[loops];exact trivial
 · intro args K r h
   unfold bn at h
   split at h
   · rw[P.apo] at h;exact Aa (by kernel_rfl) h
   · cases h
theorem ok:Proved Tryz.prog GLO.gx 4 spec:=dw _ ok0
end aa5

end
