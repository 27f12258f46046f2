/-
  SlhMakes, part 19: an interpreter of my own over abstract values, the pure functions, the walks and the plain law.
-/

import Derived.Test.YtciddcopcdmnbaaGreatDoorSlhMakesK
import Derived.Test.YtciddcopcdmnbaaGreatDoorSlhMakesH
import Derived.Test.YtciddcopcdmnbaaGreatDoorProg
import Derived.Test.YtciddcopcdmnbaaGreatDoorSlhMakesJ
import Derived.Test.YtciddcopcdmnbaaGreatDoorSlhMakesN
import Derived.Test.YtciddcopcdmnbaaGreatDoorSlhMakesR
import Derived.KernelRfl
import Derived.Test.YtciddcopcdmnbaaGreatDoorSlhMakesL
import Derived.Test.YtciddcopcdmnbaaGreatDoorSlhMakesP
import Derived.Test.YtciddcopcdmnbaaGreatDoorSlhMakesQ
open Eq renaming trans → Aa

section
open Go Go.Abs Go.Proofs
set_option maxRecDepth 100000
set_option maxHeartbeats 0
set_option linter.unusedVariables false

namespace qz
noncomputable def D:Ctx:=({ P:=Tryz.prog,G:=[(40,jc.spec),(98,zn.spec),(99,ag8.spec)],globs:=GLO.gx,hints:=[],loops:=[],inl:=[] }:Ctx)
theorem loops:dn (Tryz.f97.body.getD .skip)=[]:=by kernel_rfl
noncomputable def bn:Abs.Spec:=fun args K=>match args with
 | [.v (.int .i64 g),.sl (.ints .u8 h),.sl (.ints .u8 i),.sl (.ints .u8 j),.sta [.v (.int .i64 k)],.sta [.v (.int .i64 b),.v (.int .i64 c),.v (.int .i64 d),.v (.int .i64 e),.v (.int .i64 f),.v (.bool a)]]=>P.qz g h i j k b c d e f a (fun l=>K (.sl (.ints .u8 l)))
 | _=>none
noncomputable def spec:Abs.Spec:=fun args K=>bn (l8 [.any,.sl (.ints .u8 []),.sl (.ints .u8 []),.sl (.ints .u8 []),.any,.any] args) K
theorem ok0:Proved Tryz.prog GLO.gx 97 bn:=by
 refine bq (D:=D) (fn:=Tryz.f97) (c:=Tryz.f97.body.getD .skip) [.sl (.ints .u8 [])] (by kernel_rfl) (bf (by kernel_rfl)) (by kernel_rfl) (by kernel_rfl) (by kernel_rfl) ⟨jc.ok,zn.ok,ag8.ok,trivial⟩ trivial ?_ ?_
 · rw[loops];exact trivial
 · intro args K r h
   unfold bn at h
   split at h
   · rw[P.axq] at h;exact Aa (by kernel_rfl) h
   · cases h
theorem ok:Proved Tryz.prog GLO.gx 97 spec:=dw _ ok0
end qz

namespace ae7
noncomputable def D:Ctx:=({ P:=Tryz.prog,G:=[(95,um.spec),(97,qz.spec)],globs:=GLO.gx,hints:=[],loops:=[],inl:=[],sta:=true }:Ctx)
theorem loops:dn (Tryz.f50.body.getD .skip)=[]:=by kernel_rfl
noncomputable def bn:Abs.Spec:=fun args K=>match args with
 | [.agg [.v (.int .i64 w),.v (.int .i64 y),.v (.int .i64 z),.v (.int .i64 A),.v (.int .i64 B),.v (.bool p)]]=>P.ae7 w y z A B p (fun q r s t u h o i j k l m b n c d e f g a=>K (.agg [.v (.int .i64 q),.v (.int .i64 r),.v (.int .i64 s),.v (.int .i64 t),.v (.int .i64 u),.v (.bool h),.fn (.func 95) [] [.sta [.v (.int .i64 o)],.sta [.v (.int .i64 i),.v (.int .i64 j),.v (.int .i64 k),.v (.int .i64 l),.v (.int .i64 m),.v (.bool b)]],.fn (.func 97) [] [.sta [.v (.int .i64 n)],.sta [.v (.int .i64 c),.v (.int .i64 d),.v (.int .i64 e),.v (.int .i64 f),.v (.int .i64 g),.v (.bool a)]]]))
 | _=>none
noncomputable def spec:Abs.Spec:=bn
theorem ok0:Proved Tryz.prog GLO.gx 50 bn:=by
 refine bq (D:=D) (fn:=Tryz.f50) (c:=Tryz.f50.body.getD .skip) [.any] (by kernel_rfl) (bf (by kernel_rfl)) (by kernel_rfl) (by kernel_rfl) (by kernel_rfl) ⟨um.ok,qz.ok,trivial⟩ trivial ?_ ?_
 · rw[loops];exact trivial
 · intro args K r h
   unfold bn at h
   split at h
   · rw[P.ber] at h;exact Aa (by kernel_rfl) h
   · cases h
theorem ok:Proved Tryz.prog GLO.gx 50 spec:=ok0
end ae7

namespace ng
noncomputable def D:Ctx:=({ P:=Tryz.prog,G:=[(40,jc.spec),(92,zl.spec)],globs:=GLO.gx,hints:=[],loops:=[],inl:=[] }:Ctx)
theorem loops:dn (Tryz.f91.body.getD .skip)=[]:=by kernel_rfl
noncomputable def bn:Abs.Spec:=fun args K=>match args with
 | [.v (.int .i64 a),.sl (.rows .u8 b)]=>P.ng a b (fun c=>K (.fr 5 (.ints .u8 c)))
 | _=>none
noncomputable def spec:Abs.Spec:=fun args K=>bn (l8 [.any,.sl (.rows .u8 [])] args) K
theorem ok0:Proved Tryz.prog GLO.gx 91 bn:=by
 refine bq (D:=D) (fn:=Tryz.f91) (c:=Tryz.f91.body.getD .skip) [.fr 5 (.ints .u8 [])] (by kernel_rfl) (bf (by kernel_rfl)) (by kernel_rfl) (by kernel_rfl) (by kernel_rfl) ⟨jc.ok,zl.ok,trivial⟩ trivial ?_ ?_
 · rw[loops];exact trivial
 · intro args K r h
   unfold bn at h
   split at h
   · rw[P.axm] at h;exact Aa (by kernel_rfl) h
   · cases h
theorem ok:Proved Tryz.prog GLO.gx 91 spec:=dw _ ok0
end ng

namespace uo
noncomputable def D:Ctx:=({ P:=Tryz.prog,G:=[(91,ng.spec)],globs:=GLO.gx,hints:=[],loops:=[],inl:=[] }:Ctx)
theorem loops:dn (Tryz.f93.body.getD .skip)=[]:=by kernel_rfl
noncomputable def bn:Abs.Spec:=fun args K=>match args with
 | [.sl (.ints .u8 g),.sl (.ints .u8 h),.sl (.ints .u8 i),.sta [.fn (.func 91) [] []],.sta [.v (.int .i64 b),.v (.int .i64 c),.v (.int .i64 d),.v (.int .i64 e),.v (.int .i64 f),.v (.bool a)]]=>P.uo g h i b c d e f a (fun j=>K (.fr 5 (.ints .u8 j)))
 | _=>none
noncomputable def spec:Abs.Spec:=fun args K=>bn (l8 [.sl (.ints .u8 []),.sl (.ints .u8 []),.sl (.ints .u8 []),.any,.any] args) K
theorem ok0:Proved Tryz.prog GLO.gx 93 bn:=by
 refine bq (D:=D) (fn:=Tryz.f93) (c:=Tryz.f93.body.getD .skip) [.fr 5 (.ints .u8 [])] (by kernel_rfl) (bf (by kernel_rfl)) (by kernel_rfl) (by kernel_rfl) (by kernel_rfl) ⟨ng.ok,trivial⟩ trivial ?_ ?_
 · rw[loops];exact trivial
 · intro args K r h
   unfold bn at h
   split at h
   · rw[P.axy] at h;exact Aa (by kernel_rfl) h
   · cases h
theorem ok:Proved Tryz.prog GLO.gx 93 spec:=dw _ ok0
end uo

namespace rz
noncomputable def D:Ctx:=({ P:=Tryz.prog,G:=[(91,ng.spec)],globs:=GLO.gx,hints:=[],loops:=[],inl:=[] }:Ctx)
theorem loops:dn (Tryz.f94.body.getD .skip)=[]:=by kernel_rfl
noncomputable def bn:Abs.Spec:=fun args K=>match args with
 | [.v (.int .i64 a),.sl (.ints .u8 b),.sl (.ints .u8 c),.sl (.ints .u8 d),.sta [.fn (.func 91) [] []]]=>P.rz a b c d (fun e=>K (.fr 5 (.ints .u8 e)))
 | _=>none
noncomputable def spec:Abs.Spec:=fun args K=>bn (l8 [.any,.sl (.ints .u8 []),.sl (.ints .u8 []),.sl (.ints .u8 []),.any] args) K
theorem ok0:Proved Tryz.prog GLO.gx 94 bn:=by
 refine bq (D:=D) (fn:=Tryz.f94) (c:=Tryz.f94.body.getD .skip) [.fr 5 (.ints .u8 [])] (by kernel_rfl) (bf (by kernel_rfl)) (by kernel_rfl) (by kernel_rfl) (by kernel_rfl) ⟨ng.ok,trivial⟩ trivial ?_ ?_
 · rw[loops];exact trivial
 · intro args K r h
   unfold bn at h
   split at h
   · rw[P.axl] at h;exact Aa (by kernel_rfl) h
   · cases h
theorem ok:Proved Tryz.prog GLO.gx 94 spec:=dw _ ok0
end rz

namespace ae9
noncomputable def D:Ctx:=({ P:=Tryz.prog,G:=[(91,ng.spec),(93,uo.spec),(94,rz.spec)],globs:=GLO.gx,hints:=[],loops:=[],inl:=[],sta:=true }:Ctx)
theorem loops:dn (Tryz.f49.body.getD .skip)=[]:=by kernel_rfl
noncomputable def bn:Abs.Spec:=fun args K=>match args with
 | [.agg [.v (.int .i64 n),.v (.int .i64 o),.v (.int .i64 p),.v (.int .i64 q),.v (.int .i64 r),.v (.bool h)]]=>P.ae9 n o p q r h (fun i j k l m b c d e f g a=>K (.agg [.v (.int .i64 i),.v (.int .i64 j),.v (.int .i64 k),.v (.int .i64 l),.v (.int .i64 m),.v (.bool b),.fn (.func 93) [] [.sta [.fn (.func 91) [] []],.sta [.v (.int .i64 c),.v (.int .i64 d),.v (.int .i64 e),.v (.int .i64 f),.v (.int .i64 g),.v (.bool a)]],.fn (.func 94) [] [.sta [.fn (.func 91) [] []]]]))
 | _=>none
noncomputable def spec:Abs.Spec:=bn
theorem ok0:Proved Tryz.prog GLO.gx 49 bn:=by
 refine bq (D:=D) (fn:=Tryz.f49) (c:=Tryz.f49.body.getD .skip) [.any] (by kernel_rfl) (bf (by kernel_rfl)) (by kernel_rfl) (by kernel_rfl) (by kernel_rfl) ⟨ng.ok,uo.ok,rz.ok,trivial⟩ trivial ?_ ?_
 · rw[loops];exact trivial
 · intro args K r h
   unfold bn at h
   split at h
   · rw[P.bf2] at h;exact Aa (by kernel_rfl) h
   · cases h
theorem ok:Proved Tryz.prog GLO.gx 49 spec:=ok0
end ae9

namespace ahq
noncomputable def D:Ctx:=({ P:=Tryz.prog,G:=[(49,ae9.spec),(50,ae7.spec),(91,ng.spec),(93,uo.spec),(94,rz.spec),(95,um.spec),(97,qz.spec)],globs:=GLO.gx,hints:=[],loops:=[],inl:=[] }:Ctx)
theorem loops:dn (Tryz.f24.body.getD .skip)=[]:=by kernel_rfl
noncomputable def bn:Abs.Spec:=fun args K=>match args with
 | [.agg [.v (.int .i64 H),.v (.int .i64 I),.v (.int .i64 J),.v (.int .i64 M),.v (.int .i64 N),.v (.bool y)]]=>P.ahq H I J M N y (fun z A B C F i G j k l m n b u o p q r s c w t d e f g h a=>K (.agg [.v (.int .i64 z),.v (.int .i64 A),.v (.int .i64 B),.v (.int .i64 C),.v (.int .i64 F),.v (.bool i),.alt G (.func 93) [] [.sta [.fn (.func 91) [] []],.sta [.v (.int .i64 j),.v (.int .i64 k),.v (.int .i64 l),.v (.int .i64 m),.v (.int .i64 n),.v (.bool b)]] (.func 95) [] [.sta [.v (.int .i64 u)],.sta [.v (.int .i64 o),.v (.int .i64 p),.v (.int .i64 q),.v (.int .i64 r),.v (.int .i64 s),.v (.bool c)]],.alt w (.func 94) [] [.sta [.fn (.func 91) [] []]] (.func 97) [] [.sta [.v (.int .i64 t)],.sta [.v (.int .i64 d),.v (.int .i64 e),.v (.int .i64 f),.v (.int .i64 g),.v (.int .i64 h),.v (.bool a)]]]))
 | _=>none
noncomputable def spec:Abs.Spec:=bn
theorem ok0:Proved Tryz.prog GLO.gx 24 bn:=by
 refine bq (D:=D) (fn:=Tryz.f24) (c:=Tryz.f24.body.getD .skip) [.agg [.any,.any,.any,.any,.any,.any,.alt (.func 93) [] [.sta [.fn (.func 91) [] []],.sta [.v (.int .i64 0),.v (.int .i64 0),.v (.int .i64 0),.v (.int .i64 0),.v (.int .i64 0),.v (.bool false)]] (.func 95) [] [.sta [.v (.int .i64 0)],.sta [.v (.int .i64 0),.v (.int .i64 0),.v (.int .i64 0),.v (.int .i64 0),.v (.int .i64 0),.v (.bool false)]],.alt (.func 94) [] [.sta [.fn (.func 91) [] []]] (.func 97) [] [.sta [.v (.int .i64 0)],.sta [.v (.int .i64 0),.v (.int .i64 0),.v (.int .i64 0),.v (.int .i64 0),.v (.int .i64 0),.v (.bool false)]]]] (by kernel_rfl) (bf (by kernel_rfl)) (by kernel_rfl) (by kernel_rfl) (by kernel_rfl) ⟨ae9.ok,ae7.ok,ng.ok,uo.ok,rz.ok,um.ok,qz.ok,trivial⟩ trivial ?_ ?_
 · rw[loops];exact trivial
 · intro args K r h
   unfold bn at h
   split at h
   · rw[P.bhu] at h;exact Aa (by kernel_rfl) h
   · cases h
theorem ok:Proved Tryz.prog GLO.gx 24 spec:=ok0
end ahq

namespace abm
noncomputable def D:Ctx:=({ P:=Tryz.prog,G:=[(100,uz.spec)],globs:=GLO.gx,hints:=[],loops:=[],inl:=[] }:Ctx)
theorem loops:dn (Tryz.f51.body.getD .skip)=[]:=by kernel_rfl
noncomputable def bn:Abs.Spec:=fun args K=>match args with
 | [.sl (.ints .u8 a),.v (.int .i64 b)]=>P.abm a b (fun c d=>K (.tuple [.v (.int .u64 c),.sl (.ints .u8 d)]))
 | _=>none
noncomputable def spec:Abs.Spec:=fun args K=>bn (l8 [.sl (.ints .u8 []),.any] args) K
theorem ok0:Proved Tryz.prog GLO.gx 51 bn:=by
 refine bq (D:=D) (fn:=Tryz.f51) (c:=Tryz.f51.body.getD .skip) [.any,.sl (.ints .u8 [])] (by kernel_rfl) (bf (by kernel_rfl)) (by kernel_rfl) (by kernel_rfl) (by kernel_rfl) ⟨uz.ok,trivial⟩ trivial ?_ ?_
 · rw[loops];exact trivial
 · intro args K r h
   unfold bn at h
   split at h
   · rw[P.beo] at h;exact Aa (by kernel_rfl) h
   · cases h
theorem ok:Proved Tryz.prog GLO.gx 51 spec:=dw _ ok0
end abm

namespace ze
noncomputable def D:Ctx:=({ P:=Tryz.prog,G:=[(23,pz.spec),(51,abm.spec),(91,ng.spec),(93,uo.spec),(94,rz.spec),(95,um.spec),(97,qz.spec)],globs:=GLO.gx,hints:=[],loops:=[],inl:=[] }:Ctx)
theorem loops:dn (Tryz.f25.body.getD .skip)=[]:=by kernel_rfl
noncomputable def bn:Abs.Spec:=fun args K=>match args with
 | [.agg [.v (.int .i64 y),.v (.int .i64 z),.v (.int .i64 A),.v (.int .i64 B),.v (.int .i64 C),.v (.bool i),.alt F (.func 93) [] [.sta [.fn (.func 91) [] []],.sta [.v (.int .i64 j),.v (.int .i64 k),.v (.int .i64 l),.v (.int .i64 m),.v (.int .i64 n),.v (.bool b)]] (.func 95) [] [.sta [.v (.int .i64 u)],.sta [.v (.int .i64 o),.v (.int .i64 p),.v (.int .i64 q),.v (.int .i64 r),.v (.int .i64 s),.v (.bool c)]],.alt w (.func 94) [] [.sta [.fn (.func 91) [] []]] (.func 97) [] [.sta [.v (.int .i64 t)],.sta [.v (.int .i64 d),.v (.int .i64 e),.v (.int .i64 f),.v (.int .i64 g),.v (.int .i64 h),.v (.bool a)]]],.sl (.ints .u8 J),.sl (.ints .u8 M),.sl (.ints .u8 N)]=>P.ze y z A B C i F j k l m n b u o p q r s c w t d e f g h a J M N (fun G H I=>K (.agg [.sl (.ints .u8 G),.v (.int .u64 H),.v (.int .u64 I)]))
 | _=>none
noncomputable def spec:Abs.Spec:=fun args K=>bn (l8 [.agg [.any,.any,.any,.any,.any,.any,.alt (.func 93) [] [.sta [.fn (.func 91) [] []],.sta [.v (.int .i64 0),.v (.int .i64 0),.v (.int .i64 0),.v (.int .i64 0),.v (.int .i64 0),.v (.bool false)]] (.func 95) [] [.sta [.v (.int .i64 0)],.sta [.v (.int .i64 0),.v (.int .i64 0),.v (.int .i64 0),.v (.int .i64 0),.v (.int .i64 0),.v (.bool false)]],.alt (.func 94) [] [.sta [.fn (.func 91) [] []]] (.func 97) [] [.sta [.v (.int .i64 0)],.sta [.v (.int .i64 0),.v (.int .i64 0),.v (.int .i64 0),.v (.int .i64 0),.v (.int .i64 0),.v (.bool false)]]],.sl (.ints .u8 []),.sl (.ints .u8 []),.sl (.ints .u8 [])] args) K
theorem ok0:Proved Tryz.prog GLO.gx 25 bn:=by
 refine bq (D:=D) (fn:=Tryz.f25) (c:=Tryz.f25.body.getD .skip) [.agg [.sl (.ints .u8 []),.any,.any]] (by kernel_rfl) (bf (by kernel_rfl)) (by kernel_rfl) (by kernel_rfl) (by kernel_rfl) ⟨pz.ok,abm.ok,ng.ok,uo.ok,rz.ok,um.ok,qz.ok,trivial⟩ trivial ?_ ?_
 · rw[loops];exact trivial
 · intro args K r h
   unfold bn at h
   split at h
   · rw[P.aum] at h;exact Aa (by kernel_rfl) h
   · cases h
theorem ok:Proved Tryz.prog GLO.gx 25 spec:=dw _ ok0
end ze

namespace aae
noncomputable def D:Ctx:=({ P:=Tryz.prog,G:=[(39,gy.spec)],globs:=GLO.gx,hints:=[],loops:=[],inl:=[] }:Ctx)
theorem loops:dn (Tryz.f28.body.getD .skip)=[]:=by kernel_rfl
noncomputable def bn:Abs.Spec:=fun args K=>match args with
 | [.agg [.sl (.ints .u8 a),.v (.int .u64 b),.v (.int .u64 c)]]=>P.aae a b c (fun d=>K (.arr .u8 32 d))
 | _=>none
noncomputable def spec:Abs.Spec:=fun args K=>bn (l8 [.agg [.sl (.ints .u8 []),.any,.any]] args) K
theorem ok0:Proved Tryz.prog GLO.gx 28 bn:=by
 refine bq (D:=D) (fn:=Tryz.f28) (c:=Tryz.f28.body.getD .skip) [.any] (by kernel_rfl) (bf (by kernel_rfl)) (by kernel_rfl) (by kernel_rfl) (by kernel_rfl) ⟨gy.ok,trivial⟩ trivial ?_ ?_
 · rw[loops];exact trivial
 · intro args K r h
   unfold bn at h
   split at h
   · rw[P.av7] at h;exact Aa (by kernel_rfl) h
   · cases h
theorem ok:Proved Tryz.prog GLO.gx 28 spec:=dw _ ok0
end aae

namespace ahr
noncomputable def D:Ctx:=({ P:=Tryz.prog,G:=[(40,jc.spec)],globs:=GLO.gx,hints:=[],loops:=[],inl:=[] }:Ctx)
theorem loops:dn (Tryz.f26.body.getD .skip)=[]:=by kernel_rfl
noncomputable def bn:Abs.Spec:=fun args K=>match args with
 | [.sl (.ints .u8 a),.sl (.ints .u8 b)]=>P.ahr a b (fun c=>K (.fr 5 (.ints .u8 c)))
 | _=>none
noncomputable def spec:Abs.Spec:=fun args K=>bn (l8 [.sl (.ints .u8 []),.sl (.ints .u8 [])] args) K
theorem ok0:Proved Tryz.prog GLO.gx 26 bn:=by
 refine bq (D:=D) (fn:=Tryz.f26) (c:=Tryz.f26.body.getD .skip) [.fr 5 (.ints .u8 [])] (by kernel_rfl) (bf (by kernel_rfl)) (by kernel_rfl) (by kernel_rfl) (by kernel_rfl) ⟨jc.ok,trivial⟩ trivial ?_ ?_
 · rw[loops];exact trivial
 · intro args K r h
   unfold bn at h
   split at h
   · rw[P.bf9] at h;exact Aa (by kernel_rfl) h
   · cases h
theorem ok:Proved Tryz.prog GLO.gx 26 spec:=dw _ ok0
end ahr

namespace zf
abbrev X5:=P.b1e
def S5:X5→ASt:=fun (c,d,e,a,b)=>⟨[(0,.sl (.ints .u8 c)),(1,.sl (.ints .u8 d)),(5,.v (.int .u8 e)),(13,.v (.int .i64 a)),(14,.v (.int .i64 b))],[],0,31⟩
def V5:ASt→Option X5
 | ⟨[(0,.sl (.ints .u8 c)),(1,.sl (.ints .u8 d)),(5,.v (.int .u8 e)),(13,.v (.int .i64 a)),(14,.v (.int .i64 b))],[],0,31⟩=>some (c,d,e,a,b)
 | _=>none
theorem azu(st)(x)(h:V5 st=some x):st=S5 x:=by
 unfold V5 at h
 split at h
 · cases h;rfl
 · cases h
abbrev Y5:=P.b78
def E5(K:AExit→ASt→Option R):Y5→Option R:=(fun x=>K (.exit 0) (S5 x))
noncomputable def L5:tq:=fun st K=>ady (V5 st) fun x=>P.b5h x (E5 K)
noncomputable def D:Ctx:=({ P:=Tryz.prog,G:=[],globs:=GLO.gx,hints:=[(5,⟨[0,1,5,13,14],[],[4],[],none,[],[],[]⟩)],loops:=[(5,L5)],inl:=[] }:Ctx)
theorem aoz(K)(next)(x):l5 D (fq Tryz.f59 5) K next (S5 x)=P.b2r x (fun x=>next (S5 x)) (E5 K):=by kernel_rfl
theorem bap:jv D (fq Tryz.f59 5):=iy S5 azu (by kernel_rfl) P.cd0 aoz
theorem loops:dn (Tryz.f59.body.getD .skip)=[fq Tryz.f59 5]:=by kernel_rfl
noncomputable def bn:Abs.Spec:=fun args K=>match args with
 | [.sl (.ints .u8 a),.sl (.ints .u8 b)]=>P.zf a b (fun c=>K (.v (.bool c)))
 | _=>none
noncomputable def spec:Abs.Spec:=fun args K=>bn (l8 [.sl (.ints .u8 []),.sl (.ints .u8 [])] args) K
theorem ok0:Proved Tryz.prog GLO.gx 59 bn:=by
 refine bq (D:=D) (fn:=Tryz.f59) (c:=Tryz.f59.body.getD .skip) [.any] (by kernel_rfl) (bf (by kernel_rfl)) (by kernel_rfl) (by kernel_rfl) (by kernel_rfl) trivial trivial ?_ ?_
 · rw[loops];exact ⟨bap,trivial⟩
 · intro args K r h
   unfold bn at h
   split at h
   · rw[P.awt] at h;exact Aa (by kernel_rfl) h
   · cases h
theorem ok:Proved Tryz.prog GLO.gx 59 spec:=dw _ ok0
end zf

namespace aaf
abbrev X6:=P.bzv
def S6:X6→ASt:=fun (c,a,b,d)=>⟨[(5,.own 0),(6,.v (.int .u32 c)),(33,.own 0),(34,.v (.int .i64 a)),(35,.v (.int .i64 b))],[(0,some ⟨.row 102 (.ints .u32 d),false⟩)],1,53⟩
def V6:ASt→Option X6
 | ⟨[(5,.own 0),(6,.v (.int .u32 c)),(33,.own 0),(34,.v (.int .i64 a)),(35,.v (.int .i64 b))],[(0,some ⟨.row 102 (.ints .u32 d),false⟩)],1,53⟩=>some (c,a,b,d)
 | _=>none
theorem bax(st)(x)(h:V6 st=some x):st=S6 x:=by
 unfold V6 at h
 split at h
 · cases h;rfl
 · cases h
abbrev Y6:=P.cb1
def E6(K:AExit→ASt→Option R):Y6→Option R:=(fun x=>K (.exit 0) (S6 x))
noncomputable def L6:tq:=fun st K=>ady (V6 st) fun x=>P.b8w x (E6 K)
noncomputable def D:Ctx:=({ P:=Tryz.prog,G:=[(102,nu.spec)],globs:=GLO.gx,hints:=[(6,⟨[5,6,33,34,35],[],[4],[],none,[],[],[]⟩)],loops:=[(6,L6)],inl:=[] }:Ctx)
theorem aos(K)(next)(x):l5 D (fq Tryz.f146 6) K next (S6 x)=P.b2c x (fun x=>next (S6 x)) (E6 K):=by kernel_rfl
theorem ba7:jv D (fq Tryz.f146 6):=iy S6 bax (by kernel_rfl) P.cdo aos
theorem loops:dn (Tryz.f146.body.getD .skip)=[fq Tryz.f146 6]:=by kernel_rfl
noncomputable def bn:Abs.Spec:=fun args K=>match args with
 | [.v (.int .i64 a),.sl (.ints .u8 b)]=>P.aaf a b (fun c=>K (.fr 102 (.ints .u32 c)))
 | _=>none
noncomputable def spec:Abs.Spec:=fun args K=>bn (l8 [.any,.sl (.ints .u8 [])] args) K
theorem ok0:Proved Tryz.prog GLO.gx 146 bn:=by
 refine bq (D:=D) (fn:=Tryz.f146) (c:=Tryz.f146.body.getD .skip) [.fr 102 (.ints .u32 [])] (by kernel_rfl) (bf (by kernel_rfl)) (by kernel_rfl) (by kernel_rfl) (by kernel_rfl) ⟨nu.ok,trivial⟩ trivial ?_ ?_
 · rw[loops];exact ⟨ba7,trivial⟩
 · intro args K r h
   unfold bn at h
   split at h
   · rw[P.ard] at h;exact Aa (by kernel_rfl) h
   · cases h
theorem ok:Proved Tryz.prog GLO.gx 146 spec:=dw _ ok0
end aaf

namespace oq
abbrev X2:=P.byn
def S2:X2→ASt:=fun (z,A,y,o,p,q,r,s,t,u,a,b,c,d,e,f,g,h,i,j,k,l,m,n,w)=>⟨[(2,.sl (.ints .u8 z)),(4,.v (.int .u32 A)),(5,.ptr 0 0),(6,.ptr 1 0),(11,.v (.int .u32 y))],[(0,some ⟨.box 165 [.v (.int .i64 o),.v (.int .i64 p),.v (.int .i64 q),.v (.int .i64 r),.v (.int .i64 s),.v (.bool t),.alt u (.func 186) [] [.sta [.v (.int .i64 a),.arr .u64 25 b,.v (.int .i64 c),.v (.bool d)],.sta [.v (.int .i64 e)]] (.func 188) [] [.sta [.v (.int .i64 f),.arr .u64 8 g,.sl (.ints .u8 h),.v (.int .u64 i)],.sta [.v (.int .i64 j)],.sta [.v (.int .i64 k),.arr .u64 8 l,.sl (.ints .u8 m),.v (.int .u64 n)]]],false⟩),(1,some ⟨.box 64 [.arr .u8 32 w],false⟩)],2,27⟩
def V2:ASt→Option X2
 | ⟨[(2,.sl (.ints .u8 z)),(4,.v (.int .u32 A)),(5,.ptr 0 0),(6,.ptr 1 0),(11,.v (.int .u32 y))],[(0,some ⟨.box 165 [.v (.int .i64 o),.v (.int .i64 p),.v (.int .i64 q),.v (.int .i64 r),.v (.int .i64 s),.v (.bool t),.alt u (.func 186) [] [.sta [.v (.int .i64 a),.arr .u64 25 b,.v (.int .i64 c),.v (.bool d)],.sta [.v (.int .i64 e)]] (.func 188) [] [.sta [.v (.int .i64 f),.arr .u64 8 g,.sl (.ints .u8 h),.v (.int .u64 i)],.sta [.v (.int .i64 j)],.sta [.v (.int .i64 k),.arr .u64 8 l,.sl (.ints .u8 m),.v (.int .u64 n)]]],false⟩),(1,some ⟨.box 64 [.arr .u8 32 w],false⟩)],2,27⟩=>some (z,A,y,o,p,q,r,s,t,u,a,b,c,d,e,f,g,h,i,j,k,l,m,n,w)
 | _=>none
theorem ay9(st)(x)(h:V2 st=some x):st=S2 x:=by
 unfold V2 at h
 split at h
 · cases h;rfl
 · cases h
abbrev Y2:=P.b6h
def E2(K:AExit→ASt→Option R):Y2→Option R:=(fun x=>K (.exit 0) (S2 x))
noncomputable def L2:tq:=fun st K=>ady (V2 st) fun x=>P.cbs x (E2 K)
noncomputable def D:Ctx:=({ P:=Tryz.prog,G:=[(39,gy.spec),(186,jg.spec),(188,jf.spec)],globs:=GLO.gx,hints:=[(2,⟨[2,4,5,6,11],[],[10],[(2,.sl (.ints .u8 []))],none,[],[],[]⟩)],loops:=[(2,L2)],inl:=[] }:Ctx)
theorem apv(K)(next)(x):l5 D (fq Tryz.f147 2) K next (S2 x)=P.b0t x (fun x=>next (S2 x)) (E2 K):=by kernel_rfl
theorem bal:jv D (fq Tryz.f147 2):=iy S2 ay9 (by kernel_rfl) P.ces apv
theorem loops:dn (Tryz.f147.body.getD .skip)=[fq Tryz.f147 2]:=by kernel_rfl
noncomputable def bn:Abs.Spec:=fun args K=>match args with
 | [.agg [.v (.int .i64 p),.v (.int .i64 q),.v (.int .i64 r),.v (.int .i64 s),.v (.int .i64 t),.v (.bool l),.alt u (.func 186) [] [.sta [.v (.int .i64 d),.arr .u64 25 a,.v (.int .i64 m),.v (.bool k)],.sta [.v (.int .i64 n)]] (.func 188) [] [.sta [.v (.int .i64 e),.arr .u64 8 b,.sl (.ints .u8 f),.v (.int .u64 g)],.sta [.v (.int .i64 o)],.sta [.v (.int .i64 h),.arr .u64 8 c,.sl (.ints .u8 i),.v (.int .u64 j)]]],.arr .u8 32 w,.sl (.ints .u8 y),.v (.int .u32 z),.v (.int .u32 A)]=>P.oq p q r s t l u d a m k n e b f g o h c i j w y z A (fun B=>K (.sl (.ints .u8 B)))
 | _=>none
noncomputable def spec:Abs.Spec:=fun args K=>bn (l8 [.agg [.any,.any,.any,.any,.any,.any,.alt (.func 186) [] [.sta [.v (.int .i64 0),.arr .u64 25 [],.v (.int .i64 0),.v (.bool false)],.sta [.v (.int .i64 0)]] (.func 188) [] [.sta [.v (.int .i64 0),.arr .u64 8 [],.sl (.ints .u8 []),.v (.int .u64 0)],.sta [.v (.int .i64 0)],.sta [.v (.int .i64 0),.arr .u64 8 [],.sl (.ints .u8 []),.v (.int .u64 0)]]],.any,.sl (.ints .u8 []),.any,.any] args) K
theorem ok0:Proved Tryz.prog GLO.gx 147 bn:=by
 refine bq (D:=D) (fn:=Tryz.f147) (c:=Tryz.f147.body.getD .skip) [.sl (.ints .u8 [])] (by kernel_rfl) (bf (by kernel_rfl)) (by kernel_rfl) (by kernel_rfl) (by kernel_rfl) ⟨gy.ok,jg.ok,jf.ok,trivial⟩ trivial ?_ ?_
 · rw[loops];exact ⟨bal,trivial⟩
 · intro args K r h
   unfold bn at h
   split at h
   · rw[P.aiq] at h;exact Aa (by kernel_rfl) h
   · cases h
theorem ok:Proved Tryz.prog GLO.gx 147 spec:=dw _ ok0
end oq

namespace ou
noncomputable def D:Ctx:=({ P:=Tryz.prog,G:=[(186,jg.spec),(188,jf.spec)],globs:=GLO.gx,hints:=[],loops:=[],inl:=[] }:Ctx)
theorem loops:dn (Tryz.f145.body.getD .skip)=[]:=by kernel_rfl
noncomputable def bn:Abs.Spec:=fun args K=>match args with
 | [.agg [.v (.int .i64 p),.v (.int .i64 q),.v (.int .i64 r),.v (.int .i64 s),.v (.int .i64 t),.v (.bool l),.alt u (.func 186) [] [.sta [.v (.int .i64 d),.arr .u64 25 a,.v (.int .i64 m),.v (.bool k)],.sta [.v (.int .i64 n)]] (.func 188) [] [.sta [.v (.int .i64 e),.arr .u64 8 b,.sl (.ints .u8 f),.v (.int .u64 g)],.sta [.v (.int .i64 o)],.sta [.v (.int .i64 h),.arr .u64 8 c,.sl (.ints .u8 i),.v (.int .u64 j)]]]]=>P.ou p q r s t l u d a m k n e b f g o h c i j (fun w=>K (.v (.int .i64 w)))
 | _=>none
noncomputable def spec:Abs.Spec:=fun args K=>bn (l8 [.agg [.any,.any,.any,.any,.any,.any,.alt (.func 186) [] [.sta [.v (.int .i64 0),.arr .u64 25 [],.v (.int .i64 0),.v (.bool false)],.sta [.v (.int .i64 0)]] (.func 188) [] [.sta [.v (.int .i64 0),.arr .u64 8 [],.sl (.ints .u8 []),.v (.int .u64 0)],.sta [.v (.int .i64 0)],.sta [.v (.int .i64 0),.arr .u64 8 [],.sl (.ints .u8 []),.v (.int .u64 0)]]]] args) K
theorem ok0:Proved Tryz.prog GLO.gx 145 bn:=by
 refine bq (D:=D) (fn:=Tryz.f145) (c:=Tryz.f145.body.getD .skip) [.any] (by kernel_rfl) (bf (by kernel_rfl)) (by kernel_rfl) (by kernel_rfl) (by kernel_rfl) ⟨jg.ok,jf.ok,trivial⟩ trivial ?_ ?_
 · rw[loops];exact trivial
 · intro args K r h
   unfold bn at h
   split at h
   · rw[P.aij] at h;exact Aa (by kernel_rfl) h
   · cases h
theorem ok:Proved Tryz.prog GLO.gx 145 spec:=dw _ ok0
end ou

namespace wh
noncomputable def D:Ctx:=({ P:=Tryz.prog,G:=[(100,uz.spec)],globs:=GLO.gx,hints:=[],loops:=[],inl:=[] }:Ctx)
theorem loops:dn (Tryz.f170.body.getD .skip)=[]:=by kernel_rfl
noncomputable def bn:Abs.Spec:=fun args K=>match args with
 | [.arr .u8 32 a,.v (.int .i64 b)]=>P.wh a b (fun c=>K (.v (.int .u64 c)))
 | _=>none
noncomputable def spec:Abs.Spec:=bn
theorem ok0:Proved Tryz.prog GLO.gx 170 bn:=by
 refine bq (D:=D) (fn:=Tryz.f170) (c:=Tryz.f170.body.getD .skip) [.any] (by kernel_rfl) (bf (by kernel_rfl)) (by kernel_rfl) (by kernel_rfl) (by kernel_rfl) ⟨uz.ok,trivial⟩ trivial ?_ ?_
 · rw[loops];exact trivial
 · intro args K r h
   unfold bn at h
   split at h
   · rw[P.aq0] at h;exact Aa (by kernel_rfl) h
   · cases h
theorem ok:Proved Tryz.prog GLO.gx 170 spec:=ok0
end wh

end
