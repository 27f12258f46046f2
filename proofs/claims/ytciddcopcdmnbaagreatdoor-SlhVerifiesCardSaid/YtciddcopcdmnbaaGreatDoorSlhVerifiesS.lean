/-
  SlhVerifies, part 19: an interpreter of my own over abstract values, the pure functions, the walks and the plain law.
-/

import Derived.Test.YtciddcopcdmnbaaGreatDoorSlhVerifiesK
import Derived.Test.YtciddcopcdmnbaaGreatDoorSlhVerifiesH
import Derived.Test.YtciddcopcdmnbaaGreatDoorProg
import Derived.Test.YtciddcopcdmnbaaGreatDoorSlhVerifiesJ
import Derived.Test.YtciddcopcdmnbaaGreatDoorSlhVerifiesN
import Derived.Test.YtciddcopcdmnbaaGreatDoorSlhVerifiesR
import Derived.KernelRfl
import Derived.Test.YtciddcopcdmnbaaGreatDoorSlhVerifiesL
import Derived.Test.YtciddcopcdmnbaaGreatDoorSlhVerifiesP
import Derived.Test.YtciddcopcdmnbaaGreatDoorSlhVerifiesQ
open Eq renaming trans → Aa

section
open Go Go.Abs Go.Proofs
set_option maxRecDepth 100000
set_option maxHeartbeats 0
set_option linter.unusedVariables false

namespace qj
noncomputable def D:Ctx:=({ P:=Tryz.prog,G:=[(40,jd.spec),(98,zx.spec),(99,af0.spec)],globs:=GLO.gx,hints:=[],loops:=[],inl:=[] }:Ctx)
theorem loops:dn (Tryz.f97.body.getD .skip)=[]:=by kernel_rfl
noncomputable def bn:Abs.Spec:=fun args K=>match args with
 | [.v (.int .i64 g),.sl (.ints .u8 h),.sl (.ints .u8 i),.sl (.ints .u8 j),.sta [.v (.int .i64 k)],.sta [.v (.int .i64 b),.v (.int .i64 c),.v (.int .i64 d),.v (.int .i64 e),.v (.int .i64 f),.v (.bool a)]]=>P.qj g h i j k b c d e f a (fun l=>K (.sl (.ints .u8 l)))
 | _=>none
noncomputable def spec:Abs.Spec:=fun args K=>bn (mh [.any,.sl (.ints .u8 []),.sl (.ints .u8 []),.sl (.ints .u8 []),.any,.any] args) K
theorem ok0:Proved Tryz.prog GLO.gx 97 bn:=by
 refine bq (D:=D) (fn:=Tryz.f97) (c:=Tryz.f97.body.getD .skip) [.sl (.ints .u8 [])] (by kernel_rfl) (bg (by kernel_rfl)) (by kernel_rfl) (by kernel_rfl) (by kernel_rfl) ⟨jd.ok,zx.ok,af0.ok,trivial⟩ trivial ?_ ?_
 · rw[loops];exact trivial
 · intro args K r h
   unfold bn at h
   split at h
   · rw[P.ao4] at h;exact Aa (by kernel_rfl) h
   · cases h
theorem ok:Proved Tryz.prog GLO.gx 97 spec:=dx _ ok0
end qj

namespace afq
noncomputable def D:Ctx:=({ P:=Tryz.prog,G:=[(95,u6.spec),(97,qj.spec)],globs:=GLO.gx,hints:=[],loops:=[],inl:=[],sta:=true }:Ctx)
theorem loops:dn (Tryz.f50.body.getD .skip)=[]:=by kernel_rfl
noncomputable def bn:Abs.Spec:=fun args K=>match args with
 | [.agg [.v (.int .i64 w),.v (.int .i64 y),.v (.int .i64 z),.v (.int .i64 A),.v (.int .i64 B),.v (.bool p)]]=>P.afq w y z A B p (fun q r s t u h o i j k l m b n c d e f g a=>K (.agg [.v (.int .i64 q),.v (.int .i64 r),.v (.int .i64 s),.v (.int .i64 t),.v (.int .i64 u),.v (.bool h),.fn (.func 95) [] [.sta [.v (.int .i64 o)],.sta [.v (.int .i64 i),.v (.int .i64 j),.v (.int .i64 k),.v (.int .i64 l),.v (.int .i64 m),.v (.bool b)]],.fn (.func 97) [] [.sta [.v (.int .i64 n)],.sta [.v (.int .i64 c),.v (.int .i64 d),.v (.int .i64 e),.v (.int .i64 f),.v (.int .i64 g),.v (.bool a)]]]))
 | _=>none
noncomputable def spec:Abs.Spec:=bn
theorem ok0:Proved Tryz.prog GLO.gx 50 bn:=by
 refine bq (D:=D) (fn:=Tryz.f50) (c:=Tryz.f50.body.getD .skip) [.any] (by kernel_rfl) (bg (by kernel_rfl)) (by kernel_rfl) (by kernel_rfl) (by kernel_rfl) ⟨u6.ok,qj.ok,trivial⟩ trivial ?_ ?_
 · rw[loops];exact trivial
 · intro args K r h
   unfold bn at h
   split at h
   · rw[P.awo] at h;exact Aa (by kernel_rfl) h
   · cases h
theorem ok:Proved Tryz.prog GLO.gx 50 spec:=ok0
end afq

namespace oq
noncomputable def D:Ctx:=({ P:=Tryz.prog,G:=[(40,jd.spec),(92,zq.spec)],globs:=GLO.gx,hints:=[],loops:=[],inl:=[] }:Ctx)
theorem loops:dn (Tryz.f91.body.getD .skip)=[]:=by kernel_rfl
noncomputable def bn:Abs.Spec:=fun args K=>match args with
 | [.v (.int .i64 a),.sl (.rows .u8 b)]=>P.oq a b (fun c=>K (.fr 5 (.ints .u8 c)))
 | _=>none
noncomputable def spec:Abs.Spec:=fun args K=>bn (mh [.any,.sl (.rows .u8 [])] args) K
theorem ok0:Proved Tryz.prog GLO.gx 91 bn:=by
 refine bq (D:=D) (fn:=Tryz.f91) (c:=Tryz.f91.body.getD .skip) [.fr 5 (.ints .u8 [])] (by kernel_rfl) (bg (by kernel_rfl)) (by kernel_rfl) (by kernel_rfl) (by kernel_rfl) ⟨jd.ok,zq.ok,trivial⟩ trivial ?_ ?_
 · rw[loops];exact trivial
 · intro args K r h
   unfold bn at h
   split at h
   · rw[P.apb] at h;exact Aa (by kernel_rfl) h
   · cases h
theorem ok:Proved Tryz.prog GLO.gx 91 spec:=dx _ ok0
end oq

namespace uq
noncomputable def D:Ctx:=({ P:=Tryz.prog,G:=[(91,oq.spec)],globs:=GLO.gx,hints:=[],loops:=[],inl:=[] }:Ctx)
theorem loops:dn (Tryz.f93.body.getD .skip)=[]:=by kernel_rfl
noncomputable def bn:Abs.Spec:=fun args K=>match args with
 | [.sl (.ints .u8 g),.sl (.ints .u8 h),.sl (.ints .u8 i),.sta [.fn (.func 91) [] []],.sta [.v (.int .i64 b),.v (.int .i64 c),.v (.int .i64 d),.v (.int .i64 e),.v (.int .i64 f),.v (.bool a)]]=>P.uq g h i b c d e f a (fun j=>K (.fr 5 (.ints .u8 j)))
 | _=>none
noncomputable def spec:Abs.Spec:=fun args K=>bn (mh [.sl (.ints .u8 []),.sl (.ints .u8 []),.sl (.ints .u8 []),.any,.any] args) K
theorem ok0:Proved Tryz.prog GLO.gx 93 bn:=by
 refine bq (D:=D) (fn:=Tryz.f93) (c:=Tryz.f93.body.getD .skip) [.fr 5 (.ints .u8 [])] (by kernel_rfl) (bg (by kernel_rfl)) (by kernel_rfl) (by kernel_rfl) (by kernel_rfl) ⟨oq.ok,trivial⟩ trivial ?_ ?_
 · rw[loops];exact trivial
 · intro args K r h
   unfold bn at h
   split at h
   · rw[P.azl] at h;exact Aa (by kernel_rfl) h
   · cases h
theorem ok:Proved Tryz.prog GLO.gx 93 spec:=dx _ ok0
end uq

namespace qo
noncomputable def D:Ctx:=({ P:=Tryz.prog,G:=[(91,oq.spec)],globs:=GLO.gx,hints:=[],loops:=[],inl:=[] }:Ctx)
theorem loops:dn (Tryz.f94.body.getD .skip)=[]:=by kernel_rfl
noncomputable def bn:Abs.Spec:=fun args K=>match args with
 | [.v (.int .i64 a),.sl (.ints .u8 b),.sl (.ints .u8 c),.sl (.ints .u8 d),.sta [.fn (.func 91) [] []]]=>P.qo a b c d (fun e=>K (.fr 5 (.ints .u8 e)))
 | _=>none
noncomputable def spec:Abs.Spec:=fun args K=>bn (mh [.any,.sl (.ints .u8 []),.sl (.ints .u8 []),.sl (.ints .u8 []),.any] args) K
theorem ok0:Proved Tryz.prog GLO.gx 94 bn:=by
 refine bq (D:=D) (fn:=Tryz.f94) (c:=Tryz.f94.body.getD .skip) [.fr 5 (.ints .u8 [])] (by kernel_rfl) (bg (by kernel_rfl)) (by kernel_rfl) (by kernel_rfl) (by kernel_rfl) ⟨oq.ok,trivial⟩ trivial ?_ ?_
 · rw[loops];exact trivial
 · intro args K r h
   unfold bn at h
   split at h
   · rw[P.apj] at h;exact Aa (by kernel_rfl) h
   · cases h
theorem ok:Proved Tryz.prog GLO.gx 94 spec:=dx _ ok0
end qo

namespace afs
noncomputable def D:Ctx:=({ P:=Tryz.prog,G:=[(91,oq.spec),(93,uq.spec),(94,qo.spec)],globs:=GLO.gx,hints:=[],loops:=[],inl:=[],sta:=true }:Ctx)
theorem loops:dn (Tryz.f49.body.getD .skip)=[]:=by kernel_rfl
noncomputable def bn:Abs.Spec:=fun args K=>match args with
 | [.agg [.v (.int .i64 n),.v (.int .i64 o),.v (.int .i64 p),.v (.int .i64 q),.v (.int .i64 r),.v (.bool h)]]=>P.afs n o p q r h (fun i j k l m b c d e f g a=>K (.agg [.v (.int .i64 i),.v (.int .i64 j),.v (.int .i64 k),.v (.int .i64 l),.v (.int .i64 m),.v (.bool b),.fn (.func 93) [] [.sta [.fn (.func 91) [] []],.sta [.v (.int .i64 c),.v (.int .i64 d),.v (.int .i64 e),.v (.int .i64 f),.v (.int .i64 g),.v (.bool a)]],.fn (.func 94) [] [.sta [.fn (.func 91) [] []]]]))
 | _=>none
noncomputable def spec:Abs.Spec:=bn
theorem ok0:Proved Tryz.prog GLO.gx 49 bn:=by
 refine bq (D:=D) (fn:=Tryz.f49) (c:=Tryz.f49.body.getD .skip) [.any] (by kernel_rfl) (bg (by kernel_rfl)) (by kernel_rfl) (by kernel_rfl) (by kernel_rfl) ⟨oq.ok,uq.ok,qo.ok,trivial⟩ trivial ?_ ?_
 · rw[loops];exact trivial
 · intro args K r h
   unfold bn at h
   split at h
   · rw[P.aws] at h;exact Aa (by kernel_rfl) h
   · cases h
theorem ok:Proved Tryz.prog GLO.gx 49 spec:=ok0
end afs

namespace ae4
noncomputable def D:Ctx:=({ P:=Tryz.prog,G:=[(49,afs.spec),(50,afq.spec),(91,oq.spec),(93,uq.spec),(94,qo.spec),(95,u6.spec),(97,qj.spec)],globs:=GLO.gx,hints:=[],loops:=[],inl:=[] }:Ctx)
theorem loops:dn (Tryz.f24.body.getD .skip)=[]:=by kernel_rfl
noncomputable def bn:Abs.Spec:=fun args K=>match args with
 | [.agg [.v (.int .i64 H),.v (.int .i64 I),.v (.int .i64 J),.v (.int .i64 M),.v (.int .i64 N),.v (.bool y)]]=>P.ae4 H I J M N y (fun z A B C F i G j k l m n b u o p q r s c w t d e f g h a=>K (.agg [.v (.int .i64 z),.v (.int .i64 A),.v (.int .i64 B),.v (.int .i64 C),.v (.int .i64 F),.v (.bool i),.alt G (.func 93) [] [.sta [.fn (.func 91) [] []],.sta [.v (.int .i64 j),.v (.int .i64 k),.v (.int .i64 l),.v (.int .i64 m),.v (.int .i64 n),.v (.bool b)]] (.func 95) [] [.sta [.v (.int .i64 u)],.sta [.v (.int .i64 o),.v (.int .i64 p),.v (.int .i64 q),.v (.int .i64 r),.v (.int .i64 s),.v (.bool c)]],.alt w (.func 94) [] [.sta [.fn (.func 91) [] []]] (.func 97) [] [.sta [.v (.int .i64 t)],.sta [.v (.int .i64 d),.v (.int .i64 e),.v (.int .i64 f),.v (.int .i64 g),.v (.int .i64 h),.v (.bool a)]]]))
 | _=>none
noncomputable def spec:Abs.Spec:=bn
theorem ok0:Proved Tryz.prog GLO.gx 24 bn:=by
 refine bq (D:=D) (fn:=Tryz.f24) (c:=Tryz.f24.body.getD .skip) [.agg [.any,.any,.any,.any,.any,.any,.alt (.func 93) [] [.sta [.fn (.func 91) [] []],.sta [.v (.int .i64 0),.v (.int .i64 0),.v (.int .i64 0),.v (.int .i64 0),.v (.int .i64 0),.v (.bool false)]] (.func 95) [] [.sta [.v (.int .i64 0)],.sta [.v (.int .i64 0),.v (.int .i64 0),.v (.int .i64 0),.v (.int .i64 0),.v (.int .i64 0),.v (.bool false)]],.alt (.func 94) [] [.sta [.fn (.func 91) [] []]] (.func 97) [] [.sta [.v (.int .i64 0)],.sta [.v (.int .i64 0),.v (.int .i64 0),.v (.int .i64 0),.v (.int .i64 0),.v (.int .i64 0),.v (.bool false)]]]] (by kernel_rfl) (bg (by kernel_rfl)) (by kernel_rfl) (by kernel_rfl) (by kernel_rfl) ⟨afs.ok,afq.ok,oq.ok,uq.ok,qo.ok,u6.ok,qj.ok,trivial⟩ trivial ?_ ?_
 · rw[loops];exact trivial
 · intro args K r h
   unfold bn at h
   split at h
   · rw[P.arl] at h;exact Aa (by kernel_rfl) h
   · cases h
theorem ok:Proved Tryz.prog GLO.gx 24 spec:=ok0
end ae4

namespace aai
noncomputable def D:Ctx:=({ P:=Tryz.prog,G:=[(100,uy.spec)],globs:=GLO.gx,hints:=[],loops:=[],inl:=[] }:Ctx)
theorem loops:dn (Tryz.f51.body.getD .skip)=[]:=by kernel_rfl
noncomputable def bn:Abs.Spec:=fun args K=>match args with
 | [.sl (.ints .u8 a),.v (.int .i64 b)]=>P.aai a b (fun c d=>K (.tuple [.v (.int .u64 c),.sl (.ints .u8 d)]))
 | _=>none
noncomputable def spec:Abs.Spec:=fun args K=>bn (mh [.sl (.ints .u8 []),.any] args) K
theorem ok0:Proved Tryz.prog GLO.gx 51 bn:=by
 refine bq (D:=D) (fn:=Tryz.f51) (c:=Tryz.f51.body.getD .skip) [.any,.sl (.ints .u8 [])] (by kernel_rfl) (bg (by kernel_rfl)) (by kernel_rfl) (by kernel_rfl) (by kernel_rfl) ⟨uy.ok,trivial⟩ trivial ?_ ?_
 · rw[loops];exact trivial
 · intro args K r h
   unfold bn at h
   split at h
   · rw[P.avz] at h;exact Aa (by kernel_rfl) h
   · cases h
theorem ok:Proved Tryz.prog GLO.gx 51 spec:=dx _ ok0
end aai

namespace wh
noncomputable def D:Ctx:=({ P:=Tryz.prog,G:=[(23,ow.spec),(51,aai.spec),(91,oq.spec),(93,uq.spec),(94,qo.spec),(95,u6.spec),(97,qj.spec)],globs:=GLO.gx,hints:=[],loops:=[],inl:=[] }:Ctx)
theorem loops:dn (Tryz.f25.body.getD .skip)=[]:=by kernel_rfl
noncomputable def bn:Abs.Spec:=fun args K=>match args with
 | [.agg [.v (.int .i64 y),.v (.int .i64 z),.v (.int .i64 A),.v (.int .i64 B),.v (.int .i64 C),.v (.bool i),.alt F (.func 93) [] [.sta [.fn (.func 91) [] []],.sta [.v (.int .i64 j),.v (.int .i64 k),.v (.int .i64 l),.v (.int .i64 m),.v (.int .i64 n),.v (.bool b)]] (.func 95) [] [.sta [.v (.int .i64 u)],.sta [.v (.int .i64 o),.v (.int .i64 p),.v (.int .i64 q),.v (.int .i64 r),.v (.int .i64 s),.v (.bool c)]],.alt w (.func 94) [] [.sta [.fn (.func 91) [] []]] (.func 97) [] [.sta [.v (.int .i64 t)],.sta [.v (.int .i64 d),.v (.int .i64 e),.v (.int .i64 f),.v (.int .i64 g),.v (.int .i64 h),.v (.bool a)]]],.sl (.ints .u8 J),.sl (.ints .u8 M),.sl (.ints .u8 N)]=>P.wh y z A B C i F j k l m n b u o p q r s c w t d e f g h a J M N (fun G H I=>K (.agg [.sl (.ints .u8 G),.v (.int .u64 H),.v (.int .u64 I)]))
 | _=>none
noncomputable def spec:Abs.Spec:=fun args K=>bn (mh [.agg [.any,.any,.any,.any,.any,.any,.alt (.func 93) [] [.sta [.fn (.func 91) [] []],.sta [.v (.int .i64 0),.v (.int .i64 0),.v (.int .i64 0),.v (.int .i64 0),.v (.int .i64 0),.v (.bool false)]] (.func 95) [] [.sta [.v (.int .i64 0)],.sta [.v (.int .i64 0),.v (.int .i64 0),.v (.int .i64 0),.v (.int .i64 0),.v (.int .i64 0),.v (.bool false)]],.alt (.func 94) [] [.sta [.fn (.func 91) [] []]] (.func 97) [] [.sta [.v (.int .i64 0)],.sta [.v (.int .i64 0),.v (.int .i64 0),.v (.int .i64 0),.v (.int .i64 0),.v (.int .i64 0),.v (.bool false)]]],.sl (.ints .u8 []),.sl (.ints .u8 []),.sl (.ints .u8 [])] args) K
theorem ok0:Proved Tryz.prog GLO.gx 25 bn:=by
 refine bq (D:=D) (fn:=Tryz.f25) (c:=Tryz.f25.body.getD .skip) [.agg [.sl (.ints .u8 []),.any,.any]] (by kernel_rfl) (bg (by kernel_rfl)) (by kernel_rfl) (by kernel_rfl) (by kernel_rfl) ⟨ow.ok,aai.ok,oq.ok,uq.ok,qo.ok,u6.ok,qj.ok,trivial⟩ trivial ?_ ?_
 · rw[loops];exact trivial
 · intro args K r h
   unfold bn at h
   split at h
   · rw[P.ag2] at h;exact Aa (by kernel_rfl) h
   · cases h
theorem ok:Proved Tryz.prog GLO.gx 25 spec:=dx _ ok0
end wh

namespace xw
noncomputable def D:Ctx:=({ P:=Tryz.prog,G:=[(39,jc.spec)],globs:=GLO.gx,hints:=[],loops:=[],inl:=[] }:Ctx)
theorem loops:dn (Tryz.f28.body.getD .skip)=[]:=by kernel_rfl
noncomputable def bn:Abs.Spec:=fun args K=>match args with
 | [.agg [.sl (.ints .u8 a),.v (.int .u64 b),.v (.int .u64 c)]]=>P.xw a b c (fun d=>K (.arr .u8 32 d))
 | _=>none
noncomputable def spec:Abs.Spec:=fun args K=>bn (mh [.agg [.sl (.ints .u8 []),.any,.any]] args) K
theorem ok0:Proved Tryz.prog GLO.gx 28 bn:=by
 refine bq (D:=D) (fn:=Tryz.f28) (c:=Tryz.f28.body.getD .skip) [.any] (by kernel_rfl) (bg (by kernel_rfl)) (by kernel_rfl) (by kernel_rfl) (by kernel_rfl) ⟨jc.ok,trivial⟩ trivial ?_ ?_
 · rw[loops];exact trivial
 · intro args K r h
   unfold bn at h
   split at h
   · rw[P.am6] at h;exact Aa (by kernel_rfl) h
   · cases h
theorem ok:Proved Tryz.prog GLO.gx 28 spec:=dx _ ok0
end xw

namespace af3
noncomputable def D:Ctx:=({ P:=Tryz.prog,G:=[(40,jd.spec)],globs:=GLO.gx,hints:=[],loops:=[],inl:=[] }:Ctx)
theorem loops:dn (Tryz.f26.body.getD .skip)=[]:=by kernel_rfl
noncomputable def bn:Abs.Spec:=fun args K=>match args with
 | [.sl (.ints .u8 a),.sl (.ints .u8 b)]=>P.af3 a b (fun c=>K (.fr 5 (.ints .u8 c)))
 | _=>none
noncomputable def spec:Abs.Spec:=fun args K=>bn (mh [.sl (.ints .u8 []),.sl (.ints .u8 [])] args) K
theorem ok0:Proved Tryz.prog GLO.gx 26 bn:=by
 refine bq (D:=D) (fn:=Tryz.f26) (c:=Tryz.f26.body.getD .skip) [.fr 5 (.ints .u8 [])] (by kernel_rfl) (bg (by kernel_rfl)) (by kernel_rfl) (by kernel_rfl) (by kernel_rfl) ⟨jd.ok,trivial⟩ trivial ?_ ?_
 · rw[loops];exact trivial
 · intro args K r h
   unfold bn at h
   split at h
   · rw[P.ayh] at h;exact Aa (by kernel_rfl) h
   · cases h
theorem ok:Proved Tryz.prog GLO.gx 26 spec:=dx _ ok0
end af3

namespace aag
abbrev X5:=P.b3x
def S5:X5→ASt:=fun (c,d,e,a,b)=>⟨[(0,.sl (.ints .u8 c)),(1,.sl (.ints .u8 d)),(5,.v (.int .u8 e)),(13,.v (.int .i64 a)),(14,.v (.int .i64 b))],[],0,31⟩
def V5:ASt→Option X5
 | ⟨[(0,.sl (.ints .u8 c)),(1,.sl (.ints .u8 d)),(5,.v (.int .u8 e)),(13,.v (.int .i64 a)),(14,.v (.int .i64 b))],[],0,31⟩=>some (c,d,e,a,b)
 | _=>none
theorem bbx(st)(x)(h:V5 st=some x):st=S5 x:=by
 unfold V5 at h
 split at h
 · cases h;rfl
 · cases h
abbrev Y5:=P.cc3
def E5(K:AExit→ASt→Option R):Y5→Option R:=(fun x=>K (.exit 0) (S5 x))
noncomputable def L5:qy:=fun st K=>adb (V5 st) fun x=>P.cfi x (E5 K)
noncomputable def D:Ctx:=({ P:=Tryz.prog,G:=[],globs:=GLO.gx,hints:=[(5,⟨[0,1,5,13,14],[],[4],[],none,[],[],[]⟩)],loops:=[(5,L5)],inl:=[] }:Ctx)
theorem aqv(K)(next)(x):kg D (gq Tryz.f59 5) K next (S5 x)=P.b3f x (fun x=>next (S5 x)) (E5 K):=by kernel_rfl
theorem bcw:jr D (gq Tryz.f59 5):=iy S5 bbx (by kernel_rfl) P.cis aqv
theorem loops:dn (Tryz.f59.body.getD .skip)=[gq Tryz.f59 5]:=by kernel_rfl
noncomputable def bn:Abs.Spec:=fun args K=>match args with
 | [.sl (.ints .u8 a),.sl (.ints .u8 b)]=>P.aag a b (fun c=>K (.v (.bool c)))
 | _=>none
noncomputable def spec:Abs.Spec:=fun args K=>bn (mh [.sl (.ints .u8 []),.sl (.ints .u8 [])] args) K
theorem ok0:Proved Tryz.prog GLO.gx 59 bn:=by
 refine bq (D:=D) (fn:=Tryz.f59) (c:=Tryz.f59.body.getD .skip) [.any] (by kernel_rfl) (bg (by kernel_rfl)) (by kernel_rfl) (by kernel_rfl) (by kernel_rfl) trivial trivial ?_ ?_
 · rw[loops];exact ⟨bcw,trivial⟩
 · intro args K r h
   unfold bn at h
   split at h
   · rw[P.azf] at h;exact Aa (by kernel_rfl) h
   · cases h
theorem ok:Proved Tryz.prog GLO.gx 59 spec:=dx _ ok0
end aag

namespace aau
abbrev X6:=P.b1i
def S6:X6→ASt:=fun (c,a,b,d)=>⟨[(5,.own 0),(6,.v (.int .u32 c)),(33,.own 0),(34,.v (.int .i64 a)),(35,.v (.int .i64 b))],[(0,some ⟨.row 102 (.ints .u32 d),false⟩)],1,53⟩
def V6:ASt→Option X6
 | ⟨[(5,.own 0),(6,.v (.int .u32 c)),(33,.own 0),(34,.v (.int .i64 a)),(35,.v (.int .i64 b))],[(0,some ⟨.row 102 (.ints .u32 d),false⟩)],1,53⟩=>some (c,a,b,d)
 | _=>none
theorem aua(st)(x)(h:V6 st=some x):st=S6 x:=by
 unfold V6 at h
 split at h
 · cases h;rfl
 · cases h
abbrev Y6:=P.b9h
def E6(K:AExit→ASt→Option R):Y6→Option R:=(fun x=>K (.exit 0) (S6 x))
noncomputable def L6:qy:=fun st K=>adb (V6 st) fun x=>P.b86 x (E6 K)
noncomputable def D:Ctx:=({ P:=Tryz.prog,G:=[(102,ny.spec)],globs:=GLO.gx,hints:=[(6,⟨[5,6,33,34,35],[],[4],[],none,[],[],[]⟩)],loops:=[(6,L6)],inl:=[] }:Ctx)
theorem akj(K)(next)(x):kg D (gq Tryz.f146 6) K next (S6 x)=P.b2r x (fun x=>next (S6 x)) (E6 K):=by kernel_rfl
theorem au4:jr D (gq Tryz.f146 6):=iy S6 aua (by kernel_rfl) P.chx akj
theorem loops:dn (Tryz.f146.body.getD .skip)=[gq Tryz.f146 6]:=by kernel_rfl
noncomputable def bn:Abs.Spec:=fun args K=>match args with
 | [.v (.int .i64 a),.sl (.ints .u8 b)]=>P.aau a b (fun c=>K (.fr 102 (.ints .u32 c)))
 | _=>none
noncomputable def spec:Abs.Spec:=fun args K=>bn (mh [.any,.sl (.ints .u8 [])] args) K
theorem ok0:Proved Tryz.prog GLO.gx 146 bn:=by
 refine bq (D:=D) (fn:=Tryz.f146) (c:=Tryz.f146.body.getD .skip) [.fr 102 (.ints .u32 [])] (by kernel_rfl) (bg (by kernel_rfl)) (by kernel_rfl) (by kernel_rfl) (by kernel_rfl) ⟨ny.ok,trivial⟩ trivial ?_ ?_
 · rw[loops];exact ⟨au4,trivial⟩
 · intro args K r h
   unfold bn at h
   split at h
   · rw[P.asy] at h;exact Aa (by kernel_rfl) h
   · cases h
theorem ok:Proved Tryz.prog GLO.gx 146 spec:=dx _ ok0
end aau

namespace uz
abbrev X2:=P.b06
def S2:X2→ASt:=fun (z,A,y,o,p,q,r,s,t,u,a,b,c,d,e,f,g,h,i,j,k,l,m,n,w)=>⟨[(2,.sl (.ints .u8 z)),(4,.v (.int .u32 A)),(5,.ptr 0 0),(6,.ptr 1 0),(11,.v (.int .u32 y))],[(0,some ⟨.box 165 [.v (.int .i64 o),.v (.int .i64 p),.v (.int .i64 q),.v (.int .i64 r),.v (.int .i64 s),.v (.bool t),.alt u (.func 186) [] [.sta [.v (.int .i64 a),.arr .u64 25 b,.v (.int .i64 c),.v (.bool d)],.sta [.v (.int .i64 e)]] (.func 188) [] [.sta [.v (.int .i64 f),.arr .u64 8 g,.sl (.ints .u8 h),.v (.int .u64 i)],.sta [.v (.int .i64 j)],.sta [.v (.int .i64 k),.arr .u64 8 l,.sl (.ints .u8 m),.v (.int .u64 n)]]],false⟩),(1,some ⟨.box 64 [.arr .u8 32 w],false⟩)],2,27⟩
def V2:ASt→Option X2
 | ⟨[(2,.sl (.ints .u8 z)),(4,.v (.int .u32 A)),(5,.ptr 0 0),(6,.ptr 1 0),(11,.v (.int .u32 y))],[(0,some ⟨.box 165 [.v (.int .i64 o),.v (.int .i64 p),.v (.int .i64 q),.v (.int .i64 r),.v (.int .i64 s),.v (.bool t),.alt u (.func 186) [] [.sta [.v (.int .i64 a),.arr .u64 25 b,.v (.int .i64 c),.v (.bool d)],.sta [.v (.int .i64 e)]] (.func 188) [] [.sta [.v (.int .i64 f),.arr .u64 8 g,.sl (.ints .u8 h),.v (.int .u64 i)],.sta [.v (.int .i64 j)],.sta [.v (.int .i64 k),.arr .u64 8 l,.sl (.ints .u8 m),.v (.int .u64 n)]]],false⟩),(1,some ⟨.box 64 [.arr .u8 32 w],false⟩)],2,27⟩=>some (z,A,y,o,p,q,r,s,t,u,a,b,c,d,e,f,g,h,i,j,k,l,m,n,w)
 | _=>none
theorem bcl(st)(x)(h:V2 st=some x):st=S2 x:=by
 unfold V2 at h
 split at h
 · cases h;rfl
 · cases h
abbrev Y2:=P.b97
def E2(K:AExit→ASt→Option R):Y2→Option R:=(fun x=>K (.exit 0) (S2 x))
noncomputable def L2:qy:=fun st K=>adb (V2 st) fun x=>P.cfd x (E2 K)
noncomputable def D:Ctx:=({ P:=Tryz.prog,G:=[(39,jc.spec),(186,jo.spec),(188,jq.spec)],globs:=GLO.gx,hints:=[(2,⟨[2,4,5,6,11],[],[10],[(2,.sl (.ints .u8 []))],none,[],[],[]⟩)],loops:=[(2,L2)],inl:=[] }:Ctx)
theorem arj(K)(next)(x):kg D (gq Tryz.f147 2) K next (S2 x)=P.b3s x (fun x=>next (S2 x)) (E2 K):=by kernel_rfl
theorem bdd:jr D (gq Tryz.f147 2):=iy S2 bcl (by kernel_rfl) P.chc arj
theorem loops:dn (Tryz.f147.body.getD .skip)=[gq Tryz.f147 2]:=by kernel_rfl
noncomputable def bn:Abs.Spec:=fun args K=>match args with
 | [.agg [.v (.int .i64 p),.v (.int .i64 q),.v (.int .i64 r),.v (.int .i64 s),.v (.int .i64 t),.v (.bool l),.alt u (.func 186) [] [.sta [.v (.int .i64 d),.arr .u64 25 a,.v (.int .i64 m),.v (.bool k)],.sta [.v (.int .i64 n)]] (.func 188) [] [.sta [.v (.int .i64 e),.arr .u64 8 b,.sl (.ints .u8 f),.v (.int .u64 g)],.sta [.v (.int .i64 o)],.sta [.v (.int .i64 h),.arr .u64 8 c,.sl (.ints .u8 i),.v (.int .u64 j)]]],.arr .u8 32 w,.sl (.ints .u8 y),.v (.int .u32 z),.v (.int .u32 A)]=>P.uz p q r s t l u d a m k n e b f g o h c i j w y z A (fun B=>K (.sl (.ints .u8 B)))
 | _=>none
noncomputable def spec:Abs.Spec:=fun args K=>bn (mh [.agg [.any,.any,.any,.any,.any,.any,.alt (.func 186) [] [.sta [.v (.int .i64 0),.arr .u64 25 [],.v (.int .i64 0),.v (.bool false)],.sta [.v (.int .i64 0)]] (.func 188) [] [.sta [.v (.int .i64 0),.arr .u64 8 [],.sl (.ints .u8 []),.v (.int .u64 0)],.sta [.v (.int .i64 0)],.sta [.v (.int .i64 0),.arr .u64 8 [],.sl (.ints .u8 []),.v (.int .u64 0)]]],.any,.sl (.ints .u8 []),.any,.any] args) K
theorem ok0:Proved Tryz.prog GLO.gx 147 bn:=by
 refine bq (D:=D) (fn:=Tryz.f147) (c:=Tryz.f147.body.getD .skip) [.sl (.ints .u8 [])] (by kernel_rfl) (bg (by kernel_rfl)) (by kernel_rfl) (by kernel_rfl) (by kernel_rfl) ⟨jc.ok,jo.ok,jq.ok,trivial⟩ trivial ?_ ?_
 · rw[loops];exact ⟨bdd,trivial⟩
 · intro args K r h
   unfold bn at h
   split at h
   · rw[P.aja] at h;exact Aa (by kernel_rfl) h
   · cases h
theorem ok:Proved Tryz.prog GLO.gx 147 spec:=dx _ ok0
end uz

namespace uw
noncomputable def D:Ctx:=({ P:=Tryz.prog,G:=[(186,jo.spec),(188,jq.spec)],globs:=GLO.gx,hints:=[],loops:=[],inl:=[] }:Ctx)
theorem loops:dn (Tryz.f145.body.getD .skip)=[]:=by kernel_rfl
noncomputable def bn:Abs.Spec:=fun args K=>match args with
 | [.agg [.v (.int .i64 p),.v (.int .i64 q),.v (.int .i64 r),.v (.int .i64 s),.v (.int .i64 t),.v (.bool l),.alt u (.func 186) [] [.sta [.v (.int .i64 d),.arr .u64 25 a,.v (.int .i64 m),.v (.bool k)],.sta [.v (.int .i64 n)]] (.func 188) [] [.sta [.v (.int .i64 e),.arr .u64 8 b,.sl (.ints .u8 f),.v (.int .u64 g)],.sta [.v (.int .i64 o)],.sta [.v (.int .i64 h),.arr .u64 8 c,.sl (.ints .u8 i),.v (.int .u64 j)]]]]=>P.uw p q r s t l u d a m k n e b f g o h c i j (fun w=>K (.v (.int .i64 w)))
 | _=>none
noncomputable def spec:Abs.Spec:=fun args K=>bn (mh [.agg [.any,.any,.any,.any,.any,.any,.alt (.func 186) [] [.sta [.v (.int .i64 0),.arr .u64 25 [],.v (.int .i64 0),.v (.bool false)],.sta [.v (.int .i64 0)]] (.func 188) [] [.sta [.v (.int .i64 0),.arr .u64 8 [],.sl (.ints .u8 []),.v (.int .u64 0)],.sta [.v (.int .i64 0)],.sta [.v (.int .i64 0),.arr .u64 8 [],.sl (.ints .u8 []),.v (.int .u64 0)]]]] args) K
theorem ok0:Proved Tryz.prog GLO.gx 145 bn:=by
 refine bq (D:=D) (fn:=Tryz.f145) (c:=Tryz.f145.body.getD .skip) [.any] (by kernel_rfl) (bg (by kernel_rfl)) (by kernel_rfl) (by kernel_rfl) (by kernel_rfl) ⟨jo.ok,jq.ok,trivial⟩ trivial ?_ ?_
 · rw[loops];exact trivial
 · intro args K r h
   unfold bn at h
   split at h
   · rw[P.aji] at h;exact Aa (by kernel_rfl) h
   · cases h
theorem ok:Proved Tryz.prog GLO.gx 145 spec:=dx _ ok0
end uw

namespace zy
noncomputable def D:Ctx:=({ P:=Tryz.prog,G:=[(100,uy.spec)],globs:=GLO.gx,hints:=[],loops:=[],inl:=[] }:Ctx)
theorem loops:dn (Tryz.f170.body.getD .skip)=[]:=by kernel_rfl
noncomputable def bn:Abs.Spec:=fun args K=>match args with
 | [.arr .u8 32 a,.v (.int .i64 b)]=>P.zy a b (fun c=>K (.v (.int .u64 c)))
 | _=>none
noncomputable def spec:Abs.Spec:=bn
theorem ok0:Proved Tryz.prog GLO.gx 170 bn:=by
 refine bq (D:=D) (fn:=Tryz.f170) (c:=Tryz.f170.body.getD .skip) [.any] (by kernel_rfl) (bg (by kernel_rfl)) (by kernel_rfl) (by kernel_rfl) (by kernel_rfl) ⟨uy.ok,trivial⟩ trivial ?_ ?_
 · rw[loops];exact trivial
 · intro args K r h
   unfold bn at h
   split at h
   · rw[P.asz] at h;exact Aa (by kernel_rfl) h
   · cases h
theorem ok:Proved Tryz.prog GLO.gx 170 spec:=ok0
end zy

end
