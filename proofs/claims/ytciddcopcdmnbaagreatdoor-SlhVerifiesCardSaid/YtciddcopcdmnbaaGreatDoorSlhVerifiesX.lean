/-
  SlhVerifies, part 24: an interpreter of my own over abstract values, the pure functions, the walks and the plain law.
-/

import Derived.Test.YtciddcopcdmnbaaGreatDoorSlhVerifiesM
import Derived.Test.YtciddcopcdmnbaaGreatDoorSlhVerifiesH
import Derived.Test.YtciddcopcdmnbaaGreatDoorProg
import Derived.Test.YtciddcopcdmnbaaGreatDoorSlhVerifiesJ
import Derived.Test.YtciddcopcdmnbaaGreatDoorSlhVerifiesU
import Derived.Test.YtciddcopcdmnbaaGreatDoorSlhVerifiesW
import Derived.KernelRfl
import Derived.Test.YtciddcopcdmnbaaGreatDoorSlhVerifiesL
import Derived.Test.YtciddcopcdmnbaaGreatDoorSlhVerifiesT
import Derived.Test.YtciddcopcdmnbaaGreatDoorSlhVerifiesV
open Eq renaming trans → Aa

section
open Go Go.Abs Go.Proofs
set_option maxRecDepth 100000
set_option maxHeartbeats 0
set_option linter.unusedVariables false

namespace ab6
abbrev X5:=P.b2s
def S5:X5→ASt:=fun (i,j,k,l,m,n,g,h,a,b,c,d,e,f)=>⟨[(1,.sl (.ints .u8 i)),(2,.sl (.ints .u8 j)),(3,.sl (.ints .u8 k)),(4,.sl (.ints .u8 l)),(5,.v (.int .u64 m)),(6,.v (.int .u64 n)),(7,.ptr 0 0),(15,.v (.int .i64 g)),(16,.v (.int .i64 h))],[(0,some ⟨.box 23 [.v (.int .i64 a),.v (.int .i64 b),.v (.int .i64 c),.v (.int .i64 d),.v (.int .i64 e),.v (.bool f)],false⟩)],1,97⟩
def V5:ASt→Option X5
 | ⟨[(1,.sl (.ints .u8 i)),(2,.sl (.ints .u8 j)),(3,.sl (.ints .u8 k)),(4,.sl (.ints .u8 l)),(5,.v (.int .u64 m)),(6,.v (.int .u64 n)),(7,.ptr 0 0),(15,.v (.int .i64 g)),(16,.v (.int .i64 h))],[(0,some ⟨.box 23 [.v (.int .i64 a),.v (.int .i64 b),.v (.int .i64 c),.v (.int .i64 d),.v (.int .i64 e),.v (.bool f)],false⟩)],1,97⟩=>some (i,j,k,l,m,n,g,h,a,b,c,d,e,f)
 | _=>none
theorem bbx(st)(x)(h:V5 st=some x):st=S5 x:=by
 unfold V5 at h
 split at h
 · cases h;rfl
 · cases h
abbrev Y5:=P.b8t
def E5(K:AExit→ASt→Option R):Y5→Option R:=(fun x=>K (.exit 0) (S5 x))
noncomputable def L5:qy:=fun st K=>adb (V5 st) fun x=>P.cea x (E5 K)
noncomputable def D:Ctx:=({ P:=Tryz.prog,G:=[(18,agt.spec),(37,zi.spec),(70,afw.spec),(71,y9.spec),(72,ad9.spec)],globs:=GLO.gx,hints:=[(5,⟨[1,2,3,4,5,6,7,15,16],[],[14],[(1,.sl (.ints .u8 []))],none,[],[],[]⟩)],loops:=[(5,L5)],inl:=[] }:Ctx)
theorem aqv(K)(next)(x):kg D (gq Tryz.f35 5) K next (S5 x)=P.b4o x (fun x=>next (S5 x)) (E5 K):=by kernel_rfl
theorem bcw:jr D (gq Tryz.f35 5):=iy S5 bbx (by kernel_rfl) P.cib aqv
theorem loops:dn (Tryz.f35.body.getD .skip)=[gq Tryz.f35 5]:=by kernel_rfl
noncomputable def bn:Abs.Spec:=fun args K=>match args with
 | [.agg [.v (.int .i64 b),.v (.int .i64 c),.v (.int .i64 d),.v (.int .i64 e),.v (.int .i64 f),.v (.bool a)],.sl (.ints .u8 g),.sl (.ints .u8 h),.sl (.ints .u8 i),.sl (.ints .u8 j),.v (.int .u64 k),.v (.int .u64 l)]=>P.ab6 b c d e f a g h i j k l (fun m=>K (.v (.bool m)))
 | _=>none
noncomputable def spec:Abs.Spec:=fun args K=>bn (mh [.any,.sl (.ints .u8 []),.sl (.ints .u8 []),.sl (.ints .u8 []),.sl (.ints .u8 []),.any,.any] args) K
theorem ok0:Proved Tryz.prog GLO.gx 35 bn:=by
 refine bq (D:=D) (fn:=Tryz.f35) (c:=Tryz.f35.body.getD .skip) [.any] (by kernel_rfl) (bg (by kernel_rfl)) (by kernel_rfl) (by kernel_rfl) (by kernel_rfl) ⟨agt.ok,zi.ok,afw.ok,y9.ok,ad9.ok,trivial⟩ trivial ?_ ?_
 · rw[loops];exact ⟨bcw,trivial⟩
 · intro args K r h
   unfold bn at h
   split at h
   · rw[P.awn] at h;exact Aa (by kernel_rfl) h
   · cases h
theorem ok:Proved Tryz.prog GLO.gx 35 spec:=dx _ ok0
end ab6

namespace xg
noncomputable def D:Ctx:=({ P:=Tryz.prog,G:=[(21,lg.spec)],globs:=GLO.gx,hints:=[],loops:=[],inl:=[] }:Ctx)
theorem loops:dn (Tryz.f30.body.getD .skip)=[]:=by kernel_rfl
noncomputable def bn:Abs.Spec:=fun args K=>match args with
 | [.agg [.v (.int .i64 b),.v (.int .i64 c),.v (.int .i64 d),.v (.int .i64 e),.v (.int .i64 f),.v (.bool a)]]=>P.xg b c d e f a (fun g h=>K (.tuple [.v (.int .i64 g),.v (.int .i64 h)]))
 | _=>none
noncomputable def spec:Abs.Spec:=bn
theorem ok0:Proved Tryz.prog GLO.gx 30 bn:=by
 refine bq (D:=D) (fn:=Tryz.f30) (c:=Tryz.f30.body.getD .skip) [.any,.any] (by kernel_rfl) (bg (by kernel_rfl)) (by kernel_rfl) (by kernel_rfl) (by kernel_rfl) ⟨lg.ok,trivial⟩ trivial ?_ ?_
 · rw[loops];exact trivial
 · intro args K r h
   unfold bn at h
   split at h
   · rw[P.bbn] at h;exact Aa (by kernel_rfl) h
   · cases h
theorem ok:Proved Tryz.prog GLO.gx 30 spec:=ok0
end xg

namespace acn
noncomputable def D:Ctx:=({ P:=Tryz.prog,G:=[(65,uj.spec)],globs:=GLO.gx,hints:=[],loops:=[],inl:=[] }:Ctx)
theorem loops:dn (Tryz.f119.body.getD .skip)=[]:=by kernel_rfl
noncomputable def bn:Abs.Spec:=fun args K=>match args with
 | [.arr .u8 32 a]=>P.acn a (fun b=>K (.v (.int .u64 b)))
 | _=>none
noncomputable def spec:Abs.Spec:=bn
theorem ok0:Proved Tryz.prog GLO.gx 119 bn:=by
 refine bq (D:=D) (fn:=Tryz.f119) (c:=Tryz.f119.body.getD .skip) [.any] (by kernel_rfl) (bg (by kernel_rfl)) (by kernel_rfl) (by kernel_rfl) (by kernel_rfl) ⟨uj.ok,trivial⟩ trivial ?_ ?_
 · rw[loops];exact trivial
 · intro args K r h
   unfold bn at h
   split at h
   · rw[P.bct] at h;exact Aa (by kernel_rfl) h
   · cases h
theorem ok:Proved Tryz.prog GLO.gx 119 spec:=ok0
end acn

namespace ae9
noncomputable def D:Ctx:=({ P:=Tryz.prog,G:=[(42,jg.spec),(119,acn.spec)],globs:=GLO.gx,hints:=[],loops:=[],inl:=[] }:Ctx)
theorem loops:dn (Tryz.f68.body.getD .skip)=[]:=by kernel_rfl
noncomputable def bn:Abs.Spec:=fun args K=>match args with
 | [.arr .u8 32 a,.v (.int .u64 b),.v (.int .i64 c),.v (.int .u64 d)]=>P.ae9 a b c d (fun e=>K (.arr .u8 32 e))
 | _=>none
noncomputable def spec:Abs.Spec:=bn
theorem ok0:Proved Tryz.prog GLO.gx 68 bn:=by
 refine bq (D:=D) (fn:=Tryz.f68) (c:=Tryz.f68.body.getD .skip) [.any] (by kernel_rfl) (bg (by kernel_rfl)) (by kernel_rfl) (by kernel_rfl) (by kernel_rfl) ⟨jg.ok,acn.ok,trivial⟩ trivial ?_ ?_
 · rw[loops];exact trivial
 · intro args K r h
   unfold bn at h
   split at h
   · rw[P.bk4] at h;exact Aa (by kernel_rfl) h
   · cases h
theorem ok:Proved Tryz.prog GLO.gx 68 spec:=ok0
end ae9

namespace akw
noncomputable def D:Ctx:=({ P:=Tryz.prog,G:=[(42,jg.spec),(43,ji.spec),(67,wu.spec),(119,acn.spec)],globs:=GLO.gx,hints:=[],loops:=[],inl:=[] }:Ctx)
theorem loops:dn (Tryz.f69.body.getD .skip)=[]:=by kernel_rfl
noncomputable def bn:Abs.Spec:=fun args K=>match args with
 | [.agg [.v (.int .i64 b),.v (.int .i64 c),.v (.int .i64 d),.v (.int .i64 e),.v (.int .i64 f),.v (.bool a)],.sl (.rows .u8 g),.sl (.ints .u8 h),.arr .u8 32 i]=>P.akw b c d e f a g h i (fun j=>K (.sl (.ints .u8 j)))
 | _=>none
noncomputable def spec:Abs.Spec:=fun args K=>bn (mh [.any,.sl (.rows .u8 []),.sl (.ints .u8 []),.any] args) K
theorem ok0:Proved Tryz.prog GLO.gx 69 bn:=by
 refine bq (D:=D) (fn:=Tryz.f69) (c:=Tryz.f69.body.getD .skip) [.sl (.ints .u8 [])] (by kernel_rfl) (bg (by kernel_rfl)) (by kernel_rfl) (by kernel_rfl) (by kernel_rfl) ⟨jg.ok,ji.ok,wu.ok,acn.ok,trivial⟩ trivial ?_ ?_
 · rw[loops];exact trivial
 · intro args K r h
   unfold bn at h
   split at h
   · rw[P.bee] at h;exact Aa (by kernel_rfl) h
   · cases h
theorem ok:Proved Tryz.prog GLO.gx 69 spec:=dx _ ok0
end akw

namespace yg
abbrev X13:=P.b08
def S13:X13→ASt:=fun (m,n,h,i,j,k,l,o,a,b,c,d,e,f,g,p)=>⟨[(1,.sl (.ints .u8 m)),(3,.sl (.ints .u8 n)),(5,.ptr 0 0),(9,.ptr 1 0),(13,.own 2),(14,.own 3),(15,.v (.int .i64 h)),(16,.v (.int .u64 i)),(17,.sl (.ints .u8 j)),(18,.sl (.ints .u8 k)),(19,.v (.int .i64 l))],[(2,some ⟨.row 102 (.ints .u32 o),false⟩),(1,some ⟨.box 64 [.arr .u8 32 a],false⟩),(0,some ⟨.box 23 [.v (.int .i64 b),.v (.int .i64 c),.v (.int .i64 d),.v (.int .i64 e),.v (.int .i64 f),.v (.bool g)],false⟩),(3,some ⟨.row 24 (.rows .u8 p),false⟩)],4,144⟩
def V13:ASt→Option X13
 | ⟨[(1,.sl (.ints .u8 m)),(3,.sl (.ints .u8 n)),(5,.ptr 0 0),(9,.ptr 1 0),(13,.own 2),(14,.own 3),(15,.v (.int .i64 h)),(16,.v (.int .u64 i)),(17,.sl (.ints .u8 j)),(18,.sl (.ints .u8 k)),(19,.v (.int .i64 l))],[(2,some ⟨.row 102 (.ints .u32 o),false⟩),(1,some ⟨.box 64 [.arr .u8 32 a],false⟩),(0,some ⟨.box 23 [.v (.int .i64 b),.v (.int .i64 c),.v (.int .i64 d),.v (.int .i64 e),.v (.int .i64 f),.v (.bool g)],false⟩),(3,some ⟨.row 24 (.rows .u8 p),false⟩)],4,144⟩=>some (m,n,h,i,j,k,l,o,a,b,c,d,e,f,g,p)
 | _=>none
theorem b3h(st)(x)(h:V13 st=some x):st=S13 x:=by
 unfold V13 at h
 split at h
 · cases h;rfl
 · cases h
abbrev Y13:=P.cf4
abbrev X7:=P.b4b
def S7:X7→ASt:=fun (i,j,h,k,a,b,c,d,e,f,g,l)=>⟨[(14,.own 3),(1,.sl (.ints .u8 i)),(3,.sl (.ints .u8 j)),(5,.ptr 0 0),(9,.ptr 1 0),(13,.own 2),(15,.v (.int .i64 h))],[(3,some ⟨.row 24 (.rows .u8 k),false⟩),(0,some ⟨.box 23 [.v (.int .i64 a),.v (.int .i64 b),.v (.int .i64 c),.v (.int .i64 d),.v (.int .i64 e),.v (.bool f)],false⟩),(1,some ⟨.box 64 [.arr .u8 32 g],false⟩),(2,some ⟨.row 102 (.ints .u32 l),false⟩)],4,144⟩
def V7:ASt→Option X7
 | ⟨[(14,.own 3),(1,.sl (.ints .u8 i)),(3,.sl (.ints .u8 j)),(5,.ptr 0 0),(9,.ptr 1 0),(13,.own 2),(15,.v (.int .i64 h))],[(3,some ⟨.row 24 (.rows .u8 k),false⟩),(0,some ⟨.box 23 [.v (.int .i64 a),.v (.int .i64 b),.v (.int .i64 c),.v (.int .i64 d),.v (.int .i64 e),.v (.bool f)],false⟩),(1,some ⟨.box 64 [.arr .u8 32 g],false⟩),(2,some ⟨.row 102 (.ints .u32 l),false⟩)],4,144⟩=>some (i,j,h,k,a,b,c,d,e,f,g,l)
 | _=>none
theorem bcq(st)(x)(h:V7 st=some x):st=S7 x:=by
 unfold V7 at h
 split at h
 · cases h;rfl
 · cases h
abbrev Y7:=P.b9c
def E13(K:AExit→ASt→Option R):Y13→Option R:=(fun x=>K (.exit 2) (S13 x))
noncomputable def L13:qy:=fun st K=>adb (V13 st) fun x=>P.ccf x (E13 K)
def E7(K:AExit→ASt→Option R):Y7→Option R:=(fun x=>K (.exit 0) (S7 x))
noncomputable def L7:qy:=fun st K=>adb (V7 st) fun x=>P.b9p x (E7 K)
noncomputable def D:Ctx:=({ P:=Tryz.prog,G:=[(21,lg.spec),(30,xg.spec),(43,ji.spec),(66,qd.spec),(67,wu.spec),(68,ae9.spec),(69,akw.spec)],globs:=GLO.gx,hints:=[(13,⟨[1,3,5,9,13,14,15,16,17,18,19],[],[10],[(18,.sl (.ints .u8 []))],none,[],[],[]⟩),(7,⟨[1,3,5,9,13,15],[(14,24,.rows .u8 [])],[10],[],none,[],[],[]⟩)],loops:=[(13,L13),(7,L7)],inl:=[] }:Ctx)
theorem byl(K)(next)(x):kg D (gq Tryz.f33 13) K next (S13 x)=P.b1t x (fun x=>next (S13 x)) (E13 K):=by kernel_rfl
theorem b5a:jr D (gq Tryz.f33 13):=iy S13 b3h (by kernel_rfl) P.ch6 byl
theorem ars(K)(next)(x):kg D (gq Tryz.f33 7) K next (S7 x)=P.b2g x (fun x=>next (S7 x)) (E7 K):=by kernel_rfl
theorem bbt:jr D (gq Tryz.f33 7):=iy S7 bcq (by kernel_rfl) P.cg7 ars
theorem loops:dn (Tryz.f33.body.getD .skip)=[gq Tryz.f33 7,gq Tryz.f33 13]:=by kernel_rfl
noncomputable def bn:Abs.Spec:=fun args K=>match args with
 | [.agg [.v (.int .i64 b),.v (.int .i64 c),.v (.int .i64 d),.v (.int .i64 e),.v (.int .i64 f),.v (.bool a)],.sl (.ints .u8 g),.sl (.ints .u8 h),.sl (.ints .u8 i),.arr .u8 32 j]=>P.yg b c d e f a g h i j (fun k=>K (.sl (.ints .u8 k)))
 | _=>none
noncomputable def spec:Abs.Spec:=fun args K=>bn (mh [.any,.sl (.ints .u8 []),.sl (.ints .u8 []),.sl (.ints .u8 []),.any] args) K
theorem ok0:Proved Tryz.prog GLO.gx 33 bn:=by
 refine bq (D:=D) (fn:=Tryz.f33) (c:=Tryz.f33.body.getD .skip) [.sl (.ints .u8 [])] (by kernel_rfl) (bg (by kernel_rfl)) (by kernel_rfl) (by kernel_rfl) (by kernel_rfl) ⟨lg.ok,xg.ok,ji.ok,qd.ok,wu.ok,ae9.ok,akw.ok,trivial⟩ trivial ?_ ?_
 · rw[loops];exact ⟨bbt,b5a,trivial⟩
 · intro args K r h
   unfold bn at h
   split at h
   · rw[P.ao3] at h;exact Aa (by kernel_rfl) h
   · cases h
theorem ok:Proved Tryz.prog GLO.gx 33 spec:=dx _ ok0
end yg

namespace ae8
noncomputable def D:Ctx:=({ P:=Tryz.prog,G:=[(21,lg.spec),(30,xg.spec),(37,zi.spec)],globs:=GLO.gx,hints:=[],loops:=[],inl:=[] }:Ctx)
theorem loops:dn (Tryz.f15.body.getD .skip)=[]:=by kernel_rfl
noncomputable def bn:Abs.Spec:=fun args K=>match args with
 | [.agg [.v (.int .i64 b),.v (.int .i64 c),.v (.int .i64 d),.v (.int .i64 e),.v (.int .i64 f),.v (.bool a)]]=>P.ae8 b c d e f a (fun g h i=>K (.tuple [.v (.int .i64 g),.v (.int .i64 h),.v (.int .i64 i)]))
 | _=>none
noncomputable def spec:Abs.Spec:=bn
theorem ok0:Proved Tryz.prog GLO.gx 15 bn:=by
 refine bq (D:=D) (fn:=Tryz.f15) (c:=Tryz.f15.body.getD .skip) [.any,.any,.any] (by kernel_rfl) (bg (by kernel_rfl)) (by kernel_rfl) (by kernel_rfl) (by kernel_rfl) ⟨lg.ok,xg.ok,zi.ok,trivial⟩ trivial ?_ ?_
 · rw[loops];exact trivial
 · intro args K r h
   unfold bn at h
   split at h
   · rw[P.ala] at h;exact Aa (by kernel_rfl) h
   · cases h
theorem ok:Proved Tryz.prog GLO.gx 15 spec:=ok0
end ae8

namespace aep
noncomputable def D:Ctx:=({ P:=Tryz.prog,G:=[],globs:=GLO.gx,hints:=[],loops:=[],inl:=[] }:Ctx)
theorem loops:dn (Tryz.f154.body.getD .skip)=[]:=by kernel_rfl
noncomputable def bn:Abs.Spec:=fun args K=>match args with
 | [.v (.int .i64 a)]=>P.aep a (fun b=>K (.v (.int .i64 b)))
 | _=>none
noncomputable def spec:Abs.Spec:=bn
theorem ok0:Proved Tryz.prog GLO.gx 154 bn:=by
 refine bq (D:=D) (fn:=Tryz.f154) (c:=Tryz.f154.body.getD .skip) [.any] (by kernel_rfl) (bg (by kernel_rfl)) (by kernel_rfl) (by kernel_rfl) (by kernel_rfl) trivial trivial ?_ ?_
 · rw[loops];exact trivial
 · intro args K r h
   unfold bn at h
   split at h
   · rw[P.bdg] at h;exact Aa (by kernel_rfl) h
   · cases h
theorem ok:Proved Tryz.prog GLO.gx 154 spec:=ok0
end aep

namespace ab2
noncomputable def D:Ctx:=({ P:=Tryz.prog,G:=[(61,acg.spec),(62,abg.spec),(154,aep.spec)],globs:=GLO.gx,hints:=[],loops:=[],inl:=[] }:Ctx)
theorem loops:dn (Tryz.f116.body.getD .skip)=[]:=by kernel_rfl
noncomputable def bn:Abs.Spec:=fun args K=>match args with
 | [.v (.int .i64 a),.sl (.ints .u8 b)]=>P.ab2 a b (fun c d=>K (.tuple [.fr 5 (.ints .u8 c),.v (.int .i64 d)]))
 | _=>none
noncomputable def spec:Abs.Spec:=fun args K=>bn (mh [.any,.sl (.ints .u8 [])] args) K
theorem ok0:Proved Tryz.prog GLO.gx 116 bn:=by
 refine bq (D:=D) (fn:=Tryz.f116) (c:=Tryz.f116.body.getD .skip) [.fr 5 (.ints .u8 []),.any] (by kernel_rfl) (bg (by kernel_rfl)) (by kernel_rfl) (by kernel_rfl) (by kernel_rfl) ⟨acg.ok,abg.ok,aep.ok,trivial⟩ trivial ?_ ?_
 · rw[loops];exact trivial
 · intro args K r h
   unfold bn at h
   split at h
   · rw[P.aw1] at h;exact Aa (by kernel_rfl) h
   · cases h
theorem ok:Proved Tryz.prog GLO.gx 116 spec:=dx _ ok0
end ab2

namespace af2
abbrev X7:=P.b2z
def S7:X7→ASt:=fun (a,b,c,d,e)=>⟨[(8,.own 0),(0,.v (.int .i64 a)),(1,.sl (.ints .u8 b)),(2,.v (.int .i64 c)),(9,.v (.int .u64 d))],[(0,some ⟨.row 5 (.ints .u8 e),false⟩)],1,46⟩
def V7:ASt→Option X7
 | ⟨[(8,.own 0),(0,.v (.int .i64 a)),(1,.sl (.ints .u8 b)),(2,.v (.int .i64 c)),(9,.v (.int .u64 d))],[(0,some ⟨.row 5 (.ints .u8 e),false⟩)],1,46⟩=>some (a,b,c,d,e)
 | _=>none
theorem bcq(st)(x)(h:V7 st=some x):st=S7 x:=by
 unfold V7 at h
 split at h
 · cases h;rfl
 · cases h
abbrev Y7:=P.cbz
def E7(K:AExit→ASt→Option R):Y7→Option R:=(fun x=>K (.exit 0) (S7 x))
noncomputable def L7:qy:=fun st K=>adb (V7 st) fun x=>P.ccn x (E7 K)
noncomputable def D:Ctx:=({ P:=Tryz.prog,G:=[(43,ji.spec),(81,wz.spec),(116,ab2.spec)],globs:=GLO.gx,hints:=[(7,⟨[0,1,2,9],[(8,5,.ints .u8 [])],[6,7],[],none,[],[],[]⟩)],loops:=[(7,L7)],inl:=[] }:Ctx)
theorem ars(K)(next)(x):kg D (gq Tryz.f64 7) K next (S7 x)=P.b49 x (fun x=>next (S7 x)) (E7 K):=by kernel_rfl
theorem bbt:jr D (gq Tryz.f64 7):=iy S7 bcq (by kernel_rfl) P.chl ars
theorem loops:dn (Tryz.f64.body.getD .skip)=[gq Tryz.f64 7]:=by kernel_rfl
noncomputable def bn:Abs.Spec:=fun args K=>match args with
 | [.v (.int .i64 a),.sl (.ints .u8 b),.v (.int .i64 c)]=>P.af2 a b c (fun d e=>K (.tuple [.sl (.ints .u8 d),.v (.int .i64 e)]))
 | _=>none
noncomputable def spec:Abs.Spec:=fun args K=>bn (mh [.any,.sl (.ints .u8 []),.any] args) K
theorem ok0:Proved Tryz.prog GLO.gx 64 bn:=by
 refine bq (D:=D) (fn:=Tryz.f64) (c:=Tryz.f64.body.getD .skip) [.sl (.ints .u8 []),.any] (by kernel_rfl) (bg (by kernel_rfl)) (by kernel_rfl) (by kernel_rfl) (by kernel_rfl) ⟨ji.ok,wz.ok,ab2.ok,trivial⟩ trivial ?_ ?_
 · rw[loops];exact ⟨bbt,trivial⟩
 · intro args K r h
   unfold bn at h
   split at h
   · rw[P.bax] at h;exact Aa (by kernel_rfl) h
   · cases h
theorem ok:Proved Tryz.prog GLO.gx 64 spec:=dx _ ok0
end af2

namespace abq
noncomputable def D:Ctx:=({ P:=Tryz.prog,G:=[],globs:=GLO.gx,hints:=[],loops:=[],inl:=[] }:Ctx)
theorem loops:dn (Tryz.f60.body.getD .skip)=[]:=by kernel_rfl
noncomputable def bn:Abs.Spec:=fun args K=>match args with
 | [.v (.int .i64 a)]=>P.abq a (fun b=>K (.v (.int .i64 b)))
 | _=>none
noncomputable def spec:Abs.Spec:=bn
theorem ok0:Proved Tryz.prog GLO.gx 60 bn:=by
 refine bq (D:=D) (fn:=Tryz.f60) (c:=Tryz.f60.body.getD .skip) [.any] (by kernel_rfl) (bg (by kernel_rfl)) (by kernel_rfl) (by kernel_rfl) (by kernel_rfl) trivial trivial ?_ ?_
 · rw[loops];exact trivial
 · intro args K r h
   unfold bn at h
   split at h
   · rw[P.asn] at h;exact Aa (by kernel_rfl) h
   · cases h
theorem ok:Proved Tryz.prog GLO.gx 60 spec:=ok0
end abq

namespace ah2
noncomputable def D:Ctx:=({ P:=Tryz.prog,G:=[],globs:=GLO.gx,hints:=[],loops:=[],inl:=[] }:Ctx)
theorem loops:dn (Tryz.f63.body.getD .skip)=[]:=by kernel_rfl
noncomputable def bn:Abs.Spec:=fun args K=>match args with
 | [.agg [.v (.int .i64 b),.v (.int .i64 c),.v (.int .i64 d),.v (.int .i64 e),.v (.int .i64 f),.v (.bool a)]]=>P.ah2 b c d e f a (fun g=>K (.v (.int .i64 g)))
 | _=>none
noncomputable def spec:Abs.Spec:=bn
theorem ok0:Proved Tryz.prog GLO.gx 63 bn:=by
 refine bq (D:=D) (fn:=Tryz.f63) (c:=Tryz.f63.body.getD .skip) [.any] (by kernel_rfl) (bg (by kernel_rfl)) (by kernel_rfl) (by kernel_rfl) (by kernel_rfl) trivial trivial ?_ ?_
 · rw[loops];exact trivial
 · intro args K r h
   unfold bn at h
   split at h
   · rw[P.bcj] at h;exact Aa (by kernel_rfl) h
   · cases h
theorem ok:Proved Tryz.prog GLO.gx 63 spec:=ok0
end ah2

namespace aes
noncomputable def D:Ctx:=({ P:=Tryz.prog,G:=[(30,xg.spec),(43,ji.spec),(60,abq.spec),(61,acg.spec),(62,abg.spec),(63,ah2.spec),(64,af2.spec),(65,uj.spec)],globs:=GLO.gx,hints:=[],loops:=[],inl:=[] }:Ctx)
theorem loops:dn (Tryz.f31.body.getD .skip)=[]:=by kernel_rfl
noncomputable def bn:Abs.Spec:=fun args K=>match args with
 | [.agg [.v (.int .i64 b),.v (.int .i64 c),.v (.int .i64 d),.v (.int .i64 e),.v (.int .i64 f),.v (.bool a)],.sl (.ints .u8 g),.sl (.ints .u8 h),.sl (.ints .u8 i)]=>P.aes b c d e f a g h i (fun j k l=>K (.tuple [.sl (.ints .u8 j),.v (.int .u64 k),.v (.int .u64 l)]))
 | _=>none
noncomputable def spec:Abs.Spec:=fun args K=>bn (mh [.any,.sl (.ints .u8 []),.sl (.ints .u8 []),.sl (.ints .u8 [])] args) K
theorem ok0:Proved Tryz.prog GLO.gx 31 bn:=by
 refine bq (D:=D) (fn:=Tryz.f31) (c:=Tryz.f31.body.getD .skip) [.sl (.ints .u8 []),.any,.any] (by kernel_rfl) (bg (by kernel_rfl)) (by kernel_rfl) (by kernel_rfl) (by kernel_rfl) ⟨xg.ok,ji.ok,abq.ok,acg.ok,abg.ok,ah2.ok,af2.ok,uj.ok,trivial⟩ trivial ?_ ?_
 · rw[loops];exact trivial
 · intro args K r h
   unfold bn at h
   split at h
   · rw[P.avv] at h;exact Aa (by kernel_rfl) h
   · cases h
theorem ok:Proved Tryz.prog GLO.gx 31 spec:=dx _ ok0
end aes

namespace agn
noncomputable def D:Ctx:=({ P:=Tryz.prog,G:=[(42,jg.spec)],globs:=GLO.gx,hints:=[],loops:=[],inl:=[] }:Ctx)
theorem loops:dn (Tryz.f34.body.getD .skip)=[]:=by kernel_rfl
noncomputable def bn:Abs.Spec:=fun args K=>match args with
 | [.v (.int .u64 a),.v (.int .u64 b)]=>P.agn a b (fun c=>K (.arr .u8 32 c))
 | _=>none
noncomputable def spec:Abs.Spec:=bn
theorem ok0:Proved Tryz.prog GLO.gx 34 bn:=by
 refine bq (D:=D) (fn:=Tryz.f34) (c:=Tryz.f34.body.getD .skip) [.any] (by kernel_rfl) (bg (by kernel_rfl)) (by kernel_rfl) (by kernel_rfl) (by kernel_rfl) ⟨jg.ok,trivial⟩ trivial ?_ ?_
 · rw[loops];exact trivial
 · intro args K r h
   unfold bn at h
   split at h
   · rw[P.ayo] at h;exact Aa (by kernel_rfl) h
   · cases h
theorem ok:Proved Tryz.prog GLO.gx 34 spec:=ok0
end agn

namespace agd
noncomputable def D:Ctx:=({ P:=Tryz.prog,G:=[(43,ji.spec)],globs:=GLO.gx,hints:=[],loops:=[],inl:=[] }:Ctx)
theorem loops:dn (Tryz.f32.body.getD .skip)=[]:=by kernel_rfl
noncomputable def bn:Abs.Spec:=fun args K=>match args with
 | [.sl (.ints .u8 a),.sl (.ints .u8 b)]=>P.agd a b (fun c=>K (.fr 5 (.ints .u8 c)))
 | _=>none
noncomputable def spec:Abs.Spec:=fun args K=>bn (mh [.sl (.ints .u8 []),.sl (.ints .u8 [])] args) K
theorem ok0:Proved Tryz.prog GLO.gx 32 bn:=by
 refine bq (D:=D) (fn:=Tryz.f32) (c:=Tryz.f32.body.getD .skip) [.fr 5 (.ints .u8 [])] (by kernel_rfl) (bg (by kernel_rfl)) (by kernel_rfl) (by kernel_rfl) (by kernel_rfl) ⟨ji.ok,trivial⟩ trivial ?_ ?_
 · rw[loops];exact trivial
 · intro args K r h
   unfold bn at h
   split at h
   · rw[P.aza] at h;exact Aa (by kernel_rfl) h
   · cases h
theorem ok:Proved Tryz.prog GLO.gx 32 spec:=dx _ ok0
end agd

namespace abj
noncomputable def D:Ctx:=({ P:=Tryz.prog,G:=[(15,ae8.spec),(21,lg.spec),(30,xg.spec),(31,aes.spec),(32,agd.spec),(33,yg.spec),(34,agn.spec),(35,ab6.spec)],globs:=GLO.gx,hints:=[],loops:=[],inl:=[] }:Ctx)
theorem loops:dn (Tryz.f12.body.getD .skip)=[]:=by kernel_rfl
noncomputable def bn:Abs.Spec:=fun args K=>match args with
 | [.agg [.v (.int .i64 b),.v (.int .i64 c),.v (.int .i64 d),.v (.int .i64 e),.v (.int .i64 f),.v (.bool a)],.sl (.ints .u8 g),.sl (.ints .u8 h),.sl (.ints .u8 i),.sl (.ints .u8 j)]=>P.abj b c d e f a g h i j (fun k=>K (.v (.int .i64 k)))
 | _=>none
noncomputable def spec:Abs.Spec:=fun args K=>bn (mh [.any,.sl (.ints .u8 []),.sl (.ints .u8 []),.sl (.ints .u8 []),.sl (.ints .u8 [])] args) K
theorem ok0:Proved Tryz.prog GLO.gx 12 bn:=by
 refine bq (D:=D) (fn:=Tryz.f12) (c:=Tryz.f12.body.getD .skip) [.any] (by kernel_rfl) (bg (by kernel_rfl)) (by kernel_rfl) (by kernel_rfl) (by kernel_rfl) ⟨ae8.ok,lg.ok,xg.ok,aes.ok,agd.ok,yg.ok,agn.ok,ab6.ok,trivial⟩ trivial ?_ ?_
 · rw[loops];exact trivial
 · intro args K r h
   unfold bn at h
   split at h
   · rw[P.aej] at h;exact Aa (by kernel_rfl) h
   · cases h
theorem ok:Proved Tryz.prog GLO.gx 12 spec:=dx _ ok0
end abj

namespace za
noncomputable def D:Ctx:=({ P:=Tryz.prog,G:=[(7,ak4.spec),(8,agl.spec),(9,tu.spec),(10,af6.spec),(11,ze.spec),(12,abj.spec)],globs:=GLO.gx,hints:=[],loops:=[],inl:=[] }:Ctx)
theorem loops:dn (Tryz.f3.body.getD .skip)=[]:=by kernel_rfl
noncomputable def bn:Abs.Spec:=fun args K=>match args with
 | [.v (.int .i64 g),.agg [.v (.int .i64 b),.v (.int .i64 c),.v (.int .i64 d),.v (.int .i64 e),.v (.int .i64 f),.v (.bool a)],.sl (.ints .u8 h),.sl (.ints .u8 i),.sl (.ints .u8 j),.sl (.ints .u8 k)]=>P.za g b c d e f a h i j k (fun l=>K (.v (.bool l)))
 | _=>none
noncomputable def spec:Abs.Spec:=fun args K=>bn (mh [.any,.any,.sl (.ints .u8 []),.sl (.ints .u8 []),.sl (.ints .u8 []),.sl (.ints .u8 [])] args) K
theorem ok0:Proved Tryz.prog GLO.gx 3 bn:=by
 refine bq (D:=D) (fn:=Tryz.f3) (c:=Tryz.f3.body.getD .skip) [.any] (by kernel_rfl) (bg (by kernel_rfl)) (by kernel_rfl) (by kernel_rfl) (by kernel_rfl) ⟨ak4.ok,agl.ok,tu.ok,af6.ok,ze.ok,abj.ok,trivial⟩ trivial ?_ ?_
 · rw[loops];exact trivial
 · intro args K r h
   unfold bn at h
   split at h
   · rw[P.alm] at h;exact Aa (by kernel_rfl) h
   · cases h
theorem ok:Proved Tryz.prog GLO.gx 3 spec:=dx _ ok0
end za

end
