/-
  SlhVerifies, part 14: an interpreter of my own over abstract values, the pure functions, the walks and the plain law.
-/

import Derived.Test.YtciddcopcdmnbaaGreatDoorSlhVerifiesL
import Derived.Test.YtciddcopcdmnbaaGreatDoorSlhVerifiesH
import Derived.Test.YtciddcopcdmnbaaGreatDoorProg
import Derived.Test.YtciddcopcdmnbaaGreatDoorSlhVerifiesJ
import Derived.KernelRfl
import Derived.Test.YtciddcopcdmnbaaGreatDoorSlhVerifiesI
import Derived.Test.YtciddcopcdmnbaaGreatDoorSlhVerifiesK
open Eq renaming trans → Aa

section
open Go Go.Abs Go.Proofs
set_option maxRecDepth 100000
set_option maxHeartbeats 0
set_option linter.unusedVariables false

namespace ai4
noncomputable def D:Ctx:=({ P:=Tryz.prog,G:=[],globs:=GLO.gx,hints:=[],loops:=[],inl:=[] }:Ctx)
theorem loops:dn (Tryz.f13.body.getD .skip)=[]:=by kernel_rfl
noncomputable def bn:Abs.Spec:=fun args K=>match args with
 | [.v (.int .i64 g)]=>P.ai4 g (fun b c d e f a h=>K (.tuple [.agg [.v (.int .i64 b),.v (.int .i64 c),.v (.int .i64 d),.v (.int .i64 e),.v (.int .i64 f),.v (.bool a)],.v (.bool h)]))
 | _=>none
noncomputable def spec:Abs.Spec:=bn
theorem ok0:Proved Tryz.prog GLO.gx 13 bn:=by
 refine bq (D:=D) (fn:=Tryz.f13) (c:=Tryz.f13.body.getD .skip) [.any,.any] (by kernel_rfl) (bg (by kernel_rfl)) (by kernel_rfl) (by kernel_rfl) (by kernel_rfl) trivial trivial ?_ ?_
 · rw[loops];exact trivial
 · intro args K r h
   unfold bn at h
   split at h
   · rw[P.ar4] at h;exact Aa (by kernel_rfl) h
   · cases h
theorem ok:Proved Tryz.prog GLO.gx 13 spec:=ok0
end ai4

namespace jv
noncomputable def D:Ctx:=({ P:=Tryz.prog,G:=[],globs:=GLO.gx,hints:=[],loops:=[],inl:=[] }:Ctx)
theorem loops:dn (Tryz.f22.body.getD .skip)=[]:=by kernel_rfl
noncomputable def bn:Abs.Spec:=fun args K=>match args with
 | [.agg [.v (.int .i64 b),.v (.int .i64 c),.v (.int .i64 d),.v (.int .i64 e),.v (.int .i64 f),.v (.bool a)]]=>P.jv b c d e f a (fun g=>K (.v (.bool g)))
 | _=>none
noncomputable def spec:Abs.Spec:=bn
theorem ok0:Proved Tryz.prog GLO.gx 22 bn:=by
 refine bq (D:=D) (fn:=Tryz.f22) (c:=Tryz.f22.body.getD .skip) [.any] (by kernel_rfl) (bg (by kernel_rfl)) (by kernel_rfl) (by kernel_rfl) (by kernel_rfl) trivial trivial ?_ ?_
 · rw[loops];exact trivial
 · intro args K r h
   unfold bn at h
   split at h
   · rw[P.bb8] at h;exact Aa (by kernel_rfl) h
   · cases h
theorem ok:Proved Tryz.prog GLO.gx 22 spec:=ok0
end jv

namespace ow
noncomputable def D:Ctx:=({ P:=Tryz.prog,G:=[(22,jv.spec)],globs:=GLO.gx,hints:=[],loops:=[],inl:=[] }:Ctx)
theorem loops:dn (Tryz.f23.body.getD .skip)=[]:=by kernel_rfl
noncomputable def bn:Abs.Spec:=fun args K=>match args with
 | [.agg [.v (.int .i64 b),.v (.int .i64 c),.v (.int .i64 d),.v (.int .i64 e),.v (.int .i64 f),.v (.bool a)]]=>P.ow b c d e f a (fun g h=>K (.tuple [.v (.int .i64 g),.v (.int .i64 h)]))
 | _=>none
noncomputable def spec:Abs.Spec:=bn
theorem ok0:Proved Tryz.prog GLO.gx 23 bn:=by
 refine bq (D:=D) (fn:=Tryz.f23) (c:=Tryz.f23.body.getD .skip) [.any,.any] (by kernel_rfl) (bg (by kernel_rfl)) (by kernel_rfl) (by kernel_rfl) (by kernel_rfl) ⟨jv.ok,trivial⟩ trivial ?_ ?_
 · rw[loops];exact trivial
 · intro args K r h
   unfold bn at h
   split at h
   · rw[P.ayk] at h;exact Aa (by kernel_rfl) h
   · cases h
theorem ok:Proved Tryz.prog GLO.gx 23 spec:=ok0
end ow

namespace kr
noncomputable def D:Ctx:=({ P:=Tryz.prog,G:=[],globs:=GLO.gx,hints:=[],loops:=[],inl:=[] }:Ctx)
theorem loops:dn (Tryz.f73.body.getD .skip)=[]:=by kernel_rfl
noncomputable def bn:Abs.Spec:=fun args K=>match args with
 | [.agg [.v (.int .i64 b),.v (.int .i64 c),.v (.int .i64 d),.v (.int .i64 e),.v (.int .i64 f),.v (.bool a)]]=>P.kr b c d e f a (fun g=>K (.v (.int .i64 g)))
 | _=>none
noncomputable def spec:Abs.Spec:=bn
theorem ok0:Proved Tryz.prog GLO.gx 73 bn:=by
 refine bq (D:=D) (fn:=Tryz.f73) (c:=Tryz.f73.body.getD .skip) [.any] (by kernel_rfl) (bg (by kernel_rfl)) (by kernel_rfl) (by kernel_rfl) (by kernel_rfl) trivial trivial ?_ ?_
 · rw[loops];exact trivial
 · intro args K r h
   unfold bn at h
   split at h
   · rw[P.ay4] at h;exact Aa (by kernel_rfl) h
   · cases h
theorem ok:Proved Tryz.prog GLO.gx 73 spec:=ok0
end kr

namespace o7
noncomputable def D:Ctx:=({ P:=Tryz.prog,G:=[(22,jv.spec),(73,kr.spec)],globs:=GLO.gx,hints:=[],loops:=[],inl:=[] }:Ctx)
theorem loops:dn (Tryz.f36.body.getD .skip)=[]:=by kernel_rfl
noncomputable def bn:Abs.Spec:=fun args K=>match args with
 | [.agg [.v (.int .i64 b),.v (.int .i64 c),.v (.int .i64 d),.v (.int .i64 e),.v (.int .i64 f),.v (.bool a)]]=>P.o7 b c d e f a (fun g=>K (.v (.int .i64 g)))
 | _=>none
noncomputable def spec:Abs.Spec:=bn
theorem ok0:Proved Tryz.prog GLO.gx 36 bn:=by
 refine bq (D:=D) (fn:=Tryz.f36) (c:=Tryz.f36.body.getD .skip) [.any] (by kernel_rfl) (bg (by kernel_rfl)) (by kernel_rfl) (by kernel_rfl) (by kernel_rfl) ⟨jv.ok,kr.ok,trivial⟩ trivial ?_ ?_
 · rw[loops];exact trivial
 · intro args K r h
   unfold bn at h
   split at h
   · rw[P.ayr] at h;exact Aa (by kernel_rfl) h
   · cases h
theorem ok:Proved Tryz.prog GLO.gx 36 spec:=ok0
end o7

namespace aby
noncomputable def D:Ctx:=({ P:=Tryz.prog,G:=[(22,jv.spec),(23,ow.spec),(36,o7.spec)],globs:=GLO.gx,hints:=[],loops:=[],inl:=[] }:Ctx)
theorem loops:dn (Tryz.f14.body.getD .skip)=[]:=by kernel_rfl
noncomputable def bn:Abs.Spec:=fun args K=>match args with
 | [.agg [.v (.int .i64 b),.v (.int .i64 c),.v (.int .i64 d),.v (.int .i64 e),.v (.int .i64 f),.v (.bool a)]]=>P.aby b c d e f a (fun g h i=>K (.tuple [.v (.int .i64 g),.v (.int .i64 h),.v (.int .i64 i)]))
 | _=>none
noncomputable def spec:Abs.Spec:=bn
theorem ok0:Proved Tryz.prog GLO.gx 14 bn:=by
 refine bq (D:=D) (fn:=Tryz.f14) (c:=Tryz.f14.body.getD .skip) [.any,.any,.any] (by kernel_rfl) (bg (by kernel_rfl)) (by kernel_rfl) (by kernel_rfl) (by kernel_rfl) ⟨jv.ok,ow.ok,o7.ok,trivial⟩ trivial ?_ ?_
 · rw[loops];exact trivial
 · intro args K r h
   unfold bn at h
   split at h
   · rw[P.ale] at h;exact Aa (by kernel_rfl) h
   · cases h
theorem ok:Proved Tryz.prog GLO.gx 14 spec:=ok0
end aby

namespace ad8
noncomputable def D:Ctx:=({ P:=Tryz.prog,G:=[],globs:=GLO.gx,hints:=[],loops:=[],inl:=[] }:Ctx)
theorem loops:dn (Tryz.f142.body.getD .skip)=[]:=by kernel_rfl
noncomputable def bn:Abs.Spec:=fun args K=>match args with
 | [.sl (.ints .u8 a),.v (.int .i64 b),.v (.int .i64 c)]=>P.ad8 a b c (fun d=>K (.v (.bool d)))
 | _=>none
noncomputable def spec:Abs.Spec:=fun args K=>bn (mh [.sl (.ints .u8 []),.any,.any] args) K
theorem ok0:Proved Tryz.prog GLO.gx 142 bn:=by
 refine bq (D:=D) (fn:=Tryz.f142) (c:=Tryz.f142.body.getD .skip) [.any] (by kernel_rfl) (bg (by kernel_rfl)) (by kernel_rfl) (by kernel_rfl) (by kernel_rfl) trivial trivial ?_ ?_
 · rw[loops];exact trivial
 · intro args K r h
   unfold bn at h
   split at h
   · rw[P.aze] at h;exact Aa (by kernel_rfl) h
   · cases h
theorem ok:Proved Tryz.prog GLO.gx 142 spec:=dx _ ok0
end ad8

namespace ny
abbrev X8:=P.b5y
def S8:X8→ASt:=fun (d,e,f,g,a,b,c,h)=>⟨[(0,.sl (.ints .u8 d)),(1,.v (.int .i64 e)),(7,.own 0),(8,.v (.int .u64 f)),(9,.v (.int .i64 g)),(10,.v (.int .i64 a)),(19,.v (.int .i64 b)),(20,.v (.int .i64 c))],[(0,some ⟨.row 102 (.ints .u32 h),false⟩)],1,53⟩
def V8:ASt→Option X8
 | ⟨[(0,.sl (.ints .u8 d)),(1,.v (.int .i64 e)),(7,.own 0),(8,.v (.int .u64 f)),(9,.v (.int .i64 g)),(10,.v (.int .i64 a)),(19,.v (.int .i64 b)),(20,.v (.int .i64 c))],[(0,some ⟨.row 102 (.ints .u32 h),false⟩)],1,53⟩=>some (d,e,f,g,a,b,c,h)
 | _=>none
theorem bh3(st)(x)(h:V8 st=some x):st=S8 x:=by
 unfold V8 at h
 split at h
 · cases h;rfl
 · cases h
abbrev Y8:=P.ccp
abbrev X6:=P.b33
def S6:X6→ASt:=fun (c,d,e,f,a,b,g)=>⟨[(0,.sl (.ints .u8 c)),(1,.v (.int .i64 d)),(7,.own 0),(8,.v (.int .u64 e)),(9,.v (.int .i64 f)),(19,.v (.int .i64 a)),(20,.v (.int .i64 b))],[(0,some ⟨.row 102 (.ints .u32 g),false⟩)],1,53⟩
def V6:ASt→Option X6
 | ⟨[(0,.sl (.ints .u8 c)),(1,.v (.int .i64 d)),(7,.own 0),(8,.v (.int .u64 e)),(9,.v (.int .i64 f)),(19,.v (.int .i64 a)),(20,.v (.int .i64 b))],[(0,some ⟨.row 102 (.ints .u32 g),false⟩)],1,53⟩=>some (c,d,e,f,a,b,g)
 | _=>none
theorem aua(st)(x)(h:V6 st=some x):st=S6 x:=by
 unfold V6 at h
 split at h
 · cases h;rfl
 · cases h
abbrev Y6:=P.cdg
def E8(K:AExit→ASt→Option R):Y8→Option R:=(fun x=>K (.exit 2) (S8 x))
noncomputable def L8:qy:=fun st K=>adb (V8 st) fun x=>P.b99 x (E8 K)
def E6(K:AExit→ASt→Option R):Y6→Option R:=(fun x=>K (.exit 0) (S6 x))
noncomputable def L6:qy:=fun st K=>adb (V6 st) fun x=>P.cdf x (E6 K)
noncomputable def D:Ctx:=({ P:=Tryz.prog,G:=[(142,ad8.spec)],globs:=GLO.gx,hints:=[(8,⟨[0,1,7,8,9,10,19,20],[],[6],[(0,.sl (.ints .u8 []))],none,[],[],[]⟩),(6,⟨[0,1,7,8,9,19,20],[],[6],[(0,.sl (.ints .u8 []))],none,[],[],[]⟩)],loops:=[(8,L8),(6,L6)],inl:=[] }:Ctx)
theorem avf(K)(next)(x):kg D (gq Tryz.f102 8) K next (S8 x)=P.b1l x (fun x=>next (S8 x)) (E8 K):=by kernel_rfl
theorem bh6:jr D (gq Tryz.f102 8):=iy S8 bh3 (by kernel_rfl) P.cgv avf
theorem akj(K)(next)(x):kg D (gq Tryz.f102 6) K next (S6 x)=P.b5o x (fun x=>next (S6 x)) (E6 K):=by kernel_rfl
theorem au4:jr D (gq Tryz.f102 6):=iy S6 aua (by kernel_rfl) P.cgr akj
theorem loops:dn (Tryz.f102.body.getD .skip)=[gq Tryz.f102 6,gq Tryz.f102 8]:=by kernel_rfl
noncomputable def bn:Abs.Spec:=fun args K=>match args with
 | [.sl (.ints .u8 a),.v (.int .i64 b),.v (.int .i64 c)]=>P.ny a b c (fun d=>K (.fr 102 (.ints .u32 d)))
 | _=>none
noncomputable def spec:Abs.Spec:=fun args K=>bn (mh [.sl (.ints .u8 []),.any,.any] args) K
theorem ok0:Proved Tryz.prog GLO.gx 102 bn:=by
 refine bq (D:=D) (fn:=Tryz.f102) (c:=Tryz.f102.body.getD .skip) [.fr 102 (.ints .u32 [])] (by kernel_rfl) (bg (by kernel_rfl)) (by kernel_rfl) (by kernel_rfl) (by kernel_rfl) ⟨ad8.ok,trivial⟩ trivial ?_ ?_
 · rw[loops];exact ⟨au4,bh6,trivial⟩
 · intro args K r h
   unfold bn at h
   split at h
   · rw[P.as6] at h;exact Aa (by kernel_rfl) h
   · cases h
theorem ok:Proved Tryz.prog GLO.gx 102 spec:=dx _ ok0
end ny

namespace uy
abbrev X3:=P.b5n
def S3:X3→ASt:=fun (a,b,c,d)=>⟨[(3,.v (.int .u64 a)),(6,.sl (.ints .u8 b)),(7,.v (.int .i64 c)),(8,.v (.int .i64 d))],[],0,19⟩
def V3:ASt→Option X3
 | ⟨[(3,.v (.int .u64 a)),(6,.sl (.ints .u8 b)),(7,.v (.int .i64 c)),(8,.v (.int .i64 d))],[],0,19⟩=>some (a,b,c,d)
 | _=>none
theorem aq0(st)(x)(h:V3 st=some x):st=S3 x:=by
 unfold V3 at h
 split at h
 · cases h;rfl
 · cases h
abbrev Y3:=P.cf7
def E3(K:AExit→ASt→Option R):Y3→Option R:=(fun x=>K (.exit 0) (S3 x))
noncomputable def L3:qy:=fun st K=>adb (V3 st) fun x=>P.cch x (E3 K)
noncomputable def D:Ctx:=({ P:=Tryz.prog,G:=[],globs:=GLO.gx,hints:=[(3,⟨[3,6,7,8],[],[2],[],none,[],[],[]⟩)],loops:=[(3,L3)],inl:=[] }:Ctx)
theorem air(K)(next)(x):kg D (gq Tryz.f100 3) K next (S3 x)=P.b5t x (fun x=>next (S3 x)) (E3 K):=by kernel_rfl
theorem arv:jr D (gq Tryz.f100 3):=iy S3 aq0 (by kernel_rfl) P.cik air
theorem loops:dn (Tryz.f100.body.getD .skip)=[gq Tryz.f100 3]:=by kernel_rfl
noncomputable def bn:Abs.Spec:=fun args K=>match args with
 | [.sl (.ints .u8 a)]=>P.uy a (fun b=>K (.v (.int .u64 b)))
 | _=>none
noncomputable def spec:Abs.Spec:=fun args K=>bn (mh [.sl (.ints .u8 [])] args) K
theorem ok0:Proved Tryz.prog GLO.gx 100 bn:=by
 refine bq (D:=D) (fn:=Tryz.f100) (c:=Tryz.f100.body.getD .skip) [.any] (by kernel_rfl) (bg (by kernel_rfl)) (by kernel_rfl) (by kernel_rfl) (by kernel_rfl) trivial trivial ?_ ?_
 · rw[loops];exact ⟨arv,trivial⟩
 · intro args K r h
   unfold bn at h
   split at h
   · rw[P.bdh] at h;exact Aa (by kernel_rfl) h
   · cases h
theorem ok:Proved Tryz.prog GLO.gx 100 spec:=dx _ ok0
end uy

namespace ahv
abbrev X5:=P.b2t
def S5:X5→ASt:=fun (c,a,b,d)=>⟨[(0,.v (.int .u64 c)),(5,.own 0),(16,.v (.int .i64 a)),(17,.v (.int .i64 b))],[(0,some ⟨.row 5 (.ints .u8 d),false⟩)],1,30⟩
def V5:ASt→Option X5
 | ⟨[(0,.v (.int .u64 c)),(5,.own 0),(16,.v (.int .i64 a)),(17,.v (.int .i64 b))],[(0,some ⟨.row 5 (.ints .u8 d),false⟩)],1,30⟩=>some (c,a,b,d)
 | _=>none
theorem bbx(st)(x)(h:V5 st=some x):st=S5 x:=by
 unfold V5 at h
 split at h
 · cases h;rfl
 · cases h
abbrev Y5:=P.b9l
def E5(K:AExit→ASt→Option R):Y5→Option R:=(fun x=>K (.exit 0) (S5 x))
noncomputable def L5:qy:=fun st K=>adb (V5 st) fun x=>P.ccm x (E5 K)
noncomputable def D:Ctx:=({ P:=Tryz.prog,G:=[],globs:=GLO.gx,hints:=[(5,⟨[0,5,16,17],[],[4],[],none,[],[],[]⟩)],loops:=[(5,L5)],inl:=[] }:Ctx)
theorem aqv(K)(next)(x):kg D (gq Tryz.f122 5) K next (S5 x)=P.zs12 x (fun x=>next (S5 x)) (E5 K):=by kernel_rfl
theorem bcw:jr D (gq Tryz.f122 5):=iy S5 bbx (by kernel_rfl) P.cgn aqv
theorem loops:dn (Tryz.f122.body.getD .skip)=[gq Tryz.f122 5]:=by kernel_rfl
noncomputable def bn:Abs.Spec:=fun args K=>match args with
 | [.v (.int .u64 a),.v (.int .i64 b)]=>P.ahv a b (fun c=>K (.fr 5 (.ints .u8 c)))
 | _=>none
noncomputable def spec:Abs.Spec:=bn
theorem ok0:Proved Tryz.prog GLO.gx 122 bn:=by
 refine bq (D:=D) (fn:=Tryz.f122) (c:=Tryz.f122.body.getD .skip) [.fr 5 (.ints .u8 [])] (by kernel_rfl) (bg (by kernel_rfl)) (by kernel_rfl) (by kernel_rfl) (by kernel_rfl) trivial trivial ?_ ?_
 · rw[loops];exact ⟨bcw,trivial⟩
 · intro args K r h
   unfold bn at h
   split at h
   · rw[P.bga] at h;exact Aa (by kernel_rfl) h
   · cases h
theorem ok:Proved Tryz.prog GLO.gx 122 spec:=ok0
end ahv

namespace xq
abbrev chq:=P.b3o
def b0k:chq→ASt:=fun (a,b,c)=>⟨[(0,.own 0),(2,.v (.int .i64 a)),(3,.v (.int .i64 b))],[(0,some ⟨.row 5 (.ints .u8 c),false⟩)],1,28⟩
def b8x:ASt→Option chq
 | ⟨[(0,.own 0),(2,.v (.int .i64 a)),(3,.v (.int .i64 b))],[(0,some ⟨.row 5 (.ints .u8 c),false⟩)],1,28⟩=>some (a,b,c)
 | _=>none
theorem by7(st)(x)(h:b8x st=some x):st=b0k x:=by
 unfold b8x at h
 split at h
 · cases h;rfl
 · cases h
abbrev Y1_1:=P.b9a
def chw(K:AExit→ASt→Option R):Y1_1→Option R:=(fun x=>K (.exit 0) (b0k x))
noncomputable def L1_1:qy:=fun st K=>adb (b8x st) fun x=>P.cdc x (chw K)
noncomputable def D1:Ctx:=({ P:=Tryz.prog,G:=[(122,ahv.spec)],globs:=GLO.gx,hints:=[(1,⟨[0,2,3],[],[],[],none,[],[],[]⟩)],loops:=[(1,L1_1)],inl:=[] }:Ctx)
noncomputable def D:Ctx:=({ P:=Tryz.prog,G:=[(122,ahv.spec)],globs:=GLO.gx,hints:=[],loops:=[],inl:=[(123,ajd D1 Tryz.f123)] }:Ctx)
theorem bul(K)(next)(x):kg D1 (gq Tryz.f123 1) K next (b0k x)=P.b36 x (fun x=>next (b0k x)) (chw K):=by kernel_rfl
theorem bxj:jr D1 (gq Tryz.f123 1):=iy b0k by7 (by kernel_rfl) P.ch5 bul
theorem loops:dn (Tryz.f75.body.getD .skip)=[]:=by kernel_rfl
theorem aqi:dn (Tryz.f123.body.getD .skip)=[gq Tryz.f123 1]:=by kernel_rfl
noncomputable def bn:Abs.Spec:=fun args K=>match args with
 | [.v (.int .u64 a),.v (.int .i64 b)]=>P.xq a b (fun c=>K (.fr 5 (.ints .u8 c)))
 | _=>none
noncomputable def spec:Abs.Spec:=bn
theorem ok0:Proved Tryz.prog GLO.gx 75 bn:=by
 refine bq (D:=D) (fn:=Tryz.f75) (c:=Tryz.f75.body.getD .skip) [.fr 5 (.ints .u8 [])] (by kernel_rfl) (bg (by kernel_rfl)) (by kernel_rfl) (by kernel_rfl) (by kernel_rfl) ⟨ahv.ok,trivial⟩ ⟨awu (D:=D1) (D':=D) (fn:=Tryz.f123) (c:=Tryz.f123.body.getD .skip) rfl rfl (by kernel_rfl) (bg (by kernel_rfl)) (by kernel_rfl) (by kernel_rfl) (by kernel_rfl) ⟨ahv.ok,trivial⟩ trivial (by rw[aqi];exact ⟨bxj,trivial⟩) (fun _ _ _ _ _ h=>h),trivial⟩ ?_ ?_
 · rw[loops];exact trivial
 · intro args K r h
   unfold bn at h
   split at h
   · rw[P.be0] at h;exact Aa (by kernel_rfl) h
   · cases h
theorem ok:Proved Tryz.prog GLO.gx 75 spec:=ok0
end xq

namespace qx
noncomputable def D:Ctx:=({ P:=Tryz.prog,G:=[],globs:=GLO.gx,hints:=[],loops:=[],inl:=[] }:Ctx)
theorem loops:dn (Tryz.f124.body.getD .skip)=[]:=by kernel_rfl
noncomputable def bn:Abs.Spec:=fun args K=>match args with
 | [.v (.slice none 0 0),.v (.int .i64 a)]=>P.qx a (fun b=>K (.fr 5 (.ints .u8 b)))
 | _=>none
noncomputable def spec:Abs.Spec:=bn
theorem ok0:Proved Tryz.prog GLO.gx 124 bn:=by
 refine axk (D:=D) (fn:=Tryz.f124) (c:=Tryz.f124.body.getD .skip) 5 (.ints .u8 []) (by kernel_rfl) (bg (by kernel_rfl)) (by kernel_rfl) (by kernel_rfl) (by kernel_rfl) trivial trivial ?_ ?_
 · rw[loops];exact trivial
 · intro args K r h
   unfold bn at h
   split at h
   · rw[P.aj2] at h;exact Aa (by kernel_rfl) h
   · cases h
theorem ok:Proved Tryz.prog GLO.gx 124 spec:=ok0
end qx

namespace j5
abbrev X3:=P.zt1
def S3:X3→ASt:=fun (c,d,e,a,b)=>⟨[(0,.sl (.rows .u8 c)),(3,.v (.int .i64 d)),(9,.sl (.rows .u8 e)),(10,.v (.int .i64 a)),(11,.v (.int .i64 b))],[],0,36⟩
def V3:ASt→Option X3
 | ⟨[(0,.sl (.rows .u8 c)),(3,.v (.int .i64 d)),(9,.sl (.rows .u8 e)),(10,.v (.int .i64 a)),(11,.v (.int .i64 b))],[],0,36⟩=>some (c,d,e,a,b)
 | _=>none
theorem aq0(st)(x)(h:V3 st=some x):st=S3 x:=by
 unfold V3 at h
 split at h
 · cases h;rfl
 · cases h
abbrev Y3:=P.zy1
abbrev X11:=P.zt2
def S11:X11→ASt:=fun (a,b,c,d)=>⟨[(6,.own 1),(25,.sl (.rows .u8 a)),(26,.v (.int .i64 b)),(27,.v (.int .i64 c))],[(1,some ⟨.row 5 (.ints .u8 d),false⟩),(0,none)],2,36⟩
def V11:ASt→Option X11
 | ⟨[(6,.own 1),(25,.sl (.rows .u8 a)),(26,.v (.int .i64 b)),(27,.v (.int .i64 c))],[(1,some ⟨.row 5 (.ints .u8 d),false⟩),(0,none)],2,36⟩=>some (a,b,c,d)
 | _=>none
theorem brh(st)(x)(h:V11 st=some x):st=S11 x:=by
 unfold V11 at h
 split at h
 · cases h;rfl
 · cases h
abbrev Y11:=P.zy2
def E3(K:AExit→ASt→Option R):Y3→Option R:=(fun x=>K (.exit 0) (S3 x))
noncomputable def L3:qy:=fun st K=>adb (V3 st) fun x=>P.zm1 x (E3 K)
def E11(K:AExit→ASt→Option R):Y11→Option R:=(fun x=>K (.exit 2) (S11 x))
noncomputable def L11:qy:=fun st K=>adb (V11 st) fun x=>P.zm2 x (E11 K)
noncomputable def D:Ctx:=({ P:=Tryz.prog,G:=[(124,qx.spec)],globs:=GLO.gx,hints:=[(11,⟨[25,26,27],[(6,5,.ints .u8 [])],[2],[],none,[],[],[]⟩),(3,⟨[0,3,9,10,11],[],[2],[],none,[],[],[]⟩)],loops:=[(3,L3),(11,L11)],inl:=[] }:Ctx)
theorem air(K)(next)(x):kg D (gq Tryz.f76 3) K next (S3 x)=P.zs1 x (fun x=>next (S3 x)) (E3 K):=by kernel_rfl
theorem arv:jr D (gq Tryz.f76 3):=iy S3 aq0 (by kernel_rfl) P.ze1 air
theorem blp(K)(next)(x):kg D (gq Tryz.f76 11) K next (S11 x)=P.zs2 x (fun x=>next (S11 x)) (E11 K):=by kernel_rfl
theorem br9:jr D (gq Tryz.f76 11):=iy S11 brh (by kernel_rfl) P.ze2 blp
theorem loops:dn (Tryz.f76.body.getD .skip)=[gq Tryz.f76 3,gq Tryz.f76 11]:=by kernel_rfl
noncomputable def bn:Abs.Spec:=fun args K=>match args with
 | [.sl (.rows .u8 a)]=>P.j5 a (fun b=>K (.fr 5 (.ints .u8 b)))
 | _=>none
noncomputable def spec:Abs.Spec:=fun args K=>bn (mh [.sl (.rows .u8 [])] args) K
theorem ok0:Proved Tryz.prog GLO.gx 76 bn:=by
 refine bq (D:=D) (fn:=Tryz.f76) (c:=Tryz.f76.body.getD .skip) [.fr 5 (.ints .u8 [])] (by kernel_rfl) (bg (by kernel_rfl)) (by kernel_rfl) (by kernel_rfl) (by kernel_rfl) ⟨qx.ok,trivial⟩ trivial ?_ ?_
 · rw[loops];exact ⟨arv,br9,trivial⟩
 · intro args K r h
   unfold bn at h
   split at h
   · rw[P.aio] at h;exact Aa (by kernel_rfl) h
   · cases h
theorem ok:Proved Tryz.prog GLO.gx 76 spec:=dx _ ok0
end j5

namespace jd
noncomputable def D:Ctx:=({ P:=Tryz.prog,G:=[(76,j5.spec)],globs:=GLO.gx,hints:=[],loops:=[],inl:=[] }:Ctx)
theorem loops:dn (Tryz.f40.body.getD .skip)=[]:=by kernel_rfl
noncomputable def bn:Abs.Spec:=fun args K=>match args with
 | [.sl (.rows .u8 a)]=>P.jd a (fun b=>K (.fr 5 (.ints .u8 b)))
 | _=>none
noncomputable def spec:Abs.Spec:=fun args K=>bn (mh [.sl (.rows .u8 [])] args) K
theorem ok0:Proved Tryz.prog GLO.gx 40 bn:=by
 refine bq (D:=D) (fn:=Tryz.f40) (c:=Tryz.f40.body.getD .skip) [.fr 5 (.ints .u8 [])] (by kernel_rfl) (bg (by kernel_rfl)) (by kernel_rfl) (by kernel_rfl) (by kernel_rfl) ⟨j5.ok,trivial⟩ trivial ?_ ?_
 · rw[loops];exact trivial
 · intro args K r h
   unfold bn at h
   split at h
   · rw[P.azb] at h;exact Aa (by kernel_rfl) h
   · cases h
theorem ok:Proved Tryz.prog GLO.gx 40 spec:=dx _ ok0
end jd

namespace jc
noncomputable def D:Ctx:=({ P:=Tryz.prog,G:=[(40,jd.spec),(75,xq.spec)],globs:=GLO.gx,hints:=[],loops:=[],inl:=[] }:Ctx)
theorem loops:dn (Tryz.f39.body.getD .skip)=[]:=by kernel_rfl
noncomputable def bn:Abs.Spec:=fun args K=>match args with
 | [.arr .u8 32 a,.v (.int .i64 b),.v (.int .u64 c)]=>P.jc a b c (fun d=>K (.arr .u8 32 d))
 | _=>none
noncomputable def spec:Abs.Spec:=bn
theorem ok0:Proved Tryz.prog GLO.gx 39 bn:=by
 refine bq (D:=D) (fn:=Tryz.f39) (c:=Tryz.f39.body.getD .skip) [.any] (by kernel_rfl) (bg (by kernel_rfl)) (by kernel_rfl) (by kernel_rfl) (by kernel_rfl) ⟨jd.ok,xq.ok,trivial⟩ trivial ?_ ?_
 · rw[loops];exact trivial
 · intro args K r h
   unfold bn at h
   split at h
   · rw[P.bc9] at h;exact Aa (by kernel_rfl) h
   · cases h
theorem ok:Proved Tryz.prog GLO.gx 39 spec:=ok0
end jc

namespace qb
noncomputable def D:Ctx:=({ P:=Tryz.prog,G:=[(39,jc.spec),(100,uy.spec)],globs:=GLO.gx,hints:=[],loops:=[],inl:=[] }:Ctx)
theorem loops:dn (Tryz.f105.body.getD .skip)=[]:=by kernel_rfl
noncomputable def bn:Abs.Spec:=fun args K=>match args with
 | [.agg [.v (.int .i64 c),.v (.int .i64 d),.v (.int .i64 e),.v (.int .i64 f),.v (.int .i64 g),.v (.bool a),.sl (.ints .u8 b),.sl (.ints .u8 h),.arr .u8 32 i],.v (.int .u64 j)]=>P.qb c d e f g a b h i j (fun k=>K (.arr .u8 32 k))
 | _=>none
noncomputable def spec:Abs.Spec:=fun args K=>bn (mh [.agg [.any,.any,.any,.any,.any,.any,.sl (.ints .u8 []),.sl (.ints .u8 []),.any],.any] args) K
theorem ok0:Proved Tryz.prog GLO.gx 105 bn:=by
 refine bq (D:=D) (fn:=Tryz.f105) (c:=Tryz.f105.body.getD .skip) [.any] (by kernel_rfl) (bg (by kernel_rfl)) (by kernel_rfl) (by kernel_rfl) (by kernel_rfl) ⟨jc.ok,uy.ok,trivial⟩ trivial ?_ ?_
 · rw[loops];exact trivial
 · intro args K r h
   unfold bn at h
   split at h
   · rw[P.apt] at h;exact Aa (by kernel_rfl) h
   · cases h
theorem ok:Proved Tryz.prog GLO.gx 105 spec:=dx _ ok0
end qb

namespace ql
noncomputable def D:Ctx:=({ P:=Tryz.prog,G:=[],globs:=GLO.gx,hints:=[],loops:=[],inl:=[] }:Ctx)
theorem loops:dn (Tryz.f197.body.getD .skip)=[]:=by kernel_rfl
noncomputable def bn:Abs.Spec:=fun args K=>match args with
 | [.v (.int .i64 a)]=>P.ql a (fun b=>K (.v (.int .u64 b)))
 | _=>none
noncomputable def spec:Abs.Spec:=bn
theorem ok0:Proved Tryz.prog GLO.gx 197 bn:=by
 refine bq (D:=D) (fn:=Tryz.f197) (c:=Tryz.f197.body.getD .skip) [.any] (by kernel_rfl) (bg (by kernel_rfl)) (by kernel_rfl) (by kernel_rfl) (by kernel_rfl) trivial trivial ?_ ?_
 · rw[loops];exact trivial
 · intro args K r h
   unfold bn at h
   split at h
   · rw[P.as8] at h;exact Aa (by kernel_rfl) h
   · cases h
theorem ok:Proved Tryz.prog GLO.gx 197 spec:=ok0
end ql

namespace ad6
noncomputable def D:Ctx:=({ P:=Tryz.prog,G:=[(197,ql.spec)],globs:=GLO.gx,hints:=[],loops:=[],inl:=[] }:Ctx)
theorem loops:dn (Tryz.f184.body.getD .skip)=[]:=by kernel_rfl
noncomputable def bn:Abs.Spec:=fun args K=>match args with
 | []=>P.ad6 (fun f e a b c d=>K (.agg [.v (.int .i64 f),.v (.int .i64 e),.arr .i64 3 a,.arr .i64 3 b,.arr .i64 3 c,.arr .i64 3 d,.fn (.func 197) [] []]))
 | _=>none
noncomputable def spec:Abs.Spec:=bn
theorem ok0:Proved Tryz.prog GLO.gx 184 bn:=by
 refine bq (D:=D) (fn:=Tryz.f184) (c:=Tryz.f184.body.getD .skip) [.any] (by kernel_rfl) (bg (by kernel_rfl)) (by kernel_rfl) (by kernel_rfl) (by kernel_rfl) ⟨ql.ok,trivial⟩ trivial ?_ ?_
 · rw[loops];exact trivial
 · intro args K r h
   unfold bn at h
   split at h
   · rw[P.ayq] at h;exact Aa (by kernel_rfl) h
   · cases h
theorem ok:Proved Tryz.prog GLO.gx 184 spec:=ok0
end ad6

namespace qm
noncomputable def D:Ctx:=({ P:=Tryz.prog,G:=[],globs:=GLO.gx,hints:=[],loops:=[],inl:=[] }:Ctx)
theorem loops:dn (Tryz.f195.body.getD .skip)=[]:=by kernel_rfl
noncomputable def bn:Abs.Spec:=fun args K=>match args with
 | [.v (.int .i64 a)]=>P.qm a (fun b=>K (.v (.int .u32 b)))
 | _=>none
noncomputable def spec:Abs.Spec:=bn
theorem ok0:Proved Tryz.prog GLO.gx 195 bn:=by
 refine bq (D:=D) (fn:=Tryz.f195) (c:=Tryz.f195.body.getD .skip) [.any] (by kernel_rfl) (bg (by kernel_rfl)) (by kernel_rfl) (by kernel_rfl) (by kernel_rfl) trivial trivial ?_ ?_
 · rw[loops];exact trivial
 · intro args K r h
   unfold bn at h
   split at h
   · rw[P.as3] at h;exact Aa (by kernel_rfl) h
   · cases h
theorem ok:Proved Tryz.prog GLO.gx 195 spec:=ok0
end qm

end
