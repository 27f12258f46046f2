/-
  SlhMakes, part 14: an interpreter of my own over abstract values, the pure functions, the walks and the plain law.
-/

import Derived.Test.YtciddcopcdmnbaaGreatDoorSlhMakesL
import Derived.Test.YtciddcopcdmnbaaGreatDoorSlhMakesH
import Derived.Test.YtciddcopcdmnbaaGreatDoorProg
import Derived.Test.YtciddcopcdmnbaaGreatDoorSlhMakesJ
import Derived.KernelRfl
import Derived.Test.YtciddcopcdmnbaaGreatDoorSlhMakesI
import Derived.Test.YtciddcopcdmnbaaGreatDoorSlhMakesK
open Eq renaming trans → Aa

section
open Go Go.Abs Go.Proofs
set_option maxRecDepth 100000
set_option maxHeartbeats 0
set_option linter.unusedVariables false

namespace ae2
noncomputable def D:Ctx:=({ P:=Tryz.prog,G:=[],globs:=GLO.gx,hints:=[],loops:=[],inl:=[] }:Ctx)
theorem loops:dn (Tryz.f13.body.getD .skip)=[]:=by kernel_rfl
noncomputable def bn:Abs.Spec:=fun args K=>match args with
 | [.v (.int .i64 g)]=>P.ae2 g (fun b c d e f a h=>K (.tuple [.agg [.v (.int .i64 b),.v (.int .i64 c),.v (.int .i64 d),.v (.int .i64 e),.v (.int .i64 f),.v (.bool a)],.v (.bool h)]))
 | _=>none
noncomputable def spec:Abs.Spec:=bn
theorem ok0:Proved Tryz.prog GLO.gx 13 bn:=by
 refine bq (D:=D) (fn:=Tryz.f13) (c:=Tryz.f13.body.getD .skip) [.any,.any] (by kernel_rfl) (bf (by kernel_rfl)) (by kernel_rfl) (by kernel_rfl) (by kernel_rfl) trivial trivial ?_ ?_
 · rw[loops];exact trivial
 · intro args K r h
   unfold bn at h
   split at h
   · rw[P.aqc] at h;exact Aa (by kernel_rfl) h
   · cases h
theorem ok:Proved Tryz.prog GLO.gx 13 spec:=ok0
end ae2

namespace jk
noncomputable def D:Ctx:=({ P:=Tryz.prog,G:=[],globs:=GLO.gx,hints:=[],loops:=[],inl:=[] }:Ctx)
theorem loops:dn (Tryz.f22.body.getD .skip)=[]:=by kernel_rfl
noncomputable def bn:Abs.Spec:=fun args K=>match args with
 | [.agg [.v (.int .i64 b),.v (.int .i64 c),.v (.int .i64 d),.v (.int .i64 e),.v (.int .i64 f),.v (.bool a)]]=>P.jk b c d e f a (fun g=>K (.v (.bool g)))
 | _=>none
noncomputable def spec:Abs.Spec:=bn
theorem ok0:Proved Tryz.prog GLO.gx 22 bn:=by
 refine bq (D:=D) (fn:=Tryz.f22) (c:=Tryz.f22.body.getD .skip) [.any] (by kernel_rfl) (bf (by kernel_rfl)) (by kernel_rfl) (by kernel_rfl) (by kernel_rfl) trivial trivial ?_ ?_
 · rw[loops];exact trivial
 · intro args K r h
   unfold bn at h
   split at h
   · rw[P.ayd] at h;exact Aa (by kernel_rfl) h
   · cases h
theorem ok:Proved Tryz.prog GLO.gx 22 spec:=ok0
end jk

namespace pz
noncomputable def D:Ctx:=({ P:=Tryz.prog,G:=[(22,jk.spec)],globs:=GLO.gx,hints:=[],loops:=[],inl:=[] }:Ctx)
theorem loops:dn (Tryz.f23.body.getD .skip)=[]:=by kernel_rfl
noncomputable def bn:Abs.Spec:=fun args K=>match args with
 | [.agg [.v (.int .i64 b),.v (.int .i64 c),.v (.int .i64 d),.v (.int .i64 e),.v (.int .i64 f),.v (.bool a)]]=>P.pz b c d e f a (fun g h=>K (.tuple [.v (.int .i64 g),.v (.int .i64 h)]))
 | _=>none
noncomputable def spec:Abs.Spec:=bn
theorem ok0:Proved Tryz.prog GLO.gx 23 bn:=by
 refine bq (D:=D) (fn:=Tryz.f23) (c:=Tryz.f23.body.getD .skip) [.any,.any] (by kernel_rfl) (bf (by kernel_rfl)) (by kernel_rfl) (by kernel_rfl) (by kernel_rfl) ⟨jk.ok,trivial⟩ trivial ?_ ?_
 · rw[loops];exact trivial
 · intro args K r h
   unfold bn at h
   split at h
   · rw[P.axf] at h;exact Aa (by kernel_rfl) h
   · cases h
theorem ok:Proved Tryz.prog GLO.gx 23 spec:=ok0
end pz

namespace jl
noncomputable def D:Ctx:=({ P:=Tryz.prog,G:=[],globs:=GLO.gx,hints:=[],loops:=[],inl:=[] }:Ctx)
theorem loops:dn (Tryz.f73.body.getD .skip)=[]:=by kernel_rfl
noncomputable def bn:Abs.Spec:=fun args K=>match args with
 | [.agg [.v (.int .i64 b),.v (.int .i64 c),.v (.int .i64 d),.v (.int .i64 e),.v (.int .i64 f),.v (.bool a)]]=>P.jl b c d e f a (fun g=>K (.v (.int .i64 g)))
 | _=>none
noncomputable def spec:Abs.Spec:=bn
theorem ok0:Proved Tryz.prog GLO.gx 73 bn:=by
 refine bq (D:=D) (fn:=Tryz.f73) (c:=Tryz.f73.body.getD .skip) [.any] (by kernel_rfl) (bf (by kernel_rfl)) (by kernel_rfl) (by kernel_rfl) (by kernel_rfl) trivial trivial ?_ ?_
 · rw[loops];exact trivial
 · intro args K r h
   unfold bn at h
   split at h
   · rw[P.awm] at h;exact Aa (by kernel_rfl) h
   · cases h
theorem ok:Proved Tryz.prog GLO.gx 73 spec:=ok0
end jl

namespace oo
noncomputable def D:Ctx:=({ P:=Tryz.prog,G:=[(22,jk.spec),(73,jl.spec)],globs:=GLO.gx,hints:=[],loops:=[],inl:=[] }:Ctx)
theorem loops:dn (Tryz.f36.body.getD .skip)=[]:=by kernel_rfl
noncomputable def bn:Abs.Spec:=fun args K=>match args with
 | [.agg [.v (.int .i64 b),.v (.int .i64 c),.v (.int .i64 d),.v (.int .i64 e),.v (.int .i64 f),.v (.bool a)]]=>P.oo b c d e f a (fun g=>K (.v (.int .i64 g)))
 | _=>none
noncomputable def spec:Abs.Spec:=bn
theorem ok0:Proved Tryz.prog GLO.gx 36 bn:=by
 refine bq (D:=D) (fn:=Tryz.f36) (c:=Tryz.f36.body.getD .skip) [.any] (by kernel_rfl) (bf (by kernel_rfl)) (by kernel_rfl) (by kernel_rfl) (by kernel_rfl) ⟨jk.ok,jl.ok,trivial⟩ trivial ?_ ?_
 · rw[loops];exact trivial
 · intro args K r h
   unfold bn at h
   split at h
   · rw[P.awx] at h;exact Aa (by kernel_rfl) h
   · cases h
theorem ok:Proved Tryz.prog GLO.gx 36 spec:=ok0
end oo

namespace zx
noncomputable def D:Ctx:=({ P:=Tryz.prog,G:=[(22,jk.spec),(23,pz.spec),(36,oo.spec)],globs:=GLO.gx,hints:=[],loops:=[],inl:=[] }:Ctx)
theorem loops:dn (Tryz.f14.body.getD .skip)=[]:=by kernel_rfl
noncomputable def bn:Abs.Spec:=fun args K=>match args with
 | [.agg [.v (.int .i64 b),.v (.int .i64 c),.v (.int .i64 d),.v (.int .i64 e),.v (.int .i64 f),.v (.bool a)]]=>P.zx b c d e f a (fun g h i=>K (.tuple [.v (.int .i64 g),.v (.int .i64 h),.v (.int .i64 i)]))
 | _=>none
noncomputable def spec:Abs.Spec:=bn
theorem ok0:Proved Tryz.prog GLO.gx 14 bn:=by
 refine bq (D:=D) (fn:=Tryz.f14) (c:=Tryz.f14.body.getD .skip) [.any,.any,.any] (by kernel_rfl) (bf (by kernel_rfl)) (by kernel_rfl) (by kernel_rfl) (by kernel_rfl) ⟨jk.ok,pz.ok,oo.ok,trivial⟩ trivial ?_ ?_
 · rw[loops];exact trivial
 · intro args K r h
   unfold bn at h
   split at h
   · rw[P.akn] at h;exact Aa (by kernel_rfl) h
   · cases h
theorem ok:Proved Tryz.prog GLO.gx 14 spec:=ok0
end zx

namespace adj
noncomputable def D:Ctx:=({ P:=Tryz.prog,G:=[],globs:=GLO.gx,hints:=[],loops:=[],inl:=[] }:Ctx)
theorem loops:dn (Tryz.f142.body.getD .skip)=[]:=by kernel_rfl
noncomputable def bn:Abs.Spec:=fun args K=>match args with
 | [.sl (.ints .u8 a),.v (.int .i64 b),.v (.int .i64 c)]=>P.adj a b c (fun d=>K (.v (.bool d)))
 | _=>none
noncomputable def spec:Abs.Spec:=fun args K=>bn (l8 [.sl (.ints .u8 []),.any,.any] args) K
theorem ok0:Proved Tryz.prog GLO.gx 142 bn:=by
 refine bq (D:=D) (fn:=Tryz.f142) (c:=Tryz.f142.body.getD .skip) [.any] (by kernel_rfl) (bf (by kernel_rfl)) (by kernel_rfl) (by kernel_rfl) (by kernel_rfl) trivial trivial ?_ ?_
 · rw[loops];exact trivial
 · intro args K r h
   unfold bn at h
   split at h
   · rw[P.axg] at h;exact Aa (by kernel_rfl) h
   · cases h
theorem ok:Proved Tryz.prog GLO.gx 142 spec:=dw _ ok0
end adj

namespace nu
abbrev X8:=P.b09
def S8:X8→ASt:=fun (d,e,f,g,a,b,c,h)=>⟨[(0,.sl (.ints .u8 d)),(1,.v (.int .i64 e)),(7,.own 0),(8,.v (.int .u64 f)),(9,.v (.int .i64 g)),(10,.v (.int .i64 a)),(19,.v (.int .i64 b)),(20,.v (.int .i64 c))],[(0,some ⟨.row 102 (.ints .u32 h),false⟩)],1,53⟩
def V8:ASt→Option X8
 | ⟨[(0,.sl (.ints .u8 d)),(1,.v (.int .i64 e)),(7,.own 0),(8,.v (.int .u64 f)),(9,.v (.int .i64 g)),(10,.v (.int .i64 a)),(19,.v (.int .i64 b)),(20,.v (.int .i64 c))],[(0,some ⟨.row 102 (.ints .u32 h),false⟩)],1,53⟩=>some (d,e,f,g,a,b,c,h)
 | _=>none
theorem bek(st)(x)(h:V8 st=some x):st=S8 x:=by
 unfold V8 at h
 split at h
 · cases h;rfl
 · cases h
abbrev Y8:=P.b6s
abbrev X6:=P.bxl
def S6:X6→ASt:=fun (c,d,e,f,a,b,g)=>⟨[(0,.sl (.ints .u8 c)),(1,.v (.int .i64 d)),(7,.own 0),(8,.v (.int .u64 e)),(9,.v (.int .i64 f)),(19,.v (.int .i64 a)),(20,.v (.int .i64 b))],[(0,some ⟨.row 102 (.ints .u32 g),false⟩)],1,53⟩
def V6:ASt→Option X6
 | ⟨[(0,.sl (.ints .u8 c)),(1,.v (.int .i64 d)),(7,.own 0),(8,.v (.int .u64 e)),(9,.v (.int .i64 f)),(19,.v (.int .i64 a)),(20,.v (.int .i64 b))],[(0,some ⟨.row 102 (.ints .u32 g),false⟩)],1,53⟩=>some (c,d,e,f,a,b,g)
 | _=>none
theorem bax(st)(x)(h:V6 st=some x):st=S6 x:=by
 unfold V6 at h
 split at h
 · cases h;rfl
 · cases h
abbrev Y6:=P.b56
def E8(K:AExit→ASt→Option R):Y8→Option R:=(fun x=>K (.exit 2) (S8 x))
noncomputable def L8:tq:=fun st K=>ady (V8 st) fun x=>P.b8r x (E8 K)
def E6(K:AExit→ASt→Option R):Y6→Option R:=(fun x=>K (.exit 0) (S6 x))
noncomputable def L6:tq:=fun st K=>ady (V6 st) fun x=>P.b8g x (E6 K)
noncomputable def D:Ctx:=({ P:=Tryz.prog,G:=[(142,adj.spec)],globs:=GLO.gx,hints:=[(8,⟨[0,1,7,8,9,10,19,20],[],[6],[(0,.sl (.ints .u8 []))],none,[],[],[]⟩),(6,⟨[0,1,7,8,9,19,20],[],[6],[(0,.sl (.ints .u8 []))],none,[],[],[]⟩)],loops:=[(8,L8),(6,L6)],inl:=[] }:Ctx)
theorem atq(K)(next)(x):l5 D (fq Tryz.f102 8) K next (S8 x)=P.b1t x (fun x=>next (S8 x)) (E8 K):=by kernel_rfl
theorem bej:jv D (fq Tryz.f102 8):=iy S8 bek (by kernel_rfl) P.cdp atq
theorem aos(K)(next)(x):l5 D (fq Tryz.f102 6) K next (S6 x)=P.b1i x (fun x=>next (S6 x)) (E6 K):=by kernel_rfl
theorem ba7:jv D (fq Tryz.f102 6):=iy S6 bax (by kernel_rfl) P.ccu aos
theorem loops:dn (Tryz.f102.body.getD .skip)=[fq Tryz.f102 6,fq Tryz.f102 8]:=by kernel_rfl
noncomputable def bn:Abs.Spec:=fun args K=>match args with
 | [.sl (.ints .u8 a),.v (.int .i64 b),.v (.int .i64 c)]=>P.nu a b c (fun d=>K (.fr 102 (.ints .u32 d)))
 | _=>none
noncomputable def spec:Abs.Spec:=fun args K=>bn (l8 [.sl (.ints .u8 []),.any,.any] args) K
theorem ok0:Proved Tryz.prog GLO.gx 102 bn:=by
 refine bq (D:=D) (fn:=Tryz.f102) (c:=Tryz.f102.body.getD .skip) [.fr 102 (.ints .u32 [])] (by kernel_rfl) (bf (by kernel_rfl)) (by kernel_rfl) (by kernel_rfl) (by kernel_rfl) ⟨adj.ok,trivial⟩ trivial ?_ ?_
 · rw[loops];exact ⟨ba7,bej,trivial⟩
 · intro args K r h
   unfold bn at h
   split at h
   · rw[P.arn] at h;exact Aa (by kernel_rfl) h
   · cases h
theorem ok:Proved Tryz.prog GLO.gx 102 spec:=dw _ ok0
end nu

namespace uz
abbrev X3:=P.byh
def S3:X3→ASt:=fun (a,b,c,d)=>⟨[(3,.v (.int .u64 a)),(6,.sl (.ints .u8 b)),(7,.v (.int .i64 c)),(8,.v (.int .i64 d))],[],0,19⟩
def V3:ASt→Option X3
 | ⟨[(3,.v (.int .u64 a)),(6,.sl (.ints .u8 b)),(7,.v (.int .i64 c)),(8,.v (.int .i64 d))],[],0,19⟩=>some (a,b,c,d)
 | _=>none
theorem apy(st)(x)(h:V3 st=some x):st=S3 x:=by
 unfold V3 at h
 split at h
 · cases h;rfl
 · cases h
abbrev Y3:=P.b9l
def E3(K:AExit→ASt→Option R):Y3→Option R:=(fun x=>K (.exit 0) (S3 x))
noncomputable def L3:tq:=fun st K=>ady (V3 st) fun x=>P.ca5 x (E3 K)
noncomputable def D:Ctx:=({ P:=Tryz.prog,G:=[],globs:=GLO.gx,hints:=[(3,⟨[3,6,7,8],[],[2],[],none,[],[],[]⟩)],loops:=[(3,L3)],inl:=[] }:Ctx)
theorem ahx(K)(next)(x):l5 D (fq Tryz.f100 3) K next (S3 x)=P.b2t x (fun x=>next (S3 x)) (E3 K):=by kernel_rfl
theorem apa:jv D (fq Tryz.f100 3):=iy S3 apy (by kernel_rfl) P.cd2 ahx
theorem loops:dn (Tryz.f100.body.getD .skip)=[fq Tryz.f100 3]:=by kernel_rfl
noncomputable def bn:Abs.Spec:=fun args K=>match args with
 | [.sl (.ints .u8 a)]=>P.uz a (fun b=>K (.v (.int .u64 b)))
 | _=>none
noncomputable def spec:Abs.Spec:=fun args K=>bn (l8 [.sl (.ints .u8 [])] args) K
theorem ok0:Proved Tryz.prog GLO.gx 100 bn:=by
 refine bq (D:=D) (fn:=Tryz.f100) (c:=Tryz.f100.body.getD .skip) [.any] (by kernel_rfl) (bf (by kernel_rfl)) (by kernel_rfl) (by kernel_rfl) (by kernel_rfl) trivial trivial ?_ ?_
 · rw[loops];exact ⟨apa,trivial⟩
 · intro args K r h
   unfold bn at h
   split at h
   · rw[P.ay4] at h;exact Aa (by kernel_rfl) h
   · cases h
theorem ok:Proved Tryz.prog GLO.gx 100 spec:=dw _ ok0
end uz

namespace agl
abbrev X5:=P.bx3
def S5:X5→ASt:=fun (c,a,b,d)=>⟨[(0,.v (.int .u64 c)),(5,.own 0),(16,.v (.int .i64 a)),(17,.v (.int .i64 b))],[(0,some ⟨.row 5 (.ints .u8 d),false⟩)],1,30⟩
def V5:ASt→Option X5
 | ⟨[(0,.v (.int .u64 c)),(5,.own 0),(16,.v (.int .i64 a)),(17,.v (.int .i64 b))],[(0,some ⟨.row 5 (.ints .u8 d),false⟩)],1,30⟩=>some (c,a,b,d)
 | _=>none
theorem azu(st)(x)(h:V5 st=some x):st=S5 x:=by
 unfold V5 at h
 split at h
 · cases h;rfl
 · cases h
abbrev Y5:=P.b6r
def E5(K:AExit→ASt→Option R):Y5→Option R:=(fun x=>K (.exit 0) (S5 x))
noncomputable def L5:tq:=fun st K=>ady (V5 st) fun x=>P.b8s x (E5 K)
noncomputable def D:Ctx:=({ P:=Tryz.prog,G:=[],globs:=GLO.gx,hints:=[(5,⟨[0,5,16,17],[],[4],[],none,[],[],[]⟩)],loops:=[(5,L5)],inl:=[] }:Ctx)
theorem aoz(K)(next)(x):l5 D (fq Tryz.f122 5) K next (S5 x)=P.zs12 x (fun x=>next (S5 x)) (E5 K):=by kernel_rfl
theorem bap:jv D (fq Tryz.f122 5):=iy S5 azu (by kernel_rfl) P.cco aoz
theorem loops:dn (Tryz.f122.body.getD .skip)=[fq Tryz.f122 5]:=by kernel_rfl
noncomputable def bn:Abs.Spec:=fun args K=>match args with
 | [.v (.int .u64 a),.v (.int .i64 b)]=>P.agl a b (fun c=>K (.fr 5 (.ints .u8 c)))
 | _=>none
noncomputable def spec:Abs.Spec:=bn
theorem ok0:Proved Tryz.prog GLO.gx 122 bn:=by
 refine bq (D:=D) (fn:=Tryz.f122) (c:=Tryz.f122.body.getD .skip) [.fr 5 (.ints .u8 [])] (by kernel_rfl) (bf (by kernel_rfl)) (by kernel_rfl) (by kernel_rfl) (by kernel_rfl) trivial trivial ?_ ?_
 · rw[loops];exact ⟨bap,trivial⟩
 · intro args K r h
   unfold bn at h
   split at h
   · rw[P.bdi] at h;exact Aa (by kernel_rfl) h
   · cases h
theorem ok:Proved Tryz.prog GLO.gx 122 spec:=ok0
end agl

namespace wu
abbrev cd7:=P.by6
def bx8:cd7→ASt:=fun (a,b,c)=>⟨[(0,.own 0),(2,.v (.int .i64 a)),(3,.v (.int .i64 b))],[(0,some ⟨.row 5 (.ints .u8 c),false⟩)],1,28⟩
def b6u:ASt→Option cd7
 | ⟨[(0,.own 0),(2,.v (.int .i64 a)),(3,.v (.int .i64 b))],[(0,some ⟨.row 5 (.ints .u8 c),false⟩)],1,28⟩=>some (a,b,c)
 | _=>none
theorem bvc(st)(x)(h:b6u st=some x):st=bx8 x:=by
 unfold b6u at h
 split at h
 · cases h;rfl
 · cases h
abbrev Y1_1:=P.b5l
def cd3(K:AExit→ASt→Option R):Y1_1→Option R:=(fun x=>K (.exit 0) (bx8 x))
noncomputable def L1_1:tq:=fun st K=>ady (b6u st) fun x=>P.cbd x (cd3 K)
noncomputable def D1:Ctx:=({ P:=Tryz.prog,G:=[(122,agl.spec)],globs:=GLO.gx,hints:=[(1,⟨[0,2,3],[],[],[],none,[],[],[]⟩)],loops:=[(1,L1_1)],inl:=[] }:Ctx)
noncomputable def D:Ctx:=({ P:=Tryz.prog,G:=[(122,agl.spec)],globs:=GLO.gx,hints:=[],loops:=[],inl:=[(123,ain D1 Tryz.f123)] }:Ctx)
theorem bq1(K)(next)(x):l5 D1 (fq Tryz.f123 1) K next (bx8 x)=P.byk x (fun x=>next (bx8 x)) (cd3 K):=by kernel_rfl
theorem bwq:jv D1 (fq Tryz.f123 1):=iy bx8 bvc (by kernel_rfl) P.ccq bq1
theorem loops:dn (Tryz.f75.body.getD .skip)=[]:=by kernel_rfl
theorem ap4:dn (Tryz.f123.body.getD .skip)=[fq Tryz.f123 1]:=by kernel_rfl
noncomputable def bn:Abs.Spec:=fun args K=>match args with
 | [.v (.int .u64 a),.v (.int .i64 b)]=>P.wu a b (fun c=>K (.fr 5 (.ints .u8 c)))
 | _=>none
noncomputable def spec:Abs.Spec:=bn
theorem ok0:Proved Tryz.prog GLO.gx 75 bn:=by
 refine bq (D:=D) (fn:=Tryz.f75) (c:=Tryz.f75.body.getD .skip) [.fr 5 (.ints .u8 [])] (by kernel_rfl) (bf (by kernel_rfl)) (by kernel_rfl) (by kernel_rfl) (by kernel_rfl) ⟨agl.ok,trivial⟩ ⟨auq (D:=D1) (D':=D) (fn:=Tryz.f123) (c:=Tryz.f123.body.getD .skip) rfl rfl (by kernel_rfl) (bf (by kernel_rfl)) (by kernel_rfl) (by kernel_rfl) (by kernel_rfl) ⟨agl.ok,trivial⟩ trivial (by rw[ap4];exact ⟨bwq,trivial⟩) (fun _ _ _ _ _ h=>h),trivial⟩ ?_ ?_
 · rw[loops];exact trivial
 · intro args K r h
   unfold bn at h
   split at h
   · rw[P.bco] at h;exact Aa (by kernel_rfl) h
   · cases h
theorem ok:Proved Tryz.prog GLO.gx 75 spec:=ok0
end wu

namespace qo
noncomputable def D:Ctx:=({ P:=Tryz.prog,G:=[],globs:=GLO.gx,hints:=[],loops:=[],inl:=[] }:Ctx)
theorem loops:dn (Tryz.f124.body.getD .skip)=[]:=by kernel_rfl
noncomputable def bn:Abs.Spec:=fun args K=>match args with
 | [.v (.slice none 0 0),.v (.int .i64 a)]=>P.qo a (fun b=>K (.fr 5 (.ints .u8 b)))
 | _=>none
noncomputable def spec:Abs.Spec:=bn
theorem ok0:Proved Tryz.prog GLO.gx 124 bn:=by
 refine av0 (D:=D) (fn:=Tryz.f124) (c:=Tryz.f124.body.getD .skip) 5 (.ints .u8 []) (by kernel_rfl) (bf (by kernel_rfl)) (by kernel_rfl) (by kernel_rfl) (by kernel_rfl) trivial trivial ?_ ?_
 · rw[loops];exact trivial
 · intro args K r h
   unfold bn at h
   split at h
   · rw[P.ajg] at h;exact Aa (by kernel_rfl) h
   · cases h
theorem ok:Proved Tryz.prog GLO.gx 124 spec:=ok0
end qo

namespace jr
abbrev X3:=P.zt1
def S3:X3→ASt:=fun (c,d,e,a,b)=>⟨[(0,.sl (.rows .u8 c)),(3,.v (.int .i64 d)),(9,.sl (.rows .u8 e)),(10,.v (.int .i64 a)),(11,.v (.int .i64 b))],[],0,36⟩
def V3:ASt→Option X3
 | ⟨[(0,.sl (.rows .u8 c)),(3,.v (.int .i64 d)),(9,.sl (.rows .u8 e)),(10,.v (.int .i64 a)),(11,.v (.int .i64 b))],[],0,36⟩=>some (c,d,e,a,b)
 | _=>none
theorem apy(st)(x)(h:V3 st=some x):st=S3 x:=by
 unfold V3 at h
 split at h
 · cases h;rfl
 · cases h
abbrev Y3:=P.zy1
abbrev X11:=P.zt2
def S11:X11→ASt:=fun (a,b,c,d)=>⟨[(6,.own 1),(25,.sl (.rows .u8 a)),(26,.v (.int .i64 b)),(27,.v (.int .i64 c))],[(1,some ⟨.row 5 (.ints .u8 d),false⟩),(0,none)],2,36⟩
def V11:ASt→Option X11
 | ⟨[(6,.own 1),(25,.sl (.rows .u8 a)),(26,.v (.int .i64 b)),(27,.v (.int .i64 c))],[(1,some ⟨.row 5 (.ints .u8 d),false⟩),(0,none)],2,36⟩=>some (a,b,c,d)
 | _=>none
theorem bqr(st)(x)(h:V11 st=some x):st=S11 x:=by
 unfold V11 at h
 split at h
 · cases h;rfl
 · cases h
abbrev Y11:=P.zy2
def E3(K:AExit→ASt→Option R):Y3→Option R:=(fun x=>K (.exit 0) (S3 x))
noncomputable def L3:tq:=fun st K=>ady (V3 st) fun x=>P.zm1 x (E3 K)
def E11(K:AExit→ASt→Option R):Y11→Option R:=(fun x=>K (.exit 2) (S11 x))
noncomputable def L11:tq:=fun st K=>ady (V11 st) fun x=>P.zm2 x (E11 K)
noncomputable def D:Ctx:=({ P:=Tryz.prog,G:=[(124,qo.spec)],globs:=GLO.gx,hints:=[(11,⟨[25,26,27],[(6,5,.ints .u8 [])],[2],[],none,[],[],[]⟩),(3,⟨[0,3,9,10,11],[],[2],[],none,[],[],[]⟩)],loops:=[(3,L3),(11,L11)],inl:=[] }:Ctx)
theorem ahx(K)(next)(x):l5 D (fq Tryz.f76 3) K next (S3 x)=P.zs1 x (fun x=>next (S3 x)) (E3 K):=by kernel_rfl
theorem apa:jv D (fq Tryz.f76 3):=iy S3 apy (by kernel_rfl) P.ze1 ahx
theorem bj0(K)(next)(x):l5 D (fq Tryz.f76 11) K next (S11 x)=P.zs2 x (fun x=>next (S11 x)) (E11 K):=by kernel_rfl
theorem bqa:jv D (fq Tryz.f76 11):=iy S11 bqr (by kernel_rfl) P.ze2 bj0
theorem loops:dn (Tryz.f76.body.getD .skip)=[fq Tryz.f76 3,fq Tryz.f76 11]:=by kernel_rfl
noncomputable def bn:Abs.Spec:=fun args K=>match args with
 | [.sl (.rows .u8 a)]=>P.jr a (fun b=>K (.fr 5 (.ints .u8 b)))
 | _=>none
noncomputable def spec:Abs.Spec:=fun args K=>bn (l8 [.sl (.rows .u8 [])] args) K
theorem ok0:Proved Tryz.prog GLO.gx 76 bn:=by
 refine bq (D:=D) (fn:=Tryz.f76) (c:=Tryz.f76.body.getD .skip) [.fr 5 (.ints .u8 [])] (by kernel_rfl) (bf (by kernel_rfl)) (by kernel_rfl) (by kernel_rfl) (by kernel_rfl) ⟨qo.ok,trivial⟩ trivial ?_ ?_
 · rw[loops];exact ⟨apa,bqa,trivial⟩
 · intro args K r h
   unfold bn at h
   split at h
   · rw[P.ahh] at h;exact Aa (by kernel_rfl) h
   · cases h
theorem ok:Proved Tryz.prog GLO.gx 76 spec:=dw _ ok0
end jr

namespace jc
noncomputable def D:Ctx:=({ P:=Tryz.prog,G:=[(76,jr.spec)],globs:=GLO.gx,hints:=[],loops:=[],inl:=[] }:Ctx)
theorem loops:dn (Tryz.f40.body.getD .skip)=[]:=by kernel_rfl
noncomputable def bn:Abs.Spec:=fun args K=>match args with
 | [.sl (.rows .u8 a)]=>P.jc a (fun b=>K (.fr 5 (.ints .u8 b)))
 | _=>none
noncomputable def spec:Abs.Spec:=fun args K=>bn (l8 [.sl (.rows .u8 [])] args) K
theorem ok0:Proved Tryz.prog GLO.gx 40 bn:=by
 refine bq (D:=D) (fn:=Tryz.f40) (c:=Tryz.f40.body.getD .skip) [.fr 5 (.ints .u8 [])] (by kernel_rfl) (bf (by kernel_rfl)) (by kernel_rfl) (by kernel_rfl) (by kernel_rfl) ⟨jr.ok,trivial⟩ trivial ?_ ?_
 · rw[loops];exact trivial
 · intro args K r h
   unfold bn at h
   split at h
   · rw[P.axj] at h;exact Aa (by kernel_rfl) h
   · cases h
theorem ok:Proved Tryz.prog GLO.gx 40 spec:=dw _ ok0
end jc

namespace gy
noncomputable def D:Ctx:=({ P:=Tryz.prog,G:=[(40,jc.spec),(75,wu.spec)],globs:=GLO.gx,hints:=[],loops:=[],inl:=[] }:Ctx)
theorem loops:dn (Tryz.f39.body.getD .skip)=[]:=by kernel_rfl
noncomputable def bn:Abs.Spec:=fun args K=>match args with
 | [.arr .u8 32 a,.v (.int .i64 b),.v (.int .u64 c)]=>P.gy a b c (fun d=>K (.arr .u8 32 d))
 | _=>none
noncomputable def spec:Abs.Spec:=bn
theorem ok0:Proved Tryz.prog GLO.gx 39 bn:=by
 refine bq (D:=D) (fn:=Tryz.f39) (c:=Tryz.f39.body.getD .skip) [.any] (by kernel_rfl) (bf (by kernel_rfl)) (by kernel_rfl) (by kernel_rfl) (by kernel_rfl) ⟨jc.ok,wu.ok,trivial⟩ trivial ?_ ?_
 · rw[loops];exact trivial
 · intro args K r h
   unfold bn at h
   split at h
   · rw[P.az6] at h;exact Aa (by kernel_rfl) h
   · cases h
theorem ok:Proved Tryz.prog GLO.gx 39 spec:=ok0
end gy

namespace p8
noncomputable def D:Ctx:=({ P:=Tryz.prog,G:=[(39,gy.spec),(100,uz.spec)],globs:=GLO.gx,hints:=[],loops:=[],inl:=[] }:Ctx)
theorem loops:dn (Tryz.f105.body.getD .skip)=[]:=by kernel_rfl
noncomputable def bn:Abs.Spec:=fun args K=>match args with
 | [.agg [.v (.int .i64 c),.v (.int .i64 d),.v (.int .i64 e),.v (.int .i64 f),.v (.int .i64 g),.v (.bool a),.sl (.ints .u8 b),.sl (.ints .u8 h),.arr .u8 32 i],.v (.int .u64 j)]=>P.p8 c d e f g a b h i j (fun k=>K (.arr .u8 32 k))
 | _=>none
noncomputable def spec:Abs.Spec:=fun args K=>bn (l8 [.agg [.any,.any,.any,.any,.any,.any,.sl (.ints .u8 []),.sl (.ints .u8 []),.any],.any] args) K
theorem ok0:Proved Tryz.prog GLO.gx 105 bn:=by
 refine bq (D:=D) (fn:=Tryz.f105) (c:=Tryz.f105.body.getD .skip) [.any] (by kernel_rfl) (bf (by kernel_rfl)) (by kernel_rfl) (by kernel_rfl) (by kernel_rfl) ⟨gy.ok,uz.ok,trivial⟩ trivial ?_ ?_
 · rw[loops];exact trivial
 · intro args K r h
   unfold bn at h
   split at h
   · rw[P.anv] at h;exact Aa (by kernel_rfl) h
   · cases h
theorem ok:Proved Tryz.prog GLO.gx 105 spec:=dw _ ok0
end p8

namespace qj
noncomputable def D:Ctx:=({ P:=Tryz.prog,G:=[],globs:=GLO.gx,hints:=[],loops:=[],inl:=[] }:Ctx)
theorem loops:dn (Tryz.f197.body.getD .skip)=[]:=by kernel_rfl
noncomputable def bn:Abs.Spec:=fun args K=>match args with
 | [.v (.int .i64 a)]=>P.qj a (fun b=>K (.v (.int .u64 b)))
 | _=>none
noncomputable def spec:Abs.Spec:=bn
theorem ok0:Proved Tryz.prog GLO.gx 197 bn:=by
 refine bq (D:=D) (fn:=Tryz.f197) (c:=Tryz.f197.body.getD .skip) [.any] (by kernel_rfl) (bf (by kernel_rfl)) (by kernel_rfl) (by kernel_rfl) (by kernel_rfl) trivial trivial ?_ ?_
 · rw[loops];exact trivial
 · intro args K r h
   unfold bn at h
   split at h
   · rw[P.aqu] at h;exact Aa (by kernel_rfl) h
   · cases h
theorem ok:Proved Tryz.prog GLO.gx 197 spec:=ok0
end qj

namespace ade
noncomputable def D:Ctx:=({ P:=Tryz.prog,G:=[(197,qj.spec)],globs:=GLO.gx,hints:=[],loops:=[],inl:=[] }:Ctx)
theorem loops:dn (Tryz.f184.body.getD .skip)=[]:=by kernel_rfl
noncomputable def bn:Abs.Spec:=fun args K=>match args with
 | []=>P.ade (fun f e a b c d=>K (.agg [.v (.int .i64 f),.v (.int .i64 e),.arr .i64 3 a,.arr .i64 3 b,.arr .i64 3 c,.arr .i64 3 d,.fn (.func 197) [] []]))
 | _=>none
noncomputable def spec:Abs.Spec:=bn
theorem ok0:Proved Tryz.prog GLO.gx 184 bn:=by
 refine bq (D:=D) (fn:=Tryz.f184) (c:=Tryz.f184.body.getD .skip) [.any] (by kernel_rfl) (bf (by kernel_rfl)) (by kernel_rfl) (by kernel_rfl) (by kernel_rfl) ⟨qj.ok,trivial⟩ trivial ?_ ?_
 · rw[loops];exact trivial
 · intro args K r h
   unfold bn at h
   split at h
   · rw[P.axc] at h;exact Aa (by kernel_rfl) h
   · cases h
theorem ok:Proved Tryz.prog GLO.gx 184 spec:=ok0
end ade

namespace qh
noncomputable def D:Ctx:=({ P:=Tryz.prog,G:=[],globs:=GLO.gx,hints:=[],loops:=[],inl:=[] }:Ctx)
theorem loops:dn (Tryz.f195.body.getD .skip)=[]:=by kernel_rfl
noncomputable def bn:Abs.Spec:=fun args K=>match args with
 | [.v (.int .i64 a)]=>P.qh a (fun b=>K (.v (.int .u32 b)))
 | _=>none
noncomputable def spec:Abs.Spec:=bn
theorem ok0:Proved Tryz.prog GLO.gx 195 bn:=by
 refine bq (D:=D) (fn:=Tryz.f195) (c:=Tryz.f195.body.getD .skip) [.any] (by kernel_rfl) (bf (by kernel_rfl)) (by kernel_rfl) (by kernel_rfl) (by kernel_rfl) trivial trivial ?_ ?_
 · rw[loops];exact trivial
 · intro args K r h
   unfold bn at h
   split at h
   · rw[P.aqt] at h;exact Aa (by kernel_rfl) h
   · cases h
theorem ok:Proved Tryz.prog GLO.gx 195 spec:=ok0
end qh

end
