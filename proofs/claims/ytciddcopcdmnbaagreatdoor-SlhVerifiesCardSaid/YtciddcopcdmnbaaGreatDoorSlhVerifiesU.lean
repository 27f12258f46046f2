/-
  SlhVerifies, part 21: an interpreter of my own over abstract values, the pure functions, the walks and the plain law.
-/

import Derived.Test.YtciddcopcdmnbaaGreatDoorSlhVerifiesI
import Derived.Test.YtciddcopcdmnbaaGreatDoorSlhVerifiesH
import Derived.Test.YtciddcopcdmnbaaGreatDoorProg
import Derived.Test.YtciddcopcdmnbaaGreatDoorSlhVerifiesJ
import Derived.KernelRfl
import Derived.Test.YtciddcopcdmnbaaGreatDoorSlhVerifiesM
import Derived.Test.YtciddcopcdmnbaaGreatDoorSlhVerifiesL
open Eq renaming trans → Aa

section
open Go Go.Abs Go.Proofs
set_option maxRecDepth 100000
set_option maxHeartbeats 0
set_option linter.unusedVariables false

namespace ak4
noncomputable def D:Ctx:=({ P:=Tryz.prog,G:=[],globs:=GLO.gx,hints:=[],loops:=[],inl:=[] }:Ctx)
theorem loops:dn (Tryz.f7.body.getD .skip)=[]:=by kernel_rfl
noncomputable def bn:Abs.Spec:=fun args K=>match args with
 | [.v (.int .i64 g)]=>P.ak4 g (fun b c d e f a h=>K (.tuple [.agg [.v (.int .i64 b),.v (.int .i64 c),.v (.int .i64 d),.v (.int .i64 e),.v (.int .i64 f),.v (.bool a)],.v (.bool h)]))
 | _=>none
noncomputable def spec:Abs.Spec:=bn
theorem ok0:Proved Tryz.prog GLO.gx 7 bn:=by
 refine bq (D:=D) (fn:=Tryz.f7) (c:=Tryz.f7.body.getD .skip) [.any,.any] (by kernel_rfl) (bg (by kernel_rfl)) (by kernel_rfl) (by kernel_rfl) (by kernel_rfl) trivial trivial ?_ ?_
 · rw[loops];exact trivial
 · intro args K r h
   unfold bn at h
   split at h
   · rw[P.axd] at h;exact Aa (by kernel_rfl) h
   · cases h
theorem ok:Proved Tryz.prog GLO.gx 7 spec:=ok0
end ak4

namespace agt
abbrev X4:=P.b7m
def S4:X4→ASt:=fun (a,b,c)=>⟨[(0,.sl (.ints .u8 a)),(1,.sl (.ints .u8 b)),(5,.v (.int .i64 c))],[],0,26⟩
def V4:ASt→Option X4
 | ⟨[(0,.sl (.ints .u8 a)),(1,.sl (.ints .u8 b)),(5,.v (.int .i64 c))],[],0,26⟩=>some (a,b,c)
 | _=>none
theorem auk(st)(x)(h:V4 st=some x):st=S4 x:=by
 unfold V4 at h
 split at h
 · cases h;rfl
 · cases h
abbrev Y4:=P.cds
def E4(K:AExit→ASt→Option R):Y4→Option R:=(Sum.elim (fun x=>K (.exit 0) (S4 x)) (fun a=>K .ret ⟨[(4,.v (.bool a))],[],0,26⟩))
noncomputable def L4:qy:=fun st K=>adb (V4 st) fun x=>P.cb0 x (E4 K)
noncomputable def D:Ctx:=({ P:=Tryz.prog,G:=[],globs:=GLO.gx,hints:=[(4,⟨[0,1,5],[],[4],[],none,[],[],[]⟩)],loops:=[(4,L4)],inl:=[] }:Ctx)
theorem aj1(K)(next)(x):kg D (gq Tryz.f18 4) K next (S4 x)=P.b2k x (fun x=>next (S4 x)) (E4 K):=by kernel_rfl
theorem auy:jr D (gq Tryz.f18 4):=iy S4 auk (by kernel_rfl) P.chs aj1
theorem loops:dn (Tryz.f18.body.getD .skip)=[gq Tryz.f18 4]:=by kernel_rfl
noncomputable def bn:Abs.Spec:=fun args K=>match args with
 | [.sl (.ints .u8 a),.sl (.ints .u8 b)]=>P.agt a b (fun c=>K (.v (.bool c)))
 | _=>none
noncomputable def spec:Abs.Spec:=fun args K=>bn (mh [.sl (.ints .u8 []),.sl (.ints .u8 [])] args) K
theorem ok0:Proved Tryz.prog GLO.gx 18 bn:=by
 refine bq (D:=D) (fn:=Tryz.f18) (c:=Tryz.f18.body.getD .skip) [.any] (by kernel_rfl) (bg (by kernel_rfl)) (by kernel_rfl) (by kernel_rfl) (by kernel_rfl) trivial trivial ?_ ?_
 · rw[loops];exact ⟨auy,trivial⟩
 · intro args K r h
   unfold bn at h
   split at h
   · rw[P.bck] at h;exact Aa (by kernel_rfl) h
   · cases h
theorem ok:Proved Tryz.prog GLO.gx 18 spec:=dx _ ok0
end agt

namespace wz
abbrev X5:=P.b3l
def S5:X5→ASt:=fun (a,b,c)=>⟨[(0,.v (.int .u64 a)),(5,.own 0),(6,.v (.int .i64 b))],[(0,some ⟨.row 5 (.ints .u8 c),false⟩)],1,30⟩
def V5:ASt→Option X5
 | ⟨[(0,.v (.int .u64 a)),(5,.own 0),(6,.v (.int .i64 b))],[(0,some ⟨.row 5 (.ints .u8 c),false⟩)],1,30⟩=>some (a,b,c)
 | _=>none
theorem bbx(st)(x)(h:V5 st=some x):st=S5 x:=by
 unfold V5 at h
 split at h
 · cases h;rfl
 · cases h
abbrev Y5:=P.b8b
def E5(K:AExit→ASt→Option R):Y5→Option R:=(fun x=>K (.exit 0) (S5 x))
noncomputable def L5:qy:=fun st K=>adb (V5 st) fun x=>P.cfs x (E5 K)
noncomputable def D:Ctx:=({ P:=Tryz.prog,G:=[],globs:=GLO.gx,hints:=[(5,⟨[0,5,6],[],[4],[],none,[],[],[]⟩)],loops:=[(5,L5)],inl:=[] }:Ctx)
theorem aqv(K)(next)(x):kg D (gq Tryz.f81 5) K next (S5 x)=P.b0r x (fun x=>next (S5 x)) (E5 K):=by kernel_rfl
theorem bcw:jr D (gq Tryz.f81 5):=iy S5 bbx (by kernel_rfl) P.cic aqv
theorem loops:dn (Tryz.f81.body.getD .skip)=[gq Tryz.f81 5]:=by kernel_rfl
noncomputable def bn:Abs.Spec:=fun args K=>match args with
 | [.v (.int .u64 a),.v (.int .i64 b)]=>P.wz a b (fun c=>K (.fr 5 (.ints .u8 c)))
 | _=>none
noncomputable def spec:Abs.Spec:=bn
theorem ok0:Proved Tryz.prog GLO.gx 81 bn:=by
 refine bq (D:=D) (fn:=Tryz.f81) (c:=Tryz.f81.body.getD .skip) [.fr 5 (.ints .u8 [])] (by kernel_rfl) (bg (by kernel_rfl)) (by kernel_rfl) (by kernel_rfl) (by kernel_rfl) trivial trivial ?_ ?_
 · rw[loops];exact ⟨bcw,trivial⟩
 · intro args K r h
   unfold bn at h
   split at h
   · rw[P.bkm] at h;exact Aa (by kernel_rfl) h
   · cases h
theorem ok:Proved Tryz.prog GLO.gx 81 spec:=ok0
end wz

namespace ag1
noncomputable def D:Ctx:=({ P:=Tryz.prog,G:=[],globs:=GLO.gx,hints:=[],loops:=[],inl:=[] }:Ctx)
theorem loops:dn (Tryz.f117.body.getD .skip)=[]:=by kernel_rfl
noncomputable def bn:Abs.Spec:=fun args K=>match args with
 | [.sl (.ints .u8 a),.v (.int .i64 b),.v (.int .i64 c)]=>P.ag1 a b c (fun d=>K (.v (.bool d)))
 | _=>none
noncomputable def spec:Abs.Spec:=fun args K=>bn (mh [.sl (.ints .u8 []),.any,.any] args) K
theorem ok0:Proved Tryz.prog GLO.gx 117 bn:=by
 refine bq (D:=D) (fn:=Tryz.f117) (c:=Tryz.f117.body.getD .skip) [.any] (by kernel_rfl) (bg (by kernel_rfl)) (by kernel_rfl) (by kernel_rfl) (by kernel_rfl) trivial trivial ?_ ?_
 · rw[loops];exact trivial
 · intro args K r h
   unfold bn at h
   split at h
   · rw[P.bcx] at h;exact Aa (by kernel_rfl) h
   · cases h
theorem ok:Proved Tryz.prog GLO.gx 117 spec:=dx _ ok0
end ag1

namespace qd
abbrev X9:=P.b0l
def S9:X9→ASt:=fun (b,c,d,e,f,a,g)=>⟨[(0,.sl (.ints .u8 b)),(1,.v (.int .i64 c)),(2,.v (.int .i64 d)),(7,.own 0),(8,.v (.int .i64 e)),(9,.v (.int .u32 f)),(10,.v (.int .i64 a))],[(0,some ⟨.row 102 (.ints .u32 g),false⟩)],1,51⟩
def V9:ASt→Option X9
 | ⟨[(0,.sl (.ints .u8 b)),(1,.v (.int .i64 c)),(2,.v (.int .i64 d)),(7,.own 0),(8,.v (.int .i64 e)),(9,.v (.int .u32 f)),(10,.v (.int .i64 a))],[(0,some ⟨.row 102 (.ints .u32 g),false⟩)],1,51⟩=>some (b,c,d,e,f,a,g)
 | _=>none
theorem ce0(st)(x)(h:V9 st=some x):st=S9 x:=by
 unfold V9 at h
 split at h
 · cases h;rfl
 · cases h
abbrev Y9:=P.b98
abbrev X5:=P.b2n
def S5:X5→ASt:=fun (a,b,c,d,e)=>⟨[(7,.own 0),(0,.sl (.ints .u8 a)),(1,.v (.int .i64 b)),(2,.v (.int .i64 c)),(8,.v (.int .i64 d))],[(0,some ⟨.row 102 (.ints .u32 e),false⟩)],1,51⟩
def V5:ASt→Option X5
 | ⟨[(7,.own 0),(0,.sl (.ints .u8 a)),(1,.v (.int .i64 b)),(2,.v (.int .i64 c)),(8,.v (.int .i64 d))],[(0,some ⟨.row 102 (.ints .u32 e),false⟩)],1,51⟩=>some (a,b,c,d,e)
 | _=>none
theorem bbx(st)(x)(h:V5 st=some x):st=S5 x:=by
 unfold V5 at h
 split at h
 · cases h;rfl
 · cases h
abbrev Y5:=P.b9y
def E9(K:AExit→ASt→Option R):Y9→Option R:=(fun x=>K (.exit 2) (S9 x))
noncomputable def L9:qy:=fun st K=>adb (V9 st) fun x=>P.cdl x (E9 K)
def E5(K:AExit→ASt→Option R):Y5→Option R:=(fun x=>K (.exit 0) (S5 x))
noncomputable def L5:qy:=fun st K=>adb (V5 st) fun x=>P.b9m x (E5 K)
noncomputable def D:Ctx:=({ P:=Tryz.prog,G:=[(117,ag1.spec)],globs:=GLO.gx,hints:=[(9,⟨[0,1,2,7,8,9,10],[],[6],[],none,[],[],[]⟩),(5,⟨[0,1,2,8],[(7,102,.ints .u32 [])],[6],[],none,[],[],[]⟩)],loops:=[(9,L9),(5,L5)],inl:=[] }:Ctx)
theorem b1k(K)(next)(x):kg D (gq Tryz.f66 9) K next (S9 x)=P.b5b x (fun x=>next (S9 x)) (E9 K):=by kernel_rfl
theorem cac:jr D (gq Tryz.f66 9):=iy S9 ce0 (by kernel_rfl) P.cgp b1k
theorem aqv(K)(next)(x):kg D (gq Tryz.f66 5) K next (S5 x)=P.b5c x (fun x=>next (S5 x)) (E5 K):=by kernel_rfl
theorem bcw:jr D (gq Tryz.f66 5):=iy S5 bbx (by kernel_rfl) P.cif aqv
theorem loops:dn (Tryz.f66.body.getD .skip)=[gq Tryz.f66 5,gq Tryz.f66 9]:=by kernel_rfl
noncomputable def bn:Abs.Spec:=fun args K=>match args with
 | [.sl (.ints .u8 a),.v (.int .i64 b),.v (.int .i64 c)]=>P.qd a b c (fun d=>K (.fr 102 (.ints .u32 d)))
 | _=>none
noncomputable def spec:Abs.Spec:=fun args K=>bn (mh [.sl (.ints .u8 []),.any,.any] args) K
theorem ok0:Proved Tryz.prog GLO.gx 66 bn:=by
 refine bq (D:=D) (fn:=Tryz.f66) (c:=Tryz.f66.body.getD .skip) [.fr 102 (.ints .u32 [])] (by kernel_rfl) (bg (by kernel_rfl)) (by kernel_rfl) (by kernel_rfl) (by kernel_rfl) ⟨ag1.ok,trivial⟩ trivial ?_ ?_
 · rw[loops];exact ⟨bcw,cac,trivial⟩
 · intro args K r h
   unfold bn at h
   split at h
   · rw[P.avc] at h;exact Aa (by kernel_rfl) h
   · cases h
theorem ok:Proved Tryz.prog GLO.gx 66 spec:=dx _ ok0
end qd

namespace ab0
abbrev X6:=P.b5r
def S6:X6→ASt:=fun (a,b,c)=>⟨[(5,.own 0),(6,.v (.int .u64 a)),(7,.v (.int .i64 b))],[(0,some ⟨.row 102 (.ints .u32 c),false⟩)],1,48⟩
def V6:ASt→Option X6
 | ⟨[(5,.own 0),(6,.v (.int .u64 a)),(7,.v (.int .i64 b))],[(0,some ⟨.row 102 (.ints .u32 c),false⟩)],1,48⟩=>some (a,b,c)
 | _=>none
theorem aua(st)(x)(h:V6 st=some x):st=S6 x:=by
 unfold V6 at h
 split at h
 · cases h;rfl
 · cases h
abbrev Y6:=P.b8z
def E6(K:AExit→ASt→Option R):Y6→Option R:=(fun x=>K (.exit 0) (S6 x))
noncomputable def L6:qy:=fun st K=>adb (V6 st) fun x=>P.cdd x (E6 K)
noncomputable def D:Ctx:=({ P:=Tryz.prog,G:=[(66,qd.spec),(81,wz.spec)],globs:=GLO.gx,hints:=[(6,⟨[5,6,7],[],[4],[],none,[],[],[]⟩)],loops:=[(6,L6)],inl:=[] }:Ctx)
theorem akj(K)(next)(x):kg D (gq Tryz.f155 6) K next (S6 x)=P.b3b x (fun x=>next (S6 x)) (E6 K):=by kernel_rfl
theorem au4:jr D (gq Tryz.f155 6):=iy S6 aua (by kernel_rfl) P.ch9 akj
theorem loops:dn (Tryz.f155.body.getD .skip)=[gq Tryz.f155 6]:=by kernel_rfl
noncomputable def bn:Abs.Spec:=fun args K=>match args with
 | [.v (.int .i64 a),.sl (.ints .u8 b)]=>P.ab0 a b (fun c=>K (.fr 102 (.ints .u32 c)))
 | _=>none
noncomputable def spec:Abs.Spec:=fun args K=>bn (mh [.any,.sl (.ints .u8 [])] args) K
theorem ok0:Proved Tryz.prog GLO.gx 155 bn:=by
 refine bq (D:=D) (fn:=Tryz.f155) (c:=Tryz.f155.body.getD .skip) [.fr 102 (.ints .u32 [])] (by kernel_rfl) (bg (by kernel_rfl)) (by kernel_rfl) (by kernel_rfl) (by kernel_rfl) ⟨qd.ok,wz.ok,trivial⟩ trivial ?_ ?_
 · rw[loops];exact ⟨au4,trivial⟩
 · intro args K r h
   unfold bn at h
   split at h
   · rw[P.aww] at h;exact Aa (by kernel_rfl) h
   · cases h
theorem ok:Proved Tryz.prog GLO.gx 155 spec:=dx _ ok0
end ab0

namespace abh
abbrev X2:=P.b2q
def S2:X2→ASt:=fun (c,d,e,a,b)=>⟨[(1,.v (.int .i64 c)),(2,.sl (.ints .u8 d)),(3,.ptr 0 0),(6,.ptr 1 0),(7,.v (.int .i64 e))],[(0,some ⟨.box 64 [.arr .u8 32 a],false⟩),(1,some ⟨.box 64 [.arr .u8 32 b],false⟩)],2,23⟩
def V2:ASt→Option X2
 | ⟨[(1,.v (.int .i64 c)),(2,.sl (.ints .u8 d)),(3,.ptr 0 0),(6,.ptr 1 0),(7,.v (.int .i64 e))],[(0,some ⟨.box 64 [.arr .u8 32 a],false⟩),(1,some ⟨.box 64 [.arr .u8 32 b],false⟩)],2,23⟩=>some (c,d,e,a,b)
 | _=>none
theorem bcl(st)(x)(h:V2 st=some x):st=S2 x:=by
 unfold V2 at h
 split at h
 · cases h;rfl
 · cases h
abbrev Y2:=P.cgf
def E2(K:AExit→ASt→Option R):Y2→Option R:=(fun x=>K (.exit 0) (S2 x))
noncomputable def L2:qy:=fun st K=>adb (V2 st) fun x=>P.cfq x (E2 K)
noncomputable def D:Ctx:=({ P:=Tryz.prog,G:=[],globs:=GLO.gx,hints:=[(2,⟨[1,2,3,6,7],[],[6],[],none,[],[],[]⟩)],loops:=[(2,L2)],inl:=[] }:Ctx)
theorem arj(K)(next)(x):kg D (gq Tryz.f80 2) K next (S2 x)=P.b0g x (fun x=>next (S2 x)) (E2 K):=by kernel_rfl
theorem bdd:jr D (gq Tryz.f80 2):=iy S2 bcl (by kernel_rfl) P.ch2 arj
theorem loops:dn (Tryz.f80.body.getD .skip)=[gq Tryz.f80 2]:=by kernel_rfl
noncomputable def bn:Abs.Spec:=fun args K=>match args with
 | [.arr .u8 32 a,.v (.int .i64 b),.sl (.ints .u8 c)]=>P.abh a b c (fun d=>K (.arr .u8 32 d))
 | _=>none
noncomputable def spec:Abs.Spec:=fun args K=>bn (mh [.any,.any,.sl (.ints .u8 [])] args) K
theorem ok0:Proved Tryz.prog GLO.gx 80 bn:=by
 refine bq (D:=D) (fn:=Tryz.f80) (c:=Tryz.f80.body.getD .skip) [.any] (by kernel_rfl) (bg (by kernel_rfl)) (by kernel_rfl) (by kernel_rfl) (by kernel_rfl) trivial trivial ?_ ?_
 · rw[loops];exact ⟨bdd,trivial⟩
 · intro args K r h
   unfold bn at h
   split at h
   · rw[P.bfl] at h;exact Aa (by kernel_rfl) h
   · cases h
theorem ok:Proved Tryz.prog GLO.gx 80 spec:=dx _ ok0
end abh

namespace jg
noncomputable def D:Ctx:=({ P:=Tryz.prog,G:=[(80,abh.spec),(81,wz.spec)],globs:=GLO.gx,hints:=[],loops:=[],inl:=[] }:Ctx)
theorem loops:dn (Tryz.f42.body.getD .skip)=[]:=by kernel_rfl
noncomputable def bn:Abs.Spec:=fun args K=>match args with
 | [.arr .u8 32 a,.v (.int .i64 b),.v (.int .u64 c)]=>P.jg a b c (fun d=>K (.arr .u8 32 d))
 | _=>none
noncomputable def spec:Abs.Spec:=bn
theorem ok0:Proved Tryz.prog GLO.gx 42 bn:=by
 refine bq (D:=D) (fn:=Tryz.f42) (c:=Tryz.f42.body.getD .skip) [.any] (by kernel_rfl) (bg (by kernel_rfl)) (by kernel_rfl) (by kernel_rfl) (by kernel_rfl) ⟨abh.ok,wz.ok,trivial⟩ trivial ?_ ?_
 · rw[loops];exact trivial
 · intro args K r h
   unfold bn at h
   split at h
   · rw[P.bf2] at h;exact Aa (by kernel_rfl) h
   · cases h
theorem ok:Proved Tryz.prog GLO.gx 42 spec:=ok0
end jg

namespace ji
abbrev X3:=P.b40
def S3:X3→ASt:=fun (a,b,c)=>⟨[(3,.own 0),(0,.sl (.rows .u8 a)),(4,.v (.int .i64 b))],[(0,some ⟨.row 5 (.ints .u8 c),false⟩)],1,18⟩
def V3:ASt→Option X3
 | ⟨[(3,.own 0),(0,.sl (.rows .u8 a)),(4,.v (.int .i64 b))],[(0,some ⟨.row 5 (.ints .u8 c),false⟩)],1,18⟩=>some (a,b,c)
 | _=>none
theorem aq0(st)(x)(h:V3 st=some x):st=S3 x:=by
 unfold V3 at h
 split at h
 · cases h;rfl
 · cases h
abbrev Y3:=P.b9q
def E3(K:AExit→ASt→Option R):Y3→Option R:=(fun x=>K (.exit 0) (S3 x))
noncomputable def L3:qy:=fun st K=>adb (V3 st) fun x=>P.cf6 x (E3 K)
noncomputable def D:Ctx:=({ P:=Tryz.prog,G:=[],globs:=GLO.gx,hints:=[(3,⟨[0,4],[(3,5,.ints .u8 [])],[2],[],none,[],[],[]⟩)],loops:=[(3,L3)],inl:=[] }:Ctx)
theorem air(K)(next)(x):kg D (gq Tryz.f43 3) K next (S3 x)=P.b42 x (fun x=>next (S3 x)) (E3 K):=by kernel_rfl
theorem arv:jr D (gq Tryz.f43 3):=iy S3 aq0 (by kernel_rfl) P.cgy air
theorem loops:dn (Tryz.f43.body.getD .skip)=[gq Tryz.f43 3]:=by kernel_rfl
noncomputable def bn:Abs.Spec:=fun args K=>match args with
 | [.sl (.rows .u8 a)]=>P.ji a (fun b=>K (.fr 5 (.ints .u8 b)))
 | _=>none
noncomputable def spec:Abs.Spec:=fun args K=>bn (mh [.sl (.rows .u8 [])] args) K
theorem ok0:Proved Tryz.prog GLO.gx 43 bn:=by
 refine bq (D:=D) (fn:=Tryz.f43) (c:=Tryz.f43.body.getD .skip) [.fr 5 (.ints .u8 [])] (by kernel_rfl) (bg (by kernel_rfl)) (by kernel_rfl) (by kernel_rfl) (by kernel_rfl) trivial trivial ?_ ?_
 · rw[loops];exact ⟨arv,trivial⟩
 · intro args K r h
   unfold bn at h
   split at h
   · rw[P.bbz] at h;exact Aa (by kernel_rfl) h
   · cases h
theorem ok:Proved Tryz.prog GLO.gx 43 spec:=dx _ ok0
end ji

namespace aa2
noncomputable def D:Ctx:=({ P:=Tryz.prog,G:=[],globs:=GLO.gx,hints:=[],loops:=[],inl:=[] }:Ctx)
theorem loops:dn (Tryz.f152.body.getD .skip)=[]:=by kernel_rfl
noncomputable def bn:Abs.Spec:=fun args K=>match args with
 | [.v (.int .i64 a)]=>P.aa2 a (fun b=>K (.v (.int .i64 b)))
 | _=>none
noncomputable def spec:Abs.Spec:=bn
theorem ok0:Proved Tryz.prog GLO.gx 152 bn:=by
 refine bq (D:=D) (fn:=Tryz.f152) (c:=Tryz.f152.body.getD .skip) [.any] (by kernel_rfl) (bg (by kernel_rfl)) (by kernel_rfl) (by kernel_rfl) (by kernel_rfl) trivial trivial ?_ ?_
 · rw[loops];exact trivial
 · intro args K r h
   unfold bn at h
   split at h
   · rw[P.azh] at h;exact Aa (by kernel_rfl) h
   · cases h
theorem ok:Proved Tryz.prog GLO.gx 152 spec:=ok0
end aa2

namespace aa6
noncomputable def D:Ctx:=({ P:=Tryz.prog,G:=[],globs:=GLO.gx,hints:=[],loops:=[],inl:=[] }:Ctx)
theorem loops:dn (Tryz.f191.body.getD .skip)=[]:=by kernel_rfl
noncomputable def bn:Abs.Spec:=fun args K=>match args with
 | [.v (.int .u64 a),.v (.int .i64 b),.v (.bool c)]=>P.aa6 a b c (fun d=>K (.v (.int .u64 d)))
 | _=>none
noncomputable def spec:Abs.Spec:=bn
theorem ok0:Proved Tryz.prog GLO.gx 191 bn:=by
 refine bq (D:=D) (fn:=Tryz.f191) (c:=Tryz.f191.body.getD .skip) [.any] (by kernel_rfl) (bg (by kernel_rfl)) (by kernel_rfl) (by kernel_rfl) (by kernel_rfl) trivial trivial ?_ ?_
 · rw[loops];exact trivial
 · intro args K r h
   unfold bn at h
   split at h
   · rw[P.alk] at h;exact Aa (by kernel_rfl) h
   · cases h
theorem ok:Proved Tryz.prog GLO.gx 191 spec:=ok0
end aa6

namespace aav
noncomputable def D:Ctx:=({ P:=Tryz.prog,G:=[(191,aa6.spec)],globs:=GLO.gx,hints:=[],loops:=[],inl:=[] }:Ctx)
theorem loops:dn (Tryz.f177.body.getD .skip)=[]:=by kernel_rfl
noncomputable def bn:Abs.Spec:=fun args K=>match args with
 | [.v (.int .u64 a),.v (.int .i64 b),.v (.int .i64 c),.v (.int .i64 d),.v (.bool e),.v (.bool f)]=>P.aav a b c d e f (fun g=>K (.v (.int .u64 g)))
 | _=>none
noncomputable def spec:Abs.Spec:=bn
theorem ok0:Proved Tryz.prog GLO.gx 177 bn:=by
 refine bq (D:=D) (fn:=Tryz.f177) (c:=Tryz.f177.body.getD .skip) [.any] (by kernel_rfl) (bg (by kernel_rfl)) (by kernel_rfl) (by kernel_rfl) (by kernel_rfl) ⟨aa6.ok,trivial⟩ trivial ?_ ?_
 · rw[loops];exact trivial
 · intro args K r h
   unfold bn at h
   split at h
   · rw[P.ahe] at h;exact Aa (by kernel_rfl) h
   · cases h
theorem ok:Proved Tryz.prog GLO.gx 177 spec:=ok0
end aav

namespace aaq
noncomputable def D:Ctx:=({ P:=Tryz.prog,G:=[],globs:=GLO.gx,hints:=[],loops:=[],inl:=[] }:Ctx)
theorem loops:dn (Tryz.f174.body.getD .skip)=[]:=by kernel_rfl
noncomputable def bn:Abs.Spec:=fun args K=>match args with
 | []=>P.aaq (fun a=>K (.arr .u64 64 a))
 | _=>none
noncomputable def spec:Abs.Spec:=bn
theorem ok0:Proved Tryz.prog GLO.gx 174 bn:=by
 refine bq (D:=D) (fn:=Tryz.f174) (c:=Tryz.f174.body.getD .skip) [.any] (by kernel_rfl) (bg (by kernel_rfl)) (by kernel_rfl) (by kernel_rfl) (by kernel_rfl) trivial trivial ?_ ?_
 · rw[loops];exact trivial
 · intro args K r h
   unfold bn at h
   split at h
   · rw[P.akf] at h;exact Aa (by kernel_rfl) h
   · cases h
theorem ok:Proved Tryz.prog GLO.gx 174 spec:=ok0
end aaq

namespace aar
noncomputable def D:Ctx:=({ P:=Tryz.prog,G:=[],globs:=GLO.gx,hints:=[],loops:=[],inl:=[] }:Ctx)
theorem loops:dn (Tryz.f175.body.getD .skip)=[]:=by kernel_rfl
noncomputable def bn:Abs.Spec:=fun args K=>match args with
 | []=>P.aar (fun a=>K (.arr .u64 80 a))
 | _=>none
noncomputable def spec:Abs.Spec:=bn
theorem ok0:Proved Tryz.prog GLO.gx 175 bn:=by
 refine bq (D:=D) (fn:=Tryz.f175) (c:=Tryz.f175.body.getD .skip) [.any] (by kernel_rfl) (bg (by kernel_rfl)) (by kernel_rfl) (by kernel_rfl) (by kernel_rfl) trivial trivial ?_ ?_
 · rw[loops];exact trivial
 · intro args K r h
   unfold bn at h
   split at h
   · rw[P.aky] at h;exact Aa (by kernel_rfl) h
   · cases h
theorem ok:Proved Tryz.prog GLO.gx 175 spec:=ok0
end aar

namespace uj
abbrev X3:=P.b05
def S3:X3→ASt:=fun (a,b,c)=>⟨[(0,.sl (.ints .u8 a)),(3,.v (.int .u64 b)),(4,.v (.int .i64 c))],[],0,20⟩
def V3:ASt→Option X3
 | ⟨[(0,.sl (.ints .u8 a)),(3,.v (.int .u64 b)),(4,.v (.int .i64 c))],[],0,20⟩=>some (a,b,c)
 | _=>none
theorem aq0(st)(x)(h:V3 st=some x):st=S3 x:=by
 unfold V3 at h
 split at h
 · cases h;rfl
 · cases h
abbrev Y3:=P.b9x
def E3(K:AExit→ASt→Option R):Y3→Option R:=(fun x=>K (.exit 0) (S3 x))
noncomputable def L3:qy:=fun st K=>adb (V3 st) fun x=>P.b8a x (E3 K)
noncomputable def D:Ctx:=({ P:=Tryz.prog,G:=[],globs:=GLO.gx,hints:=[(3,⟨[0,3,4],[],[2],[],none,[],[],[]⟩)],loops:=[(3,L3)],inl:=[] }:Ctx)
theorem air(K)(next)(x):kg D (gq Tryz.f65 3) K next (S3 x)=P.b5l x (fun x=>next (S3 x)) (E3 K):=by kernel_rfl
theorem arv:jr D (gq Tryz.f65 3):=iy S3 aq0 (by kernel_rfl) P.cgk air
theorem loops:dn (Tryz.f65.body.getD .skip)=[gq Tryz.f65 3]:=by kernel_rfl
noncomputable def bn:Abs.Spec:=fun args K=>match args with
 | [.sl (.ints .u8 a)]=>P.uj a (fun b=>K (.v (.int .u64 b)))
 | _=>none
noncomputable def spec:Abs.Spec:=fun args K=>bn (mh [.sl (.ints .u8 [])] args) K
theorem ok0:Proved Tryz.prog GLO.gx 65 bn:=by
 refine bq (D:=D) (fn:=Tryz.f65) (c:=Tryz.f65.body.getD .skip) [.any] (by kernel_rfl) (bg (by kernel_rfl)) (by kernel_rfl) (by kernel_rfl) (by kernel_rfl) trivial trivial ?_ ?_
 · rw[loops];exact ⟨arv,trivial⟩
 · intro args K r h
   unfold bn at h
   split at h
   · rw[P.bft] at h;exact Aa (by kernel_rfl) h
   · cases h
theorem ok:Proved Tryz.prog GLO.gx 65 spec:=dx _ ok0
end uj

namespace adt
abbrev X6:=P.b4h
def S6:X6→ASt:=fun (b,c,d,e,f,a,g)=>⟨[(10,.own 0),(0,.sl (.ints .u8 b)),(1,.v (.bool c)),(2,.v (.int .i64 d)),(3,.v (.int .u64 e)),(9,.v (.int .i64 f)),(11,.v (.int .i64 a))],[(0,some ⟨.row 53 (.ints .u64 g),false⟩)],1,82⟩
def V6:ASt→Option X6
 | ⟨[(10,.own 0),(0,.sl (.ints .u8 b)),(1,.v (.bool c)),(2,.v (.int .i64 d)),(3,.v (.int .u64 e)),(9,.v (.int .i64 f)),(11,.v (.int .i64 a))],[(0,some ⟨.row 53 (.ints .u64 g),false⟩)],1,82⟩=>some (b,c,d,e,f,a,g)
 | _=>none
theorem aua(st)(x)(h:V6 st=some x):st=S6 x:=by
 unfold V6 at h
 split at h
 · cases h;rfl
 · cases h
abbrev Y6:=P.b79
def E6(K:AExit→ASt→Option R):Y6→Option R:=(fun x=>K (.exit 0) (S6 x))
noncomputable def L6:qy:=fun st K=>adb (V6 st) fun x=>P.b8y x (E6 K)
noncomputable def D:Ctx:=({ P:=Tryz.prog,G:=[(65,uj.spec),(177,aav.spec)],globs:=GLO.gx,hints:=[(6,⟨[0,1,2,3,9,11],[(10,53,.ints .u64 [])],[8],[],none,[],[],[]⟩)],loops:=[(6,L6)],inl:=[] }:Ctx)
theorem akj(K)(next)(x):kg D (gq Tryz.f176 6) K next (S6 x)=P.bzt x (fun x=>next (S6 x)) (E6 K):=by kernel_rfl
theorem au4:jr D (gq Tryz.f176 6):=iy S6 aua (by kernel_rfl) P.cgl akj
theorem loops:dn (Tryz.f176.body.getD .skip)=[gq Tryz.f176 6]:=by kernel_rfl
noncomputable def bn:Abs.Spec:=fun args K=>match args with
 | [.sl (.ints .u8 a),.v (.bool b),.v (.int .i64 c),.v (.int .u64 d)]=>P.adt a b c d (fun e=>K (.fr 53 (.ints .u64 e)))
 | _=>none
noncomputable def spec:Abs.Spec:=fun args K=>bn (mh [.sl (.ints .u8 []),.any,.any,.any] args) K
theorem ok0:Proved Tryz.prog GLO.gx 176 bn:=by
 refine bq (D:=D) (fn:=Tryz.f176) (c:=Tryz.f176.body.getD .skip) [.fr 53 (.ints .u64 [])] (by kernel_rfl) (bg (by kernel_rfl)) (by kernel_rfl) (by kernel_rfl) (by kernel_rfl) ⟨uj.ok,aav.ok,trivial⟩ trivial ?_ ?_
 · rw[loops];exact ⟨au4,trivial⟩
 · intro args K r h
   unfold bn at h
   split at h
   · rw[P.aqu] at h;exact Aa (by kernel_rfl) h
   · cases h
theorem ok:Proved Tryz.prog GLO.gx 176 spec:=dx _ ok0
end adt

end
