/-
  SlhVerifies, part 15: an interpreter of my own over abstract values, the pure functions, the walks and the plain law.
-/

import Derived.Test.YtciddcopcdmnbaaGreatDoorSlhVerifiesK
import Derived.Test.YtciddcopcdmnbaaGreatDoorSlhVerifiesH
import Derived.Test.YtciddcopcdmnbaaGreatDoorProg
import Derived.Test.YtciddcopcdmnbaaGreatDoorSlhVerifiesJ
import Derived.Test.YtciddcopcdmnbaaGreatDoorSlhVerifiesN
import Derived.KernelRfl
open Eq renaming trans → Aa

section
open Go Go.Abs Go.Proofs
set_option maxRecDepth 100000
set_option maxHeartbeats 0
set_option linter.unusedVariables false

namespace adw
noncomputable def D:Ctx:=({ P:=Tryz.prog,G:=[(195,qm.spec)],globs:=GLO.gx,hints:=[],loops:=[],inl:=[] }:Ctx)
theorem loops:dn (Tryz.f182.body.getD .skip)=[]:=by kernel_rfl
noncomputable def bn:Abs.Spec:=fun args K=>match args with
 | []=>P.adw (fun f e a b c d=>K (.agg [.v (.int .i64 f),.v (.int .i64 e),.arr .i64 3 a,.arr .i64 3 b,.arr .i64 3 c,.arr .i64 3 d,.fn (.func 195) [] []]))
 | _=>none
noncomputable def spec:Abs.Spec:=bn
theorem ok0:Proved Tryz.prog GLO.gx 182 bn:=by
 refine bq (D:=D) (fn:=Tryz.f182) (c:=Tryz.f182.body.getD .skip) [.any] (by kernel_rfl) (bg (by kernel_rfl)) (by kernel_rfl) (by kernel_rfl) (by kernel_rfl) ⟨qm.ok,trivial⟩ trivial ?_ ?_
 · rw[loops];exact trivial
 · intro args K r h
   unfold bn at h
   split at h
   · rw[P.ay5] at h;exact Aa (by kernel_rfl) h
   · cases h
theorem ok:Proved Tryz.prog GLO.gx 182 spec:=ok0
end adw

namespace dz
noncomputable def D:Ctx:=({ P:=Tryz.prog,G:=[(195,qm.spec)],globs:=GLO.gx,hints:=[],loops:=[],inl:=[] }:Ctx)
theorem loops:dn (Tryz.f202.body.getD .skip)=[]:=by kernel_rfl
noncomputable def bn:Abs.Spec:=fun args K=>match args with
 | [.agg [.v (.int .i64 f),.v (.int .i64 e),.arr .i64 3 a,.arr .i64 3 b,.arr .i64 3 c,.arr .i64 3 d,.fn (.func 195) [] []],.v (.int .u32 g),.v (.int .i64 h)]=>P.dz f e a b c d g h (fun i=>K (.v (.int .u32 i)))
 | _=>none
noncomputable def spec:Abs.Spec:=bn
theorem ok0:Proved Tryz.prog GLO.gx 202 bn:=by
 refine bq (D:=D) (fn:=Tryz.f202) (c:=Tryz.f202.body.getD .skip) [.any] (by kernel_rfl) (bg (by kernel_rfl)) (by kernel_rfl) (by kernel_rfl) (by kernel_rfl) ⟨qm.ok,trivial⟩ trivial ?_ ?_
 · rw[loops];exact trivial
 · intro args K r h
   unfold bn at h
   split at h
   · rw[P.adf] at h;exact Aa (by kernel_rfl) h
   · cases h
theorem ok:Proved Tryz.prog GLO.gx 202 spec:=ok0
end dz

namespace ko
noncomputable def D:Ctx:=({ P:=Tryz.prog,G:=[(195,qm.spec),(202,dz.spec)],globs:=GLO.gx,hints:=[],loops:=[],inl:=[] }:Ctx)
theorem loops:dn (Tryz.f198.body.getD .skip)=[]:=by kernel_rfl
noncomputable def bn:Abs.Spec:=fun args K=>match args with
 | [.agg [.v (.int .i64 f),.v (.int .i64 e),.arr .i64 3 a,.arr .i64 3 b,.arr .i64 3 c,.arr .i64 3 d,.fn (.func 195) [] []],.v (.int .u32 g),.v (.int .i64 h)]=>P.ko f e a b c d g h (fun i=>K (.v (.int .u32 i)))
 | _=>none
noncomputable def spec:Abs.Spec:=bn
theorem ok0:Proved Tryz.prog GLO.gx 198 bn:=by
 refine bq (D:=D) (fn:=Tryz.f198) (c:=Tryz.f198.body.getD .skip) [.any] (by kernel_rfl) (bg (by kernel_rfl)) (by kernel_rfl) (by kernel_rfl) (by kernel_rfl) ⟨qm.ok,dz.ok,trivial⟩ trivial ?_ ?_
 · rw[loops];exact trivial
 · intro args K r h
   unfold bn at h
   split at h
   · rw[P.abu] at h;exact Aa (by kernel_rfl) h
   · cases h
theorem ok:Proved Tryz.prog GLO.gx 198 spec:=ok0
end ko

namespace mg
noncomputable def D:Ctx:=({ P:=Tryz.prog,G:=[(195,qm.spec),(202,dz.spec)],globs:=GLO.gx,hints:=[],loops:=[],inl:=[] }:Ctx)
theorem loops:dn (Tryz.f199.body.getD .skip)=[]:=by kernel_rfl
noncomputable def bn:Abs.Spec:=fun args K=>match args with
 | [.agg [.v (.int .i64 f),.v (.int .i64 e),.arr .i64 3 a,.arr .i64 3 b,.arr .i64 3 c,.arr .i64 3 d,.fn (.func 195) [] []],.v (.int .u32 g),.v (.int .i64 h)]=>P.mg f e a b c d g h (fun i=>K (.v (.int .u32 i)))
 | _=>none
noncomputable def spec:Abs.Spec:=bn
theorem ok0:Proved Tryz.prog GLO.gx 199 bn:=by
 refine bq (D:=D) (fn:=Tryz.f199) (c:=Tryz.f199.body.getD .skip) [.any] (by kernel_rfl) (bg (by kernel_rfl)) (by kernel_rfl) (by kernel_rfl) (by kernel_rfl) ⟨qm.ok,dz.ok,trivial⟩ trivial ?_ ?_
 · rw[loops];exact trivial
 · intro args K r h
   unfold bn at h
   split at h
   · rw[P.ab9] at h;exact Aa (by kernel_rfl) h
   · cases h
theorem ok:Proved Tryz.prog GLO.gx 199 spec:=ok0
end mg

namespace oh
abbrev X4:=P.b5e
def S4:X4→ASt:=fun (k,l,j,a,b,c,d,e,f,g,h,i)=>⟨[(2,.sl (.ints .u8 k)),(3,.ptr 0 0),(4,.ptr 1 0),(6,.ptr 2 0),(7,.ptr 3 0),(8,.v (.int .i64 l)),(19,.v (.int .i64 j))],[(0,some ⟨.box 206 [.v (.int .i64 a),.v (.int .i64 b),.arr .i64 3 c,.arr .i64 3 d,.arr .i64 3 e,.arr .i64 3 f,.fn (.func 195) [] []],false⟩),(1,some ⟨.box 219 [.arr .u32 8 g],false⟩),(2,some ⟨.box 219 [.arr .u32 8 h],false⟩),(3,some ⟨.box 222 [.arr .u32 16 i],false⟩)],4,143⟩
def V4:ASt→Option X4
 | ⟨[(2,.sl (.ints .u8 k)),(3,.ptr 0 0),(4,.ptr 1 0),(6,.ptr 2 0),(7,.ptr 3 0),(8,.v (.int .i64 l)),(19,.v (.int .i64 j))],[(0,some ⟨.box 206 [.v (.int .i64 a),.v (.int .i64 b),.arr .i64 3 c,.arr .i64 3 d,.arr .i64 3 e,.arr .i64 3 f,.fn (.func 195) [] []],false⟩),(1,some ⟨.box 219 [.arr .u32 8 g],false⟩),(2,some ⟨.box 219 [.arr .u32 8 h],false⟩),(3,some ⟨.box 222 [.arr .u32 16 i],false⟩)],4,143⟩=>some (k,l,j,a,b,c,d,e,f,g,h,i)
 | _=>none
theorem auk(st)(x)(h:V4 st=some x):st=S4 x:=by
 unfold V4 at h
 split at h
 · cases h;rfl
 · cases h
abbrev Y4:=P.ca0
abbrev X10:=P.b5k
def S10:X10→ASt:=fun (k,l,a,b,c,d,e,f,g,h,i,j)=>⟨[(3,.ptr 0 0),(4,.ptr 1 0),(6,.ptr 2 0),(7,.ptr 3 0),(10,.ptr 4 0),(38,.v (.int .i64 k)),(39,.v (.int .i64 l))],[(3,some ⟨.box 222 [.arr .u32 16 a],false⟩),(2,some ⟨.box 219 [.arr .u32 8 b],false⟩),(1,some ⟨.box 219 [.arr .u32 8 c],false⟩),(0,some ⟨.box 206 [.v (.int .i64 d),.v (.int .i64 e),.arr .i64 3 f,.arr .i64 3 g,.arr .i64 3 h,.arr .i64 3 i,.fn (.func 195) [] []],false⟩),(4,some ⟨.box 219 [.arr .u32 8 j],false⟩)],5,143⟩
def V10:ASt→Option X10
 | ⟨[(3,.ptr 0 0),(4,.ptr 1 0),(6,.ptr 2 0),(7,.ptr 3 0),(10,.ptr 4 0),(38,.v (.int .i64 k)),(39,.v (.int .i64 l))],[(3,some ⟨.box 222 [.arr .u32 16 a],false⟩),(2,some ⟨.box 219 [.arr .u32 8 b],false⟩),(1,some ⟨.box 219 [.arr .u32 8 c],false⟩),(0,some ⟨.box 206 [.v (.int .i64 d),.v (.int .i64 e),.arr .i64 3 f,.arr .i64 3 g,.arr .i64 3 h,.arr .i64 3 i,.fn (.func 195) [] []],false⟩),(4,some ⟨.box 219 [.arr .u32 8 j],false⟩)],5,143⟩=>some (k,l,a,b,c,d,e,f,g,h,i,j)
 | _=>none
theorem bk0(st)(x)(h:V10 st=some x):st=S10 x:=by
 unfold V10 at h
 split at h
 · cases h;rfl
 · cases h
abbrev Y10:=P.ccs
abbrev X21:=P.b4y
def S21:X21→ASt:=fun (a,b,c,d)=>⟨[(4,.ptr 1 0),(6,.ptr 2 0),(10,.ptr 4 0),(130,.v (.int .i64 a))],[(1,some ⟨.box 219 [.arr .u32 8 b],false⟩),(2,some ⟨.box 219 [.arr .u32 8 c],false⟩),(4,some ⟨.box 219 [.arr .u32 8 d],false⟩)],120,143⟩
def V21:ASt→Option X21
 | ⟨[(4,.ptr 1 0),(6,.ptr 2 0),(10,.ptr 4 0),(130,.v (.int .i64 a))],[(1,some ⟨.box 219 [.arr .u32 8 b],false⟩),(2,some ⟨.box 219 [.arr .u32 8 c],false⟩),(4,some ⟨.box 219 [.arr .u32 8 d],false⟩)],120,143⟩=>some (a,b,c,d)
 | _=>none
theorem bq5(st)(x)(h:V21 st=some x):st=S21 x:=by
 unfold V21 at h
 split at h
 · cases h;rfl
 · cases h
abbrev Y21:=P.ccd
def E4(K:AExit→ASt→Option R):Y4→Option R:=(fun x=>K (.exit 0) (S4 x))
noncomputable def L4:qy:=fun st K=>adb (V4 st) fun x=>P.b8i x (E4 K)
def E10(K:AExit→ASt→Option R):Y10→Option R:=(fun x=>K (.exit 2) (S10 x))
noncomputable def L10:qy:=fun st K=>adb (V10 st) fun x=>P.cct x (E10 K)
def E21(K:AExit→ASt→Option R):Y21→Option R:=(fun x=>K (.exit 4) (S21 x))
noncomputable def L21:qy:=fun st K=>adb (V21 st) fun x=>P.cd2 x (E21 K)
noncomputable def D:Ctx:=({ P:=Tryz.prog,G:=[(100,uy.spec),(195,qm.spec),(198,ko.spec),(199,mg.spec)],globs:=GLO.gx,hints:=[(21,⟨[4,6,10,130],[],[6],[],some (120,[1,2,4]),[],[],[]⟩),(10,⟨[3,4,6,7,10,38,39],[],[6],[],none,[],[],[]⟩),(4,⟨[2,3,4,6,7,8,19],[],[6],[],none,[],[],[]⟩)],loops:=[(4,L4),(10,L10),(21,L21)],inl:=[] }:Ctx)
theorem aj1(K)(next)(x):kg D (gq Tryz.f194 4) K next (S4 x)=P.b4m x (fun x=>next (S4 x)) (E4 K):=by kernel_rfl
theorem auy:jr D (gq Tryz.f194 4):=iy S4 auk (by kernel_rfl) P.cg8 aj1
theorem bbo(K)(next)(x):kg D (gq Tryz.f194 10) K next (S10 x)=P.b21 x (fun x=>next (S10 x)) (E10 K):=by kernel_rfl
theorem bke:jr D (gq Tryz.f194 10):=iy S10 bk0 (by kernel_rfl) P.cgx bbo
theorem bl1(K)(next)(x):kg D (gq Tryz.f194 21) K next (S21 x)=P.b5i x (fun x=>next (S21 x)) (E21 K):=by kernel_rfl
theorem bsg:jr D (gq Tryz.f194 21):=iy S21 bq5 (by kernel_rfl) P.chf bl1
theorem loops:dn (Tryz.f194.body.getD .skip)=[gq Tryz.f194 4,gq Tryz.f194 10,gq Tryz.f194 21]:=by kernel_rfl
noncomputable def bn:Abs.Spec:=fun args K=>match args with
 | [.agg [.v (.int .i64 f),.v (.int .i64 e),.arr .i64 3 a,.arr .i64 3 b,.arr .i64 3 c,.arr .i64 3 d,.fn (.func 195) [] []],.arr .u32 8 g,.sl (.ints .u8 h)]=>P.oh f e a b c d g h (fun i=>K (.arr .u32 8 i))
 | _=>none
noncomputable def spec:Abs.Spec:=fun args K=>bn (mh [.any,.any,.sl (.ints .u8 [])] args) K
theorem ok0:Proved Tryz.prog GLO.gx 194 bn:=by
 refine bq (D:=D) (fn:=Tryz.f194) (c:=Tryz.f194.body.getD .skip) [.any] (by kernel_rfl) (bg (by kernel_rfl)) (by kernel_rfl) (by kernel_rfl) (by kernel_rfl) ⟨uy.ok,qm.ok,ko.ok,mg.ok,trivial⟩ trivial ?_ ?_
 · rw[loops];exact ⟨auy,bke,bsg,trivial⟩
 · intro args K r h
   unfold bn at h
   split at h
   · rw[P.aew] at h;exact Aa (by kernel_rfl) h
   · cases h
theorem ok:Proved Tryz.prog GLO.gx 194 spec:=dx _ ok0
end oh

namespace rz
abbrev X3:=P.b0t
def S3:X3→ASt:=fun (l,j,k,a,b,c,d,e,f,g,h,i)=>⟨[(2,.sl (.ints .u8 l)),(3,.ptr 0 0),(4,.ptr 1 0),(6,.ptr 2 0),(8,.ptr 3 0),(14,.arr .u64 8 j),(15,.v (.int .i64 k))],[(0,some ⟨.box 206 [.v (.int .i64 a),.v (.int .i64 b),.arr .i64 3 c,.arr .i64 3 d,.arr .i64 3 e,.arr .i64 3 f,.fn (.func 195) [] []],false⟩),(1,some ⟨.box 138 [.arr .u64 8 g],false⟩),(2,some ⟨.box 138 [.arr .u64 8 h],false⟩),(3,some ⟨.box 219 [.arr .u32 8 i],false⟩)],4,52⟩
def V3:ASt→Option X3
 | ⟨[(2,.sl (.ints .u8 l)),(3,.ptr 0 0),(4,.ptr 1 0),(6,.ptr 2 0),(8,.ptr 3 0),(14,.arr .u64 8 j),(15,.v (.int .i64 k))],[(0,some ⟨.box 206 [.v (.int .i64 a),.v (.int .i64 b),.arr .i64 3 c,.arr .i64 3 d,.arr .i64 3 e,.arr .i64 3 f,.fn (.func 195) [] []],false⟩),(1,some ⟨.box 138 [.arr .u64 8 g],false⟩),(2,some ⟨.box 138 [.arr .u64 8 h],false⟩),(3,some ⟨.box 219 [.arr .u32 8 i],false⟩)],4,52⟩=>some (l,j,k,a,b,c,d,e,f,g,h,i)
 | _=>none
theorem aq0(st)(x)(h:V3 st=some x):st=S3 x:=by
 unfold V3 at h
 split at h
 · cases h;rfl
 · cases h
abbrev Y3:=P.cag
abbrev X8:=P.b4n
def S8:X8→ASt:=fun (k,j,a,b,c,d,e,f,g,h,i)=>⟨[(2,.sl (.ints .u8 k)),(3,.ptr 0 0),(4,.ptr 1 0),(6,.ptr 2 0),(8,.ptr 3 0),(11,.v (.int .i64 j))],[(3,some ⟨.box 219 [.arr .u32 8 a],false⟩),(2,some ⟨.box 138 [.arr .u64 8 b],false⟩),(1,some ⟨.box 138 [.arr .u64 8 c],false⟩),(0,some ⟨.box 206 [.v (.int .i64 d),.v (.int .i64 e),.arr .i64 3 f,.arr .i64 3 g,.arr .i64 3 h,.arr .i64 3 i,.fn (.func 195) [] []],false⟩)],4,52⟩
def V8:ASt→Option X8
 | ⟨[(2,.sl (.ints .u8 k)),(3,.ptr 0 0),(4,.ptr 1 0),(6,.ptr 2 0),(8,.ptr 3 0),(11,.v (.int .i64 j))],[(3,some ⟨.box 219 [.arr .u32 8 a],false⟩),(2,some ⟨.box 138 [.arr .u64 8 b],false⟩),(1,some ⟨.box 138 [.arr .u64 8 c],false⟩),(0,some ⟨.box 206 [.v (.int .i64 d),.v (.int .i64 e),.arr .i64 3 f,.arr .i64 3 g,.arr .i64 3 h,.arr .i64 3 i,.fn (.func 195) [] []],false⟩)],4,52⟩=>some (k,j,a,b,c,d,e,f,g,h,i)
 | _=>none
theorem bh3(st)(x)(h:V8 st=some x):st=S8 x:=by
 unfold V8 at h
 split at h
 · cases h;rfl
 · cases h
abbrev Y8:=P.cc0
abbrev X12:=P.b2v
def S12:X12→ASt:=fun (e,c,d,a,b)=>⟨[(2,.sl (.ints .u8 e)),(4,.ptr 1 0),(6,.ptr 2 0),(40,.arr .u32 8 c),(41,.v (.int .i64 d))],[(1,some ⟨.box 138 [.arr .u64 8 a],false⟩),(2,some ⟨.box 138 [.arr .u64 8 b],false⟩)],120,52⟩
def V12:ASt→Option X12
 | ⟨[(2,.sl (.ints .u8 e)),(4,.ptr 1 0),(6,.ptr 2 0),(40,.arr .u32 8 c),(41,.v (.int .i64 d))],[(1,some ⟨.box 138 [.arr .u64 8 a],false⟩),(2,some ⟨.box 138 [.arr .u64 8 b],false⟩)],120,52⟩=>some (e,c,d,a,b)
 | _=>none
theorem bku(st)(x)(h:V12 st=some x):st=S12 x:=by
 unfold V12 at h
 split at h
 · cases h;rfl
 · cases h
abbrev Y12:=P.b89
def E3(K:AExit→ASt→Option R):Y3→Option R:=(fun x=>K (.exit 0) (S3 x))
noncomputable def L3:qy:=fun st K=>adb (V3 st) fun x=>P.cfp x (E3 K)
def E8(K:AExit→ASt→Option R):Y8→Option R:=(fun x=>K (.exit 2) (S8 x))
noncomputable def L8:qy:=fun st K=>adb (V8 st) fun x=>P.cek x (E8 K)
def E12(K:AExit→ASt→Option R):Y12→Option R:=(fun x=>K (.exit 4) (S12 x))
noncomputable def L12:qy:=fun st K=>adb (V12 st) fun x=>P.ca7 x (E12 K)
noncomputable def D:Ctx:=({ P:=Tryz.prog,G:=[(194,oh.spec),(195,qm.spec)],globs:=GLO.gx,hints:=[(12,⟨[2,4,6,40,41],[],[6,7],[],some (120,[1,2]),[],[],[]⟩),(8,⟨[2,3,4,6,8,11],[],[6,7],[(2,.sl (.ints .u8 []))],none,[],[],[]⟩),(3,⟨[2,3,4,6,8,14,15],[],[6,7],[],none,[],[],[]⟩)],loops:=[(3,L3),(8,L8),(12,L12)],inl:=[] }:Ctx)
theorem air(K)(next)(x):kg D (gq Tryz.f181 3) K next (S3 x)=P.b2f x (fun x=>next (S3 x)) (E3 K):=by kernel_rfl
theorem arv:jr D (gq Tryz.f181 3):=iy S3 aq0 (by kernel_rfl) P.chu air
theorem avf(K)(next)(x):kg D (gq Tryz.f181 8) K next (S8 x)=P.b4d x (fun x=>next (S8 x)) (E8 K):=by kernel_rfl
theorem bh6:jr D (gq Tryz.f181 8):=iy S8 bh3 (by kernel_rfl) P.cha avf
theorem bbg(K)(next)(x):kg D (gq Tryz.f181 12) K next (S12 x)=P.b57 x (fun x=>next (S12 x)) (E12 K):=by kernel_rfl
theorem bij:jr D (gq Tryz.f181 12):=iy S12 bku (by kernel_rfl) P.chk bbg
theorem loops:dn (Tryz.f181.body.getD .skip)=[gq Tryz.f181 3,gq Tryz.f181 8,gq Tryz.f181 12]:=by kernel_rfl
noncomputable def bn:Abs.Spec:=fun args K=>match args with
 | [.agg [.v (.int .i64 f),.v (.int .i64 e),.arr .i64 3 a,.arr .i64 3 b,.arr .i64 3 c,.arr .i64 3 d,.fn (.func 195) [] []],.arr .u64 8 g,.sl (.ints .u8 h)]=>P.rz f e a b c d g h (fun i j=>K (.tuple [.arr .u64 8 i,.sl (.ints .u8 j)]))
 | _=>none
noncomputable def spec:Abs.Spec:=fun args K=>bn (mh [.any,.any,.sl (.ints .u8 [])] args) K
theorem ok0:Proved Tryz.prog GLO.gx 181 bn:=by
 refine bq (D:=D) (fn:=Tryz.f181) (c:=Tryz.f181.body.getD .skip) [.any,.sl (.ints .u8 [])] (by kernel_rfl) (bg (by kernel_rfl)) (by kernel_rfl) (by kernel_rfl) (by kernel_rfl) ⟨oh.ok,qm.ok,trivial⟩ trivial ?_ ?_
 · rw[loops];exact ⟨arv,bh6,bij,trivial⟩
 · intro args K r h
   unfold bn at h
   split at h
   · rw[P.aif] at h;exact Aa (by kernel_rfl) h
   · cases h
theorem ok:Proved Tryz.prog GLO.gx 181 spec:=dx _ ok0
end rz

namespace eu
noncomputable def D:Ctx:=({ P:=Tryz.prog,G:=[(197,ql.spec)],globs:=GLO.gx,hints:=[],loops:=[],inl:=[] }:Ctx)
theorem loops:dn (Tryz.f203.body.getD .skip)=[]:=by kernel_rfl
noncomputable def bn:Abs.Spec:=fun args K=>match args with
 | [.agg [.v (.int .i64 f),.v (.int .i64 e),.arr .i64 3 a,.arr .i64 3 b,.arr .i64 3 c,.arr .i64 3 d,.fn (.func 197) [] []],.v (.int .u64 g),.v (.int .i64 h)]=>P.eu f e a b c d g h (fun i=>K (.v (.int .u64 i)))
 | _=>none
noncomputable def spec:Abs.Spec:=bn
theorem ok0:Proved Tryz.prog GLO.gx 203 bn:=by
 refine bq (D:=D) (fn:=Tryz.f203) (c:=Tryz.f203.body.getD .skip) [.any] (by kernel_rfl) (bg (by kernel_rfl)) (by kernel_rfl) (by kernel_rfl) (by kernel_rfl) ⟨ql.ok,trivial⟩ trivial ?_ ?_
 · rw[loops];exact trivial
 · intro args K r h
   unfold bn at h
   split at h
   · rw[P.ade] at h;exact Aa (by kernel_rfl) h
   · cases h
theorem ok:Proved Tryz.prog GLO.gx 203 spec:=ok0
end eu

namespace ku
noncomputable def D:Ctx:=({ P:=Tryz.prog,G:=[(197,ql.spec),(203,eu.spec)],globs:=GLO.gx,hints:=[],loops:=[],inl:=[] }:Ctx)
theorem loops:dn (Tryz.f200.body.getD .skip)=[]:=by kernel_rfl
noncomputable def bn:Abs.Spec:=fun args K=>match args with
 | [.agg [.v (.int .i64 f),.v (.int .i64 e),.arr .i64 3 a,.arr .i64 3 b,.arr .i64 3 c,.arr .i64 3 d,.fn (.func 197) [] []],.v (.int .u64 g),.v (.int .i64 h)]=>P.ku f e a b c d g h (fun i=>K (.v (.int .u64 i)))
 | _=>none
noncomputable def spec:Abs.Spec:=bn
theorem ok0:Proved Tryz.prog GLO.gx 200 bn:=by
 refine bq (D:=D) (fn:=Tryz.f200) (c:=Tryz.f200.body.getD .skip) [.any] (by kernel_rfl) (bg (by kernel_rfl)) (by kernel_rfl) (by kernel_rfl) (by kernel_rfl) ⟨ql.ok,eu.ok,trivial⟩ trivial ?_ ?_
 · rw[loops];exact trivial
 · intro args K r h
   unfold bn at h
   split at h
   · rw[P.abp] at h;exact Aa (by kernel_rfl) h
   · cases h
theorem ok:Proved Tryz.prog GLO.gx 200 spec:=ok0
end ku

namespace mo
noncomputable def D:Ctx:=({ P:=Tryz.prog,G:=[(197,ql.spec),(203,eu.spec)],globs:=GLO.gx,hints:=[],loops:=[],inl:=[] }:Ctx)
theorem loops:dn (Tryz.f201.body.getD .skip)=[]:=by kernel_rfl
noncomputable def bn:Abs.Spec:=fun args K=>match args with
 | [.agg [.v (.int .i64 f),.v (.int .i64 e),.arr .i64 3 a,.arr .i64 3 b,.arr .i64 3 c,.arr .i64 3 d,.fn (.func 197) [] []],.v (.int .u64 g),.v (.int .i64 h)]=>P.mo f e a b c d g h (fun i=>K (.v (.int .u64 i)))
 | _=>none
noncomputable def spec:Abs.Spec:=bn
theorem ok0:Proved Tryz.prog GLO.gx 201 bn:=by
 refine bq (D:=D) (fn:=Tryz.f201) (c:=Tryz.f201.body.getD .skip) [.any] (by kernel_rfl) (bg (by kernel_rfl)) (by kernel_rfl) (by kernel_rfl) (by kernel_rfl) ⟨ql.ok,eu.ok,trivial⟩ trivial ?_ ?_
 · rw[loops];exact trivial
 · intro args K r h
   unfold bn at h
   split at h
   · rw[P.ab4] at h;exact Aa (by kernel_rfl) h
   · cases h
theorem ok:Proved Tryz.prog GLO.gx 201 spec:=ok0
end mo

namespace og
abbrev X4:=P.b3p
def S4:X4→ASt:=fun (k,l,j,a,b,c,d,e,f,g,h,i)=>⟨[(2,.sl (.ints .u8 k)),(3,.ptr 0 0),(4,.ptr 1 0),(6,.ptr 2 0),(7,.ptr 3 0),(8,.v (.int .i64 l)),(19,.v (.int .i64 j))],[(0,some ⟨.box 211 [.v (.int .i64 a),.v (.int .i64 b),.arr .i64 3 c,.arr .i64 3 d,.arr .i64 3 e,.arr .i64 3 f,.fn (.func 197) [] []],false⟩),(1,some ⟨.box 138 [.arr .u64 8 g],false⟩),(2,some ⟨.box 138 [.arr .u64 8 h],false⟩),(3,some ⟨.box 225 [.arr .u64 16 i],false⟩)],4,142⟩
def V4:ASt→Option X4
 | ⟨[(2,.sl (.ints .u8 k)),(3,.ptr 0 0),(4,.ptr 1 0),(6,.ptr 2 0),(7,.ptr 3 0),(8,.v (.int .i64 l)),(19,.v (.int .i64 j))],[(0,some ⟨.box 211 [.v (.int .i64 a),.v (.int .i64 b),.arr .i64 3 c,.arr .i64 3 d,.arr .i64 3 e,.arr .i64 3 f,.fn (.func 197) [] []],false⟩),(1,some ⟨.box 138 [.arr .u64 8 g],false⟩),(2,some ⟨.box 138 [.arr .u64 8 h],false⟩),(3,some ⟨.box 225 [.arr .u64 16 i],false⟩)],4,142⟩=>some (k,l,j,a,b,c,d,e,f,g,h,i)
 | _=>none
theorem auk(st)(x)(h:V4 st=some x):st=S4 x:=by
 unfold V4 at h
 split at h
 · cases h;rfl
 · cases h
abbrev Y4:=P.ce5
abbrev X10:=P.b0f
def S10:X10→ASt:=fun (k,l,a,b,c,d,e,f,g,h,i,j)=>⟨[(3,.ptr 0 0),(4,.ptr 1 0),(6,.ptr 2 0),(7,.ptr 3 0),(10,.ptr 4 0),(37,.v (.int .i64 k)),(38,.v (.int .i64 l))],[(3,some ⟨.box 225 [.arr .u64 16 a],false⟩),(2,some ⟨.box 138 [.arr .u64 8 b],false⟩),(1,some ⟨.box 138 [.arr .u64 8 c],false⟩),(0,some ⟨.box 211 [.v (.int .i64 d),.v (.int .i64 e),.arr .i64 3 f,.arr .i64 3 g,.arr .i64 3 h,.arr .i64 3 i,.fn (.func 197) [] []],false⟩),(4,some ⟨.box 138 [.arr .u64 8 j],false⟩)],5,142⟩
def V10:ASt→Option X10
 | ⟨[(3,.ptr 0 0),(4,.ptr 1 0),(6,.ptr 2 0),(7,.ptr 3 0),(10,.ptr 4 0),(37,.v (.int .i64 k)),(38,.v (.int .i64 l))],[(3,some ⟨.box 225 [.arr .u64 16 a],false⟩),(2,some ⟨.box 138 [.arr .u64 8 b],false⟩),(1,some ⟨.box 138 [.arr .u64 8 c],false⟩),(0,some ⟨.box 211 [.v (.int .i64 d),.v (.int .i64 e),.arr .i64 3 f,.arr .i64 3 g,.arr .i64 3 h,.arr .i64 3 i,.fn (.func 197) [] []],false⟩),(4,some ⟨.box 138 [.arr .u64 8 j],false⟩)],5,142⟩=>some (k,l,a,b,c,d,e,f,g,h,i,j)
 | _=>none
theorem bk0(st)(x)(h:V10 st=some x):st=S10 x:=by
 unfold V10 at h
 split at h
 · cases h;rfl
 · cases h
abbrev Y10:=P.cav
abbrev X21:=P.b1w
def S21:X21→ASt:=fun (a,b,c,d)=>⟨[(4,.ptr 1 0),(6,.ptr 2 0),(10,.ptr 4 0),(129,.v (.int .i64 a))],[(1,some ⟨.box 138 [.arr .u64 8 b],false⟩),(2,some ⟨.box 138 [.arr .u64 8 c],false⟩),(4,some ⟨.box 138 [.arr .u64 8 d],false⟩)],120,142⟩
def V21:ASt→Option X21
 | ⟨[(4,.ptr 1 0),(6,.ptr 2 0),(10,.ptr 4 0),(129,.v (.int .i64 a))],[(1,some ⟨.box 138 [.arr .u64 8 b],false⟩),(2,some ⟨.box 138 [.arr .u64 8 c],false⟩),(4,some ⟨.box 138 [.arr .u64 8 d],false⟩)],120,142⟩=>some (a,b,c,d)
 | _=>none
theorem bq5(st)(x)(h:V21 st=some x):st=S21 x:=by
 unfold V21 at h
 split at h
 · cases h;rfl
 · cases h
abbrev Y21:=P.cbe
def E4(K:AExit→ASt→Option R):Y4→Option R:=(fun x=>K (.exit 0) (S4 x))
noncomputable def L4:qy:=fun st K=>adb (V4 st) fun x=>P.cby x (E4 K)
def E10(K:AExit→ASt→Option R):Y10→Option R:=(fun x=>K (.exit 2) (S10 x))
noncomputable def L10:qy:=fun st K=>adb (V10 st) fun x=>P.cep x (E10 K)
def E21(K:AExit→ASt→Option R):Y21→Option R:=(fun x=>K (.exit 4) (S21 x))
noncomputable def L21:qy:=fun st K=>adb (V21 st) fun x=>P.cb3 x (E21 K)
noncomputable def D:Ctx:=({ P:=Tryz.prog,G:=[(100,uy.spec),(197,ql.spec),(200,ku.spec),(201,mo.spec)],globs:=GLO.gx,hints:=[(21,⟨[4,6,10,129],[],[6],[],some (120,[1,2,4]),[],[],[]⟩),(10,⟨[3,4,6,7,10,37,38],[],[6],[],none,[],[],[]⟩),(4,⟨[2,3,4,6,7,8,19],[],[6],[],none,[],[],[]⟩)],loops:=[(4,L4),(10,L10),(21,L21)],inl:=[] }:Ctx)
theorem aj1(K)(next)(x):kg D (gq Tryz.f196 4) K next (S4 x)=P.b1o x (fun x=>next (S4 x)) (E4 K):=by kernel_rfl
theorem auy:jr D (gq Tryz.f196 4):=iy S4 auk (by kernel_rfl) P.ch1 aj1
theorem bbo(K)(next)(x):kg D (gq Tryz.f196 10) K next (S10 x)=P.b24 x (fun x=>next (S10 x)) (E10 K):=by kernel_rfl
theorem bke:jr D (gq Tryz.f196 10):=iy S10 bk0 (by kernel_rfl) P.cih bbo
theorem bl1(K)(next)(x):kg D (gq Tryz.f196 21) K next (S21 x)=P.b4r x (fun x=>next (S21 x)) (E21 K):=by kernel_rfl
theorem bsg:jr D (gq Tryz.f196 21):=iy S21 bq5 (by kernel_rfl) P.che bl1
theorem loops:dn (Tryz.f196.body.getD .skip)=[gq Tryz.f196 4,gq Tryz.f196 10,gq Tryz.f196 21]:=by kernel_rfl
noncomputable def bn:Abs.Spec:=fun args K=>match args with
 | [.agg [.v (.int .i64 f),.v (.int .i64 e),.arr .i64 3 a,.arr .i64 3 b,.arr .i64 3 c,.arr .i64 3 d,.fn (.func 197) [] []],.arr .u64 8 g,.sl (.ints .u8 h)]=>P.og f e a b c d g h (fun i=>K (.arr .u64 8 i))
 | _=>none
noncomputable def spec:Abs.Spec:=fun args K=>bn (mh [.any,.any,.sl (.ints .u8 [])] args) K
theorem ok0:Proved Tryz.prog GLO.gx 196 bn:=by
 refine bq (D:=D) (fn:=Tryz.f196) (c:=Tryz.f196.body.getD .skip) [.any] (by kernel_rfl) (bg (by kernel_rfl)) (by kernel_rfl) (by kernel_rfl) (by kernel_rfl) ⟨uy.ok,ql.ok,ku.ok,mo.ok,trivial⟩ trivial ?_ ?_
 · rw[loops];exact ⟨auy,bke,bsg,trivial⟩
 · intro args K r h
   unfold bn at h
   split at h
   · rw[P.aex] at h;exact Aa (by kernel_rfl) h
   · cases h
theorem ok:Proved Tryz.prog GLO.gx 196 spec:=dx _ ok0
end og

end
