/-
  SlhMakes, part 15: an interpreter of my own over abstract values, the pure functions, the walks and the plain law.
-/

import Derived.Test.YtciddcopcdmnbaaGreatDoorSlhMakesK
import Derived.Test.YtciddcopcdmnbaaGreatDoorSlhMakesH
import Derived.Test.YtciddcopcdmnbaaGreatDoorProg
import Derived.Test.YtciddcopcdmnbaaGreatDoorSlhMakesJ
import Derived.Test.YtciddcopcdmnbaaGreatDoorSlhMakesN
import Derived.KernelRfl
open Eq renaming trans → Aa

section
open Go Go.Abs Go.Proofs
set_option maxRecDepth 100000
set_option maxHeartbeats 0
set_option linter.unusedVariables false

namespace adg
noncomputable def D:Ctx:=({ P:=Tryz.prog,G:=[(195,qh.spec)],globs:=GLO.gx,hints:=[],loops:=[],inl:=[] }:Ctx)
theorem loops:dn (Tryz.f182.body.getD .skip)=[]:=by kernel_rfl
noncomputable def bn:Abs.Spec:=fun args K=>match args with
 | []=>P.adg (fun f e a b c d=>K (.agg [.v (.int .i64 f),.v (.int .i64 e),.arr .i64 3 a,.arr .i64 3 b,.arr .i64 3 c,.arr .i64 3 d,.fn (.func 195) [] []]))
 | _=>none
noncomputable def spec:Abs.Spec:=bn
theorem ok0:Proved Tryz.prog GLO.gx 182 bn:=by
 refine bq (D:=D) (fn:=Tryz.f182) (c:=Tryz.f182.body.getD .skip) [.any] (by kernel_rfl) (bf (by kernel_rfl)) (by kernel_rfl) (by kernel_rfl) (by kernel_rfl) ⟨qh.ok,trivial⟩ trivial ?_ ?_
 · rw[loops];exact trivial
 · intro args K r h
   unfold bn at h
   split at h
   · rw[P.awp] at h;exact Aa (by kernel_rfl) h
   · cases h
theorem ok:Proved Tryz.prog GLO.gx 182 spec:=ok0
end adg

namespace dx
noncomputable def D:Ctx:=({ P:=Tryz.prog,G:=[(195,qh.spec)],globs:=GLO.gx,hints:=[],loops:=[],inl:=[] }:Ctx)
theorem loops:dn (Tryz.f202.body.getD .skip)=[]:=by kernel_rfl
noncomputable def bn:Abs.Spec:=fun args K=>match args with
 | [.agg [.v (.int .i64 f),.v (.int .i64 e),.arr .i64 3 a,.arr .i64 3 b,.arr .i64 3 c,.arr .i64 3 d,.fn (.func 195) [] []],.v (.int .u32 g),.v (.int .i64 h)]=>P.dx f e a b c d g h (fun i=>K (.v (.int .u32 i)))
 | _=>none
noncomputable def spec:Abs.Spec:=bn
theorem ok0:Proved Tryz.prog GLO.gx 202 bn:=by
 refine bq (D:=D) (fn:=Tryz.f202) (c:=Tryz.f202.body.getD .skip) [.any] (by kernel_rfl) (bf (by kernel_rfl)) (by kernel_rfl) (by kernel_rfl) (by kernel_rfl) ⟨qh.ok,trivial⟩ trivial ?_ ?_
 · rw[loops];exact trivial
 · intro args K r h
   unfold bn at h
   split at h
   · rw[P.acs] at h;exact Aa (by kernel_rfl) h
   · cases h
theorem ok:Proved Tryz.prog GLO.gx 202 spec:=ok0
end dx

namespace kg
noncomputable def D:Ctx:=({ P:=Tryz.prog,G:=[(195,qh.spec),(202,dx.spec)],globs:=GLO.gx,hints:=[],loops:=[],inl:=[] }:Ctx)
theorem loops:dn (Tryz.f198.body.getD .skip)=[]:=by kernel_rfl
noncomputable def bn:Abs.Spec:=fun args K=>match args with
 | [.agg [.v (.int .i64 f),.v (.int .i64 e),.arr .i64 3 a,.arr .i64 3 b,.arr .i64 3 c,.arr .i64 3 d,.fn (.func 195) [] []],.v (.int .u32 g),.v (.int .i64 h)]=>P.kg f e a b c d g h (fun i=>K (.v (.int .u32 i)))
 | _=>none
noncomputable def spec:Abs.Spec:=bn
theorem ok0:Proved Tryz.prog GLO.gx 198 bn:=by
 refine bq (D:=D) (fn:=Tryz.f198) (c:=Tryz.f198.body.getD .skip) [.any] (by kernel_rfl) (bf (by kernel_rfl)) (by kernel_rfl) (by kernel_rfl) (by kernel_rfl) ⟨qh.ok,dx.ok,trivial⟩ trivial ?_ ?_
 · rw[loops];exact trivial
 · intro args K r h
   unfold bn at h
   split at h
   · rw[P.abb] at h;exact Aa (by kernel_rfl) h
   · cases h
theorem ok:Proved Tryz.prog GLO.gx 198 spec:=ok0
end kg

namespace l6
noncomputable def D:Ctx:=({ P:=Tryz.prog,G:=[(195,qh.spec),(202,dx.spec)],globs:=GLO.gx,hints:=[],loops:=[],inl:=[] }:Ctx)
theorem loops:dn (Tryz.f199.body.getD .skip)=[]:=by kernel_rfl
noncomputable def bn:Abs.Spec:=fun args K=>match args with
 | [.agg [.v (.int .i64 f),.v (.int .i64 e),.arr .i64 3 a,.arr .i64 3 b,.arr .i64 3 c,.arr .i64 3 d,.fn (.func 195) [] []],.v (.int .u32 g),.v (.int .i64 h)]=>P.l6 f e a b c d g h (fun i=>K (.v (.int .u32 i)))
 | _=>none
noncomputable def spec:Abs.Spec:=bn
theorem ok0:Proved Tryz.prog GLO.gx 199 bn:=by
 refine bq (D:=D) (fn:=Tryz.f199) (c:=Tryz.f199.body.getD .skip) [.any] (by kernel_rfl) (bf (by kernel_rfl)) (by kernel_rfl) (by kernel_rfl) (by kernel_rfl) ⟨qh.ok,dx.ok,trivial⟩ trivial ?_ ?_
 · rw[loops];exact trivial
 · intro args K r h
   unfold bn at h
   split at h
   · rw[P.abk] at h;exact Aa (by kernel_rfl) h
   · cases h
theorem ok:Proved Tryz.prog GLO.gx 199 spec:=ok0
end l6

namespace ny
abbrev X4:=P.b1l
def S4:X4→ASt:=fun (k,l,j,a,b,c,d,e,f,g,h,i)=>⟨[(2,.sl (.ints .u8 k)),(3,.ptr 0 0),(4,.ptr 1 0),(6,.ptr 2 0),(7,.ptr 3 0),(8,.v (.int .i64 l)),(19,.v (.int .i64 j))],[(0,some ⟨.box 206 [.v (.int .i64 a),.v (.int .i64 b),.arr .i64 3 c,.arr .i64 3 d,.arr .i64 3 e,.arr .i64 3 f,.fn (.func 195) [] []],false⟩),(1,some ⟨.box 219 [.arr .u32 8 g],false⟩),(2,some ⟨.box 219 [.arr .u32 8 h],false⟩),(3,some ⟨.box 222 [.arr .u32 16 i],false⟩)],4,143⟩
def V4:ASt→Option X4
 | ⟨[(2,.sl (.ints .u8 k)),(3,.ptr 0 0),(4,.ptr 1 0),(6,.ptr 2 0),(7,.ptr 3 0),(8,.v (.int .i64 l)),(19,.v (.int .i64 j))],[(0,some ⟨.box 206 [.v (.int .i64 a),.v (.int .i64 b),.arr .i64 3 c,.arr .i64 3 d,.arr .i64 3 e,.arr .i64 3 f,.fn (.func 195) [] []],false⟩),(1,some ⟨.box 219 [.arr .u32 8 g],false⟩),(2,some ⟨.box 219 [.arr .u32 8 h],false⟩),(3,some ⟨.box 222 [.arr .u32 16 i],false⟩)],4,143⟩=>some (k,l,j,a,b,c,d,e,f,g,h,i)
 | _=>none
theorem as4(st)(x)(h:V4 st=some x):st=S4 x:=by
 unfold V4 at h
 split at h
 · cases h;rfl
 · cases h
abbrev Y4:=P.b7h
abbrev X10:=P.b1q
def S10:X10→ASt:=fun (k,l,a,b,c,d,e,f,g,h,i,j)=>⟨[(3,.ptr 0 0),(4,.ptr 1 0),(6,.ptr 2 0),(7,.ptr 3 0),(10,.ptr 4 0),(38,.v (.int .i64 k)),(39,.v (.int .i64 l))],[(3,some ⟨.box 222 [.arr .u32 16 a],false⟩),(2,some ⟨.box 219 [.arr .u32 8 b],false⟩),(1,some ⟨.box 219 [.arr .u32 8 c],false⟩),(0,some ⟨.box 206 [.v (.int .i64 d),.v (.int .i64 e),.arr .i64 3 f,.arr .i64 3 g,.arr .i64 3 h,.arr .i64 3 i,.fn (.func 195) [] []],false⟩),(4,some ⟨.box 219 [.arr .u32 8 j],false⟩)],5,143⟩
def V10:ASt→Option X10
 | ⟨[(3,.ptr 0 0),(4,.ptr 1 0),(6,.ptr 2 0),(7,.ptr 3 0),(10,.ptr 4 0),(38,.v (.int .i64 k)),(39,.v (.int .i64 l))],[(3,some ⟨.box 222 [.arr .u32 16 a],false⟩),(2,some ⟨.box 219 [.arr .u32 8 b],false⟩),(1,some ⟨.box 219 [.arr .u32 8 c],false⟩),(0,some ⟨.box 206 [.v (.int .i64 d),.v (.int .i64 e),.arr .i64 3 f,.arr .i64 3 g,.arr .i64 3 h,.arr .i64 3 i,.fn (.func 195) [] []],false⟩),(4,some ⟨.box 219 [.arr .u32 8 j],false⟩)],5,143⟩=>some (k,l,a,b,c,d,e,f,g,h,i,j)
 | _=>none
theorem bgq(st)(x)(h:V10 st=some x):st=S10 x:=by
 unfold V10 at h
 split at h
 · cases h;rfl
 · cases h
abbrev Y10:=P.b6x
abbrev X21:=P.b1j
def S21:X21→ASt:=fun (a,b,c,d)=>⟨[(4,.ptr 1 0),(6,.ptr 2 0),(10,.ptr 4 0),(130,.v (.int .i64 a))],[(1,some ⟨.box 219 [.arr .u32 8 b],false⟩),(2,some ⟨.box 219 [.arr .u32 8 c],false⟩),(4,some ⟨.box 219 [.arr .u32 8 d],false⟩)],120,143⟩
def V21:ASt→Option X21
 | ⟨[(4,.ptr 1 0),(6,.ptr 2 0),(10,.ptr 4 0),(130,.v (.int .i64 a))],[(1,some ⟨.box 219 [.arr .u32 8 b],false⟩),(2,some ⟨.box 219 [.arr .u32 8 c],false⟩),(4,some ⟨.box 219 [.arr .u32 8 d],false⟩)],120,143⟩=>some (a,b,c,d)
 | _=>none
theorem bo7(st)(x)(h:V21 st=some x):st=S21 x:=by
 unfold V21 at h
 split at h
 · cases h;rfl
 · cases h
abbrev Y21:=P.b6l
def E4(K:AExit→ASt→Option R):Y4→Option R:=(fun x=>K (.exit 0) (S4 x))
noncomputable def L4:tq:=fun st K=>ady (V4 st) fun x=>P.b6m x (E4 K)
def E10(K:AExit→ASt→Option R):Y10→Option R:=(fun x=>K (.exit 2) (S10 x))
noncomputable def L10:tq:=fun st K=>ady (V10 st) fun x=>P.b5n x (E10 K)
def E21(K:AExit→ASt→Option R):Y21→Option R:=(fun x=>K (.exit 4) (S21 x))
noncomputable def L21:tq:=fun st K=>ady (V21 st) fun x=>P.b88 x (E21 K)
noncomputable def D:Ctx:=({ P:=Tryz.prog,G:=[(100,uz.spec),(195,qh.spec),(198,kg.spec),(199,l6.spec)],globs:=GLO.gx,hints:=[(21,⟨[4,6,10,130],[],[6],[],some (120,[1,2,4]),[],[],[]⟩),(10,⟨[3,4,6,7,10,38,39],[],[6],[],none,[],[],[]⟩),(4,⟨[2,3,4,6,7,8,19],[],[6],[],none,[],[],[]⟩)],loops:=[(4,L4),(10,L10),(21,L21)],inl:=[] }:Ctx)
theorem ajq(K)(next)(x):l5 D (fq Tryz.f194 4) K next (S4 x)=P.b05 x (fun x=>next (S4 x)) (E4 K):=by kernel_rfl
theorem asj:jv D (fq Tryz.f194 4):=iy S4 as4 (by kernel_rfl) P.cc2 ajq
theorem azg(K)(next)(x):l5 D (fq Tryz.f194 10) K next (S10 x)=P.bzh x (fun x=>next (S10 x)) (E10 K):=by kernel_rfl
theorem bhp:jv D (fq Tryz.f194 10):=iy S10 bgq (by kernel_rfl) P.ccs azg
theorem bjw(K)(next)(x):l5 D (fq Tryz.f194 21) K next (S21 x)=P.bx5 x (fun x=>next (S21 x)) (E21 K):=by kernel_rfl
theorem bpf:jv D (fq Tryz.f194 21):=iy S21 bo7 (by kernel_rfl) P.cd1 bjw
theorem loops:dn (Tryz.f194.body.getD .skip)=[fq Tryz.f194 4,fq Tryz.f194 10,fq Tryz.f194 21]:=by kernel_rfl
noncomputable def bn:Abs.Spec:=fun args K=>match args with
 | [.agg [.v (.int .i64 f),.v (.int .i64 e),.arr .i64 3 a,.arr .i64 3 b,.arr .i64 3 c,.arr .i64 3 d,.fn (.func 195) [] []],.arr .u32 8 g,.sl (.ints .u8 h)]=>P.ny f e a b c d g h (fun i=>K (.arr .u32 8 i))
 | _=>none
noncomputable def spec:Abs.Spec:=fun args K=>bn (l8 [.any,.any,.sl (.ints .u8 [])] args) K
theorem ok0:Proved Tryz.prog GLO.gx 194 bn:=by
 refine bq (D:=D) (fn:=Tryz.f194) (c:=Tryz.f194.body.getD .skip) [.any] (by kernel_rfl) (bf (by kernel_rfl)) (by kernel_rfl) (by kernel_rfl) (by kernel_rfl) ⟨uz.ok,qh.ok,kg.ok,l6.ok,trivial⟩ trivial ?_ ?_
 · rw[loops];exact ⟨asj,bhp,bpf,trivial⟩
 · intro args K r h
   unfold bn at h
   split at h
   · rw[P.aec] at h;exact Aa (by kernel_rfl) h
   · cases h
theorem ok:Proved Tryz.prog GLO.gx 194 spec:=dw _ ok0
end ny

namespace qy
abbrev X3:=P.bxp
def S3:X3→ASt:=fun (l,j,k,a,b,c,d,e,f,g,h,i)=>⟨[(2,.sl (.ints .u8 l)),(3,.ptr 0 0),(4,.ptr 1 0),(6,.ptr 2 0),(8,.ptr 3 0),(14,.arr .u64 8 j),(15,.v (.int .i64 k))],[(0,some ⟨.box 206 [.v (.int .i64 a),.v (.int .i64 b),.arr .i64 3 c,.arr .i64 3 d,.arr .i64 3 e,.arr .i64 3 f,.fn (.func 195) [] []],false⟩),(1,some ⟨.box 138 [.arr .u64 8 g],false⟩),(2,some ⟨.box 138 [.arr .u64 8 h],false⟩),(3,some ⟨.box 219 [.arr .u32 8 i],false⟩)],4,52⟩
def V3:ASt→Option X3
 | ⟨[(2,.sl (.ints .u8 l)),(3,.ptr 0 0),(4,.ptr 1 0),(6,.ptr 2 0),(8,.ptr 3 0),(14,.arr .u64 8 j),(15,.v (.int .i64 k))],[(0,some ⟨.box 206 [.v (.int .i64 a),.v (.int .i64 b),.arr .i64 3 c,.arr .i64 3 d,.arr .i64 3 e,.arr .i64 3 f,.fn (.func 195) [] []],false⟩),(1,some ⟨.box 138 [.arr .u64 8 g],false⟩),(2,some ⟨.box 138 [.arr .u64 8 h],false⟩),(3,some ⟨.box 219 [.arr .u32 8 i],false⟩)],4,52⟩=>some (l,j,k,a,b,c,d,e,f,g,h,i)
 | _=>none
theorem apy(st)(x)(h:V3 st=some x):st=S3 x:=by
 unfold V3 at h
 split at h
 · cases h;rfl
 · cases h
abbrev Y3:=P.b57
abbrev X8:=P.bxr
def S8:X8→ASt:=fun (k,j,a,b,c,d,e,f,g,h,i)=>⟨[(2,.sl (.ints .u8 k)),(3,.ptr 0 0),(4,.ptr 1 0),(6,.ptr 2 0),(8,.ptr 3 0),(11,.v (.int .i64 j))],[(3,some ⟨.box 219 [.arr .u32 8 a],false⟩),(2,some ⟨.box 138 [.arr .u64 8 b],false⟩),(1,some ⟨.box 138 [.arr .u64 8 c],false⟩),(0,some ⟨.box 206 [.v (.int .i64 d),.v (.int .i64 e),.arr .i64 3 f,.arr .i64 3 g,.arr .i64 3 h,.arr .i64 3 i,.fn (.func 195) [] []],false⟩)],4,52⟩
def V8:ASt→Option X8
 | ⟨[(2,.sl (.ints .u8 k)),(3,.ptr 0 0),(4,.ptr 1 0),(6,.ptr 2 0),(8,.ptr 3 0),(11,.v (.int .i64 j))],[(3,some ⟨.box 219 [.arr .u32 8 a],false⟩),(2,some ⟨.box 138 [.arr .u64 8 b],false⟩),(1,some ⟨.box 138 [.arr .u64 8 c],false⟩),(0,some ⟨.box 206 [.v (.int .i64 d),.v (.int .i64 e),.arr .i64 3 f,.arr .i64 3 g,.arr .i64 3 h,.arr .i64 3 i,.fn (.func 195) [] []],false⟩)],4,52⟩=>some (k,j,a,b,c,d,e,f,g,h,i)
 | _=>none
theorem bek(st)(x)(h:V8 st=some x):st=S8 x:=by
 unfold V8 at h
 split at h
 · cases h;rfl
 · cases h
abbrev Y8:=P.b77
abbrev X12:=P.bzf
def S12:X12→ASt:=fun (e,c,d,a,b)=>⟨[(2,.sl (.ints .u8 e)),(4,.ptr 1 0),(6,.ptr 2 0),(40,.arr .u32 8 c),(41,.v (.int .i64 d))],[(1,some ⟨.box 138 [.arr .u64 8 a],false⟩),(2,some ⟨.box 138 [.arr .u64 8 b],false⟩)],120,52⟩
def V12:ASt→Option X12
 | ⟨[(2,.sl (.ints .u8 e)),(4,.ptr 1 0),(6,.ptr 2 0),(40,.arr .u32 8 c),(41,.v (.int .i64 d))],[(1,some ⟨.box 138 [.arr .u64 8 a],false⟩),(2,some ⟨.box 138 [.arr .u64 8 b],false⟩)],120,52⟩=>some (e,c,d,a,b)
 | _=>none
theorem bhq(st)(x)(h:V12 st=some x):st=S12 x:=by
 unfold V12 at h
 split at h
 · cases h;rfl
 · cases h
abbrev Y12:=P.b9o
def E3(K:AExit→ASt→Option R):Y3→Option R:=(fun x=>K (.exit 0) (S3 x))
noncomputable def L3:tq:=fun st K=>ady (V3 st) fun x=>P.b6g x (E3 K)
def E8(K:AExit→ASt→Option R):Y8→Option R:=(fun x=>K (.exit 2) (S8 x))
noncomputable def L8:tq:=fun st K=>ady (V8 st) fun x=>P.b5g x (E8 K)
def E12(K:AExit→ASt→Option R):Y12→Option R:=(fun x=>K (.exit 4) (S12 x))
noncomputable def L12:tq:=fun st K=>ady (V12 st) fun x=>P.cb2 x (E12 K)
noncomputable def D:Ctx:=({ P:=Tryz.prog,G:=[(194,ny.spec),(195,qh.spec)],globs:=GLO.gx,hints:=[(12,⟨[2,4,6,40,41],[],[6,7],[],some (120,[1,2]),[],[],[]⟩),(8,⟨[2,3,4,6,8,11],[],[6,7],[(2,.sl (.ints .u8 []))],none,[],[],[]⟩),(3,⟨[2,3,4,6,8,14,15],[],[6,7],[],none,[],[],[]⟩)],loops:=[(3,L3),(8,L8),(12,L12)],inl:=[] }:Ctx)
theorem ahx(K)(next)(x):l5 D (fq Tryz.f181 3) K next (S3 x)=P.bz7 x (fun x=>next (S3 x)) (E3 K):=by kernel_rfl
theorem apa:jv D (fq Tryz.f181 3):=iy S3 apy (by kernel_rfl) P.ceo ahx
theorem atq(K)(next)(x):l5 D (fq Tryz.f181 8) K next (S8 x)=P.bxo x (fun x=>next (S8 x)) (E8 K):=by kernel_rfl
theorem bej:jv D (fq Tryz.f181 8):=iy S8 bek (by kernel_rfl) P.cd4 atq
theorem bas(K)(next)(x):l5 D (fq Tryz.f181 12) K next (S12 x)=P.byv x (fun x=>next (S12 x)) (E12 K):=by kernel_rfl
theorem bhf:jv D (fq Tryz.f181 12):=iy S12 bhq (by kernel_rfl) P.cde bas
theorem loops:dn (Tryz.f181.body.getD .skip)=[fq Tryz.f181 3,fq Tryz.f181 8,fq Tryz.f181 12]:=by kernel_rfl
noncomputable def bn:Abs.Spec:=fun args K=>match args with
 | [.agg [.v (.int .i64 f),.v (.int .i64 e),.arr .i64 3 a,.arr .i64 3 b,.arr .i64 3 c,.arr .i64 3 d,.fn (.func 195) [] []],.arr .u64 8 g,.sl (.ints .u8 h)]=>P.qy f e a b c d g h (fun i j=>K (.tuple [.arr .u64 8 i,.sl (.ints .u8 j)]))
 | _=>none
noncomputable def spec:Abs.Spec:=fun args K=>bn (l8 [.any,.any,.sl (.ints .u8 [])] args) K
theorem ok0:Proved Tryz.prog GLO.gx 181 bn:=by
 refine bq (D:=D) (fn:=Tryz.f181) (c:=Tryz.f181.body.getD .skip) [.any,.sl (.ints .u8 [])] (by kernel_rfl) (bf (by kernel_rfl)) (by kernel_rfl) (by kernel_rfl) (by kernel_rfl) ⟨ny.ok,qh.ok,trivial⟩ trivial ?_ ?_
 · rw[loops];exact ⟨apa,bej,bhf,trivial⟩
 · intro args K r h
   unfold bn at h
   split at h
   · rw[P.ahp] at h;exact Aa (by kernel_rfl) h
   · cases h
theorem ok:Proved Tryz.prog GLO.gx 181 spec:=dw _ ok0
end qy

namespace dz
noncomputable def D:Ctx:=({ P:=Tryz.prog,G:=[(197,qj.spec)],globs:=GLO.gx,hints:=[],loops:=[],inl:=[] }:Ctx)
theorem loops:dn (Tryz.f203.body.getD .skip)=[]:=by kernel_rfl
noncomputable def bn:Abs.Spec:=fun args K=>match args with
 | [.agg [.v (.int .i64 f),.v (.int .i64 e),.arr .i64 3 a,.arr .i64 3 b,.arr .i64 3 c,.arr .i64 3 d,.fn (.func 197) [] []],.v (.int .u64 g),.v (.int .i64 h)]=>P.dz f e a b c d g h (fun i=>K (.v (.int .u64 i)))
 | _=>none
noncomputable def spec:Abs.Spec:=bn
theorem ok0:Proved Tryz.prog GLO.gx 203 bn:=by
 refine bq (D:=D) (fn:=Tryz.f203) (c:=Tryz.f203.body.getD .skip) [.any] (by kernel_rfl) (bf (by kernel_rfl)) (by kernel_rfl) (by kernel_rfl) (by kernel_rfl) ⟨qj.ok,trivial⟩ trivial ?_ ?_
 · rw[loops];exact trivial
 · intro args K r h
   unfold bn at h
   split at h
   · rw[P.acu] at h;exact Aa (by kernel_rfl) h
   · cases h
theorem ok:Proved Tryz.prog GLO.gx 203 spec:=ok0
end dz

namespace j6
noncomputable def D:Ctx:=({ P:=Tryz.prog,G:=[(197,qj.spec),(203,dz.spec)],globs:=GLO.gx,hints:=[],loops:=[],inl:=[] }:Ctx)
theorem loops:dn (Tryz.f200.body.getD .skip)=[]:=by kernel_rfl
noncomputable def bn:Abs.Spec:=fun args K=>match args with
 | [.agg [.v (.int .i64 f),.v (.int .i64 e),.arr .i64 3 a,.arr .i64 3 b,.arr .i64 3 c,.arr .i64 3 d,.fn (.func 197) [] []],.v (.int .u64 g),.v (.int .i64 h)]=>P.j6 f e a b c d g h (fun i=>K (.v (.int .u64 i)))
 | _=>none
noncomputable def spec:Abs.Spec:=bn
theorem ok0:Proved Tryz.prog GLO.gx 200 bn:=by
 refine bq (D:=D) (fn:=Tryz.f200) (c:=Tryz.f200.body.getD .skip) [.any] (by kernel_rfl) (bf (by kernel_rfl)) (by kernel_rfl) (by kernel_rfl) (by kernel_rfl) ⟨qj.ok,dz.ok,trivial⟩ trivial ?_ ?_
 · rw[loops];exact trivial
 · intro args K r h
   unfold bn at h
   split at h
   · rw[P.abe] at h;exact Aa (by kernel_rfl) h
   · cases h
theorem ok:Proved Tryz.prog GLO.gx 200 spec:=ok0
end j6

namespace l7
noncomputable def D:Ctx:=({ P:=Tryz.prog,G:=[(197,qj.spec),(203,dz.spec)],globs:=GLO.gx,hints:=[],loops:=[],inl:=[] }:Ctx)
theorem loops:dn (Tryz.f201.body.getD .skip)=[]:=by kernel_rfl
noncomputable def bn:Abs.Spec:=fun args K=>match args with
 | [.agg [.v (.int .i64 f),.v (.int .i64 e),.arr .i64 3 a,.arr .i64 3 b,.arr .i64 3 c,.arr .i64 3 d,.fn (.func 197) [] []],.v (.int .u64 g),.v (.int .i64 h)]=>P.l7 f e a b c d g h (fun i=>K (.v (.int .u64 i)))
 | _=>none
noncomputable def spec:Abs.Spec:=bn
theorem ok0:Proved Tryz.prog GLO.gx 201 bn:=by
 refine bq (D:=D) (fn:=Tryz.f201) (c:=Tryz.f201.body.getD .skip) [.any] (by kernel_rfl) (bf (by kernel_rfl)) (by kernel_rfl) (by kernel_rfl) (by kernel_rfl) ⟨qj.ok,dz.ok,trivial⟩ trivial ?_ ?_
 · rw[loops];exact trivial
 · intro args K r h
   unfold bn at h
   split at h
   · rw[P.abl] at h;exact Aa (by kernel_rfl) h
   · cases h
theorem ok:Proved Tryz.prog GLO.gx 201 spec:=ok0
end l7

namespace mq
abbrev X4:=P.b2i
def S4:X4→ASt:=fun (k,l,j,a,b,c,d,e,f,g,h,i)=>⟨[(2,.sl (.ints .u8 k)),(3,.ptr 0 0),(4,.ptr 1 0),(6,.ptr 2 0),(7,.ptr 3 0),(8,.v (.int .i64 l)),(19,.v (.int .i64 j))],[(0,some ⟨.box 211 [.v (.int .i64 a),.v (.int .i64 b),.arr .i64 3 c,.arr .i64 3 d,.arr .i64 3 e,.arr .i64 3 f,.fn (.func 197) [] []],false⟩),(1,some ⟨.box 138 [.arr .u64 8 g],false⟩),(2,some ⟨.box 138 [.arr .u64 8 h],false⟩),(3,some ⟨.box 225 [.arr .u64 16 i],false⟩)],4,142⟩
def V4:ASt→Option X4
 | ⟨[(2,.sl (.ints .u8 k)),(3,.ptr 0 0),(4,.ptr 1 0),(6,.ptr 2 0),(7,.ptr 3 0),(8,.v (.int .i64 l)),(19,.v (.int .i64 j))],[(0,some ⟨.box 211 [.v (.int .i64 a),.v (.int .i64 b),.arr .i64 3 c,.arr .i64 3 d,.arr .i64 3 e,.arr .i64 3 f,.fn (.func 197) [] []],false⟩),(1,some ⟨.box 138 [.arr .u64 8 g],false⟩),(2,some ⟨.box 138 [.arr .u64 8 h],false⟩),(3,some ⟨.box 225 [.arr .u64 16 i],false⟩)],4,142⟩=>some (k,l,j,a,b,c,d,e,f,g,h,i)
 | _=>none
theorem as4(st)(x)(h:V4 st=some x):st=S4 x:=by
 unfold V4 at h
 split at h
 · cases h;rfl
 · cases h
abbrev Y4:=P.caq
abbrev X10:=P.b1x
def S10:X10→ASt:=fun (k,l,a,b,c,d,e,f,g,h,i,j)=>⟨[(3,.ptr 0 0),(4,.ptr 1 0),(6,.ptr 2 0),(7,.ptr 3 0),(10,.ptr 4 0),(37,.v (.int .i64 k)),(38,.v (.int .i64 l))],[(3,some ⟨.box 225 [.arr .u64 16 a],false⟩),(2,some ⟨.box 138 [.arr .u64 8 b],false⟩),(1,some ⟨.box 138 [.arr .u64 8 c],false⟩),(0,some ⟨.box 211 [.v (.int .i64 d),.v (.int .i64 e),.arr .i64 3 f,.arr .i64 3 g,.arr .i64 3 h,.arr .i64 3 i,.fn (.func 197) [] []],false⟩),(4,some ⟨.box 138 [.arr .u64 8 j],false⟩)],5,142⟩
def V10:ASt→Option X10
 | ⟨[(3,.ptr 0 0),(4,.ptr 1 0),(6,.ptr 2 0),(7,.ptr 3 0),(10,.ptr 4 0),(37,.v (.int .i64 k)),(38,.v (.int .i64 l))],[(3,some ⟨.box 225 [.arr .u64 16 a],false⟩),(2,some ⟨.box 138 [.arr .u64 8 b],false⟩),(1,some ⟨.box 138 [.arr .u64 8 c],false⟩),(0,some ⟨.box 211 [.v (.int .i64 d),.v (.int .i64 e),.arr .i64 3 f,.arr .i64 3 g,.arr .i64 3 h,.arr .i64 3 i,.fn (.func 197) [] []],false⟩),(4,some ⟨.box 138 [.arr .u64 8 j],false⟩)],5,142⟩=>some (k,l,a,b,c,d,e,f,g,h,i,j)
 | _=>none
theorem bgq(st)(x)(h:V10 st=some x):st=S10 x:=by
 unfold V10 at h
 split at h
 · cases h;rfl
 · cases h
abbrev Y10:=P.ccm
abbrev X21:=P.bx9
def S21:X21→ASt:=fun (a,b,c,d)=>⟨[(4,.ptr 1 0),(6,.ptr 2 0),(10,.ptr 4 0),(129,.v (.int .i64 a))],[(1,some ⟨.box 138 [.arr .u64 8 b],false⟩),(2,some ⟨.box 138 [.arr .u64 8 c],false⟩),(4,some ⟨.box 138 [.arr .u64 8 d],false⟩)],120,142⟩
def V21:ASt→Option X21
 | ⟨[(4,.ptr 1 0),(6,.ptr 2 0),(10,.ptr 4 0),(129,.v (.int .i64 a))],[(1,some ⟨.box 138 [.arr .u64 8 b],false⟩),(2,some ⟨.box 138 [.arr .u64 8 c],false⟩),(4,some ⟨.box 138 [.arr .u64 8 d],false⟩)],120,142⟩=>some (a,b,c,d)
 | _=>none
theorem bo7(st)(x)(h:V21 st=some x):st=S21 x:=by
 unfold V21 at h
 split at h
 · cases h;rfl
 · cases h
abbrev Y21:=P.b9p
def E4(K:AExit→ASt→Option R):Y4→Option R:=(fun x=>K (.exit 0) (S4 x))
noncomputable def L4:tq:=fun st K=>ady (V4 st) fun x=>P.b7f x (E4 K)
def E10(K:AExit→ASt→Option R):Y10→Option R:=(fun x=>K (.exit 2) (S10 x))
noncomputable def L10:tq:=fun st K=>ady (V10 st) fun x=>P.b54 x (E10 K)
def E21(K:AExit→ASt→Option R):Y21→Option R:=(fun x=>K (.exit 4) (S21 x))
noncomputable def L21:tq:=fun st K=>ady (V21 st) fun x=>P.b6w x (E21 K)
noncomputable def D:Ctx:=({ P:=Tryz.prog,G:=[(100,uz.spec),(197,qj.spec),(200,j6.spec),(201,l7.spec)],globs:=GLO.gx,hints:=[(21,⟨[4,6,10,129],[],[6],[],some (120,[1,2,4]),[],[],[]⟩),(10,⟨[3,4,6,7,10,37,38],[],[6],[],none,[],[],[]⟩),(4,⟨[2,3,4,6,7,8,19],[],[6],[],none,[],[],[]⟩)],loops:=[(4,L4),(10,L10),(21,L21)],inl:=[] }:Ctx)
theorem ajq(K)(next)(x):l5 D (fq Tryz.f196 4) K next (S4 x)=P.bxf x (fun x=>next (S4 x)) (E4 K):=by kernel_rfl
theorem asj:jv D (fq Tryz.f196 4):=iy S4 as4 (by kernel_rfl) P.cdd ajq
theorem azg(K)(next)(x):l5 D (fq Tryz.f196 10) K next (S10 x)=P.b0b x (fun x=>next (S10 x)) (E10 K):=by kernel_rfl
theorem bhp:jv D (fq Tryz.f196 10):=iy S10 bgq (by kernel_rfl) P.cer azg
theorem bjw(K)(next)(x):l5 D (fq Tryz.f196 21) K next (S21 x)=P.b07 x (fun x=>next (S21 x)) (E21 K):=by kernel_rfl
theorem bpf:jv D (fq Tryz.f196 21):=iy S21 bo7 (by kernel_rfl) P.cc6 bjw
theorem loops:dn (Tryz.f196.body.getD .skip)=[fq Tryz.f196 4,fq Tryz.f196 10,fq Tryz.f196 21]:=by kernel_rfl
noncomputable def bn:Abs.Spec:=fun args K=>match args with
 | [.agg [.v (.int .i64 f),.v (.int .i64 e),.arr .i64 3 a,.arr .i64 3 b,.arr .i64 3 c,.arr .i64 3 d,.fn (.func 197) [] []],.arr .u64 8 g,.sl (.ints .u8 h)]=>P.mq f e a b c d g h (fun i=>K (.arr .u64 8 i))
 | _=>none
noncomputable def spec:Abs.Spec:=fun args K=>bn (l8 [.any,.any,.sl (.ints .u8 [])] args) K
theorem ok0:Proved Tryz.prog GLO.gx 196 bn:=by
 refine bq (D:=D) (fn:=Tryz.f196) (c:=Tryz.f196.body.getD .skip) [.any] (by kernel_rfl) (bf (by kernel_rfl)) (by kernel_rfl) (by kernel_rfl) (by kernel_rfl) ⟨uz.ok,qj.ok,j6.ok,l7.ok,trivial⟩ trivial ?_ ?_
 · rw[loops];exact ⟨asj,bhp,bpf,trivial⟩
 · intro args K r h
   unfold bn at h
   split at h
   · rw[P.aef] at h;exact Aa (by kernel_rfl) h
   · cases h
theorem ok:Proved Tryz.prog GLO.gx 196 spec:=dw _ ok0
end mq

end
