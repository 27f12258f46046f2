/-
  SlhSigns, part 15: lemmas for the law.
-/

import Derived.Test.YtciddcopcdmnbaaGreatDoorSlhSignsK
import Derived.Test.YtciddcopcdmnbaaGreatDoorSlhSignsH
import Derived.Test.YtciddcopcdmnbaaGreatDoorProg
import Derived.Test.YtciddcopcdmnbaaGreatDoorSlhSignsJ
import Derived.Test.YtciddcopcdmnbaaGreatDoorSlhSignsN
import Derived.KernelRfl
open Eq renaming trans → Aa

section
open Go Go.Abs Go.Proofs
set_option maxRecDepth 100000
set_option maxHeartbeats 0
set_option linter.unusedVariables false

namespace ow
abbrev X4:=P.b75
def S4:X4→ASt:=fun (k,l,j,a,b,c,d,e,f,g,h,i)=>⟨[(2,.sl (.ints .u8 k)),(3,.ptr 0 0),(4,.ptr 1 0),(6,.ptr 2 0),(7,.ptr 3 0),(8,.v (.int .i64 l)),(19,.v (.int .i64 j))],[(0,some ⟨.box 206 [.v (.int .i64 a),.v (.int .i64 b),.arr .i64 3 c,.arr .i64 3 d,.arr .i64 3 e,.arr .i64 3 f,.fn (.func 195) [] []],false⟩),(1,some ⟨.box 219 [.arr .u32 8 g],false⟩),(2,some ⟨.box 219 [.arr .u32 8 h],false⟩),(3,some ⟨.box 222 [.arr .u32 16 i],false⟩)],4,143⟩
def V4:ASt→Option X4
 | ⟨[(2,.sl (.ints .u8 k)),(3,.ptr 0 0),(4,.ptr 1 0),(6,.ptr 2 0),(7,.ptr 3 0),(8,.v (.int .i64 l)),(19,.v (.int .i64 j))],[(0,some ⟨.box 206 [.v (.int .i64 a),.v (.int .i64 b),.arr .i64 3 c,.arr .i64 3 d,.arr .i64 3 e,.arr .i64 3 f,.fn (.func 195) [] []],false⟩),(1,some ⟨.box 219 [.arr .u32 8 g],false⟩),(2,some ⟨.box 219 [.arr .u32 8 h],false⟩),(3,some ⟨.box 222 [.arr .u32 16 i],false⟩)],4,143⟩=>some (k,l,j,a,b,c,d,e,f,g,h,i)
 | _=>none
theorem axb(st)(x)(h:V4 st=some x):st=S4 x:=by unfold V4 at h;split at h;(cases h;rfl);cases h
abbrev Y4:=P.cjq
abbrev X10:=P.b9c
def S10:X10→ASt:=fun (k,l,a,b,c,d,e,f,g,h,i,j)=>⟨[(3,.ptr 0 0),(4,.ptr 1 0),(6,.ptr 2 0),(7,.ptr 3 0),(10,.ptr 4 0),(38,.v (.int .i64 k)),(39,.v (.int .i64 l))],[(3,some ⟨.box 222 [.arr .u32 16 a],false⟩),(2,some ⟨.box 219 [.arr .u32 8 b],false⟩),(1,some ⟨.box 219 [.arr .u32 8 c],false⟩),(0,some ⟨.box 206 [.v (.int .i64 d),.v (.int .i64 e),.arr .i64 3 f,.arr .i64 3 g,.arr .i64 3 h,.arr .i64 3 i,.fn (.func 195) [] []],false⟩),(4,some ⟨.box 219 [.arr .u32 8 j],false⟩)],5,143⟩
def V10:ASt→Option X10
 | ⟨[(3,.ptr 0 0),(4,.ptr 1 0),(6,.ptr 2 0),(7,.ptr 3 0),(10,.ptr 4 0),(38,.v (.int .i64 k)),(39,.v (.int .i64 l))],[(3,some ⟨.box 222 [.arr .u32 16 a],false⟩),(2,some ⟨.box 219 [.arr .u32 8 b],false⟩),(1,some ⟨.box 219 [.arr .u32 8 c],false⟩),(0,some ⟨.box 206 [.v (.int .i64 d),.v (.int .i64 e),.arr .i64 3 f,.arr .i64 3 g,.arr .i64 3 h,.arr .i64 3 i,.fn (.func 195) [] []],false⟩),(4,some ⟨.box 219 [.arr .u32 8 j],false⟩)],5,143⟩=>some (k,l,a,b,c,d,e,f,g,h,i,j)
 | _=>none
theorem bhb(st)(x)(h:V10 st=some x):st=S10 x:=by unfold V10 at h;split at h;(cases h;rfl);cases h
abbrev Y10:=P.cia
abbrev X21:=P.b99
def S21:X21→ASt:=fun (a,b,c,d)=>⟨[(4,.ptr 1 0),(6,.ptr 2 0),(10,.ptr 4 0),(130,.v (.int .i64 a))],[(1,some ⟨.box 219 [.arr .u32 8 b],false⟩),(2,some ⟨.box 219 [.arr .u32 8 c],false⟩),(4,some ⟨.box 219 [.arr .u32 8 d],false⟩)],120,143⟩
def V21:ASt→Option X21
 | ⟨[(4,.ptr 1 0),(6,.ptr 2 0),(10,.ptr 4 0),(130,.v (.int .i64 a))],[(1,some ⟨.box 219 [.arr .u32 8 b],false⟩),(2,some ⟨.box 219 [.arr .u32 8 c],false⟩),(4,some ⟨.box 219 [.arr .u32 8 d],false⟩)],120,143⟩=>some (a,b,c,d)
 | _=>none
theorem bw0(st)(x)(h:V21 st=some x):st=S21 x:=by unfold V21 at h;split at h;(cases h;rfl);cases h
abbrev Y21:=P.chj
def E4(K:AExit→ASt→Option R):Y4→Option R:=(fun x=>K (.exit 0) (S4 x))
noncomputable def L4:p8:=fun st K=>abx (V4 st) fun x=>P.cks x (E4 K)
def E10(K:AExit→ASt→Option R):Y10→Option R:=(fun x=>K (.exit 2) (S10 x))
noncomputable def L10:p8:=fun st K=>abx (V10 st) fun x=>P.cpj x (E10 K)
def E21(K:AExit→ASt→Option R):Y21→Option R:=(fun x=>K (.exit 4) (S21 x))
noncomputable def L21:p8:=fun st K=>abx (V21 st) fun x=>P.cm6 x (E21 K)
noncomputable def D:Ctx:=⟨Tryz.prog,[(100,wz.spec),(195,uj.spec),(198,l8.spec),(199,oh.spec)],GLO.gx,[(21,⟨[4,6,10,130],[],[6],[],some (120,[1,2,4]),[],[],[]⟩),(10,⟨[3,4,6,7,10,38,39],[],[6],[],none,[],[],[]⟩),(4,⟨[2,3,4,6,7,8,19],[],[6],[],none,[],[],[]⟩)],[(4,L4),(10,L10),(21,L21)],[],false,none,none,[],false⟩
theorem awr:jl D (gu Tryz.f194 4):=fq S4 axb (by kernel_rfl) P.crt (enc:=E4) fun _ _ _=>by kernel_rfl
theorem bg3:jl D (gu Tryz.f194 10):=fq S10 bhb (by kernel_rfl) P.cpo (enc:=E10) fun _ _ _=>by kernel_rfl
theorem byn:jl D (gu Tryz.f194 21):=fq S21 bw0 (by kernel_rfl) P.cpx (enc:=E21) fun _ _ _=>by kernel_rfl
theorem loops:gy (Tryz.f194.body.getD .skip)=[gu Tryz.f194 4,gu Tryz.f194 10,gu Tryz.f194 21]:=by kernel_rfl
noncomputable def cu:Abs.Spec:=fun args K=>match args with
 | [.agg [.v (.int .i64 f),.v (.int .i64 e),.arr .i64 3 a,.arr .i64 3 b,.arr .i64 3 c,.arr .i64 3 d,.fn (.func 195) [] []],.arr .u32 8 g,.sl (.ints .u8 h)]=>P.ow f e a b c d g h (fun i=>K (.arr .u32 8 i))
 | _=>none
noncomputable def spec:Abs.Spec:=fun args K=>cu (j5 [.any,.any,.sl (.ints .u8 [])] args) K
theorem ok0:Proved Tryz.prog GLO.gx 194 cu:=pL (D:=D) (fn:=Tryz.f194) [.any] ⟨wz.ok,uj.ok,l8.ok,oh.ok,trivial⟩ loops ⟨awr,bg3,byn,trivial⟩ fun _ K _ h=>by
  unfold cu at h
  split at h
  · rw[P.afk] at h;exact Aa (by kernel_rfl) h
  · cases h
theorem ok:Proved Tryz.prog GLO.gx 194 spec:=bq _ ok0
end ow

namespace vk
abbrev X3:=P.b9x
def S3:X3→ASt:=fun (l,j,k,a,b,c,d,e,f,g,h,i)=>⟨[(2,.sl (.ints .u8 l)),(3,.ptr 0 0),(4,.ptr 1 0),(6,.ptr 2 0),(8,.ptr 3 0),(14,.arr .u64 8 j),(15,.v (.int .i64 k))],[(0,some ⟨.box 206 [.v (.int .i64 a),.v (.int .i64 b),.arr .i64 3 c,.arr .i64 3 d,.arr .i64 3 e,.arr .i64 3 f,.fn (.func 195) [] []],false⟩),(1,some ⟨.box 138 [.arr .u64 8 g],false⟩),(2,some ⟨.box 138 [.arr .u64 8 h],false⟩),(3,some ⟨.box 219 [.arr .u32 8 i],false⟩)],4,52⟩
def V3:ASt→Option X3
 | ⟨[(2,.sl (.ints .u8 l)),(3,.ptr 0 0),(4,.ptr 1 0),(6,.ptr 2 0),(8,.ptr 3 0),(14,.arr .u64 8 j),(15,.v (.int .i64 k))],[(0,some ⟨.box 206 [.v (.int .i64 a),.v (.int .i64 b),.arr .i64 3 c,.arr .i64 3 d,.arr .i64 3 e,.arr .i64 3 f,.fn (.func 195) [] []],false⟩),(1,some ⟨.box 138 [.arr .u64 8 g],false⟩),(2,some ⟨.box 138 [.arr .u64 8 h],false⟩),(3,some ⟨.box 219 [.arr .u32 8 i],false⟩)],4,52⟩=>some (l,j,k,a,b,c,d,e,f,g,h,i)
 | _=>none
theorem apk(st)(x)(h:V3 st=some x):st=S3 x:=by unfold V3 at h;split at h;(cases h;rfl);cases h
abbrev Y3:=P.cn7
abbrev X8:=P.b8y
def S8:X8→ASt:=fun (k,j,a,b,c,d,e,f,g,h,i)=>⟨[(2,.sl (.ints .u8 k)),(3,.ptr 0 0),(4,.ptr 1 0),(6,.ptr 2 0),(8,.ptr 3 0),(11,.v (.int .i64 j))],[(3,some ⟨.box 219 [.arr .u32 8 a],false⟩),(2,some ⟨.box 138 [.arr .u64 8 b],false⟩),(1,some ⟨.box 138 [.arr .u64 8 c],false⟩),(0,some ⟨.box 206 [.v (.int .i64 d),.v (.int .i64 e),.arr .i64 3 f,.arr .i64 3 g,.arr .i64 3 h,.arr .i64 3 i,.fn (.func 195) [] []],false⟩)],4,52⟩
def V8:ASt→Option X8
 | ⟨[(2,.sl (.ints .u8 k)),(3,.ptr 0 0),(4,.ptr 1 0),(6,.ptr 2 0),(8,.ptr 3 0),(11,.v (.int .i64 j))],[(3,some ⟨.box 219 [.arr .u32 8 a],false⟩),(2,some ⟨.box 138 [.arr .u64 8 b],false⟩),(1,some ⟨.box 138 [.arr .u64 8 c],false⟩),(0,some ⟨.box 206 [.v (.int .i64 d),.v (.int .i64 e),.arr .i64 3 f,.arr .i64 3 g,.arr .i64 3 h,.arr .i64 3 i,.fn (.func 195) [] []],false⟩)],4,52⟩=>some (k,j,a,b,c,d,e,f,g,h,i)
 | _=>none
theorem bli(st)(x)(h:V8 st=some x):st=S8 x:=by unfold V8 at h;split at h;(cases h;rfl);cases h
abbrev Y8:=P.ckg
abbrev X12:=P.b8h
def S12:X12→ASt:=fun (e,c,d,a,b)=>⟨[(2,.sl (.ints .u8 e)),(4,.ptr 1 0),(6,.ptr 2 0),(40,.arr .u32 8 c),(41,.v (.int .i64 d))],[(1,some ⟨.box 138 [.arr .u64 8 a],false⟩),(2,some ⟨.box 138 [.arr .u64 8 b],false⟩)],120,52⟩
def V12:ASt→Option X12
 | ⟨[(2,.sl (.ints .u8 e)),(4,.ptr 1 0),(6,.ptr 2 0),(40,.arr .u32 8 c),(41,.v (.int .i64 d))],[(1,some ⟨.box 138 [.arr .u64 8 a],false⟩),(2,some ⟨.box 138 [.arr .u64 8 b],false⟩)],120,52⟩=>some (e,c,d,a,b)
 | _=>none
theorem bej(st)(x)(h:V12 st=some x):st=S12 x:=by unfold V12 at h;split at h;(cases h;rfl);cases h
abbrev Y12:=P.cn5
def E3(K:AExit→ASt→Option R):Y3→Option R:=(fun x=>K (.exit 0) (S3 x))
noncomputable def L3:p8:=fun st K=>abx (V3 st) fun x=>P.cpd x (E3 K)
def E8(K:AExit→ASt→Option R):Y8→Option R:=(fun x=>K (.exit 2) (S8 x))
noncomputable def L8:p8:=fun st K=>abx (V8 st) fun x=>P.ch0 x (E8 K)
def E12(K:AExit→ASt→Option R):Y12→Option R:=(fun x=>K (.exit 4) (S12 x))
noncomputable def L12:p8:=fun st K=>abx (V12 st) fun x=>P.cm7 x (E12 K)
noncomputable def D:Ctx:=⟨Tryz.prog,[(194,ow.spec),(195,uj.spec)],GLO.gx,[(12,⟨[2,4,6,40,41],[],[6,7],[],some (120,[1,2]),[],[],[]⟩),(8,⟨[2,3,4,6,8,11],[],[6,7],[(2,.sl (.ints .u8 []))],none,[],[],[]⟩),(3,⟨[2,3,4,6,8,14,15],[],[6,7],[],none,[],[],[]⟩)],[(3,L3),(8,L8),(12,L12)],[],false,none,none,[],false⟩
theorem aqa:jl D (gu Tryz.f181 3):=fq S3 apk (by kernel_rfl) P.cq3 (enc:=E3) fun _ _ _=>by kernel_rfl
theorem bmn:jl D (gu Tryz.f181 8):=fq S8 bli (by kernel_rfl) P.cry (enc:=E8) fun _ _ _=>by kernel_rfl
theorem bgt:jl D (gu Tryz.f181 12):=fq S12 bej (by kernel_rfl) P.cqq (enc:=E12) fun _ _ _=>by kernel_rfl
theorem loops:gy (Tryz.f181.body.getD .skip)=[gu Tryz.f181 3,gu Tryz.f181 8,gu Tryz.f181 12]:=by kernel_rfl
noncomputable def cu:Abs.Spec:=fun args K=>match args with
 | [.agg [.v (.int .i64 f),.v (.int .i64 e),.arr .i64 3 a,.arr .i64 3 b,.arr .i64 3 c,.arr .i64 3 d,.fn (.func 195) [] []],.arr .u64 8 g,.sl (.ints .u8 h)]=>P.vk f e a b c d g h (fun i j=>K (.tuple [.arr .u64 8 i,.sl (.ints .u8 j)]))
 | _=>none
noncomputable def spec:Abs.Spec:=fun args K=>cu (j5 [.any,.any,.sl (.ints .u8 [])] args) K
theorem ok0:Proved Tryz.prog GLO.gx 181 cu:=pL (D:=D) (fn:=Tryz.f181) [.any,.sl (.ints .u8 [])] ⟨ow.ok,uj.ok,trivial⟩ loops ⟨aqa,bmn,bgt,trivial⟩ fun _ K _ h=>by
  unfold cu at h
  split at h
  · rw[P.ajd] at h;exact Aa (by kernel_rfl) h
  · cases h
theorem ok:Proved Tryz.prog GLO.gx 181 spec:=bq _ ok0
end vk

namespace dn
noncomputable def spec:Abs.Spec:=fun args K=>match args with
 | [.agg [.v (.int .i64 f),.v (.int .i64 e),.arr .i64 3 a,.arr .i64 3 b,.arr .i64 3 c,.arr .i64 3 d,.fn (.func 197) [] []],.v (.int .u64 g),.v (.int .i64 h)]=>P.dn f e a b c d g h (fun i=>K (.v (.int .u64 i)))
 | _=>none
theorem ok:Proved Tryz.prog GLO.gx 203 spec:=pK (G:=[(197,uq.spec)]) (fn:=Tryz.f203) [.any] ⟨uq.ok,trivial⟩ fun _ K _ h=>by
  unfold spec at h
  split at h
  · rw[P.adz] at h;exact Aa (by kernel_rfl) h
  · cases h
end dn

namespace l9
noncomputable def spec:Abs.Spec:=fun args K=>match args with
 | [.agg [.v (.int .i64 f),.v (.int .i64 e),.arr .i64 3 a,.arr .i64 3 b,.arr .i64 3 c,.arr .i64 3 d,.fn (.func 197) [] []],.v (.int .u64 g),.v (.int .i64 h)]=>P.l9 f e a b c d g h (fun i=>K (.v (.int .u64 i)))
 | _=>none
theorem ok:Proved Tryz.prog GLO.gx 200 spec:=pK (G:=[(197,uq.spec),(203,dn.spec)]) (fn:=Tryz.f200) [.any] ⟨uq.ok,dn.ok,trivial⟩ fun _ K _ h=>by
  unfold spec at h
  split at h
  · rw[P.acd] at h;exact Aa (by kernel_rfl) h
  · cases h
end l9

namespace og
noncomputable def spec:Abs.Spec:=fun args K=>match args with
 | [.agg [.v (.int .i64 f),.v (.int .i64 e),.arr .i64 3 a,.arr .i64 3 b,.arr .i64 3 c,.arr .i64 3 d,.fn (.func 197) [] []],.v (.int .u64 g),.v (.int .i64 h)]=>P.og f e a b c d g h (fun i=>K (.v (.int .u64 i)))
 | _=>none
theorem ok:Proved Tryz.prog GLO.gx 201 spec:=pK (G:=[(197,uq.spec),(203,dn.spec)]) (fn:=Tryz.f201) [.any] ⟨uq.ok,dn.ok,trivial⟩ fun _ K _ h=>by
  unfold spec at h
  split at h
  · rw[P.acy] at h;exact Aa (by kernel_rfl) h
  · cases h
end og

namespace ou
abbrev X4:=P.b9h
def S4:X4→ASt:=fun (k,l,j,a,b,c,d,e,f,g,h,i)=>⟨[(2,.sl (.ints .u8 k)),(3,.ptr 0 0),(4,.ptr 1 0),(6,.ptr 2 0),(7,.ptr 3 0),(8,.v (.int .i64 l)),(19,.v (.int .i64 j))],[(0,some ⟨.box 211 [.v (.int .i64 a),.v (.int .i64 b),.arr .i64 3 c,.arr .i64 3 d,.arr .i64 3 e,.arr .i64 3 f,.fn (.func 197) [] []],false⟩),(1,some ⟨.box 138 [.arr .u64 8 g],false⟩),(2,some ⟨.box 138 [.arr .u64 8 h],false⟩),(3,some ⟨.box 225 [.arr .u64 16 i],false⟩)],4,142⟩
def V4:ASt→Option X4
 | ⟨[(2,.sl (.ints .u8 k)),(3,.ptr 0 0),(4,.ptr 1 0),(6,.ptr 2 0),(7,.ptr 3 0),(8,.v (.int .i64 l)),(19,.v (.int .i64 j))],[(0,some ⟨.box 211 [.v (.int .i64 a),.v (.int .i64 b),.arr .i64 3 c,.arr .i64 3 d,.arr .i64 3 e,.arr .i64 3 f,.fn (.func 197) [] []],false⟩),(1,some ⟨.box 138 [.arr .u64 8 g],false⟩),(2,some ⟨.box 138 [.arr .u64 8 h],false⟩),(3,some ⟨.box 225 [.arr .u64 16 i],false⟩)],4,142⟩=>some (k,l,j,a,b,c,d,e,f,g,h,i)
 | _=>none
theorem axb(st)(x)(h:V4 st=some x):st=S4 x:=by unfold V4 at h;split at h;(cases h;rfl);cases h
abbrev Y4:=P.cl9
abbrev X10:=P.b97
def S10:X10→ASt:=fun (k,l,a,b,c,d,e,f,g,h,i,j)=>⟨[(3,.ptr 0 0),(4,.ptr 1 0),(6,.ptr 2 0),(7,.ptr 3 0),(10,.ptr 4 0),(37,.v (.int .i64 k)),(38,.v (.int .i64 l))],[(3,some ⟨.box 225 [.arr .u64 16 a],false⟩),(2,some ⟨.box 138 [.arr .u64 8 b],false⟩),(1,some ⟨.box 138 [.arr .u64 8 c],false⟩),(0,some ⟨.box 211 [.v (.int .i64 d),.v (.int .i64 e),.arr .i64 3 f,.arr .i64 3 g,.arr .i64 3 h,.arr .i64 3 i,.fn (.func 197) [] []],false⟩),(4,some ⟨.box 138 [.arr .u64 8 j],false⟩)],5,142⟩
def V10:ASt→Option X10
 | ⟨[(3,.ptr 0 0),(4,.ptr 1 0),(6,.ptr 2 0),(7,.ptr 3 0),(10,.ptr 4 0),(37,.v (.int .i64 k)),(38,.v (.int .i64 l))],[(3,some ⟨.box 225 [.arr .u64 16 a],false⟩),(2,some ⟨.box 138 [.arr .u64 8 b],false⟩),(1,some ⟨.box 138 [.arr .u64 8 c],false⟩),(0,some ⟨.box 211 [.v (.int .i64 d),.v (.int .i64 e),.arr .i64 3 f,.arr .i64 3 g,.arr .i64 3 h,.arr .i64 3 i,.fn (.func 197) [] []],false⟩),(4,some ⟨.box 138 [.arr .u64 8 j],false⟩)],5,142⟩=>some (k,l,a,b,c,d,e,f,g,h,i,j)
 | _=>none
theorem bhb(st)(x)(h:V10 st=some x):st=S10 x:=by unfold V10 at h;split at h;(cases h;rfl);cases h
abbrev Y10:=P.cn0
abbrev X21:=P.b9t
def S21:X21→ASt:=fun (a,b,c,d)=>⟨[(4,.ptr 1 0),(6,.ptr 2 0),(10,.ptr 4 0),(129,.v (.int .i64 a))],[(1,some ⟨.box 138 [.arr .u64 8 b],false⟩),(2,some ⟨.box 138 [.arr .u64 8 c],false⟩),(4,some ⟨.box 138 [.arr .u64 8 d],false⟩)],120,142⟩
def V21:ASt→Option X21
 | ⟨[(4,.ptr 1 0),(6,.ptr 2 0),(10,.ptr 4 0),(129,.v (.int .i64 a))],[(1,some ⟨.box 138 [.arr .u64 8 b],false⟩),(2,some ⟨.box 138 [.arr .u64 8 c],false⟩),(4,some ⟨.box 138 [.arr .u64 8 d],false⟩)],120,142⟩=>some (a,b,c,d)
 | _=>none
theorem bw0(st)(x)(h:V21 st=some x):st=S21 x:=by unfold V21 at h;split at h;(cases h;rfl);cases h
abbrev Y21:=P.ce7
def E4(K:AExit→ASt→Option R):Y4→Option R:=(fun x=>K (.exit 0) (S4 x))
noncomputable def L4:p8:=fun st K=>abx (V4 st) fun x=>P.ciy x (E4 K)
def E10(K:AExit→ASt→Option R):Y10→Option R:=(fun x=>K (.exit 2) (S10 x))
noncomputable def L10:p8:=fun st K=>abx (V10 st) fun x=>P.cgj x (E10 K)
def E21(K:AExit→ASt→Option R):Y21→Option R:=(fun x=>K (.exit 4) (S21 x))
noncomputable def L21:p8:=fun st K=>abx (V21 st) fun x=>P.ci5 x (E21 K)
noncomputable def D:Ctx:=⟨Tryz.prog,[(100,wz.spec),(197,uq.spec),(200,l9.spec),(201,og.spec)],GLO.gx,[(21,⟨[4,6,10,129],[],[6],[],some (120,[1,2,4]),[],[],[]⟩),(10,⟨[3,4,6,7,10,37,38],[],[6],[],none,[],[],[]⟩),(4,⟨[2,3,4,6,7,8,19],[],[6],[],none,[],[],[]⟩)],[(4,L4),(10,L10),(21,L21)],[],false,none,none,[],false⟩
theorem awr:jl D (gu Tryz.f196 4):=fq S4 axb (by kernel_rfl) P.cp3 (enc:=E4) fun _ _ _=>by kernel_rfl
theorem bg3:jl D (gu Tryz.f196 10):=fq S10 bhb (by kernel_rfl) P.cp9 (enc:=E10) fun _ _ _=>by kernel_rfl
theorem byn:jl D (gu Tryz.f196 21):=fq S21 bw0 (by kernel_rfl) P.cq4 (enc:=E21) fun _ _ _=>by kernel_rfl
theorem loops:gy (Tryz.f196.body.getD .skip)=[gu Tryz.f196 4,gu Tryz.f196 10,gu Tryz.f196 21]:=by kernel_rfl
noncomputable def cu:Abs.Spec:=fun args K=>match args with
 | [.agg [.v (.int .i64 f),.v (.int .i64 e),.arr .i64 3 a,.arr .i64 3 b,.arr .i64 3 c,.arr .i64 3 d,.fn (.func 197) [] []],.arr .u64 8 g,.sl (.ints .u8 h)]=>P.ou f e a b c d g h (fun i=>K (.arr .u64 8 i))
 | _=>none
noncomputable def spec:Abs.Spec:=fun args K=>cu (j5 [.any,.any,.sl (.ints .u8 [])] args) K
theorem ok0:Proved Tryz.prog GLO.gx 196 cu:=pL (D:=D) (fn:=Tryz.f196) [.any] ⟨wz.ok,uq.ok,l9.ok,og.ok,trivial⟩ loops ⟨awr,bg3,byn,trivial⟩ fun _ K _ h=>by
  unfold cu at h
  split at h
  · rw[P.afm] at h;exact Aa (by kernel_rfl) h
  · cases h
theorem ok:Proved Tryz.prog GLO.gx 196 spec:=bq _ ok0
end ou

namespace vg
abbrev X3:=P.b7b
def S3:X3→ASt:=fun (l,j,k,a,b,c,d,e,f,g,h,i)=>⟨[(2,.sl (.ints .u8 l)),(3,.ptr 0 0),(4,.ptr 1 0),(6,.ptr 2 0),(8,.ptr 3 0),(14,.arr .u64 8 j),(15,.v (.int .i64 k))],[(0,some ⟨.box 211 [.v (.int .i64 a),.v (.int .i64 b),.arr .i64 3 c,.arr .i64 3 d,.arr .i64 3 e,.arr .i64 3 f,.fn (.func 197) [] []],false⟩),(1,some ⟨.box 138 [.arr .u64 8 g],false⟩),(2,some ⟨.box 138 [.arr .u64 8 h],false⟩),(3,some ⟨.box 138 [.arr .u64 8 i],false⟩)],4,50⟩
def V3:ASt→Option X3
 | ⟨[(2,.sl (.ints .u8 l)),(3,.ptr 0 0),(4,.ptr 1 0),(6,.ptr 2 0),(8,.ptr 3 0),(14,.arr .u64 8 j),(15,.v (.int .i64 k))],[(0,some ⟨.box 211 [.v (.int .i64 a),.v (.int .i64 b),.arr .i64 3 c,.arr .i64 3 d,.arr .i64 3 e,.arr .i64 3 f,.fn (.func 197) [] []],false⟩),(1,some ⟨.box 138 [.arr .u64 8 g],false⟩),(2,some ⟨.box 138 [.arr .u64 8 h],false⟩),(3,some ⟨.box 138 [.arr .u64 8 i],false⟩)],4,50⟩=>some (l,j,k,a,b,c,d,e,f,g,h,i)
 | _=>none
theorem apk(st)(x)(h:V3 st=some x):st=S3 x:=by unfold V3 at h;split at h;(cases h;rfl);cases h
abbrev Y3:=P.cho
abbrev X8:=P.b54
def S8:X8→ASt:=fun (k,j,a,b,c,d,e,f,g,h,i)=>⟨[(2,.sl (.ints .u8 k)),(3,.ptr 0 0),(4,.ptr 1 0),(6,.ptr 2 0),(8,.ptr 3 0),(11,.v (.int .i64 j))],[(3,some ⟨.box 138 [.arr .u64 8 a],false⟩),(2,some ⟨.box 138 [.arr .u64 8 b],false⟩),(1,some ⟨.box 138 [.arr .u64 8 c],false⟩),(0,some ⟨.box 211 [.v (.int .i64 d),.v (.int .i64 e),.arr .i64 3 f,.arr .i64 3 g,.arr .i64 3 h,.arr .i64 3 i,.fn (.func 197) [] []],false⟩)],4,50⟩
def V8:ASt→Option X8
 | ⟨[(2,.sl (.ints .u8 k)),(3,.ptr 0 0),(4,.ptr 1 0),(6,.ptr 2 0),(8,.ptr 3 0),(11,.v (.int .i64 j))],[(3,some ⟨.box 138 [.arr .u64 8 a],false⟩),(2,some ⟨.box 138 [.arr .u64 8 b],false⟩),(1,some ⟨.box 138 [.arr .u64 8 c],false⟩),(0,some ⟨.box 211 [.v (.int .i64 d),.v (.int .i64 e),.arr .i64 3 f,.arr .i64 3 g,.arr .i64 3 h,.arr .i64 3 i,.fn (.func 197) [] []],false⟩)],4,50⟩=>some (k,j,a,b,c,d,e,f,g,h,i)
 | _=>none
theorem bli(st)(x)(h:V8 st=some x):st=S8 x:=by unfold V8 at h;split at h;(cases h;rfl);cases h
abbrev Y8:=P.ce9
abbrev X12:=P.b95
def S12:X12→ASt:=fun (e,c,d,a,b)=>⟨[(2,.sl (.ints .u8 e)),(4,.ptr 1 0),(6,.ptr 2 0),(39,.arr .u64 8 c),(40,.v (.int .i64 d))],[(1,some ⟨.box 138 [.arr .u64 8 a],false⟩),(2,some ⟨.box 138 [.arr .u64 8 b],false⟩)],120,50⟩
def V12:ASt→Option X12
 | ⟨[(2,.sl (.ints .u8 e)),(4,.ptr 1 0),(6,.ptr 2 0),(39,.arr .u64 8 c),(40,.v (.int .i64 d))],[(1,some ⟨.box 138 [.arr .u64 8 a],false⟩),(2,some ⟨.box 138 [.arr .u64 8 b],false⟩)],120,50⟩=>some (e,c,d,a,b)
 | _=>none
theorem bej(st)(x)(h:V12 st=some x):st=S12 x:=by unfold V12 at h;split at h;(cases h;rfl);cases h
abbrev Y12:=P.cms
def E3(K:AExit→ASt→Option R):Y3→Option R:=(fun x=>K (.exit 0) (S3 x))
noncomputable def L3:p8:=fun st K=>abx (V3 st) fun x=>P.cit x (E3 K)
def E8(K:AExit→ASt→Option R):Y8→Option R:=(fun x=>K (.exit 2) (S8 x))
noncomputable def L8:p8:=fun st K=>abx (V8 st) fun x=>P.ce3 x (E8 K)
def E12(K:AExit→ASt→Option R):Y12→Option R:=(fun x=>K (.exit 4) (S12 x))
noncomputable def L12:p8:=fun st K=>abx (V12 st) fun x=>P.cja x (E12 K)
noncomputable def D:Ctx:=⟨Tryz.prog,[(196,ou.spec),(197,uq.spec)],GLO.gx,[(12,⟨[2,4,6,39,40],[],[6,7],[],some (120,[1,2]),[],[],[]⟩),(8,⟨[2,3,4,6,8,11],[],[6,7],[(2,.sl (.ints .u8 []))],none,[],[],[]⟩),(3,⟨[2,3,4,6,8,14,15],[],[6,7],[],none,[],[],[]⟩)],[(3,L3),(8,L8),(12,L12)],[],false,none,none,[],false⟩
theorem aqa:jl D (gu Tryz.f183 3):=fq S3 apk (by kernel_rfl) P.cr7 (enc:=E3) fun _ _ _=>by kernel_rfl
theorem bmn:jl D (gu Tryz.f183 8):=fq S8 bli (by kernel_rfl) P.crq (enc:=E8) fun _ _ _=>by kernel_rfl
theorem bgt:jl D (gu Tryz.f183 12):=fq S12 bej (by kernel_rfl) P.cqd (enc:=E12) fun _ _ _=>by kernel_rfl
theorem loops:gy (Tryz.f183.body.getD .skip)=[gu Tryz.f183 3,gu Tryz.f183 8,gu Tryz.f183 12]:=by kernel_rfl
noncomputable def cu:Abs.Spec:=fun args K=>match args with
 | [.agg [.v (.int .i64 f),.v (.int .i64 e),.arr .i64 3 a,.arr .i64 3 b,.arr .i64 3 c,.arr .i64 3 d,.fn (.func 197) [] []],.arr .u64 8 g,.sl (.ints .u8 h)]=>P.vg f e a b c d g h (fun i j=>K (.tuple [.arr .u64 8 i,.sl (.ints .u8 j)]))
 | _=>none
noncomputable def spec:Abs.Spec:=fun args K=>cu (j5 [.any,.any,.sl (.ints .u8 [])] args) K
theorem ok0:Proved Tryz.prog GLO.gx 183 cu:=pL (D:=D) (fn:=Tryz.f183) [.any,.sl (.ints .u8 [])] ⟨ou.ok,uq.ok,trivial⟩ loops ⟨aqa,bmn,bgt,trivial⟩ fun _ K _ h=>by
  unfold cu at h
  split at h
  · rw[P.ajg] at h;exact Aa (by kernel_rfl) h
  · cases h
theorem ok:Proved Tryz.prog GLO.gx 183 spec:=bq _ ok0
end vg

namespace uz
noncomputable def D:Ctx:={ P:=Tryz.prog,G:=[],globs:=GLO.gx,hints:=[],loops:=[] }
noncomputable def c:Code:=Tryz.f185.body.getD .skip
noncomputable def o0:Oper:=(bs9 (sq1 c)).getD 0 btm
noncomputable def o1:Oper:=(bs9 (sq1 (sq1 (sq2 c)))).getD 0 btm
noncomputable def o2:Oper:=(bs9 (sq1 (sq1 (sq2 c)))).getD 1 btm
noncomputable def X:Code:=chz (sq2 (sq1 (sq2 c)))
noncomputable def rest:Code:=sq2 (sq2 c)
noncomputable def ox:Oper:=(bs9 (sq1 X)).getD 0 btm
theorem b4a(a:List Int):aho D rest ⟨[(0,.sl (.ints .u8 a)),(2,.v (.slice none 0 0))],[],0,Tryz.f185.ntmps⟩ (cqh D [.fr 5 (.ints .u8 a)] Tryz.f185)=br (decide ((0+a.length)*1≤140737488355328)) (some (.fr 5 (.ints .u8 a))) none:=by kernel_rfl
noncomputable def cu:Abs.Spec:=fun args K=>match args with
  | [.sl (.ints .u8 a)]=>P.uz a (fun a=>K (.fr 5 (.ints .u8 a)))
  | _=>none
theorem b4h:Tryz.f185.body=some (.seq (.region 0 #[o0] false) (.seq (.seq (.region 1 #[o1,o2] false) (.cond (.tmp 4) X .skip)) rest)):=by kernel_rfl
theorem ok0:Proved Tryz.prog GLO.gx 185 cu:=by
  refine ⟨⟨Tryz.f185,by kernel_rfl,by kernel_rfl,by kernel_rfl⟩,fun args K r h=>?_⟩
  unfold cu at h
  split at h
  · rename_i a
    unfold P.uz at h
    obtain ⟨hp,hK⟩:=pre_some h
    refine ⟨_,hK,b03 (D:=D) (fn:=Tryz.f185) (t:=24) (e:=5) trivial (je (by kernel_rfl)) trivial (by kernel_rfl) (by kernel_rfl) b4h ⟨by kernel_rfl,by kernel_rfl,by kernel_rfl⟩ ⟨by kernel_rfl,by kernel_rfl,by kernel_rfl⟩ ⟨by kernel_rfl,by kernel_rfl,by kernel_rfl⟩ (by kernel_rfl) (by decide +kernel) (by kernel_rfl) (by kernel_rfl) ⟨2,ox,by kernel_rfl,by kernel_rfl,by kernel_rfl,by kernel_rfl⟩ (by kernel_rfl) rfl rfl rfl ?_⟩
    rw[b4a,bf (by omega)]
  · cases h
noncomputable def spec:Abs.Spec:=fun args K=>cu (j5 [.sl (.ints .u8 [])] args) K
theorem ok:Proved Tryz.prog GLO.gx 185 spec:=bq _ ok0
end uz

namespace aaf
noncomputable def cu:Abs.Spec:=fun args K=>match args with
 | [.agg [.v (.int .i64 c),.arr .u64 8 a,.sl (.ints .u8 d),.v (.int .u64 e)],.sl (.ints .u8 i)]=>P.aaf c a d e i (fun f b g h=>K (.agg [.v (.int .i64 f),.arr .u64 8 b,.fr 5 (.ints .u8 g),.v (.int .u64 h)]))
 | _=>none
noncomputable def spec:Abs.Spec:=fun args K=>cu (j5 [.agg [.any,.any,.sl (.ints .u8 []),.any],.sl (.ints .u8 [])] args) K
theorem ok0:Proved Tryz.prog GLO.gx 166 cu:=pK (G:=[(76,lg.spec),(181,vk.spec),(182,ad6.spec),(183,vg.spec),(184,aed.spec),(185,uz.spec)]) (fn:=Tryz.f166) [.agg [.any,.any,.fr 5 (.ints .u8 []),.any]] ⟨lg.ok,vk.ok,ad6.ok,vg.ok,aed.ok,uz.ok,trivial⟩ fun _ K _ h=>by
  unfold cu at h
  split at h
  · rw[P.bi3] at h;exact Aa (by kernel_rfl) h
  · cases h
theorem ok:Proved Tryz.prog GLO.gx 166 spec:=bq _ ok0
end aaf

namespace ahe
noncomputable def spec:Abs.Spec:=fun args K=>match args with
 | [.v (.int .i64 a)]=>P.ahe a (fun b c=>K (.tuple [.arr .u64 8 b,.v (.bool c)]))
 | _=>none
theorem ok:Proved Tryz.prog GLO.gx 179 spec:=pK (G:=[]) (fn:=Tryz.f179) [.any,.any] trivial fun _ K _ h=>by
  unfold spec at h
  split at h
  · rw[P.bbz] at h;exact Aa (by kernel_rfl) h
  · cases h
end ahe

namespace af8
noncomputable def spec:Abs.Spec:=fun args K=>match args with
 | [.v (.int .i64 e)]=>P.af8 e (fun b a c d f=>K (.tuple [.agg [.v (.int .i64 b),.arr .u64 8 a,.fr 5 (.ints .u8 c),.v (.int .u64 d)],.v (.int .i64 f)]))
 | _=>none
theorem ok:Proved Tryz.prog GLO.gx 164 spec:=pK (G:=[(179,ahe.spec)]) (fn:=Tryz.f164) [.agg [.any,.any,.fr 5 (.ints .u8 []),.any],.any] ⟨ahe.ok,trivial⟩ fun _ K _ h=>by
  unfold spec at h
  split at h
  · rw[P.bkn] at h;exact Aa (by kernel_rfl) h
  · cases h
end af8

namespace aah
noncomputable def cu:Abs.Spec:=fun args K=>match args with
 | [.v (.int .i64 e),.v (.int .i64 f),.sl (.ints .u8 g)]=>P.aah e f g (fun b a c d=>K (.agg [.v (.int .i64 b),.arr .u64 8 a,.fr 5 (.ints .u8 c),.v (.int .u64 d)]))
 | _=>none
noncomputable def spec:Abs.Spec:=fun args K=>cu (j5 [.any,.any,.sl (.ints .u8 [])] args) K
theorem ok0:Proved Tryz.prog GLO.gx 187 cu:=pK (G:=[(40,jc.spec),(164,af8.spec),(166,aaf.spec)]) (fn:=Tryz.f187) [.agg [.any,.any,.fr 5 (.ints .u8 []),.any]] ⟨jc.ok,af8.ok,aaf.ok,trivial⟩ fun _ K _ h=>by
  unfold cu at h
  split at h
  · rw[P.avu] at h;exact Aa (by kernel_rfl) h
  · cases h
theorem ok:Proved Tryz.prog GLO.gx 187 spec:=bq _ ok0
end aah

namespace zn
noncomputable def spec:Abs.Spec:=fun args K=>match args with
 | [.v (.int .i64 a)]=>P.zn a (fun b=>K (.v (.int .i64 b)))
 | _=>none
theorem ok:Proved Tryz.prog GLO.gx 180 spec:=pK (G:=[]) (fn:=Tryz.f180) [.any] trivial fun _ K _ h=>by
  unfold spec at h
  split at h
  · rw[P.aq1] at h;exact Aa (by kernel_rfl) h
  · cases h
end zn

end
