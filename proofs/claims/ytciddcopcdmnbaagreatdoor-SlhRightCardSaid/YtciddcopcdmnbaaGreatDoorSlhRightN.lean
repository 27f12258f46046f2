/-
  SlhRight, part 14: lemmas for the law.
-/

import Derived.Test.YtciddcopcdmnbaaGreatDoorSlhRightK
import Derived.Test.YtciddcopcdmnbaaGreatDoorSlhRightH
import Derived.Test.YtciddcopcdmnbaaGreatDoorProg
import Derived.Test.YtciddcopcdmnbaaGreatDoorSlhRightJ
import Derived.Test.YtciddcopcdmnbaaGreatDoorSlhRightM
import Derived.KernelRfl
open Eq renaming trans → Aa

section
open Go Go.Abs Go.Proofs
set_option maxRecDepth 100000
set_option maxHeartbeats 0
set_option linter.unusedVariables false

namespace oz
abbrev X4:=P.bso
def S4:X4→ASt:=fun (k,l,j,a,b,c,d,e,f,g,h,i)=>⟨[(2,.sl (.ints .u8 k)),(3,.ptr 0 0),(4,.ptr 1 0),(6,.ptr 2 0),(7,.ptr 3 0),(8,.v (.int .i64 l)),(19,.v (.int .i64 j))],[(0,some ⟨.box 206 [.v (.int .i64 a),.v (.int .i64 b),.arr .i64 3 c,.arr .i64 3 d,.arr .i64 3 e,.arr .i64 3 f,.fn (.func 195) [] []],false⟩),(1,some ⟨.box 219 [.arr .u32 8 g],false⟩),(2,some ⟨.box 219 [.arr .u32 8 h],false⟩),(3,some ⟨.box 222 [.arr .u32 16 i],false⟩)],4,143⟩
def V4:ASt→Option X4
 | ⟨[(2,.sl (.ints .u8 k)),(3,.ptr 0 0),(4,.ptr 1 0),(6,.ptr 2 0),(7,.ptr 3 0),(8,.v (.int .i64 l)),(19,.v (.int .i64 j))],[(0,some ⟨.box 206 [.v (.int .i64 a),.v (.int .i64 b),.arr .i64 3 c,.arr .i64 3 d,.arr .i64 3 e,.arr .i64 3 f,.fn (.func 195) [] []],false⟩),(1,some ⟨.box 219 [.arr .u32 8 g],false⟩),(2,some ⟨.box 219 [.arr .u32 8 h],false⟩),(3,some ⟨.box 222 [.arr .u32 16 i],false⟩)],4,143⟩=>some (k,l,j,a,b,c,d,e,f,g,h,i)
 | _=>none
theorem bjb(st)(x)(h:V4 st=some x):st=S4 x:=by unfold V4 at h;split at h;(cases h;rfl);cases h
abbrev Y4:=P.b04
abbrev X10:=P.bvc
def S10:X10→ASt:=fun (k,l,a,b,c,d,e,f,g,h,i,j)=>⟨[(3,.ptr 0 0),(4,.ptr 1 0),(6,.ptr 2 0),(7,.ptr 3 0),(10,.ptr 4 0),(38,.v (.int .i64 k)),(39,.v (.int .i64 l))],[(3,some ⟨.box 222 [.arr .u32 16 a],false⟩),(2,some ⟨.box 219 [.arr .u32 8 b],false⟩),(1,some ⟨.box 219 [.arr .u32 8 c],false⟩),(0,some ⟨.box 206 [.v (.int .i64 d),.v (.int .i64 e),.arr .i64 3 f,.arr .i64 3 g,.arr .i64 3 h,.arr .i64 3 i,.fn (.func 195) [] []],false⟩),(4,some ⟨.box 219 [.arr .u32 8 j],false⟩)],5,143⟩
def V10:ASt→Option X10
 | ⟨[(3,.ptr 0 0),(4,.ptr 1 0),(6,.ptr 2 0),(7,.ptr 3 0),(10,.ptr 4 0),(38,.v (.int .i64 k)),(39,.v (.int .i64 l))],[(3,some ⟨.box 222 [.arr .u32 16 a],false⟩),(2,some ⟨.box 219 [.arr .u32 8 b],false⟩),(1,some ⟨.box 219 [.arr .u32 8 c],false⟩),(0,some ⟨.box 206 [.v (.int .i64 d),.v (.int .i64 e),.arr .i64 3 f,.arr .i64 3 g,.arr .i64 3 h,.arr .i64 3 i,.fn (.func 195) [] []],false⟩),(4,some ⟨.box 219 [.arr .u32 8 j],false⟩)],5,143⟩=>some (k,l,a,b,c,d,e,f,g,h,i,j)
 | _=>none
theorem bbn(st)(x)(h:V10 st=some x):st=S10 x:=by unfold V10 at h;split at h;(cases h;rfl);cases h
abbrev Y10:=P.b1f
abbrev X21:=P.buq
def S21:X21→ASt:=fun (a,b,c,d)=>⟨[(4,.ptr 1 0),(6,.ptr 2 0),(10,.ptr 4 0),(130,.v (.int .i64 a))],[(1,some ⟨.box 219 [.arr .u32 8 b],false⟩),(2,some ⟨.box 219 [.arr .u32 8 c],false⟩),(4,some ⟨.box 219 [.arr .u32 8 d],false⟩)],120,143⟩
def V21:ASt→Option X21
 | ⟨[(4,.ptr 1 0),(6,.ptr 2 0),(10,.ptr 4 0),(130,.v (.int .i64 a))],[(1,some ⟨.box 219 [.arr .u32 8 b],false⟩),(2,some ⟨.box 219 [.arr .u32 8 c],false⟩),(4,some ⟨.box 219 [.arr .u32 8 d],false⟩)],120,143⟩=>some (a,b,c,d)
 | _=>none
theorem bij(st)(x)(h:V21 st=some x):st=S21 x:=by unfold V21 at h;split at h;(cases h;rfl);cases h
abbrev Y21:=P.b3z
def E4(K:AExit→ASt→Option R):Y4→Option R:=(fun x=>K (.exit 0) (S4 x))
noncomputable def L4:za:=fun st K=>ag0 (V4 st) fun x=>P.b0e x (E4 K)
def E10(K:AExit→ASt→Option R):Y10→Option R:=(fun x=>K (.exit 2) (S10 x))
noncomputable def L10:za:=fun st K=>ag0 (V10 st) fun x=>P.b05 x (E10 K)
def E21(K:AExit→ASt→Option R):Y21→Option R:=(fun x=>K (.exit 4) (S21 x))
noncomputable def L21:za:=fun st K=>ag0 (V21 st) fun x=>P.b30 x (E21 K)
noncomputable def D:Ctx:=⟨Tryz.prog,[(100,u6.spec),(195,sw.spec),(198,j5.spec),(199,mq.spec)],GLO.gx,[(21,⟨[4,6,10,130],[],[6],[],some (120,[1,2,4]),[],[],[]⟩),(10,⟨[3,4,6,7,10,38,39],[],[6],[],none,[],[],[]⟩),(4,⟨[2,3,4,6,7,8,19],[],[6],[],none,[],[],[]⟩)],[(4,L4),(10,L10),(21,L21)],[],false,none,none,[],false⟩
theorem bkv:o9 D (je Tryz.f194 4):=jd S4 bjb (by kernel_rfl) P.b4y (enc:=E4) fun _ _ _=>by kernel_rfl
theorem bbt:o9 D (je Tryz.f194 10):=jd S10 bbn (by kernel_rfl) P.b4f (enc:=E10) fun _ _ _=>by kernel_rfl
theorem bi0:o9 D (je Tryz.f194 21):=jd S21 bij (by kernel_rfl) P.b4n (enc:=E21) fun _ _ _=>by kernel_rfl
theorem loops:gu (Tryz.f194.body.getD .skip)=[je Tryz.f194 4,je Tryz.f194 10,je Tryz.f194 21]:=by kernel_rfl
noncomputable def dn:Abs.Spec:=fun args K=>match args with
 | [.agg [.v (.int .i64 f),.v (.int .i64 e),.arr .i64 3 a,.arr .i64 3 b,.arr .i64 3 c,.arr .i64 3 d,.fn (.func 195) [] []],.arr .u32 8 g,.sl (.ints .u8 h)]=>P.oz f e a b c d g h (fun i=>K (.arr .u32 8 i))
 | _=>none
noncomputable def spec:Abs.Spec:=fun args K=>dn (o8 [.any,.any,.sl (.ints .u8 [])] args) K
theorem ok0:Proved Tryz.prog GLO.gx 194 dn:=pL (D:=D) (fn:=Tryz.f194) [.any] ⟨u6.ok,sw.ok,j5.ok,mq.ok,trivial⟩ loops ⟨bkv,bbt,bi0,trivial⟩ fun _ K _ h=>by
  unfold dn at h
  split at h
  · rw[P.adw] at h;exact Aa (by kernel_rfl) h
  · cases h
theorem ok:Proved Tryz.prog GLO.gx 194 spec:=cu _ ok0
end oz

namespace uo
abbrev X3:=P.bus
def S3:X3→ASt:=fun (l,j,k,a,b,c,d,e,f,g,h,i)=>⟨[(2,.sl (.ints .u8 l)),(3,.ptr 0 0),(4,.ptr 1 0),(6,.ptr 2 0),(8,.ptr 3 0),(14,.arr .u64 8 j),(15,.v (.int .i64 k))],[(0,some ⟨.box 206 [.v (.int .i64 a),.v (.int .i64 b),.arr .i64 3 c,.arr .i64 3 d,.arr .i64 3 e,.arr .i64 3 f,.fn (.func 195) [] []],false⟩),(1,some ⟨.box 138 [.arr .u64 8 g],false⟩),(2,some ⟨.box 138 [.arr .u64 8 h],false⟩),(3,some ⟨.box 219 [.arr .u32 8 i],false⟩)],4,52⟩
def V3:ASt→Option X3
 | ⟨[(2,.sl (.ints .u8 l)),(3,.ptr 0 0),(4,.ptr 1 0),(6,.ptr 2 0),(8,.ptr 3 0),(14,.arr .u64 8 j),(15,.v (.int .i64 k))],[(0,some ⟨.box 206 [.v (.int .i64 a),.v (.int .i64 b),.arr .i64 3 c,.arr .i64 3 d,.arr .i64 3 e,.arr .i64 3 f,.fn (.func 195) [] []],false⟩),(1,some ⟨.box 138 [.arr .u64 8 g],false⟩),(2,some ⟨.box 138 [.arr .u64 8 h],false⟩),(3,some ⟨.box 219 [.arr .u32 8 i],false⟩)],4,52⟩=>some (l,j,k,a,b,c,d,e,f,g,h,i)
 | _=>none
theorem au5(st)(x)(h:V3 st=some x):st=S3 x:=by unfold V3 at h;split at h;(cases h;rfl);cases h
abbrev Y3:=P.b3r
abbrev X8:=P.btm
def S8:X8→ASt:=fun (k,j,a,b,c,d,e,f,g,h,i)=>⟨[(2,.sl (.ints .u8 k)),(3,.ptr 0 0),(4,.ptr 1 0),(6,.ptr 2 0),(8,.ptr 3 0),(11,.v (.int .i64 j))],[(3,some ⟨.box 219 [.arr .u32 8 a],false⟩),(2,some ⟨.box 138 [.arr .u64 8 b],false⟩),(1,some ⟨.box 138 [.arr .u64 8 c],false⟩),(0,some ⟨.box 206 [.v (.int .i64 d),.v (.int .i64 e),.arr .i64 3 f,.arr .i64 3 g,.arr .i64 3 h,.arr .i64 3 i,.fn (.func 195) [] []],false⟩)],4,52⟩
def V8:ASt→Option X8
 | ⟨[(2,.sl (.ints .u8 k)),(3,.ptr 0 0),(4,.ptr 1 0),(6,.ptr 2 0),(8,.ptr 3 0),(11,.v (.int .i64 j))],[(3,some ⟨.box 219 [.arr .u32 8 a],false⟩),(2,some ⟨.box 138 [.arr .u64 8 b],false⟩),(1,some ⟨.box 138 [.arr .u64 8 c],false⟩),(0,some ⟨.box 206 [.v (.int .i64 d),.v (.int .i64 e),.arr .i64 3 f,.arr .i64 3 g,.arr .i64 3 h,.arr .i64 3 i,.fn (.func 195) [] []],false⟩)],4,52⟩=>some (k,j,a,b,c,d,e,f,g,h,i)
 | _=>none
theorem beu(st)(x)(h:V8 st=some x):st=S8 x:=by unfold V8 at h;split at h;(cases h;rfl);cases h
abbrev Y8:=P.b03
abbrev X12:=P.buu
def S12:X12→ASt:=fun (e,c,d,a,b)=>⟨[(2,.sl (.ints .u8 e)),(4,.ptr 1 0),(6,.ptr 2 0),(40,.arr .u32 8 c),(41,.v (.int .i64 d))],[(1,some ⟨.box 138 [.arr .u64 8 a],false⟩),(2,some ⟨.box 138 [.arr .u64 8 b],false⟩)],120,52⟩
def V12:ASt→Option X12
 | ⟨[(2,.sl (.ints .u8 e)),(4,.ptr 1 0),(6,.ptr 2 0),(40,.arr .u32 8 c),(41,.v (.int .i64 d))],[(1,some ⟨.box 138 [.arr .u64 8 a],false⟩),(2,some ⟨.box 138 [.arr .u64 8 b],false⟩)],120,52⟩=>some (e,c,d,a,b)
 | _=>none
theorem blq(st)(x)(h:V12 st=some x):st=S12 x:=by unfold V12 at h;split at h;(cases h;rfl);cases h
abbrev Y12:=P.byj
def E3(K:AExit→ASt→Option R):Y3→Option R:=(fun x=>K (.exit 0) (S3 x))
noncomputable def L3:za:=fun st K=>ag0 (V3 st) fun x=>P.b0r x (E3 K)
def E8(K:AExit→ASt→Option R):Y8→Option R:=(fun x=>K (.exit 2) (S8 x))
noncomputable def L8:za:=fun st K=>ag0 (V8 st) fun x=>P.byz x (E8 K)
def E12(K:AExit→ASt→Option R):Y12→Option R:=(fun x=>K (.exit 4) (S12 x))
noncomputable def L12:za:=fun st K=>ag0 (V12 st) fun x=>P.b2v x (E12 K)
noncomputable def D:Ctx:=⟨Tryz.prog,[(194,oz.spec),(195,sw.spec)],GLO.gx,[(12,⟨[2,4,6,40,41],[],[6,7],[],some (120,[1,2]),[],[],[]⟩),(8,⟨[2,3,4,6,8,11],[],[6,7],[(2,.sl (.ints .u8 []))],none,[],[],[]⟩),(3,⟨[2,3,4,6,8,14,15],[],[6,7],[],none,[],[],[]⟩)],[(3,L3),(8,L8),(12,L12)],[],false,none,none,[],false⟩
theorem aur:o9 D (je Tryz.f181 3):=jd S3 au5 (by kernel_rfl) P.b49 (enc:=E3) fun _ _ _=>by kernel_rfl
theorem bds:o9 D (je Tryz.f181 8):=jd S8 beu (by kernel_rfl) P.b4t (enc:=E8) fun _ _ _=>by kernel_rfl
theorem bjw:o9 D (je Tryz.f181 12):=jd S12 blq (by kernel_rfl) P.b4p (enc:=E12) fun _ _ _=>by kernel_rfl
theorem loops:gu (Tryz.f181.body.getD .skip)=[je Tryz.f181 3,je Tryz.f181 8,je Tryz.f181 12]:=by kernel_rfl
noncomputable def dn:Abs.Spec:=fun args K=>match args with
 | [.agg [.v (.int .i64 f),.v (.int .i64 e),.arr .i64 3 a,.arr .i64 3 b,.arr .i64 3 c,.arr .i64 3 d,.fn (.func 195) [] []],.arr .u64 8 g,.sl (.ints .u8 h)]=>P.uo f e a b c d g h (fun i j=>K (.tuple [.arr .u64 8 i,.sl (.ints .u8 j)]))
 | _=>none
noncomputable def spec:Abs.Spec:=fun args K=>dn (o8 [.any,.any,.sl (.ints .u8 [])] args) K
theorem ok0:Proved Tryz.prog GLO.gx 181 dn:=pL (D:=D) (fn:=Tryz.f181) [.any,.sl (.ints .u8 [])] ⟨oz.ok,sw.ok,trivial⟩ loops ⟨aur,bds,bjw,trivial⟩ fun _ K _ h=>by
  unfold dn at h
  split at h
  · rw[P.agr] at h;exact Aa (by kernel_rfl) h
  · cases h
theorem ok:Proved Tryz.prog GLO.gx 181 spec:=cu _ ok0
end uo

namespace bn
noncomputable def spec:Abs.Spec:=fun args K=>match args with
 | [.agg [.v (.int .i64 f),.v (.int .i64 e),.arr .i64 3 a,.arr .i64 3 b,.arr .i64 3 c,.arr .i64 3 d,.fn (.func 197) [] []],.v (.int .u64 g),.v (.int .i64 h)]=>P.bn f e a b c d g h (fun i=>K (.v (.int .u64 i)))
 | _=>none
theorem ok:Proved Tryz.prog GLO.gx 203 spec:=pK (G:=[(197,sj.spec)]) (fn:=Tryz.f203) [.any] ⟨sj.ok,trivial⟩ fun _ K _ h=>by
  unfold spec at h
  split at h
  · rw[P.ach] at h;exact Aa (by kernel_rfl) h
  · cases h
end bn

namespace kg
noncomputable def spec:Abs.Spec:=fun args K=>match args with
 | [.agg [.v (.int .i64 f),.v (.int .i64 e),.arr .i64 3 a,.arr .i64 3 b,.arr .i64 3 c,.arr .i64 3 d,.fn (.func 197) [] []],.v (.int .u64 g),.v (.int .i64 h)]=>P.kg f e a b c d g h (fun i=>K (.v (.int .u64 i)))
 | _=>none
theorem ok:Proved Tryz.prog GLO.gx 200 spec:=pK (G:=[(197,sj.spec),(203,bn.spec)]) (fn:=Tryz.f200) [.any] ⟨sj.ok,bn.ok,trivial⟩ fun _ K _ h=>by
  unfold spec at h
  split at h
  · rw[P.aa4] at h;exact Aa (by kernel_rfl) h
  · cases h
end kg

namespace ng
noncomputable def spec:Abs.Spec:=fun args K=>match args with
 | [.agg [.v (.int .i64 f),.v (.int .i64 e),.arr .i64 3 a,.arr .i64 3 b,.arr .i64 3 c,.arr .i64 3 d,.fn (.func 197) [] []],.v (.int .u64 g),.v (.int .i64 h)]=>P.ng f e a b c d g h (fun i=>K (.v (.int .u64 i)))
 | _=>none
theorem ok:Proved Tryz.prog GLO.gx 201 spec:=pK (G:=[(197,sj.spec),(203,bn.spec)]) (fn:=Tryz.f201) [.any] ⟨sj.ok,bn.ok,trivial⟩ fun _ K _ h=>by
  unfold spec at h
  split at h
  · rw[P.abe] at h;exact Aa (by kernel_rfl) h
  · cases h
end ng

namespace ou
abbrev X4:=P.bui
def S4:X4→ASt:=fun (k,l,j,a,b,c,d,e,f,g,h,i)=>⟨[(2,.sl (.ints .u8 k)),(3,.ptr 0 0),(4,.ptr 1 0),(6,.ptr 2 0),(7,.ptr 3 0),(8,.v (.int .i64 l)),(19,.v (.int .i64 j))],[(0,some ⟨.box 211 [.v (.int .i64 a),.v (.int .i64 b),.arr .i64 3 c,.arr .i64 3 d,.arr .i64 3 e,.arr .i64 3 f,.fn (.func 197) [] []],false⟩),(1,some ⟨.box 138 [.arr .u64 8 g],false⟩),(2,some ⟨.box 138 [.arr .u64 8 h],false⟩),(3,some ⟨.box 225 [.arr .u64 16 i],false⟩)],4,142⟩
def V4:ASt→Option X4
 | ⟨[(2,.sl (.ints .u8 k)),(3,.ptr 0 0),(4,.ptr 1 0),(6,.ptr 2 0),(7,.ptr 3 0),(8,.v (.int .i64 l)),(19,.v (.int .i64 j))],[(0,some ⟨.box 211 [.v (.int .i64 a),.v (.int .i64 b),.arr .i64 3 c,.arr .i64 3 d,.arr .i64 3 e,.arr .i64 3 f,.fn (.func 197) [] []],false⟩),(1,some ⟨.box 138 [.arr .u64 8 g],false⟩),(2,some ⟨.box 138 [.arr .u64 8 h],false⟩),(3,some ⟨.box 225 [.arr .u64 16 i],false⟩)],4,142⟩=>some (k,l,j,a,b,c,d,e,f,g,h,i)
 | _=>none
theorem bjb(st)(x)(h:V4 st=some x):st=S4 x:=by unfold V4 at h;split at h;(cases h;rfl);cases h
abbrev Y4:=P.b1c
abbrev X10:=P.btl
def S10:X10→ASt:=fun (k,l,a,b,c,d,e,f,g,h,i,j)=>⟨[(3,.ptr 0 0),(4,.ptr 1 0),(6,.ptr 2 0),(7,.ptr 3 0),(10,.ptr 4 0),(37,.v (.int .i64 k)),(38,.v (.int .i64 l))],[(3,some ⟨.box 225 [.arr .u64 16 a],false⟩),(2,some ⟨.box 138 [.arr .u64 8 b],false⟩),(1,some ⟨.box 138 [.arr .u64 8 c],false⟩),(0,some ⟨.box 211 [.v (.int .i64 d),.v (.int .i64 e),.arr .i64 3 f,.arr .i64 3 g,.arr .i64 3 h,.arr .i64 3 i,.fn (.func 197) [] []],false⟩),(4,some ⟨.box 138 [.arr .u64 8 j],false⟩)],5,142⟩
def V10:ASt→Option X10
 | ⟨[(3,.ptr 0 0),(4,.ptr 1 0),(6,.ptr 2 0),(7,.ptr 3 0),(10,.ptr 4 0),(37,.v (.int .i64 k)),(38,.v (.int .i64 l))],[(3,some ⟨.box 225 [.arr .u64 16 a],false⟩),(2,some ⟨.box 138 [.arr .u64 8 b],false⟩),(1,some ⟨.box 138 [.arr .u64 8 c],false⟩),(0,some ⟨.box 211 [.v (.int .i64 d),.v (.int .i64 e),.arr .i64 3 f,.arr .i64 3 g,.arr .i64 3 h,.arr .i64 3 i,.fn (.func 197) [] []],false⟩),(4,some ⟨.box 138 [.arr .u64 8 j],false⟩)],5,142⟩=>some (k,l,a,b,c,d,e,f,g,h,i,j)
 | _=>none
theorem bbn(st)(x)(h:V10 st=some x):st=S10 x:=by unfold V10 at h;split at h;(cases h;rfl);cases h
abbrev Y10:=P.b1s
abbrev X21:=P.bsi
def S21:X21→ASt:=fun (a,b,c,d)=>⟨[(4,.ptr 1 0),(6,.ptr 2 0),(10,.ptr 4 0),(129,.v (.int .i64 a))],[(1,some ⟨.box 138 [.arr .u64 8 b],false⟩),(2,some ⟨.box 138 [.arr .u64 8 c],false⟩),(4,some ⟨.box 138 [.arr .u64 8 d],false⟩)],120,142⟩
def V21:ASt→Option X21
 | ⟨[(4,.ptr 1 0),(6,.ptr 2 0),(10,.ptr 4 0),(129,.v (.int .i64 a))],[(1,some ⟨.box 138 [.arr .u64 8 b],false⟩),(2,some ⟨.box 138 [.arr .u64 8 c],false⟩),(4,some ⟨.box 138 [.arr .u64 8 d],false⟩)],120,142⟩=>some (a,b,c,d)
 | _=>none
theorem bij(st)(x)(h:V21 st=some x):st=S21 x:=by unfold V21 at h;split at h;(cases h;rfl);cases h
abbrev Y21:=P.bzr
def E4(K:AExit→ASt→Option R):Y4→Option R:=(fun x=>K (.exit 0) (S4 x))
noncomputable def L4:za:=fun st K=>ag0 (V4 st) fun x=>P.b06 x (E4 K)
def E10(K:AExit→ASt→Option R):Y10→Option R:=(fun x=>K (.exit 2) (S10 x))
noncomputable def L10:za:=fun st K=>ag0 (V10 st) fun x=>P.b3m x (E10 K)
def E21(K:AExit→ASt→Option R):Y21→Option R:=(fun x=>K (.exit 4) (S21 x))
noncomputable def L21:za:=fun st K=>ag0 (V21 st) fun x=>P.by9 x (E21 K)
noncomputable def D:Ctx:=⟨Tryz.prog,[(100,u6.spec),(197,sj.spec),(200,kg.spec),(201,ng.spec)],GLO.gx,[(21,⟨[4,6,10,129],[],[6],[],some (120,[1,2,4]),[],[],[]⟩),(10,⟨[3,4,6,7,10,37,38],[],[6],[],none,[],[],[]⟩),(4,⟨[2,3,4,6,7,8,19],[],[6],[],none,[],[],[]⟩)],[(4,L4),(10,L10),(21,L21)],[],false,none,none,[],false⟩
theorem bkv:o9 D (je Tryz.f196 4):=jd S4 bjb (by kernel_rfl) P.b4s (enc:=E4) fun _ _ _=>by kernel_rfl
theorem bbt:o9 D (je Tryz.f196 10):=jd S10 bbn (by kernel_rfl) P.b4g (enc:=E10) fun _ _ _=>by kernel_rfl
theorem bi0:o9 D (je Tryz.f196 21):=jd S21 bij (by kernel_rfl) P.b38 (enc:=E21) fun _ _ _=>by kernel_rfl
theorem loops:gu (Tryz.f196.body.getD .skip)=[je Tryz.f196 4,je Tryz.f196 10,je Tryz.f196 21]:=by kernel_rfl
noncomputable def dn:Abs.Spec:=fun args K=>match args with
 | [.agg [.v (.int .i64 f),.v (.int .i64 e),.arr .i64 3 a,.arr .i64 3 b,.arr .i64 3 c,.arr .i64 3 d,.fn (.func 197) [] []],.arr .u64 8 g,.sl (.ints .u8 h)]=>P.ou f e a b c d g h (fun i=>K (.arr .u64 8 i))
 | _=>none
noncomputable def spec:Abs.Spec:=fun args K=>dn (o8 [.any,.any,.sl (.ints .u8 [])] args) K
theorem ok0:Proved Tryz.prog GLO.gx 196 dn:=pL (D:=D) (fn:=Tryz.f196) [.any] ⟨u6.ok,sj.ok,kg.ok,ng.ok,trivial⟩ loops ⟨bkv,bbt,bi0,trivial⟩ fun _ K _ h=>by
  unfold dn at h
  split at h
  · rw[P.ads] at h;exact Aa (by kernel_rfl) h
  · cases h
theorem ok:Proved Tryz.prog GLO.gx 196 spec:=cu _ ok0
end ou

namespace um
abbrev X3:=P.btw
def S3:X3→ASt:=fun (l,j,k,a,b,c,d,e,f,g,h,i)=>⟨[(2,.sl (.ints .u8 l)),(3,.ptr 0 0),(4,.ptr 1 0),(6,.ptr 2 0),(8,.ptr 3 0),(14,.arr .u64 8 j),(15,.v (.int .i64 k))],[(0,some ⟨.box 211 [.v (.int .i64 a),.v (.int .i64 b),.arr .i64 3 c,.arr .i64 3 d,.arr .i64 3 e,.arr .i64 3 f,.fn (.func 197) [] []],false⟩),(1,some ⟨.box 138 [.arr .u64 8 g],false⟩),(2,some ⟨.box 138 [.arr .u64 8 h],false⟩),(3,some ⟨.box 138 [.arr .u64 8 i],false⟩)],4,50⟩
def V3:ASt→Option X3
 | ⟨[(2,.sl (.ints .u8 l)),(3,.ptr 0 0),(4,.ptr 1 0),(6,.ptr 2 0),(8,.ptr 3 0),(14,.arr .u64 8 j),(15,.v (.int .i64 k))],[(0,some ⟨.box 211 [.v (.int .i64 a),.v (.int .i64 b),.arr .i64 3 c,.arr .i64 3 d,.arr .i64 3 e,.arr .i64 3 f,.fn (.func 197) [] []],false⟩),(1,some ⟨.box 138 [.arr .u64 8 g],false⟩),(2,some ⟨.box 138 [.arr .u64 8 h],false⟩),(3,some ⟨.box 138 [.arr .u64 8 i],false⟩)],4,50⟩=>some (l,j,k,a,b,c,d,e,f,g,h,i)
 | _=>none
theorem au5(st)(x)(h:V3 st=some x):st=S3 x:=by unfold V3 at h;split at h;(cases h;rfl);cases h
abbrev Y3:=P.b3g
abbrev X8:=P.buz
def S8:X8→ASt:=fun (k,j,a,b,c,d,e,f,g,h,i)=>⟨[(2,.sl (.ints .u8 k)),(3,.ptr 0 0),(4,.ptr 1 0),(6,.ptr 2 0),(8,.ptr 3 0),(11,.v (.int .i64 j))],[(3,some ⟨.box 138 [.arr .u64 8 a],false⟩),(2,some ⟨.box 138 [.arr .u64 8 b],false⟩),(1,some ⟨.box 138 [.arr .u64 8 c],false⟩),(0,some ⟨.box 211 [.v (.int .i64 d),.v (.int .i64 e),.arr .i64 3 f,.arr .i64 3 g,.arr .i64 3 h,.arr .i64 3 i,.fn (.func 197) [] []],false⟩)],4,50⟩
def V8:ASt→Option X8
 | ⟨[(2,.sl (.ints .u8 k)),(3,.ptr 0 0),(4,.ptr 1 0),(6,.ptr 2 0),(8,.ptr 3 0),(11,.v (.int .i64 j))],[(3,some ⟨.box 138 [.arr .u64 8 a],false⟩),(2,some ⟨.box 138 [.arr .u64 8 b],false⟩),(1,some ⟨.box 138 [.arr .u64 8 c],false⟩),(0,some ⟨.box 211 [.v (.int .i64 d),.v (.int .i64 e),.arr .i64 3 f,.arr .i64 3 g,.arr .i64 3 h,.arr .i64 3 i,.fn (.func 197) [] []],false⟩)],4,50⟩=>some (k,j,a,b,c,d,e,f,g,h,i)
 | _=>none
theorem beu(st)(x)(h:V8 st=some x):st=S8 x:=by unfold V8 at h;split at h;(cases h;rfl);cases h
abbrev Y8:=P.bzn
abbrev X12:=P.buj
def S12:X12→ASt:=fun (e,c,d,a,b)=>⟨[(2,.sl (.ints .u8 e)),(4,.ptr 1 0),(6,.ptr 2 0),(39,.arr .u64 8 c),(40,.v (.int .i64 d))],[(1,some ⟨.box 138 [.arr .u64 8 a],false⟩),(2,some ⟨.box 138 [.arr .u64 8 b],false⟩)],120,50⟩
def V12:ASt→Option X12
 | ⟨[(2,.sl (.ints .u8 e)),(4,.ptr 1 0),(6,.ptr 2 0),(39,.arr .u64 8 c),(40,.v (.int .i64 d))],[(1,some ⟨.box 138 [.arr .u64 8 a],false⟩),(2,some ⟨.box 138 [.arr .u64 8 b],false⟩)],120,50⟩=>some (e,c,d,a,b)
 | _=>none
theorem blq(st)(x)(h:V12 st=some x):st=S12 x:=by unfold V12 at h;split at h;(cases h;rfl);cases h
abbrev Y12:=P.b0l
def E3(K:AExit→ASt→Option R):Y3→Option R:=(fun x=>K (.exit 0) (S3 x))
noncomputable def L3:za:=fun st K=>ag0 (V3 st) fun x=>P.byg x (E3 K)
def E8(K:AExit→ASt→Option R):Y8→Option R:=(fun x=>K (.exit 2) (S8 x))
noncomputable def L8:za:=fun st K=>ag0 (V8 st) fun x=>P.by7 x (E8 K)
def E12(K:AExit→ASt→Option R):Y12→Option R:=(fun x=>K (.exit 4) (S12 x))
noncomputable def L12:za:=fun st K=>ag0 (V12 st) fun x=>P.b0n x (E12 K)
noncomputable def D:Ctx:=⟨Tryz.prog,[(196,ou.spec),(197,sj.spec)],GLO.gx,[(12,⟨[2,4,6,39,40],[],[6,7],[],some (120,[1,2]),[],[],[]⟩),(8,⟨[2,3,4,6,8,11],[],[6,7],[(2,.sl (.ints .u8 []))],none,[],[],[]⟩),(3,⟨[2,3,4,6,8,14,15],[],[6,7],[],none,[],[],[]⟩)],[(3,L3),(8,L8),(12,L12)],[],false,none,none,[],false⟩
theorem aur:o9 D (je Tryz.f183 3):=jd S3 au5 (by kernel_rfl) P.b5q (enc:=E3) fun _ _ _=>by kernel_rfl
theorem bds:o9 D (je Tryz.f183 8):=jd S8 beu (by kernel_rfl) P.b4h (enc:=E8) fun _ _ _=>by kernel_rfl
theorem bjw:o9 D (je Tryz.f183 12):=jd S12 blq (by kernel_rfl) P.b4z (enc:=E12) fun _ _ _=>by kernel_rfl
theorem loops:gu (Tryz.f183.body.getD .skip)=[je Tryz.f183 3,je Tryz.f183 8,je Tryz.f183 12]:=by kernel_rfl
noncomputable def dn:Abs.Spec:=fun args K=>match args with
 | [.agg [.v (.int .i64 f),.v (.int .i64 e),.arr .i64 3 a,.arr .i64 3 b,.arr .i64 3 c,.arr .i64 3 d,.fn (.func 197) [] []],.arr .u64 8 g,.sl (.ints .u8 h)]=>P.um f e a b c d g h (fun i j=>K (.tuple [.arr .u64 8 i,.sl (.ints .u8 j)]))
 | _=>none
noncomputable def spec:Abs.Spec:=fun args K=>dn (o8 [.any,.any,.sl (.ints .u8 [])] args) K
theorem ok0:Proved Tryz.prog GLO.gx 183 dn:=pL (D:=D) (fn:=Tryz.f183) [.any,.sl (.ints .u8 [])] ⟨ou.ok,sj.ok,trivial⟩ loops ⟨aur,bds,bjw,trivial⟩ fun _ K _ h=>by
  unfold dn at h
  split at h
  · rw[P.agt] at h;exact Aa (by kernel_rfl) h
  · cases h
theorem ok:Proved Tryz.prog GLO.gx 183 spec:=cu _ ok0
end um

namespace uf
noncomputable def D:Ctx:={ P:=Tryz.prog,G:=[],globs:=GLO.gx,hints:=[],loops:=[] }
noncomputable def c:Code:=Tryz.f185.body.getD .skip
noncomputable def o0:Oper:=(bfs (sq1 c)).getD 0 bgo
noncomputable def o1:Oper:=(bfs (sq1 (sq1 (sq2 c)))).getD 0 bgo
noncomputable def o2:Oper:=(bfs (sq1 (sq1 (sq2 c)))).getD 1 bgo
noncomputable def X:Code:=bzg (sq2 (sq1 (sq2 c)))
noncomputable def rest:Code:=sq2 (sq2 c)
noncomputable def ox:Oper:=(bfs (sq1 X)).getD 0 bgo
theorem brb(a:List Int):afe D rest ⟨[(0,.sl (.ints .u8 a)),(2,.v (.slice none 0 0))],[],0,Tryz.f185.ntmps⟩ (b5l D [.fr 5 (.ints .u8 a)] Tryz.f185)=br (decide ((0+a.length)*1≤140737488355328)) (some (.fr 5 (.ints .u8 a))) none:=by kernel_rfl
noncomputable def dn:Abs.Spec:=fun args K=>match args with
  | [.sl (.ints .u8 a)]=>P.uf a (fun a=>K (.fr 5 (.ints .u8 a)))
  | _=>none
theorem bp2:Tryz.f185.body=some (.seq (.region 0 #[o0] false) (.seq (.seq (.region 1 #[o1,o2] false) (.cond (.tmp 4) X .skip)) rest)):=by kernel_rfl
theorem ok0:Proved Tryz.prog GLO.gx 185 dn:=by
  refine ⟨⟨Tryz.f185,by kernel_rfl,by kernel_rfl,by kernel_rfl⟩,fun args K r h=>?_⟩
  unfold dn at h
  split at h
  · rename_i a
    unfold P.uf at h
    obtain ⟨hp,hK⟩:=pre_some h
    refine ⟨_,hK,bmv (D:=D) (fn:=Tryz.f185) (t:=24) (e:=5) trivial (gy (by kernel_rfl)) trivial (by kernel_rfl) (by kernel_rfl) bp2 ⟨by kernel_rfl,by kernel_rfl,by kernel_rfl⟩ ⟨by kernel_rfl,by kernel_rfl,by kernel_rfl⟩ ⟨by kernel_rfl,by kernel_rfl,by kernel_rfl⟩ (by kernel_rfl) (by decide +kernel) (by kernel_rfl) (by kernel_rfl) ⟨2,ox,by kernel_rfl,by kernel_rfl,by kernel_rfl,by kernel_rfl⟩ (by kernel_rfl) rfl rfl rfl ?_⟩
    rw[brb,bf (by omega)]
  · cases h
noncomputable def spec:Abs.Spec:=fun args K=>dn (o8 [.sl (.ints .u8 [])] args) K
theorem ok:Proved Tryz.prog GLO.gx 185 spec:=cu _ ok0
end uf

namespace y9
noncomputable def dn:Abs.Spec:=fun args K=>match args with
 | [.agg [.v (.int .i64 c),.arr .u64 8 a,.sl (.ints .u8 d),.v (.int .u64 e)],.sl (.ints .u8 i)]=>P.y9 c a d e i (fun f b g h=>K (.agg [.v (.int .i64 f),.arr .u64 8 b,.fr 5 (.ints .u8 g),.v (.int .u64 h)]))
 | _=>none
noncomputable def spec:Abs.Spec:=fun args K=>dn (o8 [.agg [.any,.any,.sl (.ints .u8 []),.any],.sl (.ints .u8 [])] args) K
theorem ok0:Proved Tryz.prog GLO.gx 166 dn:=pK (G:=[(76,jv.spec),(181,uo.spec),(182,ac7.spec),(183,um.spec),(184,ade.spec),(185,uf.spec)]) (fn:=Tryz.f166) [.agg [.any,.any,.fr 5 (.ints .u8 []),.any]] ⟨jv.ok,uo.ok,ac7.ok,um.ok,ade.ok,uf.ok,trivial⟩ fun _ K _ h=>by
  unfold dn at h
  split at h
  · rw[P.aye] at h;exact Aa (by kernel_rfl) h
  · cases h
theorem ok:Proved Tryz.prog GLO.gx 166 spec:=cu _ ok0
end y9

namespace aer
noncomputable def spec:Abs.Spec:=fun args K=>match args with
 | [.v (.int .i64 a)]=>P.aer a (fun b c=>K (.tuple [.arr .u64 8 b,.v (.bool c)]))
 | _=>none
theorem ok:Proved Tryz.prog GLO.gx 179 spec:=pK (G:=[]) (fn:=Tryz.f179) [.any,.any] trivial fun _ K _ h=>by
  unfold spec at h
  split at h
  · rw[P.asj] at h;exact Aa (by kernel_rfl) h
  · cases h
end aer

namespace ad8
noncomputable def spec:Abs.Spec:=fun args K=>match args with
 | [.v (.int .i64 e)]=>P.ad8 e (fun b a c d f=>K (.tuple [.agg [.v (.int .i64 b),.arr .u64 8 a,.fr 5 (.ints .u8 c),.v (.int .u64 d)],.v (.int .i64 f)]))
 | _=>none
theorem ok:Proved Tryz.prog GLO.gx 164 spec:=pK (G:=[(179,aer.spec)]) (fn:=Tryz.f164) [.agg [.any,.any,.fr 5 (.ints .u8 []),.any],.any] ⟨aer.ok,trivial⟩ fun _ K _ h=>by
  unfold spec at h
  split at h
  · rw[P.ayu] at h;exact Aa (by kernel_rfl) h
  · cases h
end ad8

namespace y5
noncomputable def dn:Abs.Spec:=fun args K=>match args with
 | [.v (.int .i64 e),.v (.int .i64 f),.sl (.ints .u8 g)]=>P.y5 e f g (fun b a c d=>K (.agg [.v (.int .i64 b),.arr .u64 8 a,.fr 5 (.ints .u8 c),.v (.int .u64 d)]))
 | _=>none
noncomputable def spec:Abs.Spec:=fun args K=>dn (o8 [.any,.any,.sl (.ints .u8 [])] args) K
theorem ok0:Proved Tryz.prog GLO.gx 187 dn:=pK (G:=[(40,dz.spec),(164,ad8.spec),(166,y9.spec)]) (fn:=Tryz.f187) [.agg [.any,.any,.fr 5 (.ints .u8 []),.any]] ⟨dz.ok,ad8.ok,y9.ok,trivial⟩ fun _ K _ h=>by
  unfold dn at h
  split at h
  · rw[P.aot] at h;exact Aa (by kernel_rfl) h
  · cases h
theorem ok:Proved Tryz.prog GLO.gx 187 spec:=cu _ ok0
end y5

namespace yg
noncomputable def spec:Abs.Spec:=fun args K=>match args with
 | [.v (.int .i64 a)]=>P.yg a (fun b=>K (.v (.int .i64 b)))
 | _=>none
theorem ok:Proved Tryz.prog GLO.gx 180 spec:=pK (G:=[]) (fn:=Tryz.f180) [.any] trivial fun _ K _ h=>by
  unfold spec at h
  split at h
  · rw[P.amd] at h;exact Aa (by kernel_rfl) h
  · cases h
end yg

end
