/-
  SlhSigns, part 23: lemmas for the law.
-/

import Derived.Test.YtciddcopcdmnbaaGreatDoorSlhSignsM
import Derived.Test.YtciddcopcdmnbaaGreatDoorSlhSignsH
import Derived.Test.YtciddcopcdmnbaaGreatDoorProg
import Derived.Test.YtciddcopcdmnbaaGreatDoorSlhSignsJ
import Derived.Test.YtciddcopcdmnbaaGreatDoorSlhSignsS
import Derived.Test.YtciddcopcdmnbaaGreatDoorSlhSignsU
import Derived.Test.YtciddcopcdmnbaaGreatDoorSlhSignsV
import Derived.KernelRfl
import Derived.Test.YtciddcopcdmnbaaGreatDoorSlhSignsT
import Derived.Test.YtciddcopcdmnbaaGreatDoorSlhSignsL
import Derived.Test.YtciddcopcdmnbaaGreatDoorSlhSignsQ
import Derived.Test.YtciddcopcdmnbaaGreatDoorSlhSignsN
open Eq renaming trans → Aa

section
open Go Go.Abs Go.Proofs
set_option maxRecDepth 100000
set_option maxHeartbeats 0
set_option linter.unusedVariables false

namespace ac8
noncomputable def aw3(n:Nat):Abs.Spec:=fun args K=>match args with
 | [.agg [.v (.int .i64 b),.v (.int .i64 c),.v (.int .i64 d),.v (.int .i64 e),.v (.int .i64 f),.v (.bool a)],.sl (.ints .u8 g),.sl (.ints .u8 h),.arr .u8 32 i,.v (.int .i64 j),.v (.int .u64 k)]=>P.ac8 n b c d e f a g h i j k (fun l=>K (.sl (.ints .u8 l)))
 | _=>none
noncomputable def b4t(n:Nat):Abs.Spec:=fun args K=>aw3 n (j5 [.any,.sl (.ints .u8 []),.sl (.ints .u8 []),.any,.any,.any] args) K
noncomputable def D(n:Nat):Ctx:=({ P:=Tryz.prog,G:=[(43,iy.spec),(67,su.spec),(68,aac.spec),(87,aav.spec),(88,ada.spec),(89,b4t n)],globs:=GLO.gx,hints:=[],loops:=[],inl:=[] }:Ctx)
theorem body(n:Nat)(b:Int)(c:Int)(d:Int)(e:Int)(f:Int)(a:Bool)(g:List Int)(h:List Int)(i:List Int)(j:Int)(k:Int)(K:AVal→Option R):bqe (D n) Tryz.f89 [.sl (.ints .u8 [])] [.agg [.v (.int .i64 b),.v (.int .i64 c),.v (.int .i64 d),.v (.int .i64 e),.v (.int .i64 f),.v (.bool a)],.sl (.ints .u8 g),.sl (.ints .u8 h),.arr .u8 32 i,.v (.int .i64 j),.v (.int .u64 k)] K=P.ac8 (n+1) b c d e f a g h i j k (fun l=>K (.sl (.ints .u8 l))):=by
 rw[P.aw7]
 kernel_rfl
theorem loops:gy (Tryz.f89.body.getD .skip)=[]:=by kernel_rfl
noncomputable def cu:Abs.Spec:=fun args K=>match args with
 | [.agg [.v (.int .i64 b),.v (.int .i64 c),.v (.int .i64 d),.v (.int .i64 e),.v (.int .i64 f),.v (.bool a)],.sl (.ints .u8 h),.sl (.ints .u8 i),.arr .u8 32 j,.v (.int .i64 g),.v (.int .u64 k)]=>P.ac8 ((g.toNat+1)) b c d e f a h i j g k (fun l=>K (.sl (.ints .u8 l)))
 | _=>none
noncomputable def spec:Abs.Spec:=fun args K=>cu (j5 [.any,.sl (.ints .u8 []),.sl (.ints .u8 []),.any,.any,.any] args) K
theorem step(n:Nat)(ih:Proved Tryz.prog GLO.gx 89 (aw3 n)):Proved Tryz.prog GLO.gx 89 (aw3 (n+1)):=by
 refine z8 (D:=D n) (fn:=Tryz.f89) (c:=Tryz.f89.body.getD .skip) [.sl (.ints .u8 [])] (by kernel_rfl) (je (by kernel_rfl)) (by kernel_rfl) (by kernel_rfl) (by kernel_rfl) ⟨iy.ok,su.ok,aac.ok,aav.ok,ada.ok,bq _ ih,trivial⟩ trivial ?_ ?_
 · rw[loops];exact trivial
 · intro args K r h
   unfold aw3 at h
   split at h
   · rw[body];exact h
   · cases h
theorem okN:∀n,Proved Tryz.prog GLO.gx 89 (aw3 n)
 | 0=>⟨⟨Tryz.f89,by kernel_rfl,by kernel_rfl,by kernel_rfl⟩,fun args K r h=>by unfold aw3 at h;split at h<;>cases h⟩
 | n+1=>step n (okN n)
theorem ok0:Proved Tryz.prog GLO.gx 89 cu:=⟨(okN 0).enters,fun args K r h=>by
 unfold cu at h
 split at h
 · exact (okN _).sound _ K r (by unfold aw3;exact h)
 · cases h⟩
theorem ok:Proved Tryz.prog GLO.gx 89 spec:=bq _ ok0
end ac8

namespace afz
abbrev X12:=P.b76
def S12:X12→ASt:=fun (l,m,h,i,j,k,a,b,c,d,e,f,g,n)=>⟨[(14,.own 80),(2,.sl (.ints .u8 l)),(3,.sl (.ints .u8 m)),(5,.ptr 0 0),(9,.ptr 1 0),(13,.own 2),(15,.v (.int .i64 h)),(16,.v (.int .u64 i)),(17,.v (.int .i64 j))],[(80,some ⟨.row 24 (.rows .u8 k),false⟩),(0,some ⟨.box 23 [.v (.int .i64 a),.v (.int .i64 b),.v (.int .i64 c),.v (.int .i64 d),.v (.int .i64 e),.v (.bool f)],false⟩),(1,some ⟨.box 64 [.arr .u8 32 g],false⟩),(2,some ⟨.row 102 (.ints .u32 n),false⟩)],81,86⟩
def V12:ASt→Option X12
 | ⟨[(14,.own 80),(2,.sl (.ints .u8 l)),(3,.sl (.ints .u8 m)),(5,.ptr 0 0),(9,.ptr 1 0),(13,.own 2),(15,.v (.int .i64 h)),(16,.v (.int .u64 i)),(17,.v (.int .i64 j))],[(80,some ⟨.row 24 (.rows .u8 k),false⟩),(0,some ⟨.box 23 [.v (.int .i64 a),.v (.int .i64 b),.v (.int .i64 c),.v (.int .i64 d),.v (.int .i64 e),.v (.bool f)],false⟩),(1,some ⟨.box 64 [.arr .u8 32 g],false⟩),(2,some ⟨.row 102 (.ints .u32 n),false⟩)],81,86⟩=>some (l,m,h,i,j,k,a,b,c,d,e,f,g,n)
 | _=>none
theorem bej(st)(x)(h:V12 st=some x):st=S12 x:=by unfold V12 at h;split at h;(cases h;rfl);cases h
abbrev Y12:=P.co8
abbrev X7:=P.b9s
def S7:X7→ASt:=fun (i,j,h,k,a,b,c,d,e,f,g,l)=>⟨[(14,.own 3),(2,.sl (.ints .u8 i)),(3,.sl (.ints .u8 j)),(5,.ptr 0 0),(9,.ptr 1 0),(13,.own 2),(15,.v (.int .i64 h))],[(3,some ⟨.row 24 (.rows .u8 k),false⟩),(0,some ⟨.box 23 [.v (.int .i64 a),.v (.int .i64 b),.v (.int .i64 c),.v (.int .i64 d),.v (.int .i64 e),.v (.bool f)],false⟩),(1,some ⟨.box 64 [.arr .u8 32 g],false⟩),(2,some ⟨.row 102 (.ints .u32 l),false⟩)],4,86⟩
def V7:ASt→Option X7
 | ⟨[(14,.own 3),(2,.sl (.ints .u8 i)),(3,.sl (.ints .u8 j)),(5,.ptr 0 0),(9,.ptr 1 0),(13,.own 2),(15,.v (.int .i64 h))],[(3,some ⟨.row 24 (.rows .u8 k),false⟩),(0,some ⟨.box 23 [.v (.int .i64 a),.v (.int .i64 b),.v (.int .i64 c),.v (.int .i64 d),.v (.int .i64 e),.v (.bool f)],false⟩),(1,some ⟨.box 64 [.arr .u8 32 g],false⟩),(2,some ⟨.row 102 (.ints .u32 l),false⟩)],4,86⟩=>some (i,j,h,k,a,b,c,d,e,f,g,l)
 | _=>none
theorem av9(st)(x)(h:V7 st=some x):st=S7 x:=by unfold V7 at h;split at h;(cases h;rfl);cases h
abbrev Y7:=P.ckx
def E12(K:AExit→ASt→Option R):Y12→Option R:=(fun x=>K (.exit 2) (S12 x))
noncomputable def L12:p8:=fun st K=>abx (V12 st) fun x=>P.ch2 x (E12 K)
def E7(K:AExit→ASt→Option R):Y7→Option R:=(fun x=>K (.exit 0) (S7 x))
noncomputable def L7:p8:=fun st K=>abx (V7 st) fun x=>P.ciz x (E7 K)
noncomputable def D:Ctx:=⟨Tryz.prog,[(30,aax.spec),(43,iy.spec),(66,pq.spec),(87,aav.spec),(88,ada.spec),(89,ac8.spec)],GLO.gx,[(12,⟨[2,3,5,9,13,15,16,17],[(14,24,.rows .u8 [])],[10],[],some (80,[0,1,2]),[],[],[]⟩),(7,⟨[2,3,5,9,13,15],[(14,24,.rows .u8 [])],[10],[],none,[],[],[]⟩)],[(12,L12),(7,L7)],[],false,none,none,[],false⟩
theorem bgt:jl D (gu Tryz.f47 12):=fq S12 bej (by kernel_rfl) P.cqp (enc:=E12) fun _ _ _=>by kernel_rfl
theorem axu:jl D (gu Tryz.f47 7):=fq S7 av9 (by kernel_rfl) P.cqr (enc:=E7) fun _ _ _=>by kernel_rfl
theorem loops:gy (Tryz.f47.body.getD .skip)=[gu Tryz.f47 7,gu Tryz.f47 12]:=by kernel_rfl
noncomputable def cu:Abs.Spec:=fun args K=>match args with
 | [.agg [.v (.int .i64 b),.v (.int .i64 c),.v (.int .i64 d),.v (.int .i64 e),.v (.int .i64 f),.v (.bool a)],.sl (.ints .u8 g),.sl (.ints .u8 h),.sl (.ints .u8 i),.arr .u8 32 j]=>P.afz b c d e f a g h i j (fun k=>K (.fr 5 (.ints .u8 k)))
 | _=>none
noncomputable def spec:Abs.Spec:=fun args K=>cu (j5 [.any,.sl (.ints .u8 []),.sl (.ints .u8 []),.sl (.ints .u8 []),.any] args) K
theorem ok0:Proved Tryz.prog GLO.gx 47 cu:=pL (D:=D) (fn:=Tryz.f47) [.fr 5 (.ints .u8 [])] ⟨aax.ok,iy.ok,pq.ok,aav.ok,ada.ok,ac8.ok,trivial⟩ loops ⟨axu,bgt,trivial⟩ fun _ K _ h=>by
  unfold cu at h
  split at h
  · rw[P.bge] at h;exact Aa (by kernel_rfl) h
  · cases h
theorem ok:Proved Tryz.prog GLO.gx 47 spec:=bq _ ok0
end afz

namespace ae9
noncomputable def spec:Abs.Spec:=fun args K=>match args with
 | [.v (.int .i64 a)]=>P.ae9 a (fun b=>K (.v (.int .i64 b)))
 | _=>none
theorem ok:Proved Tryz.prog GLO.gx 154 spec:=pK (G:=[]) (fn:=Tryz.f154) [.any] trivial fun _ K _ h=>by
  unfold spec at h
  split at h
  · rw[P.bf2] at h;exact Aa (by kernel_rfl) h
  · cases h
end ae9

namespace sw
noncomputable def cu:Abs.Spec:=fun args K=>match args with
 | [.v (.int .i64 a),.sl (.ints .u8 b)]=>P.sw a b (fun c d=>K (.tuple [.fr 5 (.ints .u8 c),.v (.int .i64 d)]))
 | _=>none
noncomputable def spec:Abs.Spec:=fun args K=>cu (j5 [.any,.sl (.ints .u8 [])] args) K
theorem ok0:Proved Tryz.prog GLO.gx 116 cu:=pK (G:=[(61,abk.spec),(62,abr.spec),(154,ae9.spec)]) (fn:=Tryz.f116) [.fr 5 (.ints .u8 []),.any] ⟨abk.ok,abr.ok,ae9.ok,trivial⟩ fun _ K _ h=>by
  unfold cu at h
  split at h
  · rw[P.ax5] at h;exact Aa (by kernel_rfl) h
  · cases h
theorem ok:Proved Tryz.prog GLO.gx 116 spec:=bq _ ok0
end sw

namespace agl
abbrev X7:=P.b62
def S7:X7→ASt:=fun (a,b,c,d,e)=>⟨[(8,.own 0),(0,.v (.int .i64 a)),(1,.sl (.ints .u8 b)),(2,.v (.int .i64 c)),(9,.v (.int .u64 d))],[(0,some ⟨.row 5 (.ints .u8 e),false⟩)],1,46⟩
def V7:ASt→Option X7
 | ⟨[(8,.own 0),(0,.v (.int .i64 a)),(1,.sl (.ints .u8 b)),(2,.v (.int .i64 c)),(9,.v (.int .u64 d))],[(0,some ⟨.row 5 (.ints .u8 e),false⟩)],1,46⟩=>some (a,b,c,d,e)
 | _=>none
theorem av9(st)(x)(h:V7 st=some x):st=S7 x:=by unfold V7 at h;split at h;(cases h;rfl);cases h
abbrev Y7:=P.cj9
def E7(K:AExit→ASt→Option R):Y7→Option R:=(fun x=>K (.exit 0) (S7 x))
noncomputable def L7:p8:=fun st K=>abx (V7 st) fun x=>P.cga x (E7 K)
noncomputable def D:Ctx:=⟨Tryz.prog,[(43,iy.spec),(81,yx.spec),(116,sw.spec)],GLO.gx,[(7,⟨[0,1,2,9],[(8,5,.ints .u8 [])],[6,7],[],none,[],[],[]⟩)],[(7,L7)],[],false,none,none,[],false⟩
theorem axu:jl D (gu Tryz.f64 7):=fq S7 av9 (by kernel_rfl) P.cqe (enc:=E7) fun _ _ _=>by kernel_rfl
theorem loops:gy (Tryz.f64.body.getD .skip)=[gu Tryz.f64 7]:=by kernel_rfl
noncomputable def cu:Abs.Spec:=fun args K=>match args with
 | [.v (.int .i64 a),.sl (.ints .u8 b),.v (.int .i64 c)]=>P.agl a b c (fun d e=>K (.tuple [.sl (.ints .u8 d),.v (.int .i64 e)]))
 | _=>none
noncomputable def spec:Abs.Spec:=fun args K=>cu (j5 [.any,.sl (.ints .u8 []),.any] args) K
theorem ok0:Proved Tryz.prog GLO.gx 64 cu:=pL (D:=D) (fn:=Tryz.f64) [.sl (.ints .u8 []),.any] ⟨iy.ok,yx.ok,sw.ok,trivial⟩ loops ⟨axu,trivial⟩ fun _ K _ h=>by
  unfold cu at h
  split at h
  · rw[P.bet] at h;exact Aa (by kernel_rfl) h
  · cases h
theorem ok:Proved Tryz.prog GLO.gx 64 spec:=bq _ ok0
end agl

namespace ab9
noncomputable def spec:Abs.Spec:=fun args K=>match args with
 | [.v (.int .i64 a)]=>P.ab9 a (fun b=>K (.v (.int .i64 b)))
 | _=>none
theorem ok:Proved Tryz.prog GLO.gx 60 spec:=pK (G:=[]) (fn:=Tryz.f60) [.any] trivial fun _ K _ h=>by
  unfold spec at h
  split at h
  · rw[P.avq] at h;exact Aa (by kernel_rfl) h
  · cases h
end ab9

namespace afb
noncomputable def spec:Abs.Spec:=fun args K=>match args with
 | [.agg [.v (.int .i64 b),.v (.int .i64 c),.v (.int .i64 d),.v (.int .i64 e),.v (.int .i64 f),.v (.bool a)]]=>P.afb b c d e f a (fun g=>K (.v (.int .i64 g)))
 | _=>none
theorem ok:Proved Tryz.prog GLO.gx 63 spec:=pK (G:=[]) (fn:=Tryz.f63) [.any] trivial fun _ K _ h=>by
  unfold spec at h
  split at h
  · rw[P.bf6] at h;exact Aa (by kernel_rfl) h
  · cases h
end afb

namespace ae6
noncomputable def cu:Abs.Spec:=fun args K=>match args with
 | [.agg [.v (.int .i64 b),.v (.int .i64 c),.v (.int .i64 d),.v (.int .i64 e),.v (.int .i64 f),.v (.bool a)],.sl (.ints .u8 g),.sl (.ints .u8 h),.sl (.ints .u8 i)]=>P.ae6 b c d e f a g h i (fun j k l=>K (.tuple [.sl (.ints .u8 j),.v (.int .u64 k),.v (.int .u64 l)]))
 | _=>none
noncomputable def spec:Abs.Spec:=fun args K=>cu (j5 [.any,.sl (.ints .u8 []),.sl (.ints .u8 []),.sl (.ints .u8 [])] args) K
theorem ok0:Proved Tryz.prog GLO.gx 31 cu:=pK (G:=[(30,aax.spec),(43,iy.spec),(60,ab9.spec),(61,abk.spec),(62,abr.spec),(63,afb.spec),(64,agl.spec),(65,wm.spec)]) (fn:=Tryz.f31) [.sl (.ints .u8 []),.any,.any] ⟨aax.ok,iy.ok,ab9.ok,abk.ok,abr.ok,afb.ok,agl.ok,wm.ok,trivial⟩ fun _ K _ h=>by
  unfold cu at h
  split at h
  · rw[P.ayk] at h;exact Aa (by kernel_rfl) h
  · cases h
theorem ok:Proved Tryz.prog GLO.gx 31 spec:=bq _ ok0
end ae6

namespace aez
noncomputable def spec:Abs.Spec:=fun args K=>match args with
 | [.v (.int .i64 a)]=>P.aez a (fun b=>K (.v (.int .i64 b)))
 | _=>none
theorem ok:Proved Tryz.prog GLO.gx 131 spec:=pK (G:=[(149,abn.spec),(152,zf.spec)]) (fn:=Tryz.f131) [.any] ⟨abn.ok,zf.ok,trivial⟩ fun _ K _ h=>by
  unfold spec at h
  split at h
  · rw[P.bcl] at h;exact Aa (by kernel_rfl) h
  · cases h
end aez

namespace ahr
abbrev X10:=P.b9w
def S10:X10→ASt:=fun (d,e,f,g,a,b,c)=>⟨[(10,.own 40),(11,.own 41),(0,.v (.int .i64 d)),(2,.sl (.ints .u8 e)),(8,.v (.int .i64 f)),(9,.sl (.ints .u8 g)),(12,.v (.int .i64 a))],[(40,some ⟨.row 5 (.ints .u8 b),false⟩),(41,some ⟨.row 5 (.ints .u8 c),false⟩)],42,73⟩
def V10:ASt→Option X10
 | ⟨[(10,.own 40),(11,.own 41),(0,.v (.int .i64 d)),(2,.sl (.ints .u8 e)),(8,.v (.int .i64 f)),(9,.sl (.ints .u8 g)),(12,.v (.int .i64 a))],[(40,some ⟨.row 5 (.ints .u8 b),false⟩),(41,some ⟨.row 5 (.ints .u8 c),false⟩)],42,73⟩=>some (d,e,f,g,a,b,c)
 | _=>none
theorem bhb(st)(x)(h:V10 st=some x):st=S10 x:=by unfold V10 at h;split at h;(cases h;rfl);cases h
abbrev Y10:=P.co1
def E10(K:AExit→ASt→Option R):Y10→Option R:=(fun x=>K (.exit 0) (S10 x))
noncomputable def L10:p8:=fun st K=>abx (V10 st) fun x=>P.ci7 x (E10 K)
noncomputable def D:Ctx:=⟨Tryz.prog,[(116,sw.spec),(131,aez.spec)],GLO.gx,[(10,⟨[0,2,8,9,12],[(10,5,.ints .u8 []),(11,5,.ints .u8 [])],[6,7],[(9,.sl (.ints .u8 []))],some (40,[]),[],[],[]⟩)],[(10,L10)],[],false,none,none,[],false⟩
theorem bg3:jl D (gu Tryz.f86 10):=fq S10 bhb (by kernel_rfl) P.cqw (enc:=E10) fun _ _ _=>by kernel_rfl
theorem loops:gy (Tryz.f86.body.getD .skip)=[gu Tryz.f86 10]:=by kernel_rfl
noncomputable def cu:Abs.Spec:=fun args K=>match args with
 | [.v (.int .i64 a),.sl (.ints .u8 b),.sl (.ints .u8 c)]=>P.ahr a b c (fun d e=>K (.tuple [.fr 5 (.ints .u8 d),.v (.int .i64 e)]))
 | _=>none
noncomputable def spec:Abs.Spec:=fun args K=>cu (j5 [.any,.sl (.ints .u8 []),.sl (.ints .u8 [])] args) K
theorem ok0:Proved Tryz.prog GLO.gx 86 cu:=pL (D:=D) (fn:=Tryz.f86) [.fr 5 (.ints .u8 []),.any] ⟨sw.ok,aez.ok,trivial⟩ loops ⟨bg3,trivial⟩ fun _ K _ h=>by
  unfold cu at h
  split at h
  · rw[P.be6] at h;exact Aa (by kernel_rfl) h
  · cases h
theorem ok:Proved Tryz.prog GLO.gx 86 spec:=bq _ ok0
end ahr

namespace akq
noncomputable def cu:Abs.Spec:=fun args K=>match args with
 | [.agg [.v (.int .i64 b),.v (.int .i64 c),.v (.int .i64 d),.v (.int .i64 e),.v (.int .i64 f),.v (.bool a)],.sl (.ints .u8 g),.sl (.ints .u8 h),.sl (.ints .u8 i)]=>P.akq b c d e f a g h i (fun j=>K (.sl (.ints .u8 j)))
 | _=>none
noncomputable def spec:Abs.Spec:=fun args K=>cu (j5 [.any,.sl (.ints .u8 []),.sl (.ints .u8 []),.sl (.ints .u8 [])] args) K
theorem ok0:Proved Tryz.prog GLO.gx 46 cu:=pK (G:=[(43,iy.spec),(61,abk.spec),(63,afb.spec),(86,ahr.spec)]) (fn:=Tryz.f46) [.sl (.ints .u8 [])] ⟨iy.ok,abk.ok,afb.ok,ahr.ok,trivial⟩ fun _ K _ h=>by
  unfold cu at h
  split at h
  · rw[P.bgn] at h;exact Aa (by kernel_rfl) h
  · cases h
theorem ok:Proved Tryz.prog GLO.gx 46 spec:=bq _ ok0
end akq

namespace afv
noncomputable def spec:Abs.Spec:=fun args K=>match args with
 | [.v (.int .u64 a),.v (.int .u64 b)]=>P.afv a b (fun c=>K (.arr .u8 32 c))
 | _=>none
theorem ok:Proved Tryz.prog GLO.gx 34 spec:=pK (G:=[(42,jf.spec)]) (fn:=Tryz.f34) [.any] ⟨jf.ok,trivial⟩ fun _ K _ h=>by
  unfold spec at h
  split at h
  · rw[P.bcy] at h;exact Aa (by kernel_rfl) h
  · cases h
end afv

namespace aht
noncomputable def cu:Abs.Spec:=fun args K=>match args with
 | [.sl (.ints .u8 a),.sl (.ints .u8 b)]=>P.aht a b (fun c=>K (.fr 5 (.ints .u8 c)))
 | _=>none
noncomputable def spec:Abs.Spec:=fun args K=>cu (j5 [.sl (.ints .u8 []),.sl (.ints .u8 [])] args) K
theorem ok0:Proved Tryz.prog GLO.gx 32 cu:=pK (G:=[(43,iy.spec)]) (fn:=Tryz.f32) [.fr 5 (.ints .u8 [])] ⟨iy.ok,trivial⟩ fun _ K _ h=>by
  unfold cu at h
  split at h
  · rw[P.bcb] at h;exact Aa (by kernel_rfl) h
  · cases h
theorem ok:Proved Tryz.prog GLO.gx 32 spec:=bq _ ok0
end aht

namespace ai2
noncomputable def cu:Abs.Spec:=fun args K=>match args with
 | [.agg [.v (.int .i64 b),.v (.int .i64 c),.v (.int .i64 d),.v (.int .i64 e),.v (.int .i64 f),.v (.bool a)],.sl (.ints .u8 g),.sl (.ints .u8 h),.sl (.ints .u8 i),.sl (.ints .u8 j)]=>P.ai2 b c d e f a g h i j (fun k l=>K (.tuple [.fr 5 (.ints .u8 k),.v (.int .i64 l)]))
 | _=>none
noncomputable def spec:Abs.Spec:=fun args K=>cu (j5 [.any,.sl (.ints .u8 []),.sl (.ints .u8 []),.sl (.ints .u8 []),.sl (.ints .u8 [])] args) K
theorem ok0:Proved Tryz.prog GLO.gx 20 cu:=pK (G:=[(21,kg.spec),(31,ae6.spec),(32,aht.spec),(33,yj.spec),(34,afv.spec),(43,iy.spec),(46,akq.spec),(47,afz.spec),(48,adk.spec)]) (fn:=Tryz.f20) [.fr 5 (.ints .u8 []),.any] ⟨kg.ok,ae6.ok,aht.ok,yj.ok,afv.ok,iy.ok,akq.ok,afz.ok,adk.ok,trivial⟩ fun _ K _ h=>by
  unfold cu at h
  split at h
  · rw[P.aiu] at h;exact Aa (by kernel_rfl) h
  · cases h
theorem ok:Proved Tryz.prog GLO.gx 20 spec:=bq _ ok0
end ai2

namespace ajn
noncomputable def cu:Abs.Spec:=fun args K=>match args with
 | [.agg [.v (.int .i64 b),.v (.int .i64 c),.v (.int .i64 d),.v (.int .i64 e),.v (.int .i64 f),.v (.bool a)],.sl (.ints .u8 g),.sl (.ints .u8 h),.arr .u8 32 i]=>P.ajn b c d e f a g h i (fun j=>K (.sl (.ints .u8 j)))
 | _=>none
noncomputable def spec:Abs.Spec:=fun args K=>cu (j5 [.any,.sl (.ints .u8 []),.sl (.ints .u8 []),.any] args) K
theorem ok0:Proved Tryz.prog GLO.gx 129 cu:=pK (G:=[(104,zk.spec)]) (fn:=Tryz.f129) [.sl (.ints .u8 [])] ⟨zk.ok,trivial⟩ fun _ K _ h=>by
  unfold cu at h
  split at h
  · rw[P.bdb] at h;exact Aa (by kernel_rfl) h
  · cases h
theorem ok:Proved Tryz.prog GLO.gx 129 spec:=bq _ ok0
end ajn

namespace l6
noncomputable def cu:Abs.Spec:=fun args K=>match args with
 | [.agg [.v (.int .i64 c),.v (.int .i64 d),.v (.int .i64 e),.v (.int .i64 f),.v (.int .i64 g),.v (.bool a),.sl (.ints .u8 b),.sl (.ints .u8 h),.arr .u8 32 i],.v (.int .u64 j)]=>P.l6 c d e f g a b h i j (fun k=>K (.sl (.ints .u8 k)))
 | _=>none
noncomputable def spec:Abs.Spec:=fun args K=>cu (j5 [.agg [.any,.any,.any,.any,.any,.any,.sl (.ints .u8 []),.sl (.ints .u8 []),.any],.any] args) K
theorem ok0:Proved Tryz.prog GLO.gx 83 cu:=pK (G:=[(39,dz.spec),(105,ny.spec),(129,ajn.spec)]) (fn:=Tryz.f83) [.sl (.ints .u8 [])] ⟨dz.ok,ny.ok,ajn.ok,trivial⟩ fun _ K _ h=>by
  unfold cu at h
  split at h
  · rw[P.ams] at h;exact Aa (by kernel_rfl) h
  · cases h
theorem ok:Proved Tryz.prog GLO.gx 83 spec:=bq _ ok0
end l6

namespace pz
abbrev X7:=P.b66
def S7:X7→ASt:=fun (p,q,r,o,a,b,c,d,e,f,g,h,i,j,k,l,m,n)=>⟨[(7,.own 80),(1,.v (.int .i64 p)),(2,.v (.int .u64 q)),(3,.ptr 0 0),(8,.v (.int .u64 r)),(9,.ptr 3 0),(10,.v (.int .i64 o))],[(80,some ⟨.row 155 (.cols a [.ints .i64 b,.rows .u8 c]),false⟩),(0,some ⟨.box 82 [.v (.int .i64 d),.v (.int .i64 e),.v (.int .i64 f),.v (.int .i64 g),.v (.int .i64 h),.v (.bool i),.sl (.ints .u8 j),.sl (.ints .u8 k),.arr .u8 32 l],false⟩),(3,some ⟨.box 155 [.v (.int .i64 m),.sl (.ints .u8 n)],false⟩)],81,82⟩
def V7:ASt→Option X7
 | ⟨[(7,.own 80),(1,.v (.int .i64 p)),(2,.v (.int .u64 q)),(3,.ptr 0 0),(8,.v (.int .u64 r)),(9,.ptr 3 0),(10,.v (.int .i64 o))],[(80,some ⟨.row 155 (.cols a [.ints .i64 b,.rows .u8 c]),false⟩),(0,some ⟨.box 82 [.v (.int .i64 d),.v (.int .i64 e),.v (.int .i64 f),.v (.int .i64 g),.v (.int .i64 h),.v (.bool i),.sl (.ints .u8 j),.sl (.ints .u8 k),.arr .u8 32 l],false⟩),(3,some ⟨.box 155 [.v (.int .i64 m),.sl (.ints .u8 n)],false⟩)],81,82⟩=>some (p,q,r,o,a,b,c,d,e,f,g,h,i,j,k,l,m,n)
 | _=>none
theorem av9(st)(x)(h:V7 st=some x):st=S7 x:=by unfold V7 at h;split at h;(cases h;rfl);cases h
abbrev Y7:=P.ci9
abbrev X3:=P.b6n
def S3:X3→ASt:=fun (m,n,o,j,k,l,a,b,c,d,e,f,g,h,i)=>⟨[(7,.own 1),(1,.v (.int .i64 m)),(2,.v (.int .u64 n)),(3,.ptr 0 0),(8,.v (.int .u64 o))],[(1,some ⟨.row 155 (.cols j [.ints .i64 k,.rows .u8 l]),false⟩),(0,some ⟨.box 82 [.v (.int .i64 a),.v (.int .i64 b),.v (.int .i64 c),.v (.int .i64 d),.v (.int .i64 e),.v (.bool f),.sl (.ints .u8 g),.sl (.ints .u8 h),.arr .u8 32 i],false⟩)],2,82⟩
def V3:ASt→Option X3
 | ⟨[(7,.own 1),(1,.v (.int .i64 m)),(2,.v (.int .u64 n)),(3,.ptr 0 0),(8,.v (.int .u64 o))],[(1,some ⟨.row 155 (.cols j [.ints .i64 k,.rows .u8 l]),false⟩),(0,some ⟨.box 82 [.v (.int .i64 a),.v (.int .i64 b),.v (.int .i64 c),.v (.int .i64 d),.v (.int .i64 e),.v (.bool f),.sl (.ints .u8 g),.sl (.ints .u8 h),.arr .u8 32 i],false⟩)],2,82⟩=>some (m,n,o,j,k,l,a,b,c,d,e,f,g,h,i)
 | _=>none
theorem apk(st)(x)(h:V3 st=some x):st=S3 x:=by unfold V3 at h;split at h;(cases h;rfl);cases h
abbrev Y3:=P.cge
def E7(K:AExit→ASt→Option R):Y7→Option R:=(fun x=>K (.exit 2) (S7 x))
noncomputable def L7:p8:=fun st K=>abx (V7 st) fun x=>P.cfa x (E7 K)
def E3(K:AExit→ASt→Option R):Y3→Option R:=(fun x=>K (.exit 0) (S3 x))
noncomputable def L3:p8:=fun st K=>abx (V3 st) fun x=>P.co4 x (E3 K)
noncomputable def D:Ctx:=⟨Tryz.prog,[(83,l6.spec),(103,kr.spec)],GLO.gx,[(7,⟨[1,2,3,8,9,10],[(7,155,.cols 0 [.ints .i64 [],.rows .u8 []])],[6],[],some (80,[0,3]),[],[],[]⟩),(3,⟨[1,2,3,8],[(7,155,.cols 0 [.ints .i64 [],.rows .u8 []])],[6],[],none,[],[],[]⟩)],[(7,L7),(3,L3)],[],false,none,none,[],false⟩
theorem axu:jl D (gu Tryz.f84 7):=fq S7 av9 (by kernel_rfl) P.crb (enc:=E7) fun _ _ _=>by kernel_rfl
theorem aqa:jl D (gu Tryz.f84 3):=fq S3 apk (by kernel_rfl) P.cr0 (enc:=E3) fun _ _ _=>by kernel_rfl
theorem loops:gy (Tryz.f84.body.getD .skip)=[gu Tryz.f84 3,gu Tryz.f84 7]:=by kernel_rfl
noncomputable def cu:Abs.Spec:=fun args K=>match args with
 | [.agg [.v (.int .i64 c),.v (.int .i64 d),.v (.int .i64 e),.v (.int .i64 f),.v (.int .i64 g),.v (.bool a),.sl (.ints .u8 b),.sl (.ints .u8 h),.arr .u8 32 i],.v (.int .i64 j),.v (.int .u64 k)]=>P.pz c d e f g a b h i j k (fun l=>K (.sl (.ints .u8 l)))
 | _=>none
noncomputable def spec:Abs.Spec:=fun args K=>cu (j5 [.agg [.any,.any,.any,.any,.any,.any,.sl (.ints .u8 []),.sl (.ints .u8 []),.any],.any,.any] args) K
theorem ok0:Proved Tryz.prog GLO.gx 84 cu:=pL (D:=D) (fn:=Tryz.f84) [.sl (.ints .u8 [])] ⟨l6.ok,kr.ok,trivial⟩ loops ⟨aqa,axu,trivial⟩ fun _ K _ h=>by
  unfold cu at h
  split at h
  · rw[P.amr] at h;exact Aa (by kernel_rfl) h
  · cases h
theorem ok:Proved Tryz.prog GLO.gx 84 spec:=bq _ ok0
end pz

namespace tu
noncomputable def cu:Abs.Spec:=fun args K=>match args with
 | [.agg [.v (.int .i64 k),.v (.int .i64 l),.v (.int .i64 m),.v (.int .i64 n),.v (.int .i64 o),.v (.bool c)],.sl (.ints .u8 p),.sl (.ints .u8 q),.arr .u8 32 r]=>P.tu k l m n o c p q r (fun d e f g h a b i j s=>K (.tuple [.agg [.v (.int .i64 d),.v (.int .i64 e),.v (.int .i64 f),.v (.int .i64 g),.v (.int .i64 h),.v (.bool a),.sl (.ints .u8 b),.sl (.ints .u8 i),.arr .u8 32 j],.v (.bool s)]))
 | _=>none
noncomputable def spec:Abs.Spec:=fun args K=>cu (j5 [.any,.sl (.ints .u8 []),.sl (.ints .u8 []),.any] args) K
theorem ok0:Proved Tryz.prog GLO.gx 82 cu:=pK (G:=[(22,jy.spec)]) (fn:=Tryz.f82) [.agg [.any,.any,.any,.any,.any,.any,.sl (.ints .u8 []),.sl (.ints .u8 []),.any],.any] ⟨jy.ok,trivial⟩ fun _ K _ h=>by
  unfold cu at h
  split at h
  · rw[P.ar4] at h;exact Aa (by kernel_rfl) h
  · cases h
theorem ok:Proved Tryz.prog GLO.gx 82 spec:=bq _ ok0
end tu

end
