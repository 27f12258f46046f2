/-
  SlhSigns, part 22: lemmas for the law.
-/

import Derived.Test.YtciddcopcdmnbaaGreatDoorSlhSignsM
import Derived.Test.YtciddcopcdmnbaaGreatDoorSlhSignsH
import Derived.Test.YtciddcopcdmnbaaGreatDoorProg
import Derived.Test.YtciddcopcdmnbaaGreatDoorSlhSignsJ
import Derived.Test.YtciddcopcdmnbaaGreatDoorSlhSignsU
import Derived.Test.YtciddcopcdmnbaaGreatDoorSlhSignsT
import Derived.KernelRfl
import Derived.Test.YtciddcopcdmnbaaGreatDoorSlhSignsS
import Derived.Test.YtciddcopcdmnbaaGreatDoorSlhSignsL
open Eq renaming trans → Aa

section
open Go Go.Abs Go.Proofs
set_option maxRecDepth 100000
set_option maxHeartbeats 0
set_option linter.unusedVariables false

namespace abd
noncomputable def cu:Abs.Spec:=fun args K=>match args with
 | [.agg [.v (.int .i64 b),.v (.int .i64 c),.v (.int .i64 d),.v (.int .i64 e),.v (.int .i64 f),.v (.bool a)],.sl (.ints .u8 g),.sl (.ints .u8 h),.arr .u8 32 i,.v (.int .i64 j)]=>P.abd b c d e f a g h i j (fun k=>K (.sl (.ints .u8 k)))
 | _=>none
noncomputable def spec:Abs.Spec:=fun args K=>cu (j5 [.any,.sl (.ints .u8 []),.sl (.ints .u8 []),.any,.any] args) K
theorem ok0:Proved Tryz.prog GLO.gx 127 cu:=pK (G:=[(42,jf.spec),(132,agp.spec),(157,ac4.spec)]) (fn:=Tryz.f127) [.sl (.ints .u8 [])] ⟨jf.ok,agp.ok,ac4.ok,trivial⟩ fun _ K _ h=>by
  unfold cu at h
  split at h
  · rw[P.bbx] at h;exact Aa (by kernel_rfl) h
  · cases h
theorem ok:Proved Tryz.prog GLO.gx 127 spec:=bq _ ok0
end abd

namespace ag1
abbrev X6:=P.b9v
def S6:X6→ASt:=fun (i,j,h,k,a,b,c,d,e,f,g,l)=>⟨[(12,.own 3),(2,.sl (.ints .u8 i)),(3,.sl (.ints .u8 j)),(5,.ptr 0 0),(9,.ptr 1 0),(11,.own 2),(13,.v (.int .i64 h))],[(3,some ⟨.row 24 (.rows .u8 k),false⟩),(0,some ⟨.box 23 [.v (.int .i64 a),.v (.int .i64 b),.v (.int .i64 c),.v (.int .i64 d),.v (.int .i64 e),.v (.bool f)],false⟩),(1,some ⟨.box 64 [.arr .u8 32 g],false⟩),(2,some ⟨.row 102 (.ints .u32 l),false⟩)],4,57⟩
def V6:ASt→Option X6
 | ⟨[(12,.own 3),(2,.sl (.ints .u8 i)),(3,.sl (.ints .u8 j)),(5,.ptr 0 0),(9,.ptr 1 0),(11,.own 2),(13,.v (.int .i64 h))],[(3,some ⟨.row 24 (.rows .u8 k),false⟩),(0,some ⟨.box 23 [.v (.int .i64 a),.v (.int .i64 b),.v (.int .i64 c),.v (.int .i64 d),.v (.int .i64 e),.v (.bool f)],false⟩),(1,some ⟨.box 64 [.arr .u8 32 g],false⟩),(2,some ⟨.row 102 (.ints .u32 l),false⟩)],4,57⟩=>some (i,j,h,k,a,b,c,d,e,f,g,l)
 | _=>none
theorem alr(st)(x)(h:V6 st=some x):st=S6 x:=by unfold V6 at h;split at h;(cases h;rfl);cases h
abbrev Y6:=P.cnp
def E6(K:AExit→ASt→Option R):Y6→Option R:=(fun x=>K (.exit 0) (S6 x))
noncomputable def L6:p8:=fun st K=>abx (V6 st) fun x=>P.cha x (E6 K)
noncomputable def D:Ctx:=⟨Tryz.prog,[(42,jf.spec),(43,iy.spec),(125,zi.spec),(126,yc.spec),(127,abd.spec),(155,aag.spec)],GLO.gx,[(6,⟨[2,3,5,9,11,13],[(12,24,.rows .u8 [])],[10],[],none,[],[],[]⟩)],[(6,L6)],[],false,none,none,[],false⟩
theorem al6:jl D (gu Tryz.f133 6):=fq S6 alr (by kernel_rfl) P.crh (enc:=E6) fun _ _ _=>by kernel_rfl
theorem loops:gy (Tryz.f133.body.getD .skip)=[gu Tryz.f133 6]:=by kernel_rfl
noncomputable def cu:Abs.Spec:=fun args K=>match args with
 | [.agg [.v (.int .i64 b),.v (.int .i64 c),.v (.int .i64 d),.v (.int .i64 e),.v (.int .i64 f),.v (.bool a)],.sl (.ints .u8 g),.sl (.ints .u8 h),.sl (.ints .u8 i),.arr .u8 32 j]=>P.ag1 b c d e f a g h i j (fun k=>K (.fr 5 (.ints .u8 k)))
 | _=>none
noncomputable def spec:Abs.Spec:=fun args K=>cu (j5 [.any,.sl (.ints .u8 []),.sl (.ints .u8 []),.sl (.ints .u8 []),.any] args) K
theorem ok0:Proved Tryz.prog GLO.gx 133 cu:=pL (D:=D) (fn:=Tryz.f133) [.fr 5 (.ints .u8 [])] ⟨jf.ok,iy.ok,zi.ok,yc.ok,abd.ok,aag.ok,trivial⟩ loops ⟨al6,trivial⟩ fun _ K _ h=>by
  unfold cu at h
  split at h
  · rw[P.bgh] at h;exact Aa (by kernel_rfl) h
  · cases h
theorem ok:Proved Tryz.prog GLO.gx 133 spec:=bq _ ok0
end ag1

namespace acn
abbrev X5:=P.b5r
def S5:X5→ASt:=fun (i,j,h,k,a,b,c,d,e,f,g)=>⟨[(9,.own 2),(1,.sl (.ints .u8 i)),(2,.sl (.ints .u8 j)),(4,.ptr 0 0),(7,.ptr 1 0),(10,.v (.int .i64 h))],[(2,some ⟨.row 24 (.rows .u8 k),false⟩),(0,some ⟨.box 23 [.v (.int .i64 a),.v (.int .i64 b),.v (.int .i64 c),.v (.int .i64 d),.v (.int .i64 e),.v (.bool f)],false⟩),(1,some ⟨.box 64 [.arr .u8 32 g],false⟩)],3,44⟩
def V5:ASt→Option X5
 | ⟨[(9,.own 2),(1,.sl (.ints .u8 i)),(2,.sl (.ints .u8 j)),(4,.ptr 0 0),(7,.ptr 1 0),(10,.v (.int .i64 h))],[(2,some ⟨.row 24 (.rows .u8 k),false⟩),(0,some ⟨.box 23 [.v (.int .i64 a),.v (.int .i64 b),.v (.int .i64 c),.v (.int .i64 d),.v (.int .i64 e),.v (.bool f)],false⟩),(1,some ⟨.box 64 [.arr .u8 32 g],false⟩)],3,44⟩=>some (i,j,h,k,a,b,c,d,e,f,g)
 | _=>none
theorem aub(st)(x)(h:V5 st=some x):st=S5 x:=by unfold V5 at h;split at h;(cases h;rfl);cases h
abbrev Y5:=P.ci0
def E5(K:AExit→ASt→Option R):Y5→Option R:=(fun x=>K (.exit 0) (S5 x))
noncomputable def L5:p8:=fun st K=>abx (V5 st) fun x=>P.coa x (E5 K)
noncomputable def D:Ctx:=⟨Tryz.prog,[(42,jf.spec),(125,zi.spec),(126,yc.spec),(127,abd.spec),(128,af0.spec)],GLO.gx,[(5,⟨[1,2,4,7,10],[(9,24,.rows .u8 [])],[8],[],none,[],[],[]⟩)],[(5,L5)],[],false,none,none,[],false⟩
theorem ar3:jl D (gu Tryz.f77 5):=fq S5 aub (by kernel_rfl) P.cp0 (enc:=E5) fun _ _ _=>by kernel_rfl
theorem loops:gy (Tryz.f77.body.getD .skip)=[gu Tryz.f77 5]:=by kernel_rfl
noncomputable def cu:Abs.Spec:=fun args K=>match args with
 | [.agg [.v (.int .i64 b),.v (.int .i64 c),.v (.int .i64 d),.v (.int .i64 e),.v (.int .i64 f),.v (.bool a)],.sl (.ints .u8 g),.sl (.ints .u8 h),.arr .u8 32 i]=>P.acn b c d e f a g h i (fun j=>K (.sl (.ints .u8 j)))
 | _=>none
noncomputable def spec:Abs.Spec:=fun args K=>cu (j5 [.any,.sl (.ints .u8 []),.sl (.ints .u8 []),.any] args) K
theorem ok0:Proved Tryz.prog GLO.gx 77 cu:=pL (D:=D) (fn:=Tryz.f77) [.sl (.ints .u8 [])] ⟨jf.ok,zi.ok,yc.ok,abd.ok,af0.ok,trivial⟩ loops ⟨ar3,trivial⟩ fun _ K _ h=>by
  unfold cu at h
  split at h
  · rw[P.ay6] at h;exact Aa (by kernel_rfl) h
  · cases h
theorem ok:Proved Tryz.prog GLO.gx 77 spec:=bq _ ok0
end acn

namespace agn
abbrev X5:=P.b7d
def S5:X5→ASt:=fun (i,j,k,l,h,m,a,b,c,d,e,f,g)=>⟨[(13,.own 2),(1,.sl (.ints .u8 i)),(2,.sl (.ints .u8 j)),(4,.v (.int .i64 k)),(5,.v (.int .u64 l)),(6,.ptr 0 0),(9,.ptr 1 0),(14,.v (.int .u64 h))],[(2,some ⟨.row 24 (.rows .u8 m),false⟩),(0,some ⟨.box 23 [.v (.int .i64 a),.v (.int .i64 b),.v (.int .i64 c),.v (.int .i64 d),.v (.int .i64 e),.v (.bool f)],false⟩),(1,some ⟨.box 64 [.arr .u8 32 g],false⟩)],3,123⟩
def V5:ASt→Option X5
 | ⟨[(13,.own 2),(1,.sl (.ints .u8 i)),(2,.sl (.ints .u8 j)),(4,.v (.int .i64 k)),(5,.v (.int .u64 l)),(6,.ptr 0 0),(9,.ptr 1 0),(14,.v (.int .u64 h))],[(2,some ⟨.row 24 (.rows .u8 m),false⟩),(0,some ⟨.box 23 [.v (.int .i64 a),.v (.int .i64 b),.v (.int .i64 c),.v (.int .i64 d),.v (.int .i64 e),.v (.bool f)],false⟩),(1,some ⟨.box 64 [.arr .u8 32 g],false⟩)],3,123⟩=>some (i,j,k,l,h,m,a,b,c,d,e,f,g)
 | _=>none
theorem aub(st)(x)(h:V5 st=some x):st=S5 x:=by unfold V5 at h;split at h;(cases h;rfl);cases h
abbrev Y5:=P.cg7
abbrev X13:=P.b70
def S13:X13→ASt:=fun (l,m,n,h,i,j,k,a,b,c,d,e,f,g)=>⟨[(16,.own 80),(2,.sl (.ints .u8 l)),(4,.v (.int .i64 m)),(5,.v (.int .u64 n)),(6,.ptr 0 0),(9,.ptr 1 0),(13,.sl (.rows .u8 h)),(15,.v (.int .i64 i)),(17,.v (.int .i64 j))],[(80,some ⟨.row 24 (.rows .u8 k),false⟩),(1,some ⟨.box 64 [.arr .u8 32 a],false⟩),(0,some ⟨.box 23 [.v (.int .i64 b),.v (.int .i64 c),.v (.int .i64 d),.v (.int .i64 e),.v (.int .i64 f),.v (.bool g)],false⟩)],81,123⟩
def V13:ASt→Option X13
 | ⟨[(16,.own 80),(2,.sl (.ints .u8 l)),(4,.v (.int .i64 m)),(5,.v (.int .u64 n)),(6,.ptr 0 0),(9,.ptr 1 0),(13,.sl (.rows .u8 h)),(15,.v (.int .i64 i)),(17,.v (.int .i64 j))],[(80,some ⟨.row 24 (.rows .u8 k),false⟩),(1,some ⟨.box 64 [.arr .u8 32 a],false⟩),(0,some ⟨.box 23 [.v (.int .i64 b),.v (.int .i64 c),.v (.int .i64 d),.v (.int .i64 e),.v (.int .i64 f),.v (.bool g)],false⟩)],81,123⟩=>some (l,m,n,h,i,j,k,a,b,c,d,e,f,g)
 | _=>none
theorem bxb(st)(x)(h:V13 st=some x):st=S13 x:=by unfold V13 at h;split at h;(cases h;rfl);cases h
abbrev Y13:=P.cmw
abbrev X9:=P.b6g
def S9:X9→ASt:=fun (j,k,l,h,i,a,b,c,d,e,f,g)=>⟨[(2,.sl (.ints .u8 j)),(4,.v (.int .i64 k)),(5,.v (.int .u64 l)),(6,.ptr 0 0),(9,.ptr 1 0),(13,.sl (.rows .u8 h)),(15,.v (.int .i64 i))],[(0,some ⟨.box 23 [.v (.int .i64 a),.v (.int .i64 b),.v (.int .i64 c),.v (.int .i64 d),.v (.int .i64 e),.v (.bool f)],false⟩),(1,some ⟨.box 64 [.arr .u8 32 g],false⟩)],80,123⟩
def V9:ASt→Option X9
 | ⟨[(2,.sl (.ints .u8 j)),(4,.v (.int .i64 k)),(5,.v (.int .u64 l)),(6,.ptr 0 0),(9,.ptr 1 0),(13,.sl (.rows .u8 h)),(15,.v (.int .i64 i))],[(0,some ⟨.box 23 [.v (.int .i64 a),.v (.int .i64 b),.v (.int .i64 c),.v (.int .i64 d),.v (.int .i64 e),.v (.bool f)],false⟩),(1,some ⟨.box 64 [.arr .u8 32 g],false⟩)],80,123⟩=>some (j,k,l,h,i,a,b,c,d,e,f,g)
 | _=>none
theorem b43(st)(x)(h:V9 st=some x):st=S9 x:=by unfold V9 at h;split at h;(cases h;rfl);cases h
abbrev Y9:=P.cmf
def E5(K:AExit→ASt→Option R):Y5→Option R:=(fun x=>K (.exit 0) (S5 x))
noncomputable def L5:p8:=fun st K=>abx (V5 st) fun x=>P.co9 x (E5 K)
def E13(K:AExit→ASt→Option R):Y13→Option R:=(fun x=>K (.exit 4) (S13 x))
noncomputable def L13:p8:=fun st K=>abx (V13 st) fun x=>P.clb x (E13 K)
def E9(K:AExit→ASt→Option R):Y9→Option R:=(fun x=>K (.exit 2) (S9 x))
noncomputable def L9:p8:=fun st K=>abx (V9 st) fun x=>P.cpi x (E9 K)
noncomputable def D:Ctx:=⟨Tryz.prog,[(21,kg.spec),(77,acn.spec),(78,aay.spec),(79,ab2.spec)],GLO.gx,[(13,⟨[2,4,5,6,9,13,15,17],[(16,24,.rows .u8 [])],[12],[],none,[],[],[]⟩),(9,⟨[2,4,5,6,9,13,15],[],[12],[(13,.sl (.rows .u8 []))],some (80,[0,1]),[],[],[]⟩),(5,⟨[1,2,4,5,6,9,14],[(13,24,.rows .u8 [])],[12],[],none,[],[],[]⟩)],[(5,L5),(13,L13),(9,L9)],[],false,none,none,[],false⟩
theorem ar3:jl D (gu Tryz.f41 5):=fq S5 aub (by kernel_rfl) P.cq8 (enc:=E5) fun _ _ _=>by kernel_rfl
theorem bvg:jl D (gu Tryz.f41 13):=fq S13 bxb (by kernel_rfl) P.cqo (enc:=E13) fun _ _ _=>by kernel_rfl
theorem b3y:jl D (gu Tryz.f41 9):=fq S9 b43 (by kernel_rfl) P.cqc (enc:=E9) fun _ _ _=>by kernel_rfl
theorem loops:gy (Tryz.f41.body.getD .skip)=[gu Tryz.f41 5,gu Tryz.f41 9,gu Tryz.f41 13]:=by kernel_rfl
noncomputable def cu:Abs.Spec:=fun args K=>match args with
 | [.agg [.v (.int .i64 b),.v (.int .i64 c),.v (.int .i64 d),.v (.int .i64 e),.v (.int .i64 f),.v (.bool a)],.sl (.ints .u8 g),.sl (.ints .u8 h),.arr .u8 32 i,.v (.int .i64 j),.v (.int .u64 k)]=>P.agn b c d e f a g h i j k (fun l=>K (.sl (.ints .u8 l)))
 | _=>none
noncomputable def spec:Abs.Spec:=fun args K=>cu (j5 [.any,.sl (.ints .u8 []),.sl (.ints .u8 []),.any,.any,.any] args) K
theorem ok0:Proved Tryz.prog GLO.gx 41 cu:=pL (D:=D) (fn:=Tryz.f41) [.sl (.ints .u8 [])] ⟨kg.ok,acn.ok,aay.ok,ab2.ok,trivial⟩ loops ⟨ar3,b3y,bvg,trivial⟩ fun _ K _ h=>by
  unfold cu at h
  split at h
  · rw[P.bgc] at h;exact Aa (by kernel_rfl) h
  · cases h
theorem ok:Proved Tryz.prog GLO.gx 41 spec:=bq _ ok0
end agn

namespace ag8
abbrev X5:=P.b87
def S5:X5→ASt:=fun (j,k,l,h,i,a,b,c,d,e,f,g)=>⟨[(13,.own 40),(2,.sl (.ints .u8 j)),(3,.sl (.ints .u8 k)),(5,.v (.int .u64 l)),(6,.ptr 0 0),(10,.ptr 1 0),(14,.v (.int .i64 h))],[(40,some ⟨.row 24 (.rows .u8 i),false⟩),(0,some ⟨.box 23 [.v (.int .i64 a),.v (.int .i64 b),.v (.int .i64 c),.v (.int .i64 d),.v (.int .i64 e),.v (.bool f)],false⟩),(1,some ⟨.box 64 [.arr .u8 32 g],false⟩)],41,82⟩
def V5:ASt→Option X5
 | ⟨[(13,.own 40),(2,.sl (.ints .u8 j)),(3,.sl (.ints .u8 k)),(5,.v (.int .u64 l)),(6,.ptr 0 0),(10,.ptr 1 0),(14,.v (.int .i64 h))],[(40,some ⟨.row 24 (.rows .u8 i),false⟩),(0,some ⟨.box 23 [.v (.int .i64 a),.v (.int .i64 b),.v (.int .i64 c),.v (.int .i64 d),.v (.int .i64 e),.v (.bool f)],false⟩),(1,some ⟨.box 64 [.arr .u8 32 g],false⟩)],41,82⟩=>some (j,k,l,h,i,a,b,c,d,e,f,g)
 | _=>none
theorem aub(st)(x)(h:V5 st=some x):st=S5 x:=by unfold V5 at h;split at h;(cases h;rfl);cases h
abbrev Y5:=P.ckw
def E5(K:AExit→ASt→Option R):Y5→Option R:=(fun x=>K (.exit 0) (S5 x))
noncomputable def L5:p8:=fun st K=>abx (V5 st) fun x=>P.cle x (E5 K)
noncomputable def D:Ctx:=⟨Tryz.prog,[(21,kg.spec),(41,agn.spec),(43,iy.spec),(78,aay.spec),(133,ag1.spec)],GLO.gx,[(5,⟨[2,3,5,6,10,14],[(13,24,.rows .u8 [])],[12],[],some (40,[0,1]),[],[],[]⟩)],[(5,L5)],[],false,none,none,[],false⟩
theorem ar3:jl D (gu Tryz.f90 5):=fq S5 aub (by kernel_rfl) P.crg (enc:=E5) fun _ _ _=>by kernel_rfl
theorem loops:gy (Tryz.f90.body.getD .skip)=[gu Tryz.f90 5]:=by kernel_rfl
noncomputable def cu:Abs.Spec:=fun args K=>match args with
 | [.agg [.v (.int .i64 b),.v (.int .i64 c),.v (.int .i64 d),.v (.int .i64 e),.v (.int .i64 f),.v (.bool a)],.sl (.ints .u8 g),.sl (.ints .u8 h),.sl (.ints .u8 i),.arr .u8 32 j,.v (.int .u64 k)]=>P.ag8 b c d e f a g h i j k (fun l=>K (.fr 5 (.ints .u8 l)))
 | _=>none
noncomputable def spec:Abs.Spec:=fun args K=>cu (j5 [.any,.sl (.ints .u8 []),.sl (.ints .u8 []),.sl (.ints .u8 []),.any,.any] args) K
theorem ok0:Proved Tryz.prog GLO.gx 90 cu:=pL (D:=D) (fn:=Tryz.f90) [.fr 5 (.ints .u8 [])] ⟨kg.ok,agn.ok,iy.ok,aay.ok,ag1.ok,trivial⟩ loops ⟨ar3,trivial⟩ fun _ K _ h=>by
  unfold cu at h
  split at h
  · rw[P.bfr] at h;exact Aa (by kernel_rfl) h
  · cases h
theorem ok:Proved Tryz.prog GLO.gx 90 spec:=bq _ ok0
end ag8

namespace aex
noncomputable def spec:Abs.Spec:=fun args K=>match args with
 | [.v (.int .i64 a),.v (.int .u64 b)]=>P.aex a b (fun c=>K (.arr .u8 32 c))
 | _=>none
theorem ok:Proved Tryz.prog GLO.gx 72 spec:=pK (G:=[(42,jf.spec)]) (fn:=Tryz.f72) [.any] ⟨jf.ok,trivial⟩ fun _ K _ h=>by
  unfold spec at h
  split at h
  · rw[P.bcd] at h;exact Aa (by kernel_rfl) h
  · cases h
end aex

namespace aha
noncomputable def spec:Abs.Spec:=fun args K=>match args with
 | [.agg [.v (.int .i64 b),.v (.int .i64 c),.v (.int .i64 d),.v (.int .i64 e),.v (.int .i64 f),.v (.bool a)],.v (.int .u64 g),.v (.int .u64 h)]=>P.aha b c d e f a g h (fun i=>K (.v (.bool i)))
 | _=>none
theorem ok:Proved Tryz.prog GLO.gx 70 spec:=pK (G:=[(21,kg.spec)]) (fn:=Tryz.f70) [.any] ⟨kg.ok,trivial⟩ fun _ K _ h=>by
  unfold spec at h
  split at h
  · rw[P.be7] at h;exact Aa (by kernel_rfl) h
  · cases h
end aha

namespace adk
abbrev X5:=P.b8n
def S5:X5→ASt:=fun (h,i,j,k,l,g,m,a,b,c,d,e,f)=>⟨[(13,.own 1),(1,.sl (.ints .u8 h)),(2,.sl (.ints .u8 i)),(3,.sl (.ints .u8 j)),(4,.v (.int .u64 k)),(5,.v (.int .u64 l)),(6,.ptr 0 0),(14,.v (.int .i64 g))],[(1,some ⟨.row 24 (.rows .u8 m),false⟩),(0,some ⟨.box 23 [.v (.int .i64 a),.v (.int .i64 b),.v (.int .i64 c),.v (.int .i64 d),.v (.int .i64 e),.v (.bool f)],false⟩)],2,87⟩
def V5:ASt→Option X5
 | ⟨[(13,.own 1),(1,.sl (.ints .u8 h)),(2,.sl (.ints .u8 i)),(3,.sl (.ints .u8 j)),(4,.v (.int .u64 k)),(5,.v (.int .u64 l)),(6,.ptr 0 0),(14,.v (.int .i64 g))],[(1,some ⟨.row 24 (.rows .u8 m),false⟩),(0,some ⟨.box 23 [.v (.int .i64 a),.v (.int .i64 b),.v (.int .i64 c),.v (.int .i64 d),.v (.int .i64 e),.v (.bool f)],false⟩)],2,87⟩=>some (h,i,j,k,l,g,m,a,b,c,d,e,f)
 | _=>none
theorem aub(st)(x)(h:V5 st=some x):st=S5 x:=by unfold V5 at h;split at h;(cases h;rfl);cases h
abbrev Y5:=P.cla
def E5(K:AExit→ASt→Option R):Y5→Option R:=(fun x=>K (.exit 0) (S5 x))
noncomputable def L5:p8:=fun st K=>abx (V5 st) fun x=>P.cl8 x (E5 K)
noncomputable def D:Ctx:=⟨Tryz.prog,[(43,iy.spec),(70,aha.spec),(71,zu.spec),(72,aex.spec),(90,ag8.spec)],GLO.gx,[(5,⟨[1,2,3,4,5,6,14],[(13,24,.rows .u8 [])],[12],[(1,.sl (.ints .u8 []))],none,[],[],[]⟩)],[(5,L5)],[],false,none,none,[],false⟩
theorem ar3:jl D (gu Tryz.f48 5):=fq S5 aub (by kernel_rfl) P.crj (enc:=E5) fun _ _ _=>by kernel_rfl
theorem loops:gy (Tryz.f48.body.getD .skip)=[gu Tryz.f48 5]:=by kernel_rfl
noncomputable def cu:Abs.Spec:=fun args K=>match args with
 | [.agg [.v (.int .i64 b),.v (.int .i64 c),.v (.int .i64 d),.v (.int .i64 e),.v (.int .i64 f),.v (.bool a)],.sl (.ints .u8 g),.sl (.ints .u8 h),.sl (.ints .u8 i),.v (.int .u64 j),.v (.int .u64 k)]=>P.adk b c d e f a g h i j k (fun l=>K (.fr 5 (.ints .u8 l)))
 | _=>none
noncomputable def spec:Abs.Spec:=fun args K=>cu (j5 [.any,.sl (.ints .u8 []),.sl (.ints .u8 []),.sl (.ints .u8 []),.any,.any] args) K
theorem ok0:Proved Tryz.prog GLO.gx 48 cu:=pL (D:=D) (fn:=Tryz.f48) [.fr 5 (.ints .u8 [])] ⟨iy.ok,aha.ok,zu.ok,aex.ok,ag8.ok,trivial⟩ loops ⟨ar3,trivial⟩ fun _ K _ h=>by
  unfold cu at h
  split at h
  · rw[P.bcw] at h;exact Aa (by kernel_rfl) h
  · cases h
theorem ok:Proved Tryz.prog GLO.gx 48 spec:=bq _ ok0
end adk

namespace aax
noncomputable def spec:Abs.Spec:=fun args K=>match args with
 | [.agg [.v (.int .i64 b),.v (.int .i64 c),.v (.int .i64 d),.v (.int .i64 e),.v (.int .i64 f),.v (.bool a)]]=>P.aax b c d e f a (fun g h=>K (.tuple [.v (.int .i64 g),.v (.int .i64 h)]))
 | _=>none
theorem ok:Proved Tryz.prog GLO.gx 30 spec:=pK (G:=[(21,kg.spec)]) (fn:=Tryz.f30) [.any,.any] ⟨kg.ok,trivial⟩ fun _ K _ h=>by
  unfold spec at h
  split at h
  · rw[P.bg8] at h;exact Aa (by kernel_rfl) h
  · cases h
end aax

namespace ac9
noncomputable def spec:Abs.Spec:=fun args K=>match args with
 | [.arr .u8 32 a]=>P.ac9 a (fun b=>K (.v (.int .u64 b)))
 | _=>none
theorem ok:Proved Tryz.prog GLO.gx 119 spec:=pK (G:=[(65,wm.spec)]) (fn:=Tryz.f119) [.any] ⟨wm.ok,trivial⟩ fun _ K _ h=>by
  unfold spec at h
  split at h
  · rw[P.bgr] at h;exact Aa (by kernel_rfl) h
  · cases h
end ac9

namespace aac
noncomputable def spec:Abs.Spec:=fun args K=>match args with
 | [.arr .u8 32 a,.v (.int .u64 b),.v (.int .i64 c),.v (.int .u64 d)]=>P.aac a b c d (fun e=>K (.arr .u8 32 e))
 | _=>none
theorem ok:Proved Tryz.prog GLO.gx 68 spec:=pK (G:=[(42,jf.spec),(119,ac9.spec)]) (fn:=Tryz.f68) [.any] ⟨jf.ok,ac9.ok,trivial⟩ fun _ K _ h=>by
  unfold spec at h
  split at h
  · rw[P.boe] at h;exact Aa (by kernel_rfl) h
  · cases h
end aac

namespace ak8
noncomputable def cu:Abs.Spec:=fun args K=>match args with
 | [.agg [.v (.int .i64 b),.v (.int .i64 c),.v (.int .i64 d),.v (.int .i64 e),.v (.int .i64 f),.v (.bool a)],.sl (.rows .u8 g),.sl (.ints .u8 h),.arr .u8 32 i]=>P.ak8 b c d e f a g h i (fun j=>K (.sl (.ints .u8 j)))
 | _=>none
noncomputable def spec:Abs.Spec:=fun args K=>cu (j5 [.any,.sl (.rows .u8 []),.sl (.ints .u8 []),.any] args) K
theorem ok0:Proved Tryz.prog GLO.gx 69 cu:=pK (G:=[(42,jf.spec),(43,iy.spec),(67,su.spec),(119,ac9.spec)]) (fn:=Tryz.f69) [.sl (.ints .u8 [])] ⟨jf.ok,iy.ok,su.ok,ac9.ok,trivial⟩ fun _ K _ h=>by
  unfold cu at h
  split at h
  · rw[P.bjz] at h;exact Aa (by kernel_rfl) h
  · cases h
theorem ok:Proved Tryz.prog GLO.gx 69 spec:=bq _ ok0
end ak8

namespace yj
abbrev X13:=P.cad
def S13:X13→ASt:=fun (m,n,h,i,j,k,l,o,a,b,c,d,e,f,g,p)=>⟨[(1,.sl (.ints .u8 m)),(3,.sl (.ints .u8 n)),(5,.ptr 0 0),(9,.ptr 1 0),(13,.own 2),(14,.own 3),(15,.v (.int .i64 h)),(16,.v (.int .u64 i)),(17,.sl (.ints .u8 j)),(18,.sl (.ints .u8 k)),(19,.v (.int .i64 l))],[(2,some ⟨.row 102 (.ints .u32 o),false⟩),(1,some ⟨.box 64 [.arr .u8 32 a],false⟩),(0,some ⟨.box 23 [.v (.int .i64 b),.v (.int .i64 c),.v (.int .i64 d),.v (.int .i64 e),.v (.int .i64 f),.v (.bool g)],false⟩),(3,some ⟨.row 24 (.rows .u8 p),false⟩)],4,144⟩
def V13:ASt→Option X13
 | ⟨[(1,.sl (.ints .u8 m)),(3,.sl (.ints .u8 n)),(5,.ptr 0 0),(9,.ptr 1 0),(13,.own 2),(14,.own 3),(15,.v (.int .i64 h)),(16,.v (.int .u64 i)),(17,.sl (.ints .u8 j)),(18,.sl (.ints .u8 k)),(19,.v (.int .i64 l))],[(2,some ⟨.row 102 (.ints .u32 o),false⟩),(1,some ⟨.box 64 [.arr .u8 32 a],false⟩),(0,some ⟨.box 23 [.v (.int .i64 b),.v (.int .i64 c),.v (.int .i64 d),.v (.int .i64 e),.v (.int .i64 f),.v (.bool g)],false⟩),(3,some ⟨.row 24 (.rows .u8 p),false⟩)],4,144⟩=>some (m,n,h,i,j,k,l,o,a,b,c,d,e,f,g,p)
 | _=>none
theorem bxb(st)(x)(h:V13 st=some x):st=S13 x:=by unfold V13 at h;split at h;(cases h;rfl);cases h
abbrev Y13:=P.ck3
abbrev X7:=P.b7r
def S7:X7→ASt:=fun (i,j,h,k,a,b,c,d,e,f,g,l)=>⟨[(14,.own 3),(1,.sl (.ints .u8 i)),(3,.sl (.ints .u8 j)),(5,.ptr 0 0),(9,.ptr 1 0),(13,.own 2),(15,.v (.int .i64 h))],[(3,some ⟨.row 24 (.rows .u8 k),false⟩),(0,some ⟨.box 23 [.v (.int .i64 a),.v (.int .i64 b),.v (.int .i64 c),.v (.int .i64 d),.v (.int .i64 e),.v (.bool f)],false⟩),(1,some ⟨.box 64 [.arr .u8 32 g],false⟩),(2,some ⟨.row 102 (.ints .u32 l),false⟩)],4,144⟩
def V7:ASt→Option X7
 | ⟨[(14,.own 3),(1,.sl (.ints .u8 i)),(3,.sl (.ints .u8 j)),(5,.ptr 0 0),(9,.ptr 1 0),(13,.own 2),(15,.v (.int .i64 h))],[(3,some ⟨.row 24 (.rows .u8 k),false⟩),(0,some ⟨.box 23 [.v (.int .i64 a),.v (.int .i64 b),.v (.int .i64 c),.v (.int .i64 d),.v (.int .i64 e),.v (.bool f)],false⟩),(1,some ⟨.box 64 [.arr .u8 32 g],false⟩),(2,some ⟨.row 102 (.ints .u32 l),false⟩)],4,144⟩=>some (i,j,h,k,a,b,c,d,e,f,g,l)
 | _=>none
theorem av9(st)(x)(h:V7 st=some x):st=S7 x:=by unfold V7 at h;split at h;(cases h;rfl);cases h
abbrev Y7:=P.cix
def E13(K:AExit→ASt→Option R):Y13→Option R:=(fun x=>K (.exit 2) (S13 x))
noncomputable def L13:p8:=fun st K=>abx (V13 st) fun x=>P.cj6 x (E13 K)
def E7(K:AExit→ASt→Option R):Y7→Option R:=(fun x=>K (.exit 0) (S7 x))
noncomputable def L7:p8:=fun st K=>abx (V7 st) fun x=>P.cl6 x (E7 K)
noncomputable def D:Ctx:=⟨Tryz.prog,[(21,kg.spec),(30,aax.spec),(43,iy.spec),(66,pq.spec),(67,su.spec),(68,aac.spec),(69,ak8.spec)],GLO.gx,[(13,⟨[1,3,5,9,13,14,15,16,17,18,19],[],[10],[(18,.sl (.ints .u8 []))],none,[],[],[]⟩),(7,⟨[1,3,5,9,13,15],[(14,24,.rows .u8 [])],[10],[],none,[],[],[]⟩)],[(13,L13),(7,L7)],[],false,none,none,[],false⟩
theorem bvg:jl D (gu Tryz.f33 13):=fq S13 bxb (by kernel_rfl) P.cpn (enc:=E13) fun _ _ _=>by kernel_rfl
theorem axu:jl D (gu Tryz.f33 7):=fq S7 av9 (by kernel_rfl) P.cp8 (enc:=E7) fun _ _ _=>by kernel_rfl
theorem loops:gy (Tryz.f33.body.getD .skip)=[gu Tryz.f33 7,gu Tryz.f33 13]:=by kernel_rfl
noncomputable def cu:Abs.Spec:=fun args K=>match args with
 | [.agg [.v (.int .i64 b),.v (.int .i64 c),.v (.int .i64 d),.v (.int .i64 e),.v (.int .i64 f),.v (.bool a)],.sl (.ints .u8 g),.sl (.ints .u8 h),.sl (.ints .u8 i),.arr .u8 32 j]=>P.yj b c d e f a g h i j (fun k=>K (.sl (.ints .u8 k)))
 | _=>none
noncomputable def spec:Abs.Spec:=fun args K=>cu (j5 [.any,.sl (.ints .u8 []),.sl (.ints .u8 []),.sl (.ints .u8 []),.any] args) K
theorem ok0:Proved Tryz.prog GLO.gx 33 cu:=pL (D:=D) (fn:=Tryz.f33) [.sl (.ints .u8 [])] ⟨kg.ok,aax.ok,iy.ok,pq.ok,su.ok,aac.ok,ak8.ok,trivial⟩ loops ⟨axu,bvg,trivial⟩ fun _ K _ h=>by
  unfold cu at h
  split at h
  · rw[P.aq3] at h;exact Aa (by kernel_rfl) h
  · cases h
theorem ok:Proved Tryz.prog GLO.gx 33 spec:=bq _ ok0
end yj

namespace ada
noncomputable def cu:Abs.Spec:=fun args K=>match args with
 | [.agg [.v (.int .i64 b),.v (.int .i64 c),.v (.int .i64 d),.v (.int .i64 e),.v (.int .i64 f),.v (.bool a)],.sl (.ints .u8 g),.sl (.ints .u8 h),.arr .u8 32 i,.v (.int .u64 j)]=>P.ada b c d e f a g h i j (fun k=>K (.sl (.ints .u8 k)))
 | _=>none
noncomputable def spec:Abs.Spec:=fun args K=>cu (j5 [.any,.sl (.ints .u8 []),.sl (.ints .u8 []),.any,.any] args) K
theorem ok0:Proved Tryz.prog GLO.gx 88 cu:=pK (G:=[(68,aac.spec),(132,agp.spec)]) (fn:=Tryz.f88) [.sl (.ints .u8 [])] ⟨aac.ok,agp.ok,trivial⟩ fun _ K _ h=>by
  unfold cu at h
  split at h
  · rw[P.bh0] at h;exact Aa (by kernel_rfl) h
  · cases h
theorem ok:Proved Tryz.prog GLO.gx 88 spec:=bq _ ok0
end ada

namespace aav
noncomputable def cu:Abs.Spec:=fun args K=>match args with
 | [.agg [.v (.int .i64 b),.v (.int .i64 c),.v (.int .i64 d),.v (.int .i64 e),.v (.int .i64 f),.v (.bool a)],.sl (.ints .u8 g),.sl (.ints .u8 h)]=>P.aav b c d e f a g h (fun i=>K (.v (.bool i)))
 | _=>none
noncomputable def spec:Abs.Spec:=fun args K=>cu (j5 [.any,.sl (.ints .u8 []),.sl (.ints .u8 [])] args) K
theorem ok0:Proved Tryz.prog GLO.gx 87 cu:=pK (G:=[(21,kg.spec)]) (fn:=Tryz.f87) [.any] ⟨kg.ok,trivial⟩ fun _ K _ h=>by
  unfold cu at h
  split at h
  · rw[P.bbt] at h;exact Aa (by kernel_rfl) h
  · cases h
theorem ok:Proved Tryz.prog GLO.gx 87 spec:=bq _ ok0
end aav

end
