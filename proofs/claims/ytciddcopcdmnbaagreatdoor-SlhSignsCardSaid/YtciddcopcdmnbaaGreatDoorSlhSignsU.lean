/-
  SlhSigns, part 21: lemmas for the law.
-/

import Derived.Test.YtciddcopcdmnbaaGreatDoorSlhSignsL
import Derived.Test.YtciddcopcdmnbaaGreatDoorSlhSignsH
import Derived.Test.YtciddcopcdmnbaaGreatDoorProg
import Derived.Test.YtciddcopcdmnbaaGreatDoorSlhSignsJ
import Derived.Test.YtciddcopcdmnbaaGreatDoorSlhSignsT
import Derived.KernelRfl
import Derived.Test.YtciddcopcdmnbaaGreatDoorSlhSignsM
import Derived.Test.YtciddcopcdmnbaaGreatDoorSlhSignsS
open Eq renaming trans → Aa

section
open Go Go.Abs Go.Proofs
set_option maxRecDepth 100000
set_option maxHeartbeats 0
set_option linter.unusedVariables false

namespace aff
abbrev X3:=P.b6i
def S3:X3→ASt:=fun (d,a,b,c)=>⟨[(1,.ptr 0 0),(2,.ptr 1 0),(3,.ptr 2 0),(4,.v (.int .i64 d))],[(0,some ⟨.box 130 [.arr .u64 25 a],false⟩),(1,some ⟨.box 130 [.arr .u64 25 b],false⟩),(2,some ⟨.box 215 [.arr .u64 5 c],false⟩)],3,44⟩
def V3:ASt→Option X3
 | ⟨[(1,.ptr 0 0),(2,.ptr 1 0),(3,.ptr 2 0),(4,.v (.int .i64 d))],[(0,some ⟨.box 130 [.arr .u64 25 a],false⟩),(1,some ⟨.box 130 [.arr .u64 25 b],false⟩),(2,some ⟨.box 215 [.arr .u64 5 c],false⟩)],3,44⟩=>some (d,a,b,c)
 | _=>none
theorem apk(st)(x)(h:V3 st=some x):st=S3 x:=by unfold V3 at h;split at h;(cases h;rfl);cases h
abbrev Y3:=P.cig
abbrev X7:=P.b89
def S7:X7→ASt:=fun (d,a,b,c)=>⟨[(1,.ptr 0 0),(2,.ptr 1 0),(3,.ptr 2 0),(5,.v (.int .i64 d))],[(2,some ⟨.box 215 [.arr .u64 5 a],false⟩),(1,some ⟨.box 130 [.arr .u64 25 b],false⟩),(0,some ⟨.box 130 [.arr .u64 25 c],false⟩)],3,44⟩
def V7:ASt→Option X7
 | ⟨[(1,.ptr 0 0),(2,.ptr 1 0),(3,.ptr 2 0),(5,.v (.int .i64 d))],[(2,some ⟨.box 215 [.arr .u64 5 a],false⟩),(1,some ⟨.box 130 [.arr .u64 25 b],false⟩),(0,some ⟨.box 130 [.arr .u64 25 c],false⟩)],3,44⟩=>some (d,a,b,c)
 | _=>none
theorem av9(st)(x)(h:V7 st=some x):st=S7 x:=by unfold V7 at h;split at h;(cases h;rfl);cases h
abbrev Y7:=P.clc
def E3(K:AExit→ASt→Option R):Y3→Option R:=(fun x=>K (.exit 0) (S3 x))
noncomputable def L3:p8:=fun st K=>abx (V3 st) fun x=>P.ciw x (E3 K)
def E7(K:AExit→ASt→Option R):Y7→Option R:=(fun x=>K (.exit 2) (S7 x))
noncomputable def L7:p8:=fun st K=>abx (V7 st) fun x=>P.cn1 x (E7 K)
noncomputable def D:Ctx:=⟨Tryz.prog,[(190,ag9.spec)],GLO.gx,[(7,⟨[1,2,3,5],[],[2],[],none,[],[],[]⟩),(3,⟨[1,2,3,4],[],[2],[],none,[],[],[]⟩)],[(3,L3),(7,L7)],[],false,none,none,[],false⟩
theorem aqa:jl D (gu Tryz.f173 3):=fq S3 apk (by kernel_rfl) P.crd (enc:=E3) fun _ _ _=>by kernel_rfl
theorem axu:jl D (gu Tryz.f173 7):=fq S7 av9 (by kernel_rfl) P.cqk (enc:=E7) fun _ _ _=>by kernel_rfl
theorem loops:gy (Tryz.f173.body.getD .skip)=[gu Tryz.f173 3,gu Tryz.f173 7]:=by kernel_rfl
noncomputable def spec:Abs.Spec:=fun args K=>match args with
 | [.arr .u64 25 a]=>P.aff a (fun b=>K (.arr .u64 25 b))
 | _=>none
theorem ok:Proved Tryz.prog GLO.gx 173 spec:=pL (D:=D) (fn:=Tryz.f173) [.any] ⟨ag9.ok,trivial⟩ loops ⟨aqa,axu,trivial⟩ fun _ K _ h=>by
  unfold spec at h
  split at h
  · rw[P.azz] at h;exact Aa (by kernel_rfl) h
  · cases h
end aff

namespace uh
abbrev X7:=P.b79
def S7:X7→ASt:=fun (e,f,a,b,c,d)=>⟨[(1,.ptr 0 0),(2,.ptr 1 0),(3,.ptr 2 0),(4,.v (.int .i64 e)),(5,.ptr 3 0),(6,.v (.int .i64 f))],[(2,some ⟨.box 186 [.arr .u64 24 a],false⟩),(1,some ⟨.box 130 [.arr .u64 25 b],false⟩),(0,some ⟨.box 130 [.arr .u64 25 c],false⟩),(3,some ⟨.box 130 [.arr .u64 25 d],false⟩)],4,53⟩
def V7:ASt→Option X7
 | ⟨[(1,.ptr 0 0),(2,.ptr 1 0),(3,.ptr 2 0),(4,.v (.int .i64 e)),(5,.ptr 3 0),(6,.v (.int .i64 f))],[(2,some ⟨.box 186 [.arr .u64 24 a],false⟩),(1,some ⟨.box 130 [.arr .u64 25 b],false⟩),(0,some ⟨.box 130 [.arr .u64 25 c],false⟩),(3,some ⟨.box 130 [.arr .u64 25 d],false⟩)],4,53⟩=>some (e,f,a,b,c,d)
 | _=>none
theorem av9(st)(x)(h:V7 st=some x):st=S7 x:=by unfold V7 at h;split at h;(cases h;rfl);cases h
abbrev Y7:=P.ce6
abbrev X3:=P.b9j
def S3:X3→ASt:=fun (d,a,b,c)=>⟨[(1,.ptr 0 0),(2,.ptr 1 0),(3,.ptr 2 0),(4,.v (.int .i64 d))],[(0,some ⟨.box 130 [.arr .u64 25 a],false⟩),(1,some ⟨.box 130 [.arr .u64 25 b],false⟩),(2,some ⟨.box 186 [.arr .u64 24 c],false⟩)],3,53⟩
def V3:ASt→Option X3
 | ⟨[(1,.ptr 0 0),(2,.ptr 1 0),(3,.ptr 2 0),(4,.v (.int .i64 d))],[(0,some ⟨.box 130 [.arr .u64 25 a],false⟩),(1,some ⟨.box 130 [.arr .u64 25 b],false⟩),(2,some ⟨.box 186 [.arr .u64 24 c],false⟩)],3,53⟩=>some (d,a,b,c)
 | _=>none
theorem apk(st)(x)(h:V3 st=some x):st=S3 x:=by unfold V3 at h;split at h;(cases h;rfl);cases h
abbrev Y3:=P.cnu
def E7(K:AExit→ASt→Option R):Y7→Option R:=(fun x=>K (.exit 2) (S7 x))
noncomputable def L7:p8:=fun st K=>abx (V7 st) fun x=>P.ch7 x (E7 K)
def E3(K:AExit→ASt→Option R):Y3→Option R:=(fun x=>K (.exit 0) (S3 x))
noncomputable def L3:p8:=fun st K=>abx (V3 st) fun x=>P.cmz x (E3 K)
noncomputable def D:Ctx:=⟨Tryz.prog,[(171,aaw.spec),(172,akw.spec),(173,aff.spec)],GLO.gx,[(7,⟨[1,2,3,4,5,6],[],[2],[],none,[],[],[]⟩),(3,⟨[1,2,3,4],[],[2],[],none,[],[],[]⟩)],[(7,L7),(3,L3)],[],false,none,none,[],false⟩
theorem axu:jl D (gu Tryz.f150 7):=fq S7 av9 (by kernel_rfl) P.cpq (enc:=E7) fun _ _ _=>by kernel_rfl
theorem aqa:jl D (gu Tryz.f150 3):=fq S3 apk (by kernel_rfl) P.crw (enc:=E3) fun _ _ _=>by kernel_rfl
theorem loops:gy (Tryz.f150.body.getD .skip)=[gu Tryz.f150 3,gu Tryz.f150 7]:=by kernel_rfl
noncomputable def spec:Abs.Spec:=fun args K=>match args with
 | [.arr .u64 25 a]=>P.uh a (fun b=>K (.arr .u64 25 b))
 | _=>none
theorem ok:Proved Tryz.prog GLO.gx 150 spec:=pL (D:=D) (fn:=Tryz.f150) [.any] ⟨aaw.ok,akw.ok,aff.ok,trivial⟩ loops ⟨aqa,axu,trivial⟩ fun _ K _ h=>by
  unfold spec at h
  split at h
  · rw[P.avy] at h;exact Aa (by kernel_rfl) h
  · cases h
end uh

namespace abn
noncomputable def spec:Abs.Spec:=fun args K=>match args with
 | [.v (.int .i64 a)]=>P.abn a (fun b=>K (.v (.int .i64 b)))
 | _=>none
theorem ok:Proved Tryz.prog GLO.gx 149 spec:=pK (G:=[]) (fn:=Tryz.f149) [.any] trivial fun _ K _ h=>by
  unfold spec at h
  split at h
  · rw[P.bgz] at h;exact Aa (by kernel_rfl) h
  · cases h
end abn

namespace aa4
noncomputable def spec:Abs.Spec:=fun args K=>match args with
 | [.arr .u64 25 a,.v (.int .i64 b),.v (.int .u8 c)]=>P.aa4 a b c (fun d=>K (.arr .u64 25 d))
 | _=>none
theorem ok:Proved Tryz.prog GLO.gx 151 spec:=pK (G:=[]) (fn:=Tryz.f151) [.any] trivial fun _ K _ h=>by
  unfold spec at h
  split at h
  · rw[P.bkj] at h;exact Aa (by kernel_rfl) h
  · cases h
end aa4

namespace ac1
abbrev X4:=P.b8a
def S4:X4→ASt:=fun (i,j,a,b,c,d,e,f,g,h)=>⟨[(1,.sl (.ints .u8 i)),(2,.ptr 0 0),(4,.ptr 1 0),(5,.v (.int .i64 j))],[(0,some ⟨.box 132 [.v (.int .i64 a),.arr .u64 25 b,.v (.int .i64 c),.v (.bool d)],false⟩),(1,some ⟨.box 132 [.v (.int .i64 e),.arr .u64 25 f,.v (.int .i64 g),.v (.bool h)],false⟩)],40,41⟩
def V4:ASt→Option X4
 | ⟨[(1,.sl (.ints .u8 i)),(2,.ptr 0 0),(4,.ptr 1 0),(5,.v (.int .i64 j))],[(0,some ⟨.box 132 [.v (.int .i64 a),.arr .u64 25 b,.v (.int .i64 c),.v (.bool d)],false⟩),(1,some ⟨.box 132 [.v (.int .i64 e),.arr .u64 25 f,.v (.int .i64 g),.v (.bool h)],false⟩)],40,41⟩=>some (i,j,a,b,c,d,e,f,g,h)
 | _=>none
theorem axb(st)(x)(h:V4 st=some x):st=S4 x:=by unfold V4 at h;split at h;(cases h;rfl);cases h
abbrev Y4:=P.ce4
def E4(K:AExit→ASt→Option R):Y4→Option R:=(fun x=>K (.exit 0) (S4 x))
noncomputable def L4:p8:=fun st K=>abx (V4 st) fun x=>P.chc x (E4 K)
noncomputable def D:Ctx:=⟨Tryz.prog,[(149,abn.spec),(150,uh.spec),(151,aa4.spec)],GLO.gx,[(4,⟨[1,2,4,5],[],[4],[],some (40,[0,1]),[],[],[]⟩)],[(4,L4)],[],false,none,none,[],false⟩
theorem awr:jl D (gu Tryz.f112 4):=fq S4 axb (by kernel_rfl) P.cq9 (enc:=E4) fun _ _ _=>by kernel_rfl
theorem loops:gy (Tryz.f112.body.getD .skip)=[gu Tryz.f112 4]:=by kernel_rfl
noncomputable def cu:Abs.Spec:=fun args K=>match args with
 | [.agg [.v (.int .i64 c),.arr .u64 25 a,.v (.int .i64 g),.v (.bool e)],.sl (.ints .u8 i)]=>P.ac1 c a g e i (fun d b h f=>K (.agg [.v (.int .i64 d),.arr .u64 25 b,.v (.int .i64 h),.v (.bool f)]))
 | _=>none
noncomputable def spec:Abs.Spec:=fun args K=>cu (j5 [.any,.sl (.ints .u8 [])] args) K
theorem ok0:Proved Tryz.prog GLO.gx 112 cu:=pL (D:=D) (fn:=Tryz.f112) [.any] ⟨abn.ok,uh.ok,aa4.ok,trivial⟩ loops ⟨awr,trivial⟩ fun _ K _ h=>by
  unfold cu at h
  split at h
  · rw[P.azt] at h;exact Aa (by kernel_rfl) h
  · cases h
theorem ok:Proved Tryz.prog GLO.gx 112 spec:=bq _ ok0
end ac1

namespace ar9
noncomputable def spec:Abs.Spec:=fun args K=>match args with
 | [.v (.int .i64 e)]=>P.ar9 e (fun b a d c f=>K (.tuple [.agg [.v (.int .i64 b),.arr .u64 25 a,.v (.int .i64 d),.v (.bool c)],.v (.int .i64 f)]))
 | _=>none
theorem ok:Proved Tryz.prog GLO.gx 110 spec:=pK (G:=[(149,abn.spec)]) (fn:=Tryz.f110) [.any,.any] ⟨abn.ok,trivial⟩ fun _ K _ h=>by
  unfold spec at h
  split at h
  · rw[P.bju] at h;exact Aa (by kernel_rfl) h
  · cases h
end ar9

namespace abf
abbrev X12:=P.b9o
def S12:X12→ASt:=fun (j,k,i,a,b,c,d,e,f,g,h)=>⟨[(8,.own 40),(1,.v (.int .i64 j)),(2,.ptr 0 0),(4,.ptr 1 0),(6,.v (.int .i64 k))],[(40,some ⟨.row 5 (.ints .u8 i),false⟩),(0,some ⟨.box 132 [.v (.int .i64 a),.arr .u64 25 b,.v (.int .i64 c),.v (.bool d)],false⟩),(1,some ⟨.box 132 [.v (.int .i64 e),.arr .u64 25 f,.v (.int .i64 g),.v (.bool h)],false⟩)],41,73⟩
def V12:ASt→Option X12
 | ⟨[(8,.own 40),(1,.v (.int .i64 j)),(2,.ptr 0 0),(4,.ptr 1 0),(6,.v (.int .i64 k))],[(40,some ⟨.row 5 (.ints .u8 i),false⟩),(0,some ⟨.box 132 [.v (.int .i64 a),.arr .u64 25 b,.v (.int .i64 c),.v (.bool d)],false⟩),(1,some ⟨.box 132 [.v (.int .i64 e),.arr .u64 25 f,.v (.int .i64 g),.v (.bool h)],false⟩)],41,73⟩=>some (j,k,i,a,b,c,d,e,f,g,h)
 | _=>none
theorem bej(st)(x)(h:V12 st=some x):st=S12 x:=by unfold V12 at h;split at h;(cases h;rfl);cases h
abbrev Y12:=P.cpg
def E12(K:AExit→ASt→Option R):Y12→Option R:=(fun x=>K (.exit 0) (S12 x))
noncomputable def L12:p8:=fun st K=>abx (V12 st) fun x=>P.ckt x (E12 K)
noncomputable def D:Ctx:=⟨Tryz.prog,[(149,abn.spec),(150,uh.spec),(151,aa4.spec)],GLO.gx,[(12,⟨[1,2,4,6],[(8,5,.ints .u8 [])],[4,5],[],some (40,[0,1]),[],[],[]⟩)],[(12,L12)],[],false,none,none,[],false⟩
theorem bgt:jl D (gu Tryz.f111 12):=fq S12 bej (by kernel_rfl) P.cq6 (enc:=E12) fun _ _ _=>by kernel_rfl
theorem loops:gy (Tryz.f111.body.getD .skip)=[gu Tryz.f111 12]:=by kernel_rfl
noncomputable def spec:Abs.Spec:=fun args K=>match args with
 | [.agg [.v (.int .i64 c),.arr .u64 25 a,.v (.int .i64 g),.v (.bool e)],.v (.int .i64 i)]=>P.abf c a g e i (fun d b h f j=>K (.tuple [.agg [.v (.int .i64 d),.arr .u64 25 b,.v (.int .i64 h),.v (.bool f)],.fr 5 (.ints .u8 j)]))
 | _=>none
theorem ok:Proved Tryz.prog GLO.gx 111 spec:=pL (D:=D) (fn:=Tryz.f111) [.any,.fr 5 (.ints .u8 [])] ⟨abn.ok,uh.ok,aa4.ok,trivial⟩ loops ⟨bgt,trivial⟩ fun _ K _ h=>by
  unfold spec at h
  split at h
  · rw[P.avw] at h;exact Aa (by kernel_rfl) h
  · cases h
end abf

namespace abk
noncomputable def cu:Abs.Spec:=fun args K=>match args with
 | [.v (.int .i64 a),.sl (.ints .u8 b),.v (.int .i64 c)]=>P.abk a b c (fun d e=>K (.tuple [.fr 5 (.ints .u8 d),.v (.int .i64 e)]))
 | _=>none
noncomputable def spec:Abs.Spec:=fun args K=>cu (j5 [.any,.sl (.ints .u8 []),.any] args) K
theorem ok0:Proved Tryz.prog GLO.gx 61 cu:=pK (G:=[(110,ar9.spec),(111,abf.spec),(112,ac1.spec)]) (fn:=Tryz.f61) [.fr 5 (.ints .u8 []),.any] ⟨ar9.ok,abf.ok,ac1.ok,trivial⟩ fun _ K _ h=>by
  unfold cu at h
  split at h
  · rw[P.bk7] at h;exact Aa (by kernel_rfl) h
  · cases h
theorem ok:Proved Tryz.prog GLO.gx 61 spec:=bq _ ok0
end abk

namespace ab0
noncomputable def spec:Abs.Spec:=fun args K=>match args with
 | [.arr .u8 32 a]=>P.ab0 a (fun b=>K (.fr 5 (.ints .u8 b)))
 | _=>none
theorem ok:Proved Tryz.prog GLO.gx 118 spec:=pK (G:=[(43,iy.spec)]) (fn:=Tryz.f118) [.fr 5 (.ints .u8 [])] ⟨iy.ok,trivial⟩ fun _ K _ h=>by
  unfold spec at h
  split at h
  · rw[P.bct] at h;exact Aa (by kernel_rfl) h
  · cases h
end ab0

namespace su
noncomputable def cu:Abs.Spec:=fun args K=>match args with
 | [.agg [.v (.int .i64 b),.v (.int .i64 c),.v (.int .i64 d),.v (.int .i64 e),.v (.int .i64 f),.v (.bool a)],.sl (.ints .u8 g),.arr .u8 32 h,.sl (.ints .u8 i)]=>P.su b c d e f a g h i (fun j=>K (.sl (.ints .u8 j)))
 | _=>none
noncomputable def spec:Abs.Spec:=fun args K=>cu (j5 [.any,.sl (.ints .u8 []),.any,.sl (.ints .u8 [])] args) K
theorem ok0:Proved Tryz.prog GLO.gx 67 cu:=pK (G:=[(21,kg.spec),(43,iy.spec),(61,abk.spec),(62,abr.spec),(118,ab0.spec)]) (fn:=Tryz.f67) [.sl (.ints .u8 [])] ⟨kg.ok,iy.ok,abk.ok,abr.ok,ab0.ok,trivial⟩ fun _ K _ h=>by
  unfold cu at h
  split at h
  · rw[P.bja] at h;exact Aa (by kernel_rfl) h
  · cases h
theorem ok:Proved Tryz.prog GLO.gx 67 spec:=bq _ ok0
end su

namespace yc
abbrev X2:=P.b8w
def S2:X2→ASt:=fun (i,j,k,h,a,b,c,d,e,f,g)=>⟨[(1,.sl (.ints .u8 i)),(3,.v (.int .u32 j)),(4,.sl (.ints .u8 k)),(6,.ptr 0 0),(11,.ptr 1 0),(13,.v (.int .u32 h))],[(0,some ⟨.box 23 [.v (.int .i64 a),.v (.int .i64 b),.v (.int .i64 c),.v (.int .i64 d),.v (.int .i64 e),.v (.bool f)],false⟩),(1,some ⟨.box 64 [.arr .u8 32 g],false⟩)],2,29⟩
def V2:ASt→Option X2
 | ⟨[(1,.sl (.ints .u8 i)),(3,.v (.int .u32 j)),(4,.sl (.ints .u8 k)),(6,.ptr 0 0),(11,.ptr 1 0),(13,.v (.int .u32 h))],[(0,some ⟨.box 23 [.v (.int .i64 a),.v (.int .i64 b),.v (.int .i64 c),.v (.int .i64 d),.v (.int .i64 e),.v (.bool f)],false⟩),(1,some ⟨.box 64 [.arr .u8 32 g],false⟩)],2,29⟩=>some (i,j,k,h,a,b,c,d,e,f,g)
 | _=>none
theorem bfp(st)(x)(h:V2 st=some x):st=S2 x:=by unfold V2 at h;split at h;(cases h;rfl);cases h
abbrev Y2:=P.cfc
def E2(K:AExit→ASt→Option R):Y2→Option R:=(fun x=>K (.exit 0) (S2 x))
noncomputable def L2:p8:=fun st K=>abx (V2 st) fun x=>P.cgv x (E2 K)
noncomputable def D:Ctx:=⟨Tryz.prog,[(42,jf.spec),(67,su.spec)],GLO.gx,[(2,⟨[1,3,4,6,11,13],[],[12],[(1,.sl (.ints .u8 []))],none,[],[],[]⟩)],[(2,L2)],[],false,none,none,[],false⟩
theorem bgm:jl D (gu Tryz.f126 2):=fq S2 bfp (by kernel_rfl) P.csd (enc:=E2) fun _ _ _=>by kernel_rfl
theorem loops:gy (Tryz.f126.body.getD .skip)=[gu Tryz.f126 2]:=by kernel_rfl
noncomputable def cu:Abs.Spec:=fun args K=>match args with
 | [.agg [.v (.int .i64 b),.v (.int .i64 c),.v (.int .i64 d),.v (.int .i64 e),.v (.int .i64 f),.v (.bool a)],.sl (.ints .u8 g),.v (.int .u32 h),.v (.int .u32 i),.sl (.ints .u8 j),.arr .u8 32 k]=>P.yc b c d e f a g h i j k (fun l=>K (.sl (.ints .u8 l)))
 | _=>none
noncomputable def spec:Abs.Spec:=fun args K=>cu (j5 [.any,.sl (.ints .u8 []),.any,.any,.sl (.ints .u8 []),.any] args) K
theorem ok0:Proved Tryz.prog GLO.gx 126 cu:=pL (D:=D) (fn:=Tryz.f126) [.sl (.ints .u8 [])] ⟨jf.ok,su.ok,trivial⟩ loops ⟨bgm,trivial⟩ fun _ K _ h=>by
  unfold cu at h
  split at h
  · rw[P.bcf] at h;exact Aa (by kernel_rfl) h
  · cases h
theorem ok:Proved Tryz.prog GLO.gx 126 spec:=bq _ ok0
end yc

namespace ac4
noncomputable def spec:Abs.Spec:=fun args K=>match args with
 | [.arr .u8 32 a]=>P.ac4 a (fun b=>K (.v (.int .u64 b)))
 | _=>none
theorem ok:Proved Tryz.prog GLO.gx 157 spec:=pK (G:=[(65,wm.spec)]) (fn:=Tryz.f157) [.any] ⟨wm.ok,trivial⟩ fun _ K _ h=>by
  unfold spec at h
  split at h
  · rw[P.bg1] at h;exact Aa (by kernel_rfl) h
  · cases h
end ac4

namespace af0
noncomputable def cu:Abs.Spec:=fun args K=>match args with
 | [.agg [.v (.int .i64 b),.v (.int .i64 c),.v (.int .i64 d),.v (.int .i64 e),.v (.int .i64 f),.v (.bool a)],.sl (.rows .u8 g),.sl (.ints .u8 h),.arr .u8 32 i]=>P.af0 b c d e f a g h i (fun j=>K (.sl (.ints .u8 j)))
 | _=>none
noncomputable def spec:Abs.Spec:=fun args K=>cu (j5 [.any,.sl (.rows .u8 []),.sl (.ints .u8 []),.any] args) K
theorem ok0:Proved Tryz.prog GLO.gx 128 cu:=pK (G:=[(42,jf.spec),(43,iy.spec),(67,su.spec),(157,ac4.spec)]) (fn:=Tryz.f128) [.sl (.ints .u8 [])] ⟨jf.ok,iy.ok,su.ok,ac4.ok,trivial⟩ fun _ K _ h=>by
  unfold cu at h
  split at h
  · rw[P.bkx] at h;exact Aa (by kernel_rfl) h
  · cases h
theorem ok:Proved Tryz.prog GLO.gx 128 spec:=bq _ ok0
end af0

namespace zi
noncomputable def cu:Abs.Spec:=fun args K=>match args with
 | [.agg [.v (.int .i64 b),.v (.int .i64 c),.v (.int .i64 d),.v (.int .i64 e),.v (.int .i64 f),.v (.bool a)],.sl (.ints .u8 g),.sl (.ints .u8 h)]=>P.zi b c d e f a g h (fun i=>K (.v (.bool i)))
 | _=>none
noncomputable def spec:Abs.Spec:=fun args K=>cu (j5 [.any,.sl (.ints .u8 []),.sl (.ints .u8 [])] args) K
theorem ok0:Proved Tryz.prog GLO.gx 125 cu:=pK (G:=[(21,kg.spec)]) (fn:=Tryz.f125) [.any] ⟨kg.ok,trivial⟩ fun _ K _ h=>by
  unfold cu at h
  split at h
  · rw[P.bcn] at h;exact Aa (by kernel_rfl) h
  · cases h
theorem ok:Proved Tryz.prog GLO.gx 125 spec:=bq _ ok0
end zi

namespace zh
abbrev X6:=P.b9p
def S6:X6→ASt:=fun (i,j,h,k,a,b,c,d,e,f,g,l)=>⟨[(12,.own 3),(1,.sl (.ints .u8 i)),(3,.sl (.ints .u8 j)),(5,.ptr 0 0),(9,.ptr 1 0),(11,.own 2),(13,.v (.int .i64 h))],[(3,some ⟨.row 24 (.rows .u8 k),false⟩),(0,some ⟨.box 23 [.v (.int .i64 a),.v (.int .i64 b),.v (.int .i64 c),.v (.int .i64 d),.v (.int .i64 e),.v (.bool f)],false⟩),(1,some ⟨.box 64 [.arr .u8 32 g],false⟩),(2,some ⟨.row 102 (.ints .u32 l),false⟩)],4,72⟩
def V6:ASt→Option X6
 | ⟨[(12,.own 3),(1,.sl (.ints .u8 i)),(3,.sl (.ints .u8 j)),(5,.ptr 0 0),(9,.ptr 1 0),(11,.own 2),(13,.v (.int .i64 h))],[(3,some ⟨.row 24 (.rows .u8 k),false⟩),(0,some ⟨.box 23 [.v (.int .i64 a),.v (.int .i64 b),.v (.int .i64 c),.v (.int .i64 d),.v (.int .i64 e),.v (.bool f)],false⟩),(1,some ⟨.box 64 [.arr .u8 32 g],false⟩),(2,some ⟨.row 102 (.ints .u32 l),false⟩)],4,72⟩=>some (i,j,h,k,a,b,c,d,e,f,g,l)
 | _=>none
theorem alr(st)(x)(h:V6 st=some x):st=S6 x:=by unfold V6 at h;split at h;(cases h;rfl);cases h
abbrev Y6:=P.cns
def E6(K:AExit→ASt→Option R):Y6→Option R:=(fun x=>K (.exit 0) (S6 x))
noncomputable def L6:p8:=fun st K=>abx (V6 st) fun x=>P.ciq x (E6 K)
noncomputable def D:Ctx:=⟨Tryz.prog,[(42,jf.spec),(125,zi.spec),(126,yc.spec),(128,af0.spec),(155,aag.spec)],GLO.gx,[(6,⟨[1,3,5,9,11,13],[(12,24,.rows .u8 [])],[10],[],none,[],[],[]⟩)],[(6,L6)],[],false,none,none,[],false⟩
theorem al6:jl D (gu Tryz.f120 6):=fq S6 alr (by kernel_rfl) P.cqx (enc:=E6) fun _ _ _=>by kernel_rfl
theorem loops:gy (Tryz.f120.body.getD .skip)=[gu Tryz.f120 6]:=by kernel_rfl
noncomputable def cu:Abs.Spec:=fun args K=>match args with
 | [.agg [.v (.int .i64 b),.v (.int .i64 c),.v (.int .i64 d),.v (.int .i64 e),.v (.int .i64 f),.v (.bool a)],.sl (.ints .u8 g),.sl (.ints .u8 h),.sl (.ints .u8 i),.arr .u8 32 j]=>P.zh b c d e f a g h i j (fun k=>K (.sl (.ints .u8 k)))
 | _=>none
noncomputable def spec:Abs.Spec:=fun args K=>cu (j5 [.any,.sl (.ints .u8 []),.sl (.ints .u8 []),.sl (.ints .u8 []),.any] args) K
theorem ok0:Proved Tryz.prog GLO.gx 120 cu:=pL (D:=D) (fn:=Tryz.f120) [.sl (.ints .u8 [])] ⟨jf.ok,zi.ok,yc.ok,af0.ok,aag.ok,trivial⟩ loops ⟨al6,trivial⟩ fun _ K _ h=>by
  unfold cu at h
  split at h
  · rw[P.aqw] at h;exact Aa (by kernel_rfl) h
  · cases h
theorem ok:Proved Tryz.prog GLO.gx 120 spec:=bq _ ok0
end zh

namespace ahl
noncomputable def spec:Abs.Spec:=fun args K=>match args with
 | [.agg [.v (.int .i64 b),.v (.int .i64 c),.v (.int .i64 d),.v (.int .i64 e),.v (.int .i64 f),.v (.bool a)]]=>P.ahl b c d e f a (fun g=>K (.v (.int .i64 g)))
 | _=>none
theorem ok:Proved Tryz.prog GLO.gx 37 spec:=pK (G:=[(21,kg.spec)]) (fn:=Tryz.f37) [.any] ⟨kg.ok,trivial⟩ fun _ K _ h=>by
  unfold spec at h
  split at h
  · rw[P.bhd] at h;exact Aa (by kernel_rfl) h
  · cases h
end ahl

namespace ab2
noncomputable def cu:Abs.Spec:=fun args K=>match args with
 | [.agg [.v (.int .i64 b),.v (.int .i64 c),.v (.int .i64 d),.v (.int .i64 e),.v (.int .i64 f),.v (.bool a)],.sl (.ints .u8 g),.arr .u8 32 h,.v (.int .i64 i),.v (.int .u64 j),.sl (.ints .u8 k),.sl (.ints .u8 l)]=>P.ab2 b c d e f a g h i j k l (fun m=>K (.sl (.ints .u8 m)))
 | _=>none
noncomputable def spec:Abs.Spec:=fun args K=>cu (j5 [.any,.sl (.ints .u8 []),.any,.any,.any,.sl (.ints .u8 []),.sl (.ints .u8 [])] args) K
theorem ok0:Proved Tryz.prog GLO.gx 79 cu:=pK (G:=[(42,jf.spec),(43,iy.spec),(67,su.spec)]) (fn:=Tryz.f79) [.sl (.ints .u8 [])] ⟨jf.ok,iy.ok,su.ok,trivial⟩ fun _ K _ h=>by
  unfold cu at h
  split at h
  · rw[P.bf8] at h;exact Aa (by kernel_rfl) h
  · cases h
theorem ok:Proved Tryz.prog GLO.gx 79 spec:=bq _ ok0
end ab2

namespace aay
noncomputable def spec:Abs.Spec:=fun args K=>match args with
 | [.arr .u8 32 a,.v (.int .u64 b)]=>P.aay a b (fun c=>K (.arr .u8 32 c))
 | _=>none
theorem ok:Proved Tryz.prog GLO.gx 78 spec:=pK (G:=[(42,jf.spec)]) (fn:=Tryz.f78) [.any] ⟨jf.ok,trivial⟩ fun _ K _ h=>by
  unfold spec at h
  split at h
  · rw[P.bhf] at h;exact Aa (by kernel_rfl) h
  · cases h
end aay

namespace zu
abbrev X6:=P.b65
def S6:X6→ASt:=fun (k,l,m,h,i,j,a,b,c,d,e,f,g)=>⟨[(1,.sl (.ints .u8 k)),(3,.sl (.ints .u8 l)),(5,.v (.int .u64 m)),(6,.ptr 0 0),(10,.ptr 1 0),(13,.v (.int .i64 h)),(14,.sl (.ints .u8 i)),(15,.v (.int .i64 j))],[(0,some ⟨.box 23 [.v (.int .i64 a),.v (.int .i64 b),.v (.int .i64 c),.v (.int .i64 d),.v (.int .i64 e),.v (.bool f)],false⟩),(1,some ⟨.box 64 [.arr .u8 32 g],false⟩)],2,124⟩
def V6:ASt→Option X6
 | ⟨[(1,.sl (.ints .u8 k)),(3,.sl (.ints .u8 l)),(5,.v (.int .u64 m)),(6,.ptr 0 0),(10,.ptr 1 0),(13,.v (.int .i64 h)),(14,.sl (.ints .u8 i)),(15,.v (.int .i64 j))],[(0,some ⟨.box 23 [.v (.int .i64 a),.v (.int .i64 b),.v (.int .i64 c),.v (.int .i64 d),.v (.int .i64 e),.v (.bool f)],false⟩),(1,some ⟨.box 64 [.arr .u8 32 g],false⟩)],2,124⟩=>some (k,l,m,h,i,j,a,b,c,d,e,f,g)
 | _=>none
theorem alr(st)(x)(h:V6 st=some x):st=S6 x:=by unfold V6 at h;split at h;(cases h;rfl);cases h
abbrev Y6:=P.chl
def E6(K:AExit→ASt→Option R):Y6→Option R:=(fun x=>K (.exit 0) (S6 x))
noncomputable def L6:p8:=fun st K=>abx (V6 st) fun x=>P.cg0 x (E6 K)
noncomputable def D:Ctx:=⟨Tryz.prog,[(21,kg.spec),(37,ahl.spec),(78,aay.spec),(79,ab2.spec),(120,zh.spec)],GLO.gx,[(6,⟨[1,3,5,6,10,13,14,15],[],[12],[(14,.sl (.ints .u8 []))],none,[],[],[]⟩)],[(6,L6)],[],false,none,none,[],false⟩
theorem al6:jl D (gu Tryz.f71 6):=fq S6 alr (by kernel_rfl) P.cp4 (enc:=E6) fun _ _ _=>by kernel_rfl
theorem loops:gy (Tryz.f71.body.getD .skip)=[gu Tryz.f71 6]:=by kernel_rfl
noncomputable def cu:Abs.Spec:=fun args K=>match args with
 | [.agg [.v (.int .i64 b),.v (.int .i64 c),.v (.int .i64 d),.v (.int .i64 e),.v (.int .i64 f),.v (.bool a)],.sl (.ints .u8 g),.sl (.ints .u8 h),.sl (.ints .u8 i),.arr .u8 32 j,.v (.int .u64 k)]=>P.zu b c d e f a g h i j k (fun l=>K (.sl (.ints .u8 l)))
 | _=>none
noncomputable def spec:Abs.Spec:=fun args K=>cu (j5 [.any,.sl (.ints .u8 []),.sl (.ints .u8 []),.sl (.ints .u8 []),.any,.any] args) K
theorem ok0:Proved Tryz.prog GLO.gx 71 cu:=pL (D:=D) (fn:=Tryz.f71) [.sl (.ints .u8 [])] ⟨kg.ok,ahl.ok,aay.ok,ab2.ok,zh.ok,trivial⟩ loops ⟨al6,trivial⟩ fun _ K _ h=>by
  unfold cu at h
  split at h
  · rw[P.aq2] at h;exact Aa (by kernel_rfl) h
  · cases h
theorem ok:Proved Tryz.prog GLO.gx 71 spec:=bq _ ok0
end zu

namespace agp
noncomputable def cu:Abs.Spec:=fun args K=>match args with
 | [.agg [.v (.int .i64 b),.v (.int .i64 c),.v (.int .i64 d),.v (.int .i64 e),.v (.int .i64 f),.v (.bool a)],.sl (.ints .u8 g),.sl (.ints .u8 h),.arr .u8 32 i]=>P.agp b c d e f a g h i (fun j=>K (.sl (.ints .u8 j)))
 | _=>none
noncomputable def spec:Abs.Spec:=fun args K=>cu (j5 [.any,.sl (.ints .u8 []),.sl (.ints .u8 []),.any] args) K
theorem ok0:Proved Tryz.prog GLO.gx 132 cu:=pK (G:=[(67,su.spec)]) (fn:=Tryz.f132) [.sl (.ints .u8 [])] ⟨su.ok,trivial⟩ fun _ K _ h=>by
  unfold cu at h
  split at h
  · rw[P.awu] at h;exact Aa (by kernel_rfl) h
  · cases h
theorem ok:Proved Tryz.prog GLO.gx 132 spec:=bq _ ok0
end agp

end
