/-
  SlhVerifies, part 23: an interpreter of my own over abstract values, the pure functions, the walks and the plain law.
-/

import Derived.Test.YtciddcopcdmnbaaGreatDoorSlhVerifiesL
import Derived.Test.YtciddcopcdmnbaaGreatDoorSlhVerifiesH
import Derived.Test.YtciddcopcdmnbaaGreatDoorProg
import Derived.Test.YtciddcopcdmnbaaGreatDoorSlhVerifiesJ
import Derived.Test.YtciddcopcdmnbaaGreatDoorSlhVerifiesV
import Derived.KernelRfl
import Derived.Test.YtciddcopcdmnbaaGreatDoorSlhVerifiesU
import Derived.Test.YtciddcopcdmnbaaGreatDoorSlhVerifiesT
import Derived.Test.YtciddcopcdmnbaaGreatDoorSlhVerifiesM
open Eq renaming trans → Aa

section
open Go Go.Abs Go.Proofs
set_option maxRecDepth 100000
set_option maxHeartbeats 0
set_option linter.unusedVariables false

namespace abz
abbrev X4:=P.b1x
def S4:X4→ASt:=fun (i,j,a,b,c,d,e,f,g,h)=>⟨[(1,.sl (.ints .u8 i)),(2,.ptr 0 0),(4,.ptr 1 0),(5,.v (.int .i64 j))],[(0,some ⟨.box 132 [.v (.int .i64 a),.arr .u64 25 b,.v (.int .i64 c),.v (.bool d)],false⟩),(1,some ⟨.box 132 [.v (.int .i64 e),.arr .u64 25 f,.v (.int .i64 g),.v (.bool h)],false⟩)],40,41⟩
def V4:ASt→Option X4
 | ⟨[(1,.sl (.ints .u8 i)),(2,.ptr 0 0),(4,.ptr 1 0),(5,.v (.int .i64 j))],[(0,some ⟨.box 132 [.v (.int .i64 a),.arr .u64 25 b,.v (.int .i64 c),.v (.bool d)],false⟩),(1,some ⟨.box 132 [.v (.int .i64 e),.arr .u64 25 f,.v (.int .i64 g),.v (.bool h)],false⟩)],40,41⟩=>some (i,j,a,b,c,d,e,f,g,h)
 | _=>none
theorem auk(st)(x)(h:V4 st=some x):st=S4 x:=by
 unfold V4 at h
 split at h
 · cases h;rfl
 · cases h
abbrev Y4:=P.cae
def E4(K:AExit→ASt→Option R):Y4→Option R:=(fun x=>K (.exit 0) (S4 x))
noncomputable def L4:qy:=fun st K=>adb (V4 st) fun x=>P.cb6 x (E4 K)
noncomputable def D:Ctx:=({ P:=Tryz.prog,G:=[(149,ach.spec),(150,qw.spec),(151,aa0.spec)],globs:=GLO.gx,hints:=[(4,⟨[1,2,4,5],[],[4],[],some (40,[0,1]),[],[],[]⟩)],loops:=[(4,L4)],inl:=[] }:Ctx)
theorem aj1(K)(next)(x):kg D (gq Tryz.f112 4) K next (S4 x)=P.b1s x (fun x=>next (S4 x)) (E4 K):=by kernel_rfl
theorem auy:jr D (gq Tryz.f112 4):=iy S4 auk (by kernel_rfl) P.cii aj1
theorem loops:dn (Tryz.f112.body.getD .skip)=[gq Tryz.f112 4]:=by kernel_rfl
noncomputable def bn:Abs.Spec:=fun args K=>match args with
 | [.agg [.v (.int .i64 c),.arr .u64 25 a,.v (.int .i64 g),.v (.bool e)],.sl (.ints .u8 i)]=>P.abz c a g e i (fun d b h f=>K (.agg [.v (.int .i64 d),.arr .u64 25 b,.v (.int .i64 h),.v (.bool f)]))
 | _=>none
noncomputable def spec:Abs.Spec:=fun args K=>bn (mh [.any,.sl (.ints .u8 [])] args) K
theorem ok0:Proved Tryz.prog GLO.gx 112 bn:=by
 refine bq (D:=D) (fn:=Tryz.f112) (c:=Tryz.f112.body.getD .skip) [.any] (by kernel_rfl) (bg (by kernel_rfl)) (by kernel_rfl) (by kernel_rfl) (by kernel_rfl) ⟨ach.ok,qw.ok,aa0.ok,trivial⟩ trivial ?_ ?_
 · rw[loops];exact ⟨auy,trivial⟩
 · intro args K r h
   unfold bn at h
   split at h
   · rw[P.aw3] at h;exact Aa (by kernel_rfl) h
   · cases h
theorem ok:Proved Tryz.prog GLO.gx 112 spec:=dx _ ok0
end abz

namespace aqt
noncomputable def D:Ctx:=({ P:=Tryz.prog,G:=[(149,ach.spec)],globs:=GLO.gx,hints:=[],loops:=[],inl:=[] }:Ctx)
theorem loops:dn (Tryz.f110.body.getD .skip)=[]:=by kernel_rfl
noncomputable def bn:Abs.Spec:=fun args K=>match args with
 | [.v (.int .i64 e)]=>P.aqt e (fun b a d c f=>K (.tuple [.agg [.v (.int .i64 b),.arr .u64 25 a,.v (.int .i64 d),.v (.bool c)],.v (.int .i64 f)]))
 | _=>none
noncomputable def spec:Abs.Spec:=bn
theorem ok0:Proved Tryz.prog GLO.gx 110 bn:=by
 refine bq (D:=D) (fn:=Tryz.f110) (c:=Tryz.f110.body.getD .skip) [.any,.any] (by kernel_rfl) (bg (by kernel_rfl)) (by kernel_rfl) (by kernel_rfl) (by kernel_rfl) ⟨ach.ok,trivial⟩ trivial ?_ ?_
 · rw[loops];exact trivial
 · intro args K r h
   unfold bn at h
   split at h
   · rw[P.bd8] at h;exact Aa (by kernel_rfl) h
   · cases h
theorem ok:Proved Tryz.prog GLO.gx 110 spec:=ok0
end aqt

namespace aa1
abbrev X12:=P.b3z
def S12:X12→ASt:=fun (j,k,i,a,b,c,d,e,f,g,h)=>⟨[(8,.own 40),(1,.v (.int .i64 j)),(2,.ptr 0 0),(4,.ptr 1 0),(6,.v (.int .i64 k))],[(40,some ⟨.row 5 (.ints .u8 i),false⟩),(0,some ⟨.box 132 [.v (.int .i64 a),.arr .u64 25 b,.v (.int .i64 c),.v (.bool d)],false⟩),(1,some ⟨.box 132 [.v (.int .i64 e),.arr .u64 25 f,.v (.int .i64 g),.v (.bool h)],false⟩)],41,73⟩
def V12:ASt→Option X12
 | ⟨[(8,.own 40),(1,.v (.int .i64 j)),(2,.ptr 0 0),(4,.ptr 1 0),(6,.v (.int .i64 k))],[(40,some ⟨.row 5 (.ints .u8 i),false⟩),(0,some ⟨.box 132 [.v (.int .i64 a),.arr .u64 25 b,.v (.int .i64 c),.v (.bool d)],false⟩),(1,some ⟨.box 132 [.v (.int .i64 e),.arr .u64 25 f,.v (.int .i64 g),.v (.bool h)],false⟩)],41,73⟩=>some (j,k,i,a,b,c,d,e,f,g,h)
 | _=>none
theorem bku(st)(x)(h:V12 st=some x):st=S12 x:=by
 unfold V12 at h
 split at h
 · cases h;rfl
 · cases h
abbrev Y12:=P.b8f
def E12(K:AExit→ASt→Option R):Y12→Option R:=(fun x=>K (.exit 0) (S12 x))
noncomputable def L12:qy:=fun st K=>adb (V12 st) fun x=>P.cbx x (E12 K)
noncomputable def D:Ctx:=({ P:=Tryz.prog,G:=[(149,ach.spec),(150,qw.spec),(151,aa0.spec)],globs:=GLO.gx,hints:=[(12,⟨[1,2,4,6],[(8,5,.ints .u8 [])],[4,5],[],some (40,[0,1]),[],[],[]⟩)],loops:=[(12,L12)],inl:=[] }:Ctx)
theorem bbg(K)(next)(x):kg D (gq Tryz.f111 12) K next (S12 x)=P.b3a x (fun x=>next (S12 x)) (E12 K):=by kernel_rfl
theorem bij:jr D (gq Tryz.f111 12):=iy S12 bku (by kernel_rfl) P.chj bbg
theorem loops:dn (Tryz.f111.body.getD .skip)=[gq Tryz.f111 12]:=by kernel_rfl
noncomputable def bn:Abs.Spec:=fun args K=>match args with
 | [.agg [.v (.int .i64 c),.arr .u64 25 a,.v (.int .i64 g),.v (.bool e)],.v (.int .i64 i)]=>P.aa1 c a g e i (fun d b h f j=>K (.tuple [.agg [.v (.int .i64 d),.arr .u64 25 b,.v (.int .i64 h),.v (.bool f)],.fr 5 (.ints .u8 j)]))
 | _=>none
noncomputable def spec:Abs.Spec:=bn
theorem ok0:Proved Tryz.prog GLO.gx 111 bn:=by
 refine bq (D:=D) (fn:=Tryz.f111) (c:=Tryz.f111.body.getD .skip) [.any,.fr 5 (.ints .u8 [])] (by kernel_rfl) (bg (by kernel_rfl)) (by kernel_rfl) (by kernel_rfl) (by kernel_rfl) ⟨ach.ok,qw.ok,aa0.ok,trivial⟩ trivial ?_ ?_
 · rw[loops];exact ⟨bij,trivial⟩
 · intro args K r h
   unfold bn at h
   split at h
   · rw[P.as5] at h;exact Aa (by kernel_rfl) h
   · cases h
theorem ok:Proved Tryz.prog GLO.gx 111 spec:=ok0
end aa1

namespace acg
noncomputable def D:Ctx:=({ P:=Tryz.prog,G:=[(110,aqt.spec),(111,aa1.spec),(112,abz.spec)],globs:=GLO.gx,hints:=[],loops:=[],inl:=[] }:Ctx)
theorem loops:dn (Tryz.f61.body.getD .skip)=[]:=by kernel_rfl
noncomputable def bn:Abs.Spec:=fun args K=>match args with
 | [.v (.int .i64 a),.sl (.ints .u8 b),.v (.int .i64 c)]=>P.acg a b c (fun d e=>K (.tuple [.fr 5 (.ints .u8 d),.v (.int .i64 e)]))
 | _=>none
noncomputable def spec:Abs.Spec:=fun args K=>bn (mh [.any,.sl (.ints .u8 []),.any] args) K
theorem ok0:Proved Tryz.prog GLO.gx 61 bn:=by
 refine bq (D:=D) (fn:=Tryz.f61) (c:=Tryz.f61.body.getD .skip) [.fr 5 (.ints .u8 []),.any] (by kernel_rfl) (bg (by kernel_rfl)) (by kernel_rfl) (by kernel_rfl) (by kernel_rfl) ⟨aqt.ok,aa1.ok,abz.ok,trivial⟩ trivial ?_ ?_
 · rw[loops];exact trivial
 · intro args K r h
   unfold bn at h
   split at h
   · rw[P.bgc] at h;exact Aa (by kernel_rfl) h
   · cases h
theorem ok:Proved Tryz.prog GLO.gx 61 spec:=dx _ ok0
end acg

namespace abl
noncomputable def D:Ctx:=({ P:=Tryz.prog,G:=[(43,ji.spec)],globs:=GLO.gx,hints:=[],loops:=[],inl:=[] }:Ctx)
theorem loops:dn (Tryz.f118.body.getD .skip)=[]:=by kernel_rfl
noncomputable def bn:Abs.Spec:=fun args K=>match args with
 | [.arr .u8 32 a]=>P.abl a (fun b=>K (.fr 5 (.ints .u8 b)))
 | _=>none
noncomputable def spec:Abs.Spec:=bn
theorem ok0:Proved Tryz.prog GLO.gx 118 bn:=by
 refine bq (D:=D) (fn:=Tryz.f118) (c:=Tryz.f118.body.getD .skip) [.fr 5 (.ints .u8 [])] (by kernel_rfl) (bg (by kernel_rfl)) (by kernel_rfl) (by kernel_rfl) (by kernel_rfl) ⟨ji.ok,trivial⟩ trivial ?_ ?_
 · rw[loops];exact trivial
 · intro args K r h
   unfold bn at h
   split at h
   · rw[P.ayw] at h;exact Aa (by kernel_rfl) h
   · cases h
theorem ok:Proved Tryz.prog GLO.gx 118 spec:=ok0
end abl

namespace wu
noncomputable def D:Ctx:=({ P:=Tryz.prog,G:=[(21,lg.spec),(43,ji.spec),(61,acg.spec),(62,abg.spec),(118,abl.spec)],globs:=GLO.gx,hints:=[],loops:=[],inl:=[] }:Ctx)
theorem loops:dn (Tryz.f67.body.getD .skip)=[]:=by kernel_rfl
noncomputable def bn:Abs.Spec:=fun args K=>match args with
 | [.agg [.v (.int .i64 b),.v (.int .i64 c),.v (.int .i64 d),.v (.int .i64 e),.v (.int .i64 f),.v (.bool a)],.sl (.ints .u8 g),.arr .u8 32 h,.sl (.ints .u8 i)]=>P.wu b c d e f a g h i (fun j=>K (.sl (.ints .u8 j)))
 | _=>none
noncomputable def spec:Abs.Spec:=fun args K=>bn (mh [.any,.sl (.ints .u8 []),.any,.sl (.ints .u8 [])] args) K
theorem ok0:Proved Tryz.prog GLO.gx 67 bn:=by
 refine bq (D:=D) (fn:=Tryz.f67) (c:=Tryz.f67.body.getD .skip) [.sl (.ints .u8 [])] (by kernel_rfl) (bg (by kernel_rfl)) (by kernel_rfl) (by kernel_rfl) (by kernel_rfl) ⟨lg.ok,ji.ok,acg.ok,abg.ok,abl.ok,trivial⟩ trivial ?_ ?_
 · rw[loops];exact trivial
 · intro args K r h
   unfold bn at h
   split at h
   · rw[P.beh] at h;exact Aa (by kernel_rfl) h
   · cases h
theorem ok:Proved Tryz.prog GLO.gx 67 spec:=dx _ ok0
end wu

namespace adu
abbrev X2:=P.b4v
def S2:X2→ASt:=fun (i,j,k,h,a,b,c,d,e,f,g)=>⟨[(1,.sl (.ints .u8 i)),(3,.v (.int .u32 j)),(4,.sl (.ints .u8 k)),(6,.ptr 0 0),(11,.ptr 1 0),(13,.v (.int .u32 h))],[(0,some ⟨.box 23 [.v (.int .i64 a),.v (.int .i64 b),.v (.int .i64 c),.v (.int .i64 d),.v (.int .i64 e),.v (.bool f)],false⟩),(1,some ⟨.box 64 [.arr .u8 32 g],false⟩)],2,29⟩
def V2:ASt→Option X2
 | ⟨[(1,.sl (.ints .u8 i)),(3,.v (.int .u32 j)),(4,.sl (.ints .u8 k)),(6,.ptr 0 0),(11,.ptr 1 0),(13,.v (.int .u32 h))],[(0,some ⟨.box 23 [.v (.int .i64 a),.v (.int .i64 b),.v (.int .i64 c),.v (.int .i64 d),.v (.int .i64 e),.v (.bool f)],false⟩),(1,some ⟨.box 64 [.arr .u8 32 g],false⟩)],2,29⟩=>some (i,j,k,h,a,b,c,d,e,f,g)
 | _=>none
theorem bcl(st)(x)(h:V2 st=some x):st=S2 x:=by
 unfold V2 at h
 split at h
 · cases h;rfl
 · cases h
abbrev Y2:=P.b9b
def E2(K:AExit→ASt→Option R):Y2→Option R:=(fun x=>K (.exit 0) (S2 x))
noncomputable def L2:qy:=fun st K=>adb (V2 st) fun x=>P.b9z x (E2 K)
noncomputable def D:Ctx:=({ P:=Tryz.prog,G:=[(42,jg.spec),(67,wu.spec)],globs:=GLO.gx,hints:=[(2,⟨[1,3,4,6,11,13],[],[12],[(1,.sl (.ints .u8 []))],none,[],[],[]⟩)],loops:=[(2,L2)],inl:=[] }:Ctx)
theorem arj(K)(next)(x):kg D (gq Tryz.f126 2) K next (S2 x)=P.b4k x (fun x=>next (S2 x)) (E2 K):=by kernel_rfl
theorem bdd:jr D (gq Tryz.f126 2):=iy S2 bcl (by kernel_rfl) P.cgt arj
theorem loops:dn (Tryz.f126.body.getD .skip)=[gq Tryz.f126 2]:=by kernel_rfl
noncomputable def bn:Abs.Spec:=fun args K=>match args with
 | [.agg [.v (.int .i64 b),.v (.int .i64 c),.v (.int .i64 d),.v (.int .i64 e),.v (.int .i64 f),.v (.bool a)],.sl (.ints .u8 g),.v (.int .u32 h),.v (.int .u32 i),.sl (.ints .u8 j),.arr .u8 32 k]=>P.adu b c d e f a g h i j k (fun l=>K (.sl (.ints .u8 l)))
 | _=>none
noncomputable def spec:Abs.Spec:=fun args K=>bn (mh [.any,.sl (.ints .u8 []),.any,.any,.sl (.ints .u8 []),.any] args) K
theorem ok0:Proved Tryz.prog GLO.gx 126 bn:=by
 refine bq (D:=D) (fn:=Tryz.f126) (c:=Tryz.f126.body.getD .skip) [.sl (.ints .u8 [])] (by kernel_rfl) (bg (by kernel_rfl)) (by kernel_rfl) (by kernel_rfl) (by kernel_rfl) ⟨jg.ok,wu.ok,trivial⟩ trivial ?_ ?_
 · rw[loops];exact ⟨bdd,trivial⟩
 · intro args K r h
   unfold bn at h
   split at h
   · rw[P.azc] at h;exact Aa (by kernel_rfl) h
   · cases h
theorem ok:Proved Tryz.prog GLO.gx 126 spec:=dx _ ok0
end adu

namespace agz
noncomputable def D:Ctx:=({ P:=Tryz.prog,G:=[(65,uj.spec)],globs:=GLO.gx,hints:=[],loops:=[],inl:=[] }:Ctx)
theorem loops:dn (Tryz.f157.body.getD .skip)=[]:=by kernel_rfl
noncomputable def bn:Abs.Spec:=fun args K=>match args with
 | [.arr .u8 32 a]=>P.agz a (fun b=>K (.v (.int .u64 b)))
 | _=>none
noncomputable def spec:Abs.Spec:=bn
theorem ok0:Proved Tryz.prog GLO.gx 157 bn:=by
 refine bq (D:=D) (fn:=Tryz.f157) (c:=Tryz.f157.body.getD .skip) [.any] (by kernel_rfl) (bg (by kernel_rfl)) (by kernel_rfl) (by kernel_rfl) (by kernel_rfl) ⟨uj.ok,trivial⟩ trivial ?_ ?_
 · rw[loops];exact trivial
 · intro args K r h
   unfold bn at h
   split at h
   · rw[P.bc8] at h;exact Aa (by kernel_rfl) h
   · cases h
theorem ok:Proved Tryz.prog GLO.gx 157 spec:=ok0
end agz

namespace akt
noncomputable def D:Ctx:=({ P:=Tryz.prog,G:=[(42,jg.spec),(43,ji.spec),(67,wu.spec),(157,agz.spec)],globs:=GLO.gx,hints:=[],loops:=[],inl:=[] }:Ctx)
theorem loops:dn (Tryz.f128.body.getD .skip)=[]:=by kernel_rfl
noncomputable def bn:Abs.Spec:=fun args K=>match args with
 | [.agg [.v (.int .i64 b),.v (.int .i64 c),.v (.int .i64 d),.v (.int .i64 e),.v (.int .i64 f),.v (.bool a)],.sl (.rows .u8 g),.sl (.ints .u8 h),.arr .u8 32 i]=>P.akt b c d e f a g h i (fun j=>K (.sl (.ints .u8 j)))
 | _=>none
noncomputable def spec:Abs.Spec:=fun args K=>bn (mh [.any,.sl (.rows .u8 []),.sl (.ints .u8 []),.any] args) K
theorem ok0:Proved Tryz.prog GLO.gx 128 bn:=by
 refine bq (D:=D) (fn:=Tryz.f128) (c:=Tryz.f128.body.getD .skip) [.sl (.ints .u8 [])] (by kernel_rfl) (bg (by kernel_rfl)) (by kernel_rfl) (by kernel_rfl) (by kernel_rfl) ⟨jg.ok,ji.ok,wu.ok,agz.ok,trivial⟩ trivial ?_ ?_
 · rw[loops];exact trivial
 · intro args K r h
   unfold bn at h
   split at h
   · rw[P.bei] at h;exact Aa (by kernel_rfl) h
   · cases h
theorem ok:Proved Tryz.prog GLO.gx 128 spec:=dx _ ok0
end akt

namespace adp
noncomputable def D:Ctx:=({ P:=Tryz.prog,G:=[(21,lg.spec)],globs:=GLO.gx,hints:=[],loops:=[],inl:=[] }:Ctx)
theorem loops:dn (Tryz.f125.body.getD .skip)=[]:=by kernel_rfl
noncomputable def bn:Abs.Spec:=fun args K=>match args with
 | [.agg [.v (.int .i64 b),.v (.int .i64 c),.v (.int .i64 d),.v (.int .i64 e),.v (.int .i64 f),.v (.bool a)],.sl (.ints .u8 g),.sl (.ints .u8 h)]=>P.adp b c d e f a g h (fun i=>K (.v (.bool i)))
 | _=>none
noncomputable def spec:Abs.Spec:=fun args K=>bn (mh [.any,.sl (.ints .u8 []),.sl (.ints .u8 [])] args) K
theorem ok0:Proved Tryz.prog GLO.gx 125 bn:=by
 refine bq (D:=D) (fn:=Tryz.f125) (c:=Tryz.f125.body.getD .skip) [.any] (by kernel_rfl) (bg (by kernel_rfl)) (by kernel_rfl) (by kernel_rfl) (by kernel_rfl) ⟨lg.ok,trivial⟩ trivial ?_ ?_
 · rw[loops];exact trivial
 · intro args K r h
   unfold bn at h
   split at h
   · rw[P.ayu] at h;exact Aa (by kernel_rfl) h
   · cases h
theorem ok:Proved Tryz.prog GLO.gx 125 spec:=dx _ ok0
end adp

namespace yx
abbrev X6:=P.b4s
def S6:X6→ASt:=fun (i,j,h,k,a,b,c,d,e,f,g,l)=>⟨[(12,.own 3),(1,.sl (.ints .u8 i)),(3,.sl (.ints .u8 j)),(5,.ptr 0 0),(9,.ptr 1 0),(11,.own 2),(13,.v (.int .i64 h))],[(3,some ⟨.row 24 (.rows .u8 k),false⟩),(0,some ⟨.box 23 [.v (.int .i64 a),.v (.int .i64 b),.v (.int .i64 c),.v (.int .i64 d),.v (.int .i64 e),.v (.bool f)],false⟩),(1,some ⟨.box 64 [.arr .u8 32 g],false⟩),(2,some ⟨.row 102 (.ints .u32 l),false⟩)],4,72⟩
def V6:ASt→Option X6
 | ⟨[(12,.own 3),(1,.sl (.ints .u8 i)),(3,.sl (.ints .u8 j)),(5,.ptr 0 0),(9,.ptr 1 0),(11,.own 2),(13,.v (.int .i64 h))],[(3,some ⟨.row 24 (.rows .u8 k),false⟩),(0,some ⟨.box 23 [.v (.int .i64 a),.v (.int .i64 b),.v (.int .i64 c),.v (.int .i64 d),.v (.int .i64 e),.v (.bool f)],false⟩),(1,some ⟨.box 64 [.arr .u8 32 g],false⟩),(2,some ⟨.row 102 (.ints .u32 l),false⟩)],4,72⟩=>some (i,j,h,k,a,b,c,d,e,f,g,l)
 | _=>none
theorem aua(st)(x)(h:V6 st=some x):st=S6 x:=by
 unfold V6 at h
 split at h
 · cases h;rfl
 · cases h
abbrev Y6:=P.b78
def E6(K:AExit→ASt→Option R):Y6→Option R:=(fun x=>K (.exit 0) (S6 x))
noncomputable def L6:qy:=fun st K=>adb (V6 st) fun x=>P.cez x (E6 K)
noncomputable def D:Ctx:=({ P:=Tryz.prog,G:=[(42,jg.spec),(125,adp.spec),(126,adu.spec),(128,akt.spec),(155,ab0.spec)],globs:=GLO.gx,hints:=[(6,⟨[1,3,5,9,11,13],[(12,24,.rows .u8 [])],[10],[],none,[],[],[]⟩)],loops:=[(6,L6)],inl:=[] }:Ctx)
theorem akj(K)(next)(x):kg D (gq Tryz.f120 6) K next (S6 x)=P.b2j x (fun x=>next (S6 x)) (E6 K):=by kernel_rfl
theorem au4:jr D (gq Tryz.f120 6):=iy S6 aua (by kernel_rfl) P.ciq akj
theorem loops:dn (Tryz.f120.body.getD .skip)=[gq Tryz.f120 6]:=by kernel_rfl
noncomputable def bn:Abs.Spec:=fun args K=>match args with
 | [.agg [.v (.int .i64 b),.v (.int .i64 c),.v (.int .i64 d),.v (.int .i64 e),.v (.int .i64 f),.v (.bool a)],.sl (.ints .u8 g),.sl (.ints .u8 h),.sl (.ints .u8 i),.arr .u8 32 j]=>P.yx b c d e f a g h i j (fun k=>K (.sl (.ints .u8 k)))
 | _=>none
noncomputable def spec:Abs.Spec:=fun args K=>bn (mh [.any,.sl (.ints .u8 []),.sl (.ints .u8 []),.sl (.ints .u8 []),.any] args) K
theorem ok0:Proved Tryz.prog GLO.gx 120 bn:=by
 refine bq (D:=D) (fn:=Tryz.f120) (c:=Tryz.f120.body.getD .skip) [.sl (.ints .u8 [])] (by kernel_rfl) (bg (by kernel_rfl)) (by kernel_rfl) (by kernel_rfl) (by kernel_rfl) ⟨jg.ok,adp.ok,adu.ok,akt.ok,ab0.ok,trivial⟩ trivial ?_ ?_
 · rw[loops];exact ⟨au4,trivial⟩
 · intro args K r h
   unfold bn at h
   split at h
   · rw[P.aps] at h;exact Aa (by kernel_rfl) h
   · cases h
theorem ok:Proved Tryz.prog GLO.gx 120 spec:=dx _ ok0
end yx

namespace zi
noncomputable def D:Ctx:=({ P:=Tryz.prog,G:=[(21,lg.spec)],globs:=GLO.gx,hints:=[],loops:=[],inl:=[] }:Ctx)
theorem loops:dn (Tryz.f37.body.getD .skip)=[]:=by kernel_rfl
noncomputable def bn:Abs.Spec:=fun args K=>match args with
 | [.agg [.v (.int .i64 b),.v (.int .i64 c),.v (.int .i64 d),.v (.int .i64 e),.v (.int .i64 f),.v (.bool a)]]=>P.zi b c d e f a (fun g=>K (.v (.int .i64 g)))
 | _=>none
noncomputable def spec:Abs.Spec:=bn
theorem ok0:Proved Tryz.prog GLO.gx 37 bn:=by
 refine bq (D:=D) (fn:=Tryz.f37) (c:=Tryz.f37.body.getD .skip) [.any] (by kernel_rfl) (bg (by kernel_rfl)) (by kernel_rfl) (by kernel_rfl) (by kernel_rfl) ⟨lg.ok,trivial⟩ trivial ?_ ?_
 · rw[loops];exact trivial
 · intro args K r h
   unfold bn at h
   split at h
   · rw[P.bah] at h;exact Aa (by kernel_rfl) h
   · cases h
theorem ok:Proved Tryz.prog GLO.gx 37 spec:=ok0
end zi

namespace aeo
noncomputable def D:Ctx:=({ P:=Tryz.prog,G:=[(42,jg.spec),(43,ji.spec),(67,wu.spec)],globs:=GLO.gx,hints:=[],loops:=[],inl:=[] }:Ctx)
theorem loops:dn (Tryz.f79.body.getD .skip)=[]:=by kernel_rfl
noncomputable def bn:Abs.Spec:=fun args K=>match args with
 | [.agg [.v (.int .i64 b),.v (.int .i64 c),.v (.int .i64 d),.v (.int .i64 e),.v (.int .i64 f),.v (.bool a)],.sl (.ints .u8 g),.arr .u8 32 h,.v (.int .i64 i),.v (.int .u64 j),.sl (.ints .u8 k),.sl (.ints .u8 l)]=>P.aeo b c d e f a g h i j k l (fun m=>K (.sl (.ints .u8 m)))
 | _=>none
noncomputable def spec:Abs.Spec:=fun args K=>bn (mh [.any,.sl (.ints .u8 []),.any,.any,.any,.sl (.ints .u8 []),.sl (.ints .u8 [])] args) K
theorem ok0:Proved Tryz.prog GLO.gx 79 bn:=by
 refine bq (D:=D) (fn:=Tryz.f79) (c:=Tryz.f79.body.getD .skip) [.sl (.ints .u8 [])] (by kernel_rfl) (bg (by kernel_rfl)) (by kernel_rfl) (by kernel_rfl) (by kernel_rfl) ⟨jg.ok,ji.ok,wu.ok,trivial⟩ trivial ?_ ?_
 · rw[loops];exact trivial
 · intro args K r h
   unfold bn at h
   split at h
   · rw[P.bda] at h;exact Aa (by kernel_rfl) h
   · cases h
theorem ok:Proved Tryz.prog GLO.gx 79 spec:=dx _ ok0
end aeo

namespace agv
noncomputable def D:Ctx:=({ P:=Tryz.prog,G:=[(42,jg.spec)],globs:=GLO.gx,hints:=[],loops:=[],inl:=[] }:Ctx)
theorem loops:dn (Tryz.f78.body.getD .skip)=[]:=by kernel_rfl
noncomputable def bn:Abs.Spec:=fun args K=>match args with
 | [.arr .u8 32 a,.v (.int .u64 b)]=>P.agv a b (fun c=>K (.arr .u8 32 c))
 | _=>none
noncomputable def spec:Abs.Spec:=bn
theorem ok0:Proved Tryz.prog GLO.gx 78 bn:=by
 refine bq (D:=D) (fn:=Tryz.f78) (c:=Tryz.f78.body.getD .skip) [.any] (by kernel_rfl) (bg (by kernel_rfl)) (by kernel_rfl) (by kernel_rfl) (by kernel_rfl) ⟨jg.ok,trivial⟩ trivial ?_ ?_
 · rw[loops];exact trivial
 · intro args K r h
   unfold bn at h
   split at h
   · rw[P.bb5] at h;exact Aa (by kernel_rfl) h
   · cases h
theorem ok:Proved Tryz.prog GLO.gx 78 spec:=ok0
end agv

namespace y9
abbrev X6:=P.b3w
def S6:X6→ASt:=fun (k,l,m,h,i,j,a,b,c,d,e,f,g)=>⟨[(1,.sl (.ints .u8 k)),(3,.sl (.ints .u8 l)),(5,.v (.int .u64 m)),(6,.ptr 0 0),(10,.ptr 1 0),(13,.v (.int .i64 h)),(14,.sl (.ints .u8 i)),(15,.v (.int .i64 j))],[(0,some ⟨.box 23 [.v (.int .i64 a),.v (.int .i64 b),.v (.int .i64 c),.v (.int .i64 d),.v (.int .i64 e),.v (.bool f)],false⟩),(1,some ⟨.box 64 [.arr .u8 32 g],false⟩)],2,124⟩
def V6:ASt→Option X6
 | ⟨[(1,.sl (.ints .u8 k)),(3,.sl (.ints .u8 l)),(5,.v (.int .u64 m)),(6,.ptr 0 0),(10,.ptr 1 0),(13,.v (.int .i64 h)),(14,.sl (.ints .u8 i)),(15,.v (.int .i64 j))],[(0,some ⟨.box 23 [.v (.int .i64 a),.v (.int .i64 b),.v (.int .i64 c),.v (.int .i64 d),.v (.int .i64 e),.v (.bool f)],false⟩),(1,some ⟨.box 64 [.arr .u8 32 g],false⟩)],2,124⟩=>some (k,l,m,h,i,j,a,b,c,d,e,f,g)
 | _=>none
theorem aua(st)(x)(h:V6 st=some x):st=S6 x:=by
 unfold V6 at h
 split at h
 · cases h;rfl
 · cases h
abbrev Y6:=P.cfy
def E6(K:AExit→ASt→Option R):Y6→Option R:=(fun x=>K (.exit 0) (S6 x))
noncomputable def L6:qy:=fun st K=>adb (V6 st) fun x=>P.cd5 x (E6 K)
noncomputable def D:Ctx:=({ P:=Tryz.prog,G:=[(21,lg.spec),(37,zi.spec),(78,agv.spec),(79,aeo.spec),(120,yx.spec)],globs:=GLO.gx,hints:=[(6,⟨[1,3,5,6,10,13,14,15],[],[12],[(14,.sl (.ints .u8 []))],none,[],[],[]⟩)],loops:=[(6,L6)],inl:=[] }:Ctx)
theorem akj(K)(next)(x):kg D (gq Tryz.f71 6) K next (S6 x)=P.b4w x (fun x=>next (S6 x)) (E6 K):=by kernel_rfl
theorem au4:jr D (gq Tryz.f71 6):=iy S6 aua (by kernel_rfl) P.cg5 akj
theorem loops:dn (Tryz.f71.body.getD .skip)=[gq Tryz.f71 6]:=by kernel_rfl
noncomputable def bn:Abs.Spec:=fun args K=>match args with
 | [.agg [.v (.int .i64 b),.v (.int .i64 c),.v (.int .i64 d),.v (.int .i64 e),.v (.int .i64 f),.v (.bool a)],.sl (.ints .u8 g),.sl (.ints .u8 h),.sl (.ints .u8 i),.arr .u8 32 j,.v (.int .u64 k)]=>P.y9 b c d e f a g h i j k (fun l=>K (.sl (.ints .u8 l)))
 | _=>none
noncomputable def spec:Abs.Spec:=fun args K=>bn (mh [.any,.sl (.ints .u8 []),.sl (.ints .u8 []),.sl (.ints .u8 []),.any,.any] args) K
theorem ok0:Proved Tryz.prog GLO.gx 71 bn:=by
 refine bq (D:=D) (fn:=Tryz.f71) (c:=Tryz.f71.body.getD .skip) [.sl (.ints .u8 [])] (by kernel_rfl) (bg (by kernel_rfl)) (by kernel_rfl) (by kernel_rfl) (by kernel_rfl) ⟨lg.ok,zi.ok,agv.ok,aeo.ok,yx.ok,trivial⟩ trivial ?_ ?_
 · rw[loops];exact ⟨au4,trivial⟩
 · intro args K r h
   unfold bn at h
   split at h
   · rw[P.aoz] at h;exact Aa (by kernel_rfl) h
   · cases h
theorem ok:Proved Tryz.prog GLO.gx 71 spec:=dx _ ok0
end y9

namespace ad9
noncomputable def D:Ctx:=({ P:=Tryz.prog,G:=[(42,jg.spec)],globs:=GLO.gx,hints:=[],loops:=[],inl:=[] }:Ctx)
theorem loops:dn (Tryz.f72.body.getD .skip)=[]:=by kernel_rfl
noncomputable def bn:Abs.Spec:=fun args K=>match args with
 | [.v (.int .i64 a),.v (.int .u64 b)]=>P.ad9 a b (fun c=>K (.arr .u8 32 c))
 | _=>none
noncomputable def spec:Abs.Spec:=bn
theorem ok0:Proved Tryz.prog GLO.gx 72 bn:=by
 refine bq (D:=D) (fn:=Tryz.f72) (c:=Tryz.f72.body.getD .skip) [.any] (by kernel_rfl) (bg (by kernel_rfl)) (by kernel_rfl) (by kernel_rfl) (by kernel_rfl) ⟨jg.ok,trivial⟩ trivial ?_ ?_
 · rw[loops];exact trivial
 · intro args K r h
   unfold bn at h
   split at h
   · rw[P.ay8] at h;exact Aa (by kernel_rfl) h
   · cases h
theorem ok:Proved Tryz.prog GLO.gx 72 spec:=ok0
end ad9

namespace afw
noncomputable def D:Ctx:=({ P:=Tryz.prog,G:=[(21,lg.spec)],globs:=GLO.gx,hints:=[],loops:=[],inl:=[] }:Ctx)
theorem loops:dn (Tryz.f70.body.getD .skip)=[]:=by kernel_rfl
noncomputable def bn:Abs.Spec:=fun args K=>match args with
 | [.agg [.v (.int .i64 b),.v (.int .i64 c),.v (.int .i64 d),.v (.int .i64 e),.v (.int .i64 f),.v (.bool a)],.v (.int .u64 g),.v (.int .u64 h)]=>P.afw b c d e f a g h (fun i=>K (.v (.bool i)))
 | _=>none
noncomputable def spec:Abs.Spec:=bn
theorem ok0:Proved Tryz.prog GLO.gx 70 bn:=by
 refine bq (D:=D) (fn:=Tryz.f70) (c:=Tryz.f70.body.getD .skip) [.any] (by kernel_rfl) (bg (by kernel_rfl)) (by kernel_rfl) (by kernel_rfl) (by kernel_rfl) ⟨lg.ok,trivial⟩ trivial ?_ ?_
 · rw[loops];exact trivial
 · intro args K r h
   unfold bn at h
   split at h
   · rw[P.bbd] at h;exact Aa (by kernel_rfl) h
   · cases h
theorem ok:Proved Tryz.prog GLO.gx 70 spec:=ok0
end afw

end
