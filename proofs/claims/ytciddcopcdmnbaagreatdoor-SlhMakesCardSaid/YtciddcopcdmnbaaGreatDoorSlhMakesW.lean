/-
  SlhMakes, part 23: an interpreter of my own over abstract values, the pure functions, the walks and the plain law.
-/

import Derived.Test.YtciddcopcdmnbaaGreatDoorSlhMakesL
import Derived.Test.YtciddcopcdmnbaaGreatDoorSlhMakesH
import Derived.Test.YtciddcopcdmnbaaGreatDoorProg
import Derived.Test.YtciddcopcdmnbaaGreatDoorSlhMakesJ
import Derived.Test.YtciddcopcdmnbaaGreatDoorSlhMakesU
import Derived.KernelRfl
import Derived.Test.YtciddcopcdmnbaaGreatDoorSlhMakesV
import Derived.Test.YtciddcopcdmnbaaGreatDoorSlhMakesT
import Derived.Test.YtciddcopcdmnbaaGreatDoorSlhMakesM
import Derived.Test.YtciddcopcdmnbaaGreatDoorSlhMakesI
open Eq renaming trans → Aa

section
open Go Go.Abs Go.Proofs
set_option maxRecDepth 100000
set_option maxHeartbeats 0
set_option linter.unusedVariables false

namespace aa6
noncomputable def D:Ctx:=({ P:=Tryz.prog,G:=[(43,oh.spec)],globs:=GLO.gx,hints:=[],loops:=[],inl:=[] }:Ctx)
theorem loops:dn (Tryz.f118.body.getD .skip)=[]:=by kernel_rfl
noncomputable def bn:Abs.Spec:=fun args K=>match args with
 | [.arr .u8 32 a]=>P.aa6 a (fun b=>K (.fr 5 (.ints .u8 b)))
 | _=>none
noncomputable def spec:Abs.Spec:=bn
theorem ok0:Proved Tryz.prog GLO.gx 118 bn:=by
 refine bq (D:=D) (fn:=Tryz.f118) (c:=Tryz.f118.body.getD .skip) [.fr 5 (.ints .u8 [])] (by kernel_rfl) (bf (by kernel_rfl)) (by kernel_rfl) (by kernel_rfl) (by kernel_rfl) ⟨oh.ok,trivial⟩ trivial ?_ ?_
 · rw[loops];exact trivial
 · intro args K r h
   unfold bn at h
   split at h
   · rw[P.axa] at h;exact Aa (by kernel_rfl) h
   · cases h
theorem ok:Proved Tryz.prog GLO.gx 118 spec:=ok0
end aa6

namespace aai
noncomputable def D:Ctx:=({ P:=Tryz.prog,G:=[(21,om.spec),(43,oh.spec),(61,akb.spec),(62,afn.spec),(118,aa6.spec)],globs:=GLO.gx,hints:=[],loops:=[],inl:=[] }:Ctx)
theorem loops:dn (Tryz.f67.body.getD .skip)=[]:=by kernel_rfl
noncomputable def bn:Abs.Spec:=fun args K=>match args with
 | [.agg [.v (.int .i64 b),.v (.int .i64 c),.v (.int .i64 d),.v (.int .i64 e),.v (.int .i64 f),.v (.bool a)],.sl (.ints .u8 g),.arr .u8 32 h,.sl (.ints .u8 i)]=>P.aai b c d e f a g h i (fun j=>K (.sl (.ints .u8 j)))
 | _=>none
noncomputable def spec:Abs.Spec:=fun args K=>bn (l8 [.any,.sl (.ints .u8 []),.any,.sl (.ints .u8 [])] args) K
theorem ok0:Proved Tryz.prog GLO.gx 67 bn:=by
 refine bq (D:=D) (fn:=Tryz.f67) (c:=Tryz.f67.body.getD .skip) [.sl (.ints .u8 [])] (by kernel_rfl) (bf (by kernel_rfl)) (by kernel_rfl) (by kernel_rfl) (by kernel_rfl) ⟨om.ok,oh.ok,akb.ok,afn.ok,aa6.ok,trivial⟩ trivial ?_ ?_
 · rw[loops];exact trivial
 · intro args K r h
   unfold bn at h
   split at h
   · rw[P.bcw] at h;exact Aa (by kernel_rfl) h
   · cases h
theorem ok:Proved Tryz.prog GLO.gx 67 spec:=dw _ ok0
end aai

namespace akj
noncomputable def D:Ctx:=({ P:=Tryz.prog,G:=[(67,aai.spec)],globs:=GLO.gx,hints:=[],loops:=[],inl:=[] }:Ctx)
theorem loops:dn (Tryz.f132.body.getD .skip)=[]:=by kernel_rfl
noncomputable def bn:Abs.Spec:=fun args K=>match args with
 | [.agg [.v (.int .i64 b),.v (.int .i64 c),.v (.int .i64 d),.v (.int .i64 e),.v (.int .i64 f),.v (.bool a)],.sl (.ints .u8 g),.sl (.ints .u8 h),.arr .u8 32 i]=>P.akj b c d e f a g h i (fun j=>K (.sl (.ints .u8 j)))
 | _=>none
noncomputable def spec:Abs.Spec:=fun args K=>bn (l8 [.any,.sl (.ints .u8 []),.sl (.ints .u8 []),.any] args) K
theorem ok0:Proved Tryz.prog GLO.gx 132 bn:=by
 refine bq (D:=D) (fn:=Tryz.f132) (c:=Tryz.f132.body.getD .skip) [.sl (.ints .u8 [])] (by kernel_rfl) (bf (by kernel_rfl)) (by kernel_rfl) (by kernel_rfl) (by kernel_rfl) ⟨aai.ok,trivial⟩ trivial ?_ ?_
 · rw[loops];exact trivial
 · intro args K r h
   unfold bn at h
   split at h
   · rw[P.azd] at h;exact Aa (by kernel_rfl) h
   · cases h
theorem ok:Proved Tryz.prog GLO.gx 132 spec:=dw _ ok0
end akj

namespace ab6
noncomputable def D:Ctx:=({ P:=Tryz.prog,G:=[(65,aek.spec)],globs:=GLO.gx,hints:=[],loops:=[],inl:=[] }:Ctx)
theorem loops:dn (Tryz.f157.body.getD .skip)=[]:=by kernel_rfl
noncomputable def bn:Abs.Spec:=fun args K=>match args with
 | [.arr .u8 32 a]=>P.ab6 a (fun b=>K (.v (.int .u64 b)))
 | _=>none
noncomputable def spec:Abs.Spec:=bn
theorem ok0:Proved Tryz.prog GLO.gx 157 bn:=by
 refine bq (D:=D) (fn:=Tryz.f157) (c:=Tryz.f157.body.getD .skip) [.any] (by kernel_rfl) (bf (by kernel_rfl)) (by kernel_rfl) (by kernel_rfl) (by kernel_rfl) ⟨aek.ok,trivial⟩ trivial ?_ ?_
 · rw[loops];exact trivial
 · intro args K r h
   unfold bn at h
   split at h
   · rw[P.ayl] at h;exact Aa (by kernel_rfl) h
   · cases h
theorem ok:Proved Tryz.prog GLO.gx 157 spec:=ok0
end ab6

namespace acy
noncomputable def D:Ctx:=({ P:=Tryz.prog,G:=[(42,j5.spec),(132,akj.spec),(157,ab6.spec)],globs:=GLO.gx,hints:=[],loops:=[],inl:=[] }:Ctx)
theorem loops:dn (Tryz.f127.body.getD .skip)=[]:=by kernel_rfl
noncomputable def bn:Abs.Spec:=fun args K=>match args with
 | [.agg [.v (.int .i64 b),.v (.int .i64 c),.v (.int .i64 d),.v (.int .i64 e),.v (.int .i64 f),.v (.bool a)],.sl (.ints .u8 g),.sl (.ints .u8 h),.arr .u8 32 i,.v (.int .i64 j)]=>P.acy b c d e f a g h i j (fun k=>K (.sl (.ints .u8 k)))
 | _=>none
noncomputable def spec:Abs.Spec:=fun args K=>bn (l8 [.any,.sl (.ints .u8 []),.sl (.ints .u8 []),.any,.any] args) K
theorem ok0:Proved Tryz.prog GLO.gx 127 bn:=by
 refine bq (D:=D) (fn:=Tryz.f127) (c:=Tryz.f127.body.getD .skip) [.sl (.ints .u8 [])] (by kernel_rfl) (bf (by kernel_rfl)) (by kernel_rfl) (by kernel_rfl) (by kernel_rfl) ⟨j5.ok,akj.ok,ab6.ok,trivial⟩ trivial ?_ ?_
 · rw[loops];exact trivial
 · intro args K r h
   unfold bn at h
   split at h
   · rw[P.aw4] at h;exact Aa (by kernel_rfl) h
   · cases h
theorem ok:Proved Tryz.prog GLO.gx 127 spec:=dw _ ok0
end acy

namespace adl
abbrev X2:=P.b2z
def S2:X2→ASt:=fun (i,j,k,h,a,b,c,d,e,f,g)=>⟨[(1,.sl (.ints .u8 i)),(3,.v (.int .u32 j)),(4,.sl (.ints .u8 k)),(6,.ptr 0 0),(11,.ptr 1 0),(13,.v (.int .u32 h))],[(0,some ⟨.box 23 [.v (.int .i64 a),.v (.int .i64 b),.v (.int .i64 c),.v (.int .i64 d),.v (.int .i64 e),.v (.bool f)],false⟩),(1,some ⟨.box 64 [.arr .u8 32 g],false⟩)],2,29⟩
def V2:ASt→Option X2
 | ⟨[(1,.sl (.ints .u8 i)),(3,.v (.int .u32 j)),(4,.sl (.ints .u8 k)),(6,.ptr 0 0),(11,.ptr 1 0),(13,.v (.int .u32 h))],[(0,some ⟨.box 23 [.v (.int .i64 a),.v (.int .i64 b),.v (.int .i64 c),.v (.int .i64 d),.v (.int .i64 e),.v (.bool f)],false⟩),(1,some ⟨.box 64 [.arr .u8 32 g],false⟩)],2,29⟩=>some (i,j,k,h,a,b,c,d,e,f,g)
 | _=>none
theorem ay9(st)(x)(h:V2 st=some x):st=S2 x:=by
 unfold V2 at h
 split at h
 · cases h;rfl
 · cases h
abbrev Y2:=P.cck
def E2(K:AExit→ASt→Option R):Y2→Option R:=(fun x=>K (.exit 0) (S2 x))
noncomputable def L2:tq:=fun st K=>ady (V2 st) fun x=>P.b6t x (E2 K)
noncomputable def D:Ctx:=({ P:=Tryz.prog,G:=[(42,j5.spec),(67,aai.spec)],globs:=GLO.gx,hints:=[(2,⟨[1,3,4,6,11,13],[],[12],[(1,.sl (.ints .u8 []))],none,[],[],[]⟩)],loops:=[(2,L2)],inl:=[] }:Ctx)
theorem apv(K)(next)(x):l5 D (fq Tryz.f126 2) K next (S2 x)=P.byj x (fun x=>next (S2 x)) (E2 K):=by kernel_rfl
theorem bal:jv D (fq Tryz.f126 2):=iy S2 ay9 (by kernel_rfl) P.cd5 apv
theorem loops:dn (Tryz.f126.body.getD .skip)=[fq Tryz.f126 2]:=by kernel_rfl
noncomputable def bn:Abs.Spec:=fun args K=>match args with
 | [.agg [.v (.int .i64 b),.v (.int .i64 c),.v (.int .i64 d),.v (.int .i64 e),.v (.int .i64 f),.v (.bool a)],.sl (.ints .u8 g),.v (.int .u32 h),.v (.int .u32 i),.sl (.ints .u8 j),.arr .u8 32 k]=>P.adl b c d e f a g h i j k (fun l=>K (.sl (.ints .u8 l)))
 | _=>none
noncomputable def spec:Abs.Spec:=fun args K=>bn (l8 [.any,.sl (.ints .u8 []),.any,.any,.sl (.ints .u8 []),.any] args) K
theorem ok0:Proved Tryz.prog GLO.gx 126 bn:=by
 refine bq (D:=D) (fn:=Tryz.f126) (c:=Tryz.f126.body.getD .skip) [.sl (.ints .u8 [])] (by kernel_rfl) (bf (by kernel_rfl)) (by kernel_rfl) (by kernel_rfl) (by kernel_rfl) ⟨j5.ok,aai.ok,trivial⟩ trivial ?_ ?_
 · rw[loops];exact ⟨bal,trivial⟩
 · intro args K r h
   unfold bn at h
   split at h
   · rw[P.aww] at h;exact Aa (by kernel_rfl) h
   · cases h
theorem ok:Proved Tryz.prog GLO.gx 126 spec:=dw _ ok0
end adl

namespace aj7
noncomputable def D:Ctx:=({ P:=Tryz.prog,G:=[(42,j5.spec),(43,oh.spec),(67,aai.spec),(157,ab6.spec)],globs:=GLO.gx,hints:=[],loops:=[],inl:=[] }:Ctx)
theorem loops:dn (Tryz.f128.body.getD .skip)=[]:=by kernel_rfl
noncomputable def bn:Abs.Spec:=fun args K=>match args with
 | [.agg [.v (.int .i64 b),.v (.int .i64 c),.v (.int .i64 d),.v (.int .i64 e),.v (.int .i64 f),.v (.bool a)],.sl (.rows .u8 g),.sl (.ints .u8 h),.arr .u8 32 i]=>P.aj7 b c d e f a g h i (fun j=>K (.sl (.ints .u8 j)))
 | _=>none
noncomputable def spec:Abs.Spec:=fun args K=>bn (l8 [.any,.sl (.rows .u8 []),.sl (.ints .u8 []),.any] args) K
theorem ok0:Proved Tryz.prog GLO.gx 128 bn:=by
 refine bq (D:=D) (fn:=Tryz.f128) (c:=Tryz.f128.body.getD .skip) [.sl (.ints .u8 [])] (by kernel_rfl) (bf (by kernel_rfl)) (by kernel_rfl) (by kernel_rfl) (by kernel_rfl) ⟨j5.ok,oh.ok,aai.ok,ab6.ok,trivial⟩ trivial ?_ ?_
 · rw[loops];exact trivial
 · intro args K r h
   unfold bn at h
   split at h
   · rw[P.bb5] at h;exact Aa (by kernel_rfl) h
   · cases h
theorem ok:Proved Tryz.prog GLO.gx 128 spec:=dw _ ok0
end aj7

namespace adu
noncomputable def D:Ctx:=({ P:=Tryz.prog,G:=[(21,om.spec)],globs:=GLO.gx,hints:=[],loops:=[],inl:=[] }:Ctx)
theorem loops:dn (Tryz.f125.body.getD .skip)=[]:=by kernel_rfl
noncomputable def bn:Abs.Spec:=fun args K=>match args with
 | [.agg [.v (.int .i64 b),.v (.int .i64 c),.v (.int .i64 d),.v (.int .i64 e),.v (.int .i64 f),.v (.bool a)],.sl (.ints .u8 g),.sl (.ints .u8 h)]=>P.adu b c d e f a g h (fun i=>K (.v (.bool i)))
 | _=>none
noncomputable def spec:Abs.Spec:=fun args K=>bn (l8 [.any,.sl (.ints .u8 []),.sl (.ints .u8 [])] args) K
theorem ok0:Proved Tryz.prog GLO.gx 125 bn:=by
 refine bq (D:=D) (fn:=Tryz.f125) (c:=Tryz.f125.body.getD .skip) [.any] (by kernel_rfl) (bf (by kernel_rfl)) (by kernel_rfl) (by kernel_rfl) (by kernel_rfl) ⟨om.ok,trivial⟩ trivial ?_ ?_
 · rw[loops];exact trivial
 · intro args K r h
   unfold bn at h
   split at h
   · rw[P.axd] at h;exact Aa (by kernel_rfl) h
   · cases h
theorem ok:Proved Tryz.prog GLO.gx 125 spec:=dw _ ok0
end adu

namespace abu
abbrev X5:=P.by3
def S5:X5→ASt:=fun (i,j,h,k,a,b,c,d,e,f,g)=>⟨[(9,.own 2),(1,.sl (.ints .u8 i)),(2,.sl (.ints .u8 j)),(4,.ptr 0 0),(7,.ptr 1 0),(10,.v (.int .i64 h))],[(2,some ⟨.row 24 (.rows .u8 k),false⟩),(0,some ⟨.box 23 [.v (.int .i64 a),.v (.int .i64 b),.v (.int .i64 c),.v (.int .i64 d),.v (.int .i64 e),.v (.bool f)],false⟩),(1,some ⟨.box 64 [.arr .u8 32 g],false⟩)],3,44⟩
def V5:ASt→Option X5
 | ⟨[(9,.own 2),(1,.sl (.ints .u8 i)),(2,.sl (.ints .u8 j)),(4,.ptr 0 0),(7,.ptr 1 0),(10,.v (.int .i64 h))],[(2,some ⟨.row 24 (.rows .u8 k),false⟩),(0,some ⟨.box 23 [.v (.int .i64 a),.v (.int .i64 b),.v (.int .i64 c),.v (.int .i64 d),.v (.int .i64 e),.v (.bool f)],false⟩),(1,some ⟨.box 64 [.arr .u8 32 g],false⟩)],3,44⟩=>some (i,j,h,k,a,b,c,d,e,f,g)
 | _=>none
theorem azu(st)(x)(h:V5 st=some x):st=S5 x:=by
 unfold V5 at h
 split at h
 · cases h;rfl
 · cases h
abbrev Y5:=P.b8v
def E5(K:AExit→ASt→Option R):Y5→Option R:=(fun x=>K (.exit 0) (S5 x))
noncomputable def L5:tq:=fun st K=>ady (V5 st) fun x=>P.b74 x (E5 K)
noncomputable def D:Ctx:=({ P:=Tryz.prog,G:=[(42,j5.spec),(125,adu.spec),(126,adl.spec),(127,acy.spec),(128,aj7.spec)],globs:=GLO.gx,hints:=[(5,⟨[1,2,4,7,10],[(9,24,.rows .u8 [])],[8],[],none,[],[],[]⟩)],loops:=[(5,L5)],inl:=[] }:Ctx)
theorem aoz(K)(next)(x):l5 D (fq Tryz.f77 5) K next (S5 x)=P.by4 x (fun x=>next (S5 x)) (E5 K):=by kernel_rfl
theorem bap:jv D (fq Tryz.f77 5):=iy S5 azu (by kernel_rfl) P.cd9 aoz
theorem loops:dn (Tryz.f77.body.getD .skip)=[fq Tryz.f77 5]:=by kernel_rfl
noncomputable def bn:Abs.Spec:=fun args K=>match args with
 | [.agg [.v (.int .i64 b),.v (.int .i64 c),.v (.int .i64 d),.v (.int .i64 e),.v (.int .i64 f),.v (.bool a)],.sl (.ints .u8 g),.sl (.ints .u8 h),.arr .u8 32 i]=>P.abu b c d e f a g h i (fun j=>K (.sl (.ints .u8 j)))
 | _=>none
noncomputable def spec:Abs.Spec:=fun args K=>bn (l8 [.any,.sl (.ints .u8 []),.sl (.ints .u8 []),.any] args) K
theorem ok0:Proved Tryz.prog GLO.gx 77 bn:=by
 refine bq (D:=D) (fn:=Tryz.f77) (c:=Tryz.f77.body.getD .skip) [.sl (.ints .u8 [])] (by kernel_rfl) (bf (by kernel_rfl)) (by kernel_rfl) (by kernel_rfl) (by kernel_rfl) ⟨j5.ok,adu.ok,adl.ok,acy.ok,aj7.ok,trivial⟩ trivial ?_ ?_
 · rw[loops];exact ⟨bap,trivial⟩
 · intro args K r h
   unfold bn at h
   split at h
   · rw[P.aur] at h;exact Aa (by kernel_rfl) h
   · cases h
theorem ok:Proved Tryz.prog GLO.gx 77 spec:=dw _ ok0
end abu

namespace afb
noncomputable def D:Ctx:=({ P:=Tryz.prog,G:=[(42,j5.spec),(43,oh.spec),(67,aai.spec)],globs:=GLO.gx,hints:=[],loops:=[],inl:=[] }:Ctx)
theorem loops:dn (Tryz.f79.body.getD .skip)=[]:=by kernel_rfl
noncomputable def bn:Abs.Spec:=fun args K=>match args with
 | [.agg [.v (.int .i64 b),.v (.int .i64 c),.v (.int .i64 d),.v (.int .i64 e),.v (.int .i64 f),.v (.bool a)],.sl (.ints .u8 g),.arr .u8 32 h,.v (.int .i64 i),.v (.int .u64 j),.sl (.ints .u8 k),.sl (.ints .u8 l)]=>P.afb b c d e f a g h i j k l (fun m=>K (.sl (.ints .u8 m)))
 | _=>none
noncomputable def spec:Abs.Spec:=fun args K=>bn (l8 [.any,.sl (.ints .u8 []),.any,.any,.any,.sl (.ints .u8 []),.sl (.ints .u8 [])] args) K
theorem ok0:Proved Tryz.prog GLO.gx 79 bn:=by
 refine bq (D:=D) (fn:=Tryz.f79) (c:=Tryz.f79.body.getD .skip) [.sl (.ints .u8 [])] (by kernel_rfl) (bf (by kernel_rfl)) (by kernel_rfl) (by kernel_rfl) (by kernel_rfl) ⟨j5.ok,oh.ok,aai.ok,trivial⟩ trivial ?_ ?_
 · rw[loops];exact trivial
 · intro args K r h
   unfold bn at h
   split at h
   · rw[P.ayj] at h;exact Aa (by kernel_rfl) h
   · cases h
theorem ok:Proved Tryz.prog GLO.gx 79 spec:=dw _ ok0
end afb

namespace afj
noncomputable def D:Ctx:=({ P:=Tryz.prog,G:=[(42,j5.spec)],globs:=GLO.gx,hints:=[],loops:=[],inl:=[] }:Ctx)
theorem loops:dn (Tryz.f78.body.getD .skip)=[]:=by kernel_rfl
noncomputable def bn:Abs.Spec:=fun args K=>match args with
 | [.arr .u8 32 a,.v (.int .u64 b)]=>P.afj a b (fun c=>K (.arr .u8 32 c))
 | _=>none
noncomputable def spec:Abs.Spec:=bn
theorem ok0:Proved Tryz.prog GLO.gx 78 bn:=by
 refine bq (D:=D) (fn:=Tryz.f78) (c:=Tryz.f78.body.getD .skip) [.any] (by kernel_rfl) (bf (by kernel_rfl)) (by kernel_rfl) (by kernel_rfl) (by kernel_rfl) ⟨j5.ok,trivial⟩ trivial ?_ ?_
 · rw[loops];exact trivial
 · intro args K r h
   unfold bn at h
   split at h
   · rw[P.az9] at h;exact Aa (by kernel_rfl) h
   · cases h
theorem ok:Proved Tryz.prog GLO.gx 78 spec:=ok0
end afj

namespace ad6
abbrev X5:=P.b1d
def S5:X5→ASt:=fun (i,j,k,l,h,m,a,b,c,d,e,f,g)=>⟨[(13,.own 2),(1,.sl (.ints .u8 i)),(2,.sl (.ints .u8 j)),(4,.v (.int .i64 k)),(5,.v (.int .u64 l)),(6,.ptr 0 0),(9,.ptr 1 0),(14,.v (.int .u64 h))],[(2,some ⟨.row 24 (.rows .u8 m),false⟩),(0,some ⟨.box 23 [.v (.int .i64 a),.v (.int .i64 b),.v (.int .i64 c),.v (.int .i64 d),.v (.int .i64 e),.v (.bool f)],false⟩),(1,some ⟨.box 64 [.arr .u8 32 g],false⟩)],3,123⟩
def V5:ASt→Option X5
 | ⟨[(13,.own 2),(1,.sl (.ints .u8 i)),(2,.sl (.ints .u8 j)),(4,.v (.int .i64 k)),(5,.v (.int .u64 l)),(6,.ptr 0 0),(9,.ptr 1 0),(14,.v (.int .u64 h))],[(2,some ⟨.row 24 (.rows .u8 m),false⟩),(0,some ⟨.box 23 [.v (.int .i64 a),.v (.int .i64 b),.v (.int .i64 c),.v (.int .i64 d),.v (.int .i64 e),.v (.bool f)],false⟩),(1,some ⟨.box 64 [.arr .u8 32 g],false⟩)],3,123⟩=>some (i,j,k,l,h,m,a,b,c,d,e,f,g)
 | _=>none
theorem azu(st)(x)(h:V5 st=some x):st=S5 x:=by
 unfold V5 at h
 split at h
 · cases h;rfl
 · cases h
abbrev Y5:=P.b61
abbrev X13:=P.b0s
def S13:X13→ASt:=fun (l,m,n,h,i,j,k,a,b,c,d,e,f,g)=>⟨[(16,.own 80),(2,.sl (.ints .u8 l)),(4,.v (.int .i64 m)),(5,.v (.int .u64 n)),(6,.ptr 0 0),(9,.ptr 1 0),(13,.sl (.rows .u8 h)),(15,.v (.int .i64 i)),(17,.v (.int .i64 j))],[(80,some ⟨.row 24 (.rows .u8 k),false⟩),(1,some ⟨.box 64 [.arr .u8 32 a],false⟩),(0,some ⟨.box 23 [.v (.int .i64 b),.v (.int .i64 c),.v (.int .i64 d),.v (.int .i64 e),.v (.int .i64 f),.v (.bool g)],false⟩)],81,123⟩
def V13:ASt→Option X13
 | ⟨[(16,.own 80),(2,.sl (.ints .u8 l)),(4,.v (.int .i64 m)),(5,.v (.int .u64 n)),(6,.ptr 0 0),(9,.ptr 1 0),(13,.sl (.rows .u8 h)),(15,.v (.int .i64 i)),(17,.v (.int .i64 j))],[(80,some ⟨.row 24 (.rows .u8 k),false⟩),(1,some ⟨.box 64 [.arr .u8 32 a],false⟩),(0,some ⟨.box 23 [.v (.int .i64 b),.v (.int .i64 c),.v (.int .i64 d),.v (.int .i64 e),.v (.int .i64 f),.v (.bool g)],false⟩)],81,123⟩=>some (l,m,n,h,i,j,k,a,b,c,d,e,f,g)
 | _=>none
theorem b0h(st)(x)(h:V13 st=some x):st=S13 x:=by
 unfold V13 at h
 split at h
 · cases h;rfl
 · cases h
abbrev Y13:=P.b5w
abbrev X9:=P.b2l
def S9:X9→ASt:=fun (j,k,l,h,i,a,b,c,d,e,f,g)=>⟨[(2,.sl (.ints .u8 j)),(4,.v (.int .i64 k)),(5,.v (.int .u64 l)),(6,.ptr 0 0),(9,.ptr 1 0),(13,.sl (.rows .u8 h)),(15,.v (.int .i64 i))],[(0,some ⟨.box 23 [.v (.int .i64 a),.v (.int .i64 b),.v (.int .i64 c),.v (.int .i64 d),.v (.int .i64 e),.v (.bool f)],false⟩),(1,some ⟨.box 64 [.arr .u8 32 g],false⟩)],80,123⟩
def V9:ASt→Option X9
 | ⟨[(2,.sl (.ints .u8 j)),(4,.v (.int .i64 k)),(5,.v (.int .u64 l)),(6,.ptr 0 0),(9,.ptr 1 0),(13,.sl (.rows .u8 h)),(15,.v (.int .i64 i))],[(0,some ⟨.box 23 [.v (.int .i64 a),.v (.int .i64 b),.v (.int .i64 c),.v (.int .i64 d),.v (.int .i64 e),.v (.bool f)],false⟩),(1,some ⟨.box 64 [.arr .u8 32 g],false⟩)],80,123⟩=>some (j,k,l,h,i,a,b,c,d,e,f,g)
 | _=>none
theorem ccj(st)(x)(h:V9 st=some x):st=S9 x:=by
 unfold V9 at h
 split at h
 · cases h;rfl
 · cases h
abbrev Y9:=P.b7l
def E5(K:AExit→ASt→Option R):Y5→Option R:=(fun x=>K (.exit 0) (S5 x))
noncomputable def L5:tq:=fun st K=>ady (V5 st) fun x=>P.b9z x (E5 K)
def E13(K:AExit→ASt→Option R):Y13→Option R:=(fun x=>K (.exit 4) (S13 x))
noncomputable def L13:tq:=fun st K=>ady (V13 st) fun x=>P.b66 x (E13 K)
def E9(K:AExit→ASt→Option R):Y9→Option R:=(fun x=>K (.exit 2) (S9 x))
noncomputable def L9:tq:=fun st K=>ady (V9 st) fun x=>P.b8j x (E9 K)
noncomputable def D:Ctx:=({ P:=Tryz.prog,G:=[(21,om.spec),(77,abu.spec),(78,afj.spec),(79,afb.spec)],globs:=GLO.gx,hints:=[(13,⟨[2,4,5,6,9,13,15,17],[(16,24,.rows .u8 [])],[12],[],none,[],[],[]⟩),(9,⟨[2,4,5,6,9,13,15],[],[12],[(13,.sl (.rows .u8 []))],some (80,[0,1]),[],[],[]⟩),(5,⟨[1,2,4,5,6,9,14],[(13,24,.rows .u8 [])],[12],[],none,[],[],[]⟩)],loops:=[(5,L5),(13,L13),(9,L9)],inl:=[] }:Ctx)
theorem aoz(K)(next)(x):l5 D (fq Tryz.f41 5) K next (S5 x)=P.by8 x (fun x=>next (S5 x)) (E5 K):=by kernel_rfl
theorem bap:jv D (fq Tryz.f41 5):=iy S5 azu (by kernel_rfl) P.cdj aoz
theorem bwl(K)(next)(x):l5 D (fq Tryz.f41 13) K next (S13 x)=P.b24 x (fun x=>next (S13 x)) (E13 K):=by kernel_rfl
theorem bxh:jv D (fq Tryz.f41 13):=iy S13 b0h (by kernel_rfl) P.cdg bwl
theorem bzq(K)(next)(x):l5 D (fq Tryz.f41 9) K next (S9 x)=P.by1 x (fun x=>next (S9 x)) (E9 K):=by kernel_rfl
theorem b79:jv D (fq Tryz.f41 9):=iy S9 ccj (by kernel_rfl) P.cd6 bzq
theorem loops:dn (Tryz.f41.body.getD .skip)=[fq Tryz.f41 5,fq Tryz.f41 9,fq Tryz.f41 13]:=by kernel_rfl
noncomputable def bn:Abs.Spec:=fun args K=>match args with
 | [.agg [.v (.int .i64 b),.v (.int .i64 c),.v (.int .i64 d),.v (.int .i64 e),.v (.int .i64 f),.v (.bool a)],.sl (.ints .u8 g),.sl (.ints .u8 h),.arr .u8 32 i,.v (.int .i64 j),.v (.int .u64 k)]=>P.ad6 b c d e f a g h i j k (fun l=>K (.sl (.ints .u8 l)))
 | _=>none
noncomputable def spec:Abs.Spec:=fun args K=>bn (l8 [.any,.sl (.ints .u8 []),.sl (.ints .u8 []),.any,.any,.any] args) K
theorem ok0:Proved Tryz.prog GLO.gx 41 bn:=by
 refine bq (D:=D) (fn:=Tryz.f41) (c:=Tryz.f41.body.getD .skip) [.sl (.ints .u8 [])] (by kernel_rfl) (bf (by kernel_rfl)) (by kernel_rfl) (by kernel_rfl) (by kernel_rfl) ⟨om.ok,abu.ok,afj.ok,afb.ok,trivial⟩ trivial ?_ ?_
 · rw[loops];exact ⟨bap,b79,bxh,trivial⟩
 · intro args K r h
   unfold bn at h
   split at h
   · rw[P.aye] at h;exact Aa (by kernel_rfl) h
   · cases h
theorem ok:Proved Tryz.prog GLO.gx 41 spec:=dw _ ok0
end ad6

namespace afo
noncomputable def D:Ctx:=({ P:=Tryz.prog,G:=[(21,om.spec),(41,ad6.spec),(42,j5.spec),(43,oh.spec)],globs:=GLO.gx,hints:=[],loops:=[],inl:=[] }:Ctx)
theorem loops:dn (Tryz.f17.body.getD .skip)=[]:=by kernel_rfl
noncomputable def bn:Abs.Spec:=fun args K=>match args with
 | [.agg [.v (.int .i64 b),.v (.int .i64 c),.v (.int .i64 d),.v (.int .i64 e),.v (.int .i64 f),.v (.bool a)],.sl (.ints .u8 g),.sl (.ints .u8 h),.sl (.ints .u8 i)]=>P.afo b c d e f a g h i (fun j k l=>K (.tuple [.fr 5 (.ints .u8 j),.fr 5 (.ints .u8 k),.v (.int .i64 l)]))
 | _=>none
noncomputable def spec:Abs.Spec:=fun args K=>bn (l8 [.any,.sl (.ints .u8 []),.sl (.ints .u8 []),.sl (.ints .u8 [])] args) K
theorem ok0:Proved Tryz.prog GLO.gx 17 bn:=by
 refine bq (D:=D) (fn:=Tryz.f17) (c:=Tryz.f17.body.getD .skip) [.fr 5 (.ints .u8 []),.fr 5 (.ints .u8 []),.any] (by kernel_rfl) (bf (by kernel_rfl)) (by kernel_rfl) (by kernel_rfl) (by kernel_rfl) ⟨om.ok,ad6.ok,j5.ok,oh.ok,trivial⟩ trivial ?_ ?_
 · rw[loops];exact trivial
 · intro args K r h
   unfold bn at h
   split at h
   · rw[P.agt] at h;exact Aa (by kernel_rfl) h
   · cases h
theorem ok:Proved Tryz.prog GLO.gx 17 spec:=dw _ ok0
end afo

namespace ajb
noncomputable def D:Ctx:=({ P:=Tryz.prog,G:=[],globs:=GLO.gx,hints:=[],loops:=[],inl:=[] }:Ctx)
theorem loops:dn (Tryz.f7.body.getD .skip)=[]:=by kernel_rfl
noncomputable def bn:Abs.Spec:=fun args K=>match args with
 | [.v (.int .i64 g)]=>P.ajb g (fun b c d e f a h=>K (.tuple [.agg [.v (.int .i64 b),.v (.int .i64 c),.v (.int .i64 d),.v (.int .i64 e),.v (.int .i64 f),.v (.bool a)],.v (.bool h)]))
 | _=>none
noncomputable def spec:Abs.Spec:=bn
theorem ok0:Proved Tryz.prog GLO.gx 7 bn:=by
 refine bq (D:=D) (fn:=Tryz.f7) (c:=Tryz.f7.body.getD .skip) [.any,.any] (by kernel_rfl) (bf (by kernel_rfl)) (by kernel_rfl) (by kernel_rfl) (by kernel_rfl) trivial trivial ?_ ?_
 · rw[loops];exact trivial
 · intro args K r h
   unfold bn at h
   split at h
   · rw[P.avc] at h;exact Aa (by kernel_rfl) h
   · cases h
theorem ok:Proved Tryz.prog GLO.gx 7 spec:=ok0
end ajb

namespace aga
noncomputable def D:Ctx:=({ P:=Tryz.prog,G:=[(21,om.spec)],globs:=GLO.gx,hints:=[],loops:=[],inl:=[] }:Ctx)
theorem loops:dn (Tryz.f37.body.getD .skip)=[]:=by kernel_rfl
noncomputable def bn:Abs.Spec:=fun args K=>match args with
 | [.agg [.v (.int .i64 b),.v (.int .i64 c),.v (.int .i64 d),.v (.int .i64 e),.v (.int .i64 f),.v (.bool a)]]=>P.aga b c d e f a (fun g=>K (.v (.int .i64 g)))
 | _=>none
noncomputable def spec:Abs.Spec:=bn
theorem ok0:Proved Tryz.prog GLO.gx 37 bn:=by
 refine bq (D:=D) (fn:=Tryz.f37) (c:=Tryz.f37.body.getD .skip) [.any] (by kernel_rfl) (bf (by kernel_rfl)) (by kernel_rfl) (by kernel_rfl) (by kernel_rfl) ⟨om.ok,trivial⟩ trivial ?_ ?_
 · rw[loops];exact trivial
 · intro args K r h
   unfold bn at h
   split at h
   · rw[P.az5] at h;exact Aa (by kernel_rfl) h
   · cases h
theorem ok:Proved Tryz.prog GLO.gx 37 spec:=ok0
end aga

namespace af9
noncomputable def D:Ctx:=({ P:=Tryz.prog,G:=[(21,om.spec)],globs:=GLO.gx,hints:=[],loops:=[],inl:=[] }:Ctx)
theorem loops:dn (Tryz.f30.body.getD .skip)=[]:=by kernel_rfl
noncomputable def bn:Abs.Spec:=fun args K=>match args with
 | [.agg [.v (.int .i64 b),.v (.int .i64 c),.v (.int .i64 d),.v (.int .i64 e),.v (.int .i64 f),.v (.bool a)]]=>P.af9 b c d e f a (fun g h=>K (.tuple [.v (.int .i64 g),.v (.int .i64 h)]))
 | _=>none
noncomputable def spec:Abs.Spec:=bn
theorem ok0:Proved Tryz.prog GLO.gx 30 bn:=by
 refine bq (D:=D) (fn:=Tryz.f30) (c:=Tryz.f30.body.getD .skip) [.any,.any] (by kernel_rfl) (bf (by kernel_rfl)) (by kernel_rfl) (by kernel_rfl) (by kernel_rfl) ⟨om.ok,trivial⟩ trivial ?_ ?_
 · rw[loops];exact trivial
 · intro args K r h
   unfold bn at h
   split at h
   · rw[P.bab] at h;exact Aa (by kernel_rfl) h
   · cases h
theorem ok:Proved Tryz.prog GLO.gx 30 spec:=ok0
end af9

namespace af8
noncomputable def D:Ctx:=({ P:=Tryz.prog,G:=[(21,om.spec),(30,af9.spec),(37,aga.spec)],globs:=GLO.gx,hints:=[],loops:=[],inl:=[] }:Ctx)
theorem loops:dn (Tryz.f15.body.getD .skip)=[]:=by kernel_rfl
noncomputable def bn:Abs.Spec:=fun args K=>match args with
 | [.agg [.v (.int .i64 b),.v (.int .i64 c),.v (.int .i64 d),.v (.int .i64 e),.v (.int .i64 f),.v (.bool a)]]=>P.af8 b c d e f a (fun g h i=>K (.tuple [.v (.int .i64 g),.v (.int .i64 h),.v (.int .i64 i)]))
 | _=>none
noncomputable def spec:Abs.Spec:=bn
theorem ok0:Proved Tryz.prog GLO.gx 15 bn:=by
 refine bq (D:=D) (fn:=Tryz.f15) (c:=Tryz.f15.body.getD .skip) [.any,.any,.any] (by kernel_rfl) (bf (by kernel_rfl)) (by kernel_rfl) (by kernel_rfl) (by kernel_rfl) ⟨om.ok,af9.ok,aga.ok,trivial⟩ trivial ?_ ?_
 · rw[loops];exact trivial
 · intro args K r h
   unfold bn at h
   split at h
   · rw[P.apw] at h;exact Aa (by kernel_rfl) h
   · cases h
theorem ok:Proved Tryz.prog GLO.gx 15 spec:=ok0
end af8

end
