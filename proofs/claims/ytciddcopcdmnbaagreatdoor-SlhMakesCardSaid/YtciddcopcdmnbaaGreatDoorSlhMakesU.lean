/-
  SlhMakes, part 21: an interpreter of my own over abstract values, the pure functions, the walks and the plain law.
-/

import Derived.Test.YtciddcopcdmnbaaGreatDoorSlhMakesM
import Derived.Test.YtciddcopcdmnbaaGreatDoorSlhMakesH
import Derived.Test.YtciddcopcdmnbaaGreatDoorProg
import Derived.Test.YtciddcopcdmnbaaGreatDoorSlhMakesJ
import Derived.KernelRfl
import Derived.Test.YtciddcopcdmnbaaGreatDoorSlhMakesL
open Eq renaming trans → Aa

section
open Go Go.Abs Go.Proofs
set_option maxRecDepth 100000
set_option maxHeartbeats 0
set_option linter.unusedVariables false

namespace ab4
abbrev X4:=P.b4d
def S4:X4→ASt:=fun (a,b,c)=>⟨[(0,.sl (.ints .u8 a)),(1,.sl (.ints .u8 b)),(5,.v (.int .i64 c))],[],0,26⟩
def V4:ASt→Option X4
 | ⟨[(0,.sl (.ints .u8 a)),(1,.sl (.ints .u8 b)),(5,.v (.int .i64 c))],[],0,26⟩=>some (a,b,c)
 | _=>none
theorem as4(st)(x)(h:V4 st=some x):st=S4 x:=by
 unfold V4 at h
 split at h
 · cases h;rfl
 · cases h
abbrev Y4:=P.b4y
def E4(K:AExit→ASt→Option R):Y4→Option R:=(Sum.elim (fun x=>K (.exit 0) (S4 x)) (fun a=>K .ret ⟨[(4,.v (.bool a))],[],0,26⟩))
noncomputable def L4:tq:=fun st K=>ady (V4 st) fun x=>P.cbc x (E4 K)
noncomputable def D:Ctx:=({ P:=Tryz.prog,G:=[],globs:=GLO.gx,hints:=[(4,⟨[0,1,5],[],[4],[],none,[],[],[]⟩)],loops:=[(4,L4)],inl:=[] }:Ctx)
theorem ajq(K)(next)(x):l5 D (fq Tryz.f18 4) K next (S4 x)=P.b2w x (fun x=>next (S4 x)) (E4 K):=by kernel_rfl
theorem asj:jv D (fq Tryz.f18 4):=iy S4 as4 (by kernel_rfl) P.cdn ajq
theorem loops:dn (Tryz.f18.body.getD .skip)=[fq Tryz.f18 4]:=by kernel_rfl
noncomputable def bn:Abs.Spec:=fun args K=>match args with
 | [.sl (.ints .u8 a),.sl (.ints .u8 b)]=>P.ab4 a b (fun c=>K (.v (.bool c)))
 | _=>none
noncomputable def spec:Abs.Spec:=fun args K=>bn (l8 [.sl (.ints .u8 []),.sl (.ints .u8 [])] args) K
theorem ok0:Proved Tryz.prog GLO.gx 18 bn:=by
 refine bq (D:=D) (fn:=Tryz.f18) (c:=Tryz.f18.body.getD .skip) [.any] (by kernel_rfl) (bf (by kernel_rfl)) (by kernel_rfl) (by kernel_rfl) (by kernel_rfl) trivial trivial ?_ ?_
 · rw[loops];exact ⟨asj,trivial⟩
 · intro args K r h
   unfold bn at h
   split at h
   · rw[P.ayu] at h;exact Aa (by kernel_rfl) h
   · cases h
theorem ok:Proved Tryz.prog GLO.gx 18 spec:=dw _ ok0
end ab4

namespace oh
abbrev X3:=P.by2
def S3:X3→ASt:=fun (a,b,c)=>⟨[(3,.own 0),(0,.sl (.rows .u8 a)),(4,.v (.int .i64 b))],[(0,some ⟨.row 5 (.ints .u8 c),false⟩)],1,18⟩
def V3:ASt→Option X3
 | ⟨[(3,.own 0),(0,.sl (.rows .u8 a)),(4,.v (.int .i64 b))],[(0,some ⟨.row 5 (.ints .u8 c),false⟩)],1,18⟩=>some (a,b,c)
 | _=>none
theorem apy(st)(x)(h:V3 st=some x):st=S3 x:=by
 unfold V3 at h
 split at h
 · cases h;rfl
 · cases h
abbrev Y3:=P.cbg
def E3(K:AExit→ASt→Option R):Y3→Option R:=(fun x=>K (.exit 0) (S3 x))
noncomputable def L3:tq:=fun st K=>ady (V3 st) fun x=>P.b8a x (E3 K)
noncomputable def D:Ctx:=({ P:=Tryz.prog,G:=[],globs:=GLO.gx,hints:=[(3,⟨[0,4],[(3,5,.ints .u8 [])],[2],[],none,[],[],[]⟩)],loops:=[(3,L3)],inl:=[] }:Ctx)
theorem ahx(K)(next)(x):l5 D (fq Tryz.f43 3) K next (S3 x)=P.byt x (fun x=>next (S3 x)) (E3 K):=by kernel_rfl
theorem apa:jv D (fq Tryz.f43 3):=iy S3 apy (by kernel_rfl) P.cdb ahx
theorem loops:dn (Tryz.f43.body.getD .skip)=[fq Tryz.f43 3]:=by kernel_rfl
noncomputable def bn:Abs.Spec:=fun args K=>match args with
 | [.sl (.rows .u8 a)]=>P.oh a (fun b=>K (.fr 5 (.ints .u8 b)))
 | _=>none
noncomputable def spec:Abs.Spec:=fun args K=>bn (l8 [.sl (.rows .u8 [])] args) K
theorem ok0:Proved Tryz.prog GLO.gx 43 bn:=by
 refine bq (D:=D) (fn:=Tryz.f43) (c:=Tryz.f43.body.getD .skip) [.fr 5 (.ints .u8 [])] (by kernel_rfl) (bf (by kernel_rfl)) (by kernel_rfl) (by kernel_rfl) (by kernel_rfl) trivial trivial ?_ ?_
 · rw[loops];exact ⟨apa,trivial⟩
 · intro args K r h
   unfold bn at h
   split at h
   · rw[P.azn] at h;exact Aa (by kernel_rfl) h
   · cases h
theorem ok:Proved Tryz.prog GLO.gx 43 spec:=dw _ ok0
end oh

namespace aay
abbrev X5:=P.b0c
def S5:X5→ASt:=fun (a,b,c)=>⟨[(0,.v (.int .u64 a)),(5,.own 0),(6,.v (.int .i64 b))],[(0,some ⟨.row 5 (.ints .u8 c),false⟩)],1,30⟩
def V5:ASt→Option X5
 | ⟨[(0,.v (.int .u64 a)),(5,.own 0),(6,.v (.int .i64 b))],[(0,some ⟨.row 5 (.ints .u8 c),false⟩)],1,30⟩=>some (a,b,c)
 | _=>none
theorem azu(st)(x)(h:V5 st=some x):st=S5 x:=by
 unfold V5 at h
 split at h
 · cases h;rfl
 · cases h
abbrev Y5:=P.b8f
def E5(K:AExit→ASt→Option R):Y5→Option R:=(fun x=>K (.exit 0) (S5 x))
noncomputable def L5:tq:=fun st K=>ady (V5 st) fun x=>P.cac x (E5 K)
noncomputable def D:Ctx:=({ P:=Tryz.prog,G:=[],globs:=GLO.gx,hints:=[(5,⟨[0,5,6],[],[4],[],none,[],[],[]⟩)],loops:=[(5,L5)],inl:=[] }:Ctx)
theorem aoz(K)(next)(x):l5 D (fq Tryz.f81 5) K next (S5 x)=P.b2q x (fun x=>next (S5 x)) (E5 K):=by kernel_rfl
theorem bap:jv D (fq Tryz.f81 5):=iy S5 azu (by kernel_rfl) P.cc3 aoz
theorem loops:dn (Tryz.f81.body.getD .skip)=[fq Tryz.f81 5]:=by kernel_rfl
noncomputable def bn:Abs.Spec:=fun args K=>match args with
 | [.v (.int .u64 a),.v (.int .i64 b)]=>P.aay a b (fun c=>K (.fr 5 (.ints .u8 c)))
 | _=>none
noncomputable def spec:Abs.Spec:=bn
theorem ok0:Proved Tryz.prog GLO.gx 81 bn:=by
 refine bq (D:=D) (fn:=Tryz.f81) (c:=Tryz.f81.body.getD .skip) [.fr 5 (.ints .u8 [])] (by kernel_rfl) (bf (by kernel_rfl)) (by kernel_rfl) (by kernel_rfl) (by kernel_rfl) trivial trivial ?_ ?_
 · rw[loops];exact ⟨bap,trivial⟩
 · intro args K r h
   unfold bn at h
   split at h
   · rw[P.bh5] at h;exact Aa (by kernel_rfl) h
   · cases h
theorem ok:Proved Tryz.prog GLO.gx 81 spec:=ok0
end aay

namespace aa0
abbrev X2:=P.bzk
def S2:X2→ASt:=fun (c,d,e,a,b)=>⟨[(1,.v (.int .i64 c)),(2,.sl (.ints .u8 d)),(3,.ptr 0 0),(6,.ptr 1 0),(7,.v (.int .i64 e))],[(0,some ⟨.box 64 [.arr .u8 32 a],false⟩),(1,some ⟨.box 64 [.arr .u8 32 b],false⟩)],2,23⟩
def V2:ASt→Option X2
 | ⟨[(1,.v (.int .i64 c)),(2,.sl (.ints .u8 d)),(3,.ptr 0 0),(6,.ptr 1 0),(7,.v (.int .i64 e))],[(0,some ⟨.box 64 [.arr .u8 32 a],false⟩),(1,some ⟨.box 64 [.arr .u8 32 b],false⟩)],2,23⟩=>some (c,d,e,a,b)
 | _=>none
theorem ay9(st)(x)(h:V2 st=some x):st=S2 x:=by
 unfold V2 at h
 split at h
 · cases h;rfl
 · cases h
abbrev Y2:=P.b9j
def E2(K:AExit→ASt→Option R):Y2→Option R:=(fun x=>K (.exit 0) (S2 x))
noncomputable def L2:tq:=fun st K=>ady (V2 st) fun x=>P.b7r x (E2 K)
noncomputable def D:Ctx:=({ P:=Tryz.prog,G:=[],globs:=GLO.gx,hints:=[(2,⟨[1,2,3,6,7],[],[6],[],none,[],[],[]⟩)],loops:=[(2,L2)],inl:=[] }:Ctx)
theorem apv(K)(next)(x):l5 D (fq Tryz.f80 2) K next (S2 x)=P.b2k x (fun x=>next (S2 x)) (E2 K):=by kernel_rfl
theorem bal:jv D (fq Tryz.f80 2):=iy S2 ay9 (by kernel_rfl) P.cep apv
theorem loops:dn (Tryz.f80.body.getD .skip)=[fq Tryz.f80 2]:=by kernel_rfl
noncomputable def bn:Abs.Spec:=fun args K=>match args with
 | [.arr .u8 32 a,.v (.int .i64 b),.sl (.ints .u8 c)]=>P.aa0 a b c (fun d=>K (.arr .u8 32 d))
 | _=>none
noncomputable def spec:Abs.Spec:=fun args K=>bn (l8 [.any,.any,.sl (.ints .u8 [])] args) K
theorem ok0:Proved Tryz.prog GLO.gx 80 bn:=by
 refine bq (D:=D) (fn:=Tryz.f80) (c:=Tryz.f80.body.getD .skip) [.any] (by kernel_rfl) (bf (by kernel_rfl)) (by kernel_rfl) (by kernel_rfl) (by kernel_rfl) trivial trivial ?_ ?_
 · rw[loops];exact ⟨bal,trivial⟩
 · intro args K r h
   unfold bn at h
   split at h
   · rw[P.bch] at h;exact Aa (by kernel_rfl) h
   · cases h
theorem ok:Proved Tryz.prog GLO.gx 80 spec:=dw _ ok0
end aa0

namespace j5
noncomputable def D:Ctx:=({ P:=Tryz.prog,G:=[(80,aa0.spec),(81,aay.spec)],globs:=GLO.gx,hints:=[],loops:=[],inl:=[] }:Ctx)
theorem loops:dn (Tryz.f42.body.getD .skip)=[]:=by kernel_rfl
noncomputable def bn:Abs.Spec:=fun args K=>match args with
 | [.arr .u8 32 a,.v (.int .i64 b),.v (.int .u64 c)]=>P.j5 a b c (fun d=>K (.arr .u8 32 d))
 | _=>none
noncomputable def spec:Abs.Spec:=bn
theorem ok0:Proved Tryz.prog GLO.gx 42 bn:=by
 refine bq (D:=D) (fn:=Tryz.f42) (c:=Tryz.f42.body.getD .skip) [.any] (by kernel_rfl) (bf (by kernel_rfl)) (by kernel_rfl) (by kernel_rfl) (by kernel_rfl) ⟨aa0.ok,aay.ok,trivial⟩ trivial ?_ ?_
 · rw[loops];exact trivial
 · intro args K r h
   unfold bn at h
   split at h
   · rw[P.bdv] at h;exact Aa (by kernel_rfl) h
   · cases h
theorem ok:Proved Tryz.prog GLO.gx 42 spec:=ok0
end j5

namespace aaw
noncomputable def D:Ctx:=({ P:=Tryz.prog,G:=[],globs:=GLO.gx,hints:=[],loops:=[],inl:=[] }:Ctx)
theorem loops:dn (Tryz.f152.body.getD .skip)=[]:=by kernel_rfl
noncomputable def bn:Abs.Spec:=fun args K=>match args with
 | [.v (.int .i64 a)]=>P.aaw a (fun b=>K (.v (.int .i64 b)))
 | _=>none
noncomputable def spec:Abs.Spec:=bn
theorem ok0:Proved Tryz.prog GLO.gx 152 bn:=by
 refine bq (D:=D) (fn:=Tryz.f152) (c:=Tryz.f152.body.getD .skip) [.any] (by kernel_rfl) (bf (by kernel_rfl)) (by kernel_rfl) (by kernel_rfl) (by kernel_rfl) trivial trivial ?_ ?_
 · rw[loops];exact trivial
 · intro args K r h
   unfold bn at h
   split at h
   · rw[P.awh] at h;exact Aa (by kernel_rfl) h
   · cases h
theorem ok:Proved Tryz.prog GLO.gx 152 spec:=ok0
end aaw

namespace aal
noncomputable def D:Ctx:=({ P:=Tryz.prog,G:=[],globs:=GLO.gx,hints:=[],loops:=[],inl:=[] }:Ctx)
theorem loops:dn (Tryz.f191.body.getD .skip)=[]:=by kernel_rfl
noncomputable def bn:Abs.Spec:=fun args K=>match args with
 | [.v (.int .u64 a),.v (.int .i64 b),.v (.bool c)]=>P.aal a b c (fun d=>K (.v (.int .u64 d)))
 | _=>none
noncomputable def spec:Abs.Spec:=bn
theorem ok0:Proved Tryz.prog GLO.gx 191 bn:=by
 refine bq (D:=D) (fn:=Tryz.f191) (c:=Tryz.f191.body.getD .skip) [.any] (by kernel_rfl) (bf (by kernel_rfl)) (by kernel_rfl) (by kernel_rfl) (by kernel_rfl) trivial trivial ?_ ?_
 · rw[loops];exact trivial
 · intro args K r h
   unfold bn at h
   split at h
   · rw[P.aku] at h;exact Aa (by kernel_rfl) h
   · cases h
theorem ok:Proved Tryz.prog GLO.gx 191 spec:=ok0
end aal

namespace aar
noncomputable def D:Ctx:=({ P:=Tryz.prog,G:=[(191,aal.spec)],globs:=GLO.gx,hints:=[],loops:=[],inl:=[] }:Ctx)
theorem loops:dn (Tryz.f177.body.getD .skip)=[]:=by kernel_rfl
noncomputable def bn:Abs.Spec:=fun args K=>match args with
 | [.v (.int .u64 a),.v (.int .i64 b),.v (.int .i64 c),.v (.int .i64 d),.v (.bool e),.v (.bool f)]=>P.aar a b c d e f (fun g=>K (.v (.int .u64 g)))
 | _=>none
noncomputable def spec:Abs.Spec:=bn
theorem ok0:Proved Tryz.prog GLO.gx 177 bn:=by
 refine bq (D:=D) (fn:=Tryz.f177) (c:=Tryz.f177.body.getD .skip) [.any] (by kernel_rfl) (bf (by kernel_rfl)) (by kernel_rfl) (by kernel_rfl) (by kernel_rfl) ⟨aal.ok,trivial⟩ trivial ?_ ?_
 · rw[loops];exact trivial
 · intro args K r h
   unfold bn at h
   split at h
   · rw[P.agr] at h;exact Aa (by kernel_rfl) h
   · cases h
theorem ok:Proved Tryz.prog GLO.gx 177 spec:=ok0
end aar

namespace aac
noncomputable def D:Ctx:=({ P:=Tryz.prog,G:=[],globs:=GLO.gx,hints:=[],loops:=[],inl:=[] }:Ctx)
theorem loops:dn (Tryz.f174.body.getD .skip)=[]:=by kernel_rfl
noncomputable def bn:Abs.Spec:=fun args K=>match args with
 | []=>P.aac (fun a=>K (.arr .u64 64 a))
 | _=>none
noncomputable def spec:Abs.Spec:=bn
theorem ok0:Proved Tryz.prog GLO.gx 174 bn:=by
 refine bq (D:=D) (fn:=Tryz.f174) (c:=Tryz.f174.body.getD .skip) [.any] (by kernel_rfl) (bf (by kernel_rfl)) (by kernel_rfl) (by kernel_rfl) (by kernel_rfl) trivial trivial ?_ ?_
 · rw[loops];exact trivial
 · intro args K r h
   unfold bn at h
   split at h
   · rw[P.ajh] at h;exact Aa (by kernel_rfl) h
   · cases h
theorem ok:Proved Tryz.prog GLO.gx 174 spec:=ok0
end aac

namespace aad
noncomputable def D:Ctx:=({ P:=Tryz.prog,G:=[],globs:=GLO.gx,hints:=[],loops:=[],inl:=[] }:Ctx)
theorem loops:dn (Tryz.f175.body.getD .skip)=[]:=by kernel_rfl
noncomputable def bn:Abs.Spec:=fun args K=>match args with
 | []=>P.aad (fun a=>K (.arr .u64 80 a))
 | _=>none
noncomputable def spec:Abs.Spec:=bn
theorem ok0:Proved Tryz.prog GLO.gx 175 bn:=by
 refine bq (D:=D) (fn:=Tryz.f175) (c:=Tryz.f175.body.getD .skip) [.any] (by kernel_rfl) (bf (by kernel_rfl)) (by kernel_rfl) (by kernel_rfl) (by kernel_rfl) trivial trivial ?_ ?_
 · rw[loops];exact trivial
 · intro args K r h
   unfold bn at h
   split at h
   · rw[P.akd] at h;exact Aa (by kernel_rfl) h
   · cases h
theorem ok:Proved Tryz.prog GLO.gx 175 spec:=ok0
end aad

namespace aek
abbrev X3:=P.bz9
def S3:X3→ASt:=fun (a,b,c)=>⟨[(0,.sl (.ints .u8 a)),(3,.v (.int .u64 b)),(4,.v (.int .i64 c))],[],0,20⟩
def V3:ASt→Option X3
 | ⟨[(0,.sl (.ints .u8 a)),(3,.v (.int .u64 b)),(4,.v (.int .i64 c))],[],0,20⟩=>some (a,b,c)
 | _=>none
theorem apy(st)(x)(h:V3 st=some x):st=S3 x:=by
 unfold V3 at h
 split at h
 · cases h;rfl
 · cases h
abbrev Y3:=P.b67
def E3(K:AExit→ASt→Option R):Y3→Option R:=(fun x=>K (.exit 0) (S3 x))
noncomputable def L3:tq:=fun st K=>ady (V3 st) fun x=>P.b6v x (E3 K)
noncomputable def D:Ctx:=({ P:=Tryz.prog,G:=[],globs:=GLO.gx,hints:=[(3,⟨[0,3,4],[],[2],[],none,[],[],[]⟩)],loops:=[(3,L3)],inl:=[] }:Ctx)
theorem ahx(K)(next)(x):l5 D (fq Tryz.f65 3) K next (S3 x)=P.bxz x (fun x=>next (S3 x)) (E3 K):=by kernel_rfl
theorem apa:jv D (fq Tryz.f65 3):=iy S3 apy (by kernel_rfl) P.cdx ahx
theorem loops:dn (Tryz.f65.body.getD .skip)=[fq Tryz.f65 3]:=by kernel_rfl
noncomputable def bn:Abs.Spec:=fun args K=>match args with
 | [.sl (.ints .u8 a)]=>P.aek a (fun b=>K (.v (.int .u64 b)))
 | _=>none
noncomputable def spec:Abs.Spec:=fun args K=>bn (l8 [.sl (.ints .u8 [])] args) K
theorem ok0:Proved Tryz.prog GLO.gx 65 bn:=by
 refine bq (D:=D) (fn:=Tryz.f65) (c:=Tryz.f65.body.getD .skip) [.any] (by kernel_rfl) (bf (by kernel_rfl)) (by kernel_rfl) (by kernel_rfl) (by kernel_rfl) trivial trivial ?_ ?_
 · rw[loops];exact ⟨apa,trivial⟩
 · intro args K r h
   unfold bn at h
   split at h
   · rw[P.bcz] at h;exact Aa (by kernel_rfl) h
   · cases h
theorem ok:Proved Tryz.prog GLO.gx 65 spec:=dw _ ok0
end aek

namespace adt
abbrev X6:=P.bxy
def S6:X6→ASt:=fun (b,c,d,e,f,a,g)=>⟨[(10,.own 0),(0,.sl (.ints .u8 b)),(1,.v (.bool c)),(2,.v (.int .i64 d)),(3,.v (.int .u64 e)),(9,.v (.int .i64 f)),(11,.v (.int .i64 a))],[(0,some ⟨.row 53 (.ints .u64 g),false⟩)],1,82⟩
def V6:ASt→Option X6
 | ⟨[(10,.own 0),(0,.sl (.ints .u8 b)),(1,.v (.bool c)),(2,.v (.int .i64 d)),(3,.v (.int .u64 e)),(9,.v (.int .i64 f)),(11,.v (.int .i64 a))],[(0,some ⟨.row 53 (.ints .u64 g),false⟩)],1,82⟩=>some (b,c,d,e,f,a,g)
 | _=>none
theorem bax(st)(x)(h:V6 st=some x):st=S6 x:=by
 unfold V6 at h
 split at h
 · cases h;rfl
 · cases h
abbrev Y6:=P.b5u
def E6(K:AExit→ASt→Option R):Y6→Option R:=(fun x=>K (.exit 0) (S6 x))
noncomputable def L6:tq:=fun st K=>ady (V6 st) fun x=>P.cbt x (E6 K)
noncomputable def D:Ctx:=({ P:=Tryz.prog,G:=[(65,aek.spec),(177,aar.spec)],globs:=GLO.gx,hints:=[(6,⟨[0,1,2,3,9,11],[(10,53,.ints .u64 [])],[8],[],none,[],[],[]⟩)],loops:=[(6,L6)],inl:=[] }:Ctx)
theorem aos(K)(next)(x):l5 D (fq Tryz.f176 6) K next (S6 x)=P.bw9 x (fun x=>next (S6 x)) (E6 K):=by kernel_rfl
theorem ba7:jv D (fq Tryz.f176 6):=iy S6 bax (by kernel_rfl) P.cdf aos
theorem loops:dn (Tryz.f176.body.getD .skip)=[fq Tryz.f176 6]:=by kernel_rfl
noncomputable def bn:Abs.Spec:=fun args K=>match args with
 | [.sl (.ints .u8 a),.v (.bool b),.v (.int .i64 c),.v (.int .u64 d)]=>P.adt a b c d (fun e=>K (.fr 53 (.ints .u64 e)))
 | _=>none
noncomputable def spec:Abs.Spec:=fun args K=>bn (l8 [.sl (.ints .u8 []),.any,.any,.any] args) K
theorem ok0:Proved Tryz.prog GLO.gx 176 bn:=by
 refine bq (D:=D) (fn:=Tryz.f176) (c:=Tryz.f176.body.getD .skip) [.fr 53 (.ints .u64 [])] (by kernel_rfl) (bf (by kernel_rfl)) (by kernel_rfl) (by kernel_rfl) (by kernel_rfl) ⟨aek.ok,aar.ok,trivial⟩ trivial ?_ ?_
 · rw[loops];exact ⟨ba7,trivial⟩
 · intro args K r h
   unfold bn at h
   split at h
   · rw[P.apb] at h;exact Aa (by kernel_rfl) h
   · cases h
theorem ok:Proved Tryz.prog GLO.gx 176 spec:=dw _ ok0
end adt

namespace aen
abbrev X11:=P.b1b
def S11:X11→ASt:=fun (g,h,i,f,a,b,c,d,j,e)=>⟨[(2,.v (.bool g)),(3,.ptr 0 0),(6,.ptr 1 0),(7,.v (.int .i64 h)),(8,.v (.int .u64 i)),(9,.ptr 2 0),(10,.ptr 3 0),(11,.own 4),(12,.ptr 5 0),(13,.v (.int .i64 f))],[(0,some ⟨.box 138 [.arr .u64 8 a],false⟩),(1,some ⟨.box 138 [.arr .u64 8 b],false⟩),(2,some ⟨.box 188 [.arr .u64 64 c],false⟩),(3,some ⟨.box 190 [.arr .u64 80 d],false⟩),(4,some ⟨.row 53 (.ints .u64 j),false⟩),(5,some ⟨.box 138 [.arr .u64 8 e],false⟩)],6,137⟩
def V11:ASt→Option X11
 | ⟨[(2,.v (.bool g)),(3,.ptr 0 0),(6,.ptr 1 0),(7,.v (.int .i64 h)),(8,.v (.int .u64 i)),(9,.ptr 2 0),(10,.ptr 3 0),(11,.own 4),(12,.ptr 5 0),(13,.v (.int .i64 f))],[(0,some ⟨.box 138 [.arr .u64 8 a],false⟩),(1,some ⟨.box 138 [.arr .u64 8 b],false⟩),(2,some ⟨.box 188 [.arr .u64 64 c],false⟩),(3,some ⟨.box 190 [.arr .u64 80 d],false⟩),(4,some ⟨.row 53 (.ints .u64 j),false⟩),(5,some ⟨.box 138 [.arr .u64 8 e],false⟩)],6,137⟩=>some (g,h,i,f,a,b,c,d,j,e)
 | _=>none
theorem bqr(st)(x)(h:V11 st=some x):st=S11 x:=by
 unfold V11 at h
 split at h
 · cases h;rfl
 · cases h
abbrev Y11:=P.cbn
abbrev X25:=P.byo
def S25:X25→ASt:=fun (e,d,a,b,c)=>⟨[(3,.ptr 0 0),(6,.ptr 1 0),(8,.v (.int .u64 e)),(12,.ptr 5 0),(19,.v (.int .i64 d))],[(0,some ⟨.box 138 [.arr .u64 8 a],false⟩),(1,some ⟨.box 138 [.arr .u64 8 b],false⟩),(5,some ⟨.box 138 [.arr .u64 8 c],false⟩)],80,137⟩
def V25:ASt→Option X25
 | ⟨[(3,.ptr 0 0),(6,.ptr 1 0),(8,.v (.int .u64 e)),(12,.ptr 5 0),(19,.v (.int .i64 d))],[(0,some ⟨.box 138 [.arr .u64 8 a],false⟩),(1,some ⟨.box 138 [.arr .u64 8 b],false⟩),(5,some ⟨.box 138 [.arr .u64 8 c],false⟩)],80,137⟩=>some (e,d,a,b,c)
 | _=>none
theorem bxv(st)(x)(h:V25 st=some x):st=S25 x:=by
 unfold V25 at h
 split at h
 · cases h;rfl
 · cases h
abbrev Y25:=P.cbo
def E11(K:AExit→ASt→Option R):Y11→Option R:=(fun x=>K (.exit 0) (S11 x))
noncomputable def L11:tq:=fun st K=>ady (V11 st) fun x=>P.b7i x (E11 K)
def E25(K:AExit→ASt→Option R):Y25→Option R:=(fun x=>K (.exit 2) (S25 x))
noncomputable def L25:tq:=fun st K=>ady (V25 st) fun x=>P.b9e x (E25 K)
noncomputable def D:Ctx:=({ P:=Tryz.prog,G:=[(174,aac.spec),(175,aad.spec),(176,adt.spec),(177,aar.spec)],globs:=GLO.gx,hints:=[(25,⟨[3,6,8,12,19],[],[6],[],some (80,[0,1,5]),[],[],[]⟩),(11,⟨[2,3,6,7,8,9,10,11,12,13],[],[6],[],none,[],[],[]⟩)],loops:=[(11,L11),(25,L25)],inl:=[] }:Ctx)
theorem bj0(K)(next)(x):l5 D (fq Tryz.f153 11) K next (S11 x)=P.bw6 x (fun x=>next (S11 x)) (E11 K):=by kernel_rfl
theorem bqa:jv D (fq Tryz.f153 11):=iy S11 bqr (by kernel_rfl) P.cen bj0
theorem buc(K)(next)(x):l5 D (fq Tryz.f153 25) K next (S25 x)=P.bw2 x (fun x=>next (S25 x)) (E25 K):=by kernel_rfl
theorem b1y:jv D (fq Tryz.f153 25):=iy S25 bxv (by kernel_rfl) P.cc7 buc
theorem loops:dn (Tryz.f153.body.getD .skip)=[fq Tryz.f153 11,fq Tryz.f153 25]:=by kernel_rfl
noncomputable def bn:Abs.Spec:=fun args K=>match args with
 | [.arr .u64 8 a,.sl (.ints .u8 b),.v (.bool c)]=>P.aen a b c (fun d=>K (.arr .u64 8 d))
 | _=>none
noncomputable def spec:Abs.Spec:=fun args K=>bn (l8 [.any,.sl (.ints .u8 []),.any] args) K
theorem ok0:Proved Tryz.prog GLO.gx 153 bn:=by
 refine bq (D:=D) (fn:=Tryz.f153) (c:=Tryz.f153.body.getD .skip) [.any] (by kernel_rfl) (bf (by kernel_rfl)) (by kernel_rfl) (by kernel_rfl) (by kernel_rfl) ⟨aac.ok,aad.ok,adt.ok,aar.ok,trivial⟩ trivial ?_ ?_
 · rw[loops];exact ⟨bqa,b1y,trivial⟩
 · intro args K r h
   unfold bn at h
   split at h
   · rw[P.apx] at h;exact Aa (by kernel_rfl) h
   · cases h
theorem ok:Proved Tryz.prog GLO.gx 153 spec:=dw _ ok0
end aen

namespace adk
abbrev X4:=P.bz1
def S4:X4→ASt:=fun (h,i,a,b,c,d,e,f,g)=>⟨[(2,.ptr 0 0),(4,.ptr 1 0),(5,.v (.int .i64 h)),(6,.sl (.ints .u8 i))],[(0,some ⟨.box 140 [.v (.int .i64 a),.arr .u64 8 b,.sl (.ints .u8 c),.v (.int .u64 d)],false⟩),(1,some ⟨.box 140 [.v (.int .i64 e),.arr .u64 8 f,.v (.slice none 0 0),.v (.int .u64 g)],false⟩)],40,41⟩
def V4:ASt→Option X4
 | ⟨[(2,.ptr 0 0),(4,.ptr 1 0),(5,.v (.int .i64 h)),(6,.sl (.ints .u8 i))],[(0,some ⟨.box 140 [.v (.int .i64 a),.arr .u64 8 b,.sl (.ints .u8 c),.v (.int .u64 d)],false⟩),(1,some ⟨.box 140 [.v (.int .i64 e),.arr .u64 8 f,.v (.slice none 0 0),.v (.int .u64 g)],false⟩)],40,41⟩=>some (h,i,a,b,c,d,e,f,g)
 | _=>none
theorem as4(st)(x)(h:V4 st=some x):st=S4 x:=by
 unfold V4 at h
 split at h
 · cases h;rfl
 · cases h
abbrev Y4:=P.b6p
def E4(K:AExit→ASt→Option R):Y4→Option R:=(fun x=>K (.exit 0) (S4 x))
noncomputable def L4:tq:=fun st K=>ady (V4 st) fun x=>P.b9m x (E4 K)
noncomputable def D:Ctx:=({ P:=Tryz.prog,G:=[(43,oh.spec),(152,aaw.spec),(153,aen.spec)],globs:=GLO.gx,hints:=[(4,⟨[2,4,5,6],[],[4],[(6,.sl (.ints .u8 []))],some (40,[0,1]),[],[],[]⟩)],loops:=[(4,L4)],inl:=[] }:Ctx)
theorem ajq(K)(next)(x):l5 D (fq Tryz.f115 4) K next (S4 x)=P.bw4 x (fun x=>next (S4 x)) (E4 K):=by kernel_rfl
theorem asj:jv D (fq Tryz.f115 4):=iy S4 as4 (by kernel_rfl) P.cee ajq
theorem loops:dn (Tryz.f115.body.getD .skip)=[fq Tryz.f115 4]:=by kernel_rfl
noncomputable def bn:Abs.Spec:=fun args K=>match args with
 | [.agg [.v (.int .i64 c),.arr .u64 8 a,.sl (.ints .u8 d),.v (.int .u64 e)],.sl (.ints .u8 i)]=>P.adk c a d e i (fun f b g h=>K (.agg [.v (.int .i64 f),.arr .u64 8 b,.sl (.ints .u8 g),.v (.int .u64 h)]))
 | _=>none
noncomputable def spec:Abs.Spec:=fun args K=>bn (l8 [.agg [.any,.any,.sl (.ints .u8 []),.any],.sl (.ints .u8 [])] args) K
theorem ok0:Proved Tryz.prog GLO.gx 115 bn:=by
 refine bq (D:=D) (fn:=Tryz.f115) (c:=Tryz.f115.body.getD .skip) [.agg [.any,.any,.sl (.ints .u8 []),.any]] (by kernel_rfl) (bf (by kernel_rfl)) (by kernel_rfl) (by kernel_rfl) (by kernel_rfl) ⟨oh.ok,aaw.ok,aen.ok,trivial⟩ trivial ?_ ?_
 · rw[loops];exact ⟨asj,trivial⟩
 · intro args K r h
   unfold bn at h
   split at h
   · rw[P.bdx] at h;exact Aa (by kernel_rfl) h
   · cases h
theorem ok:Proved Tryz.prog GLO.gx 115 spec:=dw _ ok0
end adk

end
