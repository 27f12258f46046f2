/-
  SlhMakes, part 22: an interpreter of my own over abstract values, the pure functions, the walks and the plain law.
-/

import Derived.Test.YtciddcopcdmnbaaGreatDoorSlhMakesL
import Derived.Test.YtciddcopcdmnbaaGreatDoorSlhMakesH
import Derived.Test.YtciddcopcdmnbaaGreatDoorProg
import Derived.Test.YtciddcopcdmnbaaGreatDoorSlhMakesJ
import Derived.Test.YtciddcopcdmnbaaGreatDoorSlhMakesU
import Derived.KernelRfl
open Eq renaming trans → Aa

section
open Go Go.Abs Go.Proofs
set_option maxRecDepth 100000
set_option maxHeartbeats 0
set_option linter.unusedVariables false

namespace aj2
abbrev X4:=P.bzm
def S4:X4→ASt:=fun (f,g,e,a,b,c,d)=>⟨[(5,.own 40),(1,.ptr 0 0),(3,.v (.int .i64 f)),(4,.v (.int .u64 g))],[(40,some ⟨.row 5 (.ints .u8 e),false⟩),(0,some ⟨.box 140 [.v (.int .i64 a),.arr .u64 8 b,.sl (.ints .u8 c),.v (.int .u64 d)],false⟩)],41,77⟩
def V4:ASt→Option X4
 | ⟨[(5,.own 40),(1,.ptr 0 0),(3,.v (.int .i64 f)),(4,.v (.int .u64 g))],[(40,some ⟨.row 5 (.ints .u8 e),false⟩),(0,some ⟨.box 140 [.v (.int .i64 a),.arr .u64 8 b,.sl (.ints .u8 c),.v (.int .u64 d)],false⟩)],41,77⟩=>some (f,g,e,a,b,c,d)
 | _=>none
theorem as4(st)(x)(h:V4 st=some x):st=S4 x:=by
 unfold V4 at h
 split at h
 · cases h;rfl
 · cases h
abbrev Y4:=P.b7z
abbrev X8:=P.bzp
def S8:X8→ASt:=fun (f,g,e,a,b,c,d)=>⟨[(5,.own 80),(1,.ptr 0 0),(3,.v (.int .i64 f)),(4,.v (.int .u64 g))],[(80,some ⟨.row 5 (.ints .u8 e),false⟩),(0,some ⟨.box 140 [.v (.int .i64 a),.arr .u64 8 b,.sl (.ints .u8 c),.v (.int .u64 d)],false⟩)],81,77⟩
def V8:ASt→Option X8
 | ⟨[(5,.own 80),(1,.ptr 0 0),(3,.v (.int .i64 f)),(4,.v (.int .u64 g))],[(80,some ⟨.row 5 (.ints .u8 e),false⟩),(0,some ⟨.box 140 [.v (.int .i64 a),.arr .u64 8 b,.sl (.ints .u8 c),.v (.int .u64 d)],false⟩)],81,77⟩=>some (f,g,e,a,b,c,d)
 | _=>none
theorem bek(st)(x)(h:V8 st=some x):st=S8 x:=by
 unfold V8 at h
 split at h
 · cases h;rfl
 · cases h
abbrev Y8:=P.b5i
abbrev X14:=P.b0u
def S14:X14→ASt:=fun (f,g,a,b,c,d,e)=>⟨[(6,.own 120),(1,.ptr 0 0),(3,.v (.int .i64 f)),(7,.v (.int .i64 g))],[(120,some ⟨.row 5 (.ints .u8 a),false⟩),(0,some ⟨.box 140 [.v (.int .i64 b),.arr .u64 8 c,.sl (.ints .u8 d),.v (.int .u64 e)],false⟩)],121,77⟩
def V14:ASt→Option X14
 | ⟨[(6,.own 120),(1,.ptr 0 0),(3,.v (.int .i64 f)),(7,.v (.int .i64 g))],[(120,some ⟨.row 5 (.ints .u8 a),false⟩),(0,some ⟨.box 140 [.v (.int .i64 b),.arr .u64 8 c,.sl (.ints .u8 d),.v (.int .u64 e)],false⟩)],121,77⟩=>some (f,g,a,b,c,d,e)
 | _=>none
theorem bzc(st)(x)(h:V14 st=some x):st=S14 x:=by
 unfold V14 at h
 split at h
 · cases h;rfl
 · cases h
abbrev Y14:=P.b9f
def E4(K:AExit→ASt→Option R):Y4→Option R:=(fun x=>K (.exit 0) (S4 x))
noncomputable def L4:tq:=fun st K=>ady (V4 st) fun x=>P.b5s x (E4 K)
def E8(K:AExit→ASt→Option R):Y8→Option R:=(fun x=>K (.exit 2) (S8 x))
noncomputable def L8:tq:=fun st K=>ady (V8 st) fun x=>P.cb6 x (E8 K)
def E14(K:AExit→ASt→Option R):Y14→Option R:=(fun x=>K (.exit 4) (S14 x))
noncomputable def L14:tq:=fun st K=>ady (V14 st) fun x=>P.b7p x (E14 K)
noncomputable def D:Ctx:=({ P:=Tryz.prog,G:=[(81,aay.spec),(115,adk.spec),(152,aaw.spec)],globs:=GLO.gx,hints:=[(14,⟨[1,3,7],[(6,5,.ints .u8 [])],[2],[],some (120,[0]),[0],[],[]⟩),(8,⟨[1,3,4],[(5,5,.ints .u8 [])],[2],[],some (80,[0]),[0],[],[]⟩),(4,⟨[1,3,4],[(5,5,.ints .u8 [])],[2],[],some (40,[0]),[0],[],[]⟩)],loops:=[(4,L4),(8,L8),(14,L14)],inl:=[] }:Ctx)
theorem ajq(K)(next)(x):l5 D (fq Tryz.f114 4) K next (S4 x)=P.bz5 x (fun x=>next (S4 x)) (E4 K):=by kernel_rfl
theorem asj:jv D (fq Tryz.f114 4):=iy S4 as4 (by kernel_rfl) P.ceq ajq
theorem atq(K)(next)(x):l5 D (fq Tryz.f114 8) K next (S8 x)=P.b06 x (fun x=>next (S8 x)) (E8 K):=by kernel_rfl
theorem bej:jv D (fq Tryz.f114 8):=iy S8 bek (by kernel_rfl) P.ccv atq
theorem bve(K)(next)(x):l5 D (fq Tryz.f114 14) K next (S14 x)=P.bxe x (fun x=>next (S14 x)) (E14 K):=by kernel_rfl
theorem bx6:jv D (fq Tryz.f114 14):=iy S14 bzc (by kernel_rfl) P.ccx bve
theorem loops:dn (Tryz.f114.body.getD .skip)=[fq Tryz.f114 4,fq Tryz.f114 8,fq Tryz.f114 14]:=by kernel_rfl
noncomputable def bn:Abs.Spec:=fun args K=>match args with
 | [.agg [.v (.int .i64 b),.arr .u64 8 a,.sl (.ints .u8 c),.v (.int .u64 d)]]=>P.aj2 b a c d (fun e=>K (.fr 5 (.ints .u8 e)))
 | _=>none
noncomputable def spec:Abs.Spec:=fun args K=>bn (l8 [.agg [.any,.any,.sl (.ints .u8 []),.any]] args) K
theorem ok0:Proved Tryz.prog GLO.gx 114 bn:=by
 refine av0 (D:=D) (fn:=Tryz.f114) (c:=Tryz.f114.body.getD .skip) 5 (.ints .u8 []) (by kernel_rfl) (bf (by kernel_rfl)) (by kernel_rfl) (by kernel_rfl) (by kernel_rfl) ⟨aay.ok,adk.ok,aaw.ok,trivial⟩ trivial ?_ ?_
 · rw[loops];exact ⟨asj,bej,bx6,trivial⟩
 · intro args K r h
   unfold bn at h
   split at h
   · rw[P.bb7] at h;exact Aa (by kernel_rfl) h
   · cases h
theorem ok:Proved Tryz.prog GLO.gx 114 spec:=dw _ ok0
end aj2

namespace aju
noncomputable def D:Ctx:=({ P:=Tryz.prog,G:=[],globs:=GLO.gx,hints:=[],loops:=[],inl:=[] }:Ctx)
theorem loops:dn (Tryz.f113.body.getD .skip)=[]:=by kernel_rfl
noncomputable def bn:Abs.Spec:=fun args K=>match args with
 | [.v (.int .i64 e)]=>P.aju e (fun b a c d f=>K (.tuple [.agg [.v (.int .i64 b),.arr .u64 8 a,.fr 5 (.ints .u8 c),.v (.int .u64 d)],.v (.int .i64 f)]))
 | _=>none
noncomputable def spec:Abs.Spec:=bn
theorem ok0:Proved Tryz.prog GLO.gx 113 bn:=by
 refine bq (D:=D) (fn:=Tryz.f113) (c:=Tryz.f113.body.getD .skip) [.agg [.any,.any,.fr 5 (.ints .u8 []),.any],.any] (by kernel_rfl) (bf (by kernel_rfl)) (by kernel_rfl) (by kernel_rfl) (by kernel_rfl) trivial trivial ?_ ?_
 · rw[loops];exact trivial
 · intro args K r h
   unfold bn at h
   split at h
   · rw[P.bd4] at h;exact Aa (by kernel_rfl) h
   · cases h
theorem ok:Proved Tryz.prog GLO.gx 113 spec:=ok0
end aju

namespace afn
noncomputable def D:Ctx:=({ P:=Tryz.prog,G:=[(113,aju.spec),(114,aj2.spec),(115,adk.spec)],globs:=GLO.gx,hints:=[],loops:=[],inl:=[] }:Ctx)
theorem loops:dn (Tryz.f62.body.getD .skip)=[]:=by kernel_rfl
noncomputable def bn:Abs.Spec:=fun args K=>match args with
 | [.v (.int .i64 a),.sl (.ints .u8 b)]=>P.afn a b (fun c d=>K (.tuple [.fr 5 (.ints .u8 c),.v (.int .i64 d)]))
 | _=>none
noncomputable def spec:Abs.Spec:=fun args K=>bn (l8 [.any,.sl (.ints .u8 [])] args) K
theorem ok0:Proved Tryz.prog GLO.gx 62 bn:=by
 refine bq (D:=D) (fn:=Tryz.f62) (c:=Tryz.f62.body.getD .skip) [.fr 5 (.ints .u8 []),.any] (by kernel_rfl) (bf (by kernel_rfl)) (by kernel_rfl) (by kernel_rfl) (by kernel_rfl) ⟨aju.ok,aj2.ok,adk.ok,trivial⟩ trivial ?_ ?_
 · rw[loops];exact trivial
 · intro args K r h
   unfold bn at h
   split at h
   · rw[P.bea] at h;exact Aa (by kernel_rfl) h
   · cases h
theorem ok:Proved Tryz.prog GLO.gx 62 spec:=dw _ ok0
end afn

namespace z8
abbrev X4:=P.bzl
def S4:X4→ASt:=fun (c,d,a,b)=>⟨[(0,.ptr 0 0),(1,.ptr 1 0),(2,.v (.int .u64 c)),(3,.v (.int .i64 d))],[(0,some ⟨.box 186 [.arr .u64 24 a],false⟩),(1,some ⟨.box 186 [.arr .u64 24 b],false⟩)],2,32⟩
def V4:ASt→Option X4
 | ⟨[(0,.ptr 0 0),(1,.ptr 1 0),(2,.v (.int .u64 c)),(3,.v (.int .i64 d))],[(0,some ⟨.box 186 [.arr .u64 24 a],false⟩),(1,some ⟨.box 186 [.arr .u64 24 b],false⟩)],2,32⟩=>some (c,d,a,b)
 | _=>none
theorem as4(st)(x)(h:V4 st=some x):st=S4 x:=by
 unfold V4 at h
 split at h
 · cases h;rfl
 · cases h
abbrev Y4:=P.b5a
def E4(K:AExit→ASt→Option R):Y4→Option R:=(fun x=>K (.exit 0) (S4 x))
noncomputable def L4:tq:=fun st K=>ady (V4 st) fun x=>P.cbb x (E4 K)
noncomputable def D:Ctx:=({ P:=Tryz.prog,G:=[],globs:=GLO.gx,hints:=[(4,⟨[0,1,2,3],[],[0],[],none,[],[],[]⟩)],loops:=[(4,L4)],inl:=[] }:Ctx)
theorem ajq(K)(next)(x):l5 D (fq Tryz.f171 4) K next (S4 x)=P.bwz x (fun x=>next (S4 x)) (E4 K):=by kernel_rfl
theorem asj:jv D (fq Tryz.f171 4):=iy S4 as4 (by kernel_rfl) P.cdh ajq
theorem loops:dn (Tryz.f171.body.getD .skip)=[fq Tryz.f171 4]:=by kernel_rfl
noncomputable def bn:Abs.Spec:=fun args K=>match args with
 | []=>P.z8 (fun a=>K (.arr .u64 24 a))
 | _=>none
noncomputable def spec:Abs.Spec:=bn
theorem ok0:Proved Tryz.prog GLO.gx 171 bn:=by
 refine bq (D:=D) (fn:=Tryz.f171) (c:=Tryz.f171.body.getD .skip) [.any] (by kernel_rfl) (bf (by kernel_rfl)) (by kernel_rfl) (by kernel_rfl) (by kernel_rfl) trivial trivial ?_ ?_
 · rw[loops];exact ⟨asj,trivial⟩
 · intro args K r h
   unfold bn at h
   split at h
   · rw[P.anz] at h;exact Aa (by kernel_rfl) h
   · cases h
theorem ok:Proved Tryz.prog GLO.gx 171 spec:=ok0
end z8

namespace af7
noncomputable def D:Ctx:=({ P:=Tryz.prog,G:=[],globs:=GLO.gx,hints:=[],loops:=[],inl:=[] }:Ctx)
theorem loops:dn (Tryz.f190.body.getD .skip)=[]:=by kernel_rfl
noncomputable def bn:Abs.Spec:=fun args K=>match args with
 | [.v (.int .u64 a),.v (.int .i64 b)]=>P.af7 a b (fun c=>K (.v (.int .u64 c)))
 | _=>none
noncomputable def spec:Abs.Spec:=bn
theorem ok0:Proved Tryz.prog GLO.gx 190 bn:=by
 refine bq (D:=D) (fn:=Tryz.f190) (c:=Tryz.f190.body.getD .skip) [.any] (by kernel_rfl) (bf (by kernel_rfl)) (by kernel_rfl) (by kernel_rfl) (by kernel_rfl) trivial trivial ?_ ?_
 · rw[loops];exact trivial
 · intro args K r h
   unfold bn at h
   split at h
   · rw[P.aew] at h;exact Aa (by kernel_rfl) h
   · cases h
theorem ok:Proved Tryz.prog GLO.gx 190 spec:=ok0
end af7

namespace aiz
abbrev X6:=P.b1h
def S6:X6→ASt:=fun (d,e,f,a,b,c)=>⟨[(1,.ptr 0 0),(2,.ptr 1 0),(3,.ptr 2 0),(4,.v (.int .i64 d)),(5,.v (.int .i64 e)),(6,.v (.int .i64 f))],[(0,some ⟨.box 130 [.arr .u64 25 a],false⟩),(1,some ⟨.box 130 [.arr .u64 25 b],false⟩),(2,some ⟨.box 130 [.arr .u64 25 c],false⟩)],3,44⟩
def V6:ASt→Option X6
 | ⟨[(1,.ptr 0 0),(2,.ptr 1 0),(3,.ptr 2 0),(4,.v (.int .i64 d)),(5,.v (.int .i64 e)),(6,.v (.int .i64 f))],[(0,some ⟨.box 130 [.arr .u64 25 a],false⟩),(1,some ⟨.box 130 [.arr .u64 25 b],false⟩),(2,some ⟨.box 130 [.arr .u64 25 c],false⟩)],3,44⟩=>some (d,e,f,a,b,c)
 | _=>none
theorem bax(st)(x)(h:V6 st=some x):st=S6 x:=by
 unfold V6 at h
 split at h
 · cases h;rfl
 · cases h
abbrev Y6:=P.cam
def E6(K:AExit→ASt→Option R):Y6→Option R:=(fun x=>K (.exit 0) (S6 x))
noncomputable def L6:tq:=fun st K=>ady (V6 st) fun x=>P.b6k x (E6 K)
noncomputable def D:Ctx:=({ P:=Tryz.prog,G:=[(190,af7.spec)],globs:=GLO.gx,hints:=[(6,⟨[1,2,3,4,5,6],[],[2],[],none,[],[],[]⟩)],loops:=[(6,L6)],inl:=[] }:Ctx)
theorem aos(K)(next)(x):l5 D (fq Tryz.f172 6) K next (S6 x)=P.bwv x (fun x=>next (S6 x)) (E6 K):=by kernel_rfl
theorem ba7:jv D (fq Tryz.f172 6):=iy S6 bax (by kernel_rfl) P.ccp aos
theorem loops:dn (Tryz.f172.body.getD .skip)=[fq Tryz.f172 6]:=by kernel_rfl
noncomputable def bn:Abs.Spec:=fun args K=>match args with
 | [.arr .u64 25 a]=>P.aiz a (fun b=>K (.arr .u64 25 b))
 | _=>none
noncomputable def spec:Abs.Spec:=bn
theorem ok0:Proved Tryz.prog GLO.gx 172 bn:=by
 refine bq (D:=D) (fn:=Tryz.f172) (c:=Tryz.f172.body.getD .skip) [.any] (by kernel_rfl) (bf (by kernel_rfl)) (by kernel_rfl) (by kernel_rfl) (by kernel_rfl) ⟨af7.ok,trivial⟩ trivial ?_ ?_
 · rw[loops];exact ⟨ba7,trivial⟩
 · intro args K r h
   unfold bn at h
   split at h
   · rw[P.ay1] at h;exact Aa (by kernel_rfl) h
   · cases h
theorem ok:Proved Tryz.prog GLO.gx 172 spec:=ok0
end aiz

namespace adz
abbrev X3:=P.byu
def S3:X3→ASt:=fun (d,a,b,c)=>⟨[(1,.ptr 0 0),(2,.ptr 1 0),(3,.ptr 2 0),(4,.v (.int .i64 d))],[(0,some ⟨.box 130 [.arr .u64 25 a],false⟩),(1,some ⟨.box 130 [.arr .u64 25 b],false⟩),(2,some ⟨.box 215 [.arr .u64 5 c],false⟩)],3,44⟩
def V3:ASt→Option X3
 | ⟨[(1,.ptr 0 0),(2,.ptr 1 0),(3,.ptr 2 0),(4,.v (.int .i64 d))],[(0,some ⟨.box 130 [.arr .u64 25 a],false⟩),(1,some ⟨.box 130 [.arr .u64 25 b],false⟩),(2,some ⟨.box 215 [.arr .u64 5 c],false⟩)],3,44⟩=>some (d,a,b,c)
 | _=>none
theorem apy(st)(x)(h:V3 st=some x):st=S3 x:=by
 unfold V3 at h
 split at h
 · cases h;rfl
 · cases h
abbrev Y3:=P.b9w
abbrev X7:=P.bxg
def S7:X7→ASt:=fun (d,a,b,c)=>⟨[(1,.ptr 0 0),(2,.ptr 1 0),(3,.ptr 2 0),(5,.v (.int .i64 d))],[(2,some ⟨.box 215 [.arr .u64 5 a],false⟩),(1,some ⟨.box 130 [.arr .u64 25 b],false⟩),(0,some ⟨.box 130 [.arr .u64 25 c],false⟩)],3,44⟩
def V7:ASt→Option X7
 | ⟨[(1,.ptr 0 0),(2,.ptr 1 0),(3,.ptr 2 0),(5,.v (.int .i64 d))],[(2,some ⟨.box 215 [.arr .u64 5 a],false⟩),(1,some ⟨.box 130 [.arr .u64 25 b],false⟩),(0,some ⟨.box 130 [.arr .u64 25 c],false⟩)],3,44⟩=>some (d,a,b,c)
 | _=>none
theorem bkb(st)(x)(h:V7 st=some x):st=S7 x:=by
 unfold V7 at h
 split at h
 · cases h;rfl
 · cases h
abbrev Y7:=P.b7s
def E3(K:AExit→ASt→Option R):Y3→Option R:=(fun x=>K (.exit 0) (S3 x))
noncomputable def L3:tq:=fun st K=>ady (V3 st) fun x=>P.b5b x (E3 K)
def E7(K:AExit→ASt→Option R):Y7→Option R:=(fun x=>K (.exit 2) (S7 x))
noncomputable def L7:tq:=fun st K=>ady (V7 st) fun x=>P.b76 x (E7 K)
noncomputable def D:Ctx:=({ P:=Tryz.prog,G:=[(190,af7.spec)],globs:=GLO.gx,hints:=[(7,⟨[1,2,3,5],[],[2],[],none,[],[],[]⟩),(3,⟨[1,2,3,4],[],[2],[],none,[],[],[]⟩)],loops:=[(3,L3),(7,L7)],inl:=[] }:Ctx)
theorem ahx(K)(next)(x):l5 D (fq Tryz.f173 3) K next (S3 x)=P.bxb x (fun x=>next (S3 x)) (E3 K):=by kernel_rfl
theorem apa:jv D (fq Tryz.f173 3):=iy S3 apy (by kernel_rfl) P.cc4 ahx
theorem ays(K)(next)(x):l5 D (fq Tryz.f173 7) K next (S7 x)=P.bw8 x (fun x=>next (S7 x)) (E7 K):=by kernel_rfl
theorem bi1:jv D (fq Tryz.f173 7):=iy S7 bkb (by kernel_rfl) P.ceg ays
theorem loops:dn (Tryz.f173.body.getD .skip)=[fq Tryz.f173 3,fq Tryz.f173 7]:=by kernel_rfl
noncomputable def bn:Abs.Spec:=fun args K=>match args with
 | [.arr .u64 25 a]=>P.adz a (fun b=>K (.arr .u64 25 b))
 | _=>none
noncomputable def spec:Abs.Spec:=bn
theorem ok0:Proved Tryz.prog GLO.gx 173 bn:=by
 refine bq (D:=D) (fn:=Tryz.f173) (c:=Tryz.f173.body.getD .skip) [.any] (by kernel_rfl) (bf (by kernel_rfl)) (by kernel_rfl) (by kernel_rfl) (by kernel_rfl) ⟨af7.ok,trivial⟩ trivial ?_ ?_
 · rw[loops];exact ⟨apa,bi1,trivial⟩
 · intro args K r h
   unfold bn at h
   split at h
   · rw[P.aus] at h;exact Aa (by kernel_rfl) h
   · cases h
theorem ok:Proved Tryz.prog GLO.gx 173 spec:=ok0
end adz

namespace ql
abbrev X7:=P.bya
def S7:X7→ASt:=fun (e,f,a,b,c,d)=>⟨[(1,.ptr 0 0),(2,.ptr 1 0),(3,.ptr 2 0),(4,.v (.int .i64 e)),(5,.ptr 3 0),(6,.v (.int .i64 f))],[(2,some ⟨.box 186 [.arr .u64 24 a],false⟩),(1,some ⟨.box 130 [.arr .u64 25 b],false⟩),(0,some ⟨.box 130 [.arr .u64 25 c],false⟩),(3,some ⟨.box 130 [.arr .u64 25 d],false⟩)],4,53⟩
def V7:ASt→Option X7
 | ⟨[(1,.ptr 0 0),(2,.ptr 1 0),(3,.ptr 2 0),(4,.v (.int .i64 e)),(5,.ptr 3 0),(6,.v (.int .i64 f))],[(2,some ⟨.box 186 [.arr .u64 24 a],false⟩),(1,some ⟨.box 130 [.arr .u64 25 b],false⟩),(0,some ⟨.box 130 [.arr .u64 25 c],false⟩),(3,some ⟨.box 130 [.arr .u64 25 d],false⟩)],4,53⟩=>some (e,f,a,b,c,d)
 | _=>none
theorem bkb(st)(x)(h:V7 st=some x):st=S7 x:=by
 unfold V7 at h
 split at h
 · cases h;rfl
 · cases h
abbrev Y7:=P.b68
abbrev X3:=P.byl
def S3:X3→ASt:=fun (d,a,b,c)=>⟨[(1,.ptr 0 0),(2,.ptr 1 0),(3,.ptr 2 0),(4,.v (.int .i64 d))],[(0,some ⟨.box 130 [.arr .u64 25 a],false⟩),(1,some ⟨.box 130 [.arr .u64 25 b],false⟩),(2,some ⟨.box 186 [.arr .u64 24 c],false⟩)],3,53⟩
def V3:ASt→Option X3
 | ⟨[(1,.ptr 0 0),(2,.ptr 1 0),(3,.ptr 2 0),(4,.v (.int .i64 d))],[(0,some ⟨.box 130 [.arr .u64 25 a],false⟩),(1,some ⟨.box 130 [.arr .u64 25 b],false⟩),(2,some ⟨.box 186 [.arr .u64 24 c],false⟩)],3,53⟩=>some (d,a,b,c)
 | _=>none
theorem apy(st)(x)(h:V3 st=some x):st=S3 x:=by
 unfold V3 at h
 split at h
 · cases h;rfl
 · cases h
abbrev Y3:=P.cae
def E7(K:AExit→ASt→Option R):Y7→Option R:=(fun x=>K (.exit 2) (S7 x))
noncomputable def L7:tq:=fun st K=>ady (V7 st) fun x=>P.b42 x (E7 K)
def E3(K:AExit→ASt→Option R):Y3→Option R:=(fun x=>K (.exit 0) (S3 x))
noncomputable def L3:tq:=fun st K=>ady (V3 st) fun x=>P.b5y x (E3 K)
noncomputable def D:Ctx:=({ P:=Tryz.prog,G:=[(171,z8.spec),(172,aiz.spec),(173,adz.spec)],globs:=GLO.gx,hints:=[(7,⟨[1,2,3,4,5,6],[],[2],[],none,[],[],[]⟩),(3,⟨[1,2,3,4],[],[2],[],none,[],[],[]⟩)],loops:=[(7,L7),(3,L3)],inl:=[] }:Ctx)
theorem ays(K)(next)(x):l5 D (fq Tryz.f150 7) K next (S7 x)=P.b2o x (fun x=>next (S7 x)) (E7 K):=by kernel_rfl
theorem bi1:jv D (fq Tryz.f150 7):=iy S7 bkb (by kernel_rfl) P.cdc ays
theorem ahx(K)(next)(x):l5 D (fq Tryz.f150 3) K next (S3 x)=P.bz4 x (fun x=>next (S3 x)) (E3 K):=by kernel_rfl
theorem apa:jv D (fq Tryz.f150 3):=iy S3 apy (by kernel_rfl) P.cdt ahx
theorem loops:dn (Tryz.f150.body.getD .skip)=[fq Tryz.f150 3,fq Tryz.f150 7]:=by kernel_rfl
noncomputable def bn:Abs.Spec:=fun args K=>match args with
 | [.arr .u64 25 a]=>P.ql a (fun b=>K (.arr .u64 25 b))
 | _=>none
noncomputable def spec:Abs.Spec:=bn
theorem ok0:Proved Tryz.prog GLO.gx 150 bn:=by
 refine bq (D:=D) (fn:=Tryz.f150) (c:=Tryz.f150.body.getD .skip) [.any] (by kernel_rfl) (bf (by kernel_rfl)) (by kernel_rfl) (by kernel_rfl) (by kernel_rfl) ⟨z8.ok,aiz.ok,adz.ok,trivial⟩ trivial ?_ ?_
 · rw[loops];exact ⟨apa,bi1,trivial⟩
 · intro args K r h
   unfold bn at h
   split at h
   · rw[P.aqr] at h;exact Aa (by kernel_rfl) h
   · cases h
theorem ok:Proved Tryz.prog GLO.gx 150 spec:=ok0
end ql

namespace ab1
noncomputable def D:Ctx:=({ P:=Tryz.prog,G:=[],globs:=GLO.gx,hints:=[],loops:=[],inl:=[] }:Ctx)
theorem loops:dn (Tryz.f149.body.getD .skip)=[]:=by kernel_rfl
noncomputable def bn:Abs.Spec:=fun args K=>match args with
 | [.v (.int .i64 a)]=>P.ab1 a (fun b=>K (.v (.int .i64 b)))
 | _=>none
noncomputable def spec:Abs.Spec:=bn
theorem ok0:Proved Tryz.prog GLO.gx 149 bn:=by
 refine bq (D:=D) (fn:=Tryz.f149) (c:=Tryz.f149.body.getD .skip) [.any] (by kernel_rfl) (bf (by kernel_rfl)) (by kernel_rfl) (by kernel_rfl) (by kernel_rfl) trivial trivial ?_ ?_
 · rw[loops];exact trivial
 · intro args K r h
   unfold bn at h
   split at h
   · rw[P.azx] at h;exact Aa (by kernel_rfl) h
   · cases h
theorem ok:Proved Tryz.prog GLO.gx 149 spec:=ok0
end ab1

namespace aat
noncomputable def D:Ctx:=({ P:=Tryz.prog,G:=[],globs:=GLO.gx,hints:=[],loops:=[],inl:=[] }:Ctx)
theorem loops:dn (Tryz.f151.body.getD .skip)=[]:=by kernel_rfl
noncomputable def bn:Abs.Spec:=fun args K=>match args with
 | [.arr .u64 25 a,.v (.int .i64 b),.v (.int .u8 c)]=>P.aat a b c (fun d=>K (.arr .u64 25 d))
 | _=>none
noncomputable def spec:Abs.Spec:=bn
theorem ok0:Proved Tryz.prog GLO.gx 151 bn:=by
 refine bq (D:=D) (fn:=Tryz.f151) (c:=Tryz.f151.body.getD .skip) [.any] (by kernel_rfl) (bf (by kernel_rfl)) (by kernel_rfl) (by kernel_rfl) (by kernel_rfl) trivial trivial ?_ ?_
 · rw[loops];exact trivial
 · intro args K r h
   unfold bn at h
   split at h
   · rw[P.bdb] at h;exact Aa (by kernel_rfl) h
   · cases h
theorem ok:Proved Tryz.prog GLO.gx 151 spec:=ok0
end aat

namespace abo
abbrev X4:=P.b0i
def S4:X4→ASt:=fun (i,j,a,b,c,d,e,f,g,h)=>⟨[(1,.sl (.ints .u8 i)),(2,.ptr 0 0),(4,.ptr 1 0),(5,.v (.int .i64 j))],[(0,some ⟨.box 132 [.v (.int .i64 a),.arr .u64 25 b,.v (.int .i64 c),.v (.bool d)],false⟩),(1,some ⟨.box 132 [.v (.int .i64 e),.arr .u64 25 f,.v (.int .i64 g),.v (.bool h)],false⟩)],40,41⟩
def V4:ASt→Option X4
 | ⟨[(1,.sl (.ints .u8 i)),(2,.ptr 0 0),(4,.ptr 1 0),(5,.v (.int .i64 j))],[(0,some ⟨.box 132 [.v (.int .i64 a),.arr .u64 25 b,.v (.int .i64 c),.v (.bool d)],false⟩),(1,some ⟨.box 132 [.v (.int .i64 e),.arr .u64 25 f,.v (.int .i64 g),.v (.bool h)],false⟩)],40,41⟩=>some (i,j,a,b,c,d,e,f,g,h)
 | _=>none
theorem as4(st)(x)(h:V4 st=some x):st=S4 x:=by
 unfold V4 at h
 split at h
 · cases h;rfl
 · cases h
abbrev Y4:=P.b8z
def E4(K:AExit→ASt→Option R):Y4→Option R:=(fun x=>K (.exit 0) (S4 x))
noncomputable def L4:tq:=fun st K=>ady (V4 st) fun x=>P.b7j x (E4 K)
noncomputable def D:Ctx:=({ P:=Tryz.prog,G:=[(149,ab1.spec),(150,ql.spec),(151,aat.spec)],globs:=GLO.gx,hints:=[(4,⟨[1,2,4,5],[],[4],[],some (40,[0,1]),[],[],[]⟩)],loops:=[(4,L4)],inl:=[] }:Ctx)
theorem ajq(K)(next)(x):l5 D (fq Tryz.f112 4) K next (S4 x)=P.byp x (fun x=>next (S4 x)) (E4 K):=by kernel_rfl
theorem asj:jv D (fq Tryz.f112 4):=iy S4 as4 (by kernel_rfl) P.cdk ajq
theorem loops:dn (Tryz.f112.body.getD .skip)=[fq Tryz.f112 4]:=by kernel_rfl
noncomputable def bn:Abs.Spec:=fun args K=>match args with
 | [.agg [.v (.int .i64 c),.arr .u64 25 a,.v (.int .i64 g),.v (.bool e)],.sl (.ints .u8 i)]=>P.abo c a g e i (fun d b h f=>K (.agg [.v (.int .i64 d),.arr .u64 25 b,.v (.int .i64 h),.v (.bool f)]))
 | _=>none
noncomputable def spec:Abs.Spec:=fun args K=>bn (l8 [.any,.sl (.ints .u8 [])] args) K
theorem ok0:Proved Tryz.prog GLO.gx 112 bn:=by
 refine bq (D:=D) (fn:=Tryz.f112) (c:=Tryz.f112.body.getD .skip) [.any] (by kernel_rfl) (bf (by kernel_rfl)) (by kernel_rfl) (by kernel_rfl) (by kernel_rfl) ⟨ab1.ok,ql.ok,aat.ok,trivial⟩ trivial ?_ ?_
 · rw[loops];exact ⟨asj,trivial⟩
 · intro args K r h
   unfold bn at h
   split at h
   · rw[P.auz] at h;exact Aa (by kernel_rfl) h
   · cases h
theorem ok:Proved Tryz.prog GLO.gx 112 spec:=dw _ ok0
end abo

namespace apg
noncomputable def D:Ctx:=({ P:=Tryz.prog,G:=[(149,ab1.spec)],globs:=GLO.gx,hints:=[],loops:=[],inl:=[] }:Ctx)
theorem loops:dn (Tryz.f110.body.getD .skip)=[]:=by kernel_rfl
noncomputable def bn:Abs.Spec:=fun args K=>match args with
 | [.v (.int .i64 e)]=>P.apg e (fun b a d c f=>K (.tuple [.agg [.v (.int .i64 b),.arr .u64 25 a,.v (.int .i64 d),.v (.bool c)],.v (.int .i64 f)]))
 | _=>none
noncomputable def spec:Abs.Spec:=bn
theorem ok0:Proved Tryz.prog GLO.gx 110 bn:=by
 refine bq (D:=D) (fn:=Tryz.f110) (c:=Tryz.f110.body.getD .skip) [.any,.any] (by kernel_rfl) (bf (by kernel_rfl)) (by kernel_rfl) (by kernel_rfl) (by kernel_rfl) ⟨ab1.ok,trivial⟩ trivial ?_ ?_
 · rw[loops];exact trivial
 · intro args K r h
   unfold bn at h
   split at h
   · rw[P.bby] at h;exact Aa (by kernel_rfl) h
   · cases h
theorem ok:Proved Tryz.prog GLO.gx 110 spec:=ok0
end apg

namespace aap
abbrev X12:=P.bze
def S12:X12→ASt:=fun (j,k,i,a,b,c,d,e,f,g,h)=>⟨[(8,.own 40),(1,.v (.int .i64 j)),(2,.ptr 0 0),(4,.ptr 1 0),(6,.v (.int .i64 k))],[(40,some ⟨.row 5 (.ints .u8 i),false⟩),(0,some ⟨.box 132 [.v (.int .i64 a),.arr .u64 25 b,.v (.int .i64 c),.v (.bool d)],false⟩),(1,some ⟨.box 132 [.v (.int .i64 e),.arr .u64 25 f,.v (.int .i64 g),.v (.bool h)],false⟩)],41,73⟩
def V12:ASt→Option X12
 | ⟨[(8,.own 40),(1,.v (.int .i64 j)),(2,.ptr 0 0),(4,.ptr 1 0),(6,.v (.int .i64 k))],[(40,some ⟨.row 5 (.ints .u8 i),false⟩),(0,some ⟨.box 132 [.v (.int .i64 a),.arr .u64 25 b,.v (.int .i64 c),.v (.bool d)],false⟩),(1,some ⟨.box 132 [.v (.int .i64 e),.arr .u64 25 f,.v (.int .i64 g),.v (.bool h)],false⟩)],41,73⟩=>some (j,k,i,a,b,c,d,e,f,g,h)
 | _=>none
theorem bhq(st)(x)(h:V12 st=some x):st=S12 x:=by
 unfold V12 at h
 split at h
 · cases h;rfl
 · cases h
abbrev Y12:=P.b8e
def E12(K:AExit→ASt→Option R):Y12→Option R:=(fun x=>K (.exit 0) (S12 x))
noncomputable def L12:tq:=fun st K=>ady (V12 st) fun x=>P.cbu x (E12 K)
noncomputable def D:Ctx:=({ P:=Tryz.prog,G:=[(149,ab1.spec),(150,ql.spec),(151,aat.spec)],globs:=GLO.gx,hints:=[(12,⟨[1,2,4,6],[(8,5,.ints .u8 [])],[4,5],[],some (40,[0,1]),[],[],[]⟩)],loops:=[(12,L12)],inl:=[] }:Ctx)
theorem bas(K)(next)(x):l5 D (fq Tryz.f111 12) K next (S12 x)=P.b03 x (fun x=>next (S12 x)) (E12 K):=by kernel_rfl
theorem bhf:jv D (fq Tryz.f111 12):=iy S12 bhq (by kernel_rfl) P.cej bas
theorem loops:dn (Tryz.f111.body.getD .skip)=[fq Tryz.f111 12]:=by kernel_rfl
noncomputable def bn:Abs.Spec:=fun args K=>match args with
 | [.agg [.v (.int .i64 c),.arr .u64 25 a,.v (.int .i64 g),.v (.bool e)],.v (.int .i64 i)]=>P.aap c a g e i (fun d b h f j=>K (.tuple [.agg [.v (.int .i64 d),.arr .u64 25 b,.v (.int .i64 h),.v (.bool f)],.fr 5 (.ints .u8 j)]))
 | _=>none
noncomputable def spec:Abs.Spec:=bn
theorem ok0:Proved Tryz.prog GLO.gx 111 bn:=by
 refine bq (D:=D) (fn:=Tryz.f111) (c:=Tryz.f111.body.getD .skip) [.any,.fr 5 (.ints .u8 [])] (by kernel_rfl) (bf (by kernel_rfl)) (by kernel_rfl) (by kernel_rfl) (by kernel_rfl) ⟨ab1.ok,ql.ok,aat.ok,trivial⟩ trivial ?_ ?_
 · rw[loops];exact ⟨bhf,trivial⟩
 · intro args K r h
   unfold bn at h
   split at h
   · rw[P.ara] at h;exact Aa (by kernel_rfl) h
   · cases h
theorem ok:Proved Tryz.prog GLO.gx 111 spec:=ok0
end aap

namespace akb
noncomputable def D:Ctx:=({ P:=Tryz.prog,G:=[(110,apg.spec),(111,aap.spec),(112,abo.spec)],globs:=GLO.gx,hints:=[],loops:=[],inl:=[] }:Ctx)
theorem loops:dn (Tryz.f61.body.getD .skip)=[]:=by kernel_rfl
noncomputable def bn:Abs.Spec:=fun args K=>match args with
 | [.v (.int .i64 a),.sl (.ints .u8 b),.v (.int .i64 c)]=>P.akb a b c (fun d e=>K (.tuple [.fr 5 (.ints .u8 d),.v (.int .i64 e)]))
 | _=>none
noncomputable def spec:Abs.Spec:=fun args K=>bn (l8 [.any,.sl (.ints .u8 []),.any] args) K
theorem ok0:Proved Tryz.prog GLO.gx 61 bn:=by
 refine bq (D:=D) (fn:=Tryz.f61) (c:=Tryz.f61.body.getD .skip) [.fr 5 (.ints .u8 []),.any] (by kernel_rfl) (bf (by kernel_rfl)) (by kernel_rfl) (by kernel_rfl) (by kernel_rfl) ⟨apg.ok,aap.ok,abo.ok,trivial⟩ trivial ?_ ?_
 · rw[loops];exact trivial
 · intro args K r h
   unfold bn at h
   split at h
   · rw[P.bdu] at h;exact Aa (by kernel_rfl) h
   · cases h
theorem ok:Proved Tryz.prog GLO.gx 61 spec:=dw _ ok0
end akb

end
