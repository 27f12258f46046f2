/-
  SlhVerifies, part 22: an interpreter of my own over abstract values, the pure functions, the walks and the plain law.
-/

import Derived.Test.YtciddcopcdmnbaaGreatDoorSlhVerifiesL
import Derived.Test.YtciddcopcdmnbaaGreatDoorSlhVerifiesH
import Derived.Test.YtciddcopcdmnbaaGreatDoorProg
import Derived.Test.YtciddcopcdmnbaaGreatDoorSlhVerifiesJ
import Derived.Test.YtciddcopcdmnbaaGreatDoorSlhVerifiesU
import Derived.KernelRfl
open Eq renaming trans → Aa

section
open Go Go.Abs Go.Proofs
set_option maxRecDepth 100000
set_option maxHeartbeats 0
set_option linter.unusedVariables false

namespace ae7
abbrev X11:=P.b1y
def S11:X11→ASt:=fun (g,h,i,f,a,b,c,d,j,e)=>⟨[(2,.v (.bool g)),(3,.ptr 0 0),(6,.ptr 1 0),(7,.v (.int .i64 h)),(8,.v (.int .u64 i)),(9,.ptr 2 0),(10,.ptr 3 0),(11,.own 4),(12,.ptr 5 0),(13,.v (.int .i64 f))],[(0,some ⟨.box 138 [.arr .u64 8 a],false⟩),(1,some ⟨.box 138 [.arr .u64 8 b],false⟩),(2,some ⟨.box 188 [.arr .u64 64 c],false⟩),(3,some ⟨.box 190 [.arr .u64 80 d],false⟩),(4,some ⟨.row 53 (.ints .u64 j),false⟩),(5,some ⟨.box 138 [.arr .u64 8 e],false⟩)],6,137⟩
def V11:ASt→Option X11
 | ⟨[(2,.v (.bool g)),(3,.ptr 0 0),(6,.ptr 1 0),(7,.v (.int .i64 h)),(8,.v (.int .u64 i)),(9,.ptr 2 0),(10,.ptr 3 0),(11,.own 4),(12,.ptr 5 0),(13,.v (.int .i64 f))],[(0,some ⟨.box 138 [.arr .u64 8 a],false⟩),(1,some ⟨.box 138 [.arr .u64 8 b],false⟩),(2,some ⟨.box 188 [.arr .u64 64 c],false⟩),(3,some ⟨.box 190 [.arr .u64 80 d],false⟩),(4,some ⟨.row 53 (.ints .u64 j),false⟩),(5,some ⟨.box 138 [.arr .u64 8 e],false⟩)],6,137⟩=>some (g,h,i,f,a,b,c,d,j,e)
 | _=>none
theorem brh(st)(x)(h:V11 st=some x):st=S11 x:=by
 unfold V11 at h
 split at h
 · cases h;rfl
 · cases h
abbrev Y11:=P.ccg
abbrev X25:=P.b47
def S25:X25→ASt:=fun (e,d,a,b,c)=>⟨[(3,.ptr 0 0),(6,.ptr 1 0),(8,.v (.int .u64 e)),(12,.ptr 5 0),(19,.v (.int .i64 d))],[(0,some ⟨.box 138 [.arr .u64 8 a],false⟩),(1,some ⟨.box 138 [.arr .u64 8 b],false⟩),(5,some ⟨.box 138 [.arr .u64 8 c],false⟩)],80,137⟩
def V25:ASt→Option X25
 | ⟨[(3,.ptr 0 0),(6,.ptr 1 0),(8,.v (.int .u64 e)),(12,.ptr 5 0),(19,.v (.int .i64 d))],[(0,some ⟨.box 138 [.arr .u64 8 a],false⟩),(1,some ⟨.box 138 [.arr .u64 8 b],false⟩),(5,some ⟨.box 138 [.arr .u64 8 c],false⟩)],80,137⟩=>some (e,d,a,b,c)
 | _=>none
theorem b1q(st)(x)(h:V25 st=some x):st=S25 x:=by
 unfold V25 at h
 split at h
 · cases h;rfl
 · cases h
abbrev Y25:=P.cay
def E11(K:AExit→ASt→Option R):Y11→Option R:=(fun x=>K (.exit 0) (S11 x))
noncomputable def L11:qy:=fun st K=>adb (V11 st) fun x=>P.b9r x (E11 K)
def E25(K:AExit→ASt→Option R):Y25→Option R:=(fun x=>K (.exit 2) (S25 x))
noncomputable def L25:qy:=fun st K=>adb (V25 st) fun x=>P.ccl x (E25 K)
noncomputable def D:Ctx:=({ P:=Tryz.prog,G:=[(174,aaq.spec),(175,aar.spec),(176,adt.spec),(177,aav.spec)],globs:=GLO.gx,hints:=[(25,⟨[3,6,8,12,19],[],[6],[],some (80,[0,1,5]),[],[],[]⟩),(11,⟨[2,3,6,7,8,9,10,11,12,13],[],[6],[],none,[],[],[]⟩)],loops:=[(11,L11),(25,L25)],inl:=[] }:Ctx)
theorem blp(K)(next)(x):kg D (gq Tryz.f153 11) K next (S11 x)=P.bzs x (fun x=>next (S11 x)) (E11 K):=by kernel_rfl
theorem br9:jr D (gq Tryz.f153 11):=iy S11 brh (by kernel_rfl) P.chg blp
theorem bzp(K)(next)(x):kg D (gq Tryz.f153 25) K next (S25 x)=P.bzw x (fun x=>next (S25 x)) (E25 K):=by kernel_rfl
theorem b1f:jr D (gq Tryz.f153 25):=iy S25 b1q (by kernel_rfl) P.cg0 bzp
theorem loops:dn (Tryz.f153.body.getD .skip)=[gq Tryz.f153 11,gq Tryz.f153 25]:=by kernel_rfl
noncomputable def bn:Abs.Spec:=fun args K=>match args with
 | [.arr .u64 8 a,.sl (.ints .u8 b),.v (.bool c)]=>P.ae7 a b c (fun d=>K (.arr .u64 8 d))
 | _=>none
noncomputable def spec:Abs.Spec:=fun args K=>bn (mh [.any,.sl (.ints .u8 []),.any] args) K
theorem ok0:Proved Tryz.prog GLO.gx 153 bn:=by
 refine bq (D:=D) (fn:=Tryz.f153) (c:=Tryz.f153.body.getD .skip) [.any] (by kernel_rfl) (bg (by kernel_rfl)) (by kernel_rfl) (by kernel_rfl) (by kernel_rfl) ⟨aaq.ok,aar.ok,adt.ok,aav.ok,trivial⟩ trivial ?_ ?_
 · rw[loops];exact ⟨br9,b1f,trivial⟩
 · intro args K r h
   unfold bn at h
   split at h
   · rw[P.aql] at h;exact Aa (by kernel_rfl) h
   · cases h
theorem ok:Proved Tryz.prog GLO.gx 153 spec:=dx _ ok0
end ae7

namespace ady
abbrev X4:=P.b0u
def S4:X4→ASt:=fun (h,i,a,b,c,d,e,f,g)=>⟨[(2,.ptr 0 0),(4,.ptr 1 0),(5,.v (.int .i64 h)),(6,.sl (.ints .u8 i))],[(0,some ⟨.box 140 [.v (.int .i64 a),.arr .u64 8 b,.sl (.ints .u8 c),.v (.int .u64 d)],false⟩),(1,some ⟨.box 140 [.v (.int .i64 e),.arr .u64 8 f,.v (.slice none 0 0),.v (.int .u64 g)],false⟩)],40,41⟩
def V4:ASt→Option X4
 | ⟨[(2,.ptr 0 0),(4,.ptr 1 0),(5,.v (.int .i64 h)),(6,.sl (.ints .u8 i))],[(0,some ⟨.box 140 [.v (.int .i64 a),.arr .u64 8 b,.sl (.ints .u8 c),.v (.int .u64 d)],false⟩),(1,some ⟨.box 140 [.v (.int .i64 e),.arr .u64 8 f,.v (.slice none 0 0),.v (.int .u64 g)],false⟩)],40,41⟩=>some (h,i,a,b,c,d,e,f,g)
 | _=>none
theorem auk(st)(x)(h:V4 st=some x):st=S4 x:=by
 unfold V4 at h
 split at h
 · cases h;rfl
 · cases h
abbrev Y4:=P.cdx
def E4(K:AExit→ASt→Option R):Y4→Option R:=(fun x=>K (.exit 0) (S4 x))
noncomputable def L4:qy:=fun st K=>adb (V4 st) fun x=>P.cem x (E4 K)
noncomputable def D:Ctx:=({ P:=Tryz.prog,G:=[(43,ji.spec),(152,aa2.spec),(153,ae7.spec)],globs:=GLO.gx,hints:=[(4,⟨[2,4,5,6],[],[4],[(6,.sl (.ints .u8 []))],some (40,[0,1]),[],[],[]⟩)],loops:=[(4,L4)],inl:=[] }:Ctx)
theorem aj1(K)(next)(x):kg D (gq Tryz.f115 4) K next (S4 x)=P.bz3 x (fun x=>next (S4 x)) (E4 K):=by kernel_rfl
theorem auy:jr D (gq Tryz.f115 4):=iy S4 auk (by kernel_rfl) P.chz aj1
theorem loops:dn (Tryz.f115.body.getD .skip)=[gq Tryz.f115 4]:=by kernel_rfl
noncomputable def bn:Abs.Spec:=fun args K=>match args with
 | [.agg [.v (.int .i64 c),.arr .u64 8 a,.sl (.ints .u8 d),.v (.int .u64 e)],.sl (.ints .u8 i)]=>P.ady c a d e i (fun f b g h=>K (.agg [.v (.int .i64 f),.arr .u64 8 b,.sl (.ints .u8 g),.v (.int .u64 h)]))
 | _=>none
noncomputable def spec:Abs.Spec:=fun args K=>bn (mh [.agg [.any,.any,.sl (.ints .u8 []),.any],.sl (.ints .u8 [])] args) K
theorem ok0:Proved Tryz.prog GLO.gx 115 bn:=by
 refine bq (D:=D) (fn:=Tryz.f115) (c:=Tryz.f115.body.getD .skip) [.agg [.any,.any,.sl (.ints .u8 []),.any]] (by kernel_rfl) (bg (by kernel_rfl)) (by kernel_rfl) (by kernel_rfl) (by kernel_rfl) ⟨ji.ok,aa2.ok,ae7.ok,trivial⟩ trivial ?_ ?_
 · rw[loops];exact ⟨auy,trivial⟩
 · intro args K r h
   unfold bn at h
   split at h
   · rw[P.bfh] at h;exact Aa (by kernel_rfl) h
   · cases h
theorem ok:Proved Tryz.prog GLO.gx 115 spec:=dx _ ok0
end ady

namespace ak6
abbrev X4:=P.b2l
def S4:X4→ASt:=fun (f,g,e,a,b,c,d)=>⟨[(5,.own 40),(1,.ptr 0 0),(3,.v (.int .i64 f)),(4,.v (.int .u64 g))],[(40,some ⟨.row 5 (.ints .u8 e),false⟩),(0,some ⟨.box 140 [.v (.int .i64 a),.arr .u64 8 b,.sl (.ints .u8 c),.v (.int .u64 d)],false⟩)],41,77⟩
def V4:ASt→Option X4
 | ⟨[(5,.own 40),(1,.ptr 0 0),(3,.v (.int .i64 f)),(4,.v (.int .u64 g))],[(40,some ⟨.row 5 (.ints .u8 e),false⟩),(0,some ⟨.box 140 [.v (.int .i64 a),.arr .u64 8 b,.sl (.ints .u8 c),.v (.int .u64 d)],false⟩)],41,77⟩=>some (f,g,e,a,b,c,d)
 | _=>none
theorem auk(st)(x)(h:V4 st=some x):st=S4 x:=by
 unfold V4 at h
 split at h
 · cases h;rfl
 · cases h
abbrev Y4:=P.cfv
abbrev X8:=P.b5m
def S8:X8→ASt:=fun (f,g,e,a,b,c,d)=>⟨[(5,.own 80),(1,.ptr 0 0),(3,.v (.int .i64 f)),(4,.v (.int .u64 g))],[(80,some ⟨.row 5 (.ints .u8 e),false⟩),(0,some ⟨.box 140 [.v (.int .i64 a),.arr .u64 8 b,.sl (.ints .u8 c),.v (.int .u64 d)],false⟩)],81,77⟩
def V8:ASt→Option X8
 | ⟨[(5,.own 80),(1,.ptr 0 0),(3,.v (.int .i64 f)),(4,.v (.int .u64 g))],[(80,some ⟨.row 5 (.ints .u8 e),false⟩),(0,some ⟨.box 140 [.v (.int .i64 a),.arr .u64 8 b,.sl (.ints .u8 c),.v (.int .u64 d)],false⟩)],81,77⟩=>some (f,g,e,a,b,c,d)
 | _=>none
theorem bh3(st)(x)(h:V8 st=some x):st=S8 x:=by
 unfold V8 at h
 split at h
 · cases h;rfl
 · cases h
abbrev Y8:=P.ccu
abbrev X14:=P.b2m
def S14:X14→ASt:=fun (f,g,a,b,c,d,e)=>⟨[(6,.own 120),(1,.ptr 0 0),(3,.v (.int .i64 f)),(7,.v (.int .i64 g))],[(120,some ⟨.row 5 (.ints .u8 a),false⟩),(0,some ⟨.box 140 [.v (.int .i64 b),.arr .u64 8 c,.sl (.ints .u8 d),.v (.int .u64 e)],false⟩)],121,77⟩
def V14:ASt→Option X14
 | ⟨[(6,.own 120),(1,.ptr 0 0),(3,.v (.int .i64 f)),(7,.v (.int .i64 g))],[(120,some ⟨.row 5 (.ints .u8 a),false⟩),(0,some ⟨.box 140 [.v (.int .i64 b),.arr .u64 8 c,.sl (.ints .u8 d),.v (.int .u64 e)],false⟩)],121,77⟩=>some (f,g,a,b,c,d,e)
 | _=>none
theorem b5w(st)(x)(h:V14 st=some x):st=S14 x:=by
 unfold V14 at h
 split at h
 · cases h;rfl
 · cases h
abbrev Y14:=P.ca4
def E4(K:AExit→ASt→Option R):Y4→Option R:=(fun x=>K (.exit 0) (S4 x))
noncomputable def L4:qy:=fun st K=>adb (V4 st) fun x=>P.cgg x (E4 K)
def E8(K:AExit→ASt→Option R):Y8→Option R:=(fun x=>K (.exit 2) (S8 x))
noncomputable def L8:qy:=fun st K=>adb (V8 st) fun x=>P.cc7 x (E8 K)
def E14(K:AExit→ASt→Option R):Y14→Option R:=(fun x=>K (.exit 4) (S14 x))
noncomputable def L14:qy:=fun st K=>adb (V14 st) fun x=>P.ce1 x (E14 K)
noncomputable def D:Ctx:=({ P:=Tryz.prog,G:=[(81,wz.spec),(115,ady.spec),(152,aa2.spec)],globs:=GLO.gx,hints:=[(14,⟨[1,3,7],[(6,5,.ints .u8 [])],[2],[],some (120,[0]),[0],[],[]⟩),(8,⟨[1,3,4],[(5,5,.ints .u8 [])],[2],[],some (80,[0]),[0],[],[]⟩),(4,⟨[1,3,4],[(5,5,.ints .u8 [])],[2],[],some (40,[0]),[0],[],[]⟩)],loops:=[(4,L4),(8,L8),(14,L14)],inl:=[] }:Ctx)
theorem aj1(K)(next)(x):kg D (gq Tryz.f114 4) K next (S4 x)=P.b2p x (fun x=>next (S4 x)) (E4 K):=by kernel_rfl
theorem auy:jr D (gq Tryz.f114 4):=iy S4 auk (by kernel_rfl) P.cio aj1
theorem avf(K)(next)(x):kg D (gq Tryz.f114 8) K next (S8 x)=P.b1g x (fun x=>next (S8 x)) (E8 K):=by kernel_rfl
theorem bh6:jr D (gq Tryz.f114 8):=iy S8 bh3 (by kernel_rfl) P.cg3 avf
theorem bxd(K)(next)(x):kg D (gq Tryz.f114 14) K next (S14 x)=P.b5u x (fun x=>next (S14 x)) (E14 K):=by kernel_rfl
theorem b0j:jr D (gq Tryz.f114 14):=iy S14 b5w (by kernel_rfl) P.cie bxd
theorem loops:dn (Tryz.f114.body.getD .skip)=[gq Tryz.f114 4,gq Tryz.f114 8,gq Tryz.f114 14]:=by kernel_rfl
noncomputable def bn:Abs.Spec:=fun args K=>match args with
 | [.agg [.v (.int .i64 b),.arr .u64 8 a,.sl (.ints .u8 c),.v (.int .u64 d)]]=>P.ak6 b a c d (fun e=>K (.fr 5 (.ints .u8 e)))
 | _=>none
noncomputable def spec:Abs.Spec:=fun args K=>bn (mh [.agg [.any,.any,.sl (.ints .u8 []),.any]] args) K
theorem ok0:Proved Tryz.prog GLO.gx 114 bn:=by
 refine axk (D:=D) (fn:=Tryz.f114) (c:=Tryz.f114.body.getD .skip) 5 (.ints .u8 []) (by kernel_rfl) (bg (by kernel_rfl)) (by kernel_rfl) (by kernel_rfl) (by kernel_rfl) ⟨wz.ok,ady.ok,aa2.ok,trivial⟩ trivial ?_ ?_
 · rw[loops];exact ⟨auy,bh6,b0j,trivial⟩
 · intro args K r h
   unfold bn at h
   split at h
   · rw[P.bfc] at h;exact Aa (by kernel_rfl) h
   · cases h
theorem ok:Proved Tryz.prog GLO.gx 114 spec:=dx _ ok0
end ak6

namespace ak3
noncomputable def D:Ctx:=({ P:=Tryz.prog,G:=[],globs:=GLO.gx,hints:=[],loops:=[],inl:=[] }:Ctx)
theorem loops:dn (Tryz.f113.body.getD .skip)=[]:=by kernel_rfl
noncomputable def bn:Abs.Spec:=fun args K=>match args with
 | [.v (.int .i64 e)]=>P.ak3 e (fun b a c d f=>K (.tuple [.agg [.v (.int .i64 b),.arr .u64 8 a,.fr 5 (.ints .u8 c),.v (.int .u64 d)],.v (.int .i64 f)]))
 | _=>none
noncomputable def spec:Abs.Spec:=bn
theorem ok0:Proved Tryz.prog GLO.gx 113 bn:=by
 refine bq (D:=D) (fn:=Tryz.f113) (c:=Tryz.f113.body.getD .skip) [.agg [.any,.any,.fr 5 (.ints .u8 []),.any],.any] (by kernel_rfl) (bg (by kernel_rfl)) (by kernel_rfl) (by kernel_rfl) (by kernel_rfl) trivial trivial ?_ ?_
 · rw[loops];exact trivial
 · intro args K r h
   unfold bn at h
   split at h
   · rw[P.bek] at h;exact Aa (by kernel_rfl) h
   · cases h
theorem ok:Proved Tryz.prog GLO.gx 113 spec:=ok0
end ak3

namespace abg
noncomputable def D:Ctx:=({ P:=Tryz.prog,G:=[(113,ak3.spec),(114,ak6.spec),(115,ady.spec)],globs:=GLO.gx,hints:=[],loops:=[],inl:=[] }:Ctx)
theorem loops:dn (Tryz.f62.body.getD .skip)=[]:=by kernel_rfl
noncomputable def bn:Abs.Spec:=fun args K=>match args with
 | [.v (.int .i64 a),.sl (.ints .u8 b)]=>P.abg a b (fun c d=>K (.tuple [.fr 5 (.ints .u8 c),.v (.int .i64 d)]))
 | _=>none
noncomputable def spec:Abs.Spec:=fun args K=>bn (mh [.any,.sl (.ints .u8 [])] args) K
theorem ok0:Proved Tryz.prog GLO.gx 62 bn:=by
 refine bq (D:=D) (fn:=Tryz.f62) (c:=Tryz.f62.body.getD .skip) [.fr 5 (.ints .u8 []),.any] (by kernel_rfl) (bg (by kernel_rfl)) (by kernel_rfl) (by kernel_rfl) (by kernel_rfl) ⟨ak3.ok,ak6.ok,ady.ok,trivial⟩ trivial ?_ ?_
 · rw[loops];exact trivial
 · intro args K r h
   unfold bn at h
   split at h
   · rw[P.bf8] at h;exact Aa (by kernel_rfl) h
   · cases h
theorem ok:Proved Tryz.prog GLO.gx 62 spec:=dx _ ok0
end abg

namespace aap
abbrev X4:=P.b3u
def S4:X4→ASt:=fun (c,d,a,b)=>⟨[(0,.ptr 0 0),(1,.ptr 1 0),(2,.v (.int .u64 c)),(3,.v (.int .i64 d))],[(0,some ⟨.box 186 [.arr .u64 24 a],false⟩),(1,some ⟨.box 186 [.arr .u64 24 b],false⟩)],2,32⟩
def V4:ASt→Option X4
 | ⟨[(0,.ptr 0 0),(1,.ptr 1 0),(2,.v (.int .u64 c)),(3,.v (.int .i64 d))],[(0,some ⟨.box 186 [.arr .u64 24 a],false⟩),(1,some ⟨.box 186 [.arr .u64 24 b],false⟩)],2,32⟩=>some (c,d,a,b)
 | _=>none
theorem auk(st)(x)(h:V4 st=some x):st=S4 x:=by
 unfold V4 at h
 split at h
 · cases h;rfl
 · cases h
abbrev Y4:=P.cey
def E4(K:AExit→ASt→Option R):Y4→Option R:=(fun x=>K (.exit 0) (S4 x))
noncomputable def L4:qy:=fun st K=>adb (V4 st) fun x=>P.b92 x (E4 K)
noncomputable def D:Ctx:=({ P:=Tryz.prog,G:=[],globs:=GLO.gx,hints:=[(4,⟨[0,1,2,3],[],[0],[],none,[],[],[]⟩)],loops:=[(4,L4)],inl:=[] }:Ctx)
theorem aj1(K)(next)(x):kg D (gq Tryz.f171 4) K next (S4 x)=P.bzz x (fun x=>next (S4 x)) (E4 K):=by kernel_rfl
theorem auy:jr D (gq Tryz.f171 4):=iy S4 auk (by kernel_rfl) P.cgj aj1
theorem loops:dn (Tryz.f171.body.getD .skip)=[gq Tryz.f171 4]:=by kernel_rfl
noncomputable def bn:Abs.Spec:=fun args K=>match args with
 | []=>P.aap (fun a=>K (.arr .u64 24 a))
 | _=>none
noncomputable def spec:Abs.Spec:=bn
theorem ok0:Proved Tryz.prog GLO.gx 171 bn:=by
 refine bq (D:=D) (fn:=Tryz.f171) (c:=Tryz.f171.body.getD .skip) [.any] (by kernel_rfl) (bg (by kernel_rfl)) (by kernel_rfl) (by kernel_rfl) (by kernel_rfl) trivial trivial ?_ ?_
 · rw[loops];exact ⟨auy,trivial⟩
 · intro args K r h
   unfold bn at h
   split at h
   · rw[P.apc] at h;exact Aa (by kernel_rfl) h
   · cases h
theorem ok:Proved Tryz.prog GLO.gx 171 spec:=ok0
end aap

namespace afv
noncomputable def D:Ctx:=({ P:=Tryz.prog,G:=[],globs:=GLO.gx,hints:=[],loops:=[],inl:=[] }:Ctx)
theorem loops:dn (Tryz.f190.body.getD .skip)=[]:=by kernel_rfl
noncomputable def bn:Abs.Spec:=fun args K=>match args with
 | [.v (.int .u64 a),.v (.int .i64 b)]=>P.afv a b (fun c=>K (.v (.int .u64 c)))
 | _=>none
noncomputable def spec:Abs.Spec:=bn
theorem ok0:Proved Tryz.prog GLO.gx 190 bn:=by
 refine bq (D:=D) (fn:=Tryz.f190) (c:=Tryz.f190.body.getD .skip) [.any] (by kernel_rfl) (bg (by kernel_rfl)) (by kernel_rfl) (by kernel_rfl) (by kernel_rfl) trivial trivial ?_ ?_
 · rw[loops];exact trivial
 · intro args K r h
   unfold bn at h
   split at h
   · rw[P.afh] at h;exact Aa (by kernel_rfl) h
   · cases h
theorem ok:Proved Tryz.prog GLO.gx 190 spec:=ok0
end afv

namespace ajs
abbrev X6:=P.b1d
def S6:X6→ASt:=fun (d,e,f,a,b,c)=>⟨[(1,.ptr 0 0),(2,.ptr 1 0),(3,.ptr 2 0),(4,.v (.int .i64 d)),(5,.v (.int .i64 e)),(6,.v (.int .i64 f))],[(0,some ⟨.box 130 [.arr .u64 25 a],false⟩),(1,some ⟨.box 130 [.arr .u64 25 b],false⟩),(2,some ⟨.box 130 [.arr .u64 25 c],false⟩)],3,44⟩
def V6:ASt→Option X6
 | ⟨[(1,.ptr 0 0),(2,.ptr 1 0),(3,.ptr 2 0),(4,.v (.int .i64 d)),(5,.v (.int .i64 e)),(6,.v (.int .i64 f))],[(0,some ⟨.box 130 [.arr .u64 25 a],false⟩),(1,some ⟨.box 130 [.arr .u64 25 b],false⟩),(2,some ⟨.box 130 [.arr .u64 25 c],false⟩)],3,44⟩=>some (d,e,f,a,b,c)
 | _=>none
theorem aua(st)(x)(h:V6 st=some x):st=S6 x:=by
 unfold V6 at h
 split at h
 · cases h;rfl
 · cases h
abbrev Y6:=P.ceo
def E6(K:AExit→ASt→Option R):Y6→Option R:=(fun x=>K (.exit 0) (S6 x))
noncomputable def L6:qy:=fun st K=>adb (V6 st) fun x=>P.cb2 x (E6 K)
noncomputable def D:Ctx:=({ P:=Tryz.prog,G:=[(190,afv.spec)],globs:=GLO.gx,hints:=[(6,⟨[1,2,3,4,5,6],[],[2],[],none,[],[],[]⟩)],loops:=[(6,L6)],inl:=[] }:Ctx)
theorem akj(K)(next)(x):kg D (gq Tryz.f172 6) K next (S6 x)=P.bz8 x (fun x=>next (S6 x)) (E6 K):=by kernel_rfl
theorem au4:jr D (gq Tryz.f172 6):=iy S6 aua (by kernel_rfl) P.cij akj
theorem loops:dn (Tryz.f172.body.getD .skip)=[gq Tryz.f172 6]:=by kernel_rfl
noncomputable def bn:Abs.Spec:=fun args K=>match args with
 | [.arr .u64 25 a]=>P.ajs a (fun b=>K (.arr .u64 25 b))
 | _=>none
noncomputable def spec:Abs.Spec:=bn
theorem ok0:Proved Tryz.prog GLO.gx 172 bn:=by
 refine bq (D:=D) (fn:=Tryz.f172) (c:=Tryz.f172.body.getD .skip) [.any] (by kernel_rfl) (bg (by kernel_rfl)) (by kernel_rfl) (by kernel_rfl) (by kernel_rfl) ⟨afv.ok,trivial⟩ trivial ?_ ?_
 · rw[loops];exact ⟨au4,trivial⟩
 · intro args K r h
   unfold bn at h
   split at h
   · rw[P.bdn] at h;exact Aa (by kernel_rfl) h
   · cases h
theorem ok:Proved Tryz.prog GLO.gx 172 spec:=ok0
end ajs

namespace aer
abbrev X3:=P.b3q
def S3:X3→ASt:=fun (d,a,b,c)=>⟨[(1,.ptr 0 0),(2,.ptr 1 0),(3,.ptr 2 0),(4,.v (.int .i64 d))],[(0,some ⟨.box 130 [.arr .u64 25 a],false⟩),(1,some ⟨.box 130 [.arr .u64 25 b],false⟩),(2,some ⟨.box 215 [.arr .u64 5 c],false⟩)],3,44⟩
def V3:ASt→Option X3
 | ⟨[(1,.ptr 0 0),(2,.ptr 1 0),(3,.ptr 2 0),(4,.v (.int .i64 d))],[(0,some ⟨.box 130 [.arr .u64 25 a],false⟩),(1,some ⟨.box 130 [.arr .u64 25 b],false⟩),(2,some ⟨.box 215 [.arr .u64 5 c],false⟩)],3,44⟩=>some (d,a,b,c)
 | _=>none
theorem aq0(st)(x)(h:V3 st=some x):st=S3 x:=by
 unfold V3 at h
 split at h
 · cases h;rfl
 · cases h
abbrev Y3:=P.cbf
abbrev X7:=P.b1a
def S7:X7→ASt:=fun (d,a,b,c)=>⟨[(1,.ptr 0 0),(2,.ptr 1 0),(3,.ptr 2 0),(5,.v (.int .i64 d))],[(2,some ⟨.box 215 [.arr .u64 5 a],false⟩),(1,some ⟨.box 130 [.arr .u64 25 b],false⟩),(0,some ⟨.box 130 [.arr .u64 25 c],false⟩)],3,44⟩
def V7:ASt→Option X7
 | ⟨[(1,.ptr 0 0),(2,.ptr 1 0),(3,.ptr 2 0),(5,.v (.int .i64 d))],[(2,some ⟨.box 215 [.arr .u64 5 a],false⟩),(1,some ⟨.box 130 [.arr .u64 25 b],false⟩),(0,some ⟨.box 130 [.arr .u64 25 c],false⟩)],3,44⟩=>some (d,a,b,c)
 | _=>none
theorem bcq(st)(x)(h:V7 st=some x):st=S7 x:=by
 unfold V7 at h
 split at h
 · cases h;rfl
 · cases h
abbrev Y7:=P.b9o
def E3(K:AExit→ASt→Option R):Y3→Option R:=(fun x=>K (.exit 0) (S3 x))
noncomputable def L3:qy:=fun st K=>adb (V3 st) fun x=>P.cda x (E3 K)
def E7(K:AExit→ASt→Option R):Y7→Option R:=(fun x=>K (.exit 2) (S7 x))
noncomputable def L7:qy:=fun st K=>adb (V7 st) fun x=>P.cdh x (E7 K)
noncomputable def D:Ctx:=({ P:=Tryz.prog,G:=[(190,afv.spec)],globs:=GLO.gx,hints:=[(7,⟨[1,2,3,5],[],[2],[],none,[],[],[]⟩),(3,⟨[1,2,3,4],[],[2],[],none,[],[],[]⟩)],loops:=[(3,L3),(7,L7)],inl:=[] }:Ctx)
theorem air(K)(next)(x):kg D (gq Tryz.f173 3) K next (S3 x)=P.bz4 x (fun x=>next (S3 x)) (E3 K):=by kernel_rfl
theorem arv:jr D (gq Tryz.f173 3):=iy S3 aq0 (by kernel_rfl) P.cia air
theorem ars(K)(next)(x):kg D (gq Tryz.f173 7) K next (S7 x)=P.bz2 x (fun x=>next (S7 x)) (E7 K):=by kernel_rfl
theorem bbt:jr D (gq Tryz.f173 7):=iy S7 bcq (by kernel_rfl) P.cip ars
theorem loops:dn (Tryz.f173.body.getD .skip)=[gq Tryz.f173 3,gq Tryz.f173 7]:=by kernel_rfl
noncomputable def bn:Abs.Spec:=fun args K=>match args with
 | [.arr .u64 25 a]=>P.aer a (fun b=>K (.arr .u64 25 b))
 | _=>none
noncomputable def spec:Abs.Spec:=bn
theorem ok0:Proved Tryz.prog GLO.gx 173 bn:=by
 refine bq (D:=D) (fn:=Tryz.f173) (c:=Tryz.f173.body.getD .skip) [.any] (by kernel_rfl) (bg (by kernel_rfl)) (by kernel_rfl) (by kernel_rfl) (by kernel_rfl) ⟨afv.ok,trivial⟩ trivial ?_ ?_
 · rw[loops];exact ⟨arv,bbt,trivial⟩
 · intro args K r h
   unfold bn at h
   split at h
   · rw[P.av7] at h;exact Aa (by kernel_rfl) h
   · cases h
theorem ok:Proved Tryz.prog GLO.gx 173 spec:=ok0
end aer

namespace qw
abbrev X7:=P.b5j
def S7:X7→ASt:=fun (e,f,a,b,c,d)=>⟨[(1,.ptr 0 0),(2,.ptr 1 0),(3,.ptr 2 0),(4,.v (.int .i64 e)),(5,.ptr 3 0),(6,.v (.int .i64 f))],[(2,some ⟨.box 186 [.arr .u64 24 a],false⟩),(1,some ⟨.box 130 [.arr .u64 25 b],false⟩),(0,some ⟨.box 130 [.arr .u64 25 c],false⟩),(3,some ⟨.box 130 [.arr .u64 25 d],false⟩)],4,53⟩
def V7:ASt→Option X7
 | ⟨[(1,.ptr 0 0),(2,.ptr 1 0),(3,.ptr 2 0),(4,.v (.int .i64 e)),(5,.ptr 3 0),(6,.v (.int .i64 f))],[(2,some ⟨.box 186 [.arr .u64 24 a],false⟩),(1,some ⟨.box 130 [.arr .u64 25 b],false⟩),(0,some ⟨.box 130 [.arr .u64 25 c],false⟩),(3,some ⟨.box 130 [.arr .u64 25 d],false⟩)],4,53⟩=>some (e,f,a,b,c,d)
 | _=>none
theorem bcq(st)(x)(h:V7 st=some x):st=S7 x:=by
 unfold V7 at h
 split at h
 · cases h;rfl
 · cases h
abbrev Y7:=P.b8l
abbrev X3:=P.b58
def S3:X3→ASt:=fun (d,a,b,c)=>⟨[(1,.ptr 0 0),(2,.ptr 1 0),(3,.ptr 2 0),(4,.v (.int .i64 d))],[(0,some ⟨.box 130 [.arr .u64 25 a],false⟩),(1,some ⟨.box 130 [.arr .u64 25 b],false⟩),(2,some ⟨.box 186 [.arr .u64 24 c],false⟩)],3,53⟩
def V3:ASt→Option X3
 | ⟨[(1,.ptr 0 0),(2,.ptr 1 0),(3,.ptr 2 0),(4,.v (.int .i64 d))],[(0,some ⟨.box 130 [.arr .u64 25 a],false⟩),(1,some ⟨.box 130 [.arr .u64 25 b],false⟩),(2,some ⟨.box 186 [.arr .u64 24 c],false⟩)],3,53⟩=>some (d,a,b,c)
 | _=>none
theorem aq0(st)(x)(h:V3 st=some x):st=S3 x:=by
 unfold V3 at h
 split at h
 · cases h;rfl
 · cases h
abbrev Y3:=P.b9u
def E7(K:AExit→ASt→Option R):Y7→Option R:=(fun x=>K (.exit 2) (S7 x))
noncomputable def L7:qy:=fun st K=>adb (V7 st) fun x=>P.b8r x (E7 K)
def E3(K:AExit→ASt→Option R):Y3→Option R:=(fun x=>K (.exit 0) (S3 x))
noncomputable def L3:qy:=fun st K=>adb (V3 st) fun x=>P.b9s x (E3 K)
noncomputable def D:Ctx:=({ P:=Tryz.prog,G:=[(171,aap.spec),(172,ajs.spec),(173,aer.spec)],globs:=GLO.gx,hints:=[(7,⟨[1,2,3,4,5,6],[],[2],[],none,[],[],[]⟩),(3,⟨[1,2,3,4],[],[2],[],none,[],[],[]⟩)],loops:=[(7,L7),(3,L3)],inl:=[] }:Ctx)
theorem ars(K)(next)(x):kg D (gq Tryz.f150 7) K next (S7 x)=P.b2x x (fun x=>next (S7 x)) (E7 K):=by kernel_rfl
theorem bbt:jr D (gq Tryz.f150 7):=iy S7 bcq (by kernel_rfl) P.ch7 ars
theorem air(K)(next)(x):kg D (gq Tryz.f150 3) K next (S3 x)=P.b0a x (fun x=>next (S3 x)) (E3 K):=by kernel_rfl
theorem arv:jr D (gq Tryz.f150 3):=iy S3 aq0 (by kernel_rfl) P.cg1 air
theorem loops:dn (Tryz.f150.body.getD .skip)=[gq Tryz.f150 3,gq Tryz.f150 7]:=by kernel_rfl
noncomputable def bn:Abs.Spec:=fun args K=>match args with
 | [.arr .u64 25 a]=>P.qw a (fun b=>K (.arr .u64 25 b))
 | _=>none
noncomputable def spec:Abs.Spec:=bn
theorem ok0:Proved Tryz.prog GLO.gx 150 bn:=by
 refine bq (D:=D) (fn:=Tryz.f150) (c:=Tryz.f150.body.getD .skip) [.any] (by kernel_rfl) (bg (by kernel_rfl)) (by kernel_rfl) (by kernel_rfl) (by kernel_rfl) ⟨aap.ok,ajs.ok,aer.ok,trivial⟩ trivial ?_ ?_
 · rw[loops];exact ⟨arv,bbt,trivial⟩
 · intro args K r h
   unfold bn at h
   split at h
   · rw[P.atf] at h;exact Aa (by kernel_rfl) h
   · cases h
theorem ok:Proved Tryz.prog GLO.gx 150 spec:=ok0
end qw

namespace ach
noncomputable def D:Ctx:=({ P:=Tryz.prog,G:=[],globs:=GLO.gx,hints:=[],loops:=[],inl:=[] }:Ctx)
theorem loops:dn (Tryz.f149.body.getD .skip)=[]:=by kernel_rfl
noncomputable def bn:Abs.Spec:=fun args K=>match args with
 | [.v (.int .i64 a)]=>P.ach a (fun b=>K (.v (.int .i64 b)))
 | _=>none
noncomputable def spec:Abs.Spec:=bn
theorem ok0:Proved Tryz.prog GLO.gx 149 bn:=by
 refine bq (D:=D) (fn:=Tryz.f149) (c:=Tryz.f149.body.getD .skip) [.any] (by kernel_rfl) (bg (by kernel_rfl)) (by kernel_rfl) (by kernel_rfl) (by kernel_rfl) trivial trivial ?_ ?_
 · rw[loops];exact trivial
 · intro args K r h
   unfold bn at h
   split at h
   · rw[P.baw] at h;exact Aa (by kernel_rfl) h
   · cases h
theorem ok:Proved Tryz.prog GLO.gx 149 spec:=ok0
end ach

namespace aa0
noncomputable def D:Ctx:=({ P:=Tryz.prog,G:=[],globs:=GLO.gx,hints:=[],loops:=[],inl:=[] }:Ctx)
theorem loops:dn (Tryz.f151.body.getD .skip)=[]:=by kernel_rfl
noncomputable def bn:Abs.Spec:=fun args K=>match args with
 | [.arr .u64 25 a,.v (.int .i64 b),.v (.int .u8 c)]=>P.aa0 a b c (fun d=>K (.arr .u64 25 d))
 | _=>none
noncomputable def spec:Abs.Spec:=bn
theorem ok0:Proved Tryz.prog GLO.gx 151 bn:=by
 refine bq (D:=D) (fn:=Tryz.f151) (c:=Tryz.f151.body.getD .skip) [.any] (by kernel_rfl) (bg (by kernel_rfl)) (by kernel_rfl) (by kernel_rfl) (by kernel_rfl) trivial trivial ?_ ?_
 · rw[loops];exact trivial
 · intro args K r h
   unfold bn at h
   split at h
   · rw[P.be9] at h;exact Aa (by kernel_rfl) h
   · cases h
theorem ok:Proved Tryz.prog GLO.gx 151 spec:=ok0
end aa0

end
