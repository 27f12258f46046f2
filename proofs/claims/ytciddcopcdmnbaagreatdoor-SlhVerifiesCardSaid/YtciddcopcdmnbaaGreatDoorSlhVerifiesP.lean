/-
  SlhVerifies, part 16: an interpreter of my own over abstract values, the pure functions, the walks and the plain law.
-/

import Derived.Test.YtciddcopcdmnbaaGreatDoorSlhVerifiesK
import Derived.Test.YtciddcopcdmnbaaGreatDoorSlhVerifiesH
import Derived.Test.YtciddcopcdmnbaaGreatDoorProg
import Derived.Test.YtciddcopcdmnbaaGreatDoorSlhVerifiesJ
import Derived.Test.YtciddcopcdmnbaaGreatDoorSlhVerifiesO
import Derived.Test.YtciddcopcdmnbaaGreatDoorSlhVerifiesN
import Derived.KernelRfl
import Derived.Test.YtciddcopcdmnbaaGreatDoorSlhVerifiesI
open Eq renaming trans → Aa

section
open Go Go.Abs Go.Proofs
set_option maxRecDepth 100000
set_option maxHeartbeats 0
set_option linter.unusedVariables false

namespace sj
abbrev X3:=P.b5q
def S3:X3→ASt:=fun (l,j,k,a,b,c,d,e,f,g,h,i)=>⟨[(2,.sl (.ints .u8 l)),(3,.ptr 0 0),(4,.ptr 1 0),(6,.ptr 2 0),(8,.ptr 3 0),(14,.arr .u64 8 j),(15,.v (.int .i64 k))],[(0,some ⟨.box 211 [.v (.int .i64 a),.v (.int .i64 b),.arr .i64 3 c,.arr .i64 3 d,.arr .i64 3 e,.arr .i64 3 f,.fn (.func 197) [] []],false⟩),(1,some ⟨.box 138 [.arr .u64 8 g],false⟩),(2,some ⟨.box 138 [.arr .u64 8 h],false⟩),(3,some ⟨.box 138 [.arr .u64 8 i],false⟩)],4,50⟩
def V3:ASt→Option X3
 | ⟨[(2,.sl (.ints .u8 l)),(3,.ptr 0 0),(4,.ptr 1 0),(6,.ptr 2 0),(8,.ptr 3 0),(14,.arr .u64 8 j),(15,.v (.int .i64 k))],[(0,some ⟨.box 211 [.v (.int .i64 a),.v (.int .i64 b),.arr .i64 3 c,.arr .i64 3 d,.arr .i64 3 e,.arr .i64 3 f,.fn (.func 197) [] []],false⟩),(1,some ⟨.box 138 [.arr .u64 8 g],false⟩),(2,some ⟨.box 138 [.arr .u64 8 h],false⟩),(3,some ⟨.box 138 [.arr .u64 8 i],false⟩)],4,50⟩=>some (l,j,k,a,b,c,d,e,f,g,h,i)
 | _=>none
theorem aq0(st)(x)(h:V3 st=some x):st=S3 x:=by
 unfold V3 at h
 split at h
 · cases h;rfl
 · cases h
abbrev Y3:=P.cdk
abbrev X8:=P.b5g
def S8:X8→ASt:=fun (k,j,a,b,c,d,e,f,g,h,i)=>⟨[(2,.sl (.ints .u8 k)),(3,.ptr 0 0),(4,.ptr 1 0),(6,.ptr 2 0),(8,.ptr 3 0),(11,.v (.int .i64 j))],[(3,some ⟨.box 138 [.arr .u64 8 a],false⟩),(2,some ⟨.box 138 [.arr .u64 8 b],false⟩),(1,some ⟨.box 138 [.arr .u64 8 c],false⟩),(0,some ⟨.box 211 [.v (.int .i64 d),.v (.int .i64 e),.arr .i64 3 f,.arr .i64 3 g,.arr .i64 3 h,.arr .i64 3 i,.fn (.func 197) [] []],false⟩)],4,50⟩
def V8:ASt→Option X8
 | ⟨[(2,.sl (.ints .u8 k)),(3,.ptr 0 0),(4,.ptr 1 0),(6,.ptr 2 0),(8,.ptr 3 0),(11,.v (.int .i64 j))],[(3,some ⟨.box 138 [.arr .u64 8 a],false⟩),(2,some ⟨.box 138 [.arr .u64 8 b],false⟩),(1,some ⟨.box 138 [.arr .u64 8 c],false⟩),(0,some ⟨.box 211 [.v (.int .i64 d),.v (.int .i64 e),.arr .i64 3 f,.arr .i64 3 g,.arr .i64 3 h,.arr .i64 3 i,.fn (.func 197) [] []],false⟩)],4,50⟩=>some (k,j,a,b,c,d,e,f,g,h,i)
 | _=>none
theorem bh3(st)(x)(h:V8 st=some x):st=S8 x:=by
 unfold V8 at h
 split at h
 · cases h;rfl
 · cases h
abbrev Y8:=P.cc8
abbrev X12:=P.b4g
def S12:X12→ASt:=fun (e,c,d,a,b)=>⟨[(2,.sl (.ints .u8 e)),(4,.ptr 1 0),(6,.ptr 2 0),(39,.arr .u64 8 c),(40,.v (.int .i64 d))],[(1,some ⟨.box 138 [.arr .u64 8 a],false⟩),(2,some ⟨.box 138 [.arr .u64 8 b],false⟩)],120,50⟩
def V12:ASt→Option X12
 | ⟨[(2,.sl (.ints .u8 e)),(4,.ptr 1 0),(6,.ptr 2 0),(39,.arr .u64 8 c),(40,.v (.int .i64 d))],[(1,some ⟨.box 138 [.arr .u64 8 a],false⟩),(2,some ⟨.box 138 [.arr .u64 8 b],false⟩)],120,50⟩=>some (e,c,d,a,b)
 | _=>none
theorem bku(st)(x)(h:V12 st=some x):st=S12 x:=by
 unfold V12 at h
 split at h
 · cases h;rfl
 · cases h
abbrev Y12:=P.cec
def E3(K:AExit→ASt→Option R):Y3→Option R:=(fun x=>K (.exit 0) (S3 x))
noncomputable def L3:qy:=fun st K=>adb (V3 st) fun x=>P.cgd x (E3 K)
def E8(K:AExit→ASt→Option R):Y8→Option R:=(fun x=>K (.exit 2) (S8 x))
noncomputable def L8:qy:=fun st K=>adb (V8 st) fun x=>P.b81 x (E8 K)
def E12(K:AExit→ASt→Option R):Y12→Option R:=(fun x=>K (.exit 4) (S12 x))
noncomputable def L12:qy:=fun st K=>adb (V12 st) fun x=>P.cfo x (E12 K)
noncomputable def D:Ctx:=({ P:=Tryz.prog,G:=[(196,og.spec),(197,ql.spec)],globs:=GLO.gx,hints:=[(12,⟨[2,4,6,39,40],[],[6,7],[],some (120,[1,2]),[],[],[]⟩),(8,⟨[2,3,4,6,8,11],[],[6,7],[(2,.sl (.ints .u8 []))],none,[],[],[]⟩),(3,⟨[2,3,4,6,8,14,15],[],[6,7],[],none,[],[],[]⟩)],loops:=[(3,L3),(8,L8),(12,L12)],inl:=[] }:Ctx)
theorem air(K)(next)(x):kg D (gq Tryz.f183 3) K next (S3 x)=P.b45 x (fun x=>next (S3 x)) (E3 K):=by kernel_rfl
theorem arv:jr D (gq Tryz.f183 3):=iy S3 aq0 (by kernel_rfl) P.cgu air
theorem avf(K)(next)(x):kg D (gq Tryz.f183 8) K next (S8 x)=P.b44 x (fun x=>next (S8 x)) (E8 K):=by kernel_rfl
theorem bh6:jr D (gq Tryz.f183 8):=iy S8 bh3 (by kernel_rfl) P.cig avf
theorem bbg(K)(next)(x):kg D (gq Tryz.f183 12) K next (S12 x)=P.b0y x (fun x=>next (S12 x)) (E12 K):=by kernel_rfl
theorem bij:jr D (gq Tryz.f183 12):=iy S12 bku (by kernel_rfl) P.cgz bbg
theorem loops:dn (Tryz.f183.body.getD .skip)=[gq Tryz.f183 3,gq Tryz.f183 8,gq Tryz.f183 12]:=by kernel_rfl
noncomputable def bn:Abs.Spec:=fun args K=>match args with
 | [.agg [.v (.int .i64 f),.v (.int .i64 e),.arr .i64 3 a,.arr .i64 3 b,.arr .i64 3 c,.arr .i64 3 d,.fn (.func 197) [] []],.arr .u64 8 g,.sl (.ints .u8 h)]=>P.sj f e a b c d g h (fun i j=>K (.tuple [.arr .u64 8 i,.sl (.ints .u8 j)]))
 | _=>none
noncomputable def spec:Abs.Spec:=fun args K=>bn (mh [.any,.any,.sl (.ints .u8 [])] args) K
theorem ok0:Proved Tryz.prog GLO.gx 183 bn:=by
 refine bq (D:=D) (fn:=Tryz.f183) (c:=Tryz.f183.body.getD .skip) [.any,.sl (.ints .u8 [])] (by kernel_rfl) (bg (by kernel_rfl)) (by kernel_rfl) (by kernel_rfl) (by kernel_rfl) ⟨og.ok,ql.ok,trivial⟩ trivial ?_ ?_
 · rw[loops];exact ⟨arv,bh6,bij,trivial⟩
 · intro args K r h
   unfold bn at h
   split at h
   · rw[P.ais] at h;exact Aa (by kernel_rfl) h
   · cases h
theorem ok:Proved Tryz.prog GLO.gx 183 spec:=dx _ ok0
end sj

namespace qz
noncomputable def D:Ctx:={ P:=Tryz.prog,G:=[],globs:=GLO.gx,hints:=[],loops:=[] }
noncomputable def c:Code:=Tryz.f185.body.getD .skip
noncomputable def o0:Oper:=(bow (sq1 c)).getD 0 bo4
noncomputable def o1:Oper:=(bow (sq1 (sq1 (sq2 c)))).getD 0 bo4
noncomputable def o2:Oper:=(bow (sq1 (sq1 (sq2 c)))).getD 1 bo4
noncomputable def X:Code:=ce6 (sq2 (sq1 (sq2 c)))
noncomputable def rest:Code:=sq2 (sq2 c)
noncomputable def ox:Oper:=(bow (sq1 X)).getD 0 bo4
theorem byx(a:List Int):af8 D rest ⟨[(0,.sl (.ints .u8 a)),(2,.v (.slice none 0 0))],[],0,Tryz.f185.ntmps⟩ (cid D [.fr 5 (.ints .u8 a)] Tryz.f185)=br (decide ((0+a.length)*1≤140737488355328)) (some (.fr 5 (.ints .u8 a))) none:=by kernel_rfl
noncomputable def bn:Abs.Spec:=fun args K=>match args with
  | [.sl (.ints .u8 a)]=>P.qz a (fun a=>K (.fr 5 (.ints .u8 a)))
  | _=>none
theorem bzl:Tryz.f185.body=some (.seq (.region 0 #[o0] false) (.seq (.seq (.region 1 #[o1,o2] false) (.cond (.tmp 4) X .skip)) rest)):=by kernel_rfl
theorem ok0:Proved Tryz.prog GLO.gx 185 bn:=by
  refine ⟨⟨Tryz.f185,by kernel_rfl,by kernel_rfl,by kernel_rfl⟩,fun args K r h=>?_⟩
  unfold bn at h
  split at h
  · rename_i a
    unfold P.qz at h
    obtain ⟨hp,hK⟩:=pre_some h
    refine ⟨_,hK,bur (D:=D) (fn:=Tryz.f185) (t:=24) (e:=5) trivial (bg (by kernel_rfl)) trivial (by kernel_rfl) (by kernel_rfl) bzl ⟨by kernel_rfl,by kernel_rfl,by kernel_rfl⟩ ⟨by kernel_rfl,by kernel_rfl,by kernel_rfl⟩ ⟨by kernel_rfl,by kernel_rfl,by kernel_rfl⟩ (by kernel_rfl) (by decide +kernel) (by kernel_rfl) (by kernel_rfl) ⟨2,ox,by kernel_rfl,by kernel_rfl,by kernel_rfl,by kernel_rfl⟩ (by kernel_rfl) rfl rfl rfl ?_⟩
    rw[byx,bf (by omega)]
  · cases h
noncomputable def spec:Abs.Spec:=fun args K=>bn (mh [.sl (.ints .u8 [])] args) K
theorem ok:Proved Tryz.prog GLO.gx 185 spec:=dx _ ok0
end qz

namespace zo
noncomputable def D:Ctx:=({ P:=Tryz.prog,G:=[(76,j5.spec),(181,rz.spec),(182,adw.spec),(183,sj.spec),(184,ad6.spec),(185,qz.spec)],globs:=GLO.gx,hints:=[],loops:=[],inl:=[] }:Ctx)
theorem loops:dn (Tryz.f166.body.getD .skip)=[]:=by kernel_rfl
noncomputable def bn:Abs.Spec:=fun args K=>match args with
 | [.agg [.v (.int .i64 c),.arr .u64 8 a,.sl (.ints .u8 d),.v (.int .u64 e)],.sl (.ints .u8 i)]=>P.zo c a d e i (fun f b g h=>K (.agg [.v (.int .i64 f),.arr .u64 8 b,.fr 5 (.ints .u8 g),.v (.int .u64 h)]))
 | _=>none
noncomputable def spec:Abs.Spec:=fun args K=>bn (mh [.agg [.any,.any,.sl (.ints .u8 []),.any],.sl (.ints .u8 [])] args) K
theorem ok0:Proved Tryz.prog GLO.gx 166 bn:=by
 refine bq (D:=D) (fn:=Tryz.f166) (c:=Tryz.f166.body.getD .skip) [.agg [.any,.any,.fr 5 (.ints .u8 []),.any]] (by kernel_rfl) (bg (by kernel_rfl)) (by kernel_rfl) (by kernel_rfl) (by kernel_rfl) ⟨j5.ok,rz.ok,adw.ok,sj.ok,ad6.ok,qz.ok,trivial⟩ trivial ?_ ?_
 · rw[loops];exact trivial
 · intro args K r h
   unfold bn at h
   split at h
   · rw[P.bf5] at h;exact Aa (by kernel_rfl) h
   · cases h
theorem ok:Proved Tryz.prog GLO.gx 166 spec:=dx _ ok0
end zo

namespace agr
noncomputable def D:Ctx:=({ P:=Tryz.prog,G:=[],globs:=GLO.gx,hints:=[],loops:=[],inl:=[] }:Ctx)
theorem loops:dn (Tryz.f179.body.getD .skip)=[]:=by kernel_rfl
noncomputable def bn:Abs.Spec:=fun args K=>match args with
 | [.v (.int .i64 a)]=>P.agr a (fun b c=>K (.tuple [.arr .u64 8 b,.v (.bool c)]))
 | _=>none
noncomputable def spec:Abs.Spec:=bn
theorem ok0:Proved Tryz.prog GLO.gx 179 bn:=by
 refine bq (D:=D) (fn:=Tryz.f179) (c:=Tryz.f179.body.getD .skip) [.any,.any] (by kernel_rfl) (bg (by kernel_rfl)) (by kernel_rfl) (by kernel_rfl) (by kernel_rfl) trivial trivial ?_ ?_
 · rw[loops];exact trivial
 · intro args K r h
   unfold bn at h
   split at h
   · rw[P.ayi] at h;exact Aa (by kernel_rfl) h
   · cases h
theorem ok:Proved Tryz.prog GLO.gx 179 spec:=ok0
end agr

namespace afn
noncomputable def D:Ctx:=({ P:=Tryz.prog,G:=[(179,agr.spec)],globs:=GLO.gx,hints:=[],loops:=[],inl:=[] }:Ctx)
theorem loops:dn (Tryz.f164.body.getD .skip)=[]:=by kernel_rfl
noncomputable def bn:Abs.Spec:=fun args K=>match args with
 | [.v (.int .i64 e)]=>P.afn e (fun b a c d f=>K (.tuple [.agg [.v (.int .i64 b),.arr .u64 8 a,.fr 5 (.ints .u8 c),.v (.int .u64 d)],.v (.int .i64 f)]))
 | _=>none
noncomputable def spec:Abs.Spec:=bn
theorem ok0:Proved Tryz.prog GLO.gx 164 bn:=by
 refine bq (D:=D) (fn:=Tryz.f164) (c:=Tryz.f164.body.getD .skip) [.agg [.any,.any,.fr 5 (.ints .u8 []),.any],.any] (by kernel_rfl) (bg (by kernel_rfl)) (by kernel_rfl) (by kernel_rfl) (by kernel_rfl) ⟨agr.ok,trivial⟩ trivial ?_ ?_
 · rw[loops];exact trivial
 · intro args K r h
   unfold bn at h
   split at h
   · rw[P.bes] at h;exact Aa (by kernel_rfl) h
   · cases h
theorem ok:Proved Tryz.prog GLO.gx 164 spec:=ok0
end afn

namespace zu
noncomputable def D:Ctx:=({ P:=Tryz.prog,G:=[(40,jd.spec),(164,afn.spec),(166,zo.spec)],globs:=GLO.gx,hints:=[],loops:=[],inl:=[] }:Ctx)
theorem loops:dn (Tryz.f187.body.getD .skip)=[]:=by kernel_rfl
noncomputable def bn:Abs.Spec:=fun args K=>match args with
 | [.v (.int .i64 e),.v (.int .i64 f),.sl (.ints .u8 g)]=>P.zu e f g (fun b a c d=>K (.agg [.v (.int .i64 b),.arr .u64 8 a,.fr 5 (.ints .u8 c),.v (.int .u64 d)]))
 | _=>none
noncomputable def spec:Abs.Spec:=fun args K=>bn (mh [.any,.any,.sl (.ints .u8 [])] args) K
theorem ok0:Proved Tryz.prog GLO.gx 187 bn:=by
 refine bq (D:=D) (fn:=Tryz.f187) (c:=Tryz.f187.body.getD .skip) [.agg [.any,.any,.fr 5 (.ints .u8 []),.any]] (by kernel_rfl) (bg (by kernel_rfl)) (by kernel_rfl) (by kernel_rfl) (by kernel_rfl) ⟨jd.ok,afn.ok,zo.ok,trivial⟩ trivial ?_ ?_
 · rw[loops];exact trivial
 · intro args K r h
   unfold bn at h
   split at h
   · rw[P.as7] at h;exact Aa (by kernel_rfl) h
   · cases h
theorem ok:Proved Tryz.prog GLO.gx 187 spec:=dx _ ok0
end zu

namespace yc
noncomputable def D:Ctx:=({ P:=Tryz.prog,G:=[],globs:=GLO.gx,hints:=[],loops:=[],inl:=[] }:Ctx)
theorem loops:dn (Tryz.f180.body.getD .skip)=[]:=by kernel_rfl
noncomputable def bn:Abs.Spec:=fun args K=>match args with
 | [.v (.int .i64 a)]=>P.yc a (fun b=>K (.v (.int .i64 b)))
 | _=>none
noncomputable def spec:Abs.Spec:=bn
theorem ok0:Proved Tryz.prog GLO.gx 180 bn:=by
 refine bq (D:=D) (fn:=Tryz.f180) (c:=Tryz.f180.body.getD .skip) [.any] (by kernel_rfl) (bg (by kernel_rfl)) (by kernel_rfl) (by kernel_rfl) (by kernel_rfl) trivial trivial ?_ ?_
 · rw[loops];exact trivial
 · intro args K r h
   unfold bn at h
   split at h
   · rw[P.apu] at h;exact Aa (by kernel_rfl) h
   · cases h
theorem ok:Proved Tryz.prog GLO.gx 180 spec:=ok0
end yc

namespace ac8
abbrev X10:=P.b0p
def S10:X10→ASt:=fun (g,d,e,f,a,b,c,h)=>⟨[(7,.own 40),(1,.ptr 0 0),(3,.v (.int .i64 g)),(45,.arr .u64 8 d),(46,.v (.int .i64 e))],[(40,some ⟨.row 5 (.ints .u8 f),false⟩),(0,some ⟨.box 140 [.v (.int .i64 a),.arr .u64 8 b,.own 5,.v (.int .u64 c)],false⟩),(5,some ⟨.row 5 (.ints .u8 h),false⟩)],41,62⟩
def V10:ASt→Option X10
 | ⟨[(7,.own 40),(1,.ptr 0 0),(3,.v (.int .i64 g)),(45,.arr .u64 8 d),(46,.v (.int .i64 e))],[(40,some ⟨.row 5 (.ints .u8 f),false⟩),(0,some ⟨.box 140 [.v (.int .i64 a),.arr .u64 8 b,.own 5,.v (.int .u64 c)],false⟩),(5,some ⟨.row 5 (.ints .u8 h),false⟩)],41,62⟩=>some (g,d,e,f,a,b,c,h)
 | _=>none
theorem bk0(st)(x)(h:V10 st=some x):st=S10 x:=by
 unfold V10 at h
 split at h
 · cases h;rfl
 · cases h
abbrev Y10:=P.ccb
def E10(K:AExit→ASt→Option R):Y10→Option R:=(fun x=>K (.exit 0) (S10 x))
noncomputable def L10:qy:=fun st K=>adb (V10 st) fun x=>P.b96 x (E10 K)
noncomputable def D:Ctx:=({ P:=Tryz.prog,G:=[(75,xq.spec),(166,zo.spec),(180,yc.spec)],globs:=GLO.gx,hints:=[(10,⟨[1,3,45,46],[(7,5,.ints .u8 [])],[2],[],some (40,[0,5]),[],[],[]⟩)],loops:=[(10,L10)],inl:=[] }:Ctx)
theorem bbo(K)(next)(x):kg D (gq Tryz.f165 10) K next (S10 x)=P.b1v x (fun x=>next (S10 x)) (E10 K):=by kernel_rfl
theorem bke:jr D (gq Tryz.f165 10):=iy S10 bk0 (by kernel_rfl) P.chi bbo
theorem loops:dn (Tryz.f165.body.getD .skip)=[gq Tryz.f165 10]:=by kernel_rfl
noncomputable def bn:Abs.Spec:=fun args K=>match args with
 | [.agg [.v (.int .i64 b),.arr .u64 8 a,.sl (.ints .u8 c),.v (.int .u64 d)]]=>P.ac8 b a c d (fun e=>K (.fr 5 (.ints .u8 e)))
 | _=>none
noncomputable def spec:Abs.Spec:=fun args K=>bn (mh [.agg [.any,.any,.sl (.ints .u8 []),.any]] args) K
theorem ok0:Proved Tryz.prog GLO.gx 165 bn:=by
 refine axk (D:=D) (fn:=Tryz.f165) (c:=Tryz.f165.body.getD .skip) 5 (.ints .u8 []) (by kernel_rfl) (bg (by kernel_rfl)) (by kernel_rfl) (by kernel_rfl) (by kernel_rfl) ⟨xq.ok,zo.ok,yc.ok,trivial⟩ trivial ?_ ?_
 · rw[loops];exact ⟨bke,trivial⟩
 · intro args K r h
   unfold bn at h
   split at h
   · rw[P.bf1] at h;exact Aa (by kernel_rfl) h
   · cases h
theorem ok:Proved Tryz.prog GLO.gx 165 spec:=dx _ ok0
end ac8

namespace zw
noncomputable def D:Ctx:=({ P:=Tryz.prog,G:=[(40,jd.spec)],globs:=GLO.gx,hints:=[],loops:=[],inl:=[] }:Ctx)
theorem loops:dn (Tryz.f189.body.getD .skip)=[]:=by kernel_rfl
noncomputable def bn:Abs.Spec:=fun args K=>match args with
 | [.arr .u8 32 a]=>P.zw a (fun b=>K (.fr 5 (.ints .u8 b)))
 | _=>none
noncomputable def spec:Abs.Spec:=bn
theorem ok0:Proved Tryz.prog GLO.gx 189 bn:=by
 refine bq (D:=D) (fn:=Tryz.f189) (c:=Tryz.f189.body.getD .skip) [.fr 5 (.ints .u8 [])] (by kernel_rfl) (bg (by kernel_rfl)) (by kernel_rfl) (by kernel_rfl) (by kernel_rfl) ⟨jd.ok,trivial⟩ trivial ?_ ?_
 · rw[loops];exact trivial
 · intro args K r h
   unfold bn at h
   split at h
   · rw[P.avp] at h;exact Aa (by kernel_rfl) h
   · cases h
theorem ok:Proved Tryz.prog GLO.gx 189 spec:=ok0
end zw

namespace jq
noncomputable def D:Ctx:=({ P:=Tryz.prog,G:=[(40,jd.spec),(165,ac8.spec),(166,zo.spec),(189,zw.spec)],globs:=GLO.gx,hints:=[],loops:=[],inl:=[] }:Ctx)
theorem loops:dn (Tryz.f188.body.getD .skip)=[]:=by kernel_rfl
noncomputable def bn:Abs.Spec:=fun args K=>match args with
 | [.arr .u8 32 i,.sl (.ints .u8 j),.sta [.v (.int .i64 c),.arr .u64 8 a,.sl (.ints .u8 d),.v (.int .u64 e)],.sta [.v (.int .i64 k)],.sta [.v (.int .i64 f),.arr .u64 8 b,.sl (.ints .u8 g),.v (.int .u64 h)]]=>P.jq i j c a d e k f b g h (fun l=>K (.sl (.ints .u8 l)))
 | _=>none
noncomputable def spec:Abs.Spec:=fun args K=>bn (mh [.any,.sl (.ints .u8 []),.agg [.any,.any,.sl (.ints .u8 []),.any],.any,.agg [.any,.any,.sl (.ints .u8 []),.any]] args) K
theorem ok0:Proved Tryz.prog GLO.gx 188 bn:=by
 refine bq (D:=D) (fn:=Tryz.f188) (c:=Tryz.f188.body.getD .skip) [.sl (.ints .u8 [])] (by kernel_rfl) (bg (by kernel_rfl)) (by kernel_rfl) (by kernel_rfl) (by kernel_rfl) ⟨jd.ok,ac8.ok,zo.ok,zw.ok,trivial⟩ trivial ?_ ?_
 · rw[loops];exact trivial
 · intro args K r h
   unfold bn at h
   split at h
   · rw[P.amx] at h;exact Aa (by kernel_rfl) h
   · cases h
theorem ok:Proved Tryz.prog GLO.gx 188 spec:=dx _ ok0
end jq

namespace ad3
noncomputable def D:Ctx:=({ P:=Tryz.prog,G:=[(187,zu.spec),(188,jq.spec)],globs:=GLO.gx,hints:=[],loops:=[],inl:=[],sta:=true }:Ctx)
theorem loops:dn (Tryz.f169.body.getD .skip)=[]:=by kernel_rfl
noncomputable def bn:Abs.Spec:=fun args K=>match args with
 | [.v (.int .i64 j),.sl (.ints .u8 k)]=>P.ad3 j k (fun c a d e i f b g h=>K (.fn (.func 188) [] [.sta [.v (.int .i64 c),.arr .u64 8 a,.sl (.ints .u8 d),.v (.int .u64 e)],.sta [.v (.int .i64 i)],.sta [.v (.int .i64 f),.arr .u64 8 b,.sl (.ints .u8 g),.v (.int .u64 h)]]))
 | _=>none
noncomputable def spec:Abs.Spec:=fun args K=>bn (mh [.any,.sl (.ints .u8 [])] args) K
theorem ok0:Proved Tryz.prog GLO.gx 169 bn:=by
 refine bq (D:=D) (fn:=Tryz.f169) (c:=Tryz.f169.body.getD .skip) [.agg [.agg [.any,.any,.sl (.ints .u8 []),.any],.any,.agg [.any,.any,.sl (.ints .u8 []),.any]]] (by kernel_rfl) (bg (by kernel_rfl)) (by kernel_rfl) (by kernel_rfl) (by kernel_rfl) ⟨zu.ok,jq.ok,trivial⟩ trivial ?_ ?_
 · rw[loops];exact trivial
 · intro args K r h
   unfold bn at h
   split at h
   · rw[P.as1] at h;exact Aa (by kernel_rfl) h
   · cases h
theorem ok:Proved Tryz.prog GLO.gx 169 spec:=dx _ ok0
end ad3

namespace jm
noncomputable def D:Ctx:=({ P:=Tryz.prog,G:=[],globs:=GLO.gx,hints:=[],loops:=[],inl:=[] }:Ctx)
theorem loops:dn (Tryz.f193.body.getD .skip)=[]:=by kernel_rfl
noncomputable def bn:Abs.Spec:=fun args K=>match args with
 | [.v (.int .u64 a),.v (.int .i64 b)]=>P.jm a b (fun c=>K (.v (.int .u64 c)))
 | _=>none
noncomputable def spec:Abs.Spec:=bn
theorem ok0:Proved Tryz.prog GLO.gx 193 bn:=by
 refine bq (D:=D) (fn:=Tryz.f193) (c:=Tryz.f193.body.getD .skip) [.any] (by kernel_rfl) (bg (by kernel_rfl)) (by kernel_rfl) (by kernel_rfl) (by kernel_rfl) trivial trivial ?_ ?_
 · rw[loops];exact trivial
 · intro args K r h
   unfold bn at h
   split at h
   · rw[P.vw] at h;exact Aa (by kernel_rfl) h
   · cases h
theorem ok:Proved Tryz.prog GLO.gx 193 spec:=ok0
end jm

end
