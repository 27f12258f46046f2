/-
  SlhVerifies, part 17: an interpreter of my own over abstract values, the pure functions, the walks and the plain law.
-/

import Derived.Test.YtciddcopcdmnbaaGreatDoorSlhVerifiesK
import Derived.Test.YtciddcopcdmnbaaGreatDoorSlhVerifiesH
import Derived.Test.YtciddcopcdmnbaaGreatDoorProg
import Derived.Test.YtciddcopcdmnbaaGreatDoorSlhVerifiesJ
import Derived.Test.YtciddcopcdmnbaaGreatDoorSlhVerifiesP
import Derived.KernelRfl
import Derived.Test.YtciddcopcdmnbaaGreatDoorSlhVerifiesI
import Derived.Test.YtciddcopcdmnbaaGreatDoorSlhVerifiesN
open Eq renaming trans → Aa

section
open Go Go.Abs Go.Proofs
set_option maxRecDepth 100000
set_option maxHeartbeats 0
set_option linter.unusedVariables false

namespace jk
abbrev chy:=P.zt3
def b09:chy→ASt:=fun (d,a,b,c)=>⟨[(0,.ptr 0 0),(2,.ptr 2 0),(4,.v (.int .i64 d))],[(1,some ⟨.box 130 [.arr .u64 25 a],false⟩),(0,some ⟨.box 130 [.arr .u64 25 b],false⟩),(2,some ⟨.box 215 [.arr .u64 5 c],false⟩)],3,44⟩
def cbu:ASt→Option chy
 | ⟨[(0,.ptr 0 0),(2,.ptr 2 0),(4,.v (.int .i64 d))],[(1,some ⟨.box 130 [.arr .u64 25 a],false⟩),(0,some ⟨.box 130 [.arr .u64 25 b],false⟩),(2,some ⟨.box 215 [.arr .u64 5 c],false⟩)],3,44⟩=>some (d,a,b,c)
 | _=>none
theorem byp(st)(x)(h:cbu st=some x):st=b09 x:=by
 unfold cbu at h
 split at h
 · cases h;rfl
 · cases h
abbrev Y2_2:=P.zy3
abbrev cg9:=P.zt4
def b43:cg9→ASt:=fun (f,g,h,i,e,a,b,c,d)=>⟨[(0,.ptr 0 0),(1,.v (.int .u64 f)),(4,.ptr 3 0),(5,.v (.int .i64 g)),(6,.v (.int .u64 h)),(7,.v (.int .i64 i)),(16,.v (.int .i64 e))],[(3,some ⟨.box 215 [.arr .u64 5 a],false⟩),(2,some ⟨.box 215 [.arr .u64 5 b],false⟩),(1,some ⟨.box 130 [.arr .u64 25 c],false⟩),(0,some ⟨.box 130 [.arr .u64 25 d],false⟩)],4,116⟩
def cbc:ASt→Option cg9
 | ⟨[(0,.ptr 0 0),(1,.v (.int .u64 f)),(4,.ptr 3 0),(5,.v (.int .i64 g)),(6,.v (.int .u64 h)),(7,.v (.int .i64 i)),(16,.v (.int .i64 e))],[(3,some ⟨.box 215 [.arr .u64 5 a],false⟩),(2,some ⟨.box 215 [.arr .u64 5 b],false⟩),(1,some ⟨.box 130 [.arr .u64 25 c],false⟩),(0,some ⟨.box 130 [.arr .u64 25 d],false⟩)],4,116⟩=>some (f,g,h,i,e,a,b,c,d)
 | _=>none
theorem byi(st)(x)(h:cbc st=some x):st=b43 x:=by
 unfold cbc at h
 split at h
 · cases h;rfl
 · cases h
abbrev Y1_6:=P.zy4
abbrev cgh:=P.zt5
def b26:cgh→ASt:=fun (f,e,a,b,c,d)=>⟨[(0,.ptr 0 0),(1,.v (.int .u64 f)),(4,.ptr 3 0),(16,.v (.int .i64 e))],[(0,some ⟨.box 130 [.arr .u64 25 a],false⟩),(1,some ⟨.box 130 [.arr .u64 25 b],false⟩),(2,some ⟨.box 215 [.arr .u64 5 c],false⟩),(3,some ⟨.box 215 [.arr .u64 5 d],false⟩)],4,116⟩
def b82:ASt→Option cgh
 | ⟨[(0,.ptr 0 0),(1,.v (.int .u64 f)),(4,.ptr 3 0),(16,.v (.int .i64 e))],[(0,some ⟨.box 130 [.arr .u64 25 a],false⟩),(1,some ⟨.box 130 [.arr .u64 25 b],false⟩),(2,some ⟨.box 215 [.arr .u64 5 c],false⟩),(3,some ⟨.box 215 [.arr .u64 5 d],false⟩)],4,116⟩=>some (f,e,a,b,c,d)
 | _=>none
theorem byr(st)(x)(h:b82 st=some x):st=b26 x:=by
 unfold b82 at h
 split at h
 · cases h;rfl
 · cases h
abbrev Y1_2:=P.zy5
abbrev b1e:=P.zt6
def br5:b1e→ASt:=fun (g,h,e,f,a,b,c,d)=>⟨[(0,.ptr 0 0),(1,.v (.int .u64 g)),(8,.v (.int .u64 h)),(51,.arr .i64 24 e),(52,.v (.int .i64 f))],[(3,some ⟨.box 215 [.arr .u64 5 a],false⟩),(2,some ⟨.box 215 [.arr .u64 5 b],false⟩),(1,some ⟨.box 130 [.arr .u64 25 c],false⟩),(0,some ⟨.box 130 [.arr .u64 25 d],false⟩)],4,116⟩
def byj:ASt→Option b1e
 | ⟨[(0,.ptr 0 0),(1,.v (.int .u64 g)),(8,.v (.int .u64 h)),(51,.arr .i64 24 e),(52,.v (.int .i64 f))],[(3,some ⟨.box 215 [.arr .u64 5 a],false⟩),(2,some ⟨.box 215 [.arr .u64 5 b],false⟩),(1,some ⟨.box 130 [.arr .u64 25 c],false⟩),(0,some ⟨.box 130 [.arr .u64 25 d],false⟩)],4,116⟩=>some (g,h,e,f,a,b,c,d)
 | _=>none
theorem bvo(st)(x)(h:byj st=some x):st=br5 x:=by
 unfold byj at h
 split at h
 · cases h;rfl
 · cases h
abbrev b9v:=P.zy6
abbrev b3g:=P.zt7
def bql:b3g→ASt:=fun (h,f,g,a,b,c,d,e)=>⟨[(0,.ptr 0 0),(1,.v (.int .u64 h)),(11,.v (.int .i64 f)),(12,.ptr 4 0),(83,.v (.int .i64 g))],[(3,some ⟨.box 215 [.arr .u64 5 a],false⟩),(2,some ⟨.box 215 [.arr .u64 5 b],false⟩),(1,some ⟨.box 130 [.arr .u64 25 c],false⟩),(0,some ⟨.box 130 [.arr .u64 25 d],false⟩),(4,some ⟨.box 215 [.arr .u64 5 e],false⟩)],5,116⟩
def bx9:ASt→Option b3g
 | ⟨[(0,.ptr 0 0),(1,.v (.int .u64 h)),(11,.v (.int .i64 f)),(12,.ptr 4 0),(83,.v (.int .i64 g))],[(3,some ⟨.box 215 [.arr .u64 5 a],false⟩),(2,some ⟨.box 215 [.arr .u64 5 b],false⟩),(1,some ⟨.box 130 [.arr .u64 25 c],false⟩),(0,some ⟨.box 130 [.arr .u64 25 d],false⟩),(4,some ⟨.box 215 [.arr .u64 5 e],false⟩)],5,116⟩=>some (h,f,g,a,b,c,d,e)
 | _=>none
theorem bvl(st)(x)(h:bx9 st=some x):st=bql x:=by
 unfold bx9 at h
 split at h
 · cases h;rfl
 · cases h
abbrev cfc:=P.zy7
abbrev b46:=P.zt8
def br2:b46→ASt:=fun (f,e,a,b,c,d)=>⟨[(0,.ptr 0 0),(1,.v (.int .u64 f)),(11,.v (.int .i64 e))],[(0,some ⟨.box 130 [.arr .u64 25 a],false⟩),(1,some ⟨.box 130 [.arr .u64 25 b],false⟩),(2,some ⟨.box 215 [.arr .u64 5 c],false⟩),(3,some ⟨.box 215 [.arr .u64 5 d],false⟩)],4,116⟩
def bxo:ASt→Option b46
 | ⟨[(0,.ptr 0 0),(1,.v (.int .u64 f)),(11,.v (.int .i64 e))],[(0,some ⟨.box 130 [.arr .u64 25 a],false⟩),(1,some ⟨.box 130 [.arr .u64 25 b],false⟩),(2,some ⟨.box 215 [.arr .u64 5 c],false⟩),(3,some ⟨.box 215 [.arr .u64 5 d],false⟩)],4,116⟩=>some (f,e,a,b,c,d)
 | _=>none
theorem bvu(st)(x)(h:bxo st=some x):st=br2 x:=by
 unfold bxo at h
 split at h
 · cases h;rfl
 · cases h
abbrev cbk:=P.zy8
abbrev X2:=P.zt9
def S2:X2→ASt:=fun (c,d,a,b)=>⟨[(1,.ptr 0 0),(2,.ptr 1 0),(5,.arr .u64 24 c),(6,.v (.int .i64 d))],[(0,some ⟨.box 130 [.arr .u64 25 a],false⟩),(1,some ⟨.box 130 [.arr .u64 25 b],false⟩)],2,13⟩
def V2:ASt→Option X2
 | ⟨[(1,.ptr 0 0),(2,.ptr 1 0),(5,.arr .u64 24 c),(6,.v (.int .i64 d))],[(0,some ⟨.box 130 [.arr .u64 25 a],false⟩),(1,some ⟨.box 130 [.arr .u64 25 b],false⟩)],2,13⟩=>some (c,d,a,b)
 | _=>none
theorem bcl(st)(x)(h:V2 st=some x):st=S2 x:=by
 unfold V2 at h
 split at h
 · cases h;rfl
 · cases h
abbrev Y2:=P.zy9
def chb(K:AExit→ASt→Option R):Y2_2→Option R:=(fun x=>K (.exit 0) (b09 x))
noncomputable def L2_2:qy:=fun st K=>adb (cbu st) fun x=>P.zm3 x (chb K)
def cim(K:AExit→ASt→Option R):Y1_6→Option R:=(fun x=>K (.exit 2) (b43 x))
noncomputable def L1_6:qy:=fun st K=>adb (cbc st) fun x=>P.zm4 x (cim K)
def ch0(K:AExit→ASt→Option R):Y1_2→Option R:=(fun x=>K (.exit 0) (b26 x))
noncomputable def L1_2:qy:=fun st K=>adb (b82 st) fun x=>P.zm5 x (ch0 K)
def b39(K:AExit→ASt→Option R):b9v→Option R:=(fun x=>K (.exit 4) (br5 x))
noncomputable def ca6:qy:=fun st K=>adb (byj st) fun x=>P.zm6 x (b39 K)
def b4l(K:AExit→ASt→Option R):cfc→Option R:=(fun x=>K (.exit 8) (bql x))
noncomputable def cd1:qy:=fun st K=>adb (bx9 st) fun x=>P.zm7 x (b4l K)
def b2h(K:AExit→ASt→Option R):cbk→Option R:=(fun x=>K (.exit 6) (br2 x))
noncomputable def cf0:qy:=fun st K=>adb (bxo st) fun x=>P.zm8 x (b2h K)
def E2(K:AExit→ASt→Option R):Y2→Option R:=(fun x=>K (.exit 0) (S2 x))
noncomputable def L2:qy:=fun st K=>adb (V2 st) fun x=>P.zm9 x (E2 K)
noncomputable def D2:Ctx:=({ P:=Tryz.prog,G:=[(193,jm.spec)],globs:=GLO.gx,hints:=[(2,⟨[0,2,4],[],[2],[],none,[],[],[]⟩)],loops:=[(2,L2_2)],inl:=[] }:Ctx)
noncomputable def D1:Ctx:=({ P:=Tryz.prog,G:=[(193,jm.spec)],globs:=GLO.gx,hints:=[(21,⟨[0,1,11,12,83],[],[],[],none,[],[],[]⟩),(17,⟨[0,1,11],[],[],[],none,[],[],[]⟩),(12,⟨[0,1,8,51,52],[],[],[],none,[],[],[]⟩),(6,⟨[0,1,4,5,6,7,16],[],[],[],none,[],[],[]⟩),(2,⟨[0,1,4,16],[],[],[],none,[],[],[]⟩)],loops:=[(6,L1_6),(2,L1_2),(12,ca6),(21,cd1),(17,cf0)],inl:=[(192,ajd D2 Tryz.f192)] }:Ctx)
noncomputable def D:Ctx:=({ P:=Tryz.prog,G:=[(193,jm.spec)],globs:=GLO.gx,hints:=[(2,⟨[1,2,5,6],[],[2],[],none,[],[],[]⟩)],loops:=[(2,L2)],inl:=[(178,ajd D1 Tryz.f178)] }:Ctx)
theorem btq(K)(next)(x):kg D2 (gq Tryz.f192 2) K next (b09 x)=P.zs3 x (fun x=>next (b09 x)) (chb K):=by kernel_rfl
theorem bzr:jr D2 (gq Tryz.f192 2):=iy b09 byp (by kernel_rfl) P.ze3 btq
theorem bt1(K)(next)(x):kg D1 (gq Tryz.f178 6) K next (b43 x)=P.zs4 x (fun x=>next (b43 x)) (cim K):=by kernel_rfl
theorem bxf:jr D1 (gq Tryz.f178 6):=iy b43 byi (by kernel_rfl) P.ze4 bt1
theorem buy(K)(next)(x):kg D1 (gq Tryz.f178 2) K next (b26 x)=P.zs5 x (fun x=>next (b26 x)) (ch0 K):=by kernel_rfl
theorem bzh:jr D1 (gq Tryz.f178 2):=iy b26 byr (by kernel_rfl) P.ze5 buy
theorem brt(K)(next)(x):kg D1 (gq Tryz.f178 12) K next (br5 x)=P.zs6 x (fun x=>next (br5 x)) (b39 K):=by kernel_rfl
theorem bum:jr D1 (gq Tryz.f178 12):=iy br5 bvo (by kernel_rfl) P.ze6 brt
theorem bti(K)(next)(x):kg D1 (gq Tryz.f178 21) K next (bql x)=P.zs7 x (fun x=>next (bql x)) (b4l K):=by kernel_rfl
theorem bt7:jr D1 (gq Tryz.f178 21):=iy bql bvl (by kernel_rfl) P.ze7 bti
theorem bq8(K)(next)(x):kg D1 (gq Tryz.f178 17) K next (br2 x)=P.zs8 x (fun x=>next (br2 x)) (b2h K):=by kernel_rfl
theorem btu:jr D1 (gq Tryz.f178 17):=iy br2 bvu (by kernel_rfl) P.ze8 bq8
theorem arj(K)(next)(x):kg D (gq Tryz.f160 2) K next (S2 x)=P.zs9 x (fun x=>next (S2 x)) (E2 K):=by kernel_rfl
theorem bdd:jr D (gq Tryz.f160 2):=iy S2 bcl (by kernel_rfl) P.ze9 arj
theorem loops:dn (Tryz.f160.body.getD .skip)=[gq Tryz.f160 2]:=by kernel_rfl
theorem aqi:dn (Tryz.f178.body.getD .skip)=[gq Tryz.f178 2,gq Tryz.f178 6,gq Tryz.f178 12,gq Tryz.f178 17,gq Tryz.f178 21]:=by kernel_rfl
theorem bj5:dn (Tryz.f192.body.getD .skip)=[gq Tryz.f192 2]:=by kernel_rfl
noncomputable def bn:Abs.Spec:=fun args K=>match args with
 | [.arr .u64 25 a]=>P.jk a (fun b=>K (.arr .u64 25 b))
 | _=>none
noncomputable def spec:Abs.Spec:=bn
theorem ok0:Proved Tryz.prog GLO.gx 160 bn:=by
 refine bq (D:=D) (fn:=Tryz.f160) (c:=Tryz.f160.body.getD .skip) [.any] (by kernel_rfl) (bg (by kernel_rfl)) (by kernel_rfl) (by kernel_rfl) (by kernel_rfl) ⟨jm.ok,trivial⟩ ⟨awu (D:=D1) (D':=D) (fn:=Tryz.f178) (c:=Tryz.f178.body.getD .skip) rfl rfl (by kernel_rfl) (bg (by kernel_rfl)) (by kernel_rfl) (by kernel_rfl) (by kernel_rfl) ⟨jm.ok,trivial⟩ ⟨awu (D:=D2) (D':=D1) (fn:=Tryz.f192) (c:=Tryz.f192.body.getD .skip) rfl rfl (by kernel_rfl) (bg (by kernel_rfl)) (by kernel_rfl) (by kernel_rfl) (by kernel_rfl) ⟨jm.ok,trivial⟩ trivial (by rw[bj5];exact ⟨bzr,trivial⟩) (fun _ _ _ _ _ h=>h),trivial⟩ (by rw[aqi];exact ⟨bzh,bxf,bum,btu,bt7,trivial⟩) (fun _ _ _ _ _ h=>h),trivial⟩ ?_ ?_
 · rw[loops];exact ⟨bdd,trivial⟩
 · intro args K r h
   unfold bn at h
   split at h
   · rw[P.amr] at h;exact Aa (by kernel_rfl) h
   · cases h
theorem ok:Proved Tryz.prog GLO.gx 160 spec:=ok0
end jk

namespace oo
noncomputable def D:Ctx:=({ P:=Tryz.prog,G:=[],globs:=GLO.gx,hints:=[],loops:=[],inl:=[] }:Ctx)
theorem loops:dn (Tryz.f158.body.getD .skip)=[]:=by kernel_rfl
noncomputable def bn:Abs.Spec:=fun args K=>match args with
 | [.v (.int .i64 a)]=>P.oo a (fun b=>K (.v (.int .i64 b)))
 | _=>none
noncomputable def spec:Abs.Spec:=bn
theorem ok0:Proved Tryz.prog GLO.gx 158 bn:=by
 refine bq (D:=D) (fn:=Tryz.f158) (c:=Tryz.f158.body.getD .skip) [.any] (by kernel_rfl) (bg (by kernel_rfl)) (by kernel_rfl) (by kernel_rfl) (by kernel_rfl) trivial trivial ?_ ?_
 · rw[loops];exact trivial
 · intro args K r h
   unfold bn at h
   split at h
   · rw[P.aso] at h;exact Aa (by kernel_rfl) h
   · cases h
theorem ok:Proved Tryz.prog GLO.gx 158 spec:=ok0
end oo

namespace om
abbrev X5:=P.b1m
def S5:X5→ASt:=fun (k,l,i,j,a,b,c,d,e,f,g,h)=>⟨[(1,.sl (.ints .u8 k)),(2,.ptr 0 0),(4,.ptr 1 0),(5,.v (.int .i64 l)),(14,.v (.int .i64 i)),(15,.v (.int .i64 j))],[(0,some ⟨.box 132 [.v (.int .i64 a),.arr .u64 25 b,.v (.int .i64 c),.v (.bool d)],false⟩),(1,some ⟨.box 132 [.v (.int .i64 e),.arr .u64 25 f,.v (.int .i64 g),.v (.bool h)],false⟩)],40,40⟩
def V5:ASt→Option X5
 | ⟨[(1,.sl (.ints .u8 k)),(2,.ptr 0 0),(4,.ptr 1 0),(5,.v (.int .i64 l)),(14,.v (.int .i64 i)),(15,.v (.int .i64 j))],[(0,some ⟨.box 132 [.v (.int .i64 a),.arr .u64 25 b,.v (.int .i64 c),.v (.bool d)],false⟩),(1,some ⟨.box 132 [.v (.int .i64 e),.arr .u64 25 f,.v (.int .i64 g),.v (.bool h)],false⟩)],40,40⟩=>some (k,l,i,j,a,b,c,d,e,f,g,h)
 | _=>none
theorem bbx(st)(x)(h:V5 st=some x):st=S5 x:=by
 unfold V5 at h
 split at h
 · cases h;rfl
 · cases h
abbrev Y5:=P.b8u
def E5(K:AExit→ASt→Option R):Y5→Option R:=(fun x=>K (.exit 0) (S5 x))
noncomputable def L5:qy:=fun st K=>adb (V5 st) fun x=>P.cge x (E5 K)
noncomputable def D1:Ctx:=({ P:=Tryz.prog,G:=[(158,oo.spec),(160,jk.spec)],globs:=GLO.gx,hints:=[],loops:=[],inl:=[] }:Ctx)
noncomputable def D:Ctx:=({ P:=Tryz.prog,G:=[(158,oo.spec),(160,jk.spec)],globs:=GLO.gx,hints:=[(5,⟨[1,2,4,5,14,15],[],[4],[],some (40,[0,1]),[],[],[]⟩)],loops:=[(5,L5)],inl:=[(161,ajd D1 Tryz.f161)] }:Ctx)
theorem aqv(K)(next)(x):kg D (gq Tryz.f136 5) K next (S5 x)=P.b1j x (fun x=>next (S5 x)) (E5 K):=by kernel_rfl
theorem bcw:jr D (gq Tryz.f136 5):=iy S5 bbx (by kernel_rfl) P.cg6 aqv
theorem loops:dn (Tryz.f136.body.getD .skip)=[gq Tryz.f136 5]:=by kernel_rfl
theorem aqi:dn (Tryz.f161.body.getD .skip)=[]:=by kernel_rfl
noncomputable def bn:Abs.Spec:=fun args K=>match args with
 | [.agg [.v (.int .i64 c),.arr .u64 25 a,.v (.int .i64 g),.v (.bool e)],.sl (.ints .u8 i)]=>P.om c a g e i (fun d b h f=>K (.agg [.v (.int .i64 d),.arr .u64 25 b,.v (.int .i64 h),.v (.bool f)]))
 | _=>none
noncomputable def spec:Abs.Spec:=fun args K=>bn (mh [.any,.sl (.ints .u8 [])] args) K
theorem ok0:Proved Tryz.prog GLO.gx 136 bn:=by
 refine bq (D:=D) (fn:=Tryz.f136) (c:=Tryz.f136.body.getD .skip) [.any] (by kernel_rfl) (bg (by kernel_rfl)) (by kernel_rfl) (by kernel_rfl) (by kernel_rfl) ⟨oo.ok,jk.ok,trivial⟩ ⟨awu (D:=D1) (D':=D) (fn:=Tryz.f161) (c:=Tryz.f161.body.getD .skip) rfl rfl (by kernel_rfl) (bg (by kernel_rfl)) (by kernel_rfl) (by kernel_rfl) (by kernel_rfl) ⟨oo.ok,jk.ok,trivial⟩ trivial (by rw[aqi];exact trivial) (fun _ _ _ _ _ h=>h),trivial⟩ ?_ ?_
 · rw[loops];exact ⟨bcw,trivial⟩
 · intro args K r h
   unfold bn at h
   split at h
   · rw[P.apk] at h;exact Aa (by kernel_rfl) h
   · cases h
theorem ok:Proved Tryz.prog GLO.gx 136 spec:=dx _ ok0
end om

namespace ab8
noncomputable def D:Ctx:=({ P:=Tryz.prog,G:=[(158,oo.spec)],globs:=GLO.gx,hints:=[],loops:=[],inl:=[] }:Ctx)
theorem loops:dn (Tryz.f134.body.getD .skip)=[]:=by kernel_rfl
noncomputable def bn:Abs.Spec:=fun args K=>match args with
 | [.v (.int .i64 e)]=>P.ab8 e (fun b a d c f=>K (.tuple [.agg [.v (.int .i64 b),.arr .u64 25 a,.v (.int .i64 d),.v (.bool c)],.v (.int .i64 f)]))
 | _=>none
noncomputable def spec:Abs.Spec:=bn
theorem ok0:Proved Tryz.prog GLO.gx 134 bn:=by
 refine bq (D:=D) (fn:=Tryz.f134) (c:=Tryz.f134.body.getD .skip) [.any,.any] (by kernel_rfl) (bg (by kernel_rfl)) (by kernel_rfl) (by kernel_rfl) (by kernel_rfl) ⟨oo.ok,trivial⟩ trivial ?_ ?_
 · rw[loops];exact trivial
 · intro args K r h
   unfold bn at h
   split at h
   · rw[P.aol] at h;exact Aa (by kernel_rfl) h
   · cases h
theorem ok:Proved Tryz.prog GLO.gx 134 spec:=ok0
end ab8

namespace y7
noncomputable def D1:Ctx:=({ P:=Tryz.prog,G:=[(158,oo.spec),(160,jk.spec)],globs:=GLO.gx,hints:=[],loops:=[],inl:=[] }:Ctx)
noncomputable def D:Ctx:=({ P:=Tryz.prog,G:=[(158,oo.spec),(160,jk.spec)],globs:=GLO.gx,hints:=[],loops:=[],inl:=[(161,ajd D1 Tryz.f161)] }:Ctx)
theorem loops:dn (Tryz.f159.body.getD .skip)=[]:=by kernel_rfl
theorem aqi:dn (Tryz.f161.body.getD .skip)=[]:=by kernel_rfl
noncomputable def bn:Abs.Spec:=fun args K=>match args with
 | [.agg [.v (.int .i64 c),.arr .u64 25 a,.v (.int .i64 g),.v (.bool e)]]=>P.y7 c a g e (fun d b h f=>K (.agg [.v (.int .i64 d),.arr .u64 25 b,.v (.int .i64 h),.v (.bool f)]))
 | _=>none
noncomputable def spec:Abs.Spec:=bn
theorem ok0:Proved Tryz.prog GLO.gx 159 bn:=by
 refine bq (D:=D) (fn:=Tryz.f159) (c:=Tryz.f159.body.getD .skip) [.any] (by kernel_rfl) (bg (by kernel_rfl)) (by kernel_rfl) (by kernel_rfl) (by kernel_rfl) ⟨oo.ok,jk.ok,trivial⟩ ⟨awu (D:=D1) (D':=D) (fn:=Tryz.f161) (c:=Tryz.f161.body.getD .skip) rfl rfl (by kernel_rfl) (bg (by kernel_rfl)) (by kernel_rfl) (by kernel_rfl) (by kernel_rfl) ⟨oo.ok,jk.ok,trivial⟩ trivial (by rw[aqi];exact trivial) (fun _ _ _ _ _ h=>h),trivial⟩ ?_ ?_
 · rw[loops];exact trivial
 · intro args K r h
   unfold bn at h
   split at h
   · rw[P.apo] at h;exact Aa (by kernel_rfl) h
   · cases h
theorem ok:Proved Tryz.prog GLO.gx 159 spec:=ok0
end y7

namespace pq
abbrev X7:=P.b34
def S7:X7→ASt:=fun (i,j,a,b,c,d,e,f,g,h,k)=>⟨[(2,.ptr 0 0),(4,.ptr 1 0),(6,.own 2),(19,.v (.int .i64 i)),(20,.v (.int .i64 j))],[(0,some ⟨.box 132 [.v (.int .i64 a),.arr .u64 25 b,.v (.int .i64 c),.v (.bool d)],false⟩),(1,some ⟨.box 132 [.v (.int .i64 e),.arr .u64 25 f,.v (.int .i64 g),.v (.bool h)],false⟩),(2,some ⟨.row 5 (.ints .u8 k),false⟩)],40,56⟩
def V7:ASt→Option X7
 | ⟨[(2,.ptr 0 0),(4,.ptr 1 0),(6,.own 2),(19,.v (.int .i64 i)),(20,.v (.int .i64 j))],[(0,some ⟨.box 132 [.v (.int .i64 a),.arr .u64 25 b,.v (.int .i64 c),.v (.bool d)],false⟩),(1,some ⟨.box 132 [.v (.int .i64 e),.arr .u64 25 f,.v (.int .i64 g),.v (.bool h)],false⟩),(2,some ⟨.row 5 (.ints .u8 k),false⟩)],40,56⟩=>some (i,j,a,b,c,d,e,f,g,h,k)
 | _=>none
theorem bcq(st)(x)(h:V7 st=some x):st=S7 x:=by
 unfold V7 at h
 split at h
 · cases h;rfl
 · cases h
abbrev Y7:=P.cdi
def E7(K:AExit→ASt→Option R):Y7→Option R:=(fun x=>K (.exit 0) (S7 x))
noncomputable def L7:qy:=fun st K=>adb (V7 st) fun x=>P.cc2 x (E7 K)
noncomputable def D:Ctx:=({ P:=Tryz.prog,G:=[(158,oo.spec),(159,y7.spec),(160,jk.spec)],globs:=GLO.gx,hints:=[(7,⟨[2,4,6,19,20],[],[4,5],[],some (40,[0,1,2]),[],[],[]⟩)],loops:=[(7,L7)],inl:=[] }:Ctx)
theorem ars(K)(next)(x):kg D (gq Tryz.f135 7) K next (S7 x)=P.b1z x (fun x=>next (S7 x)) (E7 K):=by kernel_rfl
theorem bbt:jr D (gq Tryz.f135 7):=iy S7 bcq (by kernel_rfl) P.cht ars
theorem loops:dn (Tryz.f135.body.getD .skip)=[gq Tryz.f135 7]:=by kernel_rfl
noncomputable def bn:Abs.Spec:=fun args K=>match args with
 | [.agg [.v (.int .i64 c),.arr .u64 25 a,.v (.int .i64 g),.v (.bool e)],.v (.int .i64 i)]=>P.pq c a g e i (fun d b h f j=>K (.tuple [.agg [.v (.int .i64 d),.arr .u64 25 b,.v (.int .i64 h),.v (.bool f)],.fr 5 (.ints .u8 j)]))
 | _=>none
noncomputable def spec:Abs.Spec:=bn
theorem ok0:Proved Tryz.prog GLO.gx 135 bn:=by
 refine bq (D:=D) (fn:=Tryz.f135) (c:=Tryz.f135.body.getD .skip) [.any,.fr 5 (.ints .u8 [])] (by kernel_rfl) (bg (by kernel_rfl)) (by kernel_rfl) (by kernel_rfl) (by kernel_rfl) ⟨oo.ok,y7.ok,jk.ok,trivial⟩ trivial ?_ ?_
 · rw[loops];exact ⟨bbt,trivial⟩
 · intro args K r h
   unfold bn at h
   split at h
   · rw[P.ane] at h;exact Aa (by kernel_rfl) h
   · cases h
theorem ok:Proved Tryz.prog GLO.gx 135 spec:=ok0
end pq

namespace jo
noncomputable def D:Ctx:=({ P:=Tryz.prog,G:=[(40,jd.spec),(135,pq.spec),(136,om.spec)],globs:=GLO.gx,hints:=[],loops:=[],inl:=[] }:Ctx)
theorem loops:dn (Tryz.f186.body.getD .skip)=[]:=by kernel_rfl
noncomputable def bn:Abs.Spec:=fun args K=>match args with
 | [.arr .u8 32 e,.sl (.ints .u8 f),.sta [.v (.int .i64 b),.arr .u64 25 a,.v (.int .i64 d),.v (.bool c)],.sta [.v (.int .i64 g)]]=>P.jo e f b a d c g (fun h=>K (.fr 5 (.ints .u8 h)))
 | _=>none
noncomputable def spec:Abs.Spec:=fun args K=>bn (mh [.any,.sl (.ints .u8 []),.any,.any] args) K
theorem ok0:Proved Tryz.prog GLO.gx 186 bn:=by
 refine bq (D:=D) (fn:=Tryz.f186) (c:=Tryz.f186.body.getD .skip) [.fr 5 (.ints .u8 [])] (by kernel_rfl) (bg (by kernel_rfl)) (by kernel_rfl) (by kernel_rfl) (by kernel_rfl) ⟨jd.ok,pq.ok,om.ok,trivial⟩ trivial ?_ ?_
 · rw[loops];exact trivial
 · intro args K r h
   unfold bn at h
   split at h
   · rw[P.am7] at h;exact Aa (by kernel_rfl) h
   · cases h
theorem ok:Proved Tryz.prog GLO.gx 186 spec:=dx _ ok0
end jo

namespace aeb
noncomputable def D:Ctx:=({ P:=Tryz.prog,G:=[(134,ab8.spec),(136,om.spec),(186,jo.spec)],globs:=GLO.gx,hints:=[],loops:=[],inl:=[],sta:=true }:Ctx)
theorem loops:dn (Tryz.f168.body.getD .skip)=[]:=by kernel_rfl
noncomputable def bn:Abs.Spec:=fun args K=>match args with
 | [.v (.int .i64 f),.sl (.ints .u8 g)]=>P.aeb f g (fun b a d c e=>K (.fn (.func 186) [] [.sta [.v (.int .i64 b),.arr .u64 25 a,.v (.int .i64 d),.v (.bool c)],.sta [.v (.int .i64 e)]]))
 | _=>none
noncomputable def spec:Abs.Spec:=fun args K=>bn (mh [.any,.sl (.ints .u8 [])] args) K
theorem ok0:Proved Tryz.prog GLO.gx 168 bn:=by
 refine bq (D:=D) (fn:=Tryz.f168) (c:=Tryz.f168.body.getD .skip) [.any] (by kernel_rfl) (bg (by kernel_rfl)) (by kernel_rfl) (by kernel_rfl) (by kernel_rfl) ⟨ab8.ok,om.ok,jo.ok,trivial⟩ trivial ?_ ?_
 · rw[loops];exact trivial
 · intro args K r h
   unfold bn at h
   split at h
   · rw[P.asq] at h;exact Aa (by kernel_rfl) h
   · cases h
theorem ok:Proved Tryz.prog GLO.gx 168 spec:=dx _ ok0
end aeb

namespace abk
noncomputable def D:Ctx:=({ P:=Tryz.prog,G:=[(22,jv.spec),(168,aeb.spec),(169,ad3.spec),(186,jo.spec),(188,jq.spec)],globs:=GLO.gx,hints:=[],loops:=[],inl:=[] }:Ctx)
theorem loops:dn (Tryz.f144.body.getD .skip)=[]:=by kernel_rfl
noncomputable def bn:Abs.Spec:=fun args K=>match args with
 | [.agg [.v (.int .i64 y),.v (.int .i64 z),.v (.int .i64 A),.v (.int .i64 B),.v (.int .i64 C),.v (.bool p)],.sl (.ints .u8 F)]=>P.abk y z A B C p F (fun q r s t u l w d a m k n e b f g o h c i j G=>K (.tuple [.agg [.v (.int .i64 q),.v (.int .i64 r),.v (.int .i64 s),.v (.int .i64 t),.v (.int .i64 u),.v (.bool l),.alt w (.func 186) [] [.sta [.v (.int .i64 d),.arr .u64 25 a,.v (.int .i64 m),.v (.bool k)],.sta [.v (.int .i64 n)]] (.func 188) [] [.sta [.v (.int .i64 e),.arr .u64 8 b,.sl (.ints .u8 f),.v (.int .u64 g)],.sta [.v (.int .i64 o)],.sta [.v (.int .i64 h),.arr .u64 8 c,.sl (.ints .u8 i),.v (.int .u64 j)]]],.v (.bool G)]))
 | _=>none
noncomputable def spec:Abs.Spec:=fun args K=>bn (mh [.any,.sl (.ints .u8 [])] args) K
theorem ok0:Proved Tryz.prog GLO.gx 144 bn:=by
 refine bq (D:=D) (fn:=Tryz.f144) (c:=Tryz.f144.body.getD .skip) [.agg [.any,.any,.any,.any,.any,.any,.alt (.func 186) [] [.sta [.v (.int .i64 0),.arr .u64 25 [],.v (.int .i64 0),.v (.bool false)],.sta [.v (.int .i64 0)]] (.func 188) [] [.sta [.v (.int .i64 0),.arr .u64 8 [],.sl (.ints .u8 []),.v (.int .u64 0)],.sta [.v (.int .i64 0)],.sta [.v (.int .i64 0),.arr .u64 8 [],.sl (.ints .u8 []),.v (.int .u64 0)]]],.any] (by kernel_rfl) (bg (by kernel_rfl)) (by kernel_rfl) (by kernel_rfl) (by kernel_rfl) ⟨jv.ok,aeb.ok,ad3.ok,jo.ok,jq.ok,trivial⟩ trivial ?_ ?_
 · rw[loops];exact trivial
 · intro args K r h
   unfold bn at h
   split at h
   · rw[P.an8] at h;exact Aa (by kernel_rfl) h
   · cases h
theorem ok:Proved Tryz.prog GLO.gx 144 spec:=dx _ ok0
end abk

namespace aao
noncomputable def D:Ctx:=({ P:=Tryz.prog,G:=[(144,abk.spec),(186,jo.spec),(188,jq.spec)],globs:=GLO.gx,hints:=[],loops:=[],inl:=[] }:Ctx)
theorem loops:dn (Tryz.f104.body.getD .skip)=[]:=by kernel_rfl
noncomputable def bn:Abs.Spec:=fun args K=>match args with
 | [.agg [.v (.int .i64 b),.v (.int .i64 c),.v (.int .i64 d),.v (.int .i64 e),.v (.int .i64 f),.v (.bool a)],.sl (.ints .u8 g),.arr .u8 32 h,.sl (.ints .u8 i)]=>P.aao b c d e f a g h i (fun j=>K (.sl (.ints .u8 j)))
 | _=>none
noncomputable def spec:Abs.Spec:=fun args K=>bn (mh [.any,.sl (.ints .u8 []),.any,.sl (.ints .u8 [])] args) K
theorem ok0:Proved Tryz.prog GLO.gx 104 bn:=by
 refine bq (D:=D) (fn:=Tryz.f104) (c:=Tryz.f104.body.getD .skip) [.sl (.ints .u8 [])] (by kernel_rfl) (bg (by kernel_rfl)) (by kernel_rfl) (by kernel_rfl) (by kernel_rfl) ⟨abk.ok,jo.ok,jq.ok,trivial⟩ trivial ?_ ?_
 · rw[loops];exact trivial
 · intro args K r h
   unfold bn at h
   split at h
   · rw[P.bdk] at h;exact Aa (by kernel_rfl) h
   · cases h
theorem ok:Proved Tryz.prog GLO.gx 104 spec:=dx _ ok0
end aao

namespace pz
noncomputable def D:Ctx:=({ P:=Tryz.prog,G:=[(104,aao.spec),(105,qb.spec)],globs:=GLO.gx,hints:=[],loops:=[],inl:=[] }:Ctx)
theorem loops:dn (Tryz.f54.body.getD .skip)=[]:=by kernel_rfl
noncomputable def bn:Abs.Spec:=fun args K=>match args with
 | [.agg [.v (.int .i64 c),.v (.int .i64 d),.v (.int .i64 e),.v (.int .i64 f),.v (.int .i64 g),.v (.bool a),.sl (.ints .u8 b),.sl (.ints .u8 h),.arr .u8 32 i],.sl (.ints .u8 j)]=>P.pz c d e f g a b h i j (fun k=>K (.sl (.ints .u8 k)))
 | _=>none
noncomputable def spec:Abs.Spec:=fun args K=>bn (mh [.agg [.any,.any,.any,.any,.any,.any,.sl (.ints .u8 []),.sl (.ints .u8 []),.any],.sl (.ints .u8 [])] args) K
theorem ok0:Proved Tryz.prog GLO.gx 54 bn:=by
 refine bq (D:=D) (fn:=Tryz.f54) (c:=Tryz.f54.body.getD .skip) [.sl (.ints .u8 [])] (by kernel_rfl) (bg (by kernel_rfl)) (by kernel_rfl) (by kernel_rfl) (by kernel_rfl) ⟨aao.ok,qb.ok,trivial⟩ trivial ?_ ?_
 · rw[loops];exact trivial
 · intro args K r h
   unfold bn at h
   split at h
   · rw[P.amt] at h;exact Aa (by kernel_rfl) h
   · cases h
theorem ok:Proved Tryz.prog GLO.gx 54 spec:=dx _ ok0
end pz

namespace uo
noncomputable def D:Ctx:=({ P:=Tryz.prog,G:=[(39,jc.spec),(105,qb.spec)],globs:=GLO.gx,hints:=[],loops:=[],inl:=[] }:Ctx)
theorem loops:dn (Tryz.f143.body.getD .skip)=[]:=by kernel_rfl
noncomputable def bn:Abs.Spec:=fun args K=>match args with
 | [.agg [.v (.int .i64 c),.v (.int .i64 d),.v (.int .i64 e),.v (.int .i64 f),.v (.int .i64 g),.v (.bool a),.sl (.ints .u8 b),.sl (.ints .u8 h),.arr .u8 32 i],.v (.int .i64 j),.v (.int .u64 k)]=>P.uo c d e f g a b h i j k (fun l=>K (.arr .u8 32 l))
 | _=>none
noncomputable def spec:Abs.Spec:=fun args K=>bn (mh [.agg [.any,.any,.any,.any,.any,.any,.sl (.ints .u8 []),.sl (.ints .u8 []),.any],.any,.any] args) K
theorem ok0:Proved Tryz.prog GLO.gx 143 bn:=by
 refine bq (D:=D) (fn:=Tryz.f143) (c:=Tryz.f143.body.getD .skip) [.any] (by kernel_rfl) (bg (by kernel_rfl)) (by kernel_rfl) (by kernel_rfl) (by kernel_rfl) ⟨jc.ok,qb.ok,trivial⟩ trivial ?_ ?_
 · rw[loops];exact trivial
 · intro args K r h
   unfold bn at h
   split at h
   · rw[P.ajb] at h;exact Aa (by kernel_rfl) h
   · cases h
theorem ok:Proved Tryz.prog GLO.gx 143 spec:=dx _ ok0
end uo

end
