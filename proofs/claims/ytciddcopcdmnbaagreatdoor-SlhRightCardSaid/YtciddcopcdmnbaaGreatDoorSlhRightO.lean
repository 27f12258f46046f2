/-
  SlhRight, part 15: lemmas for the law.
-/

import Derived.Test.YtciddcopcdmnbaaGreatDoorSlhRightK
import Derived.Test.YtciddcopcdmnbaaGreatDoorSlhRightH
import Derived.Test.YtciddcopcdmnbaaGreatDoorProg
import Derived.Test.YtciddcopcdmnbaaGreatDoorSlhRightJ
import Derived.Test.YtciddcopcdmnbaaGreatDoorSlhRightM
import Derived.Test.YtciddcopcdmnbaaGreatDoorSlhRightN
import Derived.KernelRfl
import Derived.Test.YtciddcopcdmnbaaGreatDoorSlhRightI
open Eq renaming trans → Aa

section
open Go Go.Abs Go.Proofs
set_option maxRecDepth 100000
set_option maxHeartbeats 0
set_option linter.unusedVariables false

namespace ab2
abbrev X10:=P.bu2
def S10:X10→ASt:=fun (g,d,e,f,a,b,c,h)=>⟨[(7,.own 40),(1,.ptr 0 0),(3,.v (.int .i64 g)),(45,.arr .u64 8 d),(46,.v (.int .i64 e))],[(40,some ⟨.row 5 (.ints .u8 f),false⟩),(0,some ⟨.box 140 [.v (.int .i64 a),.arr .u64 8 b,.own 5,.v (.int .u64 c)],false⟩),(5,some ⟨.row 5 (.ints .u8 h),false⟩)],41,62⟩
def V10:ASt→Option X10
 | ⟨[(7,.own 40),(1,.ptr 0 0),(3,.v (.int .i64 g)),(45,.arr .u64 8 d),(46,.v (.int .i64 e))],[(40,some ⟨.row 5 (.ints .u8 f),false⟩),(0,some ⟨.box 140 [.v (.int .i64 a),.arr .u64 8 b,.own 5,.v (.int .u64 c)],false⟩),(5,some ⟨.row 5 (.ints .u8 h),false⟩)],41,62⟩=>some (g,d,e,f,a,b,c,h)
 | _=>none
theorem bbn(st)(x)(h:V10 st=some x):st=S10 x:=by unfold V10 at h;split at h;(cases h;rfl);cases h
abbrev Y10:=P.b1x
def E10(K:AExit→ASt→Option R):Y10→Option R:=(fun x=>K (.exit 0) (S10 x))
noncomputable def L10:za:=fun st K=>ag0 (V10 st) fun x=>P.bz6 x (E10 K)
noncomputable def D:Ctx:=({ P:=Tryz.prog,G:=[(75,xg.spec),(166,y9.spec),(180,yg.spec)],globs:=GLO.gx,hints:=[(10,⟨[1,3,45,46],[(7,5,.ints .u8 [])],[2],[],some (40,[0,5]),[],[],[]⟩)],loops:=[(10,L10)],inl:=[] }:Ctx)
theorem bbt:o9 D (je Tryz.f165 10):=jd S10 bbn (by kernel_rfl) P.b4c (enc:=E10) fun _ _ _=>by kernel_rfl
theorem loops:gu (Tryz.f165.body.getD .skip)=[je Tryz.f165 10]:=by kernel_rfl
noncomputable def dn:Abs.Spec:=fun args K=>match args with
 | [.agg [.v (.int .i64 b),.arr .u64 8 a,.sl (.ints .u8 c),.v (.int .u64 d)]]=>P.ab2 b a c d (fun e=>K (.fr 5 (.ints .u8 e)))
 | _=>none
noncomputable def spec:Abs.Spec:=fun args K=>dn (o8 [.agg [.any,.any,.sl (.ints .u8 []),.any]] args) K
theorem ok0:Proved Tryz.prog GLO.gx 165 dn:=by
 refine ayh (D:=D) (fn:=Tryz.f165) (c:=Tryz.f165.body.getD .skip) 5 (.ints .u8 []) (by kernel_rfl) (gy (by kernel_rfl)) (by kernel_rfl) (by kernel_rfl) (by kernel_rfl) ⟨xg.ok,y9.ok,yg.ok,trivial⟩ trivial ?_ ?_
 · rw[loops];exact ⟨bbt,trivial⟩
 · intro args K r h
   unfold dn at h
   split at h
   · rw[P.ax0] at h;exact Aa (by kernel_rfl) h
   · cases h
theorem ok:Proved Tryz.prog GLO.gx 165 spec:=cu _ ok0
end ab2

namespace y7
noncomputable def spec:Abs.Spec:=fun args K=>match args with
 | [.arr .u8 32 a]=>P.y7 a (fun b=>K (.fr 5 (.ints .u8 b)))
 | _=>none
theorem ok:Proved Tryz.prog GLO.gx 189 spec:=pK (G:=[(40,dz.spec)]) (fn:=Tryz.f189) [.fr 5 (.ints .u8 [])] ⟨dz.ok,trivial⟩ fun _ K _ h=>by
  unfold spec at h
  split at h
  · rw[P.aql] at h;exact Aa (by kernel_rfl) h
  · cases h
end y7

namespace jf
noncomputable def dn:Abs.Spec:=fun args K=>match args with
 | [.arr .u8 32 i,.sl (.ints .u8 j),.sta [.v (.int .i64 c),.arr .u64 8 a,.sl (.ints .u8 d),.v (.int .u64 e)],.sta [.v (.int .i64 k)],.sta [.v (.int .i64 f),.arr .u64 8 b,.sl (.ints .u8 g),.v (.int .u64 h)]]=>P.jf i j c a d e k f b g h (fun l=>K (.sl (.ints .u8 l)))
 | _=>none
noncomputable def spec:Abs.Spec:=fun args K=>dn (o8 [.any,.sl (.ints .u8 []),.agg [.any,.any,.sl (.ints .u8 []),.any],.any,.agg [.any,.any,.sl (.ints .u8 []),.any]] args) K
theorem ok0:Proved Tryz.prog GLO.gx 188 dn:=pK (G:=[(40,dz.spec),(165,ab2.spec),(166,y9.spec),(189,y7.spec)]) (fn:=Tryz.f188) [.sl (.ints .u8 [])] ⟨dz.ok,ab2.ok,y9.ok,y7.ok,trivial⟩ fun _ K _ h=>by
  unfold dn at h
  split at h
  · rw[P.akp] at h;exact Aa (by kernel_rfl) h
  · cases h
theorem ok:Proved Tryz.prog GLO.gx 188 spec:=cu _ ok0
end jf

namespace acp
noncomputable def D:Ctx:=({ P:=Tryz.prog,G:=[(187,y5.spec),(188,jf.spec)],globs:=GLO.gx,hints:=[],loops:=[],inl:=[],sta:=true }:Ctx)
theorem loops:gu (Tryz.f169.body.getD .skip)=[]:=by kernel_rfl
noncomputable def dn:Abs.Spec:=fun args K=>match args with
 | [.v (.int .i64 j),.sl (.ints .u8 k)]=>P.acp j k (fun c a d e i f b g h=>K (.fn (.func 188) [] [.sta [.v (.int .i64 c),.arr .u64 8 a,.sl (.ints .u8 d),.v (.int .u64 e)],.sta [.v (.int .i64 i)],.sta [.v (.int .i64 f),.arr .u64 8 b,.sl (.ints .u8 g),.v (.int .u64 h)]]))
 | _=>none
noncomputable def spec:Abs.Spec:=fun args K=>dn (o8 [.any,.sl (.ints .u8 [])] args) K
theorem ok0:Proved Tryz.prog GLO.gx 169 dn:=by
 refine zi (D:=D) (fn:=Tryz.f169) (c:=Tryz.f169.body.getD .skip) [.agg [.agg [.any,.any,.sl (.ints .u8 []),.any],.any,.agg [.any,.any,.sl (.ints .u8 []),.any]]] (by kernel_rfl) (gy (by kernel_rfl)) (by kernel_rfl) (by kernel_rfl) (by kernel_rfl) ⟨y5.ok,jf.ok,trivial⟩ trivial ?_ ?_
 · rw[loops];exact trivial
 · intro args K r h
   unfold dn at h
   split at h
   · rw[P.aor] at h;exact Aa (by kernel_rfl) h
   · cases h
theorem ok:Proved Tryz.prog GLO.gx 169 spec:=cu _ ok0
end acp

namespace jm
noncomputable def spec:Abs.Spec:=fun args K=>match args with
 | [.v (.int .u64 a),.v (.int .i64 b)]=>P.jm a b (fun c=>K (.v (.int .u64 c)))
 | _=>none
theorem ok:Proved Tryz.prog GLO.gx 193 spec:=pK (G:=[]) (fn:=Tryz.f193) [.any] trivial fun _ K _ h=>by
  unfold spec at h
  split at h
  · rw[P.vw] at h;exact Aa (by kernel_rfl) h
  · cases h
end jm

namespace jg
abbrev b5i:=P.zt3
def b0f:b5i→ASt:=fun (d,a,b,c)=>⟨[(0,.ptr 0 0),(2,.ptr 2 0),(4,.v (.int .i64 d))],[(1,some ⟨.box 130 [.arr .u64 25 a],false⟩),(0,some ⟨.box 130 [.arr .u64 25 b],false⟩),(2,some ⟨.box 215 [.arr .u64 5 c],false⟩)],3,44⟩
def bzm:ASt→Option b5i
 | ⟨[(0,.ptr 0 0),(2,.ptr 2 0),(4,.v (.int .i64 d))],[(1,some ⟨.box 130 [.arr .u64 25 a],false⟩),(0,some ⟨.box 130 [.arr .u64 25 b],false⟩),(2,some ⟨.box 215 [.arr .u64 5 c],false⟩)],3,44⟩=>some (d,a,b,c)
 | _=>none
theorem br1(st)(x)(h:bzm st=some x):st=b0f x:=by unfold bzm at h;split at h;(cases h;rfl);cases h
abbrev Y2_2:=P.zy3
abbrev b5j:=P.zt4
def b3q:b5j→ASt:=fun (f,g,h,i,e,a,b,c,d)=>⟨[(0,.ptr 0 0),(1,.v (.int .u64 f)),(4,.ptr 3 0),(5,.v (.int .i64 g)),(6,.v (.int .u64 h)),(7,.v (.int .i64 i)),(16,.v (.int .i64 e))],[(3,some ⟨.box 215 [.arr .u64 5 a],false⟩),(2,some ⟨.box 215 [.arr .u64 5 b],false⟩),(1,some ⟨.box 130 [.arr .u64 25 c],false⟩),(0,some ⟨.box 130 [.arr .u64 25 d],false⟩)],4,116⟩
def bzd:ASt→Option b5j
 | ⟨[(0,.ptr 0 0),(1,.v (.int .u64 f)),(4,.ptr 3 0),(5,.v (.int .i64 g)),(6,.v (.int .u64 h)),(7,.v (.int .i64 i)),(16,.v (.int .i64 e))],[(3,some ⟨.box 215 [.arr .u64 5 a],false⟩),(2,some ⟨.box 215 [.arr .u64 5 b],false⟩),(1,some ⟨.box 130 [.arr .u64 25 c],false⟩),(0,some ⟨.box 130 [.arr .u64 25 d],false⟩)],4,116⟩=>some (f,g,h,i,e,a,b,c,d)
 | _=>none
theorem bq1(st)(x)(h:bzd st=some x):st=b3q x:=by unfold bzd at h;split at h;(cases h;rfl);cases h
abbrev Y1_6:=P.zy4
abbrev b4r:=P.zt5
def b3x:b4r→ASt:=fun (f,e,a,b,c,d)=>⟨[(0,.ptr 0 0),(1,.v (.int .u64 f)),(4,.ptr 3 0),(16,.v (.int .i64 e))],[(0,some ⟨.box 130 [.arr .u64 25 a],false⟩),(1,some ⟨.box 130 [.arr .u64 25 b],false⟩),(2,some ⟨.box 215 [.arr .u64 5 c],false⟩),(3,some ⟨.box 215 [.arr .u64 5 d],false⟩)],4,116⟩
def by0:ASt→Option b4r
 | ⟨[(0,.ptr 0 0),(1,.v (.int .u64 f)),(4,.ptr 3 0),(16,.v (.int .i64 e))],[(0,some ⟨.box 130 [.arr .u64 25 a],false⟩),(1,some ⟨.box 130 [.arr .u64 25 b],false⟩),(2,some ⟨.box 215 [.arr .u64 5 c],false⟩),(3,some ⟨.box 215 [.arr .u64 5 d],false⟩)],4,116⟩=>some (f,e,a,b,c,d)
 | _=>none
theorem bpv(st)(x)(h:by0 st=some x):st=b3x x:=by unfold by0 at h;split at h;(cases h;rfl);cases h
abbrev Y1_2:=P.zy5
abbrev bsu:=P.zt6
def brr:bsu→ASt:=fun (g,h,e,f,a,b,c,d)=>⟨[(0,.ptr 0 0),(1,.v (.int .u64 g)),(8,.v (.int .u64 h)),(51,.arr .i64 24 e),(52,.v (.int .i64 f))],[(3,some ⟨.box 215 [.arr .u64 5 a],false⟩),(2,some ⟨.box 215 [.arr .u64 5 b],false⟩),(1,some ⟨.box 130 [.arr .u64 25 c],false⟩),(0,some ⟨.box 130 [.arr .u64 25 d],false⟩)],4,116⟩
def bqz:ASt→Option bsu
 | ⟨[(0,.ptr 0 0),(1,.v (.int .u64 g)),(8,.v (.int .u64 h)),(51,.arr .i64 24 e),(52,.v (.int .i64 f))],[(3,some ⟨.box 215 [.arr .u64 5 a],false⟩),(2,some ⟨.box 215 [.arr .u64 5 b],false⟩),(1,some ⟨.box 130 [.arr .u64 25 c],false⟩),(0,some ⟨.box 130 [.arr .u64 25 d],false⟩)],4,116⟩=>some (g,h,e,f,a,b,c,d)
 | _=>none
theorem bog(st)(x)(h:bqz st=some x):st=brr x:=by unfold bqz at h;split at h;(cases h;rfl);cases h
abbrev b1r:=P.zy6
abbrev bu6:=P.zt7
def br6:bu6→ASt:=fun (h,f,g,a,b,c,d,e)=>⟨[(0,.ptr 0 0),(1,.v (.int .u64 h)),(11,.v (.int .i64 f)),(12,.ptr 4 0),(83,.v (.int .i64 g))],[(3,some ⟨.box 215 [.arr .u64 5 a],false⟩),(2,some ⟨.box 215 [.arr .u64 5 b],false⟩),(1,some ⟨.box 130 [.arr .u64 25 c],false⟩),(0,some ⟨.box 130 [.arr .u64 25 d],false⟩),(4,some ⟨.box 215 [.arr .u64 5 e],false⟩)],5,116⟩
def brw:ASt→Option bu6
 | ⟨[(0,.ptr 0 0),(1,.v (.int .u64 h)),(11,.v (.int .i64 f)),(12,.ptr 4 0),(83,.v (.int .i64 g))],[(3,some ⟨.box 215 [.arr .u64 5 a],false⟩),(2,some ⟨.box 215 [.arr .u64 5 b],false⟩),(1,some ⟨.box 130 [.arr .u64 25 c],false⟩),(0,some ⟨.box 130 [.arr .u64 25 d],false⟩),(4,some ⟨.box 215 [.arr .u64 5 e],false⟩)],5,116⟩=>some (h,f,g,a,b,c,d,e)
 | _=>none
theorem bng(st)(x)(h:brw st=some x):st=br6 x:=by unfold brw at h;split at h;(cases h;rfl);cases h
abbrev bz7:=P.zy7
abbrev bvh:=P.zt8
def br7:bvh→ASt:=fun (f,e,a,b,c,d)=>⟨[(0,.ptr 0 0),(1,.v (.int .u64 f)),(11,.v (.int .i64 e))],[(0,some ⟨.box 130 [.arr .u64 25 a],false⟩),(1,some ⟨.box 130 [.arr .u64 25 b],false⟩),(2,some ⟨.box 215 [.arr .u64 5 c],false⟩),(3,some ⟨.box 215 [.arr .u64 5 d],false⟩)],4,116⟩
def bry:ASt→Option bvh
 | ⟨[(0,.ptr 0 0),(1,.v (.int .u64 f)),(11,.v (.int .i64 e))],[(0,some ⟨.box 130 [.arr .u64 25 a],false⟩),(1,some ⟨.box 130 [.arr .u64 25 b],false⟩),(2,some ⟨.box 215 [.arr .u64 5 c],false⟩),(3,some ⟨.box 215 [.arr .u64 5 d],false⟩)],4,116⟩=>some (f,e,a,b,c,d)
 | _=>none
theorem bmt(st)(x)(h:bry st=some x):st=br7 x:=by unfold bry at h;split at h;(cases h;rfl);cases h
abbrev bzt:=P.zy8
abbrev X2:=P.zt9
def S2:X2→ASt:=fun (c,d,a,b)=>⟨[(1,.ptr 0 0),(2,.ptr 1 0),(5,.arr .u64 24 c),(6,.v (.int .i64 d))],[(0,some ⟨.box 130 [.arr .u64 25 a],false⟩),(1,some ⟨.box 130 [.arr .u64 25 b],false⟩)],2,13⟩
def V2:ASt→Option X2
 | ⟨[(1,.ptr 0 0),(2,.ptr 1 0),(5,.arr .u64 24 c),(6,.v (.int .i64 d))],[(0,some ⟨.box 130 [.arr .u64 25 a],false⟩),(1,some ⟨.box 130 [.arr .u64 25 b],false⟩)],2,13⟩=>some (c,d,a,b)
 | _=>none
theorem bd3(st)(x)(h:V2 st=some x):st=S2 x:=by unfold V2 at h;split at h;(cases h;rfl);cases h
abbrev Y2:=P.zy9
def b5d(K:AExit→ASt→Option R):Y2_2→Option R:=(fun x=>K (.exit 0) (b0f x))
noncomputable def L2_2:za:=fun st K=>ag0 (bzm st) fun x=>P.zm3 x (b5d K)
def b4e(K:AExit→ASt→Option R):Y1_6→Option R:=(fun x=>K (.exit 2) (b3q x))
noncomputable def L1_6:za:=fun st K=>ag0 (bzd st) fun x=>P.zm4 x (b4e K)
def b4i(K:AExit→ASt→Option R):Y1_2→Option R:=(fun x=>K (.exit 0) (b3x x))
noncomputable def L1_2:za:=fun st K=>ag0 (by0 st) fun x=>P.zm5 x (b4i K)
def bth(K:AExit→ASt→Option R):b1r→Option R:=(fun x=>K (.exit 4) (brr x))
noncomputable def bym:za:=fun st K=>ag0 (bqz st) fun x=>P.zm6 x (bth K)
def bud(K:AExit→ASt→Option R):bz7→Option R:=(fun x=>K (.exit 8) (br6 x))
noncomputable def byd:za:=fun st K=>ag0 (brw st) fun x=>P.zm7 x (bud K)
def bt9(K:AExit→ASt→Option R):bzt→Option R:=(fun x=>K (.exit 6) (br7 x))
noncomputable def bx8:za:=fun st K=>ag0 (bry st) fun x=>P.zm8 x (bt9 K)
def E2(K:AExit→ASt→Option R):Y2→Option R:=(fun x=>K (.exit 0) (S2 x))
noncomputable def L2:za:=fun st K=>ag0 (V2 st) fun x=>P.zm9 x (E2 K)
noncomputable def D2:Ctx:=({ P:=Tryz.prog,G:=[(193,jm.spec)],globs:=GLO.gx,hints:=[(2,⟨[0,2,4],[],[2],[],none,[],[],[]⟩)],loops:=[(2,L2_2)],inl:=[] }:Ctx)
noncomputable def D1:Ctx:=({ P:=Tryz.prog,G:=[(193,jm.spec)],globs:=GLO.gx,hints:=[(21,⟨[0,1,11,12,83],[],[],[],none,[],[],[]⟩),(17,⟨[0,1,11],[],[],[],none,[],[],[]⟩),(12,⟨[0,1,8,51,52],[],[],[],none,[],[],[]⟩),(6,⟨[0,1,4,5,6,7,16],[],[],[],none,[],[],[]⟩),(2,⟨[0,1,4,16],[],[],[],none,[],[],[]⟩)],loops:=[(6,L1_6),(2,L1_2),(12,bym),(21,byd),(17,bx8)],inl:=[(192,adv D2 Tryz.f192)] }:Ctx)
noncomputable def D:Ctx:=({ P:=Tryz.prog,G:=[(193,jm.spec)],globs:=GLO.gx,hints:=[(2,⟨[1,2,5,6],[],[2],[],none,[],[],[]⟩)],loops:=[(2,L2)],inl:=[(178,adv D1 Tryz.f178)] }:Ctx)
theorem bqx:o9 D2 (je Tryz.f192 2):=jd b0f br1 (by kernel_rfl) P.ze3 (enc:=b5d) fun _ _ _=>by kernel_rfl
theorem brv:o9 D1 (je Tryz.f178 6):=jd b3q bq1 (by kernel_rfl) P.ze4 (enc:=b4e) fun _ _ _=>by kernel_rfl
theorem brg:o9 D1 (je Tryz.f178 2):=jd b3x bpv (by kernel_rfl) P.ze5 (enc:=b4i) fun _ _ _=>by kernel_rfl
theorem bm9:o9 D1 (je Tryz.f178 12):=jd brr bog (by kernel_rfl) P.ze6 (enc:=bth) fun _ _ _=>by kernel_rfl
theorem bmd:o9 D1 (je Tryz.f178 21):=jd br6 bng (by kernel_rfl) P.ze7 (enc:=bud) fun _ _ _=>by kernel_rfl
theorem bmr:o9 D1 (je Tryz.f178 17):=jd br7 bmt (by kernel_rfl) P.ze8 (enc:=bt9) fun _ _ _=>by kernel_rfl
theorem bet:o9 D (je Tryz.f160 2):=jd S2 bd3 (by kernel_rfl) P.ze9 (enc:=E2) fun _ _ _=>by kernel_rfl
theorem loops:gu (Tryz.f160.body.getD .skip)=[je Tryz.f160 2]:=by kernel_rfl
theorem ain:gu (Tryz.f178.body.getD .skip)=[je Tryz.f178 2,je Tryz.f178 6,je Tryz.f178 12,je Tryz.f178 17,je Tryz.f178 21]:=by kernel_rfl
theorem aqk:gu (Tryz.f192.body.getD .skip)=[je Tryz.f192 2]:=by kernel_rfl
noncomputable def spec:Abs.Spec:=fun args K=>match args with
 | [.arr .u64 25 a]=>P.jg a (fun b=>K (.arr .u64 25 b))
 | _=>none
theorem ok:Proved Tryz.prog GLO.gx 160 spec:=by
 refine zi (D:=D) (fn:=Tryz.f160) (c:=Tryz.f160.body.getD .skip) [.any] (by kernel_rfl) (gy (by kernel_rfl)) (by kernel_rfl) (by kernel_rfl) (by kernel_rfl) ⟨jm.ok,trivial⟩ ⟨akh (D:=D1) (D':=D) (fn:=Tryz.f178) (c:=Tryz.f178.body.getD .skip) rfl rfl (by kernel_rfl) (gy (by kernel_rfl)) (by kernel_rfl) (by kernel_rfl) (by kernel_rfl) ⟨jm.ok,trivial⟩ ⟨akh (D:=D2) (D':=D1) (fn:=Tryz.f192) (c:=Tryz.f192.body.getD .skip) rfl rfl (by kernel_rfl) (gy (by kernel_rfl)) (by kernel_rfl) (by kernel_rfl) (by kernel_rfl) ⟨jm.ok,trivial⟩ trivial (by rw[aqk];exact ⟨bqx,trivial⟩) (fun _ _ _ _ _ h=>h),trivial⟩ (by rw[ain];exact ⟨brg,brv,bm9,bmr,bmd,trivial⟩) (fun _ _ _ _ _ h=>h),trivial⟩ ?_ ?_
 · rw[loops];exact ⟨bet,trivial⟩
 · intro args K r h
   unfold spec at h
   split at h
   · rw[P.ak0] at h;exact Aa (by kernel_rfl) h
   · cases h
end jg

namespace oq
noncomputable def spec:Abs.Spec:=fun args K=>match args with
 | [.v (.int .i64 a)]=>P.oq a (fun b=>K (.v (.int .i64 b)))
 | _=>none
theorem ok:Proved Tryz.prog GLO.gx 158 spec:=pK (G:=[]) (fn:=Tryz.f158) [.any] trivial fun _ K _ h=>by
  unfold spec at h
  split at h
  · rw[P.aol] at h;exact Aa (by kernel_rfl) h
  · cases h
end oq

namespace ow
abbrev X5:=P.bta
def S5:X5→ASt:=fun (k,l,i,j,a,b,c,d,e,f,g,h)=>⟨[(1,.sl (.ints .u8 k)),(2,.ptr 0 0),(4,.ptr 1 0),(5,.v (.int .i64 l)),(14,.v (.int .i64 i)),(15,.v (.int .i64 j))],[(0,some ⟨.box 132 [.v (.int .i64 a),.arr .u64 25 b,.v (.int .i64 c),.v (.bool d)],false⟩),(1,some ⟨.box 132 [.v (.int .i64 e),.arr .u64 25 f,.v (.int .i64 g),.v (.bool h)],false⟩)],40,40⟩
def V5:ASt→Option X5
 | ⟨[(1,.sl (.ints .u8 k)),(2,.ptr 0 0),(4,.ptr 1 0),(5,.v (.int .i64 l)),(14,.v (.int .i64 i)),(15,.v (.int .i64 j))],[(0,some ⟨.box 132 [.v (.int .i64 a),.arr .u64 25 b,.v (.int .i64 c),.v (.bool d)],false⟩),(1,some ⟨.box 132 [.v (.int .i64 e),.arr .u64 25 f,.v (.int .i64 g),.v (.bool h)],false⟩)],40,40⟩=>some (k,l,i,j,a,b,c,d,e,f,g,h)
 | _=>none
theorem bi8(st)(x)(h:V5 st=some x):st=S5 x:=by unfold V5 at h;split at h;(cases h;rfl);cases h
abbrev Y5:=P.bzb
def E5(K:AExit→ASt→Option R):Y5→Option R:=(fun x=>K (.exit 0) (S5 x))
noncomputable def L5:za:=fun st K=>ag0 (V5 st) fun x=>P.b1m x (E5 K)
noncomputable def D1:Ctx:=({ P:=Tryz.prog,G:=[(158,oq.spec),(160,jg.spec)],globs:=GLO.gx,hints:=[],loops:=[],inl:=[] }:Ctx)
noncomputable def D:Ctx:=({ P:=Tryz.prog,G:=[(158,oq.spec),(160,jg.spec)],globs:=GLO.gx,hints:=[(5,⟨[1,2,4,5,14,15],[],[4],[],some (40,[0,1]),[],[],[]⟩)],loops:=[(5,L5)],inl:=[(161,adv D1 Tryz.f161)] }:Ctx)
theorem bil:o9 D (je Tryz.f136 5):=jd S5 bi8 (by kernel_rfl) P.b5k (enc:=E5) fun _ _ _=>by kernel_rfl
theorem loops:gu (Tryz.f136.body.getD .skip)=[je Tryz.f136 5]:=by kernel_rfl
theorem ain:gu (Tryz.f161.body.getD .skip)=[]:=by kernel_rfl
noncomputable def dn:Abs.Spec:=fun args K=>match args with
 | [.agg [.v (.int .i64 c),.arr .u64 25 a,.v (.int .i64 g),.v (.bool e)],.sl (.ints .u8 i)]=>P.ow c a g e i (fun d b h f=>K (.agg [.v (.int .i64 d),.arr .u64 25 b,.v (.int .i64 h),.v (.bool f)]))
 | _=>none
noncomputable def spec:Abs.Spec:=fun args K=>dn (o8 [.any,.sl (.ints .u8 [])] args) K
theorem ok0:Proved Tryz.prog GLO.gx 136 dn:=by
 refine zi (D:=D) (fn:=Tryz.f136) (c:=Tryz.f136.body.getD .skip) [.any] (by kernel_rfl) (gy (by kernel_rfl)) (by kernel_rfl) (by kernel_rfl) (by kernel_rfl) ⟨oq.ok,jg.ok,trivial⟩ ⟨akh (D:=D1) (D':=D) (fn:=Tryz.f161) (c:=Tryz.f161.body.getD .skip) rfl rfl (by kernel_rfl) (gy (by kernel_rfl)) (by kernel_rfl) (by kernel_rfl) (by kernel_rfl) ⟨oq.ok,jg.ok,trivial⟩ trivial (by rw[ain];exact trivial) (fun _ _ _ _ _ h=>h),trivial⟩ ?_ ?_
 · rw[loops];exact ⟨bil,trivial⟩
 · intro args K r h
   unfold dn at h
   split at h
   · rw[P.al5] at h;exact Aa (by kernel_rfl) h
   · cases h
theorem ok:Proved Tryz.prog GLO.gx 136 spec:=cu _ ok0
end ow

namespace abg
noncomputable def spec:Abs.Spec:=fun args K=>match args with
 | [.v (.int .i64 e)]=>P.abg e (fun b a d c f=>K (.tuple [.agg [.v (.int .i64 b),.arr .u64 25 a,.v (.int .i64 d),.v (.bool c)],.v (.int .i64 f)]))
 | _=>none
theorem ok:Proved Tryz.prog GLO.gx 134 spec:=pK (G:=[(158,oq.spec)]) (fn:=Tryz.f134) [.any,.any] ⟨oq.ok,trivial⟩ fun _ K _ h=>by
  unfold spec at h
  split at h
  · rw[P.alp] at h;exact Aa (by kernel_rfl) h
  · cases h
end abg

namespace xu
noncomputable def D1:Ctx:=({ P:=Tryz.prog,G:=[(158,oq.spec),(160,jg.spec)],globs:=GLO.gx,hints:=[],loops:=[],inl:=[] }:Ctx)
noncomputable def D:Ctx:=({ P:=Tryz.prog,G:=[(158,oq.spec),(160,jg.spec)],globs:=GLO.gx,hints:=[],loops:=[],inl:=[(161,adv D1 Tryz.f161)] }:Ctx)
theorem loops:gu (Tryz.f159.body.getD .skip)=[]:=by kernel_rfl
theorem ain:gu (Tryz.f161.body.getD .skip)=[]:=by kernel_rfl
noncomputable def spec:Abs.Spec:=fun args K=>match args with
 | [.agg [.v (.int .i64 c),.arr .u64 25 a,.v (.int .i64 g),.v (.bool e)]]=>P.xu c a g e (fun d b h f=>K (.agg [.v (.int .i64 d),.arr .u64 25 b,.v (.int .i64 h),.v (.bool f)]))
 | _=>none
theorem ok:Proved Tryz.prog GLO.gx 159 spec:=by
 refine zi (D:=D) (fn:=Tryz.f159) (c:=Tryz.f159.body.getD .skip) [.any] (by kernel_rfl) (gy (by kernel_rfl)) (by kernel_rfl) (by kernel_rfl) (by kernel_rfl) ⟨oq.ok,jg.ok,trivial⟩ ⟨akh (D:=D1) (D':=D) (fn:=Tryz.f161) (c:=Tryz.f161.body.getD .skip) rfl rfl (by kernel_rfl) (gy (by kernel_rfl)) (by kernel_rfl) (by kernel_rfl) (by kernel_rfl) ⟨oq.ok,jg.ok,trivial⟩ trivial (by rw[ain];exact trivial) (fun _ _ _ _ _ h=>h),trivial⟩ ?_ ?_
 · rw[loops];exact trivial
 · intro args K r h
   unfold spec at h
   split at h
   · rw[P.al0] at h;exact Aa (by kernel_rfl) h
   · cases h
end xu

namespace qo
abbrev X7:=P.bva
def S7:X7→ASt:=fun (i,j,a,b,c,d,e,f,g,h,k)=>⟨[(2,.ptr 0 0),(4,.ptr 1 0),(6,.own 2),(19,.v (.int .i64 i)),(20,.v (.int .i64 j))],[(0,some ⟨.box 132 [.v (.int .i64 a),.arr .u64 25 b,.v (.int .i64 c),.v (.bool d)],false⟩),(1,some ⟨.box 132 [.v (.int .i64 e),.arr .u64 25 f,.v (.int .i64 g),.v (.bool h)],false⟩),(2,some ⟨.row 5 (.ints .u8 k),false⟩)],40,56⟩
def V7:ASt→Option X7
 | ⟨[(2,.ptr 0 0),(4,.ptr 1 0),(6,.own 2),(19,.v (.int .i64 i)),(20,.v (.int .i64 j))],[(0,some ⟨.box 132 [.v (.int .i64 a),.arr .u64 25 b,.v (.int .i64 c),.v (.bool d)],false⟩),(1,some ⟨.box 132 [.v (.int .i64 e),.arr .u64 25 f,.v (.int .i64 g),.v (.bool h)],false⟩),(2,some ⟨.row 5 (.ints .u8 k),false⟩)],40,56⟩=>some (i,j,a,b,c,d,e,f,g,h,k)
 | _=>none
theorem bkb(st)(x)(h:V7 st=some x):st=S7 x:=by unfold V7 at h;split at h;(cases h;rfl);cases h
abbrev Y7:=P.b25
def E7(K:AExit→ASt→Option R):Y7→Option R:=(fun x=>K (.exit 0) (S7 x))
noncomputable def L7:za:=fun st K=>ag0 (V7 st) fun x=>P.bzx x (E7 K)
noncomputable def D:Ctx:=⟨Tryz.prog,[(158,oq.spec),(159,xu.spec),(160,jg.spec)],GLO.gx,[(7,⟨[2,4,6,19,20],[],[4,5],[],some (40,[0,1,2]),[],[],[]⟩)],[(7,L7)],[],false,none,none,[],false⟩
theorem bjf:o9 D (je Tryz.f135 7):=jd S7 bkb (by kernel_rfl) P.b5n (enc:=E7) fun _ _ _=>by kernel_rfl
theorem loops:gu (Tryz.f135.body.getD .skip)=[je Tryz.f135 7]:=by kernel_rfl
noncomputable def spec:Abs.Spec:=fun args K=>match args with
 | [.agg [.v (.int .i64 c),.arr .u64 25 a,.v (.int .i64 g),.v (.bool e)],.v (.int .i64 i)]=>P.qo c a g e i (fun d b h f j=>K (.tuple [.agg [.v (.int .i64 d),.arr .u64 25 b,.v (.int .i64 h),.v (.bool f)],.fr 5 (.ints .u8 j)]))
 | _=>none
theorem ok:Proved Tryz.prog GLO.gx 135 spec:=pL (D:=D) (fn:=Tryz.f135) [.any,.fr 5 (.ints .u8 [])] ⟨oq.ok,xu.ok,jg.ok,trivial⟩ loops ⟨bjf,trivial⟩ fun _ K _ h=>by
  unfold spec at h
  split at h
  · rw[P.aj8] at h;exact Aa (by kernel_rfl) h
  · cases h
end qo

namespace jh
noncomputable def dn:Abs.Spec:=fun args K=>match args with
 | [.arr .u8 32 e,.sl (.ints .u8 f),.sta [.v (.int .i64 b),.arr .u64 25 a,.v (.int .i64 d),.v (.bool c)],.sta [.v (.int .i64 g)]]=>P.jh e f b a d c g (fun h=>K (.fr 5 (.ints .u8 h)))
 | _=>none
noncomputable def spec:Abs.Spec:=fun args K=>dn (o8 [.any,.sl (.ints .u8 []),.any,.any] args) K
theorem ok0:Proved Tryz.prog GLO.gx 186 dn:=pK (G:=[(40,dz.spec),(135,qo.spec),(136,ow.spec)]) (fn:=Tryz.f186) [.fr 5 (.ints .u8 [])] ⟨dz.ok,qo.ok,ow.ok,trivial⟩ fun _ K _ h=>by
  unfold dn at h
  split at h
  · rw[P.akj] at h;exact Aa (by kernel_rfl) h
  · cases h
theorem ok:Proved Tryz.prog GLO.gx 186 spec:=cu _ ok0
end jh

namespace acy
noncomputable def D:Ctx:=({ P:=Tryz.prog,G:=[(134,abg.spec),(136,ow.spec),(186,jh.spec)],globs:=GLO.gx,hints:=[],loops:=[],inl:=[],sta:=true }:Ctx)
theorem loops:gu (Tryz.f168.body.getD .skip)=[]:=by kernel_rfl
noncomputable def dn:Abs.Spec:=fun args K=>match args with
 | [.v (.int .i64 f),.sl (.ints .u8 g)]=>P.acy f g (fun b a d c e=>K (.fn (.func 186) [] [.sta [.v (.int .i64 b),.arr .u64 25 a,.v (.int .i64 d),.v (.bool c)],.sta [.v (.int .i64 e)]]))
 | _=>none
noncomputable def spec:Abs.Spec:=fun args K=>dn (o8 [.any,.sl (.ints .u8 [])] args) K
theorem ok0:Proved Tryz.prog GLO.gx 168 dn:=by
 refine zi (D:=D) (fn:=Tryz.f168) (c:=Tryz.f168.body.getD .skip) [.any] (by kernel_rfl) (gy (by kernel_rfl)) (by kernel_rfl) (by kernel_rfl) (by kernel_rfl) ⟨abg.ok,ow.ok,jh.ok,trivial⟩ trivial ?_ ?_
 · rw[loops];exact trivial
 · intro args K r h
   unfold dn at h
   split at h
   · rw[P.aow] at h;exact Aa (by kernel_rfl) h
   · cases h
theorem ok:Proved Tryz.prog GLO.gx 168 spec:=cu _ ok0
end acy

namespace vo
noncomputable def dn:Abs.Spec:=fun args K=>match args with
 | [.agg [.v (.int .i64 y),.v (.int .i64 z),.v (.int .i64 A),.v (.int .i64 B),.v (.int .i64 C),.v (.bool p)],.sl (.ints .u8 F)]=>P.vo y z A B C p F (fun q r s t u l w d a m k n e b f g o h c i j G=>K (.tuple [.agg [.v (.int .i64 q),.v (.int .i64 r),.v (.int .i64 s),.v (.int .i64 t),.v (.int .i64 u),.v (.bool l),.alt w (.func 186) [] [.sta [.v (.int .i64 d),.arr .u64 25 a,.v (.int .i64 m),.v (.bool k)],.sta [.v (.int .i64 n)]] (.func 188) [] [.sta [.v (.int .i64 e),.arr .u64 8 b,.sl (.ints .u8 f),.v (.int .u64 g)],.sta [.v (.int .i64 o)],.sta [.v (.int .i64 h),.arr .u64 8 c,.sl (.ints .u8 i),.v (.int .u64 j)]]],.v (.bool G)]))
 | _=>none
noncomputable def spec:Abs.Spec:=fun args K=>dn (o8 [.any,.sl (.ints .u8 [])] args) K
theorem ok0:Proved Tryz.prog GLO.gx 144 dn:=pK (G:=[(22,ji.spec),(168,acy.spec),(169,acp.spec),(186,jh.spec),(188,jf.spec)]) (fn:=Tryz.f144) [.agg [.any,.any,.any,.any,.any,.any,.alt (.func 186) [] [.sta [.v (.int .i64 0),.arr .u64 25 [],.v (.int .i64 0),.v (.bool false)],.sta [.v (.int .i64 0)]] (.func 188) [] [.sta [.v (.int .i64 0),.arr .u64 8 [],.sl (.ints .u8 []),.v (.int .u64 0)],.sta [.v (.int .i64 0)],.sta [.v (.int .i64 0),.arr .u64 8 [],.sl (.ints .u8 []),.v (.int .u64 0)]]],.any] ⟨ji.ok,acy.ok,acp.ok,jh.ok,jf.ok,trivial⟩ fun _ K _ h=>by
  unfold dn at h
  split at h
  · rw[P.ak7] at h;exact Aa (by kernel_rfl) h
  · cases h
theorem ok:Proved Tryz.prog GLO.gx 144 spec:=cu _ ok0
end vo

end
