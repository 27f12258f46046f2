/-
  SlhSigns, part 16: lemmas for the law.
-/

import Derived.Test.YtciddcopcdmnbaaGreatDoorSlhSignsK
import Derived.Test.YtciddcopcdmnbaaGreatDoorSlhSignsH
import Derived.Test.YtciddcopcdmnbaaGreatDoorProg
import Derived.Test.YtciddcopcdmnbaaGreatDoorSlhSignsJ
import Derived.Test.YtciddcopcdmnbaaGreatDoorSlhSignsN
import Derived.Test.YtciddcopcdmnbaaGreatDoorSlhSignsO
import Derived.KernelRfl
import Derived.Test.YtciddcopcdmnbaaGreatDoorSlhSignsI
open Eq renaming trans → Aa

section
open Go Go.Abs Go.Proofs
set_option maxRecDepth 100000
set_option maxHeartbeats 0
set_option linter.unusedVariables false

namespace adw
abbrev X10:=P.b80
def S10:X10→ASt:=fun (g,d,e,f,a,b,c,h)=>⟨[(7,.own 40),(1,.ptr 0 0),(3,.v (.int .i64 g)),(45,.arr .u64 8 d),(46,.v (.int .i64 e))],[(40,some ⟨.row 5 (.ints .u8 f),false⟩),(0,some ⟨.box 140 [.v (.int .i64 a),.arr .u64 8 b,.own 5,.v (.int .u64 c)],false⟩),(5,some ⟨.row 5 (.ints .u8 h),false⟩)],41,62⟩
def V10:ASt→Option X10
 | ⟨[(7,.own 40),(1,.ptr 0 0),(3,.v (.int .i64 g)),(45,.arr .u64 8 d),(46,.v (.int .i64 e))],[(40,some ⟨.row 5 (.ints .u8 f),false⟩),(0,some ⟨.box 140 [.v (.int .i64 a),.arr .u64 8 b,.own 5,.v (.int .u64 c)],false⟩),(5,some ⟨.row 5 (.ints .u8 h),false⟩)],41,62⟩=>some (g,d,e,f,a,b,c,h)
 | _=>none
theorem bhb(st)(x)(h:V10 st=some x):st=S10 x:=by unfold V10 at h;split at h;(cases h;rfl);cases h
abbrev Y10:=P.cil
def E10(K:AExit→ASt→Option R):Y10→Option R:=(fun x=>K (.exit 0) (S10 x))
noncomputable def L10:p8:=fun st K=>abx (V10 st) fun x=>P.cjn x (E10 K)
noncomputable def D:Ctx:=({ P:=Tryz.prog,G:=[(75,y7.spec),(166,aaf.spec),(180,zn.spec)],globs:=GLO.gx,hints:=[(10,⟨[1,3,45,46],[(7,5,.ints .u8 [])],[2],[],some (40,[0,5]),[],[],[]⟩)],loops:=[(10,L10)],inl:=[] }:Ctx)
theorem bg3:jl D (gu Tryz.f165 10):=fq S10 bhb (by kernel_rfl) P.cr8 (enc:=E10) fun _ _ _=>by kernel_rfl
theorem loops:gy (Tryz.f165.body.getD .skip)=[gu Tryz.f165 10]:=by kernel_rfl
noncomputable def cu:Abs.Spec:=fun args K=>match args with
 | [.agg [.v (.int .i64 b),.arr .u64 8 a,.sl (.ints .u8 c),.v (.int .u64 d)]]=>P.adw b a c d (fun e=>K (.fr 5 (.ints .u8 e)))
 | _=>none
noncomputable def spec:Abs.Spec:=fun args K=>cu (j5 [.agg [.any,.any,.sl (.ints .u8 []),.any]] args) K
theorem ok0:Proved Tryz.prog GLO.gx 165 cu:=by
 refine bbd (D:=D) (fn:=Tryz.f165) (c:=Tryz.f165.body.getD .skip) 5 (.ints .u8 []) (by kernel_rfl) (je (by kernel_rfl)) (by kernel_rfl) (by kernel_rfl) (by kernel_rfl) ⟨y7.ok,aaf.ok,zn.ok,trivial⟩ trivial ?_ ?_
 · rw[loops];exact ⟨bg3,trivial⟩
 · intro args K r h
   unfold cu at h
   split at h
   · rw[P.bjb] at h;exact Aa (by kernel_rfl) h
   · cases h
theorem ok:Proved Tryz.prog GLO.gx 165 spec:=bq _ ok0
end adw

namespace aae
noncomputable def spec:Abs.Spec:=fun args K=>match args with
 | [.arr .u8 32 a]=>P.aae a (fun b=>K (.fr 5 (.ints .u8 b)))
 | _=>none
theorem ok:Proved Tryz.prog GLO.gx 189 spec:=pK (G:=[(40,jc.spec)]) (fn:=Tryz.f189) [.fr 5 (.ints .u8 [])] ⟨jc.ok,trivial⟩ fun _ K _ h=>by
  unfold spec at h
  split at h
  · rw[P.azy] at h;exact Aa (by kernel_rfl) h
  · cases h
end aae

namespace jm
noncomputable def cu:Abs.Spec:=fun args K=>match args with
 | [.arr .u8 32 i,.sl (.ints .u8 j),.sta [.v (.int .i64 c),.arr .u64 8 a,.sl (.ints .u8 d),.v (.int .u64 e)],.sta [.v (.int .i64 k)],.sta [.v (.int .i64 f),.arr .u64 8 b,.sl (.ints .u8 g),.v (.int .u64 h)]]=>P.jm i j c a d e k f b g h (fun l=>K (.sl (.ints .u8 l)))
 | _=>none
noncomputable def spec:Abs.Spec:=fun args K=>cu (j5 [.any,.sl (.ints .u8 []),.agg [.any,.any,.sl (.ints .u8 []),.any],.any,.agg [.any,.any,.sl (.ints .u8 []),.any]] args) K
theorem ok0:Proved Tryz.prog GLO.gx 188 cu:=pK (G:=[(40,jc.spec),(165,adw.spec),(166,aaf.spec),(189,aae.spec)]) (fn:=Tryz.f188) [.sl (.ints .u8 [])] ⟨jc.ok,adw.ok,aaf.ok,aae.ok,trivial⟩ fun _ K _ h=>by
  unfold cu at h
  split at h
  · rw[P.aos] at h;exact Aa (by kernel_rfl) h
  · cases h
theorem ok:Proved Tryz.prog GLO.gx 188 spec:=bq _ ok0
end jm

namespace aec
noncomputable def D:Ctx:=({ P:=Tryz.prog,G:=[(187,aah.spec),(188,jm.spec)],globs:=GLO.gx,hints:=[],loops:=[],inl:=[],sta:=true }:Ctx)
theorem loops:gy (Tryz.f169.body.getD .skip)=[]:=by kernel_rfl
noncomputable def cu:Abs.Spec:=fun args K=>match args with
 | [.v (.int .i64 j),.sl (.ints .u8 k)]=>P.aec j k (fun c a d e i f b g h=>K (.fn (.func 188) [] [.sta [.v (.int .i64 c),.arr .u64 8 a,.sl (.ints .u8 d),.v (.int .u64 e)],.sta [.v (.int .i64 i)],.sta [.v (.int .i64 f),.arr .u64 8 b,.sl (.ints .u8 g),.v (.int .u64 h)]]))
 | _=>none
noncomputable def spec:Abs.Spec:=fun args K=>cu (j5 [.any,.sl (.ints .u8 [])] args) K
theorem ok0:Proved Tryz.prog GLO.gx 169 cu:=by
 refine z8 (D:=D) (fn:=Tryz.f169) (c:=Tryz.f169.body.getD .skip) [.agg [.agg [.any,.any,.sl (.ints .u8 []),.any],.any,.agg [.any,.any,.sl (.ints .u8 []),.any]]] (by kernel_rfl) (je (by kernel_rfl)) (by kernel_rfl) (by kernel_rfl) (by kernel_rfl) ⟨aah.ok,jm.ok,trivial⟩ trivial ?_ ?_
 · rw[loops];exact trivial
 · intro args K r h
   unfold cu at h
   split at h
   · rw[P.avb] at h;exact Aa (by kernel_rfl) h
   · cases h
theorem ok:Proved Tryz.prog GLO.gx 169 spec:=bq _ ok0
end aec

namespace j6
noncomputable def spec:Abs.Spec:=fun args K=>match args with
 | [.v (.int .u64 a),.v (.int .i64 b)]=>P.j6 a b (fun c=>K (.v (.int .u64 c)))
 | _=>none
theorem ok:Proved Tryz.prog GLO.gx 193 spec:=pK (G:=[]) (fn:=Tryz.f193) [.any] trivial fun _ K _ h=>by
  unfold spec at h
  split at h
  · rw[P.x9] at h;exact Aa (by kernel_rfl) h
  · cases h
end j6

namespace jo
abbrev cr3:=P.zt3
def ch5:cr3→ASt:=fun (d,a,b,c)=>⟨[(0,.ptr 0 0),(2,.ptr 2 0),(4,.v (.int .i64 d))],[(1,some ⟨.box 130 [.arr .u64 25 a],false⟩),(0,some ⟨.box 130 [.arr .u64 25 b],false⟩),(2,some ⟨.box 215 [.arr .u64 5 c],false⟩)],3,44⟩
def cfo:ASt→Option cr3
 | ⟨[(0,.ptr 0 0),(2,.ptr 2 0),(4,.v (.int .i64 d))],[(1,some ⟨.box 130 [.arr .u64 25 a],false⟩),(0,some ⟨.box 130 [.arr .u64 25 b],false⟩),(2,some ⟨.box 215 [.arr .u64 5 c],false⟩)],3,44⟩=>some (d,a,b,c)
 | _=>none
theorem b21(st)(x)(h:cfo st=some x):st=ch5 x:=by unfold cfo at h;split at h;(cases h;rfl);cases h
abbrev Y2_2:=P.zy3
abbrev cr5:=P.zt4
def ck5:cr5→ASt:=fun (f,g,h,i,e,a,b,c,d)=>⟨[(0,.ptr 0 0),(1,.v (.int .u64 f)),(4,.ptr 3 0),(5,.v (.int .i64 g)),(6,.v (.int .u64 h)),(7,.v (.int .i64 i)),(16,.v (.int .i64 e))],[(3,some ⟨.box 215 [.arr .u64 5 a],false⟩),(2,some ⟨.box 215 [.arr .u64 5 b],false⟩),(1,some ⟨.box 130 [.arr .u64 25 c],false⟩),(0,some ⟨.box 130 [.arr .u64 25 d],false⟩)],4,116⟩
def cgf:ASt→Option cr5
 | ⟨[(0,.ptr 0 0),(1,.v (.int .u64 f)),(4,.ptr 3 0),(5,.v (.int .i64 g)),(6,.v (.int .u64 h)),(7,.v (.int .i64 i)),(16,.v (.int .i64 e))],[(3,some ⟨.box 215 [.arr .u64 5 a],false⟩),(2,some ⟨.box 215 [.arr .u64 5 b],false⟩),(1,some ⟨.box 130 [.arr .u64 25 c],false⟩),(0,some ⟨.box 130 [.arr .u64 25 d],false⟩)],4,116⟩=>some (f,g,h,i,e,a,b,c,d)
 | _=>none
theorem b31(st)(x)(h:cgf st=some x):st=ck5 x:=by unfold cgf at h;split at h;(cases h;rfl);cases h
abbrev Y1_6:=P.zy4
abbrev cra:=P.zt5
def cot:cra→ASt:=fun (f,e,a,b,c,d)=>⟨[(0,.ptr 0 0),(1,.v (.int .u64 f)),(4,.ptr 3 0),(16,.v (.int .i64 e))],[(0,some ⟨.box 130 [.arr .u64 25 a],false⟩),(1,some ⟨.box 130 [.arr .u64 25 b],false⟩),(2,some ⟨.box 215 [.arr .u64 5 c],false⟩),(3,some ⟨.box 215 [.arr .u64 5 d],false⟩)],4,116⟩
def cj8:ASt→Option cra
 | ⟨[(0,.ptr 0 0),(1,.v (.int .u64 f)),(4,.ptr 3 0),(16,.v (.int .i64 e))],[(0,some ⟨.box 130 [.arr .u64 25 a],false⟩),(1,some ⟨.box 130 [.arr .u64 25 b],false⟩),(2,some ⟨.box 215 [.arr .u64 5 c],false⟩),(3,some ⟨.box 215 [.arr .u64 5 d],false⟩)],4,116⟩=>some (f,e,a,b,c,d)
 | _=>none
theorem b3k(st)(x)(h:cj8 st=some x):st=cot x:=by unfold cj8 at h;split at h;(cases h;rfl);cases h
abbrev Y1_2:=P.zy5
abbrev b8x:=P.zt6
def b2t:b8x→ASt:=fun (g,h,e,f,a,b,c,d)=>⟨[(0,.ptr 0 0),(1,.v (.int .u64 g)),(8,.v (.int .u64 h)),(51,.arr .i64 24 e),(52,.v (.int .i64 f))],[(3,some ⟨.box 215 [.arr .u64 5 a],false⟩),(2,some ⟨.box 215 [.arr .u64 5 b],false⟩),(1,some ⟨.box 130 [.arr .u64 25 c],false⟩),(0,some ⟨.box 130 [.arr .u64 25 d],false⟩)],4,116⟩
def b46:ASt→Option b8x
 | ⟨[(0,.ptr 0 0),(1,.v (.int .u64 g)),(8,.v (.int .u64 h)),(51,.arr .i64 24 e),(52,.v (.int .i64 f))],[(3,some ⟨.box 215 [.arr .u64 5 a],false⟩),(2,some ⟨.box 215 [.arr .u64 5 b],false⟩),(1,some ⟨.box 130 [.arr .u64 25 c],false⟩),(0,some ⟨.box 130 [.arr .u64 25 d],false⟩)],4,116⟩=>some (g,h,e,f,a,b,c,d)
 | _=>none
theorem bzw(st)(x)(h:b46 st=some x):st=b2t x:=by unfold b46 at h;split at h;(cases h;rfl);cases h
abbrev cmh:=P.zy6
abbrev b6u:=P.zt7
def b4u:b6u→ASt:=fun (h,f,g,a,b,c,d,e)=>⟨[(0,.ptr 0 0),(1,.v (.int .u64 h)),(11,.v (.int .i64 f)),(12,.ptr 4 0),(83,.v (.int .i64 g))],[(3,some ⟨.box 215 [.arr .u64 5 a],false⟩),(2,some ⟨.box 215 [.arr .u64 5 b],false⟩),(1,some ⟨.box 130 [.arr .u64 25 c],false⟩),(0,some ⟨.box 130 [.arr .u64 25 d],false⟩),(4,some ⟨.box 215 [.arr .u64 5 e],false⟩)],5,116⟩
def b4c:ASt→Option b6u
 | ⟨[(0,.ptr 0 0),(1,.v (.int .u64 h)),(11,.v (.int .i64 f)),(12,.ptr 4 0),(83,.v (.int .i64 g))],[(3,some ⟨.box 215 [.arr .u64 5 a],false⟩),(2,some ⟨.box 215 [.arr .u64 5 b],false⟩),(1,some ⟨.box 130 [.arr .u64 25 c],false⟩),(0,some ⟨.box 130 [.arr .u64 25 d],false⟩),(4,some ⟨.box 215 [.arr .u64 5 e],false⟩)],5,116⟩=>some (h,f,g,a,b,c,d,e)
 | _=>none
theorem by0(st)(x)(h:b4c st=some x):st=b4u x:=by unfold b4c at h;split at h;(cases h;rfl);cases h
abbrev ck8:=P.zy7
abbrev b5o:=P.zt8
def b44:b5o→ASt:=fun (f,e,a,b,c,d)=>⟨[(0,.ptr 0 0),(1,.v (.int .u64 f)),(11,.v (.int .i64 e))],[(0,some ⟨.box 130 [.arr .u64 25 a],false⟩),(1,some ⟨.box 130 [.arr .u64 25 b],false⟩),(2,some ⟨.box 215 [.arr .u64 5 c],false⟩),(3,some ⟨.box 215 [.arr .u64 5 d],false⟩)],4,116⟩
def b42:ASt→Option b5o
 | ⟨[(0,.ptr 0 0),(1,.v (.int .u64 f)),(11,.v (.int .i64 e))],[(0,some ⟨.box 130 [.arr .u64 25 a],false⟩),(1,some ⟨.box 130 [.arr .u64 25 b],false⟩),(2,some ⟨.box 215 [.arr .u64 5 c],false⟩),(3,some ⟨.box 215 [.arr .u64 5 d],false⟩)],4,116⟩=>some (f,e,a,b,c,d)
 | _=>none
theorem b0a(st)(x)(h:b42 st=some x):st=b44 x:=by unfold b42 at h;split at h;(cases h;rfl);cases h
abbrev cgl:=P.zy8
abbrev X2:=P.zt9
def S2:X2→ASt:=fun (c,d,a,b)=>⟨[(1,.ptr 0 0),(2,.ptr 1 0),(5,.arr .u64 24 c),(6,.v (.int .i64 d))],[(0,some ⟨.box 130 [.arr .u64 25 a],false⟩),(1,some ⟨.box 130 [.arr .u64 25 b],false⟩)],2,13⟩
def V2:ASt→Option X2
 | ⟨[(1,.ptr 0 0),(2,.ptr 1 0),(5,.arr .u64 24 c),(6,.v (.int .i64 d))],[(0,some ⟨.box 130 [.arr .u64 25 a],false⟩),(1,some ⟨.box 130 [.arr .u64 25 b],false⟩)],2,13⟩=>some (c,d,a,b)
 | _=>none
theorem bfp(st)(x)(h:V2 st=some x):st=S2 x:=by unfold V2 at h;split at h;(cases h;rfl);cases h
abbrev Y2:=P.zy9
def csg(K:AExit→ASt→Option R):Y2_2→Option R:=(fun x=>K (.exit 0) (ch5 x))
noncomputable def L2_2:p8:=fun st K=>abx (cfo st) fun x=>P.zm3 x (csg K)
def crx(K:AExit→ASt→Option R):Y1_6→Option R:=(fun x=>K (.exit 2) (ck5 x))
noncomputable def L1_6:p8:=fun st K=>abx (cgf st) fun x=>P.zm4 x (crx K)
def cp6(K:AExit→ASt→Option R):Y1_2→Option R:=(fun x=>K (.exit 0) (cot x))
noncomputable def L1_2:p8:=fun st K=>abx (cj8 st) fun x=>P.zm5 x (cp6 K)
def b9d(K:AExit→ASt→Option R):cmh→Option R:=(fun x=>K (.exit 4) (b2t x))
noncomputable def ce5:p8:=fun st K=>abx (b46 st) fun x=>P.zm6 x (b9d K)
def b8i(K:AExit→ASt→Option R):ck8→Option R:=(fun x=>K (.exit 8) (b4u x))
noncomputable def clx:p8:=fun st K=>abx (b4c st) fun x=>P.zm7 x (b8i K)
def cae(K:AExit→ASt→Option R):cgl→Option R:=(fun x=>K (.exit 6) (b44 x))
noncomputable def civ:p8:=fun st K=>abx (b42 st) fun x=>P.zm8 x (cae K)
def E2(K:AExit→ASt→Option R):Y2→Option R:=(fun x=>K (.exit 0) (S2 x))
noncomputable def L2:p8:=fun st K=>abx (V2 st) fun x=>P.zm9 x (E2 K)
noncomputable def D2:Ctx:=({ P:=Tryz.prog,G:=[(193,j6.spec)],globs:=GLO.gx,hints:=[(2,⟨[0,2,4],[],[2],[],none,[],[],[]⟩)],loops:=[(2,L2_2)],inl:=[] }:Ctx)
noncomputable def D1:Ctx:=({ P:=Tryz.prog,G:=[(193,j6.spec)],globs:=GLO.gx,hints:=[(21,⟨[0,1,11,12,83],[],[],[],none,[],[],[]⟩),(17,⟨[0,1,11],[],[],[],none,[],[],[]⟩),(12,⟨[0,1,8,51,52],[],[],[],none,[],[],[]⟩),(6,⟨[0,1,4,5,6,7,16],[],[],[],none,[],[],[]⟩),(2,⟨[0,1,4,16],[],[],[],none,[],[],[]⟩)],loops:=[(6,L1_6),(2,L1_2),(12,ce5),(21,clx),(17,civ)],inl:=[(192,afj D2 Tryz.f192)] }:Ctx)
noncomputable def D:Ctx:=({ P:=Tryz.prog,G:=[(193,j6.spec)],globs:=GLO.gx,hints:=[(2,⟨[1,2,5,6],[],[2],[],none,[],[],[]⟩)],loops:=[(2,L2)],inl:=[(178,afj D1 Tryz.f178)] }:Ctx)
theorem b3q:jl D2 (gu Tryz.f192 2):=fq ch5 b21 (by kernel_rfl) P.ze3 (enc:=csg) fun _ _ _=>by kernel_rfl
theorem b37:jl D1 (gu Tryz.f178 6):=fq ck5 b31 (by kernel_rfl) P.ze4 (enc:=crx) fun _ _ _=>by kernel_rfl
theorem b3j:jl D1 (gu Tryz.f178 2):=fq cot b3k (by kernel_rfl) P.ze5 (enc:=cp6) fun _ _ _=>by kernel_rfl
theorem b0m:jl D1 (gu Tryz.f178 12):=fq b2t bzw (by kernel_rfl) P.ze6 (enc:=b9d) fun _ _ _=>by kernel_rfl
theorem b0w:jl D1 (gu Tryz.f178 21):=fq b4u by0 (by kernel_rfl) P.ze7 (enc:=b8i) fun _ _ _=>by kernel_rfl
theorem b0x:jl D1 (gu Tryz.f178 17):=fq b44 b0a (by kernel_rfl) P.ze8 (enc:=cae) fun _ _ _=>by kernel_rfl
theorem bgm:jl D (gu Tryz.f160 2):=fq S2 bfp (by kernel_rfl) P.ze9 (enc:=E2) fun _ _ _=>by kernel_rfl
theorem loops:gy (Tryz.f160.body.getD .skip)=[gu Tryz.f160 2]:=by kernel_rfl
theorem alz:gy (Tryz.f178.body.getD .skip)=[gu Tryz.f178 2,gu Tryz.f178 6,gu Tryz.f178 12,gu Tryz.f178 17,gu Tryz.f178 21]:=by kernel_rfl
theorem azj:gy (Tryz.f192.body.getD .skip)=[gu Tryz.f192 2]:=by kernel_rfl
noncomputable def spec:Abs.Spec:=fun args K=>match args with
 | [.arr .u64 25 a]=>P.jo a (fun b=>K (.arr .u64 25 b))
 | _=>none
theorem ok:Proved Tryz.prog GLO.gx 160 spec:=by
 refine z8 (D:=D) (fn:=Tryz.f160) (c:=Tryz.f160.body.getD .skip) [.any] (by kernel_rfl) (je (by kernel_rfl)) (by kernel_rfl) (by kernel_rfl) (by kernel_rfl) ⟨j6.ok,trivial⟩ ⟨aor (D:=D1) (D':=D) (fn:=Tryz.f178) (c:=Tryz.f178.body.getD .skip) rfl rfl (by kernel_rfl) (je (by kernel_rfl)) (by kernel_rfl) (by kernel_rfl) (by kernel_rfl) ⟨j6.ok,trivial⟩ ⟨aor (D:=D2) (D':=D1) (fn:=Tryz.f192) (c:=Tryz.f192.body.getD .skip) rfl rfl (by kernel_rfl) (je (by kernel_rfl)) (by kernel_rfl) (by kernel_rfl) (by kernel_rfl) ⟨j6.ok,trivial⟩ trivial (by rw[azj];exact ⟨b3q,trivial⟩) (fun _ _ _ _ _ h=>h),trivial⟩ (by rw[alz];exact ⟨b3j,b37,b0m,b0x,b0w,trivial⟩) (fun _ _ _ _ _ h=>h),trivial⟩ ?_ ?_
 · rw[loops];exact ⟨bgm,trivial⟩
 · intro args K r h
   unfold spec at h
   split at h
   · rw[P.an7] at h;exact Aa (by kernel_rfl) h
   · cases h
end jo

namespace oz
noncomputable def spec:Abs.Spec:=fun args K=>match args with
 | [.v (.int .i64 a)]=>P.oz a (fun b=>K (.v (.int .i64 b)))
 | _=>none
theorem ok:Proved Tryz.prog GLO.gx 158 spec:=pK (G:=[]) (fn:=Tryz.f158) [.any] trivial fun _ K _ h=>by
  unfold spec at h
  split at h
  · rw[P.avd] at h;exact Aa (by kernel_rfl) h
  · cases h
end oz

namespace o7
abbrev X5:=P.b7z
def S5:X5→ASt:=fun (k,l,i,j,a,b,c,d,e,f,g,h)=>⟨[(1,.sl (.ints .u8 k)),(2,.ptr 0 0),(4,.ptr 1 0),(5,.v (.int .i64 l)),(14,.v (.int .i64 i)),(15,.v (.int .i64 j))],[(0,some ⟨.box 132 [.v (.int .i64 a),.arr .u64 25 b,.v (.int .i64 c),.v (.bool d)],false⟩),(1,some ⟨.box 132 [.v (.int .i64 e),.arr .u64 25 f,.v (.int .i64 g),.v (.bool h)],false⟩)],40,40⟩
def V5:ASt→Option X5
 | ⟨[(1,.sl (.ints .u8 k)),(2,.ptr 0 0),(4,.ptr 1 0),(5,.v (.int .i64 l)),(14,.v (.int .i64 i)),(15,.v (.int .i64 j))],[(0,some ⟨.box 132 [.v (.int .i64 a),.arr .u64 25 b,.v (.int .i64 c),.v (.bool d)],false⟩),(1,some ⟨.box 132 [.v (.int .i64 e),.arr .u64 25 f,.v (.int .i64 g),.v (.bool h)],false⟩)],40,40⟩=>some (k,l,i,j,a,b,c,d,e,f,g,h)
 | _=>none
theorem aub(st)(x)(h:V5 st=some x):st=S5 x:=by unfold V5 at h;split at h;(cases h;rfl);cases h
abbrev Y5:=P.ckv
def E5(K:AExit→ASt→Option R):Y5→Option R:=(fun x=>K (.exit 0) (S5 x))
noncomputable def L5:p8:=fun st K=>abx (V5 st) fun x=>P.cjf x (E5 K)
noncomputable def D1:Ctx:=({ P:=Tryz.prog,G:=[(158,oz.spec),(160,jo.spec)],globs:=GLO.gx,hints:=[],loops:=[],inl:=[] }:Ctx)
noncomputable def D:Ctx:=({ P:=Tryz.prog,G:=[(158,oz.spec),(160,jo.spec)],globs:=GLO.gx,hints:=[(5,⟨[1,2,4,5,14,15],[],[4],[],some (40,[0,1]),[],[],[]⟩)],loops:=[(5,L5)],inl:=[(161,afj D1 Tryz.f161)] }:Ctx)
theorem ar3:jl D (gu Tryz.f136 5):=fq S5 aub (by kernel_rfl) P.cq2 (enc:=E5) fun _ _ _=>by kernel_rfl
theorem loops:gy (Tryz.f136.body.getD .skip)=[gu Tryz.f136 5]:=by kernel_rfl
theorem alz:gy (Tryz.f161.body.getD .skip)=[]:=by kernel_rfl
noncomputable def cu:Abs.Spec:=fun args K=>match args with
 | [.agg [.v (.int .i64 c),.arr .u64 25 a,.v (.int .i64 g),.v (.bool e)],.sl (.ints .u8 i)]=>P.o7 c a g e i (fun d b h f=>K (.agg [.v (.int .i64 d),.arr .u64 25 b,.v (.int .i64 h),.v (.bool f)]))
 | _=>none
noncomputable def spec:Abs.Spec:=fun args K=>cu (j5 [.any,.sl (.ints .u8 [])] args) K
theorem ok0:Proved Tryz.prog GLO.gx 136 cu:=by
 refine z8 (D:=D) (fn:=Tryz.f136) (c:=Tryz.f136.body.getD .skip) [.any] (by kernel_rfl) (je (by kernel_rfl)) (by kernel_rfl) (by kernel_rfl) (by kernel_rfl) ⟨oz.ok,jo.ok,trivial⟩ ⟨aor (D:=D1) (D':=D) (fn:=Tryz.f161) (c:=Tryz.f161.body.getD .skip) rfl rfl (by kernel_rfl) (je (by kernel_rfl)) (by kernel_rfl) (by kernel_rfl) (by kernel_rfl) ⟨oz.ok,jo.ok,trivial⟩ trivial (by rw[alz];exact trivial) (fun _ _ _ _ _ h=>h),trivial⟩ ?_ ?_
 · rw[loops];exact ⟨ar3,trivial⟩
 · intro args K r h
   unfold cu at h
   split at h
   · rw[P.arp] at h;exact Aa (by kernel_rfl) h
   · cases h
theorem ok:Proved Tryz.prog GLO.gx 136 spec:=bq _ ok0
end o7

namespace acw
noncomputable def spec:Abs.Spec:=fun args K=>match args with
 | [.v (.int .i64 e)]=>P.acw e (fun b a d c f=>K (.tuple [.agg [.v (.int .i64 b),.arr .u64 25 a,.v (.int .i64 d),.v (.bool c)],.v (.int .i64 f)]))
 | _=>none
theorem ok:Proved Tryz.prog GLO.gx 134 spec:=pK (G:=[(158,oz.spec)]) (fn:=Tryz.f134) [.any,.any] ⟨oz.ok,trivial⟩ fun _ K _ h=>by
  unfold spec at h
  split at h
  · rw[P.ap8] at h;exact Aa (by kernel_rfl) h
  · cases h
end acw

namespace za
noncomputable def D1:Ctx:=({ P:=Tryz.prog,G:=[(158,oz.spec),(160,jo.spec)],globs:=GLO.gx,hints:=[],loops:=[],inl:=[] }:Ctx)
noncomputable def D:Ctx:=({ P:=Tryz.prog,G:=[(158,oz.spec),(160,jo.spec)],globs:=GLO.gx,hints:=[],loops:=[],inl:=[(161,afj D1 Tryz.f161)] }:Ctx)
theorem loops:gy (Tryz.f159.body.getD .skip)=[]:=by kernel_rfl
theorem alz:gy (Tryz.f161.body.getD .skip)=[]:=by kernel_rfl
noncomputable def spec:Abs.Spec:=fun args K=>match args with
 | [.agg [.v (.int .i64 c),.arr .u64 25 a,.v (.int .i64 g),.v (.bool e)]]=>P.za c a g e (fun d b h f=>K (.agg [.v (.int .i64 d),.arr .u64 25 b,.v (.int .i64 h),.v (.bool f)]))
 | _=>none
theorem ok:Proved Tryz.prog GLO.gx 159 spec:=by
 refine z8 (D:=D) (fn:=Tryz.f159) (c:=Tryz.f159.body.getD .skip) [.any] (by kernel_rfl) (je (by kernel_rfl)) (by kernel_rfl) (by kernel_rfl) (by kernel_rfl) ⟨oz.ok,jo.ok,trivial⟩ ⟨aor (D:=D1) (D':=D) (fn:=Tryz.f161) (c:=Tryz.f161.body.getD .skip) rfl rfl (by kernel_rfl) (je (by kernel_rfl)) (by kernel_rfl) (by kernel_rfl) (by kernel_rfl) ⟨oz.ok,jo.ok,trivial⟩ trivial (by rw[alz];exact trivial) (fun _ _ _ _ _ h=>h),trivial⟩ ?_ ?_
 · rw[loops];exact trivial
 · intro args K r h
   unfold spec at h
   split at h
   · rw[P.aq7] at h;exact Aa (by kernel_rfl) h
   · cases h
end za

namespace qz
abbrev X7:=P.b9i
def S7:X7→ASt:=fun (i,j,a,b,c,d,e,f,g,h,k)=>⟨[(2,.ptr 0 0),(4,.ptr 1 0),(6,.own 2),(19,.v (.int .i64 i)),(20,.v (.int .i64 j))],[(0,some ⟨.box 132 [.v (.int .i64 a),.arr .u64 25 b,.v (.int .i64 c),.v (.bool d)],false⟩),(1,some ⟨.box 132 [.v (.int .i64 e),.arr .u64 25 f,.v (.int .i64 g),.v (.bool h)],false⟩),(2,some ⟨.row 5 (.ints .u8 k),false⟩)],40,56⟩
def V7:ASt→Option X7
 | ⟨[(2,.ptr 0 0),(4,.ptr 1 0),(6,.own 2),(19,.v (.int .i64 i)),(20,.v (.int .i64 j))],[(0,some ⟨.box 132 [.v (.int .i64 a),.arr .u64 25 b,.v (.int .i64 c),.v (.bool d)],false⟩),(1,some ⟨.box 132 [.v (.int .i64 e),.arr .u64 25 f,.v (.int .i64 g),.v (.bool h)],false⟩),(2,some ⟨.row 5 (.ints .u8 k),false⟩)],40,56⟩=>some (i,j,a,b,c,d,e,f,g,h,k)
 | _=>none
theorem av9(st)(x)(h:V7 st=some x):st=S7 x:=by unfold V7 at h;split at h;(cases h;rfl);cases h
abbrev Y7:=P.cn4
def E7(K:AExit→ASt→Option R):Y7→Option R:=(fun x=>K (.exit 0) (S7 x))
noncomputable def L7:p8:=fun st K=>abx (V7 st) fun x=>P.ckn x (E7 K)
noncomputable def D:Ctx:=⟨Tryz.prog,[(158,oz.spec),(159,za.spec),(160,jo.spec)],GLO.gx,[(7,⟨[2,4,6,19,20],[],[4,5],[],some (40,[0,1,2]),[],[],[]⟩)],[(7,L7)],[],false,none,none,[],false⟩
theorem axu:jl D (gu Tryz.f135 7):=fq S7 av9 (by kernel_rfl) P.cr4 (enc:=E7) fun _ _ _=>by kernel_rfl
theorem loops:gy (Tryz.f135.body.getD .skip)=[gu Tryz.f135 7]:=by kernel_rfl
noncomputable def spec:Abs.Spec:=fun args K=>match args with
 | [.agg [.v (.int .i64 c),.arr .u64 25 a,.v (.int .i64 g),.v (.bool e)],.v (.int .i64 i)]=>P.qz c a g e i (fun d b h f j=>K (.tuple [.agg [.v (.int .i64 d),.arr .u64 25 b,.v (.int .i64 h),.v (.bool f)],.fr 5 (.ints .u8 j)]))
 | _=>none
theorem ok:Proved Tryz.prog GLO.gx 135 spec:=pL (D:=D) (fn:=Tryz.f135) [.any,.fr 5 (.ints .u8 [])] ⟨oz.ok,za.ok,jo.ok,trivial⟩ loops ⟨axu,trivial⟩ fun _ K _ h=>by
  unfold spec at h
  split at h
  · rw[P.an8] at h;exact Aa (by kernel_rfl) h
  · cases h
end qz

namespace jq
noncomputable def cu:Abs.Spec:=fun args K=>match args with
 | [.arr .u8 32 e,.sl (.ints .u8 f),.sta [.v (.int .i64 b),.arr .u64 25 a,.v (.int .i64 d),.v (.bool c)],.sta [.v (.int .i64 g)]]=>P.jq e f b a d c g (fun h=>K (.fr 5 (.ints .u8 h)))
 | _=>none
noncomputable def spec:Abs.Spec:=fun args K=>cu (j5 [.any,.sl (.ints .u8 []),.any,.any] args) K
theorem ok0:Proved Tryz.prog GLO.gx 186 cu:=pK (G:=[(40,jc.spec),(135,qz.spec),(136,o7.spec)]) (fn:=Tryz.f186) [.fr 5 (.ints .u8 [])] ⟨jc.ok,qz.ok,o7.ok,trivial⟩ fun _ K _ h=>by
  unfold cu at h
  split at h
  · rw[P.aoc] at h;exact Aa (by kernel_rfl) h
  · cases h
theorem ok:Proved Tryz.prog GLO.gx 186 spec:=bq _ ok0
end jq

namespace aem
noncomputable def D:Ctx:=({ P:=Tryz.prog,G:=[(134,acw.spec),(136,o7.spec),(186,jq.spec)],globs:=GLO.gx,hints:=[],loops:=[],inl:=[],sta:=true }:Ctx)
theorem loops:gy (Tryz.f168.body.getD .skip)=[]:=by kernel_rfl
noncomputable def cu:Abs.Spec:=fun args K=>match args with
 | [.v (.int .i64 f),.sl (.ints .u8 g)]=>P.aem f g (fun b a d c e=>K (.fn (.func 186) [] [.sta [.v (.int .i64 b),.arr .u64 25 a,.v (.int .i64 d),.v (.bool c)],.sta [.v (.int .i64 e)]]))
 | _=>none
noncomputable def spec:Abs.Spec:=fun args K=>cu (j5 [.any,.sl (.ints .u8 [])] args) K
theorem ok0:Proved Tryz.prog GLO.gx 168 cu:=by
 refine z8 (D:=D) (fn:=Tryz.f168) (c:=Tryz.f168.body.getD .skip) [.any] (by kernel_rfl) (je (by kernel_rfl)) (by kernel_rfl) (by kernel_rfl) (by kernel_rfl) ⟨acw.ok,o7.ok,jq.ok,trivial⟩ trivial ?_ ?_
 · rw[loops];exact trivial
 · intro args K r h
   unfold cu at h
   split at h
   · rw[P.avf] at h;exact Aa (by kernel_rfl) h
   · cases h
theorem ok:Proved Tryz.prog GLO.gx 168 spec:=bq _ ok0
end aem

namespace xw
noncomputable def cu:Abs.Spec:=fun args K=>match args with
 | [.agg [.v (.int .i64 y),.v (.int .i64 z),.v (.int .i64 A),.v (.int .i64 B),.v (.int .i64 C),.v (.bool p)],.sl (.ints .u8 F)]=>P.xw y z A B C p F (fun q r s t u l w d a m k n e b f g o h c i j G=>K (.tuple [.agg [.v (.int .i64 q),.v (.int .i64 r),.v (.int .i64 s),.v (.int .i64 t),.v (.int .i64 u),.v (.bool l),.alt w (.func 186) [] [.sta [.v (.int .i64 d),.arr .u64 25 a,.v (.int .i64 m),.v (.bool k)],.sta [.v (.int .i64 n)]] (.func 188) [] [.sta [.v (.int .i64 e),.arr .u64 8 b,.sl (.ints .u8 f),.v (.int .u64 g)],.sta [.v (.int .i64 o)],.sta [.v (.int .i64 h),.arr .u64 8 c,.sl (.ints .u8 i),.v (.int .u64 j)]]],.v (.bool G)]))
 | _=>none
noncomputable def spec:Abs.Spec:=fun args K=>cu (j5 [.any,.sl (.ints .u8 [])] args) K
theorem ok0:Proved Tryz.prog GLO.gx 144 cu:=pK (G:=[(22,jy.spec),(168,aem.spec),(169,aec.spec),(186,jq.spec),(188,jm.spec)]) (fn:=Tryz.f144) [.agg [.any,.any,.any,.any,.any,.any,.alt (.func 186) [] [.sta [.v (.int .i64 0),.arr .u64 25 [],.v (.int .i64 0),.v (.bool false)],.sta [.v (.int .i64 0)]] (.func 188) [] [.sta [.v (.int .i64 0),.arr .u64 8 [],.sl (.ints .u8 []),.v (.int .u64 0)],.sta [.v (.int .i64 0)],.sta [.v (.int .i64 0),.arr .u64 8 [],.sl (.ints .u8 []),.v (.int .u64 0)]]],.any] ⟨jy.ok,aem.ok,aec.ok,jq.ok,jm.ok,trivial⟩ fun _ K _ h=>by
  unfold cu at h
  split at h
  · rw[P.ap4] at h;exact Aa (by kernel_rfl) h
  · cases h
theorem ok:Proved Tryz.prog GLO.gx 144 spec:=bq _ ok0
end xw

end
