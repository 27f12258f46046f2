/-
  SlhMakes, part 17: an interpreter of my own over abstract values, the pure functions, the walks and the plain law.
-/

import Derived.Test.YtciddcopcdmnbaaGreatDoorSlhMakesK
import Derived.Test.YtciddcopcdmnbaaGreatDoorSlhMakesH
import Derived.Test.YtciddcopcdmnbaaGreatDoorProg
import Derived.Test.YtciddcopcdmnbaaGreatDoorSlhMakesJ
import Derived.Test.YtciddcopcdmnbaaGreatDoorSlhMakesP
import Derived.KernelRfl
import Derived.Test.YtciddcopcdmnbaaGreatDoorSlhMakesI
import Derived.Test.YtciddcopcdmnbaaGreatDoorSlhMakesN
open Eq renaming trans → Aa

section
open Go Go.Abs Go.Proofs
set_option maxRecDepth 100000
set_option maxHeartbeats 0
set_option linter.unusedVariables false

namespace jh
abbrev cek:=P.zt3
def bxi:cek→ASt:=fun (d,a,b,c)=>⟨[(0,.ptr 0 0),(2,.ptr 2 0),(4,.v (.int .i64 d))],[(1,some ⟨.box 130 [.arr .u64 25 a],false⟩),(0,some ⟨.box 130 [.arr .u64 25 b],false⟩),(2,some ⟨.box 215 [.arr .u64 5 c],false⟩)],3,44⟩
def cav:ASt→Option cek
 | ⟨[(0,.ptr 0 0),(2,.ptr 2 0),(4,.v (.int .i64 d))],[(1,some ⟨.box 130 [.arr .u64 25 a],false⟩),(0,some ⟨.box 130 [.arr .u64 25 b],false⟩),(2,some ⟨.box 215 [.arr .u64 5 c],false⟩)],3,44⟩=>some (d,a,b,c)
 | _=>none
theorem bv3(st)(x)(h:cav st=some x):st=bxi x:=by
 unfold cav at h
 split at h
 · cases h;rfl
 · cases h
abbrev Y2_2:=P.zy3
abbrev cec:=P.zt4
def bys:cec→ASt:=fun (f,g,h,i,e,a,b,c,d)=>⟨[(0,.ptr 0 0),(1,.v (.int .u64 f)),(4,.ptr 3 0),(5,.v (.int .i64 g)),(6,.v (.int .u64 h)),(7,.v (.int .i64 i)),(16,.v (.int .i64 e))],[(3,some ⟨.box 215 [.arr .u64 5 a],false⟩),(2,some ⟨.box 215 [.arr .u64 5 b],false⟩),(1,some ⟨.box 130 [.arr .u64 25 c],false⟩),(0,some ⟨.box 130 [.arr .u64 25 d],false⟩)],4,116⟩
def b87:ASt→Option cec
 | ⟨[(0,.ptr 0 0),(1,.v (.int .u64 f)),(4,.ptr 3 0),(5,.v (.int .i64 g)),(6,.v (.int .u64 h)),(7,.v (.int .i64 i)),(16,.v (.int .i64 e))],[(3,some ⟨.box 215 [.arr .u64 5 a],false⟩),(2,some ⟨.box 215 [.arr .u64 5 b],false⟩),(1,some ⟨.box 130 [.arr .u64 25 c],false⟩),(0,some ⟨.box 130 [.arr .u64 25 d],false⟩)],4,116⟩=>some (f,g,h,i,e,a,b,c,d)
 | _=>none
theorem bv2(st)(x)(h:b87 st=some x):st=bys x:=by
 unfold b87 at h
 split at h
 · cases h;rfl
 · cases h
abbrev Y1_6:=P.zy4
abbrev cdl:=P.zt5
def b2y:cdl→ASt:=fun (f,e,a,b,c,d)=>⟨[(0,.ptr 0 0),(1,.v (.int .u64 f)),(4,.ptr 3 0),(16,.v (.int .i64 e))],[(0,some ⟨.box 130 [.arr .u64 25 a],false⟩),(1,some ⟨.box 130 [.arr .u64 25 b],false⟩),(2,some ⟨.box 215 [.arr .u64 5 c],false⟩),(3,some ⟨.box 215 [.arr .u64 5 d],false⟩)],4,116⟩
def b6i:ASt→Option cdl
 | ⟨[(0,.ptr 0 0),(1,.v (.int .u64 f)),(4,.ptr 3 0),(16,.v (.int .i64 e))],[(0,some ⟨.box 130 [.arr .u64 25 a],false⟩),(1,some ⟨.box 130 [.arr .u64 25 b],false⟩),(2,some ⟨.box 215 [.arr .u64 5 c],false⟩),(3,some ⟨.box 215 [.arr .u64 5 d],false⟩)],4,116⟩=>some (f,e,a,b,c,d)
 | _=>none
theorem bu4(st)(x)(h:b6i st=some x):st=b2y x:=by
 unfold b6i at h
 split at h
 · cases h;rfl
 · cases h
abbrev Y1_2:=P.zy5
abbrev b0y:=P.zt6
def bn4:b0y→ASt:=fun (g,h,e,f,a,b,c,d)=>⟨[(0,.ptr 0 0),(1,.v (.int .u64 g)),(8,.v (.int .u64 h)),(51,.arr .i64 24 e),(52,.v (.int .i64 f))],[(3,some ⟨.box 215 [.arr .u64 5 a],false⟩),(2,some ⟨.box 215 [.arr .u64 5 b],false⟩),(1,some ⟨.box 130 [.arr .u64 25 c],false⟩),(0,some ⟨.box 130 [.arr .u64 25 d],false⟩)],4,116⟩
def buo:ASt→Option b0y
 | ⟨[(0,.ptr 0 0),(1,.v (.int .u64 g)),(8,.v (.int .u64 h)),(51,.arr .i64 24 e),(52,.v (.int .i64 f))],[(3,some ⟨.box 215 [.arr .u64 5 a],false⟩),(2,some ⟨.box 215 [.arr .u64 5 b],false⟩),(1,some ⟨.box 130 [.arr .u64 25 c],false⟩),(0,some ⟨.box 130 [.arr .u64 25 d],false⟩)],4,116⟩=>some (g,h,e,f,a,b,c,d)
 | _=>none
theorem brj(st)(x)(h:buo st=some x):st=bn4 x:=by
 unfold buo at h
 split at h
 · cases h;rfl
 · cases h
abbrev b5p:=P.zy6
abbrev b1p:=P.zt7
def bnx:b1p→ASt:=fun (h,f,g,a,b,c,d,e)=>⟨[(0,.ptr 0 0),(1,.v (.int .u64 h)),(11,.v (.int .i64 f)),(12,.ptr 4 0),(83,.v (.int .i64 g))],[(3,some ⟨.box 215 [.arr .u64 5 a],false⟩),(2,some ⟨.box 215 [.arr .u64 5 b],false⟩),(1,some ⟨.box 130 [.arr .u64 25 c],false⟩),(0,some ⟨.box 130 [.arr .u64 25 d],false⟩),(4,some ⟨.box 215 [.arr .u64 5 e],false⟩)],5,116⟩
def bwc:ASt→Option b1p
 | ⟨[(0,.ptr 0 0),(1,.v (.int .u64 h)),(11,.v (.int .i64 f)),(12,.ptr 4 0),(83,.v (.int .i64 g))],[(3,some ⟨.box 215 [.arr .u64 5 a],false⟩),(2,some ⟨.box 215 [.arr .u64 5 b],false⟩),(1,some ⟨.box 130 [.arr .u64 25 c],false⟩),(0,some ⟨.box 130 [.arr .u64 25 d],false⟩),(4,some ⟨.box 215 [.arr .u64 5 e],false⟩)],5,116⟩=>some (h,f,g,a,b,c,d,e)
 | _=>none
theorem bsv(st)(x)(h:bwc st=some x):st=bnx x:=by
 unfold bwc at h
 split at h
 · cases h;rfl
 · cases h
abbrev cad:=P.zy7
abbrev bz6:=P.zt8
def bn1:bz6→ASt:=fun (f,e,a,b,c,d)=>⟨[(0,.ptr 0 0),(1,.v (.int .u64 f)),(11,.v (.int .i64 e))],[(0,some ⟨.box 130 [.arr .u64 25 a],false⟩),(1,some ⟨.box 130 [.arr .u64 25 b],false⟩),(2,some ⟨.box 215 [.arr .u64 5 c],false⟩),(3,some ⟨.box 215 [.arr .u64 5 d],false⟩)],4,116⟩
def bv5:ASt→Option bz6
 | ⟨[(0,.ptr 0 0),(1,.v (.int .u64 f)),(11,.v (.int .i64 e))],[(0,some ⟨.box 130 [.arr .u64 25 a],false⟩),(1,some ⟨.box 130 [.arr .u64 25 b],false⟩),(2,some ⟨.box 215 [.arr .u64 5 c],false⟩),(3,some ⟨.box 215 [.arr .u64 5 d],false⟩)],4,116⟩=>some (f,e,a,b,c,d)
 | _=>none
theorem bst(st)(x)(h:bv5 st=some x):st=bn1 x:=by
 unfold bv5 at h
 split at h
 · cases h;rfl
 · cases h
abbrev b82:=P.zy8
abbrev X2:=P.zt9
def S2:X2→ASt:=fun (c,d,a,b)=>⟨[(1,.ptr 0 0),(2,.ptr 1 0),(5,.arr .u64 24 c),(6,.v (.int .i64 d))],[(0,some ⟨.box 130 [.arr .u64 25 a],false⟩),(1,some ⟨.box 130 [.arr .u64 25 b],false⟩)],2,13⟩
def V2:ASt→Option X2
 | ⟨[(1,.ptr 0 0),(2,.ptr 1 0),(5,.arr .u64 24 c),(6,.v (.int .i64 d))],[(0,some ⟨.box 130 [.arr .u64 25 a],false⟩),(1,some ⟨.box 130 [.arr .u64 25 b],false⟩)],2,13⟩=>some (c,d,a,b)
 | _=>none
theorem ay9(st)(x)(h:V2 st=some x):st=S2 x:=by
 unfold V2 at h
 split at h
 · cases h;rfl
 · cases h
abbrev Y2:=P.zy9
def cc5(K:AExit→ASt→Option R):Y2_2→Option R:=(fun x=>K (.exit 0) (bxi x))
noncomputable def L2_2:tq:=fun st K=>ady (cav st) fun x=>P.zm3 x (cc5 K)
def cel(K:AExit→ASt→Option R):Y1_6→Option R:=(fun x=>K (.exit 2) (bys x))
noncomputable def L1_6:tq:=fun st K=>ady (b87 st) fun x=>P.zm4 x (cel K)
def cc9(K:AExit→ASt→Option R):Y1_2→Option R:=(fun x=>K (.exit 0) (b2y x))
noncomputable def L1_2:tq:=fun st K=>ady (b6i st) fun x=>P.zm5 x (cc9 K)
def bxc(K:AExit→ASt→Option R):b5p→Option R:=(fun x=>K (.exit 4) (bn4 x))
noncomputable def b9g:tq:=fun st K=>ady (buo st) fun x=>P.zm6 x (bxc K)
def bz0(K:AExit→ASt→Option R):cad→Option R:=(fun x=>K (.exit 8) (bnx x))
noncomputable def b47:tq:=fun st K=>ady (bwc st) fun x=>P.zm7 x (bz0 K)
def bxt(K:AExit→ASt→Option R):b82→Option R:=(fun x=>K (.exit 6) (bn1 x))
noncomputable def b95:tq:=fun st K=>ady (bv5 st) fun x=>P.zm8 x (bxt K)
def E2(K:AExit→ASt→Option R):Y2→Option R:=(fun x=>K (.exit 0) (S2 x))
noncomputable def L2:tq:=fun st K=>ady (V2 st) fun x=>P.zm9 x (E2 K)
noncomputable def D2:Ctx:=({ P:=Tryz.prog,G:=[(193,ji.spec)],globs:=GLO.gx,hints:=[(2,⟨[0,2,4],[],[2],[],none,[],[],[]⟩)],loops:=[(2,L2_2)],inl:=[] }:Ctx)
noncomputable def D1:Ctx:=({ P:=Tryz.prog,G:=[(193,ji.spec)],globs:=GLO.gx,hints:=[(21,⟨[0,1,11,12,83],[],[],[],none,[],[],[]⟩),(17,⟨[0,1,11],[],[],[],none,[],[],[]⟩),(12,⟨[0,1,8,51,52],[],[],[],none,[],[],[]⟩),(6,⟨[0,1,4,5,6,7,16],[],[],[],none,[],[],[]⟩),(2,⟨[0,1,4,16],[],[],[],none,[],[],[]⟩)],loops:=[(6,L1_6),(2,L1_2),(12,b9g),(21,b47),(17,b95)],inl:=[(192,ain D2 Tryz.f192)] }:Ctx)
noncomputable def D:Ctx:=({ P:=Tryz.prog,G:=[(193,ji.spec)],globs:=GLO.gx,hints:=[(2,⟨[1,2,5,6],[],[2],[],none,[],[],[]⟩)],loops:=[(2,L2)],inl:=[(178,ain D1 Tryz.f178)] }:Ctx)
theorem bq8(K)(next)(x):l5 D2 (fq Tryz.f192 2) K next (bxi x)=P.zs3 x (fun x=>next (bxi x)) (cc5 K):=by kernel_rfl
theorem bu7:jv D2 (fq Tryz.f192 2):=iy bxi bv3 (by kernel_rfl) P.ze3 bq8
theorem brv(K)(next)(x):l5 D1 (fq Tryz.f178 6) K next (bys x)=P.zs4 x (fun x=>next (bys x)) (cel K):=by kernel_rfl
theorem bu3:jv D1 (fq Tryz.f178 6):=iy bys bv2 (by kernel_rfl) P.ze4 brv
theorem bq4(K)(next)(x):l5 D1 (fq Tryz.f178 2) K next (b2y x)=P.zs5 x (fun x=>next (b2y x)) (cc9 K):=by kernel_rfl
theorem bu8:jv D1 (fq Tryz.f178 2):=iy b2y bu4 (by kernel_rfl) P.ze5 bq4
theorem bns(K)(next)(x):l5 D1 (fq Tryz.f178 12) K next (bn4 x)=P.zs6 x (fun x=>next (bn4 x)) (bxc K):=by kernel_rfl
theorem bq9:jv D1 (fq Tryz.f178 12):=iy bn4 brj (by kernel_rfl) P.ze6 bns
theorem bpg(K)(next)(x):l5 D1 (fq Tryz.f178 21) K next (bnx x)=P.zs7 x (fun x=>next (bnx x)) (bz0 K):=by kernel_rfl
theorem br1:jv D1 (fq Tryz.f178 21):=iy bnx bsv (by kernel_rfl) P.ze7 bpg
theorem bo0(K)(next)(x):l5 D1 (fq Tryz.f178 17) K next (bn1 x)=P.zs8 x (fun x=>next (bn1 x)) (bxt K):=by kernel_rfl
theorem br5:jv D1 (fq Tryz.f178 17):=iy bn1 bst (by kernel_rfl) P.ze8 bo0
theorem apv(K)(next)(x):l5 D (fq Tryz.f160 2) K next (S2 x)=P.zs9 x (fun x=>next (S2 x)) (E2 K):=by kernel_rfl
theorem bal:jv D (fq Tryz.f160 2):=iy S2 ay9 (by kernel_rfl) P.ze9 apv
theorem loops:dn (Tryz.f160.body.getD .skip)=[fq Tryz.f160 2]:=by kernel_rfl
theorem ap4:dn (Tryz.f178.body.getD .skip)=[fq Tryz.f178 2,fq Tryz.f178 6,fq Tryz.f178 12,fq Tryz.f178 17,fq Tryz.f178 21]:=by kernel_rfl
theorem bg5:dn (Tryz.f192.body.getD .skip)=[fq Tryz.f192 2]:=by kernel_rfl
noncomputable def bn:Abs.Spec:=fun args K=>match args with
 | [.arr .u64 25 a]=>P.jh a (fun b=>K (.arr .u64 25 b))
 | _=>none
noncomputable def spec:Abs.Spec:=bn
theorem ok0:Proved Tryz.prog GLO.gx 160 bn:=by
 refine bq (D:=D) (fn:=Tryz.f160) (c:=Tryz.f160.body.getD .skip) [.any] (by kernel_rfl) (bf (by kernel_rfl)) (by kernel_rfl) (by kernel_rfl) (by kernel_rfl) ⟨ji.ok,trivial⟩ ⟨auq (D:=D1) (D':=D) (fn:=Tryz.f178) (c:=Tryz.f178.body.getD .skip) rfl rfl (by kernel_rfl) (bf (by kernel_rfl)) (by kernel_rfl) (by kernel_rfl) (by kernel_rfl) ⟨ji.ok,trivial⟩ ⟨auq (D:=D2) (D':=D1) (fn:=Tryz.f192) (c:=Tryz.f192.body.getD .skip) rfl rfl (by kernel_rfl) (bf (by kernel_rfl)) (by kernel_rfl) (by kernel_rfl) (by kernel_rfl) ⟨ji.ok,trivial⟩ trivial (by rw[bg5];exact ⟨bu7,trivial⟩) (fun _ _ _ _ _ h=>h),trivial⟩ (by rw[ap4];exact ⟨bu8,bu3,bq9,br5,br1,trivial⟩) (fun _ _ _ _ _ h=>h),trivial⟩ ?_ ?_
 · rw[loops];exact ⟨bal,trivial⟩
 · intro args K r h
   unfold bn at h
   split at h
   · rw[P.alo] at h;exact Aa (by kernel_rfl) h
   · cases h
theorem ok:Proved Tryz.prog GLO.gx 160 spec:=ok0
end jh

namespace mo
noncomputable def D:Ctx:=({ P:=Tryz.prog,G:=[],globs:=GLO.gx,hints:=[],loops:=[],inl:=[] }:Ctx)
theorem loops:dn (Tryz.f158.body.getD .skip)=[]:=by kernel_rfl
noncomputable def bn:Abs.Spec:=fun args K=>match args with
 | [.v (.int .i64 a)]=>P.mo a (fun b=>K (.v (.int .i64 b)))
 | _=>none
noncomputable def spec:Abs.Spec:=bn
theorem ok0:Proved Tryz.prog GLO.gx 158 bn:=by
 refine bq (D:=D) (fn:=Tryz.f158) (c:=Tryz.f158.body.getD .skip) [.any] (by kernel_rfl) (bf (by kernel_rfl)) (by kernel_rfl) (by kernel_rfl) (by kernel_rfl) trivial trivial ?_ ?_
 · rw[loops];exact trivial
 · intro args K r h
   unfold bn at h
   split at h
   · rw[P.arj] at h;exact Aa (by kernel_rfl) h
   · cases h
theorem ok:Proved Tryz.prog GLO.gx 158 spec:=ok0
end mo

namespace mh
abbrev X5:=P.bzz
def S5:X5→ASt:=fun (k,l,i,j,a,b,c,d,e,f,g,h)=>⟨[(1,.sl (.ints .u8 k)),(2,.ptr 0 0),(4,.ptr 1 0),(5,.v (.int .i64 l)),(14,.v (.int .i64 i)),(15,.v (.int .i64 j))],[(0,some ⟨.box 132 [.v (.int .i64 a),.arr .u64 25 b,.v (.int .i64 c),.v (.bool d)],false⟩),(1,some ⟨.box 132 [.v (.int .i64 e),.arr .u64 25 f,.v (.int .i64 g),.v (.bool h)],false⟩)],40,40⟩
def V5:ASt→Option X5
 | ⟨[(1,.sl (.ints .u8 k)),(2,.ptr 0 0),(4,.ptr 1 0),(5,.v (.int .i64 l)),(14,.v (.int .i64 i)),(15,.v (.int .i64 j))],[(0,some ⟨.box 132 [.v (.int .i64 a),.arr .u64 25 b,.v (.int .i64 c),.v (.bool d)],false⟩),(1,some ⟨.box 132 [.v (.int .i64 e),.arr .u64 25 f,.v (.int .i64 g),.v (.bool h)],false⟩)],40,40⟩=>some (k,l,i,j,a,b,c,d,e,f,g,h)
 | _=>none
theorem azu(st)(x)(h:V5 st=some x):st=S5 x:=by
 unfold V5 at h
 split at h
 · cases h;rfl
 · cases h
abbrev Y5:=P.cai
def E5(K:AExit→ASt→Option R):Y5→Option R:=(fun x=>K (.exit 0) (S5 x))
noncomputable def L5:tq:=fun st K=>ady (V5 st) fun x=>P.b62 x (E5 K)
noncomputable def D1:Ctx:=({ P:=Tryz.prog,G:=[(158,mo.spec),(160,jh.spec)],globs:=GLO.gx,hints:=[],loops:=[],inl:=[] }:Ctx)
noncomputable def D:Ctx:=({ P:=Tryz.prog,G:=[(158,mo.spec),(160,jh.spec)],globs:=GLO.gx,hints:=[(5,⟨[1,2,4,5,14,15],[],[4],[],some (40,[0,1]),[],[],[]⟩)],loops:=[(5,L5)],inl:=[(161,ain D1 Tryz.f161)] }:Ctx)
theorem aoz(K)(next)(x):l5 D (fq Tryz.f136 5) K next (S5 x)=P.b22 x (fun x=>next (S5 x)) (E5 K):=by kernel_rfl
theorem bap:jv D (fq Tryz.f136 5):=iy S5 azu (by kernel_rfl) P.ceb aoz
theorem loops:dn (Tryz.f136.body.getD .skip)=[fq Tryz.f136 5]:=by kernel_rfl
theorem ap4:dn (Tryz.f161.body.getD .skip)=[]:=by kernel_rfl
noncomputable def bn:Abs.Spec:=fun args K=>match args with
 | [.agg [.v (.int .i64 c),.arr .u64 25 a,.v (.int .i64 g),.v (.bool e)],.sl (.ints .u8 i)]=>P.mh c a g e i (fun d b h f=>K (.agg [.v (.int .i64 d),.arr .u64 25 b,.v (.int .i64 h),.v (.bool f)]))
 | _=>none
noncomputable def spec:Abs.Spec:=fun args K=>bn (l8 [.any,.sl (.ints .u8 [])] args) K
theorem ok0:Proved Tryz.prog GLO.gx 136 bn:=by
 refine bq (D:=D) (fn:=Tryz.f136) (c:=Tryz.f136.body.getD .skip) [.any] (by kernel_rfl) (bf (by kernel_rfl)) (by kernel_rfl) (by kernel_rfl) (by kernel_rfl) ⟨mo.ok,jh.ok,trivial⟩ ⟨auq (D:=D1) (D':=D) (fn:=Tryz.f161) (c:=Tryz.f161.body.getD .skip) rfl rfl (by kernel_rfl) (bf (by kernel_rfl)) (by kernel_rfl) (by kernel_rfl) (by kernel_rfl) ⟨mo.ok,jh.ok,trivial⟩ trivial (by rw[ap4];exact trivial) (fun _ _ _ _ _ h=>h),trivial⟩ ?_ ?_
 · rw[loops];exact ⟨bap,trivial⟩
 · intro args K r h
   unfold bn at h
   split at h
   · rw[P.an8] at h;exact Aa (by kernel_rfl) h
   · cases h
theorem ok:Proved Tryz.prog GLO.gx 136 spec:=dw _ ok0
end mh

namespace abp
noncomputable def D:Ctx:=({ P:=Tryz.prog,G:=[(158,mo.spec)],globs:=GLO.gx,hints:=[],loops:=[],inl:=[] }:Ctx)
theorem loops:dn (Tryz.f134.body.getD .skip)=[]:=by kernel_rfl
noncomputable def bn:Abs.Spec:=fun args K=>match args with
 | [.v (.int .i64 e)]=>P.abp e (fun b a d c f=>K (.tuple [.agg [.v (.int .i64 b),.arr .u64 25 a,.v (.int .i64 d),.v (.bool c)],.v (.int .i64 f)]))
 | _=>none
noncomputable def spec:Abs.Spec:=bn
theorem ok0:Proved Tryz.prog GLO.gx 134 bn:=by
 refine bq (D:=D) (fn:=Tryz.f134) (c:=Tryz.f134.body.getD .skip) [.any,.any] (by kernel_rfl) (bf (by kernel_rfl)) (by kernel_rfl) (by kernel_rfl) (by kernel_rfl) ⟨mo.ok,trivial⟩ trivial ?_ ?_
 · rw[loops];exact trivial
 · intro args K r h
   unfold bn at h
   split at h
   · rw[P.am0] at h;exact Aa (by kernel_rfl) h
   · cases h
theorem ok:Proved Tryz.prog GLO.gx 134 spec:=ok0
end abp

namespace xu
noncomputable def D1:Ctx:=({ P:=Tryz.prog,G:=[(158,mo.spec),(160,jh.spec)],globs:=GLO.gx,hints:=[],loops:=[],inl:=[] }:Ctx)
noncomputable def D:Ctx:=({ P:=Tryz.prog,G:=[(158,mo.spec),(160,jh.spec)],globs:=GLO.gx,hints:=[],loops:=[],inl:=[(161,ain D1 Tryz.f161)] }:Ctx)
theorem loops:dn (Tryz.f159.body.getD .skip)=[]:=by kernel_rfl
theorem ap4:dn (Tryz.f161.body.getD .skip)=[]:=by kernel_rfl
noncomputable def bn:Abs.Spec:=fun args K=>match args with
 | [.agg [.v (.int .i64 c),.arr .u64 25 a,.v (.int .i64 g),.v (.bool e)]]=>P.xu c a g e (fun d b h f=>K (.agg [.v (.int .i64 d),.arr .u64 25 b,.v (.int .i64 h),.v (.bool f)]))
 | _=>none
noncomputable def spec:Abs.Spec:=bn
theorem ok0:Proved Tryz.prog GLO.gx 159 bn:=by
 refine bq (D:=D) (fn:=Tryz.f159) (c:=Tryz.f159.body.getD .skip) [.any] (by kernel_rfl) (bf (by kernel_rfl)) (by kernel_rfl) (by kernel_rfl) (by kernel_rfl) ⟨mo.ok,jh.ok,trivial⟩ ⟨auq (D:=D1) (D':=D) (fn:=Tryz.f161) (c:=Tryz.f161.body.getD .skip) rfl rfl (by kernel_rfl) (bf (by kernel_rfl)) (by kernel_rfl) (by kernel_rfl) (by kernel_rfl) ⟨mo.ok,jh.ok,trivial⟩ trivial (by rw[ap4];exact trivial) (fun _ _ _ _ _ h=>h),trivial⟩ ?_ ?_
 · rw[loops];exact trivial
 · intro args K r h
   unfold bn at h
   split at h
   · rw[P.an7] at h;exact Aa (by kernel_rfl) h
   · cases h
theorem ok:Proved Tryz.prog GLO.gx 159 spec:=ok0
end xu

namespace o7
abbrev X7:=P.b2u
def S7:X7→ASt:=fun (i,j,a,b,c,d,e,f,g,h,k)=>⟨[(2,.ptr 0 0),(4,.ptr 1 0),(6,.own 2),(19,.v (.int .i64 i)),(20,.v (.int .i64 j))],[(0,some ⟨.box 132 [.v (.int .i64 a),.arr .u64 25 b,.v (.int .i64 c),.v (.bool d)],false⟩),(1,some ⟨.box 132 [.v (.int .i64 e),.arr .u64 25 f,.v (.int .i64 g),.v (.bool h)],false⟩),(2,some ⟨.row 5 (.ints .u8 k),false⟩)],40,56⟩
def V7:ASt→Option X7
 | ⟨[(2,.ptr 0 0),(4,.ptr 1 0),(6,.own 2),(19,.v (.int .i64 i)),(20,.v (.int .i64 j))],[(0,some ⟨.box 132 [.v (.int .i64 a),.arr .u64 25 b,.v (.int .i64 c),.v (.bool d)],false⟩),(1,some ⟨.box 132 [.v (.int .i64 e),.arr .u64 25 f,.v (.int .i64 g),.v (.bool h)],false⟩),(2,some ⟨.row 5 (.ints .u8 k),false⟩)],40,56⟩=>some (i,j,a,b,c,d,e,f,g,h,k)
 | _=>none
theorem bkb(st)(x)(h:V7 st=some x):st=S7 x:=by
 unfold V7 at h
 split at h
 · cases h;rfl
 · cases h
abbrev Y7:=P.b8m
def E7(K:AExit→ASt→Option R):Y7→Option R:=(fun x=>K (.exit 0) (S7 x))
noncomputable def L7:tq:=fun st K=>ady (V7 st) fun x=>P.b9s x (E7 K)
noncomputable def D:Ctx:=({ P:=Tryz.prog,G:=[(158,mo.spec),(159,xu.spec),(160,jh.spec)],globs:=GLO.gx,hints:=[(7,⟨[2,4,6,19,20],[],[4,5],[],some (40,[0,1,2]),[],[],[]⟩)],loops:=[(7,L7)],inl:=[] }:Ctx)
theorem ays(K)(next)(x):l5 D (fq Tryz.f135 7) K next (S7 x)=P.bzn x (fun x=>next (S7 x)) (E7 K):=by kernel_rfl
theorem bi1:jv D (fq Tryz.f135 7):=iy S7 bkb (by kernel_rfl) P.cea ays
theorem loops:dn (Tryz.f135.body.getD .skip)=[fq Tryz.f135 7]:=by kernel_rfl
noncomputable def bn:Abs.Spec:=fun args K=>match args with
 | [.agg [.v (.int .i64 c),.arr .u64 25 a,.v (.int .i64 g),.v (.bool e)],.v (.int .i64 i)]=>P.o7 c a g e i (fun d b h f j=>K (.tuple [.agg [.v (.int .i64 d),.arr .u64 25 b,.v (.int .i64 h),.v (.bool f)],.fr 5 (.ints .u8 j)]))
 | _=>none
noncomputable def spec:Abs.Spec:=bn
theorem ok0:Proved Tryz.prog GLO.gx 135 bn:=by
 refine bq (D:=D) (fn:=Tryz.f135) (c:=Tryz.f135.body.getD .skip) [.any,.fr 5 (.ints .u8 [])] (by kernel_rfl) (bf (by kernel_rfl)) (by kernel_rfl) (by kernel_rfl) (by kernel_rfl) ⟨mo.ok,xu.ok,jh.ok,trivial⟩ trivial ?_ ?_
 · rw[loops];exact ⟨bi1,trivial⟩
 · intro args K r h
   unfold bn at h
   split at h
   · rw[P.ami] at h;exact Aa (by kernel_rfl) h
   · cases h
theorem ok:Proved Tryz.prog GLO.gx 135 spec:=ok0
end o7

namespace jg
noncomputable def D:Ctx:=({ P:=Tryz.prog,G:=[(40,jc.spec),(135,o7.spec),(136,mh.spec)],globs:=GLO.gx,hints:=[],loops:=[],inl:=[] }:Ctx)
theorem loops:dn (Tryz.f186.body.getD .skip)=[]:=by kernel_rfl
noncomputable def bn:Abs.Spec:=fun args K=>match args with
 | [.arr .u8 32 e,.sl (.ints .u8 f),.sta [.v (.int .i64 b),.arr .u64 25 a,.v (.int .i64 d),.v (.bool c)],.sta [.v (.int .i64 g)]]=>P.jg e f b a d c g (fun h=>K (.fr 5 (.ints .u8 h)))
 | _=>none
noncomputable def spec:Abs.Spec:=fun args K=>bn (l8 [.any,.sl (.ints .u8 []),.any,.any] args) K
theorem ok0:Proved Tryz.prog GLO.gx 186 bn:=by
 refine bq (D:=D) (fn:=Tryz.f186) (c:=Tryz.f186.body.getD .skip) [.fr 5 (.ints .u8 [])] (by kernel_rfl) (bf (by kernel_rfl)) (by kernel_rfl) (by kernel_rfl) (by kernel_rfl) ⟨jc.ok,o7.ok,mh.ok,trivial⟩ trivial ?_ ?_
 · rw[loops];exact trivial
 · intro args K r h
   unfold bn at h
   split at h
   · rw[P.alu] at h;exact Aa (by kernel_rfl) h
   · cases h
theorem ok:Proved Tryz.prog GLO.gx 186 spec:=dw _ ok0
end jg

namespace ac1
noncomputable def D:Ctx:=({ P:=Tryz.prog,G:=[(134,abp.spec),(136,mh.spec),(186,jg.spec)],globs:=GLO.gx,hints:=[],loops:=[],inl:=[],sta:=true }:Ctx)
theorem loops:dn (Tryz.f168.body.getD .skip)=[]:=by kernel_rfl
noncomputable def bn:Abs.Spec:=fun args K=>match args with
 | [.v (.int .i64 f),.sl (.ints .u8 g)]=>P.ac1 f g (fun b a d c e=>K (.fn (.func 186) [] [.sta [.v (.int .i64 b),.arr .u64 25 a,.v (.int .i64 d),.v (.bool c)],.sta [.v (.int .i64 e)]]))
 | _=>none
noncomputable def spec:Abs.Spec:=fun args K=>bn (l8 [.any,.sl (.ints .u8 [])] args) K
theorem ok0:Proved Tryz.prog GLO.gx 168 bn:=by
 refine bq (D:=D) (fn:=Tryz.f168) (c:=Tryz.f168.body.getD .skip) [.any] (by kernel_rfl) (bf (by kernel_rfl)) (by kernel_rfl) (by kernel_rfl) (by kernel_rfl) ⟨abp.ok,mh.ok,jg.ok,trivial⟩ trivial ?_ ?_
 · rw[loops];exact trivial
 · intro args K r h
   unfold bn at h
   split at h
   · rw[P.arh] at h;exact Aa (by kernel_rfl) h
   · cases h
theorem ok:Proved Tryz.prog GLO.gx 168 spec:=dw _ ok0
end ac1

namespace y7
noncomputable def D:Ctx:=({ P:=Tryz.prog,G:=[(22,jk.spec),(168,ac1.spec),(169,ac0.spec),(186,jg.spec),(188,jf.spec)],globs:=GLO.gx,hints:=[],loops:=[],inl:=[] }:Ctx)
theorem loops:dn (Tryz.f144.body.getD .skip)=[]:=by kernel_rfl
noncomputable def bn:Abs.Spec:=fun args K=>match args with
 | [.agg [.v (.int .i64 y),.v (.int .i64 z),.v (.int .i64 A),.v (.int .i64 B),.v (.int .i64 C),.v (.bool p)],.sl (.ints .u8 F)]=>P.y7 y z A B C p F (fun q r s t u l w d a m k n e b f g o h c i j G=>K (.tuple [.agg [.v (.int .i64 q),.v (.int .i64 r),.v (.int .i64 s),.v (.int .i64 t),.v (.int .i64 u),.v (.bool l),.alt w (.func 186) [] [.sta [.v (.int .i64 d),.arr .u64 25 a,.v (.int .i64 m),.v (.bool k)],.sta [.v (.int .i64 n)]] (.func 188) [] [.sta [.v (.int .i64 e),.arr .u64 8 b,.sl (.ints .u8 f),.v (.int .u64 g)],.sta [.v (.int .i64 o)],.sta [.v (.int .i64 h),.arr .u64 8 c,.sl (.ints .u8 i),.v (.int .u64 j)]]],.v (.bool G)]))
 | _=>none
noncomputable def spec:Abs.Spec:=fun args K=>bn (l8 [.any,.sl (.ints .u8 [])] args) K
theorem ok0:Proved Tryz.prog GLO.gx 144 bn:=by
 refine bq (D:=D) (fn:=Tryz.f144) (c:=Tryz.f144.body.getD .skip) [.agg [.any,.any,.any,.any,.any,.any,.alt (.func 186) [] [.sta [.v (.int .i64 0),.arr .u64 25 [],.v (.int .i64 0),.v (.bool false)],.sta [.v (.int .i64 0)]] (.func 188) [] [.sta [.v (.int .i64 0),.arr .u64 8 [],.sl (.ints .u8 []),.v (.int .u64 0)],.sta [.v (.int .i64 0)],.sta [.v (.int .i64 0),.arr .u64 8 [],.sl (.ints .u8 []),.v (.int .u64 0)]]],.any] (by kernel_rfl) (bf (by kernel_rfl)) (by kernel_rfl) (by kernel_rfl) (by kernel_rfl) ⟨jk.ok,ac1.ok,ac0.ok,jg.ok,jf.ok,trivial⟩ trivial ?_ ?_
 · rw[loops];exact trivial
 · intro args K r h
   unfold bn at h
   split at h
   · rw[P.ank] at h;exact Aa (by kernel_rfl) h
   · cases h
theorem ok:Proved Tryz.prog GLO.gx 144 spec:=dw _ ok0
end y7

namespace zy
noncomputable def D:Ctx:=({ P:=Tryz.prog,G:=[(144,y7.spec),(186,jg.spec),(188,jf.spec)],globs:=GLO.gx,hints:=[],loops:=[],inl:=[] }:Ctx)
theorem loops:dn (Tryz.f104.body.getD .skip)=[]:=by kernel_rfl
noncomputable def bn:Abs.Spec:=fun args K=>match args with
 | [.agg [.v (.int .i64 b),.v (.int .i64 c),.v (.int .i64 d),.v (.int .i64 e),.v (.int .i64 f),.v (.bool a)],.sl (.ints .u8 g),.arr .u8 32 h,.sl (.ints .u8 i)]=>P.zy b c d e f a g h i (fun j=>K (.sl (.ints .u8 j)))
 | _=>none
noncomputable def spec:Abs.Spec:=fun args K=>bn (l8 [.any,.sl (.ints .u8 []),.any,.sl (.ints .u8 [])] args) K
theorem ok0:Proved Tryz.prog GLO.gx 104 bn:=by
 refine bq (D:=D) (fn:=Tryz.f104) (c:=Tryz.f104.body.getD .skip) [.sl (.ints .u8 [])] (by kernel_rfl) (bf (by kernel_rfl)) (by kernel_rfl) (by kernel_rfl) (by kernel_rfl) ⟨y7.ok,jg.ok,jf.ok,trivial⟩ trivial ?_ ?_
 · rw[loops];exact trivial
 · intro args K r h
   unfold bn at h
   split at h
   · rw[P.ay7] at h;exact Aa (by kernel_rfl) h
   · cases h
theorem ok:Proved Tryz.prog GLO.gx 104 spec:=dw _ ok0
end zy

namespace o8
noncomputable def D:Ctx:=({ P:=Tryz.prog,G:=[(104,zy.spec),(105,p8.spec)],globs:=GLO.gx,hints:=[],loops:=[],inl:=[] }:Ctx)
theorem loops:dn (Tryz.f54.body.getD .skip)=[]:=by kernel_rfl
noncomputable def bn:Abs.Spec:=fun args K=>match args with
 | [.agg [.v (.int .i64 c),.v (.int .i64 d),.v (.int .i64 e),.v (.int .i64 f),.v (.int .i64 g),.v (.bool a),.sl (.ints .u8 b),.sl (.ints .u8 h),.arr .u8 32 i],.sl (.ints .u8 j)]=>P.o8 c d e f g a b h i j (fun k=>K (.sl (.ints .u8 k)))
 | _=>none
noncomputable def spec:Abs.Spec:=fun args K=>bn (l8 [.agg [.any,.any,.any,.any,.any,.any,.sl (.ints .u8 []),.sl (.ints .u8 []),.any],.sl (.ints .u8 [])] args) K
theorem ok0:Proved Tryz.prog GLO.gx 54 bn:=by
 refine bq (D:=D) (fn:=Tryz.f54) (c:=Tryz.f54.body.getD .skip) [.sl (.ints .u8 [])] (by kernel_rfl) (bf (by kernel_rfl)) (by kernel_rfl) (by kernel_rfl) (by kernel_rfl) ⟨zy.ok,p8.ok,trivial⟩ trivial ?_ ?_
 · rw[loops];exact trivial
 · intro args K r h
   unfold bn at h
   split at h
   · rw[P.alz] at h;exact Aa (by kernel_rfl) h
   · cases h
theorem ok:Proved Tryz.prog GLO.gx 54 spec:=dw _ ok0
end o8

namespace uj
noncomputable def D:Ctx:=({ P:=Tryz.prog,G:=[(39,gy.spec),(105,p8.spec)],globs:=GLO.gx,hints:=[],loops:=[],inl:=[] }:Ctx)
theorem loops:dn (Tryz.f143.body.getD .skip)=[]:=by kernel_rfl
noncomputable def bn:Abs.Spec:=fun args K=>match args with
 | [.agg [.v (.int .i64 c),.v (.int .i64 d),.v (.int .i64 e),.v (.int .i64 f),.v (.int .i64 g),.v (.bool a),.sl (.ints .u8 b),.sl (.ints .u8 h),.arr .u8 32 i],.v (.int .i64 j),.v (.int .u64 k)]=>P.uj c d e f g a b h i j k (fun l=>K (.arr .u8 32 l))
 | _=>none
noncomputable def spec:Abs.Spec:=fun args K=>bn (l8 [.agg [.any,.any,.any,.any,.any,.any,.sl (.ints .u8 []),.sl (.ints .u8 []),.any],.any,.any] args) K
theorem ok0:Proved Tryz.prog GLO.gx 143 bn:=by
 refine bq (D:=D) (fn:=Tryz.f143) (c:=Tryz.f143.body.getD .skip) [.any] (by kernel_rfl) (bf (by kernel_rfl)) (by kernel_rfl) (by kernel_rfl) (by kernel_rfl) ⟨gy.ok,p8.ok,trivial⟩ trivial ?_ ?_
 · rw[loops];exact trivial
 · intro args K r h
   unfold bn at h
   split at h
   · rw[P.ail] at h;exact Aa (by kernel_rfl) h
   · cases h
theorem ok:Proved Tryz.prog GLO.gx 143 spec:=dw _ ok0
end uj

end
