/-
  SlhSigns, part 18: lemmas for the law.
-/

import Derived.Test.YtciddcopcdmnbaaGreatDoorSlhSignsK
import Derived.Test.YtciddcopcdmnbaaGreatDoorSlhSignsH
import Derived.Test.YtciddcopcdmnbaaGreatDoorProg
import Derived.Test.YtciddcopcdmnbaaGreatDoorSlhSignsJ
import Derived.Test.YtciddcopcdmnbaaGreatDoorSlhSignsQ
import Derived.KernelRfl
import Derived.Test.YtciddcopcdmnbaaGreatDoorSlhSignsN
import Derived.Test.YtciddcopcdmnbaaGreatDoorSlhSignsL
import Derived.Test.YtciddcopcdmnbaaGreatDoorSlhSignsP
open Eq renaming trans → Aa

section
open Go Go.Abs Go.Proofs
set_option maxRecDepth 100000
set_option maxHeartbeats 0
set_option linter.unusedVariables false

namespace agi
noncomputable def D:Ctx:=({ P:=Tryz.prog,G:=[(95,qo.spec),(97,qj.spec)],globs:=GLO.gx,hints:=[],loops:=[],inl:=[],sta:=true }:Ctx)
theorem loops:gy (Tryz.f50.body.getD .skip)=[]:=by kernel_rfl
noncomputable def spec:Abs.Spec:=fun args K=>match args with
 | [.agg [.v (.int .i64 w),.v (.int .i64 y),.v (.int .i64 z),.v (.int .i64 A),.v (.int .i64 B),.v (.bool p)]]=>P.agi w y z A B p (fun q r s t u h o i j k l m b n c d e f g a=>K (.agg [.v (.int .i64 q),.v (.int .i64 r),.v (.int .i64 s),.v (.int .i64 t),.v (.int .i64 u),.v (.bool h),.fn (.func 95) [] [.sta [.v (.int .i64 o)],.sta [.v (.int .i64 i),.v (.int .i64 j),.v (.int .i64 k),.v (.int .i64 l),.v (.int .i64 m),.v (.bool b)]],.fn (.func 97) [] [.sta [.v (.int .i64 n)],.sta [.v (.int .i64 c),.v (.int .i64 d),.v (.int .i64 e),.v (.int .i64 f),.v (.int .i64 g),.v (.bool a)]]]))
 | _=>none
theorem ok:Proved Tryz.prog GLO.gx 50 spec:=by
 refine z8 (D:=D) (fn:=Tryz.f50) (c:=Tryz.f50.body.getD .skip) [.any] (by kernel_rfl) (je (by kernel_rfl)) (by kernel_rfl) (by kernel_rfl) (by kernel_rfl) ⟨qo.ok,qj.ok,trivial⟩ trivial ?_ ?_
 · rw[loops];exact trivial
 · intro args K r h
   unfold spec at h
   split at h
   · rw[P.azo] at h;exact Aa (by kernel_rfl) h
   · cases h
end agi

namespace nu
noncomputable def cu:Abs.Spec:=fun args K=>match args with
 | [.v (.int .i64 a),.sl (.rows .u8 b)]=>P.nu a b (fun c=>K (.fr 5 (.ints .u8 c)))
 | _=>none
noncomputable def spec:Abs.Spec:=fun args K=>cu (j5 [.any,.sl (.rows .u8 [])] args) K
theorem ok0:Proved Tryz.prog GLO.gx 91 cu:=pK (G:=[(40,jc.spec),(92,zw.spec)]) (fn:=Tryz.f91) [.fr 5 (.ints .u8 [])] ⟨jc.ok,zw.ok,trivial⟩ fun _ K _ h=>by
  unfold cu at h
  split at h
  · rw[P.ajr] at h;exact Aa (by kernel_rfl) h
  · cases h
theorem ok:Proved Tryz.prog GLO.gx 91 spec:=bq _ ok0
end nu

namespace ql
noncomputable def cu:Abs.Spec:=fun args K=>match args with
 | [.sl (.ints .u8 g),.sl (.ints .u8 h),.sl (.ints .u8 i),.sta [.fn (.func 91) [] []],.sta [.v (.int .i64 b),.v (.int .i64 c),.v (.int .i64 d),.v (.int .i64 e),.v (.int .i64 f),.v (.bool a)]]=>P.ql g h i b c d e f a (fun j=>K (.fr 5 (.ints .u8 j)))
 | _=>none
noncomputable def spec:Abs.Spec:=fun args K=>cu (j5 [.sl (.ints .u8 []),.sl (.ints .u8 []),.sl (.ints .u8 []),.any,.any] args) K
theorem ok0:Proved Tryz.prog GLO.gx 93 cu:=pK (G:=[(91,nu.spec)]) (fn:=Tryz.f93) [.fr 5 (.ints .u8 [])] ⟨nu.ok,trivial⟩ fun _ K _ h=>by
  unfold cu at h
  split at h
  · rw[P.arl] at h;exact Aa (by kernel_rfl) h
  · cases h
theorem ok:Proved Tryz.prog GLO.gx 93 spec:=bq _ ok0
end ql

namespace qm
noncomputable def cu:Abs.Spec:=fun args K=>match args with
 | [.v (.int .i64 a),.sl (.ints .u8 b),.sl (.ints .u8 c),.sl (.ints .u8 d),.sta [.fn (.func 91) [] []]]=>P.qm a b c d (fun e=>K (.fr 5 (.ints .u8 e)))
 | _=>none
noncomputable def spec:Abs.Spec:=fun args K=>cu (j5 [.any,.sl (.ints .u8 []),.sl (.ints .u8 []),.sl (.ints .u8 []),.any] args) K
theorem ok0:Proved Tryz.prog GLO.gx 94 cu:=pK (G:=[(91,nu.spec)]) (fn:=Tryz.f94) [.fr 5 (.ints .u8 [])] ⟨nu.ok,trivial⟩ fun _ K _ h=>by
  unfold cu at h
  split at h
  · rw[P.aq4] at h;exact Aa (by kernel_rfl) h
  · cases h
theorem ok:Proved Tryz.prog GLO.gx 94 spec:=bq _ ok0
end qm

namespace agh
noncomputable def D:Ctx:=({ P:=Tryz.prog,G:=[(91,nu.spec),(93,ql.spec),(94,qm.spec)],globs:=GLO.gx,hints:=[],loops:=[],inl:=[],sta:=true }:Ctx)
theorem loops:gy (Tryz.f49.body.getD .skip)=[]:=by kernel_rfl
noncomputable def spec:Abs.Spec:=fun args K=>match args with
 | [.agg [.v (.int .i64 n),.v (.int .i64 o),.v (.int .i64 p),.v (.int .i64 q),.v (.int .i64 r),.v (.bool h)]]=>P.agh n o p q r h (fun i j k l m b c d e f g a=>K (.agg [.v (.int .i64 i),.v (.int .i64 j),.v (.int .i64 k),.v (.int .i64 l),.v (.int .i64 m),.v (.bool b),.fn (.func 93) [] [.sta [.fn (.func 91) [] []],.sta [.v (.int .i64 c),.v (.int .i64 d),.v (.int .i64 e),.v (.int .i64 f),.v (.int .i64 g),.v (.bool a)]],.fn (.func 94) [] [.sta [.fn (.func 91) [] []]]]))
 | _=>none
theorem ok:Proved Tryz.prog GLO.gx 49 spec:=by
 refine z8 (D:=D) (fn:=Tryz.f49) (c:=Tryz.f49.body.getD .skip) [.any] (by kernel_rfl) (je (by kernel_rfl)) (by kernel_rfl) (by kernel_rfl) (by kernel_rfl) ⟨nu.ok,ql.ok,qm.ok,trivial⟩ trivial ?_ ?_
 · rw[loops];exact trivial
 · intro args K r h
   unfold spec at h
   split at h
   · rw[P.azf] at h;exact Aa (by kernel_rfl) h
   · cases h
end agh

namespace acv
noncomputable def spec:Abs.Spec:=fun args K=>match args with
 | [.agg [.v (.int .i64 H),.v (.int .i64 I),.v (.int .i64 J),.v (.int .i64 M),.v (.int .i64 N),.v (.bool y)]]=>P.acv H I J M N y (fun z A B C F i G j k l m n b u o p q r s c w t d e f g h a=>K (.agg [.v (.int .i64 z),.v (.int .i64 A),.v (.int .i64 B),.v (.int .i64 C),.v (.int .i64 F),.v (.bool i),.alt G (.func 93) [] [.sta [.fn (.func 91) [] []],.sta [.v (.int .i64 j),.v (.int .i64 k),.v (.int .i64 l),.v (.int .i64 m),.v (.int .i64 n),.v (.bool b)]] (.func 95) [] [.sta [.v (.int .i64 u)],.sta [.v (.int .i64 o),.v (.int .i64 p),.v (.int .i64 q),.v (.int .i64 r),.v (.int .i64 s),.v (.bool c)]],.alt w (.func 94) [] [.sta [.fn (.func 91) [] []]] (.func 97) [] [.sta [.v (.int .i64 t)],.sta [.v (.int .i64 d),.v (.int .i64 e),.v (.int .i64 f),.v (.int .i64 g),.v (.int .i64 h),.v (.bool a)]]]))
 | _=>none
theorem ok:Proved Tryz.prog GLO.gx 24 spec:=pK (G:=[(49,agh.spec),(50,agi.spec),(91,nu.spec),(93,ql.spec),(94,qm.spec),(95,qo.spec),(97,qj.spec)]) (fn:=Tryz.f24) [.agg [.any,.any,.any,.any,.any,.any,.alt (.func 93) [] [.sta [.fn (.func 91) [] []],.sta [.v (.int .i64 0),.v (.int .i64 0),.v (.int .i64 0),.v (.int .i64 0),.v (.int .i64 0),.v (.bool false)]] (.func 95) [] [.sta [.v (.int .i64 0)],.sta [.v (.int .i64 0),.v (.int .i64 0),.v (.int .i64 0),.v (.int .i64 0),.v (.int .i64 0),.v (.bool false)]],.alt (.func 94) [] [.sta [.fn (.func 91) [] []]] (.func 97) [] [.sta [.v (.int .i64 0)],.sta [.v (.int .i64 0),.v (.int .i64 0),.v (.int .i64 0),.v (.int .i64 0),.v (.int .i64 0),.v (.bool false)]]]] ⟨agh.ok,agi.ok,nu.ok,ql.ok,qm.ok,qo.ok,qj.ok,trivial⟩ fun _ K _ h=>by
  unfold spec at h
  split at h
  · rw[P.atu] at h;exact Aa (by kernel_rfl) h
  · cases h
end acv

namespace aaq
noncomputable def cu:Abs.Spec:=fun args K=>match args with
 | [.sl (.ints .u8 a),.v (.int .i64 b)]=>P.aaq a b (fun c d=>K (.tuple [.v (.int .u64 c),.sl (.ints .u8 d)]))
 | _=>none
noncomputable def spec:Abs.Spec:=fun args K=>cu (j5 [.sl (.ints .u8 []),.any] args) K
theorem ok0:Proved Tryz.prog GLO.gx 51 cu:=pK (G:=[(100,wz.spec)]) (fn:=Tryz.f51) [.any,.sl (.ints .u8 [])] ⟨wz.ok,trivial⟩ fun _ K _ h=>by
  unfold cu at h
  split at h
  · rw[P.ay5] at h;exact Aa (by kernel_rfl) h
  · cases h
theorem ok:Proved Tryz.prog GLO.gx 51 spec:=bq _ ok0
end aaq

namespace qp
noncomputable def cu:Abs.Spec:=fun args K=>match args with
 | [.agg [.v (.int .i64 y),.v (.int .i64 z),.v (.int .i64 A),.v (.int .i64 B),.v (.int .i64 C),.v (.bool i),.alt F (.func 93) [] [.sta [.fn (.func 91) [] []],.sta [.v (.int .i64 j),.v (.int .i64 k),.v (.int .i64 l),.v (.int .i64 m),.v (.int .i64 n),.v (.bool b)]] (.func 95) [] [.sta [.v (.int .i64 u)],.sta [.v (.int .i64 o),.v (.int .i64 p),.v (.int .i64 q),.v (.int .i64 r),.v (.int .i64 s),.v (.bool c)]],.alt w (.func 94) [] [.sta [.fn (.func 91) [] []]] (.func 97) [] [.sta [.v (.int .i64 t)],.sta [.v (.int .i64 d),.v (.int .i64 e),.v (.int .i64 f),.v (.int .i64 g),.v (.int .i64 h),.v (.bool a)]]],.sl (.ints .u8 J),.sl (.ints .u8 M),.sl (.ints .u8 N)]=>P.qp y z A B C i F j k l m n b u o p q r s c w t d e f g h a J M N (fun G H I=>K (.agg [.sl (.ints .u8 G),.v (.int .u64 H),.v (.int .u64 I)]))
 | _=>none
noncomputable def spec:Abs.Spec:=fun args K=>cu (j5 [.agg [.any,.any,.any,.any,.any,.any,.alt (.func 93) [] [.sta [.fn (.func 91) [] []],.sta [.v (.int .i64 0),.v (.int .i64 0),.v (.int .i64 0),.v (.int .i64 0),.v (.int .i64 0),.v (.bool false)]] (.func 95) [] [.sta [.v (.int .i64 0)],.sta [.v (.int .i64 0),.v (.int .i64 0),.v (.int .i64 0),.v (.int .i64 0),.v (.int .i64 0),.v (.bool false)]],.alt (.func 94) [] [.sta [.fn (.func 91) [] []]] (.func 97) [] [.sta [.v (.int .i64 0)],.sta [.v (.int .i64 0),.v (.int .i64 0),.v (.int .i64 0),.v (.int .i64 0),.v (.int .i64 0),.v (.bool false)]]],.sl (.ints .u8 []),.sl (.ints .u8 []),.sl (.ints .u8 [])] args) K
theorem ok0:Proved Tryz.prog GLO.gx 25 cu:=pK (G:=[(23,ku.spec),(51,aaq.spec),(91,nu.spec),(93,ql.spec),(94,qm.spec),(95,qo.spec),(97,qj.spec)]) (fn:=Tryz.f25) [.agg [.sl (.ints .u8 []),.any,.any]] ⟨ku.ok,aaq.ok,nu.ok,ql.ok,qm.ok,qo.ok,qj.ok,trivial⟩ fun _ K _ h=>by
  unfold cu at h
  split at h
  · rw[P.ags] at h;exact Aa (by kernel_rfl) h
  · cases h
theorem ok:Proved Tryz.prog GLO.gx 25 spec:=bq _ ok0
end qp

namespace o8
noncomputable def cu:Abs.Spec:=fun args K=>match args with
 | [.agg [.sl (.ints .u8 a),.v (.int .u64 b),.v (.int .u64 c)]]=>P.o8 a b c (fun d=>K (.arr .u8 32 d))
 | _=>none
noncomputable def spec:Abs.Spec:=fun args K=>cu (j5 [.agg [.sl (.ints .u8 []),.any,.any]] args) K
theorem ok0:Proved Tryz.prog GLO.gx 28 cu:=pK (G:=[(39,dz.spec)]) (fn:=Tryz.f28) [.any] ⟨dz.ok,trivial⟩ fun _ K _ h=>by
  unfold cu at h
  split at h
  · rw[P.aot] at h;exact Aa (by kernel_rfl) h
  · cases h
theorem ok:Proved Tryz.prog GLO.gx 28 spec:=bq _ ok0
end o8

namespace adl
noncomputable def cu:Abs.Spec:=fun args K=>match args with
 | [.sl (.ints .u8 a),.sl (.ints .u8 b)]=>P.adl a b (fun c=>K (.fr 5 (.ints .u8 c)))
 | _=>none
noncomputable def spec:Abs.Spec:=fun args K=>cu (j5 [.sl (.ints .u8 []),.sl (.ints .u8 [])] args) K
theorem ok0:Proved Tryz.prog GLO.gx 26 cu:=pK (G:=[(40,jc.spec)]) (fn:=Tryz.f26) [.fr 5 (.ints .u8 [])] ⟨jc.ok,trivial⟩ fun _ K _ h=>by
  unfold cu at h
  split at h
  · rw[P.bb4] at h;exact Aa (by kernel_rfl) h
  · cases h
theorem ok:Proved Tryz.prog GLO.gx 26 spec:=bq _ ok0
end adl

namespace aam
abbrev X5:=P.b9f
def S5:X5→ASt:=fun (c,d,e,a,b)=>⟨[(0,.sl (.ints .u8 c)),(1,.sl (.ints .u8 d)),(5,.v (.int .u8 e)),(13,.v (.int .i64 a)),(14,.v (.int .i64 b))],[],0,31⟩
def V5:ASt→Option X5
 | ⟨[(0,.sl (.ints .u8 c)),(1,.sl (.ints .u8 d)),(5,.v (.int .u8 e)),(13,.v (.int .i64 a)),(14,.v (.int .i64 b))],[],0,31⟩=>some (c,d,e,a,b)
 | _=>none
theorem aub(st)(x)(h:V5 st=some x):st=S5 x:=by unfold V5 at h;split at h;(cases h;rfl);cases h
abbrev Y5:=P.cka
def E5(K:AExit→ASt→Option R):Y5→Option R:=(fun x=>K (.exit 0) (S5 x))
noncomputable def L5:p8:=fun st K=>abx (V5 st) fun x=>P.co7 x (E5 K)
noncomputable def D:Ctx:=⟨Tryz.prog,[],GLO.gx,[(5,⟨[0,1,5,13,14],[],[4],[],none,[],[],[]⟩)],[(5,L5)],[],false,none,none,[],false⟩
theorem ar3:jl D (gu Tryz.f59 5):=fq S5 aub (by kernel_rfl) P.cpt (enc:=E5) fun _ _ _=>by kernel_rfl
theorem loops:gy (Tryz.f59.body.getD .skip)=[gu Tryz.f59 5]:=by kernel_rfl
noncomputable def cu:Abs.Spec:=fun args K=>match args with
 | [.sl (.ints .u8 a),.sl (.ints .u8 b)]=>P.aam a b (fun c=>K (.v (.bool c)))
 | _=>none
noncomputable def spec:Abs.Spec:=fun args K=>cu (j5 [.sl (.ints .u8 []),.sl (.ints .u8 [])] args) K
theorem ok0:Proved Tryz.prog GLO.gx 59 cu:=pL (D:=D) (fn:=Tryz.f59) [.any] trivial loops ⟨ar3,trivial⟩ fun _ K _ h=>by
  unfold cu at h
  split at h
  · rw[P.bc4] at h;exact Aa (by kernel_rfl) h
  · cases h
theorem ok:Proved Tryz.prog GLO.gx 59 spec:=bq _ ok0
end aam

namespace yu
abbrev X6:=P.b7n
def S6:X6→ASt:=fun (c,a,b,d)=>⟨[(5,.own 0),(6,.v (.int .u32 c)),(33,.own 0),(34,.v (.int .i64 a)),(35,.v (.int .i64 b))],[(0,some ⟨.row 102 (.ints .u32 d),false⟩)],1,53⟩
def V6:ASt→Option X6
 | ⟨[(5,.own 0),(6,.v (.int .u32 c)),(33,.own 0),(34,.v (.int .i64 a)),(35,.v (.int .i64 b))],[(0,some ⟨.row 102 (.ints .u32 d),false⟩)],1,53⟩=>some (c,a,b,d)
 | _=>none
theorem alr(st)(x)(h:V6 st=some x):st=S6 x:=by unfold V6 at h;split at h;(cases h;rfl);cases h
abbrev Y6:=P.cli
def E6(K:AExit→ASt→Option R):Y6→Option R:=(fun x=>K (.exit 0) (S6 x))
noncomputable def L6:p8:=fun st K=>abx (V6 st) fun x=>P.cg5 x (E6 K)
noncomputable def D:Ctx:=⟨Tryz.prog,[(102,jr.spec)],GLO.gx,[(6,⟨[5,6,33,34,35],[],[4],[],none,[],[],[]⟩)],[(6,L6)],[],false,none,none,[],false⟩
theorem al6:jl D (gu Tryz.f146 6):=fq S6 alr (by kernel_rfl) P.csc (enc:=E6) fun _ _ _=>by kernel_rfl
theorem loops:gy (Tryz.f146.body.getD .skip)=[gu Tryz.f146 6]:=by kernel_rfl
noncomputable def cu:Abs.Spec:=fun args K=>match args with
 | [.v (.int .i64 a),.sl (.ints .u8 b)]=>P.yu a b (fun c=>K (.fr 102 (.ints .u32 c)))
 | _=>none
noncomputable def spec:Abs.Spec:=fun args K=>cu (j5 [.any,.sl (.ints .u8 [])] args) K
theorem ok0:Proved Tryz.prog GLO.gx 146 cu:=pL (D:=D) (fn:=Tryz.f146) [.fr 102 (.ints .u32 [])] ⟨jr.ok,trivial⟩ loops ⟨al6,trivial⟩ fun _ K _ h=>by
  unfold cu at h
  split at h
  · rw[P.av2] at h;exact Aa (by kernel_rfl) h
  · cases h
theorem ok:Proved Tryz.prog GLO.gx 146 spec:=bq _ ok0
end yu

namespace mo
abbrev X2:=P.b7g
def S2:X2→ASt:=fun (z,A,y,o,p,q,r,s,t,u,a,b,c,d,e,f,g,h,i,j,k,l,m,n,w)=>⟨[(2,.sl (.ints .u8 z)),(4,.v (.int .u32 A)),(5,.ptr 0 0),(6,.ptr 1 0),(11,.v (.int .u32 y))],[(0,some ⟨.box 165 [.v (.int .i64 o),.v (.int .i64 p),.v (.int .i64 q),.v (.int .i64 r),.v (.int .i64 s),.v (.bool t),.alt u (.func 186) [] [.sta [.v (.int .i64 a),.arr .u64 25 b,.v (.int .i64 c),.v (.bool d)],.sta [.v (.int .i64 e)]] (.func 188) [] [.sta [.v (.int .i64 f),.arr .u64 8 g,.sl (.ints .u8 h),.v (.int .u64 i)],.sta [.v (.int .i64 j)],.sta [.v (.int .i64 k),.arr .u64 8 l,.sl (.ints .u8 m),.v (.int .u64 n)]]],false⟩),(1,some ⟨.box 64 [.arr .u8 32 w],false⟩)],2,27⟩
def V2:ASt→Option X2
 | ⟨[(2,.sl (.ints .u8 z)),(4,.v (.int .u32 A)),(5,.ptr 0 0),(6,.ptr 1 0),(11,.v (.int .u32 y))],[(0,some ⟨.box 165 [.v (.int .i64 o),.v (.int .i64 p),.v (.int .i64 q),.v (.int .i64 r),.v (.int .i64 s),.v (.bool t),.alt u (.func 186) [] [.sta [.v (.int .i64 a),.arr .u64 25 b,.v (.int .i64 c),.v (.bool d)],.sta [.v (.int .i64 e)]] (.func 188) [] [.sta [.v (.int .i64 f),.arr .u64 8 g,.sl (.ints .u8 h),.v (.int .u64 i)],.sta [.v (.int .i64 j)],.sta [.v (.int .i64 k),.arr .u64 8 l,.sl (.ints .u8 m),.v (.int .u64 n)]]],false⟩),(1,some ⟨.box 64 [.arr .u8 32 w],false⟩)],2,27⟩=>some (z,A,y,o,p,q,r,s,t,u,a,b,c,d,e,f,g,h,i,j,k,l,m,n,w)
 | _=>none
theorem bfp(st)(x)(h:V2 st=some x):st=S2 x:=by unfold V2 at h;split at h;(cases h;rfl);cases h
abbrev Y2:=P.cnr
def E2(K:AExit→ASt→Option R):Y2→Option R:=(fun x=>K (.exit 0) (S2 x))
noncomputable def L2:p8:=fun st K=>abx (V2 st) fun x=>P.cox x (E2 K)
noncomputable def D:Ctx:=⟨Tryz.prog,[(39,dz.spec),(186,jq.spec),(188,jm.spec)],GLO.gx,[(2,⟨[2,4,5,6,11],[],[10],[(2,.sl (.ints .u8 []))],none,[],[],[]⟩)],[(2,L2)],[],false,none,none,[],false⟩
theorem bgm:jl D (gu Tryz.f147 2):=fq S2 bfp (by kernel_rfl) P.csb (enc:=E2) fun _ _ _=>by kernel_rfl
theorem loops:gy (Tryz.f147.body.getD .skip)=[gu Tryz.f147 2]:=by kernel_rfl
noncomputable def cu:Abs.Spec:=fun args K=>match args with
 | [.agg [.v (.int .i64 p),.v (.int .i64 q),.v (.int .i64 r),.v (.int .i64 s),.v (.int .i64 t),.v (.bool l),.alt u (.func 186) [] [.sta [.v (.int .i64 d),.arr .u64 25 a,.v (.int .i64 m),.v (.bool k)],.sta [.v (.int .i64 n)]] (.func 188) [] [.sta [.v (.int .i64 e),.arr .u64 8 b,.sl (.ints .u8 f),.v (.int .u64 g)],.sta [.v (.int .i64 o)],.sta [.v (.int .i64 h),.arr .u64 8 c,.sl (.ints .u8 i),.v (.int .u64 j)]]],.arr .u8 32 w,.sl (.ints .u8 y),.v (.int .u32 z),.v (.int .u32 A)]=>P.mo p q r s t l u d a m k n e b f g o h c i j w y z A (fun B=>K (.sl (.ints .u8 B)))
 | _=>none
noncomputable def spec:Abs.Spec:=fun args K=>cu (j5 [.agg [.any,.any,.any,.any,.any,.any,.alt (.func 186) [] [.sta [.v (.int .i64 0),.arr .u64 25 [],.v (.int .i64 0),.v (.bool false)],.sta [.v (.int .i64 0)]] (.func 188) [] [.sta [.v (.int .i64 0),.arr .u64 8 [],.sl (.ints .u8 []),.v (.int .u64 0)],.sta [.v (.int .i64 0)],.sta [.v (.int .i64 0),.arr .u64 8 [],.sl (.ints .u8 []),.v (.int .u64 0)]]],.any,.sl (.ints .u8 []),.any,.any] args) K
theorem ok0:Proved Tryz.prog GLO.gx 147 cu:=pL (D:=D) (fn:=Tryz.f147) [.sl (.ints .u8 [])] ⟨dz.ok,jq.ok,jm.ok,trivial⟩ loops ⟨bgm,trivial⟩ fun _ K _ h=>by
  unfold cu at h
  split at h
  · rw[P.akd] at h;exact Aa (by kernel_rfl) h
  · cases h
theorem ok:Proved Tryz.prog GLO.gx 147 spec:=bq _ ok0
end mo

namespace qd
noncomputable def cu:Abs.Spec:=fun args K=>match args with
 | [.agg [.v (.int .i64 p),.v (.int .i64 q),.v (.int .i64 r),.v (.int .i64 s),.v (.int .i64 t),.v (.bool l),.alt u (.func 186) [] [.sta [.v (.int .i64 d),.arr .u64 25 a,.v (.int .i64 m),.v (.bool k)],.sta [.v (.int .i64 n)]] (.func 188) [] [.sta [.v (.int .i64 e),.arr .u64 8 b,.sl (.ints .u8 f),.v (.int .u64 g)],.sta [.v (.int .i64 o)],.sta [.v (.int .i64 h),.arr .u64 8 c,.sl (.ints .u8 i),.v (.int .u64 j)]]]]=>P.qd p q r s t l u d a m k n e b f g o h c i j (fun w=>K (.v (.int .i64 w)))
 | _=>none
noncomputable def spec:Abs.Spec:=fun args K=>cu (j5 [.agg [.any,.any,.any,.any,.any,.any,.alt (.func 186) [] [.sta [.v (.int .i64 0),.arr .u64 25 [],.v (.int .i64 0),.v (.bool false)],.sta [.v (.int .i64 0)]] (.func 188) [] [.sta [.v (.int .i64 0),.arr .u64 8 [],.sl (.ints .u8 []),.v (.int .u64 0)],.sta [.v (.int .i64 0)],.sta [.v (.int .i64 0),.arr .u64 8 [],.sl (.ints .u8 []),.v (.int .u64 0)]]]] args) K
theorem ok0:Proved Tryz.prog GLO.gx 145 cu:=pK (G:=[(186,jq.spec),(188,jm.spec)]) (fn:=Tryz.f145) [.any] ⟨jq.ok,jm.ok,trivial⟩ fun _ K _ h=>by
  unfold cu at h
  split at h
  · rw[P.aj7] at h;exact Aa (by kernel_rfl) h
  · cases h
theorem ok:Proved Tryz.prog GLO.gx 145 spec:=bq _ ok0
end qd

namespace yw
noncomputable def spec:Abs.Spec:=fun args K=>match args with
 | [.arr .u8 32 a,.v (.int .i64 b)]=>P.yw a b (fun c=>K (.v (.int .u64 c)))
 | _=>none
theorem ok:Proved Tryz.prog GLO.gx 170 spec:=pK (G:=[(100,wz.spec)]) (fn:=Tryz.f170) [.any] ⟨wz.ok,trivial⟩ fun _ K _ h=>by
  unfold spec at h
  split at h
  · rw[P.avc] at h;exact Aa (by kernel_rfl) h
  · cases h
end yw

namespace uw
noncomputable def cu:Abs.Spec:=fun args K=>match args with
 | [.agg [.v (.int .i64 p),.v (.int .i64 q),.v (.int .i64 r),.v (.int .i64 s),.v (.int .i64 t),.v (.bool l),.alt u (.func 186) [] [.sta [.v (.int .i64 d),.arr .u64 25 a,.v (.int .i64 m),.v (.bool k)],.sta [.v (.int .i64 n)]] (.func 188) [] [.sta [.v (.int .i64 e),.arr .u64 8 b,.sl (.ints .u8 f),.v (.int .u64 g)],.sta [.v (.int .i64 o)],.sta [.v (.int .i64 h),.arr .u64 8 c,.sl (.ints .u8 i),.v (.int .u64 j)]]],.sl (.ints .u8 w),.arr .u8 32 y]=>P.uw p q r s t l u d a m k n e b f g o h c i j w y (fun z=>K (.sl (.ints .u8 z)))
 | _=>none
noncomputable def spec:Abs.Spec:=fun args K=>cu (j5 [.agg [.any,.any,.any,.any,.any,.any,.alt (.func 186) [] [.sta [.v (.int .i64 0),.arr .u64 25 [],.v (.int .i64 0),.v (.bool false)],.sta [.v (.int .i64 0)]] (.func 188) [] [.sta [.v (.int .i64 0),.arr .u64 8 [],.sl (.ints .u8 []),.v (.int .u64 0)],.sta [.v (.int .i64 0)],.sta [.v (.int .i64 0),.arr .u64 8 [],.sl (.ints .u8 []),.v (.int .u64 0)]]],.sl (.ints .u8 []),.any] args) K
theorem ok0:Proved Tryz.prog GLO.gx 148 cu:=pK (G:=[(39,dz.spec),(170,yw.spec),(186,jq.spec),(188,jm.spec)]) (fn:=Tryz.f148) [.sl (.ints .u8 [])] ⟨dz.ok,yw.ok,jq.ok,jm.ok,trivial⟩ fun _ K _ h=>by
  unfold cu at h
  split at h
  · rw[P.amw] at h;exact Aa (by kernel_rfl) h
  · cases h
theorem ok:Proved Tryz.prog GLO.gx 148 spec:=bq _ ok0
end uw

namespace yh
abbrev X6:=P.b7f
def S6:X6→ASt:=fun (I,G,H,J,o,p,q,r,s,t,u,w,y,z,A,B,C,F,a,b,c,d,e,f,g,h,i,j,k,l,m,n,M)=>⟨[(13,.own 4),(1,.sl (.ints .u8 I)),(5,.ptr 0 0),(9,.ptr 1 0),(11,.ptr 2 0),(44,.own 3),(45,.v (.int .i64 G)),(46,.v (.int .i64 H))],[(4,some ⟨.row 5 (.ints .u8 J),false⟩),(0,some ⟨.box 23 [.v (.int .i64 o),.v (.int .i64 p),.v (.int .i64 q),.v (.int .i64 r),.v (.int .i64 s),.v (.bool t)],false⟩),(1,some ⟨.box 64 [.arr .u8 32 u],false⟩),(2,some ⟨.box 165 [.v (.int .i64 w),.v (.int .i64 y),.v (.int .i64 z),.v (.int .i64 A),.v (.int .i64 B),.v (.bool C),.alt F (.func 186) [] [.sta [.v (.int .i64 a),.arr .u64 25 b,.v (.int .i64 c),.v (.bool d)],.sta [.v (.int .i64 e)]] (.func 188) [] [.sta [.v (.int .i64 f),.arr .u64 8 g,.sl (.ints .u8 h),.v (.int .u64 i)],.sta [.v (.int .i64 j)],.sta [.v (.int .i64 k),.arr .u64 8 l,.sl (.ints .u8 m),.v (.int .u64 n)]]],false⟩),(3,some ⟨.row 102 (.ints .u32 M),false⟩)],5,73⟩
def V6:ASt→Option X6
 | ⟨[(13,.own 4),(1,.sl (.ints .u8 I)),(5,.ptr 0 0),(9,.ptr 1 0),(11,.ptr 2 0),(44,.own 3),(45,.v (.int .i64 G)),(46,.v (.int .i64 H))],[(4,some ⟨.row 5 (.ints .u8 J),false⟩),(0,some ⟨.box 23 [.v (.int .i64 o),.v (.int .i64 p),.v (.int .i64 q),.v (.int .i64 r),.v (.int .i64 s),.v (.bool t)],false⟩),(1,some ⟨.box 64 [.arr .u8 32 u],false⟩),(2,some ⟨.box 165 [.v (.int .i64 w),.v (.int .i64 y),.v (.int .i64 z),.v (.int .i64 A),.v (.int .i64 B),.v (.bool C),.alt F (.func 186) [] [.sta [.v (.int .i64 a),.arr .u64 25 b,.v (.int .i64 c),.v (.bool d)],.sta [.v (.int .i64 e)]] (.func 188) [] [.sta [.v (.int .i64 f),.arr .u64 8 g,.sl (.ints .u8 h),.v (.int .u64 i)],.sta [.v (.int .i64 j)],.sta [.v (.int .i64 k),.arr .u64 8 l,.sl (.ints .u8 m),.v (.int .u64 n)]]],false⟩),(3,some ⟨.row 102 (.ints .u32 M),false⟩)],5,73⟩=>some (I,G,H,J,o,p,q,r,s,t,u,w,y,z,A,B,C,F,a,b,c,d,e,f,g,h,i,j,k,l,m,n,M)
 | _=>none
theorem alr(st)(x)(h:V6 st=some x):st=S6 x:=by unfold V6 at h;split at h;(cases h;rfl);cases h
abbrev Y6:=P.cm4
def E6(K:AExit→ASt→Option R):Y6→Option R:=(fun x=>K (.exit 0) (S6 x))
noncomputable def L6:p8:=fun st K=>abx (V6 st) fun x=>P.cni x (E6 K)
noncomputable def D:Ctx:=⟨Tryz.prog,[(39,dz.spec),(144,xw.spec),(145,qd.spec),(146,yu.spec),(147,mo.spec),(148,uw.spec)],GLO.gx,[(6,⟨[1,5,9,11,44,45,46],[(13,5,.ints .u8 [])],[10],[(1,.sl (.ints .u8 []))],none,[],[],[]⟩)],[(6,L6)],[],false,none,none,[],false⟩
theorem al6:jl D (gu Tryz.f107 6):=fq S6 alr (by kernel_rfl) P.cr9 (enc:=E6) fun _ _ _=>by kernel_rfl
theorem loops:gy (Tryz.f107.body.getD .skip)=[gu Tryz.f107 6]:=by kernel_rfl
noncomputable def cu:Abs.Spec:=fun args K=>match args with
 | [.agg [.v (.int .i64 b),.v (.int .i64 c),.v (.int .i64 d),.v (.int .i64 e),.v (.int .i64 f),.v (.bool a)],.sl (.ints .u8 g),.sl (.ints .u8 h),.sl (.ints .u8 i),.arr .u8 32 j]=>P.yh b c d e f a g h i j (fun k=>K (.sl (.ints .u8 k)))
 | _=>none
noncomputable def spec:Abs.Spec:=fun args K=>cu (j5 [.any,.sl (.ints .u8 []),.sl (.ints .u8 []),.sl (.ints .u8 []),.any] args) K
theorem ok0:Proved Tryz.prog GLO.gx 107 cu:=pL (D:=D) (fn:=Tryz.f107) [.sl (.ints .u8 [])] ⟨dz.ok,xw.ok,qd.ok,yu.ok,mo.ok,uw.ok,trivial⟩ loops ⟨al6,trivial⟩ fun _ K _ h=>by
  unfold cu at h
  split at h
  · rw[P.aok] at h;exact Aa (by kernel_rfl) h
  · cases h
theorem ok:Proved Tryz.prog GLO.gx 107 spec:=bq _ ok0
end yh

end
