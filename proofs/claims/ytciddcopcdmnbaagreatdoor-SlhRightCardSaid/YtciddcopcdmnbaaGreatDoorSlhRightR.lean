/-
  SlhRight, part 18: lemmas for the law.
-/

import Derived.Test.YtciddcopcdmnbaaGreatDoorSlhRightL
import Derived.Test.YtciddcopcdmnbaaGreatDoorSlhRightH
import Derived.Test.YtciddcopcdmnbaaGreatDoorProg
import Derived.Test.YtciddcopcdmnbaaGreatDoorSlhRightJ
import Derived.Test.YtciddcopcdmnbaaGreatDoorSlhRightM
import Derived.KernelRfl
import Derived.Test.YtciddcopcdmnbaaGreatDoorSlhRightP
import Derived.Test.YtciddcopcdmnbaaGreatDoorSlhRightQ
import Derived.Test.YtciddcopcdmnbaaGreatDoorSlhRightO
open Eq renaming trans → Aa

section
open Go Go.Abs Go.Proofs
set_option maxRecDepth 100000
set_option maxHeartbeats 0
set_option linter.unusedVariables false

namespace oo
abbrev X2:=P.bxz
def S2:X2→ASt:=fun (g,h,i,a,b,c,d,e,f)=>⟨[(2,.ptr 0 0),(7,.sl (.rows .u8 g)),(8,.v (.int .i64 h)),(9,.v (.int .i64 i))],[(0,some ⟨.box 23 [.v (.int .i64 a),.v (.int .i64 b),.v (.int .i64 c),.v (.int .i64 d),.v (.int .i64 e),.v (.bool f)],false⟩)],1,21⟩
def V2:ASt→Option X2
 | ⟨[(2,.ptr 0 0),(7,.sl (.rows .u8 g)),(8,.v (.int .i64 h)),(9,.v (.int .i64 i))],[(0,some ⟨.box 23 [.v (.int .i64 a),.v (.int .i64 b),.v (.int .i64 c),.v (.int .i64 d),.v (.int .i64 e),.v (.bool f)],false⟩)],1,21⟩=>some (g,h,i,a,b,c,d,e,f)
 | _=>none
theorem bd3(st)(x)(h:V2 st=some x):st=S2 x:=by unfold V2 at h;split at h;(cases h;rfl);cases h
abbrev Y2:=P.b3v
def E2(K:AExit→ASt→Option R):Y2→Option R:=(Sum.elim (fun x=>K (.exit 0) (S2 x)) (fun (g,a,b,c,d,e,f)=>K .ret ⟨[(4,.v (.bool g))],[(0,some ⟨.box 23 [.v (.int .i64 a),.v (.int .i64 b),.v (.int .i64 c),.v (.int .i64 d),.v (.int .i64 e),.v (.bool f)],false⟩)],1,21⟩))
noncomputable def L2:za:=fun st K=>ag0 (V2 st) fun x=>P.b0d x (E2 K)
noncomputable def D:Ctx:=⟨Tryz.prog,[(22,ji.spec)],GLO.gx,[(2,⟨[2,7,8,9],[],[4],[],none,[],[],[]⟩)],[(2,L2)],[],false,none,none,[],false⟩
theorem bet:o9 D (je Tryz.f55 2):=jd S2 bd3 (by kernel_rfl) P.b5h (enc:=E2) fun _ _ _=>by kernel_rfl
theorem loops:gu (Tryz.f55.body.getD .skip)=[je Tryz.f55 2]:=by kernel_rfl
noncomputable def dn:Abs.Spec:=fun args K=>match args with
 | [.agg [.v (.int .i64 b),.v (.int .i64 c),.v (.int .i64 d),.v (.int .i64 e),.v (.int .i64 f),.v (.bool a)],.sl (.rows .u8 g)]=>P.oo b c d e f a g (fun h=>K (.v (.bool h)))
 | _=>none
noncomputable def spec:Abs.Spec:=fun args K=>dn (o8 [.any,.sl (.rows .u8 [])] args) K
theorem ok0:Proved Tryz.prog GLO.gx 55 dn:=pL (D:=D) (fn:=Tryz.f55) [.any] ⟨ji.ok,trivial⟩ loops ⟨bet,trivial⟩ fun _ K _ h=>by
  unfold dn at h
  split at h
  · rw[P.atd] at h;exact Aa (by kernel_rfl) h
  · cases h
theorem ok:Proved Tryz.prog GLO.gx 55 spec:=cu _ ok0
end oo

namespace qw
noncomputable def dn:Abs.Spec:=fun args K=>match args with
 | [.agg [.v (.int .i64 c),.v (.int .i64 d),.v (.int .i64 e),.v (.int .i64 f),.v (.int .i64 g),.v (.bool a),.sl (.ints .u8 b),.sl (.ints .u8 h),.arr .u8 32 i],.v (.int .u64 j)]=>P.qw c d e f g a b h i j (fun k=>K (.arr .u8 32 k))
 | _=>none
noncomputable def spec:Abs.Spec:=fun args K=>dn (o8 [.agg [.any,.any,.any,.any,.any,.any,.sl (.ints .u8 []),.sl (.ints .u8 []),.any],.any] args) K
theorem ok0:Proved Tryz.prog GLO.gx 108 dn:=pK (G:=[(39,dh.spec)]) (fn:=Tryz.f108) [.any] ⟨dh.ok,trivial⟩ fun _ K _ h=>by
  unfold dn at h
  split at h
  · rw[P.akz] at h;exact Aa (by kernel_rfl) h
  · cases h
theorem ok:Proved Tryz.prog GLO.gx 108 spec:=cu _ ok0
end qw

namespace ug
noncomputable def dn:Abs.Spec:=fun args K=>match args with
 | [.agg [.v (.int .i64 c),.v (.int .i64 d),.v (.int .i64 e),.v (.int .i64 f),.v (.int .i64 g),.v (.bool a),.sl (.ints .u8 b),.sl (.ints .u8 h),.arr .u8 32 i],.v (.int .i64 j),.v (.int .u64 k),.sl (.ints .u8 l),.sl (.ints .u8 m)]=>P.ug c d e f g a b h i j k l m (fun n=>K (.sl (.ints .u8 n)))
 | _=>none
noncomputable def spec:Abs.Spec:=fun args K=>dn (o8 [.agg [.any,.any,.any,.any,.any,.any,.sl (.ints .u8 []),.sl (.ints .u8 []),.any],.any,.any,.sl (.ints .u8 []),.sl (.ints .u8 [])] args) K
theorem ok0:Proved Tryz.prog GLO.gx 109 dn:=pK (G:=[(39,dh.spec),(40,dz.spec),(104,yc.spec)]) (fn:=Tryz.f109) [.sl (.ints .u8 [])] ⟨dh.ok,dz.ok,yc.ok,trivial⟩ fun _ K _ h=>by
  unfold dn at h
  split at h
  · rw[P.akk] at h;exact Aa (by kernel_rfl) h
  · cases h
theorem ok:Proved Tryz.prog GLO.gx 109 spec:=cu _ ok0
end ug

namespace iw
abbrev X7:=P.bts
def S7:X7→ASt:=fun (s,o,p,q,r,a,b,c,d,e,f,g,h,i,j,k,l,m,n)=>⟨[(5,.v (.int .u64 s)),(6,.ptr 0 0),(13,.ptr 3 0),(15,.sl (.ints .u8 o)),(16,.sl (.ints .u8 p)),(66,.v (.int .i64 q)),(67,.v (.int .i64 r))],[(0,some ⟨.box 23 [.v (.int .i64 a),.v (.int .i64 b),.v (.int .i64 c),.v (.int .i64 d),.v (.int .i64 e),.v (.bool f)],false⟩),(3,some ⟨.box 108 [.v (.int .i64 g),.v (.int .i64 h),.v (.int .i64 i),.v (.int .i64 j),.v (.int .i64 k),.v (.bool l),.v (.slice none 0 0),.sl (.ints .u8 m),.arr .u8 32 n],false⟩)],40,98⟩
def V7:ASt→Option X7
 | ⟨[(5,.v (.int .u64 s)),(6,.ptr 0 0),(13,.ptr 3 0),(15,.sl (.ints .u8 o)),(16,.sl (.ints .u8 p)),(66,.v (.int .i64 q)),(67,.v (.int .i64 r))],[(0,some ⟨.box 23 [.v (.int .i64 a),.v (.int .i64 b),.v (.int .i64 c),.v (.int .i64 d),.v (.int .i64 e),.v (.bool f)],false⟩),(3,some ⟨.box 108 [.v (.int .i64 g),.v (.int .i64 h),.v (.int .i64 i),.v (.int .i64 j),.v (.int .i64 k),.v (.bool l),.v (.slice none 0 0),.sl (.ints .u8 m),.arr .u8 32 n],false⟩)],40,98⟩=>some (s,o,p,q,r,a,b,c,d,e,f,g,h,i,j,k,l,m,n)
 | _=>none
theorem bkb(st)(x)(h:V7 st=some x):st=S7 x:=by unfold V7 at h;split at h;(cases h;rfl);cases h
abbrev Y7:=P.b2r
def E7(K:AExit→ASt→Option R):Y7→Option R:=(fun x=>K (.exit 0) (S7 x))
noncomputable def L7:za:=fun st K=>ag0 (V7 st) fun x=>P.byn x (E7 K)
noncomputable def D:Ctx:=⟨Tryz.prog,[(36,qj.spec),(55,oo.spec),(73,ig.spec),(107,wh.spec),(108,qw.spec),(109,ug.spec)],GLO.gx,[(7,⟨[5,6,13,15,16,66,67],[],[12],[(15,.sl (.ints .u8 [])),(16,.sl (.ints .u8 []))],some (40,[0,3]),[],[],[]⟩)],[(7,L7)],[],false,none,none,[],false⟩
theorem bjf:o9 D (je Tryz.f58 7):=jd S7 bkb (by kernel_rfl) P.b5r (enc:=E7) fun _ _ _=>by kernel_rfl
theorem loops:gu (Tryz.f58.body.getD .skip)=[je Tryz.f58 7]:=by kernel_rfl
noncomputable def dn:Abs.Spec:=fun args K=>match args with
 | [.agg [.v (.int .i64 b),.v (.int .i64 c),.v (.int .i64 d),.v (.int .i64 e),.v (.int .i64 f),.v (.bool a)],.sl (.ints .u8 g),.sl (.ints .u8 h),.sl (.ints .u8 i),.arr .u8 32 j,.v (.int .u64 k)]=>P.iw b c d e f a g h i j k (fun l=>K (.sl (.ints .u8 l)))
 | _=>none
noncomputable def spec:Abs.Spec:=fun args K=>dn (o8 [.any,.sl (.ints .u8 []),.sl (.ints .u8 []),.sl (.ints .u8 []),.any,.any] args) K
theorem ok0:Proved Tryz.prog GLO.gx 58 dn:=pL (D:=D) (fn:=Tryz.f58) [.sl (.ints .u8 [])] ⟨qj.ok,oo.ok,ig.ok,wh.ok,qw.ok,ug.ok,trivial⟩ loops ⟨bjf,trivial⟩ fun _ K _ h=>by
  unfold dn at h
  split at h
  · rw[P.aky] at h;exact Aa (by kernel_rfl) h
  · cases h
theorem ok:Proved Tryz.prog GLO.gx 58 spec:=cu _ ok0
end iw

namespace kr
noncomputable def spec:Abs.Spec:=fun args K=>match args with
 | [.agg [.v (.int .i64 b),.v (.int .i64 c),.v (.int .i64 d),.v (.int .i64 e),.v (.int .i64 f),.v (.bool a)],.v (.int .u64 g),.v (.int .u64 h)]=>P.kr b c d e f a g h (fun i=>K (.v (.bool i)))
 | _=>none
theorem ok:Proved Tryz.prog GLO.gx 56 spec:=pK (G:=[(73,ig.spec)]) (fn:=Tryz.f56) [.any] ⟨ig.ok,trivial⟩ fun _ K _ h=>by
  unfold spec at h
  split at h
  · rw[P.aoy] at h;exact Aa (by kernel_rfl) h
  · cases h
end kr

namespace zy
abbrev blr:=P.bsg
def bey:blr→ASt:=fun (a,s,t,b,c,d,e,f,g,h,i,j,k,l,m,n,o,p,q,r)=>⟨[(0,.yld 8 [4,7,8,9,10] [.sl (.ints .u8 a),.ptr 0 0,.ptr 1 0,.ptr 2 0,.ptr 3 0]),(1,.ptr 5 0),(2,.ptr 6 0),(3,.ptr 7 0),(8,.v (.int .i64 s)),(9,.v (.int .i64 t))],[(0,some ⟨.box 23 [.v (.int .i64 b),.v (.int .i64 c),.v (.int .i64 d),.v (.int .i64 e),.v (.int .i64 f),.v (.bool g)],false⟩),(1,some ⟨.box 24 [.sl (.ints .u8 h)],false⟩),(2,some ⟨.box 24 [.sl (.ints .u8 i)],false⟩),(3,some ⟨.box 24 [.sl (.ints .u8 j)],false⟩),(5,some ⟨.box 23 [.v (.int .i64 k),.v (.int .i64 l),.v (.int .i64 m),.v (.int .i64 n),.v (.int .i64 o),.v (.bool p)],false⟩),(6,some ⟨.box 53 [.v (.int .u64 q)],false⟩),(7,some ⟨.box 53 [.v (.int .u64 r)],false⟩)],840,35⟩
def beo:ASt→Option blr
 | ⟨[(0,.yld 8 [4,7,8,9,10] [.sl (.ints .u8 a),.ptr 0 0,.ptr 1 0,.ptr 2 0,.ptr 3 0]),(1,.ptr 5 0),(2,.ptr 6 0),(3,.ptr 7 0),(8,.v (.int .i64 s)),(9,.v (.int .i64 t))],[(0,some ⟨.box 23 [.v (.int .i64 b),.v (.int .i64 c),.v (.int .i64 d),.v (.int .i64 e),.v (.int .i64 f),.v (.bool g)],false⟩),(1,some ⟨.box 24 [.sl (.ints .u8 h)],false⟩),(2,some ⟨.box 24 [.sl (.ints .u8 i)],false⟩),(3,some ⟨.box 24 [.sl (.ints .u8 j)],false⟩),(5,some ⟨.box 23 [.v (.int .i64 k),.v (.int .i64 l),.v (.int .i64 m),.v (.int .i64 n),.v (.int .i64 o),.v (.bool p)],false⟩),(6,some ⟨.box 53 [.v (.int .u64 q)],false⟩),(7,some ⟨.box 53 [.v (.int .u64 r)],false⟩)],840,35⟩=>some (a,s,t,b,c,d,e,f,g,h,i,j,k,l,m,n,o,p,q,r)
 | _=>none
theorem ao9(st)(x)(h:beo st=some x):st=bey x:=by unfold beo at h;split at h;(cases h;rfl);cases h
abbrev br2:=P.b1b
def bi4(K:AExit→ASt→Option R):br2→Option R:=(fun x=>K (.exit 0) (bey x))
noncomputable def bru:za:=fun st K=>ag0 (beo st) fun x=>P.b1w x (bi4 K)
noncomputable def D3:Ctx:=({ P:=Tryz.prog,G:=[(36,qj.spec),(39,dh.spec),(55,oo.spec),(56,kr.spec),(58,iw.spec),(59,zk.spec),(73,ig.spec)],globs:=GLO.gx,hints:=[],loops:=[],inl:=[],y:=some (an9 (aat Tryz.f29 5) 64 false) }:Ctx)
noncomputable def D2:Ctx:=({ P:=Tryz.prog,G:=[(36,qj.spec),(39,dh.spec),(55,oo.spec),(56,kr.spec),(58,iw.spec),(59,zk.spec),(73,ig.spec)],globs:=GLO.gx,hints:=[(1,⟨[0,1,2,3,8,9],[],[],[],some (840,[0,1,2,3,5,6,7]),[0,1,2,3,5,6,7],[],[]⟩)],loops:=[(1,bru)],inl:=[],y:=some (an9 (aat Tryz.f29 5) 64 true),ys:=some (aji D3 (an9 (aat Tryz.f29 5) 64 true)) }:Ctx)
noncomputable def D1:Ctx:=({ P:=Tryz.prog,G:=[(36,qj.spec),(39,dh.spec),(55,oo.spec),(56,kr.spec),(58,iw.spec),(59,zk.spec),(73,ig.spec)],globs:=GLO.gx,hints:=[],loops:=[],inl:=[] }:Ctx)
noncomputable def D:Ctx:=({ P:=Tryz.prog,G:=[(36,qj.spec),(39,dh.spec),(55,oo.spec),(56,kr.spec),(58,iw.spec),(59,zk.spec),(73,ig.spec)],globs:=GLO.gx,hints:=[],loops:=[],inl:=[(57,adv D1 Tryz.f57)],top:=true,rng:=[(5,⟨106,64,[4,7,8,9,10],adv D2 Tryz.f106⟩)] }:Ctx)
theorem apf:o9 D2 (je Tryz.f106 1):=jd bey ao9 (by kernel_rfl) P.b48 (enc:=bi4) fun _ _ _=>by kernel_rfl
theorem loops:gu (Tryz.f29.body.getD .skip)=[]:=by kernel_rfl
theorem ain:gu (Tryz.f57.body.getD .skip)=[]:=by kernel_rfl
theorem aqk:gu (Tryz.f106.body.getD .skip)=[je Tryz.f106 1]:=by kernel_rfl
theorem awy:gu (blc (aat Tryz.f29 5))=[]:=by kernel_rfl
theorem ranges:vg (Tryz.f29.body.getD .skip)=[aat Tryz.f29 5]:=by kernel_rfl
theorem ak4:alm D2 (aji D3 (an9 (aat Tryz.f29 5) 64 true)):=aqf (Y:=an9 (aat Tryz.f29 5) 64 true) (asi (D:=D3) ⟨qj.ok,dh.ok,oo.ok,kr.ok,iw.ok,zk.ok,ig.ok,trivial⟩) (gy (by kernel_rfl)) (as0 (D:=D3) trivial (anl rfl)) (by kernel_rfl) rfl rfl (by kernel_rfl) (by kernel_rfl) rfl rfl rfl (ad4 _ (by rw[show gu (an9 (aat Tryz.f29 5) 64 true).assign=[] from by kernel_rfl];exact trivial)) (ad4 _ (by rw[show gu (an9 (aat Tryz.f29 5) 64 true).body=gu (blc (aat Tryz.f29 5)) from by kernel_rfl,awy];exact trivial))
noncomputable def dn:Abs.Spec:=fun args K=>match args with
 | [.agg [.v (.int .i64 b),.v (.int .i64 c),.v (.int .i64 d),.v (.int .i64 e),.v (.int .i64 f),.v (.bool a)],.sl (.ints .u8 g),.sl (.ints .u8 h),.sl (.ints .u8 i),.sl (.ints .u8 j),.v (.int .u64 k),.v (.int .u64 l)]=>P.zy b c d e f a g h i j k l (fun m=>K (.v (.bool m)))
 | _=>none
noncomputable def spec:Abs.Spec:=fun args K=>dn (o8 [.any,.sl (.ints .u8 []),.sl (.ints .u8 []),.sl (.ints .u8 []),.sl (.ints .u8 []),.any,.any] args) K
theorem ok0:Proved Tryz.prog GLO.gx 29 dn:=by
 refine zi (D:=D) (fn:=Tryz.f29) (c:=Tryz.f29.body.getD .skip) [.any] (by kernel_rfl) (gy (by kernel_rfl)) (by kernel_rfl) (by kernel_rfl) (by kernel_rfl) ⟨qj.ok,dh.ok,oo.ok,kr.ok,iw.ok,zk.ok,ig.ok,trivial⟩ ⟨akh (D:=D1) (D':=D) (fn:=Tryz.f57) (c:=Tryz.f57.body.getD .skip) rfl rfl (by kernel_rfl) (gy (by kernel_rfl)) (by kernel_rfl) (by kernel_rfl) (by kernel_rfl) ⟨qj.ok,dh.ok,oo.ok,kr.ok,iw.ok,zk.ok,ig.ok,trivial⟩ trivial (by rw[ain];exact trivial) (fun _ _ _ _ _ h=>h),trivial⟩ ?_ ?_ (hRg:=by rw[ranges];exact ⟨anr (D:=D) (Di:=D2) (e:=⟨106,64,[4,7,8,9,10],adv D2 Tryz.f106⟩) (by kernel_rfl) rfl rfl (by kernel_rfl) (akh (D:=D2) (D':=D2) (fn:=Tryz.f106) (c:=Tryz.f106.body.getD .skip) rfl rfl (by kernel_rfl) (gy (by kernel_rfl)) (by kernel_rfl) (by kernel_rfl) (by kernel_rfl) ⟨qj.ok,dh.ok,oo.ok,kr.ok,iw.ok,zk.ok,ig.ok,trivial⟩ trivial (by rw[aqk];exact ⟨apf,trivial⟩) (fun _ _ _ _ _ h=>h) rfl rfl (aho rfl _) (fun s hs=>by have hs:some (aji D3 (an9 (aat Tryz.f29 5) 64 true))=some s:=hs;cases hs;exact ak4)),trivial⟩)
 · rw[loops];exact trivial
 · intro args K r h
   unfold dn at h
   split at h
   · rw[P.aom] at h;exact Aa (by kernel_rfl) h
   · cases h
theorem ok:Proved Tryz.prog GLO.gx 29 spec:=cu _ ok0
end zy

namespace vv
noncomputable def dn:Abs.Spec:=fun args K=>match args with
 | [.agg [.v (.int .i64 b),.v (.int .i64 c),.v (.int .i64 d),.v (.int .i64 e),.v (.int .i64 f),.v (.bool a)],.sl (.ints .u8 g),.sl (.ints .u8 h),.sl (.ints .u8 i),.sl (.ints .u8 j)]=>P.vv b c d e f a g h i j (fun k=>K (.v (.int .i64 k)))
 | _=>none
noncomputable def spec:Abs.Spec:=fun args K=>dn (o8 [.any,.sl (.ints .u8 []),.sl (.ints .u8 []),.sl (.ints .u8 []),.sl (.ints .u8 [])] args) K
theorem ok0:Proved Tryz.prog GLO.gx 11 dn:=pK (G:=[(14,aaf.spec),(22,ji.spec),(23,jo.spec),(24,abh.spec),(25,qg.spec),(26,aby.spec),(27,ny.spec),(28,og.spec),(29,zy.spec),(91,l9.spec),(93,qh.spec),(94,qd.spec),(95,qc.spec),(97,qb.spec)]) (fn:=Tryz.f11) [.any] ⟨aaf.ok,ji.ok,jo.ok,abh.ok,qg.ok,aby.ok,ny.ok,og.ok,zy.ok,l9.ok,qh.ok,qd.ok,qc.ok,qb.ok,trivial⟩ fun _ K _ h=>by
  unfold dn at h
  split at h
  · rw[P.ahr] at h;exact Aa (by kernel_rfl) h
  · cases h
theorem ok:Proved Tryz.prog GLO.gx 11 spec:=cu _ ok0
end vv

namespace zh
noncomputable def spec:Abs.Spec:=fun args K=>match args with
 | []=>P.zh (fun a=>K (.v (.bool a)))
 | _=>none
theorem ok:Proved Tryz.prog GLO.gx 9 spec:=pK (G:=[(11,vv.spec),(13,als.spec),(14,aaf.spec)]) (fn:=Tryz.f9) [.any] ⟨vv.ok,als.ok,aaf.ok,trivial⟩ fun _ K _ h=>by
  unfold spec at h
  split at h
  · rw[P.as6] at h;exact Aa (by kernel_rfl) h
  · cases h
end zh

namespace ag9
abbrev X2:=P.bwa
def S2:X2→ASt:=fun (a,b,c)=>⟨[(5,.sl (.rows .u8 a)),(6,.v (.int .i64 b)),(7,.v (.int .i64 c))],[],0,15⟩
def V2:ASt→Option X2
 | ⟨[(5,.sl (.rows .u8 a)),(6,.v (.int .i64 b)),(7,.v (.int .i64 c))],[],0,15⟩=>some (a,b,c)
 | _=>none
theorem bd3(st)(x)(h:V2 st=some x):st=S2 x:=by unfold V2 at h;split at h;(cases h;rfl);cases h
abbrev Y2:=P.b0t
def E2(K:AExit→ASt→Option R):Y2→Option R:=(Sum.elim (fun x=>K (.exit 0) (S2 x)) (fun a=>K .ret ⟨[(2,.v (.bool a))],[],0,15⟩))
noncomputable def L2:za:=fun st K=>ag0 (V2 st) fun x=>P.b1d x (E2 K)
noncomputable def D:Ctx:=⟨Tryz.prog,[],GLO.gx,[(2,⟨[5,6,7],[],[2],[],none,[],[],[]⟩)],[(2,L2)],[],false,none,none,[],false⟩
theorem bet:o9 D (je Tryz.f10 2):=jd S2 bd3 (by kernel_rfl) P.b5g (enc:=E2) fun _ _ _=>by kernel_rfl
theorem loops:gu (Tryz.f10.body.getD .skip)=[je Tryz.f10 2]:=by kernel_rfl
noncomputable def dn:Abs.Spec:=fun args K=>match args with
 | [.sl (.rows .u8 a)]=>P.ag9 a (fun b=>K (.v (.bool b)))
 | _=>none
noncomputable def spec:Abs.Spec:=fun args K=>dn (o8 [.sl (.rows .u8 [])] args) K
theorem ok0:Proved Tryz.prog GLO.gx 10 dn:=pL (D:=D) (fn:=Tryz.f10) [.any] trivial loops ⟨bet,trivial⟩ fun _ K _ h=>by
  unfold dn at h
  split at h
  · rw[P.axh] at h;exact Aa (by kernel_rfl) h
  · cases h
theorem ok:Proved Tryz.prog GLO.gx 10 spec:=cu _ ok0
end ag9

namespace p9
noncomputable def dn:Abs.Spec:=fun args K=>match args with
 | [.agg [.v (.int .i64 p),.v (.int .i64 q),.v (.int .i64 r),.v (.int .i64 s),.v (.int .i64 t),.v (.bool l),.alt u (.func 186) [] [.sta [.v (.int .i64 d),.arr .u64 25 a,.v (.int .i64 m),.v (.bool k)],.sta [.v (.int .i64 n)]] (.func 188) [] [.sta [.v (.int .i64 e),.arr .u64 8 b,.sl (.ints .u8 f),.v (.int .u64 g)],.sta [.v (.int .i64 o)],.sta [.v (.int .i64 h),.arr .u64 8 c,.sl (.ints .u8 i),.v (.int .u64 j)]]],.sl (.ints .u8 w),.arr .u8 32 y,.v (.int .i64 z)]=>P.p9 p q r s t l u d a m k n e b f g o h c i j w y z (fun A=>K (.sl (.ints .u8 A)))
 | _=>none
noncomputable def spec:Abs.Spec:=fun args K=>dn (o8 [.agg [.any,.any,.any,.any,.any,.any,.alt (.func 186) [] [.sta [.v (.int .i64 0),.arr .u64 25 [],.v (.int .i64 0),.v (.bool false)],.sta [.v (.int .i64 0)]] (.func 188) [] [.sta [.v (.int .i64 0),.arr .u64 8 [],.sl (.ints .u8 []),.v (.int .u64 0)],.sta [.v (.int .i64 0)],.sta [.v (.int .i64 0),.arr .u64 8 [],.sl (.ints .u8 []),.v (.int .u64 0)]]],.sl (.ints .u8 []),.any,.any] args) K
theorem ok0:Proved Tryz.prog GLO.gx 156 dn:=pK (G:=[(39,dh.spec),(170,wo.spec),(186,jh.spec),(188,jf.spec)]) (fn:=Tryz.f156) [.sl (.ints .u8 [])] ⟨dh.ok,wo.ok,jh.ok,jf.ok,trivial⟩ fun _ K _ h=>by
  unfold dn at h
  split at h
  · rw[P.ahe] at h;exact Aa (by kernel_rfl) h
  · cases h
theorem ok:Proved Tryz.prog GLO.gx 156 spec:=cu _ ok0
end p9

namespace aan
abbrev X6:=P.btg
def S6:X6→ASt:=fun (B,y,z,A,o,p,q,r,s,t,u,w,a,b,c,d,e,f,g,h,i,j,k,l,m,n)=>⟨[(11,.own 40),(1,.sl (.ints .u8 B)),(7,.ptr 1 0),(9,.ptr 2 0),(29,.v (.int .i64 y)),(30,.v (.int .i64 z))],[(40,some ⟨.row 5 (.ints .u8 A),false⟩),(1,some ⟨.box 64 [.arr .u8 32 o],false⟩),(2,some ⟨.box 165 [.v (.int .i64 p),.v (.int .i64 q),.v (.int .i64 r),.v (.int .i64 s),.v (.int .i64 t),.v (.bool u),.alt w (.func 186) [] [.sta [.v (.int .i64 a),.arr .u64 25 b,.v (.int .i64 c),.v (.bool d)],.sta [.v (.int .i64 e)]] (.func 188) [] [.sta [.v (.int .i64 f),.arr .u64 8 g,.sl (.ints .u8 h),.v (.int .u64 i)],.sta [.v (.int .i64 j)],.sta [.v (.int .i64 k),.arr .u64 8 l,.sl (.ints .u8 m),.v (.int .u64 n)]]],false⟩)],41,51⟩
def V6:ASt→Option X6
 | ⟨[(11,.own 40),(1,.sl (.ints .u8 B)),(7,.ptr 1 0),(9,.ptr 2 0),(29,.v (.int .i64 y)),(30,.v (.int .i64 z))],[(40,some ⟨.row 5 (.ints .u8 A),false⟩),(1,some ⟨.box 64 [.arr .u8 32 o],false⟩),(2,some ⟨.box 165 [.v (.int .i64 p),.v (.int .i64 q),.v (.int .i64 r),.v (.int .i64 s),.v (.int .i64 t),.v (.bool u),.alt w (.func 186) [] [.sta [.v (.int .i64 a),.arr .u64 25 b,.v (.int .i64 c),.v (.bool d)],.sta [.v (.int .i64 e)]] (.func 188) [] [.sta [.v (.int .i64 f),.arr .u64 8 g,.sl (.ints .u8 h),.v (.int .u64 i)],.sta [.v (.int .i64 j)],.sta [.v (.int .i64 k),.arr .u64 8 l,.sl (.ints .u8 m),.v (.int .u64 n)]]],false⟩)],41,51⟩=>some (B,y,z,A,o,p,q,r,s,t,u,w,a,b,c,d,e,f,g,h,i,j,k,l,m,n)
 | _=>none
theorem awe(st)(x)(h:V6 st=some x):st=S6 x:=by unfold V6 at h;split at h;(cases h;rfl);cases h
abbrev Y6:=P.b1n
def E6(K:AExit→ASt→Option R):Y6→Option R:=(fun x=>K (.exit 0) (S6 x))
noncomputable def L6:za:=fun st K=>ag0 (V6 st) fun x=>P.byv x (E6 K)
noncomputable def D:Ctx:=⟨Tryz.prog,[(39,dh.spec),(144,vo.spec),(145,pz.spec),(147,ku.spec),(148,tq.spec),(156,p9.spec)],GLO.gx,[(6,⟨[1,7,9,29,30],[(11,5,.ints .u8 [])],[8],[],some (40,[1,2]),[],[],[]⟩)],[(6,L6)],[],false,none,none,[],false⟩
theorem av6:o9 D (je Tryz.f121 6):=jd S6 awe (by kernel_rfl) P.b39 (enc:=E6) fun _ _ _=>by kernel_rfl
theorem loops:gu (Tryz.f121.body.getD .skip)=[je Tryz.f121 6]:=by kernel_rfl
noncomputable def dn:Abs.Spec:=fun args K=>match args with
 | [.agg [.v (.int .i64 b),.v (.int .i64 c),.v (.int .i64 d),.v (.int .i64 e),.v (.int .i64 f),.v (.bool a)],.sl (.ints .u8 g),.sl (.ints .u8 h),.arr .u8 32 i]=>P.aan b c d e f a g h i (fun j=>K (.sl (.ints .u8 j)))
 | _=>none
noncomputable def spec:Abs.Spec:=fun args K=>dn (o8 [.any,.sl (.ints .u8 []),.sl (.ints .u8 []),.any] args) K
theorem ok0:Proved Tryz.prog GLO.gx 121 dn:=pL (D:=D) (fn:=Tryz.f121) [.sl (.ints .u8 [])] ⟨dh.ok,vo.ok,pz.ok,ku.ok,tq.ok,p9.ok,trivial⟩ loops ⟨av6,trivial⟩ fun _ K _ h=>by
  unfold dn at h
  split at h
  · rw[P.aog] at h;exact Aa (by kernel_rfl) h
  · cases h
theorem ok:Proved Tryz.prog GLO.gx 121 spec:=cu _ ok0
end aan

namespace qy
noncomputable def bd2(n:Nat):Abs.Spec:=fun args K=>match args with
 | [.agg [.v (.int .i64 c),.v (.int .i64 d),.v (.int .i64 e),.v (.int .i64 f),.v (.int .i64 g),.v (.bool a),.sl (.ints .u8 b),.sl (.ints .u8 h),.arr .u8 32 i],.v (.int .i64 j),.v (.int .u64 k)]=>P.qy n c d e f g a b h i j k (fun l=>K (.sl (.ints .u8 l)))
 | _=>none
noncomputable def b0w(n:Nat):Abs.Spec:=fun args K=>bd2 n (o8 [.agg [.any,.any,.any,.any,.any,.any,.sl (.ints .u8 []),.sl (.ints .u8 []),.any],.any,.any] args) K
noncomputable def D(n:Nat):Ctx:=({ P:=Tryz.prog,G:=[(108,qw.spec),(109,ug.spec),(121,aan.spec),(74,b0w n)],globs:=GLO.gx,hints:=[],loops:=[],inl:=[] }:Ctx)
theorem body(n:Nat)(c:Int)(d:Int)(e:Int)(f:Int)(g:Int)(a:Bool)(b:List Int)(h:List Int)(i:List Int)(j:Int)(k:Int)(K:AVal→Option R):bhl (D n) Tryz.f74 [.sl (.ints .u8 [])] [.agg [.v (.int .i64 c),.v (.int .i64 d),.v (.int .i64 e),.v (.int .i64 f),.v (.int .i64 g),.v (.bool a),.sl (.ints .u8 b),.sl (.ints .u8 h),.arr .u8 32 i],.v (.int .i64 j),.v (.int .u64 k)] K=P.qy (n+1) c d e f g a b h i j k (fun l=>K (.sl (.ints .u8 l))):=by
 rw[P.af2]
 kernel_rfl
theorem loops:gu (Tryz.f74.body.getD .skip)=[]:=by kernel_rfl
noncomputable def dn:Abs.Spec:=fun args K=>match args with
 | [.agg [.v (.int .i64 c),.v (.int .i64 d),.v (.int .i64 e),.v (.int .i64 f),.v (.int .i64 g),.v (.bool a),.sl (.ints .u8 b),.sl (.ints .u8 h),.arr .u8 32 i],.v (.int .i64 j),.v (.int .u64 k)]=>P.qy ((j.toNat+1)) c d e f g a b h i j k (fun l=>K (.sl (.ints .u8 l)))
 | _=>none
noncomputable def spec:Abs.Spec:=fun args K=>dn (o8 [.agg [.any,.any,.any,.any,.any,.any,.sl (.ints .u8 []),.sl (.ints .u8 []),.any],.any,.any] args) K
theorem step(n:Nat)(ih:Proved Tryz.prog GLO.gx 74 (bd2 n)):Proved Tryz.prog GLO.gx 74 (bd2 (n+1)):=by
 refine zi (D:=D n) (fn:=Tryz.f74) (c:=Tryz.f74.body.getD .skip) [.sl (.ints .u8 [])] (by kernel_rfl) (gy (by kernel_rfl)) (by kernel_rfl) (by kernel_rfl) (by kernel_rfl) ⟨qw.ok,ug.ok,aan.ok,cu _ ih,trivial⟩ trivial ?_ ?_
 · rw[loops];exact trivial
 · intro args K r h
   unfold bd2 at h
   split at h
   · rw[body];exact h
   · cases h
theorem okN:∀n,Proved Tryz.prog GLO.gx 74 (bd2 n)
 | 0=>⟨⟨Tryz.f74,by kernel_rfl,by kernel_rfl,by kernel_rfl⟩,fun args K r h=>by unfold bd2 at h;split at h<;>cases h⟩
 | n+1=>step n (okN n)
theorem ok0:Proved Tryz.prog GLO.gx 74 dn:=⟨(okN 0).enters,fun args K r h=>by
 unfold dn at h
 split at h
 · exact (okN _).sound _ K r (by unfold bd2;exact h)
 · cases h⟩
theorem ok:Proved Tryz.prog GLO.gx 74 spec:=cu _ ok0
end qy

namespace aa8
noncomputable def dn:Abs.Spec:=fun args K=>match args with
 | [.agg [.v (.int .i64 b),.v (.int .i64 c),.v (.int .i64 d),.v (.int .i64 e),.v (.int .i64 f),.v (.bool a)],.sl (.ints .u8 g),.sl (.ints .u8 h),.arr .u8 32 i,.v (.int .i64 j),.v (.int .u64 k)]=>P.aa8 b c d e f a g h i j k (fun l=>K (.sl (.ints .u8 l)))
 | _=>none
noncomputable def spec:Abs.Spec:=fun args K=>dn (o8 [.any,.sl (.ints .u8 []),.sl (.ints .u8 []),.any,.any,.any] args) K
theorem ok0:Proved Tryz.prog GLO.gx 38 dn:=pK (G:=[(55,oo.spec),(73,ig.spec),(74,qy.spec)]) (fn:=Tryz.f38) [.sl (.ints .u8 [])] ⟨oo.ok,ig.ok,qy.ok,trivial⟩ fun _ K _ h=>by
  unfold dn at h
  split at h
  · rw[P.atf] at h;exact Aa (by kernel_rfl) h
  · cases h
theorem ok:Proved Tryz.prog GLO.gx 38 spec:=cu _ ok0
end aa8

namespace agi
noncomputable def dn:Abs.Spec:=fun args K=>match args with
 | [.agg [.v (.int .i64 b),.v (.int .i64 c),.v (.int .i64 d),.v (.int .i64 e),.v (.int .i64 f),.v (.bool a)],.sl (.ints .u8 g),.sl (.ints .u8 h),.sl (.ints .u8 i)]=>P.agi b c d e f a g h i (fun j k l=>K (.tuple [.sl (.ints .u8 j),.fr 5 (.ints .u8 k),.v (.int .i64 l)]))
 | _=>none
noncomputable def spec:Abs.Spec:=fun args K=>dn (o8 [.any,.sl (.ints .u8 []),.sl (.ints .u8 []),.sl (.ints .u8 [])] args) K
theorem ok0:Proved Tryz.prog GLO.gx 16 dn:=pK (G:=[(22,ji.spec),(38,aa8.spec),(39,dh.spec),(40,dz.spec)]) (fn:=Tryz.f16) [.sl (.ints .u8 []),.fr 5 (.ints .u8 []),.any] ⟨ji.ok,aa8.ok,dh.ok,dz.ok,trivial⟩ fun _ K _ h=>by
  unfold dn at h
  split at h
  · rw[P.auy] at h;exact Aa (by kernel_rfl) h
  · cases h
theorem ok:Proved Tryz.prog GLO.gx 16 spec:=cu _ ok0
end agi

namespace agl
noncomputable def dn:Abs.Spec:=fun args K=>match args with
 | [.agg [.v (.int .i64 b),.v (.int .i64 c),.v (.int .i64 d),.v (.int .i64 e),.v (.int .i64 f),.v (.bool a)],.sl (.ints .u8 g),.sl (.ints .u8 h),.arr .u8 32 i]=>P.agl b c d e f a g h i (fun j=>K (.sl (.ints .u8 j)))
 | _=>none
noncomputable def spec:Abs.Spec:=fun args K=>dn (o8 [.any,.sl (.ints .u8 []),.sl (.ints .u8 []),.any] args) K
theorem ok0:Proved Tryz.prog GLO.gx 129 dn:=pK (G:=[(104,yc.spec)]) (fn:=Tryz.f129) [.sl (.ints .u8 [])] ⟨yc.ok,trivial⟩ fun _ K _ h=>by
  unfold dn at h
  split at h
  · rw[P.ath] at h;exact Aa (by kernel_rfl) h
  · cases h
theorem ok:Proved Tryz.prog GLO.gx 129 spec:=cu _ ok0
end agl

end
