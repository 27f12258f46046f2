/-
  SlhRight, part 13: lemmas for the law.
-/

import Derived.Test.YtciddcopcdmnbaaGreatDoorSlhRightL
import Derived.Test.YtciddcopcdmnbaaGreatDoorSlhRightH
import Derived.Test.YtciddcopcdmnbaaGreatDoorProg
import Derived.Test.YtciddcopcdmnbaaGreatDoorSlhRightJ
import Derived.KernelRfl
import Derived.Test.YtciddcopcdmnbaaGreatDoorSlhRightI
import Derived.Test.YtciddcopcdmnbaaGreatDoorSlhRightK
open Eq renaming trans → Aa

section
open Go Go.Abs Go.Proofs
set_option maxRecDepth 100000
set_option maxHeartbeats 0
set_option linter.unusedVariables false

namespace als
noncomputable def spec:Abs.Spec:=fun args K=>match args with
 | [.v (.int .i64 g)]=>P.als g (fun b c d e f a h=>K (.tuple [.agg [.v (.int .i64 b),.v (.int .i64 c),.v (.int .i64 d),.v (.int .i64 e),.v (.int .i64 f),.v (.bool a)],.v (.bool h)]))
 | _=>none
theorem ok:Proved Tryz.prog GLO.gx 13 spec:=pK (G:=[]) (fn:=Tryz.f13) [.any,.any] trivial fun _ K _ h=>by
  unfold spec at h
  split at h
  · rw[P.axw] at h;exact Aa (by kernel_rfl) h
  · cases h
end als

namespace ji
noncomputable def spec:Abs.Spec:=fun args K=>match args with
 | [.agg [.v (.int .i64 b),.v (.int .i64 c),.v (.int .i64 d),.v (.int .i64 e),.v (.int .i64 f),.v (.bool a)]]=>P.ji b c d e f a (fun g=>K (.v (.bool g)))
 | _=>none
theorem ok:Proved Tryz.prog GLO.gx 22 spec:=pK (G:=[]) (fn:=Tryz.f22) [.any] trivial fun _ K _ h=>by
  unfold spec at h
  split at h
  · rw[P.aun] at h;exact Aa (by kernel_rfl) h
  · cases h
end ji

namespace jo
noncomputable def spec:Abs.Spec:=fun args K=>match args with
 | [.agg [.v (.int .i64 b),.v (.int .i64 c),.v (.int .i64 d),.v (.int .i64 e),.v (.int .i64 f),.v (.bool a)]]=>P.jo b c d e f a (fun g h=>K (.tuple [.v (.int .i64 g),.v (.int .i64 h)]))
 | _=>none
theorem ok:Proved Tryz.prog GLO.gx 23 spec:=pK (G:=[(22,ji.spec)]) (fn:=Tryz.f23) [.any,.any] ⟨ji.ok,trivial⟩ fun _ K _ h=>by
  unfold spec at h
  split at h
  · rw[P.as4] at h;exact Aa (by kernel_rfl) h
  · cases h
end jo

namespace ig
noncomputable def spec:Abs.Spec:=fun args K=>match args with
 | [.agg [.v (.int .i64 b),.v (.int .i64 c),.v (.int .i64 d),.v (.int .i64 e),.v (.int .i64 f),.v (.bool a)]]=>P.ig b c d e f a (fun g=>K (.v (.int .i64 g)))
 | _=>none
theorem ok:Proved Tryz.prog GLO.gx 73 spec:=pK (G:=[]) (fn:=Tryz.f73) [.any] trivial fun _ K _ h=>by
  unfold spec at h
  split at h
  · rw[P.asq] at h;exact Aa (by kernel_rfl) h
  · cases h
end ig

namespace qj
noncomputable def spec:Abs.Spec:=fun args K=>match args with
 | [.agg [.v (.int .i64 b),.v (.int .i64 c),.v (.int .i64 d),.v (.int .i64 e),.v (.int .i64 f),.v (.bool a)]]=>P.qj b c d e f a (fun g=>K (.v (.int .i64 g)))
 | _=>none
theorem ok:Proved Tryz.prog GLO.gx 36 spec:=pK (G:=[(22,ji.spec),(73,ig.spec)]) (fn:=Tryz.f36) [.any] ⟨ji.ok,ig.ok,trivial⟩ fun _ K _ h=>by
  unfold spec at h
  split at h
  · rw[P.asn] at h;exact Aa (by kernel_rfl) h
  · cases h
end qj

namespace aaf
noncomputable def spec:Abs.Spec:=fun args K=>match args with
 | [.agg [.v (.int .i64 b),.v (.int .i64 c),.v (.int .i64 d),.v (.int .i64 e),.v (.int .i64 f),.v (.bool a)]]=>P.aaf b c d e f a (fun g h i=>K (.tuple [.v (.int .i64 g),.v (.int .i64 h),.v (.int .i64 i)]))
 | _=>none
theorem ok:Proved Tryz.prog GLO.gx 14 spec:=pK (G:=[(22,ji.spec),(23,jo.spec),(36,qj.spec)]) (fn:=Tryz.f14) [.any,.any,.any] ⟨ji.ok,jo.ok,qj.ok,trivial⟩ fun _ K _ h=>by
  unfold spec at h
  split at h
  · rw[P.asw] at h;exact Aa (by kernel_rfl) h
  · cases h
end aaf

namespace acs
noncomputable def dn:Abs.Spec:=fun args K=>match args with
 | [.sl (.ints .u8 a),.v (.int .i64 b),.v (.int .i64 c)]=>P.acs a b c (fun d=>K (.v (.bool d)))
 | _=>none
noncomputable def spec:Abs.Spec:=fun args K=>dn (o8 [.sl (.ints .u8 []),.any,.any] args) K
theorem ok0:Proved Tryz.prog GLO.gx 142 dn:=pK (G:=[]) (fn:=Tryz.f142) [.any] trivial fun _ K _ h=>by
  unfold dn at h
  split at h
  · rw[P.atm] at h;exact Aa (by kernel_rfl) h
  · cases h
theorem ok:Proved Tryz.prog GLO.gx 142 spec:=cu _ ok0
end acs

namespace jl
abbrev X8:=P.bt5
def S8:X8→ASt:=fun (d,e,f,g,a,b,c,h)=>⟨[(0,.sl (.ints .u8 d)),(1,.v (.int .i64 e)),(7,.own 0),(8,.v (.int .u64 f)),(9,.v (.int .i64 g)),(10,.v (.int .i64 a)),(19,.v (.int .i64 b)),(20,.v (.int .i64 c))],[(0,some ⟨.row 102 (.ints .u32 h),false⟩)],1,53⟩
def V8:ASt→Option X8
 | ⟨[(0,.sl (.ints .u8 d)),(1,.v (.int .i64 e)),(7,.own 0),(8,.v (.int .u64 f)),(9,.v (.int .i64 g)),(10,.v (.int .i64 a)),(19,.v (.int .i64 b)),(20,.v (.int .i64 c))],[(0,some ⟨.row 102 (.ints .u32 h),false⟩)],1,53⟩=>some (d,e,f,g,a,b,c,h)
 | _=>none
theorem beu(st)(x)(h:V8 st=some x):st=S8 x:=by unfold V8 at h;split at h;(cases h;rfl);cases h
abbrev Y8:=P.b1z
abbrev X6:=P.bu9
def S6:X6→ASt:=fun (c,d,e,f,a,b,g)=>⟨[(0,.sl (.ints .u8 c)),(1,.v (.int .i64 d)),(7,.own 0),(8,.v (.int .u64 e)),(9,.v (.int .i64 f)),(19,.v (.int .i64 a)),(20,.v (.int .i64 b))],[(0,some ⟨.row 102 (.ints .u32 g),false⟩)],1,53⟩
def V6:ASt→Option X6
 | ⟨[(0,.sl (.ints .u8 c)),(1,.v (.int .i64 d)),(7,.own 0),(8,.v (.int .u64 e)),(9,.v (.int .i64 f)),(19,.v (.int .i64 a)),(20,.v (.int .i64 b))],[(0,some ⟨.row 102 (.ints .u32 g),false⟩)],1,53⟩=>some (c,d,e,f,a,b,g)
 | _=>none
theorem awe(st)(x)(h:V6 st=some x):st=S6 x:=by unfold V6 at h;split at h;(cases h;rfl);cases h
abbrev Y6:=P.bzk
def E8(K:AExit→ASt→Option R):Y8→Option R:=(fun x=>K (.exit 2) (S8 x))
noncomputable def L8:za:=fun st K=>ag0 (V8 st) fun x=>P.b1a x (E8 K)
def E6(K:AExit→ASt→Option R):Y6→Option R:=(fun x=>K (.exit 0) (S6 x))
noncomputable def L6:za:=fun st K=>ag0 (V6 st) fun x=>P.b21 x (E6 K)
noncomputable def D:Ctx:=⟨Tryz.prog,[(142,acs.spec)],GLO.gx,[(8,⟨[0,1,7,8,9,10,19,20],[],[6],[(0,.sl (.ints .u8 []))],none,[],[],[]⟩),(6,⟨[0,1,7,8,9,19,20],[],[6],[(0,.sl (.ints .u8 []))],none,[],[],[]⟩)],[(8,L8),(6,L6)],[],false,none,none,[],false⟩
theorem bds:o9 D (je Tryz.f102 8):=jd S8 beu (by kernel_rfl) P.b4u (enc:=E8) fun _ _ _=>by kernel_rfl
theorem av6:o9 D (je Tryz.f102 6):=jd S6 awe (by kernel_rfl) P.b4k (enc:=E6) fun _ _ _=>by kernel_rfl
theorem loops:gu (Tryz.f102.body.getD .skip)=[je Tryz.f102 6,je Tryz.f102 8]:=by kernel_rfl
noncomputable def dn:Abs.Spec:=fun args K=>match args with
 | [.sl (.ints .u8 a),.v (.int .i64 b),.v (.int .i64 c)]=>P.jl a b c (fun d=>K (.fr 102 (.ints .u32 d)))
 | _=>none
noncomputable def spec:Abs.Spec:=fun args K=>dn (o8 [.sl (.ints .u8 []),.any,.any] args) K
theorem ok0:Proved Tryz.prog GLO.gx 102 dn:=pL (D:=D) (fn:=Tryz.f102) [.fr 102 (.ints .u32 [])] ⟨acs.ok,trivial⟩ loops ⟨av6,bds,trivial⟩ fun _ K _ h=>by
  unfold dn at h
  split at h
  · rw[P.ao0] at h;exact Aa (by kernel_rfl) h
  · cases h
theorem ok:Proved Tryz.prog GLO.gx 102 spec:=cu _ ok0
end jl

namespace u6
abbrev X3:=P.btu
def S3:X3→ASt:=fun (a,b,c,d)=>⟨[(3,.v (.int .u64 a)),(6,.sl (.ints .u8 b)),(7,.v (.int .i64 c)),(8,.v (.int .i64 d))],[],0,19⟩
def V3:ASt→Option X3
 | ⟨[(3,.v (.int .u64 a)),(6,.sl (.ints .u8 b)),(7,.v (.int .i64 c)),(8,.v (.int .i64 d))],[],0,19⟩=>some (a,b,c,d)
 | _=>none
theorem au5(st)(x)(h:V3 st=some x):st=S3 x:=by unfold V3 at h;split at h;(cases h;rfl);cases h
abbrev Y3:=P.b1h
def E3(K:AExit→ASt→Option R):Y3→Option R:=(fun x=>K (.exit 0) (S3 x))
noncomputable def L3:za:=fun st K=>ag0 (V3 st) fun x=>P.b0c x (E3 K)
noncomputable def D:Ctx:=⟨Tryz.prog,[],GLO.gx,[(3,⟨[3,6,7,8],[],[2],[],none,[],[],[]⟩)],[(3,L3)],[],false,none,none,[],false⟩
theorem aur:o9 D (je Tryz.f100 3):=jd S3 au5 (by kernel_rfl) P.b40 (enc:=E3) fun _ _ _=>by kernel_rfl
theorem loops:gu (Tryz.f100.body.getD .skip)=[je Tryz.f100 3]:=by kernel_rfl
noncomputable def dn:Abs.Spec:=fun args K=>match args with
 | [.sl (.ints .u8 a)]=>P.u6 a (fun b=>K (.v (.int .u64 b)))
 | _=>none
noncomputable def spec:Abs.Spec:=fun args K=>dn (o8 [.sl (.ints .u8 [])] args) K
theorem ok0:Proved Tryz.prog GLO.gx 100 dn:=pL (D:=D) (fn:=Tryz.f100) [.any] trivial loops ⟨aur,trivial⟩ fun _ K _ h=>by
  unfold dn at h
  split at h
  · rw[P.avh] at h;exact Aa (by kernel_rfl) h
  · cases h
theorem ok:Proved Tryz.prog GLO.gx 100 spec:=cu _ ok0
end u6

namespace af7
abbrev X5:=P.btp
def S5:X5→ASt:=fun (c,a,b,d)=>⟨[(0,.v (.int .u64 c)),(5,.own 0),(16,.v (.int .i64 a)),(17,.v (.int .i64 b))],[(0,some ⟨.row 5 (.ints .u8 d),false⟩)],1,30⟩
def V5:ASt→Option X5
 | ⟨[(0,.v (.int .u64 c)),(5,.own 0),(16,.v (.int .i64 a)),(17,.v (.int .i64 b))],[(0,some ⟨.row 5 (.ints .u8 d),false⟩)],1,30⟩=>some (c,a,b,d)
 | _=>none
theorem bi8(st)(x)(h:V5 st=some x):st=S5 x:=by unfold V5 at h;split at h;(cases h;rfl);cases h
abbrev Y5:=P.bzy
def E5(K:AExit→ASt→Option R):Y5→Option R:=(fun x=>K (.exit 0) (S5 x))
noncomputable def L5:za:=fun st K=>ag0 (V5 st) fun x=>P.bya x (E5 K)
noncomputable def D:Ctx:=⟨Tryz.prog,[],GLO.gx,[(5,⟨[0,5,16,17],[],[4],[],none,[],[],[]⟩)],[(5,L5)],[],false,none,none,[],false⟩
theorem bil:o9 D (je Tryz.f122 5):=jd S5 bi8 (by kernel_rfl) P.b47 (enc:=E5) fun _ _ _=>by kernel_rfl
theorem loops:gu (Tryz.f122.body.getD .skip)=[je Tryz.f122 5]:=by kernel_rfl
noncomputable def spec:Abs.Spec:=fun args K=>match args with
 | [.v (.int .u64 a),.v (.int .i64 b)]=>P.af7 a b (fun c=>K (.fr 5 (.ints .u8 c)))
 | _=>none
theorem ok:Proved Tryz.prog GLO.gx 122 spec:=pL (D:=D) (fn:=Tryz.f122) [.fr 5 (.ints .u8 [])] trivial loops ⟨bil,trivial⟩ fun _ K _ h=>by
  unfold spec at h
  split at h
  · rw[P.axk] at h;exact Aa (by kernel_rfl) h
  · cases h
end af7

namespace xg
abbrev b5p:=P.bvd
def b3y:b5p→ASt:=fun (a,b,c)=>⟨[(0,.own 0),(2,.v (.int .i64 a)),(3,.v (.int .i64 b))],[(0,some ⟨.row 5 (.ints .u8 c),false⟩)],1,28⟩
def b08:ASt→Option b5p
 | ⟨[(0,.own 0),(2,.v (.int .i64 a)),(3,.v (.int .i64 b))],[(0,some ⟨.row 5 (.ints .u8 c),false⟩)],1,28⟩=>some (a,b,c)
 | _=>none
theorem bqj(st)(x)(h:b08 st=some x):st=b3y x:=by unfold b08 at h;split at h;(cases h;rfl);cases h
abbrev Y1_1:=P.b3l
def b4a(K:AExit→ASt→Option R):Y1_1→Option R:=(fun x=>K (.exit 0) (b3y x))
noncomputable def L1_1:za:=fun st K=>ag0 (b08 st) fun x=>P.b3a x (b4a K)
noncomputable def D1:Ctx:=({ P:=Tryz.prog,G:=[(122,af7.spec)],globs:=GLO.gx,hints:=[(1,⟨[0,2,3],[],[],[],none,[],[],[]⟩)],loops:=[(1,L1_1)],inl:=[] }:Ctx)
noncomputable def D:Ctx:=({ P:=Tryz.prog,G:=[(122,af7.spec)],globs:=GLO.gx,hints:=[],loops:=[],inl:=[(123,adv D1 Tryz.f123)] }:Ctx)
theorem brj:o9 D1 (je Tryz.f123 1):=jd b3y bqj (by kernel_rfl) P.b4b (enc:=b4a) fun _ _ _=>by kernel_rfl
theorem loops:gu (Tryz.f75.body.getD .skip)=[]:=by kernel_rfl
theorem ain:gu (Tryz.f123.body.getD .skip)=[je Tryz.f123 1]:=by kernel_rfl
noncomputable def spec:Abs.Spec:=fun args K=>match args with
 | [.v (.int .u64 a),.v (.int .i64 b)]=>P.xg a b (fun c=>K (.fr 5 (.ints .u8 c)))
 | _=>none
theorem ok:Proved Tryz.prog GLO.gx 75 spec:=by
 refine zi (D:=D) (fn:=Tryz.f75) (c:=Tryz.f75.body.getD .skip) [.fr 5 (.ints .u8 [])] (by kernel_rfl) (gy (by kernel_rfl)) (by kernel_rfl) (by kernel_rfl) (by kernel_rfl) ⟨af7.ok,trivial⟩ ⟨akh (D:=D1) (D':=D) (fn:=Tryz.f123) (c:=Tryz.f123.body.getD .skip) rfl rfl (by kernel_rfl) (gy (by kernel_rfl)) (by kernel_rfl) (by kernel_rfl) (by kernel_rfl) ⟨af7.ok,trivial⟩ trivial (by rw[ain];exact ⟨brj,trivial⟩) (fun _ _ _ _ _ h=>h),trivial⟩ ?_ ?_
 · rw[loops];exact trivial
 · intro args K r h
   unfold spec at h
   split at h
   · rw[P.axq] at h;exact Aa (by kernel_rfl) h
   · cases h
end xg

namespace tu
noncomputable def D:Ctx:=({ P:=Tryz.prog,G:=[],globs:=GLO.gx,hints:=[],loops:=[],inl:=[] }:Ctx)
theorem loops:gu (Tryz.f124.body.getD .skip)=[]:=by kernel_rfl
noncomputable def spec:Abs.Spec:=fun args K=>match args with
 | [.v (.slice none 0 0),.v (.int .i64 a)]=>P.tu a (fun b=>K (.fr 5 (.ints .u8 b)))
 | _=>none
theorem ok:Proved Tryz.prog GLO.gx 124 spec:=by
 refine ayh (D:=D) (fn:=Tryz.f124) (c:=Tryz.f124.body.getD .skip) 5 (.ints .u8 []) (by kernel_rfl) (gy (by kernel_rfl)) (by kernel_rfl) (by kernel_rfl) (by kernel_rfl) trivial trivial ?_ ?_
 · rw[loops];exact trivial
 · intro args K r h
   unfold spec at h
   split at h
   · rw[P.aic] at h;exact Aa (by kernel_rfl) h
   · cases h
end tu

namespace jv
abbrev X3:=P.zt1
def S3:X3→ASt:=fun (c,d,e,a,b)=>⟨[(0,.sl (.rows .u8 c)),(3,.v (.int .i64 d)),(9,.sl (.rows .u8 e)),(10,.v (.int .i64 a)),(11,.v (.int .i64 b))],[],0,36⟩
def V3:ASt→Option X3
 | ⟨[(0,.sl (.rows .u8 c)),(3,.v (.int .i64 d)),(9,.sl (.rows .u8 e)),(10,.v (.int .i64 a)),(11,.v (.int .i64 b))],[],0,36⟩=>some (c,d,e,a,b)
 | _=>none
theorem au5(st)(x)(h:V3 st=some x):st=S3 x:=by unfold V3 at h;split at h;(cases h;rfl);cases h
abbrev Y3:=P.zy1
abbrev X11:=P.zt2
def S11:X11→ASt:=fun (a,b,c,d)=>⟨[(6,.own 1),(25,.sl (.rows .u8 a)),(26,.v (.int .i64 b)),(27,.v (.int .i64 c))],[(1,some ⟨.row 5 (.ints .u8 d),false⟩),(0,none)],2,36⟩
def V11:ASt→Option X11
 | ⟨[(6,.own 1),(25,.sl (.rows .u8 a)),(26,.v (.int .i64 b)),(27,.v (.int .i64 c))],[(1,some ⟨.row 5 (.ints .u8 d),false⟩),(0,none)],2,36⟩=>some (a,b,c,d)
 | _=>none
theorem btr(st)(x)(h:V11 st=some x):st=S11 x:=by unfold V11 at h;split at h;(cases h;rfl);cases h
abbrev Y11:=P.zy2
def E3(K:AExit→ASt→Option R):Y3→Option R:=(fun x=>K (.exit 0) (S3 x))
noncomputable def L3:za:=fun st K=>ag0 (V3 st) fun x=>P.zm1 x (E3 K)
def E11(K:AExit→ASt→Option R):Y11→Option R:=(fun x=>K (.exit 2) (S11 x))
noncomputable def L11:za:=fun st K=>ag0 (V11 st) fun x=>P.zm2 x (E11 K)
noncomputable def D:Ctx:=⟨Tryz.prog,[(124,tu.spec)],GLO.gx,[(11,⟨[25,26,27],[(6,5,.ints .u8 [])],[2],[],none,[],[],[]⟩),(3,⟨[0,3,9,10,11],[],[2],[],none,[],[],[]⟩)],[(3,L3),(11,L11)],[],false,none,none,[],false⟩
theorem aur:o9 D (je Tryz.f76 3):=jd S3 au5 (by kernel_rfl) P.ze1 (enc:=E3) fun _ _ _=>by kernel_rfl
theorem bt6:o9 D (je Tryz.f76 11):=jd S11 btr (by kernel_rfl) P.ze2 (enc:=E11) fun _ _ _=>by kernel_rfl
theorem loops:gu (Tryz.f76.body.getD .skip)=[je Tryz.f76 3,je Tryz.f76 11]:=by kernel_rfl
noncomputable def dn:Abs.Spec:=fun args K=>match args with
 | [.sl (.rows .u8 a)]=>P.jv a (fun b=>K (.fr 5 (.ints .u8 b)))
 | _=>none
noncomputable def spec:Abs.Spec:=fun args K=>dn (o8 [.sl (.rows .u8 [])] args) K
theorem ok0:Proved Tryz.prog GLO.gx 76 dn:=pL (D:=D) (fn:=Tryz.f76) [.fr 5 (.ints .u8 [])] ⟨tu.ok,trivial⟩ loops ⟨aur,bt6,trivial⟩ fun _ K _ h=>by
  unfold dn at h
  split at h
  · rw[P.agw] at h;exact Aa (by kernel_rfl) h
  · cases h
theorem ok:Proved Tryz.prog GLO.gx 76 spec:=cu _ ok0
end jv

namespace dz
noncomputable def dn:Abs.Spec:=fun args K=>match args with
 | [.sl (.rows .u8 a)]=>P.dz a (fun b=>K (.fr 5 (.ints .u8 b)))
 | _=>none
noncomputable def spec:Abs.Spec:=fun args K=>dn (o8 [.sl (.rows .u8 [])] args) K
theorem ok0:Proved Tryz.prog GLO.gx 40 dn:=pK (G:=[(76,jv.spec)]) (fn:=Tryz.f40) [.fr 5 (.ints .u8 [])] ⟨jv.ok,trivial⟩ fun _ K _ h=>by
  unfold dn at h
  split at h
  · rw[P.atp] at h;exact Aa (by kernel_rfl) h
  · cases h
theorem ok:Proved Tryz.prog GLO.gx 40 spec:=cu _ ok0
end dz

namespace dh
noncomputable def spec:Abs.Spec:=fun args K=>match args with
 | [.arr .u8 32 a,.v (.int .i64 b),.v (.int .u64 c)]=>P.dh a b c (fun d=>K (.arr .u8 32 d))
 | _=>none
theorem ok:Proved Tryz.prog GLO.gx 39 spec:=pK (G:=[(40,dz.spec),(75,xg.spec)]) (fn:=Tryz.f39) [.any] ⟨dz.ok,xg.ok,trivial⟩ fun _ K _ h=>by
  unfold spec at h
  split at h
  · rw[P.aw0] at h;exact Aa (by kernel_rfl) h
  · cases h
end dh

namespace mg
noncomputable def dn:Abs.Spec:=fun args K=>match args with
 | [.agg [.v (.int .i64 c),.v (.int .i64 d),.v (.int .i64 e),.v (.int .i64 f),.v (.int .i64 g),.v (.bool a),.sl (.ints .u8 b),.sl (.ints .u8 h),.arr .u8 32 i],.v (.int .u64 j)]=>P.mg c d e f g a b h i j (fun k=>K (.arr .u8 32 k))
 | _=>none
noncomputable def spec:Abs.Spec:=fun args K=>dn (o8 [.agg [.any,.any,.any,.any,.any,.any,.sl (.ints .u8 []),.sl (.ints .u8 []),.any],.any] args) K
theorem ok0:Proved Tryz.prog GLO.gx 105 dn:=pK (G:=[(39,dh.spec),(100,u6.spec)]) (fn:=Tryz.f105) [.any] ⟨dh.ok,u6.ok,trivial⟩ fun _ K _ h=>by
  unfold dn at h
  split at h
  · rw[P.al8] at h;exact Aa (by kernel_rfl) h
  · cases h
theorem ok:Proved Tryz.prog GLO.gx 105 spec:=cu _ ok0
end mg

namespace sj
noncomputable def spec:Abs.Spec:=fun args K=>match args with
 | [.v (.int .i64 a)]=>P.sj a (fun b=>K (.v (.int .u64 b)))
 | _=>none
theorem ok:Proved Tryz.prog GLO.gx 197 spec:=pK (G:=[]) (fn:=Tryz.f197) [.any] trivial fun _ K _ h=>by
  unfold spec at h
  split at h
  · rw[P.aou] at h;exact Aa (by kernel_rfl) h
  · cases h
end sj

namespace ade
noncomputable def spec:Abs.Spec:=fun args K=>match args with
 | []=>P.ade (fun f e a b c d=>K (.agg [.v (.int .i64 f),.v (.int .i64 e),.arr .i64 3 a,.arr .i64 3 b,.arr .i64 3 c,.arr .i64 3 d,.fn (.func 197) [] []]))
 | _=>none
theorem ok:Proved Tryz.prog GLO.gx 184 spec:=pK (G:=[(197,sj.spec)]) (fn:=Tryz.f184) [.any] ⟨sj.ok,trivial⟩ fun _ K _ h=>by
  unfold spec at h
  split at h
  · rw[P.asv] at h;exact Aa (by kernel_rfl) h
  · cases h
end ade

namespace sw
noncomputable def spec:Abs.Spec:=fun args K=>match args with
 | [.v (.int .i64 a)]=>P.sw a (fun b=>K (.v (.int .u32 b)))
 | _=>none
theorem ok:Proved Tryz.prog GLO.gx 195 spec:=pK (G:=[]) (fn:=Tryz.f195) [.any] trivial fun _ K _ h=>by
  unfold spec at h
  split at h
  · rw[P.aoq] at h;exact Aa (by kernel_rfl) h
  · cases h
end sw

namespace ac7
noncomputable def spec:Abs.Spec:=fun args K=>match args with
 | []=>P.ac7 (fun f e a b c d=>K (.agg [.v (.int .i64 f),.v (.int .i64 e),.arr .i64 3 a,.arr .i64 3 b,.arr .i64 3 c,.arr .i64 3 d,.fn (.func 195) [] []]))
 | _=>none
theorem ok:Proved Tryz.prog GLO.gx 182 spec:=pK (G:=[(195,sw.spec)]) (fn:=Tryz.f182) [.any] ⟨sw.ok,trivial⟩ fun _ K _ h=>by
  unfold spec at h
  split at h
  · rw[P.atg] at h;exact Aa (by kernel_rfl) h
  · cases h
end ac7

namespace bg
noncomputable def spec:Abs.Spec:=fun args K=>match args with
 | [.agg [.v (.int .i64 f),.v (.int .i64 e),.arr .i64 3 a,.arr .i64 3 b,.arr .i64 3 c,.arr .i64 3 d,.fn (.func 195) [] []],.v (.int .u32 g),.v (.int .i64 h)]=>P.bg f e a b c d g h (fun i=>K (.v (.int .u32 i)))
 | _=>none
theorem ok:Proved Tryz.prog GLO.gx 202 spec:=pK (G:=[(195,sw.spec)]) (fn:=Tryz.f202) [.any] ⟨sw.ok,trivial⟩ fun _ K _ h=>by
  unfold spec at h
  split at h
  · rw[P.acg] at h;exact Aa (by kernel_rfl) h
  · cases h
end bg

namespace j5
noncomputable def spec:Abs.Spec:=fun args K=>match args with
 | [.agg [.v (.int .i64 f),.v (.int .i64 e),.arr .i64 3 a,.arr .i64 3 b,.arr .i64 3 c,.arr .i64 3 d,.fn (.func 195) [] []],.v (.int .u32 g),.v (.int .i64 h)]=>P.j5 f e a b c d g h (fun i=>K (.v (.int .u32 i)))
 | _=>none
theorem ok:Proved Tryz.prog GLO.gx 198 spec:=pK (G:=[(195,sw.spec),(202,bg.spec)]) (fn:=Tryz.f198) [.any] ⟨sw.ok,bg.ok,trivial⟩ fun _ K _ h=>by
  unfold spec at h
  split at h
  · rw[P.aa2] at h;exact Aa (by kernel_rfl) h
  · cases h
end j5

namespace mq
noncomputable def spec:Abs.Spec:=fun args K=>match args with
 | [.agg [.v (.int .i64 f),.v (.int .i64 e),.arr .i64 3 a,.arr .i64 3 b,.arr .i64 3 c,.arr .i64 3 d,.fn (.func 195) [] []],.v (.int .u32 g),.v (.int .i64 h)]=>P.mq f e a b c d g h (fun i=>K (.v (.int .u32 i)))
 | _=>none
theorem ok:Proved Tryz.prog GLO.gx 199 spec:=pK (G:=[(195,sw.spec),(202,bg.spec)]) (fn:=Tryz.f199) [.any] ⟨sw.ok,bg.ok,trivial⟩ fun _ K _ h=>by
  unfold spec at h
  split at h
  · rw[P.abf] at h;exact Aa (by kernel_rfl) h
  · cases h
end mq

end
