/-
  SlhSigns, part 14: lemmas for the law.
-/

import Derived.Test.YtciddcopcdmnbaaGreatDoorSlhSignsL
import Derived.Test.YtciddcopcdmnbaaGreatDoorSlhSignsH
import Derived.Test.YtciddcopcdmnbaaGreatDoorProg
import Derived.Test.YtciddcopcdmnbaaGreatDoorSlhSignsJ
import Derived.KernelRfl
import Derived.Test.YtciddcopcdmnbaaGreatDoorSlhSignsI
import Derived.Test.YtciddcopcdmnbaaGreatDoorSlhSignsK
open Eq renaming trans → Aa

section
open Go Go.Abs Go.Proofs
set_option maxRecDepth 100000
set_option maxHeartbeats 0
set_option linter.unusedVariables false

namespace apd
noncomputable def spec:Abs.Spec:=fun args K=>match args with
 | [.v (.int .i64 g)]=>P.apd g (fun b c d e f a h=>K (.tuple [.agg [.v (.int .i64 b),.v (.int .i64 c),.v (.int .i64 d),.v (.int .i64 e),.v (.int .i64 f),.v (.bool a)],.v (.bool h)]))
 | _=>none
theorem ok:Proved Tryz.prog GLO.gx 13 spec:=pK (G:=[]) (fn:=Tryz.f13) [.any,.any] trivial fun _ K _ h=>by
  unfold spec at h
  split at h
  · rw[P.bk8] at h;exact Aa (by kernel_rfl) h
  · cases h
end apd

namespace jy
noncomputable def spec:Abs.Spec:=fun args K=>match args with
 | [.agg [.v (.int .i64 b),.v (.int .i64 c),.v (.int .i64 d),.v (.int .i64 e),.v (.int .i64 f),.v (.bool a)]]=>P.jy b c d e f a (fun g=>K (.v (.bool g)))
 | _=>none
theorem ok:Proved Tryz.prog GLO.gx 22 spec:=pK (G:=[]) (fn:=Tryz.f22) [.any] trivial fun _ K _ h=>by
  unfold spec at h
  split at h
  · rw[P.bf5] at h;exact Aa (by kernel_rfl) h
  · cases h
end jy

namespace ku
noncomputable def spec:Abs.Spec:=fun args K=>match args with
 | [.agg [.v (.int .i64 b),.v (.int .i64 c),.v (.int .i64 d),.v (.int .i64 e),.v (.int .i64 f),.v (.bool a)]]=>P.ku b c d e f a (fun g h=>K (.tuple [.v (.int .i64 g),.v (.int .i64 h)]))
 | _=>none
theorem ok:Proved Tryz.prog GLO.gx 23 spec:=pK (G:=[(22,jy.spec)]) (fn:=Tryz.f23) [.any,.any] ⟨jy.ok,trivial⟩ fun _ K _ h=>by
  unfold spec at h
  split at h
  · rw[P.bck] at h;exact Aa (by kernel_rfl) h
  · cases h
end ku

namespace jh
noncomputable def spec:Abs.Spec:=fun args K=>match args with
 | [.agg [.v (.int .i64 b),.v (.int .i64 c),.v (.int .i64 d),.v (.int .i64 e),.v (.int .i64 f),.v (.bool a)]]=>P.jh b c d e f a (fun g=>K (.v (.int .i64 g)))
 | _=>none
theorem ok:Proved Tryz.prog GLO.gx 73 spec:=pK (G:=[]) (fn:=Tryz.f73) [.any] trivial fun _ K _ h=>by
  unfold spec at h
  split at h
  · rw[P.bbp] at h;exact Aa (by kernel_rfl) h
  · cases h
end jh

namespace qh
noncomputable def spec:Abs.Spec:=fun args K=>match args with
 | [.agg [.v (.int .i64 b),.v (.int .i64 c),.v (.int .i64 d),.v (.int .i64 e),.v (.int .i64 f),.v (.bool a)]]=>P.qh b c d e f a (fun g=>K (.v (.int .i64 g)))
 | _=>none
theorem ok:Proved Tryz.prog GLO.gx 36 spec:=pK (G:=[(22,jy.spec),(73,jh.spec)]) (fn:=Tryz.f36) [.any] ⟨jy.ok,jh.ok,trivial⟩ fun _ K _ h=>by
  unfold spec at h
  split at h
  · rw[P.bdc] at h;exact Aa (by kernel_rfl) h
  · cases h
end qh

namespace adh
noncomputable def spec:Abs.Spec:=fun args K=>match args with
 | [.agg [.v (.int .i64 b),.v (.int .i64 c),.v (.int .i64 d),.v (.int .i64 e),.v (.int .i64 f),.v (.bool a)]]=>P.adh b c d e f a (fun g h i=>K (.tuple [.v (.int .i64 g),.v (.int .i64 h),.v (.int .i64 i)]))
 | _=>none
theorem ok:Proved Tryz.prog GLO.gx 14 spec:=pK (G:=[(22,jy.spec),(23,ku.spec),(36,qh.spec)]) (fn:=Tryz.f14) [.any,.any,.any] ⟨jy.ok,ku.ok,qh.ok,trivial⟩ fun _ K _ h=>by
  unfold spec at h
  split at h
  · rw[P.bcv] at h;exact Aa (by kernel_rfl) h
  · cases h
end adh

namespace ad4
noncomputable def cu:Abs.Spec:=fun args K=>match args with
 | [.sl (.ints .u8 a),.v (.int .i64 b),.v (.int .i64 c)]=>P.ad4 a b c (fun d=>K (.v (.bool d)))
 | _=>none
noncomputable def spec:Abs.Spec:=fun args K=>cu (j5 [.sl (.ints .u8 []),.any,.any] args) K
theorem ok0:Proved Tryz.prog GLO.gx 142 cu:=pK (G:=[]) (fn:=Tryz.f142) [.any] trivial fun _ K _ h=>by
  unfold cu at h
  split at h
  · rw[P.bbr] at h;exact Aa (by kernel_rfl) h
  · cases h
theorem ok:Proved Tryz.prog GLO.gx 142 spec:=bq _ ok0
end ad4

namespace jr
abbrev X8:=P.b8c
def S8:X8→ASt:=fun (d,e,f,g,a,b,c,h)=>⟨[(0,.sl (.ints .u8 d)),(1,.v (.int .i64 e)),(7,.own 0),(8,.v (.int .u64 f)),(9,.v (.int .i64 g)),(10,.v (.int .i64 a)),(19,.v (.int .i64 b)),(20,.v (.int .i64 c))],[(0,some ⟨.row 102 (.ints .u32 h),false⟩)],1,53⟩
def V8:ASt→Option X8
 | ⟨[(0,.sl (.ints .u8 d)),(1,.v (.int .i64 e)),(7,.own 0),(8,.v (.int .u64 f)),(9,.v (.int .i64 g)),(10,.v (.int .i64 a)),(19,.v (.int .i64 b)),(20,.v (.int .i64 c))],[(0,some ⟨.row 102 (.ints .u32 h),false⟩)],1,53⟩=>some (d,e,f,g,a,b,c,h)
 | _=>none
theorem bli(st)(x)(h:V8 st=some x):st=S8 x:=by unfold V8 at h;split at h;(cases h;rfl);cases h
abbrev Y8:=P.cn8
abbrev X6:=P.b5t
def S6:X6→ASt:=fun (c,d,e,f,a,b,g)=>⟨[(0,.sl (.ints .u8 c)),(1,.v (.int .i64 d)),(7,.own 0),(8,.v (.int .u64 e)),(9,.v (.int .i64 f)),(19,.v (.int .i64 a)),(20,.v (.int .i64 b))],[(0,some ⟨.row 102 (.ints .u32 g),false⟩)],1,53⟩
def V6:ASt→Option X6
 | ⟨[(0,.sl (.ints .u8 c)),(1,.v (.int .i64 d)),(7,.own 0),(8,.v (.int .u64 e)),(9,.v (.int .i64 f)),(19,.v (.int .i64 a)),(20,.v (.int .i64 b))],[(0,some ⟨.row 102 (.ints .u32 g),false⟩)],1,53⟩=>some (c,d,e,f,a,b,g)
 | _=>none
theorem alr(st)(x)(h:V6 st=some x):st=S6 x:=by unfold V6 at h;split at h;(cases h;rfl);cases h
abbrev Y6:=P.cfb
def E8(K:AExit→ASt→Option R):Y8→Option R:=(fun x=>K (.exit 2) (S8 x))
noncomputable def L8:p8:=fun st K=>abx (V8 st) fun x=>P.cn2 x (E8 K)
def E6(K:AExit→ASt→Option R):Y6→Option R:=(fun x=>K (.exit 0) (S6 x))
noncomputable def L6:p8:=fun st K=>abx (V6 st) fun x=>P.chk x (E6 K)
noncomputable def D:Ctx:=⟨Tryz.prog,[(142,ad4.spec)],GLO.gx,[(8,⟨[0,1,7,8,9,10,19,20],[],[6],[(0,.sl (.ints .u8 []))],none,[],[],[]⟩),(6,⟨[0,1,7,8,9,19,20],[],[6],[(0,.sl (.ints .u8 []))],none,[],[],[]⟩)],[(8,L8),(6,L6)],[],false,none,none,[],false⟩
theorem bmn:jl D (gu Tryz.f102 8):=fq S8 bli (by kernel_rfl) P.cqn (enc:=E8) fun _ _ _=>by kernel_rfl
theorem al6:jl D (gu Tryz.f102 6):=fq S6 alr (by kernel_rfl) P.cre (enc:=E6) fun _ _ _=>by kernel_rfl
theorem loops:gy (Tryz.f102.body.getD .skip)=[gu Tryz.f102 6,gu Tryz.f102 8]:=by kernel_rfl
noncomputable def cu:Abs.Spec:=fun args K=>match args with
 | [.sl (.ints .u8 a),.v (.int .i64 b),.v (.int .i64 c)]=>P.jr a b c (fun d=>K (.fr 102 (.ints .u32 d)))
 | _=>none
noncomputable def spec:Abs.Spec:=fun args K=>cu (j5 [.sl (.ints .u8 []),.any,.any] args) K
theorem ok0:Proved Tryz.prog GLO.gx 102 cu:=pL (D:=D) (fn:=Tryz.f102) [.fr 102 (.ints .u32 [])] ⟨ad4.ok,trivial⟩ loops ⟨al6,bmn,trivial⟩ fun _ K _ h=>by
  unfold cu at h
  split at h
  · rw[P.avm] at h;exact Aa (by kernel_rfl) h
  · cases h
theorem ok:Proved Tryz.prog GLO.gx 102 spec:=bq _ ok0
end jr

namespace wz
abbrev X3:=P.b8v
def S3:X3→ASt:=fun (a,b,c,d)=>⟨[(3,.v (.int .u64 a)),(6,.sl (.ints .u8 b)),(7,.v (.int .i64 c)),(8,.v (.int .i64 d))],[],0,19⟩
def V3:ASt→Option X3
 | ⟨[(3,.v (.int .u64 a)),(6,.sl (.ints .u8 b)),(7,.v (.int .i64 c)),(8,.v (.int .i64 d))],[],0,19⟩=>some (a,b,c,d)
 | _=>none
theorem apk(st)(x)(h:V3 st=some x):st=S3 x:=by unfold V3 at h;split at h;(cases h;rfl);cases h
abbrev Y3:=P.cnn
def E3(K:AExit→ASt→Option R):Y3→Option R:=(fun x=>K (.exit 0) (S3 x))
noncomputable def L3:p8:=fun st K=>abx (V3 st) fun x=>P.cmc x (E3 K)
noncomputable def D:Ctx:=⟨Tryz.prog,[],GLO.gx,[(3,⟨[3,6,7,8],[],[2],[],none,[],[],[]⟩)],[(3,L3)],[],false,none,none,[],false⟩
theorem aqa:jl D (gu Tryz.f100 3):=fq S3 apk (by kernel_rfl) P.crf (enc:=E3) fun _ _ _=>by kernel_rfl
theorem loops:gy (Tryz.f100.body.getD .skip)=[gu Tryz.f100 3]:=by kernel_rfl
noncomputable def cu:Abs.Spec:=fun args K=>match args with
 | [.sl (.ints .u8 a)]=>P.wz a (fun b=>K (.v (.int .u64 b)))
 | _=>none
noncomputable def spec:Abs.Spec:=fun args K=>cu (j5 [.sl (.ints .u8 [])] args) K
theorem ok0:Proved Tryz.prog GLO.gx 100 cu:=pL (D:=D) (fn:=Tryz.f100) [.any] trivial loops ⟨aqa,trivial⟩ fun _ K _ h=>by
  unfold cu at h
  split at h
  · rw[P.bez] at h;exact Aa (by kernel_rfl) h
  · cases h
theorem ok:Proved Tryz.prog GLO.gx 100 spec:=bq _ ok0
end wz

namespace aie
abbrev X5:=P.b9n
def S5:X5→ASt:=fun (c,a,b,d)=>⟨[(0,.v (.int .u64 c)),(5,.own 0),(16,.v (.int .i64 a)),(17,.v (.int .i64 b))],[(0,some ⟨.row 5 (.ints .u8 d),false⟩)],1,30⟩
def V5:ASt→Option X5
 | ⟨[(0,.v (.int .u64 c)),(5,.own 0),(16,.v (.int .i64 a)),(17,.v (.int .i64 b))],[(0,some ⟨.row 5 (.ints .u8 d),false⟩)],1,30⟩=>some (c,a,b,d)
 | _=>none
theorem aub(st)(x)(h:V5 st=some x):st=S5 x:=by unfold V5 at h;split at h;(cases h;rfl);cases h
abbrev Y5:=P.cfq
def E5(K:AExit→ASt→Option R):Y5→Option R:=(fun x=>K (.exit 0) (S5 x))
noncomputable def L5:p8:=fun st K=>abx (V5 st) fun x=>P.ci4 x (E5 K)
noncomputable def D:Ctx:=⟨Tryz.prog,[],GLO.gx,[(5,⟨[0,5,16,17],[],[4],[],none,[],[],[]⟩)],[(5,L5)],[],false,none,none,[],false⟩
theorem ar3:jl D (gu Tryz.f122 5):=fq S5 aub (by kernel_rfl) P.cpv (enc:=E5) fun _ _ _=>by kernel_rfl
theorem loops:gy (Tryz.f122.body.getD .skip)=[gu Tryz.f122 5]:=by kernel_rfl
noncomputable def spec:Abs.Spec:=fun args K=>match args with
 | [.v (.int .u64 a),.v (.int .i64 b)]=>P.aie a b (fun c=>K (.fr 5 (.ints .u8 c)))
 | _=>none
theorem ok:Proved Tryz.prog GLO.gx 122 spec:=pL (D:=D) (fn:=Tryz.f122) [.fr 5 (.ints .u8 [])] trivial loops ⟨ar3,trivial⟩ fun _ K _ h=>by
  unfold spec at h
  split at h
  · rw[P.bkz] at h;exact Aa (by kernel_rfl) h
  · cases h
end aie

namespace y7
abbrev cp1:=P.b9r
def cg3:cp1→ASt:=fun (a,b,c)=>⟨[(0,.own 0),(2,.v (.int .i64 a)),(3,.v (.int .i64 b))],[(0,some ⟨.row 5 (.ints .u8 c),false⟩)],1,28⟩
def cjy:ASt→Option cp1
 | ⟨[(0,.own 0),(2,.v (.int .i64 a)),(3,.v (.int .i64 b))],[(0,some ⟨.row 5 (.ints .u8 c),false⟩)],1,28⟩=>some (a,b,c)
 | _=>none
theorem b3w(st)(x)(h:cjy st=some x):st=cg3 x:=by unfold cjy at h;split at h;(cases h;rfl);cases h
abbrev Y1_1:=P.ci1
def cqu(K:AExit→ASt→Option R):Y1_1→Option R:=(fun x=>K (.exit 0) (cg3 x))
noncomputable def L1_1:p8:=fun st K=>abx (cjy st) fun x=>P.chh x (cqu K)
noncomputable def D1:Ctx:=({ P:=Tryz.prog,G:=[(122,aie.spec)],globs:=GLO.gx,hints:=[(1,⟨[0,2,3],[],[],[],none,[],[],[]⟩)],loops:=[(1,L1_1)],inl:=[] }:Ctx)
noncomputable def D:Ctx:=({ P:=Tryz.prog,G:=[(122,aie.spec)],globs:=GLO.gx,hints:=[],loops:=[],inl:=[(123,afj D1 Tryz.f123)] }:Ctx)
theorem b4o:jl D1 (gu Tryz.f123 1):=fq cg3 b3w (by kernel_rfl) P.cqy (enc:=cqu) fun _ _ _=>by kernel_rfl
theorem loops:gy (Tryz.f75.body.getD .skip)=[]:=by kernel_rfl
theorem alz:gy (Tryz.f123.body.getD .skip)=[gu Tryz.f123 1]:=by kernel_rfl
noncomputable def spec:Abs.Spec:=fun args K=>match args with
 | [.v (.int .u64 a),.v (.int .i64 b)]=>P.y7 a b (fun c=>K (.fr 5 (.ints .u8 c)))
 | _=>none
theorem ok:Proved Tryz.prog GLO.gx 75 spec:=by
 refine z8 (D:=D) (fn:=Tryz.f75) (c:=Tryz.f75.body.getD .skip) [.fr 5 (.ints .u8 [])] (by kernel_rfl) (je (by kernel_rfl)) (by kernel_rfl) (by kernel_rfl) (by kernel_rfl) ⟨aie.ok,trivial⟩ ⟨aor (D:=D1) (D':=D) (fn:=Tryz.f123) (c:=Tryz.f123.body.getD .skip) rfl rfl (by kernel_rfl) (je (by kernel_rfl)) (by kernel_rfl) (by kernel_rfl) (by kernel_rfl) ⟨aie.ok,trivial⟩ trivial (by rw[alz];exact ⟨b4o,trivial⟩) (fun _ _ _ _ _ h=>h),trivial⟩ ?_ ?_
 · rw[loops];exact trivial
 · intro args K r h
   unfold spec at h
   split at h
   · rw[P.bjr] at h;exact Aa (by kernel_rfl) h
   · cases h
end y7

namespace uy
noncomputable def D:Ctx:=({ P:=Tryz.prog,G:=[],globs:=GLO.gx,hints:=[],loops:=[],inl:=[] }:Ctx)
theorem loops:gy (Tryz.f124.body.getD .skip)=[]:=by kernel_rfl
noncomputable def spec:Abs.Spec:=fun args K=>match args with
 | [.v (.slice none 0 0),.v (.int .i64 a)]=>P.uy a (fun b=>K (.fr 5 (.ints .u8 b)))
 | _=>none
theorem ok:Proved Tryz.prog GLO.gx 124 spec:=by
 refine bbd (D:=D) (fn:=Tryz.f124) (c:=Tryz.f124.body.getD .skip) 5 (.ints .u8 []) (by kernel_rfl) (je (by kernel_rfl)) (by kernel_rfl) (by kernel_rfl) (by kernel_rfl) trivial trivial ?_ ?_
 · rw[loops];exact trivial
 · intro args K r h
   unfold spec at h
   split at h
   · rw[P.al8] at h;exact Aa (by kernel_rfl) h
   · cases h
end uy

namespace lg
abbrev X3:=P.zt1
def S3:X3→ASt:=fun (c,d,e,a,b)=>⟨[(0,.sl (.rows .u8 c)),(3,.v (.int .i64 d)),(9,.sl (.rows .u8 e)),(10,.v (.int .i64 a)),(11,.v (.int .i64 b))],[],0,36⟩
def V3:ASt→Option X3
 | ⟨[(0,.sl (.rows .u8 c)),(3,.v (.int .i64 d)),(9,.sl (.rows .u8 e)),(10,.v (.int .i64 a)),(11,.v (.int .i64 b))],[],0,36⟩=>some (c,d,e,a,b)
 | _=>none
theorem apk(st)(x)(h:V3 st=some x):st=S3 x:=by unfold V3 at h;split at h;(cases h;rfl);cases h
abbrev Y3:=P.zy1
abbrev X11:=P.zt2
def S11:X11→ASt:=fun (a,b,c,d)=>⟨[(6,.own 1),(25,.sl (.rows .u8 a)),(26,.v (.int .i64 b)),(27,.v (.int .i64 c))],[(1,some ⟨.row 5 (.ints .u8 d),false⟩),(0,none)],2,36⟩
def V11:ASt→Option X11
 | ⟨[(6,.own 1),(25,.sl (.rows .u8 a)),(26,.v (.int .i64 b)),(27,.v (.int .i64 c))],[(1,some ⟨.row 5 (.ints .u8 d),false⟩),(0,none)],2,36⟩=>some (a,b,c,d)
 | _=>none
theorem bw2(st)(x)(h:V11 st=some x):st=S11 x:=by unfold V11 at h;split at h;(cases h;rfl);cases h
abbrev Y11:=P.zy2
def E3(K:AExit→ASt→Option R):Y3→Option R:=(fun x=>K (.exit 0) (S3 x))
noncomputable def L3:p8:=fun st K=>abx (V3 st) fun x=>P.zm1 x (E3 K)
def E11(K:AExit→ASt→Option R):Y11→Option R:=(fun x=>K (.exit 2) (S11 x))
noncomputable def L11:p8:=fun st K=>abx (V11 st) fun x=>P.zm2 x (E11 K)
noncomputable def D:Ctx:=⟨Tryz.prog,[(124,uy.spec)],GLO.gx,[(11,⟨[25,26,27],[(6,5,.ints .u8 [])],[2],[],none,[],[],[]⟩),(3,⟨[0,3,9,10,11],[],[2],[],none,[],[],[]⟩)],[(3,L3),(11,L11)],[],false,none,none,[],false⟩
theorem aqa:jl D (gu Tryz.f76 3):=fq S3 apk (by kernel_rfl) P.ze1 (enc:=E3) fun _ _ _=>by kernel_rfl
theorem bys:jl D (gu Tryz.f76 11):=fq S11 bw2 (by kernel_rfl) P.ze2 (enc:=E11) fun _ _ _=>by kernel_rfl
theorem loops:gy (Tryz.f76.body.getD .skip)=[gu Tryz.f76 3,gu Tryz.f76 11]:=by kernel_rfl
noncomputable def cu:Abs.Spec:=fun args K=>match args with
 | [.sl (.rows .u8 a)]=>P.lg a (fun b=>K (.fr 5 (.ints .u8 b)))
 | _=>none
noncomputable def spec:Abs.Spec:=fun args K=>cu (j5 [.sl (.rows .u8 [])] args) K
theorem ok0:Proved Tryz.prog GLO.gx 76 cu:=pL (D:=D) (fn:=Tryz.f76) [.fr 5 (.ints .u8 [])] ⟨uy.ok,trivial⟩ loops ⟨aqa,bys,trivial⟩ fun _ K _ h=>by
  unfold cu at h
  split at h
  · rw[P.ajm] at h;exact Aa (by kernel_rfl) h
  · cases h
theorem ok:Proved Tryz.prog GLO.gx 76 spec:=bq _ ok0
end lg

namespace jc
noncomputable def cu:Abs.Spec:=fun args K=>match args with
 | [.sl (.rows .u8 a)]=>P.jc a (fun b=>K (.fr 5 (.ints .u8 b)))
 | _=>none
noncomputable def spec:Abs.Spec:=fun args K=>cu (j5 [.sl (.rows .u8 [])] args) K
theorem ok0:Proved Tryz.prog GLO.gx 40 cu:=pK (G:=[(76,lg.spec)]) (fn:=Tryz.f40) [.fr 5 (.ints .u8 [])] ⟨lg.ok,trivial⟩ fun _ K _ h=>by
  unfold cu at h
  split at h
  · rw[P.bde] at h;exact Aa (by kernel_rfl) h
  · cases h
theorem ok:Proved Tryz.prog GLO.gx 40 spec:=bq _ ok0
end jc

namespace dz
noncomputable def spec:Abs.Spec:=fun args K=>match args with
 | [.arr .u8 32 a,.v (.int .i64 b),.v (.int .u64 c)]=>P.dz a b c (fun d=>K (.arr .u8 32 d))
 | _=>none
theorem ok:Proved Tryz.prog GLO.gx 39 spec:=pK (G:=[(40,jc.spec),(75,y7.spec)]) (fn:=Tryz.f39) [.any] ⟨jc.ok,y7.ok,trivial⟩ fun _ K _ h=>by
  unfold spec at h
  split at h
  · rw[P.bg0] at h;exact Aa (by kernel_rfl) h
  · cases h
end dz

namespace ny
noncomputable def cu:Abs.Spec:=fun args K=>match args with
 | [.agg [.v (.int .i64 c),.v (.int .i64 d),.v (.int .i64 e),.v (.int .i64 f),.v (.int .i64 g),.v (.bool a),.sl (.ints .u8 b),.sl (.ints .u8 h),.arr .u8 32 i],.v (.int .u64 j)]=>P.ny c d e f g a b h i j (fun k=>K (.arr .u8 32 k))
 | _=>none
noncomputable def spec:Abs.Spec:=fun args K=>cu (j5 [.agg [.any,.any,.any,.any,.any,.any,.sl (.ints .u8 []),.sl (.ints .u8 []),.any],.any] args) K
theorem ok0:Proved Tryz.prog GLO.gx 105 cu:=pK (G:=[(39,dz.spec),(100,wz.spec)]) (fn:=Tryz.f105) [.any] ⟨dz.ok,wz.ok,trivial⟩ fun _ K _ h=>by
  unfold cu at h
  split at h
  · rw[P.aqn] at h;exact Aa (by kernel_rfl) h
  · cases h
theorem ok:Proved Tryz.prog GLO.gx 105 spec:=bq _ ok0
end ny

namespace uq
noncomputable def spec:Abs.Spec:=fun args K=>match args with
 | [.v (.int .i64 a)]=>P.uq a (fun b=>K (.v (.int .u64 b)))
 | _=>none
theorem ok:Proved Tryz.prog GLO.gx 197 spec:=pK (G:=[]) (fn:=Tryz.f197) [.any] trivial fun _ K _ h=>by
  unfold spec at h
  split at h
  · rw[P.au5] at h;exact Aa (by kernel_rfl) h
  · cases h
end uq

namespace aed
noncomputable def spec:Abs.Spec:=fun args K=>match args with
 | []=>P.aed (fun f e a b c d=>K (.agg [.v (.int .i64 f),.v (.int .i64 e),.arr .i64 3 a,.arr .i64 3 b,.arr .i64 3 c,.arr .i64 3 d,.fn (.func 197) [] []]))
 | _=>none
theorem ok:Proved Tryz.prog GLO.gx 184 spec:=pK (G:=[(197,uq.spec)]) (fn:=Tryz.f184) [.any] ⟨uq.ok,trivial⟩ fun _ K _ h=>by
  unfold spec at h
  split at h
  · rw[P.bb9] at h;exact Aa (by kernel_rfl) h
  · cases h
end aed

namespace uj
noncomputable def spec:Abs.Spec:=fun args K=>match args with
 | [.v (.int .i64 a)]=>P.uj a (fun b=>K (.v (.int .u32 b)))
 | _=>none
theorem ok:Proved Tryz.prog GLO.gx 195 spec:=pK (G:=[]) (fn:=Tryz.f195) [.any] trivial fun _ K _ h=>by
  unfold spec at h
  split at h
  · rw[P.avv] at h;exact Aa (by kernel_rfl) h
  · cases h
end uj

namespace ad6
noncomputable def spec:Abs.Spec:=fun args K=>match args with
 | []=>P.ad6 (fun f e a b c d=>K (.agg [.v (.int .i64 f),.v (.int .i64 e),.arr .i64 3 a,.arr .i64 3 b,.arr .i64 3 c,.arr .i64 3 d,.fn (.func 195) [] []]))
 | _=>none
theorem ok:Proved Tryz.prog GLO.gx 182 spec:=pK (G:=[(195,uj.spec)]) (fn:=Tryz.f182) [.any] ⟨uj.ok,trivial⟩ fun _ K _ h=>by
  unfold spec at h
  split at h
  · rw[P.bcp] at h;exact Aa (by kernel_rfl) h
  · cases h
end ad6

namespace dx
noncomputable def spec:Abs.Spec:=fun args K=>match args with
 | [.agg [.v (.int .i64 f),.v (.int .i64 e),.arr .i64 3 a,.arr .i64 3 b,.arr .i64 3 c,.arr .i64 3 d,.fn (.func 195) [] []],.v (.int .u32 g),.v (.int .i64 h)]=>P.dx f e a b c d g h (fun i=>K (.v (.int .u32 i)))
 | _=>none
theorem ok:Proved Tryz.prog GLO.gx 202 spec:=pK (G:=[(195,uj.spec)]) (fn:=Tryz.f202) [.any] ⟨uj.ok,trivial⟩ fun _ K _ h=>by
  unfold spec at h
  split at h
  · rw[P.ad2] at h;exact Aa (by kernel_rfl) h
  · cases h
end dx

namespace l8
noncomputable def spec:Abs.Spec:=fun args K=>match args with
 | [.agg [.v (.int .i64 f),.v (.int .i64 e),.arr .i64 3 a,.arr .i64 3 b,.arr .i64 3 c,.arr .i64 3 d,.fn (.func 195) [] []],.v (.int .u32 g),.v (.int .i64 h)]=>P.l8 f e a b c d g h (fun i=>K (.v (.int .u32 i)))
 | _=>none
theorem ok:Proved Tryz.prog GLO.gx 198 spec:=pK (G:=[(195,uj.spec),(202,dx.spec)]) (fn:=Tryz.f198) [.any] ⟨uj.ok,dx.ok,trivial⟩ fun _ K _ h=>by
  unfold spec at h
  split at h
  · rw[P.ace] at h;exact Aa (by kernel_rfl) h
  · cases h
end l8

namespace oh
noncomputable def spec:Abs.Spec:=fun args K=>match args with
 | [.agg [.v (.int .i64 f),.v (.int .i64 e),.arr .i64 3 a,.arr .i64 3 b,.arr .i64 3 c,.arr .i64 3 d,.fn (.func 195) [] []],.v (.int .u32 g),.v (.int .i64 h)]=>P.oh f e a b c d g h (fun i=>K (.v (.int .u32 i)))
 | _=>none
theorem ok:Proved Tryz.prog GLO.gx 199 spec:=pK (G:=[(195,uj.spec),(202,dx.spec)]) (fn:=Tryz.f199) [.any] ⟨uj.ok,dx.ok,trivial⟩ fun _ K _ h=>by
  unfold spec at h
  split at h
  · rw[P.acu] at h;exact Aa (by kernel_rfl) h
  · cases h
end oh

end
