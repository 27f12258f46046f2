/-
  SlhSigns, part 20: lemmas for the law.
-/

import Derived.Test.YtciddcopcdmnbaaGreatDoorSlhSignsM
import Derived.Test.YtciddcopcdmnbaaGreatDoorSlhSignsH
import Derived.Test.YtciddcopcdmnbaaGreatDoorProg
import Derived.Test.YtciddcopcdmnbaaGreatDoorSlhSignsJ
import Derived.Test.YtciddcopcdmnbaaGreatDoorSlhSignsS
import Derived.KernelRfl
import Derived.Test.YtciddcopcdmnbaaGreatDoorSlhSignsL
open Eq renaming trans → Aa

section
open Go Go.Abs Go.Proofs
set_option maxRecDepth 100000
set_option maxHeartbeats 0
set_option linter.unusedVariables false

namespace aag
abbrev X6:=P.b9z
def S6:X6→ASt:=fun (a,b,c)=>⟨[(5,.own 0),(6,.v (.int .u64 a)),(7,.v (.int .i64 b))],[(0,some ⟨.row 102 (.ints .u32 c),false⟩)],1,48⟩
def V6:ASt→Option X6
 | ⟨[(5,.own 0),(6,.v (.int .u64 a)),(7,.v (.int .i64 b))],[(0,some ⟨.row 102 (.ints .u32 c),false⟩)],1,48⟩=>some (a,b,c)
 | _=>none
theorem alr(st)(x)(h:V6 st=some x):st=S6 x:=by unfold V6 at h;split at h;(cases h;rfl);cases h
abbrev Y6:=P.cgc
def E6(K:AExit→ASt→Option R):Y6→Option R:=(fun x=>K (.exit 0) (S6 x))
noncomputable def L6:p8:=fun st K=>abx (V6 st) fun x=>P.cky x (E6 K)
noncomputable def D:Ctx:=⟨Tryz.prog,[(66,pq.spec),(81,yx.spec)],GLO.gx,[(6,⟨[5,6,7],[],[4],[],none,[],[],[]⟩)],[(6,L6)],[],false,none,none,[],false⟩
theorem al6:jl D (gu Tryz.f155 6):=fq S6 alr (by kernel_rfl) P.cql (enc:=E6) fun _ _ _=>by kernel_rfl
theorem loops:gy (Tryz.f155.body.getD .skip)=[gu Tryz.f155 6]:=by kernel_rfl
noncomputable def cu:Abs.Spec:=fun args K=>match args with
 | [.v (.int .i64 a),.sl (.ints .u8 b)]=>P.aag a b (fun c=>K (.fr 102 (.ints .u32 c)))
 | _=>none
noncomputable def spec:Abs.Spec:=fun args K=>cu (j5 [.any,.sl (.ints .u8 [])] args) K
theorem ok0:Proved Tryz.prog GLO.gx 155 cu:=pL (D:=D) (fn:=Tryz.f155) [.fr 102 (.ints .u32 [])] ⟨pq.ok,yx.ok,trivial⟩ loops ⟨al6,trivial⟩ fun _ K _ h=>by
  unfold cu at h
  split at h
  · rw[P.azi] at h;exact Aa (by kernel_rfl) h
  · cases h
theorem ok:Proved Tryz.prog GLO.gx 155 spec:=bq _ ok0
end aag

namespace abq
abbrev X2:=P.b71
def S2:X2→ASt:=fun (c,d,e,a,b)=>⟨[(1,.v (.int .i64 c)),(2,.sl (.ints .u8 d)),(3,.ptr 0 0),(6,.ptr 1 0),(7,.v (.int .i64 e))],[(0,some ⟨.box 64 [.arr .u8 32 a],false⟩),(1,some ⟨.box 64 [.arr .u8 32 b],false⟩)],2,23⟩
def V2:ASt→Option X2
 | ⟨[(1,.v (.int .i64 c)),(2,.sl (.ints .u8 d)),(3,.ptr 0 0),(6,.ptr 1 0),(7,.v (.int .i64 e))],[(0,some ⟨.box 64 [.arr .u8 32 a],false⟩),(1,some ⟨.box 64 [.arr .u8 32 b],false⟩)],2,23⟩=>some (c,d,e,a,b)
 | _=>none
theorem bfp(st)(x)(h:V2 st=some x):st=S2 x:=by unfold V2 at h;split at h;(cases h;rfl);cases h
abbrev Y2:=P.cij
def E2(K:AExit→ASt→Option R):Y2→Option R:=(fun x=>K (.exit 0) (S2 x))
noncomputable def L2:p8:=fun st K=>abx (V2 st) fun x=>P.cov x (E2 K)
noncomputable def D:Ctx:=⟨Tryz.prog,[],GLO.gx,[(2,⟨[1,2,3,6,7],[],[6],[],none,[],[],[]⟩)],[(2,L2)],[],false,none,none,[],false⟩
theorem bgm:jl D (gu Tryz.f80 2):=fq S2 bfp (by kernel_rfl) P.crm (enc:=E2) fun _ _ _=>by kernel_rfl
theorem loops:gy (Tryz.f80.body.getD .skip)=[gu Tryz.f80 2]:=by kernel_rfl
noncomputable def cu:Abs.Spec:=fun args K=>match args with
 | [.arr .u8 32 a,.v (.int .i64 b),.sl (.ints .u8 c)]=>P.abq a b c (fun d=>K (.arr .u8 32 d))
 | _=>none
noncomputable def spec:Abs.Spec:=fun args K=>cu (j5 [.any,.any,.sl (.ints .u8 [])] args) K
theorem ok0:Proved Tryz.prog GLO.gx 80 cu:=pL (D:=D) (fn:=Tryz.f80) [.any] trivial loops ⟨bgm,trivial⟩ fun _ K _ h=>by
  unfold cu at h
  split at h
  · rw[P.bkp] at h;exact Aa (by kernel_rfl) h
  · cases h
theorem ok:Proved Tryz.prog GLO.gx 80 spec:=bq _ ok0
end abq

namespace jf
noncomputable def spec:Abs.Spec:=fun args K=>match args with
 | [.arr .u8 32 a,.v (.int .i64 b),.v (.int .u64 c)]=>P.jf a b c (fun d=>K (.arr .u8 32 d))
 | _=>none
theorem ok:Proved Tryz.prog GLO.gx 42 spec:=pK (G:=[(80,abq.spec),(81,yx.spec)]) (fn:=Tryz.f42) [.any] ⟨abq.ok,yx.ok,trivial⟩ fun _ K _ h=>by
  unfold spec at h
  split at h
  · rw[P.blb] at h;exact Aa (by kernel_rfl) h
  · cases h
end jf

namespace zf
noncomputable def spec:Abs.Spec:=fun args K=>match args with
 | [.v (.int .i64 a)]=>P.zf a (fun b=>K (.v (.int .i64 b)))
 | _=>none
theorem ok:Proved Tryz.prog GLO.gx 152 spec:=pK (G:=[]) (fn:=Tryz.f152) [.any] trivial fun _ K _ h=>by
  unfold spec at h
  split at h
  · rw[P.bcq] at h;exact Aa (by kernel_rfl) h
  · cases h
end zf

namespace abl
noncomputable def spec:Abs.Spec:=fun args K=>match args with
 | [.v (.int .u64 a),.v (.int .i64 b),.v (.bool c)]=>P.abl a b c (fun d=>K (.v (.int .u64 d)))
 | _=>none
theorem ok:Proved Tryz.prog GLO.gx 191 spec:=pK (G:=[]) (fn:=Tryz.f191) [.any] trivial fun _ K _ h=>by
  unfold spec at h
  split at h
  · rw[P.amn] at h;exact Aa (by kernel_rfl) h
  · cases h
end abl

namespace abe
noncomputable def spec:Abs.Spec:=fun args K=>match args with
 | [.v (.int .u64 a),.v (.int .i64 b),.v (.int .i64 c),.v (.int .i64 d),.v (.bool e),.v (.bool f)]=>P.abe a b c d e f (fun g=>K (.v (.int .u64 g)))
 | _=>none
theorem ok:Proved Tryz.prog GLO.gx 177 spec:=pK (G:=[(191,abl.spec)]) (fn:=Tryz.f177) [.any] ⟨abl.ok,trivial⟩ fun _ K _ h=>by
  unfold spec at h
  split at h
  · rw[P.aic] at h;exact Aa (by kernel_rfl) h
  · cases h
end abe

namespace aa0
noncomputable def spec:Abs.Spec:=fun args K=>match args with
 | []=>P.aa0 (fun a=>K (.arr .u64 64 a))
 | _=>none
theorem ok:Proved Tryz.prog GLO.gx 174 spec:=pK (G:=[]) (fn:=Tryz.f174) [.any] trivial fun _ K _ h=>by
  unfold spec at h
  split at h
  · rw[P.ak2] at h;exact Aa (by kernel_rfl) h
  · cases h
end aa0

namespace aaz
noncomputable def spec:Abs.Spec:=fun args K=>match args with
 | []=>P.aaz (fun a=>K (.arr .u64 80 a))
 | _=>none
theorem ok:Proved Tryz.prog GLO.gx 175 spec:=pK (G:=[]) (fn:=Tryz.f175) [.any] trivial fun _ K _ h=>by
  unfold spec at h
  split at h
  · rw[P.ak4] at h;exact Aa (by kernel_rfl) h
  · cases h
end aaz

namespace wm
abbrev X3:=P.b9b
def S3:X3→ASt:=fun (a,b,c)=>⟨[(0,.sl (.ints .u8 a)),(3,.v (.int .u64 b)),(4,.v (.int .i64 c))],[],0,20⟩
def V3:ASt→Option X3
 | ⟨[(0,.sl (.ints .u8 a)),(3,.v (.int .u64 b)),(4,.v (.int .i64 c))],[],0,20⟩=>some (a,b,c)
 | _=>none
theorem apk(st)(x)(h:V3 st=some x):st=S3 x:=by unfold V3 at h;split at h;(cases h;rfl);cases h
abbrev Y3:=P.cko
def E3(K:AExit→ASt→Option R):Y3→Option R:=(fun x=>K (.exit 0) (S3 x))
noncomputable def L3:p8:=fun st K=>abx (V3 st) fun x=>P.ch9 x (E3 K)
noncomputable def D:Ctx:=⟨Tryz.prog,[],GLO.gx,[(3,⟨[0,3,4],[],[2],[],none,[],[],[]⟩)],[(3,L3)],[],false,none,none,[],false⟩
theorem aqa:jl D (gu Tryz.f65 3):=fq S3 apk (by kernel_rfl) P.cqb (enc:=E3) fun _ _ _=>by kernel_rfl
theorem loops:gy (Tryz.f65.body.getD .skip)=[gu Tryz.f65 3]:=by kernel_rfl
noncomputable def cu:Abs.Spec:=fun args K=>match args with
 | [.sl (.ints .u8 a)]=>P.wm a (fun b=>K (.v (.int .u64 b)))
 | _=>none
noncomputable def spec:Abs.Spec:=fun args K=>cu (j5 [.sl (.ints .u8 [])] args) K
theorem ok0:Proved Tryz.prog GLO.gx 65 cu:=pL (D:=D) (fn:=Tryz.f65) [.any] trivial loops ⟨aqa,trivial⟩ fun _ K _ h=>by
  unfold cu at h
  split at h
  · rw[P.bkd] at h;exact Aa (by kernel_rfl) h
  · cases h
theorem ok:Proved Tryz.prog GLO.gx 65 spec:=bq _ ok0
end wm

namespace aek
abbrev X6:=P.b6o
def S6:X6→ASt:=fun (b,c,d,e,f,a,g)=>⟨[(10,.own 0),(0,.sl (.ints .u8 b)),(1,.v (.bool c)),(2,.v (.int .i64 d)),(3,.v (.int .u64 e)),(9,.v (.int .i64 f)),(11,.v (.int .i64 a))],[(0,some ⟨.row 53 (.ints .u64 g),false⟩)],1,82⟩
def V6:ASt→Option X6
 | ⟨[(10,.own 0),(0,.sl (.ints .u8 b)),(1,.v (.bool c)),(2,.v (.int .i64 d)),(3,.v (.int .u64 e)),(9,.v (.int .i64 f)),(11,.v (.int .i64 a))],[(0,some ⟨.row 53 (.ints .u64 g),false⟩)],1,82⟩=>some (b,c,d,e,f,a,g)
 | _=>none
theorem alr(st)(x)(h:V6 st=some x):st=S6 x:=by unfold V6 at h;split at h;(cases h;rfl);cases h
abbrev Y6:=P.clk
def E6(K:AExit→ASt→Option R):Y6→Option R:=(fun x=>K (.exit 0) (S6 x))
noncomputable def L6:p8:=fun st K=>abx (V6 st) fun x=>P.cjo x (E6 K)
noncomputable def D:Ctx:=⟨Tryz.prog,[(65,wm.spec),(177,abe.spec)],GLO.gx,[(6,⟨[0,1,2,3,9,11],[(10,53,.ints .u64 [])],[8],[],none,[],[],[]⟩)],[(6,L6)],[],false,none,none,[],false⟩
theorem al6:jl D (gu Tryz.f176 6):=fq S6 alr (by kernel_rfl) P.crs (enc:=E6) fun _ _ _=>by kernel_rfl
theorem loops:gy (Tryz.f176.body.getD .skip)=[gu Tryz.f176 6]:=by kernel_rfl
noncomputable def cu:Abs.Spec:=fun args K=>match args with
 | [.sl (.ints .u8 a),.v (.bool b),.v (.int .i64 c),.v (.int .u64 d)]=>P.aek a b c d (fun e=>K (.fr 53 (.ints .u64 e)))
 | _=>none
noncomputable def spec:Abs.Spec:=fun args K=>cu (j5 [.sl (.ints .u8 []),.any,.any,.any] args) K
theorem ok0:Proved Tryz.prog GLO.gx 176 cu:=pL (D:=D) (fn:=Tryz.f176) [.fr 53 (.ints .u64 [])] ⟨wm.ok,abe.ok,trivial⟩ loops ⟨al6,trivial⟩ fun _ K _ h=>by
  unfold cu at h
  split at h
  · rw[P.as9] at h;exact Aa (by kernel_rfl) h
  · cases h
theorem ok:Proved Tryz.prog GLO.gx 176 spec:=bq _ ok0
end aek

namespace afu
abbrev X11:=P.b5u
def S11:X11→ASt:=fun (g,h,i,f,a,b,c,d,j,e)=>⟨[(2,.v (.bool g)),(3,.ptr 0 0),(6,.ptr 1 0),(7,.v (.int .i64 h)),(8,.v (.int .u64 i)),(9,.ptr 2 0),(10,.ptr 3 0),(11,.own 4),(12,.ptr 5 0),(13,.v (.int .i64 f))],[(0,some ⟨.box 138 [.arr .u64 8 a],false⟩),(1,some ⟨.box 138 [.arr .u64 8 b],false⟩),(2,some ⟨.box 188 [.arr .u64 64 c],false⟩),(3,some ⟨.box 190 [.arr .u64 80 d],false⟩),(4,some ⟨.row 53 (.ints .u64 j),false⟩),(5,some ⟨.box 138 [.arr .u64 8 e],false⟩)],6,137⟩
def V11:ASt→Option X11
 | ⟨[(2,.v (.bool g)),(3,.ptr 0 0),(6,.ptr 1 0),(7,.v (.int .i64 h)),(8,.v (.int .u64 i)),(9,.ptr 2 0),(10,.ptr 3 0),(11,.own 4),(12,.ptr 5 0),(13,.v (.int .i64 f))],[(0,some ⟨.box 138 [.arr .u64 8 a],false⟩),(1,some ⟨.box 138 [.arr .u64 8 b],false⟩),(2,some ⟨.box 188 [.arr .u64 64 c],false⟩),(3,some ⟨.box 190 [.arr .u64 80 d],false⟩),(4,some ⟨.row 53 (.ints .u64 j),false⟩),(5,some ⟨.box 138 [.arr .u64 8 e],false⟩)],6,137⟩=>some (g,h,i,f,a,b,c,d,j,e)
 | _=>none
theorem bw2(st)(x)(h:V11 st=some x):st=S11 x:=by unfold V11 at h;split at h;(cases h;rfl);cases h
abbrev Y11:=P.cll
abbrev X25:=P.b8l
def S25:X25→ASt:=fun (e,d,a,b,c)=>⟨[(3,.ptr 0 0),(6,.ptr 1 0),(8,.v (.int .u64 e)),(12,.ptr 5 0),(19,.v (.int .i64 d))],[(0,some ⟨.box 138 [.arr .u64 8 a],false⟩),(1,some ⟨.box 138 [.arr .u64 8 b],false⟩),(5,some ⟨.box 138 [.arr .u64 8 c],false⟩)],80,137⟩
def V25:ASt→Option X25
 | ⟨[(3,.ptr 0 0),(6,.ptr 1 0),(8,.v (.int .u64 e)),(12,.ptr 5 0),(19,.v (.int .i64 d))],[(0,some ⟨.box 138 [.arr .u64 8 a],false⟩),(1,some ⟨.box 138 [.arr .u64 8 b],false⟩),(5,some ⟨.box 138 [.arr .u64 8 c],false⟩)],80,137⟩=>some (e,d,a,b,c)
 | _=>none
theorem b7y(st)(x)(h:V25 st=some x):st=S25 x:=by unfold V25 at h;split at h;(cases h;rfl);cases h
abbrev Y25:=P.cln
def E11(K:AExit→ASt→Option R):Y11→Option R:=(fun x=>K (.exit 0) (S11 x))
noncomputable def L11:p8:=fun st K=>abx (V11 st) fun x=>P.coi x (E11 K)
def E25(K:AExit→ASt→Option R):Y25→Option R:=(fun x=>K (.exit 2) (S25 x))
noncomputable def L25:p8:=fun st K=>abx (V25 st) fun x=>P.cm5 x (E25 K)
noncomputable def D:Ctx:=⟨Tryz.prog,[(174,aa0.spec),(175,aaz.spec),(176,aek.spec),(177,abe.spec)],GLO.gx,[(25,⟨[3,6,8,12,19],[],[6],[],some (80,[0,1,5]),[],[],[]⟩),(11,⟨[2,3,6,7,8,9,10,11,12,13],[],[6],[],none,[],[],[]⟩)],[(11,L11),(25,L25)],[],false,none,none,[],false⟩
theorem bys:jl D (gu Tryz.f153 11):=fq S11 bw2 (by kernel_rfl) P.csf (enc:=E11) fun _ _ _=>by kernel_rfl
theorem b6d:jl D (gu Tryz.f153 25):=fq S25 b7y (by kernel_rfl) P.cr6 (enc:=E25) fun _ _ _=>by kernel_rfl
theorem loops:gy (Tryz.f153.body.getD .skip)=[gu Tryz.f153 11,gu Tryz.f153 25]:=by kernel_rfl
noncomputable def cu:Abs.Spec:=fun args K=>match args with
 | [.arr .u64 8 a,.sl (.ints .u8 b),.v (.bool c)]=>P.afu a b c (fun d=>K (.arr .u64 8 d))
 | _=>none
noncomputable def spec:Abs.Spec:=fun args K=>cu (j5 [.any,.sl (.ints .u8 []),.any] args) K
theorem ok0:Proved Tryz.prog GLO.gx 153 cu:=pL (D:=D) (fn:=Tryz.f153) [.any] ⟨aa0.ok,aaz.ok,aek.ok,abe.ok,trivial⟩ loops ⟨bys,b6d,trivial⟩ fun _ K _ h=>by
  unfold cu at h
  split at h
  · rw[P.atn] at h;exact Aa (by kernel_rfl) h
  · cases h
theorem ok:Proved Tryz.prog GLO.gx 153 spec:=bq _ ok0
end afu

namespace aeu
abbrev X4:=P.b77
def S4:X4→ASt:=fun (h,i,a,b,c,d,e,f,g)=>⟨[(2,.ptr 0 0),(4,.ptr 1 0),(5,.v (.int .i64 h)),(6,.sl (.ints .u8 i))],[(0,some ⟨.box 140 [.v (.int .i64 a),.arr .u64 8 b,.sl (.ints .u8 c),.v (.int .u64 d)],false⟩),(1,some ⟨.box 140 [.v (.int .i64 e),.arr .u64 8 f,.v (.slice none 0 0),.v (.int .u64 g)],false⟩)],40,41⟩
def V4:ASt→Option X4
 | ⟨[(2,.ptr 0 0),(4,.ptr 1 0),(5,.v (.int .i64 h)),(6,.sl (.ints .u8 i))],[(0,some ⟨.box 140 [.v (.int .i64 a),.arr .u64 8 b,.sl (.ints .u8 c),.v (.int .u64 d)],false⟩),(1,some ⟨.box 140 [.v (.int .i64 e),.arr .u64 8 f,.v (.slice none 0 0),.v (.int .u64 g)],false⟩)],40,41⟩=>some (h,i,a,b,c,d,e,f,g)
 | _=>none
theorem axb(st)(x)(h:V4 st=some x):st=S4 x:=by unfold V4 at h;split at h;(cases h;rfl);cases h
abbrev Y4:=P.ckz
def E4(K:AExit→ASt→Option R):Y4→Option R:=(fun x=>K (.exit 0) (S4 x))
noncomputable def L4:p8:=fun st K=>abx (V4 st) fun x=>P.coo x (E4 K)
noncomputable def D:Ctx:=⟨Tryz.prog,[(43,iy.spec),(152,zf.spec),(153,afu.spec)],GLO.gx,[(4,⟨[2,4,5,6],[],[4],[(6,.sl (.ints .u8 []))],some (40,[0,1]),[],[],[]⟩)],[(4,L4)],[],false,none,none,[],false⟩
theorem awr:jl D (gu Tryz.f115 4):=fq S4 axb (by kernel_rfl) P.cqv (enc:=E4) fun _ _ _=>by kernel_rfl
theorem loops:gy (Tryz.f115.body.getD .skip)=[gu Tryz.f115 4]:=by kernel_rfl
noncomputable def cu:Abs.Spec:=fun args K=>match args with
 | [.agg [.v (.int .i64 c),.arr .u64 8 a,.sl (.ints .u8 d),.v (.int .u64 e)],.sl (.ints .u8 i)]=>P.aeu c a d e i (fun f b g h=>K (.agg [.v (.int .i64 f),.arr .u64 8 b,.sl (.ints .u8 g),.v (.int .u64 h)]))
 | _=>none
noncomputable def spec:Abs.Spec:=fun args K=>cu (j5 [.agg [.any,.any,.sl (.ints .u8 []),.any],.sl (.ints .u8 [])] args) K
theorem ok0:Proved Tryz.prog GLO.gx 115 cu:=pL (D:=D) (fn:=Tryz.f115) [.agg [.any,.any,.sl (.ints .u8 []),.any]] ⟨iy.ok,zf.ok,afu.ok,trivial⟩ loops ⟨awr,trivial⟩ fun _ K _ h=>by
  unfold cu at h
  split at h
  · rw[P.bi8] at h;exact Aa (by kernel_rfl) h
  · cases h
theorem ok:Proved Tryz.prog GLO.gx 115 spec:=bq _ ok0
end aeu

namespace al4
abbrev X4:=P.b55
def S4:X4→ASt:=fun (f,g,e,a,b,c,d)=>⟨[(5,.own 40),(1,.ptr 0 0),(3,.v (.int .i64 f)),(4,.v (.int .u64 g))],[(40,some ⟨.row 5 (.ints .u8 e),false⟩),(0,some ⟨.box 140 [.v (.int .i64 a),.arr .u64 8 b,.sl (.ints .u8 c),.v (.int .u64 d)],false⟩)],41,77⟩
def V4:ASt→Option X4
 | ⟨[(5,.own 40),(1,.ptr 0 0),(3,.v (.int .i64 f)),(4,.v (.int .u64 g))],[(40,some ⟨.row 5 (.ints .u8 e),false⟩),(0,some ⟨.box 140 [.v (.int .i64 a),.arr .u64 8 b,.sl (.ints .u8 c),.v (.int .u64 d)],false⟩)],41,77⟩=>some (f,g,e,a,b,c,d)
 | _=>none
theorem axb(st)(x)(h:V4 st=some x):st=S4 x:=by unfold V4 at h;split at h;(cases h;rfl);cases h
abbrev Y4:=P.cm1
abbrev X8:=P.b7k
def S8:X8→ASt:=fun (f,g,e,a,b,c,d)=>⟨[(5,.own 80),(1,.ptr 0 0),(3,.v (.int .i64 f)),(4,.v (.int .u64 g))],[(80,some ⟨.row 5 (.ints .u8 e),false⟩),(0,some ⟨.box 140 [.v (.int .i64 a),.arr .u64 8 b,.sl (.ints .u8 c),.v (.int .u64 d)],false⟩)],81,77⟩
def V8:ASt→Option X8
 | ⟨[(5,.own 80),(1,.ptr 0 0),(3,.v (.int .i64 f)),(4,.v (.int .u64 g))],[(80,some ⟨.row 5 (.ints .u8 e),false⟩),(0,some ⟨.box 140 [.v (.int .i64 a),.arr .u64 8 b,.sl (.ints .u8 c),.v (.int .u64 d)],false⟩)],81,77⟩=>some (f,g,e,a,b,c,d)
 | _=>none
theorem bli(st)(x)(h:V8 st=some x):st=S8 x:=by unfold V8 at h;split at h;(cases h;rfl);cases h
abbrev Y8:=P.cj4
abbrev X14:=P.b8b
def S14:X14→ASt:=fun (f,g,a,b,c,d,e)=>⟨[(6,.own 120),(1,.ptr 0 0),(3,.v (.int .i64 f)),(7,.v (.int .i64 g))],[(120,some ⟨.row 5 (.ints .u8 a),false⟩),(0,some ⟨.box 140 [.v (.int .i64 b),.arr .u64 8 c,.sl (.ints .u8 d),.v (.int .u64 e)],false⟩)],121,77⟩
def V14:ASt→Option X14
 | ⟨[(6,.own 120),(1,.ptr 0 0),(3,.v (.int .i64 f)),(7,.v (.int .i64 g))],[(120,some ⟨.row 5 (.ints .u8 a),false⟩),(0,some ⟨.box 140 [.v (.int .i64 b),.arr .u64 8 c,.sl (.ints .u8 d),.v (.int .u64 e)],false⟩)],121,77⟩=>some (f,g,a,b,c,d,e)
 | _=>none
theorem b9u(st)(x)(h:V14 st=some x):st=S14 x:=by unfold V14 at h;split at h;(cases h;rfl);cases h
abbrev Y14:=P.chw
def E4(K:AExit→ASt→Option R):Y4→Option R:=(fun x=>K (.exit 0) (S4 x))
noncomputable def L4:p8:=fun st K=>abx (V4 st) fun x=>P.cgn x (E4 K)
def E8(K:AExit→ASt→Option R):Y8→Option R:=(fun x=>K (.exit 2) (S8 x))
noncomputable def L8:p8:=fun st K=>abx (V8 st) fun x=>P.ck0 x (E8 K)
def E14(K:AExit→ASt→Option R):Y14→Option R:=(fun x=>K (.exit 4) (S14 x))
noncomputable def L14:p8:=fun st K=>abx (V14 st) fun x=>P.chv x (E14 K)
noncomputable def D:Ctx:=({ P:=Tryz.prog,G:=[(81,yx.spec),(115,aeu.spec),(152,zf.spec)],globs:=GLO.gx,hints:=[(14,⟨[1,3,7],[(6,5,.ints .u8 [])],[2],[],some (120,[0]),[0],[],[]⟩),(8,⟨[1,3,4],[(5,5,.ints .u8 [])],[2],[],some (80,[0]),[0],[],[]⟩),(4,⟨[1,3,4],[(5,5,.ints .u8 [])],[2],[],some (40,[0]),[0],[],[]⟩)],loops:=[(4,L4),(8,L8),(14,L14)],inl:=[] }:Ctx)
theorem awr:jl D (gu Tryz.f114 4):=fq S4 axb (by kernel_rfl) P.cp7 (enc:=E4) fun _ _ _=>by kernel_rfl
theorem bmn:jl D (gu Tryz.f114 8):=fq S8 bli (by kernel_rfl) P.cq7 (enc:=E8) fun _ _ _=>by kernel_rfl
theorem b6s:jl D (gu Tryz.f114 14):=fq S14 b9u (by kernel_rfl) P.crz (enc:=E14) fun _ _ _=>by kernel_rfl
theorem loops:gy (Tryz.f114.body.getD .skip)=[gu Tryz.f114 4,gu Tryz.f114 8,gu Tryz.f114 14]:=by kernel_rfl
noncomputable def cu:Abs.Spec:=fun args K=>match args with
 | [.agg [.v (.int .i64 b),.arr .u64 8 a,.sl (.ints .u8 c),.v (.int .u64 d)]]=>P.al4 b a c d (fun e=>K (.fr 5 (.ints .u8 e)))
 | _=>none
noncomputable def spec:Abs.Spec:=fun args K=>cu (j5 [.agg [.any,.any,.sl (.ints .u8 []),.any]] args) K
theorem ok0:Proved Tryz.prog GLO.gx 114 cu:=by
 refine bbd (D:=D) (fn:=Tryz.f114) (c:=Tryz.f114.body.getD .skip) 5 (.ints .u8 []) (by kernel_rfl) (je (by kernel_rfl)) (by kernel_rfl) (by kernel_rfl) (by kernel_rfl) ⟨yx.ok,aeu.ok,zf.ok,trivial⟩ trivial ?_ ?_
 · rw[loops];exact ⟨awr,bmn,b6s,trivial⟩
 · intro args K r h
   unfold cu at h
   split at h
   · rw[P.bj5] at h;exact Aa (by kernel_rfl) h
   · cases h
theorem ok:Proved Tryz.prog GLO.gx 114 spec:=bq _ ok0
end al4

namespace alf
noncomputable def spec:Abs.Spec:=fun args K=>match args with
 | [.v (.int .i64 e)]=>P.alf e (fun b a c d f=>K (.tuple [.agg [.v (.int .i64 b),.arr .u64 8 a,.fr 5 (.ints .u8 c),.v (.int .u64 d)],.v (.int .i64 f)]))
 | _=>none
theorem ok:Proved Tryz.prog GLO.gx 113 spec:=pK (G:=[]) (fn:=Tryz.f113) [.agg [.any,.any,.fr 5 (.ints .u8 []),.any],.any] trivial fun _ K _ h=>by
  unfold spec at h
  split at h
  · rw[P.bk9] at h;exact Aa (by kernel_rfl) h
  · cases h
end alf

namespace abr
noncomputable def cu:Abs.Spec:=fun args K=>match args with
 | [.v (.int .i64 a),.sl (.ints .u8 b)]=>P.abr a b (fun c d=>K (.tuple [.fr 5 (.ints .u8 c),.v (.int .i64 d)]))
 | _=>none
noncomputable def spec:Abs.Spec:=fun args K=>cu (j5 [.any,.sl (.ints .u8 [])] args) K
theorem ok0:Proved Tryz.prog GLO.gx 62 cu:=pK (G:=[(113,alf.spec),(114,al4.spec),(115,aeu.spec)]) (fn:=Tryz.f62) [.fr 5 (.ints .u8 []),.any] ⟨alf.ok,al4.ok,aeu.ok,trivial⟩ fun _ K _ h=>by
  unfold cu at h
  split at h
  · rw[P.bk6] at h;exact Aa (by kernel_rfl) h
  · cases h
theorem ok:Proved Tryz.prog GLO.gx 62 spec:=bq _ ok0
end abr

namespace aaw
abbrev X4:=P.b5s
def S4:X4→ASt:=fun (c,d,a,b)=>⟨[(0,.ptr 0 0),(1,.ptr 1 0),(2,.v (.int .u64 c)),(3,.v (.int .i64 d))],[(0,some ⟨.box 186 [.arr .u64 24 a],false⟩),(1,some ⟨.box 186 [.arr .u64 24 b],false⟩)],2,32⟩
def V4:ASt→Option X4
 | ⟨[(0,.ptr 0 0),(1,.ptr 1 0),(2,.v (.int .u64 c)),(3,.v (.int .i64 d))],[(0,some ⟨.box 186 [.arr .u64 24 a],false⟩),(1,some ⟨.box 186 [.arr .u64 24 b],false⟩)],2,32⟩=>some (c,d,a,b)
 | _=>none
theorem axb(st)(x)(h:V4 st=some x):st=S4 x:=by unfold V4 at h;split at h;(cases h;rfl);cases h
abbrev Y4:=P.ckb
def E4(K:AExit→ASt→Option R):Y4→Option R:=(fun x=>K (.exit 0) (S4 x))
noncomputable def L4:p8:=fun st K=>abx (V4 st) fun x=>P.cm0 x (E4 K)
noncomputable def D:Ctx:=⟨Tryz.prog,[],GLO.gx,[(4,⟨[0,1,2,3],[],[0],[],none,[],[],[]⟩)],[(4,L4)],[],false,none,none,[],false⟩
theorem awr:jl D (gu Tryz.f171 4):=fq S4 axb (by kernel_rfl) P.cqz (enc:=E4) fun _ _ _=>by kernel_rfl
theorem loops:gy (Tryz.f171.body.getD .skip)=[gu Tryz.f171 4]:=by kernel_rfl
noncomputable def spec:Abs.Spec:=fun args K=>match args with
 | []=>P.aaw (fun a=>K (.arr .u64 24 a))
 | _=>none
theorem ok:Proved Tryz.prog GLO.gx 171 spec:=pL (D:=D) (fn:=Tryz.f171) [.any] trivial loops ⟨awr,trivial⟩ fun _ K _ h=>by
  unfold spec at h
  split at h
  · rw[P.aqx] at h;exact Aa (by kernel_rfl) h
  · cases h
end aaw

namespace ag9
noncomputable def spec:Abs.Spec:=fun args K=>match args with
 | [.v (.int .u64 a),.v (.int .i64 b)]=>P.ag9 a b (fun c=>K (.v (.int .u64 c)))
 | _=>none
theorem ok:Proved Tryz.prog GLO.gx 190 spec:=pK (G:=[]) (fn:=Tryz.f190) [.any] trivial fun _ K _ h=>by
  unfold spec at h
  split at h
  · rw[P.aga] at h;exact Aa (by kernel_rfl) h
  · cases h
end ag9

namespace akw
abbrev X6:=P.b8z
def S6:X6→ASt:=fun (d,e,f,a,b,c)=>⟨[(1,.ptr 0 0),(2,.ptr 1 0),(3,.ptr 2 0),(4,.v (.int .i64 d)),(5,.v (.int .i64 e)),(6,.v (.int .i64 f))],[(0,some ⟨.box 130 [.arr .u64 25 a],false⟩),(1,some ⟨.box 130 [.arr .u64 25 b],false⟩),(2,some ⟨.box 130 [.arr .u64 25 c],false⟩)],3,44⟩
def V6:ASt→Option X6
 | ⟨[(1,.ptr 0 0),(2,.ptr 1 0),(3,.ptr 2 0),(4,.v (.int .i64 d)),(5,.v (.int .i64 e)),(6,.v (.int .i64 f))],[(0,some ⟨.box 130 [.arr .u64 25 a],false⟩),(1,some ⟨.box 130 [.arr .u64 25 b],false⟩),(2,some ⟨.box 130 [.arr .u64 25 c],false⟩)],3,44⟩=>some (d,e,f,a,b,c)
 | _=>none
theorem alr(st)(x)(h:V6 st=some x):st=S6 x:=by unfold V6 at h;split at h;(cases h;rfl);cases h
abbrev Y6:=P.cnq
def E6(K:AExit→ASt→Option R):Y6→Option R:=(fun x=>K (.exit 0) (S6 x))
noncomputable def L6:p8:=fun st K=>abx (V6 st) fun x=>P.cma x (E6 K)
noncomputable def D:Ctx:=⟨Tryz.prog,[(190,ag9.spec)],GLO.gx,[(6,⟨[1,2,3,4,5,6],[],[2],[],none,[],[],[]⟩)],[(6,L6)],[],false,none,none,[],false⟩
theorem al6:jl D (gu Tryz.f172 6):=fq S6 alr (by kernel_rfl) P.cqt (enc:=E6) fun _ _ _=>by kernel_rfl
theorem loops:gy (Tryz.f172.body.getD .skip)=[gu Tryz.f172 6]:=by kernel_rfl
noncomputable def spec:Abs.Spec:=fun args K=>match args with
 | [.arr .u64 25 a]=>P.akw a (fun b=>K (.arr .u64 25 b))
 | _=>none
theorem ok:Proved Tryz.prog GLO.gx 172 spec:=pL (D:=D) (fn:=Tryz.f172) [.any] ⟨ag9.ok,trivial⟩ loops ⟨al6,trivial⟩ fun _ K _ h=>by
  unfold spec at h
  split at h
  · rw[P.bft] at h;exact Aa (by kernel_rfl) h
  · cases h
end akw

end
