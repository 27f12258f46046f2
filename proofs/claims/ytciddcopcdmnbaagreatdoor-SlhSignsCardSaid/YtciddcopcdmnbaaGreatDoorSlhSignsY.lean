/-
  SlhSigns, part 25: lemmas for the law.
-/

import Derived.Test.YtciddcopcdmnbaaGreatDoorSlhSignsL
import Derived.Test.YtciddcopcdmnbaaGreatDoorSlhSignsH
import Derived.Test.YtciddcopcdmnbaaGreatDoorProg
import Derived.Test.YtciddcopcdmnbaaGreatDoorSlhSignsJ
import Derived.Test.YtciddcopcdmnbaaGreatDoorSlhSignsN
import Derived.Test.YtciddcopcdmnbaaGreatDoorSlhSignsQ
import Derived.Test.YtciddcopcdmnbaaGreatDoorSlhSignsX
import Derived.Test.YtciddcopcdmnbaaGreatDoorSlhSignsR
import Derived.KernelRfl
import Derived.Test.YtciddcopcdmnbaaGreatDoorSlhSignsM
import Derived.Test.YtciddcopcdmnbaaGreatDoorSlhSignsS
import Derived.Test.YtciddcopcdmnbaaGreatDoorSlhSignsW

section
open Go Go.Abs Go.Proofs
set_option maxRecDepth 100000
set_option maxHeartbeats 0
set_option linter.unusedVariables false

namespace ai5
noncomputable def cu:Abs.Spec:=fun args K=>match args with
 | [.agg [.v (.int .i64 b),.v (.int .i64 c),.v (.int .i64 d),.v (.int .i64 e),.v (.int .i64 f),.v (.bool a)],.sl (.ints .u8 g),.sl (.ints .u8 h),.sl (.ints .u8 i),.sl (.ints .u8 j)]=>P.ai5 b c d e f a g h i j (fun k l=>K (.tuple [.fr 5 (.ints .u8 k),.v (.int .i64 l)]))
 | _=>none
noncomputable def spec:Abs.Spec:=fun args K=>cu (j5 [.any,.sl (.ints .u8 []),.sl (.ints .u8 []),.sl (.ints .u8 []),.sl (.ints .u8 [])] args) K
theorem ok0:Proved Tryz.prog GLO.gx 19 cu:=pK (G:=[(22,jy.spec),(24,acv.spec),(25,qp.spec),(26,adl.spec),(27,p9.spec),(28,o8.spec),(40,jc.spec),(44,aco.spec),(45,aa1.spec),(91,nu.spec),(93,ql.spec),(94,qm.spec),(95,qo.spec),(97,qj.spec)]) (fn:=Tryz.f19) [.fr 5 (.ints .u8 []),.any] ⟨jy.ok,acv.ok,qp.ok,adl.ok,p9.ok,o8.ok,jc.ok,aco.ok,aa1.ok,nu.ok,ql.ok,qm.ok,qo.ok,qj.ok,trivial⟩ fun _ K _ h=>by
  unfold cu at h
  split at h
  · rw[P.ah8] at h;exact Eq.trans (by kernel_rfl) h
  · cases h
theorem ok:Proved Tryz.prog GLO.gx 19 spec:=bq _ ok0
end ai5

namespace ab4
noncomputable def cu:Abs.Spec:=fun args K=>match args with
 | [.agg [.v (.int .i64 b),.v (.int .i64 c),.v (.int .i64 d),.v (.int .i64 e),.v (.int .i64 f),.v (.bool a)],.sl (.ints .u8 g),.sl (.ints .u8 h),.sl (.ints .u8 i),.sl (.ints .u8 j)]=>P.ab4 b c d e f a g h i j (fun k=>K (.v (.bool k)))
 | _=>none
noncomputable def spec:Abs.Spec:=fun args K=>cu (j5 [.any,.sl (.ints .u8 []),.sl (.ints .u8 []),.sl (.ints .u8 []),.sl (.ints .u8 [])] args) K
theorem ok0:Proved Tryz.prog GLO.gx 5 cu:=pK (G:=[(8,ahs.spec),(9,aa7.spec),(10,ajx.spec),(18,ag5.spec),(19,ai5.spec),(20,ai2.spec)]) (fn:=Tryz.f5) [.any] ⟨ahs.ok,aa7.ok,ajx.ok,ag5.ok,ai5.ok,ai2.ok,trivial⟩ fun _ K _ h=>by
  unfold cu at h
  split at h
  · rw[P.ase] at h;exact Eq.trans (by kernel_rfl) h
  · cases h
theorem ok:Proved Tryz.prog GLO.gx 5 spec:=bq _ ok0
end ab4

end
