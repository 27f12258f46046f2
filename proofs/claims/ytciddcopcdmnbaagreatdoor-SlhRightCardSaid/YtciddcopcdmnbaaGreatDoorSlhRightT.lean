/-
  SlhRight, part 20: lemmas for the law.
-/

import Derived.Test.YtciddcopcdmnbaaGreatDoorSlhRightL
import Derived.Test.YtciddcopcdmnbaaGreatDoorSlhRightH
import Derived.Test.YtciddcopcdmnbaaGreatDoorProg
import Derived.Test.YtciddcopcdmnbaaGreatDoorSlhRightJ
import Derived.Test.YtciddcopcdmnbaaGreatDoorSlhRightR
import Derived.Test.YtciddcopcdmnbaaGreatDoorSlhRightS
import Derived.Test.YtciddcopcdmnbaaGreatDoorSlhRightM
import Derived.KernelRfl

section
open Go Go.Abs Go.Proofs
set_option maxRecDepth 100000
set_option maxHeartbeats 0
set_option linter.unusedVariables false

namespace aa0
noncomputable def dn:Abs.Spec:=fun args K=>match args with
 | [.v (.int .u8 a),.v (.bool b),.v (.bool c),.arr .u8 32 d,.arr .u8 32 e,.arr .u8 32 f,.arr .u8 32 g,.sl (.ints .u8 h),.sl (.ints .u8 i)]=>P.aa0 a b c d e f g h i (fun j=>K (.v (.bool j)))
 | _=>none
noncomputable def spec:Abs.Spec:=fun args K=>dn (o8 [.any,.any,.any,.any,.any,.any,.any,.sl (.ints .u8 []),.sl (.ints .u8 [])] args) K
theorem ok0:Proved Tryz.prog GLO.gx 6 dn:=pK (G:=[(9,zh.spec),(10,ag9.spec),(11,vv.spec),(14,aaf.spec),(16,agi.spec),(19,agh.spec)]) (fn:=Tryz.f6) [.any] ⟨zh.ok,ag9.ok,vv.ok,aaf.ok,agi.ok,agh.ok,trivial⟩ fun _ K _ h=>by
  unfold dn at h
  split at h
  · rw[P.ams] at h;exact Eq.trans (by kernel_rfl) h
  · cases h
theorem ok:Proved Tryz.prog GLO.gx 6 spec:=cu _ ok0
end aa0

end
