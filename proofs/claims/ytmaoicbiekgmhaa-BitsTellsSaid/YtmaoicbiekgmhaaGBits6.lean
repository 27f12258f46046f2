import Derived.Test.YtmaoicbiekgmhaaFBits3
import Derived.Test.YtmaoicbiekgmhaaFBits4
import Derived.Test.YtmaoicbiekgmhaaFBits5
import Derived.Test.YtmaoicbiekgmhaaProg
open Go Go.Abs Go.Proofs
set_option maxRecDepth 100000
set_option linter.unusedVariables false

namespace F29
noncomputable def D : Ctx := { P := Try.prog, G := [(19, F19.spec), (30, F30.spec), (32, F32.spec), (39, F39.spec), (41, F41.spec)], globs := [], hints := [], loops := [], inl := [] }
theorem body  (K : AVal → Option R) : bodyA D Try.f29 [] [] K =
  K (AVal.v (Value.bool (decide (F41.text (4 : Int) [(5 : Int), (10 : Int)] = [(165 : Int)])))) := by kernel_rfl
theorem loops : loopsOf (Try.f29.body.getD .skip) = [] := by kernel_rfl
end F29

