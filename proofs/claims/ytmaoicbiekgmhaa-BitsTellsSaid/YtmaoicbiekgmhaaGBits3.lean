import Derived.Test.YtmaoicbiekgmhaaFBits1
import Derived.Test.YtmaoicbiekgmhaaFBits2
import Derived.Test.YtmaoicbiekgmhaaFBits3a
import Derived.Test.YtmaoicbiekgmhaaProg
open Go Go.Abs Go.Proofs
set_option maxRecDepth 100000
set_option linter.unusedVariables false

namespace F30
noncomputable def D : Ctx := { P := Try.prog, G := [(32, F32.spec)], globs := [], hints := [], loops := [], inl := [(70, F70.spec)] }
theorem body (n w : Int) (K : AVal → Option R) : bodyA D Try.f30 [some (5, .ints .u8 [])] [.v (.int .u64 n), .v (.int .i64 w)] K =
  br (decide ((F32.text n w).length ≤ 1099511627776))
    (K (AVal.fr 5 (Cont.ints IntKind.u8 (F32.text n w).reverse))) none := by kernel_rfl
theorem loops : loopsOf (Try.f30.body.getD .skip) = [] := by kernel_rfl
end F30

namespace F33
noncomputable def D : Ctx := { P := Try.prog, G := [(31, F31.spec), (71, F71.spec)], globs := [], hints := [], loops := [], inl := [] }
theorem body (n w : Int) (K : AVal → Option R) : bodyA D Try.f33 [] [.v (.int .u64 n), .v (.int .i64 w)] K =
  br (decide ((F31.text n w).length ≤ 1099511627776))
    (K (AVal.fr 5 (Cont.ints IntKind.u8 (F31.text n w).reverse))) none := by kernel_rfl
theorem loops : loopsOf (Try.f33.body.getD .skip) = [] := by kernel_rfl
end F33

namespace F37
noncomputable def D : Ctx := { P := Try.prog, G := [(35, F35.spec), (71, F71.spec)], globs := [], hints := [], loops := [], inl := [] }
theorem body (b : List Int) (K : AVal → Option R) : bodyA D Try.f37 [] [.sl (.ints .u8 b)] K =
  br (decide (b.length ≤ 1099511627776))
    (br (decide (b.reverse.length ≤ 1099511627776))
      (K (AVal.v (Value.int IntKind.u64 (F35.num (0 : Int) b.reverse)))) none)
    none := by kernel_rfl
theorem loops : loopsOf (Try.f37.body.getD .skip) = [] := by kernel_rfl
end F37

