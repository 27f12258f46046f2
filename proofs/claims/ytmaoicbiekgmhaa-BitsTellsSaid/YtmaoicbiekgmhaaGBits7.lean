import Derived.Test.YtmaoicbiekgmhaaFBits6
import Derived.Test.YtmaoicbiekgmhaaProg
open Go Go.Abs Go.Proofs
set_option maxRecDepth 100000
set_option linter.unusedVariables false

namespace F5
noncomputable def D : Ctx := { P := Try.prog, G := [(19, F19.spec), (29, F29.spec), (30, F30.spec), (31, F31.spec), (32, F32.spec), (33, F33.spec), (34, F34.spec), (35, F35.spec), (36, F36.spec), (37, F37.spec)], globs := [], hints := [], loops := [], inl := [] }
theorem body (n s : Int) (b : List Int) (K : AVal → Option R) : bodyA D Try.f5 [] [.v (.int .u64 n), .v (.int .i64 s), .sl (.ints .u8 b)] K =
  br (decide ((↑b.length : Int) > (1000 : Int))) (K (AVal.v (Value.bool true)))
    (br (decide (s > (1000 : Int)))
      (br (decide (s ≤ (65536 : Int))) (K (AVal.v (Value.bool true)))
        (br (decide ((F32.text n s).reverse.length ≤ 1099511627776))
          (br (decide ((F32.text n s).reverse = F31.text n s))
            (br (decide ((F32.text n s).length ≤ 1099511627776))
              (br (decide (F32.text n s = (F31.text n s).reverse))
                (br (decide (b.length ≤ 1099511627776))
                  (br (decide (b.length ≤ 1099511627776))
                    (br (F34.num (0 : Int) b == F35.num (0 : Int) b)
                      (br (decide (b.length ≤ 1099511627776))
                        (br (F36.num (0 : Int) (List.take 8 b) (0 : Int) == F35.num (0 : Int) b.reverse)
                          (K (AVal.v (Value.bool true))) (K (AVal.v (Value.bool false))))
                        none)
                      (K (AVal.v (Value.bool false))))
                    none)
                  none)
                (K (AVal.v (Value.bool false))))
              none)
            (K (AVal.v (Value.bool false))))
          none))
      (br (decide ((F32.text n s).reverse.length ≤ 1099511627776))
        (br (decide ((F32.text n s).reverse = F31.text n s))
          (br (decide ((F32.text n s).length ≤ 1099511627776))
            (br (decide (F32.text n s = (F31.text n s).reverse))
              (br (decide (b.length ≤ 1099511627776))
                (br (decide (b.length ≤ 1099511627776))
                  (br (F34.num (0 : Int) b == F35.num (0 : Int) b)
                    (br (decide (b.length ≤ 1099511627776))
                      (br (F36.num (0 : Int) (List.take 8 b) (0 : Int) == F35.num (0 : Int) b.reverse)
                        (K (AVal.v (Value.bool true))) (K (AVal.v (Value.bool false))))
                      none)
                    (K (AVal.v (Value.bool false))))
                  none)
                none)
              (K (AVal.v (Value.bool false))))
            none)
          (K (AVal.v (Value.bool false))))
        none)) := by kernel_rfl
theorem loops : loopsOf (Try.f5.body.getD .skip) = [] := by kernel_rfl
end F5

