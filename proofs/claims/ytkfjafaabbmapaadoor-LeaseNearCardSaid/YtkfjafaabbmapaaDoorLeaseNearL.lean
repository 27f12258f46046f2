/-
  LeaseNear, part 12: an interpreter of my own over abstract values, the pure functions, the walks and the plain law.
-/

import Derived.Test.YtkfjafaabbmapaaDoorLeaseNearH
import Derived.Test.YtkfjafaabbmapaaDoorLeaseNearK
import Derived.Test.YtkfjafaabbmapaaDoorLeaseNearI

noncomputable section
open Go Go.Abs
set_option linter.unusedVariables false
namespace P

































































def aay {ρ : Type} (d e : List Int) (a c f b : Int) (g : Bool) (k : (List Int) → (List Int) → Int → Int → Int → Int → Bool → Int → Option ρ) : Option ρ := br (!g) (k d e a c f b g 21) (br (b == a) (k d e a c f b g 13) (bg d e fun l r s i => br (i != 0) (br (i != 0) (k d e a c f b g i) (cu d e 0 0 fun m n t j => br (j == 0) (k m n a c f 0 g j) (k d e a c f b g j))) (br (decide (l ≥ 1152921504606846976)) (k d e a c f b g 8) (cu d e (IntKind.u64.wrap (l + 1)) (IntKind.u64.wrap (b + bif decide (IntKind.u64.wrap (a - b) < c) then IntKind.u64.wrap (a - b) else c)) fun o p q h => br (h == 0) (k o p a c f (IntKind.u64.wrap (b + bif decide (IntKind.u64.wrap (a - b) < c) then IntKind.u64.wrap (a - b) else c)) g h) (k d e a c f b g h)))))
def abw {ρ : Type} := shut (aay (ρ := ρ))
theorem agl {ρ : Type} (a : List Int) (b : List Int) (c : Int) (d : Int) (f : Int) (e : Int) (g : Bool) (k : (List Int) → (List Int) → Int → Int → Int → Int → Bool → Int → Option ρ) : abw a b c d f e g k = aay a b c d f e g k := by unfold abw; rw [dz]





























end P
end
