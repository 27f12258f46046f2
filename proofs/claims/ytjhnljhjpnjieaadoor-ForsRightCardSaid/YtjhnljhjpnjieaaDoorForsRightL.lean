/-
  ForsRight, part 12: an interpreter of my own over abstract values, the pure functions, the walks and the plain law.
-/

import Derived.Test.YtjhnljhjpnjieaaDoorForsRightG
import Derived.Test.YtjhnljhjpnjieaaDoorForsRightI
import Derived.Test.YtjhnljhjpnjieaaDoorForsRightK

noncomputable section
open Go Go.Abs
set_option linter.unusedVariables false
namespace P

def aa2 {ρ : Type} (r s t u v : Int) (q : Bool) (n : Nat) (d : Int) (a : List Int) (m : Int) (l : Bool) (o e : Int) (b f : List Int) (g p h : Int) (c i : List Int) (j : Int) (w y : List Int) (A : Int) (k : (List Int) → Option ρ) : Option ρ := oo y 2 5 fun B => adi y 3 fun C => oo B 3 C fun F => oo F 4 (IntKind.u64.wrap A) fun z => br (decide (n = 1)) (lq z w d a m l o fun G => k G) (br (decide (n = 2)) (l9 z w e b f g p h c i j fun H => k H) none)
def adj {ρ : Type} := shut (aa2 (ρ := ρ))
theorem ajc {ρ : Type} (q : Int) (r : Int) (s : Int) (t : Int) (u : Int) (m : Bool) (v : Nat) (d : Int) (a : List Int) (n : Int) (l : Bool) (o : Int) (e : Int) (b : List Int) (f : List Int) (g : Int) (p : Int) (h : Int) (c : List Int) (i : List Int) (j : Int) (w : List Int) (y : List Int) (z : Int) (k : (List Int) → Option ρ) : adj q r s t u m v d a n l o e b f g p h c i j w y z k = aa2 q r s t u m v d a n l o e b f g p h c i j w y z k := by unfold adj; rw [dh]





















































































end P
end
