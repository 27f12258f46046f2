/-
  LeasePlays, part 21: an interpreter of my own over abstract values, the pure functions, the walks and the plain law.
-/

import Derived.Test.YtkfjafaabbmapaaDoorLeasePlaysT
import Derived.Test.YtkfjafaabbmapaaDoorLeasePlaysK

namespace Q
open Go Go.Abs
set_option linter.unusedVariables false
set_option linter.unusedSimpArgs false
theorem LeasePlays (x0_Store_0 : List Int) (x0_Store_1 : List Int) (x0_Leaves : Int) (x0_Batch : Int) (x0_Next : Int) (x0_Bound : Int) (x0_Up : Bool) (x1n : Nat) (x10 : List Int) (x11 : List Int) (x12 : List (List Int)) (nx0_Store_0 : x0_Store_0.length ≤ 140737488355328) (wx0_Store_0 : ∀ x, x ∈ x0_Store_0 → wfI .u8 x) (nx0_Store_1 : x0_Store_1.length ≤ 140737488355328) (wx0_Store_1 : ∀ x, x ∈ x0_Store_1 → wfI .u8 x) (wx0_Leaves : wfI .u64 x0_Leaves) (wx0_Batch : wfI .u64 x0_Batch) (wx0_Next : wfI .u64 x0_Next) (wx0_Bound : wfI .u64 x0_Bound) (bx1 : x1n ≤ 140737488355328) (mx10 : x10.length = x1n) (wx10 : ∀ x, x ∈ x10 → wfI .i64 x) (mx11 : x11.length = x1n) (wx11 : ∀ x, x ∈ x11 → wfI .i64 x) (mx12 : x12.length = x1n) (wx12 : ∀ y, y ∈ x12 → y.length ≤ 140737488355328 ∧ ∀ x, x ∈ y → wfI .u8 x) {ρ : Type} (k : Bool → Option ρ) : P.qm x0_Store_0 x0_Store_1 x0_Leaves x0_Batch x0_Next x0_Bound x0_Up x1n x10 x11 x12 k = k true := by
 rw [P.af9]; unfold P.ab4
 obtain ⟨n, hn, rfl⟩ := at6 wx0_Leaves
 obtain ⟨t, ht, rfl⟩ := at6 wx0_Batch
 obtain ⟨x, hx, rfl⟩ := at6 wx0_Next
 obtain ⟨d, hd, rfl⟩ := at6 wx0_Bound
 obtain ⟨v, hv, hf⟩ := azu x0_Store_0 x0_Store_1 x1n x10 x11 x12
 rw [hf]
 by_cases h1 : v = true
 ·obtain ⟨f1, f2, f3, f4⟩ := hv h1
  have w : Lwf ⟨x0_Store_0, x0_Store_1, n, t, x, d, x0_Up⟩ := { a := bg4 wx0_Store_0, b := bg4 wx0_Store_1, na := by simp only; omega, nb := by simp only; omega, n := hn, t := ht, x := hx, d := hd }
  obtain ⟨u, hu, hg⟩ := az3 _ w
  simp only at hg
  rw [h1, sj, ug, hg]
  by_cases h2 : u = true
  ·obtain ⟨g1, g2⟩ := hu h2
   have hj := bfk mx12 wx12 f4
   obtain ⟨s1, s2, s3⟩ := awi g1 g2 x10 x11 hj x1n (Nat.le_refl _)
   have e1 := fun (k : List Int → List Int → Int → Int → Int → Int → Bool → List Int → Option ρ) => qd _ g1 g2 x1n f1 x10 x11 x12 hj k
   have e2 := fun (k : List Int → List Int → Int → Int → Int → Int → Bool → List Int → Option ρ) => ab9 _ g1 g2 x1n f1 x10 x11 x12 hj k
   simp only at e1 e2
   rw [h2, sj, ug, e1]
   simp only [lsK]
   rw [e2]
   simp only [lsK]
   rw [ab8 _ (by have := s1.wf.na; omega) (by have := s1.wf.nb; omega), ug, qw _ _ (by omega), av rfl, uz]
  ·rw [show u = false by simpa using h2, sj, ni, uz]
 ·rw [show v = false by simpa using h1, sj, ni, uz]
end Q
