/-
  LeaseTells, part 21: an interpreter of my own over abstract values, the pure functions, the walks and the plain law.
-/

import Derived.Test.YtkfjafaabbmapaaDoorLeaseTellsT
import Derived.Test.YtkfjafaabbmapaaDoorLeaseTellsK

namespace Q
open Go Go.Abs
set_option linter.unusedVariables false
set_option linter.unusedSimpArgs false
theorem bck {a b : List Int} (na : a.length ≤ 1000) (nb : b.length ≤ 1000) (n t : Nat) : (opn a b n t).1.a.length ≤ 1000 ∧ (opn a b n t).1.b.length ≤ 1000 := by
 rcases ais a b n t with ⟨h1, e⟩ | ⟨h1, h2, e⟩ | ⟨h1, h2, h3, e⟩ | ⟨h1, h2, h3, ⟨h4, e⟩ | ⟨h4, h5, e⟩ | ⟨h4, h5, h6, e⟩ | ⟨h4, h5, h6, e⟩⟩ <;> rw [e]
 ·simp
 ·simp
 ·simp
 ·simp
 ·simp
 ·simp
 ·exact ⟨na, nb⟩
theorem zh (a b : List Int) (n t x d : Int) (u : Bool) (a' b' : List Int) (n' t' x' d' : Int) (u' : Bool) (ha : a.length ≤ 140737488355328) (hb : b.length ≤ 140737488355328) : ∃ v : Bool, (∀ {ρ : Type} (k : Bool → Option ρ), P.zh a b n t x d u a' b' n' t' x' d' u' k = k v) ∧ ∀ {ρ : Type} (k : Bool → Option ρ), P.su a b n t x d u a' b' n' t' x' d' u' k = k v := by
 refine ⟨decide (a = a' ∧ b = b') && ((n == n') && ((t == t') && ((x == x') && ((d == d') && (u == u'))))), fun k => ?_, fun k => ?_⟩
 ·rw [P.amc]; unfold P.af5
  rw [w9 _ _ _ _ ha hb]
  cases decide (a = a' ∧ b = b') <;> cases (n == n') <;> cases (t == t') <;> cases (x == x') <;> cases (d == d') <;> simp
 ·rw [P.aj1]; unfold P.af2
  rw [ab6 _ _ _ _ ha hb]
  cases decide (a = a' ∧ b = b') <;> cases (n == n') <;> cases (t == t') <;> cases (x == x') <;> cases (d == d') <;> simp
theorem LeaseTells (x0_0 : List Int) (x0_1 : List Int) (x1 : Int) (x2 : Int) (x3_Store_0 : List Int) (x3_Store_1 : List Int) (x3_Leaves : Int) (x3_Batch : Int) (x3_Next : Int) (x3_Bound : Int) (x3_Up : Bool) (x4_Kind : Int) (x4_Tear : Int) (x4_Junk : List Int) (nx0_0 : x0_0.length ≤ 140737488355328) (wx0_0 : ∀ x, x ∈ x0_0 → wfI .u8 x) (nx0_1 : x0_1.length ≤ 140737488355328) (wx0_1 : ∀ x, x ∈ x0_1 → wfI .u8 x) (wx1 : wfI .u64 x1) (wx2 : wfI .u64 x2) (nx3_Store_0 : x3_Store_0.length ≤ 140737488355328) (wx3_Store_0 : ∀ x, x ∈ x3_Store_0 → wfI .u8 x) (nx3_Store_1 : x3_Store_1.length ≤ 140737488355328) (wx3_Store_1 : ∀ x, x ∈ x3_Store_1 → wfI .u8 x) (wx3_Leaves : wfI .u64 x3_Leaves) (wx3_Batch : wfI .u64 x3_Batch) (wx3_Next : wfI .u64 x3_Next) (wx3_Bound : wfI .u64 x3_Bound) (wx4_Kind : wfI .i64 x4_Kind) (wx4_Tear : wfI .i64 x4_Tear) (nx4_Junk : x4_Junk.length ≤ 140737488355328) (wx4_Junk : ∀ x, x ∈ x4_Junk → wfI .u8 x) {ρ : Type} (k : Bool → Option ρ) : P.sj x0_0 x0_1 x1 x2 x3_Store_0 x3_Store_1 x3_Leaves x3_Batch x3_Next x3_Bound x3_Up x4_Kind x4_Tear x4_Junk k = k true := by
 rw [P.agl]; unfold P.ac1
 obtain ⟨n0, hn0, rfl⟩ := anb wx1
 obtain ⟨t0, ht0, rfl⟩ := anb wx2
 obtain ⟨n, hn, rfl⟩ := anb wx3_Leaves
 obtain ⟨t, ht, rfl⟩ := anb wx3_Batch
 obtain ⟨x, hx, rfl⟩ := anb wx3_Next
 obtain ⟨d, hd, rfl⟩ := anb wx3_Bound
 obtain ⟨v, hv, hf⟩ := asu x0_0 x0_1 1 [x4_Kind] [x4_Tear] [x4_Junk]
 rw [hf]
 by_cases h1 : v = true
 ·obtain ⟨f1, f2, f3, f4⟩ := hv h1
  have f5 : x4_Junk.length ≤ 300 := f4 0 (by omega)
  obtain ⟨v2, hv2, hf2⟩ := asu x3_Store_0 x3_Store_1 0 [] [] []
  rw [h1, qp, qz, hf2]
  by_cases h2 : v2 = true
  ·obtain ⟨_, b2, b3, _⟩ := hv2 h2
   have w : Lwf ⟨x3_Store_0, x3_Store_1, n, t, x, d, x3_Up⟩ := { a := aye wx3_Store_0, b := aye wx3_Store_1, na := by simp only; omega, nb := by simp only; omega, n := hn, t := ht, x := hx, d := hd }
   obtain ⟨o1, o2⟩ := bck (a := x0_0) (b := x0_1) (by omega) (by omega) n0 t0
   obtain ⟨c1, c2⟩ := bck (a := ac2 0 0) (b := ac2 0 0) (by rw [um]; omega) (by rw [um]; omega) n0 t0
   rw [h2, qp, qz, je x0_0 x0_1 n0 t0 (aye wx0_0) (aye wx0_1) (by omega) (by omega)]
   simp only [lsK]
   rw [uz x0_0 x0_1 n0 t0 (aye wx0_0) (aye wx0_1) (by omega) (by omega)]
   simp only [lsK]
   rw [xq]
   simp only [lsK]
   rw [afp]
   simp only [lsK]
   rw [su _ (by omega) (by omega), qp, qz, iq rfl, su _ (by omega) (by omega), qp, qz, iq rfl]
   obtain ⟨m, m1, m2⟩ := zh (opn x0_0 x0_1 n0 t0).1.a (opn x0_0 x0_1 n0 t0).1.b (opn x0_0 x0_1 n0 t0).1.n (opn x0_0 x0_1 n0 t0).1.t (opn x0_0 x0_1 n0 t0).1.x (opn x0_0 x0_1 n0 t0).1.d (opn x0_0 x0_1 n0 t0).1.up x3_Store_0 x3_Store_1 n t x d x3_Up (by omega) (by omega)
   rw [m1, m2, show (!(m == m)) = false by cases m <;> rfl, om]
   obtain ⟨u, hu, hg⟩ := ba2 _ w
   simp only at hg
   rw [hg]
   by_cases h3 : u = true
   ·obtain ⟨g1, g2⟩ := hu h3
    have r1 := (bgo g1).1.wf
    have r2 := (bgh g1 g2).1.wf
    obtain ⟨r3, _, r4⟩ := bd7 g1 g2 x4_Kind x4_Tear x4_Junk (aye wx4_Junk) (by omega)
    have r3 := r3.wf
    have a1 := fun (k : List Int → List Int → Int → Int → Int → Int → Bool → Int → Option ρ) => o9 _ g1 k
    have a2 := fun (k : List Int → List Int → Int → Int → Int → Int → Bool → Int → Option ρ) => mq _ g1 k
    have a3 := fun (k : List Int → List Int → Int → Int → Int → Int → Bool → Int → Int → Option ρ) => qy _ g1 k
    have a4 := fun (k : List Int → List Int → Int → Int → Int → Int → Bool → Int → Int → Option ρ) => zw _ g1 k
    have a5 := fun (k : List Int → List Int → Int → Int → Int → Int → Bool → List Int → Int → Option ρ) => zq _ g1 x4_Kind x4_Tear x4_Junk (by omega) k
    have a6 := fun (k : List Int → List Int → Int → Int → Int → Int → Bool → List Int → Int → Option ρ) => aip _ g1 x4_Kind x4_Tear x4_Junk (by omega) k
    simp only at a1 a2 a3 a4 a5 a6
    rw [h3, qp, qz, a1]
    simp only [lsK]
    rw [a2]
    simp only [lsK]
    rw [a3]
    simp only [lsK]
    rw [a4]
    simp only [lsK]
    rw [a5]
    simp only [lsK]
    rw [a6]
    simp only [lsK]
    rw [su _ (by have := r1.na; omega) (by have := r1.nb; omega), qz, d9 rfl, su _ (by have := r2.na; omega) (by have := r2.nb; omega), qz, d9 rfl, d9 rfl, su _ (by have := r3.na; omega) (by have := r3.nb; omega), qz, tu _ _ (by rw [bjl]; omega), dh rfl, d9 rfl, uh]
   ·rw [show u = false by simpa using h3, qp, om, uh]
  ·rw [show v2 = false by simpa using h2, qp, om, uh]
 ·rw [show v = false by simpa using h1, qp, om, uh]
end Q
