/-
  WotsTells, part I: an interpreter of my own over abstract values, the pure functions, the walks and the plain law.
-/

import Derived.Test.YtjhnljhjpnjieaaDoorWotsTellsF
import Derived.Test.YtjhnljhjpnjieaaDoorWotsTellsH
import Derived.Test.YtjhnljhjpnjieaaDoorWotsTellsG

section
open Go Go.Abs
set_option linter.unusedVariables false
namespace P
noncomputable def R07_Sum_raw {ρ : Type} (a0 : Int) (a1 : List Int) (k : (List Int) → Int → Option ρ) : Option ρ :=
 R07_New a0 fun (q0 : Int) (q1 q2 : List Int) (q3 q4 : Int) =>
 br (q4 != (0 : Int)) (k [] q4)
  (R07_Add q0 q1 q2 q3 a1 fun (q5 : Int) (q6 q7 : List Int) (q8 : Int) =>
   R07_End q5 q6 q7 q8 fun (q9 : List Int) => k q9 (0 : Int))
noncomputable def R07_Sum {ρ : Type} := shut (R07_Sum_raw (ρ := ρ))
theorem R07_Sum_eq {ρ : Type} (a0 : Int) (a1 : List Int) (k : (List Int) → Int → Option ρ) : R07_Sum a0 a1 k = R07_Sum_raw a0 a1 k := by unfold R07_Sum; rw [shut_eq]
end P
end

section
open Go Go.Abs
set_option linter.unusedVariables false
namespace P
noncomputable def R08_Rate_raw {ρ : Type} (a0 : Int) (k : Int → Option ρ) : Option ρ :=
 br (a0 == (4 : Int))
 (br (a0 == (4 : Int)) (k (136 : Int))
  (br (a0 == (5 : Int)) (k (72 : Int)) (br (a0 == (6 : Int)) (k (168 : Int)) (k (0 : Int)))))
 (br (a0 == (7 : Int)) (k (136 : Int))
  (br (a0 == (5 : Int)) (k (72 : Int)) (br (a0 == (6 : Int)) (k (168 : Int)) (k (0 : Int)))))
noncomputable def R08_Rate {ρ : Type} := shut (R08_Rate_raw (ρ := ρ))
theorem R08_Rate_eq {ρ : Type} (a0 : Int) (k : Int → Option ρ) : R08_Rate a0 k = R08_Rate_raw a0 k := by unfold R08_Rate; rw [shut_eq]
end P
end

section
open Go Go.Abs
set_option linter.unusedVariables false
namespace P
noncomputable def R08_New_raw {ρ : Type} (a0 : Int) (k : Int → (List Int) → Int → Bool → Int → Option ρ) : Option ρ :=
 R08_Rate a0 fun (q0 : Int) =>
 br (q0 == (0 : Int))
  (k (0 : Int)
   [(0 : Int), (0 : Int), (0 : Int), (0 : Int), (0 : Int), (0 : Int), (0 : Int), (0 : Int), (0 : Int), (0 : Int),
    (0 : Int), (0 : Int), (0 : Int), (0 : Int), (0 : Int), (0 : Int), (0 : Int), (0 : Int), (0 : Int), (0 : Int),
    (0 : Int), (0 : Int), (0 : Int), (0 : Int), (0 : Int)]
   (0 : Int) false (9 : Int))
  (k a0
   [(0 : Int), (0 : Int), (0 : Int), (0 : Int), (0 : Int), (0 : Int), (0 : Int), (0 : Int), (0 : Int), (0 : Int),
    (0 : Int), (0 : Int), (0 : Int), (0 : Int), (0 : Int), (0 : Int), (0 : Int), (0 : Int), (0 : Int), (0 : Int),
    (0 : Int), (0 : Int), (0 : Int), (0 : Int), (0 : Int)]
   (0 : Int) false (0 : Int))
noncomputable def R08_New {ρ : Type} := shut (R08_New_raw (ρ := ρ))
theorem R08_New_eq {ρ : Type} (a0 : Int) (k : Int → (List Int) → Int → Bool → Int → Option ρ) : R08_New a0 k = R08_New_raw a0 k := by unfold R08_New; rw [shut_eq]
end P
end

section
open Go Go.Abs
set_option linter.unusedVariables false
namespace P
noncomputable def R08_constants_r4 {ρ : Type} (v2 : Int) (v3 : Int) (h0_0 : List Int) (h1_0 : List Int) (nx : Int → Int → (List Int) → (List Int) → Option ρ) (k0 : Int → Int → (List Int) → (List Int) → Option ρ) : Option ρ :=
 br (decide (v3 < (168 : Int)))
 (br (bits BinOp.and IntKind.u64 v2 (1 : Int) == (1 : Int))
  (br (decide ((0 : Int) ≤ IntKind.i64.wrap (v3.tdiv (7 : Int))))
   (br (decide (IntKind.i64.wrap (v3.tdiv (7 : Int)) < (↑24 : Int)))
    (br (decide (v3.tmod (7 : Int) < (0 : Int))) none
     (br
      (decide
       (IntKind.u64.wrap
         (IntKind.u64.wrap ((1 : Int) * (2 : Int) ^ min (v3.tmod (7 : Int)).toNat 64) - (1 : Int)) <
        (0 : Int)))
      none
      (br (decide ((0 : Int) ≤ IntKind.i64.wrap (v3.tdiv (7 : Int))))
       (br (decide (IntKind.i64.wrap (v3.tdiv (7 : Int)) < (↑24 : Int)))
        (br (decide (IntKind.u64.wrap (v2 * (2 : Int)) ≥ (256 : Int)))
         (nx
          (bits BinOp.xor IntKind.u64
           (bits BinOp.and IntKind.u64 (IntKind.u64.wrap (v2 * (2 : Int))) (255 : Int)) (113 : Int))
          (IntKind.i64.wrap (v3 + (1 : Int))) h0_0
          (h1_0.set (IntKind.i64.wrap (v3.tdiv (7 : Int))).toNat
           (bits BinOp.or IntKind.u64 (h1_0.getD (IntKind.i64.wrap (v3.tdiv (7 : Int))).toNat (0 : Int))
            (IntKind.u64.wrap
             ((1 : Int) *
              (2 : Int) ^
               min
                (IntKind.u64.wrap
                  (IntKind.u64.wrap
                    ((1 : Int) * (2 : Int) ^ min (v3.tmod (7 : Int)).toNat 64) -
                   (1 : Int))).toNat
                64)))))
         (nx (IntKind.u64.wrap (v2 * (2 : Int))) (IntKind.i64.wrap (v3 + (1 : Int))) h0_0
          (h1_0.set (IntKind.i64.wrap (v3.tdiv (7 : Int))).toNat
           (bits BinOp.or IntKind.u64 (h1_0.getD (IntKind.i64.wrap (v3.tdiv (7 : Int))).toNat (0 : Int))
            (IntKind.u64.wrap
             ((1 : Int) *
              (2 : Int) ^
               min
                (IntKind.u64.wrap
                  (IntKind.u64.wrap
                    ((1 : Int) * (2 : Int) ^ min (v3.tmod (7 : Int)).toNat 64) -
                   (1 : Int))).toNat
                64))))))
        none)
       none)))
    none)
   none)
  (br (decide (IntKind.u64.wrap (v2 * (2 : Int)) ≥ (256 : Int)))
   (nx
    (bits BinOp.xor IntKind.u64 (bits BinOp.and IntKind.u64 (IntKind.u64.wrap (v2 * (2 : Int))) (255 : Int))
     (113 : Int))
    (IntKind.i64.wrap (v3 + (1 : Int))) h0_0 h1_0)
   (nx (IntKind.u64.wrap (v2 * (2 : Int))) (IntKind.i64.wrap (v3 + (1 : Int))) h0_0 h1_0)))
 (k0 v2 v3 h0_0 h1_0)
noncomputable def R08_constants_L4 {ρ : Type} (v2 : Int) (v3 : Int) (h0_0 : List Int) (h1_0 : List Int) (k0 : Int → Int → (List Int) → (List Int) → Option ρ) : Option ρ :=
 lp (fun (x : Int × Int × (List Int) × (List Int)) next (ex : (Int × Int × (List Int) × (List Int)) → Option ρ) => R08_constants_r4 x.1 x.2.1 x.2.2.1 x.2.2.2 (fun v2 v3 h0_0 h1_0 => next (v2, v3, h0_0, h1_0)) (fun v2 v3 h0_0 h1_0 => ex (v2, v3, h0_0, h1_0))) (v2, v3, h0_0, h1_0) (fun x => k0 x.1 x.2.1 x.2.2.1 x.2.2.2)
noncomputable def R08_constants_l4 {ρ : Type} := shut (R08_constants_L4 (ρ := ρ))
theorem R08_constants_l4_eq {ρ : Type} : R08_constants_l4 (ρ := ρ) = R08_constants_L4 := shut_eq _
noncomputable def R08_constants_raw {ρ : Type}  (k : (List Int) → Option ρ) : Option ρ :=
 R08_constants_l4 (1 : Int) (0 : Int)
 [(0 : Int), (0 : Int), (0 : Int), (0 : Int), (0 : Int), (0 : Int), (0 : Int), (0 : Int), (0 : Int), (0 : Int),
  (0 : Int), (0 : Int), (0 : Int), (0 : Int), (0 : Int), (0 : Int), (0 : Int), (0 : Int), (0 : Int), (0 : Int),
  (0 : Int), (0 : Int), (0 : Int), (0 : Int)]
 [(0 : Int), (0 : Int), (0 : Int), (0 : Int), (0 : Int), (0 : Int), (0 : Int), (0 : Int), (0 : Int), (0 : Int),
  (0 : Int), (0 : Int), (0 : Int), (0 : Int), (0 : Int), (0 : Int), (0 : Int), (0 : Int), (0 : Int), (0 : Int),
  (0 : Int), (0 : Int), (0 : Int), (0 : Int)]
 fun (q0 q1 : Int) (q2 q3 : List Int) => k q3
noncomputable def R08_constants {ρ : Type} := shut (R08_constants_raw (ρ := ρ))
theorem R08_constants_eq {ρ : Type}  (k : (List Int) → Option ρ) : R08_constants  k = R08_constants_raw  k := by unfold R08_constants; rw [shut_eq]
end P
end

section
open Go Go.Abs
set_option linter.unusedVariables false
namespace P
noncomputable def R08_left_raw {ρ : Type} (a0 : Int) (a1 : Int) (k : Int → Option ρ) : Option ρ :=
 br (decide (a1.tmod (64 : Int) < (0 : Int))) none
 (br (decide (IntKind.i64.wrap ((64 : Int) - a1.tmod (64 : Int)) < (0 : Int))) none
  (k
   (bits BinOp.or IntKind.u64 (IntKind.u64.wrap (a0 * (2 : Int) ^ min (a1.tmod (64 : Int)).toNat 64))
    (a0.fdiv ((2 : Int) ^ min (IntKind.i64.wrap ((64 : Int) - a1.tmod (64 : Int))).toNat 64)))))
noncomputable def R08_left {ρ : Type} := shut (R08_left_raw (ρ := ρ))
theorem R08_left_eq {ρ : Type} (a0 : Int) (a1 : Int) (k : Int → Option ρ) : R08_left a0 a1 k = R08_left_raw a0 a1 k := by unfold R08_left; rw [shut_eq]
end P
end

section
open Go Go.Abs
set_option linter.unusedVariables false
namespace P
noncomputable def R08_move_r6 {ρ : Type} (v4 : Int) (v5 : Int) (v6 : Int) (h0_0 : List Int) (h1_0 : List Int) (h2_0 : List Int) (nx : Int → Int → Int → (List Int) → (List Int) → (List Int) → Option ρ) (k0 : Int → Int → Int → (List Int) → (List Int) → (List Int) → Option ρ) : Option ρ :=
 br (decide (v6 < (24 : Int)))
 (br (decide ((0 : Int) ≤ IntKind.i64.wrap (v4 + IntKind.i64.wrap ((5 : Int) * v5))))
  (br (decide (IntKind.i64.wrap (v4 + IntKind.i64.wrap ((5 : Int) * v5)) < (↑25 : Int)))
   (R08_left (h0_0.getD (IntKind.i64.wrap (v4 + IntKind.i64.wrap ((5 : Int) * v5))).toNat (0 : Int))
    (IntKind.i64.wrap
     ((IntKind.i64.wrap (IntKind.i64.wrap (v6 + (1 : Int)) * IntKind.i64.wrap (v6 + (2 : Int)))).tdiv (2 : Int)))
    fun (q0 : Int) =>
    br
     (decide
      ((0 : Int) ≤
       IntKind.i64.wrap
        (v5 +
         IntKind.i64.wrap
          ((5 : Int) *
           (IntKind.i64.wrap (IntKind.i64.wrap ((2 : Int) * v4) + IntKind.i64.wrap ((3 : Int) * v5))).tmod
            (5 : Int)))))
     (br
      (decide
       (IntKind.i64.wrap
         (v5 +
          IntKind.i64.wrap
           ((5 : Int) *
            (IntKind.i64.wrap (IntKind.i64.wrap ((2 : Int) * v4) + IntKind.i64.wrap ((3 : Int) * v5))).tmod
             (5 : Int))) <
        (↑25 : Int)))
      (nx v5
       ((IntKind.i64.wrap (IntKind.i64.wrap ((2 : Int) * v4) + IntKind.i64.wrap ((3 : Int) * v5))).tmod
        (5 : Int))
       (IntKind.i64.wrap (v6 + (1 : Int))) h0_0 h1_0
       (h2_0.set
        (IntKind.i64.wrap
          (v5 +
           IntKind.i64.wrap
            ((5 : Int) *
             (IntKind.i64.wrap
                (IntKind.i64.wrap ((2 : Int) * v4) + IntKind.i64.wrap ((3 : Int) * v5))).tmod
              (5 : Int)))).toNat
        q0))
      none)
     none)
   none)
  none)
 (k0 v4 v5 v6 h0_0 h1_0 h2_0)
noncomputable def R08_move_L6 {ρ : Type} (v4 : Int) (v5 : Int) (v6 : Int) (h0_0 : List Int) (h1_0 : List Int) (h2_0 : List Int) (k0 : Int → Int → Int → (List Int) → (List Int) → (List Int) → Option ρ) : Option ρ :=
 lp (fun (x : Int × Int × Int × (List Int) × (List Int) × (List Int)) next (ex : (Int × Int × Int × (List Int) × (List Int) × (List Int)) → Option ρ) => R08_move_r6 x.1 x.2.1 x.2.2.1 x.2.2.2.1 x.2.2.2.2.1 x.2.2.2.2.2 (fun v4 v5 v6 h0_0 h1_0 h2_0 => next (v4, v5, v6, h0_0, h1_0, h2_0)) (fun v4 v5 v6 h0_0 h1_0 h2_0 => ex (v4, v5, v6, h0_0, h1_0, h2_0))) (v4, v5, v6, h0_0, h1_0, h2_0) (fun x => k0 x.1 x.2.1 x.2.2.1 x.2.2.2.1 x.2.2.2.2.1 x.2.2.2.2.2)
noncomputable def R08_move_l6 {ρ : Type} := shut (R08_move_L6 (ρ := ρ))
theorem R08_move_l6_eq {ρ : Type} : R08_move_l6 (ρ := ρ) = R08_move_L6 := shut_eq _
noncomputable def R08_move_raw {ρ : Type} (a0 : List Int) (k : (List Int) → Option ρ) : Option ρ :=
 R08_move_l6 (1 : Int) (0 : Int) (0 : Int) a0
 [(0 : Int), (0 : Int), (0 : Int), (0 : Int), (0 : Int), (0 : Int), (0 : Int), (0 : Int), (0 : Int), (0 : Int),
  (0 : Int), (0 : Int), (0 : Int), (0 : Int), (0 : Int), (0 : Int), (0 : Int), (0 : Int), (0 : Int), (0 : Int),
  (0 : Int), (0 : Int), (0 : Int), (0 : Int), (0 : Int)]
 ([(0 : Int), (0 : Int), (0 : Int), (0 : Int), (0 : Int), (0 : Int), (0 : Int), (0 : Int), (0 : Int), (0 : Int),
    (0 : Int), (0 : Int), (0 : Int), (0 : Int), (0 : Int), (0 : Int), (0 : Int), (0 : Int), (0 : Int), (0 : Int),
    (0 : Int), (0 : Int), (0 : Int), (0 : Int), (0 : Int)].set
  0 (a0.getD 0 (0 : Int)))
 fun (q0 q1 q2 : Int) (q3 q4 q5 : List Int) => k q5
noncomputable def R08_move {ρ : Type} := shut (R08_move_raw (ρ := ρ))
theorem R08_move_eq {ρ : Type} (a0 : List Int) (k : (List Int) → Option ρ) : R08_move a0 k = R08_move_raw a0 k := by unfold R08_move; rw [shut_eq]
end P
end

section
open Go Go.Abs
set_option linter.unusedVariables false
namespace P
noncomputable def R08_spread_r3 {ρ : Type} (v4 : Int) (h0_0 : List Int) (h1_0 : List Int) (h2_0 : List Int) (nx : Int → (List Int) → (List Int) → (List Int) → Option ρ) (k0 : Int → (List Int) → (List Int) → (List Int) → Option ρ) : Option ρ :=
 br (decide (v4 < (25 : Int)))
 (br (decide ((0 : Int) ≤ v4.tmod (5 : Int)))
  (br (decide (v4.tmod (5 : Int) < (↑5 : Int)))
   (br (decide ((0 : Int) ≤ v4))
    (br (decide (v4 < (↑25 : Int)))
     (br (decide ((0 : Int) ≤ v4.tmod (5 : Int)))
      (br (decide (v4.tmod (5 : Int) < (↑5 : Int)))
       (nx (IntKind.i64.wrap (v4 + (1 : Int))) h0_0 h1_0
        (h2_0.set (v4.tmod (5 : Int)).toNat
         (bits BinOp.xor IntKind.u64 (h2_0.getD (v4.tmod (5 : Int)).toNat (0 : Int))
          (h0_0.getD v4.toNat (0 : Int)))))
       none)
      none)
     none)
    none)
   none)
  none)
 (k0 v4 h0_0 h1_0 h2_0)
noncomputable def R08_spread_L3 {ρ : Type} (v4 : Int) (h0_0 : List Int) (h1_0 : List Int) (h2_0 : List Int) (k0 : Int → (List Int) → (List Int) → (List Int) → Option ρ) : Option ρ :=
 lp (fun (x : Int × (List Int) × (List Int) × (List Int)) next (ex : (Int × (List Int) × (List Int) × (List Int)) → Option ρ) => R08_spread_r3 x.1 x.2.1 x.2.2.1 x.2.2.2 (fun v4 h0_0 h1_0 h2_0 => next (v4, h0_0, h1_0, h2_0)) (fun v4 h0_0 h1_0 h2_0 => ex (v4, h0_0, h1_0, h2_0))) (v4, h0_0, h1_0, h2_0) (fun x => k0 x.1 x.2.1 x.2.2.1 x.2.2.2)
noncomputable def R08_spread_l3 {ρ : Type} := shut (R08_spread_L3 (ρ := ρ))
theorem R08_spread_l3_eq {ρ : Type} : R08_spread_l3 (ρ := ρ) = R08_spread_L3 := shut_eq _
noncomputable def R08_spread_r7 {ρ : Type} (v5 : Int) (h2_0 : List Int) (h1_0 : List Int) (h0_0 : List Int) (nx : Int → (List Int) → (List Int) → (List Int) → Option ρ) (k0 : Int → (List Int) → (List Int) → (List Int) → Option ρ) : Option ρ :=
 br (decide (v5 < (25 : Int)))
 (br (decide ((0 : Int) ≤ v5))
  (br (decide (v5 < (↑25 : Int)))
   (br (decide ((0 : Int) ≤ (IntKind.i64.wrap (v5 + (4 : Int))).tmod (5 : Int)))
    (br (decide ((IntKind.i64.wrap (v5 + (4 : Int))).tmod (5 : Int) < (↑5 : Int)))
     (br (decide ((0 : Int) ≤ (IntKind.i64.wrap (v5 + (1 : Int))).tmod (5 : Int)))
      (br (decide ((IntKind.i64.wrap (v5 + (1 : Int))).tmod (5 : Int) < (↑5 : Int)))
       (R08_left (h2_0.getD ((IntKind.i64.wrap (v5 + (1 : Int))).tmod (5 : Int)).toNat (0 : Int)) (1 : Int)
        fun (q0 : Int) =>
        br (decide ((0 : Int) ≤ v5))
         (br (decide (v5 < (↑25 : Int)))
          (nx (IntKind.i64.wrap (v5 + (1 : Int))) h2_0 h1_0
           (h0_0.set v5.toNat
            (bits BinOp.xor IntKind.u64
             (bits BinOp.xor IntKind.u64 (h0_0.getD v5.toNat (0 : Int))
              (h2_0.getD ((IntKind.i64.wrap (v5 + (4 : Int))).tmod (5 : Int)).toNat (0 : Int)))
             q0)))
          none)
         none)
       none)
      none)
     none)
    none)
   none)
  none)
 (k0 v5 h2_0 h1_0 h0_0)
noncomputable def R08_spread_L7 {ρ : Type} (v5 : Int) (h2_0 : List Int) (h1_0 : List Int) (h0_0 : List Int) (k0 : Int → (List Int) → (List Int) → (List Int) → Option ρ) : Option ρ :=
 lp (fun (x : Int × (List Int) × (List Int) × (List Int)) next (ex : (Int × (List Int) × (List Int) × (List Int)) → Option ρ) => R08_spread_r7 x.1 x.2.1 x.2.2.1 x.2.2.2 (fun v5 h2_0 h1_0 h0_0 => next (v5, h2_0, h1_0, h0_0)) (fun v5 h2_0 h1_0 h0_0 => ex (v5, h2_0, h1_0, h0_0))) (v5, h2_0, h1_0, h0_0) (fun x => k0 x.1 x.2.1 x.2.2.1 x.2.2.2)
noncomputable def R08_spread_l7 {ρ : Type} := shut (R08_spread_L7 (ρ := ρ))
theorem R08_spread_l7_eq {ρ : Type} : R08_spread_l7 (ρ := ρ) = R08_spread_L7 := shut_eq _
noncomputable def R08_spread_raw {ρ : Type} (a0 : List Int) (k : (List Int) → Option ρ) : Option ρ :=
 R08_spread_l3 (0 : Int) a0
 [(0 : Int), (0 : Int), (0 : Int), (0 : Int), (0 : Int), (0 : Int), (0 : Int), (0 : Int), (0 : Int), (0 : Int),
  (0 : Int), (0 : Int), (0 : Int), (0 : Int), (0 : Int), (0 : Int), (0 : Int), (0 : Int), (0 : Int), (0 : Int),
  (0 : Int), (0 : Int), (0 : Int), (0 : Int), (0 : Int)]
 [(0 : Int), (0 : Int), (0 : Int), (0 : Int), (0 : Int)] fun (q0 : Int) (q1 q2 q3 : List Int) =>
 R08_spread_l7 (0 : Int) q3 q2 q1 fun (q4 : Int) (q5 q6 q7 : List Int) => k q7
noncomputable def R08_spread {ρ : Type} := shut (R08_spread_raw (ρ := ρ))
theorem R08_spread_eq {ρ : Type} (a0 : List Int) (k : (List Int) → Option ρ) : R08_spread a0 k = R08_spread_raw a0 k := by unfold R08_spread; rw [shut_eq]
end P
end

section
open Go Go.Abs
set_option linter.unusedVariables false
namespace P
noncomputable def R08_Permute_r7 {ρ : Type} (v4 : Int) (v6 : Int) (h2_0 : List Int) (h1_0 : List Int) (h0_0 : List Int) (h3_0 : List Int) (nx : Int → Int → (List Int) → (List Int) → (List Int) → (List Int) → Option ρ) (k0 : Int → Int → (List Int) → (List Int) → (List Int) → (List Int) → Option ρ) : Option ρ :=
 br (decide (v6 < (25 : Int)))
 (br (decide ((0 : Int) ≤ v6))
  (br (decide (v6 < (↑25 : Int)))
   (br
    (decide
     ((0 : Int) ≤
      IntKind.i64.wrap
       (IntKind.i64.wrap (IntKind.i64.wrap (v6.tdiv (5 : Int)) * (5 : Int)) +
        (IntKind.i64.wrap (v6 + (1 : Int))).tmod (5 : Int))))
    (br
     (decide
      (IntKind.i64.wrap
        (IntKind.i64.wrap (IntKind.i64.wrap (v6.tdiv (5 : Int)) * (5 : Int)) +
         (IntKind.i64.wrap (v6 + (1 : Int))).tmod (5 : Int)) <
       (↑25 : Int)))
     (br
      (decide
       ((0 : Int) ≤
        IntKind.i64.wrap
         (IntKind.i64.wrap (IntKind.i64.wrap (v6.tdiv (5 : Int)) * (5 : Int)) +
          (IntKind.i64.wrap (v6 + (2 : Int))).tmod (5 : Int))))
      (br
       (decide
        (IntKind.i64.wrap
          (IntKind.i64.wrap (IntKind.i64.wrap (v6.tdiv (5 : Int)) * (5 : Int)) +
           (IntKind.i64.wrap (v6 + (2 : Int))).tmod (5 : Int)) <
         (↑25 : Int)))
       (br (decide ((0 : Int) ≤ v6))
        (br (decide (v6 < (↑25 : Int)))
         (nx v4 (IntKind.i64.wrap (v6 + (1 : Int))) h2_0 h1_0
          (h0_0.set v6.toNat
           (bits BinOp.xor IntKind.u64 (h3_0.getD v6.toNat (0 : Int))
            (bits BinOp.and IntKind.u64
             (bits BinOp.xor IntKind.u64
              (h3_0.getD
               (IntKind.i64.wrap
                 (IntKind.i64.wrap (IntKind.i64.wrap (v6.tdiv (5 : Int)) * (5 : Int)) +
                  (IntKind.i64.wrap (v6 + (1 : Int))).tmod (5 : Int))).toNat
               (0 : Int))
              (18446744073709551615 : Int))
             (h3_0.getD
              (IntKind.i64.wrap
                (IntKind.i64.wrap (IntKind.i64.wrap (v6.tdiv (5 : Int)) * (5 : Int)) +
                 (IntKind.i64.wrap (v6 + (2 : Int))).tmod (5 : Int))).toNat
              (0 : Int)))))
          h3_0)
         none)
        none)
       none)
      none)
     none)
    none)
   none)
  none)
 (k0 v4 v6 h2_0 h1_0 h0_0 h3_0)
noncomputable def R08_Permute_L7 {ρ : Type} (v4 : Int) (v6 : Int) (h2_0 : List Int) (h1_0 : List Int) (h0_0 : List Int) (h3_0 : List Int) (k0 : Int → Int → (List Int) → (List Int) → (List Int) → (List Int) → Option ρ) : Option ρ :=
 lp (fun (x : Int × Int × (List Int) × (List Int) × (List Int) × (List Int)) next (ex : (Int × Int × (List Int) × (List Int) × (List Int) × (List Int)) → Option ρ) => R08_Permute_r7 x.1 x.2.1 x.2.2.1 x.2.2.2.1 x.2.2.2.2.1 x.2.2.2.2.2 (fun v4 v6 h2_0 h1_0 h0_0 h3_0 => next (v4, v6, h2_0, h1_0, h0_0, h3_0)) (fun v4 v6 h2_0 h1_0 h0_0 h3_0 => ex (v4, v6, h2_0, h1_0, h0_0, h3_0))) (v4, v6, h2_0, h1_0, h0_0, h3_0) (fun x => k0 x.1 x.2.1 x.2.2.1 x.2.2.2.1 x.2.2.2.2.1 x.2.2.2.2.2)
noncomputable def R08_Permute_l7 {ρ : Type} := shut (R08_Permute_L7 (ρ := ρ))
theorem R08_Permute_l7_eq {ρ : Type} : R08_Permute_l7 (ρ := ρ) = R08_Permute_L7 := shut_eq _
noncomputable def R08_Permute_r3 {ρ : Type} (v4 : Int) (h0_0 : List Int) (h1_0 : List Int) (h2_0 : List Int) (nx : Int → (List Int) → (List Int) → (List Int) → Option ρ) (k0 : Int → (List Int) → (List Int) → (List Int) → Option ρ) : Option ρ :=
 br (decide (v4 < (24 : Int)))
 (R08_spread h0_0 fun (q0 : List Int) =>
  R08_move q0 fun (q1 : List Int) =>
   R08_Permute_l7 v4 (0 : Int) h2_0 h1_0 h0_0 q1 fun (q2 q3 : Int) (q4 q5 q6 q7 : List Int) =>
    br (decide ((0 : Int) ≤ q2))
     (br (decide (q2 < (↑24 : Int)))
      (nx (IntKind.i64.wrap (q2 + (1 : Int)))
       (q6.set 0
        (bits BinOp.xor IntKind.u64 (q6.getD 0 (0 : Int)) (q4.getD q2.toNat (0 : Int))))
       q5 q4)
      none)
     none)
 (k0 v4 h0_0 h1_0 h2_0)
noncomputable def R08_Permute_L3 {ρ : Type} (v4 : Int) (h0_0 : List Int) (h1_0 : List Int) (h2_0 : List Int) (k0 : Int → (List Int) → (List Int) → (List Int) → Option ρ) : Option ρ :=
 lp (fun (x : Int × (List Int) × (List Int) × (List Int)) next (ex : (Int × (List Int) × (List Int) × (List Int)) → Option ρ) => R08_Permute_r3 x.1 x.2.1 x.2.2.1 x.2.2.2 (fun v4 h0_0 h1_0 h2_0 => next (v4, h0_0, h1_0, h2_0)) (fun v4 h0_0 h1_0 h2_0 => ex (v4, h0_0, h1_0, h2_0))) (v4, h0_0, h1_0, h2_0) (fun x => k0 x.1 x.2.1 x.2.2.1 x.2.2.2)
noncomputable def R08_Permute_l3 {ρ : Type} := shut (R08_Permute_L3 (ρ := ρ))
theorem R08_Permute_l3_eq {ρ : Type} : R08_Permute_l3 (ρ := ρ) = R08_Permute_L3 := shut_eq _
noncomputable def R08_Permute_raw {ρ : Type} (a0 : List Int) (k : (List Int) → Option ρ) : Option ρ :=
 R08_constants fun (q0 : List Int) =>
 R08_Permute_l3 (0 : Int) a0
  [(0 : Int), (0 : Int), (0 : Int), (0 : Int), (0 : Int), (0 : Int), (0 : Int), (0 : Int), (0 : Int), (0 : Int),
   (0 : Int), (0 : Int), (0 : Int), (0 : Int), (0 : Int), (0 : Int), (0 : Int), (0 : Int), (0 : Int), (0 : Int),
   (0 : Int), (0 : Int), (0 : Int), (0 : Int), (0 : Int)]
  q0 fun (q1 : Int) (q2 q3 q4 : List Int) => k q2
noncomputable def R08_Permute {ρ : Type} := shut (R08_Permute_raw (ρ := ρ))
theorem R08_Permute_eq {ρ : Type} (a0 : List Int) (k : (List Int) → Option ρ) : R08_Permute a0 k = R08_Permute_raw a0 k := by unfold R08_Permute; rw [shut_eq]
end P
end

section
open Go Go.Abs
set_option linter.unusedVariables false
namespace P
noncomputable def R08_put_raw {ρ : Type} (a0 : List Int) (a1 : Int) (a2 : Int) (k : (List Int) → Option ρ) : Option ρ :=
 br (decide ((0 : Int) ≤ IntKind.i64.wrap (a1.tdiv (8 : Int))))
 (br (decide (IntKind.i64.wrap (a1.tdiv (8 : Int)) < (↑25 : Int)))
  (br (decide (IntKind.i64.wrap ((8 : Int) * a1.tmod (8 : Int)) < (0 : Int))) none
   (br (decide ((0 : Int) ≤ IntKind.i64.wrap (a1.tdiv (8 : Int))))
    (br (decide (IntKind.i64.wrap (a1.tdiv (8 : Int)) < (↑25 : Int)))
     (k
      (a0.set (IntKind.i64.wrap (a1.tdiv (8 : Int))).toNat
       (bits BinOp.xor IntKind.u64 (a0.getD (IntKind.i64.wrap (a1.tdiv (8 : Int))).toNat (0 : Int))
        (IntKind.u64.wrap
         (IntKind.u64.wrap a2 *
          (2 : Int) ^ min (IntKind.i64.wrap ((8 : Int) * a1.tmod (8 : Int))).toNat 64)))))
     none)
    none))
  none)
 none
noncomputable def R08_put {ρ : Type} := shut (R08_put_raw (ρ := ρ))
theorem R08_put_eq {ρ : Type} (a0 : List Int) (a1 : Int) (a2 : Int) (k : (List Int) → Option ρ) : R08_put a0 a1 a2 k = R08_put_raw a0 a1 a2 k := by unfold R08_put; rw [shut_eq]
end P
end

section
open Go Go.Abs
set_option linter.unusedVariables false
namespace P
noncomputable def R08_Squeeze_r12 {ρ : Type} (v1 : Int) (v6 : Int) (h40 : List Int) (h0_0 : Int) (h0_1 : List Int) (h0_2 : Int) (h0_3 : Bool) (h1_0 : Int) (h1_1 : List Int) (h1_2 : Int) (h1_3 : Bool) (nx : Int → Int → (List Int) → Int → (List Int) → Int → Bool → Int → (List Int) → Int → Bool → Option ρ) (k0 : Int → Int → (List Int) → Int → (List Int) → Int → Bool → Int → (List Int) → Int → Bool → Option ρ) : Option ρ :=
 br (decide ((↑h40.length : Int) < v1))
 (br (h0_2 == v6)
  (R08_Permute h0_1 fun (q0 : List Int) =>
   br
    (decide
     ((h40.length + 1) * 1 ≤
      140737488355328))
    (nx v1 v6 (h40 ++ [IntKind.u8.wrap ((q0.getD 0 (0 : Int)).fdiv ((2 : Int) ^ 0))]) h0_0 q0
     (IntKind.i64.wrap ((0 : Int) + (1 : Int))) h0_3 h1_0 h1_1 h1_2 h1_3)
    none)
  (br (decide ((0 : Int) ≤ IntKind.i64.wrap (h0_2.tdiv (8 : Int))))
   (br (decide (IntKind.i64.wrap (h0_2.tdiv (8 : Int)) < (↑25 : Int)))
    (br (decide (IntKind.i64.wrap ((8 : Int) * h0_2.tmod (8 : Int)) < (0 : Int))) none
     (br
      (decide
       ((h40.length + 1) * 1 ≤
        140737488355328))
      (nx v1 v6
       (h40 ++
        [IntKind.u8.wrap
          ((h0_1.getD (IntKind.i64.wrap (h0_2.tdiv (8 : Int))).toNat (0 : Int)).fdiv
           ((2 : Int) ^ min (IntKind.i64.wrap ((8 : Int) * h0_2.tmod (8 : Int))).toNat 64))])
       h0_0 h0_1 (IntKind.i64.wrap (h0_2 + (1 : Int))) h0_3 h1_0 h1_1 h1_2 h1_3)
      none))
    none)
   none))
 (k0 v1 v6 h40 h0_0 h0_1 h0_2 h0_3 h1_0 h1_1 h1_2 h1_3)
noncomputable def R08_Squeeze_L12 {ρ : Type} (v1 : Int) (v6 : Int) (h40 : List Int) (h0_0 : Int) (h0_1 : List Int) (h0_2 : Int) (h0_3 : Bool) (h1_0 : Int) (h1_1 : List Int) (h1_2 : Int) (h1_3 : Bool) (k0 : Int → Int → (List Int) → Int → (List Int) → Int → Bool → Int → (List Int) → Int → Bool → Option ρ) : Option ρ :=
 lp (fun (x : Int × Int × (List Int) × Int × (List Int) × Int × Bool × Int × (List Int) × Int × Bool) next (ex : (Int × Int × (List Int) × Int × (List Int) × Int × Bool × Int × (List Int) × Int × Bool) → Option ρ) => R08_Squeeze_r12 x.1 x.2.1 x.2.2.1 x.2.2.2.1 x.2.2.2.2.1 x.2.2.2.2.2.1 x.2.2.2.2.2.2.1 x.2.2.2.2.2.2.2.1 x.2.2.2.2.2.2.2.2.1 x.2.2.2.2.2.2.2.2.2.1 x.2.2.2.2.2.2.2.2.2.2 (fun v1 v6 h40 h0_0 h0_1 h0_2 h0_3 h1_0 h1_1 h1_2 h1_3 => next (v1, v6, h40, h0_0, h0_1, h0_2, h0_3, h1_0, h1_1, h1_2, h1_3)) (fun v1 v6 h40 h0_0 h0_1 h0_2 h0_3 h1_0 h1_1 h1_2 h1_3 => ex (v1, v6, h40, h0_0, h0_1, h0_2, h0_3, h1_0, h1_1, h1_2, h1_3))) (v1, v6, h40, h0_0, h0_1, h0_2, h0_3, h1_0, h1_1, h1_2, h1_3) (fun x => k0 x.1 x.2.1 x.2.2.1 x.2.2.2.1 x.2.2.2.2.1 x.2.2.2.2.2.1 x.2.2.2.2.2.2.1 x.2.2.2.2.2.2.2.1 x.2.2.2.2.2.2.2.2.1 x.2.2.2.2.2.2.2.2.2.1 x.2.2.2.2.2.2.2.2.2.2)
noncomputable def R08_Squeeze_l12 {ρ : Type} := shut (R08_Squeeze_L12 (ρ := ρ))
theorem R08_Squeeze_l12_eq {ρ : Type} : R08_Squeeze_l12 (ρ := ρ) = R08_Squeeze_L12 := shut_eq _
noncomputable def R08_Squeeze_raw {ρ : Type} (a0_Kind : Int) (a0_Words : List Int) (a0_At : Int) (a0_Out : Bool) (a1 : Int) (k : Int → (List Int) → Int → Bool → (List Int) → Option ρ) : Option ρ :=
 br (decide (a1 < (0 : Int))) (k a0_Kind a0_Words a0_At a0_Out [])
 (R08_Rate a0_Kind fun (q0 : Int) =>
  br (!a0_Out)
   (br (a0_Kind == (4 : Int))
    (R08_put a0_Words a0_At (6 : Int) fun (q1 : List Int) =>
     R08_put q1 (IntKind.i64.wrap (q0 - (1 : Int))) (128 : Int) fun (q2 : List Int) =>
      R08_Permute q2 fun (q3 : List Int) =>
       R08_Squeeze_l12 a1 q0 [] a0_Kind q3 (0 : Int) true (0 : Int)
        [(0 : Int), (0 : Int), (0 : Int), (0 : Int), (0 : Int), (0 : Int), (0 : Int), (0 : Int), (0 : Int),
         (0 : Int), (0 : Int), (0 : Int), (0 : Int), (0 : Int), (0 : Int), (0 : Int), (0 : Int), (0 : Int),
         (0 : Int), (0 : Int), (0 : Int), (0 : Int), (0 : Int), (0 : Int), (0 : Int)]
        (0 : Int) false
        fun (q4 q5 : Int) (q6 : List Int) (q7 : Int) (q8 : List Int) (q9 : Int) (q10 : Bool) (q11 : Int)
         (q12 : List Int) (q13 : Int) (q14 : Bool) =>
        k q7 q8 q9 q10 q6)
    (br (a0_Kind == (5 : Int))
     (R08_put a0_Words a0_At (6 : Int) fun (q15 : List Int) =>
      R08_put q15 (IntKind.i64.wrap (q0 - (1 : Int))) (128 : Int) fun (q16 : List Int) =>
       R08_Permute q16 fun (q17 : List Int) =>
        R08_Squeeze_l12 a1 q0 [] a0_Kind q17 (0 : Int) true (0 : Int)
         [(0 : Int), (0 : Int), (0 : Int), (0 : Int), (0 : Int), (0 : Int), (0 : Int), (0 : Int), (0 : Int),
          (0 : Int), (0 : Int), (0 : Int), (0 : Int), (0 : Int), (0 : Int), (0 : Int), (0 : Int), (0 : Int),
          (0 : Int), (0 : Int), (0 : Int), (0 : Int), (0 : Int), (0 : Int), (0 : Int)]
         (0 : Int) false
         fun (q18 q19 : Int) (q20 : List Int) (q21 : Int) (q22 : List Int) (q23 : Int) (q24 : Bool) (q25 : Int)
          (q26 : List Int) (q27 : Int) (q28 : Bool) =>
         k q21 q22 q23 q24 q20)
     (R08_put a0_Words a0_At (31 : Int) fun (q29 : List Int) =>
      R08_put q29 (IntKind.i64.wrap (q0 - (1 : Int))) (128 : Int) fun (q30 : List Int) =>
       R08_Permute q30 fun (q31 : List Int) =>
        R08_Squeeze_l12 a1 q0 [] a0_Kind q31 (0 : Int) true (0 : Int)
         [(0 : Int), (0 : Int), (0 : Int), (0 : Int), (0 : Int), (0 : Int), (0 : Int), (0 : Int), (0 : Int),
          (0 : Int), (0 : Int), (0 : Int), (0 : Int), (0 : Int), (0 : Int), (0 : Int), (0 : Int), (0 : Int),
          (0 : Int), (0 : Int), (0 : Int), (0 : Int), (0 : Int), (0 : Int), (0 : Int)]
         (0 : Int) false
         fun (q32 q33 : Int) (q34 : List Int) (q35 : Int) (q36 : List Int) (q37 : Int) (q38 : Bool) (q39 : Int)
          (q40 : List Int) (q41 : Int) (q42 : Bool) =>
         k q35 q36 q37 q38 q34)))
   (R08_Squeeze_l12 a1 q0 [] a0_Kind a0_Words a0_At a0_Out (0 : Int)
    [(0 : Int), (0 : Int), (0 : Int), (0 : Int), (0 : Int), (0 : Int), (0 : Int), (0 : Int), (0 : Int), (0 : Int),
     (0 : Int), (0 : Int), (0 : Int), (0 : Int), (0 : Int), (0 : Int), (0 : Int), (0 : Int), (0 : Int), (0 : Int),
     (0 : Int), (0 : Int), (0 : Int), (0 : Int), (0 : Int)]
    (0 : Int) false
    fun (q43 q44 : Int) (q45 : List Int) (q46 : Int) (q47 : List Int) (q48 : Int) (q49 : Bool) (q50 : Int)
     (q51 : List Int) (q52 : Int) (q53 : Bool) =>
    k q46 q47 q48 q49 q45))
noncomputable def R08_Squeeze {ρ : Type} := shut (R08_Squeeze_raw (ρ := ρ))
theorem R08_Squeeze_eq {ρ : Type} (a0_Kind : Int) (a0_Words : List Int) (a0_At : Int) (a0_Out : Bool) (a1 : Int) (k : Int → (List Int) → Int → Bool → (List Int) → Option ρ) : R08_Squeeze a0_Kind a0_Words a0_At a0_Out a1 k = R08_Squeeze_raw a0_Kind a0_Words a0_At a0_Out a1 k := by unfold R08_Squeeze; rw [shut_eq]
end P
end

section
open Go Go.Abs
set_option linter.unusedVariables false
namespace P
noncomputable def R08_Absorb_r4 {ρ : Type} (v1 : List Int) (v5 : Int) (h0_0 : Int) (h0_1 : List Int) (h0_2 : Int) (h0_3 : Bool) (h1_0 : Int) (h1_1 : List Int) (h1_2 : Int) (h1_3 : Bool) (nx : (List Int) → Int → Int → (List Int) → Int → Bool → Int → (List Int) → Int → Bool → Option ρ) (k0 : (List Int) → Int → Int → (List Int) → Int → Bool → Int → (List Int) → Int → Bool → Option ρ) : Option ρ :=
 br (decide (v5 < (↑v1.length : Int)))
 (br (decide ((0 : Int) ≤ v5))
  (br (decide (v5 < (↑v1.length : Int)))
   (R08_put h0_1 h0_2 (v1.getD v5.toNat (0 : Int)) fun (q0 : List Int) =>
    R08_Rate h0_0 fun (q1 : Int) =>
     br (IntKind.i64.wrap (h0_2 + (1 : Int)) == q1)
      (R08_Permute q0 fun (q2 : List Int) =>
       nx v1 (IntKind.i64.wrap (v5 + (1 : Int))) h0_0 q2 (0 : Int) h0_3 h1_0 h1_1 h1_2 h1_3)
      (nx v1 (IntKind.i64.wrap (v5 + (1 : Int))) h0_0 q0 (IntKind.i64.wrap (h0_2 + (1 : Int))) h0_3 h1_0 h1_1 h1_2
       h1_3))
   none)
  none)
 (k0 v1 v5 h0_0 h0_1 h0_2 h0_3 h1_0 h1_1 h1_2 h1_3)
noncomputable def R08_Absorb_L4 {ρ : Type} (v1 : List Int) (v5 : Int) (h0_0 : Int) (h0_1 : List Int) (h0_2 : Int) (h0_3 : Bool) (h1_0 : Int) (h1_1 : List Int) (h1_2 : Int) (h1_3 : Bool) (k0 : (List Int) → Int → Int → (List Int) → Int → Bool → Int → (List Int) → Int → Bool → Option ρ) : Option ρ :=
 lp (fun (x : (List Int) × Int × Int × (List Int) × Int × Bool × Int × (List Int) × Int × Bool) next (ex : ((List Int) × Int × Int × (List Int) × Int × Bool × Int × (List Int) × Int × Bool) → Option ρ) => R08_Absorb_r4 x.1 x.2.1 x.2.2.1 x.2.2.2.1 x.2.2.2.2.1 x.2.2.2.2.2.1 x.2.2.2.2.2.2.1 x.2.2.2.2.2.2.2.1 x.2.2.2.2.2.2.2.2.1 x.2.2.2.2.2.2.2.2.2 (fun v1 v5 h0_0 h0_1 h0_2 h0_3 h1_0 h1_1 h1_2 h1_3 => next (v1, v5, h0_0, h0_1, h0_2, h0_3, h1_0, h1_1, h1_2, h1_3)) (fun v1 v5 h0_0 h0_1 h0_2 h0_3 h1_0 h1_1 h1_2 h1_3 => ex (v1, v5, h0_0, h0_1, h0_2, h0_3, h1_0, h1_1, h1_2, h1_3))) (v1, v5, h0_0, h0_1, h0_2, h0_3, h1_0, h1_1, h1_2, h1_3) (fun x => k0 x.1 x.2.1 x.2.2.1 x.2.2.2.1 x.2.2.2.2.1 x.2.2.2.2.2.1 x.2.2.2.2.2.2.1 x.2.2.2.2.2.2.2.1 x.2.2.2.2.2.2.2.2.1 x.2.2.2.2.2.2.2.2.2)
noncomputable def R08_Absorb_l4 {ρ : Type} := shut (R08_Absorb_L4 (ρ := ρ))
theorem R08_Absorb_l4_eq {ρ : Type} : R08_Absorb_l4 (ρ := ρ) = R08_Absorb_L4 := shut_eq _
noncomputable def R08_Absorb_raw {ρ : Type} (a0_Kind : Int) (a0_Words : List Int) (a0_At : Int) (a0_Out : Bool) (a1 : List Int) (k : Int → (List Int) → Int → Bool → Option ρ) : Option ρ :=
 br a0_Out (k a0_Kind a0_Words a0_At a0_Out)
 (R08_Absorb_l4 a1 (0 : Int) a0_Kind a0_Words a0_At a0_Out (0 : Int)
  [(0 : Int), (0 : Int), (0 : Int), (0 : Int), (0 : Int), (0 : Int), (0 : Int), (0 : Int), (0 : Int), (0 : Int),
   (0 : Int), (0 : Int), (0 : Int), (0 : Int), (0 : Int), (0 : Int), (0 : Int), (0 : Int), (0 : Int), (0 : Int),
   (0 : Int), (0 : Int), (0 : Int), (0 : Int), (0 : Int)]
  (0 : Int) false
  fun (q0 : List Int) (q1 q2 : Int) (q3 : List Int) (q4 : Int) (q5 : Bool) (q6 : Int) (q7 : List Int) (q8 : Int)
   (q9 : Bool) =>
  k q2 q3 q4 q5)
noncomputable def R08_Absorb {ρ : Type} := shut (R08_Absorb_raw (ρ := ρ))
theorem R08_Absorb_eq {ρ : Type} (a0_Kind : Int) (a0_Words : List Int) (a0_At : Int) (a0_Out : Bool) (a1 : List Int) (k : Int → (List Int) → Int → Bool → Option ρ) : R08_Absorb a0_Kind a0_Words a0_At a0_Out a1 k = R08_Absorb_raw a0_Kind a0_Words a0_At a0_Out a1 k := by unfold R08_Absorb; rw [shut_eq]
end P
end

section
open Go Go.Abs
set_option linter.unusedVariables false
namespace P
noncomputable def R08_Sum_raw {ρ : Type} (a0 : Int) (a1 : List Int) (a2 : Int) (k : (List Int) → Int → Option ρ) : Option ρ :=
 R08_New a0 fun (q0 : Int) (q1 : List Int) (q2 : Int) (q3 : Bool) (q4 : Int) =>
 br (q4 != (0 : Int)) (k [] q4)
  (br (decide (a2 < (0 : Int))) (k [] (8 : Int))
   (br (decide (a2 > (16777216 : Int))) (k [] (8 : Int))
    (R08_Absorb q0 q1 q2 q3 a1 fun (q5 : Int) (q6 : List Int) (q7 : Int) (q8 : Bool) =>
     R08_Squeeze q5 q6 q7 q8 a2 fun (q9 : Int) (q10 : List Int) (q11 : Int) (q12 : Bool) (q13 : List Int) =>
      k q13 (0 : Int))))
noncomputable def R08_Sum {ρ : Type} := shut (R08_Sum_raw (ρ := ρ))
theorem R08_Sum_eq {ρ : Type} (a0 : Int) (a1 : List Int) (a2 : Int) (k : (List Int) → Int → Option ρ) : R08_Sum a0 a1 a2 k = R08_Sum_raw a0 a1 a2 k := by unfold R08_Sum; rw [shut_eq]
end P
end

section
open Go Go.Abs
set_option linter.unusedVariables false
namespace P
noncomputable def R17_short_raw {ρ : Type} (a0 : List Int) (k : (List Int) → Option ρ) : Option ρ :=
 R01_Join
 [List.take 1 (List.drop 3 a0), List.take 8 (List.drop 8 a0),
  List.take 1 (List.drop 19 a0), List.take 12 (List.drop 20 a0)]
 fun (q0 : List Int) => k q0
noncomputable def R17_short {ρ : Type} := shut (R17_short_raw (ρ := ρ))
theorem R17_short_eq {ρ : Type} (a0 : List Int) (k : (List Int) → Option ρ) : R17_short a0 k = R17_short_raw a0 k := by unfold R17_short; rw [shut_eq]
end P
end

section
open Go Go.Abs
set_option linter.unusedVariables false
namespace P
noncomputable def R17_Sum_raw {ρ : Type} (a0_N : Int) (a0_H : Int) (a0_D : Int) (a0_A : Int) (a0_K : Int) (a0_Shake : Bool) (a1 : List Int) (a2 : List Int) (a3 : List Int) (k : (List Int) → Option ρ) : Option ρ :=
 br ((↑a1.length : Int) != a0_N) (k [])
 (R17_Fit a0_N a0_H a0_D a0_A a0_K a0_Shake fun (q0 : Bool) =>
  br (!q0) (k [])
   (br a0_Shake
    (R01_Join [a1, List.take 32 (List.drop 0 a2), a3] fun (q1 : List Int) =>
     R08_Sum (7 : Int) q1 a0_N fun (q2 : List Int) (q3 : Int) => k q2)
    (br (decide (a0_N > (16 : Int)))
     (br (decide ((↑a3.length : Int) > a0_N))
      (br (decide ((0 : Int) ≤ IntKind.i64.wrap ((128 : Int) - a0_N)))
       (br (decide (IntKind.i64.wrap ((128 : Int) - a0_N) ≤ IntKind.i64.wrap ((128 : Int) - a0_N)))
        (br
         (decide
          (IntKind.i64.wrap ((128 : Int) - a0_N) * (↑1 : Int) ≤ (↑140737488355328 : Int)))
         (R17_short a2 fun (q4 : List Int) =>
          R01_Join [a1, List.replicate (IntKind.i64.wrap ((128 : Int) - a0_N)).toNat (0 : Int), q4, a3]
           fun (q5 : List Int) =>
           R07_Sum (3 : Int) q5 fun (q6 : List Int) (q7 : Int) =>
            br (decide ((0 : Int) ≤ a0_N))
             (br (decide (a0_N ≤ (↑q6.length : Int)))
              (k (List.take (a0_N - (0 : Int)).toNat (List.drop 0 q6))) none)
             none)
         none)
        none)
       none)
      (br (decide ((0 : Int) ≤ IntKind.i64.wrap ((64 : Int) - a0_N)))
       (br (decide (IntKind.i64.wrap ((64 : Int) - a0_N) ≤ IntKind.i64.wrap ((64 : Int) - a0_N)))
        (br
         (decide
          (IntKind.i64.wrap ((64 : Int) - a0_N) * (↑1 : Int) ≤ (↑140737488355328 : Int)))
         (R17_short a2 fun (q8 : List Int) =>
          R01_Join [a1, List.replicate (IntKind.i64.wrap ((64 : Int) - a0_N)).toNat (0 : Int), q8, a3]
           fun (q9 : List Int) =>
           R07_Sum (1 : Int) q9 fun (q10 : List Int) (q11 : Int) =>
            br (decide ((0 : Int) ≤ a0_N))
             (br (decide (a0_N ≤ (↑q10.length : Int)))
              (k (List.take (a0_N - (0 : Int)).toNat (List.drop 0 q10))) none)
             none)
         none)
        none)
       none))
     (br (decide ((0 : Int) ≤ IntKind.i64.wrap ((64 : Int) - a0_N)))
      (br (decide (IntKind.i64.wrap ((64 : Int) - a0_N) ≤ IntKind.i64.wrap ((64 : Int) - a0_N)))
       (br
        (decide
         (IntKind.i64.wrap ((64 : Int) - a0_N) * (↑1 : Int) ≤ (↑140737488355328 : Int)))
        (R17_short a2 fun (q12 : List Int) =>
         R01_Join [a1, List.replicate (IntKind.i64.wrap ((64 : Int) - a0_N)).toNat (0 : Int), q12, a3]
          fun (q13 : List Int) =>
          R07_Sum (1 : Int) q13 fun (q14 : List Int) (q15 : Int) =>
           br (decide ((0 : Int) ≤ a0_N))
            (br (decide (a0_N ≤ (↑q14.length : Int)))
             (k (List.take (a0_N - (0 : Int)).toNat (List.drop 0 q14))) none)
            none)
        none)
       none)
      none))))
noncomputable def R17_Sum {ρ : Type} := shut (R17_Sum_raw (ρ := ρ))
theorem R17_Sum_eq {ρ : Type} (a0_N : Int) (a0_H : Int) (a0_D : Int) (a0_A : Int) (a0_K : Int) (a0_Shake : Bool) (a1 : List Int) (a2 : List Int) (a3 : List Int) (k : (List Int) → Option ρ) : R17_Sum a0_N a0_H a0_D a0_A a0_K a0_Shake a1 a2 a3 k = R17_Sum_raw a0_N a0_H a0_D a0_A a0_K a0_Shake a1 a2 a3 k := by unfold R17_Sum; rw [shut_eq]
end P
end

section
open Go Go.Abs
set_option linter.unusedVariables false
namespace P
noncomputable def wots_Draw_raw {ρ : Type} (a0_N : Int) (a0_H : Int) (a0_D : Int) (a0_A : Int) (a0_K : Int) (a0_Shake : Bool) (a1 : List Int) (a2 : List Int) (a3 : List Int) (k : (List Int) → Option ρ) : Option ρ :=
 br ((↑a2.length : Int) != a0_N) (k [])
 (wots_Sum a0_N a0_H a0_D a0_A a0_K a0_Shake a1 a3 a2 fun (q0 : List Int) => k q0)
noncomputable def wots_Draw {ρ : Type} := shut (wots_Draw_raw (ρ := ρ))
theorem wots_Draw_eq {ρ : Type} (a0_N : Int) (a0_H : Int) (a0_D : Int) (a0_A : Int) (a0_K : Int) (a0_Shake : Bool) (a1 : List Int) (a2 : List Int) (a3 : List Int) (k : (List Int) → Option ρ) : wots_Draw a0_N a0_H a0_D a0_A a0_K a0_Shake a1 a2 a3 k = wots_Draw_raw a0_N a0_H a0_D a0_A a0_K a0_Shake a1 a2 a3 k := by unfold wots_Draw; rw [shut_eq]
end P
end

section
open Go Go.Abs
set_option linter.unusedVariables false
namespace P
noncomputable def R17_Draw_raw {ρ : Type} (a0_N : Int) (a0_H : Int) (a0_D : Int) (a0_A : Int) (a0_K : Int) (a0_Shake : Bool) (a1 : List Int) (a2 : List Int) (a3 : List Int) (k : (List Int) → Option ρ) : Option ρ :=
 br ((↑a2.length : Int) != a0_N) (k [])
 (R17_Sum a0_N a0_H a0_D a0_A a0_K a0_Shake a1 a3 a2 fun (q0 : List Int) => k q0)
noncomputable def R17_Draw {ρ : Type} := shut (R17_Draw_raw (ρ := ρ))
theorem R17_Draw_eq {ρ : Type} (a0_N : Int) (a0_H : Int) (a0_D : Int) (a0_A : Int) (a0_K : Int) (a0_Shake : Bool) (a1 : List Int) (a2 : List Int) (a3 : List Int) (k : (List Int) → Option ρ) : R17_Draw a0_N a0_H a0_D a0_A a0_K a0_Shake a1 a2 a3 k = R17_Draw_raw a0_N a0_H a0_D a0_A a0_K a0_Shake a1 a2 a3 k := by unfold R17_Draw; rw [shut_eq]
end P
end

section
open Go Go.Abs
set_option linter.unusedVariables false
namespace P
noncomputable def L17_WotsTells_raw {ρ : Type} (a0_N : Int) (a0_H : Int) (a0_D : Int) (a0_A : Int) (a0_K : Int) (a0_Shake : Bool) (a1 : List Int) (a2 : Int) (a3 : Int) (a4 : List Int) (a5 : List Int) (k : Bool → Option ρ) : Option ρ :=
 L17_few [a4, a5] fun (q0 : Bool) =>
 br (!q0) (L17_awake fun (q1 : Bool) => k q1)
  (wots_Fit a0_N a0_H a0_D a0_A a0_K a0_Shake fun (q2 : Bool) =>
   R17_Fit a0_N a0_H a0_D a0_A a0_K a0_Shake fun (q3 : Bool) =>
    br (!q2 == q3) (k false)
     (wots_Put a1 a2 a3 fun (q4 : List Int) =>
      R17_Put a1 a2 a3 fun (q5 : List Int) =>
       br (!decide (q4 = q5)) (k false)
        (wots_Digits a0_N a5 fun (q6 : List Int) =>
         R17_Digits a0_N a5 fun (q7 : List Int) =>
          R01_SameNums q6 q7 fun (q8 : Bool) =>
           br (!q8) (k false)
            (R17_Fit a0_N a0_H a0_D a0_A a0_K a0_Shake fun (q9 : Bool) =>
             br (!q9) (k true)
              (wots_Sum a0_N a0_H a0_D a0_A a0_K a0_Shake a4 a1 a5 fun (q10 : List Int) =>
               R17_Sum a0_N a0_H a0_D a0_A a0_K a0_Shake a4 a1 a5 fun (q11 : List Int) =>
                R01_Same q10 q11 fun (q12 : Bool) =>
                 br q12
                  (wots_Draw a0_N a0_H a0_D a0_A a0_K a0_Shake a4 a5 a1 fun (q13 : List Int) =>
                   R17_Draw a0_N a0_H a0_D a0_A a0_K a0_Shake a4 a5 a1 fun (q14 : List Int) =>
                    R01_Same q13 q14 fun (q15 : Bool) =>
                     br q15 (L17_awake fun (q16 : Bool) => k q16) (k false))
                  (k false))))))
noncomputable def L17_WotsTells {ρ : Type} := shut (L17_WotsTells_raw (ρ := ρ))
theorem L17_WotsTells_eq {ρ : Type} (a0_N : Int) (a0_H : Int) (a0_D : Int) (a0_A : Int) (a0_K : Int) (a0_Shake : Bool) (a1 : List Int) (a2 : Int) (a3 : Int) (a4 : List Int) (a5 : List Int) (k : Bool → Option ρ) : L17_WotsTells a0_N a0_H a0_D a0_A a0_K a0_Shake a1 a2 a3 a4 a5 k = L17_WotsTells_raw a0_N a0_H a0_D a0_A a0_K a0_Shake a1 a2 a3 a4 a5 k := by unfold L17_WotsTells; rw [shut_eq]
end P
end
