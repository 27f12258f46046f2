/-
  MacTells, part H: an interpreter of my own over abstract values, the pure functions, the walks and the plain law.
-/

import Derived.Test.YtjhnljhjpnjieaaDoorMacTellsF
import Derived.Test.YtjhnljhjpnjieaaDoorMacTellsG

section
open Go Go.Abs
set_option linter.unusedVariables false
namespace P
noncomputable def keccak_turned_raw {ρ : Type} (a0_Kind : Int) (a0_Words : List Int) (a0_At : Int) (a0_Out : Bool) (k : Int → (List Int) → Int → Bool → Option ρ) : Option ρ :=
 br (a0_Kind == (4 : Int))
 (br (decide ((0 : Int) ≤ IntKind.i64.wrap (a0_At.tdiv (8 : Int))))
  (br (decide (IntKind.i64.wrap (a0_At.tdiv (8 : Int)) < (↑25 : Int)))
   (br (decide (IntKind.i64.wrap ((8 : Int) * a0_At.tmod (8 : Int)) < (0 : Int))) none
    (br (decide ((0 : Int) ≤ IntKind.i64.wrap (a0_At.tdiv (8 : Int))))
     (br (decide (IntKind.i64.wrap (a0_At.tdiv (8 : Int)) < (↑25 : Int)))
      (keccak_rate a0_Kind fun (q0 : Int) =>
       br (decide ((0 : Int) ≤ IntKind.i64.wrap ((IntKind.i64.wrap (q0 - (1 : Int))).tdiv (8 : Int))))
        (br
         (decide
          (IntKind.i64.wrap ((IntKind.i64.wrap (q0 - (1 : Int))).tdiv (8 : Int)) < (↑25 : Int)))
         (br
          (decide
           (IntKind.i64.wrap ((8 : Int) * (IntKind.i64.wrap (q0 - (1 : Int))).tmod (8 : Int)) < (0 : Int)))
          none
          (br (decide ((0 : Int) ≤ IntKind.i64.wrap ((IntKind.i64.wrap (q0 - (1 : Int))).tdiv (8 : Int))))
           (br
            (decide
             (IntKind.i64.wrap ((IntKind.i64.wrap (q0 - (1 : Int))).tdiv (8 : Int)) <
              (↑25 : Int)))
            (keccak_Permute
             ((a0_Words.set (IntKind.i64.wrap (a0_At.tdiv (8 : Int))).toNat
                (bits BinOp.xor IntKind.u64
                 (a0_Words.getD (IntKind.i64.wrap (a0_At.tdiv (8 : Int))).toNat (0 : Int))
                 (IntKind.u64.wrap
                  (IntKind.u64.wrap (6 : Int) *
                   (2 : Int) ^
                    min (IntKind.i64.wrap ((8 : Int) * a0_At.tmod (8 : Int))).toNat
                     64)))).set
              (IntKind.i64.wrap ((IntKind.i64.wrap (q0 - (1 : Int))).tdiv (8 : Int))).toNat
              (bits BinOp.xor IntKind.u64
               ((a0_Words.set (IntKind.i64.wrap (a0_At.tdiv (8 : Int))).toNat
                  (bits BinOp.xor IntKind.u64
                   (a0_Words.getD (IntKind.i64.wrap (a0_At.tdiv (8 : Int))).toNat (0 : Int))
                   (IntKind.u64.wrap
                    (IntKind.u64.wrap (6 : Int) *
                     (2 : Int) ^
                      min (IntKind.i64.wrap ((8 : Int) * a0_At.tmod (8 : Int))).toNat
                       64)))).getD
                (IntKind.i64.wrap ((IntKind.i64.wrap (q0 - (1 : Int))).tdiv (8 : Int))).toNat (0 : Int))
               (IntKind.u64.wrap
                (IntKind.u64.wrap (128 : Int) *
                 (2 : Int) ^
                  min
                   (IntKind.i64.wrap
                     ((8 : Int) * (IntKind.i64.wrap (q0 - (1 : Int))).tmod (8 : Int))).toNat
                   64))))
             fun (q1 : List Int) => k a0_Kind q1 (0 : Int) true)
            none)
           none))
         none)
        none)
      none)
     none))
   none)
  none)
 (br (a0_Kind == (5 : Int))
  (br (decide ((0 : Int) ≤ IntKind.i64.wrap (a0_At.tdiv (8 : Int))))
   (br (decide (IntKind.i64.wrap (a0_At.tdiv (8 : Int)) < (↑25 : Int)))
    (br (decide (IntKind.i64.wrap ((8 : Int) * a0_At.tmod (8 : Int)) < (0 : Int))) none
     (br (decide ((0 : Int) ≤ IntKind.i64.wrap (a0_At.tdiv (8 : Int))))
      (br (decide (IntKind.i64.wrap (a0_At.tdiv (8 : Int)) < (↑25 : Int)))
       (keccak_rate a0_Kind fun (q2 : Int) =>
        br (decide ((0 : Int) ≤ IntKind.i64.wrap ((IntKind.i64.wrap (q2 - (1 : Int))).tdiv (8 : Int))))
         (br
          (decide
           (IntKind.i64.wrap ((IntKind.i64.wrap (q2 - (1 : Int))).tdiv (8 : Int)) < (↑25 : Int)))
          (br
           (decide
            (IntKind.i64.wrap ((8 : Int) * (IntKind.i64.wrap (q2 - (1 : Int))).tmod (8 : Int)) < (0 : Int)))
           none
           (br (decide ((0 : Int) ≤ IntKind.i64.wrap ((IntKind.i64.wrap (q2 - (1 : Int))).tdiv (8 : Int))))
            (br
             (decide
              (IntKind.i64.wrap ((IntKind.i64.wrap (q2 - (1 : Int))).tdiv (8 : Int)) <
               (↑25 : Int)))
             (keccak_Permute
              ((a0_Words.set (IntKind.i64.wrap (a0_At.tdiv (8 : Int))).toNat
                 (bits BinOp.xor IntKind.u64
                  (a0_Words.getD (IntKind.i64.wrap (a0_At.tdiv (8 : Int))).toNat (0 : Int))
                  (IntKind.u64.wrap
                   (IntKind.u64.wrap (6 : Int) *
                    (2 : Int) ^
                     min (IntKind.i64.wrap ((8 : Int) * a0_At.tmod (8 : Int))).toNat
                      64)))).set
               (IntKind.i64.wrap ((IntKind.i64.wrap (q2 - (1 : Int))).tdiv (8 : Int))).toNat
               (bits BinOp.xor IntKind.u64
                ((a0_Words.set (IntKind.i64.wrap (a0_At.tdiv (8 : Int))).toNat
                   (bits BinOp.xor IntKind.u64
                    (a0_Words.getD (IntKind.i64.wrap (a0_At.tdiv (8 : Int))).toNat (0 : Int))
                    (IntKind.u64.wrap
                     (IntKind.u64.wrap (6 : Int) *
                      (2 : Int) ^
                       min (IntKind.i64.wrap ((8 : Int) * a0_At.tmod (8 : Int))).toNat
                        64)))).getD
                 (IntKind.i64.wrap ((IntKind.i64.wrap (q2 - (1 : Int))).tdiv (8 : Int))).toNat
                 (0 : Int))
                (IntKind.u64.wrap
                 (IntKind.u64.wrap (128 : Int) *
                  (2 : Int) ^
                   min
                    (IntKind.i64.wrap
                      ((8 : Int) * (IntKind.i64.wrap (q2 - (1 : Int))).tmod (8 : Int))).toNat
                    64))))
              fun (q3 : List Int) => k a0_Kind q3 (0 : Int) true)
             none)
            none))
          none)
         none)
       none)
      none))
    none)
   none)
  (br (decide ((0 : Int) ≤ IntKind.i64.wrap (a0_At.tdiv (8 : Int))))
   (br (decide (IntKind.i64.wrap (a0_At.tdiv (8 : Int)) < (↑25 : Int)))
    (br (decide (IntKind.i64.wrap ((8 : Int) * a0_At.tmod (8 : Int)) < (0 : Int))) none
     (br (decide ((0 : Int) ≤ IntKind.i64.wrap (a0_At.tdiv (8 : Int))))
      (br (decide (IntKind.i64.wrap (a0_At.tdiv (8 : Int)) < (↑25 : Int)))
       (keccak_rate a0_Kind fun (q4 : Int) =>
        br (decide ((0 : Int) ≤ IntKind.i64.wrap ((IntKind.i64.wrap (q4 - (1 : Int))).tdiv (8 : Int))))
         (br
          (decide
           (IntKind.i64.wrap ((IntKind.i64.wrap (q4 - (1 : Int))).tdiv (8 : Int)) < (↑25 : Int)))
          (br
           (decide
            (IntKind.i64.wrap ((8 : Int) * (IntKind.i64.wrap (q4 - (1 : Int))).tmod (8 : Int)) < (0 : Int)))
           none
           (br (decide ((0 : Int) ≤ IntKind.i64.wrap ((IntKind.i64.wrap (q4 - (1 : Int))).tdiv (8 : Int))))
            (br
             (decide
              (IntKind.i64.wrap ((IntKind.i64.wrap (q4 - (1 : Int))).tdiv (8 : Int)) <
               (↑25 : Int)))
             (keccak_Permute
              ((a0_Words.set (IntKind.i64.wrap (a0_At.tdiv (8 : Int))).toNat
                 (bits BinOp.xor IntKind.u64
                  (a0_Words.getD (IntKind.i64.wrap (a0_At.tdiv (8 : Int))).toNat (0 : Int))
                  (IntKind.u64.wrap
                   (IntKind.u64.wrap (31 : Int) *
                    (2 : Int) ^
                     min (IntKind.i64.wrap ((8 : Int) * a0_At.tmod (8 : Int))).toNat
                      64)))).set
               (IntKind.i64.wrap ((IntKind.i64.wrap (q4 - (1 : Int))).tdiv (8 : Int))).toNat
               (bits BinOp.xor IntKind.u64
                ((a0_Words.set (IntKind.i64.wrap (a0_At.tdiv (8 : Int))).toNat
                   (bits BinOp.xor IntKind.u64
                    (a0_Words.getD (IntKind.i64.wrap (a0_At.tdiv (8 : Int))).toNat (0 : Int))
                    (IntKind.u64.wrap
                     (IntKind.u64.wrap (31 : Int) *
                      (2 : Int) ^
                       min (IntKind.i64.wrap ((8 : Int) * a0_At.tmod (8 : Int))).toNat
                        64)))).getD
                 (IntKind.i64.wrap ((IntKind.i64.wrap (q4 - (1 : Int))).tdiv (8 : Int))).toNat
                 (0 : Int))
                (IntKind.u64.wrap
                 (IntKind.u64.wrap (128 : Int) *
                  (2 : Int) ^
                   min
                    (IntKind.i64.wrap
                      ((8 : Int) * (IntKind.i64.wrap (q4 - (1 : Int))).tmod (8 : Int))).toNat
                    64))))
              fun (q5 : List Int) => k a0_Kind q5 (0 : Int) true)
             none)
            none))
          none)
         none)
       none)
      none))
    none)
   none))
noncomputable def keccak_turned {ρ : Type} := shut (keccak_turned_raw (ρ := ρ))
theorem keccak_turned_eq {ρ : Type} (a0_Kind : Int) (a0_Words : List Int) (a0_At : Int) (a0_Out : Bool) (k : Int → (List Int) → Int → Bool → Option ρ) : keccak_turned a0_Kind a0_Words a0_At a0_Out k = keccak_turned_raw a0_Kind a0_Words a0_At a0_Out k := by unfold keccak_turned; rw [shut_eq]
end P
end

section
open Go Go.Abs
set_option linter.unusedVariables false
namespace P
noncomputable def keccak_Squeeze_r7 {ρ : Type} (v19 : Int) (v20 : Int) (h0_0 : Int) (h0_1 : List Int) (h0_2 : Int) (h0_3 : Bool) (h1_0 : Int) (h1_1 : List Int) (h1_2 : Int) (h1_3 : Bool) (h2 : List Int) (nx : Int → Int → Int → (List Int) → Int → Bool → Int → (List Int) → Int → Bool → (List Int) → Option ρ) (k0 : Int → Int → Int → (List Int) → Int → Bool → Int → (List Int) → Int → Bool → (List Int) → Option ρ) : Option ρ :=
 br (decide (v20 < v19))
 (keccak_rate h0_0 fun (q0 : Int) =>
  br (h0_2 == q0)
   (keccak_Permute h0_1 fun (q1 : List Int) =>
    br (decide ((0 : Int) ≤ v20))
     (br (decide (v20 < (↑h2.length : Int)))
      (nx v19 (IntKind.i64.wrap (v20 + (1 : Int))) h0_0 q1 (IntKind.i64.wrap ((0 : Int) + (1 : Int))) h0_3 h1_0
       h1_1 h1_2 h1_3
       (h2.set v20.toNat (IntKind.u8.wrap ((q1.getD 0 (0 : Int)).fdiv ((2 : Int) ^ 0)))))
      none)
     none)
   (br (decide ((0 : Int) ≤ IntKind.i64.wrap (h0_2.tdiv (8 : Int))))
    (br (decide (IntKind.i64.wrap (h0_2.tdiv (8 : Int)) < (↑25 : Int)))
     (br (decide (IntKind.i64.wrap ((8 : Int) * h0_2.tmod (8 : Int)) < (0 : Int))) none
      (br (decide ((0 : Int) ≤ v20))
       (br (decide (v20 < (↑h2.length : Int)))
        (nx v19 (IntKind.i64.wrap (v20 + (1 : Int))) h0_0 h0_1 (IntKind.i64.wrap (h0_2 + (1 : Int))) h0_3 h1_0
         h1_1 h1_2 h1_3
         (h2.set v20.toNat
          (IntKind.u8.wrap
           ((h0_1.getD (IntKind.i64.wrap (h0_2.tdiv (8 : Int))).toNat (0 : Int)).fdiv
            ((2 : Int) ^ min (IntKind.i64.wrap ((8 : Int) * h0_2.tmod (8 : Int))).toNat 64)))))
        none)
       none))
     none)
    none))
 (k0 v19 v20 h0_0 h0_1 h0_2 h0_3 h1_0 h1_1 h1_2 h1_3 h2)
noncomputable def keccak_Squeeze_L7 {ρ : Type} (v19 : Int) (v20 : Int) (h0_0 : Int) (h0_1 : List Int) (h0_2 : Int) (h0_3 : Bool) (h1_0 : Int) (h1_1 : List Int) (h1_2 : Int) (h1_3 : Bool) (h2 : List Int) (k0 : Int → Int → Int → (List Int) → Int → Bool → Int → (List Int) → Int → Bool → (List Int) → Option ρ) : Option ρ :=
 lp (fun (x : Int × Int × Int × (List Int) × Int × Bool × Int × (List Int) × Int × Bool × (List Int)) next (ex : (Int × Int × Int × (List Int) × Int × Bool × Int × (List Int) × Int × Bool × (List Int)) → Option ρ) => keccak_Squeeze_r7 x.1 x.2.1 x.2.2.1 x.2.2.2.1 x.2.2.2.2.1 x.2.2.2.2.2.1 x.2.2.2.2.2.2.1 x.2.2.2.2.2.2.2.1 x.2.2.2.2.2.2.2.2.1 x.2.2.2.2.2.2.2.2.2.1 x.2.2.2.2.2.2.2.2.2.2 (fun v19 v20 h0_0 h0_1 h0_2 h0_3 h1_0 h1_1 h1_2 h1_3 h2 => next (v19, v20, h0_0, h0_1, h0_2, h0_3, h1_0, h1_1, h1_2, h1_3, h2)) (fun v19 v20 h0_0 h0_1 h0_2 h0_3 h1_0 h1_1 h1_2 h1_3 h2 => ex (v19, v20, h0_0, h0_1, h0_2, h0_3, h1_0, h1_1, h1_2, h1_3, h2))) (v19, v20, h0_0, h0_1, h0_2, h0_3, h1_0, h1_1, h1_2, h1_3, h2) (fun x => k0 x.1 x.2.1 x.2.2.1 x.2.2.2.1 x.2.2.2.2.1 x.2.2.2.2.2.1 x.2.2.2.2.2.2.1 x.2.2.2.2.2.2.2.1 x.2.2.2.2.2.2.2.2.1 x.2.2.2.2.2.2.2.2.2.1 x.2.2.2.2.2.2.2.2.2.2)
noncomputable def keccak_Squeeze_l7 {ρ : Type} := shut (keccak_Squeeze_L7 (ρ := ρ))
theorem keccak_Squeeze_l7_eq {ρ : Type} : keccak_Squeeze_l7 (ρ := ρ) = keccak_Squeeze_L7 := shut_eq _
noncomputable def keccak_Squeeze_raw {ρ : Type} (a0_Kind : Int) (a0_Words : List Int) (a0_At : Int) (a0_Out : Bool) (a1 : Int) (k : Int → (List Int) → Int → Bool → (List Int) → Option ρ) : Option ρ :=
 br (decide (a1 < (0 : Int))) (k a0_Kind a0_Words a0_At a0_Out [])
 (br (!a0_Out)
  (keccak_turned a0_Kind a0_Words a0_At a0_Out fun (q0 : Int) (q1 : List Int) (q2 : Int) (q3 : Bool) =>
   br (decide ((0 : Int) ≤ a1))
    (br (decide (a1 ≤ a1))
     (br (decide (a1 * (↑1 : Int) ≤ (↑140737488355328 : Int)))
      (keccak_Squeeze_l7 (↑(List.replicate a1.toNat (0 : Int)).length : Int) (0 : Int) q0 q1 q2 q3 (0 : Int)
       [(0 : Int), (0 : Int), (0 : Int), (0 : Int), (0 : Int), (0 : Int), (0 : Int), (0 : Int), (0 : Int),
        (0 : Int), (0 : Int), (0 : Int), (0 : Int), (0 : Int), (0 : Int), (0 : Int), (0 : Int), (0 : Int),
        (0 : Int), (0 : Int), (0 : Int), (0 : Int), (0 : Int), (0 : Int), (0 : Int)]
       (0 : Int) false (List.replicate a1.toNat (0 : Int))
       fun (q4 q5 q6 : Int) (q7 : List Int) (q8 : Int) (q9 : Bool) (q10 : Int) (q11 : List Int) (q12 : Int)
        (q13 : Bool) (q14 : List Int) =>
       k q6 q7 q8 q9 q14)
      none)
     none)
    none)
  (br (decide ((0 : Int) ≤ a1))
   (br (decide (a1 ≤ a1))
    (br (decide (a1 * (↑1 : Int) ≤ (↑140737488355328 : Int)))
     (keccak_Squeeze_l7 (↑(List.replicate a1.toNat (0 : Int)).length : Int) (0 : Int) a0_Kind a0_Words a0_At
      a0_Out (0 : Int)
      [(0 : Int), (0 : Int), (0 : Int), (0 : Int), (0 : Int), (0 : Int), (0 : Int), (0 : Int), (0 : Int),
       (0 : Int), (0 : Int), (0 : Int), (0 : Int), (0 : Int), (0 : Int), (0 : Int), (0 : Int), (0 : Int),
       (0 : Int), (0 : Int), (0 : Int), (0 : Int), (0 : Int), (0 : Int), (0 : Int)]
      (0 : Int) false (List.replicate a1.toNat (0 : Int))
      fun (q15 q16 q17 : Int) (q18 : List Int) (q19 : Int) (q20 : Bool) (q21 : Int) (q22 : List Int) (q23 : Int)
       (q24 : Bool) (q25 : List Int) =>
      k q17 q18 q19 q20 q25)
     none)
    none)
   none))
noncomputable def keccak_Squeeze {ρ : Type} := shut (keccak_Squeeze_raw (ρ := ρ))
theorem keccak_Squeeze_eq {ρ : Type} (a0_Kind : Int) (a0_Words : List Int) (a0_At : Int) (a0_Out : Bool) (a1 : Int) (k : Int → (List Int) → Int → Bool → (List Int) → Option ρ) : keccak_Squeeze a0_Kind a0_Words a0_At a0_Out a1 k = keccak_Squeeze_raw a0_Kind a0_Words a0_At a0_Out a1 k := by unfold keccak_Squeeze; rw [shut_eq]
end P
end

section
open Go Go.Abs
set_option linter.unusedVariables false
namespace P
noncomputable def keccak_Absorb_r5 {ρ : Type} (v1 : List Int) (v5 : Int) (v14 : Int) (v15 : Int) (h0_0 : Int) (h0_1 : List Int) (h0_2 : Int) (h0_3 : Bool) (h1_0 : Int) (h1_1 : List Int) (h1_2 : Int) (h1_3 : Bool) (nx : (List Int) → Int → Int → Int → Int → (List Int) → Int → Bool → Int → (List Int) → Int → Bool → Option ρ) (k0 : (List Int) → Int → Int → Int → Int → (List Int) → Int → Bool → Int → (List Int) → Int → Bool → Option ρ) : Option ρ :=
 br (decide (v15 < v14))
 (br (decide ((0 : Int) ≤ v15))
  (br (decide (v15 < (↑v1.length : Int)))
   (br (decide ((0 : Int) ≤ IntKind.i64.wrap (h0_2.tdiv (8 : Int))))
    (br (decide (IntKind.i64.wrap (h0_2.tdiv (8 : Int)) < (↑25 : Int)))
     (br (decide (IntKind.i64.wrap ((8 : Int) * h0_2.tmod (8 : Int)) < (0 : Int))) none
      (br (decide ((0 : Int) ≤ IntKind.i64.wrap (h0_2.tdiv (8 : Int))))
       (br (decide (IntKind.i64.wrap (h0_2.tdiv (8 : Int)) < (↑25 : Int)))
        (br (IntKind.i64.wrap (h0_2 + (1 : Int)) == v5)
         (keccak_Permute
          (h0_1.set (IntKind.i64.wrap (h0_2.tdiv (8 : Int))).toNat
           (bits BinOp.xor IntKind.u64 (h0_1.getD (IntKind.i64.wrap (h0_2.tdiv (8 : Int))).toNat (0 : Int))
            (IntKind.u64.wrap
             (IntKind.u64.wrap (v1.getD v15.toNat (0 : Int)) *
              (2 : Int) ^ min (IntKind.i64.wrap ((8 : Int) * h0_2.tmod (8 : Int))).toNat 64))))
          fun (q0 : List Int) =>
          nx v1 v5 v14 (IntKind.i64.wrap (v15 + (1 : Int))) h0_0 q0 (0 : Int) h0_3 h1_0 h1_1 h1_2 h1_3)
         (nx v1 v5 v14 (IntKind.i64.wrap (v15 + (1 : Int))) h0_0
          (h0_1.set (IntKind.i64.wrap (h0_2.tdiv (8 : Int))).toNat
           (bits BinOp.xor IntKind.u64 (h0_1.getD (IntKind.i64.wrap (h0_2.tdiv (8 : Int))).toNat (0 : Int))
            (IntKind.u64.wrap
             (IntKind.u64.wrap (v1.getD v15.toNat (0 : Int)) *
              (2 : Int) ^ min (IntKind.i64.wrap ((8 : Int) * h0_2.tmod (8 : Int))).toNat 64))))
          (IntKind.i64.wrap (h0_2 + (1 : Int))) h0_3 h1_0 h1_1 h1_2 h1_3))
        none)
       none))
     none)
    none)
   none)
  none)
 (k0 v1 v5 v14 v15 h0_0 h0_1 h0_2 h0_3 h1_0 h1_1 h1_2 h1_3)
noncomputable def keccak_Absorb_L5 {ρ : Type} (v1 : List Int) (v5 : Int) (v14 : Int) (v15 : Int) (h0_0 : Int) (h0_1 : List Int) (h0_2 : Int) (h0_3 : Bool) (h1_0 : Int) (h1_1 : List Int) (h1_2 : Int) (h1_3 : Bool) (k0 : (List Int) → Int → Int → Int → Int → (List Int) → Int → Bool → Int → (List Int) → Int → Bool → Option ρ) : Option ρ :=
 lp (fun (x : (List Int) × Int × Int × Int × Int × (List Int) × Int × Bool × Int × (List Int) × Int × Bool) next (ex : ((List Int) × Int × Int × Int × Int × (List Int) × Int × Bool × Int × (List Int) × Int × Bool) → Option ρ) => keccak_Absorb_r5 x.1 x.2.1 x.2.2.1 x.2.2.2.1 x.2.2.2.2.1 x.2.2.2.2.2.1 x.2.2.2.2.2.2.1 x.2.2.2.2.2.2.2.1 x.2.2.2.2.2.2.2.2.1 x.2.2.2.2.2.2.2.2.2.1 x.2.2.2.2.2.2.2.2.2.2.1 x.2.2.2.2.2.2.2.2.2.2.2 (fun v1 v5 v14 v15 h0_0 h0_1 h0_2 h0_3 h1_0 h1_1 h1_2 h1_3 => next (v1, v5, v14, v15, h0_0, h0_1, h0_2, h0_3, h1_0, h1_1, h1_2, h1_3)) (fun v1 v5 v14 v15 h0_0 h0_1 h0_2 h0_3 h1_0 h1_1 h1_2 h1_3 => ex (v1, v5, v14, v15, h0_0, h0_1, h0_2, h0_3, h1_0, h1_1, h1_2, h1_3))) (v1, v5, v14, v15, h0_0, h0_1, h0_2, h0_3, h1_0, h1_1, h1_2, h1_3) (fun x => k0 x.1 x.2.1 x.2.2.1 x.2.2.2.1 x.2.2.2.2.1 x.2.2.2.2.2.1 x.2.2.2.2.2.2.1 x.2.2.2.2.2.2.2.1 x.2.2.2.2.2.2.2.2.1 x.2.2.2.2.2.2.2.2.2.1 x.2.2.2.2.2.2.2.2.2.2.1 x.2.2.2.2.2.2.2.2.2.2.2)
noncomputable def keccak_Absorb_l5 {ρ : Type} := shut (keccak_Absorb_L5 (ρ := ρ))
theorem keccak_Absorb_l5_eq {ρ : Type} : keccak_Absorb_l5 (ρ := ρ) = keccak_Absorb_L5 := shut_eq _
noncomputable def keccak_Absorb_raw {ρ : Type} (a0_Kind : Int) (a0_Words : List Int) (a0_At : Int) (a0_Out : Bool) (a1 : List Int) (k : Int → (List Int) → Int → Bool → Option ρ) : Option ρ :=
 br a0_Out (k a0_Kind a0_Words a0_At a0_Out)
 (keccak_rate a0_Kind fun (q0 : Int) =>
  keccak_Absorb_l5 a1 q0 (↑a1.length : Int) (0 : Int) a0_Kind a0_Words a0_At a0_Out (0 : Int)
   [(0 : Int), (0 : Int), (0 : Int), (0 : Int), (0 : Int), (0 : Int), (0 : Int), (0 : Int), (0 : Int), (0 : Int),
    (0 : Int), (0 : Int), (0 : Int), (0 : Int), (0 : Int), (0 : Int), (0 : Int), (0 : Int), (0 : Int), (0 : Int),
    (0 : Int), (0 : Int), (0 : Int), (0 : Int), (0 : Int)]
   (0 : Int) false
   fun (q1 : List Int) (q2 q3 q4 q5 : Int) (q6 : List Int) (q7 : Int) (q8 : Bool) (q9 : Int) (q10 : List Int)
    (q11 : Int) (q12 : Bool) =>
   k q5 q6 q7 q8)
noncomputable def keccak_Absorb {ρ : Type} := shut (keccak_Absorb_raw (ρ := ρ))
theorem keccak_Absorb_eq {ρ : Type} (a0_Kind : Int) (a0_Words : List Int) (a0_At : Int) (a0_Out : Bool) (a1 : List Int) (k : Int → (List Int) → Int → Bool → Option ρ) : keccak_Absorb a0_Kind a0_Words a0_At a0_Out a1 k = keccak_Absorb_raw a0_Kind a0_Words a0_At a0_Out a1 k := by unfold keccak_Absorb; rw [shut_eq]
end P
end

section
open Go Go.Abs
set_option linter.unusedVariables false
namespace P
noncomputable def keccak_Sum_raw {ρ : Type} (a0 : Int) (a1 : List Int) (a2 : Int) (k : (List Int) → Int → Option ρ) : Option ρ :=
 keccak_New a0 fun (q0 : Int) (q1 : List Int) (q2 : Int) (q3 : Bool) (q4 : Int) =>
 br (q4 != (0 : Int)) (k [] q4)
  (br (decide (a2 < (0 : Int))) (k [] (8 : Int))
   (br (decide (a2 > (16777216 : Int))) (k [] (8 : Int))
    (keccak_Absorb q0 q1 q2 q3 a1 fun (q5 : Int) (q6 : List Int) (q7 : Int) (q8 : Bool) =>
     keccak_Squeeze q5 q6 q7 q8 a2 fun (q9 : Int) (q10 : List Int) (q11 : Int) (q12 : Bool) (q13 : List Int) =>
      k q13 (0 : Int))))
noncomputable def keccak_Sum {ρ : Type} := shut (keccak_Sum_raw (ρ := ρ))
theorem keccak_Sum_eq {ρ : Type} (a0 : Int) (a1 : List Int) (a2 : Int) (k : (List Int) → Int → Option ρ) : keccak_Sum a0 a1 a2 k = keccak_Sum_raw a0 a1 a2 k := by unfold keccak_Sum; rw [shut_eq]
end P
end

section
open Go Go.Abs
set_option linter.unusedVariables false
namespace P
noncomputable def mac_Digest_raw {ρ : Type} (a0 : Int) (a1 : List Int) (k : (List Int) → Int → Option ρ) : Option ρ :=
 mac_Size a0 fun (q0 : Int) =>
 br (q0 == (0 : Int)) (k [] (9 : Int))
  (br (decide (a0 ≤ (3 : Int))) (sha_Sum a0 a1 fun (q1 : List Int) (q2 : Int) => k q1 q2)
   (mac_Size a0 fun (q3 : Int) => keccak_Sum a0 a1 q3 fun (q4 : List Int) (q5 : Int) => k q4 q5))
noncomputable def mac_Digest {ρ : Type} := shut (mac_Digest_raw (ρ := ρ))
theorem mac_Digest_eq {ρ : Type} (a0 : Int) (a1 : List Int) (k : (List Int) → Int → Option ρ) : mac_Digest a0 a1 k = mac_Digest_raw a0 a1 k := by unfold mac_Digest; rw [shut_eq]
end P
end

section
open Go Go.Abs
set_option linter.unusedVariables false
namespace P
noncomputable def bits_Join_raw {ρ : Type} (a0 : List (List Int)) (k : (List Int) → Option ρ) : Option ρ :=
 slices_Concat_byte a0 fun (q0 : List Int) => k q0
noncomputable def bits_Join {ρ : Type} := shut (bits_Join_raw (ρ := ρ))
theorem bits_Join_eq {ρ : Type} (a0 : List (List Int)) (k : (List Int) → Option ρ) : bits_Join a0 k = bits_Join_raw a0 k := by unfold bits_Join; rw [shut_eq]
end P
end

section
open Go Go.Abs
set_option linter.unusedVariables false
namespace P
noncomputable def mac_digests_f1_raw {ρ : Type} (a0 : List (List Int)) (a1 : Int) (k : (List Int) → Option ρ) : Option ρ :=
 bits_Join a0 fun (q0 : List Int) => mac_Digest a1 q0 fun (q1 : List Int) (q2 : Int) => k q1
noncomputable def mac_digests_f1 {ρ : Type} := shut (mac_digests_f1_raw (ρ := ρ))
theorem mac_digests_f1_eq {ρ : Type} (a0 : List (List Int)) (a1 : Int) (k : (List Int) → Option ρ) : mac_digests_f1 a0 a1 k = mac_digests_f1_raw a0 a1 k := by unfold mac_digests_f1; rw [shut_eq]
end P
end

section
open Go Go.Abs
set_option linter.unusedVariables false
namespace P
noncomputable def mac_digests_raw {ρ : Type} (a0 : Int) (k : Int → Option ρ) : Option ρ :=
 k a0
noncomputable def mac_digests {ρ : Type} := shut (mac_digests_raw (ρ := ρ))
theorem mac_digests_eq {ρ : Type} (a0 : Int) (k : Int → Option ρ) : mac_digests a0 k = mac_digests_raw a0 k := by unfold mac_digests; rw [shut_eq]
end P
end

section
open Go Go.Abs
set_option linter.unusedVariables false
namespace P
noncomputable def mac_stirred_r4 {ρ : Type} (v2 : Int) (v15 : Int) (v16 : Int) (h0 : List Int) (nx : Int → Int → Int → (List Int) → Option ρ) (k0 : Int → Int → Int → (List Int) → Option ρ) : Option ρ :=
 br (decide (v16 < v15))
 (br (decide ((0 : Int) ≤ v16))
  (br (decide (v16 < (↑h0.length : Int)))
   (br (decide ((0 : Int) ≤ v16))
    (br (decide (v16 < (↑h0.length : Int)))
     (nx v2 v15 (IntKind.i64.wrap (v16 + (1 : Int)))
      (h0.set v16.toNat (bits BinOp.xor IntKind.u8 (h0.getD v16.toNat (0 : Int)) v2)))
     none)
    none)
   none)
  none)
 (k0 v2 v15 v16 h0)
noncomputable def mac_stirred_L4 {ρ : Type} (v2 : Int) (v15 : Int) (v16 : Int) (h0 : List Int) (k0 : Int → Int → Int → (List Int) → Option ρ) : Option ρ :=
 lp (fun (x : Int × Int × Int × (List Int)) next (ex : (Int × Int × Int × (List Int)) → Option ρ) => mac_stirred_r4 x.1 x.2.1 x.2.2.1 x.2.2.2 (fun v2 v15 v16 h0 => next (v2, v15, v16, h0)) (fun v2 v15 v16 h0 => ex (v2, v15, v16, h0))) (v2, v15, v16, h0) (fun x => k0 x.1 x.2.1 x.2.2.1 x.2.2.2)
noncomputable def mac_stirred_l4 {ρ : Type} := shut (mac_stirred_L4 (ρ := ρ))
theorem mac_stirred_l4_eq {ρ : Type} : mac_stirred_l4 (ρ := ρ) = mac_stirred_L4 := shut_eq _
noncomputable def mac_stirred_raw {ρ : Type} (a0 : List Int) (a1 : Int) (a2 : Int) (k : (List Int) → Option ρ) : Option ρ :=
 br (decide ((0 : Int) ≤ a1))
 (br (decide (a1 ≤ a1))
  (br (decide (a1 * (↑1 : Int) ≤ (↑140737488355328 : Int)))
   (mac_stirred_l4 a2
    (↑((List.take (List.replicate a1.toNat (0 : Int)).length a0).append
        (List.drop (0 + min (List.replicate a1.toNat (0 : Int)).length a0.length)
         (List.replicate a1.toNat (0 : Int)))).length :
     Int)
    (0 : Int)
    ((List.take (List.replicate a1.toNat (0 : Int)).length a0).append
     (List.drop (0 + min (List.replicate a1.toNat (0 : Int)).length a0.length)
      (List.replicate a1.toNat (0 : Int))))
    fun (q0 q1 q2 : Int) (q3 : List Int) => k q3)
   none)
  none)
 none
noncomputable def mac_stirred {ρ : Type} := shut (mac_stirred_raw (ρ := ρ))
theorem mac_stirred_eq {ρ : Type} (a0 : List Int) (a1 : Int) (a2 : Int) (k : (List Int) → Option ρ) : mac_stirred a0 a1 a2 k = mac_stirred_raw a0 a1 a2 k := by unfold mac_stirred; rw [shut_eq]
end P
end

section
open Go Go.Abs
set_option linter.unusedVariables false
namespace P
noncomputable def mac_with_f1_raw {ρ : Type} (a0 : List (List Int)) (a1_c0 : Int) (a2 : List Int) (a3 : List Int) (k : (List Int) → Option ρ) : Option ρ :=
 bits_Join a0 fun (q0 : List Int) =>
 mac_digests_f1 [a3, q0] a1_c0 fun (q1 : List Int) => mac_digests_f1 [a2, q1] a1_c0 fun (q2 : List Int) => k q2
noncomputable def mac_with_f1 {ρ : Type} := shut (mac_with_f1_raw (ρ := ρ))
theorem mac_with_f1_eq {ρ : Type} (a0 : List (List Int)) (a1_c0 : Int) (a2 : List Int) (a3 : List Int) (k : (List Int) → Option ρ) : mac_with_f1 a0 a1_c0 a2 a3 k = mac_with_f1_raw a0 a1_c0 a2 a3 k := by unfold mac_with_f1; rw [shut_eq]
end P
end

section
open Go Go.Abs
set_option linter.unusedVariables false
namespace P
noncomputable def mac_with_raw {ρ : Type} (a0 : Int) (a1 : List Int) (k : Int → (List Int) → (List Int) → Option ρ) : Option ρ :=
 mac_digests a0 fun (q0 : Int) =>
 br (decide ((0 : Int) ≤ a0))
  (br (decide (a0 < (↑8 : Int)))
   (br
    (decide
     (a0.toNat * 2 + 1 <
      16))
    (br
     (decide
      ((↑a1.length : Int) >
       [(0 : Int), (0 : Int), (32 : Int), (64 : Int), (48 : Int), (128 : Int), (64 : Int), (128 : Int),
          (32 : Int), (136 : Int), (64 : Int), (72 : Int), (32 : Int), (168 : Int), (64 : Int),
          (136 : Int)].getD
        (a0.toNat * 2 + 1)
        (0 : Int)))
     (mac_digests_f1 [a1] q0 fun (q1 : List Int) =>
      mac_stirred q1
       ([(0 : Int), (0 : Int), (32 : Int), (64 : Int), (48 : Int), (128 : Int), (64 : Int), (128 : Int),
          (32 : Int), (136 : Int), (64 : Int), (72 : Int), (32 : Int), (168 : Int), (64 : Int),
          (136 : Int)].getD
        (a0.toNat * 2 + 1)
        (0 : Int))
       (54 : Int) fun (q2 : List Int) =>
       mac_stirred q1
        ([(0 : Int), (0 : Int), (32 : Int), (64 : Int), (48 : Int), (128 : Int), (64 : Int), (128 : Int),
           (32 : Int), (136 : Int), (64 : Int), (72 : Int), (32 : Int), (168 : Int), (64 : Int),
           (136 : Int)].getD
         (a0.toNat * 2 + 1)
         (0 : Int))
        (92 : Int) fun (q3 : List Int) => k q0 q3 q2)
     (mac_stirred a1
      ([(0 : Int), (0 : Int), (32 : Int), (64 : Int), (48 : Int), (128 : Int), (64 : Int), (128 : Int),
         (32 : Int), (136 : Int), (64 : Int), (72 : Int), (32 : Int), (168 : Int), (64 : Int),
         (136 : Int)].getD
       (a0.toNat * 2 + 1)
       (0 : Int))
      (54 : Int) fun (q4 : List Int) =>
      mac_stirred a1
       ([(0 : Int), (0 : Int), (32 : Int), (64 : Int), (48 : Int), (128 : Int), (64 : Int), (128 : Int),
          (32 : Int), (136 : Int), (64 : Int), (72 : Int), (32 : Int), (168 : Int), (64 : Int),
          (136 : Int)].getD
        (a0.toNat * 2 + 1)
        (0 : Int))
       (92 : Int) fun (q5 : List Int) => k q0 q5 q4))
    none)
   none)
  none
noncomputable def mac_with {ρ : Type} := shut (mac_with_raw (ρ := ρ))
theorem mac_with_eq {ρ : Type} (a0 : Int) (a1 : List Int) (k : Int → (List Int) → (List Int) → Option ρ) : mac_with a0 a1 k = mac_with_raw a0 a1 k := by unfold mac_with; rw [shut_eq]
end P
end

section
open Go Go.Abs
set_option linter.unusedVariables false
namespace P
noncomputable def mac_Hmac_raw {ρ : Type} (a0 : Int) (a1 : List Int) (a2 : List Int) (k : (List Int) → Int → Option ρ) : Option ρ :=
 mac_keyed a0 fun (q0 : Bool) =>
 br (!q0) (k [] (9 : Int))
  (mac_with a0 a1 fun (q1 : Int) (q2 q3 : List Int) =>
   mac_with_f1 [a2] q1 q2 q3 fun (q4 : List Int) => k q4 (0 : Int))
noncomputable def mac_Hmac {ρ : Type} := shut (mac_Hmac_raw (ρ := ρ))
theorem mac_Hmac_eq {ρ : Type} (a0 : Int) (a1 : List Int) (a2 : List Int) (k : (List Int) → Int → Option ρ) : mac_Hmac a0 a1 a2 k = mac_Hmac_raw a0 a1 a2 k := by unfold mac_Hmac; rw [shut_eq]
end P
end

section
open Go Go.Abs
set_option linter.unusedVariables false
namespace P
noncomputable def R01_Same_r4 {ρ : Type} (v0 : List Int) (v1 : List Int) (v5 : Int) (nx : (List Int) → (List Int) → Int → Option ρ) (k0 : (List Int) → (List Int) → Int → Option ρ) (k1 : Bool → Option ρ) : Option ρ :=
 br (decide (v5 < (↑v0.length : Int)))
 (br (decide ((0 : Int) ≤ v5))
  (br (decide (v5 < (↑v0.length : Int)))
   (br (decide ((0 : Int) ≤ v5))
    (br (decide (v5 < (↑v1.length : Int)))
     (br (v0.getD v5.toNat (0 : Int) != v1.getD v5.toNat (0 : Int)) (k1 false)
      (nx v0 v1 (IntKind.i64.wrap (v5 + (1 : Int)))))
     none)
    none)
   none)
  none)
 (k0 v0 v1 v5)
noncomputable def R01_Same_L4 {ρ : Type} (v0 : List Int) (v1 : List Int) (v5 : Int) (k0 : (List Int) → (List Int) → Int → Option ρ) (k1 : Bool → Option ρ) : Option ρ :=
 lp (fun (x : (List Int) × (List Int) × Int) next (ex : ((List Int) × (List Int) × Int) ⊕ (Bool) → Option ρ) => R01_Same_r4 x.1 x.2.1 x.2.2 (fun v0 v1 v5 => next (v0, v1, v5)) (fun v0 v1 v5 => ex (.inl (v0, v1, v5))) (fun v4 => ex (.inr v4))) (v0, v1, v5) (Sum.elim (fun x => k0 x.1 x.2.1 x.2.2) (fun x => k1 x))
noncomputable def R01_Same_l4 {ρ : Type} := shut (R01_Same_L4 (ρ := ρ))
theorem R01_Same_l4_eq {ρ : Type} : R01_Same_l4 (ρ := ρ) = R01_Same_L4 := shut_eq _
noncomputable def R01_Same_raw {ρ : Type} (a0 : List Int) (a1 : List Int) (k : Bool → Option ρ) : Option ρ :=
 br ((↑a0.length : Int) != (↑a1.length : Int)) (k false)
 (R01_Same_l4 a0 a1 (0 : Int) (fun (q0 q1 : List Int) (q2 : Int) => k true) fun (q3 : Bool) => k q3)
noncomputable def R01_Same {ρ : Type} := shut (R01_Same_raw (ρ := ρ))
theorem R01_Same_eq {ρ : Type} (a0 : List Int) (a1 : List Int) (k : Bool → Option ρ) : R01_Same a0 a1 k = R01_Same_raw a0 a1 k := by unfold R01_Same; rw [shut_eq]
end P
end

section
open Go Go.Abs
set_option linter.unusedVariables false
namespace P
noncomputable def mac_Expand_r8 {ρ : Type} (v2 : List Int) (v3 : Int) (v10_c0_0_c0_0 : Int) (v10_c1_0 : List Int) (v10_c2_0 : List Int) (v12 : List Int) (v13 : Int) (h0 : List Int) (nx : (List Int) → Int → Int → (List Int) → (List Int) → (List Int) → Int → (List Int) → Option ρ) (k0 : (List Int) → Int → Int → (List Int) → (List Int) → (List Int) → Int → (List Int) → Option ρ) : Option ρ :=
 br (decide ((↑h0.length : Int) < v3))
 (mac_with_f1 [v12, v2, [v13]] v10_c0_0_c0_0 v10_c1_0 v10_c2_0 fun (q0 : List Int) =>
  br
   (decide
    ((h0.length + q0.length) * 1 ≤
     140737488355328))
   (nx v2 v3 v10_c0_0_c0_0 v10_c1_0 v10_c2_0 q0 (IntKind.u8.wrap (v13 + (1 : Int))) (h0 ++ q0)) none)
 (k0 v2 v3 v10_c0_0_c0_0 v10_c1_0 v10_c2_0 v12 v13 h0)
noncomputable def mac_Expand_L8 {ρ : Type} (v2 : List Int) (v3 : Int) (v10_c0_0_c0_0 : Int) (v10_c1_0 : List Int) (v10_c2_0 : List Int) (v12 : List Int) (v13 : Int) (h0 : List Int) (k0 : (List Int) → Int → Int → (List Int) → (List Int) → (List Int) → Int → (List Int) → Option ρ) : Option ρ :=
 lp (fun (x : (List Int) × Int × Int × (List Int) × (List Int) × (List Int) × Int × (List Int)) next (ex : ((List Int) × Int × Int × (List Int) × (List Int) × (List Int) × Int × (List Int)) → Option ρ) => mac_Expand_r8 x.1 x.2.1 x.2.2.1 x.2.2.2.1 x.2.2.2.2.1 x.2.2.2.2.2.1 x.2.2.2.2.2.2.1 x.2.2.2.2.2.2.2 (fun v2 v3 v10_c0_0_c0_0 v10_c1_0 v10_c2_0 v12 v13 h0 => next (v2, v3, v10_c0_0_c0_0, v10_c1_0, v10_c2_0, v12, v13, h0)) (fun v2 v3 v10_c0_0_c0_0 v10_c1_0 v10_c2_0 v12 v13 h0 => ex (v2, v3, v10_c0_0_c0_0, v10_c1_0, v10_c2_0, v12, v13, h0))) (v2, v3, v10_c0_0_c0_0, v10_c1_0, v10_c2_0, v12, v13, h0) (fun x => k0 x.1 x.2.1 x.2.2.1 x.2.2.2.1 x.2.2.2.2.1 x.2.2.2.2.2.1 x.2.2.2.2.2.2.1 x.2.2.2.2.2.2.2)
noncomputable def mac_Expand_l8 {ρ : Type} := shut (mac_Expand_L8 (ρ := ρ))
theorem mac_Expand_l8_eq {ρ : Type} : mac_Expand_l8 (ρ := ρ) = mac_Expand_L8 := shut_eq _
noncomputable def mac_Expand_raw {ρ : Type} (a0 : Int) (a1 : List Int) (a2 : List Int) (a3 : Int) (k : (List Int) → Int → Option ρ) : Option ρ :=
 mac_keyed a0 fun (q0 : Bool) =>
 br (!q0) (k [] (9 : Int))
  (br (decide (a3 < (0 : Int))) (k [] (8 : Int))
   (mac_Size a0 fun (q1 : Int) =>
    br (decide (a3 > IntKind.i64.wrap ((255 : Int) * q1))) (k [] (8 : Int))
     (mac_with a0 a1 fun (q2 : Int) (q3 q4 : List Int) =>
      mac_Expand_l8 a2 a3 q2 q3 q4 [] (1 : Int) []
       fun (q5 : List Int) (q6 q7 : Int) (q8 q9 q10 : List Int) (q11 : Int) (q12 : List Int) =>
       br (decide ((0 : Int) ≤ q6))
        (br (decide (q6 ≤ (↑q12.length : Int)))
         (br (decide (q6 ≤ q6))
          (br (decide (q6 ≤ (↑q12.length : Int)))
           (k (List.drop 0 (List.take q6.toNat q12)) (0 : Int)) none)
          none)
         none)
        none)))
noncomputable def mac_Expand {ρ : Type} := shut (mac_Expand_raw (ρ := ρ))
theorem mac_Expand_eq {ρ : Type} (a0 : Int) (a1 : List Int) (a2 : List Int) (a3 : Int) (k : (List Int) → Int → Option ρ) : mac_Expand a0 a1 a2 a3 k = mac_Expand_raw a0 a1 a2 a3 k := by unfold mac_Expand; rw [shut_eq]
end P
end

section
open Go Go.Abs
set_option linter.unusedVariables false
namespace P
noncomputable def L09_awake_raw {ρ : Type}  (k : Bool → Option ρ) : Option ρ :=
 mac_Hmac (1 : Int) [] [] fun (q0 : List Int) (q1 : Int) =>
 mac_Expand (1 : Int) [] [] (0 : Int) fun (q2 : List Int) (q3 : Int) =>
  br (q1 == (0 : Int))
   (br ((↑q0.length : Int) == (32 : Int))
    (br (decide ((4 : Int) ≤ (↑q0.length : Int)))
     (R01_Same (List.take ((4 : Int) - (0 : Int)).toNat (List.drop 0 q0))
      [(182 : Int), (19 : Int), (103 : Int), (154 : Int)] fun (q4 : Bool) =>
      br q4
       (br (q3 == (0 : Int))
        (br ((↑q2.length : Int) == (0 : Int)) (mac_Size (9 : Int) fun (q5 : Int) => k (q5 == (0 : Int)))
         (k false))
        (k false))
       (k false))
     none)
    (k false))
   (k false)
noncomputable def L09_awake {ρ : Type} := shut (L09_awake_raw (ρ := ρ))
theorem L09_awake_eq {ρ : Type}  (k : Bool → Option ρ) : L09_awake  k = L09_awake_raw  k := by unfold L09_awake; rw [shut_eq]
end P
end

section
open Go Go.Abs
set_option linter.unusedVariables false
namespace P
noncomputable def R09_Size_raw {ρ : Type} (a0 : Int) (k : Int → Option ρ) : Option ρ :=
 br (decide (a0 < (0 : Int))) (k (0 : Int))
 (br (decide (a0 > (7 : Int))) (k (0 : Int))
  (br (decide ((0 : Int) ≤ a0))
   (br (decide (a0 < (↑8 : Int)))
    (k
     ([(0 : Int), (32 : Int), (48 : Int), (64 : Int), (32 : Int), (64 : Int), (32 : Int), (64 : Int)].getD a0.toNat
      (0 : Int)))
    none)
   none))
noncomputable def R09_Size {ρ : Type} := shut (R09_Size_raw (ρ := ρ))
theorem R09_Size_eq {ρ : Type} (a0 : Int) (k : Int → Option ρ) : R09_Size a0 k = R09_Size_raw a0 k := by unfold R09_Size; rw [shut_eq]
end P
end

section
open Go Go.Abs
set_option linter.unusedVariables false
namespace P
noncomputable def R07_New_raw {ρ : Type} (a0 : Int) (k : Int → (List Int) → (List Int) → Int → Int → Option ρ) : Option ρ :=
 br (a0 == (1 : Int))
 (k a0
  [(1779033703 : Int), (3144134277 : Int), (1013904242 : Int), (2773480762 : Int), (1359893119 : Int),
   (2600822924 : Int), (528734635 : Int), (1541459225 : Int)]
  [] (0 : Int) (0 : Int))
 (br (a0 == (2 : Int))
  (k a0
   [(14680500436340154072 : Int), (7105036623409894663 : Int), (10473403895298186519 : Int),
    (1526699215303891257 : Int), (7436329637833083697 : Int), (10282925794625328401 : Int),
    (15784041429090275239 : Int), (5167115440072839076 : Int)]
   [] (0 : Int) (0 : Int))
  (br (a0 == (3 : Int))
   (k a0
    [(7640891576956012808 : Int), (13503953896175478587 : Int), (4354685564936845355 : Int),
     (11912009170470909681 : Int), (5840696475078001361 : Int), (11170449401992604703 : Int),
     (2270897969802886507 : Int), (6620516959819538809 : Int)]
    [] (0 : Int) (0 : Int))
   (k (0 : Int) [(0 : Int), (0 : Int), (0 : Int), (0 : Int), (0 : Int), (0 : Int), (0 : Int), (0 : Int)] [] (0 : Int)
    (9 : Int))))
noncomputable def R07_New {ρ : Type} := shut (R07_New_raw (ρ := ρ))
theorem R07_New_eq {ρ : Type} (a0 : Int) (k : Int → (List Int) → (List Int) → Int → Int → Option ρ) : R07_New a0 k = R07_New_raw a0 k := by unfold R07_New; rw [shut_eq]
end P
end

section
open Go Go.Abs
set_option linter.unusedVariables false
namespace P
noncomputable def R01_Be_r5 {ρ : Type} (v0 : Int) (v6 : Int) (h0 : List Int) (nx : Int → Int → (List Int) → Option ρ) (k0 : Int → Int → (List Int) → Option ρ) : Option ρ :=
 br (decide (v6 ≥ (0 : Int)))
 (br (decide ((0 : Int) ≤ v6))
  (br (decide (v6 < (↑h0.length : Int)))
   (nx (v0.fdiv ((2 : Int) ^ 8)) (IntKind.i64.wrap (v6 - (1 : Int)))
    (h0.set v6.toNat (IntKind.u8.wrap (bits BinOp.and IntKind.u64 v0 (255 : Int)))))
   none)
  none)
 (k0 v0 v6 h0)
noncomputable def R01_Be_L5 {ρ : Type} (v0 : Int) (v6 : Int) (h0 : List Int) (k0 : Int → Int → (List Int) → Option ρ) : Option ρ :=
 lp (fun (x : Int × Int × (List Int)) next (ex : (Int × Int × (List Int)) → Option ρ) => R01_Be_r5 x.1 x.2.1 x.2.2 (fun v0 v6 h0 => next (v0, v6, h0)) (fun v0 v6 h0 => ex (v0, v6, h0))) (v0, v6, h0) (fun x => k0 x.1 x.2.1 x.2.2)
noncomputable def R01_Be_l5 {ρ : Type} := shut (R01_Be_L5 (ρ := ρ))
theorem R01_Be_l5_eq {ρ : Type} : R01_Be_l5 (ρ := ρ) = R01_Be_L5 := shut_eq _
noncomputable def R01_Be_raw {ρ : Type} (a0 : Int) (a1 : Int) (k : (List Int) → Option ρ) : Option ρ :=
 br (decide (a1 < (0 : Int))) (k [])
 (br (decide (a1 > (65536 : Int))) (k [])
  (br (decide ((0 : Int) ≤ a1))
   (br (decide (a1 ≤ a1))
    (br (decide (a1 * (↑1 : Int) ≤ (↑140737488355328 : Int)))
     (R01_Be_l5 a0 (IntKind.i64.wrap (a1 - (1 : Int))) (List.replicate a1.toNat (0 : Int))
      fun (q0 q1 : Int) (q2 : List Int) => k q2)
     none)
    none)
   none))
noncomputable def R01_Be {ρ : Type} := shut (R01_Be_raw (ρ := ρ))
theorem R01_Be_eq {ρ : Type} (a0 : Int) (a1 : Int) (k : (List Int) → Option ρ) : R01_Be a0 a1 k = R01_Be_raw a0 a1 k := by unfold R01_Be; rw [shut_eq]
end P
end

section
open Go Go.Abs
set_option linter.unusedVariables false
namespace P
noncomputable def R01_Join_r3 {ρ : Type} (v0 : List (List Int)) (v4 : Int) (h0 : List Int) (nx : (List (List Int)) → Int → (List Int) → Option ρ) (k0 : (List (List Int)) → Int → (List Int) → Option ρ) : Option ρ :=
 br (decide (v4 < (↑v0.length : Int)))
 (br (decide ((0 : Int) ≤ v4))
  (br (decide (v4 < (↑v0.length : Int)))
   (br
    (decide
     ((h0.length + (v0.getD v4.toNat []).length) *
       1 ≤
      140737488355328))
    (nx v0 (IntKind.i64.wrap (v4 + (1 : Int))) (h0 ++ v0.getD v4.toNat [])) none)
   none)
  none)
 (k0 v0 v4 h0)
noncomputable def R01_Join_L3 {ρ : Type} (v0 : List (List Int)) (v4 : Int) (h0 : List Int) (k0 : (List (List Int)) → Int → (List Int) → Option ρ) : Option ρ :=
 lp (fun (x : (List (List Int)) × Int × (List Int)) next (ex : ((List (List Int)) × Int × (List Int)) → Option ρ) => R01_Join_r3 x.1 x.2.1 x.2.2 (fun v0 v4 h0 => next (v0, v4, h0)) (fun v0 v4 h0 => ex (v0, v4, h0))) (v0, v4, h0) (fun x => k0 x.1 x.2.1 x.2.2)
noncomputable def R01_Join_l3 {ρ : Type} := shut (R01_Join_L3 (ρ := ρ))
theorem R01_Join_l3_eq {ρ : Type} : R01_Join_l3 (ρ := ρ) = R01_Join_L3 := shut_eq _
noncomputable def R01_Join_raw {ρ : Type} (a0 : List (List Int)) (k : (List Int) → Option ρ) : Option ρ :=
 R01_Join_l3 a0 (0 : Int) [] fun (q0 : List (List Int)) (q1 : Int) (q2 : List Int) => k q2
noncomputable def R01_Join {ρ : Type} := shut (R01_Join_raw (ρ := ρ))
theorem R01_Join_eq {ρ : Type} (a0 : List (List Int)) (k : (List Int) → Option ρ) : R01_Join a0 k = R01_Join_raw a0 k := by unfold R01_Join; rw [shut_eq]
end P
end

section
open Go Go.Abs
set_option linter.unusedVariables false
namespace P
noncomputable def R07_Block_raw {ρ : Type} (a0 : Int) (k : Int → Option ρ) : Option ρ :=
 br (a0 == (1 : Int)) (k (64 : Int)) (k (128 : Int))
noncomputable def R07_Block {ρ : Type} := shut (R07_Block_raw (ρ := ρ))
theorem R07_Block_eq {ρ : Type} (a0 : Int) (k : Int → Option ρ) : R07_Block a0 k = R07_Block_raw a0 k := by unfold R07_Block; rw [shut_eq]
end P
end

section
open Go Go.Abs
set_option linter.unusedVariables false
namespace P
noncomputable def R07_roots256_raw {ρ : Type}  (k : (List Int) → Option ρ) : Option ρ :=
 k
 [(1116352408 : Int), (1899447441 : Int), (3049323471 : Int), (3921009573 : Int), (961987163 : Int),
  (1508970993 : Int), (2453635748 : Int), (2870763221 : Int), (3624381080 : Int), (310598401 : Int),
  (607225278 : Int), (1426881987 : Int), (1925078388 : Int), (2162078206 : Int), (2614888103 : Int),
  (3248222580 : Int), (3835390401 : Int), (4022224774 : Int), (264347078 : Int), (604807628 : Int), (770255983 : Int),
  (1249150122 : Int), (1555081692 : Int), (1996064986 : Int), (2554220882 : Int), (2821834349 : Int),
  (2952996808 : Int), (3210313671 : Int), (3336571891 : Int), (3584528711 : Int), (113926993 : Int),
  (338241895 : Int), (666307205 : Int), (773529912 : Int), (1294757372 : Int), (1396182291 : Int), (1695183700 : Int),
  (1986661051 : Int), (2177026350 : Int), (2456956037 : Int), (2730485921 : Int), (2820302411 : Int),
  (3259730800 : Int), (3345764771 : Int), (3516065817 : Int), (3600352804 : Int), (4094571909 : Int),
  (275423344 : Int), (430227734 : Int), (506948616 : Int), (659060556 : Int), (883997877 : Int), (958139571 : Int),
  (1322822218 : Int), (1537002063 : Int), (1747873779 : Int), (1955562222 : Int), (2024104815 : Int),
  (2227730452 : Int), (2361852424 : Int), (2428436474 : Int), (2756734187 : Int), (3204031479 : Int),
  (3329325298 : Int)]
noncomputable def R07_roots256 {ρ : Type} := shut (R07_roots256_raw (ρ := ρ))
theorem R07_roots256_eq {ρ : Type}  (k : (List Int) → Option ρ) : R07_roots256  k = R07_roots256_raw  k := by unfold R07_roots256; rw [shut_eq]
end P
end

section
open Go Go.Abs
set_option linter.unusedVariables false
namespace P
noncomputable def R07_roots512_raw {ρ : Type}  (k : (List Int) → Option ρ) : Option ρ :=
 k
 [(4794697086780616226 : Int), (8158064640168781261 : Int), (13096744586834688815 : Int), (16840607885511220156 : Int),
  (4131703408338449720 : Int), (6480981068601479193 : Int), (10538285296894168987 : Int),
  (12329834152419229976 : Int), (15566598209576043074 : Int), (1334009975649890238 : Int),
  (2608012711638119052 : Int), (6128411473006802146 : Int), (8268148722764581231 : Int), (9286055187155687089 : Int),
  (11230858885718282805 : Int), (13951009754708518548 : Int), (16472876342353939154 : Int),
  (17275323862435702243 : Int), (1135362057144423861 : Int), (2597628984639134821 : Int), (3308224258029322869 : Int),
  (5365058923640841347 : Int), (6679025012923562964 : Int), (8573033837759648693 : Int), (10970295158949994411 : Int),
  (12119686244451234320 : Int), (12683024718118986047 : Int), (13788192230050041572 : Int),
  (14330467153632333762 : Int), (15395433587784984357 : Int), (489312712824947311 : Int), (1452737877330783856 : Int),
  (2861767655752347644 : Int), (3322285676063803686 : Int), (5560940570517711597 : Int), (5996557281743188959 : Int),
  (7280758554555802590 : Int), (8532644243296465576 : Int), (9350256976987008742 : Int), (10552545826968843579 : Int),
  (11727347734174303076 : Int), (12113106623233404929 : Int), (14000437183269869457 : Int),
  (14369950271660146224 : Int), (15101387698204529176 : Int), (15463397548674623760 : Int),
  (17586052441742319658 : Int), (1182934255886127544 : Int), (1847814050463011016 : Int), (2177327727835720531 : Int),
  (2830643537854262169 : Int), (3796741975233480872 : Int), (4115178125766777443 : Int), (5681478168544905931 : Int),
  (6601373596472566643 : Int), (7507060721942968483 : Int), (8399075790359081724 : Int), (8693463985226723168 : Int),
  (9568029438360202098 : Int), (10144078919501101548 : Int), (10430055236837252648 : Int),
  (11840083180663258601 : Int), (13761210420658862357 : Int), (14299343276471374635 : Int),
  (14566680578165727644 : Int), (15097957966210449927 : Int), (16922976911328602910 : Int),
  (17689382322260857208 : Int), (500013540394364858 : Int), (748580250866718886 : Int), (1242879168328830382 : Int),
  (1977374033974150939 : Int), (2944078676154940804 : Int), (3659926193048069267 : Int), (4368137639120453308 : Int),
  (4836135668995329356 : Int), (5532061633213252278 : Int), (6448918945643986474 : Int), (6902733635092675308 : Int),
  (7801388544844847127 : Int)]
noncomputable def R07_roots512 {ρ : Type} := shut (R07_roots512_raw (ρ := ρ))
theorem R07_roots512_eq {ρ : Type}  (k : (List Int) → Option ρ) : R07_roots512  k = R07_roots512_raw  k := by unfold R07_roots512; rw [shut_eq]
end P
end

section
open Go Go.Abs
set_option linter.unusedVariables false
namespace P
noncomputable def R07_right_raw {ρ : Type} (a0 : Int) (a1 : Int) (a2 : Bool) (k : Int → Option ρ) : Option ρ :=
 br a2
 (br (decide (a1 < (0 : Int))) none
  (br (decide (IntKind.i64.wrap ((64 : Int) - a1) < (0 : Int))) none
   (k
    (bits BinOp.or IntKind.u64 (a0.fdiv ((2 : Int) ^ min a1.toNat 64))
     (IntKind.u64.wrap (a0 * (2 : Int) ^ min (IntKind.i64.wrap ((64 : Int) - a1)).toNat 64))))))
 (br (decide (a1 < (0 : Int))) none
  (br (decide (IntKind.i64.wrap ((32 : Int) - a1) < (0 : Int))) none
   (k
    (bits BinOp.or IntKind.u64 (a0.fdiv ((2 : Int) ^ min a1.toNat 64))
     (bits BinOp.and IntKind.u64
      (IntKind.u64.wrap (a0 * (2 : Int) ^ min (IntKind.i64.wrap ((32 : Int) - a1)).toNat 64))
      (4294967295 : Int))))))
noncomputable def R07_right {ρ : Type} := shut (R07_right_raw (ρ := ρ))
theorem R07_right_eq {ρ : Type} (a0 : Int) (a1 : Int) (a2 : Bool) (k : Int → Option ρ) : R07_right a0 a1 a2 k = R07_right_raw a0 a1 a2 k := by unfold R07_right; rw [shut_eq]
end P
end

section
open Go Go.Abs
set_option linter.unusedVariables false
namespace P
noncomputable def R07_mix_raw {ρ : Type} (a0 : Int) (a1 : Int) (a2 : Int) (a3 : Int) (a4 : Bool) (a5 : Bool) (k : Int → Option ρ) : Option ρ :=
 br (decide (a3 < (0 : Int))) none
 (br (!a4)
  (R07_right a0 a3 a5 fun (q0 : Int) =>
   R07_right a0 a1 a5 fun (q1 : Int) =>
    R07_right a0 a2 a5 fun (q2 : Int) => k (bits BinOp.xor IntKind.u64 (bits BinOp.xor IntKind.u64 q1 q2) q0))
  (R07_right a0 a1 a5 fun (q3 : Int) =>
   R07_right a0 a2 a5 fun (q4 : Int) =>
    k
     (bits BinOp.xor IntKind.u64 (bits BinOp.xor IntKind.u64 q3 q4)
      (a0.fdiv ((2 : Int) ^ min a3.toNat 64)))))
noncomputable def R07_mix {ρ : Type} := shut (R07_mix_raw (ρ := ρ))
theorem R07_mix_eq {ρ : Type} (a0 : Int) (a1 : Int) (a2 : Int) (a3 : Int) (a4 : Bool) (a5 : Bool) (k : Int → Option ρ) : R07_mix a0 a1 a2 a3 a4 a5 k = R07_mix_raw a0 a1 a2 a3 a4 a5 k := by unfold R07_mix; rw [shut_eq]
end P
end

section
open Go Go.Abs
set_option linter.unusedVariables false
namespace P
noncomputable def R01_Num_r3 {ρ : Type} (v0 : List Int) (v3 : Int) (v4 : Int) (nx : (List Int) → Int → Int → Option ρ) (k0 : (List Int) → Int → Int → Option ρ) : Option ρ :=
 br (decide (v4 < (↑v0.length : Int)))
 (br (decide ((0 : Int) ≤ v4))
  (br (decide (v4 < (↑v0.length : Int)))
   (nx v0 (IntKind.u64.wrap (IntKind.u64.wrap (v3 * (256 : Int)) + IntKind.u64.wrap (v0.getD v4.toNat (0 : Int))))
    (IntKind.i64.wrap (v4 + (1 : Int))))
   none)
  none)
 (k0 v0 v3 v4)
noncomputable def R01_Num_L3 {ρ : Type} (v0 : List Int) (v3 : Int) (v4 : Int) (k0 : (List Int) → Int → Int → Option ρ) : Option ρ :=
 lp (fun (x : (List Int) × Int × Int) next (ex : ((List Int) × Int × Int) → Option ρ) => R01_Num_r3 x.1 x.2.1 x.2.2 (fun v0 v3 v4 => next (v0, v3, v4)) (fun v0 v3 v4 => ex (v0, v3, v4))) (v0, v3, v4) (fun x => k0 x.1 x.2.1 x.2.2)
noncomputable def R01_Num_l3 {ρ : Type} := shut (R01_Num_L3 (ρ := ρ))
theorem R01_Num_l3_eq {ρ : Type} : R01_Num_l3 (ρ := ρ) = R01_Num_L3 := shut_eq _
noncomputable def R01_Num_raw {ρ : Type} (a0 : List Int) (k : Int → Option ρ) : Option ρ :=
 R01_Num_l3 a0 (0 : Int) (0 : Int) fun (q0 : List Int) (q1 q2 : Int) => k q1
noncomputable def R01_Num {ρ : Type} := shut (R01_Num_raw (ρ := ρ))
theorem R01_Num_eq {ρ : Type} (a0 : List Int) (k : Int → Option ρ) : R01_Num a0 k = R01_Num_raw a0 k := by unfold R01_Num; rw [shut_eq]
end P
end

section
open Go Go.Abs
set_option linter.unusedVariables false
namespace P
noncomputable def R07_words_r6 {ρ : Type} (v0 : List Int) (v1 : Bool) (v2 : Int) (v3 : Int) (v9 : Int) (v11 : Int) (h0 : List Int) (nx : (List Int) → Bool → Int → Int → Int → Int → (List Int) → Option ρ) (k0 : (List Int) → Bool → Int → Int → Int → Int → (List Int) → Option ρ) : Option ρ :=
 br (decide (v11 < v2))
 (br (decide (v11 < (16 : Int)))
  (br (decide ((0 : Int) ≤ IntKind.i64.wrap (v11 * v9)))
   (br (decide (IntKind.i64.wrap (v11 * v9) ≤ IntKind.i64.wrap (IntKind.i64.wrap (v11 * v9) + v9)))
    (br (decide (IntKind.i64.wrap (IntKind.i64.wrap (v11 * v9) + v9) ≤ (↑v0.length : Int)))
     (R01_Num
      (List.drop (IntKind.i64.wrap (v11 * v9)).toNat
       (List.take (IntKind.i64.wrap (IntKind.i64.wrap (v11 * v9) + v9)).toNat v0))
      fun (q0 : Int) =>
      br
       (decide
        ((h0.length + 1) *
          8 ≤
         140737488355328))
       (nx v0 v1 v2 v3 v9 (IntKind.i64.wrap (v11 + (1 : Int))) (h0 ++ [q0])) none)
     none)
    none)
   none)
  (br (decide ((0 : Int) ≤ IntKind.i64.wrap (v11 - (15 : Int))))
   (br (decide (IntKind.i64.wrap (v11 - (15 : Int)) < (↑h0.length : Int)))
    (R07_mix (h0.getD (IntKind.i64.wrap (v11 - (15 : Int))).toNat (0 : Int)) (7 : Int) (18 : Int) (3 : Int) true
     false fun (q1 : Int) =>
     br (decide ((0 : Int) ≤ IntKind.i64.wrap (v11 - (2 : Int))))
      (br (decide (IntKind.i64.wrap (v11 - (2 : Int)) < (↑h0.length : Int)))
       (R07_mix (h0.getD (IntKind.i64.wrap (v11 - (2 : Int))).toNat (0 : Int)) (17 : Int) (19 : Int) (10 : Int)
        true false fun (q2 : Int) =>
        br v1
         (br (decide ((0 : Int) ≤ IntKind.i64.wrap (v11 - (15 : Int))))
          (br (decide (IntKind.i64.wrap (v11 - (15 : Int)) < (↑h0.length : Int)))
           (R07_mix (h0.getD (IntKind.i64.wrap (v11 - (15 : Int))).toNat (0 : Int)) (1 : Int) (8 : Int)
            (7 : Int) true true fun (q3 : Int) =>
            br (decide ((0 : Int) ≤ IntKind.i64.wrap (v11 - (2 : Int))))
             (br (decide (IntKind.i64.wrap (v11 - (2 : Int)) < (↑h0.length : Int)))
              (R07_mix (h0.getD (IntKind.i64.wrap (v11 - (2 : Int))).toNat (0 : Int)) (19 : Int)
               (61 : Int) (6 : Int) true true fun (q4 : Int) =>
               br (decide ((0 : Int) ≤ IntKind.i64.wrap (v11 - (7 : Int))))
                (br (decide (IntKind.i64.wrap (v11 - (7 : Int)) < (↑h0.length : Int)))
                 (br (decide ((0 : Int) ≤ IntKind.i64.wrap (v11 - (16 : Int))))
                  (br (decide (IntKind.i64.wrap (v11 - (16 : Int)) < (↑h0.length : Int)))
                   (br
                    (decide
                     ((h0.length + 1) *
                       8 ≤
                      140737488355328))
                    (nx v0 v1 v2 v3 v9 (IntKind.i64.wrap (v11 + (1 : Int)))
                     (h0 ++
                      [bits BinOp.and IntKind.u64
                        (IntKind.u64.wrap
                         (IntKind.u64.wrap
                           (IntKind.u64.wrap
                             (q4 +
                              h0.getD (IntKind.i64.wrap (v11 - (7 : Int))).toNat
                               (0 : Int)) +
                            q3) +
                          h0.getD (IntKind.i64.wrap (v11 - (16 : Int))).toNat (0 : Int)))
                        v3]))
                    none)
                   none)
                  none)
                 none)
                none)
              none)
             none)
           none)
          none)
         (br (decide ((0 : Int) ≤ IntKind.i64.wrap (v11 - (7 : Int))))
          (br (decide (IntKind.i64.wrap (v11 - (7 : Int)) < (↑h0.length : Int)))
           (br (decide ((0 : Int) ≤ IntKind.i64.wrap (v11 - (16 : Int))))
            (br (decide (IntKind.i64.wrap (v11 - (16 : Int)) < (↑h0.length : Int)))
             (br
              (decide
               ((h0.length + 1) *
                 8 ≤
                140737488355328))
              (nx v0 v1 v2 v3 v9 (IntKind.i64.wrap (v11 + (1 : Int)))
               (h0 ++
                [bits BinOp.and IntKind.u64
                  (IntKind.u64.wrap
                   (IntKind.u64.wrap
                     (IntKind.u64.wrap
                       (q2 + h0.getD (IntKind.i64.wrap (v11 - (7 : Int))).toNat (0 : Int)) +
                      q1) +
                    h0.getD (IntKind.i64.wrap (v11 - (16 : Int))).toNat (0 : Int)))
                  v3]))
              none)
             none)
            none)
           none)
          none))
       none)
      none)
    none)
   none))
 (k0 v0 v1 v2 v3 v9 v11 h0)
noncomputable def R07_words_L6 {ρ : Type} (v0 : List Int) (v1 : Bool) (v2 : Int) (v3 : Int) (v9 : Int) (v11 : Int) (h0 : List Int) (k0 : (List Int) → Bool → Int → Int → Int → Int → (List Int) → Option ρ) : Option ρ :=
 lp (fun (x : (List Int) × Bool × Int × Int × Int × Int × (List Int)) next (ex : ((List Int) × Bool × Int × Int × Int × Int × (List Int)) → Option ρ) => R07_words_r6 x.1 x.2.1 x.2.2.1 x.2.2.2.1 x.2.2.2.2.1 x.2.2.2.2.2.1 x.2.2.2.2.2.2 (fun v0 v1 v2 v3 v9 v11 h0 => next (v0, v1, v2, v3, v9, v11, h0)) (fun v0 v1 v2 v3 v9 v11 h0 => ex (v0, v1, v2, v3, v9, v11, h0))) (v0, v1, v2, v3, v9, v11, h0) (fun x => k0 x.1 x.2.1 x.2.2.1 x.2.2.2.1 x.2.2.2.2.1 x.2.2.2.2.2.1 x.2.2.2.2.2.2)
noncomputable def R07_words_l6 {ρ : Type} := shut (R07_words_L6 (ρ := ρ))
theorem R07_words_l6_eq {ρ : Type} : R07_words_l6 (ρ := ρ) = R07_words_L6 := shut_eq _
noncomputable def R07_words_raw {ρ : Type} (a0 : List Int) (a1 : Bool) (a2 : Int) (a3 : Int) (k : (List Int) → Option ρ) : Option ρ :=
 br a1
 (R07_words_l6 a0 a1 a2 a3 (8 : Int) (0 : Int) []
  fun (q0 : List Int) (q1 : Bool) (q2 q3 q4 q5 : Int) (q6 : List Int) => k q6)
 (R07_words_l6 a0 a1 a2 a3 (4 : Int) (0 : Int) []
  fun (q7 : List Int) (q8 : Bool) (q9 q10 q11 q12 : Int) (q13 : List Int) => k q13)
noncomputable def R07_words {ρ : Type} := shut (R07_words_raw (ρ := ρ))
theorem R07_words_eq {ρ : Type} (a0 : List Int) (a1 : Bool) (a2 : Int) (a3 : Int) (k : (List Int) → Option ρ) : R07_words a0 a1 a2 a3 k = R07_words_raw a0 a1 a2 a3 k := by unfold R07_words; rw [shut_eq]
end P
end

section
open Go Go.Abs
set_option linter.unusedVariables false
namespace P
noncomputable def R07_block_r11 {ρ : Type} (v2 : Bool) (v7 : Int) (v8 : Int) (v13 : Int) (h0_0 : List Int) (h1_0 : List Int) (h2_0 : List Int) (h3_0 : List Int) (h4 : List Int) (h5_0 : List Int) (nx : Bool → Int → Int → Int → (List Int) → (List Int) → (List Int) → (List Int) → (List Int) → (List Int) → Option ρ) (k0 : Bool → Int → Int → Int → (List Int) → (List Int) → (List Int) → (List Int) → (List Int) → (List Int) → Option ρ) : Option ρ :=
 br (decide (v13 < v7))
 (R07_mix (h5_0.getD 0 (0 : Int)) (2 : Int) (13 : Int) (22 : Int) false false fun (q0 : Int) =>
  R07_mix (h5_0.getD 4 (0 : Int)) (6 : Int) (11 : Int) (25 : Int) false false fun (q1 : Int) =>
   br v2
    (R07_mix (h5_0.getD 0 (0 : Int)) (28 : Int) (34 : Int) (39 : Int) false true fun (q2 : Int) =>
     R07_mix (h5_0.getD 4 (0 : Int)) (14 : Int) (18 : Int) (41 : Int) false true fun (q3 : Int) =>
      br (decide ((0 : Int) ≤ v13))
       (br (decide (v13 < (↑80 : Int)))
        (br (decide ((0 : Int) ≤ v13))
         (br (decide (v13 < (↑h4.length : Int)))
          (nx v2 v7 v8 (IntKind.i64.wrap (v13 + (1 : Int))) h0_0 h1_0 h2_0 h3_0 h4
           [bits BinOp.and IntKind.u64
             (IntKind.u64.wrap
              (IntKind.u64.wrap
                (IntKind.u64.wrap
                  (IntKind.u64.wrap
                    (IntKind.u64.wrap (h5_0.getD 7 (0 : Int) + q3) +
                     bits BinOp.xor IntKind.u64
                      (bits BinOp.and IntKind.u64 (h5_0.getD 4 (0 : Int))
                       (h5_0.getD 5 (0 : Int)))
                      (bits BinOp.and IntKind.u64
                       (bits BinOp.xor IntKind.u64 v8 (h5_0.getD 4 (0 : Int)))
                       (h5_0.getD 6 (0 : Int)))) +
                   h3_0.getD v13.toNat (0 : Int)) +
                 h4.getD v13.toNat (0 : Int)) +
               IntKind.u64.wrap
                (q2 +
                 bits BinOp.xor IntKind.u64
                  (bits BinOp.xor IntKind.u64
                   (bits BinOp.and IntKind.u64 (h5_0.getD 0 (0 : Int))
                    (h5_0.getD 1 (0 : Int)))
                   (bits BinOp.and IntKind.u64 (h5_0.getD 0 (0 : Int))
                    (h5_0.getD 2 (0 : Int))))
                  (bits BinOp.and IntKind.u64 (h5_0.getD 1 (0 : Int))
                   (h5_0.getD 2 (0 : Int))))))
             v8,
            h5_0.getD 0 (0 : Int), h5_0.getD 1 (0 : Int),
            h5_0.getD 2 (0 : Int),
            bits BinOp.and IntKind.u64
             (IntKind.u64.wrap
              (h5_0.getD 3 (0 : Int) +
               IntKind.u64.wrap
                (IntKind.u64.wrap
                  (IntKind.u64.wrap
                    (IntKind.u64.wrap (h5_0.getD 7 (0 : Int) + q3) +
                     bits BinOp.xor IntKind.u64
                      (bits BinOp.and IntKind.u64 (h5_0.getD 4 (0 : Int))
                       (h5_0.getD 5 (0 : Int)))
                      (bits BinOp.and IntKind.u64
                       (bits BinOp.xor IntKind.u64 v8 (h5_0.getD 4 (0 : Int)))
                       (h5_0.getD 6 (0 : Int)))) +
                   h3_0.getD v13.toNat (0 : Int)) +
                 h4.getD v13.toNat (0 : Int))))
             v8,
            h5_0.getD 4 (0 : Int), h5_0.getD 5 (0 : Int),
            h5_0.getD 6 (0 : Int)])
          none)
         none)
        none)
       none)
    (br (decide ((0 : Int) ≤ v13))
     (br (decide (v13 < (↑64 : Int)))
      (br (decide ((0 : Int) ≤ v13))
       (br (decide (v13 < (↑h4.length : Int)))
        (nx v2 v7 v8 (IntKind.i64.wrap (v13 + (1 : Int))) h0_0 h1_0 h2_0 h3_0 h4
         [bits BinOp.and IntKind.u64
           (IntKind.u64.wrap
            (IntKind.u64.wrap
              (IntKind.u64.wrap
                (IntKind.u64.wrap
                  (IntKind.u64.wrap (h5_0.getD 7 (0 : Int) + q1) +
                   bits BinOp.xor IntKind.u64
                    (bits BinOp.and IntKind.u64 (h5_0.getD 4 (0 : Int))
                     (h5_0.getD 5 (0 : Int)))
                    (bits BinOp.and IntKind.u64
                     (bits BinOp.xor IntKind.u64 v8 (h5_0.getD 4 (0 : Int)))
                     (h5_0.getD 6 (0 : Int)))) +
                 h2_0.getD v13.toNat (0 : Int)) +
               h4.getD v13.toNat (0 : Int)) +
             IntKind.u64.wrap
              (q0 +
               bits BinOp.xor IntKind.u64
                (bits BinOp.xor IntKind.u64
                 (bits BinOp.and IntKind.u64 (h5_0.getD 0 (0 : Int))
                  (h5_0.getD 1 (0 : Int)))
                 (bits BinOp.and IntKind.u64 (h5_0.getD 0 (0 : Int))
                  (h5_0.getD 2 (0 : Int))))
                (bits BinOp.and IntKind.u64 (h5_0.getD 1 (0 : Int))
                 (h5_0.getD 2 (0 : Int))))))
           v8,
          h5_0.getD 0 (0 : Int), h5_0.getD 1 (0 : Int), h5_0.getD 2 (0 : Int),
          bits BinOp.and IntKind.u64
           (IntKind.u64.wrap
            (h5_0.getD 3 (0 : Int) +
             IntKind.u64.wrap
              (IntKind.u64.wrap
                (IntKind.u64.wrap
                  (IntKind.u64.wrap (h5_0.getD 7 (0 : Int) + q1) +
                   bits BinOp.xor IntKind.u64
                    (bits BinOp.and IntKind.u64 (h5_0.getD 4 (0 : Int))
                     (h5_0.getD 5 (0 : Int)))
                    (bits BinOp.and IntKind.u64
                     (bits BinOp.xor IntKind.u64 v8 (h5_0.getD 4 (0 : Int)))
                     (h5_0.getD 6 (0 : Int)))) +
                 h2_0.getD v13.toNat (0 : Int)) +
               h4.getD v13.toNat (0 : Int))))
           v8,
          h5_0.getD 4 (0 : Int), h5_0.getD 5 (0 : Int), h5_0.getD 6 (0 : Int)])
        none)
       none)
      none)
     none))
 (k0 v2 v7 v8 v13 h0_0 h1_0 h2_0 h3_0 h4 h5_0)
noncomputable def R07_block_L11 {ρ : Type} (v2 : Bool) (v7 : Int) (v8 : Int) (v13 : Int) (h0_0 : List Int) (h1_0 : List Int) (h2_0 : List Int) (h3_0 : List Int) (h4 : List Int) (h5_0 : List Int) (k0 : Bool → Int → Int → Int → (List Int) → (List Int) → (List Int) → (List Int) → (List Int) → (List Int) → Option ρ) : Option ρ :=
 lp (fun (x : Bool × Int × Int × Int × (List Int) × (List Int) × (List Int) × (List Int) × (List Int) × (List Int)) next (ex : (Bool × Int × Int × Int × (List Int) × (List Int) × (List Int) × (List Int) × (List Int) × (List Int)) → Option ρ) => R07_block_r11 x.1 x.2.1 x.2.2.1 x.2.2.2.1 x.2.2.2.2.1 x.2.2.2.2.2.1 x.2.2.2.2.2.2.1 x.2.2.2.2.2.2.2.1 x.2.2.2.2.2.2.2.2.1 x.2.2.2.2.2.2.2.2.2 (fun v2 v7 v8 v13 h0_0 h1_0 h2_0 h3_0 h4 h5_0 => next (v2, v7, v8, v13, h0_0, h1_0, h2_0, h3_0, h4, h5_0)) (fun v2 v7 v8 v13 h0_0 h1_0 h2_0 h3_0 h4 h5_0 => ex (v2, v7, v8, v13, h0_0, h1_0, h2_0, h3_0, h4, h5_0))) (v2, v7, v8, v13, h0_0, h1_0, h2_0, h3_0, h4, h5_0) (fun x => k0 x.1 x.2.1 x.2.2.1 x.2.2.2.1 x.2.2.2.2.1 x.2.2.2.2.2.1 x.2.2.2.2.2.2.1 x.2.2.2.2.2.2.2.1 x.2.2.2.2.2.2.2.2.1 x.2.2.2.2.2.2.2.2.2)
noncomputable def R07_block_l11 {ρ : Type} := shut (R07_block_L11 (ρ := ρ))
theorem R07_block_l11_eq {ρ : Type} : R07_block_l11 (ρ := ρ) = R07_block_L11 := shut_eq _
noncomputable def R07_block_r25 {ρ : Type} (v8 : Int) (v19 : Int) (h0_0 : List Int) (h1_0 : List Int) (h5_0 : List Int) (nx : Int → Int → (List Int) → (List Int) → (List Int) → Option ρ) (k0 : Int → Int → (List Int) → (List Int) → (List Int) → Option ρ) : Option ρ :=
 br (decide (v19 < (8 : Int)))
 (br (decide ((0 : Int) ≤ v19))
  (br (decide (v19 < (↑8 : Int)))
   (br (decide ((0 : Int) ≤ v19))
    (br (decide (v19 < (↑8 : Int)))
     (br (decide ((0 : Int) ≤ v19))
      (br (decide (v19 < (↑8 : Int)))
       (nx v8 (IntKind.i64.wrap (v19 + (1 : Int))) h0_0 h1_0
        (h5_0.set v19.toNat
         (bits BinOp.and IntKind.u64
          (IntKind.u64.wrap (h5_0.getD v19.toNat (0 : Int) + h0_0.getD v19.toNat (0 : Int))) v8)))
       none)
      none)
     none)
    none)
   none)
  none)
 (k0 v8 v19 h0_0 h1_0 h5_0)
noncomputable def R07_block_L25 {ρ : Type} (v8 : Int) (v19 : Int) (h0_0 : List Int) (h1_0 : List Int) (h5_0 : List Int) (k0 : Int → Int → (List Int) → (List Int) → (List Int) → Option ρ) : Option ρ :=
 lp (fun (x : Int × Int × (List Int) × (List Int) × (List Int)) next (ex : (Int × Int × (List Int) × (List Int) × (List Int)) → Option ρ) => R07_block_r25 x.1 x.2.1 x.2.2.1 x.2.2.2.1 x.2.2.2.2 (fun v8 v19 h0_0 h1_0 h5_0 => next (v8, v19, h0_0, h1_0, h5_0)) (fun v8 v19 h0_0 h1_0 h5_0 => ex (v8, v19, h0_0, h1_0, h5_0))) (v8, v19, h0_0, h1_0, h5_0) (fun x => k0 x.1 x.2.1 x.2.2.1 x.2.2.2.1 x.2.2.2.2)
noncomputable def R07_block_l25 {ρ : Type} := shut (R07_block_L25 (ρ := ρ))
theorem R07_block_l25_eq {ρ : Type} : R07_block_l25 (ρ := ρ) = R07_block_L25 := shut_eq _
noncomputable def R07_block_raw {ρ : Type} (a0 : List Int) (a1 : List Int) (a2 : Bool) (k : (List Int) → Option ρ) : Option ρ :=
 R07_roots256 fun (q0 : List Int) =>
 R07_roots512 fun (q1 : List Int) =>
  br a2
   (R07_words a1 a2 (80 : Int) (18446744073709551615 : Int) fun (q2 : List Int) =>
    R07_block_l11 a2 (80 : Int) (18446744073709551615 : Int) (0 : Int) a0
     [(0 : Int), (0 : Int), (0 : Int), (0 : Int), (0 : Int), (0 : Int), (0 : Int), (0 : Int)] q0 q1 q2 a0
     fun (q3 : Bool) (q4 q5 q6 : Int) (q7 q8 q9 q10 q11 q12 : List Int) =>
     R07_block_l25 q5 (0 : Int) q7 q8 q12 fun (q13 q14 : Int) (q15 q16 q17 : List Int) => k q17)
   (R07_words a1 a2 (64 : Int) (4294967295 : Int) fun (q18 : List Int) =>
    R07_block_l11 a2 (64 : Int) (4294967295 : Int) (0 : Int) a0
     [(0 : Int), (0 : Int), (0 : Int), (0 : Int), (0 : Int), (0 : Int), (0 : Int), (0 : Int)] q0 q1 q18 a0
     fun (q19 : Bool) (q20 q21 q22 : Int) (q23 q24 q25 q26 q27 q28 : List Int) =>
     R07_block_l25 q21 (0 : Int) q23 q24 q28 fun (q29 q30 : Int) (q31 q32 q33 : List Int) => k q33)
noncomputable def R07_block {ρ : Type} := shut (R07_block_raw (ρ := ρ))
theorem R07_block_eq {ρ : Type} (a0 : List Int) (a1 : List Int) (a2 : Bool) (k : (List Int) → Option ρ) : R07_block a0 a1 a2 k = R07_block_raw a0 a1 a2 k := by unfold R07_block; rw [shut_eq]
end P
end

section
open Go Go.Abs
set_option linter.unusedVariables false
namespace P
noncomputable def R07_Add_r4 {ρ : Type} (v5 : Int) (v6 : List Int) (h0_0 : Int) (h0_1 : List Int) (h0_2 : List Int) (h0_3 : Int) (h1_0 : Int) (h1_1 : List Int) (h1_3 : Int) (nx : Int → (List Int) → Int → (List Int) → (List Int) → Int → Int → (List Int) → Int → Option ρ) (k0 : Int → (List Int) → Int → (List Int) → (List Int) → Int → Int → (List Int) → Int → Option ρ) : Option ρ :=
 br (decide ((↑v6.length : Int) ≥ v5))
 (br (decide ((0 : Int) ≤ v5))
  (br (decide (v5 ≤ (↑v6.length : Int)))
   (R07_block h0_1 (List.drop 0 (List.take v5.toNat v6)) (v5 == (128 : Int)) fun (q0 : List Int) =>
    br (decide ((0 : Int) ≤ v5))
     (br (decide (v5 ≤ (↑v6.length : Int)))
      (br (decide ((↑v6.length : Int) ≤ (↑v6.length : Int)))
       (nx v5 (List.drop v5.toNat (List.take (↑v6.length : Int).toNat v6)) h0_0 q0 h0_2 h0_3 h1_0 h1_1 h1_3)
       none)
      none)
     none)
   none)
  none)
 (k0 v5 v6 h0_0 h0_1 h0_2 h0_3 h1_0 h1_1 h1_3)
noncomputable def R07_Add_L4 {ρ : Type} (v5 : Int) (v6 : List Int) (h0_0 : Int) (h0_1 : List Int) (h0_2 : List Int) (h0_3 : Int) (h1_0 : Int) (h1_1 : List Int) (h1_3 : Int) (k0 : Int → (List Int) → Int → (List Int) → (List Int) → Int → Int → (List Int) → Int → Option ρ) : Option ρ :=
 lp (fun (x : Int × (List Int) × Int × (List Int) × (List Int) × Int × Int × (List Int) × Int) next (ex : (Int × (List Int) × Int × (List Int) × (List Int) × Int × Int × (List Int) × Int) → Option ρ) => R07_Add_r4 x.1 x.2.1 x.2.2.1 x.2.2.2.1 x.2.2.2.2.1 x.2.2.2.2.2.1 x.2.2.2.2.2.2.1 x.2.2.2.2.2.2.2.1 x.2.2.2.2.2.2.2.2 (fun v5 v6 h0_0 h0_1 h0_2 h0_3 h1_0 h1_1 h1_3 => next (v5, v6, h0_0, h0_1, h0_2, h0_3, h1_0, h1_1, h1_3)) (fun v5 v6 h0_0 h0_1 h0_2 h0_3 h1_0 h1_1 h1_3 => ex (v5, v6, h0_0, h0_1, h0_2, h0_3, h1_0, h1_1, h1_3))) (v5, v6, h0_0, h0_1, h0_2, h0_3, h1_0, h1_1, h1_3) (fun x => k0 x.1 x.2.1 x.2.2.1 x.2.2.2.1 x.2.2.2.2.1 x.2.2.2.2.2.1 x.2.2.2.2.2.2.1 x.2.2.2.2.2.2.2.1 x.2.2.2.2.2.2.2.2)
noncomputable def R07_Add_l4 {ρ : Type} := shut (R07_Add_L4 (ρ := ρ))
theorem R07_Add_l4_eq {ρ : Type} : R07_Add_l4 (ρ := ρ) = R07_Add_L4 := shut_eq _
noncomputable def R07_Add_raw {ρ : Type} (a0_Kind : Int) (a0_Words : List Int) (a0_Tail : List Int) (a0_Size : Int) (a1 : List Int) (k : Int → (List Int) → (List Int) → Int → Option ρ) : Option ρ :=
 R07_Block a0_Kind fun (q0 : Int) =>
 R01_Join [a0_Tail, a1] fun (q1 : List Int) =>
  R07_Add_l4 q0 q1 a0_Kind a0_Words a0_Tail (IntKind.u64.wrap (a0_Size + IntKind.u64.wrap (↑a1.length : Int)))
   (0 : Int) [(0 : Int), (0 : Int), (0 : Int), (0 : Int), (0 : Int), (0 : Int), (0 : Int), (0 : Int)] (0 : Int)
   fun (q2 : Int) (q3 : List Int) (q4 : Int) (q5 q6 : List Int) (q7 q8 : Int) (q9 : List Int) (q10 : Int) =>
   k q4 q5 q3 q7
noncomputable def R07_Add {ρ : Type} := shut (R07_Add_raw (ρ := ρ))
theorem R07_Add_eq {ρ : Type} (a0_Kind : Int) (a0_Words : List Int) (a0_Tail : List Int) (a0_Size : Int) (a1 : List Int) (k : Int → (List Int) → (List Int) → Int → Option ρ) : R07_Add a0_Kind a0_Words a0_Tail a0_Size a1 k = R07_Add_raw a0_Kind a0_Words a0_Tail a0_Size a1 k := by unfold R07_Add; rw [shut_eq]
end P
end

section
open Go Go.Abs
set_option linter.unusedVariables false
namespace P
noncomputable def R07_End_r4 {ρ : Type} (v3 : Int) (v4 : Int) (h40 : List Int) (h0_0 : Int) (h0_1 : List Int) (h0_2 : List Int) (h0_3 : Int) (nx : Int → Int → (List Int) → Int → (List Int) → (List Int) → Int → Option ρ) (k0 : Int → Int → (List Int) → Int → (List Int) → (List Int) → Int → Option ρ) : Option ρ :=
 br (decide (v3 = (0 : Int))) none
 (br ((IntKind.i64.wrap ((↑h0_2.length : Int) + (↑h40.length : Int))).tmod v3 != IntKind.i64.wrap (v3 - (8 : Int)))
  (br
   (decide
    ((h40.length + 1) * 1 ≤
     140737488355328))
   (nx v3 v4 (h40 ++ [(0 : Int)]) h0_0 h0_1 h0_2 h0_3) none)
  (k0 v3 v4 h40 h0_0 h0_1 h0_2 h0_3))
noncomputable def R07_End_L4 {ρ : Type} (v3 : Int) (v4 : Int) (h40 : List Int) (h0_0 : Int) (h0_1 : List Int) (h0_2 : List Int) (h0_3 : Int) (k0 : Int → Int → (List Int) → Int → (List Int) → (List Int) → Int → Option ρ) : Option ρ :=
 lp (fun (x : Int × Int × (List Int) × Int × (List Int) × (List Int) × Int) next (ex : (Int × Int × (List Int) × Int × (List Int) × (List Int) × Int) → Option ρ) => R07_End_r4 x.1 x.2.1 x.2.2.1 x.2.2.2.1 x.2.2.2.2.1 x.2.2.2.2.2.1 x.2.2.2.2.2.2 (fun v3 v4 h40 h0_0 h0_1 h0_2 h0_3 => next (v3, v4, h40, h0_0, h0_1, h0_2, h0_3)) (fun v3 v4 h40 h0_0 h0_1 h0_2 h0_3 => ex (v3, v4, h40, h0_0, h0_1, h0_2, h0_3))) (v3, v4, h40, h0_0, h0_1, h0_2, h0_3) (fun x => k0 x.1 x.2.1 x.2.2.1 x.2.2.2.1 x.2.2.2.2.1 x.2.2.2.2.2.1 x.2.2.2.2.2.2)
noncomputable def R07_End_l4 {ρ : Type} := shut (R07_End_L4 (ρ := ρ))
theorem R07_End_l4_eq {ρ : Type} : R07_End_l4 (ρ := ρ) = R07_End_L4 := shut_eq _
noncomputable def R07_End_r8 {ρ : Type} (v3 : Int) (v4 : Int) (h80 : List Int) (h0_0 : Int) (h0_1 : List Int) (h0_2 : List Int) (h0_3 : Int) (nx : Int → Int → (List Int) → Int → (List Int) → (List Int) → Int → Option ρ) (k0 : Int → Int → (List Int) → Int → (List Int) → (List Int) → Int → Option ρ) : Option ρ :=
 br (decide (v3 = (0 : Int))) none
 (br ((IntKind.i64.wrap ((↑h0_2.length : Int) + (↑h80.length : Int))).tmod v3 != IntKind.i64.wrap (v3 - (16 : Int)))
  (br
   (decide
    ((h80.length + 1) * 1 ≤
     140737488355328))
   (nx v3 v4 (h80 ++ [(0 : Int)]) h0_0 h0_1 h0_2 h0_3) none)
  (k0 v3 v4 h80 h0_0 h0_1 h0_2 h0_3))
noncomputable def R07_End_L8 {ρ : Type} (v3 : Int) (v4 : Int) (h80 : List Int) (h0_0 : Int) (h0_1 : List Int) (h0_2 : List Int) (h0_3 : Int) (k0 : Int → Int → (List Int) → Int → (List Int) → (List Int) → Int → Option ρ) : Option ρ :=
 lp (fun (x : Int × Int × (List Int) × Int × (List Int) × (List Int) × Int) next (ex : (Int × Int × (List Int) × Int × (List Int) × (List Int) × Int) → Option ρ) => R07_End_r8 x.1 x.2.1 x.2.2.1 x.2.2.2.1 x.2.2.2.2.1 x.2.2.2.2.2.1 x.2.2.2.2.2.2 (fun v3 v4 h80 h0_0 h0_1 h0_2 h0_3 => next (v3, v4, h80, h0_0, h0_1, h0_2, h0_3)) (fun v3 v4 h80 h0_0 h0_1 h0_2 h0_3 => ex (v3, v4, h80, h0_0, h0_1, h0_2, h0_3))) (v3, v4, h80, h0_0, h0_1, h0_2, h0_3) (fun x => k0 x.1 x.2.1 x.2.2.1 x.2.2.2.1 x.2.2.2.2.1 x.2.2.2.2.2.1 x.2.2.2.2.2.2)
noncomputable def R07_End_l8 {ρ : Type} := shut (R07_End_L8 (ρ := ρ))
theorem R07_End_l8_eq {ρ : Type} : R07_End_l8 (ρ := ρ) = R07_End_L8 := shut_eq _
noncomputable def R07_End_r14 {ρ : Type} (v3 : Int) (v7 : Int) (h120 : List Int) (h0_0 : Int) (h0_1 : List Int) (h0_2 : List Int) (h0_3 : Int) (nx : Int → Int → (List Int) → Int → (List Int) → (List Int) → Int → Option ρ) (k0 : Int → Int → (List Int) → Int → (List Int) → (List Int) → Int → Option ρ) : Option ρ :=
 br (decide (v7 < (8 : Int)))
 (br (decide ((0 : Int) ≤ v7))
  (br (decide (v7 < (↑8 : Int)))
   (R01_Be (h0_1.getD v7.toNat (0 : Int)) (IntKind.i64.wrap (v3.tdiv (16 : Int))) fun (q0 : List Int) =>
    br
     (decide
      ((h120.length + q0.length) * 1 ≤
       140737488355328))
     (nx v3 (IntKind.i64.wrap (v7 + (1 : Int))) (h120 ++ q0) h0_0 h0_1 h0_2 h0_3) none)
   none)
  none)
 (k0 v3 v7 h120 h0_0 h0_1 h0_2 h0_3)
noncomputable def R07_End_L14 {ρ : Type} (v3 : Int) (v7 : Int) (h120 : List Int) (h0_0 : Int) (h0_1 : List Int) (h0_2 : List Int) (h0_3 : Int) (k0 : Int → Int → (List Int) → Int → (List Int) → (List Int) → Int → Option ρ) : Option ρ :=
 lp (fun (x : Int × Int × (List Int) × Int × (List Int) × (List Int) × Int) next (ex : (Int × Int × (List Int) × Int × (List Int) × (List Int) × Int) → Option ρ) => R07_End_r14 x.1 x.2.1 x.2.2.1 x.2.2.2.1 x.2.2.2.2.1 x.2.2.2.2.2.1 x.2.2.2.2.2.2 (fun v3 v7 h120 h0_0 h0_1 h0_2 h0_3 => next (v3, v7, h120, h0_0, h0_1, h0_2, h0_3)) (fun v3 v7 h120 h0_0 h0_1 h0_2 h0_3 => ex (v3, v7, h120, h0_0, h0_1, h0_2, h0_3))) (v3, v7, h120, h0_0, h0_1, h0_2, h0_3) (fun x => k0 x.1 x.2.1 x.2.2.1 x.2.2.2.1 x.2.2.2.2.1 x.2.2.2.2.2.1 x.2.2.2.2.2.2)
noncomputable def R07_End_l14 {ρ : Type} := shut (R07_End_L14 (ρ := ρ))
theorem R07_End_l14_eq {ρ : Type} : R07_End_l14 (ρ := ρ) = R07_End_L14 := shut_eq _
noncomputable def R07_End_raw {ρ : Type} (a0_Kind : Int) (a0_Words : List Int) (a0_Tail : List Int) (a0_Size : Int) (k : (List Int) → Option ρ) : Option ρ :=
 R07_Block a0_Kind fun (q0 : Int) =>
 R07_End_l4 q0 (IntKind.u64.wrap (a0_Size * (8 : Int))) [(128 : Int)] a0_Kind a0_Words a0_Tail a0_Size
  fun (q1 q2 : Int) (q3 : List Int) (q4 : Int) (q5 q6 : List Int) (q7 : Int) =>
  br (q1 == (128 : Int))
   (R07_End_l8 q1 q2 [(128 : Int)] q4 q5 q6 q7
    fun (q8 q9 : Int) (q10 : List Int) (q11 : Int) (q12 q13 : List Int) (q14 : Int) =>
    R01_Be (q14.fdiv ((2 : Int) ^ 61)) (8 : Int) fun (q15 : List Int) =>
     br
      (decide
       ((q10.length + q15.length) * 1 ≤
        140737488355328))
      (R01_Be q9 (8 : Int) fun (q16 : List Int) =>
       br
        (decide
         (((q10 ++ q15).length + q16.length) *
           1 ≤
          140737488355328))
        (R07_Add q11 q12 q13 q14 (q10 ++ q15 ++ q16) fun (q17 : Int) (q18 q19 : List Int) (q20 : Int) =>
         R07_End_l14 q8 (0 : Int) [] q17 q18 q19 q20
          fun (q21 q22 : Int) (q23 : List Int) (q24 : Int) (q25 q26 : List Int) (q27 : Int) =>
          br (q24 == (2 : Int))
           (br (decide ((48 : Int) ≤ (↑q23.length : Int))) (k (List.take ((48 : Int) - (0 : Int)).toNat q23))
            none)
           (k q23))
        none)
      none)
   (R01_Be q2 (8 : Int) fun (q28 : List Int) =>
    br
     (decide
      ((q3.length + q28.length) * 1 ≤
       140737488355328))
     (R07_Add q4 q5 q6 q7 (q3 ++ q28) fun (q29 : Int) (q30 q31 : List Int) (q32 : Int) =>
      R07_End_l14 q1 (0 : Int) [] q29 q30 q31 q32
       fun (q33 q34 : Int) (q35 : List Int) (q36 : Int) (q37 q38 : List Int) (q39 : Int) =>
       br (q36 == (2 : Int))
        (br (decide ((48 : Int) ≤ (↑q35.length : Int))) (k (List.take ((48 : Int) - (0 : Int)).toNat q35)) none)
        (k q35))
     none)
noncomputable def R07_End {ρ : Type} := shut (R07_End_raw (ρ := ρ))
theorem R07_End_eq {ρ : Type} (a0_Kind : Int) (a0_Words : List Int) (a0_Tail : List Int) (a0_Size : Int) (k : (List Int) → Option ρ) : R07_End a0_Kind a0_Words a0_Tail a0_Size k = R07_End_raw a0_Kind a0_Words a0_Tail a0_Size k := by unfold R07_End; rw [shut_eq]
end P
end

section
open Go Go.Abs
set_option linter.unusedVariables false
namespace P
noncomputable def R07_Sum_raw {ρ : Type} (a0 : Int) (a1 : List Int) (k : (List Int) → Int → Option ρ) : Option ρ :=
 R07_New a0 fun (q0 : Int) (q1 q2 : List Int) (q3 q4 : Int) =>
 br (q4 != (0 : Int)) (k [] q4)
  (R07_Add q0 q1 q2 q3 a1 fun (q5 : Int) (q6 q7 : List Int) (q8 : Int) =>
   R07_End q5 q6 q7 q8 fun (q9 : List Int) => k q9 (0 : Int))
noncomputable def R07_Sum {ρ : Type} := shut (R07_Sum_raw (ρ := ρ))
theorem R07_Sum_eq {ρ : Type} (a0 : Int) (a1 : List Int) (k : (List Int) → Int → Option ρ) : R07_Sum a0 a1 k = R07_Sum_raw a0 a1 k := by unfold R07_Sum; rw [shut_eq]
end P
end

section
open Go Go.Abs
set_option linter.unusedVariables false
namespace P
noncomputable def R08_Rate_raw {ρ : Type} (a0 : Int) (k : Int → Option ρ) : Option ρ :=
 br (a0 == (4 : Int))
 (br (a0 == (4 : Int)) (k (136 : Int))
  (br (a0 == (5 : Int)) (k (72 : Int)) (br (a0 == (6 : Int)) (k (168 : Int)) (k (0 : Int)))))
 (br (a0 == (7 : Int)) (k (136 : Int))
  (br (a0 == (5 : Int)) (k (72 : Int)) (br (a0 == (6 : Int)) (k (168 : Int)) (k (0 : Int)))))
noncomputable def R08_Rate {ρ : Type} := shut (R08_Rate_raw (ρ := ρ))
theorem R08_Rate_eq {ρ : Type} (a0 : Int) (k : Int → Option ρ) : R08_Rate a0 k = R08_Rate_raw a0 k := by unfold R08_Rate; rw [shut_eq]
end P
end

section
open Go Go.Abs
set_option linter.unusedVariables false
namespace P
noncomputable def R08_New_raw {ρ : Type} (a0 : Int) (k : Int → (List Int) → Int → Bool → Int → Option ρ) : Option ρ :=
 R08_Rate a0 fun (q0 : Int) =>
 br (q0 == (0 : Int))
  (k (0 : Int)
   [(0 : Int), (0 : Int), (0 : Int), (0 : Int), (0 : Int), (0 : Int), (0 : Int), (0 : Int), (0 : Int), (0 : Int),
    (0 : Int), (0 : Int), (0 : Int), (0 : Int), (0 : Int), (0 : Int), (0 : Int), (0 : Int), (0 : Int), (0 : Int),
    (0 : Int), (0 : Int), (0 : Int), (0 : Int), (0 : Int)]
   (0 : Int) false (9 : Int))
  (k a0
   [(0 : Int), (0 : Int), (0 : Int), (0 : Int), (0 : Int), (0 : Int), (0 : Int), (0 : Int), (0 : Int), (0 : Int),
    (0 : Int), (0 : Int), (0 : Int), (0 : Int), (0 : Int), (0 : Int), (0 : Int), (0 : Int), (0 : Int), (0 : Int),
    (0 : Int), (0 : Int), (0 : Int), (0 : Int), (0 : Int)]
   (0 : Int) false (0 : Int))
noncomputable def R08_New {ρ : Type} := shut (R08_New_raw (ρ := ρ))
theorem R08_New_eq {ρ : Type} (a0 : Int) (k : Int → (List Int) → Int → Bool → Int → Option ρ) : R08_New a0 k = R08_New_raw a0 k := by unfold R08_New; rw [shut_eq]
end P
end

section
open Go Go.Abs
set_option linter.unusedVariables false
namespace P
noncomputable def R08_constants_r4 {ρ : Type} (v2 : Int) (v3 : Int) (h0_0 : List Int) (h1_0 : List Int) (nx : Int → Int → (List Int) → (List Int) → Option ρ) (k0 : Int → Int → (List Int) → (List Int) → Option ρ) : Option ρ :=
 br (decide (v3 < (168 : Int)))
 (br (bits BinOp.and IntKind.u64 v2 (1 : Int) == (1 : Int))
  (br (decide ((0 : Int) ≤ IntKind.i64.wrap (v3.tdiv (7 : Int))))
   (br (decide (IntKind.i64.wrap (v3.tdiv (7 : Int)) < (↑24 : Int)))
    (br (decide (v3.tmod (7 : Int) < (0 : Int))) none
     (br
      (decide
       (IntKind.u64.wrap
         (IntKind.u64.wrap ((1 : Int) * (2 : Int) ^ min (v3.tmod (7 : Int)).toNat 64) - (1 : Int)) <
        (0 : Int)))
      none
      (br (decide ((0 : Int) ≤ IntKind.i64.wrap (v3.tdiv (7 : Int))))
       (br (decide (IntKind.i64.wrap (v3.tdiv (7 : Int)) < (↑24 : Int)))
        (br (decide (IntKind.u64.wrap (v2 * (2 : Int)) ≥ (256 : Int)))
         (nx
          (bits BinOp.xor IntKind.u64
           (bits BinOp.and IntKind.u64 (IntKind.u64.wrap (v2 * (2 : Int))) (255 : Int)) (113 : Int))
          (IntKind.i64.wrap (v3 + (1 : Int))) h0_0
          (h1_0.set (IntKind.i64.wrap (v3.tdiv (7 : Int))).toNat
           (bits BinOp.or IntKind.u64 (h1_0.getD (IntKind.i64.wrap (v3.tdiv (7 : Int))).toNat (0 : Int))
            (IntKind.u64.wrap
             ((1 : Int) *
              (2 : Int) ^
               min
                (IntKind.u64.wrap
                  (IntKind.u64.wrap
                    ((1 : Int) * (2 : Int) ^ min (v3.tmod (7 : Int)).toNat 64) -
                   (1 : Int))).toNat
                64)))))
         (nx (IntKind.u64.wrap (v2 * (2 : Int))) (IntKind.i64.wrap (v3 + (1 : Int))) h0_0
          (h1_0.set (IntKind.i64.wrap (v3.tdiv (7 : Int))).toNat
           (bits BinOp.or IntKind.u64 (h1_0.getD (IntKind.i64.wrap (v3.tdiv (7 : Int))).toNat (0 : Int))
            (IntKind.u64.wrap
             ((1 : Int) *
              (2 : Int) ^
               min
                (IntKind.u64.wrap
                  (IntKind.u64.wrap
                    ((1 : Int) * (2 : Int) ^ min (v3.tmod (7 : Int)).toNat 64) -
                   (1 : Int))).toNat
                64))))))
        none)
       none)))
    none)
   none)
  (br (decide (IntKind.u64.wrap (v2 * (2 : Int)) ≥ (256 : Int)))
   (nx
    (bits BinOp.xor IntKind.u64 (bits BinOp.and IntKind.u64 (IntKind.u64.wrap (v2 * (2 : Int))) (255 : Int))
     (113 : Int))
    (IntKind.i64.wrap (v3 + (1 : Int))) h0_0 h1_0)
   (nx (IntKind.u64.wrap (v2 * (2 : Int))) (IntKind.i64.wrap (v3 + (1 : Int))) h0_0 h1_0)))
 (k0 v2 v3 h0_0 h1_0)
noncomputable def R08_constants_L4 {ρ : Type} (v2 : Int) (v3 : Int) (h0_0 : List Int) (h1_0 : List Int) (k0 : Int → Int → (List Int) → (List Int) → Option ρ) : Option ρ :=
 lp (fun (x : Int × Int × (List Int) × (List Int)) next (ex : (Int × Int × (List Int) × (List Int)) → Option ρ) => R08_constants_r4 x.1 x.2.1 x.2.2.1 x.2.2.2 (fun v2 v3 h0_0 h1_0 => next (v2, v3, h0_0, h1_0)) (fun v2 v3 h0_0 h1_0 => ex (v2, v3, h0_0, h1_0))) (v2, v3, h0_0, h1_0) (fun x => k0 x.1 x.2.1 x.2.2.1 x.2.2.2)
noncomputable def R08_constants_l4 {ρ : Type} := shut (R08_constants_L4 (ρ := ρ))
theorem R08_constants_l4_eq {ρ : Type} : R08_constants_l4 (ρ := ρ) = R08_constants_L4 := shut_eq _
noncomputable def R08_constants_raw {ρ : Type}  (k : (List Int) → Option ρ) : Option ρ :=
 R08_constants_l4 (1 : Int) (0 : Int)
 [(0 : Int), (0 : Int), (0 : Int), (0 : Int), (0 : Int), (0 : Int), (0 : Int), (0 : Int), (0 : Int), (0 : Int),
  (0 : Int), (0 : Int), (0 : Int), (0 : Int), (0 : Int), (0 : Int), (0 : Int), (0 : Int), (0 : Int), (0 : Int),
  (0 : Int), (0 : Int), (0 : Int), (0 : Int)]
 [(0 : Int), (0 : Int), (0 : Int), (0 : Int), (0 : Int), (0 : Int), (0 : Int), (0 : Int), (0 : Int), (0 : Int),
  (0 : Int), (0 : Int), (0 : Int), (0 : Int), (0 : Int), (0 : Int), (0 : Int), (0 : Int), (0 : Int), (0 : Int),
  (0 : Int), (0 : Int), (0 : Int), (0 : Int)]
 fun (q0 q1 : Int) (q2 q3 : List Int) => k q3
noncomputable def R08_constants {ρ : Type} := shut (R08_constants_raw (ρ := ρ))
theorem R08_constants_eq {ρ : Type}  (k : (List Int) → Option ρ) : R08_constants  k = R08_constants_raw  k := by unfold R08_constants; rw [shut_eq]
end P
end

section
open Go Go.Abs
set_option linter.unusedVariables false
namespace P
noncomputable def R08_left_raw {ρ : Type} (a0 : Int) (a1 : Int) (k : Int → Option ρ) : Option ρ :=
 br (decide (a1.tmod (64 : Int) < (0 : Int))) none
 (br (decide (IntKind.i64.wrap ((64 : Int) - a1.tmod (64 : Int)) < (0 : Int))) none
  (k
   (bits BinOp.or IntKind.u64 (IntKind.u64.wrap (a0 * (2 : Int) ^ min (a1.tmod (64 : Int)).toNat 64))
    (a0.fdiv ((2 : Int) ^ min (IntKind.i64.wrap ((64 : Int) - a1.tmod (64 : Int))).toNat 64)))))
noncomputable def R08_left {ρ : Type} := shut (R08_left_raw (ρ := ρ))
theorem R08_left_eq {ρ : Type} (a0 : Int) (a1 : Int) (k : Int → Option ρ) : R08_left a0 a1 k = R08_left_raw a0 a1 k := by unfold R08_left; rw [shut_eq]
end P
end

section
open Go Go.Abs
set_option linter.unusedVariables false
namespace P
noncomputable def R08_move_r6 {ρ : Type} (v4 : Int) (v5 : Int) (v6 : Int) (h0_0 : List Int) (h1_0 : List Int) (h2_0 : List Int) (nx : Int → Int → Int → (List Int) → (List Int) → (List Int) → Option ρ) (k0 : Int → Int → Int → (List Int) → (List Int) → (List Int) → Option ρ) : Option ρ :=
 br (decide (v6 < (24 : Int)))
 (br (decide ((0 : Int) ≤ IntKind.i64.wrap (v4 + IntKind.i64.wrap ((5 : Int) * v5))))
  (br (decide (IntKind.i64.wrap (v4 + IntKind.i64.wrap ((5 : Int) * v5)) < (↑25 : Int)))
   (R08_left (h0_0.getD (IntKind.i64.wrap (v4 + IntKind.i64.wrap ((5 : Int) * v5))).toNat (0 : Int))
    (IntKind.i64.wrap
     ((IntKind.i64.wrap (IntKind.i64.wrap (v6 + (1 : Int)) * IntKind.i64.wrap (v6 + (2 : Int)))).tdiv (2 : Int)))
    fun (q0 : Int) =>
    br
     (decide
      ((0 : Int) ≤
       IntKind.i64.wrap
        (v5 +
         IntKind.i64.wrap
          ((5 : Int) *
           (IntKind.i64.wrap (IntKind.i64.wrap ((2 : Int) * v4) + IntKind.i64.wrap ((3 : Int) * v5))).tmod
            (5 : Int)))))
     (br
      (decide
       (IntKind.i64.wrap
         (v5 +
          IntKind.i64.wrap
           ((5 : Int) *
            (IntKind.i64.wrap (IntKind.i64.wrap ((2 : Int) * v4) + IntKind.i64.wrap ((3 : Int) * v5))).tmod
             (5 : Int))) <
        (↑25 : Int)))
      (nx v5
       ((IntKind.i64.wrap (IntKind.i64.wrap ((2 : Int) * v4) + IntKind.i64.wrap ((3 : Int) * v5))).tmod
        (5 : Int))
       (IntKind.i64.wrap (v6 + (1 : Int))) h0_0 h1_0
       (h2_0.set
        (IntKind.i64.wrap
          (v5 +
           IntKind.i64.wrap
            ((5 : Int) *
             (IntKind.i64.wrap
                (IntKind.i64.wrap ((2 : Int) * v4) + IntKind.i64.wrap ((3 : Int) * v5))).tmod
              (5 : Int)))).toNat
        q0))
      none)
     none)
   none)
  none)
 (k0 v4 v5 v6 h0_0 h1_0 h2_0)
noncomputable def R08_move_L6 {ρ : Type} (v4 : Int) (v5 : Int) (v6 : Int) (h0_0 : List Int) (h1_0 : List Int) (h2_0 : List Int) (k0 : Int → Int → Int → (List Int) → (List Int) → (List Int) → Option ρ) : Option ρ :=
 lp (fun (x : Int × Int × Int × (List Int) × (List Int) × (List Int)) next (ex : (Int × Int × Int × (List Int) × (List Int) × (List Int)) → Option ρ) => R08_move_r6 x.1 x.2.1 x.2.2.1 x.2.2.2.1 x.2.2.2.2.1 x.2.2.2.2.2 (fun v4 v5 v6 h0_0 h1_0 h2_0 => next (v4, v5, v6, h0_0, h1_0, h2_0)) (fun v4 v5 v6 h0_0 h1_0 h2_0 => ex (v4, v5, v6, h0_0, h1_0, h2_0))) (v4, v5, v6, h0_0, h1_0, h2_0) (fun x => k0 x.1 x.2.1 x.2.2.1 x.2.2.2.1 x.2.2.2.2.1 x.2.2.2.2.2)
noncomputable def R08_move_l6 {ρ : Type} := shut (R08_move_L6 (ρ := ρ))
theorem R08_move_l6_eq {ρ : Type} : R08_move_l6 (ρ := ρ) = R08_move_L6 := shut_eq _
noncomputable def R08_move_raw {ρ : Type} (a0 : List Int) (k : (List Int) → Option ρ) : Option ρ :=
 R08_move_l6 (1 : Int) (0 : Int) (0 : Int) a0
 [(0 : Int), (0 : Int), (0 : Int), (0 : Int), (0 : Int), (0 : Int), (0 : Int), (0 : Int), (0 : Int), (0 : Int),
  (0 : Int), (0 : Int), (0 : Int), (0 : Int), (0 : Int), (0 : Int), (0 : Int), (0 : Int), (0 : Int), (0 : Int),
  (0 : Int), (0 : Int), (0 : Int), (0 : Int), (0 : Int)]
 ([(0 : Int), (0 : Int), (0 : Int), (0 : Int), (0 : Int), (0 : Int), (0 : Int), (0 : Int), (0 : Int), (0 : Int),
    (0 : Int), (0 : Int), (0 : Int), (0 : Int), (0 : Int), (0 : Int), (0 : Int), (0 : Int), (0 : Int), (0 : Int),
    (0 : Int), (0 : Int), (0 : Int), (0 : Int), (0 : Int)].set
  0 (a0.getD 0 (0 : Int)))
 fun (q0 q1 q2 : Int) (q3 q4 q5 : List Int) => k q5
noncomputable def R08_move {ρ : Type} := shut (R08_move_raw (ρ := ρ))
theorem R08_move_eq {ρ : Type} (a0 : List Int) (k : (List Int) → Option ρ) : R08_move a0 k = R08_move_raw a0 k := by unfold R08_move; rw [shut_eq]
end P
end

section
open Go Go.Abs
set_option linter.unusedVariables false
namespace P
noncomputable def R08_spread_r3 {ρ : Type} (v4 : Int) (h0_0 : List Int) (h1_0 : List Int) (h2_0 : List Int) (nx : Int → (List Int) → (List Int) → (List Int) → Option ρ) (k0 : Int → (List Int) → (List Int) → (List Int) → Option ρ) : Option ρ :=
 br (decide (v4 < (25 : Int)))
 (br (decide ((0 : Int) ≤ v4.tmod (5 : Int)))
  (br (decide (v4.tmod (5 : Int) < (↑5 : Int)))
   (br (decide ((0 : Int) ≤ v4))
    (br (decide (v4 < (↑25 : Int)))
     (br (decide ((0 : Int) ≤ v4.tmod (5 : Int)))
      (br (decide (v4.tmod (5 : Int) < (↑5 : Int)))
       (nx (IntKind.i64.wrap (v4 + (1 : Int))) h0_0 h1_0
        (h2_0.set (v4.tmod (5 : Int)).toNat
         (bits BinOp.xor IntKind.u64 (h2_0.getD (v4.tmod (5 : Int)).toNat (0 : Int))
          (h0_0.getD v4.toNat (0 : Int)))))
       none)
      none)
     none)
    none)
   none)
  none)
 (k0 v4 h0_0 h1_0 h2_0)
noncomputable def R08_spread_L3 {ρ : Type} (v4 : Int) (h0_0 : List Int) (h1_0 : List Int) (h2_0 : List Int) (k0 : Int → (List Int) → (List Int) → (List Int) → Option ρ) : Option ρ :=
 lp (fun (x : Int × (List Int) × (List Int) × (List Int)) next (ex : (Int × (List Int) × (List Int) × (List Int)) → Option ρ) => R08_spread_r3 x.1 x.2.1 x.2.2.1 x.2.2.2 (fun v4 h0_0 h1_0 h2_0 => next (v4, h0_0, h1_0, h2_0)) (fun v4 h0_0 h1_0 h2_0 => ex (v4, h0_0, h1_0, h2_0))) (v4, h0_0, h1_0, h2_0) (fun x => k0 x.1 x.2.1 x.2.2.1 x.2.2.2)
noncomputable def R08_spread_l3 {ρ : Type} := shut (R08_spread_L3 (ρ := ρ))
theorem R08_spread_l3_eq {ρ : Type} : R08_spread_l3 (ρ := ρ) = R08_spread_L3 := shut_eq _
noncomputable def R08_spread_r7 {ρ : Type} (v5 : Int) (h2_0 : List Int) (h1_0 : List Int) (h0_0 : List Int) (nx : Int → (List Int) → (List Int) → (List Int) → Option ρ) (k0 : Int → (List Int) → (List Int) → (List Int) → Option ρ) : Option ρ :=
 br (decide (v5 < (25 : Int)))
 (br (decide ((0 : Int) ≤ v5))
  (br (decide (v5 < (↑25 : Int)))
   (br (decide ((0 : Int) ≤ (IntKind.i64.wrap (v5 + (4 : Int))).tmod (5 : Int)))
    (br (decide ((IntKind.i64.wrap (v5 + (4 : Int))).tmod (5 : Int) < (↑5 : Int)))
     (br (decide ((0 : Int) ≤ (IntKind.i64.wrap (v5 + (1 : Int))).tmod (5 : Int)))
      (br (decide ((IntKind.i64.wrap (v5 + (1 : Int))).tmod (5 : Int) < (↑5 : Int)))
       (R08_left (h2_0.getD ((IntKind.i64.wrap (v5 + (1 : Int))).tmod (5 : Int)).toNat (0 : Int)) (1 : Int)
        fun (q0 : Int) =>
        br (decide ((0 : Int) ≤ v5))
         (br (decide (v5 < (↑25 : Int)))
          (nx (IntKind.i64.wrap (v5 + (1 : Int))) h2_0 h1_0
           (h0_0.set v5.toNat
            (bits BinOp.xor IntKind.u64
             (bits BinOp.xor IntKind.u64 (h0_0.getD v5.toNat (0 : Int))
              (h2_0.getD ((IntKind.i64.wrap (v5 + (4 : Int))).tmod (5 : Int)).toNat (0 : Int)))
             q0)))
          none)
         none)
       none)
      none)
     none)
    none)
   none)
  none)
 (k0 v5 h2_0 h1_0 h0_0)
noncomputable def R08_spread_L7 {ρ : Type} (v5 : Int) (h2_0 : List Int) (h1_0 : List Int) (h0_0 : List Int) (k0 : Int → (List Int) → (List Int) → (List Int) → Option ρ) : Option ρ :=
 lp (fun (x : Int × (List Int) × (List Int) × (List Int)) next (ex : (Int × (List Int) × (List Int) × (List Int)) → Option ρ) => R08_spread_r7 x.1 x.2.1 x.2.2.1 x.2.2.2 (fun v5 h2_0 h1_0 h0_0 => next (v5, h2_0, h1_0, h0_0)) (fun v5 h2_0 h1_0 h0_0 => ex (v5, h2_0, h1_0, h0_0))) (v5, h2_0, h1_0, h0_0) (fun x => k0 x.1 x.2.1 x.2.2.1 x.2.2.2)
noncomputable def R08_spread_l7 {ρ : Type} := shut (R08_spread_L7 (ρ := ρ))
theorem R08_spread_l7_eq {ρ : Type} : R08_spread_l7 (ρ := ρ) = R08_spread_L7 := shut_eq _
noncomputable def R08_spread_raw {ρ : Type} (a0 : List Int) (k : (List Int) → Option ρ) : Option ρ :=
 R08_spread_l3 (0 : Int) a0
 [(0 : Int), (0 : Int), (0 : Int), (0 : Int), (0 : Int), (0 : Int), (0 : Int), (0 : Int), (0 : Int), (0 : Int),
  (0 : Int), (0 : Int), (0 : Int), (0 : Int), (0 : Int), (0 : Int), (0 : Int), (0 : Int), (0 : Int), (0 : Int),
  (0 : Int), (0 : Int), (0 : Int), (0 : Int), (0 : Int)]
 [(0 : Int), (0 : Int), (0 : Int), (0 : Int), (0 : Int)] fun (q0 : Int) (q1 q2 q3 : List Int) =>
 R08_spread_l7 (0 : Int) q3 q2 q1 fun (q4 : Int) (q5 q6 q7 : List Int) => k q7
noncomputable def R08_spread {ρ : Type} := shut (R08_spread_raw (ρ := ρ))
theorem R08_spread_eq {ρ : Type} (a0 : List Int) (k : (List Int) → Option ρ) : R08_spread a0 k = R08_spread_raw a0 k := by unfold R08_spread; rw [shut_eq]
end P
end

section
open Go Go.Abs
set_option linter.unusedVariables false
namespace P
noncomputable def R08_Permute_r7 {ρ : Type} (v4 : Int) (v6 : Int) (h2_0 : List Int) (h1_0 : List Int) (h0_0 : List Int) (h3_0 : List Int) (nx : Int → Int → (List Int) → (List Int) → (List Int) → (List Int) → Option ρ) (k0 : Int → Int → (List Int) → (List Int) → (List Int) → (List Int) → Option ρ) : Option ρ :=
 br (decide (v6 < (25 : Int)))
 (br (decide ((0 : Int) ≤ v6))
  (br (decide (v6 < (↑25 : Int)))
   (br
    (decide
     ((0 : Int) ≤
      IntKind.i64.wrap
       (IntKind.i64.wrap (IntKind.i64.wrap (v6.tdiv (5 : Int)) * (5 : Int)) +
        (IntKind.i64.wrap (v6 + (1 : Int))).tmod (5 : Int))))
    (br
     (decide
      (IntKind.i64.wrap
        (IntKind.i64.wrap (IntKind.i64.wrap (v6.tdiv (5 : Int)) * (5 : Int)) +
         (IntKind.i64.wrap (v6 + (1 : Int))).tmod (5 : Int)) <
       (↑25 : Int)))
     (br
      (decide
       ((0 : Int) ≤
        IntKind.i64.wrap
         (IntKind.i64.wrap (IntKind.i64.wrap (v6.tdiv (5 : Int)) * (5 : Int)) +
          (IntKind.i64.wrap (v6 + (2 : Int))).tmod (5 : Int))))
      (br
       (decide
        (IntKind.i64.wrap
          (IntKind.i64.wrap (IntKind.i64.wrap (v6.tdiv (5 : Int)) * (5 : Int)) +
           (IntKind.i64.wrap (v6 + (2 : Int))).tmod (5 : Int)) <
         (↑25 : Int)))
       (br (decide ((0 : Int) ≤ v6))
        (br (decide (v6 < (↑25 : Int)))
         (nx v4 (IntKind.i64.wrap (v6 + (1 : Int))) h2_0 h1_0
          (h0_0.set v6.toNat
           (bits BinOp.xor IntKind.u64 (h3_0.getD v6.toNat (0 : Int))
            (bits BinOp.and IntKind.u64
             (bits BinOp.xor IntKind.u64
              (h3_0.getD
               (IntKind.i64.wrap
                 (IntKind.i64.wrap (IntKind.i64.wrap (v6.tdiv (5 : Int)) * (5 : Int)) +
                  (IntKind.i64.wrap (v6 + (1 : Int))).tmod (5 : Int))).toNat
               (0 : Int))
              (18446744073709551615 : Int))
             (h3_0.getD
              (IntKind.i64.wrap
                (IntKind.i64.wrap (IntKind.i64.wrap (v6.tdiv (5 : Int)) * (5 : Int)) +
                 (IntKind.i64.wrap (v6 + (2 : Int))).tmod (5 : Int))).toNat
              (0 : Int)))))
          h3_0)
         none)
        none)
       none)
      none)
     none)
    none)
   none)
  none)
 (k0 v4 v6 h2_0 h1_0 h0_0 h3_0)
noncomputable def R08_Permute_L7 {ρ : Type} (v4 : Int) (v6 : Int) (h2_0 : List Int) (h1_0 : List Int) (h0_0 : List Int) (h3_0 : List Int) (k0 : Int → Int → (List Int) → (List Int) → (List Int) → (List Int) → Option ρ) : Option ρ :=
 lp (fun (x : Int × Int × (List Int) × (List Int) × (List Int) × (List Int)) next (ex : (Int × Int × (List Int) × (List Int) × (List Int) × (List Int)) → Option ρ) => R08_Permute_r7 x.1 x.2.1 x.2.2.1 x.2.2.2.1 x.2.2.2.2.1 x.2.2.2.2.2 (fun v4 v6 h2_0 h1_0 h0_0 h3_0 => next (v4, v6, h2_0, h1_0, h0_0, h3_0)) (fun v4 v6 h2_0 h1_0 h0_0 h3_0 => ex (v4, v6, h2_0, h1_0, h0_0, h3_0))) (v4, v6, h2_0, h1_0, h0_0, h3_0) (fun x => k0 x.1 x.2.1 x.2.2.1 x.2.2.2.1 x.2.2.2.2.1 x.2.2.2.2.2)
noncomputable def R08_Permute_l7 {ρ : Type} := shut (R08_Permute_L7 (ρ := ρ))
theorem R08_Permute_l7_eq {ρ : Type} : R08_Permute_l7 (ρ := ρ) = R08_Permute_L7 := shut_eq _
noncomputable def R08_Permute_r3 {ρ : Type} (v4 : Int) (h0_0 : List Int) (h1_0 : List Int) (h2_0 : List Int) (nx : Int → (List Int) → (List Int) → (List Int) → Option ρ) (k0 : Int → (List Int) → (List Int) → (List Int) → Option ρ) : Option ρ :=
 br (decide (v4 < (24 : Int)))
 (R08_spread h0_0 fun (q0 : List Int) =>
  R08_move q0 fun (q1 : List Int) =>
   R08_Permute_l7 v4 (0 : Int) h2_0 h1_0 h0_0 q1 fun (q2 q3 : Int) (q4 q5 q6 q7 : List Int) =>
    br (decide ((0 : Int) ≤ q2))
     (br (decide (q2 < (↑24 : Int)))
      (nx (IntKind.i64.wrap (q2 + (1 : Int)))
       (q6.set 0
        (bits BinOp.xor IntKind.u64 (q6.getD 0 (0 : Int)) (q4.getD q2.toNat (0 : Int))))
       q5 q4)
      none)
     none)
 (k0 v4 h0_0 h1_0 h2_0)
noncomputable def R08_Permute_L3 {ρ : Type} (v4 : Int) (h0_0 : List Int) (h1_0 : List Int) (h2_0 : List Int) (k0 : Int → (List Int) → (List Int) → (List Int) → Option ρ) : Option ρ :=
 lp (fun (x : Int × (List Int) × (List Int) × (List Int)) next (ex : (Int × (List Int) × (List Int) × (List Int)) → Option ρ) => R08_Permute_r3 x.1 x.2.1 x.2.2.1 x.2.2.2 (fun v4 h0_0 h1_0 h2_0 => next (v4, h0_0, h1_0, h2_0)) (fun v4 h0_0 h1_0 h2_0 => ex (v4, h0_0, h1_0, h2_0))) (v4, h0_0, h1_0, h2_0) (fun x => k0 x.1 x.2.1 x.2.2.1 x.2.2.2)
noncomputable def R08_Permute_l3 {ρ : Type} := shut (R08_Permute_L3 (ρ := ρ))
theorem R08_Permute_l3_eq {ρ : Type} : R08_Permute_l3 (ρ := ρ) = R08_Permute_L3 := shut_eq _
noncomputable def R08_Permute_raw {ρ : Type} (a0 : List Int) (k : (List Int) → Option ρ) : Option ρ :=
 R08_constants fun (q0 : List Int) =>
 R08_Permute_l3 (0 : Int) a0
  [(0 : Int), (0 : Int), (0 : Int), (0 : Int), (0 : Int), (0 : Int), (0 : Int), (0 : Int), (0 : Int), (0 : Int),
   (0 : Int), (0 : Int), (0 : Int), (0 : Int), (0 : Int), (0 : Int), (0 : Int), (0 : Int), (0 : Int), (0 : Int),
   (0 : Int), (0 : Int), (0 : Int), (0 : Int), (0 : Int)]
  q0 fun (q1 : Int) (q2 q3 q4 : List Int) => k q2
noncomputable def R08_Permute {ρ : Type} := shut (R08_Permute_raw (ρ := ρ))
theorem R08_Permute_eq {ρ : Type} (a0 : List Int) (k : (List Int) → Option ρ) : R08_Permute a0 k = R08_Permute_raw a0 k := by unfold R08_Permute; rw [shut_eq]
end P
end

section
open Go Go.Abs
set_option linter.unusedVariables false
namespace P
noncomputable def R08_put_raw {ρ : Type} (a0 : List Int) (a1 : Int) (a2 : Int) (k : (List Int) → Option ρ) : Option ρ :=
 br (decide ((0 : Int) ≤ IntKind.i64.wrap (a1.tdiv (8 : Int))))
 (br (decide (IntKind.i64.wrap (a1.tdiv (8 : Int)) < (↑25 : Int)))
  (br (decide (IntKind.i64.wrap ((8 : Int) * a1.tmod (8 : Int)) < (0 : Int))) none
   (br (decide ((0 : Int) ≤ IntKind.i64.wrap (a1.tdiv (8 : Int))))
    (br (decide (IntKind.i64.wrap (a1.tdiv (8 : Int)) < (↑25 : Int)))
     (k
      (a0.set (IntKind.i64.wrap (a1.tdiv (8 : Int))).toNat
       (bits BinOp.xor IntKind.u64 (a0.getD (IntKind.i64.wrap (a1.tdiv (8 : Int))).toNat (0 : Int))
        (IntKind.u64.wrap
         (IntKind.u64.wrap a2 *
          (2 : Int) ^ min (IntKind.i64.wrap ((8 : Int) * a1.tmod (8 : Int))).toNat 64)))))
     none)
    none))
  none)
 none
noncomputable def R08_put {ρ : Type} := shut (R08_put_raw (ρ := ρ))
theorem R08_put_eq {ρ : Type} (a0 : List Int) (a1 : Int) (a2 : Int) (k : (List Int) → Option ρ) : R08_put a0 a1 a2 k = R08_put_raw a0 a1 a2 k := by unfold R08_put; rw [shut_eq]
end P
end

section
open Go Go.Abs
set_option linter.unusedVariables false
namespace P
noncomputable def R08_Squeeze_r12 {ρ : Type} (v1 : Int) (v6 : Int) (h40 : List Int) (h0_0 : Int) (h0_1 : List Int) (h0_2 : Int) (h0_3 : Bool) (h1_0 : Int) (h1_1 : List Int) (h1_2 : Int) (h1_3 : Bool) (nx : Int → Int → (List Int) → Int → (List Int) → Int → Bool → Int → (List Int) → Int → Bool → Option ρ) (k0 : Int → Int → (List Int) → Int → (List Int) → Int → Bool → Int → (List Int) → Int → Bool → Option ρ) : Option ρ :=
 br (decide ((↑h40.length : Int) < v1))
 (br (h0_2 == v6)
  (R08_Permute h0_1 fun (q0 : List Int) =>
   br
    (decide
     ((h40.length + 1) * 1 ≤
      140737488355328))
    (nx v1 v6 (h40 ++ [IntKind.u8.wrap ((q0.getD 0 (0 : Int)).fdiv ((2 : Int) ^ 0))]) h0_0 q0
     (IntKind.i64.wrap ((0 : Int) + (1 : Int))) h0_3 h1_0 h1_1 h1_2 h1_3)
    none)
  (br (decide ((0 : Int) ≤ IntKind.i64.wrap (h0_2.tdiv (8 : Int))))
   (br (decide (IntKind.i64.wrap (h0_2.tdiv (8 : Int)) < (↑25 : Int)))
    (br (decide (IntKind.i64.wrap ((8 : Int) * h0_2.tmod (8 : Int)) < (0 : Int))) none
     (br
      (decide
       ((h40.length + 1) * 1 ≤
        140737488355328))
      (nx v1 v6
       (h40 ++
        [IntKind.u8.wrap
          ((h0_1.getD (IntKind.i64.wrap (h0_2.tdiv (8 : Int))).toNat (0 : Int)).fdiv
           ((2 : Int) ^ min (IntKind.i64.wrap ((8 : Int) * h0_2.tmod (8 : Int))).toNat 64))])
       h0_0 h0_1 (IntKind.i64.wrap (h0_2 + (1 : Int))) h0_3 h1_0 h1_1 h1_2 h1_3)
      none))
    none)
   none))
 (k0 v1 v6 h40 h0_0 h0_1 h0_2 h0_3 h1_0 h1_1 h1_2 h1_3)
noncomputable def R08_Squeeze_L12 {ρ : Type} (v1 : Int) (v6 : Int) (h40 : List Int) (h0_0 : Int) (h0_1 : List Int) (h0_2 : Int) (h0_3 : Bool) (h1_0 : Int) (h1_1 : List Int) (h1_2 : Int) (h1_3 : Bool) (k0 : Int → Int → (List Int) → Int → (List Int) → Int → Bool → Int → (List Int) → Int → Bool → Option ρ) : Option ρ :=
 lp (fun (x : Int × Int × (List Int) × Int × (List Int) × Int × Bool × Int × (List Int) × Int × Bool) next (ex : (Int × Int × (List Int) × Int × (List Int) × Int × Bool × Int × (List Int) × Int × Bool) → Option ρ) => R08_Squeeze_r12 x.1 x.2.1 x.2.2.1 x.2.2.2.1 x.2.2.2.2.1 x.2.2.2.2.2.1 x.2.2.2.2.2.2.1 x.2.2.2.2.2.2.2.1 x.2.2.2.2.2.2.2.2.1 x.2.2.2.2.2.2.2.2.2.1 x.2.2.2.2.2.2.2.2.2.2 (fun v1 v6 h40 h0_0 h0_1 h0_2 h0_3 h1_0 h1_1 h1_2 h1_3 => next (v1, v6, h40, h0_0, h0_1, h0_2, h0_3, h1_0, h1_1, h1_2, h1_3)) (fun v1 v6 h40 h0_0 h0_1 h0_2 h0_3 h1_0 h1_1 h1_2 h1_3 => ex (v1, v6, h40, h0_0, h0_1, h0_2, h0_3, h1_0, h1_1, h1_2, h1_3))) (v1, v6, h40, h0_0, h0_1, h0_2, h0_3, h1_0, h1_1, h1_2, h1_3) (fun x => k0 x.1 x.2.1 x.2.2.1 x.2.2.2.1 x.2.2.2.2.1 x.2.2.2.2.2.1 x.2.2.2.2.2.2.1 x.2.2.2.2.2.2.2.1 x.2.2.2.2.2.2.2.2.1 x.2.2.2.2.2.2.2.2.2.1 x.2.2.2.2.2.2.2.2.2.2)
noncomputable def R08_Squeeze_l12 {ρ : Type} := shut (R08_Squeeze_L12 (ρ := ρ))
theorem R08_Squeeze_l12_eq {ρ : Type} : R08_Squeeze_l12 (ρ := ρ) = R08_Squeeze_L12 := shut_eq _
noncomputable def R08_Squeeze_raw {ρ : Type} (a0_Kind : Int) (a0_Words : List Int) (a0_At : Int) (a0_Out : Bool) (a1 : Int) (k : Int → (List Int) → Int → Bool → (List Int) → Option ρ) : Option ρ :=
 br (decide (a1 < (0 : Int))) (k a0_Kind a0_Words a0_At a0_Out [])
 (R08_Rate a0_Kind fun (q0 : Int) =>
  br (!a0_Out)
   (br (a0_Kind == (4 : Int))
    (R08_put a0_Words a0_At (6 : Int) fun (q1 : List Int) =>
     R08_put q1 (IntKind.i64.wrap (q0 - (1 : Int))) (128 : Int) fun (q2 : List Int) =>
      R08_Permute q2 fun (q3 : List Int) =>
       R08_Squeeze_l12 a1 q0 [] a0_Kind q3 (0 : Int) true (0 : Int)
        [(0 : Int), (0 : Int), (0 : Int), (0 : Int), (0 : Int), (0 : Int), (0 : Int), (0 : Int), (0 : Int),
         (0 : Int), (0 : Int), (0 : Int), (0 : Int), (0 : Int), (0 : Int), (0 : Int), (0 : Int), (0 : Int),
         (0 : Int), (0 : Int), (0 : Int), (0 : Int), (0 : Int), (0 : Int), (0 : Int)]
        (0 : Int) false
        fun (q4 q5 : Int) (q6 : List Int) (q7 : Int) (q8 : List Int) (q9 : Int) (q10 : Bool) (q11 : Int)
         (q12 : List Int) (q13 : Int) (q14 : Bool) =>
        k q7 q8 q9 q10 q6)
    (br (a0_Kind == (5 : Int))
     (R08_put a0_Words a0_At (6 : Int) fun (q15 : List Int) =>
      R08_put q15 (IntKind.i64.wrap (q0 - (1 : Int))) (128 : Int) fun (q16 : List Int) =>
       R08_Permute q16 fun (q17 : List Int) =>
        R08_Squeeze_l12 a1 q0 [] a0_Kind q17 (0 : Int) true (0 : Int)
         [(0 : Int), (0 : Int), (0 : Int), (0 : Int), (0 : Int), (0 : Int), (0 : Int), (0 : Int), (0 : Int),
          (0 : Int), (0 : Int), (0 : Int), (0 : Int), (0 : Int), (0 : Int), (0 : Int), (0 : Int), (0 : Int),
          (0 : Int), (0 : Int), (0 : Int), (0 : Int), (0 : Int), (0 : Int), (0 : Int)]
         (0 : Int) false
         fun (q18 q19 : Int) (q20 : List Int) (q21 : Int) (q22 : List Int) (q23 : Int) (q24 : Bool) (q25 : Int)
          (q26 : List Int) (q27 : Int) (q28 : Bool) =>
         k q21 q22 q23 q24 q20)
     (R08_put a0_Words a0_At (31 : Int) fun (q29 : List Int) =>
      R08_put q29 (IntKind.i64.wrap (q0 - (1 : Int))) (128 : Int) fun (q30 : List Int) =>
       R08_Permute q30 fun (q31 : List Int) =>
        R08_Squeeze_l12 a1 q0 [] a0_Kind q31 (0 : Int) true (0 : Int)
         [(0 : Int), (0 : Int), (0 : Int), (0 : Int), (0 : Int), (0 : Int), (0 : Int), (0 : Int), (0 : Int),
          (0 : Int), (0 : Int), (0 : Int), (0 : Int), (0 : Int), (0 : Int), (0 : Int), (0 : Int), (0 : Int),
          (0 : Int), (0 : Int), (0 : Int), (0 : Int), (0 : Int), (0 : Int), (0 : Int)]
         (0 : Int) false
         fun (q32 q33 : Int) (q34 : List Int) (q35 : Int) (q36 : List Int) (q37 : Int) (q38 : Bool) (q39 : Int)
          (q40 : List Int) (q41 : Int) (q42 : Bool) =>
         k q35 q36 q37 q38 q34)))
   (R08_Squeeze_l12 a1 q0 [] a0_Kind a0_Words a0_At a0_Out (0 : Int)
    [(0 : Int), (0 : Int), (0 : Int), (0 : Int), (0 : Int), (0 : Int), (0 : Int), (0 : Int), (0 : Int), (0 : Int),
     (0 : Int), (0 : Int), (0 : Int), (0 : Int), (0 : Int), (0 : Int), (0 : Int), (0 : Int), (0 : Int), (0 : Int),
     (0 : Int), (0 : Int), (0 : Int), (0 : Int), (0 : Int)]
    (0 : Int) false
    fun (q43 q44 : Int) (q45 : List Int) (q46 : Int) (q47 : List Int) (q48 : Int) (q49 : Bool) (q50 : Int)
     (q51 : List Int) (q52 : Int) (q53 : Bool) =>
    k q46 q47 q48 q49 q45))
noncomputable def R08_Squeeze {ρ : Type} := shut (R08_Squeeze_raw (ρ := ρ))
theorem R08_Squeeze_eq {ρ : Type} (a0_Kind : Int) (a0_Words : List Int) (a0_At : Int) (a0_Out : Bool) (a1 : Int) (k : Int → (List Int) → Int → Bool → (List Int) → Option ρ) : R08_Squeeze a0_Kind a0_Words a0_At a0_Out a1 k = R08_Squeeze_raw a0_Kind a0_Words a0_At a0_Out a1 k := by unfold R08_Squeeze; rw [shut_eq]
end P
end
