/-
  MacStarts, part H: an interpreter of my own over abstract values, the pure functions, the walks and the plain law.
-/

import Derived.Test.YtjhnljhjpnjieaaDoorMacStartsF
import Derived.Test.YtjhnljhjpnjieaaDoorMacStartsG

section
open Go Go.Abs
set_option linter.unusedVariables false
namespace P
noncomputable def keccak_turned_raw {ρ : Type} (a0_Kind : Int) (a0_Words : List Int) (a0_At : Int) (a0_Out : Bool) (k : Int → (List Int) → Int → Bool → Option ρ) : Option ρ :=
 br (a0_Kind == (4 : Int))
 (br (decide ((0 : Int) ≤ IntKind.i64.wrap (a0_At.tdiv (8 : Int))))
  (br (decide (IntKind.i64.wrap (a0_At.tdiv (8 : Int)) < (↑25 : Int)))
   (br (decide (IntKind.i64.wrap ((8 : Int) * a0_At.tmod (8 : Int)) < (0 : Int))) none
    (br (decide ((0 : Int) ≤ IntKind.i64.wrap (a0_At.tdiv (8 : Int))))
     (br (decide (IntKind.i64.wrap (a0_At.tdiv (8 : Int)) < (↑25 : Int)))
      (keccak_rate a0_Kind fun (q0 : Int) =>
       br (decide ((0 : Int) ≤ IntKind.i64.wrap ((IntKind.i64.wrap (q0 - (1 : Int))).tdiv (8 : Int))))
        (br
         (decide
          (IntKind.i64.wrap ((IntKind.i64.wrap (q0 - (1 : Int))).tdiv (8 : Int)) < (↑25 : Int)))
         (br
          (decide
           (IntKind.i64.wrap ((8 : Int) * (IntKind.i64.wrap (q0 - (1 : Int))).tmod (8 : Int)) < (0 : Int)))
          none
          (br (decide ((0 : Int) ≤ IntKind.i64.wrap ((IntKind.i64.wrap (q0 - (1 : Int))).tdiv (8 : Int))))
           (br
            (decide
             (IntKind.i64.wrap ((IntKind.i64.wrap (q0 - (1 : Int))).tdiv (8 : Int)) <
              (↑25 : Int)))
            (keccak_Permute
             ((a0_Words.set (IntKind.i64.wrap (a0_At.tdiv (8 : Int))).toNat
                (bits BinOp.xor IntKind.u64
                 (a0_Words.getD (IntKind.i64.wrap (a0_At.tdiv (8 : Int))).toNat (0 : Int))
                 (IntKind.u64.wrap
                  (IntKind.u64.wrap (6 : Int) *
                   (2 : Int) ^
                    min (IntKind.i64.wrap ((8 : Int) * a0_At.tmod (8 : Int))).toNat
                     64)))).set
              (IntKind.i64.wrap ((IntKind.i64.wrap (q0 - (1 : Int))).tdiv (8 : Int))).toNat
              (bits BinOp.xor IntKind.u64
               ((a0_Words.set (IntKind.i64.wrap (a0_At.tdiv (8 : Int))).toNat
                  (bits BinOp.xor IntKind.u64
                   (a0_Words.getD (IntKind.i64.wrap (a0_At.tdiv (8 : Int))).toNat (0 : Int))
                   (IntKind.u64.wrap
                    (IntKind.u64.wrap (6 : Int) *
                     (2 : Int) ^
                      min (IntKind.i64.wrap ((8 : Int) * a0_At.tmod (8 : Int))).toNat
                       64)))).getD
                (IntKind.i64.wrap ((IntKind.i64.wrap (q0 - (1 : Int))).tdiv (8 : Int))).toNat (0 : Int))
               (IntKind.u64.wrap
                (IntKind.u64.wrap (128 : Int) *
                 (2 : Int) ^
                  min
                   (IntKind.i64.wrap
                     ((8 : Int) * (IntKind.i64.wrap (q0 - (1 : Int))).tmod (8 : Int))).toNat
                   64))))
             fun (q1 : List Int) => k a0_Kind q1 (0 : Int) true)
            none)
           none))
         none)
        none)
      none)
     none))
   none)
  none)
 (br (a0_Kind == (5 : Int))
  (br (decide ((0 : Int) ≤ IntKind.i64.wrap (a0_At.tdiv (8 : Int))))
   (br (decide (IntKind.i64.wrap (a0_At.tdiv (8 : Int)) < (↑25 : Int)))
    (br (decide (IntKind.i64.wrap ((8 : Int) * a0_At.tmod (8 : Int)) < (0 : Int))) none
     (br (decide ((0 : Int) ≤ IntKind.i64.wrap (a0_At.tdiv (8 : Int))))
      (br (decide (IntKind.i64.wrap (a0_At.tdiv (8 : Int)) < (↑25 : Int)))
       (keccak_rate a0_Kind fun (q2 : Int) =>
        br (decide ((0 : Int) ≤ IntKind.i64.wrap ((IntKind.i64.wrap (q2 - (1 : Int))).tdiv (8 : Int))))
         (br
          (decide
           (IntKind.i64.wrap ((IntKind.i64.wrap (q2 - (1 : Int))).tdiv (8 : Int)) < (↑25 : Int)))
          (br
           (decide
            (IntKind.i64.wrap ((8 : Int) * (IntKind.i64.wrap (q2 - (1 : Int))).tmod (8 : Int)) < (0 : Int)))
           none
           (br (decide ((0 : Int) ≤ IntKind.i64.wrap ((IntKind.i64.wrap (q2 - (1 : Int))).tdiv (8 : Int))))
            (br
             (decide
              (IntKind.i64.wrap ((IntKind.i64.wrap (q2 - (1 : Int))).tdiv (8 : Int)) <
               (↑25 : Int)))
             (keccak_Permute
              ((a0_Words.set (IntKind.i64.wrap (a0_At.tdiv (8 : Int))).toNat
                 (bits BinOp.xor IntKind.u64
                  (a0_Words.getD (IntKind.i64.wrap (a0_At.tdiv (8 : Int))).toNat (0 : Int))
                  (IntKind.u64.wrap
                   (IntKind.u64.wrap (6 : Int) *
                    (2 : Int) ^
                     min (IntKind.i64.wrap ((8 : Int) * a0_At.tmod (8 : Int))).toNat
                      64)))).set
               (IntKind.i64.wrap ((IntKind.i64.wrap (q2 - (1 : Int))).tdiv (8 : Int))).toNat
               (bits BinOp.xor IntKind.u64
                ((a0_Words.set (IntKind.i64.wrap (a0_At.tdiv (8 : Int))).toNat
                   (bits BinOp.xor IntKind.u64
                    (a0_Words.getD (IntKind.i64.wrap (a0_At.tdiv (8 : Int))).toNat (0 : Int))
                    (IntKind.u64.wrap
                     (IntKind.u64.wrap (6 : Int) *
                      (2 : Int) ^
                       min (IntKind.i64.wrap ((8 : Int) * a0_At.tmod (8 : Int))).toNat
                        64)))).getD
                 (IntKind.i64.wrap ((IntKind.i64.wrap (q2 - (1 : Int))).tdiv (8 : Int))).toNat
                 (0 : Int))
                (IntKind.u64.wrap
                 (IntKind.u64.wrap (128 : Int) *
                  (2 : Int) ^
                   min
                    (IntKind.i64.wrap
                      ((8 : Int) * (IntKind.i64.wrap (q2 - (1 : Int))).tmod (8 : Int))).toNat
                    64))))
              fun (q3 : List Int) => k a0_Kind q3 (0 : Int) true)
             none)
            none))
          none)
         none)
       none)
      none))
    none)
   none)
  (br (decide ((0 : Int) ≤ IntKind.i64.wrap (a0_At.tdiv (8 : Int))))
   (br (decide (IntKind.i64.wrap (a0_At.tdiv (8 : Int)) < (↑25 : Int)))
    (br (decide (IntKind.i64.wrap ((8 : Int) * a0_At.tmod (8 : Int)) < (0 : Int))) none
     (br (decide ((0 : Int) ≤ IntKind.i64.wrap (a0_At.tdiv (8 : Int))))
      (br (decide (IntKind.i64.wrap (a0_At.tdiv (8 : Int)) < (↑25 : Int)))
       (keccak_rate a0_Kind fun (q4 : Int) =>
        br (decide ((0 : Int) ≤ IntKind.i64.wrap ((IntKind.i64.wrap (q4 - (1 : Int))).tdiv (8 : Int))))
         (br
          (decide
           (IntKind.i64.wrap ((IntKind.i64.wrap (q4 - (1 : Int))).tdiv (8 : Int)) < (↑25 : Int)))
          (br
           (decide
            (IntKind.i64.wrap ((8 : Int) * (IntKind.i64.wrap (q4 - (1 : Int))).tmod (8 : Int)) < (0 : Int)))
           none
           (br (decide ((0 : Int) ≤ IntKind.i64.wrap ((IntKind.i64.wrap (q4 - (1 : Int))).tdiv (8 : Int))))
            (br
             (decide
              (IntKind.i64.wrap ((IntKind.i64.wrap (q4 - (1 : Int))).tdiv (8 : Int)) <
               (↑25 : Int)))
             (keccak_Permute
              ((a0_Words.set (IntKind.i64.wrap (a0_At.tdiv (8 : Int))).toNat
                 (bits BinOp.xor IntKind.u64
                  (a0_Words.getD (IntKind.i64.wrap (a0_At.tdiv (8 : Int))).toNat (0 : Int))
                  (IntKind.u64.wrap
                   (IntKind.u64.wrap (31 : Int) *
                    (2 : Int) ^
                     min (IntKind.i64.wrap ((8 : Int) * a0_At.tmod (8 : Int))).toNat
                      64)))).set
               (IntKind.i64.wrap ((IntKind.i64.wrap (q4 - (1 : Int))).tdiv (8 : Int))).toNat
               (bits BinOp.xor IntKind.u64
                ((a0_Words.set (IntKind.i64.wrap (a0_At.tdiv (8 : Int))).toNat
                   (bits BinOp.xor IntKind.u64
                    (a0_Words.getD (IntKind.i64.wrap (a0_At.tdiv (8 : Int))).toNat (0 : Int))
                    (IntKind.u64.wrap
                     (IntKind.u64.wrap (31 : Int) *
                      (2 : Int) ^
                       min (IntKind.i64.wrap ((8 : Int) * a0_At.tmod (8 : Int))).toNat
                        64)))).getD
                 (IntKind.i64.wrap ((IntKind.i64.wrap (q4 - (1 : Int))).tdiv (8 : Int))).toNat
                 (0 : Int))
                (IntKind.u64.wrap
                 (IntKind.u64.wrap (128 : Int) *
                  (2 : Int) ^
                   min
                    (IntKind.i64.wrap
                      ((8 : Int) * (IntKind.i64.wrap (q4 - (1 : Int))).tmod (8 : Int))).toNat
                    64))))
              fun (q5 : List Int) => k a0_Kind q5 (0 : Int) true)
             none)
            none))
          none)
         none)
       none)
      none))
    none)
   none))
noncomputable def keccak_turned {ρ : Type} := shut (keccak_turned_raw (ρ := ρ))
theorem keccak_turned_eq {ρ : Type} (a0_Kind : Int) (a0_Words : List Int) (a0_At : Int) (a0_Out : Bool) (k : Int → (List Int) → Int → Bool → Option ρ) : keccak_turned a0_Kind a0_Words a0_At a0_Out k = keccak_turned_raw a0_Kind a0_Words a0_At a0_Out k := by unfold keccak_turned; rw [shut_eq]
end P
end

section
open Go Go.Abs
set_option linter.unusedVariables false
namespace P
noncomputable def keccak_Squeeze_r7 {ρ : Type} (v19 : Int) (v20 : Int) (h0_0 : Int) (h0_1 : List Int) (h0_2 : Int) (h0_3 : Bool) (h1_0 : Int) (h1_1 : List Int) (h1_2 : Int) (h1_3 : Bool) (h2 : List Int) (nx : Int → Int → Int → (List Int) → Int → Bool → Int → (List Int) → Int → Bool → (List Int) → Option ρ) (k0 : Int → Int → Int → (List Int) → Int → Bool → Int → (List Int) → Int → Bool → (List Int) → Option ρ) : Option ρ :=
 br (decide (v20 < v19))
 (keccak_rate h0_0 fun (q0 : Int) =>
  br (h0_2 == q0)
   (keccak_Permute h0_1 fun (q1 : List Int) =>
    br (decide ((0 : Int) ≤ v20))
     (br (decide (v20 < (↑h2.length : Int)))
      (nx v19 (IntKind.i64.wrap (v20 + (1 : Int))) h0_0 q1 (IntKind.i64.wrap ((0 : Int) + (1 : Int))) h0_3 h1_0
       h1_1 h1_2 h1_3
       (h2.set v20.toNat (IntKind.u8.wrap ((q1.getD 0 (0 : Int)).fdiv ((2 : Int) ^ 0)))))
      none)
     none)
   (br (decide ((0 : Int) ≤ IntKind.i64.wrap (h0_2.tdiv (8 : Int))))
    (br (decide (IntKind.i64.wrap (h0_2.tdiv (8 : Int)) < (↑25 : Int)))
     (br (decide (IntKind.i64.wrap ((8 : Int) * h0_2.tmod (8 : Int)) < (0 : Int))) none
      (br (decide ((0 : Int) ≤ v20))
       (br (decide (v20 < (↑h2.length : Int)))
        (nx v19 (IntKind.i64.wrap (v20 + (1 : Int))) h0_0 h0_1 (IntKind.i64.wrap (h0_2 + (1 : Int))) h0_3 h1_0
         h1_1 h1_2 h1_3
         (h2.set v20.toNat
          (IntKind.u8.wrap
           ((h0_1.getD (IntKind.i64.wrap (h0_2.tdiv (8 : Int))).toNat (0 : Int)).fdiv
            ((2 : Int) ^ min (IntKind.i64.wrap ((8 : Int) * h0_2.tmod (8 : Int))).toNat 64)))))
        none)
       none))
     none)
    none))
 (k0 v19 v20 h0_0 h0_1 h0_2 h0_3 h1_0 h1_1 h1_2 h1_3 h2)
noncomputable def keccak_Squeeze_L7 {ρ : Type} (v19 : Int) (v20 : Int) (h0_0 : Int) (h0_1 : List Int) (h0_2 : Int) (h0_3 : Bool) (h1_0 : Int) (h1_1 : List Int) (h1_2 : Int) (h1_3 : Bool) (h2 : List Int) (k0 : Int → Int → Int → (List Int) → Int → Bool → Int → (List Int) → Int → Bool → (List Int) → Option ρ) : Option ρ :=
 lp (fun (x : Int × Int × Int × (List Int) × Int × Bool × Int × (List Int) × Int × Bool × (List Int)) next (ex : (Int × Int × Int × (List Int) × Int × Bool × Int × (List Int) × Int × Bool × (List Int)) → Option ρ) => keccak_Squeeze_r7 x.1 x.2.1 x.2.2.1 x.2.2.2.1 x.2.2.2.2.1 x.2.2.2.2.2.1 x.2.2.2.2.2.2.1 x.2.2.2.2.2.2.2.1 x.2.2.2.2.2.2.2.2.1 x.2.2.2.2.2.2.2.2.2.1 x.2.2.2.2.2.2.2.2.2.2 (fun v19 v20 h0_0 h0_1 h0_2 h0_3 h1_0 h1_1 h1_2 h1_3 h2 => next (v19, v20, h0_0, h0_1, h0_2, h0_3, h1_0, h1_1, h1_2, h1_3, h2)) (fun v19 v20 h0_0 h0_1 h0_2 h0_3 h1_0 h1_1 h1_2 h1_3 h2 => ex (v19, v20, h0_0, h0_1, h0_2, h0_3, h1_0, h1_1, h1_2, h1_3, h2))) (v19, v20, h0_0, h0_1, h0_2, h0_3, h1_0, h1_1, h1_2, h1_3, h2) (fun x => k0 x.1 x.2.1 x.2.2.1 x.2.2.2.1 x.2.2.2.2.1 x.2.2.2.2.2.1 x.2.2.2.2.2.2.1 x.2.2.2.2.2.2.2.1 x.2.2.2.2.2.2.2.2.1 x.2.2.2.2.2.2.2.2.2.1 x.2.2.2.2.2.2.2.2.2.2)
noncomputable def keccak_Squeeze_l7 {ρ : Type} := shut (keccak_Squeeze_L7 (ρ := ρ))
theorem keccak_Squeeze_l7_eq {ρ : Type} : keccak_Squeeze_l7 (ρ := ρ) = keccak_Squeeze_L7 := shut_eq _
noncomputable def keccak_Squeeze_raw {ρ : Type} (a0_Kind : Int) (a0_Words : List Int) (a0_At : Int) (a0_Out : Bool) (a1 : Int) (k : Int → (List Int) → Int → Bool → (List Int) → Option ρ) : Option ρ :=
 br (decide (a1 < (0 : Int))) (k a0_Kind a0_Words a0_At a0_Out [])
 (br (!a0_Out)
  (keccak_turned a0_Kind a0_Words a0_At a0_Out fun (q0 : Int) (q1 : List Int) (q2 : Int) (q3 : Bool) =>
   br (decide ((0 : Int) ≤ a1))
    (br (decide (a1 ≤ a1))
     (br (decide (a1 * (↑1 : Int) ≤ (↑140737488355328 : Int)))
      (keccak_Squeeze_l7 (↑(List.replicate a1.toNat (0 : Int)).length : Int) (0 : Int) q0 q1 q2 q3 (0 : Int)
       [(0 : Int), (0 : Int), (0 : Int), (0 : Int), (0 : Int), (0 : Int), (0 : Int), (0 : Int), (0 : Int),
        (0 : Int), (0 : Int), (0 : Int), (0 : Int), (0 : Int), (0 : Int), (0 : Int), (0 : Int), (0 : Int),
        (0 : Int), (0 : Int), (0 : Int), (0 : Int), (0 : Int), (0 : Int), (0 : Int)]
       (0 : Int) false (List.replicate a1.toNat (0 : Int))
       fun (q4 q5 q6 : Int) (q7 : List Int) (q8 : Int) (q9 : Bool) (q10 : Int) (q11 : List Int) (q12 : Int)
        (q13 : Bool) (q14 : List Int) =>
       k q6 q7 q8 q9 q14)
      none)
     none)
    none)
  (br (decide ((0 : Int) ≤ a1))
   (br (decide (a1 ≤ a1))
    (br (decide (a1 * (↑1 : Int) ≤ (↑140737488355328 : Int)))
     (keccak_Squeeze_l7 (↑(List.replicate a1.toNat (0 : Int)).length : Int) (0 : Int) a0_Kind a0_Words a0_At
      a0_Out (0 : Int)
      [(0 : Int), (0 : Int), (0 : Int), (0 : Int), (0 : Int), (0 : Int), (0 : Int), (0 : Int), (0 : Int),
       (0 : Int), (0 : Int), (0 : Int), (0 : Int), (0 : Int), (0 : Int), (0 : Int), (0 : Int), (0 : Int),
       (0 : Int), (0 : Int), (0 : Int), (0 : Int), (0 : Int), (0 : Int), (0 : Int)]
      (0 : Int) false (List.replicate a1.toNat (0 : Int))
      fun (q15 q16 q17 : Int) (q18 : List Int) (q19 : Int) (q20 : Bool) (q21 : Int) (q22 : List Int) (q23 : Int)
       (q24 : Bool) (q25 : List Int) =>
      k q17 q18 q19 q20 q25)
     none)
    none)
   none))
noncomputable def keccak_Squeeze {ρ : Type} := shut (keccak_Squeeze_raw (ρ := ρ))
theorem keccak_Squeeze_eq {ρ : Type} (a0_Kind : Int) (a0_Words : List Int) (a0_At : Int) (a0_Out : Bool) (a1 : Int) (k : Int → (List Int) → Int → Bool → (List Int) → Option ρ) : keccak_Squeeze a0_Kind a0_Words a0_At a0_Out a1 k = keccak_Squeeze_raw a0_Kind a0_Words a0_At a0_Out a1 k := by unfold keccak_Squeeze; rw [shut_eq]
end P
end

section
open Go Go.Abs
set_option linter.unusedVariables false
namespace P
noncomputable def keccak_Absorb_r5 {ρ : Type} (v1 : List Int) (v5 : Int) (v14 : Int) (v15 : Int) (h0_0 : Int) (h0_1 : List Int) (h0_2 : Int) (h0_3 : Bool) (h1_0 : Int) (h1_1 : List Int) (h1_2 : Int) (h1_3 : Bool) (nx : (List Int) → Int → Int → Int → Int → (List Int) → Int → Bool → Int → (List Int) → Int → Bool → Option ρ) (k0 : (List Int) → Int → Int → Int → Int → (List Int) → Int → Bool → Int → (List Int) → Int → Bool → Option ρ) : Option ρ :=
 br (decide (v15 < v14))
 (br (decide ((0 : Int) ≤ v15))
  (br (decide (v15 < (↑v1.length : Int)))
   (br (decide ((0 : Int) ≤ IntKind.i64.wrap (h0_2.tdiv (8 : Int))))
    (br (decide (IntKind.i64.wrap (h0_2.tdiv (8 : Int)) < (↑25 : Int)))
     (br (decide (IntKind.i64.wrap ((8 : Int) * h0_2.tmod (8 : Int)) < (0 : Int))) none
      (br (decide ((0 : Int) ≤ IntKind.i64.wrap (h0_2.tdiv (8 : Int))))
       (br (decide (IntKind.i64.wrap (h0_2.tdiv (8 : Int)) < (↑25 : Int)))
        (br (IntKind.i64.wrap (h0_2 + (1 : Int)) == v5)
         (keccak_Permute
          (h0_1.set (IntKind.i64.wrap (h0_2.tdiv (8 : Int))).toNat
           (bits BinOp.xor IntKind.u64 (h0_1.getD (IntKind.i64.wrap (h0_2.tdiv (8 : Int))).toNat (0 : Int))
            (IntKind.u64.wrap
             (IntKind.u64.wrap (v1.getD v15.toNat (0 : Int)) *
              (2 : Int) ^ min (IntKind.i64.wrap ((8 : Int) * h0_2.tmod (8 : Int))).toNat 64))))
          fun (q0 : List Int) =>
          nx v1 v5 v14 (IntKind.i64.wrap (v15 + (1 : Int))) h0_0 q0 (0 : Int) h0_3 h1_0 h1_1 h1_2 h1_3)
         (nx v1 v5 v14 (IntKind.i64.wrap (v15 + (1 : Int))) h0_0
          (h0_1.set (IntKind.i64.wrap (h0_2.tdiv (8 : Int))).toNat
           (bits BinOp.xor IntKind.u64 (h0_1.getD (IntKind.i64.wrap (h0_2.tdiv (8 : Int))).toNat (0 : Int))
            (IntKind.u64.wrap
             (IntKind.u64.wrap (v1.getD v15.toNat (0 : Int)) *
              (2 : Int) ^ min (IntKind.i64.wrap ((8 : Int) * h0_2.tmod (8 : Int))).toNat 64))))
          (IntKind.i64.wrap (h0_2 + (1 : Int))) h0_3 h1_0 h1_1 h1_2 h1_3))
        none)
       none))
     none)
    none)
   none)
  none)
 (k0 v1 v5 v14 v15 h0_0 h0_1 h0_2 h0_3 h1_0 h1_1 h1_2 h1_3)
noncomputable def keccak_Absorb_L5 {ρ : Type} (v1 : List Int) (v5 : Int) (v14 : Int) (v15 : Int) (h0_0 : Int) (h0_1 : List Int) (h0_2 : Int) (h0_3 : Bool) (h1_0 : Int) (h1_1 : List Int) (h1_2 : Int) (h1_3 : Bool) (k0 : (List Int) → Int → Int → Int → Int → (List Int) → Int → Bool → Int → (List Int) → Int → Bool → Option ρ) : Option ρ :=
 lp (fun (x : (List Int) × Int × Int × Int × Int × (List Int) × Int × Bool × Int × (List Int) × Int × Bool) next (ex : ((List Int) × Int × Int × Int × Int × (List Int) × Int × Bool × Int × (List Int) × Int × Bool) → Option ρ) => keccak_Absorb_r5 x.1 x.2.1 x.2.2.1 x.2.2.2.1 x.2.2.2.2.1 x.2.2.2.2.2.1 x.2.2.2.2.2.2.1 x.2.2.2.2.2.2.2.1 x.2.2.2.2.2.2.2.2.1 x.2.2.2.2.2.2.2.2.2.1 x.2.2.2.2.2.2.2.2.2.2.1 x.2.2.2.2.2.2.2.2.2.2.2 (fun v1 v5 v14 v15 h0_0 h0_1 h0_2 h0_3 h1_0 h1_1 h1_2 h1_3 => next (v1, v5, v14, v15, h0_0, h0_1, h0_2, h0_3, h1_0, h1_1, h1_2, h1_3)) (fun v1 v5 v14 v15 h0_0 h0_1 h0_2 h0_3 h1_0 h1_1 h1_2 h1_3 => ex (v1, v5, v14, v15, h0_0, h0_1, h0_2, h0_3, h1_0, h1_1, h1_2, h1_3))) (v1, v5, v14, v15, h0_0, h0_1, h0_2, h0_3, h1_0, h1_1, h1_2, h1_3) (fun x => k0 x.1 x.2.1 x.2.2.1 x.2.2.2.1 x.2.2.2.2.1 x.2.2.2.2.2.1 x.2.2.2.2.2.2.1 x.2.2.2.2.2.2.2.1 x.2.2.2.2.2.2.2.2.1 x.2.2.2.2.2.2.2.2.2.1 x.2.2.2.2.2.2.2.2.2.2.1 x.2.2.2.2.2.2.2.2.2.2.2)
noncomputable def keccak_Absorb_l5 {ρ : Type} := shut (keccak_Absorb_L5 (ρ := ρ))
theorem keccak_Absorb_l5_eq {ρ : Type} : keccak_Absorb_l5 (ρ := ρ) = keccak_Absorb_L5 := shut_eq _
noncomputable def keccak_Absorb_raw {ρ : Type} (a0_Kind : Int) (a0_Words : List Int) (a0_At : Int) (a0_Out : Bool) (a1 : List Int) (k : Int → (List Int) → Int → Bool → Option ρ) : Option ρ :=
 br a0_Out (k a0_Kind a0_Words a0_At a0_Out)
 (keccak_rate a0_Kind fun (q0 : Int) =>
  keccak_Absorb_l5 a1 q0 (↑a1.length : Int) (0 : Int) a0_Kind a0_Words a0_At a0_Out (0 : Int)
   [(0 : Int), (0 : Int), (0 : Int), (0 : Int), (0 : Int), (0 : Int), (0 : Int), (0 : Int), (0 : Int), (0 : Int),
    (0 : Int), (0 : Int), (0 : Int), (0 : Int), (0 : Int), (0 : Int), (0 : Int), (0 : Int), (0 : Int), (0 : Int),
    (0 : Int), (0 : Int), (0 : Int), (0 : Int), (0 : Int)]
   (0 : Int) false
   fun (q1 : List Int) (q2 q3 q4 q5 : Int) (q6 : List Int) (q7 : Int) (q8 : Bool) (q9 : Int) (q10 : List Int)
    (q11 : Int) (q12 : Bool) =>
   k q5 q6 q7 q8)
noncomputable def keccak_Absorb {ρ : Type} := shut (keccak_Absorb_raw (ρ := ρ))
theorem keccak_Absorb_eq {ρ : Type} (a0_Kind : Int) (a0_Words : List Int) (a0_At : Int) (a0_Out : Bool) (a1 : List Int) (k : Int → (List Int) → Int → Bool → Option ρ) : keccak_Absorb a0_Kind a0_Words a0_At a0_Out a1 k = keccak_Absorb_raw a0_Kind a0_Words a0_At a0_Out a1 k := by unfold keccak_Absorb; rw [shut_eq]
end P
end

section
open Go Go.Abs
set_option linter.unusedVariables false
namespace P
noncomputable def keccak_Sum_raw {ρ : Type} (a0 : Int) (a1 : List Int) (a2 : Int) (k : (List Int) → Int → Option ρ) : Option ρ :=
 keccak_New a0 fun (q0 : Int) (q1 : List Int) (q2 : Int) (q3 : Bool) (q4 : Int) =>
 br (q4 != (0 : Int)) (k [] q4)
  (br (decide (a2 < (0 : Int))) (k [] (8 : Int))
   (br (decide (a2 > (16777216 : Int))) (k [] (8 : Int))
    (keccak_Absorb q0 q1 q2 q3 a1 fun (q5 : Int) (q6 : List Int) (q7 : Int) (q8 : Bool) =>
     keccak_Squeeze q5 q6 q7 q8 a2 fun (q9 : Int) (q10 : List Int) (q11 : Int) (q12 : Bool) (q13 : List Int) =>
      k q13 (0 : Int))))
noncomputable def keccak_Sum {ρ : Type} := shut (keccak_Sum_raw (ρ := ρ))
theorem keccak_Sum_eq {ρ : Type} (a0 : Int) (a1 : List Int) (a2 : Int) (k : (List Int) → Int → Option ρ) : keccak_Sum a0 a1 a2 k = keccak_Sum_raw a0 a1 a2 k := by unfold keccak_Sum; rw [shut_eq]
end P
end

section
open Go Go.Abs
set_option linter.unusedVariables false
namespace P
noncomputable def mac_Digest_raw {ρ : Type} (a0 : Int) (a1 : List Int) (k : (List Int) → Int → Option ρ) : Option ρ :=
 mac_Size a0 fun (q0 : Int) =>
 br (q0 == (0 : Int)) (k [] (9 : Int))
  (br (decide (a0 ≤ (3 : Int))) (sha_Sum a0 a1 fun (q1 : List Int) (q2 : Int) => k q1 q2)
   (mac_Size a0 fun (q3 : Int) => keccak_Sum a0 a1 q3 fun (q4 : List Int) (q5 : Int) => k q4 q5))
noncomputable def mac_Digest {ρ : Type} := shut (mac_Digest_raw (ρ := ρ))
theorem mac_Digest_eq {ρ : Type} (a0 : Int) (a1 : List Int) (k : (List Int) → Int → Option ρ) : mac_Digest a0 a1 k = mac_Digest_raw a0 a1 k := by unfold mac_Digest; rw [shut_eq]
end P
end

section
open Go Go.Abs
set_option linter.unusedVariables false
namespace P
noncomputable def bits_Join_raw {ρ : Type} (a0 : List (List Int)) (k : (List Int) → Option ρ) : Option ρ :=
 slices_Concat_byte a0 fun (q0 : List Int) => k q0
noncomputable def bits_Join {ρ : Type} := shut (bits_Join_raw (ρ := ρ))
theorem bits_Join_eq {ρ : Type} (a0 : List (List Int)) (k : (List Int) → Option ρ) : bits_Join a0 k = bits_Join_raw a0 k := by unfold bits_Join; rw [shut_eq]
end P
end

section
open Go Go.Abs
set_option linter.unusedVariables false
namespace P
noncomputable def mac_digests_f1_raw {ρ : Type} (a0 : List (List Int)) (a1 : Int) (k : (List Int) → Option ρ) : Option ρ :=
 bits_Join a0 fun (q0 : List Int) => mac_Digest a1 q0 fun (q1 : List Int) (q2 : Int) => k q1
noncomputable def mac_digests_f1 {ρ : Type} := shut (mac_digests_f1_raw (ρ := ρ))
theorem mac_digests_f1_eq {ρ : Type} (a0 : List (List Int)) (a1 : Int) (k : (List Int) → Option ρ) : mac_digests_f1 a0 a1 k = mac_digests_f1_raw a0 a1 k := by unfold mac_digests_f1; rw [shut_eq]
end P
end

section
open Go Go.Abs
set_option linter.unusedVariables false
namespace P
noncomputable def mac_digests_raw {ρ : Type} (a0 : Int) (k : Int → Option ρ) : Option ρ :=
 k a0
noncomputable def mac_digests {ρ : Type} := shut (mac_digests_raw (ρ := ρ))
theorem mac_digests_eq {ρ : Type} (a0 : Int) (k : Int → Option ρ) : mac_digests a0 k = mac_digests_raw a0 k := by unfold mac_digests; rw [shut_eq]
end P
end

section
open Go Go.Abs
set_option linter.unusedVariables false
namespace P
noncomputable def mac_stirred_r4 {ρ : Type} (v2 : Int) (v15 : Int) (v16 : Int) (h0 : List Int) (nx : Int → Int → Int → (List Int) → Option ρ) (k0 : Int → Int → Int → (List Int) → Option ρ) : Option ρ :=
 br (decide (v16 < v15))
 (br (decide ((0 : Int) ≤ v16))
  (br (decide (v16 < (↑h0.length : Int)))
   (br (decide ((0 : Int) ≤ v16))
    (br (decide (v16 < (↑h0.length : Int)))
     (nx v2 v15 (IntKind.i64.wrap (v16 + (1 : Int)))
      (h0.set v16.toNat (bits BinOp.xor IntKind.u8 (h0.getD v16.toNat (0 : Int)) v2)))
     none)
    none)
   none)
  none)
 (k0 v2 v15 v16 h0)
noncomputable def mac_stirred_L4 {ρ : Type} (v2 : Int) (v15 : Int) (v16 : Int) (h0 : List Int) (k0 : Int → Int → Int → (List Int) → Option ρ) : Option ρ :=
 lp (fun (x : Int × Int × Int × (List Int)) next (ex : (Int × Int × Int × (List Int)) → Option ρ) => mac_stirred_r4 x.1 x.2.1 x.2.2.1 x.2.2.2 (fun v2 v15 v16 h0 => next (v2, v15, v16, h0)) (fun v2 v15 v16 h0 => ex (v2, v15, v16, h0))) (v2, v15, v16, h0) (fun x => k0 x.1 x.2.1 x.2.2.1 x.2.2.2)
noncomputable def mac_stirred_l4 {ρ : Type} := shut (mac_stirred_L4 (ρ := ρ))
theorem mac_stirred_l4_eq {ρ : Type} : mac_stirred_l4 (ρ := ρ) = mac_stirred_L4 := shut_eq _
noncomputable def mac_stirred_raw {ρ : Type} (a0 : List Int) (a1 : Int) (a2 : Int) (k : (List Int) → Option ρ) : Option ρ :=
 br (decide ((0 : Int) ≤ a1))
 (br (decide (a1 ≤ a1))
  (br (decide (a1 * (↑1 : Int) ≤ (↑140737488355328 : Int)))
   (mac_stirred_l4 a2
    (↑((List.take (List.replicate a1.toNat (0 : Int)).length a0).append
        (List.drop (0 + min (List.replicate a1.toNat (0 : Int)).length a0.length)
         (List.replicate a1.toNat (0 : Int)))).length :
     Int)
    (0 : Int)
    ((List.take (List.replicate a1.toNat (0 : Int)).length a0).append
     (List.drop (0 + min (List.replicate a1.toNat (0 : Int)).length a0.length)
      (List.replicate a1.toNat (0 : Int))))
    fun (q0 q1 q2 : Int) (q3 : List Int) => k q3)
   none)
  none)
 none
noncomputable def mac_stirred {ρ : Type} := shut (mac_stirred_raw (ρ := ρ))
theorem mac_stirred_eq {ρ : Type} (a0 : List Int) (a1 : Int) (a2 : Int) (k : (List Int) → Option ρ) : mac_stirred a0 a1 a2 k = mac_stirred_raw a0 a1 a2 k := by unfold mac_stirred; rw [shut_eq]
end P
end

section
open Go Go.Abs
set_option linter.unusedVariables false
namespace P
noncomputable def mac_with_f1_raw {ρ : Type} (a0 : List (List Int)) (a1_c0 : Int) (a2 : List Int) (a3 : List Int) (k : (List Int) → Option ρ) : Option ρ :=
 bits_Join a0 fun (q0 : List Int) =>
 mac_digests_f1 [a3, q0] a1_c0 fun (q1 : List Int) => mac_digests_f1 [a2, q1] a1_c0 fun (q2 : List Int) => k q2
noncomputable def mac_with_f1 {ρ : Type} := shut (mac_with_f1_raw (ρ := ρ))
theorem mac_with_f1_eq {ρ : Type} (a0 : List (List Int)) (a1_c0 : Int) (a2 : List Int) (a3 : List Int) (k : (List Int) → Option ρ) : mac_with_f1 a0 a1_c0 a2 a3 k = mac_with_f1_raw a0 a1_c0 a2 a3 k := by unfold mac_with_f1; rw [shut_eq]
end P
end

section
open Go Go.Abs
set_option linter.unusedVariables false
namespace P
noncomputable def mac_with_raw {ρ : Type} (a0 : Int) (a1 : List Int) (k : Int → (List Int) → (List Int) → Option ρ) : Option ρ :=
 mac_digests a0 fun (q0 : Int) =>
 br (decide ((0 : Int) ≤ a0))
  (br (decide (a0 < (↑8 : Int)))
   (br
    (decide
     (a0.toNat * 2 + 1 <
      16))
    (br
     (decide
      ((↑a1.length : Int) >
       [(0 : Int), (0 : Int), (32 : Int), (64 : Int), (48 : Int), (128 : Int), (64 : Int), (128 : Int),
          (32 : Int), (136 : Int), (64 : Int), (72 : Int), (32 : Int), (168 : Int), (64 : Int),
          (136 : Int)].getD
        (a0.toNat * 2 + 1)
        (0 : Int)))
     (mac_digests_f1 [a1] q0 fun (q1 : List Int) =>
      mac_stirred q1
       ([(0 : Int), (0 : Int), (32 : Int), (64 : Int), (48 : Int), (128 : Int), (64 : Int), (128 : Int),
          (32 : Int), (136 : Int), (64 : Int), (72 : Int), (32 : Int), (168 : Int), (64 : Int),
          (136 : Int)].getD
        (a0.toNat * 2 + 1)
        (0 : Int))
       (54 : Int) fun (q2 : List Int) =>
       mac_stirred q1
        ([(0 : Int), (0 : Int), (32 : Int), (64 : Int), (48 : Int), (128 : Int), (64 : Int), (128 : Int),
           (32 : Int), (136 : Int), (64 : Int), (72 : Int), (32 : Int), (168 : Int), (64 : Int),
           (136 : Int)].getD
         (a0.toNat * 2 + 1)
         (0 : Int))
        (92 : Int) fun (q3 : List Int) => k q0 q3 q2)
     (mac_stirred a1
      ([(0 : Int), (0 : Int), (32 : Int), (64 : Int), (48 : Int), (128 : Int), (64 : Int), (128 : Int),
         (32 : Int), (136 : Int), (64 : Int), (72 : Int), (32 : Int), (168 : Int), (64 : Int),
         (136 : Int)].getD
       (a0.toNat * 2 + 1)
       (0 : Int))
      (54 : Int) fun (q4 : List Int) =>
      mac_stirred a1
       ([(0 : Int), (0 : Int), (32 : Int), (64 : Int), (48 : Int), (128 : Int), (64 : Int), (128 : Int),
          (32 : Int), (136 : Int), (64 : Int), (72 : Int), (32 : Int), (168 : Int), (64 : Int),
          (136 : Int)].getD
        (a0.toNat * 2 + 1)
        (0 : Int))
       (92 : Int) fun (q5 : List Int) => k q0 q5 q4))
    none)
   none)
  none
noncomputable def mac_with {ρ : Type} := shut (mac_with_raw (ρ := ρ))
theorem mac_with_eq {ρ : Type} (a0 : Int) (a1 : List Int) (k : Int → (List Int) → (List Int) → Option ρ) : mac_with a0 a1 k = mac_with_raw a0 a1 k := by unfold mac_with; rw [shut_eq]
end P
end

section
open Go Go.Abs
set_option linter.unusedVariables false
namespace P
noncomputable def mac_Hmac_raw {ρ : Type} (a0 : Int) (a1 : List Int) (a2 : List Int) (k : (List Int) → Int → Option ρ) : Option ρ :=
 mac_keyed a0 fun (q0 : Bool) =>
 br (!q0) (k [] (9 : Int))
  (mac_with a0 a1 fun (q1 : Int) (q2 q3 : List Int) =>
   mac_with_f1 [a2] q1 q2 q3 fun (q4 : List Int) => k q4 (0 : Int))
noncomputable def mac_Hmac {ρ : Type} := shut (mac_Hmac_raw (ρ := ρ))
theorem mac_Hmac_eq {ρ : Type} (a0 : Int) (a1 : List Int) (a2 : List Int) (k : (List Int) → Int → Option ρ) : mac_Hmac a0 a1 a2 k = mac_Hmac_raw a0 a1 a2 k := by unfold mac_Hmac; rw [shut_eq]
end P
end

section
open Go Go.Abs
set_option linter.unusedVariables false
namespace P
noncomputable def R01_Same_r4 {ρ : Type} (v0 : List Int) (v1 : List Int) (v5 : Int) (nx : (List Int) → (List Int) → Int → Option ρ) (k0 : (List Int) → (List Int) → Int → Option ρ) (k1 : Bool → Option ρ) : Option ρ :=
 br (decide (v5 < (↑v0.length : Int)))
 (br (decide ((0 : Int) ≤ v5))
  (br (decide (v5 < (↑v0.length : Int)))
   (br (decide ((0 : Int) ≤ v5))
    (br (decide (v5 < (↑v1.length : Int)))
     (br (v0.getD v5.toNat (0 : Int) != v1.getD v5.toNat (0 : Int)) (k1 false)
      (nx v0 v1 (IntKind.i64.wrap (v5 + (1 : Int)))))
     none)
    none)
   none)
  none)
 (k0 v0 v1 v5)
noncomputable def R01_Same_L4 {ρ : Type} (v0 : List Int) (v1 : List Int) (v5 : Int) (k0 : (List Int) → (List Int) → Int → Option ρ) (k1 : Bool → Option ρ) : Option ρ :=
 lp (fun (x : (List Int) × (List Int) × Int) next (ex : ((List Int) × (List Int) × Int) ⊕ (Bool) → Option ρ) => R01_Same_r4 x.1 x.2.1 x.2.2 (fun v0 v1 v5 => next (v0, v1, v5)) (fun v0 v1 v5 => ex (.inl (v0, v1, v5))) (fun v4 => ex (.inr v4))) (v0, v1, v5) (Sum.elim (fun x => k0 x.1 x.2.1 x.2.2) (fun x => k1 x))
noncomputable def R01_Same_l4 {ρ : Type} := shut (R01_Same_L4 (ρ := ρ))
theorem R01_Same_l4_eq {ρ : Type} : R01_Same_l4 (ρ := ρ) = R01_Same_L4 := shut_eq _
noncomputable def R01_Same_raw {ρ : Type} (a0 : List Int) (a1 : List Int) (k : Bool → Option ρ) : Option ρ :=
 br ((↑a0.length : Int) != (↑a1.length : Int)) (k false)
 (R01_Same_l4 a0 a1 (0 : Int) (fun (q0 q1 : List Int) (q2 : Int) => k true) fun (q3 : Bool) => k q3)
noncomputable def R01_Same {ρ : Type} := shut (R01_Same_raw (ρ := ρ))
theorem R01_Same_eq {ρ : Type} (a0 : List Int) (a1 : List Int) (k : Bool → Option ρ) : R01_Same a0 a1 k = R01_Same_raw a0 a1 k := by unfold R01_Same; rw [shut_eq]
end P
end

section
open Go Go.Abs
set_option linter.unusedVariables false
namespace P
noncomputable def mac_Expand_r8 {ρ : Type} (v2 : List Int) (v3 : Int) (v10_c0_0_c0_0 : Int) (v10_c1_0 : List Int) (v10_c2_0 : List Int) (v12 : List Int) (v13 : Int) (h0 : List Int) (nx : (List Int) → Int → Int → (List Int) → (List Int) → (List Int) → Int → (List Int) → Option ρ) (k0 : (List Int) → Int → Int → (List Int) → (List Int) → (List Int) → Int → (List Int) → Option ρ) : Option ρ :=
 br (decide ((↑h0.length : Int) < v3))
 (mac_with_f1 [v12, v2, [v13]] v10_c0_0_c0_0 v10_c1_0 v10_c2_0 fun (q0 : List Int) =>
  br
   (decide
    ((h0.length + q0.length) * 1 ≤
     140737488355328))
   (nx v2 v3 v10_c0_0_c0_0 v10_c1_0 v10_c2_0 q0 (IntKind.u8.wrap (v13 + (1 : Int))) (h0 ++ q0)) none)
 (k0 v2 v3 v10_c0_0_c0_0 v10_c1_0 v10_c2_0 v12 v13 h0)
noncomputable def mac_Expand_L8 {ρ : Type} (v2 : List Int) (v3 : Int) (v10_c0_0_c0_0 : Int) (v10_c1_0 : List Int) (v10_c2_0 : List Int) (v12 : List Int) (v13 : Int) (h0 : List Int) (k0 : (List Int) → Int → Int → (List Int) → (List Int) → (List Int) → Int → (List Int) → Option ρ) : Option ρ :=
 lp (fun (x : (List Int) × Int × Int × (List Int) × (List Int) × (List Int) × Int × (List Int)) next (ex : ((List Int) × Int × Int × (List Int) × (List Int) × (List Int) × Int × (List Int)) → Option ρ) => mac_Expand_r8 x.1 x.2.1 x.2.2.1 x.2.2.2.1 x.2.2.2.2.1 x.2.2.2.2.2.1 x.2.2.2.2.2.2.1 x.2.2.2.2.2.2.2 (fun v2 v3 v10_c0_0_c0_0 v10_c1_0 v10_c2_0 v12 v13 h0 => next (v2, v3, v10_c0_0_c0_0, v10_c1_0, v10_c2_0, v12, v13, h0)) (fun v2 v3 v10_c0_0_c0_0 v10_c1_0 v10_c2_0 v12 v13 h0 => ex (v2, v3, v10_c0_0_c0_0, v10_c1_0, v10_c2_0, v12, v13, h0))) (v2, v3, v10_c0_0_c0_0, v10_c1_0, v10_c2_0, v12, v13, h0) (fun x => k0 x.1 x.2.1 x.2.2.1 x.2.2.2.1 x.2.2.2.2.1 x.2.2.2.2.2.1 x.2.2.2.2.2.2.1 x.2.2.2.2.2.2.2)
noncomputable def mac_Expand_l8 {ρ : Type} := shut (mac_Expand_L8 (ρ := ρ))
theorem mac_Expand_l8_eq {ρ : Type} : mac_Expand_l8 (ρ := ρ) = mac_Expand_L8 := shut_eq _
noncomputable def mac_Expand_raw {ρ : Type} (a0 : Int) (a1 : List Int) (a2 : List Int) (a3 : Int) (k : (List Int) → Int → Option ρ) : Option ρ :=
 mac_keyed a0 fun (q0 : Bool) =>
 br (!q0) (k [] (9 : Int))
  (br (decide (a3 < (0 : Int))) (k [] (8 : Int))
   (mac_Size a0 fun (q1 : Int) =>
    br (decide (a3 > IntKind.i64.wrap ((255 : Int) * q1))) (k [] (8 : Int))
     (mac_with a0 a1 fun (q2 : Int) (q3 q4 : List Int) =>
      mac_Expand_l8 a2 a3 q2 q3 q4 [] (1 : Int) []
       fun (q5 : List Int) (q6 q7 : Int) (q8 q9 q10 : List Int) (q11 : Int) (q12 : List Int) =>
       br (decide ((0 : Int) ≤ q6))
        (br (decide (q6 ≤ (↑q12.length : Int)))
         (br (decide (q6 ≤ q6))
          (br (decide (q6 ≤ (↑q12.length : Int)))
           (k (List.drop 0 (List.take q6.toNat q12)) (0 : Int)) none)
          none)
         none)
        none)))
noncomputable def mac_Expand {ρ : Type} := shut (mac_Expand_raw (ρ := ρ))
theorem mac_Expand_eq {ρ : Type} (a0 : Int) (a1 : List Int) (a2 : List Int) (a3 : Int) (k : (List Int) → Int → Option ρ) : mac_Expand a0 a1 a2 a3 k = mac_Expand_raw a0 a1 a2 a3 k := by unfold mac_Expand; rw [shut_eq]
end P
end

section
open Go Go.Abs
set_option linter.unusedVariables false
namespace P
noncomputable def L09_awake_raw {ρ : Type}  (k : Bool → Option ρ) : Option ρ :=
 mac_Hmac (1 : Int) [] [] fun (q0 : List Int) (q1 : Int) =>
 mac_Expand (1 : Int) [] [] (0 : Int) fun (q2 : List Int) (q3 : Int) =>
  br (q1 == (0 : Int))
   (br ((↑q0.length : Int) == (32 : Int))
    (br (decide ((4 : Int) ≤ (↑q0.length : Int)))
     (R01_Same (List.take ((4 : Int) - (0 : Int)).toNat (List.drop 0 q0))
      [(182 : Int), (19 : Int), (103 : Int), (154 : Int)] fun (q4 : Bool) =>
      br q4
       (br (q3 == (0 : Int))
        (br ((↑q2.length : Int) == (0 : Int)) (mac_Size (9 : Int) fun (q5 : Int) => k (q5 == (0 : Int)))
         (k false))
        (k false))
       (k false))
     none)
    (k false))
   (k false)
noncomputable def L09_awake {ρ : Type} := shut (L09_awake_raw (ρ := ρ))
theorem L09_awake_eq {ρ : Type}  (k : Bool → Option ρ) : L09_awake  k = L09_awake_raw  k := by unfold L09_awake; rw [shut_eq]
end P
end

section
open Go Go.Abs
set_option linter.unusedVariables false
namespace P
noncomputable def R09_Size_raw {ρ : Type} (a0 : Int) (k : Int → Option ρ) : Option ρ :=
 br (decide (a0 < (0 : Int))) (k (0 : Int))
 (br (decide (a0 > (7 : Int))) (k (0 : Int))
  (br (decide ((0 : Int) ≤ a0))
   (br (decide (a0 < (↑8 : Int)))
    (k
     ([(0 : Int), (32 : Int), (48 : Int), (64 : Int), (32 : Int), (64 : Int), (32 : Int), (64 : Int)].getD a0.toNat
      (0 : Int)))
    none)
   none))
noncomputable def R09_Size {ρ : Type} := shut (R09_Size_raw (ρ := ρ))
theorem R09_Size_eq {ρ : Type} (a0 : Int) (k : Int → Option ρ) : R09_Size a0 k = R09_Size_raw a0 k := by unfold R09_Size; rw [shut_eq]
end P
end

section
open Go Go.Abs
set_option linter.unusedVariables false
namespace P
noncomputable def mac_Mask_r8 {ρ : Type} (v1 : List Int) (v2 : Int) (v8_c0_0 : Int) (v10 : Int) (h0 : List Int) (nx : (List Int) → Int → Int → Int → (List Int) → Option ρ) (k0 : (List Int) → Int → Int → Int → (List Int) → Option ρ) : Option ρ :=
 br (decide ((↑h0.length : Int) < v2))
 (bits_Be v10 (4 : Int) fun (q0 : List Int) =>
  mac_digests_f1 [v1, q0] v8_c0_0 fun (q1 : List Int) =>
   br
    (decide
     ((h0.length + q1.length) * 1 ≤
      140737488355328))
    (nx v1 v2 v8_c0_0 (IntKind.u64.wrap (v10 + (1 : Int))) (h0 ++ q1)) none)
 (k0 v1 v2 v8_c0_0 v10 h0)
noncomputable def mac_Mask_L8 {ρ : Type} (v1 : List Int) (v2 : Int) (v8_c0_0 : Int) (v10 : Int) (h0 : List Int) (k0 : (List Int) → Int → Int → Int → (List Int) → Option ρ) : Option ρ :=
 lp (fun (x : (List Int) × Int × Int × Int × (List Int)) next (ex : ((List Int) × Int × Int × Int × (List Int)) → Option ρ) => mac_Mask_r8 x.1 x.2.1 x.2.2.1 x.2.2.2.1 x.2.2.2.2 (fun v1 v2 v8_c0_0 v10 h0 => next (v1, v2, v8_c0_0, v10, h0)) (fun v1 v2 v8_c0_0 v10 h0 => ex (v1, v2, v8_c0_0, v10, h0))) (v1, v2, v8_c0_0, v10, h0) (fun x => k0 x.1 x.2.1 x.2.2.1 x.2.2.2.1 x.2.2.2.2)
noncomputable def mac_Mask_l8 {ρ : Type} := shut (mac_Mask_L8 (ρ := ρ))
theorem mac_Mask_l8_eq {ρ : Type} : mac_Mask_l8 (ρ := ρ) = mac_Mask_L8 := shut_eq _
noncomputable def mac_Mask_raw {ρ : Type} (a0 : Int) (a1 : List Int) (a2 : Int) (k : (List Int) → Int → Option ρ) : Option ρ :=
 br (decide (a0 < (1 : Int))) (k [] (9 : Int))
 (br (decide (a0 > (3 : Int))) (k [] (9 : Int))
  (br (decide (a2 < (0 : Int))) (k [] (8 : Int))
   (br (decide (a2 > (1048576 : Int))) (k [] (8 : Int))
    (mac_digests a0 fun (q0 : Int) =>
     mac_Mask_l8 a1 a2 q0 (0 : Int) [] fun (q1 : List Int) (q2 q3 q4 : Int) (q5 : List Int) =>
      br (decide ((0 : Int) ≤ q2))
       (br (decide (q2 ≤ (↑q5.length : Int)))
        (br (decide (q2 ≤ q2))
         (br (decide (q2 ≤ (↑q5.length : Int))) (k (List.drop 0 (List.take q2.toNat q5)) (0 : Int))
          none)
         none)
        none)
       none))))
noncomputable def mac_Mask {ρ : Type} := shut (mac_Mask_raw (ρ := ρ))
theorem mac_Mask_eq {ρ : Type} (a0 : Int) (a1 : List Int) (a2 : Int) (k : (List Int) → Int → Option ρ) : mac_Mask a0 a1 a2 k = mac_Mask_raw a0 a1 a2 k := by unfold mac_Mask; rw [shut_eq]
end P
end

section
open Go Go.Abs
set_option linter.unusedVariables false
namespace P
noncomputable def L09_MacStarts_raw {ρ : Type} (a0 : Int) (a1 : List Int) (a2 : List Int) (a3 : Int) (a4 : Int) (k : Bool → Option ρ) : Option ρ :=
 br (decide ((↑a1.length : Int) > (400 : Int))) (L09_awake fun (q0 : Bool) => k q0)
 (br (decide ((↑a2.length : Int) > (400 : Int))) (L09_awake fun (q1 : Bool) => k q1)
  (mac_Expand (IntKind.i64.wrap ((1 : Int) + IntKind.i64.wrap (a0.tmod (5 : Int)))) a1 a2 (IntKind.i64.wrap a3)
   fun (q2 : List Int) (q3 : Int) =>
   mac_Expand (IntKind.i64.wrap ((1 : Int) + IntKind.i64.wrap (a0.tmod (5 : Int)))) a1 a2
    (IntKind.i64.wrap (IntKind.i64.wrap a3 + IntKind.i64.wrap a4)) fun (q4 : List Int) (q5 : Int) =>
    br (q3 != (0 : Int)) (k false)
     (br (q5 != (0 : Int)) (k false)
      (br ((↑q4.length : Int) != IntKind.i64.wrap (IntKind.i64.wrap a3 + IntKind.i64.wrap a4)) (k false)
       (br (decide ((0 : Int) ≤ IntKind.i64.wrap a3))
        (br (decide (IntKind.i64.wrap a3 ≤ (↑q4.length : Int)))
         (R01_Same q2 (List.drop 0 (List.take (IntKind.i64.wrap a3).toNat q4)) fun (q6 : Bool) =>
          br (!q6) (k false)
           (br (decide (IntKind.i64.wrap ((1 : Int) + IntKind.i64.wrap (a0.tmod (5 : Int))) ≤ (3 : Int)))
            (mac_Mask (IntKind.i64.wrap ((1 : Int) + IntKind.i64.wrap (a0.tmod (5 : Int)))) a2
             (IntKind.i64.wrap a3) fun (q7 : List Int) (q8 : Int) =>
             mac_Mask (IntKind.i64.wrap ((1 : Int) + IntKind.i64.wrap (a0.tmod (5 : Int)))) a2
              (IntKind.i64.wrap (IntKind.i64.wrap a3 + IntKind.i64.wrap a4))
              fun (q9 : List Int) (q10 : Int) =>
              br (q8 != (0 : Int)) (k false)
               (br (q10 != (0 : Int)) (k false)
                (br ((↑q9.length : Int) != IntKind.i64.wrap (IntKind.i64.wrap a3 + IntKind.i64.wrap a4))
                 (k false)
                 (br (decide ((0 : Int) ≤ IntKind.i64.wrap a3))
                  (br (decide (IntKind.i64.wrap a3 ≤ (↑q9.length : Int)))
                   (R01_Same q7 (List.drop 0 (List.take (IntKind.i64.wrap a3).toNat q9))
                    fun (q11 : Bool) =>
                    br (!q11) (k false)
                     (mac_Hmac
                      (IntKind.i64.wrap ((1 : Int) + IntKind.i64.wrap (a0.tmod (5 : Int)))) a1 a2
                      fun (q12 : List Int) (q13 : Int) =>
                      br (decide ((↑a1.length : Int) < (64 : Int)))
                       (br
                        (decide
                         ((0 + a1.length) *
                           1 ≤
                          140737488355328))
                        (br
                         (decide
                          ((([] ++ a1).length + 1) *
                            1 ≤
                           140737488355328))
                         (mac_Hmac
                          (IntKind.i64.wrap
                           ((1 : Int) + IntKind.i64.wrap (a0.tmod (5 : Int))))
                          ([] ++ a1 ++ [(0 : Int)]) a2 fun (q14 : List Int) (q15 : Int) =>
                          R01_Same q12 q14 fun (q16 : Bool) =>
                           br q16
                            (R09_Size
                             (IntKind.i64.wrap
                              ((1 : Int) + IntKind.i64.wrap (a0.tmod (5 : Int))))
                             fun (q17 : Int) =>
                             br ((↑q12.length : Int) == q17)
                              (L09_awake fun (q18 : Bool) => k q18) (k false))
                            (k false))
                         none)
                        none)
                       (br (decide ((↑a1.length : Int) > (136 : Int)))
                        (mac_Digest
                         (IntKind.i64.wrap ((1 : Int) + IntKind.i64.wrap (a0.tmod (5 : Int))))
                         a1 fun (q19 : List Int) (q20 : Int) =>
                         mac_Hmac
                          (IntKind.i64.wrap
                           ((1 : Int) + IntKind.i64.wrap (a0.tmod (5 : Int))))
                          q19 a2 fun (q21 : List Int) (q22 : Int) =>
                          R01_Same q12 q21 fun (q23 : Bool) =>
                           br q23
                            (R09_Size
                             (IntKind.i64.wrap
                              ((1 : Int) + IntKind.i64.wrap (a0.tmod (5 : Int))))
                             fun (q24 : Int) =>
                             br ((↑q12.length : Int) == q24)
                              (L09_awake fun (q25 : Bool) => k q25) (k false))
                            (k false))
                        (R09_Size
                         (IntKind.i64.wrap ((1 : Int) + IntKind.i64.wrap (a0.tmod (5 : Int))))
                         fun (q26 : Int) =>
                         br ((↑q12.length : Int) == q26)
                          (L09_awake fun (q27 : Bool) => k q27) (k false)))))
                   none)
                  none))))
            (mac_Hmac (IntKind.i64.wrap ((1 : Int) + IntKind.i64.wrap (a0.tmod (5 : Int)))) a1 a2
             fun (q28 : List Int) (q29 : Int) =>
             br (decide ((↑a1.length : Int) < (64 : Int)))
              (br
               (decide
                ((0 + a1.length) *
                  1 ≤
                 140737488355328))
               (br
                (decide
                 ((([] ++ a1).length + 1) *
                   1 ≤
                  140737488355328))
                (mac_Hmac (IntKind.i64.wrap ((1 : Int) + IntKind.i64.wrap (a0.tmod (5 : Int))))
                 ([] ++ a1 ++ [(0 : Int)]) a2 fun (q30 : List Int) (q31 : Int) =>
                 R01_Same q28 q30 fun (q32 : Bool) =>
                  br q32
                   (R09_Size (IntKind.i64.wrap ((1 : Int) + IntKind.i64.wrap (a0.tmod (5 : Int))))
                    fun (q33 : Int) =>
                    br ((↑q28.length : Int) == q33) (L09_awake fun (q34 : Bool) => k q34)
                     (k false))
                   (k false))
                none)
               none)
              (br (decide ((↑a1.length : Int) > (136 : Int)))
               (mac_Digest (IntKind.i64.wrap ((1 : Int) + IntKind.i64.wrap (a0.tmod (5 : Int)))) a1
                fun (q35 : List Int) (q36 : Int) =>
                mac_Hmac (IntKind.i64.wrap ((1 : Int) + IntKind.i64.wrap (a0.tmod (5 : Int)))) q35 a2
                 fun (q37 : List Int) (q38 : Int) =>
                 R01_Same q28 q37 fun (q39 : Bool) =>
                  br q39
                   (R09_Size (IntKind.i64.wrap ((1 : Int) + IntKind.i64.wrap (a0.tmod (5 : Int))))
                    fun (q40 : Int) =>
                    br ((↑q28.length : Int) == q40) (L09_awake fun (q41 : Bool) => k q41)
                     (k false))
                   (k false))
               (R09_Size (IntKind.i64.wrap ((1 : Int) + IntKind.i64.wrap (a0.tmod (5 : Int))))
                fun (q42 : Int) =>
                br ((↑q28.length : Int) == q42) (L09_awake fun (q43 : Bool) => k q43) (k false))))))
         none)
        none)))))
noncomputable def L09_MacStarts {ρ : Type} := shut (L09_MacStarts_raw (ρ := ρ))
theorem L09_MacStarts_eq {ρ : Type} (a0 : Int) (a1 : List Int) (a2 : List Int) (a3 : Int) (a4 : Int) (k : Bool → Option ρ) : L09_MacStarts a0 a1 a2 a3 a4 k = L09_MacStarts_raw a0 a1 a2 a3 a4 k := by unfold L09_MacStarts; rw [shut_eq]
end P
end
