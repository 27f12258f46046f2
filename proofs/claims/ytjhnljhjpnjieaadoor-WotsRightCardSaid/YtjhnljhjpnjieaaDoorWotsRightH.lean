/-
  WotsRight, part H: an interpreter of my own over abstract values, the pure functions, the walks and the plain law.
-/

import Derived.Test.YtjhnljhjpnjieaaDoorWotsRightF
import Derived.Test.YtjhnljhjpnjieaaDoorWotsRightG

section
open Go Go.Abs
set_option linter.unusedVariables false
namespace P
noncomputable def sha_engine_uint64_rotated_raw {ρ : Type} (a0_bits : Int) (a0_rounds : Int) (a0_turns_0 : List Int) (a0_turns_1 : List Int) (a0_turns_2 : List Int) (a0_turns_3 : List Int) (a1 : Int) (a2 : Int) (k : Int → Option ρ) : Option ρ :=
 br (decide (a2 < (0 : Int))) none
 (br (decide (IntKind.i64.wrap (a0_bits - a2) < (0 : Int))) none
  (k
   (bits BinOp.or IntKind.u64 (a1.fdiv ((2 : Int) ^ min a2.toNat 64))
    (IntKind.u64.wrap (a1 * (2 : Int) ^ min (IntKind.i64.wrap (a0_bits - a2)).toNat 64)))))
noncomputable def sha_engine_uint64_rotated {ρ : Type} := shut (sha_engine_uint64_rotated_raw (ρ := ρ))
theorem sha_engine_uint64_rotated_eq {ρ : Type} (a0_bits : Int) (a0_rounds : Int) (a0_turns_0 : List Int) (a0_turns_1 : List Int) (a0_turns_2 : List Int) (a0_turns_3 : List Int) (a1 : Int) (a2 : Int) (k : Int → Option ρ) : sha_engine_uint64_rotated a0_bits a0_rounds a0_turns_0 a0_turns_1 a0_turns_2 a0_turns_3 a1 a2 k = sha_engine_uint64_rotated_raw a0_bits a0_rounds a0_turns_0 a0_turns_1 a0_turns_2 a0_turns_3 a1 a2 k := by unfold sha_engine_uint64_rotated; rw [shut_eq]
end P
end

section
open Go Go.Abs
set_option linter.unusedVariables false
namespace P
noncomputable def sha_engine_uint64_high_raw {ρ : Type} (a0_bits : Int) (a0_rounds : Int) (a0_turns_0 : List Int) (a0_turns_1 : List Int) (a0_turns_2 : List Int) (a0_turns_3 : List Int) (a1 : Int) (a2 : Int) (k : Int → Option ρ) : Option ρ :=
 br (decide (a2 = (↑0 : Int)))
 (sha_engine_uint64_rotated a0_bits a0_rounds a0_turns_0 a0_turns_1 a0_turns_2 a0_turns_3 a1
  (a0_turns_0.getD 0 (0 : Int)) fun (q0 : Int) =>
  sha_engine_uint64_rotated a0_bits a0_rounds a0_turns_0 a0_turns_1 a0_turns_2 a0_turns_3 a1
   (a0_turns_0.getD 1 (0 : Int)) fun (q1 : Int) =>
   sha_engine_uint64_rotated a0_bits a0_rounds a0_turns_0 a0_turns_1 a0_turns_2 a0_turns_3 a1
    (a0_turns_0.getD 2 (0 : Int)) fun (q2 : Int) =>
    k (bits BinOp.xor IntKind.u64 (bits BinOp.xor IntKind.u64 q0 q1) q2))
 (br (decide (a2 = (↑1 : Int)))
  (sha_engine_uint64_rotated a0_bits a0_rounds a0_turns_0 a0_turns_1 a0_turns_2 a0_turns_3 a1
   (a0_turns_1.getD 0 (0 : Int)) fun (q3 : Int) =>
   sha_engine_uint64_rotated a0_bits a0_rounds a0_turns_0 a0_turns_1 a0_turns_2 a0_turns_3 a1
    (a0_turns_1.getD 1 (0 : Int)) fun (q4 : Int) =>
    sha_engine_uint64_rotated a0_bits a0_rounds a0_turns_0 a0_turns_1 a0_turns_2 a0_turns_3 a1
     (a0_turns_1.getD 2 (0 : Int)) fun (q5 : Int) =>
     k (bits BinOp.xor IntKind.u64 (bits BinOp.xor IntKind.u64 q3 q4) q5))
  (br (decide (a2 = (↑2 : Int)))
   (sha_engine_uint64_rotated a0_bits a0_rounds a0_turns_0 a0_turns_1 a0_turns_2 a0_turns_3 a1
    (a0_turns_2.getD 0 (0 : Int)) fun (q6 : Int) =>
    sha_engine_uint64_rotated a0_bits a0_rounds a0_turns_0 a0_turns_1 a0_turns_2 a0_turns_3 a1
     (a0_turns_2.getD 1 (0 : Int)) fun (q7 : Int) =>
     sha_engine_uint64_rotated a0_bits a0_rounds a0_turns_0 a0_turns_1 a0_turns_2 a0_turns_3 a1
      (a0_turns_2.getD 2 (0 : Int)) fun (q8 : Int) =>
      k (bits BinOp.xor IntKind.u64 (bits BinOp.xor IntKind.u64 q6 q7) q8))
   (br (decide (a2 = (↑3 : Int)))
    (sha_engine_uint64_rotated a0_bits a0_rounds a0_turns_0 a0_turns_1 a0_turns_2 a0_turns_3 a1
     (a0_turns_3.getD 0 (0 : Int)) fun (q9 : Int) =>
     sha_engine_uint64_rotated a0_bits a0_rounds a0_turns_0 a0_turns_1 a0_turns_2 a0_turns_3 a1
      (a0_turns_3.getD 1 (0 : Int)) fun (q10 : Int) =>
      sha_engine_uint64_rotated a0_bits a0_rounds a0_turns_0 a0_turns_1 a0_turns_2 a0_turns_3 a1
       (a0_turns_3.getD 2 (0 : Int)) fun (q11 : Int) =>
       k (bits BinOp.xor IntKind.u64 (bits BinOp.xor IntKind.u64 q9 q10) q11))
    none)))
noncomputable def sha_engine_uint64_high {ρ : Type} := shut (sha_engine_uint64_high_raw (ρ := ρ))
theorem sha_engine_uint64_high_eq {ρ : Type} (a0_bits : Int) (a0_rounds : Int) (a0_turns_0 : List Int) (a0_turns_1 : List Int) (a0_turns_2 : List Int) (a0_turns_3 : List Int) (a1 : Int) (a2 : Int) (k : Int → Option ρ) : sha_engine_uint64_high a0_bits a0_rounds a0_turns_0 a0_turns_1 a0_turns_2 a0_turns_3 a1 a2 k = sha_engine_uint64_high_raw a0_bits a0_rounds a0_turns_0 a0_turns_1 a0_turns_2 a0_turns_3 a1 a2 k := by unfold sha_engine_uint64_high; rw [shut_eq]
end P
end

section
open Go Go.Abs
set_option linter.unusedVariables false
namespace P
noncomputable def sha_engine_uint64_low_raw {ρ : Type} (a0_bits : Int) (a0_rounds : Int) (a0_turns_0 : List Int) (a0_turns_1 : List Int) (a0_turns_2 : List Int) (a0_turns_3 : List Int) (a1 : Int) (a2 : Int) (k : Int → Option ρ) : Option ρ :=
 br (decide (a2 = (↑0 : Int)))
 (sha_engine_uint64_rotated a0_bits a0_rounds a0_turns_0 a0_turns_1 a0_turns_2 a0_turns_3 a1
  (a0_turns_0.getD 0 (0 : Int)) fun (q0 : Int) =>
  sha_engine_uint64_rotated a0_bits a0_rounds a0_turns_0 a0_turns_1 a0_turns_2 a0_turns_3 a1
   (a0_turns_0.getD 1 (0 : Int)) fun (q1 : Int) =>
   br (decide (a0_turns_0.getD 2 (0 : Int) < (0 : Int))) none
    (k
     (bits BinOp.xor IntKind.u64 (bits BinOp.xor IntKind.u64 q0 q1)
      (a1.fdiv ((2 : Int) ^ min (a0_turns_0.getD 2 (0 : Int)).toNat 64)))))
 (br (decide (a2 = (↑1 : Int)))
  (sha_engine_uint64_rotated a0_bits a0_rounds a0_turns_0 a0_turns_1 a0_turns_2 a0_turns_3 a1
   (a0_turns_1.getD 0 (0 : Int)) fun (q2 : Int) =>
   sha_engine_uint64_rotated a0_bits a0_rounds a0_turns_0 a0_turns_1 a0_turns_2 a0_turns_3 a1
    (a0_turns_1.getD 1 (0 : Int)) fun (q3 : Int) =>
    br (decide (a0_turns_1.getD 2 (0 : Int) < (0 : Int))) none
     (k
      (bits BinOp.xor IntKind.u64 (bits BinOp.xor IntKind.u64 q2 q3)
       (a1.fdiv ((2 : Int) ^ min (a0_turns_1.getD 2 (0 : Int)).toNat 64)))))
  (br (decide (a2 = (↑2 : Int)))
   (sha_engine_uint64_rotated a0_bits a0_rounds a0_turns_0 a0_turns_1 a0_turns_2 a0_turns_3 a1
    (a0_turns_2.getD 0 (0 : Int)) fun (q4 : Int) =>
    sha_engine_uint64_rotated a0_bits a0_rounds a0_turns_0 a0_turns_1 a0_turns_2 a0_turns_3 a1
     (a0_turns_2.getD 1 (0 : Int)) fun (q5 : Int) =>
     br (decide (a0_turns_2.getD 2 (0 : Int) < (0 : Int))) none
      (k
       (bits BinOp.xor IntKind.u64 (bits BinOp.xor IntKind.u64 q4 q5)
        (a1.fdiv ((2 : Int) ^ min (a0_turns_2.getD 2 (0 : Int)).toNat 64)))))
   (br (decide (a2 = (↑3 : Int)))
    (sha_engine_uint64_rotated a0_bits a0_rounds a0_turns_0 a0_turns_1 a0_turns_2 a0_turns_3 a1
     (a0_turns_3.getD 0 (0 : Int)) fun (q6 : Int) =>
     sha_engine_uint64_rotated a0_bits a0_rounds a0_turns_0 a0_turns_1 a0_turns_2 a0_turns_3 a1
      (a0_turns_3.getD 1 (0 : Int)) fun (q7 : Int) =>
      br (decide (a0_turns_3.getD 2 (0 : Int) < (0 : Int))) none
       (k
        (bits BinOp.xor IntKind.u64 (bits BinOp.xor IntKind.u64 q6 q7)
         (a1.fdiv ((2 : Int) ^ min (a0_turns_3.getD 2 (0 : Int)).toNat 64)))))
    none)))
noncomputable def sha_engine_uint64_low {ρ : Type} := shut (sha_engine_uint64_low_raw (ρ := ρ))
theorem sha_engine_uint64_low_eq {ρ : Type} (a0_bits : Int) (a0_rounds : Int) (a0_turns_0 : List Int) (a0_turns_1 : List Int) (a0_turns_2 : List Int) (a0_turns_3 : List Int) (a1 : Int) (a2 : Int) (k : Int → Option ρ) : sha_engine_uint64_low a0_bits a0_rounds a0_turns_0 a0_turns_1 a0_turns_2 a0_turns_3 a1 a2 k = sha_engine_uint64_low_raw a0_bits a0_rounds a0_turns_0 a0_turns_1 a0_turns_2 a0_turns_3 a1 a2 k := by unfold sha_engine_uint64_low; rw [shut_eq]
end P
end

section
open Go Go.Abs
set_option linter.unusedVariables false
namespace P
noncomputable def sha_engine_uint64_block_r4 {ρ : Type} (v2 : List Int) (v8 : Int) (v19 : Int) (h0_0 : Int) (h0_1 : Int) (h0_2 : List Int) (h0_3 : List Int) (h0_4 : List Int) (h0_5 : List Int) (h1_0 : List Int) (h2_0 : List Int) (h3_0 : List Int) (nx : (List Int) → Int → Int → Int → Int → (List Int) → (List Int) → (List Int) → (List Int) → (List Int) → (List Int) → (List Int) → Option ρ) (k0 : (List Int) → Int → Int → Int → Int → (List Int) → (List Int) → (List Int) → (List Int) → (List Int) → (List Int) → (List Int) → Option ρ) : Option ρ :=
 br (decide (v19 < (16 : Int)))
 (br (decide ((0 : Int) ≤ IntKind.i64.wrap (v19 * v8)))
  (br (decide (IntKind.i64.wrap (v19 * v8) ≤ IntKind.i64.wrap (IntKind.i64.wrap (v19 + (1 : Int)) * v8)))
   (br (decide (IntKind.i64.wrap (IntKind.i64.wrap (v19 + (1 : Int)) * v8) ≤ (↑v2.length : Int)))
    (bits_Num
     (List.drop (IntKind.i64.wrap (v19 * v8)).toNat
      (List.take (IntKind.i64.wrap (IntKind.i64.wrap (v19 + (1 : Int)) * v8)).toNat v2))
     fun (q0 : Int) =>
     br (decide ((0 : Int) ≤ v19))
      (br (decide (v19 < (↑16 : Int)))
       (nx v2 v8 (IntKind.i64.wrap (v19 + (1 : Int))) h0_0 h0_1 h0_2 h0_3 h0_4 h0_5 h1_0 h2_0
        (h3_0.set v19.toNat q0))
       none)
      none)
    none)
   none)
  none)
 (k0 v2 v8 v19 h0_0 h0_1 h0_2 h0_3 h0_4 h0_5 h1_0 h2_0 h3_0)
noncomputable def sha_engine_uint64_block_L4 {ρ : Type} (v2 : List Int) (v8 : Int) (v19 : Int) (h0_0 : Int) (h0_1 : Int) (h0_2 : List Int) (h0_3 : List Int) (h0_4 : List Int) (h0_5 : List Int) (h1_0 : List Int) (h2_0 : List Int) (h3_0 : List Int) (k0 : (List Int) → Int → Int → Int → Int → (List Int) → (List Int) → (List Int) → (List Int) → (List Int) → (List Int) → (List Int) → Option ρ) : Option ρ :=
 lp (fun (x : (List Int) × Int × Int × Int × Int × (List Int) × (List Int) × (List Int) × (List Int) × (List Int) × (List Int) × (List Int)) next (ex : ((List Int) × Int × Int × Int × Int × (List Int) × (List Int) × (List Int) × (List Int) × (List Int) × (List Int) × (List Int)) → Option ρ) => sha_engine_uint64_block_r4 x.1 x.2.1 x.2.2.1 x.2.2.2.1 x.2.2.2.2.1 x.2.2.2.2.2.1 x.2.2.2.2.2.2.1 x.2.2.2.2.2.2.2.1 x.2.2.2.2.2.2.2.2.1 x.2.2.2.2.2.2.2.2.2.1 x.2.2.2.2.2.2.2.2.2.2.1 x.2.2.2.2.2.2.2.2.2.2.2 (fun v2 v8 v19 h0_0 h0_1 h0_2 h0_3 h0_4 h0_5 h1_0 h2_0 h3_0 => next (v2, v8, v19, h0_0, h0_1, h0_2, h0_3, h0_4, h0_5, h1_0, h2_0, h3_0)) (fun v2 v8 v19 h0_0 h0_1 h0_2 h0_3 h0_4 h0_5 h1_0 h2_0 h3_0 => ex (v2, v8, v19, h0_0, h0_1, h0_2, h0_3, h0_4, h0_5, h1_0, h2_0, h3_0))) (v2, v8, v19, h0_0, h0_1, h0_2, h0_3, h0_4, h0_5, h1_0, h2_0, h3_0) (fun x => k0 x.1 x.2.1 x.2.2.1 x.2.2.2.1 x.2.2.2.2.1 x.2.2.2.2.2.1 x.2.2.2.2.2.2.1 x.2.2.2.2.2.2.2.1 x.2.2.2.2.2.2.2.2.1 x.2.2.2.2.2.2.2.2.2.1 x.2.2.2.2.2.2.2.2.2.2.1 x.2.2.2.2.2.2.2.2.2.2.2)
noncomputable def sha_engine_uint64_block_l4 {ρ : Type} := shut (sha_engine_uint64_block_L4 (ρ := ρ))
theorem sha_engine_uint64_block_l4_eq {ρ : Type} : sha_engine_uint64_block_l4 (ρ := ρ) = sha_engine_uint64_block_L4 := shut_eq _
noncomputable def sha_engine_uint64_block_r10 {ρ : Type} (v37 : Int) (v38 : Int) (h3_0 : List Int) (h2_0 : List Int) (h1_0 : List Int) (h0_0 : Int) (h0_1 : Int) (h0_2 : List Int) (h0_3 : List Int) (h0_4 : List Int) (h0_5 : List Int) (h4_0 : List Int) (nx : Int → Int → (List Int) → (List Int) → (List Int) → Int → Int → (List Int) → (List Int) → (List Int) → (List Int) → (List Int) → Option ρ) (k0 : Int → Int → (List Int) → (List Int) → (List Int) → Int → Int → (List Int) → (List Int) → (List Int) → (List Int) → (List Int) → Option ρ) : Option ρ :=
 br (decide (v38 < v37))
 (br (decide ((0 : Int) ≤ v38.tmod (16 : Int)))
  (br (decide (v38.tmod (16 : Int) < (↑16 : Int)))
   (sha_engine_uint64_high h0_0 h0_1 h0_2 h0_3 h0_4 h0_5 (h4_0.getD 4 (0 : Int)) (3 : Int)
    fun (q0 : Int) =>
    sha_root512 v38 fun (q1 : Int) =>
     sha_engine_uint64_high h0_0 h0_1 h0_2 h0_3 h0_4 h0_5 (h4_0.getD 0 (0 : Int)) (2 : Int)
      fun (q2 : Int) =>
      br (decide ((0 : Int) ≤ (IntKind.i64.wrap (v38 + (1 : Int))).tmod (16 : Int)))
       (br (decide ((IntKind.i64.wrap (v38 + (1 : Int))).tmod (16 : Int) < (↑16 : Int)))
        (sha_engine_uint64_low h0_0 h0_1 h0_2 h0_3 h0_4 h0_5
         (h3_0.getD ((IntKind.i64.wrap (v38 + (1 : Int))).tmod (16 : Int)).toNat (0 : Int)) (0 : Int)
         fun (q3 : Int) =>
         br (decide ((0 : Int) ≤ (IntKind.i64.wrap (v38 + (9 : Int))).tmod (16 : Int)))
          (br (decide ((IntKind.i64.wrap (v38 + (9 : Int))).tmod (16 : Int) < (↑16 : Int)))
           (br (decide ((0 : Int) ≤ (IntKind.i64.wrap (v38 + (14 : Int))).tmod (16 : Int)))
            (br (decide ((IntKind.i64.wrap (v38 + (14 : Int))).tmod (16 : Int) < (↑16 : Int)))
             (sha_engine_uint64_low h0_0 h0_1 h0_2 h0_3 h0_4 h0_5
              (h3_0.getD ((IntKind.i64.wrap (v38 + (14 : Int))).tmod (16 : Int)).toNat (0 : Int))
              (1 : Int) fun (q4 : Int) =>
              br (decide ((0 : Int) ≤ v38.tmod (16 : Int)))
               (br (decide (v38.tmod (16 : Int) < (↑16 : Int)))
                (nx v37 (IntKind.i64.wrap (v38 + (1 : Int)))
                 (h3_0.set (v38.tmod (16 : Int)).toNat
                  (IntKind.u64.wrap
                   (IntKind.u64.wrap
                     (IntKind.u64.wrap (h3_0.getD (v38.tmod (16 : Int)).toNat (0 : Int) + q3) +
                      h3_0.getD ((IntKind.i64.wrap (v38 + (9 : Int))).tmod (16 : Int)).toNat
                       (0 : Int)) +
                    q4)))
                 h2_0 h1_0 h0_0 h0_1 h0_2 h0_3 h0_4 h0_5
                 ((((List.take 1 h4_0).append
                      (List.take 7
                        (List.take 7 (List.drop 0 h4_0)) ++
                       List.drop
                        (1 +
                         min 7
                          (List.take 7 (List.drop 0 h4_0)).length)
                        h4_0)).set
                    4
                    (IntKind.u64.wrap
                     (((List.take 1 h4_0).append
                         (List.take 7
                           (List.take 7 (List.drop 0 h4_0)) ++
                          List.drop
                           (1 +
                            min 7
                             (List.take 7 (List.drop 0 h4_0)).length)
                           h4_0)).getD
                       4 (0 : Int) +
                      IntKind.u64.wrap
                       (IntKind.u64.wrap
                         (IntKind.u64.wrap
                           (IntKind.u64.wrap (h4_0.getD 7 (0 : Int) + q0) +
                            bits BinOp.xor IntKind.u64 (h4_0.getD 6 (0 : Int))
                             (bits BinOp.and IntKind.u64 (h4_0.getD 4 (0 : Int))
                              (bits BinOp.xor IntKind.u64
                               (h4_0.getD 5 (0 : Int))
                               (h4_0.getD 6 (0 : Int))))) +
                          q1) +
                        h3_0.getD (v38.tmod (16 : Int)).toNat (0 : Int))))).set
                  0
                  (IntKind.u64.wrap
                   (IntKind.u64.wrap
                     (IntKind.u64.wrap
                       (IntKind.u64.wrap
                         (IntKind.u64.wrap (h4_0.getD 7 (0 : Int) + q0) +
                          bits BinOp.xor IntKind.u64 (h4_0.getD 6 (0 : Int))
                           (bits BinOp.and IntKind.u64 (h4_0.getD 4 (0 : Int))
                            (bits BinOp.xor IntKind.u64 (h4_0.getD 5 (0 : Int))
                             (h4_0.getD 6 (0 : Int))))) +
                        q1) +
                      h3_0.getD (v38.tmod (16 : Int)).toNat (0 : Int)) +
                    IntKind.u64.wrap
                     (q2 +
                      bits BinOp.or IntKind.u64
                       (bits BinOp.and IntKind.u64 (h4_0.getD 0 (0 : Int))
                        (h4_0.getD 1 (0 : Int)))
                       (bits BinOp.and IntKind.u64 (h4_0.getD 2 (0 : Int))
                        (bits BinOp.or IntKind.u64 (h4_0.getD 0 (0 : Int))
                         (h4_0.getD 1 (0 : Int)))))))))
                none)
               none)
             none)
            none)
           none)
          none)
        none)
       none)
   none)
  none)
 (k0 v37 v38 h3_0 h2_0 h1_0 h0_0 h0_1 h0_2 h0_3 h0_4 h0_5 h4_0)
noncomputable def sha_engine_uint64_block_L10 {ρ : Type} (v37 : Int) (v38 : Int) (h3_0 : List Int) (h2_0 : List Int) (h1_0 : List Int) (h0_0 : Int) (h0_1 : Int) (h0_2 : List Int) (h0_3 : List Int) (h0_4 : List Int) (h0_5 : List Int) (h4_0 : List Int) (k0 : Int → Int → (List Int) → (List Int) → (List Int) → Int → Int → (List Int) → (List Int) → (List Int) → (List Int) → (List Int) → Option ρ) : Option ρ :=
 lp (fun (x : Int × Int × (List Int) × (List Int) × (List Int) × Int × Int × (List Int) × (List Int) × (List Int) × (List Int) × (List Int)) next (ex : (Int × Int × (List Int) × (List Int) × (List Int) × Int × Int × (List Int) × (List Int) × (List Int) × (List Int) × (List Int)) → Option ρ) => sha_engine_uint64_block_r10 x.1 x.2.1 x.2.2.1 x.2.2.2.1 x.2.2.2.2.1 x.2.2.2.2.2.1 x.2.2.2.2.2.2.1 x.2.2.2.2.2.2.2.1 x.2.2.2.2.2.2.2.2.1 x.2.2.2.2.2.2.2.2.2.1 x.2.2.2.2.2.2.2.2.2.2.1 x.2.2.2.2.2.2.2.2.2.2.2 (fun v37 v38 h3_0 h2_0 h1_0 h0_0 h0_1 h0_2 h0_3 h0_4 h0_5 h4_0 => next (v37, v38, h3_0, h2_0, h1_0, h0_0, h0_1, h0_2, h0_3, h0_4, h0_5, h4_0)) (fun v37 v38 h3_0 h2_0 h1_0 h0_0 h0_1 h0_2 h0_3 h0_4 h0_5 h4_0 => ex (v37, v38, h3_0, h2_0, h1_0, h0_0, h0_1, h0_2, h0_3, h0_4, h0_5, h4_0))) (v37, v38, h3_0, h2_0, h1_0, h0_0, h0_1, h0_2, h0_3, h0_4, h0_5, h4_0) (fun x => k0 x.1 x.2.1 x.2.2.1 x.2.2.2.1 x.2.2.2.2.1 x.2.2.2.2.2.1 x.2.2.2.2.2.2.1 x.2.2.2.2.2.2.2.1 x.2.2.2.2.2.2.2.2.1 x.2.2.2.2.2.2.2.2.2.1 x.2.2.2.2.2.2.2.2.2.2.1 x.2.2.2.2.2.2.2.2.2.2.2)
noncomputable def sha_engine_uint64_block_l10 {ρ : Type} := shut (sha_engine_uint64_block_L10 (ρ := ρ))
theorem sha_engine_uint64_block_l10_eq {ρ : Type} : sha_engine_uint64_block_l10 (ρ := ρ) = sha_engine_uint64_block_L10 := shut_eq _
noncomputable def sha_engine_uint64_block_r21 {ρ : Type} (v129 : Int) (h1_0 : List Int) (h2_0 : List Int) (h4_0 : List Int) (nx : Int → (List Int) → (List Int) → (List Int) → Option ρ) (k0 : Int → (List Int) → (List Int) → (List Int) → Option ρ) : Option ρ :=
 br (decide (v129 < (8 : Int)))
 (br (decide ((0 : Int) ≤ v129))
  (br (decide (v129 < (↑8 : Int)))
   (br (decide ((0 : Int) ≤ v129))
    (br (decide (v129 < (↑8 : Int)))
     (br (decide ((0 : Int) ≤ v129))
      (br (decide (v129 < (↑8 : Int)))
       (nx (IntKind.i64.wrap (v129 + (1 : Int))) h1_0 h2_0
        (h4_0.set v129.toNat
         (IntKind.u64.wrap (h4_0.getD v129.toNat (0 : Int) + h1_0.getD v129.toNat (0 : Int)))))
       none)
      none)
     none)
    none)
   none)
  none)
 (k0 v129 h1_0 h2_0 h4_0)
noncomputable def sha_engine_uint64_block_L21 {ρ : Type} (v129 : Int) (h1_0 : List Int) (h2_0 : List Int) (h4_0 : List Int) (k0 : Int → (List Int) → (List Int) → (List Int) → Option ρ) : Option ρ :=
 lp (fun (x : Int × (List Int) × (List Int) × (List Int)) next (ex : (Int × (List Int) × (List Int) × (List Int)) → Option ρ) => sha_engine_uint64_block_r21 x.1 x.2.1 x.2.2.1 x.2.2.2 (fun v129 h1_0 h2_0 h4_0 => next (v129, h1_0, h2_0, h4_0)) (fun v129 h1_0 h2_0 h4_0 => ex (v129, h1_0, h2_0, h4_0))) (v129, h1_0, h2_0, h4_0) (fun x => k0 x.1 x.2.1 x.2.2.1 x.2.2.2)
noncomputable def sha_engine_uint64_block_l21 {ρ : Type} := shut (sha_engine_uint64_block_L21 (ρ := ρ))
theorem sha_engine_uint64_block_l21_eq {ρ : Type} : sha_engine_uint64_block_l21 (ρ := ρ) = sha_engine_uint64_block_L21 := shut_eq _
noncomputable def sha_engine_uint64_block_raw {ρ : Type} (a0_bits : Int) (a0_rounds : Int) (a0_turns_0 : List Int) (a0_turns_1 : List Int) (a0_turns_2 : List Int) (a0_turns_3 : List Int) (a1 : List Int) (a2 : List Int) (k : (List Int) → Option ρ) : Option ρ :=
 sha_engine_uint64_block_l4 a2 (IntKind.i64.wrap (a0_bits.tdiv (8 : Int))) (0 : Int) a0_bits a0_rounds a0_turns_0
 a0_turns_1 a0_turns_2 a0_turns_3 a1
 [(0 : Int), (0 : Int), (0 : Int), (0 : Int), (0 : Int), (0 : Int), (0 : Int), (0 : Int)]
 [(0 : Int), (0 : Int), (0 : Int), (0 : Int), (0 : Int), (0 : Int), (0 : Int), (0 : Int), (0 : Int), (0 : Int),
  (0 : Int), (0 : Int), (0 : Int), (0 : Int), (0 : Int), (0 : Int)]
 fun (q0 : List Int) (q1 q2 q3 q4 : Int) (q5 q6 q7 q8 q9 q10 q11 : List Int) =>
 sha_engine_uint64_block_l10 q4 (0 : Int) q11 q10 q9 q3 q4 q5 q6 q7 q8 q9
  fun (q12 q13 : Int) (q14 q15 q16 : List Int) (q17 q18 : Int) (q19 q20 q21 q22 q23 : List Int) =>
  sha_engine_uint64_block_l21 (0 : Int) q16 q15 q23 fun (q24 : Int) (q25 q26 q27 : List Int) => k q27
noncomputable def sha_engine_uint64_block {ρ : Type} := shut (sha_engine_uint64_block_raw (ρ := ρ))
theorem sha_engine_uint64_block_eq {ρ : Type} (a0_bits : Int) (a0_rounds : Int) (a0_turns_0 : List Int) (a0_turns_1 : List Int) (a0_turns_2 : List Int) (a0_turns_3 : List Int) (a1 : List Int) (a2 : List Int) (k : (List Int) → Option ρ) : sha_engine_uint64_block a0_bits a0_rounds a0_turns_0 a0_turns_1 a0_turns_2 a0_turns_3 a1 a2 k = sha_engine_uint64_block_raw a0_bits a0_rounds a0_turns_0 a0_turns_1 a0_turns_2 a0_turns_3 a1 a2 k := by unfold sha_engine_uint64_block; rw [shut_eq]
end P
end

section
open Go Go.Abs
set_option linter.unusedVariables false
namespace P
noncomputable def sha_through_uint64_r3 {ρ : Type} (v2 : List Int) (v14 : List Int) (v15 : Int) (h0_0 : Int) (h0_1 : Int) (h0_2 : List Int) (h0_3 : List Int) (h0_4 : List Int) (h0_5 : List Int) (h1_0 : List Int) (h2_0 : List Int) (h3_0 : List Int) (nx : (List Int) → (List Int) → Int → Int → Int → (List Int) → (List Int) → (List Int) → (List Int) → (List Int) → (List Int) → (List Int) → Option ρ) (k0 : (List Int) → (List Int) → Int → Int → Int → (List Int) → (List Int) → (List Int) → (List Int) → (List Int) → (List Int) → (List Int) → Option ρ) : Option ρ :=
 br (decide (v15 < (8 : Int)))
 (br (decide ((0 : Int) ≤ v15))
  (br (decide (v15 < (↑8 : Int)))
   (br (decide ((0 : Int) ≤ v15))
    (br (decide (v15 < (↑8 : Int)))
     (nx v2 v14 (IntKind.i64.wrap (v15 + (1 : Int))) h0_0 h0_1 h0_2 h0_3 h0_4 h0_5 h1_0 h2_0
      (h3_0.set v15.toNat (v14.getD v15.toNat (0 : Int))))
     none)
    none)
   none)
  none)
 (k0 v2 v14 v15 h0_0 h0_1 h0_2 h0_3 h0_4 h0_5 h1_0 h2_0 h3_0)
noncomputable def sha_through_uint64_L3 {ρ : Type} (v2 : List Int) (v14 : List Int) (v15 : Int) (h0_0 : Int) (h0_1 : Int) (h0_2 : List Int) (h0_3 : List Int) (h0_4 : List Int) (h0_5 : List Int) (h1_0 : List Int) (h2_0 : List Int) (h3_0 : List Int) (k0 : (List Int) → (List Int) → Int → Int → Int → (List Int) → (List Int) → (List Int) → (List Int) → (List Int) → (List Int) → (List Int) → Option ρ) : Option ρ :=
 lp (fun (x : (List Int) × (List Int) × Int × Int × Int × (List Int) × (List Int) × (List Int) × (List Int) × (List Int) × (List Int) × (List Int)) next (ex : ((List Int) × (List Int) × Int × Int × Int × (List Int) × (List Int) × (List Int) × (List Int) × (List Int) × (List Int) × (List Int)) → Option ρ) => sha_through_uint64_r3 x.1 x.2.1 x.2.2.1 x.2.2.2.1 x.2.2.2.2.1 x.2.2.2.2.2.1 x.2.2.2.2.2.2.1 x.2.2.2.2.2.2.2.1 x.2.2.2.2.2.2.2.2.1 x.2.2.2.2.2.2.2.2.2.1 x.2.2.2.2.2.2.2.2.2.2.1 x.2.2.2.2.2.2.2.2.2.2.2 (fun v2 v14 v15 h0_0 h0_1 h0_2 h0_3 h0_4 h0_5 h1_0 h2_0 h3_0 => next (v2, v14, v15, h0_0, h0_1, h0_2, h0_3, h0_4, h0_5, h1_0, h2_0, h3_0)) (fun v2 v14 v15 h0_0 h0_1 h0_2 h0_3 h0_4 h0_5 h1_0 h2_0 h3_0 => ex (v2, v14, v15, h0_0, h0_1, h0_2, h0_3, h0_4, h0_5, h1_0, h2_0, h3_0))) (v2, v14, v15, h0_0, h0_1, h0_2, h0_3, h0_4, h0_5, h1_0, h2_0, h3_0) (fun x => k0 x.1 x.2.1 x.2.2.1 x.2.2.2.1 x.2.2.2.2.1 x.2.2.2.2.2.1 x.2.2.2.2.2.2.1 x.2.2.2.2.2.2.2.1 x.2.2.2.2.2.2.2.2.1 x.2.2.2.2.2.2.2.2.2.1 x.2.2.2.2.2.2.2.2.2.2.1 x.2.2.2.2.2.2.2.2.2.2.2)
noncomputable def sha_through_uint64_l3 {ρ : Type} := shut (sha_through_uint64_L3 (ρ := ρ))
theorem sha_through_uint64_l3_eq {ρ : Type} : sha_through_uint64_l3 (ρ := ρ) = sha_through_uint64_L3 := shut_eq _
noncomputable def sha_through_uint64_r8 {ρ : Type} (v2 : List Int) (v11 : Int) (h3_0 : List Int) (h2_0 : List Int) (h1_0 : List Int) (h0_0 : Int) (h0_1 : Int) (h0_2 : List Int) (h0_3 : List Int) (h0_4 : List Int) (h0_5 : List Int) (nx : (List Int) → Int → (List Int) → (List Int) → (List Int) → Int → Int → (List Int) → (List Int) → (List Int) → (List Int) → Option ρ) (k0 : (List Int) → Int → (List Int) → (List Int) → (List Int) → Int → Int → (List Int) → (List Int) → (List Int) → (List Int) → Option ρ) : Option ρ :=
 br (decide ((↑v2.length : Int) ≥ v11))
 (br (decide ((0 : Int) ≤ v11))
  (br (decide (v11 ≤ (↑v2.length : Int)))
   (sha_engine_uint64_block h0_0 h0_1 h0_2 h0_3 h0_4 h0_5 h3_0 (List.drop 0 (List.take v11.toNat v2))
    fun (q0 : List Int) =>
    br (decide ((0 : Int) ≤ v11))
     (br (decide (v11 ≤ (↑v2.length : Int)))
      (br (decide ((↑v2.length : Int) ≤ (↑v2.length : Int)))
       (nx (List.drop v11.toNat (List.take (↑v2.length : Int).toNat v2)) v11 q0 h2_0 h1_0 h0_0 h0_1 h0_2 h0_3
        h0_4 h0_5)
       none)
      none)
     none)
   none)
  none)
 (k0 v2 v11 h3_0 h2_0 h1_0 h0_0 h0_1 h0_2 h0_3 h0_4 h0_5)
noncomputable def sha_through_uint64_L8 {ρ : Type} (v2 : List Int) (v11 : Int) (h3_0 : List Int) (h2_0 : List Int) (h1_0 : List Int) (h0_0 : Int) (h0_1 : Int) (h0_2 : List Int) (h0_3 : List Int) (h0_4 : List Int) (h0_5 : List Int) (k0 : (List Int) → Int → (List Int) → (List Int) → (List Int) → Int → Int → (List Int) → (List Int) → (List Int) → (List Int) → Option ρ) : Option ρ :=
 lp (fun (x : (List Int) × Int × (List Int) × (List Int) × (List Int) × Int × Int × (List Int) × (List Int) × (List Int) × (List Int)) next (ex : ((List Int) × Int × (List Int) × (List Int) × (List Int) × Int × Int × (List Int) × (List Int) × (List Int) × (List Int)) → Option ρ) => sha_through_uint64_r8 x.1 x.2.1 x.2.2.1 x.2.2.2.1 x.2.2.2.2.1 x.2.2.2.2.2.1 x.2.2.2.2.2.2.1 x.2.2.2.2.2.2.2.1 x.2.2.2.2.2.2.2.2.1 x.2.2.2.2.2.2.2.2.2.1 x.2.2.2.2.2.2.2.2.2.2 (fun v2 v11 h3_0 h2_0 h1_0 h0_0 h0_1 h0_2 h0_3 h0_4 h0_5 => next (v2, v11, h3_0, h2_0, h1_0, h0_0, h0_1, h0_2, h0_3, h0_4, h0_5)) (fun v2 v11 h3_0 h2_0 h1_0 h0_0 h0_1 h0_2 h0_3 h0_4 h0_5 => ex (v2, v11, h3_0, h2_0, h1_0, h0_0, h0_1, h0_2, h0_3, h0_4, h0_5))) (v2, v11, h3_0, h2_0, h1_0, h0_0, h0_1, h0_2, h0_3, h0_4, h0_5) (fun x => k0 x.1 x.2.1 x.2.2.1 x.2.2.2.1 x.2.2.2.2.1 x.2.2.2.2.2.1 x.2.2.2.2.2.2.1 x.2.2.2.2.2.2.2.1 x.2.2.2.2.2.2.2.2.1 x.2.2.2.2.2.2.2.2.2.1 x.2.2.2.2.2.2.2.2.2.2)
noncomputable def sha_through_uint64_l8 {ρ : Type} := shut (sha_through_uint64_L8 (ρ := ρ))
theorem sha_through_uint64_l8_eq {ρ : Type} : sha_through_uint64_l8 (ρ := ρ) = sha_through_uint64_L8 := shut_eq _
noncomputable def sha_through_uint64_r12 {ρ : Type} (v2 : List Int) (v39 : List Int) (v40 : Int) (h1_0 : List Int) (h2_0 : List Int) (nx : (List Int) → (List Int) → Int → (List Int) → (List Int) → Option ρ) (k0 : (List Int) → (List Int) → Int → (List Int) → (List Int) → Option ρ) : Option ρ :=
 br (decide (v40 < (8 : Int)))
 (br (decide ((0 : Int) ≤ v40))
  (br (decide (v40 < (↑8 : Int)))
   (br (decide ((0 : Int) ≤ v40))
    (br (decide (v40 < (↑8 : Int)))
     (nx v2 v39 (IntKind.i64.wrap (v40 + (1 : Int))) (h1_0.set v40.toNat (v39.getD v40.toNat (0 : Int))) h2_0)
     none)
    none)
   none)
  none)
 (k0 v2 v39 v40 h1_0 h2_0)
noncomputable def sha_through_uint64_L12 {ρ : Type} (v2 : List Int) (v39 : List Int) (v40 : Int) (h1_0 : List Int) (h2_0 : List Int) (k0 : (List Int) → (List Int) → Int → (List Int) → (List Int) → Option ρ) : Option ρ :=
 lp (fun (x : (List Int) × (List Int) × Int × (List Int) × (List Int)) next (ex : ((List Int) × (List Int) × Int × (List Int) × (List Int)) → Option ρ) => sha_through_uint64_r12 x.1 x.2.1 x.2.2.1 x.2.2.2.1 x.2.2.2.2 (fun v2 v39 v40 h1_0 h2_0 => next (v2, v39, v40, h1_0, h2_0)) (fun v2 v39 v40 h1_0 h2_0 => ex (v2, v39, v40, h1_0, h2_0))) (v2, v39, v40, h1_0, h2_0) (fun x => k0 x.1 x.2.1 x.2.2.1 x.2.2.2.1 x.2.2.2.2)
noncomputable def sha_through_uint64_l12 {ρ : Type} := shut (sha_through_uint64_L12 (ρ := ρ))
theorem sha_through_uint64_l12_eq {ρ : Type} : sha_through_uint64_l12 (ρ := ρ) = sha_through_uint64_L12 := shut_eq _
noncomputable def sha_through_uint64_raw {ρ : Type} (a0_bits : Int) (a0_rounds : Int) (a0_turns_0 : List Int) (a0_turns_1 : List Int) (a0_turns_2 : List Int) (a0_turns_3 : List Int) (a1 : List Int) (a2 : List Int) (k : (List Int) → (List Int) → Option ρ) : Option ρ :=
 sha_through_uint64_l3 a2 a1 (0 : Int) a0_bits a0_rounds a0_turns_0 a0_turns_1 a0_turns_2 a0_turns_3 a1
 [(0 : Int), (0 : Int), (0 : Int), (0 : Int), (0 : Int), (0 : Int), (0 : Int), (0 : Int)]
 [(0 : Int), (0 : Int), (0 : Int), (0 : Int), (0 : Int), (0 : Int), (0 : Int), (0 : Int)]
 fun (q0 q1 : List Int) (q2 q3 q4 : Int) (q5 q6 q7 q8 q9 q10 q11 : List Int) =>
 sha_through_uint64_l8 q0 (IntKind.i64.wrap (q3 * (2 : Int))) q11 q10 q9 q3 q4 q5 q6 q7 q8
  fun (q12 : List Int) (q13 : Int) (q14 q15 q16 : List Int) (q17 q18 : Int) (q19 q20 q21 q22 : List Int) =>
  sha_through_uint64_l12 q12 q14 (0 : Int) q16 q15 fun (q23 q24 : List Int) (q25 : Int) (q26 q27 : List Int) =>
   k q26 q23
noncomputable def sha_through_uint64 {ρ : Type} := shut (sha_through_uint64_raw (ρ := ρ))
theorem sha_through_uint64_eq {ρ : Type} (a0_bits : Int) (a0_rounds : Int) (a0_turns_0 : List Int) (a0_turns_1 : List Int) (a0_turns_2 : List Int) (a0_turns_3 : List Int) (a1 : List Int) (a2 : List Int) (k : (List Int) → (List Int) → Option ρ) : sha_through_uint64 a0_bits a0_rounds a0_turns_0 a0_turns_1 a0_turns_2 a0_turns_3 a1 a2 k = sha_through_uint64_raw a0_bits a0_rounds a0_turns_0 a0_turns_1 a0_turns_2 a0_turns_3 a1 a2 k := by unfold sha_through_uint64; rw [shut_eq]
end P
end

section
open Go Go.Abs
set_option linter.unusedVariables false
namespace P
noncomputable def sha_great_raw {ρ : Type}  (k : Int → Int → (List Int) → (List Int) → (List Int) → (List Int) → Option ρ) : Option ρ :=
 k (64 : Int) (80 : Int) [(1 : Int), (8 : Int), (7 : Int)] [(19 : Int), (61 : Int), (6 : Int)]
 [(28 : Int), (34 : Int), (39 : Int)] [(14 : Int), (18 : Int), (41 : Int)]
noncomputable def sha_great {ρ : Type} := shut (sha_great_raw (ρ := ρ))
theorem sha_great_eq {ρ : Type}  (k : Int → Int → (List Int) → (List Int) → (List Int) → (List Int) → Option ρ) : sha_great  k = sha_great_raw  k := by unfold sha_great; rw [shut_eq]
end P
end

section
open Go Go.Abs
set_option linter.unusedVariables false
namespace P
noncomputable def slices_Clone_byte {ρ : Type} (a0 : List Int) (k : (List Int) → Option ρ) : Option ρ :=
  br (decide (a0.length * 1 ≤ 140737488355328)) (k a0) none
end P
end

section
open Go Go.Abs
set_option linter.unusedVariables false
namespace P
noncomputable def sha_Add_raw {ρ : Type} (a0_Kind : Int) (a0_Words : List Int) (a0_Tail : List Int) (a0_Size : Int) (a1 : List Int) (k : Int → (List Int) → (List Int) → Int → Option ρ) : Option ρ :=
 slices_Concat_byte [a0_Tail, a1] fun (q0 : List Int) =>
 br (a0_Kind == (1 : Int))
  (sha_small fun (q1 q2 : Int) (q3 q4 q5 q6 : List Int) =>
   sha_through_uint32 q1 q2 q3 q4 q5 q6 a0_Words q0 fun (q7 q8 : List Int) =>
    slices_Clone_byte q8 fun (q9 : List Int) =>
     k a0_Kind q7 q9 (IntKind.u64.wrap (a0_Size + IntKind.u64.wrap (↑a1.length : Int))))
  (sha_great fun (q10 q11 : Int) (q12 q13 q14 q15 : List Int) =>
   sha_through_uint64 q10 q11 q12 q13 q14 q15 a0_Words q0 fun (q16 q17 : List Int) =>
    slices_Clone_byte q17 fun (q18 : List Int) =>
     k a0_Kind q16 q18 (IntKind.u64.wrap (a0_Size + IntKind.u64.wrap (↑a1.length : Int))))
noncomputable def sha_Add {ρ : Type} := shut (sha_Add_raw (ρ := ρ))
theorem sha_Add_eq {ρ : Type} (a0_Kind : Int) (a0_Words : List Int) (a0_Tail : List Int) (a0_Size : Int) (a1 : List Int) (k : Int → (List Int) → (List Int) → Int → Option ρ) : sha_Add a0_Kind a0_Words a0_Tail a0_Size a1 k = sha_Add_raw a0_Kind a0_Words a0_Tail a0_Size a1 k := by unfold sha_Add; rw [shut_eq]
end P
end

section
open Go Go.Abs
set_option linter.unusedVariables false
namespace P
noncomputable def wots_filled_raw {ρ : Type} (a0 : Int) (a1 : Int) (a2 : List Int) (k : Int → (List Int) → (List Int) → Int → Option ρ) : Option ρ :=
 sha_New a0 fun (q0 : Int) (q1 q2 : List Int) (q3 q4 : Int) =>
 bits_Join [a2] fun (q5 : List Int) =>
  br (decide ((0 : Int) ≤ IntKind.i64.wrap (a1 - (↑a2.length : Int))))
   (br
    (decide
     ((q5.length + (IntKind.i64.wrap (a1 - (↑a2.length : Int))).toNat) *
       1 ≤
      140737488355328))
    (sha_Add q0 q1 q2 q3 (q5 ++ List.replicate (IntKind.i64.wrap (a1 - (↑a2.length : Int))).toNat (0 : Int))
     fun (q6 : Int) (q7 q8 : List Int) (q9 : Int) => k q6 q7 q8 q9)
    none)
   none
noncomputable def wots_filled {ρ : Type} := shut (wots_filled_raw (ρ := ρ))
theorem wots_filled_eq {ρ : Type} (a0 : Int) (a1 : Int) (a2 : List Int) (k : Int → (List Int) → (List Int) → Int → Option ρ) : wots_filled a0 a1 a2 k = wots_filled_raw a0 a1 a2 k := by unfold wots_filled; rw [shut_eq]
end P
end

section
open Go Go.Abs
set_option linter.unusedVariables false
namespace P
noncomputable def sha_blockSize_raw {ρ : Type} (a0 : Int) (k : Int → Option ρ) : Option ρ :=
 br (a0 == (1 : Int)) (k (64 : Int)) (k (128 : Int))
noncomputable def sha_blockSize {ρ : Type} := shut (sha_blockSize_raw (ρ := ρ))
theorem sha_blockSize_eq {ρ : Type} (a0 : Int) (k : Int → Option ρ) : sha_blockSize a0 k = sha_blockSize_raw a0 k := by unfold sha_blockSize; rw [shut_eq]
end P
end

section
open Go Go.Abs
set_option linter.unusedVariables false
namespace P
noncomputable def sha_End_r10 {ρ : Type} (v3 : Int) (v45 : List Int) (v46 : Int) (h40 : List Int) (h0_0 : Int) (h0_1 : List Int) (h0_3 : Int) (h5 : List Int) (nx : Int → (List Int) → Int → (List Int) → Int → (List Int) → Int → (List Int) → Option ρ) (k0 : Int → (List Int) → Int → (List Int) → Int → (List Int) → Int → (List Int) → Option ρ) : Option ρ :=
 br (decide (v46 < (8 : Int)))
 (br (decide ((0 : Int) ≤ v46))
  (br (decide (v46 < (↑8 : Int)))
   (bits_Be (v45.getD v46.toNat (0 : Int)) (IntKind.i64.wrap (v3.tdiv (16 : Int))) fun (q0 : List Int) =>
    br
     (decide
      ((h40.length + q0.length) * 1 ≤
       140737488355328))
     (nx v3 v45 (IntKind.i64.wrap (v46 + (1 : Int))) (h40 ++ q0) h0_0 h0_1 h0_3 h5) none)
   none)
  none)
 (k0 v3 v45 v46 h40 h0_0 h0_1 h0_3 h5)
noncomputable def sha_End_L10 {ρ : Type} (v3 : Int) (v45 : List Int) (v46 : Int) (h40 : List Int) (h0_0 : Int) (h0_1 : List Int) (h0_3 : Int) (h5 : List Int) (k0 : Int → (List Int) → Int → (List Int) → Int → (List Int) → Int → (List Int) → Option ρ) : Option ρ :=
 lp (fun (x : Int × (List Int) × Int × (List Int) × Int × (List Int) × Int × (List Int)) next (ex : (Int × (List Int) × Int × (List Int) × Int × (List Int) × Int × (List Int)) → Option ρ) => sha_End_r10 x.1 x.2.1 x.2.2.1 x.2.2.2.1 x.2.2.2.2.1 x.2.2.2.2.2.1 x.2.2.2.2.2.2.1 x.2.2.2.2.2.2.2 (fun v3 v45 v46 h40 h0_0 h0_1 h0_3 h5 => next (v3, v45, v46, h40, h0_0, h0_1, h0_3, h5)) (fun v3 v45 v46 h40 h0_0 h0_1 h0_3 h5 => ex (v3, v45, v46, h40, h0_0, h0_1, h0_3, h5))) (v3, v45, v46, h40, h0_0, h0_1, h0_3, h5) (fun x => k0 x.1 x.2.1 x.2.2.1 x.2.2.2.1 x.2.2.2.2.1 x.2.2.2.2.2.1 x.2.2.2.2.2.2.1 x.2.2.2.2.2.2.2)
noncomputable def sha_End_l10 {ρ : Type} := shut (sha_End_L10 (ρ := ρ))
theorem sha_End_l10_eq {ρ : Type} : sha_End_l10 (ρ := ρ) = sha_End_L10 := shut_eq _
noncomputable def sha_End_raw {ρ : Type} (a0_Kind : Int) (a0_Words : List Int) (a0_Tail : List Int) (a0_Size : Int) (k : (List Int) → Option ρ) : Option ρ :=
 sha_blockSize a0_Kind fun (q0 : Int) =>
 br (decide ((1 : Int) ≤ q0))
  (br (decide (q0 * (↑1 : Int) ≤ (↑140737488355328 : Int)))
   (br (decide (q0 = (0 : Int))) none
    (br
     (decide
      ((0 : Int) ≤
       IntKind.i64.wrap
        (IntKind.i64.wrap
          ((IntKind.i64.wrap
              (IntKind.i64.wrap
                (IntKind.i64.wrap (IntKind.i64.wrap ((2 : Int) * q0) - (1 : Int)) -
                 IntKind.i64.wrap (q0.tdiv (8 : Int))) -
               (↑a0_Tail.length : Int))).tmod
            q0 +
           IntKind.i64.wrap (q0.tdiv (8 : Int))) -
         (8 : Int))))
     (br
      (decide
       ((1 +
          (IntKind.i64.wrap
            (IntKind.i64.wrap
              ((IntKind.i64.wrap
                  (IntKind.i64.wrap
                    (IntKind.i64.wrap (IntKind.i64.wrap ((2 : Int) * q0) - (1 : Int)) -
                     IntKind.i64.wrap (q0.tdiv (8 : Int))) -
                   (↑a0_Tail.length : Int))).tmod
                q0 +
               IntKind.i64.wrap (q0.tdiv (8 : Int))) -
             (8 : Int))).toNat) *
         1 ≤
        140737488355328))
      (bits_Be (IntKind.u64.wrap (a0_Size * (2 : Int) ^ 3)) (8 : Int) fun (q1 : List Int) =>
       br
        (decide
         ((((List.replicate
                 (IntKind.i64.wrap
                   (IntKind.i64.wrap
                     ((IntKind.i64.wrap
                         (IntKind.i64.wrap
                           (IntKind.i64.wrap
                             (IntKind.i64.wrap ((2 : Int) * q0) - (1 : Int)) -
                            IntKind.i64.wrap (q0.tdiv (8 : Int))) -
                          (↑a0_Tail.length : Int))).tmod
                       q0 +
                      IntKind.i64.wrap (q0.tdiv (8 : Int))) -
                    (8 : Int))).toNat
                 (0 : Int)).length.add
              0).succ +
            q1.length) *
           1 ≤
          140737488355328))
        (sha_Add a0_Kind a0_Words a0_Tail a0_Size
         ((List.replicate 1 (0 : Int)).set 0 (128 : Int) ++
           List.replicate
            (IntKind.i64.wrap
              (IntKind.i64.wrap
                ((IntKind.i64.wrap
                    (IntKind.i64.wrap
                      (IntKind.i64.wrap (IntKind.i64.wrap ((2 : Int) * q0) - (1 : Int)) -
                       IntKind.i64.wrap (q0.tdiv (8 : Int))) -
                     (↑a0_Tail.length : Int))).tmod
                  q0 +
                 IntKind.i64.wrap (q0.tdiv (8 : Int))) -
               (8 : Int))).toNat
            (0 : Int) ++
          q1)
         fun (q2 : Int) (q3 q4 : List Int) (q5 : Int) =>
         sha_End_l10 q0 q3 (0 : Int) [] q2 q3 q5 q4
          fun (q6 : Int) (q7 : List Int) (q8 : Int) (q9 : List Int) (q10 : Int) (q11 : List Int) (q12 : Int)
           (q13 : List Int) =>
          br (q10 == (2 : Int))
           (br (decide ((48 : Int) ≤ (↑q9.length : Int))) (k (List.take ((48 : Int) - (0 : Int)).toNat q9))
            none)
           (k q9))
        none)
      none)
     none))
   none)
  none
noncomputable def sha_End {ρ : Type} := shut (sha_End_raw (ρ := ρ))
theorem sha_End_eq {ρ : Type} (a0_Kind : Int) (a0_Words : List Int) (a0_Tail : List Int) (a0_Size : Int) (k : (List Int) → Option ρ) : sha_End a0_Kind a0_Words a0_Tail a0_Size k = sha_End_raw a0_Kind a0_Words a0_Tail a0_Size k := by unfold sha_End; rw [shut_eq]
end P
end

section
open Go Go.Abs
set_option linter.unusedVariables false
namespace P
noncomputable def wots_short_raw {ρ : Type} (a0 : List Int) (k : (List Int) → Option ρ) : Option ρ :=
 bits_Join
 [List.take 1 (List.drop 3 a0), List.take 8 (List.drop 8 a0),
  List.take 13 (List.drop 19 a0)]
 fun (q0 : List Int) => k q0
noncomputable def wots_short {ρ : Type} := shut (wots_short_raw (ρ := ρ))
theorem wots_short_eq {ρ : Type} (a0 : List Int) (k : (List Int) → Option ρ) : wots_short a0 k = wots_short_raw a0 k := by unfold wots_short; rw [shut_eq]
end P
end

section
open Go Go.Abs
set_option linter.unusedVariables false
namespace P
noncomputable def wots_hashed_f1_raw {ρ : Type} (a0 : List Int) (a1 : List Int) (a2_Kind : Int) (a2_Words : List Int) (a2_Tail : List Int) (a2_Size : Int) (a3 : Int) (a4_Kind : Int) (a4_Words : List Int) (a4_Tail : List Int) (a4_Size : Int) (k : (List Int) → Option ρ) : Option ρ :=
 br (decide (a3 > (16 : Int)))
 (br (decide ((↑a1.length : Int) > a3))
  (wots_short a0 fun (q0 : List Int) =>
   bits_Join [q0, a1] fun (q1 : List Int) =>
    sha_Add a4_Kind a4_Words a4_Tail a4_Size q1 fun (q2 : Int) (q3 q4 : List Int) (q5 : Int) =>
     sha_End q2 q3 q4 q5 fun (q6 : List Int) =>
      br (decide ((0 : Int) ≤ a3))
       (br (decide (a3 ≤ (↑q6.length : Int))) (k (List.take (a3 - (0 : Int)).toNat (List.drop 0 q6)))
        none)
       none)
  (wots_short a0 fun (q7 : List Int) =>
   bits_Join [q7, a1] fun (q8 : List Int) =>
    sha_Add a2_Kind a2_Words a2_Tail a2_Size q8 fun (q9 : Int) (q10 q11 : List Int) (q12 : Int) =>
     sha_End q9 q10 q11 q12 fun (q13 : List Int) =>
      br (decide ((0 : Int) ≤ a3))
       (br (decide (a3 ≤ (↑q13.length : Int))) (k (List.take (a3 - (0 : Int)).toNat (List.drop 0 q13)))
        none)
       none))
 (wots_short a0 fun (q14 : List Int) =>
  bits_Join [q14, a1] fun (q15 : List Int) =>
   sha_Add a2_Kind a2_Words a2_Tail a2_Size q15 fun (q16 : Int) (q17 q18 : List Int) (q19 : Int) =>
    sha_End q16 q17 q18 q19 fun (q20 : List Int) =>
     br (decide ((0 : Int) ≤ a3))
      (br (decide (a3 ≤ (↑q20.length : Int))) (k (List.take (a3 - (0 : Int)).toNat (List.drop 0 q20)))
       none)
      none)
noncomputable def wots_hashed_f1 {ρ : Type} := shut (wots_hashed_f1_raw (ρ := ρ))
theorem wots_hashed_f1_eq {ρ : Type} (a0 : List Int) (a1 : List Int) (a2_Kind : Int) (a2_Words : List Int) (a2_Tail : List Int) (a2_Size : Int) (a3 : Int) (a4_Kind : Int) (a4_Words : List Int) (a4_Tail : List Int) (a4_Size : Int) (k : (List Int) → Option ρ) : wots_hashed_f1 a0 a1 a2_Kind a2_Words a2_Tail a2_Size a3 a4_Kind a4_Words a4_Tail a4_Size k = wots_hashed_f1_raw a0 a1 a2_Kind a2_Words a2_Tail a2_Size a3 a4_Kind a4_Words a4_Tail a4_Size k := by unfold wots_hashed_f1; rw [shut_eq]
end P
end

section
open Go Go.Abs
set_option linter.unusedVariables false
namespace P
noncomputable def wots_hashed_raw {ρ : Type} (a0 : Int) (a1 : List Int) (k : Int → (List Int) → (List Int) → Int → Int → Int → (List Int) → (List Int) → Int → Option ρ) : Option ρ :=
 wots_filled (1 : Int) (64 : Int) a1 fun (q0 : Int) (q1 q2 : List Int) (q3 : Int) =>
 wots_filled (3 : Int) (128 : Int) a1 fun (q4 : Int) (q5 q6 : List Int) (q7 : Int) => k q0 q1 q2 q3 a0 q4 q5 q6 q7
noncomputable def wots_hashed {ρ : Type} := shut (wots_hashed_raw (ρ := ρ))
theorem wots_hashed_eq {ρ : Type} (a0 : Int) (a1 : List Int) (k : Int → (List Int) → (List Int) → Int → Int → Int → (List Int) → (List Int) → Int → Option ρ) : wots_hashed a0 a1 k = wots_hashed_raw a0 a1 k := by unfold wots_hashed; rw [shut_eq]
end P
end

section
open Go Go.Abs
set_option linter.unusedVariables false
namespace P
noncomputable def wots_began_raw {ρ : Type} (a0_N : Int) (a0_H : Int) (a0_D : Int) (a0_A : Int) (a0_K : Int) (a0_Shake : Bool) (a1 : List Int) (k : Int → Int → Int → Int → Int → Bool → Nat → Int → (List Int) → Int → Bool → Int → Int → (List Int) → (List Int) → Int → Int → Int → (List Int) → (List Int) → Int → Bool → Option ρ) : Option ρ :=
 wots_Fit a0_N a0_H a0_D a0_A a0_K a0_Shake fun (q0 : Bool) =>
 br (!q0)
  (k (0 : Int) (0 : Int) (0 : Int) (0 : Int) (0 : Int) false 0 (0 : Int) [] (0 : Int) false (0 : Int)
   (0 : Int) [] [] (0 : Int) (0 : Int) (0 : Int) [] [] (0 : Int) false)
  (br ((↑a1.length : Int) != a0_N)
   (k (0 : Int) (0 : Int) (0 : Int) (0 : Int) (0 : Int) false 0 (0 : Int) [] (0 : Int) false (0 : Int)
    (0 : Int) [] [] (0 : Int) (0 : Int) (0 : Int) [] [] (0 : Int) false)
   (br a0_Shake
    (wots_shaken a0_N a1 fun (q1 : Int) (q2 : List Int) (q3 : Int) (q4 : Bool) (q5 : Int) =>
     k a0_N a0_H a0_D a0_A a0_K a0_Shake 1 q1 q2 q3 q4 q5 (0 : Int) [] [] (0 : Int) (0 : Int) (0 : Int)
      [] [] (0 : Int) true)
    (wots_hashed a0_N a1 fun (q6 : Int) (q7 q8 : List Int) (q9 q10 q11 : Int) (q12 q13 : List Int) (q14 : Int) =>
     k a0_N a0_H a0_D a0_A a0_K a0_Shake 2 (0 : Int) [] (0 : Int) false (0 : Int) q6 q7 q8 q9 q10 q11 q12
      q13 q14 true)))
noncomputable def wots_began {ρ : Type} := shut (wots_began_raw (ρ := ρ))
theorem wots_began_eq {ρ : Type} (a0_N : Int) (a0_H : Int) (a0_D : Int) (a0_A : Int) (a0_K : Int) (a0_Shake : Bool) (a1 : List Int) (k : Int → Int → Int → Int → Int → Bool → Nat → Int → (List Int) → Int → Bool → Int → Int → (List Int) → (List Int) → Int → Int → Int → (List Int) → (List Int) → Int → Bool → Option ρ) : wots_began a0_N a0_H a0_D a0_A a0_K a0_Shake a1 k = wots_began_raw a0_N a0_H a0_D a0_A a0_K a0_Shake a1 k := by unfold wots_began; rw [shut_eq]
end P
end

section
open Go Go.Abs
set_option linter.unusedVariables false
namespace P
noncomputable def wots_signer_count_raw {ρ : Type} (a0_Slh_N : Int) (a0_Slh_H : Int) (a0_Slh_D : Int) (a0_Slh_A : Int) (a0_Slh_K : Int) (a0_Slh_Shake : Bool) (a0_sum : Nat) (a0_sum_c0_Kind : Int) (a0_sum_c0_Words : List Int) (a0_sum_c0_At : Int) (a0_sum_c0_Out : Bool) (a0_sum_c1 : Int) (a0_sum_d0_Kind : Int) (a0_sum_d0_Words : List Int) (a0_sum_d0_Tail : List Int) (a0_sum_d0_Size : Int) (a0_sum_d1 : Int) (a0_sum_d2_Kind : Int) (a0_sum_d2_Words : List Int) (a0_sum_d2_Tail : List Int) (a0_sum_d2_Size : Int) (k : Int → Option ρ) : Option ρ :=
 k (IntKind.i64.wrap (IntKind.i64.wrap ((2 : Int) * a0_Slh_N) + (3 : Int)))
noncomputable def wots_signer_count {ρ : Type} := shut (wots_signer_count_raw (ρ := ρ))
theorem wots_signer_count_eq {ρ : Type} (a0_Slh_N : Int) (a0_Slh_H : Int) (a0_Slh_D : Int) (a0_Slh_A : Int) (a0_Slh_K : Int) (a0_Slh_Shake : Bool) (a0_sum : Nat) (a0_sum_c0_Kind : Int) (a0_sum_c0_Words : List Int) (a0_sum_c0_At : Int) (a0_sum_c0_Out : Bool) (a0_sum_c1 : Int) (a0_sum_d0_Kind : Int) (a0_sum_d0_Words : List Int) (a0_sum_d0_Tail : List Int) (a0_sum_d0_Size : Int) (a0_sum_d1 : Int) (a0_sum_d2_Kind : Int) (a0_sum_d2_Words : List Int) (a0_sum_d2_Tail : List Int) (a0_sum_d2_Size : Int) (k : Int → Option ρ) : wots_signer_count a0_Slh_N a0_Slh_H a0_Slh_D a0_Slh_A a0_Slh_K a0_Slh_Shake a0_sum a0_sum_c0_Kind a0_sum_c0_Words a0_sum_c0_At a0_sum_c0_Out a0_sum_c1 a0_sum_d0_Kind a0_sum_d0_Words a0_sum_d0_Tail a0_sum_d0_Size a0_sum_d1 a0_sum_d2_Kind a0_sum_d2_Words a0_sum_d2_Tail a0_sum_d2_Size k = wots_signer_count_raw a0_Slh_N a0_Slh_H a0_Slh_D a0_Slh_A a0_Slh_K a0_Slh_Shake a0_sum a0_sum_c0_Kind a0_sum_c0_Words a0_sum_c0_At a0_sum_c0_Out a0_sum_c1 a0_sum_d0_Kind a0_sum_d0_Words a0_sum_d0_Tail a0_sum_d0_Size a0_sum_d1 a0_sum_d2_Kind a0_sum_d2_Words a0_sum_d2_Tail a0_sum_d2_Size k := by unfold wots_signer_count; rw [shut_eq]
end P
end

section
open Go Go.Abs
set_option linter.unusedVariables false
namespace P
noncomputable def wots_signer_along_r2 {ρ : Type} (v2 : List Int) (v4 : Int) (v11 : Int) (h0_0 : Int) (h0_1 : Int) (h0_2 : Int) (h0_3 : Int) (h0_4 : Int) (h0_5 : Bool) (h0_6 : Nat) (h0_6_c0_0 : Int) (h0_6_c0_1 : List Int) (h0_6_c0_2 : Int) (h0_6_c0_3 : Bool) (h0_6_c1_0 : Int) (h0_6_d0_0 : Int) (h0_6_d0_1 : List Int) (h0_6_d0_2 : List Int) (h0_6_d0_3 : Int) (h0_6_d1_0 : Int) (h0_6_d2_0 : Int) (h0_6_d2_1 : List Int) (h0_6_d2_2 : List Int) (h0_6_d2_3 : Int) (h1_0 : List Int) (nx : (List Int) → Int → Int → Int → Int → Int → Int → Int → Bool → Nat → Int → (List Int) → Int → Bool → Int → Int → (List Int) → (List Int) → Int → Int → Int → (List Int) → (List Int) → Int → (List Int) → Option ρ) (k0 : (List Int) → Int → Int → Int → Int → Int → Int → Int → Bool → Nat → Int → (List Int) → Int → Bool → Int → Int → (List Int) → (List Int) → Int → Int → Int → (List Int) → (List Int) → Int → (List Int) → Option ρ) : Option ρ :=
 br (decide (v11 < v4))
 (wots_Put h1_0 (5 : Int) (IntKind.u64.wrap v11) fun (q0 : List Int) =>
  br (decide (h0_6 = 1))
   (wots_shaken_f1 q0 v2 h0_6_c0_0 h0_6_c0_1 h0_6_c0_2 h0_6_c0_3 h0_6_c1_0 fun (q1 : List Int) =>
    nx q1 v4 (IntKind.u32.wrap (v11 + (1 : Int))) h0_0 h0_1 h0_2 h0_3 h0_4 h0_5 h0_6 h0_6_c0_0 h0_6_c0_1 h0_6_c0_2
     h0_6_c0_3 h0_6_c1_0 h0_6_d0_0 h0_6_d0_1 h0_6_d0_2 h0_6_d0_3 h0_6_d1_0 h0_6_d2_0 h0_6_d2_1 h0_6_d2_2 h0_6_d2_3
     h1_0)
   (br (decide (h0_6 = 2))
    (wots_hashed_f1 q0 v2 h0_6_d0_0 h0_6_d0_1 h0_6_d0_2 h0_6_d0_3 h0_6_d1_0 h0_6_d2_0 h0_6_d2_1 h0_6_d2_2
     h0_6_d2_3 fun (q2 : List Int) =>
     nx q2 v4 (IntKind.u32.wrap (v11 + (1 : Int))) h0_0 h0_1 h0_2 h0_3 h0_4 h0_5 h0_6 h0_6_c0_0 h0_6_c0_1 h0_6_c0_2
      h0_6_c0_3 h0_6_c1_0 h0_6_d0_0 h0_6_d0_1 h0_6_d0_2 h0_6_d0_3 h0_6_d1_0 h0_6_d2_0 h0_6_d2_1 h0_6_d2_2
      h0_6_d2_3 h1_0)
    none))
 (k0 v2 v4 v11 h0_0 h0_1 h0_2 h0_3 h0_4 h0_5 h0_6 h0_6_c0_0 h0_6_c0_1 h0_6_c0_2 h0_6_c0_3 h0_6_c1_0 h0_6_d0_0 h0_6_d0_1
  h0_6_d0_2 h0_6_d0_3 h0_6_d1_0 h0_6_d2_0 h0_6_d2_1 h0_6_d2_2 h0_6_d2_3 h1_0)
noncomputable def wots_signer_along_L2 {ρ : Type} (v2 : List Int) (v4 : Int) (v11 : Int) (h0_0 : Int) (h0_1 : Int) (h0_2 : Int) (h0_3 : Int) (h0_4 : Int) (h0_5 : Bool) (h0_6 : Nat) (h0_6_c0_0 : Int) (h0_6_c0_1 : List Int) (h0_6_c0_2 : Int) (h0_6_c0_3 : Bool) (h0_6_c1_0 : Int) (h0_6_d0_0 : Int) (h0_6_d0_1 : List Int) (h0_6_d0_2 : List Int) (h0_6_d0_3 : Int) (h0_6_d1_0 : Int) (h0_6_d2_0 : Int) (h0_6_d2_1 : List Int) (h0_6_d2_2 : List Int) (h0_6_d2_3 : Int) (h1_0 : List Int) (k0 : (List Int) → Int → Int → Int → Int → Int → Int → Int → Bool → Nat → Int → (List Int) → Int → Bool → Int → Int → (List Int) → (List Int) → Int → Int → Int → (List Int) → (List Int) → Int → (List Int) → Option ρ) : Option ρ :=
 lp (fun (x : (List Int) × Int × Int × Int × Int × Int × Int × Int × Bool × Nat × Int × (List Int) × Int × Bool × Int × Int × (List Int) × (List Int) × Int × Int × Int × (List Int) × (List Int) × Int × (List Int)) next (ex : ((List Int) × Int × Int × Int × Int × Int × Int × Int × Bool × Nat × Int × (List Int) × Int × Bool × Int × Int × (List Int) × (List Int) × Int × Int × Int × (List Int) × (List Int) × Int × (List Int)) → Option ρ) => wots_signer_along_r2 x.1 x.2.1 x.2.2.1 x.2.2.2.1 x.2.2.2.2.1 x.2.2.2.2.2.1 x.2.2.2.2.2.2.1 x.2.2.2.2.2.2.2.1 x.2.2.2.2.2.2.2.2.1 x.2.2.2.2.2.2.2.2.2.1 x.2.2.2.2.2.2.2.2.2.2.1 x.2.2.2.2.2.2.2.2.2.2.2.1 x.2.2.2.2.2.2.2.2.2.2.2.2.1 x.2.2.2.2.2.2.2.2.2.2.2.2.2.1 x.2.2.2.2.2.2.2.2.2.2.2.2.2.2.1 x.2.2.2.2.2.2.2.2.2.2.2.2.2.2.2.1 x.2.2.2.2.2.2.2.2.2.2.2.2.2.2.2.2.1 x.2.2.2.2.2.2.2.2.2.2.2.2.2.2.2.2.2.1 x.2.2.2.2.2.2.2.2.2.2.2.2.2.2.2.2.2.2.1 x.2.2.2.2.2.2.2.2.2.2.2.2.2.2.2.2.2.2.2.1 x.2.2.2.2.2.2.2.2.2.2.2.2.2.2.2.2.2.2.2.2.1 x.2.2.2.2.2.2.2.2.2.2.2.2.2.2.2.2.2.2.2.2.2.1 x.2.2.2.2.2.2.2.2.2.2.2.2.2.2.2.2.2.2.2.2.2.2.1 x.2.2.2.2.2.2.2.2.2.2.2.2.2.2.2.2.2.2.2.2.2.2.2.1 x.2.2.2.2.2.2.2.2.2.2.2.2.2.2.2.2.2.2.2.2.2.2.2.2 (fun v2 v4 v11 h0_0 h0_1 h0_2 h0_3 h0_4 h0_5 h0_6 h0_6_c0_0 h0_6_c0_1 h0_6_c0_2 h0_6_c0_3 h0_6_c1_0 h0_6_d0_0 h0_6_d0_1 h0_6_d0_2 h0_6_d0_3 h0_6_d1_0 h0_6_d2_0 h0_6_d2_1 h0_6_d2_2 h0_6_d2_3 h1_0 => next (v2, v4, v11, h0_0, h0_1, h0_2, h0_3, h0_4, h0_5, h0_6, h0_6_c0_0, h0_6_c0_1, h0_6_c0_2, h0_6_c0_3, h0_6_c1_0, h0_6_d0_0, h0_6_d0_1, h0_6_d0_2, h0_6_d0_3, h0_6_d1_0, h0_6_d2_0, h0_6_d2_1, h0_6_d2_2, h0_6_d2_3, h1_0)) (fun v2 v4 v11 h0_0 h0_1 h0_2 h0_3 h0_4 h0_5 h0_6 h0_6_c0_0 h0_6_c0_1 h0_6_c0_2 h0_6_c0_3 h0_6_c1_0 h0_6_d0_0 h0_6_d0_1 h0_6_d0_2 h0_6_d0_3 h0_6_d1_0 h0_6_d2_0 h0_6_d2_1 h0_6_d2_2 h0_6_d2_3 h1_0 => ex (v2, v4, v11, h0_0, h0_1, h0_2, h0_3, h0_4, h0_5, h0_6, h0_6_c0_0, h0_6_c0_1, h0_6_c0_2, h0_6_c0_3, h0_6_c1_0, h0_6_d0_0, h0_6_d0_1, h0_6_d0_2, h0_6_d0_3, h0_6_d1_0, h0_6_d2_0, h0_6_d2_1, h0_6_d2_2, h0_6_d2_3, h1_0))) (v2, v4, v11, h0_0, h0_1, h0_2, h0_3, h0_4, h0_5, h0_6, h0_6_c0_0, h0_6_c0_1, h0_6_c0_2, h0_6_c0_3, h0_6_c1_0, h0_6_d0_0, h0_6_d0_1, h0_6_d0_2, h0_6_d0_3, h0_6_d1_0, h0_6_d2_0, h0_6_d2_1, h0_6_d2_2, h0_6_d2_3, h1_0) (fun x => k0 x.1 x.2.1 x.2.2.1 x.2.2.2.1 x.2.2.2.2.1 x.2.2.2.2.2.1 x.2.2.2.2.2.2.1 x.2.2.2.2.2.2.2.1 x.2.2.2.2.2.2.2.2.1 x.2.2.2.2.2.2.2.2.2.1 x.2.2.2.2.2.2.2.2.2.2.1 x.2.2.2.2.2.2.2.2.2.2.2.1 x.2.2.2.2.2.2.2.2.2.2.2.2.1 x.2.2.2.2.2.2.2.2.2.2.2.2.2.1 x.2.2.2.2.2.2.2.2.2.2.2.2.2.2.1 x.2.2.2.2.2.2.2.2.2.2.2.2.2.2.2.1 x.2.2.2.2.2.2.2.2.2.2.2.2.2.2.2.2.1 x.2.2.2.2.2.2.2.2.2.2.2.2.2.2.2.2.2.1 x.2.2.2.2.2.2.2.2.2.2.2.2.2.2.2.2.2.2.1 x.2.2.2.2.2.2.2.2.2.2.2.2.2.2.2.2.2.2.2.1 x.2.2.2.2.2.2.2.2.2.2.2.2.2.2.2.2.2.2.2.2.1 x.2.2.2.2.2.2.2.2.2.2.2.2.2.2.2.2.2.2.2.2.2.1 x.2.2.2.2.2.2.2.2.2.2.2.2.2.2.2.2.2.2.2.2.2.2.1 x.2.2.2.2.2.2.2.2.2.2.2.2.2.2.2.2.2.2.2.2.2.2.2.1 x.2.2.2.2.2.2.2.2.2.2.2.2.2.2.2.2.2.2.2.2.2.2.2.2)
noncomputable def wots_signer_along_l2 {ρ : Type} := shut (wots_signer_along_L2 (ρ := ρ))
theorem wots_signer_along_l2_eq {ρ : Type} : wots_signer_along_l2 (ρ := ρ) = wots_signer_along_L2 := shut_eq _
noncomputable def wots_signer_along_raw {ρ : Type} (a0_Slh_N : Int) (a0_Slh_H : Int) (a0_Slh_D : Int) (a0_Slh_A : Int) (a0_Slh_K : Int) (a0_Slh_Shake : Bool) (a0_sum : Nat) (a0_sum_c0_Kind : Int) (a0_sum_c0_Words : List Int) (a0_sum_c0_At : Int) (a0_sum_c0_Out : Bool) (a0_sum_c1 : Int) (a0_sum_d0_Kind : Int) (a0_sum_d0_Words : List Int) (a0_sum_d0_Tail : List Int) (a0_sum_d0_Size : Int) (a0_sum_d1 : Int) (a0_sum_d2_Kind : Int) (a0_sum_d2_Words : List Int) (a0_sum_d2_Tail : List Int) (a0_sum_d2_Size : Int) (a1 : List Int) (a2 : List Int) (a3 : Int) (a4 : Int) (k : (List Int) → Option ρ) : Option ρ :=
 wots_signer_along_l2 a2 a4 a3 a0_Slh_N a0_Slh_H a0_Slh_D a0_Slh_A a0_Slh_K a0_Slh_Shake a0_sum a0_sum_c0_Kind
 a0_sum_c0_Words a0_sum_c0_At a0_sum_c0_Out a0_sum_c1 a0_sum_d0_Kind a0_sum_d0_Words a0_sum_d0_Tail a0_sum_d0_Size
 a0_sum_d1 a0_sum_d2_Kind a0_sum_d2_Words a0_sum_d2_Tail a0_sum_d2_Size a1
 fun (q0 : List Int) (q1 q2 q3 q4 q5 q6 q7 : Int) (q8 : Bool) (q9 : Nat) (q10 : Int) (q11 : List Int) (q12 : Int)
  (q13 : Bool) (q14 q15 : Int) (q16 q17 : List Int) (q18 q19 q20 : Int) (q21 q22 : List Int) (q23 : Int)
  (q24 : List Int) =>
 k q0
noncomputable def wots_signer_along {ρ : Type} := shut (wots_signer_along_raw (ρ := ρ))
theorem wots_signer_along_eq {ρ : Type} (a0_Slh_N : Int) (a0_Slh_H : Int) (a0_Slh_D : Int) (a0_Slh_A : Int) (a0_Slh_K : Int) (a0_Slh_Shake : Bool) (a0_sum : Nat) (a0_sum_c0_Kind : Int) (a0_sum_c0_Words : List Int) (a0_sum_c0_At : Int) (a0_sum_c0_Out : Bool) (a0_sum_c1 : Int) (a0_sum_d0_Kind : Int) (a0_sum_d0_Words : List Int) (a0_sum_d0_Tail : List Int) (a0_sum_d0_Size : Int) (a0_sum_d1 : Int) (a0_sum_d2_Kind : Int) (a0_sum_d2_Words : List Int) (a0_sum_d2_Tail : List Int) (a0_sum_d2_Size : Int) (a1 : List Int) (a2 : List Int) (a3 : Int) (a4 : Int) (k : (List Int) → Option ρ) : wots_signer_along a0_Slh_N a0_Slh_H a0_Slh_D a0_Slh_A a0_Slh_K a0_Slh_Shake a0_sum a0_sum_c0_Kind a0_sum_c0_Words a0_sum_c0_At a0_sum_c0_Out a0_sum_c1 a0_sum_d0_Kind a0_sum_d0_Words a0_sum_d0_Tail a0_sum_d0_Size a0_sum_d1 a0_sum_d2_Kind a0_sum_d2_Words a0_sum_d2_Tail a0_sum_d2_Size a1 a2 a3 a4 k = wots_signer_along_raw a0_Slh_N a0_Slh_H a0_Slh_D a0_Slh_A a0_Slh_K a0_Slh_Shake a0_sum a0_sum_c0_Kind a0_sum_c0_Words a0_sum_c0_At a0_sum_c0_Out a0_sum_c1 a0_sum_d0_Kind a0_sum_d0_Words a0_sum_d0_Tail a0_sum_d0_Size a0_sum_d1 a0_sum_d2_Kind a0_sum_d2_Words a0_sum_d2_Tail a0_sum_d2_Size a1 a2 a3 a4 k := by unfold wots_signer_along; rw [shut_eq]
end P
end

section
open Go Go.Abs
set_option linter.unusedVariables false
namespace P
noncomputable def wots_number_raw {ρ : Type} (a0 : List Int) (a1 : Int) (k : Int → Option ρ) : Option ρ :=
 br (decide ((0 : Int) ≤ IntKind.i64.wrap ((8 : Int) + IntKind.i64.wrap ((4 : Int) * a1))))
 (br
  (decide
   (IntKind.i64.wrap ((8 : Int) + IntKind.i64.wrap ((4 : Int) * a1)) ≤
    IntKind.i64.wrap ((12 : Int) + IntKind.i64.wrap ((4 : Int) * a1))))
  (br (decide (IntKind.i64.wrap ((12 : Int) + IntKind.i64.wrap ((4 : Int) * a1)) ≤ (↑32 : Int)))
   (bits_Num
    (List.take
     (IntKind.i64.wrap ((12 : Int) + IntKind.i64.wrap ((4 : Int) * a1)) -
       IntKind.i64.wrap ((8 : Int) + IntKind.i64.wrap ((4 : Int) * a1))).toNat
     (List.drop (IntKind.i64.wrap ((8 : Int) + IntKind.i64.wrap ((4 : Int) * a1))).toNat a0))
    fun (q0 : Int) => k q0)
   none)
  none)
 none
noncomputable def wots_number {ρ : Type} := shut (wots_number_raw (ρ := ρ))
theorem wots_number_eq {ρ : Type} (a0 : List Int) (a1 : Int) (k : Int → Option ρ) : wots_number a0 a1 k = wots_number_raw a0 a1 k := by unfold wots_number; rw [shut_eq]
end P
end

section
open Go Go.Abs
set_option linter.unusedVariables false
namespace P
noncomputable def wots_signer_first_raw {ρ : Type} (a0_Slh_N : Int) (a0_Slh_H : Int) (a0_Slh_D : Int) (a0_Slh_A : Int) (a0_Slh_K : Int) (a0_Slh_Shake : Bool) (a0_sum : Nat) (a0_sum_c0_Kind : Int) (a0_sum_c0_Words : List Int) (a0_sum_c0_At : Int) (a0_sum_c0_Out : Bool) (a0_sum_c1 : Int) (a0_sum_d0_Kind : Int) (a0_sum_d0_Words : List Int) (a0_sum_d0_Tail : List Int) (a0_sum_d0_Size : Int) (a0_sum_d1 : Int) (a0_sum_d2_Kind : Int) (a0_sum_d2_Words : List Int) (a0_sum_d2_Tail : List Int) (a0_sum_d2_Size : Int) (a1 : List Int) (a2 : List Int) (a3 : Int) (k : (List Int) → Option ρ) : Option ρ :=
 wots_Put a2 (2 : Int) (5 : Int) fun (q0 : List Int) =>
 wots_number a2 (3 : Int) fun (q1 : Int) =>
  wots_Put q0 (3 : Int) q1 fun (q2 : List Int) =>
   wots_Put q2 (4 : Int) (IntKind.u64.wrap a3) fun (q3 : List Int) =>
    br (decide (a0_sum = 1))
     (wots_shaken_f1 q3 a1 a0_sum_c0_Kind a0_sum_c0_Words a0_sum_c0_At a0_sum_c0_Out a0_sum_c1
      fun (q4 : List Int) => k q4)
     (br (decide (a0_sum = 2))
      (wots_hashed_f1 q3 a1 a0_sum_d0_Kind a0_sum_d0_Words a0_sum_d0_Tail a0_sum_d0_Size a0_sum_d1
       a0_sum_d2_Kind a0_sum_d2_Words a0_sum_d2_Tail a0_sum_d2_Size fun (q5 : List Int) => k q5)
      none)
noncomputable def wots_signer_first {ρ : Type} := shut (wots_signer_first_raw (ρ := ρ))
theorem wots_signer_first_eq {ρ : Type} (a0_Slh_N : Int) (a0_Slh_H : Int) (a0_Slh_D : Int) (a0_Slh_A : Int) (a0_Slh_K : Int) (a0_Slh_Shake : Bool) (a0_sum : Nat) (a0_sum_c0_Kind : Int) (a0_sum_c0_Words : List Int) (a0_sum_c0_At : Int) (a0_sum_c0_Out : Bool) (a0_sum_c1 : Int) (a0_sum_d0_Kind : Int) (a0_sum_d0_Words : List Int) (a0_sum_d0_Tail : List Int) (a0_sum_d0_Size : Int) (a0_sum_d1 : Int) (a0_sum_d2_Kind : Int) (a0_sum_d2_Words : List Int) (a0_sum_d2_Tail : List Int) (a0_sum_d2_Size : Int) (a1 : List Int) (a2 : List Int) (a3 : Int) (k : (List Int) → Option ρ) : wots_signer_first a0_Slh_N a0_Slh_H a0_Slh_D a0_Slh_A a0_Slh_K a0_Slh_Shake a0_sum a0_sum_c0_Kind a0_sum_c0_Words a0_sum_c0_At a0_sum_c0_Out a0_sum_c1 a0_sum_d0_Kind a0_sum_d0_Words a0_sum_d0_Tail a0_sum_d0_Size a0_sum_d1 a0_sum_d2_Kind a0_sum_d2_Words a0_sum_d2_Tail a0_sum_d2_Size a1 a2 a3 k = wots_signer_first_raw a0_Slh_N a0_Slh_H a0_Slh_D a0_Slh_A a0_Slh_K a0_Slh_Shake a0_sum a0_sum_c0_Kind a0_sum_c0_Words a0_sum_c0_At a0_sum_c0_Out a0_sum_c1 a0_sum_d0_Kind a0_sum_d0_Words a0_sum_d0_Tail a0_sum_d0_Size a0_sum_d1 a0_sum_d2_Kind a0_sum_d2_Words a0_sum_d2_Tail a0_sum_d2_Size a1 a2 a3 k := by unfold wots_signer_first; rw [shut_eq]
end P
end

section
open Go Go.Abs
set_option linter.unusedVariables false
namespace P
noncomputable def wots_signer_key_raw {ρ : Type} (a0_Slh_N : Int) (a0_Slh_H : Int) (a0_Slh_D : Int) (a0_Slh_A : Int) (a0_Slh_K : Int) (a0_Slh_Shake : Bool) (a0_sum : Nat) (a0_sum_c0_Kind : Int) (a0_sum_c0_Words : List Int) (a0_sum_c0_At : Int) (a0_sum_c0_Out : Bool) (a0_sum_c1 : Int) (a0_sum_d0_Kind : Int) (a0_sum_d0_Words : List Int) (a0_sum_d0_Tail : List Int) (a0_sum_d0_Size : Int) (a0_sum_d1 : Int) (a0_sum_d2_Kind : Int) (a0_sum_d2_Words : List Int) (a0_sum_d2_Tail : List Int) (a0_sum_d2_Size : Int) (a1 : List Int) (a2 : List Int) (k : (List Int) → Option ρ) : Option ρ :=
 wots_Put a2 (2 : Int) (1 : Int) fun (q0 : List Int) =>
 wots_number a2 (3 : Int) fun (q1 : Int) =>
  wots_Put q0 (3 : Int) q1 fun (q2 : List Int) =>
   br (decide (a0_sum = 1))
    (wots_shaken_f1 q2 a1 a0_sum_c0_Kind a0_sum_c0_Words a0_sum_c0_At a0_sum_c0_Out a0_sum_c1
     fun (q3 : List Int) => k q3)
    (br (decide (a0_sum = 2))
     (wots_hashed_f1 q2 a1 a0_sum_d0_Kind a0_sum_d0_Words a0_sum_d0_Tail a0_sum_d0_Size a0_sum_d1 a0_sum_d2_Kind
      a0_sum_d2_Words a0_sum_d2_Tail a0_sum_d2_Size fun (q4 : List Int) => k q4)
     none)
noncomputable def wots_signer_key {ρ : Type} := shut (wots_signer_key_raw (ρ := ρ))
theorem wots_signer_key_eq {ρ : Type} (a0_Slh_N : Int) (a0_Slh_H : Int) (a0_Slh_D : Int) (a0_Slh_A : Int) (a0_Slh_K : Int) (a0_Slh_Shake : Bool) (a0_sum : Nat) (a0_sum_c0_Kind : Int) (a0_sum_c0_Words : List Int) (a0_sum_c0_At : Int) (a0_sum_c0_Out : Bool) (a0_sum_c1 : Int) (a0_sum_d0_Kind : Int) (a0_sum_d0_Words : List Int) (a0_sum_d0_Tail : List Int) (a0_sum_d0_Size : Int) (a0_sum_d1 : Int) (a0_sum_d2_Kind : Int) (a0_sum_d2_Words : List Int) (a0_sum_d2_Tail : List Int) (a0_sum_d2_Size : Int) (a1 : List Int) (a2 : List Int) (k : (List Int) → Option ρ) : wots_signer_key a0_Slh_N a0_Slh_H a0_Slh_D a0_Slh_A a0_Slh_K a0_Slh_Shake a0_sum a0_sum_c0_Kind a0_sum_c0_Words a0_sum_c0_At a0_sum_c0_Out a0_sum_c1 a0_sum_d0_Kind a0_sum_d0_Words a0_sum_d0_Tail a0_sum_d0_Size a0_sum_d1 a0_sum_d2_Kind a0_sum_d2_Words a0_sum_d2_Tail a0_sum_d2_Size a1 a2 k = wots_signer_key_raw a0_Slh_N a0_Slh_H a0_Slh_D a0_Slh_A a0_Slh_K a0_Slh_Shake a0_sum a0_sum_c0_Kind a0_sum_c0_Words a0_sum_c0_At a0_sum_c0_Out a0_sum_c1 a0_sum_d0_Kind a0_sum_d0_Words a0_sum_d0_Tail a0_sum_d0_Size a0_sum_d1 a0_sum_d2_Kind a0_sum_d2_Words a0_sum_d2_Tail a0_sum_d2_Size a1 a2 k := by unfold wots_signer_key; rw [shut_eq]
end P
end

section
open Go Go.Abs
set_option linter.unusedVariables false
namespace P
noncomputable def wots_Public_r6 {ρ : Type} (v1 : List Int) (v29 : Int) (v30 : Int) (h40 : List Int) (h1_0 : List Int) (h2_0 : Int) (h2_1 : Int) (h2_2 : Int) (h2_3 : Int) (h2_4 : Int) (h2_5 : Bool) (h2_6 : Nat) (h2_6_c0_0 : Int) (h2_6_c0_1 : List Int) (h2_6_c0_2 : Int) (h2_6_c0_3 : Bool) (h2_6_c1_0 : Int) (h2_6_d0_0 : Int) (h2_6_d0_1 : List Int) (h2_6_d0_2 : List Int) (h2_6_d0_3 : Int) (h2_6_d1_0 : Int) (h2_6_d2_0 : Int) (h2_6_d2_1 : List Int) (h2_6_d2_2 : List Int) (h2_6_d2_3 : Int) (nx : (List Int) → Int → Int → (List Int) → (List Int) → Int → Int → Int → Int → Int → Bool → Nat → Int → (List Int) → Int → Bool → Int → Int → (List Int) → (List Int) → Int → Int → Int → (List Int) → (List Int) → Int → Option ρ) (k0 : (List Int) → Int → Int → (List Int) → (List Int) → Int → Int → Int → Int → Int → Bool → Nat → Int → (List Int) → Int → Bool → Int → Int → (List Int) → (List Int) → Int → Int → Int → (List Int) → (List Int) → Int → Option ρ) : Option ρ :=
 br (decide (v30 < v29))
 (wots_Put h1_0 (4 : Int) (IntKind.u64.wrap v30) fun (q0 : List Int) =>
  wots_signer_first h2_0 h2_1 h2_2 h2_3 h2_4 h2_5 h2_6 h2_6_c0_0 h2_6_c0_1 h2_6_c0_2 h2_6_c0_3 h2_6_c1_0 h2_6_d0_0
   h2_6_d0_1 h2_6_d0_2 h2_6_d0_3 h2_6_d1_0 h2_6_d2_0 h2_6_d2_1 h2_6_d2_2 h2_6_d2_3 v1 h1_0 v30 fun (q1 : List Int) =>
   wots_signer_along h2_0 h2_1 h2_2 h2_3 h2_4 h2_5 h2_6 h2_6_c0_0 h2_6_c0_1 h2_6_c0_2 h2_6_c0_3 h2_6_c1_0 h2_6_d0_0
    h2_6_d0_1 h2_6_d0_2 h2_6_d0_3 h2_6_d1_0 h2_6_d2_0 h2_6_d2_1 h2_6_d2_2 h2_6_d2_3 q0 q1 (0 : Int) (15 : Int)
    fun (q2 : List Int) =>
    br
     (decide
      ((h40.length + q2.length) * 1 ≤
       140737488355328))
     (nx v1 v29 (IntKind.i64.wrap (v30 + (1 : Int))) (h40 ++ q2) h1_0 h2_0 h2_1 h2_2 h2_3 h2_4 h2_5 h2_6 h2_6_c0_0
      h2_6_c0_1 h2_6_c0_2 h2_6_c0_3 h2_6_c1_0 h2_6_d0_0 h2_6_d0_1 h2_6_d0_2 h2_6_d0_3 h2_6_d1_0 h2_6_d2_0
      h2_6_d2_1 h2_6_d2_2 h2_6_d2_3)
     none)
 (k0 v1 v29 v30 h40 h1_0 h2_0 h2_1 h2_2 h2_3 h2_4 h2_5 h2_6 h2_6_c0_0 h2_6_c0_1 h2_6_c0_2 h2_6_c0_3 h2_6_c1_0 h2_6_d0_0
  h2_6_d0_1 h2_6_d0_2 h2_6_d0_3 h2_6_d1_0 h2_6_d2_0 h2_6_d2_1 h2_6_d2_2 h2_6_d2_3)
noncomputable def wots_Public_L6 {ρ : Type} (v1 : List Int) (v29 : Int) (v30 : Int) (h40 : List Int) (h1_0 : List Int) (h2_0 : Int) (h2_1 : Int) (h2_2 : Int) (h2_3 : Int) (h2_4 : Int) (h2_5 : Bool) (h2_6 : Nat) (h2_6_c0_0 : Int) (h2_6_c0_1 : List Int) (h2_6_c0_2 : Int) (h2_6_c0_3 : Bool) (h2_6_c1_0 : Int) (h2_6_d0_0 : Int) (h2_6_d0_1 : List Int) (h2_6_d0_2 : List Int) (h2_6_d0_3 : Int) (h2_6_d1_0 : Int) (h2_6_d2_0 : Int) (h2_6_d2_1 : List Int) (h2_6_d2_2 : List Int) (h2_6_d2_3 : Int) (k0 : (List Int) → Int → Int → (List Int) → (List Int) → Int → Int → Int → Int → Int → Bool → Nat → Int → (List Int) → Int → Bool → Int → Int → (List Int) → (List Int) → Int → Int → Int → (List Int) → (List Int) → Int → Option ρ) : Option ρ :=
 lp (fun (x : (List Int) × Int × Int × (List Int) × (List Int) × Int × Int × Int × Int × Int × Bool × Nat × Int × (List Int) × Int × Bool × Int × Int × (List Int) × (List Int) × Int × Int × Int × (List Int) × (List Int) × Int) next (ex : ((List Int) × Int × Int × (List Int) × (List Int) × Int × Int × Int × Int × Int × Bool × Nat × Int × (List Int) × Int × Bool × Int × Int × (List Int) × (List Int) × Int × Int × Int × (List Int) × (List Int) × Int) → Option ρ) => wots_Public_r6 x.1 x.2.1 x.2.2.1 x.2.2.2.1 x.2.2.2.2.1 x.2.2.2.2.2.1 x.2.2.2.2.2.2.1 x.2.2.2.2.2.2.2.1 x.2.2.2.2.2.2.2.2.1 x.2.2.2.2.2.2.2.2.2.1 x.2.2.2.2.2.2.2.2.2.2.1 x.2.2.2.2.2.2.2.2.2.2.2.1 x.2.2.2.2.2.2.2.2.2.2.2.2.1 x.2.2.2.2.2.2.2.2.2.2.2.2.2.1 x.2.2.2.2.2.2.2.2.2.2.2.2.2.2.1 x.2.2.2.2.2.2.2.2.2.2.2.2.2.2.2.1 x.2.2.2.2.2.2.2.2.2.2.2.2.2.2.2.2.1 x.2.2.2.2.2.2.2.2.2.2.2.2.2.2.2.2.2.1 x.2.2.2.2.2.2.2.2.2.2.2.2.2.2.2.2.2.2.1 x.2.2.2.2.2.2.2.2.2.2.2.2.2.2.2.2.2.2.2.1 x.2.2.2.2.2.2.2.2.2.2.2.2.2.2.2.2.2.2.2.2.1 x.2.2.2.2.2.2.2.2.2.2.2.2.2.2.2.2.2.2.2.2.2.1 x.2.2.2.2.2.2.2.2.2.2.2.2.2.2.2.2.2.2.2.2.2.2.1 x.2.2.2.2.2.2.2.2.2.2.2.2.2.2.2.2.2.2.2.2.2.2.2.1 x.2.2.2.2.2.2.2.2.2.2.2.2.2.2.2.2.2.2.2.2.2.2.2.2.1 x.2.2.2.2.2.2.2.2.2.2.2.2.2.2.2.2.2.2.2.2.2.2.2.2.2 (fun v1 v29 v30 h40 h1_0 h2_0 h2_1 h2_2 h2_3 h2_4 h2_5 h2_6 h2_6_c0_0 h2_6_c0_1 h2_6_c0_2 h2_6_c0_3 h2_6_c1_0 h2_6_d0_0 h2_6_d0_1 h2_6_d0_2 h2_6_d0_3 h2_6_d1_0 h2_6_d2_0 h2_6_d2_1 h2_6_d2_2 h2_6_d2_3 => next (v1, v29, v30, h40, h1_0, h2_0, h2_1, h2_2, h2_3, h2_4, h2_5, h2_6, h2_6_c0_0, h2_6_c0_1, h2_6_c0_2, h2_6_c0_3, h2_6_c1_0, h2_6_d0_0, h2_6_d0_1, h2_6_d0_2, h2_6_d0_3, h2_6_d1_0, h2_6_d2_0, h2_6_d2_1, h2_6_d2_2, h2_6_d2_3)) (fun v1 v29 v30 h40 h1_0 h2_0 h2_1 h2_2 h2_3 h2_4 h2_5 h2_6 h2_6_c0_0 h2_6_c0_1 h2_6_c0_2 h2_6_c0_3 h2_6_c1_0 h2_6_d0_0 h2_6_d0_1 h2_6_d0_2 h2_6_d0_3 h2_6_d1_0 h2_6_d2_0 h2_6_d2_1 h2_6_d2_2 h2_6_d2_3 => ex (v1, v29, v30, h40, h1_0, h2_0, h2_1, h2_2, h2_3, h2_4, h2_5, h2_6, h2_6_c0_0, h2_6_c0_1, h2_6_c0_2, h2_6_c0_3, h2_6_c1_0, h2_6_d0_0, h2_6_d0_1, h2_6_d0_2, h2_6_d0_3, h2_6_d1_0, h2_6_d2_0, h2_6_d2_1, h2_6_d2_2, h2_6_d2_3))) (v1, v29, v30, h40, h1_0, h2_0, h2_1, h2_2, h2_3, h2_4, h2_5, h2_6, h2_6_c0_0, h2_6_c0_1, h2_6_c0_2, h2_6_c0_3, h2_6_c1_0, h2_6_d0_0, h2_6_d0_1, h2_6_d0_2, h2_6_d0_3, h2_6_d1_0, h2_6_d2_0, h2_6_d2_1, h2_6_d2_2, h2_6_d2_3) (fun x => k0 x.1 x.2.1 x.2.2.1 x.2.2.2.1 x.2.2.2.2.1 x.2.2.2.2.2.1 x.2.2.2.2.2.2.1 x.2.2.2.2.2.2.2.1 x.2.2.2.2.2.2.2.2.1 x.2.2.2.2.2.2.2.2.2.1 x.2.2.2.2.2.2.2.2.2.2.1 x.2.2.2.2.2.2.2.2.2.2.2.1 x.2.2.2.2.2.2.2.2.2.2.2.2.1 x.2.2.2.2.2.2.2.2.2.2.2.2.2.1 x.2.2.2.2.2.2.2.2.2.2.2.2.2.2.1 x.2.2.2.2.2.2.2.2.2.2.2.2.2.2.2.1 x.2.2.2.2.2.2.2.2.2.2.2.2.2.2.2.2.1 x.2.2.2.2.2.2.2.2.2.2.2.2.2.2.2.2.2.1 x.2.2.2.2.2.2.2.2.2.2.2.2.2.2.2.2.2.2.1 x.2.2.2.2.2.2.2.2.2.2.2.2.2.2.2.2.2.2.2.1 x.2.2.2.2.2.2.2.2.2.2.2.2.2.2.2.2.2.2.2.2.1 x.2.2.2.2.2.2.2.2.2.2.2.2.2.2.2.2.2.2.2.2.2.1 x.2.2.2.2.2.2.2.2.2.2.2.2.2.2.2.2.2.2.2.2.2.2.1 x.2.2.2.2.2.2.2.2.2.2.2.2.2.2.2.2.2.2.2.2.2.2.2.1 x.2.2.2.2.2.2.2.2.2.2.2.2.2.2.2.2.2.2.2.2.2.2.2.2.1 x.2.2.2.2.2.2.2.2.2.2.2.2.2.2.2.2.2.2.2.2.2.2.2.2.2)
noncomputable def wots_Public_l6 {ρ : Type} := shut (wots_Public_L6 (ρ := ρ))
theorem wots_Public_l6_eq {ρ : Type} : wots_Public_l6 (ρ := ρ) = wots_Public_L6 := shut_eq _
noncomputable def wots_Public_raw {ρ : Type} (a0_N : Int) (a0_H : Int) (a0_D : Int) (a0_A : Int) (a0_K : Int) (a0_Shake : Bool) (a1 : List Int) (a2 : List Int) (a3 : List Int) (k : (List Int) → Option ρ) : Option ρ :=
 wots_began a0_N a0_H a0_D a0_A a0_K a0_Shake a2
 fun (q0 q1 q2 q3 q4 : Int) (q5 : Bool) (q6 : Nat) (q7 : Int) (q8 : List Int) (q9 : Int) (q10 : Bool) (q11 q12 : Int)
  (q13 q14 : List Int) (q15 q16 q17 : Int) (q18 q19 : List Int) (q20 : Int) (q21 : Bool) =>
 br (!q21) (k [])
  (br ((↑a1.length : Int) != a0_N) (k [])
   (wots_signer_count q0 q1 q2 q3 q4 q5 q6 q7 q8 q9 q10 q11 q12 q13 q14 q15 q16 q17 q18 q19 q20 fun (q22 : Int) =>
    wots_Public_l6 a1 q22 (0 : Int) [] a3 q0 q1 q2 q3 q4 q5 q6 q7 q8 q9 q10 q11 q12 q13 q14 q15 q16 q17 q18 q19
     q20
     fun (q23 : List Int) (q24 q25 : Int) (q26 q27 : List Int) (q28 q29 q30 q31 q32 : Int) (q33 : Bool) (q34 : Nat)
      (q35 : Int) (q36 : List Int) (q37 : Int) (q38 : Bool) (q39 q40 : Int) (q41 q42 : List Int)
      (q43 q44 q45 : Int) (q46 q47 : List Int) (q48 : Int) =>
     wots_signer_key q28 q29 q30 q31 q32 q33 q34 q35 q36 q37 q38 q39 q40 q41 q42 q43 q44 q45 q46 q47 q48 q26 q27
      fun (q49 : List Int) => k q49))
noncomputable def wots_Public {ρ : Type} := shut (wots_Public_raw (ρ := ρ))
theorem wots_Public_eq {ρ : Type} (a0_N : Int) (a0_H : Int) (a0_D : Int) (a0_A : Int) (a0_K : Int) (a0_Shake : Bool) (a1 : List Int) (a2 : List Int) (a3 : List Int) (k : (List Int) → Option ρ) : wots_Public a0_N a0_H a0_D a0_A a0_K a0_Shake a1 a2 a3 k = wots_Public_raw a0_N a0_H a0_D a0_A a0_K a0_Shake a1 a2 a3 k := by unfold wots_Public; rw [shut_eq]
end P
end

section
open Go Go.Abs
set_option linter.unusedVariables false
namespace P
noncomputable def wots_Sign_r6 {ρ : Type} (v2 : List Int) (v42 : Int) (v43 : Int) (h40 : List Int) (h1_0 : List Int) (h2_0 : Int) (h2_1 : Int) (h2_2 : Int) (h2_3 : Int) (h2_4 : Int) (h2_5 : Bool) (h2_6 : Nat) (h2_6_c0_0 : Int) (h2_6_c0_1 : List Int) (h2_6_c0_2 : Int) (h2_6_c0_3 : Bool) (h2_6_c1_0 : Int) (h2_6_d0_0 : Int) (h2_6_d0_1 : List Int) (h2_6_d0_2 : List Int) (h2_6_d0_3 : Int) (h2_6_d1_0 : Int) (h2_6_d2_0 : Int) (h2_6_d2_1 : List Int) (h2_6_d2_2 : List Int) (h2_6_d2_3 : Int) (h3 : List Int) (nx : (List Int) → Int → Int → (List Int) → (List Int) → Int → Int → Int → Int → Int → Bool → Nat → Int → (List Int) → Int → Bool → Int → Int → (List Int) → (List Int) → Int → Int → Int → (List Int) → (List Int) → Int → (List Int) → Option ρ) (k0 : (List Int) → Int → Int → (List Int) → (List Int) → Int → Int → Int → Int → Int → Bool → Nat → Int → (List Int) → Int → Bool → Int → Int → (List Int) → (List Int) → Int → Int → Int → (List Int) → (List Int) → Int → (List Int) → Option ρ) : Option ρ :=
 br (decide (v43 < v42))
 (br (decide ((0 : Int) ≤ v43))
  (br (decide (v43 < (↑h3.length : Int)))
   (wots_Put h1_0 (4 : Int) (IntKind.u64.wrap v43) fun (q0 : List Int) =>
    wots_signer_first h2_0 h2_1 h2_2 h2_3 h2_4 h2_5 h2_6 h2_6_c0_0 h2_6_c0_1 h2_6_c0_2 h2_6_c0_3 h2_6_c1_0
     h2_6_d0_0 h2_6_d0_1 h2_6_d0_2 h2_6_d0_3 h2_6_d1_0 h2_6_d2_0 h2_6_d2_1 h2_6_d2_2 h2_6_d2_3 v2 h1_0 v43
     fun (q1 : List Int) =>
     wots_signer_along h2_0 h2_1 h2_2 h2_3 h2_4 h2_5 h2_6 h2_6_c0_0 h2_6_c0_1 h2_6_c0_2 h2_6_c0_3 h2_6_c1_0
      h2_6_d0_0 h2_6_d0_1 h2_6_d0_2 h2_6_d0_3 h2_6_d1_0 h2_6_d2_0 h2_6_d2_1 h2_6_d2_2 h2_6_d2_3 q0 q1 (0 : Int)
      (h3.getD v43.toNat (0 : Int)) fun (q2 : List Int) =>
      br
       (decide
        ((h40.length + q2.length) *
          1 ≤
         140737488355328))
       (nx v2 v42 (IntKind.i64.wrap (v43 + (1 : Int))) (h40 ++ q2) h1_0 h2_0 h2_1 h2_2 h2_3 h2_4 h2_5 h2_6
        h2_6_c0_0 h2_6_c0_1 h2_6_c0_2 h2_6_c0_3 h2_6_c1_0 h2_6_d0_0 h2_6_d0_1 h2_6_d0_2 h2_6_d0_3 h2_6_d1_0
        h2_6_d2_0 h2_6_d2_1 h2_6_d2_2 h2_6_d2_3 h3)
       none)
   none)
  none)
 (k0 v2 v42 v43 h40 h1_0 h2_0 h2_1 h2_2 h2_3 h2_4 h2_5 h2_6 h2_6_c0_0 h2_6_c0_1 h2_6_c0_2 h2_6_c0_3 h2_6_c1_0 h2_6_d0_0
  h2_6_d0_1 h2_6_d0_2 h2_6_d0_3 h2_6_d1_0 h2_6_d2_0 h2_6_d2_1 h2_6_d2_2 h2_6_d2_3 h3)
noncomputable def wots_Sign_L6 {ρ : Type} (v2 : List Int) (v42 : Int) (v43 : Int) (h40 : List Int) (h1_0 : List Int) (h2_0 : Int) (h2_1 : Int) (h2_2 : Int) (h2_3 : Int) (h2_4 : Int) (h2_5 : Bool) (h2_6 : Nat) (h2_6_c0_0 : Int) (h2_6_c0_1 : List Int) (h2_6_c0_2 : Int) (h2_6_c0_3 : Bool) (h2_6_c1_0 : Int) (h2_6_d0_0 : Int) (h2_6_d0_1 : List Int) (h2_6_d0_2 : List Int) (h2_6_d0_3 : Int) (h2_6_d1_0 : Int) (h2_6_d2_0 : Int) (h2_6_d2_1 : List Int) (h2_6_d2_2 : List Int) (h2_6_d2_3 : Int) (h3 : List Int) (k0 : (List Int) → Int → Int → (List Int) → (List Int) → Int → Int → Int → Int → Int → Bool → Nat → Int → (List Int) → Int → Bool → Int → Int → (List Int) → (List Int) → Int → Int → Int → (List Int) → (List Int) → Int → (List Int) → Option ρ) : Option ρ :=
 lp (fun (x : (List Int) × Int × Int × (List Int) × (List Int) × Int × Int × Int × Int × Int × Bool × Nat × Int × (List Int) × Int × Bool × Int × Int × (List Int) × (List Int) × Int × Int × Int × (List Int) × (List Int) × Int × (List Int)) next (ex : ((List Int) × Int × Int × (List Int) × (List Int) × Int × Int × Int × Int × Int × Bool × Nat × Int × (List Int) × Int × Bool × Int × Int × (List Int) × (List Int) × Int × Int × Int × (List Int) × (List Int) × Int × (List Int)) → Option ρ) => wots_Sign_r6 x.1 x.2.1 x.2.2.1 x.2.2.2.1 x.2.2.2.2.1 x.2.2.2.2.2.1 x.2.2.2.2.2.2.1 x.2.2.2.2.2.2.2.1 x.2.2.2.2.2.2.2.2.1 x.2.2.2.2.2.2.2.2.2.1 x.2.2.2.2.2.2.2.2.2.2.1 x.2.2.2.2.2.2.2.2.2.2.2.1 x.2.2.2.2.2.2.2.2.2.2.2.2.1 x.2.2.2.2.2.2.2.2.2.2.2.2.2.1 x.2.2.2.2.2.2.2.2.2.2.2.2.2.2.1 x.2.2.2.2.2.2.2.2.2.2.2.2.2.2.2.1 x.2.2.2.2.2.2.2.2.2.2.2.2.2.2.2.2.1 x.2.2.2.2.2.2.2.2.2.2.2.2.2.2.2.2.2.1 x.2.2.2.2.2.2.2.2.2.2.2.2.2.2.2.2.2.2.1 x.2.2.2.2.2.2.2.2.2.2.2.2.2.2.2.2.2.2.2.1 x.2.2.2.2.2.2.2.2.2.2.2.2.2.2.2.2.2.2.2.2.1 x.2.2.2.2.2.2.2.2.2.2.2.2.2.2.2.2.2.2.2.2.2.1 x.2.2.2.2.2.2.2.2.2.2.2.2.2.2.2.2.2.2.2.2.2.2.1 x.2.2.2.2.2.2.2.2.2.2.2.2.2.2.2.2.2.2.2.2.2.2.2.1 x.2.2.2.2.2.2.2.2.2.2.2.2.2.2.2.2.2.2.2.2.2.2.2.2.1 x.2.2.2.2.2.2.2.2.2.2.2.2.2.2.2.2.2.2.2.2.2.2.2.2.2.1 x.2.2.2.2.2.2.2.2.2.2.2.2.2.2.2.2.2.2.2.2.2.2.2.2.2.2 (fun v2 v42 v43 h40 h1_0 h2_0 h2_1 h2_2 h2_3 h2_4 h2_5 h2_6 h2_6_c0_0 h2_6_c0_1 h2_6_c0_2 h2_6_c0_3 h2_6_c1_0 h2_6_d0_0 h2_6_d0_1 h2_6_d0_2 h2_6_d0_3 h2_6_d1_0 h2_6_d2_0 h2_6_d2_1 h2_6_d2_2 h2_6_d2_3 h3 => next (v2, v42, v43, h40, h1_0, h2_0, h2_1, h2_2, h2_3, h2_4, h2_5, h2_6, h2_6_c0_0, h2_6_c0_1, h2_6_c0_2, h2_6_c0_3, h2_6_c1_0, h2_6_d0_0, h2_6_d0_1, h2_6_d0_2, h2_6_d0_3, h2_6_d1_0, h2_6_d2_0, h2_6_d2_1, h2_6_d2_2, h2_6_d2_3, h3)) (fun v2 v42 v43 h40 h1_0 h2_0 h2_1 h2_2 h2_3 h2_4 h2_5 h2_6 h2_6_c0_0 h2_6_c0_1 h2_6_c0_2 h2_6_c0_3 h2_6_c1_0 h2_6_d0_0 h2_6_d0_1 h2_6_d0_2 h2_6_d0_3 h2_6_d1_0 h2_6_d2_0 h2_6_d2_1 h2_6_d2_2 h2_6_d2_3 h3 => ex (v2, v42, v43, h40, h1_0, h2_0, h2_1, h2_2, h2_3, h2_4, h2_5, h2_6, h2_6_c0_0, h2_6_c0_1, h2_6_c0_2, h2_6_c0_3, h2_6_c1_0, h2_6_d0_0, h2_6_d0_1, h2_6_d0_2, h2_6_d0_3, h2_6_d1_0, h2_6_d2_0, h2_6_d2_1, h2_6_d2_2, h2_6_d2_3, h3))) (v2, v42, v43, h40, h1_0, h2_0, h2_1, h2_2, h2_3, h2_4, h2_5, h2_6, h2_6_c0_0, h2_6_c0_1, h2_6_c0_2, h2_6_c0_3, h2_6_c1_0, h2_6_d0_0, h2_6_d0_1, h2_6_d0_2, h2_6_d0_3, h2_6_d1_0, h2_6_d2_0, h2_6_d2_1, h2_6_d2_2, h2_6_d2_3, h3) (fun x => k0 x.1 x.2.1 x.2.2.1 x.2.2.2.1 x.2.2.2.2.1 x.2.2.2.2.2.1 x.2.2.2.2.2.2.1 x.2.2.2.2.2.2.2.1 x.2.2.2.2.2.2.2.2.1 x.2.2.2.2.2.2.2.2.2.1 x.2.2.2.2.2.2.2.2.2.2.1 x.2.2.2.2.2.2.2.2.2.2.2.1 x.2.2.2.2.2.2.2.2.2.2.2.2.1 x.2.2.2.2.2.2.2.2.2.2.2.2.2.1 x.2.2.2.2.2.2.2.2.2.2.2.2.2.2.1 x.2.2.2.2.2.2.2.2.2.2.2.2.2.2.2.1 x.2.2.2.2.2.2.2.2.2.2.2.2.2.2.2.2.1 x.2.2.2.2.2.2.2.2.2.2.2.2.2.2.2.2.2.1 x.2.2.2.2.2.2.2.2.2.2.2.2.2.2.2.2.2.2.1 x.2.2.2.2.2.2.2.2.2.2.2.2.2.2.2.2.2.2.2.1 x.2.2.2.2.2.2.2.2.2.2.2.2.2.2.2.2.2.2.2.2.1 x.2.2.2.2.2.2.2.2.2.2.2.2.2.2.2.2.2.2.2.2.2.1 x.2.2.2.2.2.2.2.2.2.2.2.2.2.2.2.2.2.2.2.2.2.2.1 x.2.2.2.2.2.2.2.2.2.2.2.2.2.2.2.2.2.2.2.2.2.2.2.1 x.2.2.2.2.2.2.2.2.2.2.2.2.2.2.2.2.2.2.2.2.2.2.2.2.1 x.2.2.2.2.2.2.2.2.2.2.2.2.2.2.2.2.2.2.2.2.2.2.2.2.2.1 x.2.2.2.2.2.2.2.2.2.2.2.2.2.2.2.2.2.2.2.2.2.2.2.2.2.2)
noncomputable def wots_Sign_l6 {ρ : Type} := shut (wots_Sign_L6 (ρ := ρ))
theorem wots_Sign_l6_eq {ρ : Type} : wots_Sign_l6 (ρ := ρ) = wots_Sign_L6 := shut_eq _
noncomputable def wots_Sign_raw {ρ : Type} (a0_N : Int) (a0_H : Int) (a0_D : Int) (a0_A : Int) (a0_K : Int) (a0_Shake : Bool) (a1 : List Int) (a2 : List Int) (a3 : List Int) (a4 : List Int) (k : (List Int) → Option ρ) : Option ρ :=
 wots_began a0_N a0_H a0_D a0_A a0_K a0_Shake a3
 fun (q0 q1 q2 q3 q4 : Int) (q5 : Bool) (q6 : Nat) (q7 : Int) (q8 : List Int) (q9 : Int) (q10 : Bool) (q11 q12 : Int)
  (q13 q14 : List Int) (q15 q16 q17 : Int) (q18 q19 : List Int) (q20 : Int) (q21 : Bool) =>
 br (!q21) (k [])
  (br ((↑a2.length : Int) != a0_N) (k [])
   (br ((↑a1.length : Int) != a0_N) (k [])
    (wots_Digits a0_N a1 fun (q22 : List Int) =>
     wots_Sign_l6 a2 (↑q22.length : Int) (0 : Int) [] a4 q0 q1 q2 q3 q4 q5 q6 q7 q8 q9 q10 q11 q12 q13 q14 q15
      q16 q17 q18 q19 q20 q22
      fun (q23 : List Int) (q24 q25 : Int) (q26 q27 : List Int) (q28 q29 q30 q31 q32 : Int) (q33 : Bool)
       (q34 : Nat) (q35 : Int) (q36 : List Int) (q37 : Int) (q38 : Bool) (q39 q40 : Int) (q41 q42 : List Int)
       (q43 q44 q45 : Int) (q46 q47 : List Int) (q48 : Int) (q49 : List Int) =>
      k q26)))
noncomputable def wots_Sign {ρ : Type} := shut (wots_Sign_raw (ρ := ρ))
theorem wots_Sign_eq {ρ : Type} (a0_N : Int) (a0_H : Int) (a0_D : Int) (a0_A : Int) (a0_K : Int) (a0_Shake : Bool) (a1 : List Int) (a2 : List Int) (a3 : List Int) (a4 : List Int) (k : (List Int) → Option ρ) : wots_Sign a0_N a0_H a0_D a0_A a0_K a0_Shake a1 a2 a3 a4 k = wots_Sign_raw a0_N a0_H a0_D a0_A a0_K a0_Shake a1 a2 a3 a4 k := by unfold wots_Sign; rw [shut_eq]
end P
end

section
open Go Go.Abs
set_option linter.unusedVariables false
namespace P
noncomputable def wots_Candidate_r6 {ρ : Type} (v1 : List Int) (v45 : Int) (v46 : Int) (h4 : List Int) (h0_0 : Int) (h0_1 : Int) (h0_2 : Int) (h0_3 : Int) (h0_4 : Int) (h0_5 : Bool) (h1_0 : List Int) (h2_0 : Int) (h2_1 : Int) (h2_2 : Int) (h2_3 : Int) (h2_4 : Int) (h2_5 : Bool) (h2_6 : Nat) (h2_6_c0_0 : Int) (h2_6_c0_1 : List Int) (h2_6_c0_2 : Int) (h2_6_c0_3 : Bool) (h2_6_c1_0 : Int) (h2_6_d0_0 : Int) (h2_6_d0_1 : List Int) (h2_6_d0_2 : List Int) (h2_6_d0_3 : Int) (h2_6_d1_0 : Int) (h2_6_d2_0 : Int) (h2_6_d2_1 : List Int) (h2_6_d2_2 : List Int) (h2_6_d2_3 : Int) (h3 : List Int) (nx : (List Int) → Int → Int → (List Int) → Int → Int → Int → Int → Int → Bool → (List Int) → Int → Int → Int → Int → Int → Bool → Nat → Int → (List Int) → Int → Bool → Int → Int → (List Int) → (List Int) → Int → Int → Int → (List Int) → (List Int) → Int → (List Int) → Option ρ) (k0 : (List Int) → Int → Int → (List Int) → Int → Int → Int → Int → Int → Bool → (List Int) → Int → Int → Int → Int → Int → Bool → Nat → Int → (List Int) → Int → Bool → Int → Int → (List Int) → (List Int) → Int → Int → Int → (List Int) → (List Int) → Int → (List Int) → Option ρ) : Option ρ :=
 br (decide (v46 < v45))
 (br (decide ((0 : Int) ≤ v46))
  (br (decide (v46 < (↑h3.length : Int)))
   (wots_Put h1_0 (4 : Int) (IntKind.u64.wrap v46) fun (q0 : List Int) =>
    br (decide ((0 : Int) ≤ h0_0))
     (br (decide (h0_0 ≤ (↑v1.length : Int)))
      (wots_signer_along h2_0 h2_1 h2_2 h2_3 h2_4 h2_5 h2_6 h2_6_c0_0 h2_6_c0_1 h2_6_c0_2 h2_6_c0_3 h2_6_c1_0
       h2_6_d0_0 h2_6_d0_1 h2_6_d0_2 h2_6_d0_3 h2_6_d1_0 h2_6_d2_0 h2_6_d2_1 h2_6_d2_2 h2_6_d2_3 q0
       (List.drop 0 (List.take h0_0.toNat v1)) (h3.getD v46.toNat (0 : Int)) (15 : Int)
       fun (q1 : List Int) =>
       br
        (decide
         ((h4.length + q1.length) *
           1 ≤
          140737488355328))
        (br (decide ((0 : Int) ≤ h0_0))
         (br (decide (h0_0 ≤ (↑v1.length : Int)))
          (br (decide ((↑v1.length : Int) ≤ (↑v1.length : Int)))
           (nx (List.drop h0_0.toNat (List.take (↑v1.length : Int).toNat v1)) v45
            (IntKind.i64.wrap (v46 + (1 : Int))) (h4 ++ q1) h0_0 h0_1 h0_2 h0_3 h0_4 h0_5 h1_0 h2_0 h2_1
            h2_2 h2_3 h2_4 h2_5 h2_6 h2_6_c0_0 h2_6_c0_1 h2_6_c0_2 h2_6_c0_3 h2_6_c1_0 h2_6_d0_0 h2_6_d0_1
            h2_6_d0_2 h2_6_d0_3 h2_6_d1_0 h2_6_d2_0 h2_6_d2_1 h2_6_d2_2 h2_6_d2_3 h3)
           none)
          none)
         none)
        none)
      none)
     none)
   none)
  none)
 (k0 v1 v45 v46 h4 h0_0 h0_1 h0_2 h0_3 h0_4 h0_5 h1_0 h2_0 h2_1 h2_2 h2_3 h2_4 h2_5 h2_6 h2_6_c0_0 h2_6_c0_1 h2_6_c0_2
  h2_6_c0_3 h2_6_c1_0 h2_6_d0_0 h2_6_d0_1 h2_6_d0_2 h2_6_d0_3 h2_6_d1_0 h2_6_d2_0 h2_6_d2_1 h2_6_d2_2 h2_6_d2_3 h3)
noncomputable def wots_Candidate_L6 {ρ : Type} (v1 : List Int) (v45 : Int) (v46 : Int) (h4 : List Int) (h0_0 : Int) (h0_1 : Int) (h0_2 : Int) (h0_3 : Int) (h0_4 : Int) (h0_5 : Bool) (h1_0 : List Int) (h2_0 : Int) (h2_1 : Int) (h2_2 : Int) (h2_3 : Int) (h2_4 : Int) (h2_5 : Bool) (h2_6 : Nat) (h2_6_c0_0 : Int) (h2_6_c0_1 : List Int) (h2_6_c0_2 : Int) (h2_6_c0_3 : Bool) (h2_6_c1_0 : Int) (h2_6_d0_0 : Int) (h2_6_d0_1 : List Int) (h2_6_d0_2 : List Int) (h2_6_d0_3 : Int) (h2_6_d1_0 : Int) (h2_6_d2_0 : Int) (h2_6_d2_1 : List Int) (h2_6_d2_2 : List Int) (h2_6_d2_3 : Int) (h3 : List Int) (k0 : (List Int) → Int → Int → (List Int) → Int → Int → Int → Int → Int → Bool → (List Int) → Int → Int → Int → Int → Int → Bool → Nat → Int → (List Int) → Int → Bool → Int → Int → (List Int) → (List Int) → Int → Int → Int → (List Int) → (List Int) → Int → (List Int) → Option ρ) : Option ρ :=
 lp (fun (x : (List Int) × Int × Int × (List Int) × Int × Int × Int × Int × Int × Bool × (List Int) × Int × Int × Int × Int × Int × Bool × Nat × Int × (List Int) × Int × Bool × Int × Int × (List Int) × (List Int) × Int × Int × Int × (List Int) × (List Int) × Int × (List Int)) next (ex : ((List Int) × Int × Int × (List Int) × Int × Int × Int × Int × Int × Bool × (List Int) × Int × Int × Int × Int × Int × Bool × Nat × Int × (List Int) × Int × Bool × Int × Int × (List Int) × (List Int) × Int × Int × Int × (List Int) × (List Int) × Int × (List Int)) → Option ρ) => wots_Candidate_r6 x.1 x.2.1 x.2.2.1 x.2.2.2.1 x.2.2.2.2.1 x.2.2.2.2.2.1 x.2.2.2.2.2.2.1 x.2.2.2.2.2.2.2.1 x.2.2.2.2.2.2.2.2.1 x.2.2.2.2.2.2.2.2.2.1 x.2.2.2.2.2.2.2.2.2.2.1 x.2.2.2.2.2.2.2.2.2.2.2.1 x.2.2.2.2.2.2.2.2.2.2.2.2.1 x.2.2.2.2.2.2.2.2.2.2.2.2.2.1 x.2.2.2.2.2.2.2.2.2.2.2.2.2.2.1 x.2.2.2.2.2.2.2.2.2.2.2.2.2.2.2.1 x.2.2.2.2.2.2.2.2.2.2.2.2.2.2.2.2.1 x.2.2.2.2.2.2.2.2.2.2.2.2.2.2.2.2.2.1 x.2.2.2.2.2.2.2.2.2.2.2.2.2.2.2.2.2.2.1 x.2.2.2.2.2.2.2.2.2.2.2.2.2.2.2.2.2.2.2.1 x.2.2.2.2.2.2.2.2.2.2.2.2.2.2.2.2.2.2.2.2.1 x.2.2.2.2.2.2.2.2.2.2.2.2.2.2.2.2.2.2.2.2.2.1 x.2.2.2.2.2.2.2.2.2.2.2.2.2.2.2.2.2.2.2.2.2.2.1 x.2.2.2.2.2.2.2.2.2.2.2.2.2.2.2.2.2.2.2.2.2.2.2.1 x.2.2.2.2.2.2.2.2.2.2.2.2.2.2.2.2.2.2.2.2.2.2.2.2.1 x.2.2.2.2.2.2.2.2.2.2.2.2.2.2.2.2.2.2.2.2.2.2.2.2.2.1 x.2.2.2.2.2.2.2.2.2.2.2.2.2.2.2.2.2.2.2.2.2.2.2.2.2.2.1 x.2.2.2.2.2.2.2.2.2.2.2.2.2.2.2.2.2.2.2.2.2.2.2.2.2.2.2.1 x.2.2.2.2.2.2.2.2.2.2.2.2.2.2.2.2.2.2.2.2.2.2.2.2.2.2.2.2.1 x.2.2.2.2.2.2.2.2.2.2.2.2.2.2.2.2.2.2.2.2.2.2.2.2.2.2.2.2.2.1 x.2.2.2.2.2.2.2.2.2.2.2.2.2.2.2.2.2.2.2.2.2.2.2.2.2.2.2.2.2.2.1 x.2.2.2.2.2.2.2.2.2.2.2.2.2.2.2.2.2.2.2.2.2.2.2.2.2.2.2.2.2.2.2.1 x.2.2.2.2.2.2.2.2.2.2.2.2.2.2.2.2.2.2.2.2.2.2.2.2.2.2.2.2.2.2.2.2 (fun v1 v45 v46 h4 h0_0 h0_1 h0_2 h0_3 h0_4 h0_5 h1_0 h2_0 h2_1 h2_2 h2_3 h2_4 h2_5 h2_6 h2_6_c0_0 h2_6_c0_1 h2_6_c0_2 h2_6_c0_3 h2_6_c1_0 h2_6_d0_0 h2_6_d0_1 h2_6_d0_2 h2_6_d0_3 h2_6_d1_0 h2_6_d2_0 h2_6_d2_1 h2_6_d2_2 h2_6_d2_3 h3 => next (v1, v45, v46, h4, h0_0, h0_1, h0_2, h0_3, h0_4, h0_5, h1_0, h2_0, h2_1, h2_2, h2_3, h2_4, h2_5, h2_6, h2_6_c0_0, h2_6_c0_1, h2_6_c0_2, h2_6_c0_3, h2_6_c1_0, h2_6_d0_0, h2_6_d0_1, h2_6_d0_2, h2_6_d0_3, h2_6_d1_0, h2_6_d2_0, h2_6_d2_1, h2_6_d2_2, h2_6_d2_3, h3)) (fun v1 v45 v46 h4 h0_0 h0_1 h0_2 h0_3 h0_4 h0_5 h1_0 h2_0 h2_1 h2_2 h2_3 h2_4 h2_5 h2_6 h2_6_c0_0 h2_6_c0_1 h2_6_c0_2 h2_6_c0_3 h2_6_c1_0 h2_6_d0_0 h2_6_d0_1 h2_6_d0_2 h2_6_d0_3 h2_6_d1_0 h2_6_d2_0 h2_6_d2_1 h2_6_d2_2 h2_6_d2_3 h3 => ex (v1, v45, v46, h4, h0_0, h0_1, h0_2, h0_3, h0_4, h0_5, h1_0, h2_0, h2_1, h2_2, h2_3, h2_4, h2_5, h2_6, h2_6_c0_0, h2_6_c0_1, h2_6_c0_2, h2_6_c0_3, h2_6_c1_0, h2_6_d0_0, h2_6_d0_1, h2_6_d0_2, h2_6_d0_3, h2_6_d1_0, h2_6_d2_0, h2_6_d2_1, h2_6_d2_2, h2_6_d2_3, h3))) (v1, v45, v46, h4, h0_0, h0_1, h0_2, h0_3, h0_4, h0_5, h1_0, h2_0, h2_1, h2_2, h2_3, h2_4, h2_5, h2_6, h2_6_c0_0, h2_6_c0_1, h2_6_c0_2, h2_6_c0_3, h2_6_c1_0, h2_6_d0_0, h2_6_d0_1, h2_6_d0_2, h2_6_d0_3, h2_6_d1_0, h2_6_d2_0, h2_6_d2_1, h2_6_d2_2, h2_6_d2_3, h3) (fun x => k0 x.1 x.2.1 x.2.2.1 x.2.2.2.1 x.2.2.2.2.1 x.2.2.2.2.2.1 x.2.2.2.2.2.2.1 x.2.2.2.2.2.2.2.1 x.2.2.2.2.2.2.2.2.1 x.2.2.2.2.2.2.2.2.2.1 x.2.2.2.2.2.2.2.2.2.2.1 x.2.2.2.2.2.2.2.2.2.2.2.1 x.2.2.2.2.2.2.2.2.2.2.2.2.1 x.2.2.2.2.2.2.2.2.2.2.2.2.2.1 x.2.2.2.2.2.2.2.2.2.2.2.2.2.2.1 x.2.2.2.2.2.2.2.2.2.2.2.2.2.2.2.1 x.2.2.2.2.2.2.2.2.2.2.2.2.2.2.2.2.1 x.2.2.2.2.2.2.2.2.2.2.2.2.2.2.2.2.2.1 x.2.2.2.2.2.2.2.2.2.2.2.2.2.2.2.2.2.2.1 x.2.2.2.2.2.2.2.2.2.2.2.2.2.2.2.2.2.2.2.1 x.2.2.2.2.2.2.2.2.2.2.2.2.2.2.2.2.2.2.2.2.1 x.2.2.2.2.2.2.2.2.2.2.2.2.2.2.2.2.2.2.2.2.2.1 x.2.2.2.2.2.2.2.2.2.2.2.2.2.2.2.2.2.2.2.2.2.2.1 x.2.2.2.2.2.2.2.2.2.2.2.2.2.2.2.2.2.2.2.2.2.2.2.1 x.2.2.2.2.2.2.2.2.2.2.2.2.2.2.2.2.2.2.2.2.2.2.2.2.1 x.2.2.2.2.2.2.2.2.2.2.2.2.2.2.2.2.2.2.2.2.2.2.2.2.2.1 x.2.2.2.2.2.2.2.2.2.2.2.2.2.2.2.2.2.2.2.2.2.2.2.2.2.2.1 x.2.2.2.2.2.2.2.2.2.2.2.2.2.2.2.2.2.2.2.2.2.2.2.2.2.2.2.1 x.2.2.2.2.2.2.2.2.2.2.2.2.2.2.2.2.2.2.2.2.2.2.2.2.2.2.2.2.1 x.2.2.2.2.2.2.2.2.2.2.2.2.2.2.2.2.2.2.2.2.2.2.2.2.2.2.2.2.2.1 x.2.2.2.2.2.2.2.2.2.2.2.2.2.2.2.2.2.2.2.2.2.2.2.2.2.2.2.2.2.2.1 x.2.2.2.2.2.2.2.2.2.2.2.2.2.2.2.2.2.2.2.2.2.2.2.2.2.2.2.2.2.2.2.1 x.2.2.2.2.2.2.2.2.2.2.2.2.2.2.2.2.2.2.2.2.2.2.2.2.2.2.2.2.2.2.2.2)
noncomputable def wots_Candidate_l6 {ρ : Type} := shut (wots_Candidate_L6 (ρ := ρ))
theorem wots_Candidate_l6_eq {ρ : Type} : wots_Candidate_l6 (ρ := ρ) = wots_Candidate_L6 := shut_eq _
noncomputable def wots_Candidate_raw {ρ : Type} (a0_N : Int) (a0_H : Int) (a0_D : Int) (a0_A : Int) (a0_K : Int) (a0_Shake : Bool) (a1 : List Int) (a2 : List Int) (a3 : List Int) (a4 : List Int) (k : (List Int) → Option ρ) : Option ρ :=
 wots_began a0_N a0_H a0_D a0_A a0_K a0_Shake a3
 fun (q0 q1 q2 q3 q4 : Int) (q5 : Bool) (q6 : Nat) (q7 : Int) (q8 : List Int) (q9 : Int) (q10 : Bool) (q11 q12 : Int)
  (q13 q14 : List Int) (q15 q16 q17 : Int) (q18 q19 : List Int) (q20 : Int) (q21 : Bool) =>
 br (!q21) (k [])
  (br ((↑a2.length : Int) != a0_N) (k [])
   (wots_signer_count q0 q1 q2 q3 q4 q5 q6 q7 q8 q9 q10 q11 q12 q13 q14 q15 q16 q17 q18 q19 q20 fun (q22 : Int) =>
    br ((↑a1.length : Int) != IntKind.i64.wrap (a0_N * q22)) (k [])
     (wots_Digits a0_N a2 fun (q23 : List Int) =>
      wots_Candidate_l6 a1 (↑q23.length : Int) (0 : Int) [] a0_N a0_H a0_D a0_A a0_K a0_Shake a4 q0 q1 q2 q3 q4
       q5 q6 q7 q8 q9 q10 q11 q12 q13 q14 q15 q16 q17 q18 q19 q20 q23
       fun (q24 : List Int) (q25 q26 : Int) (q27 : List Int) (q28 q29 q30 q31 q32 : Int) (q33 : Bool)
        (q34 : List Int) (q35 q36 q37 q38 q39 : Int) (q40 : Bool) (q41 : Nat) (q42 : Int) (q43 : List Int)
        (q44 : Int) (q45 : Bool) (q46 q47 : Int) (q48 q49 : List Int) (q50 q51 q52 : Int) (q53 q54 : List Int)
        (q55 : Int) (q56 : List Int) =>
       wots_signer_key q35 q36 q37 q38 q39 q40 q41 q42 q43 q44 q45 q46 q47 q48 q49 q50 q51 q52 q53 q54 q55 q27
        q34 fun (q57 : List Int) => k q57)))
noncomputable def wots_Candidate {ρ : Type} := shut (wots_Candidate_raw (ρ := ρ))
theorem wots_Candidate_eq {ρ : Type} (a0_N : Int) (a0_H : Int) (a0_D : Int) (a0_A : Int) (a0_K : Int) (a0_Shake : Bool) (a1 : List Int) (a2 : List Int) (a3 : List Int) (a4 : List Int) (k : (List Int) → Option ρ) : wots_Candidate a0_N a0_H a0_D a0_A a0_K a0_Shake a1 a2 a3 a4 k = wots_Candidate_raw a0_N a0_H a0_D a0_A a0_K a0_Shake a1 a2 a3 a4 k := by unfold wots_Candidate; rw [shut_eq]
end P
end

section
open Go Go.Abs
set_option linter.unusedVariables false
namespace P
noncomputable def L17_WotsRight_raw {ρ : Type} (a0 : Int) (a1 : Bool) (a2 : List Int) (a3 : List Int) (a4 : List Int) (a5 : List Int) (k : Bool → Option ρ) : Option ρ :=
 br
 (decide
  ((0 : Int) ≤ IntKind.i64.wrap ((16 : Int) + IntKind.i64.wrap ((8 : Int) * IntKind.i64.wrap (a0.tmod (3 : Int))))))
 (br
  (decide
   (IntKind.i64.wrap ((16 : Int) + IntKind.i64.wrap ((8 : Int) * IntKind.i64.wrap (a0.tmod (3 : Int)))) ≤
    (↑32 : Int)))
  (br
   (decide
    ((0 : Int) ≤
     IntKind.i64.wrap ((16 : Int) + IntKind.i64.wrap ((8 : Int) * IntKind.i64.wrap (a0.tmod (3 : Int))))))
   (br
    (decide
     (IntKind.i64.wrap ((16 : Int) + IntKind.i64.wrap ((8 : Int) * IntKind.i64.wrap (a0.tmod (3 : Int)))) ≤
      (↑32 : Int)))
    (wots_Public
     (IntKind.i64.wrap ((16 : Int) + IntKind.i64.wrap ((8 : Int) * IntKind.i64.wrap (a0.tmod (3 : Int)))))
     (2 : Int) (1 : Int) (1 : Int) (1 : Int) a1
     (List.take
      (IntKind.i64.wrap ((16 : Int) + IntKind.i64.wrap ((8 : Int) * IntKind.i64.wrap (a0.tmod (3 : Int)))) -
        (0 : Int)).toNat
      (List.drop 0 a3))
     (List.take
      (IntKind.i64.wrap ((16 : Int) + IntKind.i64.wrap ((8 : Int) * IntKind.i64.wrap (a0.tmod (3 : Int)))) -
        (0 : Int)).toNat
      (List.drop 0 a4))
     a2 fun (q0 : List Int) =>
     br
      (decide
       ((0 : Int) ≤
        IntKind.i64.wrap ((16 : Int) + IntKind.i64.wrap ((8 : Int) * IntKind.i64.wrap (a0.tmod (3 : Int))))))
      (br
       (decide
        (IntKind.i64.wrap ((16 : Int) + IntKind.i64.wrap ((8 : Int) * IntKind.i64.wrap (a0.tmod (3 : Int)))) ≤
         (↑32 : Int)))
       (br
        (decide
         ((0 : Int) ≤
          IntKind.i64.wrap
           ((16 : Int) + IntKind.i64.wrap ((8 : Int) * IntKind.i64.wrap (a0.tmod (3 : Int))))))
        (br
         (decide
          (IntKind.i64.wrap
            ((16 : Int) + IntKind.i64.wrap ((8 : Int) * IntKind.i64.wrap (a0.tmod (3 : Int)))) ≤
           (↑32 : Int)))
         (br
          (decide
           ((0 : Int) ≤
            IntKind.i64.wrap
             ((16 : Int) + IntKind.i64.wrap ((8 : Int) * IntKind.i64.wrap (a0.tmod (3 : Int))))))
          (br
           (decide
            (IntKind.i64.wrap
              ((16 : Int) + IntKind.i64.wrap ((8 : Int) * IntKind.i64.wrap (a0.tmod (3 : Int)))) ≤
             (↑32 : Int)))
           (wots_Sign
            (IntKind.i64.wrap
             ((16 : Int) + IntKind.i64.wrap ((8 : Int) * IntKind.i64.wrap (a0.tmod (3 : Int)))))
            (2 : Int) (1 : Int) (1 : Int) (1 : Int) a1
            (List.take
             (IntKind.i64.wrap
                ((16 : Int) + IntKind.i64.wrap ((8 : Int) * IntKind.i64.wrap (a0.tmod (3 : Int)))) -
               (0 : Int)).toNat
             (List.drop 0 a5))
            (List.take
             (IntKind.i64.wrap
                ((16 : Int) + IntKind.i64.wrap ((8 : Int) * IntKind.i64.wrap (a0.tmod (3 : Int)))) -
               (0 : Int)).toNat
             (List.drop 0 a3))
            (List.take
             (IntKind.i64.wrap
                ((16 : Int) + IntKind.i64.wrap ((8 : Int) * IntKind.i64.wrap (a0.tmod (3 : Int)))) -
               (0 : Int)).toNat
             (List.drop 0 a4))
            a2 fun (q1 : List Int) =>
            br
             ((↑q0.length : Int) ==
              IntKind.i64.wrap
               ((16 : Int) + IntKind.i64.wrap ((8 : Int) * IntKind.i64.wrap (a0.tmod (3 : Int)))))
             (br
              ((↑q1.length : Int) ==
               IntKind.i64.wrap
                (IntKind.i64.wrap
                  ((16 : Int) + IntKind.i64.wrap ((8 : Int) * IntKind.i64.wrap (a0.tmod (3 : Int)))) *
                 IntKind.i64.wrap
                  (IntKind.i64.wrap
                    ((2 : Int) *
                     IntKind.i64.wrap
                      ((16 : Int) +
                       IntKind.i64.wrap ((8 : Int) * IntKind.i64.wrap (a0.tmod (3 : Int))))) +
                   (3 : Int))))
              (br
               (decide
                ((0 : Int) ≤
                 IntKind.i64.wrap
                  ((16 : Int) + IntKind.i64.wrap ((8 : Int) * IntKind.i64.wrap (a0.tmod (3 : Int))))))
               (br
                (decide
                 (IntKind.i64.wrap
                   ((16 : Int) +
                    IntKind.i64.wrap ((8 : Int) * IntKind.i64.wrap (a0.tmod (3 : Int)))) ≤
                  (↑32 : Int)))
                (br
                 (decide
                  ((0 : Int) ≤
                   IntKind.i64.wrap
                    ((16 : Int) +
                     IntKind.i64.wrap ((8 : Int) * IntKind.i64.wrap (a0.tmod (3 : Int))))))
                 (br
                  (decide
                   (IntKind.i64.wrap
                     ((16 : Int) +
                      IntKind.i64.wrap ((8 : Int) * IntKind.i64.wrap (a0.tmod (3 : Int)))) ≤
                    (↑32 : Int)))
                  (wots_Candidate
                   (IntKind.i64.wrap
                    ((16 : Int) +
                     IntKind.i64.wrap ((8 : Int) * IntKind.i64.wrap (a0.tmod (3 : Int)))))
                   (2 : Int) (1 : Int) (1 : Int) (1 : Int) a1 q1
                   (List.take
                    (IntKind.i64.wrap
                       ((16 : Int) +
                        IntKind.i64.wrap ((8 : Int) * IntKind.i64.wrap (a0.tmod (3 : Int)))) -
                      (0 : Int)).toNat
                    (List.drop 0 a5))
                   (List.take
                    (IntKind.i64.wrap
                       ((16 : Int) +
                        IntKind.i64.wrap ((8 : Int) * IntKind.i64.wrap (a0.tmod (3 : Int)))) -
                      (0 : Int)).toNat
                    (List.drop 0 a4))
                   a2 fun (q2 : List Int) =>
                   R01_Same q2 q0 fun (q3 : Bool) =>
                    br q3 (L17_awake fun (q4 : Bool) => k q4) (k false))
                  none)
                 none)
                none)
               none)
              (k false))
             (k false))
           none)
          none)
         none)
        none)
       none)
      none)
    none)
   none)
  none)
 none
noncomputable def L17_WotsRight {ρ : Type} := shut (L17_WotsRight_raw (ρ := ρ))
theorem L17_WotsRight_eq {ρ : Type} (a0 : Int) (a1 : Bool) (a2 : List Int) (a3 : List Int) (a4 : List Int) (a5 : List Int) (k : Bool → Option ρ) : L17_WotsRight a0 a1 a2 a3 a4 a5 k = L17_WotsRight_raw a0 a1 a2 a3 a4 a5 k := by unfold L17_WotsRight; rw [shut_eq]
end P
end
