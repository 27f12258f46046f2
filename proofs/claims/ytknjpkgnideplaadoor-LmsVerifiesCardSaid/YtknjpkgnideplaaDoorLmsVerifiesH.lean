/-
  LmsVerifies, part H: an interpreter of my own over abstract values, the pure functions, the walks and the plain law.
-/

import Derived.Test.YtknjpkgnideplaaDoorLmsVerifiesF
import Derived.Test.YtknjpkgnideplaaDoorLmsVerifiesG
import Derived.Test.YtknjpkgnideplaaDoorProg
import Derived.KernelRfl

section
open Go Go.Abs
set_option linter.unusedVariables false
namespace P
noncomputable def lmots_leaf_steps_raw {ρ : Type} (a0_w : Int) (a0_id : List Int) (a0_q : Int) (a0_kind_digits : Int) (a0_kind_shift : Int) (a0_kind_code : Int) (k : Int → Option ρ) : Option ρ :=
 br (decide (a0_w < (0 : Int))) none
 (k (IntKind.u32.wrap (IntKind.u32.wrap ((1 : Int) * (2 : Int) ^ min a0_w.toNat 32) - (1 : Int))))
noncomputable def lmots_leaf_steps {ρ : Type} := shut (lmots_leaf_steps_raw (ρ := ρ))
theorem lmots_leaf_steps_eq {ρ : Type} (a0_w : Int) (a0_id : List Int) (a0_q : Int) (a0_kind_digits : Int) (a0_kind_shift : Int) (a0_kind_code : Int) (k : Int → Option ρ) : lmots_leaf_steps a0_w a0_id a0_q a0_kind_digits a0_kind_shift a0_kind_code k = lmots_leaf_steps_raw a0_w a0_id a0_q a0_kind_digits a0_kind_shift a0_kind_code k := by unfold lmots_leaf_steps; rw [shut_eq]
end P
end

section
open Go Go.Abs
set_option linter.unusedVariables false
namespace P
noncomputable def bits_such_raw {ρ : Type} (a0 : List Int) (a1 : Int) (a2 : Int) (k : Bool → Option ρ) : Option ρ :=
 br (decide (a1 ≥ (1 : Int)))
 (br (decide (a1 ≤ (24 : Int)))
  (br (decide (a2 ≥ (0 : Int)))
   (br (decide (a1 = (0 : Int))) none
    (k (decide (a2 ≤ IntKind.i64.wrap ((IntKind.i64.wrap ((↑a0.length : Int) * (8 : Int))).tdiv a1)))))
   (k false))
  (k false))
 (k false)
noncomputable def bits_such {ρ : Type} := shut (bits_such_raw (ρ := ρ))
theorem bits_such_eq {ρ : Type} (a0 : List Int) (a1 : Int) (a2 : Int) (k : Bool → Option ρ) : bits_such a0 a1 a2 k = bits_such_raw a0 a1 a2 k := by unfold bits_such; rw [shut_eq]
end P
end

section
open Go Go.Abs
set_option linter.unusedVariables false
namespace P
noncomputable def bits_Digits_r8 {ρ : Type} (v0 : List Int) (v1 : Int) (v8 : Int) (v9 : Int) (v10 : Int) (v19 : Int) (v20 : Int) (h0 : List Int) (nx : (List Int) → Int → Int → Int → Int → Int → Int → (List Int) → Option ρ) (k0 : (List Int) → Int → Int → Int → Int → Int → Int → (List Int) → Option ρ) : Option ρ :=
 br (decide (v9 < v1))
 (br (decide ((0 : Int) < (↑v0.length : Int)))
  (br (decide ((1 : Int) ≤ (↑v0.length : Int)))
   (br (decide ((↑v0.length : Int) ≤ (↑v0.length : Int)))
    (nx (List.drop 1 (List.take (↑v0.length : Int).toNat v0)) v1
     (bits BinOp.or IntKind.u64 (IntKind.u64.wrap (v8 * (2 : Int) ^ 8))
      (IntKind.u64.wrap (v0.getD 0 (0 : Int))))
     (IntKind.i64.wrap (v9 + (8 : Int))) v10 v19 v20 h0)
    none)
   none)
  none)
 (k0 v0 v1 v8 v9 v10 v19 v20 h0)
noncomputable def bits_Digits_L8 {ρ : Type} (v0 : List Int) (v1 : Int) (v8 : Int) (v9 : Int) (v10 : Int) (v19 : Int) (v20 : Int) (h0 : List Int) (k0 : (List Int) → Int → Int → Int → Int → Int → Int → (List Int) → Option ρ) : Option ρ :=
 lp (fun (x : (List Int) × Int × Int × Int × Int × Int × Int × (List Int)) next (ex : ((List Int) × Int × Int × Int × Int × Int × Int × (List Int)) → Option ρ) => bits_Digits_r8 x.1 x.2.1 x.2.2.1 x.2.2.2.1 x.2.2.2.2.1 x.2.2.2.2.2.1 x.2.2.2.2.2.2.1 x.2.2.2.2.2.2.2 (fun v0 v1 v8 v9 v10 v19 v20 h0 => next (v0, v1, v8, v9, v10, v19, v20, h0)) (fun v0 v1 v8 v9 v10 v19 v20 h0 => ex (v0, v1, v8, v9, v10, v19, v20, h0))) (v0, v1, v8, v9, v10, v19, v20, h0) (fun x => k0 x.1 x.2.1 x.2.2.1 x.2.2.2.1 x.2.2.2.2.1 x.2.2.2.2.2.1 x.2.2.2.2.2.2.1 x.2.2.2.2.2.2.2)
noncomputable def bits_Digits_l8 {ρ : Type} := shut (bits_Digits_L8 (ρ := ρ))
theorem bits_Digits_l8_eq {ρ : Type} : bits_Digits_l8 (ρ := ρ) = bits_Digits_L8 := shut_eq _
noncomputable def bits_Digits_r6 {ρ : Type} (v0 : List Int) (v1 : Int) (v8 : Int) (v9 : Int) (v19 : Int) (v20 : Int) (h0 : List Int) (nx : (List Int) → Int → Int → Int → Int → Int → (List Int) → Option ρ) (k0 : (List Int) → Int → Int → Int → Int → Int → (List Int) → Option ρ) : Option ρ :=
 br (decide (v20 < v19))
 (bits_Digits_l8 v0 v1 v8 v9 v20 v19 v20 h0 fun (q0 : List Int) (q1 q2 q3 q4 q5 q6 : Int) (q7 : List Int) =>
  br (decide (IntKind.i64.wrap (q3 - q1) < (0 : Int))) none
   (br (decide (q1 < (0 : Int))) none
    (br (decide ((0 : Int) ≤ q4))
     (br (decide (q4 < (↑q7.length : Int)))
      (nx q0 q1 q2 (IntKind.i64.wrap (q3 - q1)) q5 (IntKind.i64.wrap (q6 + (1 : Int)))
       (q7.set q4.toNat
        (IntKind.u32.wrap
         (bits BinOp.and IntKind.u64
          (q2.fdiv ((2 : Int) ^ min (IntKind.i64.wrap (q3 - q1)).toNat 64))
          (IntKind.u64.wrap
           (IntKind.u64.wrap ((1 : Int) * (2 : Int) ^ min q1.toNat 64) - (1 : Int)))))))
      none)
     none)))
 (k0 v0 v1 v8 v9 v19 v20 h0)
noncomputable def bits_Digits_L6 {ρ : Type} (v0 : List Int) (v1 : Int) (v8 : Int) (v9 : Int) (v19 : Int) (v20 : Int) (h0 : List Int) (k0 : (List Int) → Int → Int → Int → Int → Int → (List Int) → Option ρ) : Option ρ :=
 lp (fun (x : (List Int) × Int × Int × Int × Int × Int × (List Int)) next (ex : ((List Int) × Int × Int × Int × Int × Int × (List Int)) → Option ρ) => bits_Digits_r6 x.1 x.2.1 x.2.2.1 x.2.2.2.1 x.2.2.2.2.1 x.2.2.2.2.2.1 x.2.2.2.2.2.2 (fun v0 v1 v8 v9 v19 v20 h0 => next (v0, v1, v8, v9, v19, v20, h0)) (fun v0 v1 v8 v9 v19 v20 h0 => ex (v0, v1, v8, v9, v19, v20, h0))) (v0, v1, v8, v9, v19, v20, h0) (fun x => k0 x.1 x.2.1 x.2.2.1 x.2.2.2.1 x.2.2.2.2.1 x.2.2.2.2.2.1 x.2.2.2.2.2.2)
noncomputable def bits_Digits_l6 {ρ : Type} := shut (bits_Digits_L6 (ρ := ρ))
theorem bits_Digits_l6_eq {ρ : Type} : bits_Digits_l6 (ρ := ρ) = bits_Digits_L6 := shut_eq _
noncomputable def bits_Digits_raw {ρ : Type} (a0 : List Int) (a1 : Int) (a2 : Int) (k : (List Int) → Option ρ) : Option ρ :=
 bits_such a0 a1 a2 fun (q0 : Bool) =>
 br (!q0) (k [])
  (br (decide ((0 : Int) ≤ a2))
   (br (decide (a2 ≤ a2))
    (br (decide (a2 * (↑4 : Int) ≤ (↑140737488355328 : Int)))
     (bits_Digits_l6 a0 a1 (0 : Int) (0 : Int) (↑(List.replicate a2.toNat (0 : Int)).length : Int) (0 : Int)
      (List.replicate a2.toNat (0 : Int)) fun (q1 : List Int) (q2 q3 q4 q5 q6 : Int) (q7 : List Int) => k q7)
     none)
    none)
   none)
noncomputable def bits_Digits {ρ : Type} := shut (bits_Digits_raw (ρ := ρ))
theorem bits_Digits_eq {ρ : Type} (a0 : List Int) (a1 : Int) (a2 : Int) (k : (List Int) → Option ρ) : bits_Digits a0 a1 a2 k = bits_Digits_raw a0 a1 a2 k := by unfold bits_Digits; rw [shut_eq]
end P
end

section
open Go Go.Abs
set_option linter.unusedVariables false
namespace P
noncomputable def lmots_Digits_r9 {ρ : Type} (v0 : Int) (v9 : Int) (v37 : Int) (v38 : Int) (h0_0 : Int) (h0_1 : Int) (h0_2 : Int) (h1 : List Int) (nx : Int → Int → Int → Int → Int → Int → Int → (List Int) → Option ρ) (k0 : Int → Int → Int → Int → Int → Int → Int → (List Int) → Option ρ) : Option ρ :=
 br (decide (v38 < v37))
 (br (decide ((0 : Int) ≤ v38))
  (br (decide (v38 < (↑h1.length : Int)))
   (nx v0 (IntKind.u64.wrap (v9 - IntKind.u64.wrap (h1.getD v38.toNat (0 : Int)))) v37
    (IntKind.i64.wrap (v38 + (1 : Int))) h0_0 h0_1 h0_2 h1)
   none)
  none)
 (k0 v0 v9 v37 v38 h0_0 h0_1 h0_2 h1)
noncomputable def lmots_Digits_L9 {ρ : Type} (v0 : Int) (v9 : Int) (v37 : Int) (v38 : Int) (h0_0 : Int) (h0_1 : Int) (h0_2 : Int) (h1 : List Int) (k0 : Int → Int → Int → Int → Int → Int → Int → (List Int) → Option ρ) : Option ρ :=
 lp (fun (x : Int × Int × Int × Int × Int × Int × Int × (List Int)) next (ex : (Int × Int × Int × Int × Int × Int × Int × (List Int)) → Option ρ) => lmots_Digits_r9 x.1 x.2.1 x.2.2.1 x.2.2.2.1 x.2.2.2.2.1 x.2.2.2.2.2.1 x.2.2.2.2.2.2.1 x.2.2.2.2.2.2.2 (fun v0 v9 v37 v38 h0_0 h0_1 h0_2 h1 => next (v0, v9, v37, v38, h0_0, h0_1, h0_2, h1)) (fun v0 v9 v37 v38 h0_0 h0_1 h0_2 h1 => ex (v0, v9, v37, v38, h0_0, h0_1, h0_2, h1))) (v0, v9, v37, v38, h0_0, h0_1, h0_2, h1) (fun x => k0 x.1 x.2.1 x.2.2.1 x.2.2.2.1 x.2.2.2.2.1 x.2.2.2.2.2.1 x.2.2.2.2.2.2.1 x.2.2.2.2.2.2.2)
noncomputable def lmots_Digits_l9 {ρ : Type} := shut (lmots_Digits_L9 (ρ := ρ))
theorem lmots_Digits_l9_eq {ρ : Type} : lmots_Digits_l9 (ρ := ρ) = lmots_Digits_L9 := shut_eq _
noncomputable def lmots_Digits_raw {ρ : Type} (a0 : Int) (a1 : List Int) (k : (List Int) → Int → Option ρ) : Option ρ :=
 lmots_known a0 fun (q0 q1 q2 : Int) (q3 : Bool) =>
 br (!q3) (k [] (9 : Int))
  (br ((↑a1.length : Int) != (32 : Int)) (k [] (14 : Int))
   (br (decide (a0 = (0 : Int))) none
    (bits_Digits a1 a0 (IntKind.i64.wrap (Int.tdiv (256 : Int) a0)) fun (q4 : List Int) =>
     br (decide (a0 < (0 : Int))) none
      (lmots_Digits_l9 a0
       (IntKind.u64.wrap
        (IntKind.u64.wrap (↑q4.length : Int) *
         IntKind.u64.wrap (IntKind.u64.wrap ((1 : Int) * (2 : Int) ^ min a0.toNat 64) - (1 : Int))))
       (↑q4.length : Int) (0 : Int) q0 q1 q2 q4 fun (q5 q6 q7 q8 q9 q10 q11 : Int) (q12 : List Int) =>
       br (decide (q10 < (0 : Int))) none
        (bits_Be (IntKind.u64.wrap (q6 * (2 : Int) ^ min q10.toNat 64)) (2 : Int)
         fun (q13 : List Int) =>
         bits_Digits q13 q5 (IntKind.i64.wrap (q9 - (↑q12.length : Int))) fun (q14 : List Int) =>
          br
           (decide
            ((q12.length + q14.length) *
              4 ≤
             140737488355328))
           (k (q12 ++ q14) (0 : Int)) none)))))
noncomputable def lmots_Digits {ρ : Type} := shut (lmots_Digits_raw (ρ := ρ))
theorem lmots_Digits_eq {ρ : Type} (a0 : Int) (a1 : List Int) (k : (List Int) → Int → Option ρ) : lmots_Digits a0 a1 k = lmots_Digits_raw a0 a1 k := by unfold lmots_Digits; rw [shut_eq]
end P
end

section
open Go Go.Abs
set_option linter.unusedVariables false
namespace P
noncomputable def lmots_leaf_digitsOf_raw {ρ : Type} (a0_w : Int) (a0_id : List Int) (a0_q : Int) (a0_kind_digits : Int) (a0_kind_shift : Int) (a0_kind_code : Int) (a1 : List Int) (a2 : List Int) (k : (List Int) → Option ρ) : Option ρ :=
 lmots_leaf_sum a0_w a0_id a0_q a0_kind_digits a0_kind_shift a0_kind_code (33153 : Int) [a1, a2] fun (q0 : List Int) =>
 lmots_Digits a0_w q0 fun (q1 : List Int) (q2 : Int) => k q1
noncomputable def lmots_leaf_digitsOf {ρ : Type} := shut (lmots_leaf_digitsOf_raw (ρ := ρ))
theorem lmots_leaf_digitsOf_eq {ρ : Type} (a0_w : Int) (a0_id : List Int) (a0_q : Int) (a0_kind_digits : Int) (a0_kind_shift : Int) (a0_kind_code : Int) (a1 : List Int) (a2 : List Int) (k : (List Int) → Option ρ) : lmots_leaf_digitsOf a0_w a0_id a0_q a0_kind_digits a0_kind_shift a0_kind_code a1 a2 k = lmots_leaf_digitsOf_raw a0_w a0_id a0_q a0_kind_digits a0_kind_shift a0_kind_code a1 a2 k := by unfold lmots_leaf_digitsOf; rw [shut_eq]
end P
end

section
open Go Go.Abs
set_option linter.unusedVariables false
namespace P
noncomputable def lmots_began_raw {ρ : Type} (a0 : Int) (a1 : List Int) (a2 : Int) (k : Int → (List Int) → Int → Int → Int → Int → Int → Option ρ) : Option ρ :=
 lmots_known a0 fun (q0 q1 q2 : Int) (q3 : Bool) =>
 br (!q3) (k (0 : Int) [] (0 : Int) (0 : Int) (0 : Int) (0 : Int) (9 : Int))
  (br ((↑a1.length : Int) != (16 : Int)) (k (0 : Int) [] (0 : Int) (0 : Int) (0 : Int) (0 : Int) (14 : Int))
   (k a0 a1 a2 q0 q1 q2 (0 : Int)))
noncomputable def lmots_began {ρ : Type} := shut (lmots_began_raw (ρ := ρ))
theorem lmots_began_eq {ρ : Type} (a0 : Int) (a1 : List Int) (a2 : Int) (k : Int → (List Int) → Int → Int → Int → Int → Int → Option ρ) : lmots_began a0 a1 a2 k = lmots_began_raw a0 a1 a2 k := by unfold lmots_began; rw [shut_eq]
end P
end

section
open Go Go.Abs
set_option linter.unusedVariables false
namespace P
noncomputable def lmots_Candidate_r9 {ρ : Type} (v15 : List Int) (v52 : Int) (v53 : Int) (h2 : List Int) (h0_0 : Int) (h0_1 : List Int) (h0_2 : Int) (h0_3 : Int) (h0_4 : Int) (h0_5 : Int) (h1 : List Int) (nx : (List Int) → Int → Int → (List Int) → Int → (List Int) → Int → Int → Int → Int → (List Int) → Option ρ) (k0 : (List Int) → Int → Int → (List Int) → Int → (List Int) → Int → Int → Int → Int → (List Int) → Option ρ) : Option ρ :=
 br (decide (v53 < v52))
 (br (decide ((0 : Int) ≤ v53))
  (br (decide (v53 < (↑h1.length : Int)))
   (lmots_leaf_steps h0_0 h0_1 h0_2 h0_3 h0_4 h0_5 fun (q0 : Int) =>
    br (decide ((32 : Int) ≤ (↑v15.length : Int)))
     (lmots_leaf_along h0_0 h0_1 h0_2 h0_3 h0_4 h0_5 v53 (h1.getD v53.toNat (0 : Int))
      (IntKind.u32.wrap (q0 - h1.getD v53.toNat (0 : Int)))
      (List.drop 0 (List.take (Int.toNat (32 : Int)) v15)) fun (q1 : List Int) =>
      br
       (decide
        ((h2.length + q1.length) * 1 ≤
         140737488355328))
       (br (decide ((32 : Int) ≤ (↑v15.length : Int)))
        (br (decide ((↑v15.length : Int) ≤ (↑v15.length : Int)))
         (nx (List.drop 32 (List.take (↑v15.length : Int).toNat v15)) v52
          (IntKind.i64.wrap (v53 + (1 : Int))) (h2 ++ q1) h0_0 h0_1 h0_2 h0_3 h0_4 h0_5 h1)
         none)
        none)
       none)
     none)
   none)
  none)
 (k0 v15 v52 v53 h2 h0_0 h0_1 h0_2 h0_3 h0_4 h0_5 h1)
noncomputable def lmots_Candidate_L9 {ρ : Type} (v15 : List Int) (v52 : Int) (v53 : Int) (h2 : List Int) (h0_0 : Int) (h0_1 : List Int) (h0_2 : Int) (h0_3 : Int) (h0_4 : Int) (h0_5 : Int) (h1 : List Int) (k0 : (List Int) → Int → Int → (List Int) → Int → (List Int) → Int → Int → Int → Int → (List Int) → Option ρ) : Option ρ :=
 lp (fun (x : (List Int) × Int × Int × (List Int) × Int × (List Int) × Int × Int × Int × Int × (List Int)) next (ex : ((List Int) × Int × Int × (List Int) × Int × (List Int) × Int × Int × Int × Int × (List Int)) → Option ρ) => lmots_Candidate_r9 x.1 x.2.1 x.2.2.1 x.2.2.2.1 x.2.2.2.2.1 x.2.2.2.2.2.1 x.2.2.2.2.2.2.1 x.2.2.2.2.2.2.2.1 x.2.2.2.2.2.2.2.2.1 x.2.2.2.2.2.2.2.2.2.1 x.2.2.2.2.2.2.2.2.2.2 (fun v15 v52 v53 h2 h0_0 h0_1 h0_2 h0_3 h0_4 h0_5 h1 => next (v15, v52, v53, h2, h0_0, h0_1, h0_2, h0_3, h0_4, h0_5, h1)) (fun v15 v52 v53 h2 h0_0 h0_1 h0_2 h0_3 h0_4 h0_5 h1 => ex (v15, v52, v53, h2, h0_0, h0_1, h0_2, h0_3, h0_4, h0_5, h1))) (v15, v52, v53, h2, h0_0, h0_1, h0_2, h0_3, h0_4, h0_5, h1) (fun x => k0 x.1 x.2.1 x.2.2.1 x.2.2.2.1 x.2.2.2.2.1 x.2.2.2.2.2.1 x.2.2.2.2.2.2.1 x.2.2.2.2.2.2.2.1 x.2.2.2.2.2.2.2.2.1 x.2.2.2.2.2.2.2.2.2.1 x.2.2.2.2.2.2.2.2.2.2)
noncomputable def lmots_Candidate_l9 {ρ : Type} := shut (lmots_Candidate_L9 (ρ := ρ))
theorem lmots_Candidate_l9_eq {ρ : Type} : lmots_Candidate_l9 (ρ := ρ) = lmots_Candidate_L9 := shut_eq _
noncomputable def lmots_Candidate_raw {ρ : Type} (a0 : Int) (a1 : List Int) (a2 : Int) (a3 : List Int) (a4 : List Int) (k : (List Int) → Int → Option ρ) : Option ρ :=
 lmots_began a0 a1 a2 fun (q0 : Int) (q1 : List Int) (q2 q3 q4 q5 q6 : Int) =>
 br (q6 != (0 : Int)) (k [] q6)
  (lmots_Size a0 fun (q7 : Int) =>
   br ((↑a4.length : Int) != q7) (k [] (1 : Int))
    (br (decide ((4 : Int) ≤ (↑a4.length : Int)))
     (bits_Num (List.drop 0 (List.take (Int.toNat (4 : Int)) a4)) fun (q8 : Int) =>
      br (q8 != IntKind.u64.wrap q5) (k [] (1 : Int))
       (br (decide ((36 : Int) ≤ (↑a4.length : Int)))
        (br (decide ((↑a4.length : Int) ≤ (↑a4.length : Int)))
         (br (decide ((36 : Int) ≤ (↑a4.length : Int)))
          (lmots_leaf_digitsOf q0 q1 q2 q3 q4 q5
           (List.drop 4 (List.take (Int.toNat (36 : Int)) a4)) a3 fun (q9 : List Int) =>
           lmots_Candidate_l9 (List.drop 36 (List.take (↑a4.length : Int).toNat a4))
            (↑q9.length : Int) (0 : Int) [] q0 q1 q2 q3 q4 q5 q9
            fun (q10 : List Int) (q11 q12 : Int) (q13 : List Int) (q14 : Int) (q15 : List Int)
             (q16 q17 q18 q19 : Int) (q20 : List Int) =>
            lmots_leaf_sum q14 q15 q16 q17 q18 q19 (32896 : Int) [q13] fun (q21 : List Int) =>
             k q21 (0 : Int))
          none)
         none)
        none))
     none))
noncomputable def lmots_Candidate {ρ : Type} := shut (lmots_Candidate_raw (ρ := ρ))
theorem lmots_Candidate_eq {ρ : Type} (a0 : Int) (a1 : List Int) (a2 : Int) (a3 : List Int) (a4 : List Int) (k : (List Int) → Int → Option ρ) : lmots_Candidate a0 a1 a2 a3 a4 k = lmots_Candidate_raw a0 a1 a2 a3 a4 k := by unfold lmots_Candidate; rw [shut_eq]
end P
end

section
open Go Go.Abs
set_option linter.unusedVariables false
namespace P
noncomputable def lms_sum_raw {ρ : Type} (a0 : List Int) (a1 : Int) (a2 : Int) (a3 : List (List Int)) (k : (List Int) → Option ρ) : Option ρ :=
 sha_New (1 : Int) fun (q0 : Int) (q1 q2 : List Int) (q3 q4 : Int) =>
 bits_Be a1 (4 : Int) fun (q5 : List Int) =>
  bits_Be a2 (2 : Int) fun (q6 : List Int) =>
   bits_Join [a0, q5, q6] fun (q7 : List Int) =>
    sha_Add q0 q1 q2 q3 q7 fun (q8 : Int) (q9 q10 : List Int) (q11 : Int) =>
     bits_Join a3 fun (q12 : List Int) =>
      sha_Add q8 q9 q10 q11 q12 fun (q13 : Int) (q14 q15 : List Int) (q16 : Int) =>
       sha_End q13 q14 q15 q16 fun (q17 : List Int) => k q17
noncomputable def lms_sum {ρ : Type} := shut (lms_sum_raw (ρ := ρ))
theorem lms_sum_eq {ρ : Type} (a0 : List Int) (a1 : Int) (a2 : Int) (a3 : List (List Int)) (k : (List Int) → Option ρ) : lms_sum a0 a1 a2 a3 k = lms_sum_raw a0 a1 a2 a3 k := by unfold lms_sum; rw [shut_eq]
end P
end

section
open Go Go.Abs
set_option linter.unusedVariables false
namespace P
noncomputable def lms_root_r2_1 {ρ : Type} (v4 : Int) (h1_0 : List Int) (h4 : List Int) (h5_0 : List Int) (h6_0 : List Int) (nx : Int → (List Int) → (List Int) → (List Int) → (List Int) → Option ρ) (k0 : Int → (List Int) → (List Int) → (List Int) → (List Int) → Option ρ) : Option ρ :=
 br (decide (v4 > (1 : Int)))
 (br (decide ((32 : Int) ≤ (↑h6_0.length : Int)))
  (br (v4.tmod (2 : Int) == (1 : Int))
   (lms_sum h1_0 (IntKind.u64.wrap (v4.tdiv (2 : Int))) (33667 : Int)
    [List.drop 0 (List.take (Int.toNat (32 : Int)) h6_0), h5_0] fun (q0 : List Int) =>
    br (decide ((32 : Int) ≤ (↑h6_0.length : Int)))
     (br (decide ((↑h6_0.length : Int) ≤ (↑h6_0.length : Int)))
      (nx (IntKind.u64.wrap (v4.tdiv (2 : Int))) h1_0 h4 q0
       (List.drop 32 (List.take (↑h6_0.length : Int).toNat h6_0)))
      none)
     none)
   (lms_sum h1_0 (IntKind.u64.wrap (v4.tdiv (2 : Int))) (33667 : Int)
    [h5_0, List.drop 0 (List.take (Int.toNat (32 : Int)) h6_0)] fun (q1 : List Int) =>
    br (decide ((32 : Int) ≤ (↑h6_0.length : Int)))
     (br (decide ((↑h6_0.length : Int) ≤ (↑h6_0.length : Int)))
      (nx (IntKind.u64.wrap (v4.tdiv (2 : Int))) h1_0 h4 q1
       (List.drop 32 (List.take (↑h6_0.length : Int).toNat h6_0)))
      none)
     none))
  none)
 (k0 v4 h1_0 h4 h5_0 h6_0)
noncomputable def lms_root_L2_1 {ρ : Type} (v4 : Int) (h1_0 : List Int) (h4 : List Int) (h5_0 : List Int) (h6_0 : List Int) (k0 : Int → (List Int) → (List Int) → (List Int) → (List Int) → Option ρ) : Option ρ :=
 lp (fun (x : Int × (List Int) × (List Int) × (List Int) × (List Int)) next (ex : (Int × (List Int) × (List Int) × (List Int) × (List Int)) → Option ρ) => lms_root_r2_1 x.1 x.2.1 x.2.2.1 x.2.2.2.1 x.2.2.2.2 (fun v4 h1_0 h4 h5_0 h6_0 => next (v4, h1_0, h4, h5_0, h6_0)) (fun v4 h1_0 h4 h5_0 h6_0 => ex (v4, h1_0, h4, h5_0, h6_0))) (v4, h1_0, h4, h5_0, h6_0) (fun x => k0 x.1 x.2.1 x.2.2.1 x.2.2.2.1 x.2.2.2.2)
noncomputable def lms_root_l2_1 {ρ : Type} := shut (lms_root_L2_1 (ρ := ρ))
theorem lms_root_l2_1_eq {ρ : Type} : lms_root_l2_1 (ρ := ρ) = lms_root_L2_1 := shut_eq _
noncomputable def lms_root_raw {ρ : Type} (a0_H : Int) (a0_W : Int) (a1 : List Int) (a2 : List Int) (a3 : List Int) (k : (List Int) → Option ρ) : Option ρ :=
 br (decide ((4 : Int) ≤ (↑a3.length : Int)))
 (bits_Num (List.drop 0 (List.take (Int.toNat (4 : Int)) a3)) fun (q0 : Int) =>
  lmots_Size a0_W fun (q1 : Int) =>
   br (decide ((4 : Int) ≤ IntKind.i64.wrap ((4 : Int) + q1)))
    (br (decide (IntKind.i64.wrap ((4 : Int) + q1) ≤ (↑a3.length : Int)))
     (lmots_Candidate a0_W a1 (IntKind.u32.wrap q0) a2
      (List.drop 4 (List.take (IntKind.i64.wrap ((4 : Int) + q1)).toNat a3))
      fun (q2 : List Int) (q3 : Int) =>
      br (decide (a0_H < (0 : Int))) none
       (lms_sum a1
        (IntKind.u64.wrap
         (IntKind.u64.wrap ((1 : Int) * (2 : Int) ^ min a0_H.toNat 64) +
          IntKind.u64.wrap (IntKind.u32.wrap q0)))
        (33410 : Int) [q2] fun (q4 : List Int) =>
        br (decide ((0 : Int) ≤ IntKind.i64.wrap (IntKind.i64.wrap ((4 : Int) + q1) + (4 : Int))))
         (br (decide (IntKind.i64.wrap (IntKind.i64.wrap ((4 : Int) + q1) + (4 : Int)) ≤ (↑a3.length : Int)))
          (br (decide ((↑a3.length : Int) ≤ (↑a3.length : Int)))
           (br (decide (a0_H < (0 : Int))) none
            (lms_root_l2_1
             (IntKind.u64.wrap
              (IntKind.u64.wrap ((1 : Int) * (2 : Int) ^ min a0_H.toNat 64) +
               IntKind.u64.wrap (IntKind.u32.wrap q0)))
             a1 q4 q4
             (List.drop (IntKind.i64.wrap (IntKind.i64.wrap ((4 : Int) + q1) + (4 : Int))).toNat
              (List.take (↑a3.length : Int).toNat a3))
             fun (q5 : Int) (q6 q7 q8 q9 : List Int) => k q8))
           none)
          none)
         none))
     none)
    none)
 none
noncomputable def lms_root {ρ : Type} := shut (lms_root_raw (ρ := ρ))
theorem lms_root_eq {ρ : Type} (a0_H : Int) (a0_W : Int) (a1 : List Int) (a2 : List Int) (a3 : List Int) (k : (List Int) → Option ρ) : lms_root a0_H a0_W a1 a2 a3 k = lms_root_raw a0_H a0_W a1 a2 a3 k := by unfold lms_root; rw [shut_eq]
end P
end

section
open Go Go.Abs
set_option linter.unusedVariables false
namespace P
noncomputable def lms_Verify_raw {ρ : Type} (a0 : List Int) (a1 : List Int) (a2 : List Int) (k : Int → Option ρ) : Option ρ :=
 br ((↑a0.length : Int) != (56 : Int)) (k (10 : Int))
 (br (decide ((4 : Int) ≤ (↑a0.length : Int)))
  (bits_Num (List.drop 0 (List.take (Int.toNat (4 : Int)) a0)) fun (q0 : Int) =>
   lms_height q0 fun (q1 : Int) =>
    br (q1 == (0 : Int)) (k (10 : Int))
     (br (decide ((8 : Int) ≤ (↑a0.length : Int)))
      (bits_Num (List.drop 4 (List.take (Int.toNat (8 : Int)) a0)) fun (q2 : Int) =>
       lms_digit q2 fun (q3 : Int) =>
        br (q3 == (0 : Int)) (k (10 : Int))
         (lms_Cut a2 fun (q4 : List Int) (q5 q6 : Int) (q7 : List Int) (q8 : Int) =>
          br (q8 != (0 : Int)) (k q8)
           (br (decide ((↑q7.length : Int) > (0 : Int))) (k (1 : Int))
            (lms_head q5 q6 fun (q9 : List Int) =>
             br (decide ((8 : Int) ≤ (↑a0.length : Int)))
              (bits_Same q9 (List.drop 0 (List.take (Int.toNat (8 : Int)) a0))
               fun (q10 : Bool) =>
               br (!q10) (k (1 : Int))
                (br (decide ((4 : Int) ≤ (↑a2.length : Int)))
                 (bits_Num (List.drop 0 (List.take (Int.toNat (4 : Int)) a2))
                  fun (q11 : Int) =>
                  br (decide (q5 < (0 : Int))) none
                   (br (q11.fdiv ((2 : Int) ^ min q5.toNat 64) != (0 : Int)) (k (13 : Int))
                    (br (decide ((24 : Int) ≤ (↑a0.length : Int)))
                     (lms_root q5 q6
                      (List.drop 8 (List.take (Int.toNat (24 : Int)) a0)) a1 a2
                      fun (q12 : List Int) =>
                      br (decide ((24 : Int) ≤ (↑a0.length : Int)))
                       (br (decide ((↑a0.length : Int) ≤ (↑a0.length : Int)))
                        (bits_Same q12
                         (List.drop 24 (List.take (↑a0.length : Int).toNat a0))
                         fun (q13 : Bool) => br (!q13) (k (11 : Int)) (k (0 : Int)))
                        none)
                       none)
                     none)))
                 none))
              none))))
      none))
  none)
noncomputable def lms_Verify {ρ : Type} := shut (lms_Verify_raw (ρ := ρ))
theorem lms_Verify_eq {ρ : Type} (a0 : List Int) (a1 : List Int) (a2 : List Int) (k : Int → Option ρ) : lms_Verify a0 a1 a2 k = lms_Verify_raw a0 a1 a2 k := by unfold lms_Verify; rw [shut_eq]
end P
end

section
open Go Go.Abs
set_option linter.unusedVariables false
namespace P
noncomputable def L15_awake_raw {ρ : Type}  (k : Bool → Option ρ) : Option ρ :=
 lms_Size (5 : Int) (8 : Int) fun (q0 : Int) =>
 br (q0 == (1292 : Int))
  (lms_Verify [] [] [] fun (q1 : Int) =>
   br (q1 == (10 : Int))
    (lms_Fit (6 : Int) (8 : Int) fun (q2 : Bool) =>
     br (!q2) (lms_Fit (5 : Int) (8 : Int) fun (q3 : Bool) => k q3) (k false))
    (k false))
  (k false)
noncomputable def L15_awake {ρ : Type} := shut (L15_awake_raw (ρ := ρ))
theorem L15_awake_eq {ρ : Type}  (k : Bool → Option ρ) : L15_awake  k = L15_awake_raw  k := by unfold L15_awake; rw [shut_eq]
end P
end

section
open Go Go.Abs
set_option linter.unusedVariables false
namespace P
noncomputable def R01_Num_r3 {ρ : Type} (v0 : List Int) (v3 : Int) (v4 : Int) (nx : (List Int) → Int → Int → Option ρ) (k0 : (List Int) → Int → Int → Option ρ) : Option ρ :=
 br (decide (v4 < (↑v0.length : Int)))
 (br (decide ((0 : Int) ≤ v4))
  (br (decide (v4 < (↑v0.length : Int)))
   (nx v0 (IntKind.u64.wrap (IntKind.u64.wrap (v3 * (256 : Int)) + IntKind.u64.wrap (v0.getD v4.toNat (0 : Int))))
    (IntKind.i64.wrap (v4 + (1 : Int))))
   none)
  none)
 (k0 v0 v3 v4)
noncomputable def R01_Num_L3 {ρ : Type} (v0 : List Int) (v3 : Int) (v4 : Int) (k0 : (List Int) → Int → Int → Option ρ) : Option ρ :=
 lp (fun (x : (List Int) × Int × Int) next (ex : ((List Int) × Int × Int) → Option ρ) => R01_Num_r3 x.1 x.2.1 x.2.2 (fun v0 v3 v4 => next (v0, v3, v4)) (fun v0 v3 v4 => ex (v0, v3, v4))) (v0, v3, v4) (fun x => k0 x.1 x.2.1 x.2.2)
noncomputable def R01_Num_l3 {ρ : Type} := shut (R01_Num_L3 (ρ := ρ))
theorem R01_Num_l3_eq {ρ : Type} : R01_Num_l3 (ρ := ρ) = R01_Num_L3 := shut_eq _
noncomputable def R01_Num_raw {ρ : Type} (a0 : List Int) (k : Int → Option ρ) : Option ρ :=
 R01_Num_l3 a0 (0 : Int) (0 : Int) fun (q0 : List Int) (q1 q2 : Int) => k q1
noncomputable def R01_Num {ρ : Type} := shut (R01_Num_raw (ρ := ρ))
theorem R01_Num_eq {ρ : Type} (a0 : List Int) (k : Int → Option ρ) : R01_Num a0 k = R01_Num_raw a0 k := by unfold R01_Num; rw [shut_eq]
end P
end

section
open Go Go.Abs
set_option linter.unusedVariables false
namespace P
noncomputable def R14_Kind_raw {ρ : Type} (a0 : Int) (k : Int → Int → Int → Option ρ) : Option ρ :=
 br (a0 == (1 : Int)) (k (265 : Int) (7 : Int) (1 : Int))
 (br (a0 == (2 : Int)) (k (133 : Int) (6 : Int) (2 : Int))
  (br (a0 == (4 : Int)) (k (67 : Int) (4 : Int) (3 : Int))
   (br (a0 == (8 : Int)) (k (34 : Int) (0 : Int) (4 : Int)) (k (0 : Int) (0 : Int) (0 : Int)))))
noncomputable def R14_Kind {ρ : Type} := shut (R14_Kind_raw (ρ := ρ))
theorem R14_Kind_eq {ρ : Type} (a0 : Int) (k : Int → Int → Int → Option ρ) : R14_Kind a0 k = R14_Kind_raw a0 k := by unfold R14_Kind; rw [shut_eq]
end P
end

section
open Go Go.Abs
set_option linter.unusedVariables false
namespace P
noncomputable def R14_Size_raw {ρ : Type} (a0 : Int) (k : Int → Option ρ) : Option ρ :=
 R14_Kind a0 fun (q0 q1 q2 : Int) =>
 br (q0 == (0 : Int)) (k (0 : Int)) (k (IntKind.i64.wrap ((36 : Int) + IntKind.i64.wrap ((32 : Int) * q0))))
noncomputable def R14_Size {ρ : Type} := shut (R14_Size_raw (ρ := ρ))
theorem R14_Size_eq {ρ : Type} (a0 : Int) (k : Int → Option ρ) : R14_Size a0 k = R14_Size_raw a0 k := by unfold R14_Size; rw [shut_eq]
end P
end

section
open Go Go.Abs
set_option linter.unusedVariables false
namespace P
noncomputable def R15_digit_r2 {ρ : Type} (v0 : Int) (v3 : Int) (nx : Int → Int → Option ρ) (k0 : Int → Int → Option ρ) (k1 : Int → Option ρ) : Option ρ :=
 br (decide (v3 ≤ (8 : Int)))
 (R14_Kind v3 fun (q0 q1 q2 : Int) =>
  br (q2 == v0) (br (q2 != (0 : Int)) (k1 v3) (nx v0 (IntKind.i64.wrap (v3 + (1 : Int)))))
   (nx v0 (IntKind.i64.wrap (v3 + (1 : Int)))))
 (k0 v0 v3)
noncomputable def R15_digit_L2 {ρ : Type} (v0 : Int) (v3 : Int) (k0 : Int → Int → Option ρ) (k1 : Int → Option ρ) : Option ρ :=
 lp (fun (x : Int × Int) next (ex : (Int × Int) ⊕ (Int) → Option ρ) => R15_digit_r2 x.1 x.2 (fun v0 v3 => next (v0, v3)) (fun v0 v3 => ex (.inl (v0, v3))) (fun v2 => ex (.inr v2))) (v0, v3) (Sum.elim (fun x => k0 x.1 x.2) (fun x => k1 x))
noncomputable def R15_digit_l2 {ρ : Type} := shut (R15_digit_L2 (ρ := ρ))
theorem R15_digit_l2_eq {ρ : Type} : R15_digit_l2 (ρ := ρ) = R15_digit_L2 := shut_eq _
noncomputable def R15_digit_raw {ρ : Type} (a0 : Int) (k : Int → Option ρ) : Option ρ :=
 R15_digit_l2 a0 (1 : Int) (fun (q0 q1 : Int) => k (0 : Int)) fun (q2 : Int) => k q2
noncomputable def R15_digit {ρ : Type} := shut (R15_digit_raw (ρ := ρ))
theorem R15_digit_eq {ρ : Type} (a0 : Int) (k : Int → Option ρ) : R15_digit a0 k = R15_digit_raw a0 k := by unfold R15_digit; rw [shut_eq]
end P
end

section
open Go Go.Abs
set_option linter.unusedVariables false
namespace P
noncomputable def R15_Code_raw {ρ : Type} (a0 : Int) (k : Int → Option ρ) : Option ρ :=
 br (decide (a0 ≥ (1 : Int)))
 (br (decide (a0 ≤ (4 : Int))) (k (IntKind.u64.wrap ((3758096384 : Int) + IntKind.u64.wrap a0)))
  (br (decide (a0 ≥ (5 : Int)))
   (br (decide (a0 ≤ (25 : Int)))
    (br (a0.tmod (5 : Int) == (0 : Int))
     (k (IntKind.u64.wrap (IntKind.i64.wrap ((4 : Int) + IntKind.i64.wrap (a0.tdiv (5 : Int)))))) (k (0 : Int)))
    (k (0 : Int)))
   (k (0 : Int))))
 (br (decide (a0 ≥ (5 : Int)))
  (br (decide (a0 ≤ (25 : Int)))
   (br (a0.tmod (5 : Int) == (0 : Int))
    (k (IntKind.u64.wrap (IntKind.i64.wrap ((4 : Int) + IntKind.i64.wrap (a0.tdiv (5 : Int)))))) (k (0 : Int)))
   (k (0 : Int)))
  (k (0 : Int)))
noncomputable def R15_Code {ρ : Type} := shut (R15_Code_raw (ρ := ρ))
theorem R15_Code_eq {ρ : Type} (a0 : Int) (k : Int → Option ρ) : R15_Code a0 k = R15_Code_raw a0 k := by unfold R15_Code; rw [shut_eq]
end P
end

section
open Go Go.Abs
set_option linter.unusedVariables false
namespace P
noncomputable def R15_height_r2 {ρ : Type} (v0 : Int) (v3 : Int) (nx : Int → Int → Option ρ) (k0 : Int → Int → Option ρ) (k1 : Int → Option ρ) : Option ρ :=
 br (decide (v3 ≤ (25 : Int)))
 (R15_Code v3 fun (q0 : Int) =>
  br (q0 == v0) (br (v0 != (0 : Int)) (k1 v3) (nx v0 (IntKind.i64.wrap (v3 + (1 : Int)))))
   (nx v0 (IntKind.i64.wrap (v3 + (1 : Int)))))
 (k0 v0 v3)
noncomputable def R15_height_L2 {ρ : Type} (v0 : Int) (v3 : Int) (k0 : Int → Int → Option ρ) (k1 : Int → Option ρ) : Option ρ :=
 lp (fun (x : Int × Int) next (ex : (Int × Int) ⊕ (Int) → Option ρ) => R15_height_r2 x.1 x.2 (fun v0 v3 => next (v0, v3)) (fun v0 v3 => ex (.inl (v0, v3))) (fun v2 => ex (.inr v2))) (v0, v3) (Sum.elim (fun x => k0 x.1 x.2) (fun x => k1 x))
noncomputable def R15_height_l2 {ρ : Type} := shut (R15_height_L2 (ρ := ρ))
theorem R15_height_l2_eq {ρ : Type} : R15_height_l2 (ρ := ρ) = R15_height_L2 := shut_eq _
noncomputable def R15_height_raw {ρ : Type} (a0 : Int) (k : Int → Option ρ) : Option ρ :=
 R15_height_l2 a0 (1 : Int) (fun (q0 q1 : Int) => k (0 : Int)) fun (q2 : Int) => k q2
noncomputable def R15_height {ρ : Type} := shut (R15_height_raw (ρ := ρ))
theorem R15_height_eq {ρ : Type} (a0 : Int) (k : Int → Option ρ) : R15_height a0 k = R15_height_raw a0 k := by unfold R15_height; rw [shut_eq]
end P
end

section
open Go Go.Abs
set_option linter.unusedVariables false
namespace P
noncomputable def R15_Cut_raw {ρ : Type} (a0 : List Int) (k : (List Int) → Int → Int → (List Int) → Int → Option ρ) : Option ρ :=
 br (decide ((↑a0.length : Int) < (8 : Int))) (k [] (0 : Int) (0 : Int) [] (1 : Int))
 (br (decide ((8 : Int) ≤ (↑a0.length : Int)))
  (R01_Num (List.drop 4 (List.take (Int.toNat (8 : Int)) a0)) fun (q0 : Int) =>
   R15_digit q0 fun (q1 : Int) =>
    br (q1 == (0 : Int)) (k [] (0 : Int) (0 : Int) [] (9 : Int))
     (R14_Size q1 fun (q2 : Int) =>
      br (decide ((↑a0.length : Int) < IntKind.i64.wrap (IntKind.i64.wrap ((4 : Int) + q2) + (4 : Int))))
       (k [] (0 : Int) (0 : Int) [] (1 : Int))
       (br (decide ((0 : Int) ≤ IntKind.i64.wrap ((4 : Int) + q2)))
        (br
         (decide
          (IntKind.i64.wrap ((4 : Int) + q2) ≤
           IntKind.i64.wrap (IntKind.i64.wrap ((4 : Int) + q2) + (4 : Int))))
         (br (decide (IntKind.i64.wrap (IntKind.i64.wrap ((4 : Int) + q2) + (4 : Int)) ≤ (↑a0.length : Int)))
          (R01_Num
           (List.drop (IntKind.i64.wrap ((4 : Int) + q2)).toNat
            (List.take (IntKind.i64.wrap (IntKind.i64.wrap ((4 : Int) + q2) + (4 : Int))).toNat a0))
           fun (q3 : Int) =>
           R15_height q3 fun (q4 : Int) =>
            br (q4 == (0 : Int)) (k [] (0 : Int) (0 : Int) [] (9 : Int))
             (br
              (decide
               ((↑a0.length : Int) <
                IntKind.i64.wrap
                 (IntKind.i64.wrap (IntKind.i64.wrap ((4 : Int) + q2) + (4 : Int)) +
                  IntKind.i64.wrap ((32 : Int) * q4))))
              (k [] (0 : Int) (0 : Int) [] (1 : Int))
              (br
               (decide
                ((0 : Int) ≤
                 IntKind.i64.wrap
                  (IntKind.i64.wrap (IntKind.i64.wrap ((4 : Int) + q2) + (4 : Int)) +
                   IntKind.i64.wrap ((32 : Int) * q4))))
               (br
                (decide
                 (IntKind.i64.wrap
                   (IntKind.i64.wrap (IntKind.i64.wrap ((4 : Int) + q2) + (4 : Int)) +
                    IntKind.i64.wrap ((32 : Int) * q4)) ≤
                  (↑a0.length : Int)))
                (br
                 (decide
                  ((0 : Int) ≤
                   IntKind.i64.wrap
                    (IntKind.i64.wrap (IntKind.i64.wrap ((4 : Int) + q2) + (4 : Int)) +
                     IntKind.i64.wrap ((32 : Int) * q4))))
                 (br
                  (decide
                   (IntKind.i64.wrap
                     (IntKind.i64.wrap (IntKind.i64.wrap ((4 : Int) + q2) + (4 : Int)) +
                      IntKind.i64.wrap ((32 : Int) * q4)) ≤
                    (↑a0.length : Int)))
                  (br (decide ((↑a0.length : Int) ≤ (↑a0.length : Int)))
                   (k
                    (List.drop 0
                     (List.take
                      (IntKind.i64.wrap
                        (IntKind.i64.wrap (IntKind.i64.wrap ((4 : Int) + q2) + (4 : Int)) +
                         IntKind.i64.wrap ((32 : Int) * q4))).toNat
                      a0))
                    q4 q1
                    (List.drop
                     (IntKind.i64.wrap
                       (IntKind.i64.wrap (IntKind.i64.wrap ((4 : Int) + q2) + (4 : Int)) +
                        IntKind.i64.wrap ((32 : Int) * q4))).toNat
                     (List.take (↑a0.length : Int).toNat a0))
                    (0 : Int))
                   none)
                  none)
                 none)
                none)
               none)))
          none)
         none)
        none)))
  none)
noncomputable def R15_Cut {ρ : Type} := shut (R15_Cut_raw (ρ := ρ))
theorem R15_Cut_eq {ρ : Type} (a0 : List Int) (k : (List Int) → Int → Int → (List Int) → Int → Option ρ) : R15_Cut a0 k = R15_Cut_raw a0 k := by unfold R15_Cut; rw [shut_eq]
end P
end

section
open Go Go.Abs
set_option linter.unusedVariables false
namespace P
noncomputable def R01_Be_r5 {ρ : Type} (v0 : Int) (v6 : Int) (h0 : List Int) (nx : Int → Int → (List Int) → Option ρ) (k0 : Int → Int → (List Int) → Option ρ) : Option ρ :=
 br (decide (v6 ≥ (0 : Int)))
 (br (decide ((0 : Int) ≤ v6))
  (br (decide (v6 < (↑h0.length : Int)))
   (nx (v0.fdiv ((2 : Int) ^ 8)) (IntKind.i64.wrap (v6 - (1 : Int)))
    (h0.set v6.toNat (IntKind.u8.wrap (bits BinOp.and IntKind.u64 v0 (255 : Int)))))
   none)
  none)
 (k0 v0 v6 h0)
noncomputable def R01_Be_L5 {ρ : Type} (v0 : Int) (v6 : Int) (h0 : List Int) (k0 : Int → Int → (List Int) → Option ρ) : Option ρ :=
 lp (fun (x : Int × Int × (List Int)) next (ex : (Int × Int × (List Int)) → Option ρ) => R01_Be_r5 x.1 x.2.1 x.2.2 (fun v0 v6 h0 => next (v0, v6, h0)) (fun v0 v6 h0 => ex (v0, v6, h0))) (v0, v6, h0) (fun x => k0 x.1 x.2.1 x.2.2)
noncomputable def R01_Be_l5 {ρ : Type} := shut (R01_Be_L5 (ρ := ρ))
theorem R01_Be_l5_eq {ρ : Type} : R01_Be_l5 (ρ := ρ) = R01_Be_L5 := shut_eq _
noncomputable def R01_Be_raw {ρ : Type} (a0 : Int) (a1 : Int) (k : (List Int) → Option ρ) : Option ρ :=
 br (decide (a1 < (0 : Int))) (k [])
 (br (decide (a1 > (65536 : Int))) (k [])
  (br (decide ((0 : Int) ≤ a1))
   (br (decide (a1 ≤ a1))
    (br (decide (a1 * (↑1 : Int) ≤ (↑140737488355328 : Int)))
     (R01_Be_l5 a0 (IntKind.i64.wrap (a1 - (1 : Int))) (List.replicate a1.toNat (0 : Int))
      fun (q0 q1 : Int) (q2 : List Int) => k q2)
     none)
    none)
   none))
noncomputable def R01_Be {ρ : Type} := shut (R01_Be_raw (ρ := ρ))
theorem R01_Be_eq {ρ : Type} (a0 : Int) (a1 : Int) (k : (List Int) → Option ρ) : R01_Be a0 a1 k = R01_Be_raw a0 a1 k := by unfold R01_Be; rw [shut_eq]
end P
end

section
open Go Go.Abs
set_option linter.unusedVariables false
namespace P
noncomputable def R07_New_raw {ρ : Type} (a0 : Int) (k : Int → (List Int) → (List Int) → Int → Int → Option ρ) : Option ρ :=
 br (a0 == (1 : Int))
 (k a0
  [(1779033703 : Int), (3144134277 : Int), (1013904242 : Int), (2773480762 : Int), (1359893119 : Int),
   (2600822924 : Int), (528734635 : Int), (1541459225 : Int)]
  [] (0 : Int) (0 : Int))
 (br (a0 == (2 : Int))
  (k a0
   [(14680500436340154072 : Int), (7105036623409894663 : Int), (10473403895298186519 : Int),
    (1526699215303891257 : Int), (7436329637833083697 : Int), (10282925794625328401 : Int),
    (15784041429090275239 : Int), (5167115440072839076 : Int)]
   [] (0 : Int) (0 : Int))
  (br (a0 == (3 : Int))
   (k a0
    [(7640891576956012808 : Int), (13503953896175478587 : Int), (4354685564936845355 : Int),
     (11912009170470909681 : Int), (5840696475078001361 : Int), (11170449401992604703 : Int),
     (2270897969802886507 : Int), (6620516959819538809 : Int)]
    [] (0 : Int) (0 : Int))
   (k (0 : Int) [(0 : Int), (0 : Int), (0 : Int), (0 : Int), (0 : Int), (0 : Int), (0 : Int), (0 : Int)] [] (0 : Int)
    (9 : Int))))
noncomputable def R07_New {ρ : Type} := shut (R07_New_raw (ρ := ρ))
theorem R07_New_eq {ρ : Type} (a0 : Int) (k : Int → (List Int) → (List Int) → Int → Int → Option ρ) : R07_New a0 k = R07_New_raw a0 k := by unfold R07_New; rw [shut_eq]
end P
end

section
open Go Go.Abs
set_option linter.unusedVariables false
namespace P
noncomputable def R01_Join_r3 {ρ : Type} (v0 : List (List Int)) (v4 : Int) (h0 : List Int) (nx : (List (List Int)) → Int → (List Int) → Option ρ) (k0 : (List (List Int)) → Int → (List Int) → Option ρ) : Option ρ :=
 br (decide (v4 < (↑v0.length : Int)))
 (br (decide ((0 : Int) ≤ v4))
  (br (decide (v4 < (↑v0.length : Int)))
   (br
    (decide
     ((h0.length + (v0.getD v4.toNat []).length) *
       1 ≤
      140737488355328))
    (nx v0 (IntKind.i64.wrap (v4 + (1 : Int))) (h0 ++ v0.getD v4.toNat [])) none)
   none)
  none)
 (k0 v0 v4 h0)
noncomputable def R01_Join_L3 {ρ : Type} (v0 : List (List Int)) (v4 : Int) (h0 : List Int) (k0 : (List (List Int)) → Int → (List Int) → Option ρ) : Option ρ :=
 lp (fun (x : (List (List Int)) × Int × (List Int)) next (ex : ((List (List Int)) × Int × (List Int)) → Option ρ) => R01_Join_r3 x.1 x.2.1 x.2.2 (fun v0 v4 h0 => next (v0, v4, h0)) (fun v0 v4 h0 => ex (v0, v4, h0))) (v0, v4, h0) (fun x => k0 x.1 x.2.1 x.2.2)
noncomputable def R01_Join_l3 {ρ : Type} := shut (R01_Join_L3 (ρ := ρ))
theorem R01_Join_l3_eq {ρ : Type} : R01_Join_l3 (ρ := ρ) = R01_Join_L3 := shut_eq _
noncomputable def R01_Join_raw {ρ : Type} (a0 : List (List Int)) (k : (List Int) → Option ρ) : Option ρ :=
 R01_Join_l3 a0 (0 : Int) [] fun (q0 : List (List Int)) (q1 : Int) (q2 : List Int) => k q2
noncomputable def R01_Join {ρ : Type} := shut (R01_Join_raw (ρ := ρ))
theorem R01_Join_eq {ρ : Type} (a0 : List (List Int)) (k : (List Int) → Option ρ) : R01_Join a0 k = R01_Join_raw a0 k := by unfold R01_Join; rw [shut_eq]
end P
end

section
open Go Go.Abs
set_option linter.unusedVariables false
namespace P
noncomputable def R07_Block_raw {ρ : Type} (a0 : Int) (k : Int → Option ρ) : Option ρ :=
 br (a0 == (1 : Int)) (k (64 : Int)) (k (128 : Int))
noncomputable def R07_Block {ρ : Type} := shut (R07_Block_raw (ρ := ρ))
theorem R07_Block_eq {ρ : Type} (a0 : Int) (k : Int → Option ρ) : R07_Block a0 k = R07_Block_raw a0 k := by unfold R07_Block; rw [shut_eq]
end P
end

section
open Go Go.Abs
set_option linter.unusedVariables false
namespace P
noncomputable def R07_roots256_raw {ρ : Type}  (k : (List Int) → Option ρ) : Option ρ :=
 k
 [(1116352408 : Int), (1899447441 : Int), (3049323471 : Int), (3921009573 : Int), (961987163 : Int),
  (1508970993 : Int), (2453635748 : Int), (2870763221 : Int), (3624381080 : Int), (310598401 : Int),
  (607225278 : Int), (1426881987 : Int), (1925078388 : Int), (2162078206 : Int), (2614888103 : Int),
  (3248222580 : Int), (3835390401 : Int), (4022224774 : Int), (264347078 : Int), (604807628 : Int), (770255983 : Int),
  (1249150122 : Int), (1555081692 : Int), (1996064986 : Int), (2554220882 : Int), (2821834349 : Int),
  (2952996808 : Int), (3210313671 : Int), (3336571891 : Int), (3584528711 : Int), (113926993 : Int),
  (338241895 : Int), (666307205 : Int), (773529912 : Int), (1294757372 : Int), (1396182291 : Int), (1695183700 : Int),
  (1986661051 : Int), (2177026350 : Int), (2456956037 : Int), (2730485921 : Int), (2820302411 : Int),
  (3259730800 : Int), (3345764771 : Int), (3516065817 : Int), (3600352804 : Int), (4094571909 : Int),
  (275423344 : Int), (430227734 : Int), (506948616 : Int), (659060556 : Int), (883997877 : Int), (958139571 : Int),
  (1322822218 : Int), (1537002063 : Int), (1747873779 : Int), (1955562222 : Int), (2024104815 : Int),
  (2227730452 : Int), (2361852424 : Int), (2428436474 : Int), (2756734187 : Int), (3204031479 : Int),
  (3329325298 : Int)]
noncomputable def R07_roots256 {ρ : Type} := shut (R07_roots256_raw (ρ := ρ))
theorem R07_roots256_eq {ρ : Type}  (k : (List Int) → Option ρ) : R07_roots256  k = R07_roots256_raw  k := by unfold R07_roots256; rw [shut_eq]
end P
end

section
open Go Go.Abs
set_option linter.unusedVariables false
namespace P
noncomputable def R07_roots512_raw {ρ : Type}  (k : (List Int) → Option ρ) : Option ρ :=
 k
 [(4794697086780616226 : Int), (8158064640168781261 : Int), (13096744586834688815 : Int), (16840607885511220156 : Int),
  (4131703408338449720 : Int), (6480981068601479193 : Int), (10538285296894168987 : Int),
  (12329834152419229976 : Int), (15566598209576043074 : Int), (1334009975649890238 : Int),
  (2608012711638119052 : Int), (6128411473006802146 : Int), (8268148722764581231 : Int), (9286055187155687089 : Int),
  (11230858885718282805 : Int), (13951009754708518548 : Int), (16472876342353939154 : Int),
  (17275323862435702243 : Int), (1135362057144423861 : Int), (2597628984639134821 : Int), (3308224258029322869 : Int),
  (5365058923640841347 : Int), (6679025012923562964 : Int), (8573033837759648693 : Int), (10970295158949994411 : Int),
  (12119686244451234320 : Int), (12683024718118986047 : Int), (13788192230050041572 : Int),
  (14330467153632333762 : Int), (15395433587784984357 : Int), (489312712824947311 : Int), (1452737877330783856 : Int),
  (2861767655752347644 : Int), (3322285676063803686 : Int), (5560940570517711597 : Int), (5996557281743188959 : Int),
  (7280758554555802590 : Int), (8532644243296465576 : Int), (9350256976987008742 : Int), (10552545826968843579 : Int),
  (11727347734174303076 : Int), (12113106623233404929 : Int), (14000437183269869457 : Int),
  (14369950271660146224 : Int), (15101387698204529176 : Int), (15463397548674623760 : Int),
  (17586052441742319658 : Int), (1182934255886127544 : Int), (1847814050463011016 : Int), (2177327727835720531 : Int),
  (2830643537854262169 : Int), (3796741975233480872 : Int), (4115178125766777443 : Int), (5681478168544905931 : Int),
  (6601373596472566643 : Int), (7507060721942968483 : Int), (8399075790359081724 : Int), (8693463985226723168 : Int),
  (9568029438360202098 : Int), (10144078919501101548 : Int), (10430055236837252648 : Int),
  (11840083180663258601 : Int), (13761210420658862357 : Int), (14299343276471374635 : Int),
  (14566680578165727644 : Int), (15097957966210449927 : Int), (16922976911328602910 : Int),
  (17689382322260857208 : Int), (500013540394364858 : Int), (748580250866718886 : Int), (1242879168328830382 : Int),
  (1977374033974150939 : Int), (2944078676154940804 : Int), (3659926193048069267 : Int), (4368137639120453308 : Int),
  (4836135668995329356 : Int), (5532061633213252278 : Int), (6448918945643986474 : Int), (6902733635092675308 : Int),
  (7801388544844847127 : Int)]
noncomputable def R07_roots512 {ρ : Type} := shut (R07_roots512_raw (ρ := ρ))
theorem R07_roots512_eq {ρ : Type}  (k : (List Int) → Option ρ) : R07_roots512  k = R07_roots512_raw  k := by unfold R07_roots512; rw [shut_eq]
end P
end

section
open Go Go.Abs
set_option linter.unusedVariables false
namespace P
noncomputable def R07_right_raw {ρ : Type} (a0 : Int) (a1 : Int) (a2 : Bool) (k : Int → Option ρ) : Option ρ :=
 br a2
 (br (decide (a1 < (0 : Int))) none
  (br (decide (IntKind.i64.wrap ((64 : Int) - a1) < (0 : Int))) none
   (k
    (bits BinOp.or IntKind.u64 (a0.fdiv ((2 : Int) ^ min a1.toNat 64))
     (IntKind.u64.wrap (a0 * (2 : Int) ^ min (IntKind.i64.wrap ((64 : Int) - a1)).toNat 64))))))
 (br (decide (a1 < (0 : Int))) none
  (br (decide (IntKind.i64.wrap ((32 : Int) - a1) < (0 : Int))) none
   (k
    (bits BinOp.or IntKind.u64 (a0.fdiv ((2 : Int) ^ min a1.toNat 64))
     (bits BinOp.and IntKind.u64
      (IntKind.u64.wrap (a0 * (2 : Int) ^ min (IntKind.i64.wrap ((32 : Int) - a1)).toNat 64))
      (4294967295 : Int))))))
noncomputable def R07_right {ρ : Type} := shut (R07_right_raw (ρ := ρ))
theorem R07_right_eq {ρ : Type} (a0 : Int) (a1 : Int) (a2 : Bool) (k : Int → Option ρ) : R07_right a0 a1 a2 k = R07_right_raw a0 a1 a2 k := by unfold R07_right; rw [shut_eq]
end P
end

section
open Go Go.Abs
set_option linter.unusedVariables false
namespace P
noncomputable def R07_mix_raw {ρ : Type} (a0 : Int) (a1 : Int) (a2 : Int) (a3 : Int) (a4 : Bool) (a5 : Bool) (k : Int → Option ρ) : Option ρ :=
 br (decide (a3 < (0 : Int))) none
 (br (!a4)
  (R07_right a0 a3 a5 fun (q0 : Int) =>
   R07_right a0 a1 a5 fun (q1 : Int) =>
    R07_right a0 a2 a5 fun (q2 : Int) => k (bits BinOp.xor IntKind.u64 (bits BinOp.xor IntKind.u64 q1 q2) q0))
  (R07_right a0 a1 a5 fun (q3 : Int) =>
   R07_right a0 a2 a5 fun (q4 : Int) =>
    k
     (bits BinOp.xor IntKind.u64 (bits BinOp.xor IntKind.u64 q3 q4)
      (a0.fdiv ((2 : Int) ^ min a3.toNat 64)))))
noncomputable def R07_mix {ρ : Type} := shut (R07_mix_raw (ρ := ρ))
theorem R07_mix_eq {ρ : Type} (a0 : Int) (a1 : Int) (a2 : Int) (a3 : Int) (a4 : Bool) (a5 : Bool) (k : Int → Option ρ) : R07_mix a0 a1 a2 a3 a4 a5 k = R07_mix_raw a0 a1 a2 a3 a4 a5 k := by unfold R07_mix; rw [shut_eq]
end P
end

section
open Go Go.Abs
set_option linter.unusedVariables false
namespace P
noncomputable def R07_words_r6 {ρ : Type} (v0 : List Int) (v1 : Bool) (v2 : Int) (v3 : Int) (v9 : Int) (v11 : Int) (h0 : List Int) (nx : (List Int) → Bool → Int → Int → Int → Int → (List Int) → Option ρ) (k0 : (List Int) → Bool → Int → Int → Int → Int → (List Int) → Option ρ) : Option ρ :=
 br (decide (v11 < v2))
 (br (decide (v11 < (16 : Int)))
  (br (decide ((0 : Int) ≤ IntKind.i64.wrap (v11 * v9)))
   (br (decide (IntKind.i64.wrap (v11 * v9) ≤ IntKind.i64.wrap (IntKind.i64.wrap (v11 * v9) + v9)))
    (br (decide (IntKind.i64.wrap (IntKind.i64.wrap (v11 * v9) + v9) ≤ (↑v0.length : Int)))
     (R01_Num
      (List.drop (IntKind.i64.wrap (v11 * v9)).toNat
       (List.take (IntKind.i64.wrap (IntKind.i64.wrap (v11 * v9) + v9)).toNat v0))
      fun (q0 : Int) =>
      br
       (decide
        ((h0.length + 1) *
          8 ≤
         140737488355328))
       (nx v0 v1 v2 v3 v9 (IntKind.i64.wrap (v11 + (1 : Int))) (h0 ++ [q0])) none)
     none)
    none)
   none)
  (br (decide ((0 : Int) ≤ IntKind.i64.wrap (v11 - (15 : Int))))
   (br (decide (IntKind.i64.wrap (v11 - (15 : Int)) < (↑h0.length : Int)))
    (R07_mix (h0.getD (IntKind.i64.wrap (v11 - (15 : Int))).toNat (0 : Int)) (7 : Int) (18 : Int) (3 : Int) true
     false fun (q1 : Int) =>
     br (decide ((0 : Int) ≤ IntKind.i64.wrap (v11 - (2 : Int))))
      (br (decide (IntKind.i64.wrap (v11 - (2 : Int)) < (↑h0.length : Int)))
       (R07_mix (h0.getD (IntKind.i64.wrap (v11 - (2 : Int))).toNat (0 : Int)) (17 : Int) (19 : Int) (10 : Int)
        true false fun (q2 : Int) =>
        br v1
         (br (decide ((0 : Int) ≤ IntKind.i64.wrap (v11 - (15 : Int))))
          (br (decide (IntKind.i64.wrap (v11 - (15 : Int)) < (↑h0.length : Int)))
           (R07_mix (h0.getD (IntKind.i64.wrap (v11 - (15 : Int))).toNat (0 : Int)) (1 : Int) (8 : Int)
            (7 : Int) true true fun (q3 : Int) =>
            br (decide ((0 : Int) ≤ IntKind.i64.wrap (v11 - (2 : Int))))
             (br (decide (IntKind.i64.wrap (v11 - (2 : Int)) < (↑h0.length : Int)))
              (R07_mix (h0.getD (IntKind.i64.wrap (v11 - (2 : Int))).toNat (0 : Int)) (19 : Int)
               (61 : Int) (6 : Int) true true fun (q4 : Int) =>
               br (decide ((0 : Int) ≤ IntKind.i64.wrap (v11 - (7 : Int))))
                (br (decide (IntKind.i64.wrap (v11 - (7 : Int)) < (↑h0.length : Int)))
                 (br (decide ((0 : Int) ≤ IntKind.i64.wrap (v11 - (16 : Int))))
                  (br (decide (IntKind.i64.wrap (v11 - (16 : Int)) < (↑h0.length : Int)))
                   (br
                    (decide
                     ((h0.length + 1) *
                       8 ≤
                      140737488355328))
                    (nx v0 v1 v2 v3 v9 (IntKind.i64.wrap (v11 + (1 : Int)))
                     (h0 ++
                      [bits BinOp.and IntKind.u64
                        (IntKind.u64.wrap
                         (IntKind.u64.wrap
                           (IntKind.u64.wrap
                             (q4 +
                              h0.getD (IntKind.i64.wrap (v11 - (7 : Int))).toNat
                               (0 : Int)) +
                            q3) +
                          h0.getD (IntKind.i64.wrap (v11 - (16 : Int))).toNat (0 : Int)))
                        v3]))
                    none)
                   none)
                  none)
                 none)
                none)
              none)
             none)
           none)
          none)
         (br (decide ((0 : Int) ≤ IntKind.i64.wrap (v11 - (7 : Int))))
          (br (decide (IntKind.i64.wrap (v11 - (7 : Int)) < (↑h0.length : Int)))
           (br (decide ((0 : Int) ≤ IntKind.i64.wrap (v11 - (16 : Int))))
            (br (decide (IntKind.i64.wrap (v11 - (16 : Int)) < (↑h0.length : Int)))
             (br
              (decide
               ((h0.length + 1) *
                 8 ≤
                140737488355328))
              (nx v0 v1 v2 v3 v9 (IntKind.i64.wrap (v11 + (1 : Int)))
               (h0 ++
                [bits BinOp.and IntKind.u64
                  (IntKind.u64.wrap
                   (IntKind.u64.wrap
                     (IntKind.u64.wrap
                       (q2 + h0.getD (IntKind.i64.wrap (v11 - (7 : Int))).toNat (0 : Int)) +
                      q1) +
                    h0.getD (IntKind.i64.wrap (v11 - (16 : Int))).toNat (0 : Int)))
                  v3]))
              none)
             none)
            none)
           none)
          none))
       none)
      none)
    none)
   none))
 (k0 v0 v1 v2 v3 v9 v11 h0)
noncomputable def R07_words_L6 {ρ : Type} (v0 : List Int) (v1 : Bool) (v2 : Int) (v3 : Int) (v9 : Int) (v11 : Int) (h0 : List Int) (k0 : (List Int) → Bool → Int → Int → Int → Int → (List Int) → Option ρ) : Option ρ :=
 lp (fun (x : (List Int) × Bool × Int × Int × Int × Int × (List Int)) next (ex : ((List Int) × Bool × Int × Int × Int × Int × (List Int)) → Option ρ) => R07_words_r6 x.1 x.2.1 x.2.2.1 x.2.2.2.1 x.2.2.2.2.1 x.2.2.2.2.2.1 x.2.2.2.2.2.2 (fun v0 v1 v2 v3 v9 v11 h0 => next (v0, v1, v2, v3, v9, v11, h0)) (fun v0 v1 v2 v3 v9 v11 h0 => ex (v0, v1, v2, v3, v9, v11, h0))) (v0, v1, v2, v3, v9, v11, h0) (fun x => k0 x.1 x.2.1 x.2.2.1 x.2.2.2.1 x.2.2.2.2.1 x.2.2.2.2.2.1 x.2.2.2.2.2.2)
noncomputable def R07_words_l6 {ρ : Type} := shut (R07_words_L6 (ρ := ρ))
theorem R07_words_l6_eq {ρ : Type} : R07_words_l6 (ρ := ρ) = R07_words_L6 := shut_eq _
noncomputable def R07_words_raw {ρ : Type} (a0 : List Int) (a1 : Bool) (a2 : Int) (a3 : Int) (k : (List Int) → Option ρ) : Option ρ :=
 br a1
 (R07_words_l6 a0 a1 a2 a3 (8 : Int) (0 : Int) []
  fun (q0 : List Int) (q1 : Bool) (q2 q3 q4 q5 : Int) (q6 : List Int) => k q6)
 (R07_words_l6 a0 a1 a2 a3 (4 : Int) (0 : Int) []
  fun (q7 : List Int) (q8 : Bool) (q9 q10 q11 q12 : Int) (q13 : List Int) => k q13)
noncomputable def R07_words {ρ : Type} := shut (R07_words_raw (ρ := ρ))
theorem R07_words_eq {ρ : Type} (a0 : List Int) (a1 : Bool) (a2 : Int) (a3 : Int) (k : (List Int) → Option ρ) : R07_words a0 a1 a2 a3 k = R07_words_raw a0 a1 a2 a3 k := by unfold R07_words; rw [shut_eq]
end P
end

section
open Go Go.Abs
set_option linter.unusedVariables false
namespace P
noncomputable def R07_block_r11 {ρ : Type} (v2 : Bool) (v7 : Int) (v8 : Int) (v13 : Int) (h0_0 : List Int) (h1_0 : List Int) (h2_0 : List Int) (h3_0 : List Int) (h4 : List Int) (h5_0 : List Int) (nx : Bool → Int → Int → Int → (List Int) → (List Int) → (List Int) → (List Int) → (List Int) → (List Int) → Option ρ) (k0 : Bool → Int → Int → Int → (List Int) → (List Int) → (List Int) → (List Int) → (List Int) → (List Int) → Option ρ) : Option ρ :=
 br (decide (v13 < v7))
 (R07_mix (h5_0.getD 0 (0 : Int)) (2 : Int) (13 : Int) (22 : Int) false false fun (q0 : Int) =>
  R07_mix (h5_0.getD 4 (0 : Int)) (6 : Int) (11 : Int) (25 : Int) false false fun (q1 : Int) =>
   br v2
    (R07_mix (h5_0.getD 0 (0 : Int)) (28 : Int) (34 : Int) (39 : Int) false true fun (q2 : Int) =>
     R07_mix (h5_0.getD 4 (0 : Int)) (14 : Int) (18 : Int) (41 : Int) false true fun (q3 : Int) =>
      br (decide ((0 : Int) ≤ v13))
       (br (decide (v13 < (↑80 : Int)))
        (br (decide ((0 : Int) ≤ v13))
         (br (decide (v13 < (↑h4.length : Int)))
          (nx v2 v7 v8 (IntKind.i64.wrap (v13 + (1 : Int))) h0_0 h1_0 h2_0 h3_0 h4
           [bits BinOp.and IntKind.u64
             (IntKind.u64.wrap
              (IntKind.u64.wrap
                (IntKind.u64.wrap
                  (IntKind.u64.wrap
                    (IntKind.u64.wrap (h5_0.getD 7 (0 : Int) + q3) +
                     bits BinOp.xor IntKind.u64
                      (bits BinOp.and IntKind.u64 (h5_0.getD 4 (0 : Int))
                       (h5_0.getD 5 (0 : Int)))
                      (bits BinOp.and IntKind.u64
                       (bits BinOp.xor IntKind.u64 v8 (h5_0.getD 4 (0 : Int)))
                       (h5_0.getD 6 (0 : Int)))) +
                   h3_0.getD v13.toNat (0 : Int)) +
                 h4.getD v13.toNat (0 : Int)) +
               IntKind.u64.wrap
                (q2 +
                 bits BinOp.xor IntKind.u64
                  (bits BinOp.xor IntKind.u64
                   (bits BinOp.and IntKind.u64 (h5_0.getD 0 (0 : Int))
                    (h5_0.getD 1 (0 : Int)))
                   (bits BinOp.and IntKind.u64 (h5_0.getD 0 (0 : Int))
                    (h5_0.getD 2 (0 : Int))))
                  (bits BinOp.and IntKind.u64 (h5_0.getD 1 (0 : Int))
                   (h5_0.getD 2 (0 : Int))))))
             v8,
            h5_0.getD 0 (0 : Int), h5_0.getD 1 (0 : Int),
            h5_0.getD 2 (0 : Int),
            bits BinOp.and IntKind.u64
             (IntKind.u64.wrap
              (h5_0.getD 3 (0 : Int) +
               IntKind.u64.wrap
                (IntKind.u64.wrap
                  (IntKind.u64.wrap
                    (IntKind.u64.wrap (h5_0.getD 7 (0 : Int) + q3) +
                     bits BinOp.xor IntKind.u64
                      (bits BinOp.and IntKind.u64 (h5_0.getD 4 (0 : Int))
                       (h5_0.getD 5 (0 : Int)))
                      (bits BinOp.and IntKind.u64
                       (bits BinOp.xor IntKind.u64 v8 (h5_0.getD 4 (0 : Int)))
                       (h5_0.getD 6 (0 : Int)))) +
                   h3_0.getD v13.toNat (0 : Int)) +
                 h4.getD v13.toNat (0 : Int))))
             v8,
            h5_0.getD 4 (0 : Int), h5_0.getD 5 (0 : Int),
            h5_0.getD 6 (0 : Int)])
          none)
         none)
        none)
       none)
    (br (decide ((0 : Int) ≤ v13))
     (br (decide (v13 < (↑64 : Int)))
      (br (decide ((0 : Int) ≤ v13))
       (br (decide (v13 < (↑h4.length : Int)))
        (nx v2 v7 v8 (IntKind.i64.wrap (v13 + (1 : Int))) h0_0 h1_0 h2_0 h3_0 h4
         [bits BinOp.and IntKind.u64
           (IntKind.u64.wrap
            (IntKind.u64.wrap
              (IntKind.u64.wrap
                (IntKind.u64.wrap
                  (IntKind.u64.wrap (h5_0.getD 7 (0 : Int) + q1) +
                   bits BinOp.xor IntKind.u64
                    (bits BinOp.and IntKind.u64 (h5_0.getD 4 (0 : Int))
                     (h5_0.getD 5 (0 : Int)))
                    (bits BinOp.and IntKind.u64
                     (bits BinOp.xor IntKind.u64 v8 (h5_0.getD 4 (0 : Int)))
                     (h5_0.getD 6 (0 : Int)))) +
                 h2_0.getD v13.toNat (0 : Int)) +
               h4.getD v13.toNat (0 : Int)) +
             IntKind.u64.wrap
              (q0 +
               bits BinOp.xor IntKind.u64
                (bits BinOp.xor IntKind.u64
                 (bits BinOp.and IntKind.u64 (h5_0.getD 0 (0 : Int))
                  (h5_0.getD 1 (0 : Int)))
                 (bits BinOp.and IntKind.u64 (h5_0.getD 0 (0 : Int))
                  (h5_0.getD 2 (0 : Int))))
                (bits BinOp.and IntKind.u64 (h5_0.getD 1 (0 : Int))
                 (h5_0.getD 2 (0 : Int))))))
           v8,
          h5_0.getD 0 (0 : Int), h5_0.getD 1 (0 : Int), h5_0.getD 2 (0 : Int),
          bits BinOp.and IntKind.u64
           (IntKind.u64.wrap
            (h5_0.getD 3 (0 : Int) +
             IntKind.u64.wrap
              (IntKind.u64.wrap
                (IntKind.u64.wrap
                  (IntKind.u64.wrap (h5_0.getD 7 (0 : Int) + q1) +
                   bits BinOp.xor IntKind.u64
                    (bits BinOp.and IntKind.u64 (h5_0.getD 4 (0 : Int))
                     (h5_0.getD 5 (0 : Int)))
                    (bits BinOp.and IntKind.u64
                     (bits BinOp.xor IntKind.u64 v8 (h5_0.getD 4 (0 : Int)))
                     (h5_0.getD 6 (0 : Int)))) +
                 h2_0.getD v13.toNat (0 : Int)) +
               h4.getD v13.toNat (0 : Int))))
           v8,
          h5_0.getD 4 (0 : Int), h5_0.getD 5 (0 : Int), h5_0.getD 6 (0 : Int)])
        none)
       none)
      none)
     none))
 (k0 v2 v7 v8 v13 h0_0 h1_0 h2_0 h3_0 h4 h5_0)
noncomputable def R07_block_L11 {ρ : Type} (v2 : Bool) (v7 : Int) (v8 : Int) (v13 : Int) (h0_0 : List Int) (h1_0 : List Int) (h2_0 : List Int) (h3_0 : List Int) (h4 : List Int) (h5_0 : List Int) (k0 : Bool → Int → Int → Int → (List Int) → (List Int) → (List Int) → (List Int) → (List Int) → (List Int) → Option ρ) : Option ρ :=
 lp (fun (x : Bool × Int × Int × Int × (List Int) × (List Int) × (List Int) × (List Int) × (List Int) × (List Int)) next (ex : (Bool × Int × Int × Int × (List Int) × (List Int) × (List Int) × (List Int) × (List Int) × (List Int)) → Option ρ) => R07_block_r11 x.1 x.2.1 x.2.2.1 x.2.2.2.1 x.2.2.2.2.1 x.2.2.2.2.2.1 x.2.2.2.2.2.2.1 x.2.2.2.2.2.2.2.1 x.2.2.2.2.2.2.2.2.1 x.2.2.2.2.2.2.2.2.2 (fun v2 v7 v8 v13 h0_0 h1_0 h2_0 h3_0 h4 h5_0 => next (v2, v7, v8, v13, h0_0, h1_0, h2_0, h3_0, h4, h5_0)) (fun v2 v7 v8 v13 h0_0 h1_0 h2_0 h3_0 h4 h5_0 => ex (v2, v7, v8, v13, h0_0, h1_0, h2_0, h3_0, h4, h5_0))) (v2, v7, v8, v13, h0_0, h1_0, h2_0, h3_0, h4, h5_0) (fun x => k0 x.1 x.2.1 x.2.2.1 x.2.2.2.1 x.2.2.2.2.1 x.2.2.2.2.2.1 x.2.2.2.2.2.2.1 x.2.2.2.2.2.2.2.1 x.2.2.2.2.2.2.2.2.1 x.2.2.2.2.2.2.2.2.2)
noncomputable def R07_block_l11 {ρ : Type} := shut (R07_block_L11 (ρ := ρ))
theorem R07_block_l11_eq {ρ : Type} : R07_block_l11 (ρ := ρ) = R07_block_L11 := shut_eq _
noncomputable def R07_block_r25 {ρ : Type} (v8 : Int) (v19 : Int) (h0_0 : List Int) (h1_0 : List Int) (h5_0 : List Int) (nx : Int → Int → (List Int) → (List Int) → (List Int) → Option ρ) (k0 : Int → Int → (List Int) → (List Int) → (List Int) → Option ρ) : Option ρ :=
 br (decide (v19 < (8 : Int)))
 (br (decide ((0 : Int) ≤ v19))
  (br (decide (v19 < (↑8 : Int)))
   (br (decide ((0 : Int) ≤ v19))
    (br (decide (v19 < (↑8 : Int)))
     (br (decide ((0 : Int) ≤ v19))
      (br (decide (v19 < (↑8 : Int)))
       (nx v8 (IntKind.i64.wrap (v19 + (1 : Int))) h0_0 h1_0
        (h5_0.set v19.toNat
         (bits BinOp.and IntKind.u64
          (IntKind.u64.wrap (h5_0.getD v19.toNat (0 : Int) + h0_0.getD v19.toNat (0 : Int))) v8)))
       none)
      none)
     none)
    none)
   none)
  none)
 (k0 v8 v19 h0_0 h1_0 h5_0)
noncomputable def R07_block_L25 {ρ : Type} (v8 : Int) (v19 : Int) (h0_0 : List Int) (h1_0 : List Int) (h5_0 : List Int) (k0 : Int → Int → (List Int) → (List Int) → (List Int) → Option ρ) : Option ρ :=
 lp (fun (x : Int × Int × (List Int) × (List Int) × (List Int)) next (ex : (Int × Int × (List Int) × (List Int) × (List Int)) → Option ρ) => R07_block_r25 x.1 x.2.1 x.2.2.1 x.2.2.2.1 x.2.2.2.2 (fun v8 v19 h0_0 h1_0 h5_0 => next (v8, v19, h0_0, h1_0, h5_0)) (fun v8 v19 h0_0 h1_0 h5_0 => ex (v8, v19, h0_0, h1_0, h5_0))) (v8, v19, h0_0, h1_0, h5_0) (fun x => k0 x.1 x.2.1 x.2.2.1 x.2.2.2.1 x.2.2.2.2)
noncomputable def R07_block_l25 {ρ : Type} := shut (R07_block_L25 (ρ := ρ))
theorem R07_block_l25_eq {ρ : Type} : R07_block_l25 (ρ := ρ) = R07_block_L25 := shut_eq _
noncomputable def R07_block_raw {ρ : Type} (a0 : List Int) (a1 : List Int) (a2 : Bool) (k : (List Int) → Option ρ) : Option ρ :=
 R07_roots256 fun (q0 : List Int) =>
 R07_roots512 fun (q1 : List Int) =>
  br a2
   (R07_words a1 a2 (80 : Int) (18446744073709551615 : Int) fun (q2 : List Int) =>
    R07_block_l11 a2 (80 : Int) (18446744073709551615 : Int) (0 : Int) a0
     [(0 : Int), (0 : Int), (0 : Int), (0 : Int), (0 : Int), (0 : Int), (0 : Int), (0 : Int)] q0 q1 q2 a0
     fun (q3 : Bool) (q4 q5 q6 : Int) (q7 q8 q9 q10 q11 q12 : List Int) =>
     R07_block_l25 q5 (0 : Int) q7 q8 q12 fun (q13 q14 : Int) (q15 q16 q17 : List Int) => k q17)
   (R07_words a1 a2 (64 : Int) (4294967295 : Int) fun (q18 : List Int) =>
    R07_block_l11 a2 (64 : Int) (4294967295 : Int) (0 : Int) a0
     [(0 : Int), (0 : Int), (0 : Int), (0 : Int), (0 : Int), (0 : Int), (0 : Int), (0 : Int)] q0 q1 q18 a0
     fun (q19 : Bool) (q20 q21 q22 : Int) (q23 q24 q25 q26 q27 q28 : List Int) =>
     R07_block_l25 q21 (0 : Int) q23 q24 q28 fun (q29 q30 : Int) (q31 q32 q33 : List Int) => k q33)
noncomputable def R07_block {ρ : Type} := shut (R07_block_raw (ρ := ρ))
theorem R07_block_eq {ρ : Type} (a0 : List Int) (a1 : List Int) (a2 : Bool) (k : (List Int) → Option ρ) : R07_block a0 a1 a2 k = R07_block_raw a0 a1 a2 k := by unfold R07_block; rw [shut_eq]
end P
end

section
open Go Go.Abs
set_option linter.unusedVariables false
namespace P
noncomputable def R07_Add_r4 {ρ : Type} (v5 : Int) (v6 : List Int) (h0_0 : Int) (h0_1 : List Int) (h0_2 : List Int) (h0_3 : Int) (h1_0 : Int) (h1_1 : List Int) (h1_3 : Int) (nx : Int → (List Int) → Int → (List Int) → (List Int) → Int → Int → (List Int) → Int → Option ρ) (k0 : Int → (List Int) → Int → (List Int) → (List Int) → Int → Int → (List Int) → Int → Option ρ) : Option ρ :=
 br (decide ((↑v6.length : Int) ≥ v5))
 (br (decide ((0 : Int) ≤ v5))
  (br (decide (v5 ≤ (↑v6.length : Int)))
   (R07_block h0_1 (List.drop 0 (List.take v5.toNat v6)) (v5 == (128 : Int)) fun (q0 : List Int) =>
    br (decide ((0 : Int) ≤ v5))
     (br (decide (v5 ≤ (↑v6.length : Int)))
      (br (decide ((↑v6.length : Int) ≤ (↑v6.length : Int)))
       (nx v5 (List.drop v5.toNat (List.take (↑v6.length : Int).toNat v6)) h0_0 q0 h0_2 h0_3 h1_0 h1_1 h1_3)
       none)
      none)
     none)
   none)
  none)
 (k0 v5 v6 h0_0 h0_1 h0_2 h0_3 h1_0 h1_1 h1_3)
noncomputable def R07_Add_L4 {ρ : Type} (v5 : Int) (v6 : List Int) (h0_0 : Int) (h0_1 : List Int) (h0_2 : List Int) (h0_3 : Int) (h1_0 : Int) (h1_1 : List Int) (h1_3 : Int) (k0 : Int → (List Int) → Int → (List Int) → (List Int) → Int → Int → (List Int) → Int → Option ρ) : Option ρ :=
 lp (fun (x : Int × (List Int) × Int × (List Int) × (List Int) × Int × Int × (List Int) × Int) next (ex : (Int × (List Int) × Int × (List Int) × (List Int) × Int × Int × (List Int) × Int) → Option ρ) => R07_Add_r4 x.1 x.2.1 x.2.2.1 x.2.2.2.1 x.2.2.2.2.1 x.2.2.2.2.2.1 x.2.2.2.2.2.2.1 x.2.2.2.2.2.2.2.1 x.2.2.2.2.2.2.2.2 (fun v5 v6 h0_0 h0_1 h0_2 h0_3 h1_0 h1_1 h1_3 => next (v5, v6, h0_0, h0_1, h0_2, h0_3, h1_0, h1_1, h1_3)) (fun v5 v6 h0_0 h0_1 h0_2 h0_3 h1_0 h1_1 h1_3 => ex (v5, v6, h0_0, h0_1, h0_2, h0_3, h1_0, h1_1, h1_3))) (v5, v6, h0_0, h0_1, h0_2, h0_3, h1_0, h1_1, h1_3) (fun x => k0 x.1 x.2.1 x.2.2.1 x.2.2.2.1 x.2.2.2.2.1 x.2.2.2.2.2.1 x.2.2.2.2.2.2.1 x.2.2.2.2.2.2.2.1 x.2.2.2.2.2.2.2.2)
noncomputable def R07_Add_l4 {ρ : Type} := shut (R07_Add_L4 (ρ := ρ))
theorem R07_Add_l4_eq {ρ : Type} : R07_Add_l4 (ρ := ρ) = R07_Add_L4 := shut_eq _
noncomputable def R07_Add_raw {ρ : Type} (a0_Kind : Int) (a0_Words : List Int) (a0_Tail : List Int) (a0_Size : Int) (a1 : List Int) (k : Int → (List Int) → (List Int) → Int → Option ρ) : Option ρ :=
 R07_Block a0_Kind fun (q0 : Int) =>
 R01_Join [a0_Tail, a1] fun (q1 : List Int) =>
  R07_Add_l4 q0 q1 a0_Kind a0_Words a0_Tail (IntKind.u64.wrap (a0_Size + IntKind.u64.wrap (↑a1.length : Int)))
   (0 : Int) [(0 : Int), (0 : Int), (0 : Int), (0 : Int), (0 : Int), (0 : Int), (0 : Int), (0 : Int)] (0 : Int)
   fun (q2 : Int) (q3 : List Int) (q4 : Int) (q5 q6 : List Int) (q7 q8 : Int) (q9 : List Int) (q10 : Int) =>
   k q4 q5 q3 q7
noncomputable def R07_Add {ρ : Type} := shut (R07_Add_raw (ρ := ρ))
theorem R07_Add_eq {ρ : Type} (a0_Kind : Int) (a0_Words : List Int) (a0_Tail : List Int) (a0_Size : Int) (a1 : List Int) (k : Int → (List Int) → (List Int) → Int → Option ρ) : R07_Add a0_Kind a0_Words a0_Tail a0_Size a1 k = R07_Add_raw a0_Kind a0_Words a0_Tail a0_Size a1 k := by unfold R07_Add; rw [shut_eq]
end P
end

section
open Go Go.Abs
set_option linter.unusedVariables false
namespace P
noncomputable def R07_End_r4 {ρ : Type} (v3 : Int) (v4 : Int) (h40 : List Int) (h0_0 : Int) (h0_1 : List Int) (h0_2 : List Int) (h0_3 : Int) (nx : Int → Int → (List Int) → Int → (List Int) → (List Int) → Int → Option ρ) (k0 : Int → Int → (List Int) → Int → (List Int) → (List Int) → Int → Option ρ) : Option ρ :=
 br (decide (v3 = (0 : Int))) none
 (br ((IntKind.i64.wrap ((↑h0_2.length : Int) + (↑h40.length : Int))).tmod v3 != IntKind.i64.wrap (v3 - (8 : Int)))
  (br
   (decide
    ((h40.length + 1) * 1 ≤
     140737488355328))
   (nx v3 v4 (h40 ++ [(0 : Int)]) h0_0 h0_1 h0_2 h0_3) none)
  (k0 v3 v4 h40 h0_0 h0_1 h0_2 h0_3))
noncomputable def R07_End_L4 {ρ : Type} (v3 : Int) (v4 : Int) (h40 : List Int) (h0_0 : Int) (h0_1 : List Int) (h0_2 : List Int) (h0_3 : Int) (k0 : Int → Int → (List Int) → Int → (List Int) → (List Int) → Int → Option ρ) : Option ρ :=
 lp (fun (x : Int × Int × (List Int) × Int × (List Int) × (List Int) × Int) next (ex : (Int × Int × (List Int) × Int × (List Int) × (List Int) × Int) → Option ρ) => R07_End_r4 x.1 x.2.1 x.2.2.1 x.2.2.2.1 x.2.2.2.2.1 x.2.2.2.2.2.1 x.2.2.2.2.2.2 (fun v3 v4 h40 h0_0 h0_1 h0_2 h0_3 => next (v3, v4, h40, h0_0, h0_1, h0_2, h0_3)) (fun v3 v4 h40 h0_0 h0_1 h0_2 h0_3 => ex (v3, v4, h40, h0_0, h0_1, h0_2, h0_3))) (v3, v4, h40, h0_0, h0_1, h0_2, h0_3) (fun x => k0 x.1 x.2.1 x.2.2.1 x.2.2.2.1 x.2.2.2.2.1 x.2.2.2.2.2.1 x.2.2.2.2.2.2)
noncomputable def R07_End_l4 {ρ : Type} := shut (R07_End_L4 (ρ := ρ))
theorem R07_End_l4_eq {ρ : Type} : R07_End_l4 (ρ := ρ) = R07_End_L4 := shut_eq _
noncomputable def R07_End_r8 {ρ : Type} (v3 : Int) (v4 : Int) (h80 : List Int) (h0_0 : Int) (h0_1 : List Int) (h0_2 : List Int) (h0_3 : Int) (nx : Int → Int → (List Int) → Int → (List Int) → (List Int) → Int → Option ρ) (k0 : Int → Int → (List Int) → Int → (List Int) → (List Int) → Int → Option ρ) : Option ρ :=
 br (decide (v3 = (0 : Int))) none
 (br ((IntKind.i64.wrap ((↑h0_2.length : Int) + (↑h80.length : Int))).tmod v3 != IntKind.i64.wrap (v3 - (16 : Int)))
  (br
   (decide
    ((h80.length + 1) * 1 ≤
     140737488355328))
   (nx v3 v4 (h80 ++ [(0 : Int)]) h0_0 h0_1 h0_2 h0_3) none)
  (k0 v3 v4 h80 h0_0 h0_1 h0_2 h0_3))
noncomputable def R07_End_L8 {ρ : Type} (v3 : Int) (v4 : Int) (h80 : List Int) (h0_0 : Int) (h0_1 : List Int) (h0_2 : List Int) (h0_3 : Int) (k0 : Int → Int → (List Int) → Int → (List Int) → (List Int) → Int → Option ρ) : Option ρ :=
 lp (fun (x : Int × Int × (List Int) × Int × (List Int) × (List Int) × Int) next (ex : (Int × Int × (List Int) × Int × (List Int) × (List Int) × Int) → Option ρ) => R07_End_r8 x.1 x.2.1 x.2.2.1 x.2.2.2.1 x.2.2.2.2.1 x.2.2.2.2.2.1 x.2.2.2.2.2.2 (fun v3 v4 h80 h0_0 h0_1 h0_2 h0_3 => next (v3, v4, h80, h0_0, h0_1, h0_2, h0_3)) (fun v3 v4 h80 h0_0 h0_1 h0_2 h0_3 => ex (v3, v4, h80, h0_0, h0_1, h0_2, h0_3))) (v3, v4, h80, h0_0, h0_1, h0_2, h0_3) (fun x => k0 x.1 x.2.1 x.2.2.1 x.2.2.2.1 x.2.2.2.2.1 x.2.2.2.2.2.1 x.2.2.2.2.2.2)
noncomputable def R07_End_l8 {ρ : Type} := shut (R07_End_L8 (ρ := ρ))
theorem R07_End_l8_eq {ρ : Type} : R07_End_l8 (ρ := ρ) = R07_End_L8 := shut_eq _
noncomputable def R07_End_r14 {ρ : Type} (v3 : Int) (v7 : Int) (h120 : List Int) (h0_0 : Int) (h0_1 : List Int) (h0_2 : List Int) (h0_3 : Int) (nx : Int → Int → (List Int) → Int → (List Int) → (List Int) → Int → Option ρ) (k0 : Int → Int → (List Int) → Int → (List Int) → (List Int) → Int → Option ρ) : Option ρ :=
 br (decide (v7 < (8 : Int)))
 (br (decide ((0 : Int) ≤ v7))
  (br (decide (v7 < (↑8 : Int)))
   (R01_Be (h0_1.getD v7.toNat (0 : Int)) (IntKind.i64.wrap (v3.tdiv (16 : Int))) fun (q0 : List Int) =>
    br
     (decide
      ((h120.length + q0.length) * 1 ≤
       140737488355328))
     (nx v3 (IntKind.i64.wrap (v7 + (1 : Int))) (h120 ++ q0) h0_0 h0_1 h0_2 h0_3) none)
   none)
  none)
 (k0 v3 v7 h120 h0_0 h0_1 h0_2 h0_3)
noncomputable def R07_End_L14 {ρ : Type} (v3 : Int) (v7 : Int) (h120 : List Int) (h0_0 : Int) (h0_1 : List Int) (h0_2 : List Int) (h0_3 : Int) (k0 : Int → Int → (List Int) → Int → (List Int) → (List Int) → Int → Option ρ) : Option ρ :=
 lp (fun (x : Int × Int × (List Int) × Int × (List Int) × (List Int) × Int) next (ex : (Int × Int × (List Int) × Int × (List Int) × (List Int) × Int) → Option ρ) => R07_End_r14 x.1 x.2.1 x.2.2.1 x.2.2.2.1 x.2.2.2.2.1 x.2.2.2.2.2.1 x.2.2.2.2.2.2 (fun v3 v7 h120 h0_0 h0_1 h0_2 h0_3 => next (v3, v7, h120, h0_0, h0_1, h0_2, h0_3)) (fun v3 v7 h120 h0_0 h0_1 h0_2 h0_3 => ex (v3, v7, h120, h0_0, h0_1, h0_2, h0_3))) (v3, v7, h120, h0_0, h0_1, h0_2, h0_3) (fun x => k0 x.1 x.2.1 x.2.2.1 x.2.2.2.1 x.2.2.2.2.1 x.2.2.2.2.2.1 x.2.2.2.2.2.2)
noncomputable def R07_End_l14 {ρ : Type} := shut (R07_End_L14 (ρ := ρ))
theorem R07_End_l14_eq {ρ : Type} : R07_End_l14 (ρ := ρ) = R07_End_L14 := shut_eq _
noncomputable def R07_End_raw {ρ : Type} (a0_Kind : Int) (a0_Words : List Int) (a0_Tail : List Int) (a0_Size : Int) (k : (List Int) → Option ρ) : Option ρ :=
 R07_Block a0_Kind fun (q0 : Int) =>
 R07_End_l4 q0 (IntKind.u64.wrap (a0_Size * (8 : Int))) [(128 : Int)] a0_Kind a0_Words a0_Tail a0_Size
  fun (q1 q2 : Int) (q3 : List Int) (q4 : Int) (q5 q6 : List Int) (q7 : Int) =>
  br (q1 == (128 : Int))
   (R07_End_l8 q1 q2 [(128 : Int)] q4 q5 q6 q7
    fun (q8 q9 : Int) (q10 : List Int) (q11 : Int) (q12 q13 : List Int) (q14 : Int) =>
    R01_Be (q14.fdiv ((2 : Int) ^ 61)) (8 : Int) fun (q15 : List Int) =>
     br
      (decide
       ((q10.length + q15.length) * 1 ≤
        140737488355328))
      (R01_Be q9 (8 : Int) fun (q16 : List Int) =>
       br
        (decide
         (((q10 ++ q15).length + q16.length) *
           1 ≤
          140737488355328))
        (R07_Add q11 q12 q13 q14 (q10 ++ q15 ++ q16) fun (q17 : Int) (q18 q19 : List Int) (q20 : Int) =>
         R07_End_l14 q8 (0 : Int) [] q17 q18 q19 q20
          fun (q21 q22 : Int) (q23 : List Int) (q24 : Int) (q25 q26 : List Int) (q27 : Int) =>
          br (q24 == (2 : Int))
           (br (decide ((48 : Int) ≤ (↑q23.length : Int))) (k (List.take ((48 : Int) - (0 : Int)).toNat q23))
            none)
           (k q23))
        none)
      none)
   (R01_Be q2 (8 : Int) fun (q28 : List Int) =>
    br
     (decide
      ((q3.length + q28.length) * 1 ≤
       140737488355328))
     (R07_Add q4 q5 q6 q7 (q3 ++ q28) fun (q29 : Int) (q30 q31 : List Int) (q32 : Int) =>
      R07_End_l14 q1 (0 : Int) [] q29 q30 q31 q32
       fun (q33 q34 : Int) (q35 : List Int) (q36 : Int) (q37 q38 : List Int) (q39 : Int) =>
       br (q36 == (2 : Int))
        (br (decide ((48 : Int) ≤ (↑q35.length : Int))) (k (List.take ((48 : Int) - (0 : Int)).toNat q35)) none)
        (k q35))
     none)
noncomputable def R07_End {ρ : Type} := shut (R07_End_raw (ρ := ρ))
theorem R07_End_eq {ρ : Type} (a0_Kind : Int) (a0_Words : List Int) (a0_Tail : List Int) (a0_Size : Int) (k : (List Int) → Option ρ) : R07_End a0_Kind a0_Words a0_Tail a0_Size k = R07_End_raw a0_Kind a0_Words a0_Tail a0_Size k := by unfold R07_End; rw [shut_eq]
end P
end

section
open Go Go.Abs
set_option linter.unusedVariables false
namespace P
noncomputable def R07_Sum_raw {ρ : Type} (a0 : Int) (a1 : List Int) (k : (List Int) → Int → Option ρ) : Option ρ :=
 R07_New a0 fun (q0 : Int) (q1 q2 : List Int) (q3 q4 : Int) =>
 br (q4 != (0 : Int)) (k [] q4)
  (R07_Add q0 q1 q2 q3 a1 fun (q5 : Int) (q6 q7 : List Int) (q8 : Int) =>
   R07_End q5 q6 q7 q8 fun (q9 : List Int) => k q9 (0 : Int))
noncomputable def R07_Sum {ρ : Type} := shut (R07_Sum_raw (ρ := ρ))
theorem R07_Sum_eq {ρ : Type} (a0 : Int) (a1 : List Int) (k : (List Int) → Int → Option ρ) : R07_Sum a0 a1 k = R07_Sum_raw a0 a1 k := by unfold R07_Sum; rw [shut_eq]
end P
end

section
open Go Go.Abs
set_option linter.unusedVariables false
namespace P
noncomputable def R14_H_raw {ρ : Type} (a0 : List (List Int)) (k : (List Int) → Option ρ) : Option ρ :=
 R01_Join a0 fun (q0 : List Int) => R07_Sum (1 : Int) q0 fun (q1 : List Int) (q2 : Int) => k q1
noncomputable def R14_H {ρ : Type} := shut (R14_H_raw (ρ := ρ))
theorem R14_H_eq {ρ : Type} (a0 : List (List Int)) (k : (List Int) → Option ρ) : R14_H a0 k = R14_H_raw a0 k := by unfold R14_H; rw [shut_eq]
end P
end

section
open Go Go.Abs
set_option linter.unusedVariables false
namespace P
noncomputable def R14_chain_r2 {ρ : Type} (v0 : List Int) (v1 : Int) (v2 : Int) (v4 : Int) (v5 : List Int) (v13 : Int) (nx : (List Int) → Int → Int → Int → (List Int) → Int → Option ρ) (k0 : (List Int) → Int → Int → Int → (List Int) → Int → Option ρ) : Option ρ :=
 br (decide (v13 < v4))
 (R01_Be (IntKind.u64.wrap v1) (4 : Int) fun (q0 : List Int) =>
  R01_Be (IntKind.u64.wrap v2) (2 : Int) fun (q1 : List Int) =>
   R14_H [v0, q0, q1, [IntKind.u8.wrap v13], v5] fun (q2 : List Int) =>
    nx v0 v1 v2 v4 q2 (IntKind.i64.wrap (v13 + (1 : Int))))
 (k0 v0 v1 v2 v4 v5 v13)
noncomputable def R14_chain_L2 {ρ : Type} (v0 : List Int) (v1 : Int) (v2 : Int) (v4 : Int) (v5 : List Int) (v13 : Int) (k0 : (List Int) → Int → Int → Int → (List Int) → Int → Option ρ) : Option ρ :=
 lp (fun (x : (List Int) × Int × Int × Int × (List Int) × Int) next (ex : ((List Int) × Int × Int × Int × (List Int) × Int) → Option ρ) => R14_chain_r2 x.1 x.2.1 x.2.2.1 x.2.2.2.1 x.2.2.2.2.1 x.2.2.2.2.2 (fun v0 v1 v2 v4 v5 v13 => next (v0, v1, v2, v4, v5, v13)) (fun v0 v1 v2 v4 v5 v13 => ex (v0, v1, v2, v4, v5, v13))) (v0, v1, v2, v4, v5, v13) (fun x => k0 x.1 x.2.1 x.2.2.1 x.2.2.2.1 x.2.2.2.2.1 x.2.2.2.2.2)
noncomputable def R14_chain_l2 {ρ : Type} := shut (R14_chain_L2 (ρ := ρ))
theorem R14_chain_l2_eq {ρ : Type} : R14_chain_l2 (ρ := ρ) = R14_chain_L2 := shut_eq _
noncomputable def R14_chain_raw {ρ : Type} (a0 : List Int) (a1 : Int) (a2 : Int) (a3 : Int) (a4 : Int) (a5 : List Int) (k : (List Int) → Option ρ) : Option ρ :=
 R14_chain_l2 a0 a1 a2 a4 a5 a3 fun (q0 : List Int) (q1 q2 q3 : Int) (q4 : List Int) (q5 : Int) => k q4
noncomputable def R14_chain {ρ : Type} := shut (R14_chain_raw (ρ := ρ))
theorem R14_chain_eq {ρ : Type} (a0 : List Int) (a1 : Int) (a2 : Int) (a3 : Int) (a4 : Int) (a5 : List Int) (k : (List Int) → Option ρ) : R14_chain a0 a1 a2 a3 a4 a5 k = R14_chain_raw a0 a1 a2 a3 a4 a5 k := by unfold R14_chain; rw [shut_eq]
end P
end

section
open Go Go.Abs
set_option linter.unusedVariables false
namespace P
noncomputable def R14_key_raw {ρ : Type} (a0 : List Int) (a1 : Int) (a2 : List (List Int)) (k : (List Int) → Option ρ) : Option ρ :=
 R01_Be (IntKind.u64.wrap a1) (4 : Int) fun (q0 : List Int) =>
 R01_Be (32896 : Int) (2 : Int) fun (q1 : List Int) =>
  R01_Join a2 fun (q2 : List Int) => R14_H [a0, q0, q1, q2] fun (q3 : List Int) => k q3
noncomputable def R14_key {ρ : Type} := shut (R14_key_raw (ρ := ρ))
theorem R14_key_eq {ρ : Type} (a0 : List Int) (a1 : Int) (a2 : List (List Int)) (k : (List Int) → Option ρ) : R14_key a0 a1 a2 k = R14_key_raw a0 a1 a2 k := by unfold R14_key; rw [shut_eq]
end P
end

section
open Go Go.Abs
set_option linter.unusedVariables false
namespace P
noncomputable def R01_such_raw {ρ : Type} (a0 : List Int) (a1 : Int) (a2 : Int) (k : Bool → Option ρ) : Option ρ :=
 br (decide (a1 ≥ (1 : Int)))
 (br (decide (a1 ≤ (24 : Int)))
  (br (decide (a2 ≥ (0 : Int)))
   (br (decide (a1 = (0 : Int))) none
    (k (decide (a2 ≤ IntKind.i64.wrap ((IntKind.i64.wrap ((↑a0.length : Int) * (8 : Int))).tdiv a1)))))
   (k false))
  (k false))
 (k false)
noncomputable def R01_such {ρ : Type} := shut (R01_such_raw (ρ := ρ))
theorem R01_such_eq {ρ : Type} (a0 : List Int) (a1 : Int) (a2 : Int) (k : Bool → Option ρ) : R01_such a0 a1 a2 k = R01_such_raw a0 a1 a2 k := by unfold R01_such; rw [shut_eq]
end P
end

section
open Go Go.Abs
set_option linter.unusedVariables false
namespace P
noncomputable def R01_Digits_r9 {ρ : Type} (v0 : List Int) (v1 : Int) (v2 : Int) (v8 : Int) (v9 : Int) (v10 : Int) (h0 : List Int) (nx : (List Int) → Int → Int → Int → Int → Int → (List Int) → Option ρ) (k0 : (List Int) → Int → Int → Int → Int → Int → (List Int) → Option ρ) : Option ρ :=
 br (decide (v10 < v1))
 (br (decide ((0 : Int) ≤ IntKind.i64.wrap ((IntKind.i64.wrap (IntKind.i64.wrap (v8 * v1) + v10)).tdiv (8 : Int))))
  (br
   (decide
    (IntKind.i64.wrap ((IntKind.i64.wrap (IntKind.i64.wrap (v8 * v1) + v10)).tdiv (8 : Int)) < (↑v0.length : Int)))
   (br
    (decide
     (IntKind.i64.wrap ((7 : Int) - (IntKind.i64.wrap (IntKind.i64.wrap (v8 * v1) + v10)).tmod (8 : Int)) <
      (0 : Int)))
    none
    (nx v0 v1 v2 v8
     (IntKind.u32.wrap
      (IntKind.u32.wrap (v9 * (2 : Int)) +
       IntKind.u32.wrap
        (bits BinOp.and IntKind.u8
         ((v0.getD
            (IntKind.i64.wrap ((IntKind.i64.wrap (IntKind.i64.wrap (v8 * v1) + v10)).tdiv (8 : Int))).toNat
            (0 : Int)).fdiv
          ((2 : Int) ^
           min
            (IntKind.i64.wrap
              ((7 : Int) - (IntKind.i64.wrap (IntKind.i64.wrap (v8 * v1) + v10)).tmod (8 : Int))).toNat
            8))
         (1 : Int))))
     (IntKind.i64.wrap (v10 + (1 : Int))) h0))
   none)
  none)
 (k0 v0 v1 v2 v8 v9 v10 h0)
noncomputable def R01_Digits_L9 {ρ : Type} (v0 : List Int) (v1 : Int) (v2 : Int) (v8 : Int) (v9 : Int) (v10 : Int) (h0 : List Int) (k0 : (List Int) → Int → Int → Int → Int → Int → (List Int) → Option ρ) : Option ρ :=
 lp (fun (x : (List Int) × Int × Int × Int × Int × Int × (List Int)) next (ex : ((List Int) × Int × Int × Int × Int × Int × (List Int)) → Option ρ) => R01_Digits_r9 x.1 x.2.1 x.2.2.1 x.2.2.2.1 x.2.2.2.2.1 x.2.2.2.2.2.1 x.2.2.2.2.2.2 (fun v0 v1 v2 v8 v9 v10 h0 => next (v0, v1, v2, v8, v9, v10, h0)) (fun v0 v1 v2 v8 v9 v10 h0 => ex (v0, v1, v2, v8, v9, v10, h0))) (v0, v1, v2, v8, v9, v10, h0) (fun x => k0 x.1 x.2.1 x.2.2.1 x.2.2.2.1 x.2.2.2.2.1 x.2.2.2.2.2.1 x.2.2.2.2.2.2)
noncomputable def R01_Digits_l9 {ρ : Type} := shut (R01_Digits_L9 (ρ := ρ))
theorem R01_Digits_l9_eq {ρ : Type} : R01_Digits_l9 (ρ := ρ) = R01_Digits_L9 := shut_eq _
noncomputable def R01_Digits_r5 {ρ : Type} (v0 : List Int) (v1 : Int) (v2 : Int) (v8 : Int) (h0 : List Int) (nx : (List Int) → Int → Int → Int → (List Int) → Option ρ) (k0 : (List Int) → Int → Int → Int → (List Int) → Option ρ) : Option ρ :=
 br (decide (v8 < v2))
 (R01_Digits_l9 v0 v1 v2 v8 (0 : Int) (0 : Int) h0 fun (q0 : List Int) (q1 q2 q3 q4 q5 : Int) (q6 : List Int) =>
  br
   (decide
    ((q6.length + 1) * 4 ≤
     140737488355328))
   (nx q0 q1 q2 (IntKind.i64.wrap (q3 + (1 : Int))) (q6 ++ [q4])) none)
 (k0 v0 v1 v2 v8 h0)
noncomputable def R01_Digits_L5 {ρ : Type} (v0 : List Int) (v1 : Int) (v2 : Int) (v8 : Int) (h0 : List Int) (k0 : (List Int) → Int → Int → Int → (List Int) → Option ρ) : Option ρ :=
 lp (fun (x : (List Int) × Int × Int × Int × (List Int)) next (ex : ((List Int) × Int × Int × Int × (List Int)) → Option ρ) => R01_Digits_r5 x.1 x.2.1 x.2.2.1 x.2.2.2.1 x.2.2.2.2 (fun v0 v1 v2 v8 h0 => next (v0, v1, v2, v8, h0)) (fun v0 v1 v2 v8 h0 => ex (v0, v1, v2, v8, h0))) (v0, v1, v2, v8, h0) (fun x => k0 x.1 x.2.1 x.2.2.1 x.2.2.2.1 x.2.2.2.2)
noncomputable def R01_Digits_l5 {ρ : Type} := shut (R01_Digits_L5 (ρ := ρ))
theorem R01_Digits_l5_eq {ρ : Type} : R01_Digits_l5 (ρ := ρ) = R01_Digits_L5 := shut_eq _
noncomputable def R01_Digits_raw {ρ : Type} (a0 : List Int) (a1 : Int) (a2 : Int) (k : (List Int) → Option ρ) : Option ρ :=
 R01_such a0 a1 a2 fun (q0 : Bool) =>
 br (!q0) (k []) (R01_Digits_l5 a0 a1 a2 (0 : Int) [] fun (q1 : List Int) (q2 q3 q4 : Int) (q5 : List Int) => k q5)
noncomputable def R01_Digits {ρ : Type} := shut (R01_Digits_raw (ρ := ρ))
theorem R01_Digits_eq {ρ : Type} (a0 : List Int) (a1 : Int) (a2 : Int) (k : (List Int) → Option ρ) : R01_Digits a0 a1 a2 k = R01_Digits_raw a0 a1 a2 k := by unfold R01_Digits; rw [shut_eq]
end P
end

section
open Go Go.Abs
set_option linter.unusedVariables false
namespace P
noncomputable def R14_Digits_r9 {ρ : Type} (v0 : Int) (v1 : List Int) (v6 : Int) (v7 : Int) (v10 : Int) (v11 : Int) (h0 : List Int) (nx : Int → (List Int) → Int → Int → Int → Int → (List Int) → Option ρ) (k0 : Int → (List Int) → Int → Int → Int → Int → (List Int) → Option ρ) : Option ρ :=
 br (decide (v11 < (↑h0.length : Int)))
 (br (decide (v0 < (0 : Int))) none
  (br (decide ((0 : Int) ≤ v11))
   (br (decide (v11 < (↑h0.length : Int)))
    (nx v0 v1 v6 v7
     (IntKind.u64.wrap
      (IntKind.u64.wrap
        (v10 +
         IntKind.u64.wrap (IntKind.u64.wrap ((1 : Int) * (2 : Int) ^ min v0.toNat 64) - (1 : Int))) -
       IntKind.u64.wrap (h0.getD v11.toNat (0 : Int))))
     (IntKind.i64.wrap (v11 + (1 : Int))) h0)
    none)
   none))
 (k0 v0 v1 v6 v7 v10 v11 h0)
noncomputable def R14_Digits_L9 {ρ : Type} (v0 : Int) (v1 : List Int) (v6 : Int) (v7 : Int) (v10 : Int) (v11 : Int) (h0 : List Int) (k0 : Int → (List Int) → Int → Int → Int → Int → (List Int) → Option ρ) : Option ρ :=
 lp (fun (x : Int × (List Int) × Int × Int × Int × Int × (List Int)) next (ex : (Int × (List Int) × Int × Int × Int × Int × (List Int)) → Option ρ) => R14_Digits_r9 x.1 x.2.1 x.2.2.1 x.2.2.2.1 x.2.2.2.2.1 x.2.2.2.2.2.1 x.2.2.2.2.2.2 (fun v0 v1 v6 v7 v10 v11 h0 => next (v0, v1, v6, v7, v10, v11, h0)) (fun v0 v1 v6 v7 v10 v11 h0 => ex (v0, v1, v6, v7, v10, v11, h0))) (v0, v1, v6, v7, v10, v11, h0) (fun x => k0 x.1 x.2.1 x.2.2.1 x.2.2.2.1 x.2.2.2.2.1 x.2.2.2.2.2.1 x.2.2.2.2.2.2)
noncomputable def R14_Digits_l9 {ρ : Type} := shut (R14_Digits_L9 (ρ := ρ))
theorem R14_Digits_l9_eq {ρ : Type} : R14_Digits_l9 (ρ := ρ) = R14_Digits_L9 := shut_eq _
noncomputable def R14_Digits_raw {ρ : Type} (a0 : Int) (a1 : List Int) (k : (List Int) → Int → Option ρ) : Option ρ :=
 R14_Kind a0 fun (q0 q1 q2 : Int) =>
 br (q0 == (0 : Int)) (k [] (9 : Int))
  (br ((↑a1.length : Int) != (32 : Int)) (k [] (14 : Int))
   (br (decide (a0 = (0 : Int))) none
    (R01_Digits a1 a0 (IntKind.i64.wrap (Int.tdiv (256 : Int) a0)) fun (q3 : List Int) =>
     R14_Digits_l9 a0 a1 q0 q1 (0 : Int) (0 : Int) q3
      fun (q4 : Int) (q5 : List Int) (q6 q7 q8 q9 : Int) (q10 : List Int) =>
      br (decide (q7 < (0 : Int))) none
       (R01_Be (IntKind.u64.wrap (q8 * (2 : Int) ^ min q7.toNat 64)) (2 : Int)
        fun (q11 : List Int) =>
        R01_Join [q5, q11] fun (q12 : List Int) =>
         R01_Digits q12 q4 q6 fun (q13 : List Int) => k q13 (0 : Int)))))
noncomputable def R14_Digits {ρ : Type} := shut (R14_Digits_raw (ρ := ρ))
theorem R14_Digits_eq {ρ : Type} (a0 : Int) (a1 : List Int) (k : (List Int) → Int → Option ρ) : R14_Digits a0 a1 k = R14_Digits_raw a0 a1 k := by unfold R14_Digits; rw [shut_eq]
end P
end

section
open Go Go.Abs
set_option linter.unusedVariables false
namespace P
noncomputable def R14_digest_raw {ρ : Type} (a0 : List Int) (a1 : Int) (a2 : List Int) (a3 : List Int) (k : (List Int) → Option ρ) : Option ρ :=
 R01_Be (IntKind.u64.wrap a1) (4 : Int) fun (q0 : List Int) =>
 R01_Be (33153 : Int) (2 : Int) fun (q1 : List Int) => R14_H [a0, q0, q1, a2, a3] fun (q2 : List Int) => k q2
noncomputable def R14_digest {ρ : Type} := shut (R14_digest_raw (ρ := ρ))
theorem R14_digest_eq {ρ : Type} (a0 : List Int) (a1 : Int) (a2 : List Int) (a3 : List Int) (k : (List Int) → Option ρ) : R14_digest a0 a1 a2 a3 k = R14_digest_raw a0 a1 a2 a3 k := by unfold R14_digest; rw [shut_eq]
end P
end

section
open Go Go.Abs
set_option linter.unusedVariables false
namespace P
noncomputable def R14_Candidate_r11 {ρ : Type} (v0 : Int) (v1 : List Int) (v2 : Int) (v4 : List Int) (v12 : Int) (v18 : Int) (h40 : List (List Int)) (h1 : List Int) (nx : Int → (List Int) → Int → (List Int) → Int → Int → (List (List Int)) → (List Int) → Option ρ) (k0 : Int → (List Int) → Int → (List Int) → Int → Int → (List (List Int)) → (List Int) → Option ρ) : Option ρ :=
 br (decide (v18 < v12))
 (br (decide ((0 : Int) ≤ v18))
  (br (decide (v18 < (↑h1.length : Int)))
   (br (decide (v0 < (0 : Int))) none
    (br (decide ((0 : Int) ≤ IntKind.i64.wrap ((36 : Int) + IntKind.i64.wrap ((32 : Int) * v18))))
     (br
      (decide
       (IntKind.i64.wrap ((36 : Int) + IntKind.i64.wrap ((32 : Int) * v18)) ≤
        IntKind.i64.wrap ((68 : Int) + IntKind.i64.wrap ((32 : Int) * v18))))
      (br (decide (IntKind.i64.wrap ((68 : Int) + IntKind.i64.wrap ((32 : Int) * v18)) ≤ (↑v4.length : Int)))
       (R14_chain v1 v2 v18 (IntKind.i64.wrap (h1.getD v18.toNat (0 : Int)))
        (IntKind.i64.wrap (IntKind.i64.wrap ((1 : Int) * (2 : Int) ^ min v0.toNat 64) - (1 : Int)))
        (List.drop (IntKind.i64.wrap ((36 : Int) + IntKind.i64.wrap ((32 : Int) * v18))).toNat
         (List.take (IntKind.i64.wrap ((68 : Int) + IntKind.i64.wrap ((32 : Int) * v18))).toNat v4))
        fun (q0 : List Int) =>
        br
         (decide
          ((h40.length + 1) *
            24 ≤
           140737488355328))
         (nx v0 v1 v2 v4 v12 (IntKind.i64.wrap (v18 + (1 : Int))) (h40 ++ [q0]) h1) none)
       none)
      none)
     none))
   none)
  none)
 (k0 v0 v1 v2 v4 v12 v18 h40 h1)
noncomputable def R14_Candidate_L11 {ρ : Type} (v0 : Int) (v1 : List Int) (v2 : Int) (v4 : List Int) (v12 : Int) (v18 : Int) (h40 : List (List Int)) (h1 : List Int) (k0 : Int → (List Int) → Int → (List Int) → Int → Int → (List (List Int)) → (List Int) → Option ρ) : Option ρ :=
 lp (fun (x : Int × (List Int) × Int × (List Int) × Int × Int × (List (List Int)) × (List Int)) next (ex : (Int × (List Int) × Int × (List Int) × Int × Int × (List (List Int)) × (List Int)) → Option ρ) => R14_Candidate_r11 x.1 x.2.1 x.2.2.1 x.2.2.2.1 x.2.2.2.2.1 x.2.2.2.2.2.1 x.2.2.2.2.2.2.1 x.2.2.2.2.2.2.2 (fun v0 v1 v2 v4 v12 v18 h40 h1 => next (v0, v1, v2, v4, v12, v18, h40, h1)) (fun v0 v1 v2 v4 v12 v18 h40 h1 => ex (v0, v1, v2, v4, v12, v18, h40, h1))) (v0, v1, v2, v4, v12, v18, h40, h1) (fun x => k0 x.1 x.2.1 x.2.2.1 x.2.2.2.1 x.2.2.2.2.1 x.2.2.2.2.2.1 x.2.2.2.2.2.2.1 x.2.2.2.2.2.2.2)
noncomputable def R14_Candidate_l11 {ρ : Type} := shut (R14_Candidate_L11 (ρ := ρ))
theorem R14_Candidate_l11_eq {ρ : Type} : R14_Candidate_l11 (ρ := ρ) = R14_Candidate_L11 := shut_eq _
noncomputable def R14_Candidate_raw {ρ : Type} (a0 : Int) (a1 : List Int) (a2 : Int) (a3 : List Int) (a4 : List Int) (k : (List Int) → Int → Option ρ) : Option ρ :=
 R14_Kind a0 fun (q0 q1 q2 : Int) =>
 br (q0 == (0 : Int)) (k [] (9 : Int))
  (br ((↑a1.length : Int) != (16 : Int)) (k [] (14 : Int))
   (R14_Size a0 fun (q3 : Int) =>
    br ((↑a4.length : Int) != q3) (k [] (1 : Int))
     (br (decide ((4 : Int) ≤ (↑a4.length : Int)))
      (R01_Num (List.drop 0 (List.take (Int.toNat (4 : Int)) a4)) fun (q4 : Int) =>
       br (q4 != q2) (k [] (1 : Int))
        (br (decide ((36 : Int) ≤ (↑a4.length : Int)))
         (R14_digest a1 a2 (List.drop 4 (List.take (Int.toNat (36 : Int)) a4)) a3
          fun (q5 : List Int) =>
          R14_Digits a0 q5 fun (q6 : List Int) (q7 : Int) =>
           R14_Candidate_l11 a0 a1 a2 a4 q0 (0 : Int) [] q6
            fun (q8 : Int) (q9 : List Int) (q10 : Int) (q11 : List Int) (q12 q13 : Int)
             (q14 : List (List Int)) (q15 : List Int) =>
            R14_key q9 q10 q14 fun (q16 : List Int) => k q16 (0 : Int))
         none))
      none)))
noncomputable def R14_Candidate {ρ : Type} := shut (R14_Candidate_raw (ρ := ρ))
theorem R14_Candidate_eq {ρ : Type} (a0 : Int) (a1 : List Int) (a2 : Int) (a3 : List Int) (a4 : List Int) (k : (List Int) → Int → Option ρ) : R14_Candidate a0 a1 a2 a3 a4 k = R14_Candidate_raw a0 a1 a2 a3 a4 k := by unfold R14_Candidate; rw [shut_eq]
end P
end

section
open Go Go.Abs
set_option linter.unusedVariables false
namespace P
noncomputable def R15_head_raw {ρ : Type} (a0_H : Int) (a0_W : Int) (k : (List Int) → Option ρ) : Option ρ :=
 R14_Kind a0_W fun (q0 q1 q2 : Int) =>
 R15_Code a0_H fun (q3 : Int) =>
  R01_Be q3 (4 : Int) fun (q4 : List Int) =>
   R01_Be q2 (4 : Int) fun (q5 : List Int) =>
    br
     (decide
      ((q4.length + q5.length) * 1 ≤
       140737488355328))
     (k (q4 ++ q5)) none
noncomputable def R15_head {ρ : Type} := shut (R15_head_raw (ρ := ρ))
theorem R15_head_eq {ρ : Type} (a0_H : Int) (a0_W : Int) (k : (List Int) → Option ρ) : R15_head a0_H a0_W k = R15_head_raw a0_H a0_W k := by unfold R15_head; rw [shut_eq]
end P
end

section
open Go Go.Abs
set_option linter.unusedVariables false
namespace P
noncomputable def R15_leafSum_raw {ρ : Type} (a0 : List Int) (a1 : Int) (a2 : List Int) (k : (List Int) → Option ρ) : Option ρ :=
 R01_Be a1 (4 : Int) fun (q0 : List Int) =>
 R01_Be (33410 : Int) (2 : Int) fun (q1 : List Int) => R14_H [a0, q0, q1, a2] fun (q2 : List Int) => k q2
noncomputable def R15_leafSum {ρ : Type} := shut (R15_leafSum_raw (ρ := ρ))
theorem R15_leafSum_eq {ρ : Type} (a0 : List Int) (a1 : Int) (a2 : List Int) (k : (List Int) → Option ρ) : R15_leafSum a0 a1 a2 k = R15_leafSum_raw a0 a1 a2 k := by unfold R15_leafSum; rw [shut_eq]
end P
end

section
open Go Go.Abs
set_option linter.unusedVariables false
namespace P
noncomputable def R15_over_raw {ρ : Type} (a0 : List Int) (a1 : Int) (a2 : List Int) (a3 : List Int) (k : (List Int) → Option ρ) : Option ρ :=
 R01_Be a1 (4 : Int) fun (q0 : List Int) =>
 R01_Be (33667 : Int) (2 : Int) fun (q1 : List Int) => R14_H [a0, q0, q1, a2, a3] fun (q2 : List Int) => k q2
noncomputable def R15_over {ρ : Type} := shut (R15_over_raw (ρ := ρ))
theorem R15_over_eq {ρ : Type} (a0 : List Int) (a1 : Int) (a2 : List Int) (a3 : List Int) (k : (List Int) → Option ρ) : R15_over a0 a1 a2 a3 k = R15_over_raw a0 a1 a2 a3 k := by unfold R15_over; rw [shut_eq]
end P
end

section
open Go Go.Abs
set_option linter.unusedVariables false
namespace P
noncomputable def R15_Verify_r17 {ρ : Type} (v0 : List Int) (v12 : List Int) (v16 : Int) (v17 : List Int) (v18 : List Int) (nx : (List Int) → (List Int) → Int → (List Int) → (List Int) → Option ρ) (k0 : (List Int) → (List Int) → Int → (List Int) → (List Int) → Option ρ) : Option ρ :=
 br (decide (v16 > (1 : Int)))
 (br (v16.tmod (2 : Int) == (0 : Int))
  (br (decide ((32 : Int) ≤ (↑v18.length : Int)))
   (R15_over v12 (IntKind.u64.wrap (v16.tdiv (2 : Int))) v17
    (List.drop 0 (List.take (Int.toNat (32 : Int)) v18)) fun (q0 : List Int) =>
    br (decide ((32 : Int) ≤ (↑v18.length : Int)))
     (br (decide ((↑v18.length : Int) ≤ (↑v18.length : Int)))
      (nx v0 v12 (IntKind.u64.wrap (v16.tdiv (2 : Int))) q0
       (List.drop 32 (List.take (↑v18.length : Int).toNat v18)))
      none)
     none)
   none)
  (br (decide ((32 : Int) ≤ (↑v18.length : Int)))
   (R15_over v12 (IntKind.u64.wrap (v16.tdiv (2 : Int)))
    (List.drop 0 (List.take (Int.toNat (32 : Int)) v18)) v17 fun (q1 : List Int) =>
    br (decide ((32 : Int) ≤ (↑v18.length : Int)))
     (br (decide ((↑v18.length : Int) ≤ (↑v18.length : Int)))
      (nx v0 v12 (IntKind.u64.wrap (v16.tdiv (2 : Int))) q1
       (List.drop 32 (List.take (↑v18.length : Int).toNat v18)))
      none)
     none)
   none))
 (k0 v0 v12 v16 v17 v18)
noncomputable def R15_Verify_L17 {ρ : Type} (v0 : List Int) (v12 : List Int) (v16 : Int) (v17 : List Int) (v18 : List Int) (k0 : (List Int) → (List Int) → Int → (List Int) → (List Int) → Option ρ) : Option ρ :=
 lp (fun (x : (List Int) × (List Int) × Int × (List Int) × (List Int)) next (ex : ((List Int) × (List Int) × Int × (List Int) × (List Int)) → Option ρ) => R15_Verify_r17 x.1 x.2.1 x.2.2.1 x.2.2.2.1 x.2.2.2.2 (fun v0 v12 v16 v17 v18 => next (v0, v12, v16, v17, v18)) (fun v0 v12 v16 v17 v18 => ex (v0, v12, v16, v17, v18))) (v0, v12, v16, v17, v18) (fun x => k0 x.1 x.2.1 x.2.2.1 x.2.2.2.1 x.2.2.2.2)
noncomputable def R15_Verify_l17 {ρ : Type} := shut (R15_Verify_L17 (ρ := ρ))
theorem R15_Verify_l17_eq {ρ : Type} : R15_Verify_l17 (ρ := ρ) = R15_Verify_L17 := shut_eq _
noncomputable def R15_Verify_raw {ρ : Type} (a0 : List Int) (a1 : List Int) (a2 : List Int) (k : Int → Option ρ) : Option ρ :=
 br ((↑a0.length : Int) != (56 : Int)) (k (10 : Int))
 (br (decide ((4 : Int) ≤ (↑a0.length : Int)))
  (R01_Num (List.drop 0 (List.take (Int.toNat (4 : Int)) a0)) fun (q0 : Int) =>
   R15_height q0 fun (q1 : Int) =>
    br (q1 == (0 : Int)) (k (10 : Int))
     (br (decide ((8 : Int) ≤ (↑a0.length : Int)))
      (R01_Num (List.drop 4 (List.take (Int.toNat (8 : Int)) a0)) fun (q2 : Int) =>
       R15_digit q2 fun (q3 : Int) =>
        br (q3 == (0 : Int)) (k (10 : Int))
         (R15_Cut a2 fun (q4 : List Int) (q5 q6 : Int) (q7 : List Int) (q8 : Int) =>
          br (q8 != (0 : Int)) (k q8)
           (br (decide ((↑q7.length : Int) > (0 : Int))) (k (1 : Int))
            (R15_head q5 q6 fun (q9 : List Int) =>
             br (decide ((8 : Int) ≤ (↑a0.length : Int)))
              (R01_Same q9 (List.drop 0 (List.take (Int.toNat (8 : Int)) a0))
               fun (q10 : Bool) =>
               br (!q10) (k (1 : Int))
                (br (decide ((4 : Int) ≤ (↑a2.length : Int)))
                 (R01_Num (List.drop 0 (List.take (Int.toNat (4 : Int)) a2))
                  fun (q11 : Int) =>
                  br (decide (q5 < (0 : Int))) none
                   (br
                    (decide
                     (q11 ≥ IntKind.u64.wrap ((1 : Int) * (2 : Int) ^ min q5.toNat 64)))
                    (k (13 : Int))
                    (br (decide ((24 : Int) ≤ (↑a0.length : Int)))
                     (R14_Size q6 fun (q12 : Int) =>
                      br (decide ((4 : Int) ≤ IntKind.i64.wrap ((4 : Int) + q12)))
                       (br (decide (IntKind.i64.wrap ((4 : Int) + q12) ≤ (↑a2.length : Int)))
                        (R14_Candidate q6
                         (List.drop 8 (List.take (Int.toNat (24 : Int)) a0))
                         (IntKind.u32.wrap q11) a1
                         (List.drop 4
                          (List.take (IntKind.i64.wrap ((4 : Int) + q12)).toNat a2))
                         fun (q13 : List Int) (q14 : Int) =>
                         br (decide (q5 < (0 : Int))) none
                          (R15_leafSum
                           (List.drop 8 (List.take (Int.toNat (24 : Int)) a0))
                           (IntKind.u64.wrap
                            (IntKind.u64.wrap
                              ((1 : Int) * (2 : Int) ^ min q5.toNat 64) +
                             q11))
                           q13 fun (q15 : List Int) =>
                           br (decide ((0 : Int) ≤ IntKind.i64.wrap ((8 : Int) + q12)))
                            (br
                             (decide
                              (IntKind.i64.wrap ((8 : Int) + q12) ≤ (↑a2.length : Int)))
                             (br (decide ((↑a2.length : Int) ≤ (↑a2.length : Int)))
                              (R15_Verify_l17 a0
                               (List.drop 8
                                (List.take (Int.toNat (24 : Int)) a0))
                               (IntKind.u64.wrap
                                (IntKind.u64.wrap
                                  ((1 : Int) *
                                   (2 : Int) ^ min q5.toNat 64) +
                                 q11))
                               q15
                               (List.drop (IntKind.i64.wrap ((8 : Int) + q12)).toNat
                                (List.take (↑a2.length : Int).toNat a2))
                               fun (q16 q17 : List Int) (q18 : Int)
                                (q19 q20 : List Int) =>
                               br (decide ((24 : Int) ≤ (↑q16.length : Int)))
                                (br (decide ((↑q16.length : Int) ≤ (↑q16.length : Int)))
                                 (R01_Same q19
                                  (List.drop 24
                                   (List.take (↑q16.length : Int).toNat q16))
                                  fun (q21 : Bool) =>
                                  br (!q21) (k (11 : Int)) (k (0 : Int)))
                                 none)
                                none)
                              none)
                             none)
                            none))
                        none)
                       none)
                     none)))
                 none))
              none))))
      none))
  none)
noncomputable def R15_Verify {ρ : Type} := shut (R15_Verify_raw (ρ := ρ))
theorem R15_Verify_eq {ρ : Type} (a0 : List Int) (a1 : List Int) (a2 : List Int) (k : Int → Option ρ) : R15_Verify a0 a1 a2 k = R15_Verify_raw a0 a1 a2 k := by unfold R15_Verify; rw [shut_eq]
end P
end

section
open Go Go.Abs
set_option linter.unusedVariables false
namespace P
noncomputable def L15_LmsVerifies_raw {ρ : Type} (a0 : List Int) (a1 : List Int) (a2 : List Int) (k : Bool → Option ρ) : Option ρ :=
 L15_few [a0, a1] fun (q0 : Bool) =>
 br (!q0) (L15_awake fun (q1 : Bool) => k q1)
  (br (decide ((↑a2.length : Int) > (12000 : Int))) (L15_awake fun (q2 : Bool) => k q2)
   (br (decide ((↑a2.length : Int) ≥ (8 : Int)))
    (br (decide ((7 : Int) < (↑a2.length : Int)))
     (br (a2.getD 7 (0 : Int) == (4 : Int)) (L15_awake fun (q3 : Bool) => k q3)
      (lms_Cut a2 fun (q4 : List Int) (q5 q6 : Int) (q7 : List Int) (q8 : Int) =>
       R15_Cut a2 fun (q9 : List Int) (q10 q11 : Int) (q12 : List Int) (q13 : Int) =>
        R01_Same q4 q9 fun (q14 : Bool) =>
         br q14
          (br (q5 == q10 && (q6 == q11 && true))
           (R01_Same q7 q12 fun (q15 : Bool) =>
            br q15
             (br (q8 == q13)
              (lms_Verify a0 a1 a2 fun (q16 : Int) =>
               R15_Verify a0 a1 a2 fun (q17 : Int) =>
                br (q16 == q17) (L15_awake fun (q18 : Bool) => k q18) (k false))
              (k false))
             (k false))
           (k false))
          (k false)))
     none)
    (lms_Cut a2 fun (q19 : List Int) (q20 q21 : Int) (q22 : List Int) (q23 : Int) =>
     R15_Cut a2 fun (q24 : List Int) (q25 q26 : Int) (q27 : List Int) (q28 : Int) =>
      R01_Same q19 q24 fun (q29 : Bool) =>
       br q29
        (br (q20 == q25 && (q21 == q26 && true))
         (R01_Same q22 q27 fun (q30 : Bool) =>
          br q30
           (br (q23 == q28)
            (lms_Verify a0 a1 a2 fun (q31 : Int) =>
             R15_Verify a0 a1 a2 fun (q32 : Int) =>
              br (q31 == q32) (L15_awake fun (q33 : Bool) => k q33) (k false))
            (k false))
           (k false))
         (k false))
        (k false))))
noncomputable def L15_LmsVerifies {ρ : Type} := shut (L15_LmsVerifies_raw (ρ := ρ))
theorem L15_LmsVerifies_eq {ρ : Type} (a0 : List Int) (a1 : List Int) (a2 : List Int) (k : Bool → Option ρ) : L15_LmsVerifies a0 a1 a2 k = L15_LmsVerifies_raw a0 a1 a2 k := by unfold L15_LmsVerifies; rw [shut_eq]
end P
end

section
open Go Go.Abs Go.Proofs
set_option maxRecDepth 100000
set_option linter.unusedVariables false
namespace lms_code
noncomputable def D : Ctx := ({ P := Tryd.prog, G := [], globs := GLO.gB, hints := [], loops := [], inl := [] } : Ctx)
theorem body (a0 : Int) (K : AVal → Option R) : bodyA D Tryd.f125 [.any] [.v (.int .i64 a0)] K = P.lms_code a0 (fun r0 => K (.v (.int .u64 r0))) := by
 rw [P.lms_code_eq]
 kernel_rfl
theorem loops : loopsOf (Tryd.f125.body.getD .skip) = [] := by kernel_rfl
noncomputable def spec0 : Abs.Spec := fun args K => match args with
 | [.v (.int .i64 a0)] => P.lms_code a0 (fun r0 => K (.v (.int .u64 r0)))
 | _ => none
noncomputable def spec : Abs.Spec := spec0
theorem ok0 : Proved Tryd.prog GLO.gB 125 spec0 := by
 refine proved_of (D := D) (fn := Tryd.f125) (c := Tryd.f125.body.getD .skip) [.any] (by kernel_rfl) (globsPlain_of (by kernel_rfl)) (by kernel_rfl) (by kernel_rfl) (by kernel_rfl) trivial trivial ?_ ?_
 · rw [loops]; exact trivial
 · intro args K r h
   unfold spec0 at h
   split at h
   · rw [body]; exact h
   · cases h
theorem ok : Proved Tryd.prog GLO.gB 125 spec := ok0
end lms_code
end

section
open Go Go.Abs Go.Proofs
set_option maxRecDepth 100000
set_option linter.unusedVariables false
namespace lms_leafCode
noncomputable def D : Ctx := ({ P := Tryd.prog, G := [], globs := GLO.gB, hints := [], loops := [], inl := [] } : Ctx)
theorem body (a0 : Int) (K : AVal → Option R) : bodyA D Tryd.f126 [.any] [.v (.int .i64 a0)] K = P.lms_leafCode a0 (fun r0 => K (.v (.int .u64 r0))) := by
 rw [P.lms_leafCode_eq]
 kernel_rfl
theorem loops : loopsOf (Tryd.f126.body.getD .skip) = [] := by kernel_rfl
noncomputable def spec0 : Abs.Spec := fun args K => match args with
 | [.v (.int .i64 a0)] => P.lms_leafCode a0 (fun r0 => K (.v (.int .u64 r0)))
 | _ => none
noncomputable def spec : Abs.Spec := spec0
theorem ok0 : Proved Tryd.prog GLO.gB 126 spec0 := by
 refine proved_of (D := D) (fn := Tryd.f126) (c := Tryd.f126.body.getD .skip) [.any] (by kernel_rfl) (globsPlain_of (by kernel_rfl)) (by kernel_rfl) (by kernel_rfl) (by kernel_rfl) trivial trivial ?_ ?_
 · rw [loops]; exact trivial
 · intro args K r h
   unfold spec0 at h
   split at h
   · rw [body]; exact h
   · cases h
theorem ok : Proved Tryd.prog GLO.gB 126 spec := ok0
end lms_leafCode
end

section
open Go Go.Abs Go.Proofs
set_option maxRecDepth 100000
set_option linter.unusedVariables false
namespace lms_Fit
noncomputable def D : Ctx := ({ P := Tryd.prog, G := [(125, lms_code.spec), (126, lms_leafCode.spec)], globs := GLO.gB, hints := [], loops := [], inl := [] } : Ctx)
theorem body (a0_H : Int) (a0_W : Int) (K : AVal → Option R) : bodyA D Tryd.f99 [.any] [.agg [.v (.int .i64 a0_H), .v (.int .i64 a0_W)]] K = P.lms_Fit a0_H a0_W (fun r0 => K (.v (.bool r0))) := by
 rw [P.lms_Fit_eq]
 kernel_rfl
theorem loops : loopsOf (Tryd.f99.body.getD .skip) = [] := by kernel_rfl
noncomputable def spec0 : Abs.Spec := fun args K => match args with
 | [.agg [.v (.int .i64 a0_H), .v (.int .i64 a0_W)]] => P.lms_Fit a0_H a0_W (fun r0 => K (.v (.bool r0)))
 | _ => none
noncomputable def spec : Abs.Spec := spec0
theorem ok0 : Proved Tryd.prog GLO.gB 99 spec0 := by
 refine proved_of (D := D) (fn := Tryd.f99) (c := Tryd.f99.body.getD .skip) [.any] (by kernel_rfl) (globsPlain_of (by kernel_rfl)) (by kernel_rfl) (by kernel_rfl) (by kernel_rfl) ⟨lms_code.ok, lms_leafCode.ok, trivial⟩ trivial ?_ ?_
 · rw [loops]; exact trivial
 · intro args K r h
   unfold spec0 at h
   split at h
   · rw [body]; exact h
   · cases h
theorem ok : Proved Tryd.prog GLO.gB 99 spec := ok0
end lms_Fit
end

section
open Go Go.Abs Go.Proofs
set_option maxRecDepth 100000
set_option linter.unusedVariables false
namespace lmots_known
noncomputable def D : Ctx := ({ P := Tryd.prog, G := [], globs := GLO.gB, hints := [], loops := [], inl := [] } : Ctx)
theorem body (a0 : Int) (K : AVal → Option R) : bodyA D Tryd.f97 [.any, .any] [.v (.int .i64 a0)] K = P.lmots_known a0 (fun r0_digits r0_shift r0_code r1 => K (.tuple [.agg [.v (.int .i64 r0_digits), .v (.int .i64 r0_shift), .v (.int .i64 r0_code)], .v (.bool r1)])) := by
 rw [P.lmots_known_eq]
 kernel_rfl
theorem loops : loopsOf (Tryd.f97.body.getD .skip) = [] := by kernel_rfl
noncomputable def spec0 : Abs.Spec := fun args K => match args with
 | [.v (.int .i64 a0)] => P.lmots_known a0 (fun r0_digits r0_shift r0_code r1 => K (.tuple [.agg [.v (.int .i64 r0_digits), .v (.int .i64 r0_shift), .v (.int .i64 r0_code)], .v (.bool r1)]))
 | _ => none
noncomputable def spec : Abs.Spec := spec0
theorem ok0 : Proved Tryd.prog GLO.gB 97 spec0 := by
 refine proved_of (D := D) (fn := Tryd.f97) (c := Tryd.f97.body.getD .skip) [.any, .any] (by kernel_rfl) (globsPlain_of (by kernel_rfl)) (by kernel_rfl) (by kernel_rfl) (by kernel_rfl) trivial trivial ?_ ?_
 · rw [loops]; exact trivial
 · intro args K r h
   unfold spec0 at h
   split at h
   · rw [body]; exact h
   · cases h
theorem ok : Proved Tryd.prog GLO.gB 97 spec := ok0
end lmots_known
end
