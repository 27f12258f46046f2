/-
  SectorWrites, part H: an interpreter of my own over abstract values, the pure functions, the walks and the plain law.
-/

import Derived.Test.YtknjpkgnideplaaDoorSectorWritesF
import Derived.Test.YtknjpkgnideplaaDoorSectorWritesG
import Derived.Test.YtknjpkgnideplaaDoorProg
import Derived.KernelRfl

section
open Go Go.Abs
set_option linter.unusedVariables false
namespace P
noncomputable def sha_begin_raw {ρ : Type} (a0 : Int) (k : (List Int) → Bool → Option ρ) : Option ρ :=
  br (a0 == (1 : Int))
    (k
      [(1779033703 : Int), (3144134277 : Int), (1013904242 : Int), (2773480762 : Int), (1359893119 : Int),
        (2600822924 : Int), (528734635 : Int), (1541459225 : Int)]
      true)
    (br (a0 == (2 : Int))
      (k
        [(14680500436340154072 : Int), (7105036623409894663 : Int), (10473403895298186519 : Int),
          (1526699215303891257 : Int), (7436329637833083697 : Int), (10282925794625328401 : Int),
          (15784041429090275239 : Int), (5167115440072839076 : Int)]
        true)
      (br (a0 == (3 : Int))
        (k
          [(7640891576956012808 : Int), (13503953896175478587 : Int), (4354685564936845355 : Int),
            (11912009170470909681 : Int), (5840696475078001361 : Int), (11170449401992604703 : Int),
            (2270897969802886507 : Int), (6620516959819538809 : Int)]
          true)
        (k [(0 : Int), (0 : Int), (0 : Int), (0 : Int), (0 : Int), (0 : Int), (0 : Int), (0 : Int)] false)))
noncomputable def sha_begin {ρ : Type} (a0 : Int) (k : (List Int) → Bool → Option ρ) : Option ρ := shut (sha_begin_raw (ρ := ρ)) a0 k
theorem sha_begin_eq {ρ : Type} (a0 : Int) (k : (List Int) → Bool → Option ρ) : sha_begin a0 k = sha_begin_raw a0 k := by unfold sha_begin; rw [shut_eq]
end P
end

section
open Go Go.Abs
set_option linter.unusedVariables false
namespace P
noncomputable def sha_New_raw {ρ : Type} (a0 : Int) (k : Int → (List Int) → (List Int) → Int → Int → Option ρ) : Option ρ :=
  sha_begin a0 fun (q0 : List Int) (q1 : Bool) =>
    br (!q1)
      (k (0 : Int) [(0 : Int), (0 : Int), (0 : Int), (0 : Int), (0 : Int), (0 : Int), (0 : Int), (0 : Int)] [] (0 : Int)
        (9 : Int))
      (k a0 q0 [] (0 : Int) (0 : Int))
noncomputable def sha_New {ρ : Type} (a0 : Int) (k : Int → (List Int) → (List Int) → Int → Int → Option ρ) : Option ρ := shut (sha_New_raw (ρ := ρ)) a0 k
theorem sha_New_eq {ρ : Type} (a0 : Int) (k : Int → (List Int) → (List Int) → Int → Int → Option ρ) : sha_New a0 k = sha_New_raw a0 k := by unfold sha_New; rw [shut_eq]
end P
end

section
open Go Go.Abs
set_option linter.unusedVariables false
namespace P
noncomputable def sha_Sum_raw {ρ : Type} (a0 : Int) (a1 : List Int) (k : (List Int) → Int → Option ρ) : Option ρ :=
  sha_New a0 fun (q0 : Int) (q1 q2 : List Int) (q3 q4 : Int) =>
    br (q4 != (0 : Int)) (k [] q4)
      (sha_Add q0 q1 q2 q3 a1 fun (q5 : Int) (q6 q7 : List Int) (q8 : Int) =>
        sha_End q5 q6 q7 q8 fun (q9 : List Int) => k q9 (0 : Int))
noncomputable def sha_Sum {ρ : Type} (a0 : Int) (a1 : List Int) (k : (List Int) → Int → Option ρ) : Option ρ := shut (sha_Sum_raw (ρ := ρ)) a0 a1 k
theorem sha_Sum_eq {ρ : Type} (a0 : Int) (a1 : List Int) (k : (List Int) → Int → Option ρ) : sha_Sum a0 a1 k = sha_Sum_raw a0 a1 k := by unfold sha_Sum; rw [shut_eq]
end P
end

section
open Go Go.Abs
set_option linter.unusedVariables false
namespace P
noncomputable def bits_Same_r5 {ρ : Type} (v0 : List Int) (v1 : List Int) (v5 : Int) (v13 : Int) (v14 : Int) (nx : (List Int) → (List Int) → Int → Int → Int → Option ρ) (k0 : (List Int) → (List Int) → Int → Int → Int → Option ρ) : Option ρ :=
  br (decide (v14 < v13))
    (br (decide ((0 : Int) ≤ v14))
      (br (decide (v14 < (↑v0.length : Int)))
        (br (decide ((0 : Int) ≤ v14))
          (br (decide (v14 < (↑v1.length : Int)))
            (nx v0 v1
              (bits BinOp.or IntKind.u8 v5
                (bits BinOp.xor IntKind.u8 (v0.getD v14.toNat (0 : Int)) (v1.getD v14.toNat (0 : Int))))
              v13 (IntKind.i64.wrap (v14 + (1 : Int))))
            none)
          none)
        none)
      none)
    (k0 v0 v1 v5 v13 v14)
noncomputable def bits_Same_L5 {ρ : Type} (v0 : List Int) (v1 : List Int) (v5 : Int) (v13 : Int) (v14 : Int) (k0 : (List Int) → (List Int) → Int → Int → Int → Option ρ) : Option ρ :=
  lp (fun (x : (List Int) × (List Int) × Int × Int × Int) (next : ((List Int) × (List Int) × Int × Int × Int) → Option ρ) (ex : (((List Int) × (List Int) × Int × Int × Int)) → Option ρ) => bits_Same_r5 x.1 x.2.1 x.2.2.1 x.2.2.2.1 x.2.2.2.2 (fun v0 v1 v5 v13 v14 => next (v0, v1, v5, v13, v14)) (fun v0 v1 v5 v13 v14 => ex ((v0, v1, v5, v13, v14)))) (v0, v1, v5, v13, v14) (fun x => k0 x.1 x.2.1 x.2.2.1 x.2.2.2.1 x.2.2.2.2)
noncomputable def bits_Same_l5 {ρ : Type} (v0 : List Int) (v1 : List Int) (v5 : Int) (v13 : Int) (v14 : Int) (k0 : (List Int) → (List Int) → Int → Int → Int → Option ρ) : Option ρ := shut (bits_Same_L5 (ρ := ρ)) v0 v1 v5 v13 v14 k0
theorem bits_Same_l5_eq {ρ : Type} (v0 : List Int) (v1 : List Int) (v5 : Int) (v13 : Int) (v14 : Int) (k0 : (List Int) → (List Int) → Int → Int → Int → Option ρ) : bits_Same_l5 v0 v1 v5 v13 v14 k0 = bits_Same_L5 v0 v1 v5 v13 v14 k0 := by unfold bits_Same_l5; rw [shut_eq]
noncomputable def bits_Same_raw {ρ : Type} (a0 : List Int) (a1 : List Int) (k : Bool → Option ρ) : Option ρ :=
  br ((↑a0.length : Int) != (↑a1.length : Int)) (k false)
    (bits_Same_l5 a0 a1 (0 : Int) (↑a0.length : Int) (0 : Int) fun (q0 q1 : List Int) (q2 q3 q4 : Int) =>
      k (q2 == (0 : Int)))
noncomputable def bits_Same {ρ : Type} (a0 : List Int) (a1 : List Int) (k : Bool → Option ρ) : Option ρ := shut (bits_Same_raw (ρ := ρ)) a0 a1 k
theorem bits_Same_eq {ρ : Type} (a0 : List Int) (a1 : List Int) (k : Bool → Option ρ) : bits_Same a0 a1 k = bits_Same_raw a0 a1 k := by unfold bits_Same; rw [shut_eq]
end P
end

section
open Go Go.Abs
set_option linter.unusedVariables false
namespace P
noncomputable def sector_Read_raw {ρ : Type} (a0 : List Int) (k : Int → Int → Bool → Option ρ) : Option ρ :=
  br ((↑a0.length : Int) != (48 : Int)) (k (0 : Int) (0 : Int) false)
    (br (decide ((16 : Int) ≤ (↑a0.length : Int)))
      (sha_Sum (1 : Int) (List.drop 0 (List.take (Int.toNat (16 : Int)) a0)) fun (q0 : List Int) (q1 : Int) =>
        br (decide ((16 : Int) ≤ (↑a0.length : Int)))
          (br (decide ((↑a0.length : Int) ≤ (↑a0.length : Int)))
            (bits_Same q0 (List.drop 16 (List.take (↑a0.length : Int).toNat a0)) fun (q2 : Bool) =>
              br (!q2) (k (0 : Int) (0 : Int) false)
                (br (decide ((8 : Int) ≤ (↑a0.length : Int)))
                  (bits_Num (List.drop 0 (List.take (Int.toNat (8 : Int)) a0)) fun (q3 : Int) =>
                    br (decide ((16 : Int) ≤ (↑a0.length : Int)))
                      (bits_Num (List.drop 8 (List.take (Int.toNat (16 : Int)) a0)) fun (q4 : Int) =>
                        k q3 q4 true)
                      none)
                  none))
            none)
          none)
      none)
noncomputable def sector_Read {ρ : Type} (a0 : List Int) (k : Int → Int → Bool → Option ρ) : Option ρ := shut (sector_Read_raw (ρ := ρ)) a0 k
theorem sector_Read_eq {ρ : Type} (a0 : List Int) (k : Int → Int → Bool → Option ρ) : sector_Read a0 k = sector_Read_raw a0 k := by unfold sector_Read; rw [shut_eq]
end P
end

section
open Go Go.Abs
set_option linter.unusedVariables false
namespace P
noncomputable def sector_Best_r2_1 {ρ : Type} (v7_0 : List Int) (v7_1 : List Int) (v8 : Int) (h1_0 : Int) (h1_1 : Int) (h2_0 : Int) (h2_1 : Int) (h3_0 : Int) (h4_0 : Int) (nx : (List Int) → (List Int) → Int → Int → Int → Int → Int → Int → Int → Option ρ) (k0 : (List Int) → (List Int) → Int → Int → Int → Int → Int → Int → Int → Option ρ) : Option ρ :=
  br (decide (v8 < (2 : Int)))
    (br (decide (v8 = (↑0 : Int)))
      (sector_Read v7_0 fun (q0 q1 : Int) (q2 : Bool) =>
        br q2
          (br (h4_0 != (0 : Int)) (nx v7_0 v7_1 (IntKind.i64.wrap (v8 + (1 : Int))) h1_0 h1_1 q0 q1 v8 (0 : Int))
            (br (decide (q0 > h2_0)) (nx v7_0 v7_1 (IntKind.i64.wrap (v8 + (1 : Int))) h1_0 h1_1 q0 q1 v8 (0 : Int))
              (nx v7_0 v7_1 (IntKind.i64.wrap (v8 + (1 : Int))) h1_0 h1_1 h2_0 h2_1 h3_0 h4_0)))
          (nx v7_0 v7_1 (IntKind.i64.wrap (v8 + (1 : Int))) h1_0 h1_1 h2_0 h2_1 h3_0 h4_0))
      (br (decide (v8 = (↑1 : Int)))
        (sector_Read v7_1 fun (q3 q4 : Int) (q5 : Bool) =>
          br q5
            (br (h4_0 != (0 : Int)) (nx v7_0 v7_1 (IntKind.i64.wrap (v8 + (1 : Int))) h1_0 h1_1 q3 q4 v8 (0 : Int))
              (br (decide (q3 > h2_0)) (nx v7_0 v7_1 (IntKind.i64.wrap (v8 + (1 : Int))) h1_0 h1_1 q3 q4 v8 (0 : Int))
                (nx v7_0 v7_1 (IntKind.i64.wrap (v8 + (1 : Int))) h1_0 h1_1 h2_0 h2_1 h3_0 h4_0)))
            (nx v7_0 v7_1 (IntKind.i64.wrap (v8 + (1 : Int))) h1_0 h1_1 h2_0 h2_1 h3_0 h4_0))
        none))
    (k0 v7_0 v7_1 v8 h1_0 h1_1 h2_0 h2_1 h3_0 h4_0)
noncomputable def sector_Best_L2_1 {ρ : Type} (v7_0 : List Int) (v7_1 : List Int) (v8 : Int) (h1_0 : Int) (h1_1 : Int) (h2_0 : Int) (h2_1 : Int) (h3_0 : Int) (h4_0 : Int) (k0 : (List Int) → (List Int) → Int → Int → Int → Int → Int → Int → Int → Option ρ) : Option ρ :=
  lp (fun (x : (List Int) × (List Int) × Int × Int × Int × Int × Int × Int × Int) (next : ((List Int) × (List Int) × Int × Int × Int × Int × Int × Int × Int) → Option ρ) (ex : (((List Int) × (List Int) × Int × Int × Int × Int × Int × Int × Int)) → Option ρ) => sector_Best_r2_1 x.1 x.2.1 x.2.2.1 x.2.2.2.1 x.2.2.2.2.1 x.2.2.2.2.2.1 x.2.2.2.2.2.2.1 x.2.2.2.2.2.2.2.1 x.2.2.2.2.2.2.2.2 (fun v7_0 v7_1 v8 h1_0 h1_1 h2_0 h2_1 h3_0 h4_0 => next (v7_0, v7_1, v8, h1_0, h1_1, h2_0, h2_1, h3_0, h4_0)) (fun v7_0 v7_1 v8 h1_0 h1_1 h2_0 h2_1 h3_0 h4_0 => ex ((v7_0, v7_1, v8, h1_0, h1_1, h2_0, h2_1, h3_0, h4_0)))) (v7_0, v7_1, v8, h1_0, h1_1, h2_0, h2_1, h3_0, h4_0) (fun x => k0 x.1 x.2.1 x.2.2.1 x.2.2.2.1 x.2.2.2.2.1 x.2.2.2.2.2.1 x.2.2.2.2.2.2.1 x.2.2.2.2.2.2.2.1 x.2.2.2.2.2.2.2.2)
noncomputable def sector_Best_l2_1 {ρ : Type} (v7_0 : List Int) (v7_1 : List Int) (v8 : Int) (h1_0 : Int) (h1_1 : Int) (h2_0 : Int) (h2_1 : Int) (h3_0 : Int) (h4_0 : Int) (k0 : (List Int) → (List Int) → Int → Int → Int → Int → Int → Int → Int → Option ρ) : Option ρ := shut (sector_Best_L2_1 (ρ := ρ)) v7_0 v7_1 v8 h1_0 h1_1 h2_0 h2_1 h3_0 h4_0 k0
theorem sector_Best_l2_1_eq {ρ : Type} (v7_0 : List Int) (v7_1 : List Int) (v8 : Int) (h1_0 : Int) (h1_1 : Int) (h2_0 : Int) (h2_1 : Int) (h3_0 : Int) (h4_0 : Int) (k0 : (List Int) → (List Int) → Int → Int → Int → Int → Int → Int → Int → Option ρ) : sector_Best_l2_1 v7_0 v7_1 v8 h1_0 h1_1 h2_0 h2_1 h3_0 h4_0 k0 = sector_Best_L2_1 v7_0 v7_1 v8 h1_0 h1_1 h2_0 h2_1 h3_0 h4_0 k0 := by unfold sector_Best_l2_1; rw [shut_eq]
noncomputable def sector_Best_raw {ρ : Type} (a0_0 : List Int) (a0_1 : List Int) (k : Int → Int → Int → Int → Option ρ) : Option ρ :=
  sector_Best_l2_1 a0_0 a0_1 (0 : Int) (0 : Int) (0 : Int) (0 : Int) (0 : Int) (0 : Int) (21 : Int)
    fun (q0 q1 : List Int) (q2 q3 q4 q5 q6 q7 q8 : Int) => k q5 q6 q7 q8
noncomputable def sector_Best {ρ : Type} (a0_0 : List Int) (a0_1 : List Int) (k : Int → Int → Int → Int → Option ρ) : Option ρ := shut (sector_Best_raw (ρ := ρ)) a0_0 a0_1 k
theorem sector_Best_eq {ρ : Type} (a0_0 : List Int) (a0_1 : List Int) (k : Int → Int → Int → Int → Option ρ) : sector_Best a0_0 a0_1 k = sector_Best_raw a0_0 a0_1 k := by unfold sector_Best; rw [shut_eq]
end P
end

section
open Go Go.Abs
set_option linter.unusedVariables false
namespace P
noncomputable def bits_Join_raw {ρ : Type} (a0 : List (List Int)) (k : (List Int) → Option ρ) : Option ρ :=
  slices_Concat_byte a0 fun (q0 : List Int) => k q0
noncomputable def bits_Join {ρ : Type} (a0 : List (List Int)) (k : (List Int) → Option ρ) : Option ρ := shut (bits_Join_raw (ρ := ρ)) a0 k
theorem bits_Join_eq {ρ : Type} (a0 : List (List Int)) (k : (List Int) → Option ρ) : bits_Join a0 k = bits_Join_raw a0 k := by unfold bits_Join; rw [shut_eq]
end P
end

section
open Go Go.Abs
set_option linter.unusedVariables false
namespace P
noncomputable def sector_Bytes_raw {ρ : Type} (a0_Epoch : Int) (a0_Bound : Int) (k : (List Int) → Option ρ) : Option ρ :=
  bits_Be a0_Epoch (8 : Int) fun (q0 : List Int) =>
    bits_Be a0_Bound (8 : Int) fun (q1 : List Int) =>
      bits_Join [q0, q1] fun (q2 : List Int) =>
        sha_Sum (1 : Int) q2 fun (q3 : List Int) (q4 : Int) =>
          br
            (decide
              ((q2.length + q3.length) * 1 ≤
                140737488355328))
            (k (q2 ++ q3)) none
noncomputable def sector_Bytes {ρ : Type} (a0_Epoch : Int) (a0_Bound : Int) (k : (List Int) → Option ρ) : Option ρ := shut (sector_Bytes_raw (ρ := ρ)) a0_Epoch a0_Bound k
theorem sector_Bytes_eq {ρ : Type} (a0_Epoch : Int) (a0_Bound : Int) (k : (List Int) → Option ρ) : sector_Bytes a0_Epoch a0_Bound k = sector_Bytes_raw a0_Epoch a0_Bound k := by unfold sector_Bytes; rw [shut_eq]
end P
end

section
open Go Go.Abs
set_option linter.unusedVariables false
namespace P
noncomputable def sector_New_raw {ρ : Type}  (k : (List Int) → (List Int) → Option ρ) : Option ρ :=
  sector_Bytes (0 : Int) (0 : Int) fun (q0 : List Int) =>
    sector_Bytes (0 : Int) (0 : Int) fun (q1 : List Int) => k q0 q1
noncomputable def sector_New {ρ : Type}  (k : (List Int) → (List Int) → Option ρ) : Option ρ := shut (sector_New_raw (ρ := ρ))  k
theorem sector_New_eq {ρ : Type}  (k : (List Int) → (List Int) → Option ρ) : sector_New  k = sector_New_raw  k := by unfold sector_New; rw [shut_eq]
end P
end

section
open Go Go.Abs
set_option linter.unusedVariables false
namespace P
noncomputable def L28_awake_raw {ρ : Type}  (k : Bool → Option ρ) : Option ρ :=
  sector_New fun (q0 q1 : List Int) =>
    sector_Best q0 q1 fun (q2 q3 q4 q5 : Int) =>
      sector_Best [] [] fun (q6 q7 q8 q9 : Int) =>
        br (q2 == (0 : Int) && (q3 == (0 : Int) && true))
          (br (q4 == (0 : Int)) (br (q5 == (0 : Int)) (k (q9 == (21 : Int))) (k false)) (k false)) (k false)
noncomputable def L28_awake {ρ : Type}  (k : Bool → Option ρ) : Option ρ := shut (L28_awake_raw (ρ := ρ))  k
theorem L28_awake_eq {ρ : Type}  (k : Bool → Option ρ) : L28_awake  k = L28_awake_raw  k := by unfold L28_awake; rw [shut_eq]
end P
end

section
open Go Go.Abs
set_option linter.unusedVariables false
namespace P
noncomputable def sector_copied_raw {ρ : Type} (a0_0 : List Int) (a0_1 : List Int) (k : (List Int) → (List Int) → Option ρ) : Option ρ :=
  slices_Clone_byte a0_0 fun (q0 : List Int) => slices_Clone_byte a0_1 fun (q1 : List Int) => k q0 q1
noncomputable def sector_copied {ρ : Type} (a0_0 : List Int) (a0_1 : List Int) (k : (List Int) → (List Int) → Option ρ) : Option ρ := shut (sector_copied_raw (ρ := ρ)) a0_0 a0_1 k
theorem sector_copied_eq {ρ : Type} (a0_0 : List Int) (a0_1 : List Int) (k : (List Int) → (List Int) → Option ρ) : sector_copied a0_0 a0_1 k = sector_copied_raw a0_0 a0_1 k := by unfold sector_copied; rw [shut_eq]
end P
end

section
open Go Go.Abs
set_option linter.unusedVariables false
namespace P
noncomputable def sector_laid_raw {ρ : Type} (a0_0 : List Int) (a0_1 : List Int) (a1 : List Int) (k : (List Int) → (List Int) → Int → Int → Option ρ) : Option ρ :=
  sector_copied a0_0 a0_1 fun (q0 q1 : List Int) =>
    sector_Best a0_0 a0_1 fun (q2 q3 q4 q5 : Int) =>
      br (q5 != (0 : Int)) (k q0 q1 (0 : Int) q5)
        (slices_Clone_byte a1 fun (q6 : List Int) =>
          br (decide (IntKind.i64.wrap ((1 : Int) - q4) = (↑0 : Int)))
            (k q6 q1 (IntKind.i64.wrap ((1 : Int) - q4)) (0 : Int))
            (br (decide (IntKind.i64.wrap ((1 : Int) - q4) = (↑1 : Int)))
              (k q0 q6 (IntKind.i64.wrap ((1 : Int) - q4)) (0 : Int)) none))
noncomputable def sector_laid {ρ : Type} (a0_0 : List Int) (a0_1 : List Int) (a1 : List Int) (k : (List Int) → (List Int) → Int → Int → Option ρ) : Option ρ := shut (sector_laid_raw (ρ := ρ)) a0_0 a0_1 a1 k
theorem sector_laid_eq {ρ : Type} (a0_0 : List Int) (a0_1 : List Int) (a1 : List Int) (k : (List Int) → (List Int) → Int → Int → Option ρ) : sector_laid a0_0 a0_1 a1 k = sector_laid_raw a0_0 a0_1 a1 k := by unfold sector_laid; rw [shut_eq]
end P
end

section
open Go Go.Abs
set_option linter.unusedVariables false
namespace P
noncomputable def sector_Write_raw {ρ : Type} (a0_0 : List Int) (a0_1 : List Int) (a1_Epoch : Int) (a1_Bound : Int) (k : (List Int) → (List Int) → Int → Int → Option ρ) : Option ρ :=
  sector_Bytes a1_Epoch a1_Bound fun (q0 : List Int) =>
    sector_laid a0_0 a0_1 q0 fun (q1 q2 : List Int) (q3 q4 : Int) => k q1 q2 q3 q4
noncomputable def sector_Write {ρ : Type} (a0_0 : List Int) (a0_1 : List Int) (a1_Epoch : Int) (a1_Bound : Int) (k : (List Int) → (List Int) → Int → Int → Option ρ) : Option ρ := shut (sector_Write_raw (ρ := ρ)) a0_0 a0_1 a1_Epoch a1_Bound k
theorem sector_Write_eq {ρ : Type} (a0_0 : List Int) (a0_1 : List Int) (a1_Epoch : Int) (a1_Bound : Int) (k : (List Int) → (List Int) → Int → Int → Option ρ) : sector_Write a0_0 a0_1 a1_Epoch a1_Bound k = sector_Write_raw a0_0 a0_1 a1_Epoch a1_Bound k := by unfold sector_Write; rw [shut_eq]
end P
end

section
open Go Go.Abs
set_option linter.unusedVariables false
namespace P
noncomputable def R01_Same_r4 {ρ : Type} (v0 : List Int) (v1 : List Int) (v5 : Int) (nx : (List Int) → (List Int) → Int → Option ρ) (k0 : (List Int) → (List Int) → Int → Option ρ) (k1 : Bool → Option ρ) : Option ρ :=
  br (decide (v5 < (↑v0.length : Int)))
    (br (decide ((0 : Int) ≤ v5))
      (br (decide (v5 < (↑v0.length : Int)))
        (br (decide ((0 : Int) ≤ v5))
          (br (decide (v5 < (↑v1.length : Int)))
            (br (v0.getD v5.toNat (0 : Int) != v1.getD v5.toNat (0 : Int)) (k1 false)
              (nx v0 v1 (IntKind.i64.wrap (v5 + (1 : Int)))))
            none)
          none)
        none)
      none)
    (k0 v0 v1 v5)
noncomputable def R01_Same_L4 {ρ : Type} (v0 : List Int) (v1 : List Int) (v5 : Int) (k0 : (List Int) → (List Int) → Int → Option ρ) (k1 : Bool → Option ρ) : Option ρ :=
  lp (fun (x : (List Int) × (List Int) × Int) (next : ((List Int) × (List Int) × Int) → Option ρ) (ex : (((List Int) × (List Int) × Int) ⊕ ((Bool))) → Option ρ) => R01_Same_r4 x.1 x.2.1 x.2.2 (fun v0 v1 v5 => next (v0, v1, v5)) (fun v0 v1 v5 => ex (.inl (v0, v1, v5))) (fun v4 => ex (.inr v4))) (v0, v1, v5) (Sum.elim (fun x => k0 x.1 x.2.1 x.2.2) (fun x => k1 x))
noncomputable def R01_Same_l4 {ρ : Type} (v0 : List Int) (v1 : List Int) (v5 : Int) (k0 : (List Int) → (List Int) → Int → Option ρ) (k1 : Bool → Option ρ) : Option ρ := shut (R01_Same_L4 (ρ := ρ)) v0 v1 v5 k0 k1
theorem R01_Same_l4_eq {ρ : Type} (v0 : List Int) (v1 : List Int) (v5 : Int) (k0 : (List Int) → (List Int) → Int → Option ρ) (k1 : Bool → Option ρ) : R01_Same_l4 v0 v1 v5 k0 k1 = R01_Same_L4 v0 v1 v5 k0 k1 := by unfold R01_Same_l4; rw [shut_eq]
noncomputable def R01_Same_raw {ρ : Type} (a0 : List Int) (a1 : List Int) (k : Bool → Option ρ) : Option ρ :=
  br ((↑a0.length : Int) != (↑a1.length : Int)) (k false)
    (R01_Same_l4 a0 a1 (0 : Int) (fun (q0 q1 : List Int) (q2 : Int) => k true) fun (q3 : Bool) => k q3)
noncomputable def R01_Same {ρ : Type} (a0 : List Int) (a1 : List Int) (k : Bool → Option ρ) : Option ρ := shut (R01_Same_raw (ρ := ρ)) a0 a1 k
theorem R01_Same_eq {ρ : Type} (a0 : List Int) (a1 : List Int) (k : Bool → Option ρ) : R01_Same a0 a1 k = R01_Same_raw a0 a1 k := by unfold R01_Same; rw [shut_eq]
end P
end

section
open Go Go.Abs
set_option linter.unusedVariables false
namespace P
noncomputable def R28_Same_raw {ρ : Type} (a0_0 : List Int) (a0_1 : List Int) (a1_0 : List Int) (a1_1 : List Int) (k : Bool → Option ρ) : Option ρ :=
  R01_Same a0_0 a1_0 fun (q0 : Bool) => br q0 (R01_Same a0_1 a1_1 fun (q1 : Bool) => k q1) (k false)
noncomputable def R28_Same {ρ : Type} (a0_0 : List Int) (a0_1 : List Int) (a1_0 : List Int) (a1_1 : List Int) (k : Bool → Option ρ) : Option ρ := shut (R28_Same_raw (ρ := ρ)) a0_0 a0_1 a1_0 a1_1 k
theorem R28_Same_eq {ρ : Type} (a0_0 : List Int) (a0_1 : List Int) (a1_0 : List Int) (a1_1 : List Int) (k : Bool → Option ρ) : R28_Same a0_0 a0_1 a1_0 a1_1 k = R28_Same_raw a0_0 a0_1 a1_0 a1_1 k := by unfold R28_Same; rw [shut_eq]
end P
end

section
open Go Go.Abs
set_option linter.unusedVariables false
namespace P
noncomputable def R01_Num_r3 {ρ : Type} (v0 : List Int) (v3 : Int) (v4 : Int) (nx : (List Int) → Int → Int → Option ρ) (k0 : (List Int) → Int → Int → Option ρ) : Option ρ :=
  br (decide (v4 < (↑v0.length : Int)))
    (br (decide ((0 : Int) ≤ v4))
      (br (decide (v4 < (↑v0.length : Int)))
        (nx v0 (IntKind.u64.wrap (IntKind.u64.wrap (v3 * (256 : Int)) + IntKind.u64.wrap (v0.getD v4.toNat (0 : Int))))
          (IntKind.i64.wrap (v4 + (1 : Int))))
        none)
      none)
    (k0 v0 v3 v4)
noncomputable def R01_Num_L3 {ρ : Type} (v0 : List Int) (v3 : Int) (v4 : Int) (k0 : (List Int) → Int → Int → Option ρ) : Option ρ :=
  lp (fun (x : (List Int) × Int × Int) (next : ((List Int) × Int × Int) → Option ρ) (ex : (((List Int) × Int × Int)) → Option ρ) => R01_Num_r3 x.1 x.2.1 x.2.2 (fun v0 v3 v4 => next (v0, v3, v4)) (fun v0 v3 v4 => ex ((v0, v3, v4)))) (v0, v3, v4) (fun x => k0 x.1 x.2.1 x.2.2)
noncomputable def R01_Num_l3 {ρ : Type} (v0 : List Int) (v3 : Int) (v4 : Int) (k0 : (List Int) → Int → Int → Option ρ) : Option ρ := shut (R01_Num_L3 (ρ := ρ)) v0 v3 v4 k0
theorem R01_Num_l3_eq {ρ : Type} (v0 : List Int) (v3 : Int) (v4 : Int) (k0 : (List Int) → Int → Int → Option ρ) : R01_Num_l3 v0 v3 v4 k0 = R01_Num_L3 v0 v3 v4 k0 := by unfold R01_Num_l3; rw [shut_eq]
noncomputable def R01_Num_raw {ρ : Type} (a0 : List Int) (k : Int → Option ρ) : Option ρ :=
  R01_Num_l3 a0 (0 : Int) (0 : Int) fun (q0 : List Int) (q1 q2 : Int) => k q1
noncomputable def R01_Num {ρ : Type} (a0 : List Int) (k : Int → Option ρ) : Option ρ := shut (R01_Num_raw (ρ := ρ)) a0 k
theorem R01_Num_eq {ρ : Type} (a0 : List Int) (k : Int → Option ρ) : R01_Num a0 k = R01_Num_raw a0 k := by unfold R01_Num; rw [shut_eq]
end P
end

section
open Go Go.Abs
set_option linter.unusedVariables false
namespace P
noncomputable def R01_Be_r5 {ρ : Type} (v0 : Int) (v6 : Int) (h0 : List Int) (nx : Int → Int → (List Int) → Option ρ) (k0 : Int → Int → (List Int) → Option ρ) : Option ρ :=
  br (decide (v6 ≥ (0 : Int)))
    (br (decide ((0 : Int) ≤ v6))
      (br (decide (v6 < (↑h0.length : Int)))
        (nx (v0.fdiv ((2 : Int) ^ 8)) (IntKind.i64.wrap (v6 - (1 : Int)))
          (h0.set v6.toNat (IntKind.u8.wrap (bits BinOp.and IntKind.u64 v0 (255 : Int)))))
        none)
      none)
    (k0 v0 v6 h0)
noncomputable def R01_Be_L5 {ρ : Type} (v0 : Int) (v6 : Int) (h0 : List Int) (k0 : Int → Int → (List Int) → Option ρ) : Option ρ :=
  lp (fun (x : Int × Int × (List Int)) (next : (Int × Int × (List Int)) → Option ρ) (ex : ((Int × Int × (List Int))) → Option ρ) => R01_Be_r5 x.1 x.2.1 x.2.2 (fun v0 v6 h0 => next (v0, v6, h0)) (fun v0 v6 h0 => ex ((v0, v6, h0)))) (v0, v6, h0) (fun x => k0 x.1 x.2.1 x.2.2)
noncomputable def R01_Be_l5 {ρ : Type} (v0 : Int) (v6 : Int) (h0 : List Int) (k0 : Int → Int → (List Int) → Option ρ) : Option ρ := shut (R01_Be_L5 (ρ := ρ)) v0 v6 h0 k0
theorem R01_Be_l5_eq {ρ : Type} (v0 : Int) (v6 : Int) (h0 : List Int) (k0 : Int → Int → (List Int) → Option ρ) : R01_Be_l5 v0 v6 h0 k0 = R01_Be_L5 v0 v6 h0 k0 := by unfold R01_Be_l5; rw [shut_eq]
noncomputable def R01_Be_raw {ρ : Type} (a0 : Int) (a1 : Int) (k : (List Int) → Option ρ) : Option ρ :=
  br (decide (a1 < (0 : Int))) (k [])
    (br (decide (a1 > (65536 : Int))) (k [])
      (br (decide ((0 : Int) ≤ a1))
        (br (decide (a1 ≤ a1))
          (br (decide (a1 * (↑1 : Int) ≤ (↑140737488355328 : Int)))
            (R01_Be_l5 a0 (IntKind.i64.wrap (a1 - (1 : Int))) (List.replicate a1.toNat (0 : Int))
              fun (q0 q1 : Int) (q2 : List Int) => k q2)
            none)
          none)
        none))
noncomputable def R01_Be {ρ : Type} (a0 : Int) (a1 : Int) (k : (List Int) → Option ρ) : Option ρ := shut (R01_Be_raw (ρ := ρ)) a0 a1 k
theorem R01_Be_eq {ρ : Type} (a0 : Int) (a1 : Int) (k : (List Int) → Option ρ) : R01_Be a0 a1 k = R01_Be_raw a0 a1 k := by unfold R01_Be; rw [shut_eq]
end P
end

section
open Go Go.Abs
set_option linter.unusedVariables false
namespace P
noncomputable def R07_Block_raw {ρ : Type} (a0 : Int) (k : Int → Option ρ) : Option ρ :=
  br (a0 == (1 : Int)) (k (64 : Int)) (k (128 : Int))
noncomputable def R07_Block {ρ : Type} (a0 : Int) (k : Int → Option ρ) : Option ρ := shut (R07_Block_raw (ρ := ρ)) a0 k
theorem R07_Block_eq {ρ : Type} (a0 : Int) (k : Int → Option ρ) : R07_Block a0 k = R07_Block_raw a0 k := by unfold R07_Block; rw [shut_eq]
end P
end

section
open Go Go.Abs
set_option linter.unusedVariables false
namespace P
noncomputable def R01_Join_r3 {ρ : Type} (v0 : List (List Int)) (v4 : Int) (h0 : List Int) (nx : (List (List Int)) → Int → (List Int) → Option ρ) (k0 : (List (List Int)) → Int → (List Int) → Option ρ) : Option ρ :=
  br (decide (v4 < (↑v0.length : Int)))
    (br (decide ((0 : Int) ≤ v4))
      (br (decide (v4 < (↑v0.length : Int)))
        (br
          (decide
            ((h0.length + (v0.getD v4.toNat []).length) *
                1 ≤
              140737488355328))
          (nx v0 (IntKind.i64.wrap (v4 + (1 : Int))) (h0 ++ v0.getD v4.toNat [])) none)
        none)
      none)
    (k0 v0 v4 h0)
noncomputable def R01_Join_L3 {ρ : Type} (v0 : List (List Int)) (v4 : Int) (h0 : List Int) (k0 : (List (List Int)) → Int → (List Int) → Option ρ) : Option ρ :=
  lp (fun (x : (List (List Int)) × Int × (List Int)) (next : ((List (List Int)) × Int × (List Int)) → Option ρ) (ex : (((List (List Int)) × Int × (List Int))) → Option ρ) => R01_Join_r3 x.1 x.2.1 x.2.2 (fun v0 v4 h0 => next (v0, v4, h0)) (fun v0 v4 h0 => ex ((v0, v4, h0)))) (v0, v4, h0) (fun x => k0 x.1 x.2.1 x.2.2)
noncomputable def R01_Join_l3 {ρ : Type} (v0 : List (List Int)) (v4 : Int) (h0 : List Int) (k0 : (List (List Int)) → Int → (List Int) → Option ρ) : Option ρ := shut (R01_Join_L3 (ρ := ρ)) v0 v4 h0 k0
theorem R01_Join_l3_eq {ρ : Type} (v0 : List (List Int)) (v4 : Int) (h0 : List Int) (k0 : (List (List Int)) → Int → (List Int) → Option ρ) : R01_Join_l3 v0 v4 h0 k0 = R01_Join_L3 v0 v4 h0 k0 := by unfold R01_Join_l3; rw [shut_eq]
noncomputable def R01_Join_raw {ρ : Type} (a0 : List (List Int)) (k : (List Int) → Option ρ) : Option ρ :=
  R01_Join_l3 a0 (0 : Int) [] fun (q0 : List (List Int)) (q1 : Int) (q2 : List Int) => k q2
noncomputable def R01_Join {ρ : Type} (a0 : List (List Int)) (k : (List Int) → Option ρ) : Option ρ := shut (R01_Join_raw (ρ := ρ)) a0 k
theorem R01_Join_eq {ρ : Type} (a0 : List (List Int)) (k : (List Int) → Option ρ) : R01_Join a0 k = R01_Join_raw a0 k := by unfold R01_Join; rw [shut_eq]
end P
end

section
open Go Go.Abs
set_option linter.unusedVariables false
namespace P
noncomputable def R07_roots256_raw {ρ : Type}  (k : (List Int) → Option ρ) : Option ρ :=
  k
    [(1116352408 : Int), (1899447441 : Int), (3049323471 : Int), (3921009573 : Int), (961987163 : Int),
      (1508970993 : Int), (2453635748 : Int), (2870763221 : Int), (3624381080 : Int), (310598401 : Int),
      (607225278 : Int), (1426881987 : Int), (1925078388 : Int), (2162078206 : Int), (2614888103 : Int),
      (3248222580 : Int), (3835390401 : Int), (4022224774 : Int), (264347078 : Int), (604807628 : Int), (770255983 : Int),
      (1249150122 : Int), (1555081692 : Int), (1996064986 : Int), (2554220882 : Int), (2821834349 : Int),
      (2952996808 : Int), (3210313671 : Int), (3336571891 : Int), (3584528711 : Int), (113926993 : Int),
      (338241895 : Int), (666307205 : Int), (773529912 : Int), (1294757372 : Int), (1396182291 : Int), (1695183700 : Int),
      (1986661051 : Int), (2177026350 : Int), (2456956037 : Int), (2730485921 : Int), (2820302411 : Int),
      (3259730800 : Int), (3345764771 : Int), (3516065817 : Int), (3600352804 : Int), (4094571909 : Int),
      (275423344 : Int), (430227734 : Int), (506948616 : Int), (659060556 : Int), (883997877 : Int), (958139571 : Int),
      (1322822218 : Int), (1537002063 : Int), (1747873779 : Int), (1955562222 : Int), (2024104815 : Int),
      (2227730452 : Int), (2361852424 : Int), (2428436474 : Int), (2756734187 : Int), (3204031479 : Int),
      (3329325298 : Int)]
noncomputable def R07_roots256 {ρ : Type}  (k : (List Int) → Option ρ) : Option ρ := shut (R07_roots256_raw (ρ := ρ))  k
theorem R07_roots256_eq {ρ : Type}  (k : (List Int) → Option ρ) : R07_roots256  k = R07_roots256_raw  k := by unfold R07_roots256; rw [shut_eq]
end P
end

section
open Go Go.Abs
set_option linter.unusedVariables false
namespace P
noncomputable def R07_roots512_raw {ρ : Type}  (k : (List Int) → Option ρ) : Option ρ :=
  k
    [(4794697086780616226 : Int), (8158064640168781261 : Int), (13096744586834688815 : Int), (16840607885511220156 : Int),
      (4131703408338449720 : Int), (6480981068601479193 : Int), (10538285296894168987 : Int),
      (12329834152419229976 : Int), (15566598209576043074 : Int), (1334009975649890238 : Int),
      (2608012711638119052 : Int), (6128411473006802146 : Int), (8268148722764581231 : Int), (9286055187155687089 : Int),
      (11230858885718282805 : Int), (13951009754708518548 : Int), (16472876342353939154 : Int),
      (17275323862435702243 : Int), (1135362057144423861 : Int), (2597628984639134821 : Int), (3308224258029322869 : Int),
      (5365058923640841347 : Int), (6679025012923562964 : Int), (8573033837759648693 : Int), (10970295158949994411 : Int),
      (12119686244451234320 : Int), (12683024718118986047 : Int), (13788192230050041572 : Int),
      (14330467153632333762 : Int), (15395433587784984357 : Int), (489312712824947311 : Int), (1452737877330783856 : Int),
      (2861767655752347644 : Int), (3322285676063803686 : Int), (5560940570517711597 : Int), (5996557281743188959 : Int),
      (7280758554555802590 : Int), (8532644243296465576 : Int), (9350256976987008742 : Int), (10552545826968843579 : Int),
      (11727347734174303076 : Int), (12113106623233404929 : Int), (14000437183269869457 : Int),
      (14369950271660146224 : Int), (15101387698204529176 : Int), (15463397548674623760 : Int),
      (17586052441742319658 : Int), (1182934255886127544 : Int), (1847814050463011016 : Int), (2177327727835720531 : Int),
      (2830643537854262169 : Int), (3796741975233480872 : Int), (4115178125766777443 : Int), (5681478168544905931 : Int),
      (6601373596472566643 : Int), (7507060721942968483 : Int), (8399075790359081724 : Int), (8693463985226723168 : Int),
      (9568029438360202098 : Int), (10144078919501101548 : Int), (10430055236837252648 : Int),
      (11840083180663258601 : Int), (13761210420658862357 : Int), (14299343276471374635 : Int),
      (14566680578165727644 : Int), (15097957966210449927 : Int), (16922976911328602910 : Int),
      (17689382322260857208 : Int), (500013540394364858 : Int), (748580250866718886 : Int), (1242879168328830382 : Int),
      (1977374033974150939 : Int), (2944078676154940804 : Int), (3659926193048069267 : Int), (4368137639120453308 : Int),
      (4836135668995329356 : Int), (5532061633213252278 : Int), (6448918945643986474 : Int), (6902733635092675308 : Int),
      (7801388544844847127 : Int)]
noncomputable def R07_roots512 {ρ : Type}  (k : (List Int) → Option ρ) : Option ρ := shut (R07_roots512_raw (ρ := ρ))  k
theorem R07_roots512_eq {ρ : Type}  (k : (List Int) → Option ρ) : R07_roots512  k = R07_roots512_raw  k := by unfold R07_roots512; rw [shut_eq]
end P
end

section
open Go Go.Abs
set_option linter.unusedVariables false
namespace P
noncomputable def R07_right_raw {ρ : Type} (a0 : Int) (a1 : Int) (a2 : Bool) (k : Int → Option ρ) : Option ρ :=
  br a2
    (br (decide (a1 < (0 : Int))) none
      (br (decide (IntKind.i64.wrap ((64 : Int) - a1) < (0 : Int))) none
        (k
          (bits BinOp.or IntKind.u64 (a0.fdiv ((2 : Int) ^ min a1.toNat 64))
            (IntKind.u64.wrap (a0 * (2 : Int) ^ min (IntKind.i64.wrap ((64 : Int) - a1)).toNat 64))))))
    (br (decide (a1 < (0 : Int))) none
      (br (decide (IntKind.i64.wrap ((32 : Int) - a1) < (0 : Int))) none
        (k
          (bits BinOp.or IntKind.u64 (a0.fdiv ((2 : Int) ^ min a1.toNat 64))
            (bits BinOp.and IntKind.u64
              (IntKind.u64.wrap (a0 * (2 : Int) ^ min (IntKind.i64.wrap ((32 : Int) - a1)).toNat 64))
              (4294967295 : Int))))))
noncomputable def R07_right {ρ : Type} (a0 : Int) (a1 : Int) (a2 : Bool) (k : Int → Option ρ) : Option ρ := shut (R07_right_raw (ρ := ρ)) a0 a1 a2 k
theorem R07_right_eq {ρ : Type} (a0 : Int) (a1 : Int) (a2 : Bool) (k : Int → Option ρ) : R07_right a0 a1 a2 k = R07_right_raw a0 a1 a2 k := by unfold R07_right; rw [shut_eq]
end P
end

section
open Go Go.Abs
set_option linter.unusedVariables false
namespace P
noncomputable def R07_mix_raw {ρ : Type} (a0 : Int) (a1 : Int) (a2 : Int) (a3 : Int) (a4 : Bool) (a5 : Bool) (k : Int → Option ρ) : Option ρ :=
  br (decide (a3 < (0 : Int))) none
    (br (!a4)
      (R07_right a0 a3 a5 fun (q0 : Int) =>
        R07_right a0 a1 a5 fun (q1 : Int) =>
          R07_right a0 a2 a5 fun (q2 : Int) => k (bits BinOp.xor IntKind.u64 (bits BinOp.xor IntKind.u64 q1 q2) q0))
      (R07_right a0 a1 a5 fun (q3 : Int) =>
        R07_right a0 a2 a5 fun (q4 : Int) =>
          k
            (bits BinOp.xor IntKind.u64 (bits BinOp.xor IntKind.u64 q3 q4)
              (a0.fdiv ((2 : Int) ^ min a3.toNat 64)))))
noncomputable def R07_mix {ρ : Type} (a0 : Int) (a1 : Int) (a2 : Int) (a3 : Int) (a4 : Bool) (a5 : Bool) (k : Int → Option ρ) : Option ρ := shut (R07_mix_raw (ρ := ρ)) a0 a1 a2 a3 a4 a5 k
theorem R07_mix_eq {ρ : Type} (a0 : Int) (a1 : Int) (a2 : Int) (a3 : Int) (a4 : Bool) (a5 : Bool) (k : Int → Option ρ) : R07_mix a0 a1 a2 a3 a4 a5 k = R07_mix_raw a0 a1 a2 a3 a4 a5 k := by unfold R07_mix; rw [shut_eq]
end P
end

section
open Go Go.Abs
set_option linter.unusedVariables false
namespace P
noncomputable def R07_words_r6 {ρ : Type} (v0 : List Int) (v1 : Bool) (v2 : Int) (v3 : Int) (v9 : Int) (v11 : Int) (h0 : List Int) (nx : (List Int) → Bool → Int → Int → Int → Int → (List Int) → Option ρ) (k0 : (List Int) → Bool → Int → Int → Int → Int → (List Int) → Option ρ) : Option ρ :=
  br (decide (v11 < v2))
    (br (decide (v11 < (16 : Int)))
      (br (decide ((0 : Int) ≤ IntKind.i64.wrap (v11 * v9)))
        (br (decide (IntKind.i64.wrap (v11 * v9) ≤ IntKind.i64.wrap (IntKind.i64.wrap (v11 * v9) + v9)))
          (br (decide (IntKind.i64.wrap (IntKind.i64.wrap (v11 * v9) + v9) ≤ (↑v0.length : Int)))
            (R01_Num
              (List.drop (IntKind.i64.wrap (v11 * v9)).toNat
                (List.take (IntKind.i64.wrap (IntKind.i64.wrap (v11 * v9) + v9)).toNat v0))
              fun (q0 : Int) =>
              br
                (decide
                  ((h0.length + 1) *
                      8 ≤
                    140737488355328))
                (nx v0 v1 v2 v3 v9 (IntKind.i64.wrap (v11 + (1 : Int))) (h0 ++ [q0])) none)
            none)
          none)
        none)
      (br (decide ((0 : Int) ≤ IntKind.i64.wrap (v11 - (15 : Int))))
        (br (decide (IntKind.i64.wrap (v11 - (15 : Int)) < (↑h0.length : Int)))
          (R07_mix (h0.getD (IntKind.i64.wrap (v11 - (15 : Int))).toNat (0 : Int)) (7 : Int) (18 : Int) (3 : Int) true
            false fun (q1 : Int) =>
            br (decide ((0 : Int) ≤ IntKind.i64.wrap (v11 - (2 : Int))))
              (br (decide (IntKind.i64.wrap (v11 - (2 : Int)) < (↑h0.length : Int)))
                (R07_mix (h0.getD (IntKind.i64.wrap (v11 - (2 : Int))).toNat (0 : Int)) (17 : Int) (19 : Int) (10 : Int)
                  true false fun (q2 : Int) =>
                  br v1
                    (br (decide ((0 : Int) ≤ IntKind.i64.wrap (v11 - (15 : Int))))
                      (br (decide (IntKind.i64.wrap (v11 - (15 : Int)) < (↑h0.length : Int)))
                        (R07_mix (h0.getD (IntKind.i64.wrap (v11 - (15 : Int))).toNat (0 : Int)) (1 : Int) (8 : Int)
                          (7 : Int) true true fun (q3 : Int) =>
                          br (decide ((0 : Int) ≤ IntKind.i64.wrap (v11 - (2 : Int))))
                            (br (decide (IntKind.i64.wrap (v11 - (2 : Int)) < (↑h0.length : Int)))
                              (R07_mix (h0.getD (IntKind.i64.wrap (v11 - (2 : Int))).toNat (0 : Int)) (19 : Int)
                                (61 : Int) (6 : Int) true true fun (q4 : Int) =>
                                br (decide ((0 : Int) ≤ IntKind.i64.wrap (v11 - (7 : Int))))
                                  (br (decide (IntKind.i64.wrap (v11 - (7 : Int)) < (↑h0.length : Int)))
                                    (br (decide ((0 : Int) ≤ IntKind.i64.wrap (v11 - (16 : Int))))
                                      (br (decide (IntKind.i64.wrap (v11 - (16 : Int)) < (↑h0.length : Int)))
                                        (br
                                          (decide
                                            ((h0.length + 1) *
                                                8 ≤
                                              140737488355328))
                                          (nx v0 v1 v2 v3 v9 (IntKind.i64.wrap (v11 + (1 : Int)))
                                            (h0 ++
                                              [bits BinOp.and IntKind.u64
                                                  (IntKind.u64.wrap
                                                    (IntKind.u64.wrap
                                                        (IntKind.u64.wrap
                                                            (q4 +
                                                              h0.getD (IntKind.i64.wrap (v11 - (7 : Int))).toNat
                                                                (0 : Int)) +
                                                          q3) +
                                                      h0.getD (IntKind.i64.wrap (v11 - (16 : Int))).toNat (0 : Int)))
                                                  v3]))
                                          none)
                                        none)
                                      none)
                                    none)
                                  none)
                              none)
                            none)
                        none)
                      none)
                    (br (decide ((0 : Int) ≤ IntKind.i64.wrap (v11 - (7 : Int))))
                      (br (decide (IntKind.i64.wrap (v11 - (7 : Int)) < (↑h0.length : Int)))
                        (br (decide ((0 : Int) ≤ IntKind.i64.wrap (v11 - (16 : Int))))
                          (br (decide (IntKind.i64.wrap (v11 - (16 : Int)) < (↑h0.length : Int)))
                            (br
                              (decide
                                ((h0.length + 1) *
                                    8 ≤
                                  140737488355328))
                              (nx v0 v1 v2 v3 v9 (IntKind.i64.wrap (v11 + (1 : Int)))
                                (h0 ++
                                  [bits BinOp.and IntKind.u64
                                      (IntKind.u64.wrap
                                        (IntKind.u64.wrap
                                            (IntKind.u64.wrap
                                                (q2 + h0.getD (IntKind.i64.wrap (v11 - (7 : Int))).toNat (0 : Int)) +
                                              q1) +
                                          h0.getD (IntKind.i64.wrap (v11 - (16 : Int))).toNat (0 : Int)))
                                      v3]))
                              none)
                            none)
                          none)
                        none)
                      none))
                none)
              none)
          none)
        none))
    (k0 v0 v1 v2 v3 v9 v11 h0)
noncomputable def R07_words_L6 {ρ : Type} (v0 : List Int) (v1 : Bool) (v2 : Int) (v3 : Int) (v9 : Int) (v11 : Int) (h0 : List Int) (k0 : (List Int) → Bool → Int → Int → Int → Int → (List Int) → Option ρ) : Option ρ :=
  lp (fun (x : (List Int) × Bool × Int × Int × Int × Int × (List Int)) (next : ((List Int) × Bool × Int × Int × Int × Int × (List Int)) → Option ρ) (ex : (((List Int) × Bool × Int × Int × Int × Int × (List Int))) → Option ρ) => R07_words_r6 x.1 x.2.1 x.2.2.1 x.2.2.2.1 x.2.2.2.2.1 x.2.2.2.2.2.1 x.2.2.2.2.2.2 (fun v0 v1 v2 v3 v9 v11 h0 => next (v0, v1, v2, v3, v9, v11, h0)) (fun v0 v1 v2 v3 v9 v11 h0 => ex ((v0, v1, v2, v3, v9, v11, h0)))) (v0, v1, v2, v3, v9, v11, h0) (fun x => k0 x.1 x.2.1 x.2.2.1 x.2.2.2.1 x.2.2.2.2.1 x.2.2.2.2.2.1 x.2.2.2.2.2.2)
noncomputable def R07_words_l6 {ρ : Type} (v0 : List Int) (v1 : Bool) (v2 : Int) (v3 : Int) (v9 : Int) (v11 : Int) (h0 : List Int) (k0 : (List Int) → Bool → Int → Int → Int → Int → (List Int) → Option ρ) : Option ρ := shut (R07_words_L6 (ρ := ρ)) v0 v1 v2 v3 v9 v11 h0 k0
theorem R07_words_l6_eq {ρ : Type} (v0 : List Int) (v1 : Bool) (v2 : Int) (v3 : Int) (v9 : Int) (v11 : Int) (h0 : List Int) (k0 : (List Int) → Bool → Int → Int → Int → Int → (List Int) → Option ρ) : R07_words_l6 v0 v1 v2 v3 v9 v11 h0 k0 = R07_words_L6 v0 v1 v2 v3 v9 v11 h0 k0 := by unfold R07_words_l6; rw [shut_eq]
noncomputable def R07_words_raw {ρ : Type} (a0 : List Int) (a1 : Bool) (a2 : Int) (a3 : Int) (k : (List Int) → Option ρ) : Option ρ :=
  br a1
    (R07_words_l6 a0 a1 a2 a3 (8 : Int) (0 : Int) []
      fun (q0 : List Int) (q1 : Bool) (q2 q3 q4 q5 : Int) (q6 : List Int) => k q6)
    (R07_words_l6 a0 a1 a2 a3 (4 : Int) (0 : Int) []
      fun (q7 : List Int) (q8 : Bool) (q9 q10 q11 q12 : Int) (q13 : List Int) => k q13)
noncomputable def R07_words {ρ : Type} (a0 : List Int) (a1 : Bool) (a2 : Int) (a3 : Int) (k : (List Int) → Option ρ) : Option ρ := shut (R07_words_raw (ρ := ρ)) a0 a1 a2 a3 k
theorem R07_words_eq {ρ : Type} (a0 : List Int) (a1 : Bool) (a2 : Int) (a3 : Int) (k : (List Int) → Option ρ) : R07_words a0 a1 a2 a3 k = R07_words_raw a0 a1 a2 a3 k := by unfold R07_words; rw [shut_eq]
end P
end

section
open Go Go.Abs
set_option linter.unusedVariables false
namespace P
noncomputable def R07_block_r11 {ρ : Type} (v2 : Bool) (v7 : Int) (v8 : Int) (v13 : Int) (h0_0 : List Int) (h1_0 : List Int) (h2_0 : List Int) (h3_0 : List Int) (h4 : List Int) (h5_0 : List Int) (nx : Bool → Int → Int → Int → (List Int) → (List Int) → (List Int) → (List Int) → (List Int) → (List Int) → Option ρ) (k0 : Bool → Int → Int → Int → (List Int) → (List Int) → (List Int) → (List Int) → (List Int) → (List Int) → Option ρ) : Option ρ :=
  br (decide (v13 < v7))
    (R07_mix (h5_0.getD 0 (0 : Int)) (2 : Int) (13 : Int) (22 : Int) false false fun (q0 : Int) =>
      R07_mix (h5_0.getD 4 (0 : Int)) (6 : Int) (11 : Int) (25 : Int) false false fun (q1 : Int) =>
        br v2
          (R07_mix (h5_0.getD 0 (0 : Int)) (28 : Int) (34 : Int) (39 : Int) false true fun (q2 : Int) =>
            R07_mix (h5_0.getD 4 (0 : Int)) (14 : Int) (18 : Int) (41 : Int) false true fun (q3 : Int) =>
              br (decide ((0 : Int) ≤ v13))
                (br (decide (v13 < (↑80 : Int)))
                  (br (decide ((0 : Int) ≤ v13))
                    (br (decide (v13 < (↑h4.length : Int)))
                      (nx v2 v7 v8 (IntKind.i64.wrap (v13 + (1 : Int))) h0_0 h1_0 h2_0 h3_0 h4
                        [bits BinOp.and IntKind.u64
                            (IntKind.u64.wrap
                              (IntKind.u64.wrap
                                  (IntKind.u64.wrap
                                      (IntKind.u64.wrap
                                          (IntKind.u64.wrap (h5_0.getD 7 (0 : Int) + q3) +
                                            bits BinOp.xor IntKind.u64
                                              (bits BinOp.and IntKind.u64 (h5_0.getD 4 (0 : Int))
                                                (h5_0.getD 5 (0 : Int)))
                                              (bits BinOp.and IntKind.u64
                                                (bits BinOp.xor IntKind.u64 v8 (h5_0.getD 4 (0 : Int)))
                                                (h5_0.getD 6 (0 : Int)))) +
                                        h3_0.getD v13.toNat (0 : Int)) +
                                    h4.getD v13.toNat (0 : Int)) +
                                IntKind.u64.wrap
                                  (q2 +
                                    bits BinOp.xor IntKind.u64
                                      (bits BinOp.xor IntKind.u64
                                        (bits BinOp.and IntKind.u64 (h5_0.getD 0 (0 : Int))
                                          (h5_0.getD 1 (0 : Int)))
                                        (bits BinOp.and IntKind.u64 (h5_0.getD 0 (0 : Int))
                                          (h5_0.getD 2 (0 : Int))))
                                      (bits BinOp.and IntKind.u64 (h5_0.getD 1 (0 : Int))
                                        (h5_0.getD 2 (0 : Int))))))
                            v8,
                          h5_0.getD 0 (0 : Int), h5_0.getD 1 (0 : Int),
                          h5_0.getD 2 (0 : Int),
                          bits BinOp.and IntKind.u64
                            (IntKind.u64.wrap
                              (h5_0.getD 3 (0 : Int) +
                                IntKind.u64.wrap
                                  (IntKind.u64.wrap
                                      (IntKind.u64.wrap
                                          (IntKind.u64.wrap (h5_0.getD 7 (0 : Int) + q3) +
                                            bits BinOp.xor IntKind.u64
                                              (bits BinOp.and IntKind.u64 (h5_0.getD 4 (0 : Int))
                                                (h5_0.getD 5 (0 : Int)))
                                              (bits BinOp.and IntKind.u64
                                                (bits BinOp.xor IntKind.u64 v8 (h5_0.getD 4 (0 : Int)))
                                                (h5_0.getD 6 (0 : Int)))) +
                                        h3_0.getD v13.toNat (0 : Int)) +
                                    h4.getD v13.toNat (0 : Int))))
                            v8,
                          h5_0.getD 4 (0 : Int), h5_0.getD 5 (0 : Int),
                          h5_0.getD 6 (0 : Int)])
                      none)
                    none)
                  none)
                none)
          (br (decide ((0 : Int) ≤ v13))
            (br (decide (v13 < (↑64 : Int)))
              (br (decide ((0 : Int) ≤ v13))
                (br (decide (v13 < (↑h4.length : Int)))
                  (nx v2 v7 v8 (IntKind.i64.wrap (v13 + (1 : Int))) h0_0 h1_0 h2_0 h3_0 h4
                    [bits BinOp.and IntKind.u64
                        (IntKind.u64.wrap
                          (IntKind.u64.wrap
                              (IntKind.u64.wrap
                                  (IntKind.u64.wrap
                                      (IntKind.u64.wrap (h5_0.getD 7 (0 : Int) + q1) +
                                        bits BinOp.xor IntKind.u64
                                          (bits BinOp.and IntKind.u64 (h5_0.getD 4 (0 : Int))
                                            (h5_0.getD 5 (0 : Int)))
                                          (bits BinOp.and IntKind.u64
                                            (bits BinOp.xor IntKind.u64 v8 (h5_0.getD 4 (0 : Int)))
                                            (h5_0.getD 6 (0 : Int)))) +
                                    h2_0.getD v13.toNat (0 : Int)) +
                                h4.getD v13.toNat (0 : Int)) +
                            IntKind.u64.wrap
                              (q0 +
                                bits BinOp.xor IntKind.u64
                                  (bits BinOp.xor IntKind.u64
                                    (bits BinOp.and IntKind.u64 (h5_0.getD 0 (0 : Int))
                                      (h5_0.getD 1 (0 : Int)))
                                    (bits BinOp.and IntKind.u64 (h5_0.getD 0 (0 : Int))
                                      (h5_0.getD 2 (0 : Int))))
                                  (bits BinOp.and IntKind.u64 (h5_0.getD 1 (0 : Int))
                                    (h5_0.getD 2 (0 : Int))))))
                        v8,
                      h5_0.getD 0 (0 : Int), h5_0.getD 1 (0 : Int), h5_0.getD 2 (0 : Int),
                      bits BinOp.and IntKind.u64
                        (IntKind.u64.wrap
                          (h5_0.getD 3 (0 : Int) +
                            IntKind.u64.wrap
                              (IntKind.u64.wrap
                                  (IntKind.u64.wrap
                                      (IntKind.u64.wrap (h5_0.getD 7 (0 : Int) + q1) +
                                        bits BinOp.xor IntKind.u64
                                          (bits BinOp.and IntKind.u64 (h5_0.getD 4 (0 : Int))
                                            (h5_0.getD 5 (0 : Int)))
                                          (bits BinOp.and IntKind.u64
                                            (bits BinOp.xor IntKind.u64 v8 (h5_0.getD 4 (0 : Int)))
                                            (h5_0.getD 6 (0 : Int)))) +
                                    h2_0.getD v13.toNat (0 : Int)) +
                                h4.getD v13.toNat (0 : Int))))
                        v8,
                      h5_0.getD 4 (0 : Int), h5_0.getD 5 (0 : Int), h5_0.getD 6 (0 : Int)])
                  none)
                none)
              none)
            none))
    (k0 v2 v7 v8 v13 h0_0 h1_0 h2_0 h3_0 h4 h5_0)
noncomputable def R07_block_L11 {ρ : Type} (v2 : Bool) (v7 : Int) (v8 : Int) (v13 : Int) (h0_0 : List Int) (h1_0 : List Int) (h2_0 : List Int) (h3_0 : List Int) (h4 : List Int) (h5_0 : List Int) (k0 : Bool → Int → Int → Int → (List Int) → (List Int) → (List Int) → (List Int) → (List Int) → (List Int) → Option ρ) : Option ρ :=
  lp (fun (x : Bool × Int × Int × Int × (List Int) × (List Int) × (List Int) × (List Int) × (List Int) × (List Int)) (next : (Bool × Int × Int × Int × (List Int) × (List Int) × (List Int) × (List Int) × (List Int) × (List Int)) → Option ρ) (ex : ((Bool × Int × Int × Int × (List Int) × (List Int) × (List Int) × (List Int) × (List Int) × (List Int))) → Option ρ) => R07_block_r11 x.1 x.2.1 x.2.2.1 x.2.2.2.1 x.2.2.2.2.1 x.2.2.2.2.2.1 x.2.2.2.2.2.2.1 x.2.2.2.2.2.2.2.1 x.2.2.2.2.2.2.2.2.1 x.2.2.2.2.2.2.2.2.2 (fun v2 v7 v8 v13 h0_0 h1_0 h2_0 h3_0 h4 h5_0 => next (v2, v7, v8, v13, h0_0, h1_0, h2_0, h3_0, h4, h5_0)) (fun v2 v7 v8 v13 h0_0 h1_0 h2_0 h3_0 h4 h5_0 => ex ((v2, v7, v8, v13, h0_0, h1_0, h2_0, h3_0, h4, h5_0)))) (v2, v7, v8, v13, h0_0, h1_0, h2_0, h3_0, h4, h5_0) (fun x => k0 x.1 x.2.1 x.2.2.1 x.2.2.2.1 x.2.2.2.2.1 x.2.2.2.2.2.1 x.2.2.2.2.2.2.1 x.2.2.2.2.2.2.2.1 x.2.2.2.2.2.2.2.2.1 x.2.2.2.2.2.2.2.2.2)
noncomputable def R07_block_l11 {ρ : Type} (v2 : Bool) (v7 : Int) (v8 : Int) (v13 : Int) (h0_0 : List Int) (h1_0 : List Int) (h2_0 : List Int) (h3_0 : List Int) (h4 : List Int) (h5_0 : List Int) (k0 : Bool → Int → Int → Int → (List Int) → (List Int) → (List Int) → (List Int) → (List Int) → (List Int) → Option ρ) : Option ρ := shut (R07_block_L11 (ρ := ρ)) v2 v7 v8 v13 h0_0 h1_0 h2_0 h3_0 h4 h5_0 k0
theorem R07_block_l11_eq {ρ : Type} (v2 : Bool) (v7 : Int) (v8 : Int) (v13 : Int) (h0_0 : List Int) (h1_0 : List Int) (h2_0 : List Int) (h3_0 : List Int) (h4 : List Int) (h5_0 : List Int) (k0 : Bool → Int → Int → Int → (List Int) → (List Int) → (List Int) → (List Int) → (List Int) → (List Int) → Option ρ) : R07_block_l11 v2 v7 v8 v13 h0_0 h1_0 h2_0 h3_0 h4 h5_0 k0 = R07_block_L11 v2 v7 v8 v13 h0_0 h1_0 h2_0 h3_0 h4 h5_0 k0 := by unfold R07_block_l11; rw [shut_eq]
noncomputable def R07_block_r25 {ρ : Type} (v8 : Int) (v19 : Int) (h0_0 : List Int) (h1_0 : List Int) (h5_0 : List Int) (nx : Int → Int → (List Int) → (List Int) → (List Int) → Option ρ) (k0 : Int → Int → (List Int) → (List Int) → (List Int) → Option ρ) : Option ρ :=
  br (decide (v19 < (8 : Int)))
    (br (decide ((0 : Int) ≤ v19))
      (br (decide (v19 < (↑8 : Int)))
        (br (decide ((0 : Int) ≤ v19))
          (br (decide (v19 < (↑8 : Int)))
            (br (decide ((0 : Int) ≤ v19))
              (br (decide (v19 < (↑8 : Int)))
                (nx v8 (IntKind.i64.wrap (v19 + (1 : Int))) h0_0 h1_0
                  (h5_0.set v19.toNat
                    (bits BinOp.and IntKind.u64
                      (IntKind.u64.wrap (h5_0.getD v19.toNat (0 : Int) + h0_0.getD v19.toNat (0 : Int))) v8)))
                none)
              none)
            none)
          none)
        none)
      none)
    (k0 v8 v19 h0_0 h1_0 h5_0)
noncomputable def R07_block_L25 {ρ : Type} (v8 : Int) (v19 : Int) (h0_0 : List Int) (h1_0 : List Int) (h5_0 : List Int) (k0 : Int → Int → (List Int) → (List Int) → (List Int) → Option ρ) : Option ρ :=
  lp (fun (x : Int × Int × (List Int) × (List Int) × (List Int)) (next : (Int × Int × (List Int) × (List Int) × (List Int)) → Option ρ) (ex : ((Int × Int × (List Int) × (List Int) × (List Int))) → Option ρ) => R07_block_r25 x.1 x.2.1 x.2.2.1 x.2.2.2.1 x.2.2.2.2 (fun v8 v19 h0_0 h1_0 h5_0 => next (v8, v19, h0_0, h1_0, h5_0)) (fun v8 v19 h0_0 h1_0 h5_0 => ex ((v8, v19, h0_0, h1_0, h5_0)))) (v8, v19, h0_0, h1_0, h5_0) (fun x => k0 x.1 x.2.1 x.2.2.1 x.2.2.2.1 x.2.2.2.2)
noncomputable def R07_block_l25 {ρ : Type} (v8 : Int) (v19 : Int) (h0_0 : List Int) (h1_0 : List Int) (h5_0 : List Int) (k0 : Int → Int → (List Int) → (List Int) → (List Int) → Option ρ) : Option ρ := shut (R07_block_L25 (ρ := ρ)) v8 v19 h0_0 h1_0 h5_0 k0
theorem R07_block_l25_eq {ρ : Type} (v8 : Int) (v19 : Int) (h0_0 : List Int) (h1_0 : List Int) (h5_0 : List Int) (k0 : Int → Int → (List Int) → (List Int) → (List Int) → Option ρ) : R07_block_l25 v8 v19 h0_0 h1_0 h5_0 k0 = R07_block_L25 v8 v19 h0_0 h1_0 h5_0 k0 := by unfold R07_block_l25; rw [shut_eq]
noncomputable def R07_block_raw {ρ : Type} (a0 : List Int) (a1 : List Int) (a2 : Bool) (k : (List Int) → Option ρ) : Option ρ :=
  R07_roots256 fun (q0 : List Int) =>
    R07_roots512 fun (q1 : List Int) =>
      br a2
        (R07_words a1 a2 (80 : Int) (18446744073709551615 : Int) fun (q2 : List Int) =>
          R07_block_l11 a2 (80 : Int) (18446744073709551615 : Int) (0 : Int) a0
            [(0 : Int), (0 : Int), (0 : Int), (0 : Int), (0 : Int), (0 : Int), (0 : Int), (0 : Int)] q0 q1 q2 a0
            fun (q3 : Bool) (q4 q5 q6 : Int) (q7 q8 q9 q10 q11 q12 : List Int) =>
            R07_block_l25 q5 (0 : Int) q7 q8 q12 fun (q13 q14 : Int) (q15 q16 q17 : List Int) => k q17)
        (R07_words a1 a2 (64 : Int) (4294967295 : Int) fun (q18 : List Int) =>
          R07_block_l11 a2 (64 : Int) (4294967295 : Int) (0 : Int) a0
            [(0 : Int), (0 : Int), (0 : Int), (0 : Int), (0 : Int), (0 : Int), (0 : Int), (0 : Int)] q0 q1 q18 a0
            fun (q19 : Bool) (q20 q21 q22 : Int) (q23 q24 q25 q26 q27 q28 : List Int) =>
            R07_block_l25 q21 (0 : Int) q23 q24 q28 fun (q29 q30 : Int) (q31 q32 q33 : List Int) => k q33)
noncomputable def R07_block {ρ : Type} (a0 : List Int) (a1 : List Int) (a2 : Bool) (k : (List Int) → Option ρ) : Option ρ := shut (R07_block_raw (ρ := ρ)) a0 a1 a2 k
theorem R07_block_eq {ρ : Type} (a0 : List Int) (a1 : List Int) (a2 : Bool) (k : (List Int) → Option ρ) : R07_block a0 a1 a2 k = R07_block_raw a0 a1 a2 k := by unfold R07_block; rw [shut_eq]
end P
end

section
open Go Go.Abs
set_option linter.unusedVariables false
namespace P
noncomputable def R07_Add_r4 {ρ : Type} (v5 : Int) (v6 : List Int) (h0_0 : Int) (h0_1 : List Int) (h0_2 : List Int) (h0_3 : Int) (h1_0 : Int) (h1_1 : List Int) (h1_3 : Int) (nx : Int → (List Int) → Int → (List Int) → (List Int) → Int → Int → (List Int) → Int → Option ρ) (k0 : Int → (List Int) → Int → (List Int) → (List Int) → Int → Int → (List Int) → Int → Option ρ) : Option ρ :=
  br (decide ((↑v6.length : Int) ≥ v5))
    (br (decide ((0 : Int) ≤ v5))
      (br (decide (v5 ≤ (↑v6.length : Int)))
        (R07_block h0_1 (List.drop 0 (List.take v5.toNat v6)) (v5 == (128 : Int)) fun (q0 : List Int) =>
          br (decide ((0 : Int) ≤ v5))
            (br (decide (v5 ≤ (↑v6.length : Int)))
              (br (decide ((↑v6.length : Int) ≤ (↑v6.length : Int)))
                (nx v5 (List.drop v5.toNat (List.take (↑v6.length : Int).toNat v6)) h0_0 q0 h0_2 h0_3 h1_0 h1_1 h1_3)
                none)
              none)
            none)
        none)
      none)
    (k0 v5 v6 h0_0 h0_1 h0_2 h0_3 h1_0 h1_1 h1_3)
noncomputable def R07_Add_L4 {ρ : Type} (v5 : Int) (v6 : List Int) (h0_0 : Int) (h0_1 : List Int) (h0_2 : List Int) (h0_3 : Int) (h1_0 : Int) (h1_1 : List Int) (h1_3 : Int) (k0 : Int → (List Int) → Int → (List Int) → (List Int) → Int → Int → (List Int) → Int → Option ρ) : Option ρ :=
  lp (fun (x : Int × (List Int) × Int × (List Int) × (List Int) × Int × Int × (List Int) × Int) (next : (Int × (List Int) × Int × (List Int) × (List Int) × Int × Int × (List Int) × Int) → Option ρ) (ex : ((Int × (List Int) × Int × (List Int) × (List Int) × Int × Int × (List Int) × Int)) → Option ρ) => R07_Add_r4 x.1 x.2.1 x.2.2.1 x.2.2.2.1 x.2.2.2.2.1 x.2.2.2.2.2.1 x.2.2.2.2.2.2.1 x.2.2.2.2.2.2.2.1 x.2.2.2.2.2.2.2.2 (fun v5 v6 h0_0 h0_1 h0_2 h0_3 h1_0 h1_1 h1_3 => next (v5, v6, h0_0, h0_1, h0_2, h0_3, h1_0, h1_1, h1_3)) (fun v5 v6 h0_0 h0_1 h0_2 h0_3 h1_0 h1_1 h1_3 => ex ((v5, v6, h0_0, h0_1, h0_2, h0_3, h1_0, h1_1, h1_3)))) (v5, v6, h0_0, h0_1, h0_2, h0_3, h1_0, h1_1, h1_3) (fun x => k0 x.1 x.2.1 x.2.2.1 x.2.2.2.1 x.2.2.2.2.1 x.2.2.2.2.2.1 x.2.2.2.2.2.2.1 x.2.2.2.2.2.2.2.1 x.2.2.2.2.2.2.2.2)
noncomputable def R07_Add_l4 {ρ : Type} (v5 : Int) (v6 : List Int) (h0_0 : Int) (h0_1 : List Int) (h0_2 : List Int) (h0_3 : Int) (h1_0 : Int) (h1_1 : List Int) (h1_3 : Int) (k0 : Int → (List Int) → Int → (List Int) → (List Int) → Int → Int → (List Int) → Int → Option ρ) : Option ρ := shut (R07_Add_L4 (ρ := ρ)) v5 v6 h0_0 h0_1 h0_2 h0_3 h1_0 h1_1 h1_3 k0
theorem R07_Add_l4_eq {ρ : Type} (v5 : Int) (v6 : List Int) (h0_0 : Int) (h0_1 : List Int) (h0_2 : List Int) (h0_3 : Int) (h1_0 : Int) (h1_1 : List Int) (h1_3 : Int) (k0 : Int → (List Int) → Int → (List Int) → (List Int) → Int → Int → (List Int) → Int → Option ρ) : R07_Add_l4 v5 v6 h0_0 h0_1 h0_2 h0_3 h1_0 h1_1 h1_3 k0 = R07_Add_L4 v5 v6 h0_0 h0_1 h0_2 h0_3 h1_0 h1_1 h1_3 k0 := by unfold R07_Add_l4; rw [shut_eq]
noncomputable def R07_Add_raw {ρ : Type} (a0_Kind : Int) (a0_Words : List Int) (a0_Tail : List Int) (a0_Size : Int) (a1 : List Int) (k : Int → (List Int) → (List Int) → Int → Option ρ) : Option ρ :=
  R07_Block a0_Kind fun (q0 : Int) =>
    R01_Join [a0_Tail, a1] fun (q1 : List Int) =>
      R07_Add_l4 q0 q1 a0_Kind a0_Words a0_Tail (IntKind.u64.wrap (a0_Size + IntKind.u64.wrap (↑a1.length : Int)))
        (0 : Int) [(0 : Int), (0 : Int), (0 : Int), (0 : Int), (0 : Int), (0 : Int), (0 : Int), (0 : Int)] (0 : Int)
        fun (q2 : Int) (q3 : List Int) (q4 : Int) (q5 q6 : List Int) (q7 q8 : Int) (q9 : List Int) (q10 : Int) =>
        k q4 q5 q3 q7
noncomputable def R07_Add {ρ : Type} (a0_Kind : Int) (a0_Words : List Int) (a0_Tail : List Int) (a0_Size : Int) (a1 : List Int) (k : Int → (List Int) → (List Int) → Int → Option ρ) : Option ρ := shut (R07_Add_raw (ρ := ρ)) a0_Kind a0_Words a0_Tail a0_Size a1 k
theorem R07_Add_eq {ρ : Type} (a0_Kind : Int) (a0_Words : List Int) (a0_Tail : List Int) (a0_Size : Int) (a1 : List Int) (k : Int → (List Int) → (List Int) → Int → Option ρ) : R07_Add a0_Kind a0_Words a0_Tail a0_Size a1 k = R07_Add_raw a0_Kind a0_Words a0_Tail a0_Size a1 k := by unfold R07_Add; rw [shut_eq]
end P
end

section
open Go Go.Abs
set_option linter.unusedVariables false
namespace P
noncomputable def R07_End_r4 {ρ : Type} (v3 : Int) (v4 : Int) (h40 : List Int) (h0_0 : Int) (h0_1 : List Int) (h0_2 : List Int) (h0_3 : Int) (nx : Int → Int → (List Int) → Int → (List Int) → (List Int) → Int → Option ρ) (k0 : Int → Int → (List Int) → Int → (List Int) → (List Int) → Int → Option ρ) : Option ρ :=
  br (decide (v3 = (0 : Int))) none
    (br ((IntKind.i64.wrap ((↑h0_2.length : Int) + (↑h40.length : Int))).tmod v3 != IntKind.i64.wrap (v3 - (8 : Int)))
      (br
        (decide
          ((h40.length + 1) * 1 ≤
            140737488355328))
        (nx v3 v4 (h40 ++ [(0 : Int)]) h0_0 h0_1 h0_2 h0_3) none)
      (k0 v3 v4 h40 h0_0 h0_1 h0_2 h0_3))
noncomputable def R07_End_L4 {ρ : Type} (v3 : Int) (v4 : Int) (h40 : List Int) (h0_0 : Int) (h0_1 : List Int) (h0_2 : List Int) (h0_3 : Int) (k0 : Int → Int → (List Int) → Int → (List Int) → (List Int) → Int → Option ρ) : Option ρ :=
  lp (fun (x : Int × Int × (List Int) × Int × (List Int) × (List Int) × Int) (next : (Int × Int × (List Int) × Int × (List Int) × (List Int) × Int) → Option ρ) (ex : ((Int × Int × (List Int) × Int × (List Int) × (List Int) × Int)) → Option ρ) => R07_End_r4 x.1 x.2.1 x.2.2.1 x.2.2.2.1 x.2.2.2.2.1 x.2.2.2.2.2.1 x.2.2.2.2.2.2 (fun v3 v4 h40 h0_0 h0_1 h0_2 h0_3 => next (v3, v4, h40, h0_0, h0_1, h0_2, h0_3)) (fun v3 v4 h40 h0_0 h0_1 h0_2 h0_3 => ex ((v3, v4, h40, h0_0, h0_1, h0_2, h0_3)))) (v3, v4, h40, h0_0, h0_1, h0_2, h0_3) (fun x => k0 x.1 x.2.1 x.2.2.1 x.2.2.2.1 x.2.2.2.2.1 x.2.2.2.2.2.1 x.2.2.2.2.2.2)
noncomputable def R07_End_l4 {ρ : Type} (v3 : Int) (v4 : Int) (h40 : List Int) (h0_0 : Int) (h0_1 : List Int) (h0_2 : List Int) (h0_3 : Int) (k0 : Int → Int → (List Int) → Int → (List Int) → (List Int) → Int → Option ρ) : Option ρ := shut (R07_End_L4 (ρ := ρ)) v3 v4 h40 h0_0 h0_1 h0_2 h0_3 k0
theorem R07_End_l4_eq {ρ : Type} (v3 : Int) (v4 : Int) (h40 : List Int) (h0_0 : Int) (h0_1 : List Int) (h0_2 : List Int) (h0_3 : Int) (k0 : Int → Int → (List Int) → Int → (List Int) → (List Int) → Int → Option ρ) : R07_End_l4 v3 v4 h40 h0_0 h0_1 h0_2 h0_3 k0 = R07_End_L4 v3 v4 h40 h0_0 h0_1 h0_2 h0_3 k0 := by unfold R07_End_l4; rw [shut_eq]
noncomputable def R07_End_r8 {ρ : Type} (v3 : Int) (v4 : Int) (h80 : List Int) (h0_0 : Int) (h0_1 : List Int) (h0_2 : List Int) (h0_3 : Int) (nx : Int → Int → (List Int) → Int → (List Int) → (List Int) → Int → Option ρ) (k0 : Int → Int → (List Int) → Int → (List Int) → (List Int) → Int → Option ρ) : Option ρ :=
  br (decide (v3 = (0 : Int))) none
    (br ((IntKind.i64.wrap ((↑h0_2.length : Int) + (↑h80.length : Int))).tmod v3 != IntKind.i64.wrap (v3 - (16 : Int)))
      (br
        (decide
          ((h80.length + 1) * 1 ≤
            140737488355328))
        (nx v3 v4 (h80 ++ [(0 : Int)]) h0_0 h0_1 h0_2 h0_3) none)
      (k0 v3 v4 h80 h0_0 h0_1 h0_2 h0_3))
noncomputable def R07_End_L8 {ρ : Type} (v3 : Int) (v4 : Int) (h80 : List Int) (h0_0 : Int) (h0_1 : List Int) (h0_2 : List Int) (h0_3 : Int) (k0 : Int → Int → (List Int) → Int → (List Int) → (List Int) → Int → Option ρ) : Option ρ :=
  lp (fun (x : Int × Int × (List Int) × Int × (List Int) × (List Int) × Int) (next : (Int × Int × (List Int) × Int × (List Int) × (List Int) × Int) → Option ρ) (ex : ((Int × Int × (List Int) × Int × (List Int) × (List Int) × Int)) → Option ρ) => R07_End_r8 x.1 x.2.1 x.2.2.1 x.2.2.2.1 x.2.2.2.2.1 x.2.2.2.2.2.1 x.2.2.2.2.2.2 (fun v3 v4 h80 h0_0 h0_1 h0_2 h0_3 => next (v3, v4, h80, h0_0, h0_1, h0_2, h0_3)) (fun v3 v4 h80 h0_0 h0_1 h0_2 h0_3 => ex ((v3, v4, h80, h0_0, h0_1, h0_2, h0_3)))) (v3, v4, h80, h0_0, h0_1, h0_2, h0_3) (fun x => k0 x.1 x.2.1 x.2.2.1 x.2.2.2.1 x.2.2.2.2.1 x.2.2.2.2.2.1 x.2.2.2.2.2.2)
noncomputable def R07_End_l8 {ρ : Type} (v3 : Int) (v4 : Int) (h80 : List Int) (h0_0 : Int) (h0_1 : List Int) (h0_2 : List Int) (h0_3 : Int) (k0 : Int → Int → (List Int) → Int → (List Int) → (List Int) → Int → Option ρ) : Option ρ := shut (R07_End_L8 (ρ := ρ)) v3 v4 h80 h0_0 h0_1 h0_2 h0_3 k0
theorem R07_End_l8_eq {ρ : Type} (v3 : Int) (v4 : Int) (h80 : List Int) (h0_0 : Int) (h0_1 : List Int) (h0_2 : List Int) (h0_3 : Int) (k0 : Int → Int → (List Int) → Int → (List Int) → (List Int) → Int → Option ρ) : R07_End_l8 v3 v4 h80 h0_0 h0_1 h0_2 h0_3 k0 = R07_End_L8 v3 v4 h80 h0_0 h0_1 h0_2 h0_3 k0 := by unfold R07_End_l8; rw [shut_eq]
noncomputable def R07_End_r14 {ρ : Type} (v3 : Int) (v7 : Int) (h120 : List Int) (h0_0 : Int) (h0_1 : List Int) (h0_2 : List Int) (h0_3 : Int) (nx : Int → Int → (List Int) → Int → (List Int) → (List Int) → Int → Option ρ) (k0 : Int → Int → (List Int) → Int → (List Int) → (List Int) → Int → Option ρ) : Option ρ :=
  br (decide (v7 < (8 : Int)))
    (br (decide ((0 : Int) ≤ v7))
      (br (decide (v7 < (↑8 : Int)))
        (R01_Be (h0_1.getD v7.toNat (0 : Int)) (IntKind.i64.wrap (v3.tdiv (16 : Int))) fun (q0 : List Int) =>
          br
            (decide
              ((h120.length + q0.length) * 1 ≤
                140737488355328))
            (nx v3 (IntKind.i64.wrap (v7 + (1 : Int))) (h120 ++ q0) h0_0 h0_1 h0_2 h0_3) none)
        none)
      none)
    (k0 v3 v7 h120 h0_0 h0_1 h0_2 h0_3)
noncomputable def R07_End_L14 {ρ : Type} (v3 : Int) (v7 : Int) (h120 : List Int) (h0_0 : Int) (h0_1 : List Int) (h0_2 : List Int) (h0_3 : Int) (k0 : Int → Int → (List Int) → Int → (List Int) → (List Int) → Int → Option ρ) : Option ρ :=
  lp (fun (x : Int × Int × (List Int) × Int × (List Int) × (List Int) × Int) (next : (Int × Int × (List Int) × Int × (List Int) × (List Int) × Int) → Option ρ) (ex : ((Int × Int × (List Int) × Int × (List Int) × (List Int) × Int)) → Option ρ) => R07_End_r14 x.1 x.2.1 x.2.2.1 x.2.2.2.1 x.2.2.2.2.1 x.2.2.2.2.2.1 x.2.2.2.2.2.2 (fun v3 v7 h120 h0_0 h0_1 h0_2 h0_3 => next (v3, v7, h120, h0_0, h0_1, h0_2, h0_3)) (fun v3 v7 h120 h0_0 h0_1 h0_2 h0_3 => ex ((v3, v7, h120, h0_0, h0_1, h0_2, h0_3)))) (v3, v7, h120, h0_0, h0_1, h0_2, h0_3) (fun x => k0 x.1 x.2.1 x.2.2.1 x.2.2.2.1 x.2.2.2.2.1 x.2.2.2.2.2.1 x.2.2.2.2.2.2)
noncomputable def R07_End_l14 {ρ : Type} (v3 : Int) (v7 : Int) (h120 : List Int) (h0_0 : Int) (h0_1 : List Int) (h0_2 : List Int) (h0_3 : Int) (k0 : Int → Int → (List Int) → Int → (List Int) → (List Int) → Int → Option ρ) : Option ρ := shut (R07_End_L14 (ρ := ρ)) v3 v7 h120 h0_0 h0_1 h0_2 h0_3 k0
theorem R07_End_l14_eq {ρ : Type} (v3 : Int) (v7 : Int) (h120 : List Int) (h0_0 : Int) (h0_1 : List Int) (h0_2 : List Int) (h0_3 : Int) (k0 : Int → Int → (List Int) → Int → (List Int) → (List Int) → Int → Option ρ) : R07_End_l14 v3 v7 h120 h0_0 h0_1 h0_2 h0_3 k0 = R07_End_L14 v3 v7 h120 h0_0 h0_1 h0_2 h0_3 k0 := by unfold R07_End_l14; rw [shut_eq]
noncomputable def R07_End_raw {ρ : Type} (a0_Kind : Int) (a0_Words : List Int) (a0_Tail : List Int) (a0_Size : Int) (k : (List Int) → Option ρ) : Option ρ :=
  R07_Block a0_Kind fun (q0 : Int) =>
    R07_End_l4 q0 (IntKind.u64.wrap (a0_Size * (8 : Int))) [(128 : Int)] a0_Kind a0_Words a0_Tail a0_Size
      fun (q1 q2 : Int) (q3 : List Int) (q4 : Int) (q5 q6 : List Int) (q7 : Int) =>
      br (q1 == (128 : Int))
        (R07_End_l8 q1 q2 [(128 : Int)] q4 q5 q6 q7
          fun (q8 q9 : Int) (q10 : List Int) (q11 : Int) (q12 q13 : List Int) (q14 : Int) =>
          R01_Be (q14.fdiv ((2 : Int) ^ 61)) (8 : Int) fun (q15 : List Int) =>
            br
              (decide
                ((q10.length + q15.length) * 1 ≤
                  140737488355328))
              (R01_Be q9 (8 : Int) fun (q16 : List Int) =>
                br
                  (decide
                    (((q10 ++ q15).length + q16.length) *
                        1 ≤
                      140737488355328))
                  (R07_Add q11 q12 q13 q14 (q10 ++ q15 ++ q16) fun (q17 : Int) (q18 q19 : List Int) (q20 : Int) =>
                    R07_End_l14 q8 (0 : Int) [] q17 q18 q19 q20
                      fun (q21 q22 : Int) (q23 : List Int) (q24 : Int) (q25 q26 : List Int) (q27 : Int) =>
                      br (q24 == (2 : Int))
                        (br (decide ((48 : Int) ≤ (↑q23.length : Int))) (k (List.take ((48 : Int) - (0 : Int)).toNat q23))
                          none)
                        (k q23))
                  none)
              none)
        (R01_Be q2 (8 : Int) fun (q28 : List Int) =>
          br
            (decide
              ((q3.length + q28.length) * 1 ≤
                140737488355328))
            (R07_Add q4 q5 q6 q7 (q3 ++ q28) fun (q29 : Int) (q30 q31 : List Int) (q32 : Int) =>
              R07_End_l14 q1 (0 : Int) [] q29 q30 q31 q32
                fun (q33 q34 : Int) (q35 : List Int) (q36 : Int) (q37 q38 : List Int) (q39 : Int) =>
                br (q36 == (2 : Int))
                  (br (decide ((48 : Int) ≤ (↑q35.length : Int))) (k (List.take ((48 : Int) - (0 : Int)).toNat q35)) none)
                  (k q35))
            none)
noncomputable def R07_End {ρ : Type} (a0_Kind : Int) (a0_Words : List Int) (a0_Tail : List Int) (a0_Size : Int) (k : (List Int) → Option ρ) : Option ρ := shut (R07_End_raw (ρ := ρ)) a0_Kind a0_Words a0_Tail a0_Size k
theorem R07_End_eq {ρ : Type} (a0_Kind : Int) (a0_Words : List Int) (a0_Tail : List Int) (a0_Size : Int) (k : (List Int) → Option ρ) : R07_End a0_Kind a0_Words a0_Tail a0_Size k = R07_End_raw a0_Kind a0_Words a0_Tail a0_Size k := by unfold R07_End; rw [shut_eq]
end P
end

section
open Go Go.Abs
set_option linter.unusedVariables false
namespace P
noncomputable def R07_New_raw {ρ : Type} (a0 : Int) (k : Int → (List Int) → (List Int) → Int → Int → Option ρ) : Option ρ :=
  br (a0 == (1 : Int))
    (k a0
      [(1779033703 : Int), (3144134277 : Int), (1013904242 : Int), (2773480762 : Int), (1359893119 : Int),
        (2600822924 : Int), (528734635 : Int), (1541459225 : Int)]
      [] (0 : Int) (0 : Int))
    (br (a0 == (2 : Int))
      (k a0
        [(14680500436340154072 : Int), (7105036623409894663 : Int), (10473403895298186519 : Int),
          (1526699215303891257 : Int), (7436329637833083697 : Int), (10282925794625328401 : Int),
          (15784041429090275239 : Int), (5167115440072839076 : Int)]
        [] (0 : Int) (0 : Int))
      (br (a0 == (3 : Int))
        (k a0
          [(7640891576956012808 : Int), (13503953896175478587 : Int), (4354685564936845355 : Int),
            (11912009170470909681 : Int), (5840696475078001361 : Int), (11170449401992604703 : Int),
            (2270897969802886507 : Int), (6620516959819538809 : Int)]
          [] (0 : Int) (0 : Int))
        (k (0 : Int) [(0 : Int), (0 : Int), (0 : Int), (0 : Int), (0 : Int), (0 : Int), (0 : Int), (0 : Int)] [] (0 : Int)
          (9 : Int))))
noncomputable def R07_New {ρ : Type} (a0 : Int) (k : Int → (List Int) → (List Int) → Int → Int → Option ρ) : Option ρ := shut (R07_New_raw (ρ := ρ)) a0 k
theorem R07_New_eq {ρ : Type} (a0 : Int) (k : Int → (List Int) → (List Int) → Int → Int → Option ρ) : R07_New a0 k = R07_New_raw a0 k := by unfold R07_New; rw [shut_eq]
end P
end

section
open Go Go.Abs
set_option linter.unusedVariables false
namespace P
noncomputable def R07_Sum_raw {ρ : Type} (a0 : Int) (a1 : List Int) (k : (List Int) → Int → Option ρ) : Option ρ :=
  R07_New a0 fun (q0 : Int) (q1 q2 : List Int) (q3 q4 : Int) =>
    br (q4 != (0 : Int)) (k [] q4)
      (R07_Add q0 q1 q2 q3 a1 fun (q5 : Int) (q6 q7 : List Int) (q8 : Int) =>
        R07_End q5 q6 q7 q8 fun (q9 : List Int) => k q9 (0 : Int))
noncomputable def R07_Sum {ρ : Type} (a0 : Int) (a1 : List Int) (k : (List Int) → Int → Option ρ) : Option ρ := shut (R07_Sum_raw (ρ := ρ)) a0 a1 k
theorem R07_Sum_eq {ρ : Type} (a0 : Int) (a1 : List Int) (k : (List Int) → Int → Option ρ) : R07_Sum a0 a1 k = R07_Sum_raw a0 a1 k := by unfold R07_Sum; rw [shut_eq]
end P
end

section
open Go Go.Abs
set_option linter.unusedVariables false
namespace P
noncomputable def R28_Bytes_raw {ρ : Type} (a0_Epoch : Int) (a0_Bound : Int) (k : (List Int) → Option ρ) : Option ρ :=
  R01_Be a0_Epoch (8 : Int) fun (q0 : List Int) =>
    R01_Be a0_Bound (8 : Int) fun (q1 : List Int) =>
      R01_Join [q0, q1] fun (q2 : List Int) =>
        R07_Sum (1 : Int) q2 fun (q3 : List Int) (q4 : Int) =>
          br
            (decide
              ((q2.length + q3.length) * 1 ≤
                140737488355328))
            (k (q2 ++ q3)) none
noncomputable def R28_Bytes {ρ : Type} (a0_Epoch : Int) (a0_Bound : Int) (k : (List Int) → Option ρ) : Option ρ := shut (R28_Bytes_raw (ρ := ρ)) a0_Epoch a0_Bound k
theorem R28_Bytes_eq {ρ : Type} (a0_Epoch : Int) (a0_Bound : Int) (k : (List Int) → Option ρ) : R28_Bytes a0_Epoch a0_Bound k = R28_Bytes_raw a0_Epoch a0_Bound k := by unfold R28_Bytes; rw [shut_eq]
end P
end

section
open Go Go.Abs
set_option linter.unusedVariables false
namespace P
noncomputable def R28_Read_raw {ρ : Type} (a0 : List Int) (k : Int → Int → Bool → Option ρ) : Option ρ :=
  br ((↑a0.length : Int) != (48 : Int)) (k (0 : Int) (0 : Int) false)
    (br (decide ((8 : Int) ≤ (↑a0.length : Int)))
      (R01_Num (List.drop 0 (List.take (Int.toNat (8 : Int)) a0)) fun (q0 : Int) =>
        br (decide ((16 : Int) ≤ (↑a0.length : Int)))
          (R01_Num (List.drop 8 (List.take (Int.toNat (16 : Int)) a0)) fun (q1 : Int) =>
            R28_Bytes q0 q1 fun (q2 : List Int) =>
              R01_Same q2 a0 fun (q3 : Bool) => br (!q3) (k (0 : Int) (0 : Int) false) (k q0 q1 true))
          none)
      none)
noncomputable def R28_Read {ρ : Type} (a0 : List Int) (k : Int → Int → Bool → Option ρ) : Option ρ := shut (R28_Read_raw (ρ := ρ)) a0 k
theorem R28_Read_eq {ρ : Type} (a0 : List Int) (k : Int → Int → Bool → Option ρ) : R28_Read a0 k = R28_Read_raw a0 k := by unfold R28_Read; rw [shut_eq]
end P
end

section
open Go Go.Abs
set_option linter.unusedVariables false
namespace P
noncomputable def R28_Best_raw {ρ : Type} (a0_0 : List Int) (a0_1 : List Int) (k : Int → Int → Int → Int → Option ρ) : Option ρ :=
  R28_Read a0_0 fun (q0 q1 : Int) (q2 : Bool) =>
    R28_Read a0_1 fun (q3 q4 : Int) (q5 : Bool) =>
      br q2
        (br (!q5) (k q0 q1 (0 : Int) (0 : Int))
          (br (decide (q0 ≥ q3)) (k q0 q1 (0 : Int) (0 : Int))
            (br q5 (k q3 q4 (1 : Int) (0 : Int)) (k (0 : Int) (0 : Int) (0 : Int) (21 : Int)))))
        (br q5 (k q3 q4 (1 : Int) (0 : Int)) (k (0 : Int) (0 : Int) (0 : Int) (21 : Int)))
noncomputable def R28_Best {ρ : Type} (a0_0 : List Int) (a0_1 : List Int) (k : Int → Int → Int → Int → Option ρ) : Option ρ := shut (R28_Best_raw (ρ := ρ)) a0_0 a0_1 k
theorem R28_Best_eq {ρ : Type} (a0_0 : List Int) (a0_1 : List Int) (k : Int → Int → Int → Int → Option ρ) : R28_Best a0_0 a0_1 k = R28_Best_raw a0_0 a0_1 k := by unfold R28_Best; rw [shut_eq]
end P
end

section
open Go Go.Abs
set_option linter.unusedVariables false
namespace P
noncomputable def R28_with_raw {ρ : Type} (a0_0 : List Int) (a0_1 : List Int) (a1 : Int) (a2 : List Int) (k : (List Int) → (List Int) → Option ρ) : Option ρ :=
  br (a1 == (0 : Int)) (k a2 a0_1) (k a0_0 a2)
noncomputable def R28_with {ρ : Type} (a0_0 : List Int) (a0_1 : List Int) (a1 : Int) (a2 : List Int) (k : (List Int) → (List Int) → Option ρ) : Option ρ := shut (R28_with_raw (ρ := ρ)) a0_0 a0_1 a1 a2 k
theorem R28_with_eq {ρ : Type} (a0_0 : List Int) (a0_1 : List Int) (a1 : Int) (a2 : List Int) (k : (List Int) → (List Int) → Option ρ) : R28_with a0_0 a0_1 a1 a2 k = R28_with_raw a0_0 a0_1 a1 a2 k := by unfold R28_with; rw [shut_eq]
end P
end

section
open Go Go.Abs
set_option linter.unusedVariables false
namespace P
noncomputable def R28_Write_raw {ρ : Type} (a0_0 : List Int) (a0_1 : List Int) (a1_Epoch : Int) (a1_Bound : Int) (k : (List Int) → (List Int) → Int → Int → Option ρ) : Option ρ :=
  R28_Best a0_0 a0_1 fun (q0 q1 q2 q3 : Int) =>
    br (q3 != (0 : Int)) (k a0_0 a0_1 (0 : Int) q3)
      (R28_Bytes a1_Epoch a1_Bound fun (q4 : List Int) =>
        R28_with a0_0 a0_1 (IntKind.i64.wrap ((1 : Int) - q2)) q4 fun (q5 q6 : List Int) =>
          k q5 q6 (IntKind.i64.wrap ((1 : Int) - q2)) (0 : Int))
noncomputable def R28_Write {ρ : Type} (a0_0 : List Int) (a0_1 : List Int) (a1_Epoch : Int) (a1_Bound : Int) (k : (List Int) → (List Int) → Int → Int → Option ρ) : Option ρ := shut (R28_Write_raw (ρ := ρ)) a0_0 a0_1 a1_Epoch a1_Bound k
theorem R28_Write_eq {ρ : Type} (a0_0 : List Int) (a0_1 : List Int) (a1_Epoch : Int) (a1_Bound : Int) (k : (List Int) → (List Int) → Int → Int → Option ρ) : R28_Write a0_0 a0_1 a1_Epoch a1_Bound k = R28_Write_raw a0_0 a0_1 a1_Epoch a1_Bound k := by unfold R28_Write; rw [shut_eq]
end P
end

section
open Go Go.Abs
set_option linter.unusedVariables false
namespace P
noncomputable def sector_Tear_raw {ρ : Type} (a0_0 : List Int) (a0_1 : List Int) (a1_Epoch : Int) (a1_Bound : Int) (a2 : Int) (a3 : List Int) (k : (List Int) → (List Int) → Int → Option ρ) : Option ρ :=
  sector_copied a0_0 a0_1 fun (q0 q1 : List Int) =>
    br (a2 == (1 : Int)) (sector_Write a0_0 a0_1 a1_Epoch a1_Bound fun (q2 q3 : List Int) (q4 q5 : Int) => k q2 q3 q5)
      (br (a2 == (2 : Int)) (sector_laid a0_0 a0_1 a3 fun (q6 q7 : List Int) (q8 q9 : Int) => k q6 q7 q9)
        (sector_Best a0_0 a0_1 fun (q10 q11 q12 q13 : Int) =>
          br (q13 == (0 : Int)) (br (a2 != (0 : Int)) (k q0 q1 (8 : Int)) (k q0 q1 q13)) (k q0 q1 q13)))
noncomputable def sector_Tear {ρ : Type} (a0_0 : List Int) (a0_1 : List Int) (a1_Epoch : Int) (a1_Bound : Int) (a2 : Int) (a3 : List Int) (k : (List Int) → (List Int) → Int → Option ρ) : Option ρ := shut (sector_Tear_raw (ρ := ρ)) a0_0 a0_1 a1_Epoch a1_Bound a2 a3 k
theorem sector_Tear_eq {ρ : Type} (a0_0 : List Int) (a0_1 : List Int) (a1_Epoch : Int) (a1_Bound : Int) (a2 : Int) (a3 : List Int) (k : (List Int) → (List Int) → Int → Option ρ) : sector_Tear a0_0 a0_1 a1_Epoch a1_Bound a2 a3 k = sector_Tear_raw a0_0 a0_1 a1_Epoch a1_Bound a2 a3 k := by unfold sector_Tear; rw [shut_eq]
end P
end

section
open Go Go.Abs
set_option linter.unusedVariables false
namespace P
noncomputable def R28_Tear_raw {ρ : Type} (a0_0 : List Int) (a0_1 : List Int) (a1_Epoch : Int) (a1_Bound : Int) (a2 : Int) (a3 : List Int) (k : (List Int) → (List Int) → Int → Option ρ) : Option ρ :=
  R28_Best a0_0 a0_1 fun (q0 q1 q2 q3 : Int) =>
    br (q3 != (0 : Int)) (k a0_0 a0_1 q3)
      (br (a2 == (0 : Int)) (k a0_0 a0_1 (0 : Int))
        (br (a2 == (1 : Int))
          (R28_Bytes a1_Epoch a1_Bound fun (q4 : List Int) =>
            R28_with a0_0 a0_1 (IntKind.i64.wrap ((1 : Int) - q2)) q4 fun (q5 q6 : List Int) => k q5 q6 (0 : Int))
          (br (a2 == (2 : Int))
            (R28_with a0_0 a0_1 (IntKind.i64.wrap ((1 : Int) - q2)) a3 fun (q7 q8 : List Int) => k q7 q8 (0 : Int))
            (k a0_0 a0_1 (8 : Int)))))
noncomputable def R28_Tear {ρ : Type} (a0_0 : List Int) (a0_1 : List Int) (a1_Epoch : Int) (a1_Bound : Int) (a2 : Int) (a3 : List Int) (k : (List Int) → (List Int) → Int → Option ρ) : Option ρ := shut (R28_Tear_raw (ρ := ρ)) a0_0 a0_1 a1_Epoch a1_Bound a2 a3 k
theorem R28_Tear_eq {ρ : Type} (a0_0 : List Int) (a0_1 : List Int) (a1_Epoch : Int) (a1_Bound : Int) (a2 : Int) (a3 : List Int) (k : (List Int) → (List Int) → Int → Option ρ) : R28_Tear a0_0 a0_1 a1_Epoch a1_Bound a2 a3 k = R28_Tear_raw a0_0 a0_1 a1_Epoch a1_Bound a2 a3 k := by unfold R28_Tear; rw [shut_eq]
end P
end

section
open Go Go.Abs
set_option linter.unusedVariables false
namespace P
noncomputable def L28_SectorWrites_raw {ρ : Type} (a0_0 : List Int) (a0_1 : List Int) (a1_Epoch : Int) (a1_Bound : Int) (a2 : Int) (a3 : List Int) (k : Bool → Option ρ) : Option ρ :=
  br (decide ((↑a3.length : Int) > (300 : Int))) (L28_awake fun (q0 : Bool) => k q0)
    (L28_few a0_0 a0_1 fun (q1 : Bool) =>
      br (!q1) (L28_awake fun (q2 : Bool) => k q2)
        (sector_Write a0_0 a0_1 a1_Epoch a1_Bound fun (q3 q4 : List Int) (q5 q6 : Int) =>
          R28_Write a0_0 a0_1 a1_Epoch a1_Bound fun (q7 q8 : List Int) (q9 q10 : Int) =>
            sector_Tear a0_0 a0_1 a1_Epoch a1_Bound a2 a3 fun (q11 q12 : List Int) (q13 : Int) =>
              R28_Tear a0_0 a0_1 a1_Epoch a1_Bound a2 a3 fun (q14 q15 : List Int) (q16 : Int) =>
                R28_Same q3 q4 q7 q8 fun (q17 : Bool) =>
                  br q17
                    (br (q5 == q9)
                      (br (q6 == q10)
                        (R28_Same q11 q12 q14 q15 fun (q18 : Bool) =>
                          br q18 (br (q13 == q16) (L28_awake fun (q19 : Bool) => k q19) (k false)) (k false))
                        (k false))
                      (k false))
                    (k false)))
noncomputable def L28_SectorWrites {ρ : Type} (a0_0 : List Int) (a0_1 : List Int) (a1_Epoch : Int) (a1_Bound : Int) (a2 : Int) (a3 : List Int) (k : Bool → Option ρ) : Option ρ := shut (L28_SectorWrites_raw (ρ := ρ)) a0_0 a0_1 a1_Epoch a1_Bound a2 a3 k
theorem L28_SectorWrites_eq {ρ : Type} (a0_0 : List Int) (a0_1 : List Int) (a1_Epoch : Int) (a1_Bound : Int) (a2 : Int) (a3 : List Int) (k : Bool → Option ρ) : L28_SectorWrites a0_0 a0_1 a1_Epoch a1_Bound a2 a3 k = L28_SectorWrites_raw a0_0 a0_1 a1_Epoch a1_Bound a2 a3 k := by unfold L28_SectorWrites; rw [shut_eq]
end P
end

section
open Go Go.Abs Go.Proofs
set_option maxRecDepth 100000
set_option linter.unusedVariables false
namespace bits_Num
def S3 (v3 : Int) (v6 : List Int) (v7 : Int) (v8 : Int) : ASt := ⟨[(3, .v (.int .u64 v3)), (6, .sl (.ints .u8 v6)), (7, .v (.int .i64 v7)), (8, .v (.int .i64 v8))], [], 0, 19⟩
def V3 : ASt → Option (Int × (List Int) × Int × Int)
  | ⟨[(3, .v (.int .u64 v3)), (6, .sl (.ints .u8 v6)), (7, .v (.int .i64 v7)), (8, .v (.int .i64 v8))], [], 0, 19⟩ => some (v3, v6, v7, v8)
  | _ => none
theorem V3_ok (st : ASt) (x : Int × (List Int) × Int × Int) (h : V3 st = some x) : st = S3 x.1 x.2.1 x.2.2.1 x.2.2.2 := by
  unfold V3 at h
  split at h
  · cases h; rfl
  · cases h
noncomputable def L3 : LSpec := fun st K => match V3 st with
  | some x => P.bits_Num_l3 x.1 x.2.1 x.2.2.1 x.2.2.2 (fun v3 v6 v7 v8 => K (.exit 0) (S3 v3 v6 v7 v8))
  | none => none
noncomputable def D : Ctx := ({ P := Tryd.prog, G := [], globs := [(0, [.arr .u32 64 P.roots256]), (1, [.arr .u64 80 P.roots512])], hints := [(3, ⟨[3, 6, 7, 8], [], [2], [], none, []⟩)], loops := [(3, L3)], inl := [] } : Ctx)
def E3 (K : AExit → ASt → Option R) : ((Int × (List Int) × Int × Int)) → Option R := (fun x => K (.exit 0) (S3 x.1 x.2.1 x.2.2.1 x.2.2.2))
theorem round3 (K : AExit → ASt → Option R) (next : ASt → Option R) (x : Int × (List Int) × Int × Int) : roundA D (loopAt Tryd.f75 3) K next (S3 x.1 x.2.1 x.2.2.1 x.2.2.2) = (fun (x : Int × (List Int) × Int × Int) (next : (Int × (List Int) × Int × Int) → Option R) (ex : ((Int × (List Int) × Int × Int)) → Option R) => P.bits_Num_r3 x.1 x.2.1 x.2.2.1 x.2.2.2 (fun v3 v6 v7 v8 => next (v3, v6, v7, v8)) (fun v3 v6 v7 v8 => ex ((v3, v6, v7, v8)))) x (fun x => next (S3 x.1 x.2.1 x.2.2.1 x.2.2.2)) (E3 K) := by kernel_rfl
theorem lq3 (st : ASt) (K : AExit → ASt → Option R) : L3 st K = vMap (V3 st) (fun x => lp (fun (x : Int × (List Int) × Int × Int) (next : (Int × (List Int) × Int × Int) → Option R) (ex : ((Int × (List Int) × Int × Int)) → Option R) => P.bits_Num_r3 x.1 x.2.1 x.2.2.1 x.2.2.2 (fun v3 v6 v7 v8 => next (v3, v6, v7, v8)) (fun v3 v6 v7 v8 => ex ((v3, v6, v7, v8)))) x (E3 K)) := by
  unfold L3
  cases V3 st with
  | none => rfl
  | some x => simp only [P.bits_Num_l3_eq]; rfl
theorem loop3 : LoopOk D (loopAt Tryd.f75 3) := loopOk_lp (X := Int × (List Int) × Int × Int) (Y := (Int × (List Int) × Int × Int)) (fun x => S3 x.1 x.2.1 x.2.2.1 x.2.2.2) V3_ok (stp := (fun (x : Int × (List Int) × Int × Int) (next : (Int × (List Int) × Int × Int) → Option R) (ex : ((Int × (List Int) × Int × Int)) → Option R) => P.bits_Num_r3 x.1 x.2.1 x.2.2.1 x.2.2.2 (fun v3 v6 v7 v8 => next (v3, v6, v7, v8)) (fun v3 v6 v7 v8 => ex ((v3, v6, v7, v8))))) (enc := E3) (L := L3) (by kernel_rfl) lq3 round3
theorem body (a0 : List Int) (K : AVal → Option R) : bodyA D Tryd.f75 [.any] [.sl (.ints .u8 a0)] K = P.bits_Num a0 (fun r0 => K (.v (.int .u64 r0))) := by
  rw [P.bits_Num_eq]
  kernel_rfl
theorem loops : loopsOf (Tryd.f75.body.getD .skip) = [loopAt Tryd.f75 3] := by kernel_rfl
noncomputable def spec0 : Abs.Spec := fun args K => match args with
  | [.sl (.ints .u8 a0)] => P.bits_Num a0 (fun r0 => K (.v (.int .u64 r0)))
  | _ => none
noncomputable def spec : Abs.Spec := fun args K => spec0 (coerL [.sl (.ints .u8 [])] args) K
theorem ok0 : Proved Tryd.prog [(0, [.arr .u32 64 P.roots256]), (1, [.arr .u64 80 P.roots512])] 75 spec0 := by
  refine proved_of (D := D) (fn := Tryd.f75) (c := Tryd.f75.body.getD .skip) [.any] (by kernel_rfl) (globsPlain_of (by kernel_rfl)) (by kernel_rfl) (by kernel_rfl) (by kernel_rfl) trivial trivial ?_ ?_
  · rw [loops]; exact ⟨loop3, trivial⟩
  · intro args K r h
    unfold spec0 at h
    split at h
    · rw [body]; exact h
    · cases h
theorem ok : Proved Tryd.prog [(0, [.arr .u32 64 P.roots256]), (1, [.arr .u64 80 P.roots512])] 75 spec := proved_coer _ ok0
end bits_Num
end

section
open Go Go.Abs Go.Proofs
set_option maxRecDepth 100000
set_option linter.unusedVariables false
namespace bits_Same
def S5 (v0 : List Int) (v1 : List Int) (v5 : Int) (v13 : Int) (v14 : Int) : ASt := ⟨[(0, .sl (.ints .u8 v0)), (1, .sl (.ints .u8 v1)), (5, .v (.int .u8 v5)), (13, .v (.int .i64 v13)), (14, .v (.int .i64 v14))], [], 0, 31⟩
def V5 : ASt → Option ((List Int) × (List Int) × Int × Int × Int)
  | ⟨[(0, .sl (.ints .u8 v0)), (1, .sl (.ints .u8 v1)), (5, .v (.int .u8 v5)), (13, .v (.int .i64 v13)), (14, .v (.int .i64 v14))], [], 0, 31⟩ => some (v0, v1, v5, v13, v14)
  | _ => none
theorem V5_ok (st : ASt) (x : (List Int) × (List Int) × Int × Int × Int) (h : V5 st = some x) : st = S5 x.1 x.2.1 x.2.2.1 x.2.2.2.1 x.2.2.2.2 := by
  unfold V5 at h
  split at h
  · cases h; rfl
  · cases h
noncomputable def L5 : LSpec := fun st K => match V5 st with
  | some x => P.bits_Same_l5 x.1 x.2.1 x.2.2.1 x.2.2.2.1 x.2.2.2.2 (fun v0 v1 v5 v13 v14 => K (.exit 0) (S5 v0 v1 v5 v13 v14))
  | none => none
noncomputable def D : Ctx := ({ P := Tryd.prog, G := [], globs := [(0, [.arr .u32 64 P.roots256]), (1, [.arr .u64 80 P.roots512])], hints := [(5, ⟨[0, 1, 5, 13, 14], [], [4], [], none, []⟩)], loops := [(5, L5)], inl := [] } : Ctx)
def E5 (K : AExit → ASt → Option R) : (((List Int) × (List Int) × Int × Int × Int)) → Option R := (fun x => K (.exit 0) (S5 x.1 x.2.1 x.2.2.1 x.2.2.2.1 x.2.2.2.2))
theorem round5 (K : AExit → ASt → Option R) (next : ASt → Option R) (x : (List Int) × (List Int) × Int × Int × Int) : roundA D (loopAt Tryd.f74 5) K next (S5 x.1 x.2.1 x.2.2.1 x.2.2.2.1 x.2.2.2.2) = (fun (x : (List Int) × (List Int) × Int × Int × Int) (next : ((List Int) × (List Int) × Int × Int × Int) → Option R) (ex : (((List Int) × (List Int) × Int × Int × Int)) → Option R) => P.bits_Same_r5 x.1 x.2.1 x.2.2.1 x.2.2.2.1 x.2.2.2.2 (fun v0 v1 v5 v13 v14 => next (v0, v1, v5, v13, v14)) (fun v0 v1 v5 v13 v14 => ex ((v0, v1, v5, v13, v14)))) x (fun x => next (S5 x.1 x.2.1 x.2.2.1 x.2.2.2.1 x.2.2.2.2)) (E5 K) := by kernel_rfl
theorem lq5 (st : ASt) (K : AExit → ASt → Option R) : L5 st K = vMap (V5 st) (fun x => lp (fun (x : (List Int) × (List Int) × Int × Int × Int) (next : ((List Int) × (List Int) × Int × Int × Int) → Option R) (ex : (((List Int) × (List Int) × Int × Int × Int)) → Option R) => P.bits_Same_r5 x.1 x.2.1 x.2.2.1 x.2.2.2.1 x.2.2.2.2 (fun v0 v1 v5 v13 v14 => next (v0, v1, v5, v13, v14)) (fun v0 v1 v5 v13 v14 => ex ((v0, v1, v5, v13, v14)))) x (E5 K)) := by
  unfold L5
  cases V5 st with
  | none => rfl
  | some x => simp only [P.bits_Same_l5_eq]; rfl
theorem loop5 : LoopOk D (loopAt Tryd.f74 5) := loopOk_lp (X := (List Int) × (List Int) × Int × Int × Int) (Y := ((List Int) × (List Int) × Int × Int × Int)) (fun x => S5 x.1 x.2.1 x.2.2.1 x.2.2.2.1 x.2.2.2.2) V5_ok (stp := (fun (x : (List Int) × (List Int) × Int × Int × Int) (next : ((List Int) × (List Int) × Int × Int × Int) → Option R) (ex : (((List Int) × (List Int) × Int × Int × Int)) → Option R) => P.bits_Same_r5 x.1 x.2.1 x.2.2.1 x.2.2.2.1 x.2.2.2.2 (fun v0 v1 v5 v13 v14 => next (v0, v1, v5, v13, v14)) (fun v0 v1 v5 v13 v14 => ex ((v0, v1, v5, v13, v14))))) (enc := E5) (L := L5) (by kernel_rfl) lq5 round5
theorem body (a0 : List Int) (a1 : List Int) (K : AVal → Option R) : bodyA D Tryd.f74 [.any] [.sl (.ints .u8 a0), .sl (.ints .u8 a1)] K = P.bits_Same a0 a1 (fun r0 => K (.v (.bool r0))) := by
  rw [P.bits_Same_eq]
  kernel_rfl
theorem loops : loopsOf (Tryd.f74.body.getD .skip) = [loopAt Tryd.f74 5] := by kernel_rfl
noncomputable def spec0 : Abs.Spec := fun args K => match args with
  | [.sl (.ints .u8 a0), .sl (.ints .u8 a1)] => P.bits_Same a0 a1 (fun r0 => K (.v (.bool r0)))
  | _ => none
noncomputable def spec : Abs.Spec := fun args K => spec0 (coerL [.sl (.ints .u8 []), .sl (.ints .u8 [])] args) K
theorem ok0 : Proved Tryd.prog [(0, [.arr .u32 64 P.roots256]), (1, [.arr .u64 80 P.roots512])] 74 spec0 := by
  refine proved_of (D := D) (fn := Tryd.f74) (c := Tryd.f74.body.getD .skip) [.any] (by kernel_rfl) (globsPlain_of (by kernel_rfl)) (by kernel_rfl) (by kernel_rfl) (by kernel_rfl) trivial trivial ?_ ?_
  · rw [loops]; exact ⟨loop5, trivial⟩
  · intro args K r h
    unfold spec0 at h
    split at h
    · rw [body]; exact h
    · cases h
theorem ok : Proved Tryd.prog [(0, [.arr .u32 64 P.roots256]), (1, [.arr .u64 80 P.roots512])] 74 spec := proved_coer _ ok0
end bits_Same
end

section
open Go Go.Abs Go.Proofs
set_option maxRecDepth 100000
set_option linter.unusedVariables false
namespace sha_root512
noncomputable def D : Ctx := ({ P := Tryd.prog, G := [], globs := [(0, [.arr .u32 64 P.roots256]), (1, [.arr .u64 80 P.roots512])], hints := [], loops := [], inl := [] } : Ctx)
theorem body (a0 : Int) (K : AVal → Option R) : bodyA D Tryd.f113 [.any] [.v (.int .i64 a0)] K = P.sha_root512 a0 (fun r0 => K (.v (.int .u64 r0))) := by
  rw [P.sha_root512_eq]
  kernel_rfl
theorem loops : loopsOf (Tryd.f113.body.getD .skip) = [] := by kernel_rfl
noncomputable def spec0 : Abs.Spec := fun args K => match args with
  | [.v (.int .i64 a0)] => P.sha_root512 a0 (fun r0 => K (.v (.int .u64 r0)))
  | _ => none
noncomputable def spec : Abs.Spec := spec0
theorem ok0 : Proved Tryd.prog [(0, [.arr .u32 64 P.roots256]), (1, [.arr .u64 80 P.roots512])] 113 spec0 := by
  refine proved_of (D := D) (fn := Tryd.f113) (c := Tryd.f113.body.getD .skip) [.any] (by kernel_rfl) (globsPlain_of (by kernel_rfl)) (by kernel_rfl) (by kernel_rfl) (by kernel_rfl) trivial trivial ?_ ?_
  · rw [loops]; exact trivial
  · intro args K r h
    unfold spec0 at h
    split at h
    · rw [body]; exact h
    · cases h
theorem ok : Proved Tryd.prog [(0, [.arr .u32 64 P.roots256]), (1, [.arr .u64 80 P.roots512])] 113 spec := ok0
end sha_root512
end

section
open Go Go.Abs Go.Proofs
set_option maxRecDepth 100000
set_option linter.unusedVariables false
namespace sha_great
noncomputable def D : Ctx := ({ P := Tryd.prog, G := [(113, sha_root512.spec)], globs := [(0, [.arr .u32 64 P.roots256]), (1, [.arr .u64 80 P.roots512])], hints := [], loops := [], inl := [] } : Ctx)
theorem body  (K : AVal → Option R) : bodyA D Tryd.f63 [.any] [] K = P.sha_great (fun r0_bits r0_rounds r0_turns_0 r0_turns_1 r0_turns_2 r0_turns_3 => K (.agg [.v (.int .i64 r0_bits), .v (.int .i64 r0_rounds), .arr .i64 3 r0_turns_0, .arr .i64 3 r0_turns_1, .arr .i64 3 r0_turns_2, .arr .i64 3 r0_turns_3, .fn (.func 113) [] []])) := by
  rw [P.sha_great_eq]
  kernel_rfl
theorem loops : loopsOf (Tryd.f63.body.getD .skip) = [] := by kernel_rfl
noncomputable def spec0 : Abs.Spec := fun args K => match args with
  | [] => P.sha_great (fun r0_bits r0_rounds r0_turns_0 r0_turns_1 r0_turns_2 r0_turns_3 => K (.agg [.v (.int .i64 r0_bits), .v (.int .i64 r0_rounds), .arr .i64 3 r0_turns_0, .arr .i64 3 r0_turns_1, .arr .i64 3 r0_turns_2, .arr .i64 3 r0_turns_3, .fn (.func 113) [] []]))
  | _ => none
noncomputable def spec : Abs.Spec := spec0
theorem ok0 : Proved Tryd.prog [(0, [.arr .u32 64 P.roots256]), (1, [.arr .u64 80 P.roots512])] 63 spec0 := by
  refine proved_of (D := D) (fn := Tryd.f63) (c := Tryd.f63.body.getD .skip) [.any] (by kernel_rfl) (globsPlain_of (by kernel_rfl)) (by kernel_rfl) (by kernel_rfl) (by kernel_rfl) ⟨sha_root512.ok, trivial⟩ trivial ?_ ?_
  · rw [loops]; exact trivial
  · intro args K r h
    unfold spec0 at h
    split at h
    · rw [body]; exact h
    · cases h
theorem ok : Proved Tryd.prog [(0, [.arr .u32 64 P.roots256]), (1, [.arr .u64 80 P.roots512])] 63 spec := ok0
end sha_great
end

section
open Go Go.Abs Go.Proofs
set_option maxRecDepth 100000
set_option linter.unusedVariables false
namespace sha_root256
noncomputable def D : Ctx := ({ P := Tryd.prog, G := [], globs := [(0, [.arr .u32 64 P.roots256]), (1, [.arr .u64 80 P.roots512])], hints := [], loops := [], inl := [] } : Ctx)
theorem body (a0 : Int) (K : AVal → Option R) : bodyA D Tryd.f111 [.any] [.v (.int .i64 a0)] K = P.sha_root256 a0 (fun r0 => K (.v (.int .u32 r0))) := by
  rw [P.sha_root256_eq]
  kernel_rfl
theorem loops : loopsOf (Tryd.f111.body.getD .skip) = [] := by kernel_rfl
noncomputable def spec0 : Abs.Spec := fun args K => match args with
  | [.v (.int .i64 a0)] => P.sha_root256 a0 (fun r0 => K (.v (.int .u32 r0)))
  | _ => none
noncomputable def spec : Abs.Spec := spec0
theorem ok0 : Proved Tryd.prog [(0, [.arr .u32 64 P.roots256]), (1, [.arr .u64 80 P.roots512])] 111 spec0 := by
  refine proved_of (D := D) (fn := Tryd.f111) (c := Tryd.f111.body.getD .skip) [.any] (by kernel_rfl) (globsPlain_of (by kernel_rfl)) (by kernel_rfl) (by kernel_rfl) (by kernel_rfl) trivial trivial ?_ ?_
  · rw [loops]; exact trivial
  · intro args K r h
    unfold spec0 at h
    split at h
    · rw [body]; exact h
    · cases h
theorem ok : Proved Tryd.prog [(0, [.arr .u32 64 P.roots256]), (1, [.arr .u64 80 P.roots512])] 111 spec := ok0
end sha_root256
end

section
open Go Go.Abs Go.Proofs
set_option maxRecDepth 100000
set_option linter.unusedVariables false
namespace sha_small
noncomputable def D : Ctx := ({ P := Tryd.prog, G := [(111, sha_root256.spec)], globs := [(0, [.arr .u32 64 P.roots256]), (1, [.arr .u64 80 P.roots512])], hints := [], loops := [], inl := [] } : Ctx)
theorem body  (K : AVal → Option R) : bodyA D Tryd.f61 [.any] [] K = P.sha_small (fun r0_bits r0_rounds r0_turns_0 r0_turns_1 r0_turns_2 r0_turns_3 => K (.agg [.v (.int .i64 r0_bits), .v (.int .i64 r0_rounds), .arr .i64 3 r0_turns_0, .arr .i64 3 r0_turns_1, .arr .i64 3 r0_turns_2, .arr .i64 3 r0_turns_3, .fn (.func 111) [] []])) := by
  rw [P.sha_small_eq]
  kernel_rfl
theorem loops : loopsOf (Tryd.f61.body.getD .skip) = [] := by kernel_rfl
noncomputable def spec0 : Abs.Spec := fun args K => match args with
  | [] => P.sha_small (fun r0_bits r0_rounds r0_turns_0 r0_turns_1 r0_turns_2 r0_turns_3 => K (.agg [.v (.int .i64 r0_bits), .v (.int .i64 r0_rounds), .arr .i64 3 r0_turns_0, .arr .i64 3 r0_turns_1, .arr .i64 3 r0_turns_2, .arr .i64 3 r0_turns_3, .fn (.func 111) [] []]))
  | _ => none
noncomputable def spec : Abs.Spec := spec0
theorem ok0 : Proved Tryd.prog [(0, [.arr .u32 64 P.roots256]), (1, [.arr .u64 80 P.roots512])] 61 spec0 := by
  refine proved_of (D := D) (fn := Tryd.f61) (c := Tryd.f61.body.getD .skip) [.any] (by kernel_rfl) (globsPlain_of (by kernel_rfl)) (by kernel_rfl) (by kernel_rfl) (by kernel_rfl) ⟨sha_root256.ok, trivial⟩ trivial ?_ ?_
  · rw [loops]; exact trivial
  · intro args K r h
    unfold spec0 at h
    split at h
    · rw [body]; exact h
    · cases h
theorem ok : Proved Tryd.prog [(0, [.arr .u32 64 P.roots256]), (1, [.arr .u64 80 P.roots512])] 61 spec := ok0
end sha_small
end

section
open Go Go.Abs Go.Proofs
set_option maxRecDepth 100000
set_option linter.unusedVariables false
namespace sha_engine_uint32_rotated
noncomputable def D : Ctx := ({ P := Tryd.prog, G := [(111, sha_root256.spec)], globs := [(0, [.arr .u32 64 P.roots256]), (1, [.arr .u64 80 P.roots512])], hints := [], loops := [], inl := [] } : Ctx)
theorem body (a0_bits : Int) (a0_rounds : Int) (a0_turns_0 : List Int) (a0_turns_1 : List Int) (a0_turns_2 : List Int) (a0_turns_3 : List Int) (a1 : Int) (a2 : Int) (K : AVal → Option R) : bodyA D Tryd.f138 [.any] [.agg [.v (.int .i64 a0_bits), .v (.int .i64 a0_rounds), .arr .i64 3 a0_turns_0, .arr .i64 3 a0_turns_1, .arr .i64 3 a0_turns_2, .arr .i64 3 a0_turns_3, .fn (.func 111) [] []], .v (.int .u32 a1), .v (.int .i64 a2)] K = P.sha_engine_uint32_rotated a0_bits a0_rounds a0_turns_0 a0_turns_1 a0_turns_2 a0_turns_3 a1 a2 (fun r0 => K (.v (.int .u32 r0))) := by
  rw [P.sha_engine_uint32_rotated_eq]
  kernel_rfl
theorem loops : loopsOf (Tryd.f138.body.getD .skip) = [] := by kernel_rfl
noncomputable def spec0 : Abs.Spec := fun args K => match args with
  | [.agg [.v (.int .i64 a0_bits), .v (.int .i64 a0_rounds), .arr .i64 3 a0_turns_0, .arr .i64 3 a0_turns_1, .arr .i64 3 a0_turns_2, .arr .i64 3 a0_turns_3, .fn (.func 111) [] []], .v (.int .u32 a1), .v (.int .i64 a2)] => P.sha_engine_uint32_rotated a0_bits a0_rounds a0_turns_0 a0_turns_1 a0_turns_2 a0_turns_3 a1 a2 (fun r0 => K (.v (.int .u32 r0)))
  | _ => none
noncomputable def spec : Abs.Spec := spec0
theorem ok0 : Proved Tryd.prog [(0, [.arr .u32 64 P.roots256]), (1, [.arr .u64 80 P.roots512])] 138 spec0 := by
  refine proved_of (D := D) (fn := Tryd.f138) (c := Tryd.f138.body.getD .skip) [.any] (by kernel_rfl) (globsPlain_of (by kernel_rfl)) (by kernel_rfl) (by kernel_rfl) (by kernel_rfl) ⟨sha_root256.ok, trivial⟩ trivial ?_ ?_
  · rw [loops]; exact trivial
  · intro args K r h
    unfold spec0 at h
    split at h
    · rw [body]; exact h
    · cases h
theorem ok : Proved Tryd.prog [(0, [.arr .u32 64 P.roots256]), (1, [.arr .u64 80 P.roots512])] 138 spec := ok0
end sha_engine_uint32_rotated
end

section
open Go Go.Abs Go.Proofs
set_option maxRecDepth 100000
set_option linter.unusedVariables false
namespace sha_engine_uint32_high
noncomputable def D : Ctx := ({ P := Tryd.prog, G := [(111, sha_root256.spec), (138, sha_engine_uint32_rotated.spec)], globs := [(0, [.arr .u32 64 P.roots256]), (1, [.arr .u64 80 P.roots512])], hints := [], loops := [], inl := [] } : Ctx)
theorem body (a0_bits : Int) (a0_rounds : Int) (a0_turns_0 : List Int) (a0_turns_1 : List Int) (a0_turns_2 : List Int) (a0_turns_3 : List Int) (a1 : Int) (a2 : Int) (K : AVal → Option R) : bodyA D Tryd.f130 [.any] [.agg [.v (.int .i64 a0_bits), .v (.int .i64 a0_rounds), .arr .i64 3 a0_turns_0, .arr .i64 3 a0_turns_1, .arr .i64 3 a0_turns_2, .arr .i64 3 a0_turns_3, .fn (.func 111) [] []], .v (.int .u32 a1), .v (.int .i64 a2)] K = P.sha_engine_uint32_high a0_bits a0_rounds a0_turns_0 a0_turns_1 a0_turns_2 a0_turns_3 a1 a2 (fun r0 => K (.v (.int .u32 r0))) := by
  rw [P.sha_engine_uint32_high_eq]
  kernel_rfl
theorem loops : loopsOf (Tryd.f130.body.getD .skip) = [] := by kernel_rfl
noncomputable def spec0 : Abs.Spec := fun args K => match args with
  | [.agg [.v (.int .i64 a0_bits), .v (.int .i64 a0_rounds), .arr .i64 3 a0_turns_0, .arr .i64 3 a0_turns_1, .arr .i64 3 a0_turns_2, .arr .i64 3 a0_turns_3, .fn (.func 111) [] []], .v (.int .u32 a1), .v (.int .i64 a2)] => P.sha_engine_uint32_high a0_bits a0_rounds a0_turns_0 a0_turns_1 a0_turns_2 a0_turns_3 a1 a2 (fun r0 => K (.v (.int .u32 r0)))
  | _ => none
noncomputable def spec : Abs.Spec := spec0
theorem ok0 : Proved Tryd.prog [(0, [.arr .u32 64 P.roots256]), (1, [.arr .u64 80 P.roots512])] 130 spec0 := by
  refine proved_of (D := D) (fn := Tryd.f130) (c := Tryd.f130.body.getD .skip) [.any] (by kernel_rfl) (globsPlain_of (by kernel_rfl)) (by kernel_rfl) (by kernel_rfl) (by kernel_rfl) ⟨sha_root256.ok, sha_engine_uint32_rotated.ok, trivial⟩ trivial ?_ ?_
  · rw [loops]; exact trivial
  · intro args K r h
    unfold spec0 at h
    split at h
    · rw [body]; exact h
    · cases h
theorem ok : Proved Tryd.prog [(0, [.arr .u32 64 P.roots256]), (1, [.arr .u64 80 P.roots512])] 130 spec := ok0
end sha_engine_uint32_high
end

section
open Go Go.Abs Go.Proofs
set_option maxRecDepth 100000
set_option linter.unusedVariables false
namespace sha_engine_uint32_low
noncomputable def D : Ctx := ({ P := Tryd.prog, G := [(111, sha_root256.spec), (138, sha_engine_uint32_rotated.spec)], globs := [(0, [.arr .u32 64 P.roots256]), (1, [.arr .u64 80 P.roots512])], hints := [], loops := [], inl := [] } : Ctx)
theorem body (a0_bits : Int) (a0_rounds : Int) (a0_turns_0 : List Int) (a0_turns_1 : List Int) (a0_turns_2 : List Int) (a0_turns_3 : List Int) (a1 : Int) (a2 : Int) (K : AVal → Option R) : bodyA D Tryd.f131 [.any] [.agg [.v (.int .i64 a0_bits), .v (.int .i64 a0_rounds), .arr .i64 3 a0_turns_0, .arr .i64 3 a0_turns_1, .arr .i64 3 a0_turns_2, .arr .i64 3 a0_turns_3, .fn (.func 111) [] []], .v (.int .u32 a1), .v (.int .i64 a2)] K = P.sha_engine_uint32_low a0_bits a0_rounds a0_turns_0 a0_turns_1 a0_turns_2 a0_turns_3 a1 a2 (fun r0 => K (.v (.int .u32 r0))) := by
  rw [P.sha_engine_uint32_low_eq]
  kernel_rfl
theorem loops : loopsOf (Tryd.f131.body.getD .skip) = [] := by kernel_rfl
noncomputable def spec0 : Abs.Spec := fun args K => match args with
  | [.agg [.v (.int .i64 a0_bits), .v (.int .i64 a0_rounds), .arr .i64 3 a0_turns_0, .arr .i64 3 a0_turns_1, .arr .i64 3 a0_turns_2, .arr .i64 3 a0_turns_3, .fn (.func 111) [] []], .v (.int .u32 a1), .v (.int .i64 a2)] => P.sha_engine_uint32_low a0_bits a0_rounds a0_turns_0 a0_turns_1 a0_turns_2 a0_turns_3 a1 a2 (fun r0 => K (.v (.int .u32 r0)))
  | _ => none
noncomputable def spec : Abs.Spec := spec0
theorem ok0 : Proved Tryd.prog [(0, [.arr .u32 64 P.roots256]), (1, [.arr .u64 80 P.roots512])] 131 spec0 := by
  refine proved_of (D := D) (fn := Tryd.f131) (c := Tryd.f131.body.getD .skip) [.any] (by kernel_rfl) (globsPlain_of (by kernel_rfl)) (by kernel_rfl) (by kernel_rfl) (by kernel_rfl) ⟨sha_root256.ok, sha_engine_uint32_rotated.ok, trivial⟩ trivial ?_ ?_
  · rw [loops]; exact trivial
  · intro args K r h
    unfold spec0 at h
    split at h
    · rw [body]; exact h
    · cases h
theorem ok : Proved Tryd.prog [(0, [.arr .u32 64 P.roots256]), (1, [.arr .u64 80 P.roots512])] 131 spec := ok0
end sha_engine_uint32_low
end
