/-
  TapeOnce, part G: an interpreter of my own over abstract values, the pure functions, the walks and the plain law.
-/

import Derived.Test.YtmaoicbiekgmhaaTapeOnceF
import Derived.Test.YtmaoicbiekgmhaaProg
import Derived.KernelRfl

section
open Go Go.Abs
set_option linter.unusedVariables false
namespace P
noncomputable def tape_Fit_raw {ρ : Type} (a0_Bytes : List Int) (a0_At : Int) (k : Bool → Option ρ) : Option ρ :=
  br (decide ((↑a0_Bytes.length : Int) ≤ (1048576 : Int)))
    (br (decide (a0_At ≥ (0 : Int))) (k (decide (a0_At ≤ (↑a0_Bytes.length : Int)))) (k false)) (k false)
noncomputable def tape_Fit {ρ : Type} (a0_Bytes : List Int) (a0_At : Int) (k : Bool → Option ρ) : Option ρ := shut (tape_Fit_raw (ρ := ρ)) a0_Bytes a0_At k
theorem tape_Fit_eq {ρ : Type} (a0_Bytes : List Int) (a0_At : Int) (k : Bool → Option ρ) : tape_Fit a0_Bytes a0_At k = tape_Fit_raw a0_Bytes a0_At k := by unfold tape_Fit; rw [shut_eq]

end P
end

section
open Go Go.Abs
set_option linter.unusedVariables false
namespace P
noncomputable def slices_Clone_byte {ρ : Type} (a0 : List Int) (k : (List Int) → Option ρ) : Option ρ :=
  br (decide (a0.length * 1 ≤ 140737488355328)) (k a0) none
end P
end

section
open Go Go.Abs
set_option linter.unusedVariables false
namespace P
noncomputable def tape_Take_raw {ρ : Type} (a0_Bytes : List Int) (a0_At : Int) (a1 : Int) (k : (List Int) → Int → (List Int) → Int → Option ρ) : Option ρ :=
  tape_Fit a0_Bytes a0_At fun (q0 : Bool) =>
    br (!q0) (k a0_Bytes a0_At [] (1 : Int))
      (br (decide (a1 < (0 : Int))) (k a0_Bytes a0_At [] (8 : Int))
        (br (decide (a1 > IntKind.i64.wrap ((↑a0_Bytes.length : Int) - a0_At))) (k a0_Bytes a0_At [] (13 : Int))
          (br (decide ((0 : Int) ≤ IntKind.i64.wrap (IntKind.i64.wrap (a0_At + a1) - a1)))
            (br (decide (IntKind.i64.wrap (IntKind.i64.wrap (a0_At + a1) - a1) ≤ IntKind.i64.wrap (a0_At + a1)))
              (br (decide (IntKind.i64.wrap (a0_At + a1) ≤ (↑a0_Bytes.length : Int)))
                (slices_Clone_byte
                  (List.drop (IntKind.i64.wrap (IntKind.i64.wrap (a0_At + a1) - a1)).toNat
                    (List.take (IntKind.i64.wrap (a0_At + a1)).toNat a0_Bytes))
                  fun (q1 : List Int) => k a0_Bytes (IntKind.i64.wrap (a0_At + a1)) q1 (0 : Int))
                none)
              none)
            none)))
noncomputable def tape_Take {ρ : Type} (a0_Bytes : List Int) (a0_At : Int) (a1 : Int) (k : (List Int) → Int → (List Int) → Int → Option ρ) : Option ρ := shut (tape_Take_raw (ρ := ρ)) a0_Bytes a0_At a1 k
theorem tape_Take_eq {ρ : Type} (a0_Bytes : List Int) (a0_At : Int) (a1 : Int) (k : (List Int) → Int → (List Int) → Int → Option ρ) : tape_Take a0_Bytes a0_At a1 k = tape_Take_raw a0_Bytes a0_At a1 k := by unfold tape_Take; rw [shut_eq]

end P
end

section
open Go Go.Abs
set_option linter.unusedVariables false
namespace P
noncomputable def R01_Same_r4 {ρ : Type} (v0 : List Int) (v1 : List Int) (v5 : Int) (nx : (List Int) → (List Int) → Int → Option ρ) (k0 : (List Int) → (List Int) → Int → Option ρ) (k1 : Bool → Option ρ) : Option ρ :=
  br (decide (v5 < (↑v0.length : Int)))
    (br (decide ((0 : Int) ≤ v5))
      (br (decide (v5 < (↑v0.length : Int)))
        (br (decide ((0 : Int) ≤ v5))
          (br (decide (v5 < (↑v1.length : Int)))
            (br (v0.getD v5.toNat (0 : Int) != v1.getD v5.toNat (0 : Int)) (k1 false)
              (nx v0 v1 (IntKind.i64.wrap (v5 + (1 : Int)))))
            none)
          none)
        none)
      none)
    (k0 v0 v1 v5)
noncomputable def R01_Same_L4 {ρ : Type} (v0 : List Int) (v1 : List Int) (v5 : Int) (k0 : (List Int) → (List Int) → Int → Option ρ) (k1 : Bool → Option ρ) : Option ρ :=
  lp (fun (x : (List Int) × (List Int) × Int) (next : ((List Int) × (List Int) × Int) → Option ρ) (ex : (((List Int) × (List Int) × Int) ⊕ ((Bool))) → Option ρ) => R01_Same_r4 x.1 x.2.1 x.2.2 (fun v0 v1 v5 => next (v0, v1, v5)) (fun v0 v1 v5 => ex (.inl (v0, v1, v5))) (fun v4 => ex (.inr v4))) (v0, v1, v5) (Sum.elim (fun x => k0 x.1 x.2.1 x.2.2) (fun x => k1 x))
noncomputable def R01_Same_l4 {ρ : Type} (v0 : List Int) (v1 : List Int) (v5 : Int) (k0 : (List Int) → (List Int) → Int → Option ρ) (k1 : Bool → Option ρ) : Option ρ := shut (R01_Same_L4 (ρ := ρ)) v0 v1 v5 k0 k1
theorem R01_Same_l4_eq {ρ : Type} (v0 : List Int) (v1 : List Int) (v5 : Int) (k0 : (List Int) → (List Int) → Int → Option ρ) (k1 : Bool → Option ρ) : R01_Same_l4 v0 v1 v5 k0 k1 = R01_Same_L4 v0 v1 v5 k0 k1 := by unfold R01_Same_l4; rw [shut_eq]
noncomputable def R01_Same_raw {ρ : Type} (a0 : List Int) (a1 : List Int) (k : Bool → Option ρ) : Option ρ :=
  br ((↑a0.length : Int) != (↑a1.length : Int)) (k false)
    (R01_Same_l4 a0 a1 (0 : Int) (fun (q0 q1 : List Int) (q2 : Int) => k true) fun (q3 : Bool) => k q3)
noncomputable def R01_Same {ρ : Type} (a0 : List Int) (a1 : List Int) (k : Bool → Option ρ) : Option ρ := shut (R01_Same_raw (ρ := ρ)) a0 a1 k
theorem R01_Same_eq {ρ : Type} (a0 : List Int) (a1 : List Int) (k : Bool → Option ρ) : R01_Same a0 a1 k = R01_Same_raw a0 a1 k := by unfold R01_Same; rw [shut_eq]

end P
end

section
open Go Go.Abs
set_option linter.unusedVariables false
namespace P
noncomputable def L13_awake_raw {ρ : Type}  (k : Bool → Option ρ) : Option ρ :=
  tape_Take [(1 : Int), (2 : Int), (3 : Int)] (0 : Int) (2 : Int)
    fun (q0 : List Int) (q1 : Int) (q2 : List Int) (q3 : Int) =>
    tape_Take q0 q1 (2 : Int) fun (q4 : List Int) (q5 : Int) (q6 : List Int) (q7 : Int) =>
      br (q3 == (0 : Int))
        (R01_Same q2 [(1 : Int), (2 : Int)] fun (q8 : Bool) => br q8 (k (q7 == (13 : Int))) (k false)) (k false)
noncomputable def L13_awake {ρ : Type}  (k : Bool → Option ρ) : Option ρ := shut (L13_awake_raw (ρ := ρ))  k
theorem L13_awake_eq {ρ : Type}  (k : Bool → Option ρ) : L13_awake  k = L13_awake_raw  k := by unfold L13_awake; rw [shut_eq]

end P
end

section
open Go Go.Abs
set_option linter.unusedVariables false
namespace P
noncomputable def tape_Parts_r5 {ρ : Type} (v17 : List Int) (v18 : Int) (v19 : Int) (h3 : List (List Int)) (h0_0 : List Int) (h0_1 : Int) (h1_1 : Int) (h2_0 : List Int) (h2_1 : Int) (h2_2 : Int) (nx : (List Int) → Int → Int → (List (List Int)) → (List Int) → Int → Int → (List Int) → Int → Int → Option ρ) (k0 : (List Int) → Int → Int → (List (List Int)) → (List Int) → Int → Int → (List Int) → Int → Int → Option ρ) : Option ρ :=
  br (decide (v19 < v18))
    (br (decide ((0 : Int) ≤ v19))
      (br (decide (v19 < (↑v17.length : Int)))
        (br (h2_2 != (0 : Int))
          (br
            (decide
              ((h3.length + 1) * 24 ≤
                140737488355328))
            (nx v17 v18 (IntKind.i64.wrap (v19 + (1 : Int))) (h3 ++ [[]]) h0_0 h0_1 h1_1 h2_0 h2_1 h2_2) none)
          (tape_Fit h2_0 h2_1 fun (q0 : Bool) =>
            br (!q0)
              (br
                (decide
                  ((h3.length + 1) * 24 ≤
                    140737488355328))
                (nx v17 v18 (IntKind.i64.wrap (v19 + (1 : Int))) (h3 ++ [[]]) h0_0 h0_1 h1_1 h2_0 h2_1 (1 : Int)) none)
              (br (decide (v17.getD v19.toNat (0 : Int) < (0 : Int)))
                (br
                  (decide
                    ((h3.length + 1) *
                        24 ≤
                      140737488355328))
                  (nx v17 v18 (IntKind.i64.wrap (v19 + (1 : Int))) (h3 ++ [[]]) h0_0 h0_1 h1_1 h2_0 h2_1 (8 : Int)) none)
                (br (decide (v17.getD v19.toNat (0 : Int) > IntKind.i64.wrap ((↑h2_0.length : Int) - h2_1)))
                  (br
                    (decide
                      ((h3.length + 1) *
                          24 ≤
                        140737488355328))
                    (nx v17 v18 (IntKind.i64.wrap (v19 + (1 : Int))) (h3 ++ [[]]) h0_0 h0_1 h1_1 h2_0 h2_1 (13 : Int))
                    none)
                  (br
                    (decide
                      ((0 : Int) ≤
                        IntKind.i64.wrap
                          (IntKind.i64.wrap (h2_1 + v17.getD v19.toNat (0 : Int)) - v17.getD v19.toNat (0 : Int))))
                    (br
                      (decide
                        (IntKind.i64.wrap
                            (IntKind.i64.wrap (h2_1 + v17.getD v19.toNat (0 : Int)) - v17.getD v19.toNat (0 : Int)) ≤
                          IntKind.i64.wrap (h2_1 + v17.getD v19.toNat (0 : Int))))
                      (br (decide (IntKind.i64.wrap (h2_1 + v17.getD v19.toNat (0 : Int)) ≤ (↑h2_0.length : Int)))
                        (slices_Clone_byte
                          (List.drop
                            (IntKind.i64.wrap
                                (IntKind.i64.wrap (h2_1 + v17.getD v19.toNat (0 : Int)) -
                                  v17.getD v19.toNat (0 : Int))).toNat
                            (List.take (IntKind.i64.wrap (h2_1 + v17.getD v19.toNat (0 : Int))).toNat h2_0))
                          fun (q1 : List Int) =>
                          br
                            (decide
                              ((h3.length + 1) *
                                  24 ≤
                                140737488355328))
                            (nx v17 v18 (IntKind.i64.wrap (v19 + (1 : Int))) (h3 ++ [q1]) h0_0 h0_1 h1_1 h2_0
                              (IntKind.i64.wrap (h2_1 + v17.getD v19.toNat (0 : Int))) h2_2)
                            none)
                        none)
                      none)
                    none)))))
        none)
      none)
    (k0 v17 v18 v19 h3 h0_0 h0_1 h1_1 h2_0 h2_1 h2_2)
noncomputable def tape_Parts_L5 {ρ : Type} (v17 : List Int) (v18 : Int) (v19 : Int) (h3 : List (List Int)) (h0_0 : List Int) (h0_1 : Int) (h1_1 : Int) (h2_0 : List Int) (h2_1 : Int) (h2_2 : Int) (k0 : (List Int) → Int → Int → (List (List Int)) → (List Int) → Int → Int → (List Int) → Int → Int → Option ρ) : Option ρ :=
  lp (fun (x : (List Int) × Int × Int × (List (List Int)) × (List Int) × Int × Int × (List Int) × Int × Int) (next : ((List Int) × Int × Int × (List (List Int)) × (List Int) × Int × Int × (List Int) × Int × Int) → Option ρ) (ex : (((List Int) × Int × Int × (List (List Int)) × (List Int) × Int × Int × (List Int) × Int × Int)) → Option ρ) => tape_Parts_r5 x.1 x.2.1 x.2.2.1 x.2.2.2.1 x.2.2.2.2.1 x.2.2.2.2.2.1 x.2.2.2.2.2.2.1 x.2.2.2.2.2.2.2.1 x.2.2.2.2.2.2.2.2.1 x.2.2.2.2.2.2.2.2.2 (fun v17 v18 v19 h3 h0_0 h0_1 h1_1 h2_0 h2_1 h2_2 => next (v17, v18, v19, h3, h0_0, h0_1, h1_1, h2_0, h2_1, h2_2)) (fun v17 v18 v19 h3 h0_0 h0_1 h1_1 h2_0 h2_1 h2_2 => ex ((v17, v18, v19, h3, h0_0, h0_1, h1_1, h2_0, h2_1, h2_2)))) (v17, v18, v19, h3, h0_0, h0_1, h1_1, h2_0, h2_1, h2_2) (fun x => k0 x.1 x.2.1 x.2.2.1 x.2.2.2.1 x.2.2.2.2.1 x.2.2.2.2.2.1 x.2.2.2.2.2.2.1 x.2.2.2.2.2.2.2.1 x.2.2.2.2.2.2.2.2.1 x.2.2.2.2.2.2.2.2.2)
noncomputable def tape_Parts_l5 {ρ : Type} (v17 : List Int) (v18 : Int) (v19 : Int) (h3 : List (List Int)) (h0_0 : List Int) (h0_1 : Int) (h1_1 : Int) (h2_0 : List Int) (h2_1 : Int) (h2_2 : Int) (k0 : (List Int) → Int → Int → (List (List Int)) → (List Int) → Int → Int → (List Int) → Int → Int → Option ρ) : Option ρ := shut (tape_Parts_L5 (ρ := ρ)) v17 v18 v19 h3 h0_0 h0_1 h1_1 h2_0 h2_1 h2_2 k0
theorem tape_Parts_l5_eq {ρ : Type} (v17 : List Int) (v18 : Int) (v19 : Int) (h3 : List (List Int)) (h0_0 : List Int) (h0_1 : Int) (h1_1 : Int) (h2_0 : List Int) (h2_1 : Int) (h2_2 : Int) (k0 : (List Int) → Int → Int → (List (List Int)) → (List Int) → Int → Int → (List Int) → Int → Int → Option ρ) : tape_Parts_l5 v17 v18 v19 h3 h0_0 h0_1 h1_1 h2_0 h2_1 h2_2 k0 = tape_Parts_L5 v17 v18 v19 h3 h0_0 h0_1 h1_1 h2_0 h2_1 h2_2 k0 := by unfold tape_Parts_l5; rw [shut_eq]
noncomputable def tape_Parts_raw {ρ : Type} (a0_Bytes : List Int) (a0_At : Int) (a1 : List Int) (k : (List Int) → Int → (List (List Int)) → Int → Option ρ) : Option ρ :=
  tape_Parts_l5 a1 (↑a1.length : Int) (0 : Int) [] a0_Bytes a0_At (0 : Int) a0_Bytes a0_At (0 : Int)
    fun (q0 : List Int) (q1 q2 : Int) (q3 : List (List Int)) (q4 : List Int) (q5 q6 : Int) (q7 : List Int)
      (q8 q9 : Int) =>
    br (q9 != (0 : Int)) (k q4 q5 [] q9) (k q7 q8 q3 (0 : Int))
noncomputable def tape_Parts {ρ : Type} (a0_Bytes : List Int) (a0_At : Int) (a1 : List Int) (k : (List Int) → Int → (List (List Int)) → Int → Option ρ) : Option ρ := shut (tape_Parts_raw (ρ := ρ)) a0_Bytes a0_At a1 k
theorem tape_Parts_eq {ρ : Type} (a0_Bytes : List Int) (a0_At : Int) (a1 : List Int) (k : (List Int) → Int → (List (List Int)) → Int → Option ρ) : tape_Parts a0_Bytes a0_At a1 k = tape_Parts_raw a0_Bytes a0_At a1 k := by unfold tape_Parts; rw [shut_eq]

end P
end

section
open Go Go.Abs
set_option linter.unusedVariables false
namespace P
noncomputable def R13_Same_raw {ρ : Type} (a0_Bytes : List Int) (a0_At : Int) (a1_Bytes : List Int) (a1_At : Int) (k : Bool → Option ρ) : Option ρ :=
  br (a0_At == a1_At) (R01_Same a0_Bytes a1_Bytes fun (q0 : Bool) => k q0) (k false)
noncomputable def R13_Same {ρ : Type} (a0_Bytes : List Int) (a0_At : Int) (a1_Bytes : List Int) (a1_At : Int) (k : Bool → Option ρ) : Option ρ := shut (R13_Same_raw (ρ := ρ)) a0_Bytes a0_At a1_Bytes a1_At k
theorem R13_Same_eq {ρ : Type} (a0_Bytes : List Int) (a0_At : Int) (a1_Bytes : List Int) (a1_At : Int) (k : Bool → Option ρ) : R13_Same a0_Bytes a0_At a1_Bytes a1_At k = R13_Same_raw a0_Bytes a0_At a1_Bytes a1_At k := by unfold R13_Same; rw [shut_eq]

end P
end

section
open Go Go.Abs
set_option linter.unusedVariables false
namespace P
noncomputable def R01_Join_r3 {ρ : Type} (v0 : List (List Int)) (v4 : Int) (h0 : List Int) (nx : (List (List Int)) → Int → (List Int) → Option ρ) (k0 : (List (List Int)) → Int → (List Int) → Option ρ) : Option ρ :=
  br (decide (v4 < (↑v0.length : Int)))
    (br (decide ((0 : Int) ≤ v4))
      (br (decide (v4 < (↑v0.length : Int)))
        (br
          (decide
            ((h0.length + (v0.getD v4.toNat []).length) *
                1 ≤
              140737488355328))
          (nx v0 (IntKind.i64.wrap (v4 + (1 : Int))) (h0 ++ v0.getD v4.toNat [])) none)
        none)
      none)
    (k0 v0 v4 h0)
noncomputable def R01_Join_L3 {ρ : Type} (v0 : List (List Int)) (v4 : Int) (h0 : List Int) (k0 : (List (List Int)) → Int → (List Int) → Option ρ) : Option ρ :=
  lp (fun (x : (List (List Int)) × Int × (List Int)) (next : ((List (List Int)) × Int × (List Int)) → Option ρ) (ex : (((List (List Int)) × Int × (List Int))) → Option ρ) => R01_Join_r3 x.1 x.2.1 x.2.2 (fun v0 v4 h0 => next (v0, v4, h0)) (fun v0 v4 h0 => ex ((v0, v4, h0)))) (v0, v4, h0) (fun x => k0 x.1 x.2.1 x.2.2)
noncomputable def R01_Join_l3 {ρ : Type} (v0 : List (List Int)) (v4 : Int) (h0 : List Int) (k0 : (List (List Int)) → Int → (List Int) → Option ρ) : Option ρ := shut (R01_Join_L3 (ρ := ρ)) v0 v4 h0 k0
theorem R01_Join_l3_eq {ρ : Type} (v0 : List (List Int)) (v4 : Int) (h0 : List Int) (k0 : (List (List Int)) → Int → (List Int) → Option ρ) : R01_Join_l3 v0 v4 h0 k0 = R01_Join_L3 v0 v4 h0 k0 := by unfold R01_Join_l3; rw [shut_eq]
noncomputable def R01_Join_raw {ρ : Type} (a0 : List (List Int)) (k : (List Int) → Option ρ) : Option ρ :=
  R01_Join_l3 a0 (0 : Int) [] fun (q0 : List (List Int)) (q1 : Int) (q2 : List Int) => k q2
noncomputable def R01_Join {ρ : Type} (a0 : List (List Int)) (k : (List Int) → Option ρ) : Option ρ := shut (R01_Join_raw (ρ := ρ)) a0 k
theorem R01_Join_eq {ρ : Type} (a0 : List (List Int)) (k : (List Int) → Option ρ) : R01_Join a0 k = R01_Join_raw a0 k := by unfold R01_Join; rw [shut_eq]

end P
end

section
open Go Go.Abs
set_option linter.unusedVariables false
namespace P
noncomputable def tape_Left_raw {ρ : Type} (a0_Bytes : List Int) (a0_At : Int) (k : Int → Option ρ) : Option ρ :=
  tape_Fit a0_Bytes a0_At fun (q0 : Bool) =>
    br (!q0) (k (0 : Int))
      (br (decide ((0 : Int) ≤ a0_At))
        (br (decide (a0_At ≤ (↑a0_Bytes.length : Int)))
          (br (decide ((↑a0_Bytes.length : Int) ≤ (↑a0_Bytes.length : Int)))
            (k (↑(List.drop a0_At.toNat (List.take (↑a0_Bytes.length : Int).toNat a0_Bytes)).length : Int)) none)
          none)
        none)
noncomputable def tape_Left {ρ : Type} (a0_Bytes : List Int) (a0_At : Int) (k : Int → Option ρ) : Option ρ := shut (tape_Left_raw (ρ := ρ)) a0_Bytes a0_At k
theorem tape_Left_eq {ρ : Type} (a0_Bytes : List Int) (a0_At : Int) (k : Int → Option ρ) : tape_Left a0_Bytes a0_At k = tape_Left_raw a0_Bytes a0_At k := by unfold tape_Left; rw [shut_eq]

end P
end

section
open Go Go.Abs
set_option linter.unusedVariables false
namespace P
noncomputable def L13_TapeOnce_raw {ρ : Type} (a0_Bytes : List Int) (a0_At : Int) (a1 : Int) (a2 : Int) (k : Bool → Option ρ) : Option ρ :=
  br (decide ((↑a0_Bytes.length : Int) > (2000 : Int))) (L13_awake fun (q0 : Bool) => k q0)
    (tape_Take a0_Bytes a0_At (IntKind.i64.wrap a1) fun (q1 : List Int) (q2 : Int) (q3 : List Int) (q4 : Int) =>
      tape_Take q1 q2 (IntKind.i64.wrap a2) fun (q5 : List Int) (q6 : Int) (q7 : List Int) (q8 : Int) =>
        tape_Take a0_Bytes a0_At (IntKind.i64.wrap (IntKind.i64.wrap a1 + IntKind.i64.wrap a2))
          fun (q9 : List Int) (q10 : Int) (q11 : List Int) (q12 : Int) =>
          tape_Parts a0_Bytes a0_At [IntKind.i64.wrap a1, IntKind.i64.wrap a2]
            fun (q13 : List Int) (q14 : Int) (q15 : List (List Int)) (q16 : Int) =>
            br (q4 != (0 : Int))
              (br (q12 != (0 : Int))
                (br (q16 != (0 : Int))
                  (R13_Same q13 q14 a0_Bytes a0_At fun (q17 : Bool) =>
                    br q17
                      (R13_Same q9 q10 a0_Bytes a0_At fun (q18 : Bool) =>
                        br q18
                          (br (IntKind.i64.wrap ((↑q11.length : Int) + (↑q15.length : Int)) == (0 : Int))
                            (L13_awake fun (q19 : Bool) => k q19) (k false))
                          (k false))
                      (k false))
                  (k false))
                (k false))
              (br (q8 != (0 : Int))
                (br (q12 != (0 : Int))
                  (br (q16 != (0 : Int))
                    (R13_Same q13 q14 a0_Bytes a0_At fun (q20 : Bool) =>
                      br q20
                        (R13_Same q9 q10 a0_Bytes a0_At fun (q21 : Bool) =>
                          br q21
                            (br (IntKind.i64.wrap ((↑q11.length : Int) + (↑q15.length : Int)) == (0 : Int))
                              (L13_awake fun (q22 : Bool) => k q22) (k false))
                            (k false))
                        (k false))
                    (k false))
                  (k false))
                (br (q12 == (0 : Int))
                  (br (q16 == (0 : Int))
                    (R01_Join [q3, q7] fun (q23 : List Int) =>
                      R01_Same q11 q23 fun (q24 : Bool) =>
                        br q24
                          (R01_Join q15 fun (q25 : List Int) =>
                            R01_Same q25 q11 fun (q26 : Bool) =>
                              br q26
                                (br ((↑q15.length : Int) == (2 : Int))
                                  (R13_Same q9 q10 q5 q6 fun (q27 : Bool) =>
                                    br q27
                                      (R13_Same q13 q14 q5 q6 fun (q28 : Bool) =>
                                        br q28
                                          (tape_Left a0_Bytes a0_At fun (q29 : Int) =>
                                            tape_Left q5 q6 fun (q30 : Int) =>
                                              br
                                                (q29 ==
                                                  IntKind.i64.wrap
                                                    (IntKind.i64.wrap (q30 + IntKind.i64.wrap a1) + IntKind.i64.wrap a2))
                                                (L13_awake fun (q31 : Bool) => k q31) (k false))
                                          (k false))
                                      (k false))
                                  (k false))
                                (k false))
                          (k false))
                    (k false))
                  (k false))))
noncomputable def L13_TapeOnce {ρ : Type} (a0_Bytes : List Int) (a0_At : Int) (a1 : Int) (a2 : Int) (k : Bool → Option ρ) : Option ρ := shut (L13_TapeOnce_raw (ρ := ρ)) a0_Bytes a0_At a1 a2 k
theorem L13_TapeOnce_eq {ρ : Type} (a0_Bytes : List Int) (a0_At : Int) (a1 : Int) (a2 : Int) (k : Bool → Option ρ) : L13_TapeOnce a0_Bytes a0_At a1 a2 k = L13_TapeOnce_raw a0_Bytes a0_At a1 a2 k := by unfold L13_TapeOnce; rw [shut_eq]

end P
end

section
open Go Go.Abs Go.Proofs
set_option maxRecDepth 100000
set_option linter.unusedVariables false
namespace R01_Same
def S4 (v0 : List Int) (v1 : List Int) (v5 : Int) : ASt := ⟨[(0, .sl (.ints .u8 v0)), (1, .sl (.ints .u8 v1)), (5, .v (.int .i64 v5))], [], 0, 26⟩
def V4 : ASt → Option ((List Int) × (List Int) × Int)
  | ⟨[(0, .sl (.ints .u8 v0)), (1, .sl (.ints .u8 v1)), (5, .v (.int .i64 v5))], [], 0, 26⟩ => some (v0, v1, v5)
  | _ => none
theorem V4_ok (st : ASt) (x : (List Int) × (List Int) × Int) (h : V4 st = some x) : st = S4 x.1 x.2.1 x.2.2 := by
  unfold V4 at h
  split at h
  · cases h; rfl
  · cases h
noncomputable def L4 : LSpec := fun st K => match V4 st with
  | some x => P.R01_Same_l4 x.1 x.2.1 x.2.2 (fun v0 v1 v5 => K (.exit 0) (S4 v0 v1 v5)) (fun v4 => K .ret ⟨[(4, .v (.bool v4))], [], 0, 26⟩)
  | none => none
noncomputable def D : Ctx := ({ P := Try.prog, G := [], globs := [], hints := [(4, ⟨[0, 1, 5], [], [4], []⟩)], loops := [(4, L4)], inl := [] } : Ctx)
def E4 (K : AExit → ASt → Option R) : (((List Int) × (List Int) × Int) ⊕ ((Bool))) → Option R := (Sum.elim (fun x => K (.exit 0) (S4 x.1 x.2.1 x.2.2)) (fun x => K .ret ⟨[(4, .v (.bool x))], [], 0, 26⟩))
theorem round4 (K : AExit → ASt → Option R) (next : ASt → Option R) (x : (List Int) × (List Int) × Int) : roundA D (loopAt Try.f19 4) K next (S4 x.1 x.2.1 x.2.2) = (fun (x : (List Int) × (List Int) × Int) (next : ((List Int) × (List Int) × Int) → Option R) (ex : (((List Int) × (List Int) × Int) ⊕ ((Bool))) → Option R) => P.R01_Same_r4 x.1 x.2.1 x.2.2 (fun v0 v1 v5 => next (v0, v1, v5)) (fun v0 v1 v5 => ex (.inl (v0, v1, v5))) (fun v4 => ex (.inr v4))) x (fun x => next (S4 x.1 x.2.1 x.2.2)) (E4 K) := by kernel_rfl
theorem lq4 (st : ASt) (K : AExit → ASt → Option R) : L4 st K = vMap (V4 st) (fun x => lp (fun (x : (List Int) × (List Int) × Int) (next : ((List Int) × (List Int) × Int) → Option R) (ex : (((List Int) × (List Int) × Int) ⊕ ((Bool))) → Option R) => P.R01_Same_r4 x.1 x.2.1 x.2.2 (fun v0 v1 v5 => next (v0, v1, v5)) (fun v0 v1 v5 => ex (.inl (v0, v1, v5))) (fun v4 => ex (.inr v4))) x (E4 K)) := by
  unfold L4
  cases V4 st with
  | none => rfl
  | some x => simp only [P.R01_Same_l4_eq]; rfl
theorem loop4 : LoopOk D (loopAt Try.f19 4) := loopOk_lp (X := (List Int) × (List Int) × Int) (Y := ((List Int) × (List Int) × Int) ⊕ ((Bool))) (fun x => S4 x.1 x.2.1 x.2.2) V4_ok (stp := (fun (x : (List Int) × (List Int) × Int) (next : ((List Int) × (List Int) × Int) → Option R) (ex : (((List Int) × (List Int) × Int) ⊕ ((Bool))) → Option R) => P.R01_Same_r4 x.1 x.2.1 x.2.2 (fun v0 v1 v5 => next (v0, v1, v5)) (fun v0 v1 v5 => ex (.inl (v0, v1, v5))) (fun v4 => ex (.inr v4)))) (enc := E4) (L := L4) (by kernel_rfl) lq4 round4
theorem body (a0 : List Int) (a1 : List Int) (K : AVal → Option R) : bodyA D Try.f19 [.any] [.sl (.ints .u8 a0), .sl (.ints .u8 a1)] K = P.R01_Same a0 a1 (fun r0 => K (.v (.bool r0))) := by
  rw [P.R01_Same_eq]
  kernel_rfl
theorem loops : loopsOf (Try.f19.body.getD .skip) = [loopAt Try.f19 4] := by kernel_rfl
noncomputable def spec0 : Abs.Spec := fun args K => match args with
  | [.sl (.ints .u8 a0), .sl (.ints .u8 a1)] => P.R01_Same a0 a1 (fun r0 => K (.v (.bool r0)))
  | _ => none
noncomputable def spec : Abs.Spec := fun args K => spec0 (coerL [.sl (.ints .u8 []), .sl (.ints .u8 [])] args) K
theorem ok0 : Proved Try.prog [] 19 spec0 := by
  refine proved_of (D := D) (fn := Try.f19) (c := Try.f19.body.getD .skip) [.any] (by kernel_rfl) (globsPlain_of (by kernel_rfl)) (by kernel_rfl) (by kernel_rfl) (by kernel_rfl) trivial trivial ?_ ?_
  · rw [loops]; exact ⟨loop4, trivial⟩
  · intro args K r h
    unfold spec0 at h
    split at h
    · rw [body]; exact h
    · cases h
theorem ok : Proved Try.prog [] 19 spec := proved_coer _ ok0
end R01_Same
end
