/-
  TapeTells, part G: an interpreter of my own over abstract values, the pure functions, the walks and the plain law.
-/

import Derived.Test.YtmaoicbiekgmhaaTapeTellsF
import Derived.Test.YtmaoicbiekgmhaaProg
import Derived.KernelRfl

section
open Go Go.Abs
set_option linter.unusedVariables false
namespace P
noncomputable def tape_Fit_raw {ρ : Type} (a0_Bytes : List Int) (a0_At : Int) (k : Bool → Option ρ) : Option ρ :=
  br (decide ((↑a0_Bytes.length : Int) ≤ (1048576 : Int)))
    (br (decide (a0_At ≥ (0 : Int))) (k (decide (a0_At ≤ (↑a0_Bytes.length : Int)))) (k false)) (k false)
noncomputable def tape_Fit {ρ : Type} (a0_Bytes : List Int) (a0_At : Int) (k : Bool → Option ρ) : Option ρ := shut (tape_Fit_raw (ρ := ρ)) a0_Bytes a0_At k
theorem tape_Fit_eq {ρ : Type} (a0_Bytes : List Int) (a0_At : Int) (k : Bool → Option ρ) : tape_Fit a0_Bytes a0_At k = tape_Fit_raw a0_Bytes a0_At k := by unfold tape_Fit; rw [shut_eq]

end P
end

section
open Go Go.Abs
set_option linter.unusedVariables false
namespace P
noncomputable def slices_Clone_byte {ρ : Type} (a0 : List Int) (k : (List Int) → Option ρ) : Option ρ :=
  br (decide (a0.length * 1 ≤ 140737488355328)) (k a0) none
end P
end

section
open Go Go.Abs
set_option linter.unusedVariables false
namespace P
noncomputable def tape_Take_raw {ρ : Type} (a0_Bytes : List Int) (a0_At : Int) (a1 : Int) (k : (List Int) → Int → (List Int) → Int → Option ρ) : Option ρ :=
  tape_Fit a0_Bytes a0_At fun (q0 : Bool) =>
    br (!q0) (k a0_Bytes a0_At [] (1 : Int))
      (br (decide (a1 < (0 : Int))) (k a0_Bytes a0_At [] (8 : Int))
        (br (decide (a1 > IntKind.i64.wrap ((↑a0_Bytes.length : Int) - a0_At))) (k a0_Bytes a0_At [] (13 : Int))
          (br (decide ((0 : Int) ≤ IntKind.i64.wrap (IntKind.i64.wrap (a0_At + a1) - a1)))
            (br (decide (IntKind.i64.wrap (IntKind.i64.wrap (a0_At + a1) - a1) ≤ IntKind.i64.wrap (a0_At + a1)))
              (br (decide (IntKind.i64.wrap (a0_At + a1) ≤ (↑a0_Bytes.length : Int)))
                (slices_Clone_byte
                  (List.drop (IntKind.i64.wrap (IntKind.i64.wrap (a0_At + a1) - a1)).toNat
                    (List.take (IntKind.i64.wrap (a0_At + a1)).toNat a0_Bytes))
                  fun (q1 : List Int) => k a0_Bytes (IntKind.i64.wrap (a0_At + a1)) q1 (0 : Int))
                none)
              none)
            none)))
noncomputable def tape_Take {ρ : Type} (a0_Bytes : List Int) (a0_At : Int) (a1 : Int) (k : (List Int) → Int → (List Int) → Int → Option ρ) : Option ρ := shut (tape_Take_raw (ρ := ρ)) a0_Bytes a0_At a1 k
theorem tape_Take_eq {ρ : Type} (a0_Bytes : List Int) (a0_At : Int) (a1 : Int) (k : (List Int) → Int → (List Int) → Int → Option ρ) : tape_Take a0_Bytes a0_At a1 k = tape_Take_raw a0_Bytes a0_At a1 k := by unfold tape_Take; rw [shut_eq]

end P
end

section
open Go Go.Abs
set_option linter.unusedVariables false
namespace P
noncomputable def R01_Same_r4 {ρ : Type} (v0 : List Int) (v1 : List Int) (v5 : Int) (nx : (List Int) → (List Int) → Int → Option ρ) (k0 : (List Int) → (List Int) → Int → Option ρ) (k1 : Bool → Option ρ) : Option ρ :=
  br (decide (v5 < (↑v0.length : Int)))
    (br (decide ((0 : Int) ≤ v5))
      (br (decide (v5 < (↑v0.length : Int)))
        (br (decide ((0 : Int) ≤ v5))
          (br (decide (v5 < (↑v1.length : Int)))
            (br (v0.getD v5.toNat (0 : Int) != v1.getD v5.toNat (0 : Int)) (k1 false)
              (nx v0 v1 (IntKind.i64.wrap (v5 + (1 : Int)))))
            none)
          none)
        none)
      none)
    (k0 v0 v1 v5)
noncomputable def R01_Same_L4 {ρ : Type} (v0 : List Int) (v1 : List Int) (v5 : Int) (k0 : (List Int) → (List Int) → Int → Option ρ) (k1 : Bool → Option ρ) : Option ρ :=
  lp (fun (x : (List Int) × (List Int) × Int) (next : ((List Int) × (List Int) × Int) → Option ρ) (ex : (((List Int) × (List Int) × Int) ⊕ ((Bool))) → Option ρ) => R01_Same_r4 x.1 x.2.1 x.2.2 (fun v0 v1 v5 => next (v0, v1, v5)) (fun v0 v1 v5 => ex (.inl (v0, v1, v5))) (fun v4 => ex (.inr v4))) (v0, v1, v5) (Sum.elim (fun x => k0 x.1 x.2.1 x.2.2) (fun x => k1 x))
noncomputable def R01_Same_l4 {ρ : Type} (v0 : List Int) (v1 : List Int) (v5 : Int) (k0 : (List Int) → (List Int) → Int → Option ρ) (k1 : Bool → Option ρ) : Option ρ := shut (R01_Same_L4 (ρ := ρ)) v0 v1 v5 k0 k1
theorem R01_Same_l4_eq {ρ : Type} (v0 : List Int) (v1 : List Int) (v5 : Int) (k0 : (List Int) → (List Int) → Int → Option ρ) (k1 : Bool → Option ρ) : R01_Same_l4 v0 v1 v5 k0 k1 = R01_Same_L4 v0 v1 v5 k0 k1 := by unfold R01_Same_l4; rw [shut_eq]
noncomputable def R01_Same_raw {ρ : Type} (a0 : List Int) (a1 : List Int) (k : Bool → Option ρ) : Option ρ :=
  br ((↑a0.length : Int) != (↑a1.length : Int)) (k false)
    (R01_Same_l4 a0 a1 (0 : Int) (fun (q0 q1 : List Int) (q2 : Int) => k true) fun (q3 : Bool) => k q3)
noncomputable def R01_Same {ρ : Type} (a0 : List Int) (a1 : List Int) (k : Bool → Option ρ) : Option ρ := shut (R01_Same_raw (ρ := ρ)) a0 a1 k
theorem R01_Same_eq {ρ : Type} (a0 : List Int) (a1 : List Int) (k : Bool → Option ρ) : R01_Same a0 a1 k = R01_Same_raw a0 a1 k := by unfold R01_Same; rw [shut_eq]

end P
end

section
open Go Go.Abs
set_option linter.unusedVariables false
namespace P
noncomputable def L13_awake_raw {ρ : Type}  (k : Bool → Option ρ) : Option ρ :=
  tape_Take [(1 : Int), (2 : Int), (3 : Int)] (0 : Int) (2 : Int)
    fun (q0 : List Int) (q1 : Int) (q2 : List Int) (q3 : Int) =>
    tape_Take q0 q1 (2 : Int) fun (q4 : List Int) (q5 : Int) (q6 : List Int) (q7 : Int) =>
      br (q3 == (0 : Int))
        (R01_Same q2 [(1 : Int), (2 : Int)] fun (q8 : Bool) => br q8 (k (q7 == (13 : Int))) (k false)) (k false)
noncomputable def L13_awake {ρ : Type}  (k : Bool → Option ρ) : Option ρ := shut (L13_awake_raw (ρ := ρ))  k
theorem L13_awake_eq {ρ : Type}  (k : Bool → Option ρ) : L13_awake  k = L13_awake_raw  k := by unfold L13_awake; rw [shut_eq]

end P
end

section
open Go Go.Abs
set_option linter.unusedVariables false
namespace P
noncomputable def tape_Parts_r5 {ρ : Type} (v17 : List Int) (v18 : Int) (v19 : Int) (h3 : List (List Int)) (h0_0 : List Int) (h0_1 : Int) (h1_1 : Int) (h2_0 : List Int) (h2_1 : Int) (h2_2 : Int) (nx : (List Int) → Int → Int → (List (List Int)) → (List Int) → Int → Int → (List Int) → Int → Int → Option ρ) (k0 : (List Int) → Int → Int → (List (List Int)) → (List Int) → Int → Int → (List Int) → Int → Int → Option ρ) : Option ρ :=
  br (decide (v19 < v18))
    (br (decide ((0 : Int) ≤ v19))
      (br (decide (v19 < (↑v17.length : Int)))
        (br (h2_2 != (0 : Int))
          (br
            (decide
              ((h3.length + 1) * 24 ≤
                140737488355328))
            (nx v17 v18 (IntKind.i64.wrap (v19 + (1 : Int))) (h3 ++ [[]]) h0_0 h0_1 h1_1 h2_0 h2_1 h2_2) none)
          (tape_Fit h2_0 h2_1 fun (q0 : Bool) =>
            br (!q0)
              (br
                (decide
                  ((h3.length + 1) * 24 ≤
                    140737488355328))
                (nx v17 v18 (IntKind.i64.wrap (v19 + (1 : Int))) (h3 ++ [[]]) h0_0 h0_1 h1_1 h2_0 h2_1 (1 : Int)) none)
              (br (decide (v17.getD v19.toNat (0 : Int) < (0 : Int)))
                (br
                  (decide
                    ((h3.length + 1) *
                        24 ≤
                      140737488355328))
                  (nx v17 v18 (IntKind.i64.wrap (v19 + (1 : Int))) (h3 ++ [[]]) h0_0 h0_1 h1_1 h2_0 h2_1 (8 : Int)) none)
                (br (decide (v17.getD v19.toNat (0 : Int) > IntKind.i64.wrap ((↑h2_0.length : Int) - h2_1)))
                  (br
                    (decide
                      ((h3.length + 1) *
                          24 ≤
                        140737488355328))
                    (nx v17 v18 (IntKind.i64.wrap (v19 + (1 : Int))) (h3 ++ [[]]) h0_0 h0_1 h1_1 h2_0 h2_1 (13 : Int))
                    none)
                  (br
                    (decide
                      ((0 : Int) ≤
                        IntKind.i64.wrap
                          (IntKind.i64.wrap (h2_1 + v17.getD v19.toNat (0 : Int)) - v17.getD v19.toNat (0 : Int))))
                    (br
                      (decide
                        (IntKind.i64.wrap
                            (IntKind.i64.wrap (h2_1 + v17.getD v19.toNat (0 : Int)) - v17.getD v19.toNat (0 : Int)) ≤
                          IntKind.i64.wrap (h2_1 + v17.getD v19.toNat (0 : Int))))
                      (br (decide (IntKind.i64.wrap (h2_1 + v17.getD v19.toNat (0 : Int)) ≤ (↑h2_0.length : Int)))
                        (slices_Clone_byte
                          (List.drop
                            (IntKind.i64.wrap
                                (IntKind.i64.wrap (h2_1 + v17.getD v19.toNat (0 : Int)) -
                                  v17.getD v19.toNat (0 : Int))).toNat
                            (List.take (IntKind.i64.wrap (h2_1 + v17.getD v19.toNat (0 : Int))).toNat h2_0))
                          fun (q1 : List Int) =>
                          br
                            (decide
                              ((h3.length + 1) *
                                  24 ≤
                                140737488355328))
                            (nx v17 v18 (IntKind.i64.wrap (v19 + (1 : Int))) (h3 ++ [q1]) h0_0 h0_1 h1_1 h2_0
                              (IntKind.i64.wrap (h2_1 + v17.getD v19.toNat (0 : Int))) h2_2)
                            none)
                        none)
                      none)
                    none)))))
        none)
      none)
    (k0 v17 v18 v19 h3 h0_0 h0_1 h1_1 h2_0 h2_1 h2_2)
noncomputable def tape_Parts_L5 {ρ : Type} (v17 : List Int) (v18 : Int) (v19 : Int) (h3 : List (List Int)) (h0_0 : List Int) (h0_1 : Int) (h1_1 : Int) (h2_0 : List Int) (h2_1 : Int) (h2_2 : Int) (k0 : (List Int) → Int → Int → (List (List Int)) → (List Int) → Int → Int → (List Int) → Int → Int → Option ρ) : Option ρ :=
  lp (fun (x : (List Int) × Int × Int × (List (List Int)) × (List Int) × Int × Int × (List Int) × Int × Int) (next : ((List Int) × Int × Int × (List (List Int)) × (List Int) × Int × Int × (List Int) × Int × Int) → Option ρ) (ex : (((List Int) × Int × Int × (List (List Int)) × (List Int) × Int × Int × (List Int) × Int × Int)) → Option ρ) => tape_Parts_r5 x.1 x.2.1 x.2.2.1 x.2.2.2.1 x.2.2.2.2.1 x.2.2.2.2.2.1 x.2.2.2.2.2.2.1 x.2.2.2.2.2.2.2.1 x.2.2.2.2.2.2.2.2.1 x.2.2.2.2.2.2.2.2.2 (fun v17 v18 v19 h3 h0_0 h0_1 h1_1 h2_0 h2_1 h2_2 => next (v17, v18, v19, h3, h0_0, h0_1, h1_1, h2_0, h2_1, h2_2)) (fun v17 v18 v19 h3 h0_0 h0_1 h1_1 h2_0 h2_1 h2_2 => ex ((v17, v18, v19, h3, h0_0, h0_1, h1_1, h2_0, h2_1, h2_2)))) (v17, v18, v19, h3, h0_0, h0_1, h1_1, h2_0, h2_1, h2_2) (fun x => k0 x.1 x.2.1 x.2.2.1 x.2.2.2.1 x.2.2.2.2.1 x.2.2.2.2.2.1 x.2.2.2.2.2.2.1 x.2.2.2.2.2.2.2.1 x.2.2.2.2.2.2.2.2.1 x.2.2.2.2.2.2.2.2.2)
noncomputable def tape_Parts_l5 {ρ : Type} (v17 : List Int) (v18 : Int) (v19 : Int) (h3 : List (List Int)) (h0_0 : List Int) (h0_1 : Int) (h1_1 : Int) (h2_0 : List Int) (h2_1 : Int) (h2_2 : Int) (k0 : (List Int) → Int → Int → (List (List Int)) → (List Int) → Int → Int → (List Int) → Int → Int → Option ρ) : Option ρ := shut (tape_Parts_L5 (ρ := ρ)) v17 v18 v19 h3 h0_0 h0_1 h1_1 h2_0 h2_1 h2_2 k0
theorem tape_Parts_l5_eq {ρ : Type} (v17 : List Int) (v18 : Int) (v19 : Int) (h3 : List (List Int)) (h0_0 : List Int) (h0_1 : Int) (h1_1 : Int) (h2_0 : List Int) (h2_1 : Int) (h2_2 : Int) (k0 : (List Int) → Int → Int → (List (List Int)) → (List Int) → Int → Int → (List Int) → Int → Int → Option ρ) : tape_Parts_l5 v17 v18 v19 h3 h0_0 h0_1 h1_1 h2_0 h2_1 h2_2 k0 = tape_Parts_L5 v17 v18 v19 h3 h0_0 h0_1 h1_1 h2_0 h2_1 h2_2 k0 := by unfold tape_Parts_l5; rw [shut_eq]
noncomputable def tape_Parts_raw {ρ : Type} (a0_Bytes : List Int) (a0_At : Int) (a1 : List Int) (k : (List Int) → Int → (List (List Int)) → Int → Option ρ) : Option ρ :=
  tape_Parts_l5 a1 (↑a1.length : Int) (0 : Int) [] a0_Bytes a0_At (0 : Int) a0_Bytes a0_At (0 : Int)
    fun (q0 : List Int) (q1 q2 : Int) (q3 : List (List Int)) (q4 : List Int) (q5 q6 : Int) (q7 : List Int)
      (q8 q9 : Int) =>
    br (q9 != (0 : Int)) (k q4 q5 [] q9) (k q7 q8 q3 (0 : Int))
noncomputable def tape_Parts {ρ : Type} (a0_Bytes : List Int) (a0_At : Int) (a1 : List Int) (k : (List Int) → Int → (List (List Int)) → Int → Option ρ) : Option ρ := shut (tape_Parts_raw (ρ := ρ)) a0_Bytes a0_At a1 k
theorem tape_Parts_eq {ρ : Type} (a0_Bytes : List Int) (a0_At : Int) (a1 : List Int) (k : (List Int) → Int → (List (List Int)) → Int → Option ρ) : tape_Parts a0_Bytes a0_At a1 k = tape_Parts_raw a0_Bytes a0_At a1 k := by unfold tape_Parts; rw [shut_eq]

end P
end

section
open Go Go.Abs
set_option linter.unusedVariables false
namespace P
noncomputable def R13_Same_raw {ρ : Type} (a0_Bytes : List Int) (a0_At : Int) (a1_Bytes : List Int) (a1_At : Int) (k : Bool → Option ρ) : Option ρ :=
  br (a0_At == a1_At) (R01_Same a0_Bytes a1_Bytes fun (q0 : Bool) => k q0) (k false)
noncomputable def R13_Same {ρ : Type} (a0_Bytes : List Int) (a0_At : Int) (a1_Bytes : List Int) (a1_At : Int) (k : Bool → Option ρ) : Option ρ := shut (R13_Same_raw (ρ := ρ)) a0_Bytes a0_At a1_Bytes a1_At k
theorem R13_Same_eq {ρ : Type} (a0_Bytes : List Int) (a0_At : Int) (a1_Bytes : List Int) (a1_At : Int) (k : Bool → Option ρ) : R13_Same a0_Bytes a0_At a1_Bytes a1_At k = R13_Same_raw a0_Bytes a0_At a1_Bytes a1_At k := by unfold R13_Same; rw [shut_eq]

end P
end

section
open Go Go.Abs
set_option linter.unusedVariables false
namespace P
noncomputable def tape_Left_raw {ρ : Type} (a0_Bytes : List Int) (a0_At : Int) (k : Int → Option ρ) : Option ρ :=
  tape_Fit a0_Bytes a0_At fun (q0 : Bool) =>
    br (!q0) (k (0 : Int))
      (br (decide ((0 : Int) ≤ a0_At))
        (br (decide (a0_At ≤ (↑a0_Bytes.length : Int)))
          (br (decide ((↑a0_Bytes.length : Int) ≤ (↑a0_Bytes.length : Int)))
            (k (↑(List.drop a0_At.toNat (List.take (↑a0_Bytes.length : Int).toNat a0_Bytes)).length : Int)) none)
          none)
        none)
noncomputable def tape_Left {ρ : Type} (a0_Bytes : List Int) (a0_At : Int) (k : Int → Option ρ) : Option ρ := shut (tape_Left_raw (ρ := ρ)) a0_Bytes a0_At k
theorem tape_Left_eq {ρ : Type} (a0_Bytes : List Int) (a0_At : Int) (k : Int → Option ρ) : tape_Left a0_Bytes a0_At k = tape_Left_raw a0_Bytes a0_At k := by unfold tape_Left; rw [shut_eq]

end P
end

section
open Go Go.Abs
set_option linter.unusedVariables false
namespace P
noncomputable def R13_Fit_raw {ρ : Type} (a0_Bytes : List Int) (a0_At : Int) (k : Bool → Option ρ) : Option ρ :=
  br (decide ((↑a0_Bytes.length : Int) ≤ (1048576 : Int)))
    (br (decide (a0_At ≥ (0 : Int))) (k (decide (a0_At ≤ (↑a0_Bytes.length : Int)))) (k false)) (k false)
noncomputable def R13_Fit {ρ : Type} (a0_Bytes : List Int) (a0_At : Int) (k : Bool → Option ρ) : Option ρ := shut (R13_Fit_raw (ρ := ρ)) a0_Bytes a0_At k
theorem R13_Fit_eq {ρ : Type} (a0_Bytes : List Int) (a0_At : Int) (k : Bool → Option ρ) : R13_Fit a0_Bytes a0_At k = R13_Fit_raw a0_Bytes a0_At k := by unfold R13_Fit; rw [shut_eq]

end P
end

section
open Go Go.Abs
set_option linter.unusedVariables false
namespace P
noncomputable def R13_Left_raw {ρ : Type} (a0_Bytes : List Int) (a0_At : Int) (k : Int → Option ρ) : Option ρ :=
  R13_Fit a0_Bytes a0_At fun (q0 : Bool) =>
    br (!q0) (k (0 : Int)) (k (IntKind.i64.wrap ((↑a0_Bytes.length : Int) - a0_At)))
noncomputable def R13_Left {ρ : Type} (a0_Bytes : List Int) (a0_At : Int) (k : Int → Option ρ) : Option ρ := shut (R13_Left_raw (ρ := ρ)) a0_Bytes a0_At k
theorem R13_Left_eq {ρ : Type} (a0_Bytes : List Int) (a0_At : Int) (k : Int → Option ρ) : R13_Left a0_Bytes a0_At k = R13_Left_raw a0_Bytes a0_At k := by unfold R13_Left; rw [shut_eq]

end P
end

section
open Go Go.Abs
set_option linter.unusedVariables false
namespace P
noncomputable def R13_Take_raw {ρ : Type} (a0_Bytes : List Int) (a0_At : Int) (a1 : Int) (k : (List Int) → Int → (List Int) → Int → Option ρ) : Option ρ :=
  R13_Fit a0_Bytes a0_At fun (q0 : Bool) =>
    br (!q0) (k a0_Bytes a0_At [] (1 : Int))
      (br (decide (a1 < (0 : Int))) (k a0_Bytes a0_At [] (8 : Int))
        (R13_Left a0_Bytes a0_At fun (q1 : Int) =>
          br (decide (a1 > q1)) (k a0_Bytes a0_At [] (13 : Int))
            (br (decide ((0 : Int) ≤ a0_At))
              (br (decide (a0_At ≤ IntKind.i64.wrap (a0_At + a1)))
                (br (decide (IntKind.i64.wrap (a0_At + a1) ≤ (↑a0_Bytes.length : Int)))
                  (k a0_Bytes (IntKind.i64.wrap (a0_At + a1))
                    (List.drop a0_At.toNat (List.take (IntKind.i64.wrap (a0_At + a1)).toNat a0_Bytes)) (0 : Int))
                  none)
                none)
              none)))
noncomputable def R13_Take {ρ : Type} (a0_Bytes : List Int) (a0_At : Int) (a1 : Int) (k : (List Int) → Int → (List Int) → Int → Option ρ) : Option ρ := shut (R13_Take_raw (ρ := ρ)) a0_Bytes a0_At a1 k
theorem R13_Take_eq {ρ : Type} (a0_Bytes : List Int) (a0_At : Int) (a1 : Int) (k : (List Int) → Int → (List Int) → Int → Option ρ) : R13_Take a0_Bytes a0_At a1 k = R13_Take_raw a0_Bytes a0_At a1 k := by unfold R13_Take; rw [shut_eq]

end P
end

section
open Go Go.Abs
set_option linter.unusedVariables false
namespace P
noncomputable def R13_Parts_r4 {ρ : Type} (v1 : List Int) (v9 : Int) (h3 : List (List Int)) (h0_0 : List Int) (h0_1 : Int) (h1_1 : Int) (h2_0 : List Int) (h2_1 : Int) (nx : (List Int) → Int → (List (List Int)) → (List Int) → Int → Int → (List Int) → Int → Option ρ) (k0 : (List Int) → Int → (List (List Int)) → (List Int) → Int → Int → (List Int) → Int → Option ρ) (k1 : Int → (List Int) → Int → (List Int) → Int → Int → (List (List Int)) → (List Int) → Int → Int → (List Int) → Int → Option ρ) : Option ρ :=
  br (decide (v9 < (↑v1.length : Int)))
    (br (decide ((0 : Int) ≤ v9))
      (br (decide (v9 < (↑v1.length : Int)))
        (R13_Take h2_0 h2_1 (v1.getD v9.toNat (0 : Int)) fun (q0 : List Int) (q1 : Int) (q2 : List Int) (q3 : Int) =>
          br (q3 != (0 : Int)) (k1 q3 h0_0 h0_1 q0 q1 (0 : Int) h3 h0_0 h0_1 h1_1 h2_0 h2_1)
            (br
              (decide
                ((h3.length + 1) * 24 ≤
                  140737488355328))
              (nx v1 (IntKind.i64.wrap (v9 + (1 : Int))) (h3 ++ [q2]) h0_0 h0_1 h1_1 q0 q1) none))
        none)
      none)
    (k0 v1 v9 h3 h0_0 h0_1 h1_1 h2_0 h2_1)
noncomputable def R13_Parts_L4 {ρ : Type} (v1 : List Int) (v9 : Int) (h3 : List (List Int)) (h0_0 : List Int) (h0_1 : Int) (h1_1 : Int) (h2_0 : List Int) (h2_1 : Int) (k0 : (List Int) → Int → (List (List Int)) → (List Int) → Int → Int → (List Int) → Int → Option ρ) (k1 : Int → (List Int) → Int → (List Int) → Int → Int → (List (List Int)) → (List Int) → Int → Int → (List Int) → Int → Option ρ) : Option ρ :=
  lp (fun (x : (List Int) × Int × (List (List Int)) × (List Int) × Int × Int × (List Int) × Int) (next : ((List Int) × Int × (List (List Int)) × (List Int) × Int × Int × (List Int) × Int) → Option ρ) (ex : (((List Int) × Int × (List (List Int)) × (List Int) × Int × Int × (List Int) × Int) ⊕ ((Int × (List Int) × Int × (List Int) × Int × Int × (List (List Int)) × (List Int) × Int × Int × (List Int) × Int))) → Option ρ) => R13_Parts_r4 x.1 x.2.1 x.2.2.1 x.2.2.2.1 x.2.2.2.2.1 x.2.2.2.2.2.1 x.2.2.2.2.2.2.1 x.2.2.2.2.2.2.2 (fun v1 v9 h3 h0_0 h0_1 h1_1 h2_0 h2_1 => next (v1, v9, h3, h0_0, h0_1, h1_1, h2_0, h2_1)) (fun v1 v9 h3 h0_0 h0_1 h1_1 h2_0 h2_1 => ex (.inl (v1, v9, h3, h0_0, h0_1, h1_1, h2_0, h2_1))) (fun v6 h1_0 h1_1 h4_0 h4_1 h4'_1 h3 h0_0 h0_1 h1'_1 h2_0 h2_1 => ex (.inr (v6, h1_0, h1_1, h4_0, h4_1, h4'_1, h3, h0_0, h0_1, h1'_1, h2_0, h2_1)))) (v1, v9, h3, h0_0, h0_1, h1_1, h2_0, h2_1) (Sum.elim (fun x => k0 x.1 x.2.1 x.2.2.1 x.2.2.2.1 x.2.2.2.2.1 x.2.2.2.2.2.1 x.2.2.2.2.2.2.1 x.2.2.2.2.2.2.2) (fun x => k1 x.1 x.2.1 x.2.2.1 x.2.2.2.1 x.2.2.2.2.1 x.2.2.2.2.2.1 x.2.2.2.2.2.2.1 x.2.2.2.2.2.2.2.1 x.2.2.2.2.2.2.2.2.1 x.2.2.2.2.2.2.2.2.2.1 x.2.2.2.2.2.2.2.2.2.2.1 x.2.2.2.2.2.2.2.2.2.2.2))
noncomputable def R13_Parts_l4 {ρ : Type} (v1 : List Int) (v9 : Int) (h3 : List (List Int)) (h0_0 : List Int) (h0_1 : Int) (h1_1 : Int) (h2_0 : List Int) (h2_1 : Int) (k0 : (List Int) → Int → (List (List Int)) → (List Int) → Int → Int → (List Int) → Int → Option ρ) (k1 : Int → (List Int) → Int → (List Int) → Int → Int → (List (List Int)) → (List Int) → Int → Int → (List Int) → Int → Option ρ) : Option ρ := shut (R13_Parts_L4 (ρ := ρ)) v1 v9 h3 h0_0 h0_1 h1_1 h2_0 h2_1 k0 k1
theorem R13_Parts_l4_eq {ρ : Type} (v1 : List Int) (v9 : Int) (h3 : List (List Int)) (h0_0 : List Int) (h0_1 : Int) (h1_1 : Int) (h2_0 : List Int) (h2_1 : Int) (k0 : (List Int) → Int → (List (List Int)) → (List Int) → Int → Int → (List Int) → Int → Option ρ) (k1 : Int → (List Int) → Int → (List Int) → Int → Int → (List (List Int)) → (List Int) → Int → Int → (List Int) → Int → Option ρ) : R13_Parts_l4 v1 v9 h3 h0_0 h0_1 h1_1 h2_0 h2_1 k0 k1 = R13_Parts_L4 v1 v9 h3 h0_0 h0_1 h1_1 h2_0 h2_1 k0 k1 := by unfold R13_Parts_l4; rw [shut_eq]
noncomputable def R13_Parts_raw {ρ : Type} (a0_Bytes : List Int) (a0_At : Int) (a1 : List Int) (k : (List Int) → Int → (List (List Int)) → Int → Option ρ) : Option ρ :=
  R13_Parts_l4 a1 (0 : Int) [] a0_Bytes a0_At (0 : Int) a0_Bytes a0_At
    (fun (q0 : List Int) (q1 : Int) (q2 : List (List Int)) (q3 : List Int) (q4 q5 : Int) (q6 : List Int) (q7 : Int) =>
      k q6 q7 q2 (0 : Int))
    fun (q8 : Int) (q9 : List Int) (q10 : Int) (q11 : List Int) (q12 q13 : Int) (q14 : List (List Int)) (q15 : List Int)
      (q16 q17 : Int) (q18 : List Int) (q19 : Int) =>
    k q9 q10 [] q8
noncomputable def R13_Parts {ρ : Type} (a0_Bytes : List Int) (a0_At : Int) (a1 : List Int) (k : (List Int) → Int → (List (List Int)) → Int → Option ρ) : Option ρ := shut (R13_Parts_raw (ρ := ρ)) a0_Bytes a0_At a1 k
theorem R13_Parts_eq {ρ : Type} (a0_Bytes : List Int) (a0_At : Int) (a1 : List Int) (k : (List Int) → Int → (List (List Int)) → Int → Option ρ) : R13_Parts a0_Bytes a0_At a1 k = R13_Parts_raw a0_Bytes a0_At a1 k := by unfold R13_Parts; rw [shut_eq]

end P
end

section
open Go Go.Abs
set_option linter.unusedVariables false
namespace P
noncomputable def R04_Less_r2 {ρ : Type} (v0 : List Int) (v1 : List Int) (v5 : Int) (nx : (List Int) → (List Int) → Int → Option ρ) (k0 : (List Int) → (List Int) → Int → Option ρ) (k1 : Bool → Option ρ) : Option ρ :=
  br (decide (v5 < (↑v0.length : Int)))
    (br (decide (v5 < (↑v1.length : Int)))
      (br (decide ((0 : Int) ≤ v5))
        (br (decide (v5 < (↑v0.length : Int)))
          (br (decide ((0 : Int) ≤ v5))
            (br (decide (v5 < (↑v1.length : Int)))
              (br (v0.getD v5.toNat (0 : Int) != v1.getD v5.toNat (0 : Int))
                (br (decide ((0 : Int) ≤ v5))
                  (br (decide (v5 < (↑v0.length : Int)))
                    (br (decide ((0 : Int) ≤ v5))
                      (br (decide (v5 < (↑v1.length : Int)))
                        (k1 (decide (v0.getD v5.toNat (0 : Int) < v1.getD v5.toNat (0 : Int)))) none)
                      none)
                    none)
                  none)
                (nx v0 v1 (IntKind.i64.wrap (v5 + (1 : Int)))))
              none)
            none)
          none)
        none)
      (k0 v0 v1 v5))
    (k0 v0 v1 v5)
noncomputable def R04_Less_L2 {ρ : Type} (v0 : List Int) (v1 : List Int) (v5 : Int) (k0 : (List Int) → (List Int) → Int → Option ρ) (k1 : Bool → Option ρ) : Option ρ :=
  lp (fun (x : (List Int) × (List Int) × Int) (next : ((List Int) × (List Int) × Int) → Option ρ) (ex : (((List Int) × (List Int) × Int) ⊕ ((Bool))) → Option ρ) => R04_Less_r2 x.1 x.2.1 x.2.2 (fun v0 v1 v5 => next (v0, v1, v5)) (fun v0 v1 v5 => ex (.inl (v0, v1, v5))) (fun v4 => ex (.inr v4))) (v0, v1, v5) (Sum.elim (fun x => k0 x.1 x.2.1 x.2.2) (fun x => k1 x))
noncomputable def R04_Less_l2 {ρ : Type} (v0 : List Int) (v1 : List Int) (v5 : Int) (k0 : (List Int) → (List Int) → Int → Option ρ) (k1 : Bool → Option ρ) : Option ρ := shut (R04_Less_L2 (ρ := ρ)) v0 v1 v5 k0 k1
theorem R04_Less_l2_eq {ρ : Type} (v0 : List Int) (v1 : List Int) (v5 : Int) (k0 : (List Int) → (List Int) → Int → Option ρ) (k1 : Bool → Option ρ) : R04_Less_l2 v0 v1 v5 k0 k1 = R04_Less_L2 v0 v1 v5 k0 k1 := by unfold R04_Less_l2; rw [shut_eq]
noncomputable def R04_Less_raw {ρ : Type} (a0 : List Int) (a1 : List Int) (k : Bool → Option ρ) : Option ρ :=
  R04_Less_l2 a0 a1 (0 : Int)
    (fun (q0 q1 : List Int) (q2 : Int) => k (decide ((↑q0.length : Int) < (↑q1.length : Int)))) fun (q3 : Bool) => k q3
noncomputable def R04_Less {ρ : Type} (a0 : List Int) (a1 : List Int) (k : Bool → Option ρ) : Option ρ := shut (R04_Less_raw (ρ := ρ)) a0 a1 k
theorem R04_Less_eq {ρ : Type} (a0 : List Int) (a1 : List Int) (k : Bool → Option ρ) : R04_Less a0 a1 k = R04_Less_raw a0 a1 k := by unfold R04_Less; rw [shut_eq]

end P
end

section
open Go Go.Abs
set_option linter.unusedVariables false
namespace P
noncomputable def R04_Same_r4 {ρ : Type} (v0 : List (List Int)) (v1 : List (List Int)) (v5 : Int) (nx : (List (List Int)) → (List (List Int)) → Int → Option ρ) (k0 : (List (List Int)) → (List (List Int)) → Int → Option ρ) (k1 : Bool → Option ρ) : Option ρ :=
  br (decide (v5 < (↑v0.length : Int)))
    (br (decide ((0 : Int) ≤ v5))
      (br (decide (v5 < (↑v0.length : Int)))
        (br (decide ((0 : Int) ≤ v5))
          (br (decide (v5 < (↑v1.length : Int)))
            (R04_Less (v0.getD v5.toNat []) (v1.getD v5.toNat []) fun (q0 : Bool) =>
              br q0 (k1 false)
                (br (decide ((0 : Int) ≤ v5))
                  (br (decide (v5 < (↑v1.length : Int)))
                    (br (decide ((0 : Int) ≤ v5))
                      (br (decide (v5 < (↑v0.length : Int)))
                        (R04_Less (v1.getD v5.toNat []) (v0.getD v5.toNat []) fun (q1 : Bool) =>
                          br q1 (k1 false) (nx v0 v1 (IntKind.i64.wrap (v5 + (1 : Int)))))
                        none)
                      none)
                    none)
                  none))
            none)
          none)
        none)
      none)
    (k0 v0 v1 v5)
noncomputable def R04_Same_L4 {ρ : Type} (v0 : List (List Int)) (v1 : List (List Int)) (v5 : Int) (k0 : (List (List Int)) → (List (List Int)) → Int → Option ρ) (k1 : Bool → Option ρ) : Option ρ :=
  lp (fun (x : (List (List Int)) × (List (List Int)) × Int) (next : ((List (List Int)) × (List (List Int)) × Int) → Option ρ) (ex : (((List (List Int)) × (List (List Int)) × Int) ⊕ ((Bool))) → Option ρ) => R04_Same_r4 x.1 x.2.1 x.2.2 (fun v0 v1 v5 => next (v0, v1, v5)) (fun v0 v1 v5 => ex (.inl (v0, v1, v5))) (fun v4 => ex (.inr v4))) (v0, v1, v5) (Sum.elim (fun x => k0 x.1 x.2.1 x.2.2) (fun x => k1 x))
noncomputable def R04_Same_l4 {ρ : Type} (v0 : List (List Int)) (v1 : List (List Int)) (v5 : Int) (k0 : (List (List Int)) → (List (List Int)) → Int → Option ρ) (k1 : Bool → Option ρ) : Option ρ := shut (R04_Same_L4 (ρ := ρ)) v0 v1 v5 k0 k1
theorem R04_Same_l4_eq {ρ : Type} (v0 : List (List Int)) (v1 : List (List Int)) (v5 : Int) (k0 : (List (List Int)) → (List (List Int)) → Int → Option ρ) (k1 : Bool → Option ρ) : R04_Same_l4 v0 v1 v5 k0 k1 = R04_Same_L4 v0 v1 v5 k0 k1 := by unfold R04_Same_l4; rw [shut_eq]
noncomputable def R04_Same_raw {ρ : Type} (a0 : List (List Int)) (a1 : List (List Int)) (k : Bool → Option ρ) : Option ρ :=
  br ((↑a0.length : Int) != (↑a1.length : Int)) (k false)
    (R04_Same_l4 a0 a1 (0 : Int) (fun (q0 q1 : List (List Int)) (q2 : Int) => k true) fun (q3 : Bool) => k q3)
noncomputable def R04_Same {ρ : Type} (a0 : List (List Int)) (a1 : List (List Int)) (k : Bool → Option ρ) : Option ρ := shut (R04_Same_raw (ρ := ρ)) a0 a1 k
theorem R04_Same_eq {ρ : Type} (a0 : List (List Int)) (a1 : List (List Int)) (k : Bool → Option ρ) : R04_Same a0 a1 k = R04_Same_raw a0 a1 k := by unfold R04_Same; rw [shut_eq]

end P
end

section
open Go Go.Abs
set_option linter.unusedVariables false
namespace P
noncomputable def slices_Equal_byte_r4 {ρ : Type} (v0 : List Int) (v1 : List Int) (v12 : Int) (v13 : Int) (nx : (List Int) → (List Int) → Int → Int → Option ρ) (k0 : (List Int) → (List Int) → Int → Int → Option ρ) (k1 : Bool → Option ρ) : Option ρ :=
  br (decide (v13 < v12))
    (br (decide ((0 : Int) ≤ v13))
      (br (decide (v13 < (↑v0.length : Int)))
        (br (decide ((0 : Int) ≤ v13))
          (br (decide (v13 < (↑v1.length : Int)))
            (br (v0.getD v13.toNat (0 : Int) != v1.getD v13.toNat (0 : Int)) (k1 false)
              (nx v0 v1 v12 (IntKind.i64.wrap (v13 + (1 : Int)))))
            none)
          none)
        none)
      none)
    (k0 v0 v1 v12 v13)
noncomputable def slices_Equal_byte_L4 {ρ : Type} (v0 : List Int) (v1 : List Int) (v12 : Int) (v13 : Int) (k0 : (List Int) → (List Int) → Int → Int → Option ρ) (k1 : Bool → Option ρ) : Option ρ :=
  lp (fun (x : (List Int) × (List Int) × Int × Int) (next : ((List Int) × (List Int) × Int × Int) → Option ρ) (ex : (((List Int) × (List Int) × Int × Int) ⊕ ((Bool))) → Option ρ) => slices_Equal_byte_r4 x.1 x.2.1 x.2.2.1 x.2.2.2 (fun v0 v1 v12 v13 => next (v0, v1, v12, v13)) (fun v0 v1 v12 v13 => ex (.inl (v0, v1, v12, v13))) (fun v4 => ex (.inr v4))) (v0, v1, v12, v13) (Sum.elim (fun x => k0 x.1 x.2.1 x.2.2.1 x.2.2.2) (fun x => k1 x))
noncomputable def slices_Equal_byte_l4 {ρ : Type} (v0 : List Int) (v1 : List Int) (v12 : Int) (v13 : Int) (k0 : (List Int) → (List Int) → Int → Int → Option ρ) (k1 : Bool → Option ρ) : Option ρ := shut (slices_Equal_byte_L4 (ρ := ρ)) v0 v1 v12 v13 k0 k1
theorem slices_Equal_byte_l4_eq {ρ : Type} (v0 : List Int) (v1 : List Int) (v12 : Int) (v13 : Int) (k0 : (List Int) → (List Int) → Int → Int → Option ρ) (k1 : Bool → Option ρ) : slices_Equal_byte_l4 v0 v1 v12 v13 k0 k1 = slices_Equal_byte_L4 v0 v1 v12 v13 k0 k1 := by unfold slices_Equal_byte_l4; rw [shut_eq]
noncomputable def slices_Equal_byte_raw {ρ : Type} (a0 : List Int) (a1 : List Int) (k : Bool → Option ρ) : Option ρ :=
  br ((↑a0.length : Int) != (↑a1.length : Int)) (k false)
    (slices_Equal_byte_l4 a0 a1 (↑a0.length : Int) (0 : Int) (fun (q0 q1 : List Int) (q2 q3 : Int) => k true)
      fun (q4 : Bool) => k q4)
noncomputable def slices_Equal_byte {ρ : Type} (a0 : List Int) (a1 : List Int) (k : Bool → Option ρ) : Option ρ := shut (slices_Equal_byte_raw (ρ := ρ)) a0 a1 k
theorem slices_Equal_byte_eq {ρ : Type} (a0 : List Int) (a1 : List Int) (k : Bool → Option ρ) : slices_Equal_byte a0 a1 k = slices_Equal_byte_raw a0 a1 k := by unfold slices_Equal_byte; rw [shut_eq]

end P
end

section
open Go Go.Abs
set_option linter.unusedVariables false
namespace P
noncomputable def tape_Same_raw {ρ : Type} (a0_Bytes : List Int) (a0_At : Int) (a1_Bytes : List Int) (a1_At : Int) (k : Bool → Option ρ) : Option ρ :=
  br (a0_At == a1_At) (slices_Equal_byte a0_Bytes a1_Bytes fun (q0 : Bool) => k q0) (k false)
noncomputable def tape_Same {ρ : Type} (a0_Bytes : List Int) (a0_At : Int) (a1_Bytes : List Int) (a1_At : Int) (k : Bool → Option ρ) : Option ρ := shut (tape_Same_raw (ρ := ρ)) a0_Bytes a0_At a1_Bytes a1_At k
theorem tape_Same_eq {ρ : Type} (a0_Bytes : List Int) (a0_At : Int) (a1_Bytes : List Int) (a1_At : Int) (k : Bool → Option ρ) : tape_Same a0_Bytes a0_At a1_Bytes a1_At k = tape_Same_raw a0_Bytes a0_At a1_Bytes a1_At k := by unfold tape_Same; rw [shut_eq]

end P
end

section
open Go Go.Abs
set_option linter.unusedVariables false
namespace P
noncomputable def L13_TapeTells_raw {ρ : Type} (a0_Bytes : List Int) (a0_At : Int) (a1_Bytes : List Int) (a1_At : Int) (a2 : Int) (a3 : List Int) (k : Bool → Option ρ) : Option ρ :=
  br (decide (IntKind.i64.wrap ((↑a0_Bytes.length : Int) + (↑a1_Bytes.length : Int)) > (2000 : Int)))
    (L13_awake fun (q0 : Bool) => k q0)
    (br (decide ((↑a3.length : Int) > (20 : Int))) (L13_awake fun (q1 : Bool) => k q1)
      (tape_Take a0_Bytes a0_At a2 fun (q2 : List Int) (q3 : Int) (q4 : List Int) (q5 : Int) =>
        R13_Take a0_Bytes a0_At a2 fun (q6 : List Int) (q7 : Int) (q8 : List Int) (q9 : Int) =>
          tape_Parts a0_Bytes a0_At a3 fun (q10 : List Int) (q11 : Int) (q12 : List (List Int)) (q13 : Int) =>
            R13_Parts a0_Bytes a0_At a3 fun (q14 : List Int) (q15 : Int) (q16 : List (List Int)) (q17 : Int) =>
              tape_Fit a0_Bytes a0_At fun (q18 : Bool) =>
                R13_Fit a0_Bytes a0_At fun (q19 : Bool) =>
                  br (q18 == q19)
                    (tape_Left a0_Bytes a0_At fun (q20 : Int) =>
                      R13_Left a0_Bytes a0_At fun (q21 : Int) =>
                        br (q20 == q21)
                          (R13_Same q2 q3 q6 q7 fun (q22 : Bool) =>
                            br q22
                              (R01_Same q4 q8 fun (q23 : Bool) =>
                                br q23
                                  (br (q5 == q9)
                                    (R13_Same q10 q11 q14 q15 fun (q24 : Bool) =>
                                      br q24
                                        (R04_Same q12 q16 fun (q25 : Bool) =>
                                          br q25
                                            (br (q13 == q17)
                                              (tape_Same a0_Bytes a0_At a1_Bytes a1_At fun (q26 : Bool) =>
                                                R13_Same a0_Bytes a0_At a1_Bytes a1_At fun (q27 : Bool) =>
                                                  br (q26 == q27)
                                                    (tape_Same a0_Bytes a0_At a0_Bytes a0_At fun (q28 : Bool) =>
                                                      br q28 (L13_awake fun (q29 : Bool) => k q29) (k false))
                                                    (k false))
                                              (k false))
                                            (k false))
                                        (k false))
                                    (k false))
                                  (k false))
                              (k false))
                          (k false))
                    (k false)))
noncomputable def L13_TapeTells {ρ : Type} (a0_Bytes : List Int) (a0_At : Int) (a1_Bytes : List Int) (a1_At : Int) (a2 : Int) (a3 : List Int) (k : Bool → Option ρ) : Option ρ := shut (L13_TapeTells_raw (ρ := ρ)) a0_Bytes a0_At a1_Bytes a1_At a2 a3 k
theorem L13_TapeTells_eq {ρ : Type} (a0_Bytes : List Int) (a0_At : Int) (a1_Bytes : List Int) (a1_At : Int) (a2 : Int) (a3 : List Int) (k : Bool → Option ρ) : L13_TapeTells a0_Bytes a0_At a1_Bytes a1_At a2 a3 k = L13_TapeTells_raw a0_Bytes a0_At a1_Bytes a1_At a2 a3 k := by unfold L13_TapeTells; rw [shut_eq]

end P
end

section
open Go Go.Abs Go.Proofs
set_option maxRecDepth 100000
set_option linter.unusedVariables false
namespace R01_Same
def S4 (v0 : List Int) (v1 : List Int) (v5 : Int) : ASt := ⟨[(0, .sl (.ints .u8 v0)), (1, .sl (.ints .u8 v1)), (5, .v (.int .i64 v5))], [], 0, 26⟩
def V4 : ASt → Option ((List Int) × (List Int) × Int)
  | ⟨[(0, .sl (.ints .u8 v0)), (1, .sl (.ints .u8 v1)), (5, .v (.int .i64 v5))], [], 0, 26⟩ => some (v0, v1, v5)
  | _ => none
theorem V4_ok (st : ASt) (x : (List Int) × (List Int) × Int) (h : V4 st = some x) : st = S4 x.1 x.2.1 x.2.2 := by
  unfold V4 at h
  split at h
  · cases h; rfl
  · cases h
noncomputable def L4 : LSpec := fun st K => match V4 st with
  | some x => P.R01_Same_l4 x.1 x.2.1 x.2.2 (fun v0 v1 v5 => K (.exit 0) (S4 v0 v1 v5)) (fun v4 => K .ret ⟨[(4, .v (.bool v4))], [], 0, 26⟩)
  | none => none
noncomputable def D : Ctx := ({ P := Try.prog, G := [], globs := [], hints := [(4, ⟨[0, 1, 5], [], [4], []⟩)], loops := [(4, L4)], inl := [] } : Ctx)
def E4 (K : AExit → ASt → Option R) : (((List Int) × (List Int) × Int) ⊕ ((Bool))) → Option R := (Sum.elim (fun x => K (.exit 0) (S4 x.1 x.2.1 x.2.2)) (fun x => K .ret ⟨[(4, .v (.bool x))], [], 0, 26⟩))
theorem round4 (K : AExit → ASt → Option R) (next : ASt → Option R) (x : (List Int) × (List Int) × Int) : roundA D (loopAt Try.f19 4) K next (S4 x.1 x.2.1 x.2.2) = (fun (x : (List Int) × (List Int) × Int) (next : ((List Int) × (List Int) × Int) → Option R) (ex : (((List Int) × (List Int) × Int) ⊕ ((Bool))) → Option R) => P.R01_Same_r4 x.1 x.2.1 x.2.2 (fun v0 v1 v5 => next (v0, v1, v5)) (fun v0 v1 v5 => ex (.inl (v0, v1, v5))) (fun v4 => ex (.inr v4))) x (fun x => next (S4 x.1 x.2.1 x.2.2)) (E4 K) := by kernel_rfl
theorem lq4 (st : ASt) (K : AExit → ASt → Option R) : L4 st K = vMap (V4 st) (fun x => lp (fun (x : (List Int) × (List Int) × Int) (next : ((List Int) × (List Int) × Int) → Option R) (ex : (((List Int) × (List Int) × Int) ⊕ ((Bool))) → Option R) => P.R01_Same_r4 x.1 x.2.1 x.2.2 (fun v0 v1 v5 => next (v0, v1, v5)) (fun v0 v1 v5 => ex (.inl (v0, v1, v5))) (fun v4 => ex (.inr v4))) x (E4 K)) := by
  unfold L4
  cases V4 st with
  | none => rfl
  | some x => simp only [P.R01_Same_l4_eq]; rfl
theorem loop4 : LoopOk D (loopAt Try.f19 4) := loopOk_lp (X := (List Int) × (List Int) × Int) (Y := ((List Int) × (List Int) × Int) ⊕ ((Bool))) (fun x => S4 x.1 x.2.1 x.2.2) V4_ok (stp := (fun (x : (List Int) × (List Int) × Int) (next : ((List Int) × (List Int) × Int) → Option R) (ex : (((List Int) × (List Int) × Int) ⊕ ((Bool))) → Option R) => P.R01_Same_r4 x.1 x.2.1 x.2.2 (fun v0 v1 v5 => next (v0, v1, v5)) (fun v0 v1 v5 => ex (.inl (v0, v1, v5))) (fun v4 => ex (.inr v4)))) (enc := E4) (L := L4) (by kernel_rfl) lq4 round4
theorem body (a0 : List Int) (a1 : List Int) (K : AVal → Option R) : bodyA D Try.f19 [.any] [.sl (.ints .u8 a0), .sl (.ints .u8 a1)] K = P.R01_Same a0 a1 (fun r0 => K (.v (.bool r0))) := by
  rw [P.R01_Same_eq]
  kernel_rfl
theorem loops : loopsOf (Try.f19.body.getD .skip) = [loopAt Try.f19 4] := by kernel_rfl
noncomputable def spec0 : Abs.Spec := fun args K => match args with
  | [.sl (.ints .u8 a0), .sl (.ints .u8 a1)] => P.R01_Same a0 a1 (fun r0 => K (.v (.bool r0)))
  | _ => none
noncomputable def spec : Abs.Spec := fun args K => spec0 (coerL [.sl (.ints .u8 []), .sl (.ints .u8 [])] args) K
theorem ok0 : Proved Try.prog [] 19 spec0 := by
  refine proved_of (D := D) (fn := Try.f19) (c := Try.f19.body.getD .skip) [.any] (by kernel_rfl) (globsPlain_of (by kernel_rfl)) (by kernel_rfl) (by kernel_rfl) (by kernel_rfl) trivial trivial ?_ ?_
  · rw [loops]; exact ⟨loop4, trivial⟩
  · intro args K r h
    unfold spec0 at h
    split at h
    · rw [body]; exact h
    · cases h
theorem ok : Proved Try.prog [] 19 spec := proved_coer _ ok0
end R01_Same
end
