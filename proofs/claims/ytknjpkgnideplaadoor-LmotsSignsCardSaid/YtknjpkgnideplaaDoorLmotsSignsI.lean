/-
  LmotsSigns, part I: an interpreter of my own over abstract values, the pure functions, the walks and the plain law.
-/

import Derived.Test.YtknjpkgnideplaaDoorLmotsSignsF
import Derived.Test.YtknjpkgnideplaaDoorLmotsSignsH
import Derived.Test.YtknjpkgnideplaaDoorLmotsSignsG
import Derived.Test.YtknjpkgnideplaaDoorProg
import Derived.KernelRfl

section
open Go Go.Abs
set_option linter.unusedVariables false
namespace P
noncomputable def R01_Digits_r9 {ρ : Type} (v0 : List Int) (v1 : Int) (v2 : Int) (v8 : Int) (v9 : Int) (v10 : Int) (h0 : List Int) (nx : (List Int) → Int → Int → Int → Int → Int → (List Int) → Option ρ) (k0 : (List Int) → Int → Int → Int → Int → Int → (List Int) → Option ρ) : Option ρ :=
  br (decide (v10 < v1))
    (br (decide ((0 : Int) ≤ IntKind.i64.wrap ((IntKind.i64.wrap (IntKind.i64.wrap (v8 * v1) + v10)).tdiv (8 : Int))))
      (br
        (decide
          (IntKind.i64.wrap ((IntKind.i64.wrap (IntKind.i64.wrap (v8 * v1) + v10)).tdiv (8 : Int)) < (↑v0.length : Int)))
        (br
          (decide
            (IntKind.i64.wrap ((7 : Int) - (IntKind.i64.wrap (IntKind.i64.wrap (v8 * v1) + v10)).tmod (8 : Int)) <
              (0 : Int)))
          none
          (nx v0 v1 v2 v8
            (IntKind.u32.wrap
              (IntKind.u32.wrap (v9 * (2 : Int)) +
                IntKind.u32.wrap
                  (bits BinOp.and IntKind.u8
                    ((v0.getD
                          (IntKind.i64.wrap ((IntKind.i64.wrap (IntKind.i64.wrap (v8 * v1) + v10)).tdiv (8 : Int))).toNat
                          (0 : Int)).fdiv
                      ((2 : Int) ^
                        min
                          (IntKind.i64.wrap
                              ((7 : Int) - (IntKind.i64.wrap (IntKind.i64.wrap (v8 * v1) + v10)).tmod (8 : Int))).toNat
                          8))
                    (1 : Int))))
            (IntKind.i64.wrap (v10 + (1 : Int))) h0))
        none)
      none)
    (k0 v0 v1 v2 v8 v9 v10 h0)
noncomputable def R01_Digits_L9 {ρ : Type} (v0 : List Int) (v1 : Int) (v2 : Int) (v8 : Int) (v9 : Int) (v10 : Int) (h0 : List Int) (k0 : (List Int) → Int → Int → Int → Int → Int → (List Int) → Option ρ) : Option ρ :=
  lp (fun (x : (List Int) × Int × Int × Int × Int × Int × (List Int)) (next : ((List Int) × Int × Int × Int × Int × Int × (List Int)) → Option ρ) (ex : (((List Int) × Int × Int × Int × Int × Int × (List Int))) → Option ρ) => R01_Digits_r9 x.1 x.2.1 x.2.2.1 x.2.2.2.1 x.2.2.2.2.1 x.2.2.2.2.2.1 x.2.2.2.2.2.2 (fun v0 v1 v2 v8 v9 v10 h0 => next (v0, v1, v2, v8, v9, v10, h0)) (fun v0 v1 v2 v8 v9 v10 h0 => ex ((v0, v1, v2, v8, v9, v10, h0)))) (v0, v1, v2, v8, v9, v10, h0) (fun x => k0 x.1 x.2.1 x.2.2.1 x.2.2.2.1 x.2.2.2.2.1 x.2.2.2.2.2.1 x.2.2.2.2.2.2)
noncomputable def R01_Digits_l9 {ρ : Type} (v0 : List Int) (v1 : Int) (v2 : Int) (v8 : Int) (v9 : Int) (v10 : Int) (h0 : List Int) (k0 : (List Int) → Int → Int → Int → Int → Int → (List Int) → Option ρ) : Option ρ := shut (R01_Digits_L9 (ρ := ρ)) v0 v1 v2 v8 v9 v10 h0 k0
theorem R01_Digits_l9_eq {ρ : Type} (v0 : List Int) (v1 : Int) (v2 : Int) (v8 : Int) (v9 : Int) (v10 : Int) (h0 : List Int) (k0 : (List Int) → Int → Int → Int → Int → Int → (List Int) → Option ρ) : R01_Digits_l9 v0 v1 v2 v8 v9 v10 h0 k0 = R01_Digits_L9 v0 v1 v2 v8 v9 v10 h0 k0 := by unfold R01_Digits_l9; rw [shut_eq]
noncomputable def R01_Digits_r5 {ρ : Type} (v0 : List Int) (v1 : Int) (v2 : Int) (v8 : Int) (h0 : List Int) (nx : (List Int) → Int → Int → Int → (List Int) → Option ρ) (k0 : (List Int) → Int → Int → Int → (List Int) → Option ρ) : Option ρ :=
  br (decide (v8 < v2))
    (R01_Digits_l9 v0 v1 v2 v8 (0 : Int) (0 : Int) h0 fun (q0 : List Int) (q1 q2 q3 q4 q5 : Int) (q6 : List Int) =>
      br
        (decide
          ((q6.length + 1) * 4 ≤
            140737488355328))
        (nx q0 q1 q2 (IntKind.i64.wrap (q3 + (1 : Int))) (q6 ++ [q4])) none)
    (k0 v0 v1 v2 v8 h0)
noncomputable def R01_Digits_L5 {ρ : Type} (v0 : List Int) (v1 : Int) (v2 : Int) (v8 : Int) (h0 : List Int) (k0 : (List Int) → Int → Int → Int → (List Int) → Option ρ) : Option ρ :=
  lp (fun (x : (List Int) × Int × Int × Int × (List Int)) (next : ((List Int) × Int × Int × Int × (List Int)) → Option ρ) (ex : (((List Int) × Int × Int × Int × (List Int))) → Option ρ) => R01_Digits_r5 x.1 x.2.1 x.2.2.1 x.2.2.2.1 x.2.2.2.2 (fun v0 v1 v2 v8 h0 => next (v0, v1, v2, v8, h0)) (fun v0 v1 v2 v8 h0 => ex ((v0, v1, v2, v8, h0)))) (v0, v1, v2, v8, h0) (fun x => k0 x.1 x.2.1 x.2.2.1 x.2.2.2.1 x.2.2.2.2)
noncomputable def R01_Digits_l5 {ρ : Type} (v0 : List Int) (v1 : Int) (v2 : Int) (v8 : Int) (h0 : List Int) (k0 : (List Int) → Int → Int → Int → (List Int) → Option ρ) : Option ρ := shut (R01_Digits_L5 (ρ := ρ)) v0 v1 v2 v8 h0 k0
theorem R01_Digits_l5_eq {ρ : Type} (v0 : List Int) (v1 : Int) (v2 : Int) (v8 : Int) (h0 : List Int) (k0 : (List Int) → Int → Int → Int → (List Int) → Option ρ) : R01_Digits_l5 v0 v1 v2 v8 h0 k0 = R01_Digits_L5 v0 v1 v2 v8 h0 k0 := by unfold R01_Digits_l5; rw [shut_eq]
noncomputable def R01_Digits_raw {ρ : Type} (a0 : List Int) (a1 : Int) (a2 : Int) (k : (List Int) → Option ρ) : Option ρ :=
  R01_such a0 a1 a2 fun (q0 : Bool) =>
    br (!q0) (k []) (R01_Digits_l5 a0 a1 a2 (0 : Int) [] fun (q1 : List Int) (q2 q3 q4 : Int) (q5 : List Int) => k q5)
noncomputable def R01_Digits {ρ : Type} (a0 : List Int) (a1 : Int) (a2 : Int) (k : (List Int) → Option ρ) : Option ρ := shut (R01_Digits_raw (ρ := ρ)) a0 a1 a2 k
theorem R01_Digits_eq {ρ : Type} (a0 : List Int) (a1 : Int) (a2 : Int) (k : (List Int) → Option ρ) : R01_Digits a0 a1 a2 k = R01_Digits_raw a0 a1 a2 k := by unfold R01_Digits; rw [shut_eq]
end P
end

section
open Go Go.Abs
set_option linter.unusedVariables false
namespace P
noncomputable def R14_Digits_r9 {ρ : Type} (v0 : Int) (v1 : List Int) (v6 : Int) (v7 : Int) (v10 : Int) (v11 : Int) (h0 : List Int) (nx : Int → (List Int) → Int → Int → Int → Int → (List Int) → Option ρ) (k0 : Int → (List Int) → Int → Int → Int → Int → (List Int) → Option ρ) : Option ρ :=
  br (decide (v11 < (↑h0.length : Int)))
    (br (decide (v0 < (0 : Int))) none
      (br (decide ((0 : Int) ≤ v11))
        (br (decide (v11 < (↑h0.length : Int)))
          (nx v0 v1 v6 v7
            (IntKind.u64.wrap
              (IntKind.u64.wrap
                  (v10 +
                    IntKind.u64.wrap (IntKind.u64.wrap ((1 : Int) * (2 : Int) ^ min v0.toNat 64) - (1 : Int))) -
                IntKind.u64.wrap (h0.getD v11.toNat (0 : Int))))
            (IntKind.i64.wrap (v11 + (1 : Int))) h0)
          none)
        none))
    (k0 v0 v1 v6 v7 v10 v11 h0)
noncomputable def R14_Digits_L9 {ρ : Type} (v0 : Int) (v1 : List Int) (v6 : Int) (v7 : Int) (v10 : Int) (v11 : Int) (h0 : List Int) (k0 : Int → (List Int) → Int → Int → Int → Int → (List Int) → Option ρ) : Option ρ :=
  lp (fun (x : Int × (List Int) × Int × Int × Int × Int × (List Int)) (next : (Int × (List Int) × Int × Int × Int × Int × (List Int)) → Option ρ) (ex : ((Int × (List Int) × Int × Int × Int × Int × (List Int))) → Option ρ) => R14_Digits_r9 x.1 x.2.1 x.2.2.1 x.2.2.2.1 x.2.2.2.2.1 x.2.2.2.2.2.1 x.2.2.2.2.2.2 (fun v0 v1 v6 v7 v10 v11 h0 => next (v0, v1, v6, v7, v10, v11, h0)) (fun v0 v1 v6 v7 v10 v11 h0 => ex ((v0, v1, v6, v7, v10, v11, h0)))) (v0, v1, v6, v7, v10, v11, h0) (fun x => k0 x.1 x.2.1 x.2.2.1 x.2.2.2.1 x.2.2.2.2.1 x.2.2.2.2.2.1 x.2.2.2.2.2.2)
noncomputable def R14_Digits_l9 {ρ : Type} (v0 : Int) (v1 : List Int) (v6 : Int) (v7 : Int) (v10 : Int) (v11 : Int) (h0 : List Int) (k0 : Int → (List Int) → Int → Int → Int → Int → (List Int) → Option ρ) : Option ρ := shut (R14_Digits_L9 (ρ := ρ)) v0 v1 v6 v7 v10 v11 h0 k0
theorem R14_Digits_l9_eq {ρ : Type} (v0 : Int) (v1 : List Int) (v6 : Int) (v7 : Int) (v10 : Int) (v11 : Int) (h0 : List Int) (k0 : Int → (List Int) → Int → Int → Int → Int → (List Int) → Option ρ) : R14_Digits_l9 v0 v1 v6 v7 v10 v11 h0 k0 = R14_Digits_L9 v0 v1 v6 v7 v10 v11 h0 k0 := by unfold R14_Digits_l9; rw [shut_eq]
noncomputable def R14_Digits_raw {ρ : Type} (a0 : Int) (a1 : List Int) (k : (List Int) → Int → Option ρ) : Option ρ :=
  R14_Kind a0 fun (q0 q1 q2 : Int) =>
    br (q0 == (0 : Int)) (k [] (9 : Int))
      (br ((↑a1.length : Int) != (32 : Int)) (k [] (14 : Int))
        (br (decide (a0 = (0 : Int))) none
          (R01_Digits a1 a0 (IntKind.i64.wrap (Int.tdiv (256 : Int) a0)) fun (q3 : List Int) =>
            R14_Digits_l9 a0 a1 q0 q1 (0 : Int) (0 : Int) q3
              fun (q4 : Int) (q5 : List Int) (q6 q7 q8 q9 : Int) (q10 : List Int) =>
              br (decide (q7 < (0 : Int))) none
                (R01_Be (IntKind.u64.wrap (q8 * (2 : Int) ^ min q7.toNat 64)) (2 : Int)
                  fun (q11 : List Int) =>
                  R01_Join [q5, q11] fun (q12 : List Int) =>
                    R01_Digits q12 q4 q6 fun (q13 : List Int) => k q13 (0 : Int)))))
noncomputable def R14_Digits {ρ : Type} (a0 : Int) (a1 : List Int) (k : (List Int) → Int → Option ρ) : Option ρ := shut (R14_Digits_raw (ρ := ρ)) a0 a1 k
theorem R14_Digits_eq {ρ : Type} (a0 : Int) (a1 : List Int) (k : (List Int) → Int → Option ρ) : R14_Digits a0 a1 k = R14_Digits_raw a0 a1 k := by unfold R14_Digits; rw [shut_eq]
end P
end

section
open Go Go.Abs
set_option linter.unusedVariables false
namespace P
noncomputable def R14_digest_raw {ρ : Type} (a0 : List Int) (a1 : Int) (a2 : List Int) (a3 : List Int) (k : (List Int) → Option ρ) : Option ρ :=
  R01_Be (IntKind.u64.wrap a1) (4 : Int) fun (q0 : List Int) =>
    R01_Be (33153 : Int) (2 : Int) fun (q1 : List Int) => R14_H [a0, q0, q1, a2, a3] fun (q2 : List Int) => k q2
noncomputable def R14_digest {ρ : Type} (a0 : List Int) (a1 : Int) (a2 : List Int) (a3 : List Int) (k : (List Int) → Option ρ) : Option ρ := shut (R14_digest_raw (ρ := ρ)) a0 a1 a2 a3 k
theorem R14_digest_eq {ρ : Type} (a0 : List Int) (a1 : Int) (a2 : List Int) (a3 : List Int) (k : (List Int) → Option ρ) : R14_digest a0 a1 a2 a3 k = R14_digest_raw a0 a1 a2 a3 k := by unfold R14_digest; rw [shut_eq]
end P
end

section
open Go Go.Abs
set_option linter.unusedVariables false
namespace P
noncomputable def R14_Sign_r9 {ρ : Type} (v1 : List Int) (v2 : Int) (v3 : List Int) (v20 : Int) (h40 : List (List Int)) (h2 : List Int) (nx : (List Int) → Int → (List Int) → Int → (List (List Int)) → (List Int) → Option ρ) (k0 : (List Int) → Int → (List Int) → Int → (List (List Int)) → (List Int) → Option ρ) : Option ρ :=
  br (decide (v20 < (↑h2.length : Int)))
    (br (decide ((0 : Int) ≤ v20))
      (br (decide (v20 < (↑h2.length : Int)))
        (R14_part v1 v2 v20 v3 fun (q0 : List Int) =>
          R14_chain v1 v2 v20 (0 : Int) (IntKind.i64.wrap (h2.getD v20.toNat (0 : Int))) q0 fun (q1 : List Int) =>
            br
              (decide
                ((h40.length + 1) * 24 ≤
                  140737488355328))
              (nx v1 v2 v3 (IntKind.i64.wrap (v20 + (1 : Int))) (h40 ++ [q1]) h2) none)
        none)
      none)
    (k0 v1 v2 v3 v20 h40 h2)
noncomputable def R14_Sign_L9 {ρ : Type} (v1 : List Int) (v2 : Int) (v3 : List Int) (v20 : Int) (h40 : List (List Int)) (h2 : List Int) (k0 : (List Int) → Int → (List Int) → Int → (List (List Int)) → (List Int) → Option ρ) : Option ρ :=
  lp (fun (x : (List Int) × Int × (List Int) × Int × (List (List Int)) × (List Int)) (next : ((List Int) × Int × (List Int) × Int × (List (List Int)) × (List Int)) → Option ρ) (ex : (((List Int) × Int × (List Int) × Int × (List (List Int)) × (List Int))) → Option ρ) => R14_Sign_r9 x.1 x.2.1 x.2.2.1 x.2.2.2.1 x.2.2.2.2.1 x.2.2.2.2.2 (fun v1 v2 v3 v20 h40 h2 => next (v1, v2, v3, v20, h40, h2)) (fun v1 v2 v3 v20 h40 h2 => ex ((v1, v2, v3, v20, h40, h2)))) (v1, v2, v3, v20, h40, h2) (fun x => k0 x.1 x.2.1 x.2.2.1 x.2.2.2.1 x.2.2.2.2.1 x.2.2.2.2.2)
noncomputable def R14_Sign_l9 {ρ : Type} (v1 : List Int) (v2 : Int) (v3 : List Int) (v20 : Int) (h40 : List (List Int)) (h2 : List Int) (k0 : (List Int) → Int → (List Int) → Int → (List (List Int)) → (List Int) → Option ρ) : Option ρ := shut (R14_Sign_L9 (ρ := ρ)) v1 v2 v3 v20 h40 h2 k0
theorem R14_Sign_l9_eq {ρ : Type} (v1 : List Int) (v2 : Int) (v3 : List Int) (v20 : Int) (h40 : List (List Int)) (h2 : List Int) (k0 : (List Int) → Int → (List Int) → Int → (List (List Int)) → (List Int) → Option ρ) : R14_Sign_l9 v1 v2 v3 v20 h40 h2 k0 = R14_Sign_L9 v1 v2 v3 v20 h40 h2 k0 := by unfold R14_Sign_l9; rw [shut_eq]
noncomputable def R14_Sign_raw {ρ : Type} (a0 : Int) (a1 : List Int) (a2 : Int) (a3 : List Int) (a4 : List Int) (k : (List Int) → Int → Option ρ) : Option ρ :=
  R14_wrong a0 a1 a3 fun (q0 : Int) =>
    br (q0 != (0 : Int)) (k [] q0)
      (R14_Kind a0 fun (q1 q2 q3 : Int) =>
        R14_part a1 a2 (65533 : Int) a3 fun (q4 : List Int) =>
          R14_digest a1 a2 q4 a4 fun (q5 : List Int) =>
            R14_Digits a0 q5 fun (q6 : List Int) (q7 : Int) =>
              R01_Be q3 (4 : Int) fun (q8 : List Int) =>
                R14_Sign_l9 a1 a2 a3 (0 : Int) [q8, q4] q6
                  fun (q9 : List Int) (q10 : Int) (q11 : List Int) (q12 : Int) (q13 : List (List Int)) (q14 : List Int) =>
                  R01_Join q13 fun (q15 : List Int) => k q15 (0 : Int))
noncomputable def R14_Sign {ρ : Type} (a0 : Int) (a1 : List Int) (a2 : Int) (a3 : List Int) (a4 : List Int) (k : (List Int) → Int → Option ρ) : Option ρ := shut (R14_Sign_raw (ρ := ρ)) a0 a1 a2 a3 a4 k
theorem R14_Sign_eq {ρ : Type} (a0 : Int) (a1 : List Int) (a2 : Int) (a3 : List Int) (a4 : List Int) (k : (List Int) → Int → Option ρ) : R14_Sign a0 a1 a2 a3 a4 k = R14_Sign_raw a0 a1 a2 a3 a4 k := by unfold R14_Sign; rw [shut_eq]
end P
end

section
open Go Go.Abs
set_option linter.unusedVariables false
namespace P
noncomputable def lmots_Candidate_r9 {ρ : Type} (v15 : List Int) (v52 : Int) (v53 : Int) (h2 : List Int) (h0_0 : Int) (h0_1 : List Int) (h0_2 : Int) (h0_3 : Int) (h0_4 : Int) (h0_5 : Int) (h1 : List Int) (nx : (List Int) → Int → Int → (List Int) → Int → (List Int) → Int → Int → Int → Int → (List Int) → Option ρ) (k0 : (List Int) → Int → Int → (List Int) → Int → (List Int) → Int → Int → Int → Int → (List Int) → Option ρ) : Option ρ :=
  br (decide (v53 < v52))
    (br (decide ((0 : Int) ≤ v53))
      (br (decide (v53 < (↑h1.length : Int)))
        (lmots_leaf_steps h0_0 h0_1 h0_2 h0_3 h0_4 h0_5 fun (q0 : Int) =>
          br (decide ((32 : Int) ≤ (↑v15.length : Int)))
            (lmots_leaf_along h0_0 h0_1 h0_2 h0_3 h0_4 h0_5 v53 (h1.getD v53.toNat (0 : Int))
              (IntKind.u32.wrap (q0 - h1.getD v53.toNat (0 : Int)))
              (List.drop 0 (List.take (Int.toNat (32 : Int)) v15)) fun (q1 : List Int) =>
              br
                (decide
                  ((h2.length + q1.length) * 1 ≤
                    140737488355328))
                (br (decide ((32 : Int) ≤ (↑v15.length : Int)))
                  (br (decide ((↑v15.length : Int) ≤ (↑v15.length : Int)))
                    (nx (List.drop 32 (List.take (↑v15.length : Int).toNat v15)) v52
                      (IntKind.i64.wrap (v53 + (1 : Int))) (h2 ++ q1) h0_0 h0_1 h0_2 h0_3 h0_4 h0_5 h1)
                    none)
                  none)
                none)
            none)
        none)
      none)
    (k0 v15 v52 v53 h2 h0_0 h0_1 h0_2 h0_3 h0_4 h0_5 h1)
noncomputable def lmots_Candidate_L9 {ρ : Type} (v15 : List Int) (v52 : Int) (v53 : Int) (h2 : List Int) (h0_0 : Int) (h0_1 : List Int) (h0_2 : Int) (h0_3 : Int) (h0_4 : Int) (h0_5 : Int) (h1 : List Int) (k0 : (List Int) → Int → Int → (List Int) → Int → (List Int) → Int → Int → Int → Int → (List Int) → Option ρ) : Option ρ :=
  lp (fun (x : (List Int) × Int × Int × (List Int) × Int × (List Int) × Int × Int × Int × Int × (List Int)) (next : ((List Int) × Int × Int × (List Int) × Int × (List Int) × Int × Int × Int × Int × (List Int)) → Option ρ) (ex : (((List Int) × Int × Int × (List Int) × Int × (List Int) × Int × Int × Int × Int × (List Int))) → Option ρ) => lmots_Candidate_r9 x.1 x.2.1 x.2.2.1 x.2.2.2.1 x.2.2.2.2.1 x.2.2.2.2.2.1 x.2.2.2.2.2.2.1 x.2.2.2.2.2.2.2.1 x.2.2.2.2.2.2.2.2.1 x.2.2.2.2.2.2.2.2.2.1 x.2.2.2.2.2.2.2.2.2.2 (fun v15 v52 v53 h2 h0_0 h0_1 h0_2 h0_3 h0_4 h0_5 h1 => next (v15, v52, v53, h2, h0_0, h0_1, h0_2, h0_3, h0_4, h0_5, h1)) (fun v15 v52 v53 h2 h0_0 h0_1 h0_2 h0_3 h0_4 h0_5 h1 => ex ((v15, v52, v53, h2, h0_0, h0_1, h0_2, h0_3, h0_4, h0_5, h1)))) (v15, v52, v53, h2, h0_0, h0_1, h0_2, h0_3, h0_4, h0_5, h1) (fun x => k0 x.1 x.2.1 x.2.2.1 x.2.2.2.1 x.2.2.2.2.1 x.2.2.2.2.2.1 x.2.2.2.2.2.2.1 x.2.2.2.2.2.2.2.1 x.2.2.2.2.2.2.2.2.1 x.2.2.2.2.2.2.2.2.2.1 x.2.2.2.2.2.2.2.2.2.2)
noncomputable def lmots_Candidate_l9 {ρ : Type} (v15 : List Int) (v52 : Int) (v53 : Int) (h2 : List Int) (h0_0 : Int) (h0_1 : List Int) (h0_2 : Int) (h0_3 : Int) (h0_4 : Int) (h0_5 : Int) (h1 : List Int) (k0 : (List Int) → Int → Int → (List Int) → Int → (List Int) → Int → Int → Int → Int → (List Int) → Option ρ) : Option ρ := shut (lmots_Candidate_L9 (ρ := ρ)) v15 v52 v53 h2 h0_0 h0_1 h0_2 h0_3 h0_4 h0_5 h1 k0
theorem lmots_Candidate_l9_eq {ρ : Type} (v15 : List Int) (v52 : Int) (v53 : Int) (h2 : List Int) (h0_0 : Int) (h0_1 : List Int) (h0_2 : Int) (h0_3 : Int) (h0_4 : Int) (h0_5 : Int) (h1 : List Int) (k0 : (List Int) → Int → Int → (List Int) → Int → (List Int) → Int → Int → Int → Int → (List Int) → Option ρ) : lmots_Candidate_l9 v15 v52 v53 h2 h0_0 h0_1 h0_2 h0_3 h0_4 h0_5 h1 k0 = lmots_Candidate_L9 v15 v52 v53 h2 h0_0 h0_1 h0_2 h0_3 h0_4 h0_5 h1 k0 := by unfold lmots_Candidate_l9; rw [shut_eq]
noncomputable def lmots_Candidate_raw {ρ : Type} (a0 : Int) (a1 : List Int) (a2 : Int) (a3 : List Int) (a4 : List Int) (k : (List Int) → Int → Option ρ) : Option ρ :=
  lmots_began a0 a1 a2 fun (q0 : Int) (q1 : List Int) (q2 q3 q4 q5 q6 : Int) =>
    br (q6 != (0 : Int)) (k [] q6)
      (lmots_Size a0 fun (q7 : Int) =>
        br ((↑a4.length : Int) != q7) (k [] (1 : Int))
          (br (decide ((4 : Int) ≤ (↑a4.length : Int)))
            (bits_Num (List.drop 0 (List.take (Int.toNat (4 : Int)) a4)) fun (q8 : Int) =>
              br (q8 != IntKind.u64.wrap q5) (k [] (1 : Int))
                (br (decide ((36 : Int) ≤ (↑a4.length : Int)))
                  (br (decide ((↑a4.length : Int) ≤ (↑a4.length : Int)))
                    (br (decide ((36 : Int) ≤ (↑a4.length : Int)))
                      (lmots_leaf_digitsOf q0 q1 q2 q3 q4 q5
                        (List.drop 4 (List.take (Int.toNat (36 : Int)) a4)) a3 fun (q9 : List Int) =>
                        lmots_Candidate_l9 (List.drop 36 (List.take (↑a4.length : Int).toNat a4))
                          (↑q9.length : Int) (0 : Int) [] q0 q1 q2 q3 q4 q5 q9
                          fun (q10 : List Int) (q11 q12 : Int) (q13 : List Int) (q14 : Int) (q15 : List Int)
                            (q16 q17 q18 q19 : Int) (q20 : List Int) =>
                          lmots_leaf_sum q14 q15 q16 q17 q18 q19 (32896 : Int) [q13] fun (q21 : List Int) =>
                            k q21 (0 : Int))
                      none)
                    none)
                  none))
            none))
noncomputable def lmots_Candidate {ρ : Type} (a0 : Int) (a1 : List Int) (a2 : Int) (a3 : List Int) (a4 : List Int) (k : (List Int) → Int → Option ρ) : Option ρ := shut (lmots_Candidate_raw (ρ := ρ)) a0 a1 a2 a3 a4 k
theorem lmots_Candidate_eq {ρ : Type} (a0 : Int) (a1 : List Int) (a2 : Int) (a3 : List Int) (a4 : List Int) (k : (List Int) → Int → Option ρ) : lmots_Candidate a0 a1 a2 a3 a4 k = lmots_Candidate_raw a0 a1 a2 a3 a4 k := by unfold lmots_Candidate; rw [shut_eq]
end P
end

section
open Go Go.Abs
set_option linter.unusedVariables false
namespace P
noncomputable def R14_Size_raw {ρ : Type} (a0 : Int) (k : Int → Option ρ) : Option ρ :=
  R14_Kind a0 fun (q0 q1 q2 : Int) =>
    br (q0 == (0 : Int)) (k (0 : Int)) (k (IntKind.i64.wrap ((36 : Int) + IntKind.i64.wrap ((32 : Int) * q0))))
noncomputable def R14_Size {ρ : Type} (a0 : Int) (k : Int → Option ρ) : Option ρ := shut (R14_Size_raw (ρ := ρ)) a0 k
theorem R14_Size_eq {ρ : Type} (a0 : Int) (k : Int → Option ρ) : R14_Size a0 k = R14_Size_raw a0 k := by unfold R14_Size; rw [shut_eq]
end P
end

section
open Go Go.Abs
set_option linter.unusedVariables false
namespace P
noncomputable def R14_Candidate_r11 {ρ : Type} (v0 : Int) (v1 : List Int) (v2 : Int) (v4 : List Int) (v12 : Int) (v18 : Int) (h40 : List (List Int)) (h1 : List Int) (nx : Int → (List Int) → Int → (List Int) → Int → Int → (List (List Int)) → (List Int) → Option ρ) (k0 : Int → (List Int) → Int → (List Int) → Int → Int → (List (List Int)) → (List Int) → Option ρ) : Option ρ :=
  br (decide (v18 < v12))
    (br (decide ((0 : Int) ≤ v18))
      (br (decide (v18 < (↑h1.length : Int)))
        (br (decide (v0 < (0 : Int))) none
          (br (decide ((0 : Int) ≤ IntKind.i64.wrap ((36 : Int) + IntKind.i64.wrap ((32 : Int) * v18))))
            (br
              (decide
                (IntKind.i64.wrap ((36 : Int) + IntKind.i64.wrap ((32 : Int) * v18)) ≤
                  IntKind.i64.wrap ((68 : Int) + IntKind.i64.wrap ((32 : Int) * v18))))
              (br (decide (IntKind.i64.wrap ((68 : Int) + IntKind.i64.wrap ((32 : Int) * v18)) ≤ (↑v4.length : Int)))
                (R14_chain v1 v2 v18 (IntKind.i64.wrap (h1.getD v18.toNat (0 : Int)))
                  (IntKind.i64.wrap (IntKind.i64.wrap ((1 : Int) * (2 : Int) ^ min v0.toNat 64) - (1 : Int)))
                  (List.drop (IntKind.i64.wrap ((36 : Int) + IntKind.i64.wrap ((32 : Int) * v18))).toNat
                    (List.take (IntKind.i64.wrap ((68 : Int) + IntKind.i64.wrap ((32 : Int) * v18))).toNat v4))
                  fun (q0 : List Int) =>
                  br
                    (decide
                      ((h40.length + 1) *
                          24 ≤
                        140737488355328))
                    (nx v0 v1 v2 v4 v12 (IntKind.i64.wrap (v18 + (1 : Int))) (h40 ++ [q0]) h1) none)
                none)
              none)
            none))
        none)
      none)
    (k0 v0 v1 v2 v4 v12 v18 h40 h1)
noncomputable def R14_Candidate_L11 {ρ : Type} (v0 : Int) (v1 : List Int) (v2 : Int) (v4 : List Int) (v12 : Int) (v18 : Int) (h40 : List (List Int)) (h1 : List Int) (k0 : Int → (List Int) → Int → (List Int) → Int → Int → (List (List Int)) → (List Int) → Option ρ) : Option ρ :=
  lp (fun (x : Int × (List Int) × Int × (List Int) × Int × Int × (List (List Int)) × (List Int)) (next : (Int × (List Int) × Int × (List Int) × Int × Int × (List (List Int)) × (List Int)) → Option ρ) (ex : ((Int × (List Int) × Int × (List Int) × Int × Int × (List (List Int)) × (List Int))) → Option ρ) => R14_Candidate_r11 x.1 x.2.1 x.2.2.1 x.2.2.2.1 x.2.2.2.2.1 x.2.2.2.2.2.1 x.2.2.2.2.2.2.1 x.2.2.2.2.2.2.2 (fun v0 v1 v2 v4 v12 v18 h40 h1 => next (v0, v1, v2, v4, v12, v18, h40, h1)) (fun v0 v1 v2 v4 v12 v18 h40 h1 => ex ((v0, v1, v2, v4, v12, v18, h40, h1)))) (v0, v1, v2, v4, v12, v18, h40, h1) (fun x => k0 x.1 x.2.1 x.2.2.1 x.2.2.2.1 x.2.2.2.2.1 x.2.2.2.2.2.1 x.2.2.2.2.2.2.1 x.2.2.2.2.2.2.2)
noncomputable def R14_Candidate_l11 {ρ : Type} (v0 : Int) (v1 : List Int) (v2 : Int) (v4 : List Int) (v12 : Int) (v18 : Int) (h40 : List (List Int)) (h1 : List Int) (k0 : Int → (List Int) → Int → (List Int) → Int → Int → (List (List Int)) → (List Int) → Option ρ) : Option ρ := shut (R14_Candidate_L11 (ρ := ρ)) v0 v1 v2 v4 v12 v18 h40 h1 k0
theorem R14_Candidate_l11_eq {ρ : Type} (v0 : Int) (v1 : List Int) (v2 : Int) (v4 : List Int) (v12 : Int) (v18 : Int) (h40 : List (List Int)) (h1 : List Int) (k0 : Int → (List Int) → Int → (List Int) → Int → Int → (List (List Int)) → (List Int) → Option ρ) : R14_Candidate_l11 v0 v1 v2 v4 v12 v18 h40 h1 k0 = R14_Candidate_L11 v0 v1 v2 v4 v12 v18 h40 h1 k0 := by unfold R14_Candidate_l11; rw [shut_eq]
noncomputable def R14_Candidate_raw {ρ : Type} (a0 : Int) (a1 : List Int) (a2 : Int) (a3 : List Int) (a4 : List Int) (k : (List Int) → Int → Option ρ) : Option ρ :=
  R14_Kind a0 fun (q0 q1 q2 : Int) =>
    br (q0 == (0 : Int)) (k [] (9 : Int))
      (br ((↑a1.length : Int) != (16 : Int)) (k [] (14 : Int))
        (R14_Size a0 fun (q3 : Int) =>
          br ((↑a4.length : Int) != q3) (k [] (1 : Int))
            (br (decide ((4 : Int) ≤ (↑a4.length : Int)))
              (R01_Num (List.drop 0 (List.take (Int.toNat (4 : Int)) a4)) fun (q4 : Int) =>
                br (q4 != q2) (k [] (1 : Int))
                  (br (decide ((36 : Int) ≤ (↑a4.length : Int)))
                    (R14_digest a1 a2 (List.drop 4 (List.take (Int.toNat (36 : Int)) a4)) a3
                      fun (q5 : List Int) =>
                      R14_Digits a0 q5 fun (q6 : List Int) (q7 : Int) =>
                        R14_Candidate_l11 a0 a1 a2 a4 q0 (0 : Int) [] q6
                          fun (q8 : Int) (q9 : List Int) (q10 : Int) (q11 : List Int) (q12 q13 : Int)
                            (q14 : List (List Int)) (q15 : List Int) =>
                          R14_key q9 q10 q14 fun (q16 : List Int) => k q16 (0 : Int))
                    none))
              none)))
noncomputable def R14_Candidate {ρ : Type} (a0 : Int) (a1 : List Int) (a2 : Int) (a3 : List Int) (a4 : List Int) (k : (List Int) → Int → Option ρ) : Option ρ := shut (R14_Candidate_raw (ρ := ρ)) a0 a1 a2 a3 a4 k
theorem R14_Candidate_eq {ρ : Type} (a0 : Int) (a1 : List Int) (a2 : Int) (a3 : List Int) (a4 : List Int) (k : (List Int) → Int → Option ρ) : R14_Candidate a0 a1 a2 a3 a4 k = R14_Candidate_raw a0 a1 a2 a3 a4 k := by unfold R14_Candidate; rw [shut_eq]
end P
end

section
open Go Go.Abs
set_option linter.unusedVariables false
namespace P
noncomputable def L14_LmotsSigns_raw {ρ : Type} (a0 : Int) (a1 : List Int) (a2 : Int) (a3 : List Int) (a4 : List Int) (a5 : List Int) (k : Bool → Option ρ) : Option ρ :=
  br (a0 == (8 : Int)) (L14_awake fun (q0 : Bool) => k q0)
    (L14_few [a1, a3, a4] fun (q1 : Bool) =>
      br (!q1) (L14_awake fun (q2 : Bool) => k q2)
        (br (decide ((↑a5.length : Int) > (9000 : Int))) (L14_awake fun (q3 : Bool) => k q3)
          (lmots_Public a0 a1 a2 a3 fun (q4 : List Int) (q5 : Int) =>
            R14_Public a0 a1 a2 a3 fun (q6 : List Int) (q7 : Int) =>
              lmots_Sign a0 a1 a2 a3 a4 fun (q8 : List Int) (q9 : Int) =>
                R14_Sign a0 a1 a2 a3 a4 fun (q10 : List Int) (q11 : Int) =>
                  lmots_Candidate a0 a1 a2 a4 a5 fun (q12 : List Int) (q13 : Int) =>
                    R14_Candidate a0 a1 a2 a4 a5 fun (q14 : List Int) (q15 : Int) =>
                      R01_Same q4 q6 fun (q16 : Bool) =>
                        br q16
                          (br (q5 == q7)
                            (R01_Same q8 q10 fun (q17 : Bool) =>
                              br q17
                                (br (q9 == q11)
                                  (R01_Same q12 q14 fun (q18 : Bool) =>
                                    br q18 (br (q13 == q15) (L14_awake fun (q19 : Bool) => k q19) (k false)) (k false))
                                  (k false))
                                (k false))
                            (k false))
                          (k false))))
noncomputable def L14_LmotsSigns {ρ : Type} (a0 : Int) (a1 : List Int) (a2 : Int) (a3 : List Int) (a4 : List Int) (a5 : List Int) (k : Bool → Option ρ) : Option ρ := shut (L14_LmotsSigns_raw (ρ := ρ)) a0 a1 a2 a3 a4 a5 k
theorem L14_LmotsSigns_eq {ρ : Type} (a0 : Int) (a1 : List Int) (a2 : Int) (a3 : List Int) (a4 : List Int) (a5 : List Int) (k : Bool → Option ρ) : L14_LmotsSigns a0 a1 a2 a3 a4 a5 k = L14_LmotsSigns_raw a0 a1 a2 a3 a4 a5 k := by unfold L14_LmotsSigns; rw [shut_eq]
end P
end

section
open Go Go.Abs Go.Proofs
set_option maxRecDepth 100000
set_option linter.unusedVariables false
namespace bits_Le
def S5 (v0 : Int) (v16 : Int) (v17 : Int) (h0 : List Int) : ASt := ⟨[(0, .v (.int .u64 v0)), (5, .own 0), (16, .v (.int .i64 v16)), (17, .v (.int .i64 v17))], [(0, some ⟨.row 5 (.ints .u8 h0), false⟩)], 1, 30⟩
def V5 : ASt → Option (Int × Int × Int × (List Int))
  | ⟨[(0, .v (.int .u64 v0)), (5, .own 0), (16, .v (.int .i64 v16)), (17, .v (.int .i64 v17))], [(0, some ⟨.row 5 (.ints .u8 h0), false⟩)], 1, 30⟩ => some (v0, v16, v17, h0)
  | _ => none
theorem V5_ok (st : ASt) (x : Int × Int × Int × (List Int)) (h : V5 st = some x) : st = S5 x.1 x.2.1 x.2.2.1 x.2.2.2 := by
  unfold V5 at h
  split at h
  · cases h; rfl
  · cases h
noncomputable def L5 : LSpec := fun st K => match V5 st with
  | some x => P.bits_Le_l5 x.1 x.2.1 x.2.2.1 x.2.2.2 (fun v0 v16 v17 h0 => K (.exit 0) (S5 v0 v16 v17 h0))
  | none => none
noncomputable def D : Ctx := ({ P := Tryd.prog, G := [], globs := [(0, [.arr .u32 64 P.roots256]), (1, [.arr .u64 80 P.roots512])], hints := [(5, ⟨[0, 5, 16, 17], [], [4], [], none, []⟩)], loops := [(5, L5)], inl := [] } : Ctx)
def E5 (K : AExit → ASt → Option R) : ((Int × Int × Int × (List Int))) → Option R := (fun x => K (.exit 0) (S5 x.1 x.2.1 x.2.2.1 x.2.2.2))
theorem round5 (K : AExit → ASt → Option R) (next : ASt → Option R) (x : Int × Int × Int × (List Int)) : roundA D (loopAt Tryd.f118 5) K next (S5 x.1 x.2.1 x.2.2.1 x.2.2.2) = (fun (x : Int × Int × Int × (List Int)) (next : (Int × Int × Int × (List Int)) → Option R) (ex : ((Int × Int × Int × (List Int))) → Option R) => P.bits_Le_r5 x.1 x.2.1 x.2.2.1 x.2.2.2 (fun v0 v16 v17 h0 => next (v0, v16, v17, h0)) (fun v0 v16 v17 h0 => ex ((v0, v16, v17, h0)))) x (fun x => next (S5 x.1 x.2.1 x.2.2.1 x.2.2.2)) (E5 K) := by kernel_rfl
theorem lq5 (st : ASt) (K : AExit → ASt → Option R) : L5 st K = vMap (V5 st) (fun x => lp (fun (x : Int × Int × Int × (List Int)) (next : (Int × Int × Int × (List Int)) → Option R) (ex : ((Int × Int × Int × (List Int))) → Option R) => P.bits_Le_r5 x.1 x.2.1 x.2.2.1 x.2.2.2 (fun v0 v16 v17 h0 => next (v0, v16, v17, h0)) (fun v0 v16 v17 h0 => ex ((v0, v16, v17, h0)))) x (E5 K)) := by
  unfold L5
  cases V5 st with
  | none => rfl
  | some x => simp only [P.bits_Le_l5_eq]; rfl
theorem loop5 : LoopOk D (loopAt Tryd.f118 5) := loopOk_lp (X := Int × Int × Int × (List Int)) (Y := (Int × Int × Int × (List Int))) (fun x => S5 x.1 x.2.1 x.2.2.1 x.2.2.2) V5_ok (stp := (fun (x : Int × Int × Int × (List Int)) (next : (Int × Int × Int × (List Int)) → Option R) (ex : ((Int × Int × Int × (List Int))) → Option R) => P.bits_Le_r5 x.1 x.2.1 x.2.2.1 x.2.2.2 (fun v0 v16 v17 h0 => next (v0, v16, v17, h0)) (fun v0 v16 v17 h0 => ex ((v0, v16, v17, h0))))) (enc := E5) (L := L5) (by kernel_rfl) lq5 round5
theorem body (a0 : Int) (a1 : Int) (K : AVal → Option R) : bodyA D Tryd.f118 [.fr 5 (.ints .u8 [])] [.v (.int .u64 a0), .v (.int .i64 a1)] K = P.bits_Le a0 a1 (fun r0 => K (.fr 5 (.ints .u8 r0))) := by
  rw [P.bits_Le_eq]
  kernel_rfl
theorem loops : loopsOf (Tryd.f118.body.getD .skip) = [loopAt Tryd.f118 5] := by kernel_rfl
noncomputable def spec0 : Abs.Spec := fun args K => match args with
  | [.v (.int .u64 a0), .v (.int .i64 a1)] => P.bits_Le a0 a1 (fun r0 => K (.fr 5 (.ints .u8 r0)))
  | _ => none
noncomputable def spec : Abs.Spec := spec0
theorem ok0 : Proved Tryd.prog [(0, [.arr .u32 64 P.roots256]), (1, [.arr .u64 80 P.roots512])] 118 spec0 := by
  refine proved_of (D := D) (fn := Tryd.f118) (c := Tryd.f118.body.getD .skip) [.fr 5 (.ints .u8 [])] (by kernel_rfl) (globsPlain_of (by kernel_rfl)) (by kernel_rfl) (by kernel_rfl) (by kernel_rfl) trivial trivial ?_ ?_
  · rw [loops]; exact ⟨loop5, trivial⟩
  · intro args K r h
    unfold spec0 at h
    split at h
    · rw [body]; exact h
    · cases h
theorem ok : Proved Tryd.prog [(0, [.arr .u32 64 P.roots256]), (1, [.arr .u64 80 P.roots512])] 118 spec := ok0
end bits_Le
end

section
open Go Go.Abs Go.Proofs
set_option maxRecDepth 100000
set_option linter.unusedVariables false
namespace bits_Be
def S1_1 (v2 : Int) (v3 : Int) (h0 : List Int) : ASt := ⟨[(0, .own 0), (2, .v (.int .i64 v2)), (3, .v (.int .i64 v3))], [(0, some ⟨.row 5 (.ints .u8 h0), false⟩)], 1, 28⟩
def V1_1 : ASt → Option (Int × Int × (List Int))
  | ⟨[(0, .own 0), (2, .v (.int .i64 v2)), (3, .v (.int .i64 v3))], [(0, some ⟨.row 5 (.ints .u8 h0), false⟩)], 1, 28⟩ => some (v2, v3, h0)
  | _ => none
theorem V1_1_ok (st : ASt) (x : Int × Int × (List Int)) (h : V1_1 st = some x) : st = S1_1 x.1 x.2.1 x.2.2 := by
  unfold V1_1 at h
  split at h
  · cases h; rfl
  · cases h
noncomputable def L1_1 : LSpec := fun st K => match V1_1 st with
  | some x => P.bits_Be_l1_1 x.1 x.2.1 x.2.2 (fun v2 v3 h0 => K (.exit 0) (S1_1 v2 v3 h0))
  | none => none
noncomputable def D1 : Ctx := ({ P := Tryd.prog, G := [(118, bits_Le.spec)], globs := [(0, [.arr .u32 64 P.roots256]), (1, [.arr .u64 80 P.roots512])], hints := [(1, ⟨[0, 2, 3], [], [], [], none, []⟩)], loops := [(1, L1_1)], inl := [] } : Ctx)
noncomputable def D : Ctx := ({ P := Tryd.prog, G := [(118, bits_Le.spec)], globs := [(0, [.arr .u32 64 P.roots256]), (1, [.arr .u64 80 P.roots512])], hints := [], loops := [], inl := [(119, bodyIn D1 Tryd.f119)] } : Ctx)
def E1_1 (K : AExit → ASt → Option R) : ((Int × Int × (List Int))) → Option R := (fun x => K (.exit 0) (S1_1 x.1 x.2.1 x.2.2))
theorem round1_1 (K : AExit → ASt → Option R) (next : ASt → Option R) (x : Int × Int × (List Int)) : roundA D1 (loopAt Tryd.f119 1) K next (S1_1 x.1 x.2.1 x.2.2) = (fun (x : Int × Int × (List Int)) (next : (Int × Int × (List Int)) → Option R) (ex : ((Int × Int × (List Int))) → Option R) => P.bits_Be_r1_1 x.1 x.2.1 x.2.2 (fun v2 v3 h0 => next (v2, v3, h0)) (fun v2 v3 h0 => ex ((v2, v3, h0)))) x (fun x => next (S1_1 x.1 x.2.1 x.2.2)) (E1_1 K) := by kernel_rfl
theorem lq1_1 (st : ASt) (K : AExit → ASt → Option R) : L1_1 st K = vMap (V1_1 st) (fun x => lp (fun (x : Int × Int × (List Int)) (next : (Int × Int × (List Int)) → Option R) (ex : ((Int × Int × (List Int))) → Option R) => P.bits_Be_r1_1 x.1 x.2.1 x.2.2 (fun v2 v3 h0 => next (v2, v3, h0)) (fun v2 v3 h0 => ex ((v2, v3, h0)))) x (E1_1 K)) := by
  unfold L1_1
  cases V1_1 st with
  | none => rfl
  | some x => simp only [P.bits_Be_l1_1_eq]; rfl
theorem loop1_1 : LoopOk D1 (loopAt Tryd.f119 1) := loopOk_lp (X := Int × Int × (List Int)) (Y := (Int × Int × (List Int))) (fun x => S1_1 x.1 x.2.1 x.2.2) V1_1_ok (stp := (fun (x : Int × Int × (List Int)) (next : (Int × Int × (List Int)) → Option R) (ex : ((Int × Int × (List Int))) → Option R) => P.bits_Be_r1_1 x.1 x.2.1 x.2.2 (fun v2 v3 h0 => next (v2, v3, h0)) (fun v2 v3 h0 => ex ((v2, v3, h0))))) (enc := E1_1) (L := L1_1) (by kernel_rfl) lq1_1 round1_1
theorem body (a0 : Int) (a1 : Int) (K : AVal → Option R) : bodyA D Tryd.f68 [.fr 5 (.ints .u8 [])] [.v (.int .u64 a0), .v (.int .i64 a1)] K = P.bits_Be a0 a1 (fun r0 => K (.fr 5 (.ints .u8 r0))) := by
  rw [P.bits_Be_eq]
  kernel_rfl
theorem loops : loopsOf (Tryd.f68.body.getD .skip) = [] := by kernel_rfl
theorem loops1 : loopsOf (Tryd.f119.body.getD .skip) = [loopAt Tryd.f119 1] := by kernel_rfl
noncomputable def spec0 : Abs.Spec := fun args K => match args with
  | [.v (.int .u64 a0), .v (.int .i64 a1)] => P.bits_Be a0 a1 (fun r0 => K (.fr 5 (.ints .u8 r0)))
  | _ => none
noncomputable def spec : Abs.Spec := spec0
theorem ok0 : Proved Tryd.prog [(0, [.arr .u32 64 P.roots256]), (1, [.arr .u64 80 P.roots512])] 68 spec0 := by
  refine proved_of (D := D) (fn := Tryd.f68) (c := Tryd.f68.body.getD .skip) [.fr 5 (.ints .u8 [])] (by kernel_rfl) (globsPlain_of (by kernel_rfl)) (by kernel_rfl) (by kernel_rfl) (by kernel_rfl) ⟨bits_Le.ok, trivial⟩ ⟨run_of (D := D1) (D' := D) (fn := Tryd.f119) (c := Tryd.f119.body.getD .skip) rfl rfl (by kernel_rfl) (globsPlain_of (by kernel_rfl)) (by kernel_rfl) (by kernel_rfl) (by kernel_rfl) ⟨bits_Le.ok, trivial⟩ trivial (by rw [loops1]; exact ⟨loop1_1, trivial⟩) (fun _ _ _ _ _ h => h), trivial⟩ ?_ ?_
  · rw [loops]; exact trivial
  · intro args K r h
    unfold spec0 at h
    split at h
    · rw [body]; exact h
    · cases h
theorem ok : Proved Tryd.prog [(0, [.arr .u32 64 P.roots256]), (1, [.arr .u64 80 P.roots512])] 68 spec := ok0
end bits_Be
end

section
open Go Go.Abs Go.Proofs
set_option maxRecDepth 100000
set_option linter.unusedVariables false
namespace bits_such
noncomputable def D : Ctx := ({ P := Tryd.prog, G := [], globs := [(0, [.arr .u32 64 P.roots256]), (1, [.arr .u64 80 P.roots512])], hints := [], loops := [], inl := [] } : Ctx)
theorem body (a0 : List Int) (a1 : Int) (a2 : Int) (K : AVal → Option R) : bodyA D Tryd.f135 [.any] [.sl (.ints .u8 a0), .v (.int .i64 a1), .v (.int .i64 a2)] K = P.bits_such a0 a1 a2 (fun r0 => K (.v (.bool r0))) := by
  rw [P.bits_such_eq]
  kernel_rfl
theorem loops : loopsOf (Tryd.f135.body.getD .skip) = [] := by kernel_rfl
noncomputable def spec0 : Abs.Spec := fun args K => match args with
  | [.sl (.ints .u8 a0), .v (.int .i64 a1), .v (.int .i64 a2)] => P.bits_such a0 a1 a2 (fun r0 => K (.v (.bool r0)))
  | _ => none
noncomputable def spec : Abs.Spec := fun args K => spec0 (coerL [.sl (.ints .u8 []), .any, .any] args) K
theorem ok0 : Proved Tryd.prog [(0, [.arr .u32 64 P.roots256]), (1, [.arr .u64 80 P.roots512])] 135 spec0 := by
  refine proved_of (D := D) (fn := Tryd.f135) (c := Tryd.f135.body.getD .skip) [.any] (by kernel_rfl) (globsPlain_of (by kernel_rfl)) (by kernel_rfl) (by kernel_rfl) (by kernel_rfl) trivial trivial ?_ ?_
  · rw [loops]; exact trivial
  · intro args K r h
    unfold spec0 at h
    split at h
    · rw [body]; exact h
    · cases h
theorem ok : Proved Tryd.prog [(0, [.arr .u32 64 P.roots256]), (1, [.arr .u64 80 P.roots512])] 135 spec := proved_coer _ ok0
end bits_such
end

section
open Go Go.Abs Go.Proofs
set_option maxRecDepth 100000
set_option linter.unusedVariables false
namespace bits_Digits
def S6 (v0 : List Int) (v1 : Int) (v8 : Int) (v9 : Int) (v19 : Int) (v20 : Int) (h0 : List Int) : ASt := ⟨[(0, .sl (.ints .u8 v0)), (1, .v (.int .i64 v1)), (7, .own 0), (8, .v (.int .u64 v8)), (9, .v (.int .i64 v9)), (19, .v (.int .i64 v19)), (20, .v (.int .i64 v20))], [(0, some ⟨.row 71 (.ints .u32 h0), false⟩)], 1, 53⟩
def V6 : ASt → Option ((List Int) × Int × Int × Int × Int × Int × (List Int))
  | ⟨[(0, .sl (.ints .u8 v0)), (1, .v (.int .i64 v1)), (7, .own 0), (8, .v (.int .u64 v8)), (9, .v (.int .i64 v9)), (19, .v (.int .i64 v19)), (20, .v (.int .i64 v20))], [(0, some ⟨.row 71 (.ints .u32 h0), false⟩)], 1, 53⟩ => some (v0, v1, v8, v9, v19, v20, h0)
  | _ => none
theorem V6_ok (st : ASt) (x : (List Int) × Int × Int × Int × Int × Int × (List Int)) (h : V6 st = some x) : st = S6 x.1 x.2.1 x.2.2.1 x.2.2.2.1 x.2.2.2.2.1 x.2.2.2.2.2.1 x.2.2.2.2.2.2 := by
  unfold V6 at h
  split at h
  · cases h; rfl
  · cases h
def S8 (v0 : List Int) (v1 : Int) (v8 : Int) (v9 : Int) (v10 : Int) (v19 : Int) (v20 : Int) (h0 : List Int) : ASt := ⟨[(0, .sl (.ints .u8 v0)), (1, .v (.int .i64 v1)), (7, .own 0), (8, .v (.int .u64 v8)), (9, .v (.int .i64 v9)), (10, .v (.int .i64 v10)), (19, .v (.int .i64 v19)), (20, .v (.int .i64 v20))], [(0, some ⟨.row 71 (.ints .u32 h0), false⟩)], 1, 53⟩
def V8 : ASt → Option ((List Int) × Int × Int × Int × Int × Int × Int × (List Int))
  | ⟨[(0, .sl (.ints .u8 v0)), (1, .v (.int .i64 v1)), (7, .own 0), (8, .v (.int .u64 v8)), (9, .v (.int .i64 v9)), (10, .v (.int .i64 v10)), (19, .v (.int .i64 v19)), (20, .v (.int .i64 v20))], [(0, some ⟨.row 71 (.ints .u32 h0), false⟩)], 1, 53⟩ => some (v0, v1, v8, v9, v10, v19, v20, h0)
  | _ => none
theorem V8_ok (st : ASt) (x : (List Int) × Int × Int × Int × Int × Int × Int × (List Int)) (h : V8 st = some x) : st = S8 x.1 x.2.1 x.2.2.1 x.2.2.2.1 x.2.2.2.2.1 x.2.2.2.2.2.1 x.2.2.2.2.2.2.1 x.2.2.2.2.2.2.2 := by
  unfold V8 at h
  split at h
  · cases h; rfl
  · cases h
noncomputable def L8 : LSpec := fun st K => match V8 st with
  | some x => P.bits_Digits_l8 x.1 x.2.1 x.2.2.1 x.2.2.2.1 x.2.2.2.2.1 x.2.2.2.2.2.1 x.2.2.2.2.2.2.1 x.2.2.2.2.2.2.2 (fun v0 v1 v8 v9 v10 v19 v20 h0 => K (.exit 2) (S8 v0 v1 v8 v9 v10 v19 v20 h0))
  | none => none
noncomputable def L6 : LSpec := fun st K => match V6 st with
  | some x => P.bits_Digits_l6 x.1 x.2.1 x.2.2.1 x.2.2.2.1 x.2.2.2.2.1 x.2.2.2.2.2.1 x.2.2.2.2.2.2 (fun v0 v1 v8 v9 v19 v20 h0 => K (.exit 0) (S6 v0 v1 v8 v9 v19 v20 h0))
  | none => none
noncomputable def D : Ctx := ({ P := Tryd.prog, G := [(135, bits_such.spec)], globs := [(0, [.arr .u32 64 P.roots256]), (1, [.arr .u64 80 P.roots512])], hints := [(8, ⟨[0, 1, 7, 8, 9, 10, 19, 20], [], [6], [(0, .sl (.ints .u8 []))], none, []⟩), (6, ⟨[0, 1, 7, 8, 9, 19, 20], [], [6], [(0, .sl (.ints .u8 []))], none, []⟩)], loops := [(8, L8), (6, L6)], inl := [] } : Ctx)
def E8 (K : AExit → ASt → Option R) : (((List Int) × Int × Int × Int × Int × Int × Int × (List Int))) → Option R := (fun x => K (.exit 2) (S8 x.1 x.2.1 x.2.2.1 x.2.2.2.1 x.2.2.2.2.1 x.2.2.2.2.2.1 x.2.2.2.2.2.2.1 x.2.2.2.2.2.2.2))
theorem round8 (K : AExit → ASt → Option R) (next : ASt → Option R) (x : (List Int) × Int × Int × Int × Int × Int × Int × (List Int)) : roundA D (loopAt Tryd.f122 8) K next (S8 x.1 x.2.1 x.2.2.1 x.2.2.2.1 x.2.2.2.2.1 x.2.2.2.2.2.1 x.2.2.2.2.2.2.1 x.2.2.2.2.2.2.2) = (fun (x : (List Int) × Int × Int × Int × Int × Int × Int × (List Int)) (next : ((List Int) × Int × Int × Int × Int × Int × Int × (List Int)) → Option R) (ex : (((List Int) × Int × Int × Int × Int × Int × Int × (List Int))) → Option R) => P.bits_Digits_r8 x.1 x.2.1 x.2.2.1 x.2.2.2.1 x.2.2.2.2.1 x.2.2.2.2.2.1 x.2.2.2.2.2.2.1 x.2.2.2.2.2.2.2 (fun v0 v1 v8 v9 v10 v19 v20 h0 => next (v0, v1, v8, v9, v10, v19, v20, h0)) (fun v0 v1 v8 v9 v10 v19 v20 h0 => ex ((v0, v1, v8, v9, v10, v19, v20, h0)))) x (fun x => next (S8 x.1 x.2.1 x.2.2.1 x.2.2.2.1 x.2.2.2.2.1 x.2.2.2.2.2.1 x.2.2.2.2.2.2.1 x.2.2.2.2.2.2.2)) (E8 K) := by kernel_rfl
theorem lq8 (st : ASt) (K : AExit → ASt → Option R) : L8 st K = vMap (V8 st) (fun x => lp (fun (x : (List Int) × Int × Int × Int × Int × Int × Int × (List Int)) (next : ((List Int) × Int × Int × Int × Int × Int × Int × (List Int)) → Option R) (ex : (((List Int) × Int × Int × Int × Int × Int × Int × (List Int))) → Option R) => P.bits_Digits_r8 x.1 x.2.1 x.2.2.1 x.2.2.2.1 x.2.2.2.2.1 x.2.2.2.2.2.1 x.2.2.2.2.2.2.1 x.2.2.2.2.2.2.2 (fun v0 v1 v8 v9 v10 v19 v20 h0 => next (v0, v1, v8, v9, v10, v19, v20, h0)) (fun v0 v1 v8 v9 v10 v19 v20 h0 => ex ((v0, v1, v8, v9, v10, v19, v20, h0)))) x (E8 K)) := by
  unfold L8
  cases V8 st with
  | none => rfl
  | some x => simp only [P.bits_Digits_l8_eq]; rfl
theorem loop8 : LoopOk D (loopAt Tryd.f122 8) := loopOk_lp (X := (List Int) × Int × Int × Int × Int × Int × Int × (List Int)) (Y := ((List Int) × Int × Int × Int × Int × Int × Int × (List Int))) (fun x => S8 x.1 x.2.1 x.2.2.1 x.2.2.2.1 x.2.2.2.2.1 x.2.2.2.2.2.1 x.2.2.2.2.2.2.1 x.2.2.2.2.2.2.2) V8_ok (stp := (fun (x : (List Int) × Int × Int × Int × Int × Int × Int × (List Int)) (next : ((List Int) × Int × Int × Int × Int × Int × Int × (List Int)) → Option R) (ex : (((List Int) × Int × Int × Int × Int × Int × Int × (List Int))) → Option R) => P.bits_Digits_r8 x.1 x.2.1 x.2.2.1 x.2.2.2.1 x.2.2.2.2.1 x.2.2.2.2.2.1 x.2.2.2.2.2.2.1 x.2.2.2.2.2.2.2 (fun v0 v1 v8 v9 v10 v19 v20 h0 => next (v0, v1, v8, v9, v10, v19, v20, h0)) (fun v0 v1 v8 v9 v10 v19 v20 h0 => ex ((v0, v1, v8, v9, v10, v19, v20, h0))))) (enc := E8) (L := L8) (by kernel_rfl) lq8 round8
def E6 (K : AExit → ASt → Option R) : (((List Int) × Int × Int × Int × Int × Int × (List Int))) → Option R := (fun x => K (.exit 0) (S6 x.1 x.2.1 x.2.2.1 x.2.2.2.1 x.2.2.2.2.1 x.2.2.2.2.2.1 x.2.2.2.2.2.2))
theorem round6 (K : AExit → ASt → Option R) (next : ASt → Option R) (x : (List Int) × Int × Int × Int × Int × Int × (List Int)) : roundA D (loopAt Tryd.f122 6) K next (S6 x.1 x.2.1 x.2.2.1 x.2.2.2.1 x.2.2.2.2.1 x.2.2.2.2.2.1 x.2.2.2.2.2.2) = (fun (x : (List Int) × Int × Int × Int × Int × Int × (List Int)) (next : ((List Int) × Int × Int × Int × Int × Int × (List Int)) → Option R) (ex : (((List Int) × Int × Int × Int × Int × Int × (List Int))) → Option R) => P.bits_Digits_r6 x.1 x.2.1 x.2.2.1 x.2.2.2.1 x.2.2.2.2.1 x.2.2.2.2.2.1 x.2.2.2.2.2.2 (fun v0 v1 v8 v9 v19 v20 h0 => next (v0, v1, v8, v9, v19, v20, h0)) (fun v0 v1 v8 v9 v19 v20 h0 => ex ((v0, v1, v8, v9, v19, v20, h0)))) x (fun x => next (S6 x.1 x.2.1 x.2.2.1 x.2.2.2.1 x.2.2.2.2.1 x.2.2.2.2.2.1 x.2.2.2.2.2.2)) (E6 K) := by kernel_rfl
theorem lq6 (st : ASt) (K : AExit → ASt → Option R) : L6 st K = vMap (V6 st) (fun x => lp (fun (x : (List Int) × Int × Int × Int × Int × Int × (List Int)) (next : ((List Int) × Int × Int × Int × Int × Int × (List Int)) → Option R) (ex : (((List Int) × Int × Int × Int × Int × Int × (List Int))) → Option R) => P.bits_Digits_r6 x.1 x.2.1 x.2.2.1 x.2.2.2.1 x.2.2.2.2.1 x.2.2.2.2.2.1 x.2.2.2.2.2.2 (fun v0 v1 v8 v9 v19 v20 h0 => next (v0, v1, v8, v9, v19, v20, h0)) (fun v0 v1 v8 v9 v19 v20 h0 => ex ((v0, v1, v8, v9, v19, v20, h0)))) x (E6 K)) := by
  unfold L6
  cases V6 st with
  | none => rfl
  | some x => simp only [P.bits_Digits_l6_eq]; rfl
theorem loop6 : LoopOk D (loopAt Tryd.f122 6) := loopOk_lp (X := (List Int) × Int × Int × Int × Int × Int × (List Int)) (Y := ((List Int) × Int × Int × Int × Int × Int × (List Int))) (fun x => S6 x.1 x.2.1 x.2.2.1 x.2.2.2.1 x.2.2.2.2.1 x.2.2.2.2.2.1 x.2.2.2.2.2.2) V6_ok (stp := (fun (x : (List Int) × Int × Int × Int × Int × Int × (List Int)) (next : ((List Int) × Int × Int × Int × Int × Int × (List Int)) → Option R) (ex : (((List Int) × Int × Int × Int × Int × Int × (List Int))) → Option R) => P.bits_Digits_r6 x.1 x.2.1 x.2.2.1 x.2.2.2.1 x.2.2.2.2.1 x.2.2.2.2.2.1 x.2.2.2.2.2.2 (fun v0 v1 v8 v9 v19 v20 h0 => next (v0, v1, v8, v9, v19, v20, h0)) (fun v0 v1 v8 v9 v19 v20 h0 => ex ((v0, v1, v8, v9, v19, v20, h0))))) (enc := E6) (L := L6) (by kernel_rfl) lq6 round6
theorem body (a0 : List Int) (a1 : Int) (a2 : Int) (K : AVal → Option R) : bodyA D Tryd.f122 [.fr 71 (.ints .u32 [])] [.sl (.ints .u8 a0), .v (.int .i64 a1), .v (.int .i64 a2)] K = P.bits_Digits a0 a1 a2 (fun r0 => K (.fr 71 (.ints .u32 r0))) := by
  rw [P.bits_Digits_eq]
  kernel_rfl
theorem loops : loopsOf (Tryd.f122.body.getD .skip) = [loopAt Tryd.f122 6, loopAt Tryd.f122 8] := by kernel_rfl
noncomputable def spec0 : Abs.Spec := fun args K => match args with
  | [.sl (.ints .u8 a0), .v (.int .i64 a1), .v (.int .i64 a2)] => P.bits_Digits a0 a1 a2 (fun r0 => K (.fr 71 (.ints .u32 r0)))
  | _ => none
noncomputable def spec : Abs.Spec := fun args K => spec0 (coerL [.sl (.ints .u8 []), .any, .any] args) K
theorem ok0 : Proved Tryd.prog [(0, [.arr .u32 64 P.roots256]), (1, [.arr .u64 80 P.roots512])] 122 spec0 := by
  refine proved_of (D := D) (fn := Tryd.f122) (c := Tryd.f122.body.getD .skip) [.fr 71 (.ints .u32 [])] (by kernel_rfl) (globsPlain_of (by kernel_rfl)) (by kernel_rfl) (by kernel_rfl) (by kernel_rfl) ⟨bits_such.ok, trivial⟩ trivial ?_ ?_
  · rw [loops]; exact ⟨loop6, loop8, trivial⟩
  · intro args K r h
    unfold spec0 at h
    split at h
    · rw [body]; exact h
    · cases h
theorem ok : Proved Tryd.prog [(0, [.arr .u32 64 P.roots256]), (1, [.arr .u64 80 P.roots512])] 122 spec := proved_coer _ ok0
end bits_Digits
end

section
open Go Go.Abs Go.Proofs
set_option maxRecDepth 100000
set_option linter.unusedVariables false
namespace lmots_known
noncomputable def D : Ctx := ({ P := Tryd.prog, G := [], globs := [(0, [.arr .u32 64 P.roots256]), (1, [.arr .u64 80 P.roots512])], hints := [], loops := [], inl := [] } : Ctx)
theorem body (a0 : Int) (K : AVal → Option R) : bodyA D Tryd.f97 [.any, .any] [.v (.int .i64 a0)] K = P.lmots_known a0 (fun r0_digits r0_shift r0_code r1 => K (.tuple [.agg [.v (.int .i64 r0_digits), .v (.int .i64 r0_shift), .v (.int .i64 r0_code)], .v (.bool r1)])) := by
  rw [P.lmots_known_eq]
  kernel_rfl
theorem loops : loopsOf (Tryd.f97.body.getD .skip) = [] := by kernel_rfl
noncomputable def spec0 : Abs.Spec := fun args K => match args with
  | [.v (.int .i64 a0)] => P.lmots_known a0 (fun r0_digits r0_shift r0_code r1 => K (.tuple [.agg [.v (.int .i64 r0_digits), .v (.int .i64 r0_shift), .v (.int .i64 r0_code)], .v (.bool r1)]))
  | _ => none
noncomputable def spec : Abs.Spec := spec0
theorem ok0 : Proved Tryd.prog [(0, [.arr .u32 64 P.roots256]), (1, [.arr .u64 80 P.roots512])] 97 spec0 := by
  refine proved_of (D := D) (fn := Tryd.f97) (c := Tryd.f97.body.getD .skip) [.any, .any] (by kernel_rfl) (globsPlain_of (by kernel_rfl)) (by kernel_rfl) (by kernel_rfl) (by kernel_rfl) trivial trivial ?_ ?_
  · rw [loops]; exact trivial
  · intro args K r h
    unfold spec0 at h
    split at h
    · rw [body]; exact h
    · cases h
theorem ok : Proved Tryd.prog [(0, [.arr .u32 64 P.roots256]), (1, [.arr .u64 80 P.roots512])] 97 spec := ok0
end lmots_known
end

section
open Go Go.Abs Go.Proofs
set_option maxRecDepth 100000
set_option linter.unusedVariables false
namespace lmots_Digits
def S9 (v0 : Int) (v9 : Int) (v37 : Int) (v38 : Int) (h0_0 : Int) (h0_1 : Int) (h0_2 : Int) (h1 : List Int) : ASt := ⟨[(0, .v (.int .i64 v0)), (6, .ptr 0 0), (8, .own 1), (9, .v (.int .u64 v9)), (36, .own 1), (37, .v (.int .i64 v37)), (38, .v (.int .i64 v38))], [(0, some ⟨.box 128 [.v (.int .i64 h0_0), .v (.int .i64 h0_1), .v (.int .i64 h0_2)], false⟩), (1, some ⟨.row 71 (.ints .u32 h1), false⟩)], 2, 61⟩
def V9 : ASt → Option (Int × Int × Int × Int × Int × Int × Int × (List Int))
  | ⟨[(0, .v (.int .i64 v0)), (6, .ptr 0 0), (8, .own 1), (9, .v (.int .u64 v9)), (36, .own 1), (37, .v (.int .i64 v37)), (38, .v (.int .i64 v38))], [(0, some ⟨.box 128 [.v (.int .i64 h0_0), .v (.int .i64 h0_1), .v (.int .i64 h0_2)], false⟩), (1, some ⟨.row 71 (.ints .u32 h1), false⟩)], 2, 61⟩ => some (v0, v9, v37, v38, h0_0, h0_1, h0_2, h1)
  | _ => none
theorem V9_ok (st : ASt) (x : Int × Int × Int × Int × Int × Int × Int × (List Int)) (h : V9 st = some x) : st = S9 x.1 x.2.1 x.2.2.1 x.2.2.2.1 x.2.2.2.2.1 x.2.2.2.2.2.1 x.2.2.2.2.2.2.1 x.2.2.2.2.2.2.2 := by
  unfold V9 at h
  split at h
  · cases h; rfl
  · cases h
noncomputable def L9 : LSpec := fun st K => match V9 st with
  | some x => P.lmots_Digits_l9 x.1 x.2.1 x.2.2.1 x.2.2.2.1 x.2.2.2.2.1 x.2.2.2.2.2.1 x.2.2.2.2.2.2.1 x.2.2.2.2.2.2.2 (fun v0 v9 v37 v38 h0_0 h0_1 h0_2 h1 => K (.exit 1) (S9 v0 v9 v37 v38 h0_0 h0_1 h0_2 h1))
  | none => none
noncomputable def D : Ctx := ({ P := Tryd.prog, G := [(68, bits_Be.spec), (97, lmots_known.spec), (122, bits_Digits.spec)], globs := [(0, [.arr .u32 64 P.roots256]), (1, [.arr .u64 80 P.roots512])], hints := [(9, ⟨[0, 6, 8, 9, 36, 37, 38], [], [4, 5], [], none, []⟩)], loops := [(9, L9)], inl := [] } : Ctx)
def E9 (K : AExit → ASt → Option R) : ((Int × Int × Int × Int × Int × Int × Int × (List Int))) → Option R := (fun x => K (.exit 1) (S9 x.1 x.2.1 x.2.2.1 x.2.2.2.1 x.2.2.2.2.1 x.2.2.2.2.2.1 x.2.2.2.2.2.2.1 x.2.2.2.2.2.2.2))
theorem round9 (K : AExit → ASt → Option R) (next : ASt → Option R) (x : Int × Int × Int × Int × Int × Int × Int × (List Int)) : roundA D (loopAt Tryd.f81 9) K next (S9 x.1 x.2.1 x.2.2.1 x.2.2.2.1 x.2.2.2.2.1 x.2.2.2.2.2.1 x.2.2.2.2.2.2.1 x.2.2.2.2.2.2.2) = (fun (x : Int × Int × Int × Int × Int × Int × Int × (List Int)) (next : (Int × Int × Int × Int × Int × Int × Int × (List Int)) → Option R) (ex : ((Int × Int × Int × Int × Int × Int × Int × (List Int))) → Option R) => P.lmots_Digits_r9 x.1 x.2.1 x.2.2.1 x.2.2.2.1 x.2.2.2.2.1 x.2.2.2.2.2.1 x.2.2.2.2.2.2.1 x.2.2.2.2.2.2.2 (fun v0 v9 v37 v38 h0_0 h0_1 h0_2 h1 => next (v0, v9, v37, v38, h0_0, h0_1, h0_2, h1)) (fun v0 v9 v37 v38 h0_0 h0_1 h0_2 h1 => ex ((v0, v9, v37, v38, h0_0, h0_1, h0_2, h1)))) x (fun x => next (S9 x.1 x.2.1 x.2.2.1 x.2.2.2.1 x.2.2.2.2.1 x.2.2.2.2.2.1 x.2.2.2.2.2.2.1 x.2.2.2.2.2.2.2)) (E9 K) := by kernel_rfl
theorem lq9 (st : ASt) (K : AExit → ASt → Option R) : L9 st K = vMap (V9 st) (fun x => lp (fun (x : Int × Int × Int × Int × Int × Int × Int × (List Int)) (next : (Int × Int × Int × Int × Int × Int × Int × (List Int)) → Option R) (ex : ((Int × Int × Int × Int × Int × Int × Int × (List Int))) → Option R) => P.lmots_Digits_r9 x.1 x.2.1 x.2.2.1 x.2.2.2.1 x.2.2.2.2.1 x.2.2.2.2.2.1 x.2.2.2.2.2.2.1 x.2.2.2.2.2.2.2 (fun v0 v9 v37 v38 h0_0 h0_1 h0_2 h1 => next (v0, v9, v37, v38, h0_0, h0_1, h0_2, h1)) (fun v0 v9 v37 v38 h0_0 h0_1 h0_2 h1 => ex ((v0, v9, v37, v38, h0_0, h0_1, h0_2, h1)))) x (E9 K)) := by
  unfold L9
  cases V9 st with
  | none => rfl
  | some x => simp only [P.lmots_Digits_l9_eq]; rfl
theorem loop9 : LoopOk D (loopAt Tryd.f81 9) := loopOk_lp (X := Int × Int × Int × Int × Int × Int × Int × (List Int)) (Y := (Int × Int × Int × Int × Int × Int × Int × (List Int))) (fun x => S9 x.1 x.2.1 x.2.2.1 x.2.2.2.1 x.2.2.2.2.1 x.2.2.2.2.2.1 x.2.2.2.2.2.2.1 x.2.2.2.2.2.2.2) V9_ok (stp := (fun (x : Int × Int × Int × Int × Int × Int × Int × (List Int)) (next : (Int × Int × Int × Int × Int × Int × Int × (List Int)) → Option R) (ex : ((Int × Int × Int × Int × Int × Int × Int × (List Int))) → Option R) => P.lmots_Digits_r9 x.1 x.2.1 x.2.2.1 x.2.2.2.1 x.2.2.2.2.1 x.2.2.2.2.2.1 x.2.2.2.2.2.2.1 x.2.2.2.2.2.2.2 (fun v0 v9 v37 v38 h0_0 h0_1 h0_2 h1 => next (v0, v9, v37, v38, h0_0, h0_1, h0_2, h1)) (fun v0 v9 v37 v38 h0_0 h0_1 h0_2 h1 => ex ((v0, v9, v37, v38, h0_0, h0_1, h0_2, h1))))) (enc := E9) (L := L9) (by kernel_rfl) lq9 round9
theorem body (a0 : Int) (a1 : List Int) (K : AVal → Option R) : bodyA D Tryd.f81 [.fr 71 (.ints .u32 []), .any] [.v (.int .i64 a0), .sl (.ints .u8 a1)] K = P.lmots_Digits a0 a1 (fun r0 r1 => K (.tuple [.fr 71 (.ints .u32 r0), .v (.int .i64 r1)])) := by
  rw [P.lmots_Digits_eq]
  kernel_rfl
theorem loops : loopsOf (Tryd.f81.body.getD .skip) = [loopAt Tryd.f81 9] := by kernel_rfl
noncomputable def spec0 : Abs.Spec := fun args K => match args with
  | [.v (.int .i64 a0), .sl (.ints .u8 a1)] => P.lmots_Digits a0 a1 (fun r0 r1 => K (.tuple [.fr 71 (.ints .u32 r0), .v (.int .i64 r1)]))
  | _ => none
noncomputable def spec : Abs.Spec := fun args K => spec0 (coerL [.any, .sl (.ints .u8 [])] args) K
theorem ok0 : Proved Tryd.prog [(0, [.arr .u32 64 P.roots256]), (1, [.arr .u64 80 P.roots512])] 81 spec0 := by
  refine proved_of (D := D) (fn := Tryd.f81) (c := Tryd.f81.body.getD .skip) [.fr 71 (.ints .u32 []), .any] (by kernel_rfl) (globsPlain_of (by kernel_rfl)) (by kernel_rfl) (by kernel_rfl) (by kernel_rfl) ⟨bits_Be.ok, lmots_known.ok, bits_Digits.ok, trivial⟩ trivial ?_ ?_
  · rw [loops]; exact ⟨loop9, trivial⟩
  · intro args K r h
    unfold spec0 at h
    split at h
    · rw [body]; exact h
    · cases h
theorem ok : Proved Tryd.prog [(0, [.arr .u32 64 P.roots256]), (1, [.arr .u64 80 P.roots512])] 81 spec := proved_coer _ ok0
end lmots_Digits
end

section
open Go Go.Abs Go.Proofs
set_option maxRecDepth 100000
set_option linter.unusedVariables false
namespace lmots_Size
noncomputable def D : Ctx := ({ P := Tryd.prog, G := [(97, lmots_known.spec)], globs := [(0, [.arr .u32 64 P.roots256]), (1, [.arr .u64 80 P.roots512])], hints := [], loops := [], inl := [] } : Ctx)
theorem body (a0 : Int) (K : AVal → Option R) : bodyA D Tryd.f51 [.any] [.v (.int .i64 a0)] K = P.lmots_Size a0 (fun r0 => K (.v (.int .i64 r0))) := by
  rw [P.lmots_Size_eq]
  kernel_rfl
theorem loops : loopsOf (Tryd.f51.body.getD .skip) = [] := by kernel_rfl
noncomputable def spec0 : Abs.Spec := fun args K => match args with
  | [.v (.int .i64 a0)] => P.lmots_Size a0 (fun r0 => K (.v (.int .i64 r0)))
  | _ => none
noncomputable def spec : Abs.Spec := spec0
theorem ok0 : Proved Tryd.prog [(0, [.arr .u32 64 P.roots256]), (1, [.arr .u64 80 P.roots512])] 51 spec0 := by
  refine proved_of (D := D) (fn := Tryd.f51) (c := Tryd.f51.body.getD .skip) [.any] (by kernel_rfl) (globsPlain_of (by kernel_rfl)) (by kernel_rfl) (by kernel_rfl) (by kernel_rfl) ⟨lmots_known.ok, trivial⟩ trivial ?_ ?_
  · rw [loops]; exact trivial
  · intro args K r h
    unfold spec0 at h
    split at h
    · rw [body]; exact h
    · cases h
theorem ok : Proved Tryd.prog [(0, [.arr .u32 64 P.roots256]), (1, [.arr .u64 80 P.roots512])] 51 spec := ok0
end lmots_Size
end

section
open Go Go.Abs Go.Proofs
set_option maxRecDepth 100000
set_option linter.unusedVariables false
namespace L14_awake
def S3 (v9 : Int) (v10 : Int) (h0 : List Int) : ASt := ⟨[(1, .own 0), (9, .v (.int .i64 v9)), (10, .v (.int .i64 v10))], [(0, some ⟨.row 5 (.ints .u8 h0), false⟩)], 1, 60⟩
def V3 : ASt → Option (Int × Int × (List Int))
  | ⟨[(1, .own 0), (9, .v (.int .i64 v9)), (10, .v (.int .i64 v10))], [(0, some ⟨.row 5 (.ints .u8 h0), false⟩)], 1, 60⟩ => some (v9, v10, h0)
  | _ => none
theorem V3_ok (st : ASt) (x : Int × Int × (List Int)) (h : V3 st = some x) : st = S3 x.1 x.2.1 x.2.2 := by
  unfold V3 at h
  split at h
  · cases h; rfl
  · cases h
noncomputable def L3 : LSpec := fun st K => match V3 st with
  | some x => P.L14_awake_l3 x.1 x.2.1 x.2.2 (fun v9 v10 h0 => K (.exit 0) (S3 v9 v10 h0))
  | none => none
noncomputable def D : Ctx := ({ P := Tryd.prog, G := [(51, lmots_Size.spec), (81, lmots_Digits.spec)], globs := [(0, [.arr .u32 64 P.roots256]), (1, [.arr .u64 80 P.roots512])], hints := [(3, ⟨[1, 9, 10], [], [0], [], none, []⟩)], loops := [(3, L3)], inl := [] } : Ctx)
def E3 (K : AExit → ASt → Option R) : ((Int × Int × (List Int))) → Option R := (fun x => K (.exit 0) (S3 x.1 x.2.1 x.2.2))
theorem round3 (K : AExit → ASt → Option R) (next : ASt → Option R) (x : Int × Int × (List Int)) : roundA D (loopAt Tryd.f44 3) K next (S3 x.1 x.2.1 x.2.2) = (fun (x : Int × Int × (List Int)) (next : (Int × Int × (List Int)) → Option R) (ex : ((Int × Int × (List Int))) → Option R) => P.L14_awake_r3 x.1 x.2.1 x.2.2 (fun v9 v10 h0 => next (v9, v10, h0)) (fun v9 v10 h0 => ex ((v9, v10, h0)))) x (fun x => next (S3 x.1 x.2.1 x.2.2)) (E3 K) := by kernel_rfl
theorem lq3 (st : ASt) (K : AExit → ASt → Option R) : L3 st K = vMap (V3 st) (fun x => lp (fun (x : Int × Int × (List Int)) (next : (Int × Int × (List Int)) → Option R) (ex : ((Int × Int × (List Int))) → Option R) => P.L14_awake_r3 x.1 x.2.1 x.2.2 (fun v9 v10 h0 => next (v9, v10, h0)) (fun v9 v10 h0 => ex ((v9, v10, h0)))) x (E3 K)) := by
  unfold L3
  cases V3 st with
  | none => rfl
  | some x => simp only [P.L14_awake_l3_eq]; rfl
theorem loop3 : LoopOk D (loopAt Tryd.f44 3) := loopOk_lp (X := Int × Int × (List Int)) (Y := (Int × Int × (List Int))) (fun x => S3 x.1 x.2.1 x.2.2) V3_ok (stp := (fun (x : Int × Int × (List Int)) (next : (Int × Int × (List Int)) → Option R) (ex : ((Int × Int × (List Int))) → Option R) => P.L14_awake_r3 x.1 x.2.1 x.2.2 (fun v9 v10 h0 => next (v9, v10, h0)) (fun v9 v10 h0 => ex ((v9, v10, h0))))) (enc := E3) (L := L3) (by kernel_rfl) lq3 round3
theorem body  (K : AVal → Option R) : bodyA D Tryd.f44 [.any] [] K = P.L14_awake (fun r0 => K (.v (.bool r0))) := by
  rw [P.L14_awake_eq]
  kernel_rfl
theorem loops : loopsOf (Tryd.f44.body.getD .skip) = [loopAt Tryd.f44 3] := by kernel_rfl
noncomputable def spec0 : Abs.Spec := fun args K => match args with
  | [] => P.L14_awake (fun r0 => K (.v (.bool r0)))
  | _ => none
noncomputable def spec : Abs.Spec := spec0
theorem ok0 : Proved Tryd.prog [(0, [.arr .u32 64 P.roots256]), (1, [.arr .u64 80 P.roots512])] 44 spec0 := by
  refine proved_of (D := D) (fn := Tryd.f44) (c := Tryd.f44.body.getD .skip) [.any] (by kernel_rfl) (globsPlain_of (by kernel_rfl)) (by kernel_rfl) (by kernel_rfl) (by kernel_rfl) ⟨lmots_Size.ok, lmots_Digits.ok, trivial⟩ trivial ?_ ?_
  · rw [loops]; exact ⟨loop3, trivial⟩
  · intro args K r h
    unfold spec0 at h
    split at h
    · rw [body]; exact h
    · cases h
theorem ok : Proved Tryd.prog [(0, [.arr .u32 64 P.roots256]), (1, [.arr .u64 80 P.roots512])] 44 spec := ok0
end L14_awake
end

section
open Go Go.Abs Go.Proofs
set_option maxRecDepth 100000
set_option linter.unusedVariables false
namespace L14_few
def S2 (v5 : List (List Int)) (v6 : Int) (v7 : Int) : ASt := ⟨[(5, .sl (.rows .u8 v5)), (6, .v (.int .i64 v6)), (7, .v (.int .i64 v7))], [], 0, 15⟩
def V2 : ASt → Option ((List (List Int)) × Int × Int)
  | ⟨[(5, .sl (.rows .u8 v5)), (6, .v (.int .i64 v6)), (7, .v (.int .i64 v7))], [], 0, 15⟩ => some (v5, v6, v7)
  | _ => none
theorem V2_ok (st : ASt) (x : (List (List Int)) × Int × Int) (h : V2 st = some x) : st = S2 x.1 x.2.1 x.2.2 := by
  unfold V2 at h
  split at h
  · cases h; rfl
  · cases h
noncomputable def L2 : LSpec := fun st K => match V2 st with
  | some x => P.L14_few_l2 x.1 x.2.1 x.2.2 (fun v5 v6 v7 => K (.exit 0) (S2 v5 v6 v7)) (fun v2 => K .ret ⟨[(2, .v (.bool v2))], [], 0, 15⟩)
  | none => none
noncomputable def D : Ctx := ({ P := Tryd.prog, G := [], globs := [(0, [.arr .u32 64 P.roots256]), (1, [.arr .u64 80 P.roots512])], hints := [(2, ⟨[5, 6, 7], [], [2], [], none, []⟩)], loops := [(2, L2)], inl := [] } : Ctx)
def E2 (K : AExit → ASt → Option R) : (((List (List Int)) × Int × Int) ⊕ ((Bool))) → Option R := (Sum.elim (fun x => K (.exit 0) (S2 x.1 x.2.1 x.2.2)) (fun x => K .ret ⟨[(2, .v (.bool x))], [], 0, 15⟩))
theorem round2 (K : AExit → ASt → Option R) (next : ASt → Option R) (x : (List (List Int)) × Int × Int) : roundA D (loopAt Tryd.f43 2) K next (S2 x.1 x.2.1 x.2.2) = (fun (x : (List (List Int)) × Int × Int) (next : ((List (List Int)) × Int × Int) → Option R) (ex : (((List (List Int)) × Int × Int) ⊕ ((Bool))) → Option R) => P.L14_few_r2 x.1 x.2.1 x.2.2 (fun v5 v6 v7 => next (v5, v6, v7)) (fun v5 v6 v7 => ex (.inl (v5, v6, v7))) (fun v2 => ex (.inr v2))) x (fun x => next (S2 x.1 x.2.1 x.2.2)) (E2 K) := by kernel_rfl
theorem lq2 (st : ASt) (K : AExit → ASt → Option R) : L2 st K = vMap (V2 st) (fun x => lp (fun (x : (List (List Int)) × Int × Int) (next : ((List (List Int)) × Int × Int) → Option R) (ex : (((List (List Int)) × Int × Int) ⊕ ((Bool))) → Option R) => P.L14_few_r2 x.1 x.2.1 x.2.2 (fun v5 v6 v7 => next (v5, v6, v7)) (fun v5 v6 v7 => ex (.inl (v5, v6, v7))) (fun v2 => ex (.inr v2))) x (E2 K)) := by
  unfold L2
  cases V2 st with
  | none => rfl
  | some x => simp only [P.L14_few_l2_eq]; rfl
theorem loop2 : LoopOk D (loopAt Tryd.f43 2) := loopOk_lp (X := (List (List Int)) × Int × Int) (Y := ((List (List Int)) × Int × Int) ⊕ ((Bool))) (fun x => S2 x.1 x.2.1 x.2.2) V2_ok (stp := (fun (x : (List (List Int)) × Int × Int) (next : ((List (List Int)) × Int × Int) → Option R) (ex : (((List (List Int)) × Int × Int) ⊕ ((Bool))) → Option R) => P.L14_few_r2 x.1 x.2.1 x.2.2 (fun v5 v6 v7 => next (v5, v6, v7)) (fun v5 v6 v7 => ex (.inl (v5, v6, v7))) (fun v2 => ex (.inr v2)))) (enc := E2) (L := L2) (by kernel_rfl) lq2 round2
theorem body (a0 : List (List Int)) (K : AVal → Option R) : bodyA D Tryd.f43 [.any] [.sl (.rows .u8 a0)] K = P.L14_few a0 (fun r0 => K (.v (.bool r0))) := by
  rw [P.L14_few_eq]
  kernel_rfl
theorem loops : loopsOf (Tryd.f43.body.getD .skip) = [loopAt Tryd.f43 2] := by kernel_rfl
noncomputable def spec0 : Abs.Spec := fun args K => match args with
  | [.sl (.rows .u8 a0)] => P.L14_few a0 (fun r0 => K (.v (.bool r0)))
  | _ => none
noncomputable def spec : Abs.Spec := fun args K => spec0 (coerL [.sl (.rows .u8 [])] args) K
theorem ok0 : Proved Tryd.prog [(0, [.arr .u32 64 P.roots256]), (1, [.arr .u64 80 P.roots512])] 43 spec0 := by
  refine proved_of (D := D) (fn := Tryd.f43) (c := Tryd.f43.body.getD .skip) [.any] (by kernel_rfl) (globsPlain_of (by kernel_rfl)) (by kernel_rfl) (by kernel_rfl) (by kernel_rfl) trivial trivial ?_ ?_
  · rw [loops]; exact ⟨loop2, trivial⟩
  · intro args K r h
    unfold spec0 at h
    split at h
    · rw [body]; exact h
    · cases h
theorem ok : Proved Tryd.prog [(0, [.arr .u32 64 P.roots256]), (1, [.arr .u64 80 P.roots512])] 43 spec := proved_coer _ ok0
end L14_few
end

section
open Go Go.Abs Go.Proofs
set_option maxRecDepth 100000
set_option linter.unusedVariables false
namespace R01_Same
def S4 (v0 : List Int) (v1 : List Int) (v5 : Int) : ASt := ⟨[(0, .sl (.ints .u8 v0)), (1, .sl (.ints .u8 v1)), (5, .v (.int .i64 v5))], [], 0, 26⟩
def V4 : ASt → Option ((List Int) × (List Int) × Int)
  | ⟨[(0, .sl (.ints .u8 v0)), (1, .sl (.ints .u8 v1)), (5, .v (.int .i64 v5))], [], 0, 26⟩ => some (v0, v1, v5)
  | _ => none
theorem V4_ok (st : ASt) (x : (List Int) × (List Int) × Int) (h : V4 st = some x) : st = S4 x.1 x.2.1 x.2.2 := by
  unfold V4 at h
  split at h
  · cases h; rfl
  · cases h
noncomputable def L4 : LSpec := fun st K => match V4 st with
  | some x => P.R01_Same_l4 x.1 x.2.1 x.2.2 (fun v0 v1 v5 => K (.exit 0) (S4 v0 v1 v5)) (fun v4 => K .ret ⟨[(4, .v (.bool v4))], [], 0, 26⟩)
  | none => none
noncomputable def D : Ctx := ({ P := Tryd.prog, G := [], globs := [(0, [.arr .u32 64 P.roots256]), (1, [.arr .u64 80 P.roots512])], hints := [(4, ⟨[0, 1, 5], [], [4], [], none, []⟩)], loops := [(4, L4)], inl := [] } : Ctx)
def E4 (K : AExit → ASt → Option R) : (((List Int) × (List Int) × Int) ⊕ ((Bool))) → Option R := (Sum.elim (fun x => K (.exit 0) (S4 x.1 x.2.1 x.2.2)) (fun x => K .ret ⟨[(4, .v (.bool x))], [], 0, 26⟩))
theorem round4 (K : AExit → ASt → Option R) (next : ASt → Option R) (x : (List Int) × (List Int) × Int) : roundA D (loopAt Tryd.f18 4) K next (S4 x.1 x.2.1 x.2.2) = (fun (x : (List Int) × (List Int) × Int) (next : ((List Int) × (List Int) × Int) → Option R) (ex : (((List Int) × (List Int) × Int) ⊕ ((Bool))) → Option R) => P.R01_Same_r4 x.1 x.2.1 x.2.2 (fun v0 v1 v5 => next (v0, v1, v5)) (fun v0 v1 v5 => ex (.inl (v0, v1, v5))) (fun v4 => ex (.inr v4))) x (fun x => next (S4 x.1 x.2.1 x.2.2)) (E4 K) := by kernel_rfl
theorem lq4 (st : ASt) (K : AExit → ASt → Option R) : L4 st K = vMap (V4 st) (fun x => lp (fun (x : (List Int) × (List Int) × Int) (next : ((List Int) × (List Int) × Int) → Option R) (ex : (((List Int) × (List Int) × Int) ⊕ ((Bool))) → Option R) => P.R01_Same_r4 x.1 x.2.1 x.2.2 (fun v0 v1 v5 => next (v0, v1, v5)) (fun v0 v1 v5 => ex (.inl (v0, v1, v5))) (fun v4 => ex (.inr v4))) x (E4 K)) := by
  unfold L4
  cases V4 st with
  | none => rfl
  | some x => simp only [P.R01_Same_l4_eq]; rfl
theorem loop4 : LoopOk D (loopAt Tryd.f18 4) := loopOk_lp (X := (List Int) × (List Int) × Int) (Y := ((List Int) × (List Int) × Int) ⊕ ((Bool))) (fun x => S4 x.1 x.2.1 x.2.2) V4_ok (stp := (fun (x : (List Int) × (List Int) × Int) (next : ((List Int) × (List Int) × Int) → Option R) (ex : (((List Int) × (List Int) × Int) ⊕ ((Bool))) → Option R) => P.R01_Same_r4 x.1 x.2.1 x.2.2 (fun v0 v1 v5 => next (v0, v1, v5)) (fun v0 v1 v5 => ex (.inl (v0, v1, v5))) (fun v4 => ex (.inr v4)))) (enc := E4) (L := L4) (by kernel_rfl) lq4 round4
theorem body (a0 : List Int) (a1 : List Int) (K : AVal → Option R) : bodyA D Tryd.f18 [.any] [.sl (.ints .u8 a0), .sl (.ints .u8 a1)] K = P.R01_Same a0 a1 (fun r0 => K (.v (.bool r0))) := by
  rw [P.R01_Same_eq]
  kernel_rfl
theorem loops : loopsOf (Tryd.f18.body.getD .skip) = [loopAt Tryd.f18 4] := by kernel_rfl
noncomputable def spec0 : Abs.Spec := fun args K => match args with
  | [.sl (.ints .u8 a0), .sl (.ints .u8 a1)] => P.R01_Same a0 a1 (fun r0 => K (.v (.bool r0)))
  | _ => none
noncomputable def spec : Abs.Spec := fun args K => spec0 (coerL [.sl (.ints .u8 []), .sl (.ints .u8 [])] args) K
theorem ok0 : Proved Tryd.prog [(0, [.arr .u32 64 P.roots256]), (1, [.arr .u64 80 P.roots512])] 18 spec0 := by
  refine proved_of (D := D) (fn := Tryd.f18) (c := Tryd.f18.body.getD .skip) [.any] (by kernel_rfl) (globsPlain_of (by kernel_rfl)) (by kernel_rfl) (by kernel_rfl) (by kernel_rfl) trivial trivial ?_ ?_
  · rw [loops]; exact ⟨loop4, trivial⟩
  · intro args K r h
    unfold spec0 at h
    split at h
    · rw [body]; exact h
    · cases h
theorem ok : Proved Tryd.prog [(0, [.arr .u32 64 P.roots256]), (1, [.arr .u64 80 P.roots512])] 18 spec := proved_coer _ ok0
end R01_Same
end

section
open Go Go.Abs Go.Proofs
set_option maxRecDepth 100000
set_option linter.unusedVariables false
namespace R01_Num
def S3 (v0 : List Int) (v3 : Int) (v4 : Int) : ASt := ⟨[(0, .sl (.ints .u8 v0)), (3, .v (.int .u64 v3)), (4, .v (.int .i64 v4))], [], 0, 20⟩
def V3 : ASt → Option ((List Int) × Int × Int)
  | ⟨[(0, .sl (.ints .u8 v0)), (3, .v (.int .u64 v3)), (4, .v (.int .i64 v4))], [], 0, 20⟩ => some (v0, v3, v4)
  | _ => none
theorem V3_ok (st : ASt) (x : (List Int) × Int × Int) (h : V3 st = some x) : st = S3 x.1 x.2.1 x.2.2 := by
  unfold V3 at h
  split at h
  · cases h; rfl
  · cases h
noncomputable def L3 : LSpec := fun st K => match V3 st with
  | some x => P.R01_Num_l3 x.1 x.2.1 x.2.2 (fun v0 v3 v4 => K (.exit 0) (S3 v0 v3 v4))
  | none => none
noncomputable def D : Ctx := ({ P := Tryd.prog, G := [], globs := [(0, [.arr .u32 64 P.roots256]), (1, [.arr .u64 80 P.roots512])], hints := [(3, ⟨[0, 3, 4], [], [2], [], none, []⟩)], loops := [(3, L3)], inl := [] } : Ctx)
def E3 (K : AExit → ASt → Option R) : (((List Int) × Int × Int)) → Option R := (fun x => K (.exit 0) (S3 x.1 x.2.1 x.2.2))
theorem round3 (K : AExit → ASt → Option R) (next : ASt → Option R) (x : (List Int) × Int × Int) : roundA D (loopAt Tryd.f24 3) K next (S3 x.1 x.2.1 x.2.2) = (fun (x : (List Int) × Int × Int) (next : ((List Int) × Int × Int) → Option R) (ex : (((List Int) × Int × Int)) → Option R) => P.R01_Num_r3 x.1 x.2.1 x.2.2 (fun v0 v3 v4 => next (v0, v3, v4)) (fun v0 v3 v4 => ex ((v0, v3, v4)))) x (fun x => next (S3 x.1 x.2.1 x.2.2)) (E3 K) := by kernel_rfl
theorem lq3 (st : ASt) (K : AExit → ASt → Option R) : L3 st K = vMap (V3 st) (fun x => lp (fun (x : (List Int) × Int × Int) (next : ((List Int) × Int × Int) → Option R) (ex : (((List Int) × Int × Int)) → Option R) => P.R01_Num_r3 x.1 x.2.1 x.2.2 (fun v0 v3 v4 => next (v0, v3, v4)) (fun v0 v3 v4 => ex ((v0, v3, v4)))) x (E3 K)) := by
  unfold L3
  cases V3 st with
  | none => rfl
  | some x => simp only [P.R01_Num_l3_eq]; rfl
theorem loop3 : LoopOk D (loopAt Tryd.f24 3) := loopOk_lp (X := (List Int) × Int × Int) (Y := ((List Int) × Int × Int)) (fun x => S3 x.1 x.2.1 x.2.2) V3_ok (stp := (fun (x : (List Int) × Int × Int) (next : ((List Int) × Int × Int) → Option R) (ex : (((List Int) × Int × Int)) → Option R) => P.R01_Num_r3 x.1 x.2.1 x.2.2 (fun v0 v3 v4 => next (v0, v3, v4)) (fun v0 v3 v4 => ex ((v0, v3, v4))))) (enc := E3) (L := L3) (by kernel_rfl) lq3 round3
theorem body (a0 : List Int) (K : AVal → Option R) : bodyA D Tryd.f24 [.any] [.sl (.ints .u8 a0)] K = P.R01_Num a0 (fun r0 => K (.v (.int .u64 r0))) := by
  rw [P.R01_Num_eq]
  kernel_rfl
theorem loops : loopsOf (Tryd.f24.body.getD .skip) = [loopAt Tryd.f24 3] := by kernel_rfl
noncomputable def spec0 : Abs.Spec := fun args K => match args with
  | [.sl (.ints .u8 a0)] => P.R01_Num a0 (fun r0 => K (.v (.int .u64 r0)))
  | _ => none
noncomputable def spec : Abs.Spec := fun args K => spec0 (coerL [.sl (.ints .u8 [])] args) K
theorem ok0 : Proved Tryd.prog [(0, [.arr .u32 64 P.roots256]), (1, [.arr .u64 80 P.roots512])] 24 spec0 := by
  refine proved_of (D := D) (fn := Tryd.f24) (c := Tryd.f24.body.getD .skip) [.any] (by kernel_rfl) (globsPlain_of (by kernel_rfl)) (by kernel_rfl) (by kernel_rfl) (by kernel_rfl) trivial trivial ?_ ?_
  · rw [loops]; exact ⟨loop3, trivial⟩
  · intro args K r h
    unfold spec0 at h
    split at h
    · rw [body]; exact h
    · cases h
theorem ok : Proved Tryd.prog [(0, [.arr .u32 64 P.roots256]), (1, [.arr .u64 80 P.roots512])] 24 spec := proved_coer _ ok0
end R01_Num
end

section
open Go Go.Abs Go.Proofs
set_option maxRecDepth 100000
set_option linter.unusedVariables false
namespace R01_Be
def S5 (v0 : Int) (v6 : Int) (h0 : List Int) : ASt := ⟨[(0, .v (.int .u64 v0)), (5, .own 0), (6, .v (.int .i64 v6))], [(0, some ⟨.row 5 (.ints .u8 h0), false⟩)], 1, 30⟩
def V5 : ASt → Option (Int × Int × (List Int))
  | ⟨[(0, .v (.int .u64 v0)), (5, .own 0), (6, .v (.int .i64 v6))], [(0, some ⟨.row 5 (.ints .u8 h0), false⟩)], 1, 30⟩ => some (v0, v6, h0)
  | _ => none
theorem V5_ok (st : ASt) (x : Int × Int × (List Int)) (h : V5 st = some x) : st = S5 x.1 x.2.1 x.2.2 := by
  unfold V5 at h
  split at h
  · cases h; rfl
  · cases h
noncomputable def L5 : LSpec := fun st K => match V5 st with
  | some x => P.R01_Be_l5 x.1 x.2.1 x.2.2 (fun v0 v6 h0 => K (.exit 0) (S5 v0 v6 h0))
  | none => none
noncomputable def D : Ctx := ({ P := Tryd.prog, G := [], globs := [(0, [.arr .u32 64 P.roots256]), (1, [.arr .u64 80 P.roots512])], hints := [(5, ⟨[0, 5, 6], [], [4], [], none, []⟩)], loops := [(5, L5)], inl := [] } : Ctx)
def E5 (K : AExit → ASt → Option R) : ((Int × Int × (List Int))) → Option R := (fun x => K (.exit 0) (S5 x.1 x.2.1 x.2.2))
theorem round5 (K : AExit → ASt → Option R) (next : ASt → Option R) (x : Int × Int × (List Int)) : roundA D (loopAt Tryd.f22 5) K next (S5 x.1 x.2.1 x.2.2) = (fun (x : Int × Int × (List Int)) (next : (Int × Int × (List Int)) → Option R) (ex : ((Int × Int × (List Int))) → Option R) => P.R01_Be_r5 x.1 x.2.1 x.2.2 (fun v0 v6 h0 => next (v0, v6, h0)) (fun v0 v6 h0 => ex ((v0, v6, h0)))) x (fun x => next (S5 x.1 x.2.1 x.2.2)) (E5 K) := by kernel_rfl
theorem lq5 (st : ASt) (K : AExit → ASt → Option R) : L5 st K = vMap (V5 st) (fun x => lp (fun (x : Int × Int × (List Int)) (next : (Int × Int × (List Int)) → Option R) (ex : ((Int × Int × (List Int))) → Option R) => P.R01_Be_r5 x.1 x.2.1 x.2.2 (fun v0 v6 h0 => next (v0, v6, h0)) (fun v0 v6 h0 => ex ((v0, v6, h0)))) x (E5 K)) := by
  unfold L5
  cases V5 st with
  | none => rfl
  | some x => simp only [P.R01_Be_l5_eq]; rfl
theorem loop5 : LoopOk D (loopAt Tryd.f22 5) := loopOk_lp (X := Int × Int × (List Int)) (Y := (Int × Int × (List Int))) (fun x => S5 x.1 x.2.1 x.2.2) V5_ok (stp := (fun (x : Int × Int × (List Int)) (next : (Int × Int × (List Int)) → Option R) (ex : ((Int × Int × (List Int))) → Option R) => P.R01_Be_r5 x.1 x.2.1 x.2.2 (fun v0 v6 h0 => next (v0, v6, h0)) (fun v0 v6 h0 => ex ((v0, v6, h0))))) (enc := E5) (L := L5) (by kernel_rfl) lq5 round5
theorem body (a0 : Int) (a1 : Int) (K : AVal → Option R) : bodyA D Tryd.f22 [.fr 5 (.ints .u8 [])] [.v (.int .u64 a0), .v (.int .i64 a1)] K = P.R01_Be a0 a1 (fun r0 => K (.fr 5 (.ints .u8 r0))) := by
  rw [P.R01_Be_eq]
  kernel_rfl
theorem loops : loopsOf (Tryd.f22.body.getD .skip) = [loopAt Tryd.f22 5] := by kernel_rfl
noncomputable def spec0 : Abs.Spec := fun args K => match args with
  | [.v (.int .u64 a0), .v (.int .i64 a1)] => P.R01_Be a0 a1 (fun r0 => K (.fr 5 (.ints .u8 r0)))
  | _ => none
noncomputable def spec : Abs.Spec := spec0
theorem ok0 : Proved Tryd.prog [(0, [.arr .u32 64 P.roots256]), (1, [.arr .u64 80 P.roots512])] 22 spec0 := by
  refine proved_of (D := D) (fn := Tryd.f22) (c := Tryd.f22.body.getD .skip) [.fr 5 (.ints .u8 [])] (by kernel_rfl) (globsPlain_of (by kernel_rfl)) (by kernel_rfl) (by kernel_rfl) (by kernel_rfl) trivial trivial ?_ ?_
  · rw [loops]; exact ⟨loop5, trivial⟩
  · intro args K r h
    unfold spec0 at h
    split at h
    · rw [body]; exact h
    · cases h
theorem ok : Proved Tryd.prog [(0, [.arr .u32 64 P.roots256]), (1, [.arr .u64 80 P.roots512])] 22 spec := ok0
end R01_Be
end

section
open Go Go.Abs Go.Proofs
set_option maxRecDepth 100000
set_option linter.unusedVariables false
namespace R01_such
noncomputable def D : Ctx := ({ P := Tryd.prog, G := [], globs := [(0, [.arr .u32 64 P.roots256]), (1, [.arr .u64 80 P.roots512])], hints := [], loops := [], inl := [] } : Ctx)
theorem body (a0 : List Int) (a1 : Int) (a2 : Int) (K : AVal → Option R) : bodyA D Tryd.f136 [.any] [.sl (.ints .u8 a0), .v (.int .i64 a1), .v (.int .i64 a2)] K = P.R01_such a0 a1 a2 (fun r0 => K (.v (.bool r0))) := by
  rw [P.R01_such_eq]
  kernel_rfl
theorem loops : loopsOf (Tryd.f136.body.getD .skip) = [] := by kernel_rfl
noncomputable def spec0 : Abs.Spec := fun args K => match args with
  | [.sl (.ints .u8 a0), .v (.int .i64 a1), .v (.int .i64 a2)] => P.R01_such a0 a1 a2 (fun r0 => K (.v (.bool r0)))
  | _ => none
noncomputable def spec : Abs.Spec := fun args K => spec0 (coerL [.sl (.ints .u8 []), .any, .any] args) K
theorem ok0 : Proved Tryd.prog [(0, [.arr .u32 64 P.roots256]), (1, [.arr .u64 80 P.roots512])] 136 spec0 := by
  refine proved_of (D := D) (fn := Tryd.f136) (c := Tryd.f136.body.getD .skip) [.any] (by kernel_rfl) (globsPlain_of (by kernel_rfl)) (by kernel_rfl) (by kernel_rfl) (by kernel_rfl) trivial trivial ?_ ?_
  · rw [loops]; exact trivial
  · intro args K r h
    unfold spec0 at h
    split at h
    · rw [body]; exact h
    · cases h
theorem ok : Proved Tryd.prog [(0, [.arr .u32 64 P.roots256]), (1, [.arr .u64 80 P.roots512])] 136 spec := proved_coer _ ok0
end R01_such
end

section
open Go Go.Abs Go.Proofs
set_option maxRecDepth 100000
set_option linter.unusedVariables false
namespace R01_Digits
def S5 (v0 : List Int) (v1 : Int) (v2 : Int) (v8 : Int) (h0 : List Int) : ASt := ⟨[(7, .own 0), (0, .sl (.ints .u8 v0)), (1, .v (.int .i64 v1)), (2, .v (.int .i64 v2)), (8, .v (.int .i64 v8))], [(0, some ⟨.row 71 (.ints .u32 h0), false⟩)], 1, 51⟩
def V5 : ASt → Option ((List Int) × Int × Int × Int × (List Int))
  | ⟨[(7, .own 0), (0, .sl (.ints .u8 v0)), (1, .v (.int .i64 v1)), (2, .v (.int .i64 v2)), (8, .v (.int .i64 v8))], [(0, some ⟨.row 71 (.ints .u32 h0), false⟩)], 1, 51⟩ => some (v0, v1, v2, v8, h0)
  | _ => none
theorem V5_ok (st : ASt) (x : (List Int) × Int × Int × Int × (List Int)) (h : V5 st = some x) : st = S5 x.1 x.2.1 x.2.2.1 x.2.2.2.1 x.2.2.2.2 := by
  unfold V5 at h
  split at h
  · cases h; rfl
  · cases h
def S9 (v0 : List Int) (v1 : Int) (v2 : Int) (v8 : Int) (v9 : Int) (v10 : Int) (h0 : List Int) : ASt := ⟨[(0, .sl (.ints .u8 v0)), (1, .v (.int .i64 v1)), (2, .v (.int .i64 v2)), (7, .own 0), (8, .v (.int .i64 v8)), (9, .v (.int .u32 v9)), (10, .v (.int .i64 v10))], [(0, some ⟨.row 71 (.ints .u32 h0), false⟩)], 1, 51⟩
def V9 : ASt → Option ((List Int) × Int × Int × Int × Int × Int × (List Int))
  | ⟨[(0, .sl (.ints .u8 v0)), (1, .v (.int .i64 v1)), (2, .v (.int .i64 v2)), (7, .own 0), (8, .v (.int .i64 v8)), (9, .v (.int .u32 v9)), (10, .v (.int .i64 v10))], [(0, some ⟨.row 71 (.ints .u32 h0), false⟩)], 1, 51⟩ => some (v0, v1, v2, v8, v9, v10, h0)
  | _ => none
theorem V9_ok (st : ASt) (x : (List Int) × Int × Int × Int × Int × Int × (List Int)) (h : V9 st = some x) : st = S9 x.1 x.2.1 x.2.2.1 x.2.2.2.1 x.2.2.2.2.1 x.2.2.2.2.2.1 x.2.2.2.2.2.2 := by
  unfold V9 at h
  split at h
  · cases h; rfl
  · cases h
noncomputable def L9 : LSpec := fun st K => match V9 st with
  | some x => P.R01_Digits_l9 x.1 x.2.1 x.2.2.1 x.2.2.2.1 x.2.2.2.2.1 x.2.2.2.2.2.1 x.2.2.2.2.2.2 (fun v0 v1 v2 v8 v9 v10 h0 => K (.exit 2) (S9 v0 v1 v2 v8 v9 v10 h0))
  | none => none
noncomputable def L5 : LSpec := fun st K => match V5 st with
  | some x => P.R01_Digits_l5 x.1 x.2.1 x.2.2.1 x.2.2.2.1 x.2.2.2.2 (fun v0 v1 v2 v8 h0 => K (.exit 0) (S5 v0 v1 v2 v8 h0))
  | none => none
noncomputable def D : Ctx := ({ P := Tryd.prog, G := [(136, R01_such.spec)], globs := [(0, [.arr .u32 64 P.roots256]), (1, [.arr .u64 80 P.roots512])], hints := [(9, ⟨[0, 1, 2, 7, 8, 9, 10], [], [6], [], none, []⟩), (5, ⟨[0, 1, 2, 8], [(7, 71, .ints .u32 [])], [6], [], none, []⟩)], loops := [(9, L9), (5, L5)], inl := [] } : Ctx)
def E9 (K : AExit → ASt → Option R) : (((List Int) × Int × Int × Int × Int × Int × (List Int))) → Option R := (fun x => K (.exit 2) (S9 x.1 x.2.1 x.2.2.1 x.2.2.2.1 x.2.2.2.2.1 x.2.2.2.2.2.1 x.2.2.2.2.2.2))
theorem round9 (K : AExit → ASt → Option R) (next : ASt → Option R) (x : (List Int) × Int × Int × Int × Int × Int × (List Int)) : roundA D (loopAt Tryd.f124 9) K next (S9 x.1 x.2.1 x.2.2.1 x.2.2.2.1 x.2.2.2.2.1 x.2.2.2.2.2.1 x.2.2.2.2.2.2) = (fun (x : (List Int) × Int × Int × Int × Int × Int × (List Int)) (next : ((List Int) × Int × Int × Int × Int × Int × (List Int)) → Option R) (ex : (((List Int) × Int × Int × Int × Int × Int × (List Int))) → Option R) => P.R01_Digits_r9 x.1 x.2.1 x.2.2.1 x.2.2.2.1 x.2.2.2.2.1 x.2.2.2.2.2.1 x.2.2.2.2.2.2 (fun v0 v1 v2 v8 v9 v10 h0 => next (v0, v1, v2, v8, v9, v10, h0)) (fun v0 v1 v2 v8 v9 v10 h0 => ex ((v0, v1, v2, v8, v9, v10, h0)))) x (fun x => next (S9 x.1 x.2.1 x.2.2.1 x.2.2.2.1 x.2.2.2.2.1 x.2.2.2.2.2.1 x.2.2.2.2.2.2)) (E9 K) := by kernel_rfl
theorem lq9 (st : ASt) (K : AExit → ASt → Option R) : L9 st K = vMap (V9 st) (fun x => lp (fun (x : (List Int) × Int × Int × Int × Int × Int × (List Int)) (next : ((List Int) × Int × Int × Int × Int × Int × (List Int)) → Option R) (ex : (((List Int) × Int × Int × Int × Int × Int × (List Int))) → Option R) => P.R01_Digits_r9 x.1 x.2.1 x.2.2.1 x.2.2.2.1 x.2.2.2.2.1 x.2.2.2.2.2.1 x.2.2.2.2.2.2 (fun v0 v1 v2 v8 v9 v10 h0 => next (v0, v1, v2, v8, v9, v10, h0)) (fun v0 v1 v2 v8 v9 v10 h0 => ex ((v0, v1, v2, v8, v9, v10, h0)))) x (E9 K)) := by
  unfold L9
  cases V9 st with
  | none => rfl
  | some x => simp only [P.R01_Digits_l9_eq]; rfl
theorem loop9 : LoopOk D (loopAt Tryd.f124 9) := loopOk_lp (X := (List Int) × Int × Int × Int × Int × Int × (List Int)) (Y := ((List Int) × Int × Int × Int × Int × Int × (List Int))) (fun x => S9 x.1 x.2.1 x.2.2.1 x.2.2.2.1 x.2.2.2.2.1 x.2.2.2.2.2.1 x.2.2.2.2.2.2) V9_ok (stp := (fun (x : (List Int) × Int × Int × Int × Int × Int × (List Int)) (next : ((List Int) × Int × Int × Int × Int × Int × (List Int)) → Option R) (ex : (((List Int) × Int × Int × Int × Int × Int × (List Int))) → Option R) => P.R01_Digits_r9 x.1 x.2.1 x.2.2.1 x.2.2.2.1 x.2.2.2.2.1 x.2.2.2.2.2.1 x.2.2.2.2.2.2 (fun v0 v1 v2 v8 v9 v10 h0 => next (v0, v1, v2, v8, v9, v10, h0)) (fun v0 v1 v2 v8 v9 v10 h0 => ex ((v0, v1, v2, v8, v9, v10, h0))))) (enc := E9) (L := L9) (by kernel_rfl) lq9 round9
def E5 (K : AExit → ASt → Option R) : (((List Int) × Int × Int × Int × (List Int))) → Option R := (fun x => K (.exit 0) (S5 x.1 x.2.1 x.2.2.1 x.2.2.2.1 x.2.2.2.2))
theorem round5 (K : AExit → ASt → Option R) (next : ASt → Option R) (x : (List Int) × Int × Int × Int × (List Int)) : roundA D (loopAt Tryd.f124 5) K next (S5 x.1 x.2.1 x.2.2.1 x.2.2.2.1 x.2.2.2.2) = (fun (x : (List Int) × Int × Int × Int × (List Int)) (next : ((List Int) × Int × Int × Int × (List Int)) → Option R) (ex : (((List Int) × Int × Int × Int × (List Int))) → Option R) => P.R01_Digits_r5 x.1 x.2.1 x.2.2.1 x.2.2.2.1 x.2.2.2.2 (fun v0 v1 v2 v8 h0 => next (v0, v1, v2, v8, h0)) (fun v0 v1 v2 v8 h0 => ex ((v0, v1, v2, v8, h0)))) x (fun x => next (S5 x.1 x.2.1 x.2.2.1 x.2.2.2.1 x.2.2.2.2)) (E5 K) := by kernel_rfl
theorem lq5 (st : ASt) (K : AExit → ASt → Option R) : L5 st K = vMap (V5 st) (fun x => lp (fun (x : (List Int) × Int × Int × Int × (List Int)) (next : ((List Int) × Int × Int × Int × (List Int)) → Option R) (ex : (((List Int) × Int × Int × Int × (List Int))) → Option R) => P.R01_Digits_r5 x.1 x.2.1 x.2.2.1 x.2.2.2.1 x.2.2.2.2 (fun v0 v1 v2 v8 h0 => next (v0, v1, v2, v8, h0)) (fun v0 v1 v2 v8 h0 => ex ((v0, v1, v2, v8, h0)))) x (E5 K)) := by
  unfold L5
  cases V5 st with
  | none => rfl
  | some x => simp only [P.R01_Digits_l5_eq]; rfl
theorem loop5 : LoopOk D (loopAt Tryd.f124 5) := loopOk_lp (X := (List Int) × Int × Int × Int × (List Int)) (Y := ((List Int) × Int × Int × Int × (List Int))) (fun x => S5 x.1 x.2.1 x.2.2.1 x.2.2.2.1 x.2.2.2.2) V5_ok (stp := (fun (x : (List Int) × Int × Int × Int × (List Int)) (next : ((List Int) × Int × Int × Int × (List Int)) → Option R) (ex : (((List Int) × Int × Int × Int × (List Int))) → Option R) => P.R01_Digits_r5 x.1 x.2.1 x.2.2.1 x.2.2.2.1 x.2.2.2.2 (fun v0 v1 v2 v8 h0 => next (v0, v1, v2, v8, h0)) (fun v0 v1 v2 v8 h0 => ex ((v0, v1, v2, v8, h0))))) (enc := E5) (L := L5) (by kernel_rfl) lq5 round5
theorem body (a0 : List Int) (a1 : Int) (a2 : Int) (K : AVal → Option R) : bodyA D Tryd.f124 [.fr 71 (.ints .u32 [])] [.sl (.ints .u8 a0), .v (.int .i64 a1), .v (.int .i64 a2)] K = P.R01_Digits a0 a1 a2 (fun r0 => K (.fr 71 (.ints .u32 r0))) := by
  rw [P.R01_Digits_eq]
  kernel_rfl
theorem loops : loopsOf (Tryd.f124.body.getD .skip) = [loopAt Tryd.f124 5, loopAt Tryd.f124 9] := by kernel_rfl
noncomputable def spec0 : Abs.Spec := fun args K => match args with
  | [.sl (.ints .u8 a0), .v (.int .i64 a1), .v (.int .i64 a2)] => P.R01_Digits a0 a1 a2 (fun r0 => K (.fr 71 (.ints .u32 r0)))
  | _ => none
noncomputable def spec : Abs.Spec := fun args K => spec0 (coerL [.sl (.ints .u8 []), .any, .any] args) K
theorem ok0 : Proved Tryd.prog [(0, [.arr .u32 64 P.roots256]), (1, [.arr .u64 80 P.roots512])] 124 spec0 := by
  refine proved_of (D := D) (fn := Tryd.f124) (c := Tryd.f124.body.getD .skip) [.fr 71 (.ints .u32 [])] (by kernel_rfl) (globsPlain_of (by kernel_rfl)) (by kernel_rfl) (by kernel_rfl) (by kernel_rfl) ⟨R01_such.ok, trivial⟩ trivial ?_ ?_
  · rw [loops]; exact ⟨loop5, loop9, trivial⟩
  · intro args K r h
    unfold spec0 at h
    split at h
    · rw [body]; exact h
    · cases h
theorem ok : Proved Tryd.prog [(0, [.arr .u32 64 P.roots256]), (1, [.arr .u64 80 P.roots512])] 124 spec := proved_coer _ ok0
end R01_Digits
end

section
open Go Go.Abs Go.Proofs
set_option maxRecDepth 100000
set_option linter.unusedVariables false
namespace R01_Join
def S3 (v0 : List (List Int)) (v4 : Int) (h0 : List Int) : ASt := ⟨[(3, .own 0), (0, .sl (.rows .u8 v0)), (4, .v (.int .i64 v4))], [(0, some ⟨.row 5 (.ints .u8 h0), false⟩)], 1, 18⟩
def V3 : ASt → Option ((List (List Int)) × Int × (List Int))
  | ⟨[(3, .own 0), (0, .sl (.rows .u8 v0)), (4, .v (.int .i64 v4))], [(0, some ⟨.row 5 (.ints .u8 h0), false⟩)], 1, 18⟩ => some (v0, v4, h0)
  | _ => none
theorem V3_ok (st : ASt) (x : (List (List Int)) × Int × (List Int)) (h : V3 st = some x) : st = S3 x.1 x.2.1 x.2.2 := by
  unfold V3 at h
  split at h
  · cases h; rfl
  · cases h
noncomputable def L3 : LSpec := fun st K => match V3 st with
  | some x => P.R01_Join_l3 x.1 x.2.1 x.2.2 (fun v0 v4 h0 => K (.exit 0) (S3 v0 v4 h0))
  | none => none
noncomputable def D : Ctx := ({ P := Tryd.prog, G := [], globs := [(0, [.arr .u32 64 P.roots256]), (1, [.arr .u64 80 P.roots512])], hints := [(3, ⟨[0, 4], [(3, 5, .ints .u8 [])], [2], [], none, []⟩)], loops := [(3, L3)], inl := [] } : Ctx)
def E3 (K : AExit → ASt → Option R) : (((List (List Int)) × Int × (List Int))) → Option R := (fun x => K (.exit 0) (S3 x.1 x.2.1 x.2.2))
theorem round3 (K : AExit → ASt → Option R) (next : ASt → Option R) (x : (List (List Int)) × Int × (List Int)) : roundA D (loopAt Tryd.f65 3) K next (S3 x.1 x.2.1 x.2.2) = (fun (x : (List (List Int)) × Int × (List Int)) (next : ((List (List Int)) × Int × (List Int)) → Option R) (ex : (((List (List Int)) × Int × (List Int))) → Option R) => P.R01_Join_r3 x.1 x.2.1 x.2.2 (fun v0 v4 h0 => next (v0, v4, h0)) (fun v0 v4 h0 => ex ((v0, v4, h0)))) x (fun x => next (S3 x.1 x.2.1 x.2.2)) (E3 K) := by kernel_rfl
theorem lq3 (st : ASt) (K : AExit → ASt → Option R) : L3 st K = vMap (V3 st) (fun x => lp (fun (x : (List (List Int)) × Int × (List Int)) (next : ((List (List Int)) × Int × (List Int)) → Option R) (ex : (((List (List Int)) × Int × (List Int))) → Option R) => P.R01_Join_r3 x.1 x.2.1 x.2.2 (fun v0 v4 h0 => next (v0, v4, h0)) (fun v0 v4 h0 => ex ((v0, v4, h0)))) x (E3 K)) := by
  unfold L3
  cases V3 st with
  | none => rfl
  | some x => simp only [P.R01_Join_l3_eq]; rfl
theorem loop3 : LoopOk D (loopAt Tryd.f65 3) := loopOk_lp (X := (List (List Int)) × Int × (List Int)) (Y := ((List (List Int)) × Int × (List Int))) (fun x => S3 x.1 x.2.1 x.2.2) V3_ok (stp := (fun (x : (List (List Int)) × Int × (List Int)) (next : ((List (List Int)) × Int × (List Int)) → Option R) (ex : (((List (List Int)) × Int × (List Int))) → Option R) => P.R01_Join_r3 x.1 x.2.1 x.2.2 (fun v0 v4 h0 => next (v0, v4, h0)) (fun v0 v4 h0 => ex ((v0, v4, h0))))) (enc := E3) (L := L3) (by kernel_rfl) lq3 round3
theorem body (a0 : List (List Int)) (K : AVal → Option R) : bodyA D Tryd.f65 [.fr 5 (.ints .u8 [])] [.sl (.rows .u8 a0)] K = P.R01_Join a0 (fun r0 => K (.fr 5 (.ints .u8 r0))) := by
  rw [P.R01_Join_eq]
  kernel_rfl
theorem loops : loopsOf (Tryd.f65.body.getD .skip) = [loopAt Tryd.f65 3] := by kernel_rfl
noncomputable def spec0 : Abs.Spec := fun args K => match args with
  | [.sl (.rows .u8 a0)] => P.R01_Join a0 (fun r0 => K (.fr 5 (.ints .u8 r0)))
  | _ => none
noncomputable def spec : Abs.Spec := fun args K => spec0 (coerL [.sl (.rows .u8 [])] args) K
theorem ok0 : Proved Tryd.prog [(0, [.arr .u32 64 P.roots256]), (1, [.arr .u64 80 P.roots512])] 65 spec0 := by
  refine proved_of (D := D) (fn := Tryd.f65) (c := Tryd.f65.body.getD .skip) [.fr 5 (.ints .u8 [])] (by kernel_rfl) (globsPlain_of (by kernel_rfl)) (by kernel_rfl) (by kernel_rfl) (by kernel_rfl) trivial trivial ?_ ?_
  · rw [loops]; exact ⟨loop3, trivial⟩
  · intro args K r h
    unfold spec0 at h
    split at h
    · rw [body]; exact h
    · cases h
theorem ok : Proved Tryd.prog [(0, [.arr .u32 64 P.roots256]), (1, [.arr .u64 80 P.roots512])] 65 spec := proved_coer _ ok0
end R01_Join
end

section
open Go Go.Abs Go.Proofs
set_option maxRecDepth 100000
set_option linter.unusedVariables false
namespace R14_Kind
noncomputable def D : Ctx := ({ P := Tryd.prog, G := [], globs := [(0, [.arr .u32 64 P.roots256]), (1, [.arr .u64 80 P.roots512])], hints := [], loops := [], inl := [] } : Ctx)
theorem body (a0 : Int) (K : AVal → Option R) : bodyA D Tryd.f88 [.any, .any, .any] [.v (.int .i64 a0)] K = P.R14_Kind a0 (fun r0 r1 r2 => K (.tuple [.v (.int .i64 r0), .v (.int .i64 r1), .v (.int .u64 r2)])) := by
  rw [P.R14_Kind_eq]
  kernel_rfl
theorem loops : loopsOf (Tryd.f88.body.getD .skip) = [] := by kernel_rfl
noncomputable def spec0 : Abs.Spec := fun args K => match args with
  | [.v (.int .i64 a0)] => P.R14_Kind a0 (fun r0 r1 r2 => K (.tuple [.v (.int .i64 r0), .v (.int .i64 r1), .v (.int .u64 r2)]))
  | _ => none
noncomputable def spec : Abs.Spec := spec0
theorem ok0 : Proved Tryd.prog [(0, [.arr .u32 64 P.roots256]), (1, [.arr .u64 80 P.roots512])] 88 spec0 := by
  refine proved_of (D := D) (fn := Tryd.f88) (c := Tryd.f88.body.getD .skip) [.any, .any, .any] (by kernel_rfl) (globsPlain_of (by kernel_rfl)) (by kernel_rfl) (by kernel_rfl) (by kernel_rfl) trivial trivial ?_ ?_
  · rw [loops]; exact trivial
  · intro args K r h
    unfold spec0 at h
    split at h
    · rw [body]; exact h
    · cases h
theorem ok : Proved Tryd.prog [(0, [.arr .u32 64 P.roots256]), (1, [.arr .u64 80 P.roots512])] 88 spec := ok0
end R14_Kind
end

section
open Go Go.Abs Go.Proofs
set_option maxRecDepth 100000
set_option linter.unusedVariables false
namespace R14_Digits
def S9 (v0 : Int) (v1 : List Int) (v6 : Int) (v7 : Int) (v10 : Int) (v11 : Int) (h0 : List Int) : ASt := ⟨[(0, .v (.int .i64 v0)), (1, .sl (.ints .u8 v1)), (6, .v (.int .i64 v6)), (7, .v (.int .i64 v7)), (9, .own 0), (10, .v (.int .u64 v10)), (11, .v (.int .i64 v11))], [(0, some ⟨.row 71 (.ints .u32 h0), false⟩)], 1, 55⟩
def V9 : ASt → Option (Int × (List Int) × Int × Int × Int × Int × (List Int))
  | ⟨[(0, .v (.int .i64 v0)), (1, .sl (.ints .u8 v1)), (6, .v (.int .i64 v6)), (7, .v (.int .i64 v7)), (9, .own 0), (10, .v (.int .u64 v10)), (11, .v (.int .i64 v11))], [(0, some ⟨.row 71 (.ints .u32 h0), false⟩)], 1, 55⟩ => some (v0, v1, v6, v7, v10, v11, h0)
  | _ => none
theorem V9_ok (st : ASt) (x : Int × (List Int) × Int × Int × Int × Int × (List Int)) (h : V9 st = some x) : st = S9 x.1 x.2.1 x.2.2.1 x.2.2.2.1 x.2.2.2.2.1 x.2.2.2.2.2.1 x.2.2.2.2.2.2 := by
  unfold V9 at h
  split at h
  · cases h; rfl
  · cases h
noncomputable def L9 : LSpec := fun st K => match V9 st with
  | some x => P.R14_Digits_l9 x.1 x.2.1 x.2.2.1 x.2.2.2.1 x.2.2.2.2.1 x.2.2.2.2.2.1 x.2.2.2.2.2.2 (fun v0 v1 v6 v7 v10 v11 h0 => K (.exit 0) (S9 v0 v1 v6 v7 v10 v11 h0))
  | none => none
noncomputable def D : Ctx := ({ P := Tryd.prog, G := [(22, R01_Be.spec), (65, R01_Join.spec), (88, R14_Kind.spec), (124, R01_Digits.spec)], globs := [(0, [.arr .u32 64 P.roots256]), (1, [.arr .u64 80 P.roots512])], hints := [(9, ⟨[0, 1, 6, 7, 9, 10, 11], [], [4, 5], [], none, []⟩)], loops := [(9, L9)], inl := [] } : Ctx)
def E9 (K : AExit → ASt → Option R) : ((Int × (List Int) × Int × Int × Int × Int × (List Int))) → Option R := (fun x => K (.exit 0) (S9 x.1 x.2.1 x.2.2.1 x.2.2.2.1 x.2.2.2.2.1 x.2.2.2.2.2.1 x.2.2.2.2.2.2))
theorem round9 (K : AExit → ASt → Option R) (next : ASt → Option R) (x : Int × (List Int) × Int × Int × Int × Int × (List Int)) : roundA D (loopAt Tryd.f93 9) K next (S9 x.1 x.2.1 x.2.2.1 x.2.2.2.1 x.2.2.2.2.1 x.2.2.2.2.2.1 x.2.2.2.2.2.2) = (fun (x : Int × (List Int) × Int × Int × Int × Int × (List Int)) (next : (Int × (List Int) × Int × Int × Int × Int × (List Int)) → Option R) (ex : ((Int × (List Int) × Int × Int × Int × Int × (List Int))) → Option R) => P.R14_Digits_r9 x.1 x.2.1 x.2.2.1 x.2.2.2.1 x.2.2.2.2.1 x.2.2.2.2.2.1 x.2.2.2.2.2.2 (fun v0 v1 v6 v7 v10 v11 h0 => next (v0, v1, v6, v7, v10, v11, h0)) (fun v0 v1 v6 v7 v10 v11 h0 => ex ((v0, v1, v6, v7, v10, v11, h0)))) x (fun x => next (S9 x.1 x.2.1 x.2.2.1 x.2.2.2.1 x.2.2.2.2.1 x.2.2.2.2.2.1 x.2.2.2.2.2.2)) (E9 K) := by kernel_rfl
theorem lq9 (st : ASt) (K : AExit → ASt → Option R) : L9 st K = vMap (V9 st) (fun x => lp (fun (x : Int × (List Int) × Int × Int × Int × Int × (List Int)) (next : (Int × (List Int) × Int × Int × Int × Int × (List Int)) → Option R) (ex : ((Int × (List Int) × Int × Int × Int × Int × (List Int))) → Option R) => P.R14_Digits_r9 x.1 x.2.1 x.2.2.1 x.2.2.2.1 x.2.2.2.2.1 x.2.2.2.2.2.1 x.2.2.2.2.2.2 (fun v0 v1 v6 v7 v10 v11 h0 => next (v0, v1, v6, v7, v10, v11, h0)) (fun v0 v1 v6 v7 v10 v11 h0 => ex ((v0, v1, v6, v7, v10, v11, h0)))) x (E9 K)) := by
  unfold L9
  cases V9 st with
  | none => rfl
  | some x => simp only [P.R14_Digits_l9_eq]; rfl
theorem loop9 : LoopOk D (loopAt Tryd.f93 9) := loopOk_lp (X := Int × (List Int) × Int × Int × Int × Int × (List Int)) (Y := (Int × (List Int) × Int × Int × Int × Int × (List Int))) (fun x => S9 x.1 x.2.1 x.2.2.1 x.2.2.2.1 x.2.2.2.2.1 x.2.2.2.2.2.1 x.2.2.2.2.2.2) V9_ok (stp := (fun (x : Int × (List Int) × Int × Int × Int × Int × (List Int)) (next : (Int × (List Int) × Int × Int × Int × Int × (List Int)) → Option R) (ex : ((Int × (List Int) × Int × Int × Int × Int × (List Int))) → Option R) => P.R14_Digits_r9 x.1 x.2.1 x.2.2.1 x.2.2.2.1 x.2.2.2.2.1 x.2.2.2.2.2.1 x.2.2.2.2.2.2 (fun v0 v1 v6 v7 v10 v11 h0 => next (v0, v1, v6, v7, v10, v11, h0)) (fun v0 v1 v6 v7 v10 v11 h0 => ex ((v0, v1, v6, v7, v10, v11, h0))))) (enc := E9) (L := L9) (by kernel_rfl) lq9 round9
theorem body (a0 : Int) (a1 : List Int) (K : AVal → Option R) : bodyA D Tryd.f93 [.fr 71 (.ints .u32 []), .any] [.v (.int .i64 a0), .sl (.ints .u8 a1)] K = P.R14_Digits a0 a1 (fun r0 r1 => K (.tuple [.fr 71 (.ints .u32 r0), .v (.int .i64 r1)])) := by
  rw [P.R14_Digits_eq]
  kernel_rfl
theorem loops : loopsOf (Tryd.f93.body.getD .skip) = [loopAt Tryd.f93 9] := by kernel_rfl
noncomputable def spec0 : Abs.Spec := fun args K => match args with
  | [.v (.int .i64 a0), .sl (.ints .u8 a1)] => P.R14_Digits a0 a1 (fun r0 r1 => K (.tuple [.fr 71 (.ints .u32 r0), .v (.int .i64 r1)]))
  | _ => none
noncomputable def spec : Abs.Spec := fun args K => spec0 (coerL [.any, .sl (.ints .u8 [])] args) K
theorem ok0 : Proved Tryd.prog [(0, [.arr .u32 64 P.roots256]), (1, [.arr .u64 80 P.roots512])] 93 spec0 := by
  refine proved_of (D := D) (fn := Tryd.f93) (c := Tryd.f93.body.getD .skip) [.fr 71 (.ints .u32 []), .any] (by kernel_rfl) (globsPlain_of (by kernel_rfl)) (by kernel_rfl) (by kernel_rfl) (by kernel_rfl) ⟨R01_Be.ok, R01_Join.ok, R14_Kind.ok, R01_Digits.ok, trivial⟩ trivial ?_ ?_
  · rw [loops]; exact ⟨loop9, trivial⟩
  · intro args K r h
    unfold spec0 at h
    split at h
    · rw [body]; exact h
    · cases h
theorem ok : Proved Tryd.prog [(0, [.arr .u32 64 P.roots256]), (1, [.arr .u64 80 P.roots512])] 93 spec := proved_coer _ ok0
end R14_Digits
end

section
open Go Go.Abs Go.Proofs
set_option maxRecDepth 100000
set_option linter.unusedVariables false
namespace R14_Size
noncomputable def D : Ctx := ({ P := Tryd.prog, G := [(88, R14_Kind.spec)], globs := [(0, [.arr .u32 64 P.roots256]), (1, [.arr .u64 80 P.roots512])], hints := [], loops := [], inl := [] } : Ctx)
theorem body (a0 : Int) (K : AVal → Option R) : bodyA D Tryd.f96 [.any] [.v (.int .i64 a0)] K = P.R14_Size a0 (fun r0 => K (.v (.int .i64 r0))) := by
  rw [P.R14_Size_eq]
  kernel_rfl
theorem loops : loopsOf (Tryd.f96.body.getD .skip) = [] := by kernel_rfl
noncomputable def spec0 : Abs.Spec := fun args K => match args with
  | [.v (.int .i64 a0)] => P.R14_Size a0 (fun r0 => K (.v (.int .i64 r0)))
  | _ => none
noncomputable def spec : Abs.Spec := spec0
theorem ok0 : Proved Tryd.prog [(0, [.arr .u32 64 P.roots256]), (1, [.arr .u64 80 P.roots512])] 96 spec0 := by
  refine proved_of (D := D) (fn := Tryd.f96) (c := Tryd.f96.body.getD .skip) [.any] (by kernel_rfl) (globsPlain_of (by kernel_rfl)) (by kernel_rfl) (by kernel_rfl) (by kernel_rfl) ⟨R14_Kind.ok, trivial⟩ trivial ?_ ?_
  · rw [loops]; exact trivial
  · intro args K r h
    unfold spec0 at h
    split at h
    · rw [body]; exact h
    · cases h
theorem ok : Proved Tryd.prog [(0, [.arr .u32 64 P.roots256]), (1, [.arr .u64 80 P.roots512])] 96 spec := ok0
end R14_Size
end

section
open Go Go.Abs Go.Proofs
set_option maxRecDepth 100000
set_option linter.unusedVariables false
namespace R07_Block
noncomputable def D : Ctx := ({ P := Tryd.prog, G := [], globs := [(0, [.arr .u32 64 P.roots256]), (1, [.arr .u64 80 P.roots512])], hints := [], loops := [], inl := [] } : Ctx)
theorem body (a0 : Int) (K : AVal → Option R) : bodyA D Tryd.f58 [.any] [.v (.int .i64 a0)] K = P.R07_Block a0 (fun r0 => K (.v (.int .i64 r0))) := by
  rw [P.R07_Block_eq]
  kernel_rfl
theorem loops : loopsOf (Tryd.f58.body.getD .skip) = [] := by kernel_rfl
noncomputable def spec0 : Abs.Spec := fun args K => match args with
  | [.v (.int .i64 a0)] => P.R07_Block a0 (fun r0 => K (.v (.int .i64 r0)))
  | _ => none
noncomputable def spec : Abs.Spec := spec0
theorem ok0 : Proved Tryd.prog [(0, [.arr .u32 64 P.roots256]), (1, [.arr .u64 80 P.roots512])] 58 spec0 := by
  refine proved_of (D := D) (fn := Tryd.f58) (c := Tryd.f58.body.getD .skip) [.any] (by kernel_rfl) (globsPlain_of (by kernel_rfl)) (by kernel_rfl) (by kernel_rfl) (by kernel_rfl) trivial trivial ?_ ?_
  · rw [loops]; exact trivial
  · intro args K r h
    unfold spec0 at h
    split at h
    · rw [body]; exact h
    · cases h
theorem ok : Proved Tryd.prog [(0, [.arr .u32 64 P.roots256]), (1, [.arr .u64 80 P.roots512])] 58 spec := ok0
end R07_Block
end

section
open Go Go.Abs Go.Proofs
set_option maxRecDepth 100000
set_option linter.unusedVariables false
namespace R07_right
noncomputable def D : Ctx := ({ P := Tryd.prog, G := [], globs := [(0, [.arr .u32 64 P.roots256]), (1, [.arr .u64 80 P.roots512])], hints := [], loops := [], inl := [] } : Ctx)
theorem body (a0 : Int) (a1 : Int) (a2 : Bool) (K : AVal → Option R) : bodyA D Tryd.f134 [.any] [.v (.int .u64 a0), .v (.int .i64 a1), .v (.bool a2)] K = P.R07_right a0 a1 a2 (fun r0 => K (.v (.int .u64 r0))) := by
  rw [P.R07_right_eq]
  kernel_rfl
theorem loops : loopsOf (Tryd.f134.body.getD .skip) = [] := by kernel_rfl
noncomputable def spec0 : Abs.Spec := fun args K => match args with
  | [.v (.int .u64 a0), .v (.int .i64 a1), .v (.bool a2)] => P.R07_right a0 a1 a2 (fun r0 => K (.v (.int .u64 r0)))
  | _ => none
noncomputable def spec : Abs.Spec := spec0
theorem ok0 : Proved Tryd.prog [(0, [.arr .u32 64 P.roots256]), (1, [.arr .u64 80 P.roots512])] 134 spec0 := by
  refine proved_of (D := D) (fn := Tryd.f134) (c := Tryd.f134.body.getD .skip) [.any] (by kernel_rfl) (globsPlain_of (by kernel_rfl)) (by kernel_rfl) (by kernel_rfl) (by kernel_rfl) trivial trivial ?_ ?_
  · rw [loops]; exact trivial
  · intro args K r h
    unfold spec0 at h
    split at h
    · rw [body]; exact h
    · cases h
theorem ok : Proved Tryd.prog [(0, [.arr .u32 64 P.roots256]), (1, [.arr .u64 80 P.roots512])] 134 spec := ok0
end R07_right
end

section
open Go Go.Abs Go.Proofs
set_option maxRecDepth 100000
set_option linter.unusedVariables false
namespace R07_mix
noncomputable def D : Ctx := ({ P := Tryd.prog, G := [(134, R07_right.spec)], globs := [(0, [.arr .u32 64 P.roots256]), (1, [.arr .u64 80 P.roots512])], hints := [], loops := [], inl := [] } : Ctx)
theorem body (a0 : Int) (a1 : Int) (a2 : Int) (a3 : Int) (a4 : Bool) (a5 : Bool) (K : AVal → Option R) : bodyA D Tryd.f117 [.any] [.v (.int .u64 a0), .v (.int .i64 a1), .v (.int .i64 a2), .v (.int .i64 a3), .v (.bool a4), .v (.bool a5)] K = P.R07_mix a0 a1 a2 a3 a4 a5 (fun r0 => K (.v (.int .u64 r0))) := by
  rw [P.R07_mix_eq]
  kernel_rfl
theorem loops : loopsOf (Tryd.f117.body.getD .skip) = [] := by kernel_rfl
noncomputable def spec0 : Abs.Spec := fun args K => match args with
  | [.v (.int .u64 a0), .v (.int .i64 a1), .v (.int .i64 a2), .v (.int .i64 a3), .v (.bool a4), .v (.bool a5)] => P.R07_mix a0 a1 a2 a3 a4 a5 (fun r0 => K (.v (.int .u64 r0)))
  | _ => none
noncomputable def spec : Abs.Spec := spec0
theorem ok0 : Proved Tryd.prog [(0, [.arr .u32 64 P.roots256]), (1, [.arr .u64 80 P.roots512])] 117 spec0 := by
  refine proved_of (D := D) (fn := Tryd.f117) (c := Tryd.f117.body.getD .skip) [.any] (by kernel_rfl) (globsPlain_of (by kernel_rfl)) (by kernel_rfl) (by kernel_rfl) (by kernel_rfl) ⟨R07_right.ok, trivial⟩ trivial ?_ ?_
  · rw [loops]; exact trivial
  · intro args K r h
    unfold spec0 at h
    split at h
    · rw [body]; exact h
    · cases h
theorem ok : Proved Tryd.prog [(0, [.arr .u32 64 P.roots256]), (1, [.arr .u64 80 P.roots512])] 117 spec := ok0
end R07_mix
end

section
open Go Go.Abs Go.Proofs
set_option maxRecDepth 100000
set_option linter.unusedVariables false
namespace R07_roots256
noncomputable def D : Ctx := ({ P := Tryd.prog, G := [], globs := [(0, [.arr .u32 64 P.roots256]), (1, [.arr .u64 80 P.roots512])], hints := [], loops := [], inl := [] } : Ctx)
theorem body  (K : AVal → Option R) : bodyA D Tryd.f114 [.any] [] K = P.R07_roots256 (fun r0 => K (.arr .u64 64 r0)) := by
  rw [P.R07_roots256_eq]
  kernel_rfl
theorem loops : loopsOf (Tryd.f114.body.getD .skip) = [] := by kernel_rfl
noncomputable def spec0 : Abs.Spec := fun args K => match args with
  | [] => P.R07_roots256 (fun r0 => K (.arr .u64 64 r0))
  | _ => none
noncomputable def spec : Abs.Spec := spec0
theorem ok0 : Proved Tryd.prog [(0, [.arr .u32 64 P.roots256]), (1, [.arr .u64 80 P.roots512])] 114 spec0 := by
  refine proved_of (D := D) (fn := Tryd.f114) (c := Tryd.f114.body.getD .skip) [.any] (by kernel_rfl) (globsPlain_of (by kernel_rfl)) (by kernel_rfl) (by kernel_rfl) (by kernel_rfl) trivial trivial ?_ ?_
  · rw [loops]; exact trivial
  · intro args K r h
    unfold spec0 at h
    split at h
    · rw [body]; exact h
    · cases h
theorem ok : Proved Tryd.prog [(0, [.arr .u32 64 P.roots256]), (1, [.arr .u64 80 P.roots512])] 114 spec := ok0
end R07_roots256
end

section
open Go Go.Abs Go.Proofs
set_option maxRecDepth 100000
set_option linter.unusedVariables false
namespace R07_roots512
noncomputable def D : Ctx := ({ P := Tryd.prog, G := [], globs := [(0, [.arr .u32 64 P.roots256]), (1, [.arr .u64 80 P.roots512])], hints := [], loops := [], inl := [] } : Ctx)
theorem body  (K : AVal → Option R) : bodyA D Tryd.f115 [.any] [] K = P.R07_roots512 (fun r0 => K (.arr .u64 80 r0)) := by
  rw [P.R07_roots512_eq]
  kernel_rfl
theorem loops : loopsOf (Tryd.f115.body.getD .skip) = [] := by kernel_rfl
noncomputable def spec0 : Abs.Spec := fun args K => match args with
  | [] => P.R07_roots512 (fun r0 => K (.arr .u64 80 r0))
  | _ => none
noncomputable def spec : Abs.Spec := spec0
theorem ok0 : Proved Tryd.prog [(0, [.arr .u32 64 P.roots256]), (1, [.arr .u64 80 P.roots512])] 115 spec0 := by
  refine proved_of (D := D) (fn := Tryd.f115) (c := Tryd.f115.body.getD .skip) [.any] (by kernel_rfl) (globsPlain_of (by kernel_rfl)) (by kernel_rfl) (by kernel_rfl) (by kernel_rfl) trivial trivial ?_ ?_
  · rw [loops]; exact trivial
  · intro args K r h
    unfold spec0 at h
    split at h
    · rw [body]; exact h
    · cases h
theorem ok : Proved Tryd.prog [(0, [.arr .u32 64 P.roots256]), (1, [.arr .u64 80 P.roots512])] 115 spec := ok0
end R07_roots512
end
