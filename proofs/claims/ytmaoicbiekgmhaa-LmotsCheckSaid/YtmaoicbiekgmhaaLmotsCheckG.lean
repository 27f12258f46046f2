/-
  LmotsCheck, part G: an interpreter of my own over abstract values, the pure functions, the walks and the plain law.
-/

import Derived.Test.YtmaoicbiekgmhaaLmotsCheckF
import Derived.Test.YtmaoicbiekgmhaaProg
import Derived.KernelRfl

section
open Go Go.Abs
set_option linter.unusedVariables false
namespace P
noncomputable def bits_Le_r5 {ρ : Type} (v0 : Int) (v16 : Int) (v17 : Int) (h0 : List Int) (nx : Int → Int → Int → (List Int) → Option ρ) (k0 : Int → Int → Int → (List Int) → Option ρ) : Option ρ :=
  br (decide (v17 < v16))
    (br (decide (IntKind.i64.wrap ((8 : Int) * v17) < (0 : Int))) none
      (br (decide ((0 : Int) ≤ v17))
        (br (decide (v17 < (↑h0.length : Int)))
          (nx v0 v16 (IntKind.i64.wrap (v17 + (1 : Int)))
            (h0.set v17.toNat
              (IntKind.u8.wrap (v0.fdiv ((2 : Int) ^ min (IntKind.i64.wrap ((8 : Int) * v17)).toNat 64)))))
          none)
        none))
    (k0 v0 v16 v17 h0)
noncomputable def bits_Le_L5 {ρ : Type} (v0 : Int) (v16 : Int) (v17 : Int) (h0 : List Int) (k0 : Int → Int → Int → (List Int) → Option ρ) : Option ρ :=
  lp (fun (x : Int × Int × Int × (List Int)) (next : (Int × Int × Int × (List Int)) → Option ρ) (ex : ((Int × Int × Int × (List Int))) → Option ρ) => bits_Le_r5 x.1 x.2.1 x.2.2.1 x.2.2.2 (fun v0 v16 v17 h0 => next (v0, v16, v17, h0)) (fun v0 v16 v17 h0 => ex ((v0, v16, v17, h0)))) (v0, v16, v17, h0) (fun x => k0 x.1 x.2.1 x.2.2.1 x.2.2.2)
noncomputable def bits_Le_l5 {ρ : Type} (v0 : Int) (v16 : Int) (v17 : Int) (h0 : List Int) (k0 : Int → Int → Int → (List Int) → Option ρ) : Option ρ := shut (bits_Le_L5 (ρ := ρ)) v0 v16 v17 h0 k0
theorem bits_Le_l5_eq {ρ : Type} (v0 : Int) (v16 : Int) (v17 : Int) (h0 : List Int) (k0 : Int → Int → Int → (List Int) → Option ρ) : bits_Le_l5 v0 v16 v17 h0 k0 = bits_Le_L5 v0 v16 v17 h0 k0 := by unfold bits_Le_l5; rw [shut_eq]
noncomputable def bits_Le_raw {ρ : Type} (a0 : Int) (a1 : Int) (k : (List Int) → Option ρ) : Option ρ :=
  br (decide (a1 < (0 : Int))) (k [])
    (br (decide (a1 > (65536 : Int))) (k [])
      (br (decide ((0 : Int) ≤ a1))
        (br (decide (a1 ≤ a1))
          (br (decide (a1 * (↑1 : Int) ≤ (↑140737488355328 : Int)))
            (bits_Le_l5 a0 (bif decide ((8 : Int) < a1) then (8 : Int) else a1) (0 : Int)
              (List.replicate a1.toNat (0 : Int)) fun (q0 q1 q2 : Int) (q3 : List Int) => k q3)
            none)
          none)
        none))
noncomputable def bits_Le {ρ : Type} (a0 : Int) (a1 : Int) (k : (List Int) → Option ρ) : Option ρ := shut (bits_Le_raw (ρ := ρ)) a0 a1 k
theorem bits_Le_eq {ρ : Type} (a0 : Int) (a1 : Int) (k : (List Int) → Option ρ) : bits_Le a0 a1 k = bits_Le_raw a0 a1 k := by unfold bits_Le; rw [shut_eq]

end P
end

section
open Go Go.Abs
set_option linter.unusedVariables false
namespace P
noncomputable def bits_Be_r1_1 {ρ : Type} (v2 : Int) (v3 : Int) (h0 : List Int) (nx : Int → Int → (List Int) → Option ρ) (k0 : Int → Int → (List Int) → Option ρ) : Option ρ :=
  br (decide (v2 < v3))
    (br (decide ((0 : Int) ≤ v3))
      (br (decide (v3 < (↑h0.length : Int)))
        (br (decide ((0 : Int) ≤ v2))
          (br (decide (v2 < (↑h0.length : Int)))
            (br (decide ((0 : Int) ≤ v2))
              (br (decide (v2 < (↑h0.length : Int)))
                (br (decide ((0 : Int) ≤ v3))
                  (br (decide (v3 < (↑(h0.set v2.toNat (h0.getD v3.toNat (0 : Int))).length : Int)))
                    (nx (IntKind.i64.wrap (v2 + (1 : Int))) (IntKind.i64.wrap (v3 - (1 : Int)))
                      ((h0.set v2.toNat (h0.getD v3.toNat (0 : Int))).set v3.toNat (h0.getD v2.toNat (0 : Int))))
                    none)
                  none)
                none)
              none)
            none)
          none)
        none)
      none)
    (k0 v2 v3 h0)
noncomputable def bits_Be_L1_1 {ρ : Type} (v2 : Int) (v3 : Int) (h0 : List Int) (k0 : Int → Int → (List Int) → Option ρ) : Option ρ :=
  lp (fun (x : Int × Int × (List Int)) (next : (Int × Int × (List Int)) → Option ρ) (ex : ((Int × Int × (List Int))) → Option ρ) => bits_Be_r1_1 x.1 x.2.1 x.2.2 (fun v2 v3 h0 => next (v2, v3, h0)) (fun v2 v3 h0 => ex ((v2, v3, h0)))) (v2, v3, h0) (fun x => k0 x.1 x.2.1 x.2.2)
noncomputable def bits_Be_l1_1 {ρ : Type} (v2 : Int) (v3 : Int) (h0 : List Int) (k0 : Int → Int → (List Int) → Option ρ) : Option ρ := shut (bits_Be_L1_1 (ρ := ρ)) v2 v3 h0 k0
theorem bits_Be_l1_1_eq {ρ : Type} (v2 : Int) (v3 : Int) (h0 : List Int) (k0 : Int → Int → (List Int) → Option ρ) : bits_Be_l1_1 v2 v3 h0 k0 = bits_Be_L1_1 v2 v3 h0 k0 := by unfold bits_Be_l1_1; rw [shut_eq]
noncomputable def bits_Be_raw {ρ : Type} (a0 : Int) (a1 : Int) (k : (List Int) → Option ρ) : Option ρ :=
  bits_Le a0 a1 fun (q0 : List Int) =>
    bits_Be_l1_1 (0 : Int) (IntKind.i64.wrap ((↑q0.length : Int) - (1 : Int))) q0 fun (q1 q2 : Int) (q3 : List Int) =>
      k q3
noncomputable def bits_Be {ρ : Type} (a0 : Int) (a1 : Int) (k : (List Int) → Option ρ) : Option ρ := shut (bits_Be_raw (ρ := ρ)) a0 a1 k
theorem bits_Be_eq {ρ : Type} (a0 : Int) (a1 : Int) (k : (List Int) → Option ρ) : bits_Be a0 a1 k = bits_Be_raw a0 a1 k := by unfold bits_Be; rw [shut_eq]

end P
end

section
open Go Go.Abs
set_option linter.unusedVariables false
namespace P
noncomputable def bits_such_raw {ρ : Type} (a0 : List Int) (a1 : Int) (a2 : Int) (k : Bool → Option ρ) : Option ρ :=
  br (decide (a1 ≥ (1 : Int)))
    (br (decide (a1 ≤ (24 : Int)))
      (br (decide (a2 ≥ (0 : Int)))
        (br (decide (a1 = (0 : Int))) none
          (k (decide (a2 ≤ IntKind.i64.wrap ((IntKind.i64.wrap ((↑a0.length : Int) * (8 : Int))).tdiv a1)))))
        (k false))
      (k false))
    (k false)
noncomputable def bits_such {ρ : Type} (a0 : List Int) (a1 : Int) (a2 : Int) (k : Bool → Option ρ) : Option ρ := shut (bits_such_raw (ρ := ρ)) a0 a1 a2 k
theorem bits_such_eq {ρ : Type} (a0 : List Int) (a1 : Int) (a2 : Int) (k : Bool → Option ρ) : bits_such a0 a1 a2 k = bits_such_raw a0 a1 a2 k := by unfold bits_such; rw [shut_eq]

end P
end

section
open Go Go.Abs
set_option linter.unusedVariables false
namespace P
noncomputable def bits_Digits_r8 {ρ : Type} (v0 : List Int) (v1 : Int) (v8 : Int) (v9 : Int) (v10 : Int) (v19 : Int) (v20 : Int) (h0 : List Int) (nx : (List Int) → Int → Int → Int → Int → Int → Int → (List Int) → Option ρ) (k0 : (List Int) → Int → Int → Int → Int → Int → Int → (List Int) → Option ρ) : Option ρ :=
  br (decide (v9 < v1))
    (br (decide ((0 : Int) < (↑v0.length : Int)))
      (br (decide ((1 : Int) ≤ (↑v0.length : Int)))
        (br (decide ((↑v0.length : Int) ≤ (↑v0.length : Int)))
          (nx (List.drop 1 (List.take (↑v0.length : Int).toNat v0)) v1
            (bits BinOp.or IntKind.u64 (IntKind.u64.wrap (v8 * (2 : Int) ^ 8))
              (IntKind.u64.wrap (v0.getD 0 (0 : Int))))
            (IntKind.i64.wrap (v9 + (8 : Int))) v10 v19 v20 h0)
          none)
        none)
      none)
    (k0 v0 v1 v8 v9 v10 v19 v20 h0)
noncomputable def bits_Digits_L8 {ρ : Type} (v0 : List Int) (v1 : Int) (v8 : Int) (v9 : Int) (v10 : Int) (v19 : Int) (v20 : Int) (h0 : List Int) (k0 : (List Int) → Int → Int → Int → Int → Int → Int → (List Int) → Option ρ) : Option ρ :=
  lp (fun (x : (List Int) × Int × Int × Int × Int × Int × Int × (List Int)) (next : ((List Int) × Int × Int × Int × Int × Int × Int × (List Int)) → Option ρ) (ex : (((List Int) × Int × Int × Int × Int × Int × Int × (List Int))) → Option ρ) => bits_Digits_r8 x.1 x.2.1 x.2.2.1 x.2.2.2.1 x.2.2.2.2.1 x.2.2.2.2.2.1 x.2.2.2.2.2.2.1 x.2.2.2.2.2.2.2 (fun v0 v1 v8 v9 v10 v19 v20 h0 => next (v0, v1, v8, v9, v10, v19, v20, h0)) (fun v0 v1 v8 v9 v10 v19 v20 h0 => ex ((v0, v1, v8, v9, v10, v19, v20, h0)))) (v0, v1, v8, v9, v10, v19, v20, h0) (fun x => k0 x.1 x.2.1 x.2.2.1 x.2.2.2.1 x.2.2.2.2.1 x.2.2.2.2.2.1 x.2.2.2.2.2.2.1 x.2.2.2.2.2.2.2)
noncomputable def bits_Digits_l8 {ρ : Type} (v0 : List Int) (v1 : Int) (v8 : Int) (v9 : Int) (v10 : Int) (v19 : Int) (v20 : Int) (h0 : List Int) (k0 : (List Int) → Int → Int → Int → Int → Int → Int → (List Int) → Option ρ) : Option ρ := shut (bits_Digits_L8 (ρ := ρ)) v0 v1 v8 v9 v10 v19 v20 h0 k0
theorem bits_Digits_l8_eq {ρ : Type} (v0 : List Int) (v1 : Int) (v8 : Int) (v9 : Int) (v10 : Int) (v19 : Int) (v20 : Int) (h0 : List Int) (k0 : (List Int) → Int → Int → Int → Int → Int → Int → (List Int) → Option ρ) : bits_Digits_l8 v0 v1 v8 v9 v10 v19 v20 h0 k0 = bits_Digits_L8 v0 v1 v8 v9 v10 v19 v20 h0 k0 := by unfold bits_Digits_l8; rw [shut_eq]
noncomputable def bits_Digits_r6 {ρ : Type} (v0 : List Int) (v1 : Int) (v8 : Int) (v9 : Int) (v19 : Int) (v20 : Int) (h0 : List Int) (nx : (List Int) → Int → Int → Int → Int → Int → (List Int) → Option ρ) (k0 : (List Int) → Int → Int → Int → Int → Int → (List Int) → Option ρ) : Option ρ :=
  br (decide (v20 < v19))
    (bits_Digits_l8 v0 v1 v8 v9 v20 v19 v20 h0 fun (q0 : List Int) (q1 q2 q3 q4 q5 q6 : Int) (q7 : List Int) =>
      br (decide (IntKind.i64.wrap (q3 - q1) < (0 : Int))) none
        (br (decide (q1 < (0 : Int))) none
          (br (decide ((0 : Int) ≤ q4))
            (br (decide (q4 < (↑q7.length : Int)))
              (nx q0 q1 q2 (IntKind.i64.wrap (q3 - q1)) q5 (IntKind.i64.wrap (q6 + (1 : Int)))
                (q7.set q4.toNat
                  (IntKind.u32.wrap
                    (bits BinOp.and IntKind.u64
                      (q2.fdiv ((2 : Int) ^ min (IntKind.i64.wrap (q3 - q1)).toNat 64))
                      (IntKind.u64.wrap
                        (IntKind.u64.wrap ((1 : Int) * (2 : Int) ^ min q1.toNat 64) - (1 : Int)))))))
              none)
            none)))
    (k0 v0 v1 v8 v9 v19 v20 h0)
noncomputable def bits_Digits_L6 {ρ : Type} (v0 : List Int) (v1 : Int) (v8 : Int) (v9 : Int) (v19 : Int) (v20 : Int) (h0 : List Int) (k0 : (List Int) → Int → Int → Int → Int → Int → (List Int) → Option ρ) : Option ρ :=
  lp (fun (x : (List Int) × Int × Int × Int × Int × Int × (List Int)) (next : ((List Int) × Int × Int × Int × Int × Int × (List Int)) → Option ρ) (ex : (((List Int) × Int × Int × Int × Int × Int × (List Int))) → Option ρ) => bits_Digits_r6 x.1 x.2.1 x.2.2.1 x.2.2.2.1 x.2.2.2.2.1 x.2.2.2.2.2.1 x.2.2.2.2.2.2 (fun v0 v1 v8 v9 v19 v20 h0 => next (v0, v1, v8, v9, v19, v20, h0)) (fun v0 v1 v8 v9 v19 v20 h0 => ex ((v0, v1, v8, v9, v19, v20, h0)))) (v0, v1, v8, v9, v19, v20, h0) (fun x => k0 x.1 x.2.1 x.2.2.1 x.2.2.2.1 x.2.2.2.2.1 x.2.2.2.2.2.1 x.2.2.2.2.2.2)
noncomputable def bits_Digits_l6 {ρ : Type} (v0 : List Int) (v1 : Int) (v8 : Int) (v9 : Int) (v19 : Int) (v20 : Int) (h0 : List Int) (k0 : (List Int) → Int → Int → Int → Int → Int → (List Int) → Option ρ) : Option ρ := shut (bits_Digits_L6 (ρ := ρ)) v0 v1 v8 v9 v19 v20 h0 k0
theorem bits_Digits_l6_eq {ρ : Type} (v0 : List Int) (v1 : Int) (v8 : Int) (v9 : Int) (v19 : Int) (v20 : Int) (h0 : List Int) (k0 : (List Int) → Int → Int → Int → Int → Int → (List Int) → Option ρ) : bits_Digits_l6 v0 v1 v8 v9 v19 v20 h0 k0 = bits_Digits_L6 v0 v1 v8 v9 v19 v20 h0 k0 := by unfold bits_Digits_l6; rw [shut_eq]
noncomputable def bits_Digits_raw {ρ : Type} (a0 : List Int) (a1 : Int) (a2 : Int) (k : (List Int) → Option ρ) : Option ρ :=
  bits_such a0 a1 a2 fun (q0 : Bool) =>
    br (!q0) (k [])
      (br (decide ((0 : Int) ≤ a2))
        (br (decide (a2 ≤ a2))
          (br (decide (a2 * (↑4 : Int) ≤ (↑140737488355328 : Int)))
            (bits_Digits_l6 a0 a1 (0 : Int) (0 : Int) (↑(List.replicate a2.toNat (0 : Int)).length : Int) (0 : Int)
              (List.replicate a2.toNat (0 : Int)) fun (q1 : List Int) (q2 q3 q4 q5 q6 : Int) (q7 : List Int) => k q7)
            none)
          none)
        none)
noncomputable def bits_Digits {ρ : Type} (a0 : List Int) (a1 : Int) (a2 : Int) (k : (List Int) → Option ρ) : Option ρ := shut (bits_Digits_raw (ρ := ρ)) a0 a1 a2 k
theorem bits_Digits_eq {ρ : Type} (a0 : List Int) (a1 : Int) (a2 : Int) (k : (List Int) → Option ρ) : bits_Digits a0 a1 a2 k = bits_Digits_raw a0 a1 a2 k := by unfold bits_Digits; rw [shut_eq]

end P
end

section
open Go Go.Abs
set_option linter.unusedVariables false
namespace P
noncomputable def lmots_known_raw {ρ : Type} (a0 : Int) (k : Int → Int → Int → Bool → Option ρ) : Option ρ :=
  br (a0 == (1 : Int)) (k (265 : Int) (7 : Int) (1 : Int) true)
    (br (a0 == (2 : Int)) (k (133 : Int) (6 : Int) (2 : Int) true)
      (br (a0 == (4 : Int)) (k (67 : Int) (4 : Int) (3 : Int) true)
        (br (a0 == (8 : Int)) (k (34 : Int) (0 : Int) (4 : Int) true) (k (0 : Int) (0 : Int) (0 : Int) false))))
noncomputable def lmots_known {ρ : Type} (a0 : Int) (k : Int → Int → Int → Bool → Option ρ) : Option ρ := shut (lmots_known_raw (ρ := ρ)) a0 k
theorem lmots_known_eq {ρ : Type} (a0 : Int) (k : Int → Int → Int → Bool → Option ρ) : lmots_known a0 k = lmots_known_raw a0 k := by unfold lmots_known; rw [shut_eq]

end P
end

section
open Go Go.Abs
set_option linter.unusedVariables false
namespace P
noncomputable def lmots_Digits_r9 {ρ : Type} (v0 : Int) (v9 : Int) (v37 : Int) (v38 : Int) (h0_0 : Int) (h0_1 : Int) (h0_2 : Int) (h1 : List Int) (nx : Int → Int → Int → Int → Int → Int → Int → (List Int) → Option ρ) (k0 : Int → Int → Int → Int → Int → Int → Int → (List Int) → Option ρ) : Option ρ :=
  br (decide (v38 < v37))
    (br (decide ((0 : Int) ≤ v38))
      (br (decide (v38 < (↑h1.length : Int)))
        (nx v0 (IntKind.u64.wrap (v9 - IntKind.u64.wrap (h1.getD v38.toNat (0 : Int)))) v37
          (IntKind.i64.wrap (v38 + (1 : Int))) h0_0 h0_1 h0_2 h1)
        none)
      none)
    (k0 v0 v9 v37 v38 h0_0 h0_1 h0_2 h1)
noncomputable def lmots_Digits_L9 {ρ : Type} (v0 : Int) (v9 : Int) (v37 : Int) (v38 : Int) (h0_0 : Int) (h0_1 : Int) (h0_2 : Int) (h1 : List Int) (k0 : Int → Int → Int → Int → Int → Int → Int → (List Int) → Option ρ) : Option ρ :=
  lp (fun (x : Int × Int × Int × Int × Int × Int × Int × (List Int)) (next : (Int × Int × Int × Int × Int × Int × Int × (List Int)) → Option ρ) (ex : ((Int × Int × Int × Int × Int × Int × Int × (List Int))) → Option ρ) => lmots_Digits_r9 x.1 x.2.1 x.2.2.1 x.2.2.2.1 x.2.2.2.2.1 x.2.2.2.2.2.1 x.2.2.2.2.2.2.1 x.2.2.2.2.2.2.2 (fun v0 v9 v37 v38 h0_0 h0_1 h0_2 h1 => next (v0, v9, v37, v38, h0_0, h0_1, h0_2, h1)) (fun v0 v9 v37 v38 h0_0 h0_1 h0_2 h1 => ex ((v0, v9, v37, v38, h0_0, h0_1, h0_2, h1)))) (v0, v9, v37, v38, h0_0, h0_1, h0_2, h1) (fun x => k0 x.1 x.2.1 x.2.2.1 x.2.2.2.1 x.2.2.2.2.1 x.2.2.2.2.2.1 x.2.2.2.2.2.2.1 x.2.2.2.2.2.2.2)
noncomputable def lmots_Digits_l9 {ρ : Type} (v0 : Int) (v9 : Int) (v37 : Int) (v38 : Int) (h0_0 : Int) (h0_1 : Int) (h0_2 : Int) (h1 : List Int) (k0 : Int → Int → Int → Int → Int → Int → Int → (List Int) → Option ρ) : Option ρ := shut (lmots_Digits_L9 (ρ := ρ)) v0 v9 v37 v38 h0_0 h0_1 h0_2 h1 k0
theorem lmots_Digits_l9_eq {ρ : Type} (v0 : Int) (v9 : Int) (v37 : Int) (v38 : Int) (h0_0 : Int) (h0_1 : Int) (h0_2 : Int) (h1 : List Int) (k0 : Int → Int → Int → Int → Int → Int → Int → (List Int) → Option ρ) : lmots_Digits_l9 v0 v9 v37 v38 h0_0 h0_1 h0_2 h1 k0 = lmots_Digits_L9 v0 v9 v37 v38 h0_0 h0_1 h0_2 h1 k0 := by unfold lmots_Digits_l9; rw [shut_eq]
noncomputable def lmots_Digits_raw {ρ : Type} (a0 : Int) (a1 : List Int) (k : (List Int) → Int → Option ρ) : Option ρ :=
  lmots_known a0 fun (q0 q1 q2 : Int) (q3 : Bool) =>
    br (!q3) (k [] (9 : Int))
      (br ((↑a1.length : Int) != (32 : Int)) (k [] (14 : Int))
        (br (decide (a0 = (0 : Int))) none
          (bits_Digits a1 a0 (IntKind.i64.wrap (Int.tdiv (256 : Int) a0)) fun (q4 : List Int) =>
            br (decide (a0 < (0 : Int))) none
              (lmots_Digits_l9 a0
                (IntKind.u64.wrap
                  (IntKind.u64.wrap (↑q4.length : Int) *
                    IntKind.u64.wrap (IntKind.u64.wrap ((1 : Int) * (2 : Int) ^ min a0.toNat 64) - (1 : Int))))
                (↑q4.length : Int) (0 : Int) q0 q1 q2 q4 fun (q5 q6 q7 q8 q9 q10 q11 : Int) (q12 : List Int) =>
                br (decide (q10 < (0 : Int))) none
                  (bits_Be (IntKind.u64.wrap (q6 * (2 : Int) ^ min q10.toNat 64)) (2 : Int)
                    fun (q13 : List Int) =>
                    bits_Digits q13 q5 (IntKind.i64.wrap (q9 - (↑q12.length : Int))) fun (q14 : List Int) =>
                      br
                        (decide
                          ((q12.length + q14.length) *
                              4 ≤
                            140737488355328))
                        (k (q12 ++ q14) (0 : Int)) none)))))
noncomputable def lmots_Digits {ρ : Type} (a0 : Int) (a1 : List Int) (k : (List Int) → Int → Option ρ) : Option ρ := shut (lmots_Digits_raw (ρ := ρ)) a0 a1 k
theorem lmots_Digits_eq {ρ : Type} (a0 : Int) (a1 : List Int) (k : (List Int) → Int → Option ρ) : lmots_Digits a0 a1 k = lmots_Digits_raw a0 a1 k := by unfold lmots_Digits; rw [shut_eq]

end P
end

section
open Go Go.Abs
set_option linter.unusedVariables false
namespace P
noncomputable def lmots_Size_raw {ρ : Type} (a0 : Int) (k : Int → Option ρ) : Option ρ :=
  lmots_known a0 fun (q0 q1 q2 : Int) (q3 : Bool) =>
    br (!q3) (k (0 : Int)) (k (IntKind.i64.wrap ((36 : Int) + IntKind.i64.wrap ((32 : Int) * q0))))
noncomputable def lmots_Size {ρ : Type} (a0 : Int) (k : Int → Option ρ) : Option ρ := shut (lmots_Size_raw (ρ := ρ)) a0 k
theorem lmots_Size_eq {ρ : Type} (a0 : Int) (k : Int → Option ρ) : lmots_Size a0 k = lmots_Size_raw a0 k := by unfold lmots_Size; rw [shut_eq]

end P
end

section
open Go Go.Abs
set_option linter.unusedVariables false
namespace P
noncomputable def L14_awake_r3 {ρ : Type} (v9 : Int) (v10 : Int) (h0 : List Int) (nx : Int → Int → (List Int) → Option ρ) (k0 : Int → Int → (List Int) → Option ρ) : Option ρ :=
  br (decide (v10 < v9))
    (br (decide ((0 : Int) ≤ v10))
      (br (decide (v10 < (↑h0.length : Int))) (nx v9 (IntKind.i64.wrap (v10 + (1 : Int))) (h0.set v10.toNat (255 : Int)))
        none)
      none)
    (k0 v9 v10 h0)
noncomputable def L14_awake_L3 {ρ : Type} (v9 : Int) (v10 : Int) (h0 : List Int) (k0 : Int → Int → (List Int) → Option ρ) : Option ρ :=
  lp (fun (x : Int × Int × (List Int)) (next : (Int × Int × (List Int)) → Option ρ) (ex : ((Int × Int × (List Int))) → Option ρ) => L14_awake_r3 x.1 x.2.1 x.2.2 (fun v9 v10 h0 => next (v9, v10, h0)) (fun v9 v10 h0 => ex ((v9, v10, h0)))) (v9, v10, h0) (fun x => k0 x.1 x.2.1 x.2.2)
noncomputable def L14_awake_l3 {ρ : Type} (v9 : Int) (v10 : Int) (h0 : List Int) (k0 : Int → Int → (List Int) → Option ρ) : Option ρ := shut (L14_awake_L3 (ρ := ρ)) v9 v10 h0 k0
theorem L14_awake_l3_eq {ρ : Type} (v9 : Int) (v10 : Int) (h0 : List Int) (k0 : Int → Int → (List Int) → Option ρ) : L14_awake_l3 v9 v10 h0 k0 = L14_awake_L3 v9 v10 h0 k0 := by unfold L14_awake_l3; rw [shut_eq]
noncomputable def L14_awake_raw {ρ : Type}  (k : Bool → Option ρ) : Option ρ :=
  L14_awake_l3 (↑32 : Int) (0 : Int) (List.replicate 32 (0 : Int))
    fun (q0 q1 : Int) (q2 : List Int) =>
    lmots_Digits (8 : Int) q2 fun (q3 : List Int) (q4 : Int) =>
      lmots_Digits (3 : Int) q2 fun (q5 : List Int) (q6 : Int) =>
        lmots_Size (4 : Int) fun (q7 : Int) =>
          br (q7 == (2180 : Int))
            (br (q4 == (0 : Int))
              (br ((↑q3.length : Int) == (34 : Int))
                (br (decide ((31 : Int) < (↑q3.length : Int)))
                  (br (q3.getD 31 (0 : Int) == (255 : Int))
                    (br (decide ((32 : Int) < (↑q3.length : Int)))
                      (br (q3.getD 32 (0 : Int) == (0 : Int))
                        (br (decide ((33 : Int) < (↑q3.length : Int)))
                          (br (q3.getD 33 (0 : Int) == (0 : Int)) (k (q6 == (9 : Int))) (k false)) none)
                        (k false))
                      none)
                    (k false))
                  none)
                (k false))
              (k false))
            (k false)
noncomputable def L14_awake {ρ : Type}  (k : Bool → Option ρ) : Option ρ := shut (L14_awake_raw (ρ := ρ))  k
theorem L14_awake_eq {ρ : Type}  (k : Bool → Option ρ) : L14_awake  k = L14_awake_raw  k := by unfold L14_awake; rw [shut_eq]

end P
end

section
open Go Go.Abs
set_option linter.unusedVariables false
namespace P
noncomputable def L14_LmotsCheck_r8 {ρ : Type} (v7 : Int) (v12 : Bool) (v13 : Bool) (v55 : Int) (v56 : Int) (h0_0 : List Int) (h1_0 : List Int) (h2 : List Int) (h3 : List Int) (h4 : List Int) (nx : Int → Bool → Bool → Int → Int → (List Int) → (List Int) → (List Int) → (List Int) → (List Int) → Option ρ) (k0 : Int → Bool → Bool → Int → Int → (List Int) → (List Int) → (List Int) → (List Int) → (List Int) → Option ρ) (k1 : Bool → (List Int) → (List Int) → (List Int) → (List Int) → (List Int) → Option ρ) : Option ρ :=
  br (decide (v56 < v55))
    (br v12
      (br v13
        (br (decide ((0 : Int) ≤ v56))
          (br (decide (v56 < (↑h3.length : Int)))
            (br (decide (v7 < (0 : Int))) none
              (br
                (decide
                  (h3.getD v56.toNat (0 : Int) ≥ IntKind.u32.wrap ((1 : Int) * (2 : Int) ^ min v7.toNat 32)))
                (k1 false h0_0 h1_0 h2 h3 h4)
                (nx v7 true true v55 (IntKind.i64.wrap (v56 + (1 : Int))) h0_0 h1_0 h2 h3 h4)))
            none)
          none)
        (br (decide ((0 : Int) ≤ v56))
          (br (decide (v56 < (↑h3.length : Int)))
            (br (decide ((0 : Int) ≤ v56))
              (br (decide (v56 < (↑h4.length : Int)))
                (br (decide ((0 : Int) ≤ v56))
                  (br (decide (v56 < (↑h3.length : Int)))
                    (br (decide (v7 < (0 : Int))) none
                      (br
                        (decide
                          (h3.getD v56.toNat (0 : Int) ≥
                            IntKind.u32.wrap ((1 : Int) * (2 : Int) ^ min v7.toNat 32)))
                        (k1 false h0_0 h1_0 h2 h3 h4)
                        (nx v7 true (decide (h3.getD v56.toNat (0 : Int) > h4.getD v56.toNat (0 : Int))) v55
                          (IntKind.i64.wrap (v56 + (1 : Int))) h0_0 h1_0 h2 h3 h4)))
                    none)
                  none)
                none)
              none)
            none)
          none))
      (br (decide ((0 : Int) ≤ v56))
        (br (decide (v56 < (↑h3.length : Int)))
          (br (decide ((0 : Int) ≤ v56))
            (br (decide (v56 < (↑h4.length : Int)))
              (br v13
                (br (decide ((0 : Int) ≤ v56))
                  (br (decide (v56 < (↑h3.length : Int)))
                    (br (decide (v7 < (0 : Int))) none
                      (br
                        (decide
                          (h3.getD v56.toNat (0 : Int) ≥
                            IntKind.u32.wrap ((1 : Int) * (2 : Int) ^ min v7.toNat 32)))
                        (k1 false h0_0 h1_0 h2 h3 h4)
                        (nx v7 (decide (h3.getD v56.toNat (0 : Int) < h4.getD v56.toNat (0 : Int))) true v55
                          (IntKind.i64.wrap (v56 + (1 : Int))) h0_0 h1_0 h2 h3 h4)))
                    none)
                  none)
                (br (decide ((0 : Int) ≤ v56))
                  (br (decide (v56 < (↑h3.length : Int)))
                    (br (decide ((0 : Int) ≤ v56))
                      (br (decide (v56 < (↑h4.length : Int)))
                        (br (decide ((0 : Int) ≤ v56))
                          (br (decide (v56 < (↑h3.length : Int)))
                            (br (decide (v7 < (0 : Int))) none
                              (br
                                (decide
                                  (h3.getD v56.toNat (0 : Int) ≥
                                    IntKind.u32.wrap ((1 : Int) * (2 : Int) ^ min v7.toNat 32)))
                                (k1 false h0_0 h1_0 h2 h3 h4)
                                (nx v7 (decide (h3.getD v56.toNat (0 : Int) < h4.getD v56.toNat (0 : Int)))
                                  (decide (h3.getD v56.toNat (0 : Int) > h4.getD v56.toNat (0 : Int))) v55
                                  (IntKind.i64.wrap (v56 + (1 : Int))) h0_0 h1_0 h2 h3 h4)))
                            none)
                          none)
                        none)
                      none)
                    none)
                  none))
              none)
            none)
          none)
        none))
    (k0 v7 v12 v13 v55 v56 h0_0 h1_0 h2 h3 h4)
noncomputable def L14_LmotsCheck_L8 {ρ : Type} (v7 : Int) (v12 : Bool) (v13 : Bool) (v55 : Int) (v56 : Int) (h0_0 : List Int) (h1_0 : List Int) (h2 : List Int) (h3 : List Int) (h4 : List Int) (k0 : Int → Bool → Bool → Int → Int → (List Int) → (List Int) → (List Int) → (List Int) → (List Int) → Option ρ) (k1 : Bool → (List Int) → (List Int) → (List Int) → (List Int) → (List Int) → Option ρ) : Option ρ :=
  lp (fun (x : Int × Bool × Bool × Int × Int × (List Int) × (List Int) × (List Int) × (List Int) × (List Int)) (next : (Int × Bool × Bool × Int × Int × (List Int) × (List Int) × (List Int) × (List Int) × (List Int)) → Option ρ) (ex : ((Int × Bool × Bool × Int × Int × (List Int) × (List Int) × (List Int) × (List Int) × (List Int)) ⊕ ((Bool × (List Int) × (List Int) × (List Int) × (List Int) × (List Int)))) → Option ρ) => L14_LmotsCheck_r8 x.1 x.2.1 x.2.2.1 x.2.2.2.1 x.2.2.2.2.1 x.2.2.2.2.2.1 x.2.2.2.2.2.2.1 x.2.2.2.2.2.2.2.1 x.2.2.2.2.2.2.2.2.1 x.2.2.2.2.2.2.2.2.2 (fun v7 v12 v13 v55 v56 h0_0 h1_0 h2 h3 h4 => next (v7, v12, v13, v55, v56, h0_0, h1_0, h2, h3, h4)) (fun v7 v12 v13 v55 v56 h0_0 h1_0 h2 h3 h4 => ex (.inl (v7, v12, v13, v55, v56, h0_0, h1_0, h2, h3, h4))) (fun v6 h0_0 h1_0 h2 h3 h4 => ex (.inr (v6, h0_0, h1_0, h2, h3, h4)))) (v7, v12, v13, v55, v56, h0_0, h1_0, h2, h3, h4) (Sum.elim (fun x => k0 x.1 x.2.1 x.2.2.1 x.2.2.2.1 x.2.2.2.2.1 x.2.2.2.2.2.1 x.2.2.2.2.2.2.1 x.2.2.2.2.2.2.2.1 x.2.2.2.2.2.2.2.2.1 x.2.2.2.2.2.2.2.2.2) (fun x => k1 x.1 x.2.1 x.2.2.1 x.2.2.2.1 x.2.2.2.2.1 x.2.2.2.2.2))
noncomputable def L14_LmotsCheck_l8 {ρ : Type} (v7 : Int) (v12 : Bool) (v13 : Bool) (v55 : Int) (v56 : Int) (h0_0 : List Int) (h1_0 : List Int) (h2 : List Int) (h3 : List Int) (h4 : List Int) (k0 : Int → Bool → Bool → Int → Int → (List Int) → (List Int) → (List Int) → (List Int) → (List Int) → Option ρ) (k1 : Bool → (List Int) → (List Int) → (List Int) → (List Int) → (List Int) → Option ρ) : Option ρ := shut (L14_LmotsCheck_L8 (ρ := ρ)) v7 v12 v13 v55 v56 h0_0 h1_0 h2 h3 h4 k0 k1
theorem L14_LmotsCheck_l8_eq {ρ : Type} (v7 : Int) (v12 : Bool) (v13 : Bool) (v55 : Int) (v56 : Int) (h0_0 : List Int) (h1_0 : List Int) (h2 : List Int) (h3 : List Int) (h4 : List Int) (k0 : Int → Bool → Bool → Int → Int → (List Int) → (List Int) → (List Int) → (List Int) → (List Int) → Option ρ) (k1 : Bool → (List Int) → (List Int) → (List Int) → (List Int) → (List Int) → Option ρ) : L14_LmotsCheck_l8 v7 v12 v13 v55 v56 h0_0 h1_0 h2 h3 h4 k0 k1 = L14_LmotsCheck_L8 v7 v12 v13 v55 v56 h0_0 h1_0 h2 h3 h4 k0 k1 := by unfold L14_LmotsCheck_l8; rw [shut_eq]
noncomputable def L14_LmotsCheck_raw {ρ : Type} (a0 : Int) (a1 : List Int) (a2 : List Int) (k : Bool → Option ρ) : Option ρ :=
  br (decide ((0 : Int) ≤ a0.tmod (4 : Int)))
    (br (decide (a0.tmod (4 : Int) < (↑4 : Int)))
      (lmots_Digits ([(1 : Int), (2 : Int), (4 : Int), (8 : Int)].getD (a0.tmod (4 : Int)).toNat (0 : Int))
        (List.take 32 (List.drop 0 a1)) fun (q0 : List Int) (q1 : Int) =>
        lmots_Digits ([(1 : Int), (2 : Int), (4 : Int), (8 : Int)].getD (a0.tmod (4 : Int)).toNat (0 : Int))
          (List.take 32 (List.drop 0 a2)) fun (q2 : List Int) (q3 : Int) =>
          br (q1 != (0 : Int)) (k false)
            (br (q3 != (0 : Int)) (k false)
              (br ((↑q0.length : Int) != (↑q2.length : Int)) (k false)
                (lmots_Size ([(1 : Int), (2 : Int), (4 : Int), (8 : Int)].getD (a0.tmod (4 : Int)).toNat (0 : Int))
                  fun (q4 : Int) =>
                  br ((↑q0.length : Int) != IntKind.i64.wrap ((IntKind.i64.wrap (q4 - (36 : Int))).tdiv (32 : Int)))
                    (k false)
                    (L14_LmotsCheck_l8
                      ([(1 : Int), (2 : Int), (4 : Int), (8 : Int)].getD (a0.tmod (4 : Int)).toNat (0 : Int)) false false
                      (↑q0.length : Int) (0 : Int) a1 a2 [(1 : Int), (2 : Int), (4 : Int), (8 : Int)] q0 q2
                      (fun (q5 : Int) (q6 q7 : Bool) (q8 q9 : Int) (q10 q11 q12 q13 q14 : List Int) =>
                        br (q6 == !decide (q10 = q11))
                          (br (q7 == !decide (q10 = q11)) (L14_awake fun (q15 : Bool) => k q15) (k false)) (k false))
                      fun (q16 : Bool) (q17 q18 q19 q20 q21 : List Int) => k q16)))))
      none)
    none
noncomputable def L14_LmotsCheck {ρ : Type} (a0 : Int) (a1 : List Int) (a2 : List Int) (k : Bool → Option ρ) : Option ρ := shut (L14_LmotsCheck_raw (ρ := ρ)) a0 a1 a2 k
theorem L14_LmotsCheck_eq {ρ : Type} (a0 : Int) (a1 : List Int) (a2 : List Int) (k : Bool → Option ρ) : L14_LmotsCheck a0 a1 a2 k = L14_LmotsCheck_raw a0 a1 a2 k := by unfold L14_LmotsCheck; rw [shut_eq]

end P
end

section
open Go Go.Abs Go.Proofs
set_option maxRecDepth 100000
set_option linter.unusedVariables false
namespace bits_Le
def S5 (v0 : Int) (v16 : Int) (v17 : Int) (h0 : List Int) : ASt := ⟨[(0, .v (.int .u64 v0)), (5, .own 0), (16, .v (.int .i64 v16)), (17, .v (.int .i64 v17))], [(0, some ⟨.row 5 (.ints .u8 h0), false⟩)], 1, 30⟩
def V5 : ASt → Option (Int × Int × Int × (List Int))
  | ⟨[(0, .v (.int .u64 v0)), (5, .own 0), (16, .v (.int .i64 v16)), (17, .v (.int .i64 v17))], [(0, some ⟨.row 5 (.ints .u8 h0), false⟩)], 1, 30⟩ => some (v0, v16, v17, h0)
  | _ => none
theorem V5_ok (st : ASt) (x : Int × Int × Int × (List Int)) (h : V5 st = some x) : st = S5 x.1 x.2.1 x.2.2.1 x.2.2.2 := by
  unfold V5 at h
  split at h
  · cases h; rfl
  · cases h
noncomputable def L5 : LSpec := fun st K => match V5 st with
  | some x => P.bits_Le_l5 x.1 x.2.1 x.2.2.1 x.2.2.2 (fun v0 v16 v17 h0 => K (.exit 0) (S5 v0 v16 v17 h0))
  | none => none
noncomputable def D : Ctx := ({ P := Try.prog, G := [], globs := [], hints := [(5, ⟨[0, 5, 16, 17], [], [4], []⟩)], loops := [(5, L5)], inl := [] } : Ctx)
def E5 (K : AExit → ASt → Option R) : ((Int × Int × Int × (List Int))) → Option R := (fun x => K (.exit 0) (S5 x.1 x.2.1 x.2.2.1 x.2.2.2))
theorem round5 (K : AExit → ASt → Option R) (next : ASt → Option R) (x : Int × Int × Int × (List Int)) : roundA D (loopAt Try.f32 5) K next (S5 x.1 x.2.1 x.2.2.1 x.2.2.2) = (fun (x : Int × Int × Int × (List Int)) (next : (Int × Int × Int × (List Int)) → Option R) (ex : ((Int × Int × Int × (List Int))) → Option R) => P.bits_Le_r5 x.1 x.2.1 x.2.2.1 x.2.2.2 (fun v0 v16 v17 h0 => next (v0, v16, v17, h0)) (fun v0 v16 v17 h0 => ex ((v0, v16, v17, h0)))) x (fun x => next (S5 x.1 x.2.1 x.2.2.1 x.2.2.2)) (E5 K) := by kernel_rfl
theorem lq5 (st : ASt) (K : AExit → ASt → Option R) : L5 st K = vMap (V5 st) (fun x => lp (fun (x : Int × Int × Int × (List Int)) (next : (Int × Int × Int × (List Int)) → Option R) (ex : ((Int × Int × Int × (List Int))) → Option R) => P.bits_Le_r5 x.1 x.2.1 x.2.2.1 x.2.2.2 (fun v0 v16 v17 h0 => next (v0, v16, v17, h0)) (fun v0 v16 v17 h0 => ex ((v0, v16, v17, h0)))) x (E5 K)) := by
  unfold L5
  cases V5 st with
  | none => rfl
  | some x => simp only [P.bits_Le_l5_eq]; rfl
theorem loop5 : LoopOk D (loopAt Try.f32 5) := loopOk_lp (X := Int × Int × Int × (List Int)) (Y := (Int × Int × Int × (List Int))) (fun x => S5 x.1 x.2.1 x.2.2.1 x.2.2.2) V5_ok (stp := (fun (x : Int × Int × Int × (List Int)) (next : (Int × Int × Int × (List Int)) → Option R) (ex : ((Int × Int × Int × (List Int))) → Option R) => P.bits_Le_r5 x.1 x.2.1 x.2.2.1 x.2.2.2 (fun v0 v16 v17 h0 => next (v0, v16, v17, h0)) (fun v0 v16 v17 h0 => ex ((v0, v16, v17, h0))))) (enc := E5) (L := L5) (by kernel_rfl) lq5 round5
theorem body (a0 : Int) (a1 : Int) (K : AVal → Option R) : bodyA D Try.f32 [.fr 5 (.ints .u8 [])] [.v (.int .u64 a0), .v (.int .i64 a1)] K = P.bits_Le a0 a1 (fun r0 => K (.fr 5 (.ints .u8 r0))) := by
  rw [P.bits_Le_eq]
  kernel_rfl
theorem loops : loopsOf (Try.f32.body.getD .skip) = [loopAt Try.f32 5] := by kernel_rfl
noncomputable def spec0 : Abs.Spec := fun args K => match args with
  | [.v (.int .u64 a0), .v (.int .i64 a1)] => P.bits_Le a0 a1 (fun r0 => K (.fr 5 (.ints .u8 r0)))
  | _ => none
noncomputable def spec : Abs.Spec := spec0
theorem ok0 : Proved Try.prog [] 32 spec0 := by
  refine proved_of (D := D) (fn := Try.f32) (c := Try.f32.body.getD .skip) [.fr 5 (.ints .u8 [])] (by kernel_rfl) (globsPlain_of (by kernel_rfl)) (by kernel_rfl) (by kernel_rfl) (by kernel_rfl) trivial trivial ?_ ?_
  · rw [loops]; exact ⟨loop5, trivial⟩
  · intro args K r h
    unfold spec0 at h
    split at h
    · rw [body]; exact h
    · cases h
theorem ok : Proved Try.prog [] 32 spec := ok0
end bits_Le
end

section
open Go Go.Abs Go.Proofs
set_option maxRecDepth 100000
set_option linter.unusedVariables false
namespace bits_Be
def S1_1 (v2 : Int) (v3 : Int) (h0 : List Int) : ASt := ⟨[(0, .own 0), (2, .v (.int .i64 v2)), (3, .v (.int .i64 v3))], [(0, some ⟨.row 5 (.ints .u8 h0), false⟩)], 1, 28⟩
def V1_1 : ASt → Option (Int × Int × (List Int))
  | ⟨[(0, .own 0), (2, .v (.int .i64 v2)), (3, .v (.int .i64 v3))], [(0, some ⟨.row 5 (.ints .u8 h0), false⟩)], 1, 28⟩ => some (v2, v3, h0)
  | _ => none
theorem V1_1_ok (st : ASt) (x : Int × Int × (List Int)) (h : V1_1 st = some x) : st = S1_1 x.1 x.2.1 x.2.2 := by
  unfold V1_1 at h
  split at h
  · cases h; rfl
  · cases h
noncomputable def L1_1 : LSpec := fun st K => match V1_1 st with
  | some x => P.bits_Be_l1_1 x.1 x.2.1 x.2.2 (fun v2 v3 h0 => K (.exit 0) (S1_1 v2 v3 h0))
  | none => none
noncomputable def D1 : Ctx := ({ P := Try.prog, G := [], globs := [], hints := [(1, ⟨[0, 2, 3], [], [], []⟩)], loops := [(1, L1_1)], inl := [] } : Ctx)
noncomputable def D : Ctx := ({ P := Try.prog, G := [(32, bits_Le.spec)], globs := [], hints := [], loops := [], inl := [(70, bodyIn D1 Try.f70)] } : Ctx)
def E1_1 (K : AExit → ASt → Option R) : ((Int × Int × (List Int))) → Option R := (fun x => K (.exit 0) (S1_1 x.1 x.2.1 x.2.2))
theorem round1_1 (K : AExit → ASt → Option R) (next : ASt → Option R) (x : Int × Int × (List Int)) : roundA D1 (loopAt Try.f70 1) K next (S1_1 x.1 x.2.1 x.2.2) = (fun (x : Int × Int × (List Int)) (next : (Int × Int × (List Int)) → Option R) (ex : ((Int × Int × (List Int))) → Option R) => P.bits_Be_r1_1 x.1 x.2.1 x.2.2 (fun v2 v3 h0 => next (v2, v3, h0)) (fun v2 v3 h0 => ex ((v2, v3, h0)))) x (fun x => next (S1_1 x.1 x.2.1 x.2.2)) (E1_1 K) := by kernel_rfl
theorem lq1_1 (st : ASt) (K : AExit → ASt → Option R) : L1_1 st K = vMap (V1_1 st) (fun x => lp (fun (x : Int × Int × (List Int)) (next : (Int × Int × (List Int)) → Option R) (ex : ((Int × Int × (List Int))) → Option R) => P.bits_Be_r1_1 x.1 x.2.1 x.2.2 (fun v2 v3 h0 => next (v2, v3, h0)) (fun v2 v3 h0 => ex ((v2, v3, h0)))) x (E1_1 K)) := by
  unfold L1_1
  cases V1_1 st with
  | none => rfl
  | some x => simp only [P.bits_Be_l1_1_eq]; rfl
theorem loop1_1 : LoopOk D1 (loopAt Try.f70 1) := loopOk_lp (X := Int × Int × (List Int)) (Y := (Int × Int × (List Int))) (fun x => S1_1 x.1 x.2.1 x.2.2) V1_1_ok (stp := (fun (x : Int × Int × (List Int)) (next : (Int × Int × (List Int)) → Option R) (ex : ((Int × Int × (List Int))) → Option R) => P.bits_Be_r1_1 x.1 x.2.1 x.2.2 (fun v2 v3 h0 => next (v2, v3, h0)) (fun v2 v3 h0 => ex ((v2, v3, h0))))) (enc := E1_1) (L := L1_1) (by kernel_rfl) lq1_1 round1_1
theorem body (a0 : Int) (a1 : Int) (K : AVal → Option R) : bodyA D Try.f30 [.fr 5 (.ints .u8 [])] [.v (.int .u64 a0), .v (.int .i64 a1)] K = P.bits_Be a0 a1 (fun r0 => K (.fr 5 (.ints .u8 r0))) := by
  rw [P.bits_Be_eq]
  kernel_rfl
theorem loops : loopsOf (Try.f30.body.getD .skip) = [] := by kernel_rfl
theorem loops1 : loopsOf (Try.f70.body.getD .skip) = [loopAt Try.f70 1] := by kernel_rfl
noncomputable def spec0 : Abs.Spec := fun args K => match args with
  | [.v (.int .u64 a0), .v (.int .i64 a1)] => P.bits_Be a0 a1 (fun r0 => K (.fr 5 (.ints .u8 r0)))
  | _ => none
noncomputable def spec : Abs.Spec := spec0
theorem ok0 : Proved Try.prog [] 30 spec0 := by
  refine proved_of (D := D) (fn := Try.f30) (c := Try.f30.body.getD .skip) [.fr 5 (.ints .u8 [])] (by kernel_rfl) (globsPlain_of (by kernel_rfl)) (by kernel_rfl) (by kernel_rfl) (by kernel_rfl) ⟨bits_Le.ok, trivial⟩ ⟨run_of (D := D1) (D' := D) (fn := Try.f70) (c := Try.f70.body.getD .skip) rfl rfl (by kernel_rfl) (globsPlain_of (by kernel_rfl)) (by kernel_rfl) (by kernel_rfl) (by kernel_rfl) trivial trivial (by rw [loops1]; exact ⟨loop1_1, trivial⟩) (fun _ _ _ _ _ h => h), trivial⟩ ?_ ?_
  · rw [loops]; exact trivial
  · intro args K r h
    unfold spec0 at h
    split at h
    · rw [body]; exact h
    · cases h
theorem ok : Proved Try.prog [] 30 spec := ok0
end bits_Be
end

section
open Go Go.Abs Go.Proofs
set_option maxRecDepth 100000
set_option linter.unusedVariables false
namespace bits_such
noncomputable def D : Ctx := ({ P := Try.prog, G := [], globs := [], hints := [], loops := [], inl := [] } : Ctx)
theorem body (a0 : List Int) (a1 : Int) (a2 : Int) (K : AVal → Option R) : bodyA D Try.f72 [.any] [.sl (.ints .u8 a0), .v (.int .i64 a1), .v (.int .i64 a2)] K = P.bits_such a0 a1 a2 (fun r0 => K (.v (.bool r0))) := by
  rw [P.bits_such_eq]
  kernel_rfl
theorem loops : loopsOf (Try.f72.body.getD .skip) = [] := by kernel_rfl
noncomputable def spec0 : Abs.Spec := fun args K => match args with
  | [.sl (.ints .u8 a0), .v (.int .i64 a1), .v (.int .i64 a2)] => P.bits_such a0 a1 a2 (fun r0 => K (.v (.bool r0)))
  | _ => none
noncomputable def spec : Abs.Spec := fun args K => spec0 (coerL [.sl (.ints .u8 []), .any, .any] args) K
theorem ok0 : Proved Try.prog [] 72 spec0 := by
  refine proved_of (D := D) (fn := Try.f72) (c := Try.f72.body.getD .skip) [.any] (by kernel_rfl) (globsPlain_of (by kernel_rfl)) (by kernel_rfl) (by kernel_rfl) (by kernel_rfl) trivial trivial ?_ ?_
  · rw [loops]; exact trivial
  · intro args K r h
    unfold spec0 at h
    split at h
    · rw [body]; exact h
    · cases h
theorem ok : Proved Try.prog [] 72 spec := proved_coer _ ok0
end bits_such
end

section
open Go Go.Abs Go.Proofs
set_option maxRecDepth 100000
set_option linter.unusedVariables false
namespace bits_Digits
def S6 (v0 : List Int) (v1 : Int) (v8 : Int) (v9 : Int) (v19 : Int) (v20 : Int) (h0 : List Int) : ASt := ⟨[(0, .sl (.ints .u8 v0)), (1, .v (.int .i64 v1)), (7, .own 0), (8, .v (.int .u64 v8)), (9, .v (.int .i64 v9)), (19, .v (.int .i64 v19)), (20, .v (.int .i64 v20))], [(0, some ⟨.row 62 (.ints .u32 h0), false⟩)], 1, 53⟩
def V6 : ASt → Option ((List Int) × Int × Int × Int × Int × Int × (List Int))
  | ⟨[(0, .sl (.ints .u8 v0)), (1, .v (.int .i64 v1)), (7, .own 0), (8, .v (.int .u64 v8)), (9, .v (.int .i64 v9)), (19, .v (.int .i64 v19)), (20, .v (.int .i64 v20))], [(0, some ⟨.row 62 (.ints .u32 h0), false⟩)], 1, 53⟩ => some (v0, v1, v8, v9, v19, v20, h0)
  | _ => none
theorem V6_ok (st : ASt) (x : (List Int) × Int × Int × Int × Int × Int × (List Int)) (h : V6 st = some x) : st = S6 x.1 x.2.1 x.2.2.1 x.2.2.2.1 x.2.2.2.2.1 x.2.2.2.2.2.1 x.2.2.2.2.2.2 := by
  unfold V6 at h
  split at h
  · cases h; rfl
  · cases h
def S8 (v0 : List Int) (v1 : Int) (v8 : Int) (v9 : Int) (v10 : Int) (v19 : Int) (v20 : Int) (h0 : List Int) : ASt := ⟨[(0, .sl (.ints .u8 v0)), (1, .v (.int .i64 v1)), (7, .own 0), (8, .v (.int .u64 v8)), (9, .v (.int .i64 v9)), (10, .v (.int .i64 v10)), (19, .v (.int .i64 v19)), (20, .v (.int .i64 v20))], [(0, some ⟨.row 62 (.ints .u32 h0), false⟩)], 1, 53⟩
def V8 : ASt → Option ((List Int) × Int × Int × Int × Int × Int × Int × (List Int))
  | ⟨[(0, .sl (.ints .u8 v0)), (1, .v (.int .i64 v1)), (7, .own 0), (8, .v (.int .u64 v8)), (9, .v (.int .i64 v9)), (10, .v (.int .i64 v10)), (19, .v (.int .i64 v19)), (20, .v (.int .i64 v20))], [(0, some ⟨.row 62 (.ints .u32 h0), false⟩)], 1, 53⟩ => some (v0, v1, v8, v9, v10, v19, v20, h0)
  | _ => none
theorem V8_ok (st : ASt) (x : (List Int) × Int × Int × Int × Int × Int × Int × (List Int)) (h : V8 st = some x) : st = S8 x.1 x.2.1 x.2.2.1 x.2.2.2.1 x.2.2.2.2.1 x.2.2.2.2.2.1 x.2.2.2.2.2.2.1 x.2.2.2.2.2.2.2 := by
  unfold V8 at h
  split at h
  · cases h; rfl
  · cases h
noncomputable def L8 : LSpec := fun st K => match V8 st with
  | some x => P.bits_Digits_l8 x.1 x.2.1 x.2.2.1 x.2.2.2.1 x.2.2.2.2.1 x.2.2.2.2.2.1 x.2.2.2.2.2.2.1 x.2.2.2.2.2.2.2 (fun v0 v1 v8 v9 v10 v19 v20 h0 => K (.exit 2) (S8 v0 v1 v8 v9 v10 v19 v20 h0))
  | none => none
noncomputable def L6 : LSpec := fun st K => match V6 st with
  | some x => P.bits_Digits_l6 x.1 x.2.1 x.2.2.1 x.2.2.2.1 x.2.2.2.2.1 x.2.2.2.2.2.1 x.2.2.2.2.2.2 (fun v0 v1 v8 v9 v19 v20 h0 => K (.exit 0) (S6 v0 v1 v8 v9 v19 v20 h0))
  | none => none
noncomputable def D : Ctx := ({ P := Try.prog, G := [(72, bits_such.spec)], globs := [], hints := [(8, ⟨[0, 1, 7, 8, 9, 10, 19, 20], [], [6], [(0, .sl (.ints .u8 []))]⟩), (6, ⟨[0, 1, 7, 8, 9, 19, 20], [], [6], [(0, .sl (.ints .u8 []))]⟩)], loops := [(8, L8), (6, L6)], inl := [] } : Ctx)
def E8 (K : AExit → ASt → Option R) : (((List Int) × Int × Int × Int × Int × Int × Int × (List Int))) → Option R := (fun x => K (.exit 2) (S8 x.1 x.2.1 x.2.2.1 x.2.2.2.1 x.2.2.2.2.1 x.2.2.2.2.2.1 x.2.2.2.2.2.2.1 x.2.2.2.2.2.2.2))
theorem round8 (K : AExit → ASt → Option R) (next : ASt → Option R) (x : (List Int) × Int × Int × Int × Int × Int × Int × (List Int)) : roundA D (loopAt Try.f39 8) K next (S8 x.1 x.2.1 x.2.2.1 x.2.2.2.1 x.2.2.2.2.1 x.2.2.2.2.2.1 x.2.2.2.2.2.2.1 x.2.2.2.2.2.2.2) = (fun (x : (List Int) × Int × Int × Int × Int × Int × Int × (List Int)) (next : ((List Int) × Int × Int × Int × Int × Int × Int × (List Int)) → Option R) (ex : (((List Int) × Int × Int × Int × Int × Int × Int × (List Int))) → Option R) => P.bits_Digits_r8 x.1 x.2.1 x.2.2.1 x.2.2.2.1 x.2.2.2.2.1 x.2.2.2.2.2.1 x.2.2.2.2.2.2.1 x.2.2.2.2.2.2.2 (fun v0 v1 v8 v9 v10 v19 v20 h0 => next (v0, v1, v8, v9, v10, v19, v20, h0)) (fun v0 v1 v8 v9 v10 v19 v20 h0 => ex ((v0, v1, v8, v9, v10, v19, v20, h0)))) x (fun x => next (S8 x.1 x.2.1 x.2.2.1 x.2.2.2.1 x.2.2.2.2.1 x.2.2.2.2.2.1 x.2.2.2.2.2.2.1 x.2.2.2.2.2.2.2)) (E8 K) := by kernel_rfl
theorem lq8 (st : ASt) (K : AExit → ASt → Option R) : L8 st K = vMap (V8 st) (fun x => lp (fun (x : (List Int) × Int × Int × Int × Int × Int × Int × (List Int)) (next : ((List Int) × Int × Int × Int × Int × Int × Int × (List Int)) → Option R) (ex : (((List Int) × Int × Int × Int × Int × Int × Int × (List Int))) → Option R) => P.bits_Digits_r8 x.1 x.2.1 x.2.2.1 x.2.2.2.1 x.2.2.2.2.1 x.2.2.2.2.2.1 x.2.2.2.2.2.2.1 x.2.2.2.2.2.2.2 (fun v0 v1 v8 v9 v10 v19 v20 h0 => next (v0, v1, v8, v9, v10, v19, v20, h0)) (fun v0 v1 v8 v9 v10 v19 v20 h0 => ex ((v0, v1, v8, v9, v10, v19, v20, h0)))) x (E8 K)) := by
  unfold L8
  cases V8 st with
  | none => rfl
  | some x => simp only [P.bits_Digits_l8_eq]; rfl
theorem loop8 : LoopOk D (loopAt Try.f39 8) := loopOk_lp (X := (List Int) × Int × Int × Int × Int × Int × Int × (List Int)) (Y := ((List Int) × Int × Int × Int × Int × Int × Int × (List Int))) (fun x => S8 x.1 x.2.1 x.2.2.1 x.2.2.2.1 x.2.2.2.2.1 x.2.2.2.2.2.1 x.2.2.2.2.2.2.1 x.2.2.2.2.2.2.2) V8_ok (stp := (fun (x : (List Int) × Int × Int × Int × Int × Int × Int × (List Int)) (next : ((List Int) × Int × Int × Int × Int × Int × Int × (List Int)) → Option R) (ex : (((List Int) × Int × Int × Int × Int × Int × Int × (List Int))) → Option R) => P.bits_Digits_r8 x.1 x.2.1 x.2.2.1 x.2.2.2.1 x.2.2.2.2.1 x.2.2.2.2.2.1 x.2.2.2.2.2.2.1 x.2.2.2.2.2.2.2 (fun v0 v1 v8 v9 v10 v19 v20 h0 => next (v0, v1, v8, v9, v10, v19, v20, h0)) (fun v0 v1 v8 v9 v10 v19 v20 h0 => ex ((v0, v1, v8, v9, v10, v19, v20, h0))))) (enc := E8) (L := L8) (by kernel_rfl) lq8 round8
def E6 (K : AExit → ASt → Option R) : (((List Int) × Int × Int × Int × Int × Int × (List Int))) → Option R := (fun x => K (.exit 0) (S6 x.1 x.2.1 x.2.2.1 x.2.2.2.1 x.2.2.2.2.1 x.2.2.2.2.2.1 x.2.2.2.2.2.2))
theorem round6 (K : AExit → ASt → Option R) (next : ASt → Option R) (x : (List Int) × Int × Int × Int × Int × Int × (List Int)) : roundA D (loopAt Try.f39 6) K next (S6 x.1 x.2.1 x.2.2.1 x.2.2.2.1 x.2.2.2.2.1 x.2.2.2.2.2.1 x.2.2.2.2.2.2) = (fun (x : (List Int) × Int × Int × Int × Int × Int × (List Int)) (next : ((List Int) × Int × Int × Int × Int × Int × (List Int)) → Option R) (ex : (((List Int) × Int × Int × Int × Int × Int × (List Int))) → Option R) => P.bits_Digits_r6 x.1 x.2.1 x.2.2.1 x.2.2.2.1 x.2.2.2.2.1 x.2.2.2.2.2.1 x.2.2.2.2.2.2 (fun v0 v1 v8 v9 v19 v20 h0 => next (v0, v1, v8, v9, v19, v20, h0)) (fun v0 v1 v8 v9 v19 v20 h0 => ex ((v0, v1, v8, v9, v19, v20, h0)))) x (fun x => next (S6 x.1 x.2.1 x.2.2.1 x.2.2.2.1 x.2.2.2.2.1 x.2.2.2.2.2.1 x.2.2.2.2.2.2)) (E6 K) := by kernel_rfl
theorem lq6 (st : ASt) (K : AExit → ASt → Option R) : L6 st K = vMap (V6 st) (fun x => lp (fun (x : (List Int) × Int × Int × Int × Int × Int × (List Int)) (next : ((List Int) × Int × Int × Int × Int × Int × (List Int)) → Option R) (ex : (((List Int) × Int × Int × Int × Int × Int × (List Int))) → Option R) => P.bits_Digits_r6 x.1 x.2.1 x.2.2.1 x.2.2.2.1 x.2.2.2.2.1 x.2.2.2.2.2.1 x.2.2.2.2.2.2 (fun v0 v1 v8 v9 v19 v20 h0 => next (v0, v1, v8, v9, v19, v20, h0)) (fun v0 v1 v8 v9 v19 v20 h0 => ex ((v0, v1, v8, v9, v19, v20, h0)))) x (E6 K)) := by
  unfold L6
  cases V6 st with
  | none => rfl
  | some x => simp only [P.bits_Digits_l6_eq]; rfl
theorem loop6 : LoopOk D (loopAt Try.f39 6) := loopOk_lp (X := (List Int) × Int × Int × Int × Int × Int × (List Int)) (Y := ((List Int) × Int × Int × Int × Int × Int × (List Int))) (fun x => S6 x.1 x.2.1 x.2.2.1 x.2.2.2.1 x.2.2.2.2.1 x.2.2.2.2.2.1 x.2.2.2.2.2.2) V6_ok (stp := (fun (x : (List Int) × Int × Int × Int × Int × Int × (List Int)) (next : ((List Int) × Int × Int × Int × Int × Int × (List Int)) → Option R) (ex : (((List Int) × Int × Int × Int × Int × Int × (List Int))) → Option R) => P.bits_Digits_r6 x.1 x.2.1 x.2.2.1 x.2.2.2.1 x.2.2.2.2.1 x.2.2.2.2.2.1 x.2.2.2.2.2.2 (fun v0 v1 v8 v9 v19 v20 h0 => next (v0, v1, v8, v9, v19, v20, h0)) (fun v0 v1 v8 v9 v19 v20 h0 => ex ((v0, v1, v8, v9, v19, v20, h0))))) (enc := E6) (L := L6) (by kernel_rfl) lq6 round6
theorem body (a0 : List Int) (a1 : Int) (a2 : Int) (K : AVal → Option R) : bodyA D Try.f39 [.fr 62 (.ints .u32 [])] [.sl (.ints .u8 a0), .v (.int .i64 a1), .v (.int .i64 a2)] K = P.bits_Digits a0 a1 a2 (fun r0 => K (.fr 62 (.ints .u32 r0))) := by
  rw [P.bits_Digits_eq]
  kernel_rfl
theorem loops : loopsOf (Try.f39.body.getD .skip) = [loopAt Try.f39 6, loopAt Try.f39 8] := by kernel_rfl
noncomputable def spec0 : Abs.Spec := fun args K => match args with
  | [.sl (.ints .u8 a0), .v (.int .i64 a1), .v (.int .i64 a2)] => P.bits_Digits a0 a1 a2 (fun r0 => K (.fr 62 (.ints .u32 r0)))
  | _ => none
noncomputable def spec : Abs.Spec := fun args K => spec0 (coerL [.sl (.ints .u8 []), .any, .any] args) K
theorem ok0 : Proved Try.prog [] 39 spec0 := by
  refine proved_of (D := D) (fn := Try.f39) (c := Try.f39.body.getD .skip) [.fr 62 (.ints .u32 [])] (by kernel_rfl) (globsPlain_of (by kernel_rfl)) (by kernel_rfl) (by kernel_rfl) (by kernel_rfl) ⟨bits_such.ok, trivial⟩ trivial ?_ ?_
  · rw [loops]; exact ⟨loop6, loop8, trivial⟩
  · intro args K r h
    unfold spec0 at h
    split at h
    · rw [body]; exact h
    · cases h
theorem ok : Proved Try.prog [] 39 spec := proved_coer _ ok0
end bits_Digits
end

section
open Go Go.Abs Go.Proofs
set_option maxRecDepth 100000
set_option linter.unusedVariables false
namespace lmots_known
noncomputable def D : Ctx := ({ P := Try.prog, G := [], globs := [], hints := [], loops := [], inl := [] } : Ctx)
theorem body (a0 : Int) (K : AVal → Option R) : bodyA D Try.f74 [.any, .any] [.v (.int .i64 a0)] K = P.lmots_known a0 (fun r0_digits r0_shift r0_code r1 => K (.tuple [.agg [.v (.int .i64 r0_digits), .v (.int .i64 r0_shift), .v (.int .i64 r0_code)], .v (.bool r1)])) := by
  rw [P.lmots_known_eq]
  kernel_rfl
theorem loops : loopsOf (Try.f74.body.getD .skip) = [] := by kernel_rfl
noncomputable def spec0 : Abs.Spec := fun args K => match args with
  | [.v (.int .i64 a0)] => P.lmots_known a0 (fun r0_digits r0_shift r0_code r1 => K (.tuple [.agg [.v (.int .i64 r0_digits), .v (.int .i64 r0_shift), .v (.int .i64 r0_code)], .v (.bool r1)]))
  | _ => none
noncomputable def spec : Abs.Spec := spec0
theorem ok0 : Proved Try.prog [] 74 spec0 := by
  refine proved_of (D := D) (fn := Try.f74) (c := Try.f74.body.getD .skip) [.any, .any] (by kernel_rfl) (globsPlain_of (by kernel_rfl)) (by kernel_rfl) (by kernel_rfl) (by kernel_rfl) trivial trivial ?_ ?_
  · rw [loops]; exact trivial
  · intro args K r h
    unfold spec0 at h
    split at h
    · rw [body]; exact h
    · cases h
theorem ok : Proved Try.prog [] 74 spec := ok0
end lmots_known
end

section
open Go Go.Abs Go.Proofs
set_option maxRecDepth 100000
set_option linter.unusedVariables false
namespace lmots_Digits
def S9 (v0 : Int) (v9 : Int) (v37 : Int) (v38 : Int) (h0_0 : Int) (h0_1 : Int) (h0_2 : Int) (h1 : List Int) : ASt := ⟨[(0, .v (.int .i64 v0)), (6, .ptr 0 0), (8, .own 1), (9, .v (.int .u64 v9)), (36, .own 1), (37, .v (.int .i64 v37)), (38, .v (.int .i64 v38))], [(0, some ⟨.box 84 [.v (.int .i64 h0_0), .v (.int .i64 h0_1), .v (.int .i64 h0_2)], false⟩), (1, some ⟨.row 62 (.ints .u32 h1), false⟩)], 2, 61⟩
def V9 : ASt → Option (Int × Int × Int × Int × Int × Int × Int × (List Int))
  | ⟨[(0, .v (.int .i64 v0)), (6, .ptr 0 0), (8, .own 1), (9, .v (.int .u64 v9)), (36, .own 1), (37, .v (.int .i64 v37)), (38, .v (.int .i64 v38))], [(0, some ⟨.box 84 [.v (.int .i64 h0_0), .v (.int .i64 h0_1), .v (.int .i64 h0_2)], false⟩), (1, some ⟨.row 62 (.ints .u32 h1), false⟩)], 2, 61⟩ => some (v0, v9, v37, v38, h0_0, h0_1, h0_2, h1)
  | _ => none
theorem V9_ok (st : ASt) (x : Int × Int × Int × Int × Int × Int × Int × (List Int)) (h : V9 st = some x) : st = S9 x.1 x.2.1 x.2.2.1 x.2.2.2.1 x.2.2.2.2.1 x.2.2.2.2.2.1 x.2.2.2.2.2.2.1 x.2.2.2.2.2.2.2 := by
  unfold V9 at h
  split at h
  · cases h; rfl
  · cases h
noncomputable def L9 : LSpec := fun st K => match V9 st with
  | some x => P.lmots_Digits_l9 x.1 x.2.1 x.2.2.1 x.2.2.2.1 x.2.2.2.2.1 x.2.2.2.2.2.1 x.2.2.2.2.2.2.1 x.2.2.2.2.2.2.2 (fun v0 v9 v37 v38 h0_0 h0_1 h0_2 h1 => K (.exit 1) (S9 v0 v9 v37 v38 h0_0 h0_1 h0_2 h1))
  | none => none
noncomputable def D : Ctx := ({ P := Try.prog, G := [(30, bits_Be.spec), (39, bits_Digits.spec), (74, lmots_known.spec)], globs := [], hints := [(9, ⟨[0, 6, 8, 9, 36, 37, 38], [], [4, 5], []⟩)], loops := [(9, L9)], inl := [] } : Ctx)
def E9 (K : AExit → ASt → Option R) : ((Int × Int × Int × Int × Int × Int × Int × (List Int))) → Option R := (fun x => K (.exit 1) (S9 x.1 x.2.1 x.2.2.1 x.2.2.2.1 x.2.2.2.2.1 x.2.2.2.2.2.1 x.2.2.2.2.2.2.1 x.2.2.2.2.2.2.2))
theorem round9 (K : AExit → ASt → Option R) (next : ASt → Option R) (x : Int × Int × Int × Int × Int × Int × Int × (List Int)) : roundA D (loopAt Try.f47 9) K next (S9 x.1 x.2.1 x.2.2.1 x.2.2.2.1 x.2.2.2.2.1 x.2.2.2.2.2.1 x.2.2.2.2.2.2.1 x.2.2.2.2.2.2.2) = (fun (x : Int × Int × Int × Int × Int × Int × Int × (List Int)) (next : (Int × Int × Int × Int × Int × Int × Int × (List Int)) → Option R) (ex : ((Int × Int × Int × Int × Int × Int × Int × (List Int))) → Option R) => P.lmots_Digits_r9 x.1 x.2.1 x.2.2.1 x.2.2.2.1 x.2.2.2.2.1 x.2.2.2.2.2.1 x.2.2.2.2.2.2.1 x.2.2.2.2.2.2.2 (fun v0 v9 v37 v38 h0_0 h0_1 h0_2 h1 => next (v0, v9, v37, v38, h0_0, h0_1, h0_2, h1)) (fun v0 v9 v37 v38 h0_0 h0_1 h0_2 h1 => ex ((v0, v9, v37, v38, h0_0, h0_1, h0_2, h1)))) x (fun x => next (S9 x.1 x.2.1 x.2.2.1 x.2.2.2.1 x.2.2.2.2.1 x.2.2.2.2.2.1 x.2.2.2.2.2.2.1 x.2.2.2.2.2.2.2)) (E9 K) := by kernel_rfl
theorem lq9 (st : ASt) (K : AExit → ASt → Option R) : L9 st K = vMap (V9 st) (fun x => lp (fun (x : Int × Int × Int × Int × Int × Int × Int × (List Int)) (next : (Int × Int × Int × Int × Int × Int × Int × (List Int)) → Option R) (ex : ((Int × Int × Int × Int × Int × Int × Int × (List Int))) → Option R) => P.lmots_Digits_r9 x.1 x.2.1 x.2.2.1 x.2.2.2.1 x.2.2.2.2.1 x.2.2.2.2.2.1 x.2.2.2.2.2.2.1 x.2.2.2.2.2.2.2 (fun v0 v9 v37 v38 h0_0 h0_1 h0_2 h1 => next (v0, v9, v37, v38, h0_0, h0_1, h0_2, h1)) (fun v0 v9 v37 v38 h0_0 h0_1 h0_2 h1 => ex ((v0, v9, v37, v38, h0_0, h0_1, h0_2, h1)))) x (E9 K)) := by
  unfold L9
  cases V9 st with
  | none => rfl
  | some x => simp only [P.lmots_Digits_l9_eq]; rfl
theorem loop9 : LoopOk D (loopAt Try.f47 9) := loopOk_lp (X := Int × Int × Int × Int × Int × Int × Int × (List Int)) (Y := (Int × Int × Int × Int × Int × Int × Int × (List Int))) (fun x => S9 x.1 x.2.1 x.2.2.1 x.2.2.2.1 x.2.2.2.2.1 x.2.2.2.2.2.1 x.2.2.2.2.2.2.1 x.2.2.2.2.2.2.2) V9_ok (stp := (fun (x : Int × Int × Int × Int × Int × Int × Int × (List Int)) (next : (Int × Int × Int × Int × Int × Int × Int × (List Int)) → Option R) (ex : ((Int × Int × Int × Int × Int × Int × Int × (List Int))) → Option R) => P.lmots_Digits_r9 x.1 x.2.1 x.2.2.1 x.2.2.2.1 x.2.2.2.2.1 x.2.2.2.2.2.1 x.2.2.2.2.2.2.1 x.2.2.2.2.2.2.2 (fun v0 v9 v37 v38 h0_0 h0_1 h0_2 h1 => next (v0, v9, v37, v38, h0_0, h0_1, h0_2, h1)) (fun v0 v9 v37 v38 h0_0 h0_1 h0_2 h1 => ex ((v0, v9, v37, v38, h0_0, h0_1, h0_2, h1))))) (enc := E9) (L := L9) (by kernel_rfl) lq9 round9
theorem body (a0 : Int) (a1 : List Int) (K : AVal → Option R) : bodyA D Try.f47 [.fr 62 (.ints .u32 []), .any] [.v (.int .i64 a0), .sl (.ints .u8 a1)] K = P.lmots_Digits a0 a1 (fun r0 r1 => K (.tuple [.fr 62 (.ints .u32 r0), .v (.int .i64 r1)])) := by
  rw [P.lmots_Digits_eq]
  kernel_rfl
theorem loops : loopsOf (Try.f47.body.getD .skip) = [loopAt Try.f47 9] := by kernel_rfl
noncomputable def spec0 : Abs.Spec := fun args K => match args with
  | [.v (.int .i64 a0), .sl (.ints .u8 a1)] => P.lmots_Digits a0 a1 (fun r0 r1 => K (.tuple [.fr 62 (.ints .u32 r0), .v (.int .i64 r1)]))
  | _ => none
noncomputable def spec : Abs.Spec := fun args K => spec0 (coerL [.any, .sl (.ints .u8 [])] args) K
theorem ok0 : Proved Try.prog [] 47 spec0 := by
  refine proved_of (D := D) (fn := Try.f47) (c := Try.f47.body.getD .skip) [.fr 62 (.ints .u32 []), .any] (by kernel_rfl) (globsPlain_of (by kernel_rfl)) (by kernel_rfl) (by kernel_rfl) (by kernel_rfl) ⟨bits_Be.ok, bits_Digits.ok, lmots_known.ok, trivial⟩ trivial ?_ ?_
  · rw [loops]; exact ⟨loop9, trivial⟩
  · intro args K r h
    unfold spec0 at h
    split at h
    · rw [body]; exact h
    · cases h
theorem ok : Proved Try.prog [] 47 spec := proved_coer _ ok0
end lmots_Digits
end

section
open Go Go.Abs Go.Proofs
set_option maxRecDepth 100000
set_option linter.unusedVariables false
namespace lmots_Size
noncomputable def D : Ctx := ({ P := Try.prog, G := [(74, lmots_known.spec)], globs := [], hints := [], loops := [], inl := [] } : Ctx)
theorem body (a0 : Int) (K : AVal → Option R) : bodyA D Try.f49 [.any] [.v (.int .i64 a0)] K = P.lmots_Size a0 (fun r0 => K (.v (.int .i64 r0))) := by
  rw [P.lmots_Size_eq]
  kernel_rfl
theorem loops : loopsOf (Try.f49.body.getD .skip) = [] := by kernel_rfl
noncomputable def spec0 : Abs.Spec := fun args K => match args with
  | [.v (.int .i64 a0)] => P.lmots_Size a0 (fun r0 => K (.v (.int .i64 r0)))
  | _ => none
noncomputable def spec : Abs.Spec := spec0
theorem ok0 : Proved Try.prog [] 49 spec0 := by
  refine proved_of (D := D) (fn := Try.f49) (c := Try.f49.body.getD .skip) [.any] (by kernel_rfl) (globsPlain_of (by kernel_rfl)) (by kernel_rfl) (by kernel_rfl) (by kernel_rfl) ⟨lmots_known.ok, trivial⟩ trivial ?_ ?_
  · rw [loops]; exact trivial
  · intro args K r h
    unfold spec0 at h
    split at h
    · rw [body]; exact h
    · cases h
theorem ok : Proved Try.prog [] 49 spec := ok0
end lmots_Size
end

section
open Go Go.Abs Go.Proofs
set_option maxRecDepth 100000
set_option linter.unusedVariables false
namespace L14_awake
def S3 (v9 : Int) (v10 : Int) (h0 : List Int) : ASt := ⟨[(1, .own 0), (9, .v (.int .i64 v9)), (10, .v (.int .i64 v10))], [(0, some ⟨.row 5 (.ints .u8 h0), false⟩)], 1, 60⟩
def V3 : ASt → Option (Int × Int × (List Int))
  | ⟨[(1, .own 0), (9, .v (.int .i64 v9)), (10, .v (.int .i64 v10))], [(0, some ⟨.row 5 (.ints .u8 h0), false⟩)], 1, 60⟩ => some (v9, v10, h0)
  | _ => none
theorem V3_ok (st : ASt) (x : Int × Int × (List Int)) (h : V3 st = some x) : st = S3 x.1 x.2.1 x.2.2 := by
  unfold V3 at h
  split at h
  · cases h; rfl
  · cases h
noncomputable def L3 : LSpec := fun st K => match V3 st with
  | some x => P.L14_awake_l3 x.1 x.2.1 x.2.2 (fun v9 v10 h0 => K (.exit 0) (S3 v9 v10 h0))
  | none => none
noncomputable def D : Ctx := ({ P := Try.prog, G := [(47, lmots_Digits.spec), (49, lmots_Size.spec)], globs := [], hints := [(3, ⟨[1, 9, 10], [], [0], []⟩)], loops := [(3, L3)], inl := [] } : Ctx)
def E3 (K : AExit → ASt → Option R) : ((Int × Int × (List Int))) → Option R := (fun x => K (.exit 0) (S3 x.1 x.2.1 x.2.2))
theorem round3 (K : AExit → ASt → Option R) (next : ASt → Option R) (x : Int × Int × (List Int)) : roundA D (loopAt Try.f46 3) K next (S3 x.1 x.2.1 x.2.2) = (fun (x : Int × Int × (List Int)) (next : (Int × Int × (List Int)) → Option R) (ex : ((Int × Int × (List Int))) → Option R) => P.L14_awake_r3 x.1 x.2.1 x.2.2 (fun v9 v10 h0 => next (v9, v10, h0)) (fun v9 v10 h0 => ex ((v9, v10, h0)))) x (fun x => next (S3 x.1 x.2.1 x.2.2)) (E3 K) := by kernel_rfl
theorem lq3 (st : ASt) (K : AExit → ASt → Option R) : L3 st K = vMap (V3 st) (fun x => lp (fun (x : Int × Int × (List Int)) (next : (Int × Int × (List Int)) → Option R) (ex : ((Int × Int × (List Int))) → Option R) => P.L14_awake_r3 x.1 x.2.1 x.2.2 (fun v9 v10 h0 => next (v9, v10, h0)) (fun v9 v10 h0 => ex ((v9, v10, h0)))) x (E3 K)) := by
  unfold L3
  cases V3 st with
  | none => rfl
  | some x => simp only [P.L14_awake_l3_eq]; rfl
theorem loop3 : LoopOk D (loopAt Try.f46 3) := loopOk_lp (X := Int × Int × (List Int)) (Y := (Int × Int × (List Int))) (fun x => S3 x.1 x.2.1 x.2.2) V3_ok (stp := (fun (x : Int × Int × (List Int)) (next : (Int × Int × (List Int)) → Option R) (ex : ((Int × Int × (List Int))) → Option R) => P.L14_awake_r3 x.1 x.2.1 x.2.2 (fun v9 v10 h0 => next (v9, v10, h0)) (fun v9 v10 h0 => ex ((v9, v10, h0))))) (enc := E3) (L := L3) (by kernel_rfl) lq3 round3
theorem body  (K : AVal → Option R) : bodyA D Try.f46 [.any] [] K = P.L14_awake (fun r0 => K (.v (.bool r0))) := by
  rw [P.L14_awake_eq]
  kernel_rfl
theorem loops : loopsOf (Try.f46.body.getD .skip) = [loopAt Try.f46 3] := by kernel_rfl
noncomputable def spec0 : Abs.Spec := fun args K => match args with
  | [] => P.L14_awake (fun r0 => K (.v (.bool r0)))
  | _ => none
noncomputable def spec : Abs.Spec := spec0
theorem ok0 : Proved Try.prog [] 46 spec0 := by
  refine proved_of (D := D) (fn := Try.f46) (c := Try.f46.body.getD .skip) [.any] (by kernel_rfl) (globsPlain_of (by kernel_rfl)) (by kernel_rfl) (by kernel_rfl) (by kernel_rfl) ⟨lmots_Digits.ok, lmots_Size.ok, trivial⟩ trivial ?_ ?_
  · rw [loops]; exact ⟨loop3, trivial⟩
  · intro args K r h
    unfold spec0 at h
    split at h
    · rw [body]; exact h
    · cases h
theorem ok : Proved Try.prog [] 46 spec := ok0
end L14_awake
end

section
open Go Go.Abs Go.Proofs
set_option maxRecDepth 100000
set_option linter.unusedVariables false
namespace L14_LmotsCheck
def S8 (v7 : Int) (v12 : Bool) (v13 : Bool) (v55 : Int) (v56 : Int) (h0_0 : List Int) (h1_0 : List Int) (h2 : List Int) (h3 : List Int) (h4 : List Int) : ASt := ⟨[(4, .ptr 0 0), (5, .ptr 1 0), (7, .v (.int .i64 v7)), (8, .own 3), (10, .own 4), (12, .v (.bool v12)), (13, .v (.bool v13)), (55, .v (.int .i64 v55)), (56, .v (.int .i64 v56))], [(0, some ⟨.box 61 [.arr .u8 32 h0_0], false⟩), (1, some ⟨.box 61 [.arr .u8 32 h1_0], false⟩), (2, some ⟨.row 3 (.ints .i64 h2), false⟩), (3, some ⟨.row 62 (.ints .u32 h3), false⟩), (4, some ⟨.row 62 (.ints .u32 h4), false⟩)], 5, 106⟩
def V8 : ASt → Option (Int × Bool × Bool × Int × Int × (List Int) × (List Int) × (List Int) × (List Int) × (List Int))
  | ⟨[(4, .ptr 0 0), (5, .ptr 1 0), (7, .v (.int .i64 v7)), (8, .own 3), (10, .own 4), (12, .v (.bool v12)), (13, .v (.bool v13)), (55, .v (.int .i64 v55)), (56, .v (.int .i64 v56))], [(0, some ⟨.box 61 [.arr .u8 32 h0_0], false⟩), (1, some ⟨.box 61 [.arr .u8 32 h1_0], false⟩), (2, some ⟨.row 3 (.ints .i64 h2), false⟩), (3, some ⟨.row 62 (.ints .u32 h3), false⟩), (4, some ⟨.row 62 (.ints .u32 h4), false⟩)], 5, 106⟩ => some (v7, v12, v13, v55, v56, h0_0, h1_0, h2, h3, h4)
  | _ => none
theorem V8_ok (st : ASt) (x : Int × Bool × Bool × Int × Int × (List Int) × (List Int) × (List Int) × (List Int) × (List Int)) (h : V8 st = some x) : st = S8 x.1 x.2.1 x.2.2.1 x.2.2.2.1 x.2.2.2.2.1 x.2.2.2.2.2.1 x.2.2.2.2.2.2.1 x.2.2.2.2.2.2.2.1 x.2.2.2.2.2.2.2.2.1 x.2.2.2.2.2.2.2.2.2 := by
  unfold V8 at h
  split at h
  · cases h; rfl
  · cases h
noncomputable def L8 : LSpec := fun st K => match V8 st with
  | some x => P.L14_LmotsCheck_l8 x.1 x.2.1 x.2.2.1 x.2.2.2.1 x.2.2.2.2.1 x.2.2.2.2.2.1 x.2.2.2.2.2.2.1 x.2.2.2.2.2.2.2.1 x.2.2.2.2.2.2.2.2.1 x.2.2.2.2.2.2.2.2.2 (fun v7 v12 v13 v55 v56 h0_0 h1_0 h2 h3 h4 => K (.exit 0) (S8 v7 v12 v13 v55 v56 h0_0 h1_0 h2 h3 h4)) (fun v6 h0_0 h1_0 h2 h3 h4 => K .ret ⟨[(6, .v (.bool v6))], [(0, some ⟨.box 61 [.arr .u8 32 h0_0], false⟩), (1, some ⟨.box 61 [.arr .u8 32 h1_0], false⟩), (2, some ⟨.row 3 (.ints .i64 h2), false⟩), (3, some ⟨.row 62 (.ints .u32 h3), false⟩), (4, some ⟨.row 62 (.ints .u32 h4), false⟩)], 5, 106⟩)
  | none => none
noncomputable def D : Ctx := ({ P := Try.prog, G := [(46, L14_awake.spec), (47, lmots_Digits.spec), (49, lmots_Size.spec)], globs := [], hints := [(8, ⟨[4, 5, 7, 8, 10, 12, 13, 55, 56], [], [6], []⟩)], loops := [(8, L8)], inl := [] } : Ctx)
def E8 (K : AExit → ASt → Option R) : ((Int × Bool × Bool × Int × Int × (List Int) × (List Int) × (List Int) × (List Int) × (List Int)) ⊕ ((Bool × (List Int) × (List Int) × (List Int) × (List Int) × (List Int)))) → Option R := (Sum.elim (fun x => K (.exit 0) (S8 x.1 x.2.1 x.2.2.1 x.2.2.2.1 x.2.2.2.2.1 x.2.2.2.2.2.1 x.2.2.2.2.2.2.1 x.2.2.2.2.2.2.2.1 x.2.2.2.2.2.2.2.2.1 x.2.2.2.2.2.2.2.2.2)) (fun x => K .ret ⟨[(6, .v (.bool x.1))], [(0, some ⟨.box 61 [.arr .u8 32 x.2.1], false⟩), (1, some ⟨.box 61 [.arr .u8 32 x.2.2.1], false⟩), (2, some ⟨.row 3 (.ints .i64 x.2.2.2.1), false⟩), (3, some ⟨.row 62 (.ints .u32 x.2.2.2.2.1), false⟩), (4, some ⟨.row 62 (.ints .u32 x.2.2.2.2.2), false⟩)], 5, 106⟩))
theorem round8 (K : AExit → ASt → Option R) (next : ASt → Option R) (x : Int × Bool × Bool × Int × Int × (List Int) × (List Int) × (List Int) × (List Int) × (List Int)) : roundA D (loopAt Try.f8 8) K next (S8 x.1 x.2.1 x.2.2.1 x.2.2.2.1 x.2.2.2.2.1 x.2.2.2.2.2.1 x.2.2.2.2.2.2.1 x.2.2.2.2.2.2.2.1 x.2.2.2.2.2.2.2.2.1 x.2.2.2.2.2.2.2.2.2) = (fun (x : Int × Bool × Bool × Int × Int × (List Int) × (List Int) × (List Int) × (List Int) × (List Int)) (next : (Int × Bool × Bool × Int × Int × (List Int) × (List Int) × (List Int) × (List Int) × (List Int)) → Option R) (ex : ((Int × Bool × Bool × Int × Int × (List Int) × (List Int) × (List Int) × (List Int) × (List Int)) ⊕ ((Bool × (List Int) × (List Int) × (List Int) × (List Int) × (List Int)))) → Option R) => P.L14_LmotsCheck_r8 x.1 x.2.1 x.2.2.1 x.2.2.2.1 x.2.2.2.2.1 x.2.2.2.2.2.1 x.2.2.2.2.2.2.1 x.2.2.2.2.2.2.2.1 x.2.2.2.2.2.2.2.2.1 x.2.2.2.2.2.2.2.2.2 (fun v7 v12 v13 v55 v56 h0_0 h1_0 h2 h3 h4 => next (v7, v12, v13, v55, v56, h0_0, h1_0, h2, h3, h4)) (fun v7 v12 v13 v55 v56 h0_0 h1_0 h2 h3 h4 => ex (.inl (v7, v12, v13, v55, v56, h0_0, h1_0, h2, h3, h4))) (fun v6 h0_0 h1_0 h2 h3 h4 => ex (.inr (v6, h0_0, h1_0, h2, h3, h4)))) x (fun x => next (S8 x.1 x.2.1 x.2.2.1 x.2.2.2.1 x.2.2.2.2.1 x.2.2.2.2.2.1 x.2.2.2.2.2.2.1 x.2.2.2.2.2.2.2.1 x.2.2.2.2.2.2.2.2.1 x.2.2.2.2.2.2.2.2.2)) (E8 K) := by kernel_rfl
theorem lq8 (st : ASt) (K : AExit → ASt → Option R) : L8 st K = vMap (V8 st) (fun x => lp (fun (x : Int × Bool × Bool × Int × Int × (List Int) × (List Int) × (List Int) × (List Int) × (List Int)) (next : (Int × Bool × Bool × Int × Int × (List Int) × (List Int) × (List Int) × (List Int) × (List Int)) → Option R) (ex : ((Int × Bool × Bool × Int × Int × (List Int) × (List Int) × (List Int) × (List Int) × (List Int)) ⊕ ((Bool × (List Int) × (List Int) × (List Int) × (List Int) × (List Int)))) → Option R) => P.L14_LmotsCheck_r8 x.1 x.2.1 x.2.2.1 x.2.2.2.1 x.2.2.2.2.1 x.2.2.2.2.2.1 x.2.2.2.2.2.2.1 x.2.2.2.2.2.2.2.1 x.2.2.2.2.2.2.2.2.1 x.2.2.2.2.2.2.2.2.2 (fun v7 v12 v13 v55 v56 h0_0 h1_0 h2 h3 h4 => next (v7, v12, v13, v55, v56, h0_0, h1_0, h2, h3, h4)) (fun v7 v12 v13 v55 v56 h0_0 h1_0 h2 h3 h4 => ex (.inl (v7, v12, v13, v55, v56, h0_0, h1_0, h2, h3, h4))) (fun v6 h0_0 h1_0 h2 h3 h4 => ex (.inr (v6, h0_0, h1_0, h2, h3, h4)))) x (E8 K)) := by
  unfold L8
  cases V8 st with
  | none => rfl
  | some x => simp only [P.L14_LmotsCheck_l8_eq]; rfl
theorem loop8 : LoopOk D (loopAt Try.f8 8) := loopOk_lp (X := Int × Bool × Bool × Int × Int × (List Int) × (List Int) × (List Int) × (List Int) × (List Int)) (Y := (Int × Bool × Bool × Int × Int × (List Int) × (List Int) × (List Int) × (List Int) × (List Int)) ⊕ ((Bool × (List Int) × (List Int) × (List Int) × (List Int) × (List Int)))) (fun x => S8 x.1 x.2.1 x.2.2.1 x.2.2.2.1 x.2.2.2.2.1 x.2.2.2.2.2.1 x.2.2.2.2.2.2.1 x.2.2.2.2.2.2.2.1 x.2.2.2.2.2.2.2.2.1 x.2.2.2.2.2.2.2.2.2) V8_ok (stp := (fun (x : Int × Bool × Bool × Int × Int × (List Int) × (List Int) × (List Int) × (List Int) × (List Int)) (next : (Int × Bool × Bool × Int × Int × (List Int) × (List Int) × (List Int) × (List Int) × (List Int)) → Option R) (ex : ((Int × Bool × Bool × Int × Int × (List Int) × (List Int) × (List Int) × (List Int) × (List Int)) ⊕ ((Bool × (List Int) × (List Int) × (List Int) × (List Int) × (List Int)))) → Option R) => P.L14_LmotsCheck_r8 x.1 x.2.1 x.2.2.1 x.2.2.2.1 x.2.2.2.2.1 x.2.2.2.2.2.1 x.2.2.2.2.2.2.1 x.2.2.2.2.2.2.2.1 x.2.2.2.2.2.2.2.2.1 x.2.2.2.2.2.2.2.2.2 (fun v7 v12 v13 v55 v56 h0_0 h1_0 h2 h3 h4 => next (v7, v12, v13, v55, v56, h0_0, h1_0, h2, h3, h4)) (fun v7 v12 v13 v55 v56 h0_0 h1_0 h2 h3 h4 => ex (.inl (v7, v12, v13, v55, v56, h0_0, h1_0, h2, h3, h4))) (fun v6 h0_0 h1_0 h2 h3 h4 => ex (.inr (v6, h0_0, h1_0, h2, h3, h4))))) (enc := E8) (L := L8) (by kernel_rfl) lq8 round8
theorem body (a0 : Int) (a1 : List Int) (a2 : List Int) (K : AVal → Option R) : bodyA D Try.f8 [.any] [.v (.int .u8 a0), .arr .u8 32 a1, .arr .u8 32 a2] K = P.L14_LmotsCheck a0 a1 a2 (fun r0 => K (.v (.bool r0))) := by
  rw [P.L14_LmotsCheck_eq]
  kernel_rfl
theorem loops : loopsOf (Try.f8.body.getD .skip) = [loopAt Try.f8 8] := by kernel_rfl
noncomputable def spec0 : Abs.Spec := fun args K => match args with
  | [.v (.int .u8 a0), .arr .u8 32 a1, .arr .u8 32 a2] => P.L14_LmotsCheck a0 a1 a2 (fun r0 => K (.v (.bool r0)))
  | _ => none
noncomputable def spec : Abs.Spec := spec0
theorem ok0 : Proved Try.prog [] 8 spec0 := by
  refine proved_of (D := D) (fn := Try.f8) (c := Try.f8.body.getD .skip) [.any] (by kernel_rfl) (globsPlain_of (by kernel_rfl)) (by kernel_rfl) (by kernel_rfl) (by kernel_rfl) ⟨L14_awake.ok, lmots_Digits.ok, lmots_Size.ok, trivial⟩ trivial ?_ ?_
  · rw [loops]; exact ⟨loop8, trivial⟩
  · intro args K r h
    unfold spec0 at h
    split at h
    · rw [body]; exact h
    · cases h
theorem ok : Proved Try.prog [] 8 spec := ok0
end L14_LmotsCheck
end
