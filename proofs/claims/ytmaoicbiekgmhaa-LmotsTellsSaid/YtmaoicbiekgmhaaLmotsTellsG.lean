/-
  LmotsTells, part G: an interpreter of my own over abstract values, the pure functions, the walks and the plain law.
-/

import Derived.Test.YtmaoicbiekgmhaaLmotsTellsF
import Derived.Test.YtmaoicbiekgmhaaProg
import Derived.KernelRfl

section
open Go Go.Abs
set_option linter.unusedVariables false
namespace P
noncomputable def R01_SameNums_r4 {ρ : Type} (v0 : List Int) (v1 : List Int) (v5 : Int) (nx : (List Int) → (List Int) → Int → Option ρ) (k0 : (List Int) → (List Int) → Int → Option ρ) (k1 : Bool → Option ρ) : Option ρ :=
  br (decide (v5 < (↑v0.length : Int)))
    (br (decide ((0 : Int) ≤ v5))
      (br (decide (v5 < (↑v0.length : Int)))
        (br (decide ((0 : Int) ≤ v5))
          (br (decide (v5 < (↑v1.length : Int)))
            (br (v0.getD v5.toNat (0 : Int) != v1.getD v5.toNat (0 : Int)) (k1 false)
              (nx v0 v1 (IntKind.i64.wrap (v5 + (1 : Int)))))
            none)
          none)
        none)
      none)
    (k0 v0 v1 v5)
noncomputable def R01_SameNums_L4 {ρ : Type} (v0 : List Int) (v1 : List Int) (v5 : Int) (k0 : (List Int) → (List Int) → Int → Option ρ) (k1 : Bool → Option ρ) : Option ρ :=
  lp (fun (x : (List Int) × (List Int) × Int) (next : ((List Int) × (List Int) × Int) → Option ρ) (ex : (((List Int) × (List Int) × Int) ⊕ ((Bool))) → Option ρ) => R01_SameNums_r4 x.1 x.2.1 x.2.2 (fun v0 v1 v5 => next (v0, v1, v5)) (fun v0 v1 v5 => ex (.inl (v0, v1, v5))) (fun v4 => ex (.inr v4))) (v0, v1, v5) (Sum.elim (fun x => k0 x.1 x.2.1 x.2.2) (fun x => k1 x))
noncomputable def R01_SameNums_l4 {ρ : Type} (v0 : List Int) (v1 : List Int) (v5 : Int) (k0 : (List Int) → (List Int) → Int → Option ρ) (k1 : Bool → Option ρ) : Option ρ := shut (R01_SameNums_L4 (ρ := ρ)) v0 v1 v5 k0 k1
theorem R01_SameNums_l4_eq {ρ : Type} (v0 : List Int) (v1 : List Int) (v5 : Int) (k0 : (List Int) → (List Int) → Int → Option ρ) (k1 : Bool → Option ρ) : R01_SameNums_l4 v0 v1 v5 k0 k1 = R01_SameNums_L4 v0 v1 v5 k0 k1 := by unfold R01_SameNums_l4; rw [shut_eq]
noncomputable def R01_SameNums_raw {ρ : Type} (a0 : List Int) (a1 : List Int) (k : Bool → Option ρ) : Option ρ :=
  br ((↑a0.length : Int) != (↑a1.length : Int)) (k false)
    (R01_SameNums_l4 a0 a1 (0 : Int) (fun (q0 q1 : List Int) (q2 : Int) => k true) fun (q3 : Bool) => k q3)
noncomputable def R01_SameNums {ρ : Type} (a0 : List Int) (a1 : List Int) (k : Bool → Option ρ) : Option ρ := shut (R01_SameNums_raw (ρ := ρ)) a0 a1 k
theorem R01_SameNums_eq {ρ : Type} (a0 : List Int) (a1 : List Int) (k : Bool → Option ρ) : R01_SameNums a0 a1 k = R01_SameNums_raw a0 a1 k := by unfold R01_SameNums; rw [shut_eq]

end P
end

section
open Go Go.Abs
set_option linter.unusedVariables false
namespace P
noncomputable def L14_few_r2 {ρ : Type} (v5 : List (List Int)) (v6 : Int) (v7 : Int) (nx : (List (List Int)) → Int → Int → Option ρ) (k0 : (List (List Int)) → Int → Int → Option ρ) (k1 : Bool → Option ρ) : Option ρ :=
  br (decide (v7 < v6))
    (br (decide ((0 : Int) ≤ v7))
      (br (decide (v7 < (↑v5.length : Int)))
        (br (decide ((↑(v5.getD v7.toNat []).length : Int) > (300 : Int))) (k1 false)
          (nx v5 v6 (IntKind.i64.wrap (v7 + (1 : Int)))))
        none)
      none)
    (k0 v5 v6 v7)
noncomputable def L14_few_L2 {ρ : Type} (v5 : List (List Int)) (v6 : Int) (v7 : Int) (k0 : (List (List Int)) → Int → Int → Option ρ) (k1 : Bool → Option ρ) : Option ρ :=
  lp (fun (x : (List (List Int)) × Int × Int) (next : ((List (List Int)) × Int × Int) → Option ρ) (ex : (((List (List Int)) × Int × Int) ⊕ ((Bool))) → Option ρ) => L14_few_r2 x.1 x.2.1 x.2.2 (fun v5 v6 v7 => next (v5, v6, v7)) (fun v5 v6 v7 => ex (.inl (v5, v6, v7))) (fun v2 => ex (.inr v2))) (v5, v6, v7) (Sum.elim (fun x => k0 x.1 x.2.1 x.2.2) (fun x => k1 x))
noncomputable def L14_few_l2 {ρ : Type} (v5 : List (List Int)) (v6 : Int) (v7 : Int) (k0 : (List (List Int)) → Int → Int → Option ρ) (k1 : Bool → Option ρ) : Option ρ := shut (L14_few_L2 (ρ := ρ)) v5 v6 v7 k0 k1
theorem L14_few_l2_eq {ρ : Type} (v5 : List (List Int)) (v6 : Int) (v7 : Int) (k0 : (List (List Int)) → Int → Int → Option ρ) (k1 : Bool → Option ρ) : L14_few_l2 v5 v6 v7 k0 k1 = L14_few_L2 v5 v6 v7 k0 k1 := by unfold L14_few_l2; rw [shut_eq]
noncomputable def L14_few_raw {ρ : Type} (a0 : List (List Int)) (k : Bool → Option ρ) : Option ρ :=
  L14_few_l2 a0 (↑a0.length : Int) (0 : Int) (fun (q0 : List (List Int)) (q1 q2 : Int) => k true) fun (q3 : Bool) =>
    k q3
noncomputable def L14_few {ρ : Type} (a0 : List (List Int)) (k : Bool → Option ρ) : Option ρ := shut (L14_few_raw (ρ := ρ)) a0 k
theorem L14_few_eq {ρ : Type} (a0 : List (List Int)) (k : Bool → Option ρ) : L14_few a0 k = L14_few_raw a0 k := by unfold L14_few; rw [shut_eq]

end P
end

section
open Go Go.Abs
set_option linter.unusedVariables false
namespace P
noncomputable def bits_Le_r5 {ρ : Type} (v0 : Int) (v16 : Int) (v17 : Int) (h0 : List Int) (nx : Int → Int → Int → (List Int) → Option ρ) (k0 : Int → Int → Int → (List Int) → Option ρ) : Option ρ :=
  br (decide (v17 < v16))
    (br (decide (IntKind.i64.wrap ((8 : Int) * v17) < (0 : Int))) none
      (br (decide ((0 : Int) ≤ v17))
        (br (decide (v17 < (↑h0.length : Int)))
          (nx v0 v16 (IntKind.i64.wrap (v17 + (1 : Int)))
            (h0.set v17.toNat
              (IntKind.u8.wrap (v0.fdiv ((2 : Int) ^ min (IntKind.i64.wrap ((8 : Int) * v17)).toNat 64)))))
          none)
        none))
    (k0 v0 v16 v17 h0)
noncomputable def bits_Le_L5 {ρ : Type} (v0 : Int) (v16 : Int) (v17 : Int) (h0 : List Int) (k0 : Int → Int → Int → (List Int) → Option ρ) : Option ρ :=
  lp (fun (x : Int × Int × Int × (List Int)) (next : (Int × Int × Int × (List Int)) → Option ρ) (ex : ((Int × Int × Int × (List Int))) → Option ρ) => bits_Le_r5 x.1 x.2.1 x.2.2.1 x.2.2.2 (fun v0 v16 v17 h0 => next (v0, v16, v17, h0)) (fun v0 v16 v17 h0 => ex ((v0, v16, v17, h0)))) (v0, v16, v17, h0) (fun x => k0 x.1 x.2.1 x.2.2.1 x.2.2.2)
noncomputable def bits_Le_l5 {ρ : Type} (v0 : Int) (v16 : Int) (v17 : Int) (h0 : List Int) (k0 : Int → Int → Int → (List Int) → Option ρ) : Option ρ := shut (bits_Le_L5 (ρ := ρ)) v0 v16 v17 h0 k0
theorem bits_Le_l5_eq {ρ : Type} (v0 : Int) (v16 : Int) (v17 : Int) (h0 : List Int) (k0 : Int → Int → Int → (List Int) → Option ρ) : bits_Le_l5 v0 v16 v17 h0 k0 = bits_Le_L5 v0 v16 v17 h0 k0 := by unfold bits_Le_l5; rw [shut_eq]
noncomputable def bits_Le_raw {ρ : Type} (a0 : Int) (a1 : Int) (k : (List Int) → Option ρ) : Option ρ :=
  br (decide (a1 < (0 : Int))) (k [])
    (br (decide (a1 > (65536 : Int))) (k [])
      (br (decide ((0 : Int) ≤ a1))
        (br (decide (a1 ≤ a1))
          (br (decide (a1 * (↑1 : Int) ≤ (↑140737488355328 : Int)))
            (bits_Le_l5 a0 (bif decide ((8 : Int) < a1) then (8 : Int) else a1) (0 : Int)
              (List.replicate a1.toNat (0 : Int)) fun (q0 q1 q2 : Int) (q3 : List Int) => k q3)
            none)
          none)
        none))
noncomputable def bits_Le {ρ : Type} (a0 : Int) (a1 : Int) (k : (List Int) → Option ρ) : Option ρ := shut (bits_Le_raw (ρ := ρ)) a0 a1 k
theorem bits_Le_eq {ρ : Type} (a0 : Int) (a1 : Int) (k : (List Int) → Option ρ) : bits_Le a0 a1 k = bits_Le_raw a0 a1 k := by unfold bits_Le; rw [shut_eq]

end P
end

section
open Go Go.Abs
set_option linter.unusedVariables false
namespace P
noncomputable def bits_Be_r1_1 {ρ : Type} (v2 : Int) (v3 : Int) (h0 : List Int) (nx : Int → Int → (List Int) → Option ρ) (k0 : Int → Int → (List Int) → Option ρ) : Option ρ :=
  br (decide (v2 < v3))
    (br (decide ((0 : Int) ≤ v3))
      (br (decide (v3 < (↑h0.length : Int)))
        (br (decide ((0 : Int) ≤ v2))
          (br (decide (v2 < (↑h0.length : Int)))
            (br (decide ((0 : Int) ≤ v2))
              (br (decide (v2 < (↑h0.length : Int)))
                (br (decide ((0 : Int) ≤ v3))
                  (br (decide (v3 < (↑(h0.set v2.toNat (h0.getD v3.toNat (0 : Int))).length : Int)))
                    (nx (IntKind.i64.wrap (v2 + (1 : Int))) (IntKind.i64.wrap (v3 - (1 : Int)))
                      ((h0.set v2.toNat (h0.getD v3.toNat (0 : Int))).set v3.toNat (h0.getD v2.toNat (0 : Int))))
                    none)
                  none)
                none)
              none)
            none)
          none)
        none)
      none)
    (k0 v2 v3 h0)
noncomputable def bits_Be_L1_1 {ρ : Type} (v2 : Int) (v3 : Int) (h0 : List Int) (k0 : Int → Int → (List Int) → Option ρ) : Option ρ :=
  lp (fun (x : Int × Int × (List Int)) (next : (Int × Int × (List Int)) → Option ρ) (ex : ((Int × Int × (List Int))) → Option ρ) => bits_Be_r1_1 x.1 x.2.1 x.2.2 (fun v2 v3 h0 => next (v2, v3, h0)) (fun v2 v3 h0 => ex ((v2, v3, h0)))) (v2, v3, h0) (fun x => k0 x.1 x.2.1 x.2.2)
noncomputable def bits_Be_l1_1 {ρ : Type} (v2 : Int) (v3 : Int) (h0 : List Int) (k0 : Int → Int → (List Int) → Option ρ) : Option ρ := shut (bits_Be_L1_1 (ρ := ρ)) v2 v3 h0 k0
theorem bits_Be_l1_1_eq {ρ : Type} (v2 : Int) (v3 : Int) (h0 : List Int) (k0 : Int → Int → (List Int) → Option ρ) : bits_Be_l1_1 v2 v3 h0 k0 = bits_Be_L1_1 v2 v3 h0 k0 := by unfold bits_Be_l1_1; rw [shut_eq]
noncomputable def bits_Be_raw {ρ : Type} (a0 : Int) (a1 : Int) (k : (List Int) → Option ρ) : Option ρ :=
  bits_Le a0 a1 fun (q0 : List Int) =>
    bits_Be_l1_1 (0 : Int) (IntKind.i64.wrap ((↑q0.length : Int) - (1 : Int))) q0 fun (q1 q2 : Int) (q3 : List Int) =>
      k q3
noncomputable def bits_Be {ρ : Type} (a0 : Int) (a1 : Int) (k : (List Int) → Option ρ) : Option ρ := shut (bits_Be_raw (ρ := ρ)) a0 a1 k
theorem bits_Be_eq {ρ : Type} (a0 : Int) (a1 : Int) (k : (List Int) → Option ρ) : bits_Be a0 a1 k = bits_Be_raw a0 a1 k := by unfold bits_Be; rw [shut_eq]

end P
end

section
open Go Go.Abs
set_option linter.unusedVariables false
namespace P
noncomputable def bits_such_raw {ρ : Type} (a0 : List Int) (a1 : Int) (a2 : Int) (k : Bool → Option ρ) : Option ρ :=
  br (decide (a1 ≥ (1 : Int)))
    (br (decide (a1 ≤ (24 : Int)))
      (br (decide (a2 ≥ (0 : Int)))
        (br (decide (a1 = (0 : Int))) none
          (k (decide (a2 ≤ IntKind.i64.wrap ((IntKind.i64.wrap ((↑a0.length : Int) * (8 : Int))).tdiv a1)))))
        (k false))
      (k false))
    (k false)
noncomputable def bits_such {ρ : Type} (a0 : List Int) (a1 : Int) (a2 : Int) (k : Bool → Option ρ) : Option ρ := shut (bits_such_raw (ρ := ρ)) a0 a1 a2 k
theorem bits_such_eq {ρ : Type} (a0 : List Int) (a1 : Int) (a2 : Int) (k : Bool → Option ρ) : bits_such a0 a1 a2 k = bits_such_raw a0 a1 a2 k := by unfold bits_such; rw [shut_eq]

end P
end

section
open Go Go.Abs
set_option linter.unusedVariables false
namespace P
noncomputable def bits_Digits_r8 {ρ : Type} (v0 : List Int) (v1 : Int) (v8 : Int) (v9 : Int) (v10 : Int) (v19 : Int) (v20 : Int) (h0 : List Int) (nx : (List Int) → Int → Int → Int → Int → Int → Int → (List Int) → Option ρ) (k0 : (List Int) → Int → Int → Int → Int → Int → Int → (List Int) → Option ρ) : Option ρ :=
  br (decide (v9 < v1))
    (br (decide ((0 : Int) < (↑v0.length : Int)))
      (br (decide ((1 : Int) ≤ (↑v0.length : Int)))
        (br (decide ((↑v0.length : Int) ≤ (↑v0.length : Int)))
          (nx (List.drop 1 (List.take (↑v0.length : Int).toNat v0)) v1
            (bits BinOp.or IntKind.u64 (IntKind.u64.wrap (v8 * (2 : Int) ^ 8))
              (IntKind.u64.wrap (v0.getD 0 (0 : Int))))
            (IntKind.i64.wrap (v9 + (8 : Int))) v10 v19 v20 h0)
          none)
        none)
      none)
    (k0 v0 v1 v8 v9 v10 v19 v20 h0)
noncomputable def bits_Digits_L8 {ρ : Type} (v0 : List Int) (v1 : Int) (v8 : Int) (v9 : Int) (v10 : Int) (v19 : Int) (v20 : Int) (h0 : List Int) (k0 : (List Int) → Int → Int → Int → Int → Int → Int → (List Int) → Option ρ) : Option ρ :=
  lp (fun (x : (List Int) × Int × Int × Int × Int × Int × Int × (List Int)) (next : ((List Int) × Int × Int × Int × Int × Int × Int × (List Int)) → Option ρ) (ex : (((List Int) × Int × Int × Int × Int × Int × Int × (List Int))) → Option ρ) => bits_Digits_r8 x.1 x.2.1 x.2.2.1 x.2.2.2.1 x.2.2.2.2.1 x.2.2.2.2.2.1 x.2.2.2.2.2.2.1 x.2.2.2.2.2.2.2 (fun v0 v1 v8 v9 v10 v19 v20 h0 => next (v0, v1, v8, v9, v10, v19, v20, h0)) (fun v0 v1 v8 v9 v10 v19 v20 h0 => ex ((v0, v1, v8, v9, v10, v19, v20, h0)))) (v0, v1, v8, v9, v10, v19, v20, h0) (fun x => k0 x.1 x.2.1 x.2.2.1 x.2.2.2.1 x.2.2.2.2.1 x.2.2.2.2.2.1 x.2.2.2.2.2.2.1 x.2.2.2.2.2.2.2)
noncomputable def bits_Digits_l8 {ρ : Type} (v0 : List Int) (v1 : Int) (v8 : Int) (v9 : Int) (v10 : Int) (v19 : Int) (v20 : Int) (h0 : List Int) (k0 : (List Int) → Int → Int → Int → Int → Int → Int → (List Int) → Option ρ) : Option ρ := shut (bits_Digits_L8 (ρ := ρ)) v0 v1 v8 v9 v10 v19 v20 h0 k0
theorem bits_Digits_l8_eq {ρ : Type} (v0 : List Int) (v1 : Int) (v8 : Int) (v9 : Int) (v10 : Int) (v19 : Int) (v20 : Int) (h0 : List Int) (k0 : (List Int) → Int → Int → Int → Int → Int → Int → (List Int) → Option ρ) : bits_Digits_l8 v0 v1 v8 v9 v10 v19 v20 h0 k0 = bits_Digits_L8 v0 v1 v8 v9 v10 v19 v20 h0 k0 := by unfold bits_Digits_l8; rw [shut_eq]
noncomputable def bits_Digits_r6 {ρ : Type} (v0 : List Int) (v1 : Int) (v8 : Int) (v9 : Int) (v19 : Int) (v20 : Int) (h0 : List Int) (nx : (List Int) → Int → Int → Int → Int → Int → (List Int) → Option ρ) (k0 : (List Int) → Int → Int → Int → Int → Int → (List Int) → Option ρ) : Option ρ :=
  br (decide (v20 < v19))
    (bits_Digits_l8 v0 v1 v8 v9 v20 v19 v20 h0 fun (q0 : List Int) (q1 q2 q3 q4 q5 q6 : Int) (q7 : List Int) =>
      br (decide (IntKind.i64.wrap (q3 - q1) < (0 : Int))) none
        (br (decide (q1 < (0 : Int))) none
          (br (decide ((0 : Int) ≤ q4))
            (br (decide (q4 < (↑q7.length : Int)))
              (nx q0 q1 q2 (IntKind.i64.wrap (q3 - q1)) q5 (IntKind.i64.wrap (q6 + (1 : Int)))
                (q7.set q4.toNat
                  (IntKind.u32.wrap
                    (bits BinOp.and IntKind.u64
                      (q2.fdiv ((2 : Int) ^ min (IntKind.i64.wrap (q3 - q1)).toNat 64))
                      (IntKind.u64.wrap
                        (IntKind.u64.wrap ((1 : Int) * (2 : Int) ^ min q1.toNat 64) - (1 : Int)))))))
              none)
            none)))
    (k0 v0 v1 v8 v9 v19 v20 h0)
noncomputable def bits_Digits_L6 {ρ : Type} (v0 : List Int) (v1 : Int) (v8 : Int) (v9 : Int) (v19 : Int) (v20 : Int) (h0 : List Int) (k0 : (List Int) → Int → Int → Int → Int → Int → (List Int) → Option ρ) : Option ρ :=
  lp (fun (x : (List Int) × Int × Int × Int × Int × Int × (List Int)) (next : ((List Int) × Int × Int × Int × Int × Int × (List Int)) → Option ρ) (ex : (((List Int) × Int × Int × Int × Int × Int × (List Int))) → Option ρ) => bits_Digits_r6 x.1 x.2.1 x.2.2.1 x.2.2.2.1 x.2.2.2.2.1 x.2.2.2.2.2.1 x.2.2.2.2.2.2 (fun v0 v1 v8 v9 v19 v20 h0 => next (v0, v1, v8, v9, v19, v20, h0)) (fun v0 v1 v8 v9 v19 v20 h0 => ex ((v0, v1, v8, v9, v19, v20, h0)))) (v0, v1, v8, v9, v19, v20, h0) (fun x => k0 x.1 x.2.1 x.2.2.1 x.2.2.2.1 x.2.2.2.2.1 x.2.2.2.2.2.1 x.2.2.2.2.2.2)
noncomputable def bits_Digits_l6 {ρ : Type} (v0 : List Int) (v1 : Int) (v8 : Int) (v9 : Int) (v19 : Int) (v20 : Int) (h0 : List Int) (k0 : (List Int) → Int → Int → Int → Int → Int → (List Int) → Option ρ) : Option ρ := shut (bits_Digits_L6 (ρ := ρ)) v0 v1 v8 v9 v19 v20 h0 k0
theorem bits_Digits_l6_eq {ρ : Type} (v0 : List Int) (v1 : Int) (v8 : Int) (v9 : Int) (v19 : Int) (v20 : Int) (h0 : List Int) (k0 : (List Int) → Int → Int → Int → Int → Int → (List Int) → Option ρ) : bits_Digits_l6 v0 v1 v8 v9 v19 v20 h0 k0 = bits_Digits_L6 v0 v1 v8 v9 v19 v20 h0 k0 := by unfold bits_Digits_l6; rw [shut_eq]
noncomputable def bits_Digits_raw {ρ : Type} (a0 : List Int) (a1 : Int) (a2 : Int) (k : (List Int) → Option ρ) : Option ρ :=
  bits_such a0 a1 a2 fun (q0 : Bool) =>
    br (!q0) (k [])
      (br (decide ((0 : Int) ≤ a2))
        (br (decide (a2 ≤ a2))
          (br (decide (a2 * (↑4 : Int) ≤ (↑140737488355328 : Int)))
            (bits_Digits_l6 a0 a1 (0 : Int) (0 : Int) (↑(List.replicate a2.toNat (0 : Int)).length : Int) (0 : Int)
              (List.replicate a2.toNat (0 : Int)) fun (q1 : List Int) (q2 q3 q4 q5 q6 : Int) (q7 : List Int) => k q7)
            none)
          none)
        none)
noncomputable def bits_Digits {ρ : Type} (a0 : List Int) (a1 : Int) (a2 : Int) (k : (List Int) → Option ρ) : Option ρ := shut (bits_Digits_raw (ρ := ρ)) a0 a1 a2 k
theorem bits_Digits_eq {ρ : Type} (a0 : List Int) (a1 : Int) (a2 : Int) (k : (List Int) → Option ρ) : bits_Digits a0 a1 a2 k = bits_Digits_raw a0 a1 a2 k := by unfold bits_Digits; rw [shut_eq]

end P
end

section
open Go Go.Abs
set_option linter.unusedVariables false
namespace P
noncomputable def lmots_known_raw {ρ : Type} (a0 : Int) (k : Int → Int → Int → Bool → Option ρ) : Option ρ :=
  br (a0 == (1 : Int)) (k (265 : Int) (7 : Int) (1 : Int) true)
    (br (a0 == (2 : Int)) (k (133 : Int) (6 : Int) (2 : Int) true)
      (br (a0 == (4 : Int)) (k (67 : Int) (4 : Int) (3 : Int) true)
        (br (a0 == (8 : Int)) (k (34 : Int) (0 : Int) (4 : Int) true) (k (0 : Int) (0 : Int) (0 : Int) false))))
noncomputable def lmots_known {ρ : Type} (a0 : Int) (k : Int → Int → Int → Bool → Option ρ) : Option ρ := shut (lmots_known_raw (ρ := ρ)) a0 k
theorem lmots_known_eq {ρ : Type} (a0 : Int) (k : Int → Int → Int → Bool → Option ρ) : lmots_known a0 k = lmots_known_raw a0 k := by unfold lmots_known; rw [shut_eq]

end P
end

section
open Go Go.Abs
set_option linter.unusedVariables false
namespace P
noncomputable def lmots_Digits_r9 {ρ : Type} (v0 : Int) (v9 : Int) (v37 : Int) (v38 : Int) (h0_0 : Int) (h0_1 : Int) (h0_2 : Int) (h1 : List Int) (nx : Int → Int → Int → Int → Int → Int → Int → (List Int) → Option ρ) (k0 : Int → Int → Int → Int → Int → Int → Int → (List Int) → Option ρ) : Option ρ :=
  br (decide (v38 < v37))
    (br (decide ((0 : Int) ≤ v38))
      (br (decide (v38 < (↑h1.length : Int)))
        (nx v0 (IntKind.u64.wrap (v9 - IntKind.u64.wrap (h1.getD v38.toNat (0 : Int)))) v37
          (IntKind.i64.wrap (v38 + (1 : Int))) h0_0 h0_1 h0_2 h1)
        none)
      none)
    (k0 v0 v9 v37 v38 h0_0 h0_1 h0_2 h1)
noncomputable def lmots_Digits_L9 {ρ : Type} (v0 : Int) (v9 : Int) (v37 : Int) (v38 : Int) (h0_0 : Int) (h0_1 : Int) (h0_2 : Int) (h1 : List Int) (k0 : Int → Int → Int → Int → Int → Int → Int → (List Int) → Option ρ) : Option ρ :=
  lp (fun (x : Int × Int × Int × Int × Int × Int × Int × (List Int)) (next : (Int × Int × Int × Int × Int × Int × Int × (List Int)) → Option ρ) (ex : ((Int × Int × Int × Int × Int × Int × Int × (List Int))) → Option ρ) => lmots_Digits_r9 x.1 x.2.1 x.2.2.1 x.2.2.2.1 x.2.2.2.2.1 x.2.2.2.2.2.1 x.2.2.2.2.2.2.1 x.2.2.2.2.2.2.2 (fun v0 v9 v37 v38 h0_0 h0_1 h0_2 h1 => next (v0, v9, v37, v38, h0_0, h0_1, h0_2, h1)) (fun v0 v9 v37 v38 h0_0 h0_1 h0_2 h1 => ex ((v0, v9, v37, v38, h0_0, h0_1, h0_2, h1)))) (v0, v9, v37, v38, h0_0, h0_1, h0_2, h1) (fun x => k0 x.1 x.2.1 x.2.2.1 x.2.2.2.1 x.2.2.2.2.1 x.2.2.2.2.2.1 x.2.2.2.2.2.2.1 x.2.2.2.2.2.2.2)
noncomputable def lmots_Digits_l9 {ρ : Type} (v0 : Int) (v9 : Int) (v37 : Int) (v38 : Int) (h0_0 : Int) (h0_1 : Int) (h0_2 : Int) (h1 : List Int) (k0 : Int → Int → Int → Int → Int → Int → Int → (List Int) → Option ρ) : Option ρ := shut (lmots_Digits_L9 (ρ := ρ)) v0 v9 v37 v38 h0_0 h0_1 h0_2 h1 k0
theorem lmots_Digits_l9_eq {ρ : Type} (v0 : Int) (v9 : Int) (v37 : Int) (v38 : Int) (h0_0 : Int) (h0_1 : Int) (h0_2 : Int) (h1 : List Int) (k0 : Int → Int → Int → Int → Int → Int → Int → (List Int) → Option ρ) : lmots_Digits_l9 v0 v9 v37 v38 h0_0 h0_1 h0_2 h1 k0 = lmots_Digits_L9 v0 v9 v37 v38 h0_0 h0_1 h0_2 h1 k0 := by unfold lmots_Digits_l9; rw [shut_eq]
noncomputable def lmots_Digits_raw {ρ : Type} (a0 : Int) (a1 : List Int) (k : (List Int) → Int → Option ρ) : Option ρ :=
  lmots_known a0 fun (q0 q1 q2 : Int) (q3 : Bool) =>
    br (!q3) (k [] (9 : Int))
      (br ((↑a1.length : Int) != (32 : Int)) (k [] (14 : Int))
        (br (decide (a0 = (0 : Int))) none
          (bits_Digits a1 a0 (IntKind.i64.wrap (Int.tdiv (256 : Int) a0)) fun (q4 : List Int) =>
            br (decide (a0 < (0 : Int))) none
              (lmots_Digits_l9 a0
                (IntKind.u64.wrap
                  (IntKind.u64.wrap (↑q4.length : Int) *
                    IntKind.u64.wrap (IntKind.u64.wrap ((1 : Int) * (2 : Int) ^ min a0.toNat 64) - (1 : Int))))
                (↑q4.length : Int) (0 : Int) q0 q1 q2 q4 fun (q5 q6 q7 q8 q9 q10 q11 : Int) (q12 : List Int) =>
                br (decide (q10 < (0 : Int))) none
                  (bits_Be (IntKind.u64.wrap (q6 * (2 : Int) ^ min q10.toNat 64)) (2 : Int)
                    fun (q13 : List Int) =>
                    bits_Digits q13 q5 (IntKind.i64.wrap (q9 - (↑q12.length : Int))) fun (q14 : List Int) =>
                      br
                        (decide
                          ((q12.length + q14.length) *
                              4 ≤
                            140737488355328))
                        (k (q12 ++ q14) (0 : Int)) none)))))
noncomputable def lmots_Digits {ρ : Type} (a0 : Int) (a1 : List Int) (k : (List Int) → Int → Option ρ) : Option ρ := shut (lmots_Digits_raw (ρ := ρ)) a0 a1 k
theorem lmots_Digits_eq {ρ : Type} (a0 : Int) (a1 : List Int) (k : (List Int) → Int → Option ρ) : lmots_Digits a0 a1 k = lmots_Digits_raw a0 a1 k := by unfold lmots_Digits; rw [shut_eq]

end P
end

section
open Go Go.Abs
set_option linter.unusedVariables false
namespace P
noncomputable def lmots_Size_raw {ρ : Type} (a0 : Int) (k : Int → Option ρ) : Option ρ :=
  lmots_known a0 fun (q0 q1 q2 : Int) (q3 : Bool) =>
    br (!q3) (k (0 : Int)) (k (IntKind.i64.wrap ((36 : Int) + IntKind.i64.wrap ((32 : Int) * q0))))
noncomputable def lmots_Size {ρ : Type} (a0 : Int) (k : Int → Option ρ) : Option ρ := shut (lmots_Size_raw (ρ := ρ)) a0 k
theorem lmots_Size_eq {ρ : Type} (a0 : Int) (k : Int → Option ρ) : lmots_Size a0 k = lmots_Size_raw a0 k := by unfold lmots_Size; rw [shut_eq]

end P
end

section
open Go Go.Abs
set_option linter.unusedVariables false
namespace P
noncomputable def L14_awake_r3 {ρ : Type} (v9 : Int) (v10 : Int) (h0 : List Int) (nx : Int → Int → (List Int) → Option ρ) (k0 : Int → Int → (List Int) → Option ρ) : Option ρ :=
  br (decide (v10 < v9))
    (br (decide ((0 : Int) ≤ v10))
      (br (decide (v10 < (↑h0.length : Int))) (nx v9 (IntKind.i64.wrap (v10 + (1 : Int))) (h0.set v10.toNat (255 : Int)))
        none)
      none)
    (k0 v9 v10 h0)
noncomputable def L14_awake_L3 {ρ : Type} (v9 : Int) (v10 : Int) (h0 : List Int) (k0 : Int → Int → (List Int) → Option ρ) : Option ρ :=
  lp (fun (x : Int × Int × (List Int)) (next : (Int × Int × (List Int)) → Option ρ) (ex : ((Int × Int × (List Int))) → Option ρ) => L14_awake_r3 x.1 x.2.1 x.2.2 (fun v9 v10 h0 => next (v9, v10, h0)) (fun v9 v10 h0 => ex ((v9, v10, h0)))) (v9, v10, h0) (fun x => k0 x.1 x.2.1 x.2.2)
noncomputable def L14_awake_l3 {ρ : Type} (v9 : Int) (v10 : Int) (h0 : List Int) (k0 : Int → Int → (List Int) → Option ρ) : Option ρ := shut (L14_awake_L3 (ρ := ρ)) v9 v10 h0 k0
theorem L14_awake_l3_eq {ρ : Type} (v9 : Int) (v10 : Int) (h0 : List Int) (k0 : Int → Int → (List Int) → Option ρ) : L14_awake_l3 v9 v10 h0 k0 = L14_awake_L3 v9 v10 h0 k0 := by unfold L14_awake_l3; rw [shut_eq]
noncomputable def L14_awake_raw {ρ : Type}  (k : Bool → Option ρ) : Option ρ :=
  L14_awake_l3 (↑32 : Int) (0 : Int) (List.replicate 32 (0 : Int))
    fun (q0 q1 : Int) (q2 : List Int) =>
    lmots_Digits (8 : Int) q2 fun (q3 : List Int) (q4 : Int) =>
      lmots_Digits (3 : Int) q2 fun (q5 : List Int) (q6 : Int) =>
        lmots_Size (4 : Int) fun (q7 : Int) =>
          br (q7 == (2180 : Int))
            (br (q4 == (0 : Int))
              (br ((↑q3.length : Int) == (34 : Int))
                (br (decide ((31 : Int) < (↑q3.length : Int)))
                  (br (q3.getD 31 (0 : Int) == (255 : Int))
                    (br (decide ((32 : Int) < (↑q3.length : Int)))
                      (br (q3.getD 32 (0 : Int) == (0 : Int))
                        (br (decide ((33 : Int) < (↑q3.length : Int)))
                          (br (q3.getD 33 (0 : Int) == (0 : Int)) (k (q6 == (9 : Int))) (k false)) none)
                        (k false))
                      none)
                    (k false))
                  none)
                (k false))
              (k false))
            (k false)
noncomputable def L14_awake {ρ : Type}  (k : Bool → Option ρ) : Option ρ := shut (L14_awake_raw (ρ := ρ))  k
theorem L14_awake_eq {ρ : Type}  (k : Bool → Option ρ) : L14_awake  k = L14_awake_raw  k := by unfold L14_awake; rw [shut_eq]

end P
end

section
open Go Go.Abs
set_option linter.unusedVariables false
namespace P
noncomputable def R01_Join_r3 {ρ : Type} (v0 : List (List Int)) (v4 : Int) (h0 : List Int) (nx : (List (List Int)) → Int → (List Int) → Option ρ) (k0 : (List (List Int)) → Int → (List Int) → Option ρ) : Option ρ :=
  br (decide (v4 < (↑v0.length : Int)))
    (br (decide ((0 : Int) ≤ v4))
      (br (decide (v4 < (↑v0.length : Int)))
        (br
          (decide
            ((h0.length + (v0.getD v4.toNat []).length) *
                1 ≤
              140737488355328))
          (nx v0 (IntKind.i64.wrap (v4 + (1 : Int))) (h0 ++ v0.getD v4.toNat [])) none)
        none)
      none)
    (k0 v0 v4 h0)
noncomputable def R01_Join_L3 {ρ : Type} (v0 : List (List Int)) (v4 : Int) (h0 : List Int) (k0 : (List (List Int)) → Int → (List Int) → Option ρ) : Option ρ :=
  lp (fun (x : (List (List Int)) × Int × (List Int)) (next : ((List (List Int)) × Int × (List Int)) → Option ρ) (ex : (((List (List Int)) × Int × (List Int))) → Option ρ) => R01_Join_r3 x.1 x.2.1 x.2.2 (fun v0 v4 h0 => next (v0, v4, h0)) (fun v0 v4 h0 => ex ((v0, v4, h0)))) (v0, v4, h0) (fun x => k0 x.1 x.2.1 x.2.2)
noncomputable def R01_Join_l3 {ρ : Type} (v0 : List (List Int)) (v4 : Int) (h0 : List Int) (k0 : (List (List Int)) → Int → (List Int) → Option ρ) : Option ρ := shut (R01_Join_L3 (ρ := ρ)) v0 v4 h0 k0
theorem R01_Join_l3_eq {ρ : Type} (v0 : List (List Int)) (v4 : Int) (h0 : List Int) (k0 : (List (List Int)) → Int → (List Int) → Option ρ) : R01_Join_l3 v0 v4 h0 k0 = R01_Join_L3 v0 v4 h0 k0 := by unfold R01_Join_l3; rw [shut_eq]
noncomputable def R01_Join_raw {ρ : Type} (a0 : List (List Int)) (k : (List Int) → Option ρ) : Option ρ :=
  R01_Join_l3 a0 (0 : Int) [] fun (q0 : List (List Int)) (q1 : Int) (q2 : List Int) => k q2
noncomputable def R01_Join {ρ : Type} (a0 : List (List Int)) (k : (List Int) → Option ρ) : Option ρ := shut (R01_Join_raw (ρ := ρ)) a0 k
theorem R01_Join_eq {ρ : Type} (a0 : List (List Int)) (k : (List Int) → Option ρ) : R01_Join a0 k = R01_Join_raw a0 k := by unfold R01_Join; rw [shut_eq]

end P
end

section
open Go Go.Abs
set_option linter.unusedVariables false
namespace P
noncomputable def R01_Be_r5 {ρ : Type} (v0 : Int) (v6 : Int) (h0 : List Int) (nx : Int → Int → (List Int) → Option ρ) (k0 : Int → Int → (List Int) → Option ρ) : Option ρ :=
  br (decide (v6 ≥ (0 : Int)))
    (br (decide ((0 : Int) ≤ v6))
      (br (decide (v6 < (↑h0.length : Int)))
        (nx (v0.fdiv ((2 : Int) ^ 8)) (IntKind.i64.wrap (v6 - (1 : Int)))
          (h0.set v6.toNat (IntKind.u8.wrap (bits BinOp.and IntKind.u64 v0 (255 : Int)))))
        none)
      none)
    (k0 v0 v6 h0)
noncomputable def R01_Be_L5 {ρ : Type} (v0 : Int) (v6 : Int) (h0 : List Int) (k0 : Int → Int → (List Int) → Option ρ) : Option ρ :=
  lp (fun (x : Int × Int × (List Int)) (next : (Int × Int × (List Int)) → Option ρ) (ex : ((Int × Int × (List Int))) → Option ρ) => R01_Be_r5 x.1 x.2.1 x.2.2 (fun v0 v6 h0 => next (v0, v6, h0)) (fun v0 v6 h0 => ex ((v0, v6, h0)))) (v0, v6, h0) (fun x => k0 x.1 x.2.1 x.2.2)
noncomputable def R01_Be_l5 {ρ : Type} (v0 : Int) (v6 : Int) (h0 : List Int) (k0 : Int → Int → (List Int) → Option ρ) : Option ρ := shut (R01_Be_L5 (ρ := ρ)) v0 v6 h0 k0
theorem R01_Be_l5_eq {ρ : Type} (v0 : Int) (v6 : Int) (h0 : List Int) (k0 : Int → Int → (List Int) → Option ρ) : R01_Be_l5 v0 v6 h0 k0 = R01_Be_L5 v0 v6 h0 k0 := by unfold R01_Be_l5; rw [shut_eq]
noncomputable def R01_Be_raw {ρ : Type} (a0 : Int) (a1 : Int) (k : (List Int) → Option ρ) : Option ρ :=
  br (decide (a1 < (0 : Int))) (k [])
    (br (decide (a1 > (65536 : Int))) (k [])
      (br (decide ((0 : Int) ≤ a1))
        (br (decide (a1 ≤ a1))
          (br (decide (a1 * (↑1 : Int) ≤ (↑140737488355328 : Int)))
            (R01_Be_l5 a0 (IntKind.i64.wrap (a1 - (1 : Int))) (List.replicate a1.toNat (0 : Int))
              fun (q0 q1 : Int) (q2 : List Int) => k q2)
            none)
          none)
        none))
noncomputable def R01_Be {ρ : Type} (a0 : Int) (a1 : Int) (k : (List Int) → Option ρ) : Option ρ := shut (R01_Be_raw (ρ := ρ)) a0 a1 k
theorem R01_Be_eq {ρ : Type} (a0 : Int) (a1 : Int) (k : (List Int) → Option ρ) : R01_Be a0 a1 k = R01_Be_raw a0 a1 k := by unfold R01_Be; rw [shut_eq]

end P
end

section
open Go Go.Abs
set_option linter.unusedVariables false
namespace P
noncomputable def R01_such_raw {ρ : Type} (a0 : List Int) (a1 : Int) (a2 : Int) (k : Bool → Option ρ) : Option ρ :=
  br (decide (a1 ≥ (1 : Int)))
    (br (decide (a1 ≤ (24 : Int)))
      (br (decide (a2 ≥ (0 : Int)))
        (br (decide (a1 = (0 : Int))) none
          (k (decide (a2 ≤ IntKind.i64.wrap ((IntKind.i64.wrap ((↑a0.length : Int) * (8 : Int))).tdiv a1)))))
        (k false))
      (k false))
    (k false)
noncomputable def R01_such {ρ : Type} (a0 : List Int) (a1 : Int) (a2 : Int) (k : Bool → Option ρ) : Option ρ := shut (R01_such_raw (ρ := ρ)) a0 a1 a2 k
theorem R01_such_eq {ρ : Type} (a0 : List Int) (a1 : Int) (a2 : Int) (k : Bool → Option ρ) : R01_such a0 a1 a2 k = R01_such_raw a0 a1 a2 k := by unfold R01_such; rw [shut_eq]

end P
end

section
open Go Go.Abs
set_option linter.unusedVariables false
namespace P
noncomputable def R01_Digits_r9 {ρ : Type} (v0 : List Int) (v1 : Int) (v2 : Int) (v8 : Int) (v9 : Int) (v10 : Int) (h0 : List Int) (nx : (List Int) → Int → Int → Int → Int → Int → (List Int) → Option ρ) (k0 : (List Int) → Int → Int → Int → Int → Int → (List Int) → Option ρ) : Option ρ :=
  br (decide (v10 < v1))
    (br (decide ((0 : Int) ≤ IntKind.i64.wrap ((IntKind.i64.wrap (IntKind.i64.wrap (v8 * v1) + v10)).tdiv (8 : Int))))
      (br
        (decide
          (IntKind.i64.wrap ((IntKind.i64.wrap (IntKind.i64.wrap (v8 * v1) + v10)).tdiv (8 : Int)) < (↑v0.length : Int)))
        (br
          (decide
            (IntKind.i64.wrap ((7 : Int) - (IntKind.i64.wrap (IntKind.i64.wrap (v8 * v1) + v10)).tmod (8 : Int)) <
              (0 : Int)))
          none
          (nx v0 v1 v2 v8
            (IntKind.u32.wrap
              (IntKind.u32.wrap (v9 * (2 : Int)) +
                IntKind.u32.wrap
                  (bits BinOp.and IntKind.u8
                    ((v0.getD
                          (IntKind.i64.wrap ((IntKind.i64.wrap (IntKind.i64.wrap (v8 * v1) + v10)).tdiv (8 : Int))).toNat
                          (0 : Int)).fdiv
                      ((2 : Int) ^
                        min
                          (IntKind.i64.wrap
                              ((7 : Int) - (IntKind.i64.wrap (IntKind.i64.wrap (v8 * v1) + v10)).tmod (8 : Int))).toNat
                          8))
                    (1 : Int))))
            (IntKind.i64.wrap (v10 + (1 : Int))) h0))
        none)
      none)
    (k0 v0 v1 v2 v8 v9 v10 h0)
noncomputable def R01_Digits_L9 {ρ : Type} (v0 : List Int) (v1 : Int) (v2 : Int) (v8 : Int) (v9 : Int) (v10 : Int) (h0 : List Int) (k0 : (List Int) → Int → Int → Int → Int → Int → (List Int) → Option ρ) : Option ρ :=
  lp (fun (x : (List Int) × Int × Int × Int × Int × Int × (List Int)) (next : ((List Int) × Int × Int × Int × Int × Int × (List Int)) → Option ρ) (ex : (((List Int) × Int × Int × Int × Int × Int × (List Int))) → Option ρ) => R01_Digits_r9 x.1 x.2.1 x.2.2.1 x.2.2.2.1 x.2.2.2.2.1 x.2.2.2.2.2.1 x.2.2.2.2.2.2 (fun v0 v1 v2 v8 v9 v10 h0 => next (v0, v1, v2, v8, v9, v10, h0)) (fun v0 v1 v2 v8 v9 v10 h0 => ex ((v0, v1, v2, v8, v9, v10, h0)))) (v0, v1, v2, v8, v9, v10, h0) (fun x => k0 x.1 x.2.1 x.2.2.1 x.2.2.2.1 x.2.2.2.2.1 x.2.2.2.2.2.1 x.2.2.2.2.2.2)
noncomputable def R01_Digits_l9 {ρ : Type} (v0 : List Int) (v1 : Int) (v2 : Int) (v8 : Int) (v9 : Int) (v10 : Int) (h0 : List Int) (k0 : (List Int) → Int → Int → Int → Int → Int → (List Int) → Option ρ) : Option ρ := shut (R01_Digits_L9 (ρ := ρ)) v0 v1 v2 v8 v9 v10 h0 k0
theorem R01_Digits_l9_eq {ρ : Type} (v0 : List Int) (v1 : Int) (v2 : Int) (v8 : Int) (v9 : Int) (v10 : Int) (h0 : List Int) (k0 : (List Int) → Int → Int → Int → Int → Int → (List Int) → Option ρ) : R01_Digits_l9 v0 v1 v2 v8 v9 v10 h0 k0 = R01_Digits_L9 v0 v1 v2 v8 v9 v10 h0 k0 := by unfold R01_Digits_l9; rw [shut_eq]
noncomputable def R01_Digits_r5 {ρ : Type} (v0 : List Int) (v1 : Int) (v2 : Int) (v8 : Int) (h0 : List Int) (nx : (List Int) → Int → Int → Int → (List Int) → Option ρ) (k0 : (List Int) → Int → Int → Int → (List Int) → Option ρ) : Option ρ :=
  br (decide (v8 < v2))
    (R01_Digits_l9 v0 v1 v2 v8 (0 : Int) (0 : Int) h0 fun (q0 : List Int) (q1 q2 q3 q4 q5 : Int) (q6 : List Int) =>
      br
        (decide
          ((q6.length + 1) * 4 ≤
            140737488355328))
        (nx q0 q1 q2 (IntKind.i64.wrap (q3 + (1 : Int))) (q6 ++ [q4])) none)
    (k0 v0 v1 v2 v8 h0)
noncomputable def R01_Digits_L5 {ρ : Type} (v0 : List Int) (v1 : Int) (v2 : Int) (v8 : Int) (h0 : List Int) (k0 : (List Int) → Int → Int → Int → (List Int) → Option ρ) : Option ρ :=
  lp (fun (x : (List Int) × Int × Int × Int × (List Int)) (next : ((List Int) × Int × Int × Int × (List Int)) → Option ρ) (ex : (((List Int) × Int × Int × Int × (List Int))) → Option ρ) => R01_Digits_r5 x.1 x.2.1 x.2.2.1 x.2.2.2.1 x.2.2.2.2 (fun v0 v1 v2 v8 h0 => next (v0, v1, v2, v8, h0)) (fun v0 v1 v2 v8 h0 => ex ((v0, v1, v2, v8, h0)))) (v0, v1, v2, v8, h0) (fun x => k0 x.1 x.2.1 x.2.2.1 x.2.2.2.1 x.2.2.2.2)
noncomputable def R01_Digits_l5 {ρ : Type} (v0 : List Int) (v1 : Int) (v2 : Int) (v8 : Int) (h0 : List Int) (k0 : (List Int) → Int → Int → Int → (List Int) → Option ρ) : Option ρ := shut (R01_Digits_L5 (ρ := ρ)) v0 v1 v2 v8 h0 k0
theorem R01_Digits_l5_eq {ρ : Type} (v0 : List Int) (v1 : Int) (v2 : Int) (v8 : Int) (h0 : List Int) (k0 : (List Int) → Int → Int → Int → (List Int) → Option ρ) : R01_Digits_l5 v0 v1 v2 v8 h0 k0 = R01_Digits_L5 v0 v1 v2 v8 h0 k0 := by unfold R01_Digits_l5; rw [shut_eq]
noncomputable def R01_Digits_raw {ρ : Type} (a0 : List Int) (a1 : Int) (a2 : Int) (k : (List Int) → Option ρ) : Option ρ :=
  R01_such a0 a1 a2 fun (q0 : Bool) =>
    br (!q0) (k []) (R01_Digits_l5 a0 a1 a2 (0 : Int) [] fun (q1 : List Int) (q2 q3 q4 : Int) (q5 : List Int) => k q5)
noncomputable def R01_Digits {ρ : Type} (a0 : List Int) (a1 : Int) (a2 : Int) (k : (List Int) → Option ρ) : Option ρ := shut (R01_Digits_raw (ρ := ρ)) a0 a1 a2 k
theorem R01_Digits_eq {ρ : Type} (a0 : List Int) (a1 : Int) (a2 : Int) (k : (List Int) → Option ρ) : R01_Digits a0 a1 a2 k = R01_Digits_raw a0 a1 a2 k := by unfold R01_Digits; rw [shut_eq]

end P
end

section
open Go Go.Abs
set_option linter.unusedVariables false
namespace P
noncomputable def R14_Kind_raw {ρ : Type} (a0 : Int) (k : Int → Int → Int → Option ρ) : Option ρ :=
  br (a0 == (1 : Int)) (k (265 : Int) (7 : Int) (1 : Int))
    (br (a0 == (2 : Int)) (k (133 : Int) (6 : Int) (2 : Int))
      (br (a0 == (4 : Int)) (k (67 : Int) (4 : Int) (3 : Int))
        (br (a0 == (8 : Int)) (k (34 : Int) (0 : Int) (4 : Int)) (k (0 : Int) (0 : Int) (0 : Int)))))
noncomputable def R14_Kind {ρ : Type} (a0 : Int) (k : Int → Int → Int → Option ρ) : Option ρ := shut (R14_Kind_raw (ρ := ρ)) a0 k
theorem R14_Kind_eq {ρ : Type} (a0 : Int) (k : Int → Int → Int → Option ρ) : R14_Kind a0 k = R14_Kind_raw a0 k := by unfold R14_Kind; rw [shut_eq]

end P
end

section
open Go Go.Abs
set_option linter.unusedVariables false
namespace P
noncomputable def R14_Digits_r9 {ρ : Type} (v0 : Int) (v1 : List Int) (v6 : Int) (v7 : Int) (v10 : Int) (v11 : Int) (h0 : List Int) (nx : Int → (List Int) → Int → Int → Int → Int → (List Int) → Option ρ) (k0 : Int → (List Int) → Int → Int → Int → Int → (List Int) → Option ρ) : Option ρ :=
  br (decide (v11 < (↑h0.length : Int)))
    (br (decide (v0 < (0 : Int))) none
      (br (decide ((0 : Int) ≤ v11))
        (br (decide (v11 < (↑h0.length : Int)))
          (nx v0 v1 v6 v7
            (IntKind.u64.wrap
              (IntKind.u64.wrap
                  (v10 +
                    IntKind.u64.wrap (IntKind.u64.wrap ((1 : Int) * (2 : Int) ^ min v0.toNat 64) - (1 : Int))) -
                IntKind.u64.wrap (h0.getD v11.toNat (0 : Int))))
            (IntKind.i64.wrap (v11 + (1 : Int))) h0)
          none)
        none))
    (k0 v0 v1 v6 v7 v10 v11 h0)
noncomputable def R14_Digits_L9 {ρ : Type} (v0 : Int) (v1 : List Int) (v6 : Int) (v7 : Int) (v10 : Int) (v11 : Int) (h0 : List Int) (k0 : Int → (List Int) → Int → Int → Int → Int → (List Int) → Option ρ) : Option ρ :=
  lp (fun (x : Int × (List Int) × Int × Int × Int × Int × (List Int)) (next : (Int × (List Int) × Int × Int × Int × Int × (List Int)) → Option ρ) (ex : ((Int × (List Int) × Int × Int × Int × Int × (List Int))) → Option ρ) => R14_Digits_r9 x.1 x.2.1 x.2.2.1 x.2.2.2.1 x.2.2.2.2.1 x.2.2.2.2.2.1 x.2.2.2.2.2.2 (fun v0 v1 v6 v7 v10 v11 h0 => next (v0, v1, v6, v7, v10, v11, h0)) (fun v0 v1 v6 v7 v10 v11 h0 => ex ((v0, v1, v6, v7, v10, v11, h0)))) (v0, v1, v6, v7, v10, v11, h0) (fun x => k0 x.1 x.2.1 x.2.2.1 x.2.2.2.1 x.2.2.2.2.1 x.2.2.2.2.2.1 x.2.2.2.2.2.2)
noncomputable def R14_Digits_l9 {ρ : Type} (v0 : Int) (v1 : List Int) (v6 : Int) (v7 : Int) (v10 : Int) (v11 : Int) (h0 : List Int) (k0 : Int → (List Int) → Int → Int → Int → Int → (List Int) → Option ρ) : Option ρ := shut (R14_Digits_L9 (ρ := ρ)) v0 v1 v6 v7 v10 v11 h0 k0
theorem R14_Digits_l9_eq {ρ : Type} (v0 : Int) (v1 : List Int) (v6 : Int) (v7 : Int) (v10 : Int) (v11 : Int) (h0 : List Int) (k0 : Int → (List Int) → Int → Int → Int → Int → (List Int) → Option ρ) : R14_Digits_l9 v0 v1 v6 v7 v10 v11 h0 k0 = R14_Digits_L9 v0 v1 v6 v7 v10 v11 h0 k0 := by unfold R14_Digits_l9; rw [shut_eq]
noncomputable def R14_Digits_raw {ρ : Type} (a0 : Int) (a1 : List Int) (k : (List Int) → Int → Option ρ) : Option ρ :=
  R14_Kind a0 fun (q0 q1 q2 : Int) =>
    br (q0 == (0 : Int)) (k [] (9 : Int))
      (br ((↑a1.length : Int) != (32 : Int)) (k [] (14 : Int))
        (br (decide (a0 = (0 : Int))) none
          (R01_Digits a1 a0 (IntKind.i64.wrap (Int.tdiv (256 : Int) a0)) fun (q3 : List Int) =>
            R14_Digits_l9 a0 a1 q0 q1 (0 : Int) (0 : Int) q3
              fun (q4 : Int) (q5 : List Int) (q6 q7 q8 q9 : Int) (q10 : List Int) =>
              br (decide (q7 < (0 : Int))) none
                (R01_Be (IntKind.u64.wrap (q8 * (2 : Int) ^ min q7.toNat 64)) (2 : Int)
                  fun (q11 : List Int) =>
                  R01_Join [q5, q11] fun (q12 : List Int) =>
                    R01_Digits q12 q4 q6 fun (q13 : List Int) => k q13 (0 : Int)))))
noncomputable def R14_Digits {ρ : Type} (a0 : Int) (a1 : List Int) (k : (List Int) → Int → Option ρ) : Option ρ := shut (R14_Digits_raw (ρ := ρ)) a0 a1 k
theorem R14_Digits_eq {ρ : Type} (a0 : Int) (a1 : List Int) (k : (List Int) → Int → Option ρ) : R14_Digits a0 a1 k = R14_Digits_raw a0 a1 k := by unfold R14_Digits; rw [shut_eq]

end P
end

section
open Go Go.Abs
set_option linter.unusedVariables false
namespace P
noncomputable def R14_Size_raw {ρ : Type} (a0 : Int) (k : Int → Option ρ) : Option ρ :=
  R14_Kind a0 fun (q0 q1 q2 : Int) =>
    br (q0 == (0 : Int)) (k (0 : Int)) (k (IntKind.i64.wrap ((36 : Int) + IntKind.i64.wrap ((32 : Int) * q0))))
noncomputable def R14_Size {ρ : Type} (a0 : Int) (k : Int → Option ρ) : Option ρ := shut (R14_Size_raw (ρ := ρ)) a0 k
theorem R14_Size_eq {ρ : Type} (a0 : Int) (k : Int → Option ρ) : R14_Size a0 k = R14_Size_raw a0 k := by unfold R14_Size; rw [shut_eq]

end P
end

section
open Go Go.Abs
set_option linter.unusedVariables false
namespace P
noncomputable def L14_LmotsTells_raw {ρ : Type} (a0 : Int) (a1 : List Int) (k : Bool → Option ρ) : Option ρ :=
  L14_few [a1] fun (q0 : Bool) =>
    br (!q0) (L14_awake fun (q1 : Bool) => k q1)
      (lmots_Digits a0 a1 fun (q2 : List Int) (q3 : Int) =>
        R14_Digits a0 a1 fun (q4 : List Int) (q5 : Int) =>
          R01_SameNums q2 q4 fun (q6 : Bool) =>
            br q6
              (br (q3 == q5)
                (lmots_Size a0 fun (q7 : Int) =>
                  R14_Size a0 fun (q8 : Int) => br (q7 == q8) (L14_awake fun (q9 : Bool) => k q9) (k false))
                (k false))
              (k false))
noncomputable def L14_LmotsTells {ρ : Type} (a0 : Int) (a1 : List Int) (k : Bool → Option ρ) : Option ρ := shut (L14_LmotsTells_raw (ρ := ρ)) a0 a1 k
theorem L14_LmotsTells_eq {ρ : Type} (a0 : Int) (a1 : List Int) (k : Bool → Option ρ) : L14_LmotsTells a0 a1 k = L14_LmotsTells_raw a0 a1 k := by unfold L14_LmotsTells; rw [shut_eq]

end P
end

section
open Go Go.Abs Go.Proofs
set_option maxRecDepth 100000
set_option linter.unusedVariables false
namespace bits_Le
def S5 (v0 : Int) (v16 : Int) (v17 : Int) (h0 : List Int) : ASt := ⟨[(0, .v (.int .u64 v0)), (5, .own 0), (16, .v (.int .i64 v16)), (17, .v (.int .i64 v17))], [(0, some ⟨.row 5 (.ints .u8 h0), false⟩)], 1, 30⟩
def V5 : ASt → Option (Int × Int × Int × (List Int))
  | ⟨[(0, .v (.int .u64 v0)), (5, .own 0), (16, .v (.int .i64 v16)), (17, .v (.int .i64 v17))], [(0, some ⟨.row 5 (.ints .u8 h0), false⟩)], 1, 30⟩ => some (v0, v16, v17, h0)
  | _ => none
theorem V5_ok (st : ASt) (x : Int × Int × Int × (List Int)) (h : V5 st = some x) : st = S5 x.1 x.2.1 x.2.2.1 x.2.2.2 := by
  unfold V5 at h
  split at h
  · cases h; rfl
  · cases h
noncomputable def L5 : LSpec := fun st K => match V5 st with
  | some x => P.bits_Le_l5 x.1 x.2.1 x.2.2.1 x.2.2.2 (fun v0 v16 v17 h0 => K (.exit 0) (S5 v0 v16 v17 h0))
  | none => none
noncomputable def D : Ctx := ({ P := Try.prog, G := [], globs := [], hints := [(5, ⟨[0, 5, 16, 17], [], [4], []⟩)], loops := [(5, L5)], inl := [] } : Ctx)
def E5 (K : AExit → ASt → Option R) : ((Int × Int × Int × (List Int))) → Option R := (fun x => K (.exit 0) (S5 x.1 x.2.1 x.2.2.1 x.2.2.2))
theorem round5 (K : AExit → ASt → Option R) (next : ASt → Option R) (x : Int × Int × Int × (List Int)) : roundA D (loopAt Try.f32 5) K next (S5 x.1 x.2.1 x.2.2.1 x.2.2.2) = (fun (x : Int × Int × Int × (List Int)) (next : (Int × Int × Int × (List Int)) → Option R) (ex : ((Int × Int × Int × (List Int))) → Option R) => P.bits_Le_r5 x.1 x.2.1 x.2.2.1 x.2.2.2 (fun v0 v16 v17 h0 => next (v0, v16, v17, h0)) (fun v0 v16 v17 h0 => ex ((v0, v16, v17, h0)))) x (fun x => next (S5 x.1 x.2.1 x.2.2.1 x.2.2.2)) (E5 K) := by kernel_rfl
theorem lq5 (st : ASt) (K : AExit → ASt → Option R) : L5 st K = vMap (V5 st) (fun x => lp (fun (x : Int × Int × Int × (List Int)) (next : (Int × Int × Int × (List Int)) → Option R) (ex : ((Int × Int × Int × (List Int))) → Option R) => P.bits_Le_r5 x.1 x.2.1 x.2.2.1 x.2.2.2 (fun v0 v16 v17 h0 => next (v0, v16, v17, h0)) (fun v0 v16 v17 h0 => ex ((v0, v16, v17, h0)))) x (E5 K)) := by
  unfold L5
  cases V5 st with
  | none => rfl
  | some x => simp only [P.bits_Le_l5_eq]; rfl
theorem loop5 : LoopOk D (loopAt Try.f32 5) := loopOk_lp (X := Int × Int × Int × (List Int)) (Y := (Int × Int × Int × (List Int))) (fun x => S5 x.1 x.2.1 x.2.2.1 x.2.2.2) V5_ok (stp := (fun (x : Int × Int × Int × (List Int)) (next : (Int × Int × Int × (List Int)) → Option R) (ex : ((Int × Int × Int × (List Int))) → Option R) => P.bits_Le_r5 x.1 x.2.1 x.2.2.1 x.2.2.2 (fun v0 v16 v17 h0 => next (v0, v16, v17, h0)) (fun v0 v16 v17 h0 => ex ((v0, v16, v17, h0))))) (enc := E5) (L := L5) (by kernel_rfl) lq5 round5
theorem body (a0 : Int) (a1 : Int) (K : AVal → Option R) : bodyA D Try.f32 [.fr 5 (.ints .u8 [])] [.v (.int .u64 a0), .v (.int .i64 a1)] K = P.bits_Le a0 a1 (fun r0 => K (.fr 5 (.ints .u8 r0))) := by
  rw [P.bits_Le_eq]
  kernel_rfl
theorem loops : loopsOf (Try.f32.body.getD .skip) = [loopAt Try.f32 5] := by kernel_rfl
noncomputable def spec0 : Abs.Spec := fun args K => match args with
  | [.v (.int .u64 a0), .v (.int .i64 a1)] => P.bits_Le a0 a1 (fun r0 => K (.fr 5 (.ints .u8 r0)))
  | _ => none
noncomputable def spec : Abs.Spec := spec0
theorem ok0 : Proved Try.prog [] 32 spec0 := by
  refine proved_of (D := D) (fn := Try.f32) (c := Try.f32.body.getD .skip) [.fr 5 (.ints .u8 [])] (by kernel_rfl) (globsPlain_of (by kernel_rfl)) (by kernel_rfl) (by kernel_rfl) (by kernel_rfl) trivial trivial ?_ ?_
  · rw [loops]; exact ⟨loop5, trivial⟩
  · intro args K r h
    unfold spec0 at h
    split at h
    · rw [body]; exact h
    · cases h
theorem ok : Proved Try.prog [] 32 spec := ok0
end bits_Le
end

section
open Go Go.Abs Go.Proofs
set_option maxRecDepth 100000
set_option linter.unusedVariables false
namespace bits_Be
def S1_1 (v2 : Int) (v3 : Int) (h0 : List Int) : ASt := ⟨[(0, .own 0), (2, .v (.int .i64 v2)), (3, .v (.int .i64 v3))], [(0, some ⟨.row 5 (.ints .u8 h0), false⟩)], 1, 28⟩
def V1_1 : ASt → Option (Int × Int × (List Int))
  | ⟨[(0, .own 0), (2, .v (.int .i64 v2)), (3, .v (.int .i64 v3))], [(0, some ⟨.row 5 (.ints .u8 h0), false⟩)], 1, 28⟩ => some (v2, v3, h0)
  | _ => none
theorem V1_1_ok (st : ASt) (x : Int × Int × (List Int)) (h : V1_1 st = some x) : st = S1_1 x.1 x.2.1 x.2.2 := by
  unfold V1_1 at h
  split at h
  · cases h; rfl
  · cases h
noncomputable def L1_1 : LSpec := fun st K => match V1_1 st with
  | some x => P.bits_Be_l1_1 x.1 x.2.1 x.2.2 (fun v2 v3 h0 => K (.exit 0) (S1_1 v2 v3 h0))
  | none => none
noncomputable def D1 : Ctx := ({ P := Try.prog, G := [], globs := [], hints := [(1, ⟨[0, 2, 3], [], [], []⟩)], loops := [(1, L1_1)], inl := [] } : Ctx)
noncomputable def D : Ctx := ({ P := Try.prog, G := [(32, bits_Le.spec)], globs := [], hints := [], loops := [], inl := [(70, bodyIn D1 Try.f70)] } : Ctx)
def E1_1 (K : AExit → ASt → Option R) : ((Int × Int × (List Int))) → Option R := (fun x => K (.exit 0) (S1_1 x.1 x.2.1 x.2.2))
theorem round1_1 (K : AExit → ASt → Option R) (next : ASt → Option R) (x : Int × Int × (List Int)) : roundA D1 (loopAt Try.f70 1) K next (S1_1 x.1 x.2.1 x.2.2) = (fun (x : Int × Int × (List Int)) (next : (Int × Int × (List Int)) → Option R) (ex : ((Int × Int × (List Int))) → Option R) => P.bits_Be_r1_1 x.1 x.2.1 x.2.2 (fun v2 v3 h0 => next (v2, v3, h0)) (fun v2 v3 h0 => ex ((v2, v3, h0)))) x (fun x => next (S1_1 x.1 x.2.1 x.2.2)) (E1_1 K) := by kernel_rfl
theorem lq1_1 (st : ASt) (K : AExit → ASt → Option R) : L1_1 st K = vMap (V1_1 st) (fun x => lp (fun (x : Int × Int × (List Int)) (next : (Int × Int × (List Int)) → Option R) (ex : ((Int × Int × (List Int))) → Option R) => P.bits_Be_r1_1 x.1 x.2.1 x.2.2 (fun v2 v3 h0 => next (v2, v3, h0)) (fun v2 v3 h0 => ex ((v2, v3, h0)))) x (E1_1 K)) := by
  unfold L1_1
  cases V1_1 st with
  | none => rfl
  | some x => simp only [P.bits_Be_l1_1_eq]; rfl
theorem loop1_1 : LoopOk D1 (loopAt Try.f70 1) := loopOk_lp (X := Int × Int × (List Int)) (Y := (Int × Int × (List Int))) (fun x => S1_1 x.1 x.2.1 x.2.2) V1_1_ok (stp := (fun (x : Int × Int × (List Int)) (next : (Int × Int × (List Int)) → Option R) (ex : ((Int × Int × (List Int))) → Option R) => P.bits_Be_r1_1 x.1 x.2.1 x.2.2 (fun v2 v3 h0 => next (v2, v3, h0)) (fun v2 v3 h0 => ex ((v2, v3, h0))))) (enc := E1_1) (L := L1_1) (by kernel_rfl) lq1_1 round1_1
theorem body (a0 : Int) (a1 : Int) (K : AVal → Option R) : bodyA D Try.f30 [.fr 5 (.ints .u8 [])] [.v (.int .u64 a0), .v (.int .i64 a1)] K = P.bits_Be a0 a1 (fun r0 => K (.fr 5 (.ints .u8 r0))) := by
  rw [P.bits_Be_eq]
  kernel_rfl
theorem loops : loopsOf (Try.f30.body.getD .skip) = [] := by kernel_rfl
theorem loops1 : loopsOf (Try.f70.body.getD .skip) = [loopAt Try.f70 1] := by kernel_rfl
noncomputable def spec0 : Abs.Spec := fun args K => match args with
  | [.v (.int .u64 a0), .v (.int .i64 a1)] => P.bits_Be a0 a1 (fun r0 => K (.fr 5 (.ints .u8 r0)))
  | _ => none
noncomputable def spec : Abs.Spec := spec0
theorem ok0 : Proved Try.prog [] 30 spec0 := by
  refine proved_of (D := D) (fn := Try.f30) (c := Try.f30.body.getD .skip) [.fr 5 (.ints .u8 [])] (by kernel_rfl) (globsPlain_of (by kernel_rfl)) (by kernel_rfl) (by kernel_rfl) (by kernel_rfl) ⟨bits_Le.ok, trivial⟩ ⟨run_of (D := D1) (D' := D) (fn := Try.f70) (c := Try.f70.body.getD .skip) rfl rfl (by kernel_rfl) (globsPlain_of (by kernel_rfl)) (by kernel_rfl) (by kernel_rfl) (by kernel_rfl) trivial trivial (by rw [loops1]; exact ⟨loop1_1, trivial⟩) (fun _ _ _ _ _ h => h), trivial⟩ ?_ ?_
  · rw [loops]; exact trivial
  · intro args K r h
    unfold spec0 at h
    split at h
    · rw [body]; exact h
    · cases h
theorem ok : Proved Try.prog [] 30 spec := ok0
end bits_Be
end

section
open Go Go.Abs Go.Proofs
set_option maxRecDepth 100000
set_option linter.unusedVariables false
namespace bits_such
noncomputable def D : Ctx := ({ P := Try.prog, G := [], globs := [], hints := [], loops := [], inl := [] } : Ctx)
theorem body (a0 : List Int) (a1 : Int) (a2 : Int) (K : AVal → Option R) : bodyA D Try.f72 [.any] [.sl (.ints .u8 a0), .v (.int .i64 a1), .v (.int .i64 a2)] K = P.bits_such a0 a1 a2 (fun r0 => K (.v (.bool r0))) := by
  rw [P.bits_such_eq]
  kernel_rfl
theorem loops : loopsOf (Try.f72.body.getD .skip) = [] := by kernel_rfl
noncomputable def spec0 : Abs.Spec := fun args K => match args with
  | [.sl (.ints .u8 a0), .v (.int .i64 a1), .v (.int .i64 a2)] => P.bits_such a0 a1 a2 (fun r0 => K (.v (.bool r0)))
  | _ => none
noncomputable def spec : Abs.Spec := fun args K => spec0 (coerL [.sl (.ints .u8 []), .any, .any] args) K
theorem ok0 : Proved Try.prog [] 72 spec0 := by
  refine proved_of (D := D) (fn := Try.f72) (c := Try.f72.body.getD .skip) [.any] (by kernel_rfl) (globsPlain_of (by kernel_rfl)) (by kernel_rfl) (by kernel_rfl) (by kernel_rfl) trivial trivial ?_ ?_
  · rw [loops]; exact trivial
  · intro args K r h
    unfold spec0 at h
    split at h
    · rw [body]; exact h
    · cases h
theorem ok : Proved Try.prog [] 72 spec := proved_coer _ ok0
end bits_such
end

section
open Go Go.Abs Go.Proofs
set_option maxRecDepth 100000
set_option linter.unusedVariables false
namespace bits_Digits
def S6 (v0 : List Int) (v1 : Int) (v8 : Int) (v9 : Int) (v19 : Int) (v20 : Int) (h0 : List Int) : ASt := ⟨[(0, .sl (.ints .u8 v0)), (1, .v (.int .i64 v1)), (7, .own 0), (8, .v (.int .u64 v8)), (9, .v (.int .i64 v9)), (19, .v (.int .i64 v19)), (20, .v (.int .i64 v20))], [(0, some ⟨.row 62 (.ints .u32 h0), false⟩)], 1, 53⟩
def V6 : ASt → Option ((List Int) × Int × Int × Int × Int × Int × (List Int))
  | ⟨[(0, .sl (.ints .u8 v0)), (1, .v (.int .i64 v1)), (7, .own 0), (8, .v (.int .u64 v8)), (9, .v (.int .i64 v9)), (19, .v (.int .i64 v19)), (20, .v (.int .i64 v20))], [(0, some ⟨.row 62 (.ints .u32 h0), false⟩)], 1, 53⟩ => some (v0, v1, v8, v9, v19, v20, h0)
  | _ => none
theorem V6_ok (st : ASt) (x : (List Int) × Int × Int × Int × Int × Int × (List Int)) (h : V6 st = some x) : st = S6 x.1 x.2.1 x.2.2.1 x.2.2.2.1 x.2.2.2.2.1 x.2.2.2.2.2.1 x.2.2.2.2.2.2 := by
  unfold V6 at h
  split at h
  · cases h; rfl
  · cases h
def S8 (v0 : List Int) (v1 : Int) (v8 : Int) (v9 : Int) (v10 : Int) (v19 : Int) (v20 : Int) (h0 : List Int) : ASt := ⟨[(0, .sl (.ints .u8 v0)), (1, .v (.int .i64 v1)), (7, .own 0), (8, .v (.int .u64 v8)), (9, .v (.int .i64 v9)), (10, .v (.int .i64 v10)), (19, .v (.int .i64 v19)), (20, .v (.int .i64 v20))], [(0, some ⟨.row 62 (.ints .u32 h0), false⟩)], 1, 53⟩
def V8 : ASt → Option ((List Int) × Int × Int × Int × Int × Int × Int × (List Int))
  | ⟨[(0, .sl (.ints .u8 v0)), (1, .v (.int .i64 v1)), (7, .own 0), (8, .v (.int .u64 v8)), (9, .v (.int .i64 v9)), (10, .v (.int .i64 v10)), (19, .v (.int .i64 v19)), (20, .v (.int .i64 v20))], [(0, some ⟨.row 62 (.ints .u32 h0), false⟩)], 1, 53⟩ => some (v0, v1, v8, v9, v10, v19, v20, h0)
  | _ => none
theorem V8_ok (st : ASt) (x : (List Int) × Int × Int × Int × Int × Int × Int × (List Int)) (h : V8 st = some x) : st = S8 x.1 x.2.1 x.2.2.1 x.2.2.2.1 x.2.2.2.2.1 x.2.2.2.2.2.1 x.2.2.2.2.2.2.1 x.2.2.2.2.2.2.2 := by
  unfold V8 at h
  split at h
  · cases h; rfl
  · cases h
noncomputable def L8 : LSpec := fun st K => match V8 st with
  | some x => P.bits_Digits_l8 x.1 x.2.1 x.2.2.1 x.2.2.2.1 x.2.2.2.2.1 x.2.2.2.2.2.1 x.2.2.2.2.2.2.1 x.2.2.2.2.2.2.2 (fun v0 v1 v8 v9 v10 v19 v20 h0 => K (.exit 2) (S8 v0 v1 v8 v9 v10 v19 v20 h0))
  | none => none
noncomputable def L6 : LSpec := fun st K => match V6 st with
  | some x => P.bits_Digits_l6 x.1 x.2.1 x.2.2.1 x.2.2.2.1 x.2.2.2.2.1 x.2.2.2.2.2.1 x.2.2.2.2.2.2 (fun v0 v1 v8 v9 v19 v20 h0 => K (.exit 0) (S6 v0 v1 v8 v9 v19 v20 h0))
  | none => none
noncomputable def D : Ctx := ({ P := Try.prog, G := [(72, bits_such.spec)], globs := [], hints := [(8, ⟨[0, 1, 7, 8, 9, 10, 19, 20], [], [6], [(0, .sl (.ints .u8 []))]⟩), (6, ⟨[0, 1, 7, 8, 9, 19, 20], [], [6], [(0, .sl (.ints .u8 []))]⟩)], loops := [(8, L8), (6, L6)], inl := [] } : Ctx)
def E8 (K : AExit → ASt → Option R) : (((List Int) × Int × Int × Int × Int × Int × Int × (List Int))) → Option R := (fun x => K (.exit 2) (S8 x.1 x.2.1 x.2.2.1 x.2.2.2.1 x.2.2.2.2.1 x.2.2.2.2.2.1 x.2.2.2.2.2.2.1 x.2.2.2.2.2.2.2))
theorem round8 (K : AExit → ASt → Option R) (next : ASt → Option R) (x : (List Int) × Int × Int × Int × Int × Int × Int × (List Int)) : roundA D (loopAt Try.f39 8) K next (S8 x.1 x.2.1 x.2.2.1 x.2.2.2.1 x.2.2.2.2.1 x.2.2.2.2.2.1 x.2.2.2.2.2.2.1 x.2.2.2.2.2.2.2) = (fun (x : (List Int) × Int × Int × Int × Int × Int × Int × (List Int)) (next : ((List Int) × Int × Int × Int × Int × Int × Int × (List Int)) → Option R) (ex : (((List Int) × Int × Int × Int × Int × Int × Int × (List Int))) → Option R) => P.bits_Digits_r8 x.1 x.2.1 x.2.2.1 x.2.2.2.1 x.2.2.2.2.1 x.2.2.2.2.2.1 x.2.2.2.2.2.2.1 x.2.2.2.2.2.2.2 (fun v0 v1 v8 v9 v10 v19 v20 h0 => next (v0, v1, v8, v9, v10, v19, v20, h0)) (fun v0 v1 v8 v9 v10 v19 v20 h0 => ex ((v0, v1, v8, v9, v10, v19, v20, h0)))) x (fun x => next (S8 x.1 x.2.1 x.2.2.1 x.2.2.2.1 x.2.2.2.2.1 x.2.2.2.2.2.1 x.2.2.2.2.2.2.1 x.2.2.2.2.2.2.2)) (E8 K) := by kernel_rfl
theorem lq8 (st : ASt) (K : AExit → ASt → Option R) : L8 st K = vMap (V8 st) (fun x => lp (fun (x : (List Int) × Int × Int × Int × Int × Int × Int × (List Int)) (next : ((List Int) × Int × Int × Int × Int × Int × Int × (List Int)) → Option R) (ex : (((List Int) × Int × Int × Int × Int × Int × Int × (List Int))) → Option R) => P.bits_Digits_r8 x.1 x.2.1 x.2.2.1 x.2.2.2.1 x.2.2.2.2.1 x.2.2.2.2.2.1 x.2.2.2.2.2.2.1 x.2.2.2.2.2.2.2 (fun v0 v1 v8 v9 v10 v19 v20 h0 => next (v0, v1, v8, v9, v10, v19, v20, h0)) (fun v0 v1 v8 v9 v10 v19 v20 h0 => ex ((v0, v1, v8, v9, v10, v19, v20, h0)))) x (E8 K)) := by
  unfold L8
  cases V8 st with
  | none => rfl
  | some x => simp only [P.bits_Digits_l8_eq]; rfl
theorem loop8 : LoopOk D (loopAt Try.f39 8) := loopOk_lp (X := (List Int) × Int × Int × Int × Int × Int × Int × (List Int)) (Y := ((List Int) × Int × Int × Int × Int × Int × Int × (List Int))) (fun x => S8 x.1 x.2.1 x.2.2.1 x.2.2.2.1 x.2.2.2.2.1 x.2.2.2.2.2.1 x.2.2.2.2.2.2.1 x.2.2.2.2.2.2.2) V8_ok (stp := (fun (x : (List Int) × Int × Int × Int × Int × Int × Int × (List Int)) (next : ((List Int) × Int × Int × Int × Int × Int × Int × (List Int)) → Option R) (ex : (((List Int) × Int × Int × Int × Int × Int × Int × (List Int))) → Option R) => P.bits_Digits_r8 x.1 x.2.1 x.2.2.1 x.2.2.2.1 x.2.2.2.2.1 x.2.2.2.2.2.1 x.2.2.2.2.2.2.1 x.2.2.2.2.2.2.2 (fun v0 v1 v8 v9 v10 v19 v20 h0 => next (v0, v1, v8, v9, v10, v19, v20, h0)) (fun v0 v1 v8 v9 v10 v19 v20 h0 => ex ((v0, v1, v8, v9, v10, v19, v20, h0))))) (enc := E8) (L := L8) (by kernel_rfl) lq8 round8
def E6 (K : AExit → ASt → Option R) : (((List Int) × Int × Int × Int × Int × Int × (List Int))) → Option R := (fun x => K (.exit 0) (S6 x.1 x.2.1 x.2.2.1 x.2.2.2.1 x.2.2.2.2.1 x.2.2.2.2.2.1 x.2.2.2.2.2.2))
theorem round6 (K : AExit → ASt → Option R) (next : ASt → Option R) (x : (List Int) × Int × Int × Int × Int × Int × (List Int)) : roundA D (loopAt Try.f39 6) K next (S6 x.1 x.2.1 x.2.2.1 x.2.2.2.1 x.2.2.2.2.1 x.2.2.2.2.2.1 x.2.2.2.2.2.2) = (fun (x : (List Int) × Int × Int × Int × Int × Int × (List Int)) (next : ((List Int) × Int × Int × Int × Int × Int × (List Int)) → Option R) (ex : (((List Int) × Int × Int × Int × Int × Int × (List Int))) → Option R) => P.bits_Digits_r6 x.1 x.2.1 x.2.2.1 x.2.2.2.1 x.2.2.2.2.1 x.2.2.2.2.2.1 x.2.2.2.2.2.2 (fun v0 v1 v8 v9 v19 v20 h0 => next (v0, v1, v8, v9, v19, v20, h0)) (fun v0 v1 v8 v9 v19 v20 h0 => ex ((v0, v1, v8, v9, v19, v20, h0)))) x (fun x => next (S6 x.1 x.2.1 x.2.2.1 x.2.2.2.1 x.2.2.2.2.1 x.2.2.2.2.2.1 x.2.2.2.2.2.2)) (E6 K) := by kernel_rfl
theorem lq6 (st : ASt) (K : AExit → ASt → Option R) : L6 st K = vMap (V6 st) (fun x => lp (fun (x : (List Int) × Int × Int × Int × Int × Int × (List Int)) (next : ((List Int) × Int × Int × Int × Int × Int × (List Int)) → Option R) (ex : (((List Int) × Int × Int × Int × Int × Int × (List Int))) → Option R) => P.bits_Digits_r6 x.1 x.2.1 x.2.2.1 x.2.2.2.1 x.2.2.2.2.1 x.2.2.2.2.2.1 x.2.2.2.2.2.2 (fun v0 v1 v8 v9 v19 v20 h0 => next (v0, v1, v8, v9, v19, v20, h0)) (fun v0 v1 v8 v9 v19 v20 h0 => ex ((v0, v1, v8, v9, v19, v20, h0)))) x (E6 K)) := by
  unfold L6
  cases V6 st with
  | none => rfl
  | some x => simp only [P.bits_Digits_l6_eq]; rfl
theorem loop6 : LoopOk D (loopAt Try.f39 6) := loopOk_lp (X := (List Int) × Int × Int × Int × Int × Int × (List Int)) (Y := ((List Int) × Int × Int × Int × Int × Int × (List Int))) (fun x => S6 x.1 x.2.1 x.2.2.1 x.2.2.2.1 x.2.2.2.2.1 x.2.2.2.2.2.1 x.2.2.2.2.2.2) V6_ok (stp := (fun (x : (List Int) × Int × Int × Int × Int × Int × (List Int)) (next : ((List Int) × Int × Int × Int × Int × Int × (List Int)) → Option R) (ex : (((List Int) × Int × Int × Int × Int × Int × (List Int))) → Option R) => P.bits_Digits_r6 x.1 x.2.1 x.2.2.1 x.2.2.2.1 x.2.2.2.2.1 x.2.2.2.2.2.1 x.2.2.2.2.2.2 (fun v0 v1 v8 v9 v19 v20 h0 => next (v0, v1, v8, v9, v19, v20, h0)) (fun v0 v1 v8 v9 v19 v20 h0 => ex ((v0, v1, v8, v9, v19, v20, h0))))) (enc := E6) (L := L6) (by kernel_rfl) lq6 round6
theorem body (a0 : List Int) (a1 : Int) (a2 : Int) (K : AVal → Option R) : bodyA D Try.f39 [.fr 62 (.ints .u32 [])] [.sl (.ints .u8 a0), .v (.int .i64 a1), .v (.int .i64 a2)] K = P.bits_Digits a0 a1 a2 (fun r0 => K (.fr 62 (.ints .u32 r0))) := by
  rw [P.bits_Digits_eq]
  kernel_rfl
theorem loops : loopsOf (Try.f39.body.getD .skip) = [loopAt Try.f39 6, loopAt Try.f39 8] := by kernel_rfl
noncomputable def spec0 : Abs.Spec := fun args K => match args with
  | [.sl (.ints .u8 a0), .v (.int .i64 a1), .v (.int .i64 a2)] => P.bits_Digits a0 a1 a2 (fun r0 => K (.fr 62 (.ints .u32 r0)))
  | _ => none
noncomputable def spec : Abs.Spec := fun args K => spec0 (coerL [.sl (.ints .u8 []), .any, .any] args) K
theorem ok0 : Proved Try.prog [] 39 spec0 := by
  refine proved_of (D := D) (fn := Try.f39) (c := Try.f39.body.getD .skip) [.fr 62 (.ints .u32 [])] (by kernel_rfl) (globsPlain_of (by kernel_rfl)) (by kernel_rfl) (by kernel_rfl) (by kernel_rfl) ⟨bits_such.ok, trivial⟩ trivial ?_ ?_
  · rw [loops]; exact ⟨loop6, loop8, trivial⟩
  · intro args K r h
    unfold spec0 at h
    split at h
    · rw [body]; exact h
    · cases h
theorem ok : Proved Try.prog [] 39 spec := proved_coer _ ok0
end bits_Digits
end

section
open Go Go.Abs Go.Proofs
set_option maxRecDepth 100000
set_option linter.unusedVariables false
namespace lmots_known
noncomputable def D : Ctx := ({ P := Try.prog, G := [], globs := [], hints := [], loops := [], inl := [] } : Ctx)
theorem body (a0 : Int) (K : AVal → Option R) : bodyA D Try.f74 [.any, .any] [.v (.int .i64 a0)] K = P.lmots_known a0 (fun r0_digits r0_shift r0_code r1 => K (.tuple [.agg [.v (.int .i64 r0_digits), .v (.int .i64 r0_shift), .v (.int .i64 r0_code)], .v (.bool r1)])) := by
  rw [P.lmots_known_eq]
  kernel_rfl
theorem loops : loopsOf (Try.f74.body.getD .skip) = [] := by kernel_rfl
noncomputable def spec0 : Abs.Spec := fun args K => match args with
  | [.v (.int .i64 a0)] => P.lmots_known a0 (fun r0_digits r0_shift r0_code r1 => K (.tuple [.agg [.v (.int .i64 r0_digits), .v (.int .i64 r0_shift), .v (.int .i64 r0_code)], .v (.bool r1)]))
  | _ => none
noncomputable def spec : Abs.Spec := spec0
theorem ok0 : Proved Try.prog [] 74 spec0 := by
  refine proved_of (D := D) (fn := Try.f74) (c := Try.f74.body.getD .skip) [.any, .any] (by kernel_rfl) (globsPlain_of (by kernel_rfl)) (by kernel_rfl) (by kernel_rfl) (by kernel_rfl) trivial trivial ?_ ?_
  · rw [loops]; exact trivial
  · intro args K r h
    unfold spec0 at h
    split at h
    · rw [body]; exact h
    · cases h
theorem ok : Proved Try.prog [] 74 spec := ok0
end lmots_known
end

section
open Go Go.Abs Go.Proofs
set_option maxRecDepth 100000
set_option linter.unusedVariables false
namespace lmots_Digits
def S9 (v0 : Int) (v9 : Int) (v37 : Int) (v38 : Int) (h0_0 : Int) (h0_1 : Int) (h0_2 : Int) (h1 : List Int) : ASt := ⟨[(0, .v (.int .i64 v0)), (6, .ptr 0 0), (8, .own 1), (9, .v (.int .u64 v9)), (36, .own 1), (37, .v (.int .i64 v37)), (38, .v (.int .i64 v38))], [(0, some ⟨.box 84 [.v (.int .i64 h0_0), .v (.int .i64 h0_1), .v (.int .i64 h0_2)], false⟩), (1, some ⟨.row 62 (.ints .u32 h1), false⟩)], 2, 61⟩
def V9 : ASt → Option (Int × Int × Int × Int × Int × Int × Int × (List Int))
  | ⟨[(0, .v (.int .i64 v0)), (6, .ptr 0 0), (8, .own 1), (9, .v (.int .u64 v9)), (36, .own 1), (37, .v (.int .i64 v37)), (38, .v (.int .i64 v38))], [(0, some ⟨.box 84 [.v (.int .i64 h0_0), .v (.int .i64 h0_1), .v (.int .i64 h0_2)], false⟩), (1, some ⟨.row 62 (.ints .u32 h1), false⟩)], 2, 61⟩ => some (v0, v9, v37, v38, h0_0, h0_1, h0_2, h1)
  | _ => none
theorem V9_ok (st : ASt) (x : Int × Int × Int × Int × Int × Int × Int × (List Int)) (h : V9 st = some x) : st = S9 x.1 x.2.1 x.2.2.1 x.2.2.2.1 x.2.2.2.2.1 x.2.2.2.2.2.1 x.2.2.2.2.2.2.1 x.2.2.2.2.2.2.2 := by
  unfold V9 at h
  split at h
  · cases h; rfl
  · cases h
noncomputable def L9 : LSpec := fun st K => match V9 st with
  | some x => P.lmots_Digits_l9 x.1 x.2.1 x.2.2.1 x.2.2.2.1 x.2.2.2.2.1 x.2.2.2.2.2.1 x.2.2.2.2.2.2.1 x.2.2.2.2.2.2.2 (fun v0 v9 v37 v38 h0_0 h0_1 h0_2 h1 => K (.exit 1) (S9 v0 v9 v37 v38 h0_0 h0_1 h0_2 h1))
  | none => none
noncomputable def D : Ctx := ({ P := Try.prog, G := [(30, bits_Be.spec), (39, bits_Digits.spec), (74, lmots_known.spec)], globs := [], hints := [(9, ⟨[0, 6, 8, 9, 36, 37, 38], [], [4, 5], []⟩)], loops := [(9, L9)], inl := [] } : Ctx)
def E9 (K : AExit → ASt → Option R) : ((Int × Int × Int × Int × Int × Int × Int × (List Int))) → Option R := (fun x => K (.exit 1) (S9 x.1 x.2.1 x.2.2.1 x.2.2.2.1 x.2.2.2.2.1 x.2.2.2.2.2.1 x.2.2.2.2.2.2.1 x.2.2.2.2.2.2.2))
theorem round9 (K : AExit → ASt → Option R) (next : ASt → Option R) (x : Int × Int × Int × Int × Int × Int × Int × (List Int)) : roundA D (loopAt Try.f47 9) K next (S9 x.1 x.2.1 x.2.2.1 x.2.2.2.1 x.2.2.2.2.1 x.2.2.2.2.2.1 x.2.2.2.2.2.2.1 x.2.2.2.2.2.2.2) = (fun (x : Int × Int × Int × Int × Int × Int × Int × (List Int)) (next : (Int × Int × Int × Int × Int × Int × Int × (List Int)) → Option R) (ex : ((Int × Int × Int × Int × Int × Int × Int × (List Int))) → Option R) => P.lmots_Digits_r9 x.1 x.2.1 x.2.2.1 x.2.2.2.1 x.2.2.2.2.1 x.2.2.2.2.2.1 x.2.2.2.2.2.2.1 x.2.2.2.2.2.2.2 (fun v0 v9 v37 v38 h0_0 h0_1 h0_2 h1 => next (v0, v9, v37, v38, h0_0, h0_1, h0_2, h1)) (fun v0 v9 v37 v38 h0_0 h0_1 h0_2 h1 => ex ((v0, v9, v37, v38, h0_0, h0_1, h0_2, h1)))) x (fun x => next (S9 x.1 x.2.1 x.2.2.1 x.2.2.2.1 x.2.2.2.2.1 x.2.2.2.2.2.1 x.2.2.2.2.2.2.1 x.2.2.2.2.2.2.2)) (E9 K) := by kernel_rfl
theorem lq9 (st : ASt) (K : AExit → ASt → Option R) : L9 st K = vMap (V9 st) (fun x => lp (fun (x : Int × Int × Int × Int × Int × Int × Int × (List Int)) (next : (Int × Int × Int × Int × Int × Int × Int × (List Int)) → Option R) (ex : ((Int × Int × Int × Int × Int × Int × Int × (List Int))) → Option R) => P.lmots_Digits_r9 x.1 x.2.1 x.2.2.1 x.2.2.2.1 x.2.2.2.2.1 x.2.2.2.2.2.1 x.2.2.2.2.2.2.1 x.2.2.2.2.2.2.2 (fun v0 v9 v37 v38 h0_0 h0_1 h0_2 h1 => next (v0, v9, v37, v38, h0_0, h0_1, h0_2, h1)) (fun v0 v9 v37 v38 h0_0 h0_1 h0_2 h1 => ex ((v0, v9, v37, v38, h0_0, h0_1, h0_2, h1)))) x (E9 K)) := by
  unfold L9
  cases V9 st with
  | none => rfl
  | some x => simp only [P.lmots_Digits_l9_eq]; rfl
theorem loop9 : LoopOk D (loopAt Try.f47 9) := loopOk_lp (X := Int × Int × Int × Int × Int × Int × Int × (List Int)) (Y := (Int × Int × Int × Int × Int × Int × Int × (List Int))) (fun x => S9 x.1 x.2.1 x.2.2.1 x.2.2.2.1 x.2.2.2.2.1 x.2.2.2.2.2.1 x.2.2.2.2.2.2.1 x.2.2.2.2.2.2.2) V9_ok (stp := (fun (x : Int × Int × Int × Int × Int × Int × Int × (List Int)) (next : (Int × Int × Int × Int × Int × Int × Int × (List Int)) → Option R) (ex : ((Int × Int × Int × Int × Int × Int × Int × (List Int))) → Option R) => P.lmots_Digits_r9 x.1 x.2.1 x.2.2.1 x.2.2.2.1 x.2.2.2.2.1 x.2.2.2.2.2.1 x.2.2.2.2.2.2.1 x.2.2.2.2.2.2.2 (fun v0 v9 v37 v38 h0_0 h0_1 h0_2 h1 => next (v0, v9, v37, v38, h0_0, h0_1, h0_2, h1)) (fun v0 v9 v37 v38 h0_0 h0_1 h0_2 h1 => ex ((v0, v9, v37, v38, h0_0, h0_1, h0_2, h1))))) (enc := E9) (L := L9) (by kernel_rfl) lq9 round9
theorem body (a0 : Int) (a1 : List Int) (K : AVal → Option R) : bodyA D Try.f47 [.fr 62 (.ints .u32 []), .any] [.v (.int .i64 a0), .sl (.ints .u8 a1)] K = P.lmots_Digits a0 a1 (fun r0 r1 => K (.tuple [.fr 62 (.ints .u32 r0), .v (.int .i64 r1)])) := by
  rw [P.lmots_Digits_eq]
  kernel_rfl
theorem loops : loopsOf (Try.f47.body.getD .skip) = [loopAt Try.f47 9] := by kernel_rfl
noncomputable def spec0 : Abs.Spec := fun args K => match args with
  | [.v (.int .i64 a0), .sl (.ints .u8 a1)] => P.lmots_Digits a0 a1 (fun r0 r1 => K (.tuple [.fr 62 (.ints .u32 r0), .v (.int .i64 r1)]))
  | _ => none
noncomputable def spec : Abs.Spec := fun args K => spec0 (coerL [.any, .sl (.ints .u8 [])] args) K
theorem ok0 : Proved Try.prog [] 47 spec0 := by
  refine proved_of (D := D) (fn := Try.f47) (c := Try.f47.body.getD .skip) [.fr 62 (.ints .u32 []), .any] (by kernel_rfl) (globsPlain_of (by kernel_rfl)) (by kernel_rfl) (by kernel_rfl) (by kernel_rfl) ⟨bits_Be.ok, bits_Digits.ok, lmots_known.ok, trivial⟩ trivial ?_ ?_
  · rw [loops]; exact ⟨loop9, trivial⟩
  · intro args K r h
    unfold spec0 at h
    split at h
    · rw [body]; exact h
    · cases h
theorem ok : Proved Try.prog [] 47 spec := proved_coer _ ok0
end lmots_Digits
end

section
open Go Go.Abs Go.Proofs
set_option maxRecDepth 100000
set_option linter.unusedVariables false
namespace lmots_Size
noncomputable def D : Ctx := ({ P := Try.prog, G := [(74, lmots_known.spec)], globs := [], hints := [], loops := [], inl := [] } : Ctx)
theorem body (a0 : Int) (K : AVal → Option R) : bodyA D Try.f49 [.any] [.v (.int .i64 a0)] K = P.lmots_Size a0 (fun r0 => K (.v (.int .i64 r0))) := by
  rw [P.lmots_Size_eq]
  kernel_rfl
theorem loops : loopsOf (Try.f49.body.getD .skip) = [] := by kernel_rfl
noncomputable def spec0 : Abs.Spec := fun args K => match args with
  | [.v (.int .i64 a0)] => P.lmots_Size a0 (fun r0 => K (.v (.int .i64 r0)))
  | _ => none
noncomputable def spec : Abs.Spec := spec0
theorem ok0 : Proved Try.prog [] 49 spec0 := by
  refine proved_of (D := D) (fn := Try.f49) (c := Try.f49.body.getD .skip) [.any] (by kernel_rfl) (globsPlain_of (by kernel_rfl)) (by kernel_rfl) (by kernel_rfl) (by kernel_rfl) ⟨lmots_known.ok, trivial⟩ trivial ?_ ?_
  · rw [loops]; exact trivial
  · intro args K r h
    unfold spec0 at h
    split at h
    · rw [body]; exact h
    · cases h
theorem ok : Proved Try.prog [] 49 spec := ok0
end lmots_Size
end

section
open Go Go.Abs Go.Proofs
set_option maxRecDepth 100000
set_option linter.unusedVariables false
namespace L14_awake
def S3 (v9 : Int) (v10 : Int) (h0 : List Int) : ASt := ⟨[(1, .own 0), (9, .v (.int .i64 v9)), (10, .v (.int .i64 v10))], [(0, some ⟨.row 5 (.ints .u8 h0), false⟩)], 1, 60⟩
def V3 : ASt → Option (Int × Int × (List Int))
  | ⟨[(1, .own 0), (9, .v (.int .i64 v9)), (10, .v (.int .i64 v10))], [(0, some ⟨.row 5 (.ints .u8 h0), false⟩)], 1, 60⟩ => some (v9, v10, h0)
  | _ => none
theorem V3_ok (st : ASt) (x : Int × Int × (List Int)) (h : V3 st = some x) : st = S3 x.1 x.2.1 x.2.2 := by
  unfold V3 at h
  split at h
  · cases h; rfl
  · cases h
noncomputable def L3 : LSpec := fun st K => match V3 st with
  | some x => P.L14_awake_l3 x.1 x.2.1 x.2.2 (fun v9 v10 h0 => K (.exit 0) (S3 v9 v10 h0))
  | none => none
noncomputable def D : Ctx := ({ P := Try.prog, G := [(47, lmots_Digits.spec), (49, lmots_Size.spec)], globs := [], hints := [(3, ⟨[1, 9, 10], [], [0], []⟩)], loops := [(3, L3)], inl := [] } : Ctx)
def E3 (K : AExit → ASt → Option R) : ((Int × Int × (List Int))) → Option R := (fun x => K (.exit 0) (S3 x.1 x.2.1 x.2.2))
theorem round3 (K : AExit → ASt → Option R) (next : ASt → Option R) (x : Int × Int × (List Int)) : roundA D (loopAt Try.f46 3) K next (S3 x.1 x.2.1 x.2.2) = (fun (x : Int × Int × (List Int)) (next : (Int × Int × (List Int)) → Option R) (ex : ((Int × Int × (List Int))) → Option R) => P.L14_awake_r3 x.1 x.2.1 x.2.2 (fun v9 v10 h0 => next (v9, v10, h0)) (fun v9 v10 h0 => ex ((v9, v10, h0)))) x (fun x => next (S3 x.1 x.2.1 x.2.2)) (E3 K) := by kernel_rfl
theorem lq3 (st : ASt) (K : AExit → ASt → Option R) : L3 st K = vMap (V3 st) (fun x => lp (fun (x : Int × Int × (List Int)) (next : (Int × Int × (List Int)) → Option R) (ex : ((Int × Int × (List Int))) → Option R) => P.L14_awake_r3 x.1 x.2.1 x.2.2 (fun v9 v10 h0 => next (v9, v10, h0)) (fun v9 v10 h0 => ex ((v9, v10, h0)))) x (E3 K)) := by
  unfold L3
  cases V3 st with
  | none => rfl
  | some x => simp only [P.L14_awake_l3_eq]; rfl
theorem loop3 : LoopOk D (loopAt Try.f46 3) := loopOk_lp (X := Int × Int × (List Int)) (Y := (Int × Int × (List Int))) (fun x => S3 x.1 x.2.1 x.2.2) V3_ok (stp := (fun (x : Int × Int × (List Int)) (next : (Int × Int × (List Int)) → Option R) (ex : ((Int × Int × (List Int))) → Option R) => P.L14_awake_r3 x.1 x.2.1 x.2.2 (fun v9 v10 h0 => next (v9, v10, h0)) (fun v9 v10 h0 => ex ((v9, v10, h0))))) (enc := E3) (L := L3) (by kernel_rfl) lq3 round3
theorem body  (K : AVal → Option R) : bodyA D Try.f46 [.any] [] K = P.L14_awake (fun r0 => K (.v (.bool r0))) := by
  rw [P.L14_awake_eq]
  kernel_rfl
theorem loops : loopsOf (Try.f46.body.getD .skip) = [loopAt Try.f46 3] := by kernel_rfl
noncomputable def spec0 : Abs.Spec := fun args K => match args with
  | [] => P.L14_awake (fun r0 => K (.v (.bool r0)))
  | _ => none
noncomputable def spec : Abs.Spec := spec0
theorem ok0 : Proved Try.prog [] 46 spec0 := by
  refine proved_of (D := D) (fn := Try.f46) (c := Try.f46.body.getD .skip) [.any] (by kernel_rfl) (globsPlain_of (by kernel_rfl)) (by kernel_rfl) (by kernel_rfl) (by kernel_rfl) ⟨lmots_Digits.ok, lmots_Size.ok, trivial⟩ trivial ?_ ?_
  · rw [loops]; exact ⟨loop3, trivial⟩
  · intro args K r h
    unfold spec0 at h
    split at h
    · rw [body]; exact h
    · cases h
theorem ok : Proved Try.prog [] 46 spec := ok0
end L14_awake
end

section
open Go Go.Abs Go.Proofs
set_option maxRecDepth 100000
set_option linter.unusedVariables false
namespace L14_few
def S2 (v5 : List (List Int)) (v6 : Int) (v7 : Int) : ASt := ⟨[(5, .sl (.rows .u8 v5)), (6, .v (.int .i64 v6)), (7, .v (.int .i64 v7))], [], 0, 15⟩
def V2 : ASt → Option ((List (List Int)) × Int × Int)
  | ⟨[(5, .sl (.rows .u8 v5)), (6, .v (.int .i64 v6)), (7, .v (.int .i64 v7))], [], 0, 15⟩ => some (v5, v6, v7)
  | _ => none
theorem V2_ok (st : ASt) (x : (List (List Int)) × Int × Int) (h : V2 st = some x) : st = S2 x.1 x.2.1 x.2.2 := by
  unfold V2 at h
  split at h
  · cases h; rfl
  · cases h
noncomputable def L2 : LSpec := fun st K => match V2 st with
  | some x => P.L14_few_l2 x.1 x.2.1 x.2.2 (fun v5 v6 v7 => K (.exit 0) (S2 v5 v6 v7)) (fun v2 => K .ret ⟨[(2, .v (.bool v2))], [], 0, 15⟩)
  | none => none
noncomputable def D : Ctx := ({ P := Try.prog, G := [], globs := [], hints := [(2, ⟨[5, 6, 7], [], [2], []⟩)], loops := [(2, L2)], inl := [] } : Ctx)
def E2 (K : AExit → ASt → Option R) : (((List (List Int)) × Int × Int) ⊕ ((Bool))) → Option R := (Sum.elim (fun x => K (.exit 0) (S2 x.1 x.2.1 x.2.2)) (fun x => K .ret ⟨[(2, .v (.bool x))], [], 0, 15⟩))
theorem round2 (K : AExit → ASt → Option R) (next : ASt → Option R) (x : (List (List Int)) × Int × Int) : roundA D (loopAt Try.f45 2) K next (S2 x.1 x.2.1 x.2.2) = (fun (x : (List (List Int)) × Int × Int) (next : ((List (List Int)) × Int × Int) → Option R) (ex : (((List (List Int)) × Int × Int) ⊕ ((Bool))) → Option R) => P.L14_few_r2 x.1 x.2.1 x.2.2 (fun v5 v6 v7 => next (v5, v6, v7)) (fun v5 v6 v7 => ex (.inl (v5, v6, v7))) (fun v2 => ex (.inr v2))) x (fun x => next (S2 x.1 x.2.1 x.2.2)) (E2 K) := by kernel_rfl
theorem lq2 (st : ASt) (K : AExit → ASt → Option R) : L2 st K = vMap (V2 st) (fun x => lp (fun (x : (List (List Int)) × Int × Int) (next : ((List (List Int)) × Int × Int) → Option R) (ex : (((List (List Int)) × Int × Int) ⊕ ((Bool))) → Option R) => P.L14_few_r2 x.1 x.2.1 x.2.2 (fun v5 v6 v7 => next (v5, v6, v7)) (fun v5 v6 v7 => ex (.inl (v5, v6, v7))) (fun v2 => ex (.inr v2))) x (E2 K)) := by
  unfold L2
  cases V2 st with
  | none => rfl
  | some x => simp only [P.L14_few_l2_eq]; rfl
theorem loop2 : LoopOk D (loopAt Try.f45 2) := loopOk_lp (X := (List (List Int)) × Int × Int) (Y := ((List (List Int)) × Int × Int) ⊕ ((Bool))) (fun x => S2 x.1 x.2.1 x.2.2) V2_ok (stp := (fun (x : (List (List Int)) × Int × Int) (next : ((List (List Int)) × Int × Int) → Option R) (ex : (((List (List Int)) × Int × Int) ⊕ ((Bool))) → Option R) => P.L14_few_r2 x.1 x.2.1 x.2.2 (fun v5 v6 v7 => next (v5, v6, v7)) (fun v5 v6 v7 => ex (.inl (v5, v6, v7))) (fun v2 => ex (.inr v2)))) (enc := E2) (L := L2) (by kernel_rfl) lq2 round2
theorem body (a0 : List (List Int)) (K : AVal → Option R) : bodyA D Try.f45 [.any] [.sl (.rows .u8 a0)] K = P.L14_few a0 (fun r0 => K (.v (.bool r0))) := by
  rw [P.L14_few_eq]
  kernel_rfl
theorem loops : loopsOf (Try.f45.body.getD .skip) = [loopAt Try.f45 2] := by kernel_rfl
noncomputable def spec0 : Abs.Spec := fun args K => match args with
  | [.sl (.rows .u8 a0)] => P.L14_few a0 (fun r0 => K (.v (.bool r0)))
  | _ => none
noncomputable def spec : Abs.Spec := fun args K => spec0 (coerL [.sl (.rows .u8 [])] args) K
theorem ok0 : Proved Try.prog [] 45 spec0 := by
  refine proved_of (D := D) (fn := Try.f45) (c := Try.f45.body.getD .skip) [.any] (by kernel_rfl) (globsPlain_of (by kernel_rfl)) (by kernel_rfl) (by kernel_rfl) (by kernel_rfl) trivial trivial ?_ ?_
  · rw [loops]; exact ⟨loop2, trivial⟩
  · intro args K r h
    unfold spec0 at h
    split at h
    · rw [body]; exact h
    · cases h
theorem ok : Proved Try.prog [] 45 spec := proved_coer _ ok0
end L14_few
end

section
open Go Go.Abs Go.Proofs
set_option maxRecDepth 100000
set_option linter.unusedVariables false
namespace R01_SameNums
def S4 (v0 : List Int) (v1 : List Int) (v5 : Int) : ASt := ⟨[(0, .sl (.ints .u32 v0)), (1, .sl (.ints .u32 v1)), (5, .v (.int .i64 v5))], [], 0, 26⟩
def V4 : ASt → Option ((List Int) × (List Int) × Int)
  | ⟨[(0, .sl (.ints .u32 v0)), (1, .sl (.ints .u32 v1)), (5, .v (.int .i64 v5))], [], 0, 26⟩ => some (v0, v1, v5)
  | _ => none
theorem V4_ok (st : ASt) (x : (List Int) × (List Int) × Int) (h : V4 st = some x) : st = S4 x.1 x.2.1 x.2.2 := by
  unfold V4 at h
  split at h
  · cases h; rfl
  · cases h
noncomputable def L4 : LSpec := fun st K => match V4 st with
  | some x => P.R01_SameNums_l4 x.1 x.2.1 x.2.2 (fun v0 v1 v5 => K (.exit 0) (S4 v0 v1 v5)) (fun v4 => K .ret ⟨[(4, .v (.bool v4))], [], 0, 26⟩)
  | none => none
noncomputable def D : Ctx := ({ P := Try.prog, G := [], globs := [], hints := [(4, ⟨[0, 1, 5], [], [4], []⟩)], loops := [(4, L4)], inl := [] } : Ctx)
def E4 (K : AExit → ASt → Option R) : (((List Int) × (List Int) × Int) ⊕ ((Bool))) → Option R := (Sum.elim (fun x => K (.exit 0) (S4 x.1 x.2.1 x.2.2)) (fun x => K .ret ⟨[(4, .v (.bool x))], [], 0, 26⟩))
theorem round4 (K : AExit → ASt → Option R) (next : ASt → Option R) (x : (List Int) × (List Int) × Int) : roundA D (loopAt Try.f38 4) K next (S4 x.1 x.2.1 x.2.2) = (fun (x : (List Int) × (List Int) × Int) (next : ((List Int) × (List Int) × Int) → Option R) (ex : (((List Int) × (List Int) × Int) ⊕ ((Bool))) → Option R) => P.R01_SameNums_r4 x.1 x.2.1 x.2.2 (fun v0 v1 v5 => next (v0, v1, v5)) (fun v0 v1 v5 => ex (.inl (v0, v1, v5))) (fun v4 => ex (.inr v4))) x (fun x => next (S4 x.1 x.2.1 x.2.2)) (E4 K) := by kernel_rfl
theorem lq4 (st : ASt) (K : AExit → ASt → Option R) : L4 st K = vMap (V4 st) (fun x => lp (fun (x : (List Int) × (List Int) × Int) (next : ((List Int) × (List Int) × Int) → Option R) (ex : (((List Int) × (List Int) × Int) ⊕ ((Bool))) → Option R) => P.R01_SameNums_r4 x.1 x.2.1 x.2.2 (fun v0 v1 v5 => next (v0, v1, v5)) (fun v0 v1 v5 => ex (.inl (v0, v1, v5))) (fun v4 => ex (.inr v4))) x (E4 K)) := by
  unfold L4
  cases V4 st with
  | none => rfl
  | some x => simp only [P.R01_SameNums_l4_eq]; rfl
theorem loop4 : LoopOk D (loopAt Try.f38 4) := loopOk_lp (X := (List Int) × (List Int) × Int) (Y := ((List Int) × (List Int) × Int) ⊕ ((Bool))) (fun x => S4 x.1 x.2.1 x.2.2) V4_ok (stp := (fun (x : (List Int) × (List Int) × Int) (next : ((List Int) × (List Int) × Int) → Option R) (ex : (((List Int) × (List Int) × Int) ⊕ ((Bool))) → Option R) => P.R01_SameNums_r4 x.1 x.2.1 x.2.2 (fun v0 v1 v5 => next (v0, v1, v5)) (fun v0 v1 v5 => ex (.inl (v0, v1, v5))) (fun v4 => ex (.inr v4)))) (enc := E4) (L := L4) (by kernel_rfl) lq4 round4
theorem body (a0 : List Int) (a1 : List Int) (K : AVal → Option R) : bodyA D Try.f38 [.any] [.sl (.ints .u32 a0), .sl (.ints .u32 a1)] K = P.R01_SameNums a0 a1 (fun r0 => K (.v (.bool r0))) := by
  rw [P.R01_SameNums_eq]
  kernel_rfl
theorem loops : loopsOf (Try.f38.body.getD .skip) = [loopAt Try.f38 4] := by kernel_rfl
noncomputable def spec0 : Abs.Spec := fun args K => match args with
  | [.sl (.ints .u32 a0), .sl (.ints .u32 a1)] => P.R01_SameNums a0 a1 (fun r0 => K (.v (.bool r0)))
  | _ => none
noncomputable def spec : Abs.Spec := fun args K => spec0 (coerL [.sl (.ints .u32 []), .sl (.ints .u32 [])] args) K
theorem ok0 : Proved Try.prog [] 38 spec0 := by
  refine proved_of (D := D) (fn := Try.f38) (c := Try.f38.body.getD .skip) [.any] (by kernel_rfl) (globsPlain_of (by kernel_rfl)) (by kernel_rfl) (by kernel_rfl) (by kernel_rfl) trivial trivial ?_ ?_
  · rw [loops]; exact ⟨loop4, trivial⟩
  · intro args K r h
    unfold spec0 at h
    split at h
    · rw [body]; exact h
    · cases h
theorem ok : Proved Try.prog [] 38 spec := proved_coer _ ok0
end R01_SameNums
end

section
open Go Go.Abs Go.Proofs
set_option maxRecDepth 100000
set_option linter.unusedVariables false
namespace R01_Be
def S5 (v0 : Int) (v6 : Int) (h0 : List Int) : ASt := ⟨[(0, .v (.int .u64 v0)), (5, .own 0), (6, .v (.int .i64 v6))], [(0, some ⟨.row 5 (.ints .u8 h0), false⟩)], 1, 30⟩
def V5 : ASt → Option (Int × Int × (List Int))
  | ⟨[(0, .v (.int .u64 v0)), (5, .own 0), (6, .v (.int .i64 v6))], [(0, some ⟨.row 5 (.ints .u8 h0), false⟩)], 1, 30⟩ => some (v0, v6, h0)
  | _ => none
theorem V5_ok (st : ASt) (x : Int × Int × (List Int)) (h : V5 st = some x) : st = S5 x.1 x.2.1 x.2.2 := by
  unfold V5 at h
  split at h
  · cases h; rfl
  · cases h
noncomputable def L5 : LSpec := fun st K => match V5 st with
  | some x => P.R01_Be_l5 x.1 x.2.1 x.2.2 (fun v0 v6 h0 => K (.exit 0) (S5 v0 v6 h0))
  | none => none
noncomputable def D : Ctx := ({ P := Try.prog, G := [], globs := [], hints := [(5, ⟨[0, 5, 6], [], [4], []⟩)], loops := [(5, L5)], inl := [] } : Ctx)
def E5 (K : AExit → ASt → Option R) : ((Int × Int × (List Int))) → Option R := (fun x => K (.exit 0) (S5 x.1 x.2.1 x.2.2))
theorem round5 (K : AExit → ASt → Option R) (next : ASt → Option R) (x : Int × Int × (List Int)) : roundA D (loopAt Try.f31 5) K next (S5 x.1 x.2.1 x.2.2) = (fun (x : Int × Int × (List Int)) (next : (Int × Int × (List Int)) → Option R) (ex : ((Int × Int × (List Int))) → Option R) => P.R01_Be_r5 x.1 x.2.1 x.2.2 (fun v0 v6 h0 => next (v0, v6, h0)) (fun v0 v6 h0 => ex ((v0, v6, h0)))) x (fun x => next (S5 x.1 x.2.1 x.2.2)) (E5 K) := by kernel_rfl
theorem lq5 (st : ASt) (K : AExit → ASt → Option R) : L5 st K = vMap (V5 st) (fun x => lp (fun (x : Int × Int × (List Int)) (next : (Int × Int × (List Int)) → Option R) (ex : ((Int × Int × (List Int))) → Option R) => P.R01_Be_r5 x.1 x.2.1 x.2.2 (fun v0 v6 h0 => next (v0, v6, h0)) (fun v0 v6 h0 => ex ((v0, v6, h0)))) x (E5 K)) := by
  unfold L5
  cases V5 st with
  | none => rfl
  | some x => simp only [P.R01_Be_l5_eq]; rfl
theorem loop5 : LoopOk D (loopAt Try.f31 5) := loopOk_lp (X := Int × Int × (List Int)) (Y := (Int × Int × (List Int))) (fun x => S5 x.1 x.2.1 x.2.2) V5_ok (stp := (fun (x : Int × Int × (List Int)) (next : (Int × Int × (List Int)) → Option R) (ex : ((Int × Int × (List Int))) → Option R) => P.R01_Be_r5 x.1 x.2.1 x.2.2 (fun v0 v6 h0 => next (v0, v6, h0)) (fun v0 v6 h0 => ex ((v0, v6, h0))))) (enc := E5) (L := L5) (by kernel_rfl) lq5 round5
theorem body (a0 : Int) (a1 : Int) (K : AVal → Option R) : bodyA D Try.f31 [.fr 5 (.ints .u8 [])] [.v (.int .u64 a0), .v (.int .i64 a1)] K = P.R01_Be a0 a1 (fun r0 => K (.fr 5 (.ints .u8 r0))) := by
  rw [P.R01_Be_eq]
  kernel_rfl
theorem loops : loopsOf (Try.f31.body.getD .skip) = [loopAt Try.f31 5] := by kernel_rfl
noncomputable def spec0 : Abs.Spec := fun args K => match args with
  | [.v (.int .u64 a0), .v (.int .i64 a1)] => P.R01_Be a0 a1 (fun r0 => K (.fr 5 (.ints .u8 r0)))
  | _ => none
noncomputable def spec : Abs.Spec := spec0
theorem ok0 : Proved Try.prog [] 31 spec0 := by
  refine proved_of (D := D) (fn := Try.f31) (c := Try.f31.body.getD .skip) [.fr 5 (.ints .u8 [])] (by kernel_rfl) (globsPlain_of (by kernel_rfl)) (by kernel_rfl) (by kernel_rfl) (by kernel_rfl) trivial trivial ?_ ?_
  · rw [loops]; exact ⟨loop5, trivial⟩
  · intro args K r h
    unfold spec0 at h
    split at h
    · rw [body]; exact h
    · cases h
theorem ok : Proved Try.prog [] 31 spec := ok0
end R01_Be
end

section
open Go Go.Abs Go.Proofs
set_option maxRecDepth 100000
set_option linter.unusedVariables false
namespace R01_such
noncomputable def D : Ctx := ({ P := Try.prog, G := [], globs := [], hints := [], loops := [], inl := [] } : Ctx)
theorem body (a0 : List Int) (a1 : Int) (a2 : Int) (K : AVal → Option R) : bodyA D Try.f73 [.any] [.sl (.ints .u8 a0), .v (.int .i64 a1), .v (.int .i64 a2)] K = P.R01_such a0 a1 a2 (fun r0 => K (.v (.bool r0))) := by
  rw [P.R01_such_eq]
  kernel_rfl
theorem loops : loopsOf (Try.f73.body.getD .skip) = [] := by kernel_rfl
noncomputable def spec0 : Abs.Spec := fun args K => match args with
  | [.sl (.ints .u8 a0), .v (.int .i64 a1), .v (.int .i64 a2)] => P.R01_such a0 a1 a2 (fun r0 => K (.v (.bool r0)))
  | _ => none
noncomputable def spec : Abs.Spec := fun args K => spec0 (coerL [.sl (.ints .u8 []), .any, .any] args) K
theorem ok0 : Proved Try.prog [] 73 spec0 := by
  refine proved_of (D := D) (fn := Try.f73) (c := Try.f73.body.getD .skip) [.any] (by kernel_rfl) (globsPlain_of (by kernel_rfl)) (by kernel_rfl) (by kernel_rfl) (by kernel_rfl) trivial trivial ?_ ?_
  · rw [loops]; exact trivial
  · intro args K r h
    unfold spec0 at h
    split at h
    · rw [body]; exact h
    · cases h
theorem ok : Proved Try.prog [] 73 spec := proved_coer _ ok0
end R01_such
end

section
open Go Go.Abs Go.Proofs
set_option maxRecDepth 100000
set_option linter.unusedVariables false
namespace R01_Digits
def S5 (v0 : List Int) (v1 : Int) (v2 : Int) (v8 : Int) (h0 : List Int) : ASt := ⟨[(7, .own 0), (0, .sl (.ints .u8 v0)), (1, .v (.int .i64 v1)), (2, .v (.int .i64 v2)), (8, .v (.int .i64 v8))], [(0, some ⟨.row 62 (.ints .u32 h0), false⟩)], 1, 51⟩
def V5 : ASt → Option ((List Int) × Int × Int × Int × (List Int))
  | ⟨[(7, .own 0), (0, .sl (.ints .u8 v0)), (1, .v (.int .i64 v1)), (2, .v (.int .i64 v2)), (8, .v (.int .i64 v8))], [(0, some ⟨.row 62 (.ints .u32 h0), false⟩)], 1, 51⟩ => some (v0, v1, v2, v8, h0)
  | _ => none
theorem V5_ok (st : ASt) (x : (List Int) × Int × Int × Int × (List Int)) (h : V5 st = some x) : st = S5 x.1 x.2.1 x.2.2.1 x.2.2.2.1 x.2.2.2.2 := by
  unfold V5 at h
  split at h
  · cases h; rfl
  · cases h
def S9 (v0 : List Int) (v1 : Int) (v2 : Int) (v8 : Int) (v9 : Int) (v10 : Int) (h0 : List Int) : ASt := ⟨[(0, .sl (.ints .u8 v0)), (1, .v (.int .i64 v1)), (2, .v (.int .i64 v2)), (7, .own 0), (8, .v (.int .i64 v8)), (9, .v (.int .u32 v9)), (10, .v (.int .i64 v10))], [(0, some ⟨.row 62 (.ints .u32 h0), false⟩)], 1, 51⟩
def V9 : ASt → Option ((List Int) × Int × Int × Int × Int × Int × (List Int))
  | ⟨[(0, .sl (.ints .u8 v0)), (1, .v (.int .i64 v1)), (2, .v (.int .i64 v2)), (7, .own 0), (8, .v (.int .i64 v8)), (9, .v (.int .u32 v9)), (10, .v (.int .i64 v10))], [(0, some ⟨.row 62 (.ints .u32 h0), false⟩)], 1, 51⟩ => some (v0, v1, v2, v8, v9, v10, h0)
  | _ => none
theorem V9_ok (st : ASt) (x : (List Int) × Int × Int × Int × Int × Int × (List Int)) (h : V9 st = some x) : st = S9 x.1 x.2.1 x.2.2.1 x.2.2.2.1 x.2.2.2.2.1 x.2.2.2.2.2.1 x.2.2.2.2.2.2 := by
  unfold V9 at h
  split at h
  · cases h; rfl
  · cases h
noncomputable def L9 : LSpec := fun st K => match V9 st with
  | some x => P.R01_Digits_l9 x.1 x.2.1 x.2.2.1 x.2.2.2.1 x.2.2.2.2.1 x.2.2.2.2.2.1 x.2.2.2.2.2.2 (fun v0 v1 v2 v8 v9 v10 h0 => K (.exit 2) (S9 v0 v1 v2 v8 v9 v10 h0))
  | none => none
noncomputable def L5 : LSpec := fun st K => match V5 st with
  | some x => P.R01_Digits_l5 x.1 x.2.1 x.2.2.1 x.2.2.2.1 x.2.2.2.2 (fun v0 v1 v2 v8 h0 => K (.exit 0) (S5 v0 v1 v2 v8 h0))
  | none => none
noncomputable def D : Ctx := ({ P := Try.prog, G := [(73, R01_such.spec)], globs := [], hints := [(9, ⟨[0, 1, 2, 7, 8, 9, 10], [], [6], []⟩), (5, ⟨[0, 1, 2, 8], [(7, 62, .ints .u32 [])], [6], []⟩)], loops := [(9, L9), (5, L5)], inl := [] } : Ctx)
def E9 (K : AExit → ASt → Option R) : (((List Int) × Int × Int × Int × Int × Int × (List Int))) → Option R := (fun x => K (.exit 2) (S9 x.1 x.2.1 x.2.2.1 x.2.2.2.1 x.2.2.2.2.1 x.2.2.2.2.2.1 x.2.2.2.2.2.2))
theorem round9 (K : AExit → ASt → Option R) (next : ASt → Option R) (x : (List Int) × Int × Int × Int × Int × Int × (List Int)) : roundA D (loopAt Try.f40 9) K next (S9 x.1 x.2.1 x.2.2.1 x.2.2.2.1 x.2.2.2.2.1 x.2.2.2.2.2.1 x.2.2.2.2.2.2) = (fun (x : (List Int) × Int × Int × Int × Int × Int × (List Int)) (next : ((List Int) × Int × Int × Int × Int × Int × (List Int)) → Option R) (ex : (((List Int) × Int × Int × Int × Int × Int × (List Int))) → Option R) => P.R01_Digits_r9 x.1 x.2.1 x.2.2.1 x.2.2.2.1 x.2.2.2.2.1 x.2.2.2.2.2.1 x.2.2.2.2.2.2 (fun v0 v1 v2 v8 v9 v10 h0 => next (v0, v1, v2, v8, v9, v10, h0)) (fun v0 v1 v2 v8 v9 v10 h0 => ex ((v0, v1, v2, v8, v9, v10, h0)))) x (fun x => next (S9 x.1 x.2.1 x.2.2.1 x.2.2.2.1 x.2.2.2.2.1 x.2.2.2.2.2.1 x.2.2.2.2.2.2)) (E9 K) := by kernel_rfl
theorem lq9 (st : ASt) (K : AExit → ASt → Option R) : L9 st K = vMap (V9 st) (fun x => lp (fun (x : (List Int) × Int × Int × Int × Int × Int × (List Int)) (next : ((List Int) × Int × Int × Int × Int × Int × (List Int)) → Option R) (ex : (((List Int) × Int × Int × Int × Int × Int × (List Int))) → Option R) => P.R01_Digits_r9 x.1 x.2.1 x.2.2.1 x.2.2.2.1 x.2.2.2.2.1 x.2.2.2.2.2.1 x.2.2.2.2.2.2 (fun v0 v1 v2 v8 v9 v10 h0 => next (v0, v1, v2, v8, v9, v10, h0)) (fun v0 v1 v2 v8 v9 v10 h0 => ex ((v0, v1, v2, v8, v9, v10, h0)))) x (E9 K)) := by
  unfold L9
  cases V9 st with
  | none => rfl
  | some x => simp only [P.R01_Digits_l9_eq]; rfl
theorem loop9 : LoopOk D (loopAt Try.f40 9) := loopOk_lp (X := (List Int) × Int × Int × Int × Int × Int × (List Int)) (Y := ((List Int) × Int × Int × Int × Int × Int × (List Int))) (fun x => S9 x.1 x.2.1 x.2.2.1 x.2.2.2.1 x.2.2.2.2.1 x.2.2.2.2.2.1 x.2.2.2.2.2.2) V9_ok (stp := (fun (x : (List Int) × Int × Int × Int × Int × Int × (List Int)) (next : ((List Int) × Int × Int × Int × Int × Int × (List Int)) → Option R) (ex : (((List Int) × Int × Int × Int × Int × Int × (List Int))) → Option R) => P.R01_Digits_r9 x.1 x.2.1 x.2.2.1 x.2.2.2.1 x.2.2.2.2.1 x.2.2.2.2.2.1 x.2.2.2.2.2.2 (fun v0 v1 v2 v8 v9 v10 h0 => next (v0, v1, v2, v8, v9, v10, h0)) (fun v0 v1 v2 v8 v9 v10 h0 => ex ((v0, v1, v2, v8, v9, v10, h0))))) (enc := E9) (L := L9) (by kernel_rfl) lq9 round9
def E5 (K : AExit → ASt → Option R) : (((List Int) × Int × Int × Int × (List Int))) → Option R := (fun x => K (.exit 0) (S5 x.1 x.2.1 x.2.2.1 x.2.2.2.1 x.2.2.2.2))
theorem round5 (K : AExit → ASt → Option R) (next : ASt → Option R) (x : (List Int) × Int × Int × Int × (List Int)) : roundA D (loopAt Try.f40 5) K next (S5 x.1 x.2.1 x.2.2.1 x.2.2.2.1 x.2.2.2.2) = (fun (x : (List Int) × Int × Int × Int × (List Int)) (next : ((List Int) × Int × Int × Int × (List Int)) → Option R) (ex : (((List Int) × Int × Int × Int × (List Int))) → Option R) => P.R01_Digits_r5 x.1 x.2.1 x.2.2.1 x.2.2.2.1 x.2.2.2.2 (fun v0 v1 v2 v8 h0 => next (v0, v1, v2, v8, h0)) (fun v0 v1 v2 v8 h0 => ex ((v0, v1, v2, v8, h0)))) x (fun x => next (S5 x.1 x.2.1 x.2.2.1 x.2.2.2.1 x.2.2.2.2)) (E5 K) := by kernel_rfl
theorem lq5 (st : ASt) (K : AExit → ASt → Option R) : L5 st K = vMap (V5 st) (fun x => lp (fun (x : (List Int) × Int × Int × Int × (List Int)) (next : ((List Int) × Int × Int × Int × (List Int)) → Option R) (ex : (((List Int) × Int × Int × Int × (List Int))) → Option R) => P.R01_Digits_r5 x.1 x.2.1 x.2.2.1 x.2.2.2.1 x.2.2.2.2 (fun v0 v1 v2 v8 h0 => next (v0, v1, v2, v8, h0)) (fun v0 v1 v2 v8 h0 => ex ((v0, v1, v2, v8, h0)))) x (E5 K)) := by
  unfold L5
  cases V5 st with
  | none => rfl
  | some x => simp only [P.R01_Digits_l5_eq]; rfl
theorem loop5 : LoopOk D (loopAt Try.f40 5) := loopOk_lp (X := (List Int) × Int × Int × Int × (List Int)) (Y := ((List Int) × Int × Int × Int × (List Int))) (fun x => S5 x.1 x.2.1 x.2.2.1 x.2.2.2.1 x.2.2.2.2) V5_ok (stp := (fun (x : (List Int) × Int × Int × Int × (List Int)) (next : ((List Int) × Int × Int × Int × (List Int)) → Option R) (ex : (((List Int) × Int × Int × Int × (List Int))) → Option R) => P.R01_Digits_r5 x.1 x.2.1 x.2.2.1 x.2.2.2.1 x.2.2.2.2 (fun v0 v1 v2 v8 h0 => next (v0, v1, v2, v8, h0)) (fun v0 v1 v2 v8 h0 => ex ((v0, v1, v2, v8, h0))))) (enc := E5) (L := L5) (by kernel_rfl) lq5 round5
theorem body (a0 : List Int) (a1 : Int) (a2 : Int) (K : AVal → Option R) : bodyA D Try.f40 [.fr 62 (.ints .u32 [])] [.sl (.ints .u8 a0), .v (.int .i64 a1), .v (.int .i64 a2)] K = P.R01_Digits a0 a1 a2 (fun r0 => K (.fr 62 (.ints .u32 r0))) := by
  rw [P.R01_Digits_eq]
  kernel_rfl
theorem loops : loopsOf (Try.f40.body.getD .skip) = [loopAt Try.f40 5, loopAt Try.f40 9] := by kernel_rfl
noncomputable def spec0 : Abs.Spec := fun args K => match args with
  | [.sl (.ints .u8 a0), .v (.int .i64 a1), .v (.int .i64 a2)] => P.R01_Digits a0 a1 a2 (fun r0 => K (.fr 62 (.ints .u32 r0)))
  | _ => none
noncomputable def spec : Abs.Spec := fun args K => spec0 (coerL [.sl (.ints .u8 []), .any, .any] args) K
theorem ok0 : Proved Try.prog [] 40 spec0 := by
  refine proved_of (D := D) (fn := Try.f40) (c := Try.f40.body.getD .skip) [.fr 62 (.ints .u32 [])] (by kernel_rfl) (globsPlain_of (by kernel_rfl)) (by kernel_rfl) (by kernel_rfl) (by kernel_rfl) ⟨R01_such.ok, trivial⟩ trivial ?_ ?_
  · rw [loops]; exact ⟨loop5, loop9, trivial⟩
  · intro args K r h
    unfold spec0 at h
    split at h
    · rw [body]; exact h
    · cases h
theorem ok : Proved Try.prog [] 40 spec := proved_coer _ ok0
end R01_Digits
end

section
open Go Go.Abs Go.Proofs
set_option maxRecDepth 100000
set_option linter.unusedVariables false
namespace R01_Join
def S3 (v0 : List (List Int)) (v4 : Int) (h0 : List Int) : ASt := ⟨[(3, .own 0), (0, .sl (.rows .u8 v0)), (4, .v (.int .i64 v4))], [(0, some ⟨.row 5 (.ints .u8 h0), false⟩)], 1, 18⟩
def V3 : ASt → Option ((List (List Int)) × Int × (List Int))
  | ⟨[(3, .own 0), (0, .sl (.rows .u8 v0)), (4, .v (.int .i64 v4))], [(0, some ⟨.row 5 (.ints .u8 h0), false⟩)], 1, 18⟩ => some (v0, v4, h0)
  | _ => none
theorem V3_ok (st : ASt) (x : (List (List Int)) × Int × (List Int)) (h : V3 st = some x) : st = S3 x.1 x.2.1 x.2.2 := by
  unfold V3 at h
  split at h
  · cases h; rfl
  · cases h
noncomputable def L3 : LSpec := fun st K => match V3 st with
  | some x => P.R01_Join_l3 x.1 x.2.1 x.2.2 (fun v0 v4 h0 => K (.exit 0) (S3 v0 v4 h0))
  | none => none
noncomputable def D : Ctx := ({ P := Try.prog, G := [], globs := [], hints := [(3, ⟨[0, 4], [(3, 5, .ints .u8 [])], [2], []⟩)], loops := [(3, L3)], inl := [] } : Ctx)
def E3 (K : AExit → ASt → Option R) : (((List (List Int)) × Int × (List Int))) → Option R := (fun x => K (.exit 0) (S3 x.1 x.2.1 x.2.2))
theorem round3 (K : AExit → ASt → Option R) (next : ASt → Option R) (x : (List (List Int)) × Int × (List Int)) : roundA D (loopAt Try.f20 3) K next (S3 x.1 x.2.1 x.2.2) = (fun (x : (List (List Int)) × Int × (List Int)) (next : ((List (List Int)) × Int × (List Int)) → Option R) (ex : (((List (List Int)) × Int × (List Int))) → Option R) => P.R01_Join_r3 x.1 x.2.1 x.2.2 (fun v0 v4 h0 => next (v0, v4, h0)) (fun v0 v4 h0 => ex ((v0, v4, h0)))) x (fun x => next (S3 x.1 x.2.1 x.2.2)) (E3 K) := by kernel_rfl
theorem lq3 (st : ASt) (K : AExit → ASt → Option R) : L3 st K = vMap (V3 st) (fun x => lp (fun (x : (List (List Int)) × Int × (List Int)) (next : ((List (List Int)) × Int × (List Int)) → Option R) (ex : (((List (List Int)) × Int × (List Int))) → Option R) => P.R01_Join_r3 x.1 x.2.1 x.2.2 (fun v0 v4 h0 => next (v0, v4, h0)) (fun v0 v4 h0 => ex ((v0, v4, h0)))) x (E3 K)) := by
  unfold L3
  cases V3 st with
  | none => rfl
  | some x => simp only [P.R01_Join_l3_eq]; rfl
theorem loop3 : LoopOk D (loopAt Try.f20 3) := loopOk_lp (X := (List (List Int)) × Int × (List Int)) (Y := ((List (List Int)) × Int × (List Int))) (fun x => S3 x.1 x.2.1 x.2.2) V3_ok (stp := (fun (x : (List (List Int)) × Int × (List Int)) (next : ((List (List Int)) × Int × (List Int)) → Option R) (ex : (((List (List Int)) × Int × (List Int))) → Option R) => P.R01_Join_r3 x.1 x.2.1 x.2.2 (fun v0 v4 h0 => next (v0, v4, h0)) (fun v0 v4 h0 => ex ((v0, v4, h0))))) (enc := E3) (L := L3) (by kernel_rfl) lq3 round3
theorem body (a0 : List (List Int)) (K : AVal → Option R) : bodyA D Try.f20 [.fr 5 (.ints .u8 [])] [.sl (.rows .u8 a0)] K = P.R01_Join a0 (fun r0 => K (.fr 5 (.ints .u8 r0))) := by
  rw [P.R01_Join_eq]
  kernel_rfl
theorem loops : loopsOf (Try.f20.body.getD .skip) = [loopAt Try.f20 3] := by kernel_rfl
noncomputable def spec0 : Abs.Spec := fun args K => match args with
  | [.sl (.rows .u8 a0)] => P.R01_Join a0 (fun r0 => K (.fr 5 (.ints .u8 r0)))
  | _ => none
noncomputable def spec : Abs.Spec := fun args K => spec0 (coerL [.sl (.rows .u8 [])] args) K
theorem ok0 : Proved Try.prog [] 20 spec0 := by
  refine proved_of (D := D) (fn := Try.f20) (c := Try.f20.body.getD .skip) [.fr 5 (.ints .u8 [])] (by kernel_rfl) (globsPlain_of (by kernel_rfl)) (by kernel_rfl) (by kernel_rfl) (by kernel_rfl) trivial trivial ?_ ?_
  · rw [loops]; exact ⟨loop3, trivial⟩
  · intro args K r h
    unfold spec0 at h
    split at h
    · rw [body]; exact h
    · cases h
theorem ok : Proved Try.prog [] 20 spec := proved_coer _ ok0
end R01_Join
end

section
open Go Go.Abs Go.Proofs
set_option maxRecDepth 100000
set_option linter.unusedVariables false
namespace R14_Kind
noncomputable def D : Ctx := ({ P := Try.prog, G := [], globs := [], hints := [], loops := [], inl := [] } : Ctx)
theorem body (a0 : Int) (K : AVal → Option R) : bodyA D Try.f75 [.any, .any, .any] [.v (.int .i64 a0)] K = P.R14_Kind a0 (fun r0 r1 r2 => K (.tuple [.v (.int .i64 r0), .v (.int .i64 r1), .v (.int .u64 r2)])) := by
  rw [P.R14_Kind_eq]
  kernel_rfl
theorem loops : loopsOf (Try.f75.body.getD .skip) = [] := by kernel_rfl
noncomputable def spec0 : Abs.Spec := fun args K => match args with
  | [.v (.int .i64 a0)] => P.R14_Kind a0 (fun r0 r1 r2 => K (.tuple [.v (.int .i64 r0), .v (.int .i64 r1), .v (.int .u64 r2)]))
  | _ => none
noncomputable def spec : Abs.Spec := spec0
theorem ok0 : Proved Try.prog [] 75 spec0 := by
  refine proved_of (D := D) (fn := Try.f75) (c := Try.f75.body.getD .skip) [.any, .any, .any] (by kernel_rfl) (globsPlain_of (by kernel_rfl)) (by kernel_rfl) (by kernel_rfl) (by kernel_rfl) trivial trivial ?_ ?_
  · rw [loops]; exact trivial
  · intro args K r h
    unfold spec0 at h
    split at h
    · rw [body]; exact h
    · cases h
theorem ok : Proved Try.prog [] 75 spec := ok0
end R14_Kind
end

section
open Go Go.Abs Go.Proofs
set_option maxRecDepth 100000
set_option linter.unusedVariables false
namespace R14_Digits
def S9 (v0 : Int) (v1 : List Int) (v6 : Int) (v7 : Int) (v10 : Int) (v11 : Int) (h0 : List Int) : ASt := ⟨[(0, .v (.int .i64 v0)), (1, .sl (.ints .u8 v1)), (6, .v (.int .i64 v6)), (7, .v (.int .i64 v7)), (9, .own 0), (10, .v (.int .u64 v10)), (11, .v (.int .i64 v11))], [(0, some ⟨.row 62 (.ints .u32 h0), false⟩)], 1, 55⟩
def V9 : ASt → Option (Int × (List Int) × Int × Int × Int × Int × (List Int))
  | ⟨[(0, .v (.int .i64 v0)), (1, .sl (.ints .u8 v1)), (6, .v (.int .i64 v6)), (7, .v (.int .i64 v7)), (9, .own 0), (10, .v (.int .u64 v10)), (11, .v (.int .i64 v11))], [(0, some ⟨.row 62 (.ints .u32 h0), false⟩)], 1, 55⟩ => some (v0, v1, v6, v7, v10, v11, h0)
  | _ => none
theorem V9_ok (st : ASt) (x : Int × (List Int) × Int × Int × Int × Int × (List Int)) (h : V9 st = some x) : st = S9 x.1 x.2.1 x.2.2.1 x.2.2.2.1 x.2.2.2.2.1 x.2.2.2.2.2.1 x.2.2.2.2.2.2 := by
  unfold V9 at h
  split at h
  · cases h; rfl
  · cases h
noncomputable def L9 : LSpec := fun st K => match V9 st with
  | some x => P.R14_Digits_l9 x.1 x.2.1 x.2.2.1 x.2.2.2.1 x.2.2.2.2.1 x.2.2.2.2.2.1 x.2.2.2.2.2.2 (fun v0 v1 v6 v7 v10 v11 h0 => K (.exit 0) (S9 v0 v1 v6 v7 v10 v11 h0))
  | none => none
noncomputable def D : Ctx := ({ P := Try.prog, G := [(20, R01_Join.spec), (31, R01_Be.spec), (40, R01_Digits.spec), (75, R14_Kind.spec)], globs := [], hints := [(9, ⟨[0, 1, 6, 7, 9, 10, 11], [], [4, 5], []⟩)], loops := [(9, L9)], inl := [] } : Ctx)
def E9 (K : AExit → ASt → Option R) : ((Int × (List Int) × Int × Int × Int × Int × (List Int))) → Option R := (fun x => K (.exit 0) (S9 x.1 x.2.1 x.2.2.1 x.2.2.2.1 x.2.2.2.2.1 x.2.2.2.2.2.1 x.2.2.2.2.2.2))
theorem round9 (K : AExit → ASt → Option R) (next : ASt → Option R) (x : Int × (List Int) × Int × Int × Int × Int × (List Int)) : roundA D (loopAt Try.f48 9) K next (S9 x.1 x.2.1 x.2.2.1 x.2.2.2.1 x.2.2.2.2.1 x.2.2.2.2.2.1 x.2.2.2.2.2.2) = (fun (x : Int × (List Int) × Int × Int × Int × Int × (List Int)) (next : (Int × (List Int) × Int × Int × Int × Int × (List Int)) → Option R) (ex : ((Int × (List Int) × Int × Int × Int × Int × (List Int))) → Option R) => P.R14_Digits_r9 x.1 x.2.1 x.2.2.1 x.2.2.2.1 x.2.2.2.2.1 x.2.2.2.2.2.1 x.2.2.2.2.2.2 (fun v0 v1 v6 v7 v10 v11 h0 => next (v0, v1, v6, v7, v10, v11, h0)) (fun v0 v1 v6 v7 v10 v11 h0 => ex ((v0, v1, v6, v7, v10, v11, h0)))) x (fun x => next (S9 x.1 x.2.1 x.2.2.1 x.2.2.2.1 x.2.2.2.2.1 x.2.2.2.2.2.1 x.2.2.2.2.2.2)) (E9 K) := by kernel_rfl
theorem lq9 (st : ASt) (K : AExit → ASt → Option R) : L9 st K = vMap (V9 st) (fun x => lp (fun (x : Int × (List Int) × Int × Int × Int × Int × (List Int)) (next : (Int × (List Int) × Int × Int × Int × Int × (List Int)) → Option R) (ex : ((Int × (List Int) × Int × Int × Int × Int × (List Int))) → Option R) => P.R14_Digits_r9 x.1 x.2.1 x.2.2.1 x.2.2.2.1 x.2.2.2.2.1 x.2.2.2.2.2.1 x.2.2.2.2.2.2 (fun v0 v1 v6 v7 v10 v11 h0 => next (v0, v1, v6, v7, v10, v11, h0)) (fun v0 v1 v6 v7 v10 v11 h0 => ex ((v0, v1, v6, v7, v10, v11, h0)))) x (E9 K)) := by
  unfold L9
  cases V9 st with
  | none => rfl
  | some x => simp only [P.R14_Digits_l9_eq]; rfl
theorem loop9 : LoopOk D (loopAt Try.f48 9) := loopOk_lp (X := Int × (List Int) × Int × Int × Int × Int × (List Int)) (Y := (Int × (List Int) × Int × Int × Int × Int × (List Int))) (fun x => S9 x.1 x.2.1 x.2.2.1 x.2.2.2.1 x.2.2.2.2.1 x.2.2.2.2.2.1 x.2.2.2.2.2.2) V9_ok (stp := (fun (x : Int × (List Int) × Int × Int × Int × Int × (List Int)) (next : (Int × (List Int) × Int × Int × Int × Int × (List Int)) → Option R) (ex : ((Int × (List Int) × Int × Int × Int × Int × (List Int))) → Option R) => P.R14_Digits_r9 x.1 x.2.1 x.2.2.1 x.2.2.2.1 x.2.2.2.2.1 x.2.2.2.2.2.1 x.2.2.2.2.2.2 (fun v0 v1 v6 v7 v10 v11 h0 => next (v0, v1, v6, v7, v10, v11, h0)) (fun v0 v1 v6 v7 v10 v11 h0 => ex ((v0, v1, v6, v7, v10, v11, h0))))) (enc := E9) (L := L9) (by kernel_rfl) lq9 round9
theorem body (a0 : Int) (a1 : List Int) (K : AVal → Option R) : bodyA D Try.f48 [.fr 62 (.ints .u32 []), .any] [.v (.int .i64 a0), .sl (.ints .u8 a1)] K = P.R14_Digits a0 a1 (fun r0 r1 => K (.tuple [.fr 62 (.ints .u32 r0), .v (.int .i64 r1)])) := by
  rw [P.R14_Digits_eq]
  kernel_rfl
theorem loops : loopsOf (Try.f48.body.getD .skip) = [loopAt Try.f48 9] := by kernel_rfl
noncomputable def spec0 : Abs.Spec := fun args K => match args with
  | [.v (.int .i64 a0), .sl (.ints .u8 a1)] => P.R14_Digits a0 a1 (fun r0 r1 => K (.tuple [.fr 62 (.ints .u32 r0), .v (.int .i64 r1)]))
  | _ => none
noncomputable def spec : Abs.Spec := fun args K => spec0 (coerL [.any, .sl (.ints .u8 [])] args) K
theorem ok0 : Proved Try.prog [] 48 spec0 := by
  refine proved_of (D := D) (fn := Try.f48) (c := Try.f48.body.getD .skip) [.fr 62 (.ints .u32 []), .any] (by kernel_rfl) (globsPlain_of (by kernel_rfl)) (by kernel_rfl) (by kernel_rfl) (by kernel_rfl) ⟨R01_Join.ok, R01_Be.ok, R01_Digits.ok, R14_Kind.ok, trivial⟩ trivial ?_ ?_
  · rw [loops]; exact ⟨loop9, trivial⟩
  · intro args K r h
    unfold spec0 at h
    split at h
    · rw [body]; exact h
    · cases h
theorem ok : Proved Try.prog [] 48 spec := proved_coer _ ok0
end R14_Digits
end

section
open Go Go.Abs Go.Proofs
set_option maxRecDepth 100000
set_option linter.unusedVariables false
namespace R14_Size
noncomputable def D : Ctx := ({ P := Try.prog, G := [(75, R14_Kind.spec)], globs := [], hints := [], loops := [], inl := [] } : Ctx)
theorem body (a0 : Int) (K : AVal → Option R) : bodyA D Try.f50 [.any] [.v (.int .i64 a0)] K = P.R14_Size a0 (fun r0 => K (.v (.int .i64 r0))) := by
  rw [P.R14_Size_eq]
  kernel_rfl
theorem loops : loopsOf (Try.f50.body.getD .skip) = [] := by kernel_rfl
noncomputable def spec0 : Abs.Spec := fun args K => match args with
  | [.v (.int .i64 a0)] => P.R14_Size a0 (fun r0 => K (.v (.int .i64 r0)))
  | _ => none
noncomputable def spec : Abs.Spec := spec0
theorem ok0 : Proved Try.prog [] 50 spec0 := by
  refine proved_of (D := D) (fn := Try.f50) (c := Try.f50.body.getD .skip) [.any] (by kernel_rfl) (globsPlain_of (by kernel_rfl)) (by kernel_rfl) (by kernel_rfl) (by kernel_rfl) ⟨R14_Kind.ok, trivial⟩ trivial ?_ ?_
  · rw [loops]; exact trivial
  · intro args K r h
    unfold spec0 at h
    split at h
    · rw [body]; exact h
    · cases h
theorem ok : Proved Try.prog [] 50 spec := ok0
end R14_Size
end

section
open Go Go.Abs Go.Proofs
set_option maxRecDepth 100000
set_option linter.unusedVariables false
namespace L14_LmotsTells
noncomputable def D : Ctx := ({ P := Try.prog, G := [(38, R01_SameNums.spec), (45, L14_few.spec), (46, L14_awake.spec), (47, lmots_Digits.spec), (48, R14_Digits.spec), (49, lmots_Size.spec), (50, R14_Size.spec)], globs := [], hints := [], loops := [], inl := [] } : Ctx)
theorem body (a0 : Int) (a1 : List Int) (K : AVal → Option R) : bodyA D Try.f7 [.any] [.v (.int .i64 a0), .sl (.ints .u8 a1)] K = P.L14_LmotsTells a0 a1 (fun r0 => K (.v (.bool r0))) := by
  rw [P.L14_LmotsTells_eq]
  kernel_rfl
theorem loops : loopsOf (Try.f7.body.getD .skip) = [] := by kernel_rfl
noncomputable def spec0 : Abs.Spec := fun args K => match args with
  | [.v (.int .i64 a0), .sl (.ints .u8 a1)] => P.L14_LmotsTells a0 a1 (fun r0 => K (.v (.bool r0)))
  | _ => none
noncomputable def spec : Abs.Spec := fun args K => spec0 (coerL [.any, .sl (.ints .u8 [])] args) K
theorem ok0 : Proved Try.prog [] 7 spec0 := by
  refine proved_of (D := D) (fn := Try.f7) (c := Try.f7.body.getD .skip) [.any] (by kernel_rfl) (globsPlain_of (by kernel_rfl)) (by kernel_rfl) (by kernel_rfl) (by kernel_rfl) ⟨R01_SameNums.ok, L14_few.ok, L14_awake.ok, lmots_Digits.ok, R14_Digits.ok, lmots_Size.ok, R14_Size.ok, trivial⟩ trivial ?_ ?_
  · rw [loops]; exact trivial
  · intro args K r h
    unfold spec0 at h
    split at h
    · rw [body]; exact h
    · cases h
theorem ok : Proved Try.prog [] 7 spec := proved_coer _ ok0
end L14_LmotsTells
end
