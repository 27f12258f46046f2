/-
  BitsBack, part G: an interpreter of my own over abstract values, the pure functions, the walks and the plain law.
-/

import Derived.Test.YtmaoicbiekgmhaaBitsBackF
import Derived.Test.YtmaoicbiekgmhaaProg
import Derived.KernelRfl

section
open Go Go.Abs
set_option linter.unusedVariables false
namespace P
noncomputable def R01_Same_r4 {ρ : Type} (v0 : List Int) (v1 : List Int) (v5 : Int) (nx : (List Int) → (List Int) → Int → Option ρ) (k0 : (List Int) → (List Int) → Int → Option ρ) (k1 : Bool → Option ρ) : Option ρ :=
  br (decide (v5 < (↑v0.length : Int)))
    (br (decide ((0 : Int) ≤ v5))
      (br (decide (v5 < (↑v0.length : Int)))
        (br (decide ((0 : Int) ≤ v5))
          (br (decide (v5 < (↑v1.length : Int)))
            (br (v0.getD v5.toNat (0 : Int) != v1.getD v5.toNat (0 : Int)) (k1 false)
              (nx v0 v1 (IntKind.i64.wrap (v5 + (1 : Int)))))
            none)
          none)
        none)
      none)
    (k0 v0 v1 v5)
noncomputable def R01_Same_L4 {ρ : Type} (v0 : List Int) (v1 : List Int) (v5 : Int) (k0 : (List Int) → (List Int) → Int → Option ρ) (k1 : Bool → Option ρ) : Option ρ :=
  lp (fun (x : (List Int) × (List Int) × Int) (next : ((List Int) × (List Int) × Int) → Option ρ) (ex : (((List Int) × (List Int) × Int) ⊕ ((Bool))) → Option ρ) => R01_Same_r4 x.1 x.2.1 x.2.2 (fun v0 v1 v5 => next (v0, v1, v5)) (fun v0 v1 v5 => ex (.inl (v0, v1, v5))) (fun v4 => ex (.inr v4))) (v0, v1, v5) (Sum.elim (fun x => k0 x.1 x.2.1 x.2.2) (fun x => k1 x))
noncomputable def R01_Same_l4 {ρ : Type} (v0 : List Int) (v1 : List Int) (v5 : Int) (k0 : (List Int) → (List Int) → Int → Option ρ) (k1 : Bool → Option ρ) : Option ρ := shut (R01_Same_L4 (ρ := ρ)) v0 v1 v5 k0 k1
theorem R01_Same_l4_eq {ρ : Type} (v0 : List Int) (v1 : List Int) (v5 : Int) (k0 : (List Int) → (List Int) → Int → Option ρ) (k1 : Bool → Option ρ) : R01_Same_l4 v0 v1 v5 k0 k1 = R01_Same_L4 v0 v1 v5 k0 k1 := by unfold R01_Same_l4; rw [shut_eq]
noncomputable def R01_Same_raw {ρ : Type} (a0 : List Int) (a1 : List Int) (k : Bool → Option ρ) : Option ρ :=
  br ((↑a0.length : Int) != (↑a1.length : Int)) (k false)
    (R01_Same_l4 a0 a1 (0 : Int) (fun (q0 q1 : List Int) (q2 : Int) => k true) fun (q3 : Bool) => k q3)
noncomputable def R01_Same {ρ : Type} (a0 : List Int) (a1 : List Int) (k : Bool → Option ρ) : Option ρ := shut (R01_Same_raw (ρ := ρ)) a0 a1 k
theorem R01_Same_eq {ρ : Type} (a0 : List Int) (a1 : List Int) (k : Bool → Option ρ) : R01_Same a0 a1 k = R01_Same_raw a0 a1 k := by unfold R01_Same; rw [shut_eq]

end P
end

section
open Go Go.Abs
set_option linter.unusedVariables false
namespace P
noncomputable def bits_Le_r5 {ρ : Type} (v0 : Int) (v16 : Int) (v17 : Int) (h0 : List Int) (nx : Int → Int → Int → (List Int) → Option ρ) (k0 : Int → Int → Int → (List Int) → Option ρ) : Option ρ :=
  br (decide (v17 < v16))
    (br (decide (IntKind.i64.wrap ((8 : Int) * v17) < (0 : Int))) none
      (br (decide ((0 : Int) ≤ v17))
        (br (decide (v17 < (↑h0.length : Int)))
          (nx v0 v16 (IntKind.i64.wrap (v17 + (1 : Int)))
            (h0.set v17.toNat
              (IntKind.u8.wrap (v0.fdiv ((2 : Int) ^ min (IntKind.i64.wrap ((8 : Int) * v17)).toNat 64)))))
          none)
        none))
    (k0 v0 v16 v17 h0)
noncomputable def bits_Le_L5 {ρ : Type} (v0 : Int) (v16 : Int) (v17 : Int) (h0 : List Int) (k0 : Int → Int → Int → (List Int) → Option ρ) : Option ρ :=
  lp (fun (x : Int × Int × Int × (List Int)) (next : (Int × Int × Int × (List Int)) → Option ρ) (ex : ((Int × Int × Int × (List Int))) → Option ρ) => bits_Le_r5 x.1 x.2.1 x.2.2.1 x.2.2.2 (fun v0 v16 v17 h0 => next (v0, v16, v17, h0)) (fun v0 v16 v17 h0 => ex ((v0, v16, v17, h0)))) (v0, v16, v17, h0) (fun x => k0 x.1 x.2.1 x.2.2.1 x.2.2.2)
noncomputable def bits_Le_l5 {ρ : Type} (v0 : Int) (v16 : Int) (v17 : Int) (h0 : List Int) (k0 : Int → Int → Int → (List Int) → Option ρ) : Option ρ := shut (bits_Le_L5 (ρ := ρ)) v0 v16 v17 h0 k0
theorem bits_Le_l5_eq {ρ : Type} (v0 : Int) (v16 : Int) (v17 : Int) (h0 : List Int) (k0 : Int → Int → Int → (List Int) → Option ρ) : bits_Le_l5 v0 v16 v17 h0 k0 = bits_Le_L5 v0 v16 v17 h0 k0 := by unfold bits_Le_l5; rw [shut_eq]
noncomputable def bits_Le_raw {ρ : Type} (a0 : Int) (a1 : Int) (k : (List Int) → Option ρ) : Option ρ :=
  br (decide (a1 < (0 : Int))) (k [])
    (br (decide (a1 > (65536 : Int))) (k [])
      (br (decide ((0 : Int) ≤ a1))
        (br (decide (a1 ≤ a1))
          (br (decide (a1 * (↑1 : Int) ≤ (↑140737488355328 : Int)))
            (bits_Le_l5 a0 (bif decide ((8 : Int) < a1) then (8 : Int) else a1) (0 : Int)
              (List.replicate a1.toNat (0 : Int)) fun (q0 q1 q2 : Int) (q3 : List Int) => k q3)
            none)
          none)
        none))
noncomputable def bits_Le {ρ : Type} (a0 : Int) (a1 : Int) (k : (List Int) → Option ρ) : Option ρ := shut (bits_Le_raw (ρ := ρ)) a0 a1 k
theorem bits_Le_eq {ρ : Type} (a0 : Int) (a1 : Int) (k : (List Int) → Option ρ) : bits_Le a0 a1 k = bits_Le_raw a0 a1 k := by unfold bits_Le; rw [shut_eq]

end P
end

section
open Go Go.Abs
set_option linter.unusedVariables false
namespace P
noncomputable def bits_Be_r1_1 {ρ : Type} (v2 : Int) (v3 : Int) (h0 : List Int) (nx : Int → Int → (List Int) → Option ρ) (k0 : Int → Int → (List Int) → Option ρ) : Option ρ :=
  br (decide (v2 < v3))
    (br (decide ((0 : Int) ≤ v3))
      (br (decide (v3 < (↑h0.length : Int)))
        (br (decide ((0 : Int) ≤ v2))
          (br (decide (v2 < (↑h0.length : Int)))
            (br (decide ((0 : Int) ≤ v2))
              (br (decide (v2 < (↑h0.length : Int)))
                (br (decide ((0 : Int) ≤ v3))
                  (br (decide (v3 < (↑(h0.set v2.toNat (h0.getD v3.toNat (0 : Int))).length : Int)))
                    (nx (IntKind.i64.wrap (v2 + (1 : Int))) (IntKind.i64.wrap (v3 - (1 : Int)))
                      ((h0.set v2.toNat (h0.getD v3.toNat (0 : Int))).set v3.toNat (h0.getD v2.toNat (0 : Int))))
                    none)
                  none)
                none)
              none)
            none)
          none)
        none)
      none)
    (k0 v2 v3 h0)
noncomputable def bits_Be_L1_1 {ρ : Type} (v2 : Int) (v3 : Int) (h0 : List Int) (k0 : Int → Int → (List Int) → Option ρ) : Option ρ :=
  lp (fun (x : Int × Int × (List Int)) (next : (Int × Int × (List Int)) → Option ρ) (ex : ((Int × Int × (List Int))) → Option ρ) => bits_Be_r1_1 x.1 x.2.1 x.2.2 (fun v2 v3 h0 => next (v2, v3, h0)) (fun v2 v3 h0 => ex ((v2, v3, h0)))) (v2, v3, h0) (fun x => k0 x.1 x.2.1 x.2.2)
noncomputable def bits_Be_l1_1 {ρ : Type} (v2 : Int) (v3 : Int) (h0 : List Int) (k0 : Int → Int → (List Int) → Option ρ) : Option ρ := shut (bits_Be_L1_1 (ρ := ρ)) v2 v3 h0 k0
theorem bits_Be_l1_1_eq {ρ : Type} (v2 : Int) (v3 : Int) (h0 : List Int) (k0 : Int → Int → (List Int) → Option ρ) : bits_Be_l1_1 v2 v3 h0 k0 = bits_Be_L1_1 v2 v3 h0 k0 := by unfold bits_Be_l1_1; rw [shut_eq]
noncomputable def bits_Be_raw {ρ : Type} (a0 : Int) (a1 : Int) (k : (List Int) → Option ρ) : Option ρ :=
  bits_Le a0 a1 fun (q0 : List Int) =>
    bits_Be_l1_1 (0 : Int) (IntKind.i64.wrap ((↑q0.length : Int) - (1 : Int))) q0 fun (q1 q2 : Int) (q3 : List Int) =>
      k q3
noncomputable def bits_Be {ρ : Type} (a0 : Int) (a1 : Int) (k : (List Int) → Option ρ) : Option ρ := shut (bits_Be_raw (ρ := ρ)) a0 a1 k
theorem bits_Be_eq {ρ : Type} (a0 : Int) (a1 : Int) (k : (List Int) → Option ρ) : bits_Be a0 a1 k = bits_Be_raw a0 a1 k := by unfold bits_Be; rw [shut_eq]

end P
end

section
open Go Go.Abs
set_option linter.unusedVariables false
namespace P
noncomputable def bits_such_raw {ρ : Type} (a0 : List Int) (a1 : Int) (a2 : Int) (k : Bool → Option ρ) : Option ρ :=
  br (decide (a1 ≥ (1 : Int)))
    (br (decide (a1 ≤ (24 : Int)))
      (br (decide (a2 ≥ (0 : Int)))
        (br (decide (a1 = (0 : Int))) none
          (k (decide (a2 ≤ IntKind.i64.wrap ((IntKind.i64.wrap ((↑a0.length : Int) * (8 : Int))).tdiv a1)))))
        (k false))
      (k false))
    (k false)
noncomputable def bits_such {ρ : Type} (a0 : List Int) (a1 : Int) (a2 : Int) (k : Bool → Option ρ) : Option ρ := shut (bits_such_raw (ρ := ρ)) a0 a1 a2 k
theorem bits_such_eq {ρ : Type} (a0 : List Int) (a1 : Int) (a2 : Int) (k : Bool → Option ρ) : bits_such a0 a1 a2 k = bits_such_raw a0 a1 a2 k := by unfold bits_such; rw [shut_eq]

end P
end

section
open Go Go.Abs
set_option linter.unusedVariables false
namespace P
noncomputable def bits_Digits_r8 {ρ : Type} (v0 : List Int) (v1 : Int) (v8 : Int) (v9 : Int) (v10 : Int) (v19 : Int) (v20 : Int) (h0 : List Int) (nx : (List Int) → Int → Int → Int → Int → Int → Int → (List Int) → Option ρ) (k0 : (List Int) → Int → Int → Int → Int → Int → Int → (List Int) → Option ρ) : Option ρ :=
  br (decide (v9 < v1))
    (br (decide ((0 : Int) < (↑v0.length : Int)))
      (br (decide ((1 : Int) ≤ (↑v0.length : Int)))
        (br (decide ((↑v0.length : Int) ≤ (↑v0.length : Int)))
          (nx (List.drop 1 (List.take (↑v0.length : Int).toNat v0)) v1
            (bits BinOp.or IntKind.u64 (IntKind.u64.wrap (v8 * (2 : Int) ^ 8))
              (IntKind.u64.wrap (v0.getD 0 (0 : Int))))
            (IntKind.i64.wrap (v9 + (8 : Int))) v10 v19 v20 h0)
          none)
        none)
      none)
    (k0 v0 v1 v8 v9 v10 v19 v20 h0)
noncomputable def bits_Digits_L8 {ρ : Type} (v0 : List Int) (v1 : Int) (v8 : Int) (v9 : Int) (v10 : Int) (v19 : Int) (v20 : Int) (h0 : List Int) (k0 : (List Int) → Int → Int → Int → Int → Int → Int → (List Int) → Option ρ) : Option ρ :=
  lp (fun (x : (List Int) × Int × Int × Int × Int × Int × Int × (List Int)) (next : ((List Int) × Int × Int × Int × Int × Int × Int × (List Int)) → Option ρ) (ex : (((List Int) × Int × Int × Int × Int × Int × Int × (List Int))) → Option ρ) => bits_Digits_r8 x.1 x.2.1 x.2.2.1 x.2.2.2.1 x.2.2.2.2.1 x.2.2.2.2.2.1 x.2.2.2.2.2.2.1 x.2.2.2.2.2.2.2 (fun v0 v1 v8 v9 v10 v19 v20 h0 => next (v0, v1, v8, v9, v10, v19, v20, h0)) (fun v0 v1 v8 v9 v10 v19 v20 h0 => ex ((v0, v1, v8, v9, v10, v19, v20, h0)))) (v0, v1, v8, v9, v10, v19, v20, h0) (fun x => k0 x.1 x.2.1 x.2.2.1 x.2.2.2.1 x.2.2.2.2.1 x.2.2.2.2.2.1 x.2.2.2.2.2.2.1 x.2.2.2.2.2.2.2)
noncomputable def bits_Digits_l8 {ρ : Type} (v0 : List Int) (v1 : Int) (v8 : Int) (v9 : Int) (v10 : Int) (v19 : Int) (v20 : Int) (h0 : List Int) (k0 : (List Int) → Int → Int → Int → Int → Int → Int → (List Int) → Option ρ) : Option ρ := shut (bits_Digits_L8 (ρ := ρ)) v0 v1 v8 v9 v10 v19 v20 h0 k0
theorem bits_Digits_l8_eq {ρ : Type} (v0 : List Int) (v1 : Int) (v8 : Int) (v9 : Int) (v10 : Int) (v19 : Int) (v20 : Int) (h0 : List Int) (k0 : (List Int) → Int → Int → Int → Int → Int → Int → (List Int) → Option ρ) : bits_Digits_l8 v0 v1 v8 v9 v10 v19 v20 h0 k0 = bits_Digits_L8 v0 v1 v8 v9 v10 v19 v20 h0 k0 := by unfold bits_Digits_l8; rw [shut_eq]
noncomputable def bits_Digits_r6 {ρ : Type} (v0 : List Int) (v1 : Int) (v8 : Int) (v9 : Int) (v19 : Int) (v20 : Int) (h0 : List Int) (nx : (List Int) → Int → Int → Int → Int → Int → (List Int) → Option ρ) (k0 : (List Int) → Int → Int → Int → Int → Int → (List Int) → Option ρ) : Option ρ :=
  br (decide (v20 < v19))
    (bits_Digits_l8 v0 v1 v8 v9 v20 v19 v20 h0 fun (q0 : List Int) (q1 q2 q3 q4 q5 q6 : Int) (q7 : List Int) =>
      br (decide (IntKind.i64.wrap (q3 - q1) < (0 : Int))) none
        (br (decide (q1 < (0 : Int))) none
          (br (decide ((0 : Int) ≤ q4))
            (br (decide (q4 < (↑q7.length : Int)))
              (nx q0 q1 q2 (IntKind.i64.wrap (q3 - q1)) q5 (IntKind.i64.wrap (q6 + (1 : Int)))
                (q7.set q4.toNat
                  (IntKind.u32.wrap
                    (bits BinOp.and IntKind.u64
                      (q2.fdiv ((2 : Int) ^ min (IntKind.i64.wrap (q3 - q1)).toNat 64))
                      (IntKind.u64.wrap
                        (IntKind.u64.wrap ((1 : Int) * (2 : Int) ^ min q1.toNat 64) - (1 : Int)))))))
              none)
            none)))
    (k0 v0 v1 v8 v9 v19 v20 h0)
noncomputable def bits_Digits_L6 {ρ : Type} (v0 : List Int) (v1 : Int) (v8 : Int) (v9 : Int) (v19 : Int) (v20 : Int) (h0 : List Int) (k0 : (List Int) → Int → Int → Int → Int → Int → (List Int) → Option ρ) : Option ρ :=
  lp (fun (x : (List Int) × Int × Int × Int × Int × Int × (List Int)) (next : ((List Int) × Int × Int × Int × Int × Int × (List Int)) → Option ρ) (ex : (((List Int) × Int × Int × Int × Int × Int × (List Int))) → Option ρ) => bits_Digits_r6 x.1 x.2.1 x.2.2.1 x.2.2.2.1 x.2.2.2.2.1 x.2.2.2.2.2.1 x.2.2.2.2.2.2 (fun v0 v1 v8 v9 v19 v20 h0 => next (v0, v1, v8, v9, v19, v20, h0)) (fun v0 v1 v8 v9 v19 v20 h0 => ex ((v0, v1, v8, v9, v19, v20, h0)))) (v0, v1, v8, v9, v19, v20, h0) (fun x => k0 x.1 x.2.1 x.2.2.1 x.2.2.2.1 x.2.2.2.2.1 x.2.2.2.2.2.1 x.2.2.2.2.2.2)
noncomputable def bits_Digits_l6 {ρ : Type} (v0 : List Int) (v1 : Int) (v8 : Int) (v9 : Int) (v19 : Int) (v20 : Int) (h0 : List Int) (k0 : (List Int) → Int → Int → Int → Int → Int → (List Int) → Option ρ) : Option ρ := shut (bits_Digits_L6 (ρ := ρ)) v0 v1 v8 v9 v19 v20 h0 k0
theorem bits_Digits_l6_eq {ρ : Type} (v0 : List Int) (v1 : Int) (v8 : Int) (v9 : Int) (v19 : Int) (v20 : Int) (h0 : List Int) (k0 : (List Int) → Int → Int → Int → Int → Int → (List Int) → Option ρ) : bits_Digits_l6 v0 v1 v8 v9 v19 v20 h0 k0 = bits_Digits_L6 v0 v1 v8 v9 v19 v20 h0 k0 := by unfold bits_Digits_l6; rw [shut_eq]
noncomputable def bits_Digits_raw {ρ : Type} (a0 : List Int) (a1 : Int) (a2 : Int) (k : (List Int) → Option ρ) : Option ρ :=
  bits_such a0 a1 a2 fun (q0 : Bool) =>
    br (!q0) (k [])
      (br (decide ((0 : Int) ≤ a2))
        (br (decide (a2 ≤ a2))
          (br (decide (a2 * (↑4 : Int) ≤ (↑140737488355328 : Int)))
            (bits_Digits_l6 a0 a1 (0 : Int) (0 : Int) (↑(List.replicate a2.toNat (0 : Int)).length : Int) (0 : Int)
              (List.replicate a2.toNat (0 : Int)) fun (q1 : List Int) (q2 q3 q4 q5 q6 : Int) (q7 : List Int) => k q7)
            none)
          none)
        none)
noncomputable def bits_Digits {ρ : Type} (a0 : List Int) (a1 : Int) (a2 : Int) (k : (List Int) → Option ρ) : Option ρ := shut (bits_Digits_raw (ρ := ρ)) a0 a1 a2 k
theorem bits_Digits_eq {ρ : Type} (a0 : List Int) (a1 : Int) (a2 : Int) (k : (List Int) → Option ρ) : bits_Digits a0 a1 a2 k = bits_Digits_raw a0 a1 a2 k := by unfold bits_Digits; rw [shut_eq]

end P
end

section
open Go Go.Abs
set_option linter.unusedVariables false
namespace P
noncomputable def bits_Pack_r10 {ρ : Type} (v1 : Int) (v6 : Int) (v7 : Int) (v23 : List Int) (v24 : Int) (v25 : Int) (h2 : List Int) (nx : Int → Int → Int → (List Int) → Int → Int → (List Int) → Option ρ) (k0 : Int → Int → Int → (List Int) → Int → Int → (List Int) → Option ρ) : Option ρ :=
  br (decide (v7 ≥ (8 : Int)))
    (br
      (decide
        ((h2.length + 1) * 1 ≤
          140737488355328))
      (nx v1 (v6.fdiv ((2 : Int) ^ 8)) (IntKind.i64.wrap (v7 - (8 : Int))) v23 v24 v25
        (h2 ++ [IntKind.u8.wrap v6]))
      none)
    (k0 v1 v6 v7 v23 v24 v25 h2)
noncomputable def bits_Pack_L10 {ρ : Type} (v1 : Int) (v6 : Int) (v7 : Int) (v23 : List Int) (v24 : Int) (v25 : Int) (h2 : List Int) (k0 : Int → Int → Int → (List Int) → Int → Int → (List Int) → Option ρ) : Option ρ :=
  lp (fun (x : Int × Int × Int × (List Int) × Int × Int × (List Int)) (next : (Int × Int × Int × (List Int) × Int × Int × (List Int)) → Option ρ) (ex : ((Int × Int × Int × (List Int) × Int × Int × (List Int))) → Option ρ) => bits_Pack_r10 x.1 x.2.1 x.2.2.1 x.2.2.2.1 x.2.2.2.2.1 x.2.2.2.2.2.1 x.2.2.2.2.2.2 (fun v1 v6 v7 v23 v24 v25 h2 => next (v1, v6, v7, v23, v24, v25, h2)) (fun v1 v6 v7 v23 v24 v25 h2 => ex ((v1, v6, v7, v23, v24, v25, h2)))) (v1, v6, v7, v23, v24, v25, h2) (fun x => k0 x.1 x.2.1 x.2.2.1 x.2.2.2.1 x.2.2.2.2.1 x.2.2.2.2.2.1 x.2.2.2.2.2.2)
noncomputable def bits_Pack_l10 {ρ : Type} (v1 : Int) (v6 : Int) (v7 : Int) (v23 : List Int) (v24 : Int) (v25 : Int) (h2 : List Int) (k0 : Int → Int → Int → (List Int) → Int → Int → (List Int) → Option ρ) : Option ρ := shut (bits_Pack_L10 (ρ := ρ)) v1 v6 v7 v23 v24 v25 h2 k0
theorem bits_Pack_l10_eq {ρ : Type} (v1 : Int) (v6 : Int) (v7 : Int) (v23 : List Int) (v24 : Int) (v25 : Int) (h2 : List Int) (k0 : Int → Int → Int → (List Int) → Int → Int → (List Int) → Option ρ) : bits_Pack_l10 v1 v6 v7 v23 v24 v25 h2 k0 = bits_Pack_L10 v1 v6 v7 v23 v24 v25 h2 k0 := by unfold bits_Pack_l10; rw [shut_eq]
noncomputable def bits_Pack_r6 {ρ : Type} (v1 : Int) (v6 : Int) (v7 : Int) (v23 : List Int) (v24 : Int) (v25 : Int) (h1 : List Int) (nx : Int → Int → Int → (List Int) → Int → Int → (List Int) → Option ρ) (k0 : Int → Int → Int → (List Int) → Int → Int → (List Int) → Option ρ) : Option ρ :=
  br (decide (v25 < v24))
    (br (decide ((0 : Int) ≤ v25))
      (br (decide (v25 < (↑v23.length : Int)))
        (br (decide (v1 < (0 : Int))) none
          (br (decide (v7 < (0 : Int))) none
            (bits_Pack_l10 v1
              (bits BinOp.or IntKind.u64 v6
                (IntKind.u64.wrap
                  (IntKind.u64.wrap
                      (bits BinOp.and IntKind.u32 (v23.getD v25.toNat (0 : Int))
                        (IntKind.u32.wrap
                          (IntKind.u32.wrap ((1 : Int) * (2 : Int) ^ min v1.toNat 32) - (1 : Int)))) *
                    (2 : Int) ^ min v7.toNat 64)))
              (IntKind.i64.wrap (v7 + v1)) v23 v24 v25 h1
              fun (q0 q1 q2 : Int) (q3 : List Int) (q4 q5 : Int) (q6 : List Int) =>
              nx q0 q1 q2 q3 q4 (IntKind.i64.wrap (q5 + (1 : Int))) q6)))
        none)
      none)
    (k0 v1 v6 v7 v23 v24 v25 h1)
noncomputable def bits_Pack_L6 {ρ : Type} (v1 : Int) (v6 : Int) (v7 : Int) (v23 : List Int) (v24 : Int) (v25 : Int) (h1 : List Int) (k0 : Int → Int → Int → (List Int) → Int → Int → (List Int) → Option ρ) : Option ρ :=
  lp (fun (x : Int × Int × Int × (List Int) × Int × Int × (List Int)) (next : (Int × Int × Int × (List Int) × Int × Int × (List Int)) → Option ρ) (ex : ((Int × Int × Int × (List Int) × Int × Int × (List Int))) → Option ρ) => bits_Pack_r6 x.1 x.2.1 x.2.2.1 x.2.2.2.1 x.2.2.2.2.1 x.2.2.2.2.2.1 x.2.2.2.2.2.2 (fun v1 v6 v7 v23 v24 v25 h1 => next (v1, v6, v7, v23, v24, v25, h1)) (fun v1 v6 v7 v23 v24 v25 h1 => ex ((v1, v6, v7, v23, v24, v25, h1)))) (v1, v6, v7, v23, v24, v25, h1) (fun x => k0 x.1 x.2.1 x.2.2.1 x.2.2.2.1 x.2.2.2.2.1 x.2.2.2.2.2.1 x.2.2.2.2.2.2)
noncomputable def bits_Pack_l6 {ρ : Type} (v1 : Int) (v6 : Int) (v7 : Int) (v23 : List Int) (v24 : Int) (v25 : Int) (h1 : List Int) (k0 : Int → Int → Int → (List Int) → Int → Int → (List Int) → Option ρ) : Option ρ := shut (bits_Pack_L6 (ρ := ρ)) v1 v6 v7 v23 v24 v25 h1 k0
theorem bits_Pack_l6_eq {ρ : Type} (v1 : Int) (v6 : Int) (v7 : Int) (v23 : List Int) (v24 : Int) (v25 : Int) (h1 : List Int) (k0 : Int → Int → Int → (List Int) → Int → Int → (List Int) → Option ρ) : bits_Pack_l6 v1 v6 v7 v23 v24 v25 h1 k0 = bits_Pack_L6 v1 v6 v7 v23 v24 v25 h1 k0 := by unfold bits_Pack_l6; rw [shut_eq]
noncomputable def bits_Pack_raw {ρ : Type} (a0 : List Int) (a1 : Int) (k : (List Int) → Option ρ) : Option ρ :=
  br (decide (a1 < (1 : Int))) (k [])
    (br (decide (a1 > (24 : Int))) (k [])
      (br
        (decide
          ((0 : Int) ≤
            IntKind.i64.wrap
              ((IntKind.i64.wrap (IntKind.i64.wrap ((↑a0.length : Int) * a1) + (7 : Int))).tdiv (8 : Int))))
        (br
          (decide
            (IntKind.i64.wrap
                  ((IntKind.i64.wrap (IntKind.i64.wrap ((↑a0.length : Int) * a1) + (7 : Int))).tdiv (8 : Int)) *
                (↑1 : Int) ≤
              (↑140737488355328 : Int)))
          (bits_Pack_l6 a1 (0 : Int) (0 : Int) a0 (↑a0.length : Int) (0 : Int) (List.replicate 0 (0 : Int))
            fun (q0 q1 q2 : Int) (q3 : List Int) (q4 q5 : Int) (q6 : List Int) =>
            br (decide (q2 > (0 : Int)))
              (br
                (decide
                  ((q6.length + 1) * 1 ≤
                    140737488355328))
                (k (q6 ++ [IntKind.u8.wrap q1])) none)
              (k q6))
          none)
        none))
noncomputable def bits_Pack {ρ : Type} (a0 : List Int) (a1 : Int) (k : (List Int) → Option ρ) : Option ρ := shut (bits_Pack_raw (ρ := ρ)) a0 a1 k
theorem bits_Pack_eq {ρ : Type} (a0 : List Int) (a1 : Int) (k : (List Int) → Option ρ) : bits_Pack a0 a1 k = bits_Pack_raw a0 a1 k := by unfold bits_Pack; rw [shut_eq]

end P
end

section
open Go Go.Abs
set_option linter.unusedVariables false
namespace P
noncomputable def L01_awake_raw {ρ : Type}  (k : Bool → Option ρ) : Option ρ :=
  bits_Digits [(165 : Int)] (4 : Int) (2 : Int) fun (q0 : List Int) =>
    bits_Be (258 : Int) (3 : Int) fun (q1 : List Int) =>
      R01_Same q1 [(0 : Int), (1 : Int), (2 : Int)] fun (q2 : Bool) =>
        br q2
          (bits_Le (258 : Int) (3 : Int) fun (q3 : List Int) =>
            R01_Same q3 [(2 : Int), (1 : Int), (0 : Int)] fun (q4 : Bool) =>
              br q4
                (br ((↑q0.length : Int) == (2 : Int))
                  (br (decide ((0 : Int) < (↑q0.length : Int)))
                    (br (q0.getD 0 (0 : Int) == (10 : Int))
                      (br (decide ((1 : Int) < (↑q0.length : Int)))
                        (br (q0.getD 1 (0 : Int) == (5 : Int))
                          (bits_Pack [(5 : Int), (10 : Int)] (4 : Int) fun (q5 : List Int) =>
                            R01_Same q5 [(165 : Int)] fun (q6 : Bool) => k q6)
                          (k false))
                        none)
                      (k false))
                    none)
                  (k false))
                (k false))
          (k false)
noncomputable def L01_awake {ρ : Type}  (k : Bool → Option ρ) : Option ρ := shut (L01_awake_raw (ρ := ρ))  k
theorem L01_awake_eq {ρ : Type}  (k : Bool → Option ρ) : L01_awake  k = L01_awake_raw  k := by unfold L01_awake; rw [shut_eq]

end P
end

section
open Go Go.Abs
set_option linter.unusedVariables false
namespace P
noncomputable def bits_Num_r3 {ρ : Type} (v3 : Int) (v6 : List Int) (v7 : Int) (v8 : Int) (nx : Int → (List Int) → Int → Int → Option ρ) (k0 : Int → (List Int) → Int → Int → Option ρ) : Option ρ :=
  br (decide (v8 < v7))
    (br (decide ((0 : Int) ≤ v8))
      (br (decide (v8 < (↑v6.length : Int)))
        (nx
          (bits BinOp.or IntKind.u64 (IntKind.u64.wrap (v3 * (2 : Int) ^ 8))
            (IntKind.u64.wrap (v6.getD v8.toNat (0 : Int))))
          v6 v7 (IntKind.i64.wrap (v8 + (1 : Int))))
        none)
      none)
    (k0 v3 v6 v7 v8)
noncomputable def bits_Num_L3 {ρ : Type} (v3 : Int) (v6 : List Int) (v7 : Int) (v8 : Int) (k0 : Int → (List Int) → Int → Int → Option ρ) : Option ρ :=
  lp (fun (x : Int × (List Int) × Int × Int) (next : (Int × (List Int) × Int × Int) → Option ρ) (ex : ((Int × (List Int) × Int × Int)) → Option ρ) => bits_Num_r3 x.1 x.2.1 x.2.2.1 x.2.2.2 (fun v3 v6 v7 v8 => next (v3, v6, v7, v8)) (fun v3 v6 v7 v8 => ex ((v3, v6, v7, v8)))) (v3, v6, v7, v8) (fun x => k0 x.1 x.2.1 x.2.2.1 x.2.2.2)
noncomputable def bits_Num_l3 {ρ : Type} (v3 : Int) (v6 : List Int) (v7 : Int) (v8 : Int) (k0 : Int → (List Int) → Int → Int → Option ρ) : Option ρ := shut (bits_Num_L3 (ρ := ρ)) v3 v6 v7 v8 k0
theorem bits_Num_l3_eq {ρ : Type} (v3 : Int) (v6 : List Int) (v7 : Int) (v8 : Int) (k0 : Int → (List Int) → Int → Int → Option ρ) : bits_Num_l3 v3 v6 v7 v8 k0 = bits_Num_L3 v3 v6 v7 v8 k0 := by unfold bits_Num_l3; rw [shut_eq]
noncomputable def bits_Num_raw {ρ : Type} (a0 : List Int) (k : Int → Option ρ) : Option ρ :=
  bits_Num_l3 (0 : Int) a0 (↑a0.length : Int) (0 : Int) fun (q0 : Int) (q1 : List Int) (q2 q3 : Int) => k q0
noncomputable def bits_Num {ρ : Type} (a0 : List Int) (k : Int → Option ρ) : Option ρ := shut (bits_Num_raw (ρ := ρ)) a0 k
theorem bits_Num_eq {ρ : Type} (a0 : List Int) (k : Int → Option ρ) : bits_Num a0 k = bits_Num_raw a0 k := by unfold bits_Num; rw [shut_eq]

end P
end

section
open Go Go.Abs
set_option linter.unusedVariables false
namespace P
noncomputable def bits_NumLe_r3 {ρ : Type} (v0 : List Int) (v3 : Int) (v7 : Int) (v8 : Int) (nx : (List Int) → Int → Int → Int → Option ρ) (k0 : (List Int) → Int → Int → Int → Option ρ) : Option ρ :=
  br (decide (v8 < v7))
    (br (decide ((0 : Int) ≤ v8))
      (br (decide (v8 < (↑v0.length : Int)))
        (br (decide (IntKind.i64.wrap ((8 : Int) * v8) < (0 : Int))) none
          (nx v0
            (bits BinOp.or IntKind.u64 v3
              (IntKind.u64.wrap
                (IntKind.u64.wrap (v0.getD v8.toNat (0 : Int)) *
                  (2 : Int) ^ min (IntKind.i64.wrap ((8 : Int) * v8)).toNat 64)))
            v7 (IntKind.i64.wrap (v8 + (1 : Int)))))
        none)
      none)
    (k0 v0 v3 v7 v8)
noncomputable def bits_NumLe_L3 {ρ : Type} (v0 : List Int) (v3 : Int) (v7 : Int) (v8 : Int) (k0 : (List Int) → Int → Int → Int → Option ρ) : Option ρ :=
  lp (fun (x : (List Int) × Int × Int × Int) (next : ((List Int) × Int × Int × Int) → Option ρ) (ex : (((List Int) × Int × Int × Int)) → Option ρ) => bits_NumLe_r3 x.1 x.2.1 x.2.2.1 x.2.2.2 (fun v0 v3 v7 v8 => next (v0, v3, v7, v8)) (fun v0 v3 v7 v8 => ex ((v0, v3, v7, v8)))) (v0, v3, v7, v8) (fun x => k0 x.1 x.2.1 x.2.2.1 x.2.2.2)
noncomputable def bits_NumLe_l3 {ρ : Type} (v0 : List Int) (v3 : Int) (v7 : Int) (v8 : Int) (k0 : (List Int) → Int → Int → Int → Option ρ) : Option ρ := shut (bits_NumLe_L3 (ρ := ρ)) v0 v3 v7 v8 k0
theorem bits_NumLe_l3_eq {ρ : Type} (v0 : List Int) (v3 : Int) (v7 : Int) (v8 : Int) (k0 : (List Int) → Int → Int → Int → Option ρ) : bits_NumLe_l3 v0 v3 v7 v8 k0 = bits_NumLe_L3 v0 v3 v7 v8 k0 := by unfold bits_NumLe_l3; rw [shut_eq]
noncomputable def bits_NumLe_raw {ρ : Type} (a0 : List Int) (k : Int → Option ρ) : Option ρ :=
  bits_NumLe_l3 a0 (0 : Int) (bif decide ((8 : Int) < (↑a0.length : Int)) then (8 : Int) else (↑a0.length : Int))
    (0 : Int) fun (q0 : List Int) (q1 q2 q3 : Int) => k q1
noncomputable def bits_NumLe {ρ : Type} (a0 : List Int) (k : Int → Option ρ) : Option ρ := shut (bits_NumLe_raw (ρ := ρ)) a0 k
theorem bits_NumLe_eq {ρ : Type} (a0 : List Int) (k : Int → Option ρ) : bits_NumLe a0 k = bits_NumLe_raw a0 k := by unfold bits_NumLe; rw [shut_eq]

end P
end

section
open Go Go.Abs
set_option linter.unusedVariables false
namespace P
noncomputable def bits_Unpack_r8 {ρ : Type} (v0 : List Int) (v1 : Int) (v8 : Int) (v9 : Int) (v10 : Int) (v19 : Int) (v20 : Int) (h0 : List Int) (nx : (List Int) → Int → Int → Int → Int → Int → Int → (List Int) → Option ρ) (k0 : (List Int) → Int → Int → Int → Int → Int → Int → (List Int) → Option ρ) : Option ρ :=
  br (decide (v9 < v1))
    (br (decide ((0 : Int) < (↑v0.length : Int)))
      (br (decide (v9 < (0 : Int))) none
        (br (decide ((1 : Int) ≤ (↑v0.length : Int)))
          (br (decide ((↑v0.length : Int) ≤ (↑v0.length : Int)))
            (nx (List.drop 1 (List.take (↑v0.length : Int).toNat v0)) v1
              (bits BinOp.or IntKind.u64 v8
                (IntKind.u64.wrap
                  (IntKind.u64.wrap (v0.getD 0 (0 : Int)) * (2 : Int) ^ min v9.toNat 64)))
              (IntKind.i64.wrap (v9 + (8 : Int))) v10 v19 v20 h0)
            none)
          none))
      none)
    (k0 v0 v1 v8 v9 v10 v19 v20 h0)
noncomputable def bits_Unpack_L8 {ρ : Type} (v0 : List Int) (v1 : Int) (v8 : Int) (v9 : Int) (v10 : Int) (v19 : Int) (v20 : Int) (h0 : List Int) (k0 : (List Int) → Int → Int → Int → Int → Int → Int → (List Int) → Option ρ) : Option ρ :=
  lp (fun (x : (List Int) × Int × Int × Int × Int × Int × Int × (List Int)) (next : ((List Int) × Int × Int × Int × Int × Int × Int × (List Int)) → Option ρ) (ex : (((List Int) × Int × Int × Int × Int × Int × Int × (List Int))) → Option ρ) => bits_Unpack_r8 x.1 x.2.1 x.2.2.1 x.2.2.2.1 x.2.2.2.2.1 x.2.2.2.2.2.1 x.2.2.2.2.2.2.1 x.2.2.2.2.2.2.2 (fun v0 v1 v8 v9 v10 v19 v20 h0 => next (v0, v1, v8, v9, v10, v19, v20, h0)) (fun v0 v1 v8 v9 v10 v19 v20 h0 => ex ((v0, v1, v8, v9, v10, v19, v20, h0)))) (v0, v1, v8, v9, v10, v19, v20, h0) (fun x => k0 x.1 x.2.1 x.2.2.1 x.2.2.2.1 x.2.2.2.2.1 x.2.2.2.2.2.1 x.2.2.2.2.2.2.1 x.2.2.2.2.2.2.2)
noncomputable def bits_Unpack_l8 {ρ : Type} (v0 : List Int) (v1 : Int) (v8 : Int) (v9 : Int) (v10 : Int) (v19 : Int) (v20 : Int) (h0 : List Int) (k0 : (List Int) → Int → Int → Int → Int → Int → Int → (List Int) → Option ρ) : Option ρ := shut (bits_Unpack_L8 (ρ := ρ)) v0 v1 v8 v9 v10 v19 v20 h0 k0
theorem bits_Unpack_l8_eq {ρ : Type} (v0 : List Int) (v1 : Int) (v8 : Int) (v9 : Int) (v10 : Int) (v19 : Int) (v20 : Int) (h0 : List Int) (k0 : (List Int) → Int → Int → Int → Int → Int → Int → (List Int) → Option ρ) : bits_Unpack_l8 v0 v1 v8 v9 v10 v19 v20 h0 k0 = bits_Unpack_L8 v0 v1 v8 v9 v10 v19 v20 h0 k0 := by unfold bits_Unpack_l8; rw [shut_eq]
noncomputable def bits_Unpack_r6 {ρ : Type} (v0 : List Int) (v1 : Int) (v8 : Int) (v9 : Int) (v19 : Int) (v20 : Int) (h0 : List Int) (nx : (List Int) → Int → Int → Int → Int → Int → (List Int) → Option ρ) (k0 : (List Int) → Int → Int → Int → Int → Int → (List Int) → Option ρ) : Option ρ :=
  br (decide (v20 < v19))
    (bits_Unpack_l8 v0 v1 v8 v9 v20 v19 v20 h0 fun (q0 : List Int) (q1 q2 q3 q4 q5 q6 : Int) (q7 : List Int) =>
      br (decide (q1 < (0 : Int))) none
        (br (decide ((0 : Int) ≤ q4))
          (br (decide (q4 < (↑q7.length : Int)))
            (br (decide (q1 < (0 : Int))) none
              (nx q0 q1 (q2.fdiv ((2 : Int) ^ min q1.toNat 64)) (IntKind.i64.wrap (q3 - q1)) q5
                (IntKind.i64.wrap (q6 + (1 : Int)))
                (q7.set q4.toNat
                  (IntKind.u32.wrap
                    (bits BinOp.and IntKind.u64 q2
                      (IntKind.u64.wrap
                        (IntKind.u64.wrap ((1 : Int) * (2 : Int) ^ min q1.toNat 64) - (1 : Int))))))))
            none)
          none))
    (k0 v0 v1 v8 v9 v19 v20 h0)
noncomputable def bits_Unpack_L6 {ρ : Type} (v0 : List Int) (v1 : Int) (v8 : Int) (v9 : Int) (v19 : Int) (v20 : Int) (h0 : List Int) (k0 : (List Int) → Int → Int → Int → Int → Int → (List Int) → Option ρ) : Option ρ :=
  lp (fun (x : (List Int) × Int × Int × Int × Int × Int × (List Int)) (next : ((List Int) × Int × Int × Int × Int × Int × (List Int)) → Option ρ) (ex : (((List Int) × Int × Int × Int × Int × Int × (List Int))) → Option ρ) => bits_Unpack_r6 x.1 x.2.1 x.2.2.1 x.2.2.2.1 x.2.2.2.2.1 x.2.2.2.2.2.1 x.2.2.2.2.2.2 (fun v0 v1 v8 v9 v19 v20 h0 => next (v0, v1, v8, v9, v19, v20, h0)) (fun v0 v1 v8 v9 v19 v20 h0 => ex ((v0, v1, v8, v9, v19, v20, h0)))) (v0, v1, v8, v9, v19, v20, h0) (fun x => k0 x.1 x.2.1 x.2.2.1 x.2.2.2.1 x.2.2.2.2.1 x.2.2.2.2.2.1 x.2.2.2.2.2.2)
noncomputable def bits_Unpack_l6 {ρ : Type} (v0 : List Int) (v1 : Int) (v8 : Int) (v9 : Int) (v19 : Int) (v20 : Int) (h0 : List Int) (k0 : (List Int) → Int → Int → Int → Int → Int → (List Int) → Option ρ) : Option ρ := shut (bits_Unpack_L6 (ρ := ρ)) v0 v1 v8 v9 v19 v20 h0 k0
theorem bits_Unpack_l6_eq {ρ : Type} (v0 : List Int) (v1 : Int) (v8 : Int) (v9 : Int) (v19 : Int) (v20 : Int) (h0 : List Int) (k0 : (List Int) → Int → Int → Int → Int → Int → (List Int) → Option ρ) : bits_Unpack_l6 v0 v1 v8 v9 v19 v20 h0 k0 = bits_Unpack_L6 v0 v1 v8 v9 v19 v20 h0 k0 := by unfold bits_Unpack_l6; rw [shut_eq]
noncomputable def bits_Unpack_raw {ρ : Type} (a0 : List Int) (a1 : Int) (a2 : Int) (k : (List Int) → Option ρ) : Option ρ :=
  bits_such a0 a1 a2 fun (q0 : Bool) =>
    br (!q0) (k [])
      (br (decide ((0 : Int) ≤ a2))
        (br (decide (a2 ≤ a2))
          (br (decide (a2 * (↑4 : Int) ≤ (↑140737488355328 : Int)))
            (bits_Unpack_l6 a0 a1 (0 : Int) (0 : Int) (↑(List.replicate a2.toNat (0 : Int)).length : Int) (0 : Int)
              (List.replicate a2.toNat (0 : Int)) fun (q1 : List Int) (q2 q3 q4 q5 q6 : Int) (q7 : List Int) => k q7)
            none)
          none)
        none)
noncomputable def bits_Unpack {ρ : Type} (a0 : List Int) (a1 : Int) (a2 : Int) (k : (List Int) → Option ρ) : Option ρ := shut (bits_Unpack_raw (ρ := ρ)) a0 a1 a2 k
theorem bits_Unpack_eq {ρ : Type} (a0 : List Int) (a1 : Int) (a2 : Int) (k : (List Int) → Option ρ) : bits_Unpack a0 a1 a2 k = bits_Unpack_raw a0 a1 a2 k := by unfold bits_Unpack; rw [shut_eq]

end P
end

section
open Go Go.Abs
set_option linter.unusedVariables false
namespace P
noncomputable def slices_Clone_byte {ρ : Type} (a0 : List Int) (k : (List Int) → Option ρ) : Option ρ :=
  br (decide (a0.length * 1 ≤ 140737488355328)) (k a0) none
end P
end

section
open Go Go.Abs
set_option linter.unusedVariables false
namespace P
noncomputable def bits_Xor_r3 {ρ : Type} (v1 : List Int) (v16 : Int) (v17 : Int) (h0 : List Int) (nx : (List Int) → Int → Int → (List Int) → Option ρ) (k0 : (List Int) → Int → Int → (List Int) → Option ρ) : Option ρ :=
  br (decide (v17 < v16))
    (br (decide ((0 : Int) ≤ v17))
      (br (decide (v17 < (↑h0.length : Int)))
        (br (decide ((0 : Int) ≤ v17))
          (br (decide (v17 < (↑v1.length : Int)))
            (br (decide ((0 : Int) ≤ v17))
              (br (decide (v17 < (↑h0.length : Int)))
                (nx v1 v16 (IntKind.i64.wrap (v17 + (1 : Int)))
                  (h0.set v17.toNat
                    (bits BinOp.xor IntKind.u8 (h0.getD v17.toNat (0 : Int)) (v1.getD v17.toNat (0 : Int)))))
                none)
              none)
            none)
          none)
        none)
      none)
    (k0 v1 v16 v17 h0)
noncomputable def bits_Xor_L3 {ρ : Type} (v1 : List Int) (v16 : Int) (v17 : Int) (h0 : List Int) (k0 : (List Int) → Int → Int → (List Int) → Option ρ) : Option ρ :=
  lp (fun (x : (List Int) × Int × Int × (List Int)) (next : ((List Int) × Int × Int × (List Int)) → Option ρ) (ex : (((List Int) × Int × Int × (List Int))) → Option ρ) => bits_Xor_r3 x.1 x.2.1 x.2.2.1 x.2.2.2 (fun v1 v16 v17 h0 => next (v1, v16, v17, h0)) (fun v1 v16 v17 h0 => ex ((v1, v16, v17, h0)))) (v1, v16, v17, h0) (fun x => k0 x.1 x.2.1 x.2.2.1 x.2.2.2)
noncomputable def bits_Xor_l3 {ρ : Type} (v1 : List Int) (v16 : Int) (v17 : Int) (h0 : List Int) (k0 : (List Int) → Int → Int → (List Int) → Option ρ) : Option ρ := shut (bits_Xor_L3 (ρ := ρ)) v1 v16 v17 h0 k0
theorem bits_Xor_l3_eq {ρ : Type} (v1 : List Int) (v16 : Int) (v17 : Int) (h0 : List Int) (k0 : (List Int) → Int → Int → (List Int) → Option ρ) : bits_Xor_l3 v1 v16 v17 h0 k0 = bits_Xor_L3 v1 v16 v17 h0 k0 := by unfold bits_Xor_l3; rw [shut_eq]
noncomputable def bits_Xor_raw {ρ : Type} (a0 : List Int) (a1 : List Int) (k : (List Int) → Option ρ) : Option ρ :=
  br
    (decide
      ((0 : Int) ≤ bif decide ((↑a1.length : Int) < (↑a0.length : Int)) then (↑a1.length : Int) else (↑a0.length : Int)))
    (br
      (decide
        ((bif decide ((↑a1.length : Int) < (↑a0.length : Int)) then (↑a1.length : Int) else (↑a0.length : Int)) ≤
          (↑a0.length : Int)))
      (slices_Clone_byte
        (List.drop 0
          (List.take
            (bif decide ((↑a1.length : Int) < (↑a0.length : Int)) then (↑a1.length : Int) else (↑a0.length : Int)).toNat
            a0))
        fun (q0 : List Int) =>
        bits_Xor_l3 a1 (↑q0.length : Int) (0 : Int) q0 fun (q1 : List Int) (q2 q3 : Int) (q4 : List Int) => k q4)
      none)
    none
noncomputable def bits_Xor {ρ : Type} (a0 : List Int) (a1 : List Int) (k : (List Int) → Option ρ) : Option ρ := shut (bits_Xor_raw (ρ := ρ)) a0 a1 k
theorem bits_Xor_eq {ρ : Type} (a0 : List Int) (a1 : List Int) (k : (List Int) → Option ρ) : bits_Xor a0 a1 k = bits_Xor_raw a0 a1 k := by unfold bits_Xor; rw [shut_eq]

end P
end

section
open Go Go.Abs
set_option linter.unusedVariables false
namespace P
noncomputable def L01_BitsBack_r10 {ρ : Type} (v3 : List Int) (v4 : List Int) (v11 : Int) (v67 : List Int) (v68 : Int) (v69 : Int) (h0 : List Int) (h1 : List Int) (h2 : List Int) (h3 : List Int) (h4 : List Int) (nx : (List Int) → (List Int) → Int → (List Int) → Int → Int → (List Int) → (List Int) → (List Int) → (List Int) → (List Int) → Option ρ) (k0 : (List Int) → (List Int) → Int → (List Int) → Int → Int → (List Int) → (List Int) → (List Int) → (List Int) → (List Int) → Option ρ) (k1 : Bool → (List Int) → (List Int) → (List Int) → (List Int) → (List Int) → Option ρ) : Option ρ :=
  br (decide (v69 < v68))
    (br (decide ((0 : Int) ≤ v69))
      (br (decide (v69 < (↑v67.length : Int)))
        (br (decide ((0 : Int) ≤ v69))
          (br (decide (v69 < (↑h4.length : Int)))
            (br (decide (v11 < (0 : Int))) none
              (br (decide (IntKind.u32.wrap ((1 : Int) * (2 : Int) ^ min v11.toNat 32) = (0 : Int))) none
                (br
                  (h4.getD v69.toNat (0 : Int) !=
                    (v67.getD v69.toNat (0 : Int)).tmod
                      (IntKind.u32.wrap ((1 : Int) * (2 : Int) ^ min v11.toNat 32)))
                  (k1 false h0 h1 h2 h3 h4) (nx v3 v4 v11 v67 v68 (IntKind.i64.wrap (v69 + (1 : Int))) h0 h1 h2 h3 h4))))
            none)
          none)
        none)
      none)
    (k0 v3 v4 v11 v67 v68 v69 h0 h1 h2 h3 h4)
noncomputable def L01_BitsBack_L10 {ρ : Type} (v3 : List Int) (v4 : List Int) (v11 : Int) (v67 : List Int) (v68 : Int) (v69 : Int) (h0 : List Int) (h1 : List Int) (h2 : List Int) (h3 : List Int) (h4 : List Int) (k0 : (List Int) → (List Int) → Int → (List Int) → Int → Int → (List Int) → (List Int) → (List Int) → (List Int) → (List Int) → Option ρ) (k1 : Bool → (List Int) → (List Int) → (List Int) → (List Int) → (List Int) → Option ρ) : Option ρ :=
  lp (fun (x : (List Int) × (List Int) × Int × (List Int) × Int × Int × (List Int) × (List Int) × (List Int) × (List Int) × (List Int)) (next : ((List Int) × (List Int) × Int × (List Int) × Int × Int × (List Int) × (List Int) × (List Int) × (List Int) × (List Int)) → Option ρ) (ex : (((List Int) × (List Int) × Int × (List Int) × Int × Int × (List Int) × (List Int) × (List Int) × (List Int) × (List Int)) ⊕ ((Bool × (List Int) × (List Int) × (List Int) × (List Int) × (List Int)))) → Option ρ) => L01_BitsBack_r10 x.1 x.2.1 x.2.2.1 x.2.2.2.1 x.2.2.2.2.1 x.2.2.2.2.2.1 x.2.2.2.2.2.2.1 x.2.2.2.2.2.2.2.1 x.2.2.2.2.2.2.2.2.1 x.2.2.2.2.2.2.2.2.2.1 x.2.2.2.2.2.2.2.2.2.2 (fun v3 v4 v11 v67 v68 v69 h0 h1 h2 h3 h4 => next (v3, v4, v11, v67, v68, v69, h0, h1, h2, h3, h4)) (fun v3 v4 v11 v67 v68 v69 h0 h1 h2 h3 h4 => ex (.inl (v3, v4, v11, v67, v68, v69, h0, h1, h2, h3, h4))) (fun v10 h0 h1 h2 h3 h4 => ex (.inr (v10, h0, h1, h2, h3, h4)))) (v3, v4, v11, v67, v68, v69, h0, h1, h2, h3, h4) (Sum.elim (fun x => k0 x.1 x.2.1 x.2.2.1 x.2.2.2.1 x.2.2.2.2.1 x.2.2.2.2.2.1 x.2.2.2.2.2.2.1 x.2.2.2.2.2.2.2.1 x.2.2.2.2.2.2.2.2.1 x.2.2.2.2.2.2.2.2.2.1 x.2.2.2.2.2.2.2.2.2.2) (fun x => k1 x.1 x.2.1 x.2.2.1 x.2.2.2.1 x.2.2.2.2.1 x.2.2.2.2.2))
noncomputable def L01_BitsBack_l10 {ρ : Type} (v3 : List Int) (v4 : List Int) (v11 : Int) (v67 : List Int) (v68 : Int) (v69 : Int) (h0 : List Int) (h1 : List Int) (h2 : List Int) (h3 : List Int) (h4 : List Int) (k0 : (List Int) → (List Int) → Int → (List Int) → Int → Int → (List Int) → (List Int) → (List Int) → (List Int) → (List Int) → Option ρ) (k1 : Bool → (List Int) → (List Int) → (List Int) → (List Int) → (List Int) → Option ρ) : Option ρ := shut (L01_BitsBack_L10 (ρ := ρ)) v3 v4 v11 v67 v68 v69 h0 h1 h2 h3 h4 k0 k1
theorem L01_BitsBack_l10_eq {ρ : Type} (v3 : List Int) (v4 : List Int) (v11 : Int) (v67 : List Int) (v68 : Int) (v69 : Int) (h0 : List Int) (h1 : List Int) (h2 : List Int) (h3 : List Int) (h4 : List Int) (k0 : (List Int) → (List Int) → Int → (List Int) → Int → Int → (List Int) → (List Int) → (List Int) → (List Int) → (List Int) → Option ρ) (k1 : Bool → (List Int) → (List Int) → (List Int) → (List Int) → (List Int) → Option ρ) : L01_BitsBack_l10 v3 v4 v11 v67 v68 v69 h0 h1 h2 h3 h4 k0 k1 = L01_BitsBack_L10 v3 v4 v11 v67 v68 v69 h0 h1 h2 h3 h4 k0 k1 := by unfold L01_BitsBack_l10; rw [shut_eq]
noncomputable def L01_BitsBack_r20 {ρ : Type} (v3 : List Int) (v4 : List Int) (v105 : Int) (v106 : Int) (h4 : List Int) (h3 : List Int) (h2 : List Int) (h1 : List Int) (h0 : List Int) (h5 : List Int) (h6 : List Int) (h7 : List Int) (nx : (List Int) → (List Int) → Int → Int → (List Int) → (List Int) → (List Int) → (List Int) → (List Int) → (List Int) → (List Int) → (List Int) → Option ρ) (k0 : (List Int) → (List Int) → Int → Int → (List Int) → (List Int) → (List Int) → (List Int) → (List Int) → (List Int) → (List Int) → (List Int) → Option ρ) (k1 : Bool → (List Int) → (List Int) → (List Int) → (List Int) → (List Int) → (List Int) → (List Int) → (List Int) → Option ρ) : Option ρ :=
  br (decide (v106 < v105))
    (br (decide ((0 : Int) ≤ v106))
      (br (decide (v106 < (↑h7.length : Int)))
        (br (decide ((0 : Int) ≤ v106))
          (br (decide (v106 < (↑v3.length : Int)))
            (br (h7.getD v106.toNat (0 : Int) != IntKind.u32.wrap (v3.getD v106.toNat (0 : Int)))
              (k1 false h4 h3 h2 h1 h0 h5 h6 h7)
              (nx v3 v4 v105 (IntKind.i64.wrap (v106 + (1 : Int))) h4 h3 h2 h1 h0 h5 h6 h7))
            none)
          none)
        none)
      none)
    (k0 v3 v4 v105 v106 h4 h3 h2 h1 h0 h5 h6 h7)
noncomputable def L01_BitsBack_L20 {ρ : Type} (v3 : List Int) (v4 : List Int) (v105 : Int) (v106 : Int) (h4 : List Int) (h3 : List Int) (h2 : List Int) (h1 : List Int) (h0 : List Int) (h5 : List Int) (h6 : List Int) (h7 : List Int) (k0 : (List Int) → (List Int) → Int → Int → (List Int) → (List Int) → (List Int) → (List Int) → (List Int) → (List Int) → (List Int) → (List Int) → Option ρ) (k1 : Bool → (List Int) → (List Int) → (List Int) → (List Int) → (List Int) → (List Int) → (List Int) → (List Int) → Option ρ) : Option ρ :=
  lp (fun (x : (List Int) × (List Int) × Int × Int × (List Int) × (List Int) × (List Int) × (List Int) × (List Int) × (List Int) × (List Int) × (List Int)) (next : ((List Int) × (List Int) × Int × Int × (List Int) × (List Int) × (List Int) × (List Int) × (List Int) × (List Int) × (List Int) × (List Int)) → Option ρ) (ex : (((List Int) × (List Int) × Int × Int × (List Int) × (List Int) × (List Int) × (List Int) × (List Int) × (List Int) × (List Int) × (List Int)) ⊕ ((Bool × (List Int) × (List Int) × (List Int) × (List Int) × (List Int) × (List Int) × (List Int) × (List Int)))) → Option ρ) => L01_BitsBack_r20 x.1 x.2.1 x.2.2.1 x.2.2.2.1 x.2.2.2.2.1 x.2.2.2.2.2.1 x.2.2.2.2.2.2.1 x.2.2.2.2.2.2.2.1 x.2.2.2.2.2.2.2.2.1 x.2.2.2.2.2.2.2.2.2.1 x.2.2.2.2.2.2.2.2.2.2.1 x.2.2.2.2.2.2.2.2.2.2.2 (fun v3 v4 v105 v106 h4 h3 h2 h1 h0 h5 h6 h7 => next (v3, v4, v105, v106, h4, h3, h2, h1, h0, h5, h6, h7)) (fun v3 v4 v105 v106 h4 h3 h2 h1 h0 h5 h6 h7 => ex (.inl (v3, v4, v105, v106, h4, h3, h2, h1, h0, h5, h6, h7))) (fun v10 h4 h3 h2 h1 h0 h5 h6 h7 => ex (.inr (v10, h4, h3, h2, h1, h0, h5, h6, h7)))) (v3, v4, v105, v106, h4, h3, h2, h1, h0, h5, h6, h7) (Sum.elim (fun x => k0 x.1 x.2.1 x.2.2.1 x.2.2.2.1 x.2.2.2.2.1 x.2.2.2.2.2.1 x.2.2.2.2.2.2.1 x.2.2.2.2.2.2.2.1 x.2.2.2.2.2.2.2.2.1 x.2.2.2.2.2.2.2.2.2.1 x.2.2.2.2.2.2.2.2.2.2.1 x.2.2.2.2.2.2.2.2.2.2.2) (fun x => k1 x.1 x.2.1 x.2.2.1 x.2.2.2.1 x.2.2.2.2.1 x.2.2.2.2.2.1 x.2.2.2.2.2.2.1 x.2.2.2.2.2.2.2.1 x.2.2.2.2.2.2.2.2))
noncomputable def L01_BitsBack_l20 {ρ : Type} (v3 : List Int) (v4 : List Int) (v105 : Int) (v106 : Int) (h4 : List Int) (h3 : List Int) (h2 : List Int) (h1 : List Int) (h0 : List Int) (h5 : List Int) (h6 : List Int) (h7 : List Int) (k0 : (List Int) → (List Int) → Int → Int → (List Int) → (List Int) → (List Int) → (List Int) → (List Int) → (List Int) → (List Int) → (List Int) → Option ρ) (k1 : Bool → (List Int) → (List Int) → (List Int) → (List Int) → (List Int) → (List Int) → (List Int) → (List Int) → Option ρ) : Option ρ := shut (L01_BitsBack_L20 (ρ := ρ)) v3 v4 v105 v106 h4 h3 h2 h1 h0 h5 h6 h7 k0 k1
theorem L01_BitsBack_l20_eq {ρ : Type} (v3 : List Int) (v4 : List Int) (v105 : Int) (v106 : Int) (h4 : List Int) (h3 : List Int) (h2 : List Int) (h1 : List Int) (h0 : List Int) (h5 : List Int) (h6 : List Int) (h7 : List Int) (k0 : (List Int) → (List Int) → Int → Int → (List Int) → (List Int) → (List Int) → (List Int) → (List Int) → (List Int) → (List Int) → (List Int) → Option ρ) (k1 : Bool → (List Int) → (List Int) → (List Int) → (List Int) → (List Int) → (List Int) → (List Int) → (List Int) → Option ρ) : L01_BitsBack_l20 v3 v4 v105 v106 h4 h3 h2 h1 h0 h5 h6 h7 k0 k1 = L01_BitsBack_L20 v3 v4 v105 v106 h4 h3 h2 h1 h0 h5 h6 h7 k0 k1 := by unfold L01_BitsBack_l20; rw [shut_eq]
noncomputable def L01_BitsBack_raw {ρ : Type} (a0 : Int) (a1 : List Int) (a2 : Int) (a3 : List Int) (a4 : List Int) (k : Bool → Option ρ) : Option ρ :=
  br (decide ((↑a1.length : Int) > (400 : Int))) (L01_awake fun (q0 : Bool) => k q0)
    (br (decide (IntKind.i64.wrap ((↑a3.length : Int) + (↑a4.length : Int)) > (1000 : Int)))
      (L01_awake fun (q1 : Bool) => k q1)
      (bits_Be a0 (8 : Int) fun (q2 : List Int) =>
        bits_Num q2 fun (q3 : Int) =>
          br (q3 != a0) (k false)
            (bits_Le a0 (8 : Int) fun (q4 : List Int) =>
              bits_NumLe q4 fun (q5 : Int) =>
                br (q5 != a0) (k false)
                  (bits_Be a0 (3 : Int) fun (q6 : List Int) =>
                    bits_Num q6 fun (q7 : Int) =>
                      br (q7 != a0.tmod (16777216 : Int)) (k false)
                        (bits_Pack a1 (IntKind.i64.wrap ((1 : Int) + IntKind.i64.wrap (a2.tmod (24 : Int))))
                          fun (q8 : List Int) =>
                          bits_Unpack q8 (IntKind.i64.wrap ((1 : Int) + IntKind.i64.wrap (a2.tmod (24 : Int))))
                            (↑a1.length : Int) fun (q9 : List Int) =>
                            br ((↑q9.length : Int) != (↑a1.length : Int)) (k false)
                              (L01_BitsBack_l10 a3 a4
                                (IntKind.i64.wrap ((1 : Int) + IntKind.i64.wrap (a2.tmod (24 : Int)))) a1
                                (↑a1.length : Int) (0 : Int) q2 q4 q6 q8 q9
                                (fun (q10 q11 : List Int) (q12 : Int) (q13 : List Int) (q14 q15 : Int)
                                    (q16 q17 q18 q19 q20 : List Int) =>
                                  br
                                    (decide
                                      ((0 : Int) ≤
                                        IntKind.i64.wrap
                                          (IntKind.i64.wrap ((↑q10.length : Int).tdiv (3 : Int)) * (3 : Int))))
                                    (br
                                      (decide
                                        (IntKind.i64.wrap
                                            (IntKind.i64.wrap ((↑q10.length : Int).tdiv (3 : Int)) * (3 : Int)) ≤
                                          (↑q10.length : Int)))
                                      (bits_Unpack
                                        (List.drop 0
                                          (List.take
                                            (IntKind.i64.wrap
                                                (IntKind.i64.wrap ((↑q10.length : Int).tdiv (3 : Int)) * (3 : Int))).toNat
                                            q10))
                                        (12 : Int)
                                        (IntKind.i64.wrap
                                          ((IntKind.i64.wrap
                                                ((↑(List.drop 0
                                                          (List.take
                                                            (IntKind.i64.wrap
                                                                (IntKind.i64.wrap ((↑q10.length : Int).tdiv (3 : Int)) *
                                                                  (3 : Int))).toNat
                                                            q10)).length :
                                                    Int) *
                                                  (2 : Int))).tdiv
                                            (3 : Int)))
                                        fun (q21 : List Int) =>
                                        bits_Pack q21 (12 : Int) fun (q22 : List Int) =>
                                          R01_Same q22
                                            (List.drop 0
                                              (List.take
                                                (IntKind.i64.wrap
                                                    (IntKind.i64.wrap ((↑q10.length : Int).tdiv (3 : Int)) *
                                                      (3 : Int))).toNat
                                                q10))
                                            fun (q23 : Bool) =>
                                            br (!q23) (k false)
                                              (bits_Digits q10 (8 : Int) (↑q10.length : Int) fun (q24 : List Int) =>
                                                L01_BitsBack_l20 q10 q11 (↑q24.length : Int) (0 : Int) q20 q19 q18 q17
                                                  q16 q21 q22 q24
                                                  (fun (q25 q26 : List Int) (q27 q28 : Int)
                                                      (q29 q30 q31 q32 q33 q34 q35 q36 : List Int) =>
                                                    br ((↑q36.length : Int) == (↑q25.length : Int))
                                                      (bits_Xor q25 q26 fun (q37 : List Int) =>
                                                        bits_Xor q37 q26 fun (q38 : List Int) =>
                                                          br
                                                            (decide
                                                              ((0 : Int) ≤
                                                                bif
                                                                    decide
                                                                      ((↑q26.length : Int) < (↑q25.length : Int)) then
                                                                  (↑q26.length : Int)
                                                                else (↑q25.length : Int)))
                                                            (br
                                                              (decide
                                                                ((bif
                                                                      decide
                                                                        ((↑q26.length : Int) < (↑q25.length : Int)) then
                                                                    (↑q26.length : Int)
                                                                  else (↑q25.length : Int)) ≤
                                                                  (↑q25.length : Int)))
                                                              (R01_Same q38
                                                                (List.drop 0
                                                                  (List.take
                                                                    (bif
                                                                          decide
                                                                            ((↑q26.length : Int) <
                                                                              (↑q25.length : Int)) then
                                                                        (↑q26.length : Int)
                                                                      else (↑q25.length : Int)).toNat
                                                                    q25))
                                                                fun (q39 : Bool) =>
                                                                br q39 (L01_awake fun (q40 : Bool) => k q40) (k false))
                                                              none)
                                                            none)
                                                      (k false))
                                                  fun (q41 : Bool) (q42 q43 q44 q45 q46 q47 q48 q49 : List Int) => k q41))
                                      none)
                                    none)
                                fun (q50 : Bool) (q51 q52 q53 q54 q55 : List Int) => k q50))))))
noncomputable def L01_BitsBack {ρ : Type} (a0 : Int) (a1 : List Int) (a2 : Int) (a3 : List Int) (a4 : List Int) (k : Bool → Option ρ) : Option ρ := shut (L01_BitsBack_raw (ρ := ρ)) a0 a1 a2 a3 a4 k
theorem L01_BitsBack_eq {ρ : Type} (a0 : Int) (a1 : List Int) (a2 : Int) (a3 : List Int) (a4 : List Int) (k : Bool → Option ρ) : L01_BitsBack a0 a1 a2 a3 a4 k = L01_BitsBack_raw a0 a1 a2 a3 a4 k := by unfold L01_BitsBack; rw [shut_eq]

end P
end

section
open Go Go.Abs Go.Proofs
set_option maxRecDepth 100000
set_option linter.unusedVariables false
namespace R01_Same
def S4 (v0 : List Int) (v1 : List Int) (v5 : Int) : ASt := ⟨[(0, .sl (.ints .u8 v0)), (1, .sl (.ints .u8 v1)), (5, .v (.int .i64 v5))], [], 0, 26⟩
def V4 : ASt → Option ((List Int) × (List Int) × Int)
  | ⟨[(0, .sl (.ints .u8 v0)), (1, .sl (.ints .u8 v1)), (5, .v (.int .i64 v5))], [], 0, 26⟩ => some (v0, v1, v5)
  | _ => none
theorem V4_ok (st : ASt) (x : (List Int) × (List Int) × Int) (h : V4 st = some x) : st = S4 x.1 x.2.1 x.2.2 := by
  unfold V4 at h
  split at h
  · cases h; rfl
  · cases h
noncomputable def L4 : LSpec := fun st K => match V4 st with
  | some x => P.R01_Same_l4 x.1 x.2.1 x.2.2 (fun v0 v1 v5 => K (.exit 0) (S4 v0 v1 v5)) (fun v4 => K .ret ⟨[(4, .v (.bool v4))], [], 0, 26⟩)
  | none => none
noncomputable def D : Ctx := ({ P := Try.prog, G := [], globs := [], hints := [(4, ⟨[0, 1, 5], [], [4], []⟩)], loops := [(4, L4)], inl := [] } : Ctx)
def E4 (K : AExit → ASt → Option R) : (((List Int) × (List Int) × Int) ⊕ ((Bool))) → Option R := (Sum.elim (fun x => K (.exit 0) (S4 x.1 x.2.1 x.2.2)) (fun x => K .ret ⟨[(4, .v (.bool x))], [], 0, 26⟩))
theorem round4 (K : AExit → ASt → Option R) (next : ASt → Option R) (x : (List Int) × (List Int) × Int) : roundA D (loopAt Try.f19 4) K next (S4 x.1 x.2.1 x.2.2) = (fun (x : (List Int) × (List Int) × Int) (next : ((List Int) × (List Int) × Int) → Option R) (ex : (((List Int) × (List Int) × Int) ⊕ ((Bool))) → Option R) => P.R01_Same_r4 x.1 x.2.1 x.2.2 (fun v0 v1 v5 => next (v0, v1, v5)) (fun v0 v1 v5 => ex (.inl (v0, v1, v5))) (fun v4 => ex (.inr v4))) x (fun x => next (S4 x.1 x.2.1 x.2.2)) (E4 K) := by kernel_rfl
theorem lq4 (st : ASt) (K : AExit → ASt → Option R) : L4 st K = vMap (V4 st) (fun x => lp (fun (x : (List Int) × (List Int) × Int) (next : ((List Int) × (List Int) × Int) → Option R) (ex : (((List Int) × (List Int) × Int) ⊕ ((Bool))) → Option R) => P.R01_Same_r4 x.1 x.2.1 x.2.2 (fun v0 v1 v5 => next (v0, v1, v5)) (fun v0 v1 v5 => ex (.inl (v0, v1, v5))) (fun v4 => ex (.inr v4))) x (E4 K)) := by
  unfold L4
  cases V4 st with
  | none => rfl
  | some x => simp only [P.R01_Same_l4_eq]; rfl
theorem loop4 : LoopOk D (loopAt Try.f19 4) := loopOk_lp (X := (List Int) × (List Int) × Int) (Y := ((List Int) × (List Int) × Int) ⊕ ((Bool))) (fun x => S4 x.1 x.2.1 x.2.2) V4_ok (stp := (fun (x : (List Int) × (List Int) × Int) (next : ((List Int) × (List Int) × Int) → Option R) (ex : (((List Int) × (List Int) × Int) ⊕ ((Bool))) → Option R) => P.R01_Same_r4 x.1 x.2.1 x.2.2 (fun v0 v1 v5 => next (v0, v1, v5)) (fun v0 v1 v5 => ex (.inl (v0, v1, v5))) (fun v4 => ex (.inr v4)))) (enc := E4) (L := L4) (by kernel_rfl) lq4 round4
theorem body (a0 : List Int) (a1 : List Int) (K : AVal → Option R) : bodyA D Try.f19 [.any] [.sl (.ints .u8 a0), .sl (.ints .u8 a1)] K = P.R01_Same a0 a1 (fun r0 => K (.v (.bool r0))) := by
  rw [P.R01_Same_eq]
  kernel_rfl
theorem loops : loopsOf (Try.f19.body.getD .skip) = [loopAt Try.f19 4] := by kernel_rfl
noncomputable def spec0 : Abs.Spec := fun args K => match args with
  | [.sl (.ints .u8 a0), .sl (.ints .u8 a1)] => P.R01_Same a0 a1 (fun r0 => K (.v (.bool r0)))
  | _ => none
noncomputable def spec : Abs.Spec := fun args K => spec0 (coerL [.sl (.ints .u8 []), .sl (.ints .u8 [])] args) K
theorem ok0 : Proved Try.prog [] 19 spec0 := by
  refine proved_of (D := D) (fn := Try.f19) (c := Try.f19.body.getD .skip) [.any] (by kernel_rfl) (globsPlain_of (by kernel_rfl)) (by kernel_rfl) (by kernel_rfl) (by kernel_rfl) trivial trivial ?_ ?_
  · rw [loops]; exact ⟨loop4, trivial⟩
  · intro args K r h
    unfold spec0 at h
    split at h
    · rw [body]; exact h
    · cases h
theorem ok : Proved Try.prog [] 19 spec := proved_coer _ ok0
end R01_Same
end

section
open Go Go.Abs Go.Proofs
set_option maxRecDepth 100000
set_option linter.unusedVariables false
namespace bits_Le
def S5 (v0 : Int) (v16 : Int) (v17 : Int) (h0 : List Int) : ASt := ⟨[(0, .v (.int .u64 v0)), (5, .own 0), (16, .v (.int .i64 v16)), (17, .v (.int .i64 v17))], [(0, some ⟨.row 5 (.ints .u8 h0), false⟩)], 1, 30⟩
def V5 : ASt → Option (Int × Int × Int × (List Int))
  | ⟨[(0, .v (.int .u64 v0)), (5, .own 0), (16, .v (.int .i64 v16)), (17, .v (.int .i64 v17))], [(0, some ⟨.row 5 (.ints .u8 h0), false⟩)], 1, 30⟩ => some (v0, v16, v17, h0)
  | _ => none
theorem V5_ok (st : ASt) (x : Int × Int × Int × (List Int)) (h : V5 st = some x) : st = S5 x.1 x.2.1 x.2.2.1 x.2.2.2 := by
  unfold V5 at h
  split at h
  · cases h; rfl
  · cases h
noncomputable def L5 : LSpec := fun st K => match V5 st with
  | some x => P.bits_Le_l5 x.1 x.2.1 x.2.2.1 x.2.2.2 (fun v0 v16 v17 h0 => K (.exit 0) (S5 v0 v16 v17 h0))
  | none => none
noncomputable def D : Ctx := ({ P := Try.prog, G := [], globs := [], hints := [(5, ⟨[0, 5, 16, 17], [], [4], []⟩)], loops := [(5, L5)], inl := [] } : Ctx)
def E5 (K : AExit → ASt → Option R) : ((Int × Int × Int × (List Int))) → Option R := (fun x => K (.exit 0) (S5 x.1 x.2.1 x.2.2.1 x.2.2.2))
theorem round5 (K : AExit → ASt → Option R) (next : ASt → Option R) (x : Int × Int × Int × (List Int)) : roundA D (loopAt Try.f32 5) K next (S5 x.1 x.2.1 x.2.2.1 x.2.2.2) = (fun (x : Int × Int × Int × (List Int)) (next : (Int × Int × Int × (List Int)) → Option R) (ex : ((Int × Int × Int × (List Int))) → Option R) => P.bits_Le_r5 x.1 x.2.1 x.2.2.1 x.2.2.2 (fun v0 v16 v17 h0 => next (v0, v16, v17, h0)) (fun v0 v16 v17 h0 => ex ((v0, v16, v17, h0)))) x (fun x => next (S5 x.1 x.2.1 x.2.2.1 x.2.2.2)) (E5 K) := by kernel_rfl
theorem lq5 (st : ASt) (K : AExit → ASt → Option R) : L5 st K = vMap (V5 st) (fun x => lp (fun (x : Int × Int × Int × (List Int)) (next : (Int × Int × Int × (List Int)) → Option R) (ex : ((Int × Int × Int × (List Int))) → Option R) => P.bits_Le_r5 x.1 x.2.1 x.2.2.1 x.2.2.2 (fun v0 v16 v17 h0 => next (v0, v16, v17, h0)) (fun v0 v16 v17 h0 => ex ((v0, v16, v17, h0)))) x (E5 K)) := by
  unfold L5
  cases V5 st with
  | none => rfl
  | some x => simp only [P.bits_Le_l5_eq]; rfl
theorem loop5 : LoopOk D (loopAt Try.f32 5) := loopOk_lp (X := Int × Int × Int × (List Int)) (Y := (Int × Int × Int × (List Int))) (fun x => S5 x.1 x.2.1 x.2.2.1 x.2.2.2) V5_ok (stp := (fun (x : Int × Int × Int × (List Int)) (next : (Int × Int × Int × (List Int)) → Option R) (ex : ((Int × Int × Int × (List Int))) → Option R) => P.bits_Le_r5 x.1 x.2.1 x.2.2.1 x.2.2.2 (fun v0 v16 v17 h0 => next (v0, v16, v17, h0)) (fun v0 v16 v17 h0 => ex ((v0, v16, v17, h0))))) (enc := E5) (L := L5) (by kernel_rfl) lq5 round5
theorem body (a0 : Int) (a1 : Int) (K : AVal → Option R) : bodyA D Try.f32 [.fr 5 (.ints .u8 [])] [.v (.int .u64 a0), .v (.int .i64 a1)] K = P.bits_Le a0 a1 (fun r0 => K (.fr 5 (.ints .u8 r0))) := by
  rw [P.bits_Le_eq]
  kernel_rfl
theorem loops : loopsOf (Try.f32.body.getD .skip) = [loopAt Try.f32 5] := by kernel_rfl
noncomputable def spec0 : Abs.Spec := fun args K => match args with
  | [.v (.int .u64 a0), .v (.int .i64 a1)] => P.bits_Le a0 a1 (fun r0 => K (.fr 5 (.ints .u8 r0)))
  | _ => none
noncomputable def spec : Abs.Spec := spec0
theorem ok0 : Proved Try.prog [] 32 spec0 := by
  refine proved_of (D := D) (fn := Try.f32) (c := Try.f32.body.getD .skip) [.fr 5 (.ints .u8 [])] (by kernel_rfl) (globsPlain_of (by kernel_rfl)) (by kernel_rfl) (by kernel_rfl) (by kernel_rfl) trivial trivial ?_ ?_
  · rw [loops]; exact ⟨loop5, trivial⟩
  · intro args K r h
    unfold spec0 at h
    split at h
    · rw [body]; exact h
    · cases h
theorem ok : Proved Try.prog [] 32 spec := ok0
end bits_Le
end

section
open Go Go.Abs Go.Proofs
set_option maxRecDepth 100000
set_option linter.unusedVariables false
namespace bits_Be
def S1_1 (v2 : Int) (v3 : Int) (h0 : List Int) : ASt := ⟨[(0, .own 0), (2, .v (.int .i64 v2)), (3, .v (.int .i64 v3))], [(0, some ⟨.row 5 (.ints .u8 h0), false⟩)], 1, 28⟩
def V1_1 : ASt → Option (Int × Int × (List Int))
  | ⟨[(0, .own 0), (2, .v (.int .i64 v2)), (3, .v (.int .i64 v3))], [(0, some ⟨.row 5 (.ints .u8 h0), false⟩)], 1, 28⟩ => some (v2, v3, h0)
  | _ => none
theorem V1_1_ok (st : ASt) (x : Int × Int × (List Int)) (h : V1_1 st = some x) : st = S1_1 x.1 x.2.1 x.2.2 := by
  unfold V1_1 at h
  split at h
  · cases h; rfl
  · cases h
noncomputable def L1_1 : LSpec := fun st K => match V1_1 st with
  | some x => P.bits_Be_l1_1 x.1 x.2.1 x.2.2 (fun v2 v3 h0 => K (.exit 0) (S1_1 v2 v3 h0))
  | none => none
noncomputable def D1 : Ctx := ({ P := Try.prog, G := [], globs := [], hints := [(1, ⟨[0, 2, 3], [], [], []⟩)], loops := [(1, L1_1)], inl := [] } : Ctx)
noncomputable def D : Ctx := ({ P := Try.prog, G := [(32, bits_Le.spec)], globs := [], hints := [], loops := [], inl := [(70, bodyIn D1 Try.f70)] } : Ctx)
def E1_1 (K : AExit → ASt → Option R) : ((Int × Int × (List Int))) → Option R := (fun x => K (.exit 0) (S1_1 x.1 x.2.1 x.2.2))
theorem round1_1 (K : AExit → ASt → Option R) (next : ASt → Option R) (x : Int × Int × (List Int)) : roundA D1 (loopAt Try.f70 1) K next (S1_1 x.1 x.2.1 x.2.2) = (fun (x : Int × Int × (List Int)) (next : (Int × Int × (List Int)) → Option R) (ex : ((Int × Int × (List Int))) → Option R) => P.bits_Be_r1_1 x.1 x.2.1 x.2.2 (fun v2 v3 h0 => next (v2, v3, h0)) (fun v2 v3 h0 => ex ((v2, v3, h0)))) x (fun x => next (S1_1 x.1 x.2.1 x.2.2)) (E1_1 K) := by kernel_rfl
theorem lq1_1 (st : ASt) (K : AExit → ASt → Option R) : L1_1 st K = vMap (V1_1 st) (fun x => lp (fun (x : Int × Int × (List Int)) (next : (Int × Int × (List Int)) → Option R) (ex : ((Int × Int × (List Int))) → Option R) => P.bits_Be_r1_1 x.1 x.2.1 x.2.2 (fun v2 v3 h0 => next (v2, v3, h0)) (fun v2 v3 h0 => ex ((v2, v3, h0)))) x (E1_1 K)) := by
  unfold L1_1
  cases V1_1 st with
  | none => rfl
  | some x => simp only [P.bits_Be_l1_1_eq]; rfl
theorem loop1_1 : LoopOk D1 (loopAt Try.f70 1) := loopOk_lp (X := Int × Int × (List Int)) (Y := (Int × Int × (List Int))) (fun x => S1_1 x.1 x.2.1 x.2.2) V1_1_ok (stp := (fun (x : Int × Int × (List Int)) (next : (Int × Int × (List Int)) → Option R) (ex : ((Int × Int × (List Int))) → Option R) => P.bits_Be_r1_1 x.1 x.2.1 x.2.2 (fun v2 v3 h0 => next (v2, v3, h0)) (fun v2 v3 h0 => ex ((v2, v3, h0))))) (enc := E1_1) (L := L1_1) (by kernel_rfl) lq1_1 round1_1
theorem body (a0 : Int) (a1 : Int) (K : AVal → Option R) : bodyA D Try.f30 [.fr 5 (.ints .u8 [])] [.v (.int .u64 a0), .v (.int .i64 a1)] K = P.bits_Be a0 a1 (fun r0 => K (.fr 5 (.ints .u8 r0))) := by
  rw [P.bits_Be_eq]
  kernel_rfl
theorem loops : loopsOf (Try.f30.body.getD .skip) = [] := by kernel_rfl
theorem loops1 : loopsOf (Try.f70.body.getD .skip) = [loopAt Try.f70 1] := by kernel_rfl
noncomputable def spec0 : Abs.Spec := fun args K => match args with
  | [.v (.int .u64 a0), .v (.int .i64 a1)] => P.bits_Be a0 a1 (fun r0 => K (.fr 5 (.ints .u8 r0)))
  | _ => none
noncomputable def spec : Abs.Spec := spec0
theorem ok0 : Proved Try.prog [] 30 spec0 := by
  refine proved_of (D := D) (fn := Try.f30) (c := Try.f30.body.getD .skip) [.fr 5 (.ints .u8 [])] (by kernel_rfl) (globsPlain_of (by kernel_rfl)) (by kernel_rfl) (by kernel_rfl) (by kernel_rfl) ⟨bits_Le.ok, trivial⟩ ⟨run_of (D := D1) (D' := D) (fn := Try.f70) (c := Try.f70.body.getD .skip) rfl rfl (by kernel_rfl) (globsPlain_of (by kernel_rfl)) (by kernel_rfl) (by kernel_rfl) (by kernel_rfl) trivial trivial (by rw [loops1]; exact ⟨loop1_1, trivial⟩) (fun _ _ _ _ _ h => h), trivial⟩ ?_ ?_
  · rw [loops]; exact trivial
  · intro args K r h
    unfold spec0 at h
    split at h
    · rw [body]; exact h
    · cases h
theorem ok : Proved Try.prog [] 30 spec := ok0
end bits_Be
end

section
open Go Go.Abs Go.Proofs
set_option maxRecDepth 100000
set_option linter.unusedVariables false
namespace bits_such
noncomputable def D : Ctx := ({ P := Try.prog, G := [], globs := [], hints := [], loops := [], inl := [] } : Ctx)
theorem body (a0 : List Int) (a1 : Int) (a2 : Int) (K : AVal → Option R) : bodyA D Try.f72 [.any] [.sl (.ints .u8 a0), .v (.int .i64 a1), .v (.int .i64 a2)] K = P.bits_such a0 a1 a2 (fun r0 => K (.v (.bool r0))) := by
  rw [P.bits_such_eq]
  kernel_rfl
theorem loops : loopsOf (Try.f72.body.getD .skip) = [] := by kernel_rfl
noncomputable def spec0 : Abs.Spec := fun args K => match args with
  | [.sl (.ints .u8 a0), .v (.int .i64 a1), .v (.int .i64 a2)] => P.bits_such a0 a1 a2 (fun r0 => K (.v (.bool r0)))
  | _ => none
noncomputable def spec : Abs.Spec := fun args K => spec0 (coerL [.sl (.ints .u8 []), .any, .any] args) K
theorem ok0 : Proved Try.prog [] 72 spec0 := by
  refine proved_of (D := D) (fn := Try.f72) (c := Try.f72.body.getD .skip) [.any] (by kernel_rfl) (globsPlain_of (by kernel_rfl)) (by kernel_rfl) (by kernel_rfl) (by kernel_rfl) trivial trivial ?_ ?_
  · rw [loops]; exact trivial
  · intro args K r h
    unfold spec0 at h
    split at h
    · rw [body]; exact h
    · cases h
theorem ok : Proved Try.prog [] 72 spec := proved_coer _ ok0
end bits_such
end

section
open Go Go.Abs Go.Proofs
set_option maxRecDepth 100000
set_option linter.unusedVariables false
namespace bits_Digits
def S6 (v0 : List Int) (v1 : Int) (v8 : Int) (v9 : Int) (v19 : Int) (v20 : Int) (h0 : List Int) : ASt := ⟨[(0, .sl (.ints .u8 v0)), (1, .v (.int .i64 v1)), (7, .own 0), (8, .v (.int .u64 v8)), (9, .v (.int .i64 v9)), (19, .v (.int .i64 v19)), (20, .v (.int .i64 v20))], [(0, some ⟨.row 62 (.ints .u32 h0), false⟩)], 1, 53⟩
def V6 : ASt → Option ((List Int) × Int × Int × Int × Int × Int × (List Int))
  | ⟨[(0, .sl (.ints .u8 v0)), (1, .v (.int .i64 v1)), (7, .own 0), (8, .v (.int .u64 v8)), (9, .v (.int .i64 v9)), (19, .v (.int .i64 v19)), (20, .v (.int .i64 v20))], [(0, some ⟨.row 62 (.ints .u32 h0), false⟩)], 1, 53⟩ => some (v0, v1, v8, v9, v19, v20, h0)
  | _ => none
theorem V6_ok (st : ASt) (x : (List Int) × Int × Int × Int × Int × Int × (List Int)) (h : V6 st = some x) : st = S6 x.1 x.2.1 x.2.2.1 x.2.2.2.1 x.2.2.2.2.1 x.2.2.2.2.2.1 x.2.2.2.2.2.2 := by
  unfold V6 at h
  split at h
  · cases h; rfl
  · cases h
def S8 (v0 : List Int) (v1 : Int) (v8 : Int) (v9 : Int) (v10 : Int) (v19 : Int) (v20 : Int) (h0 : List Int) : ASt := ⟨[(0, .sl (.ints .u8 v0)), (1, .v (.int .i64 v1)), (7, .own 0), (8, .v (.int .u64 v8)), (9, .v (.int .i64 v9)), (10, .v (.int .i64 v10)), (19, .v (.int .i64 v19)), (20, .v (.int .i64 v20))], [(0, some ⟨.row 62 (.ints .u32 h0), false⟩)], 1, 53⟩
def V8 : ASt → Option ((List Int) × Int × Int × Int × Int × Int × Int × (List Int))
  | ⟨[(0, .sl (.ints .u8 v0)), (1, .v (.int .i64 v1)), (7, .own 0), (8, .v (.int .u64 v8)), (9, .v (.int .i64 v9)), (10, .v (.int .i64 v10)), (19, .v (.int .i64 v19)), (20, .v (.int .i64 v20))], [(0, some ⟨.row 62 (.ints .u32 h0), false⟩)], 1, 53⟩ => some (v0, v1, v8, v9, v10, v19, v20, h0)
  | _ => none
theorem V8_ok (st : ASt) (x : (List Int) × Int × Int × Int × Int × Int × Int × (List Int)) (h : V8 st = some x) : st = S8 x.1 x.2.1 x.2.2.1 x.2.2.2.1 x.2.2.2.2.1 x.2.2.2.2.2.1 x.2.2.2.2.2.2.1 x.2.2.2.2.2.2.2 := by
  unfold V8 at h
  split at h
  · cases h; rfl
  · cases h
noncomputable def L8 : LSpec := fun st K => match V8 st with
  | some x => P.bits_Digits_l8 x.1 x.2.1 x.2.2.1 x.2.2.2.1 x.2.2.2.2.1 x.2.2.2.2.2.1 x.2.2.2.2.2.2.1 x.2.2.2.2.2.2.2 (fun v0 v1 v8 v9 v10 v19 v20 h0 => K (.exit 2) (S8 v0 v1 v8 v9 v10 v19 v20 h0))
  | none => none
noncomputable def L6 : LSpec := fun st K => match V6 st with
  | some x => P.bits_Digits_l6 x.1 x.2.1 x.2.2.1 x.2.2.2.1 x.2.2.2.2.1 x.2.2.2.2.2.1 x.2.2.2.2.2.2 (fun v0 v1 v8 v9 v19 v20 h0 => K (.exit 0) (S6 v0 v1 v8 v9 v19 v20 h0))
  | none => none
noncomputable def D : Ctx := ({ P := Try.prog, G := [(72, bits_such.spec)], globs := [], hints := [(8, ⟨[0, 1, 7, 8, 9, 10, 19, 20], [], [6], [(0, .sl (.ints .u8 []))]⟩), (6, ⟨[0, 1, 7, 8, 9, 19, 20], [], [6], [(0, .sl (.ints .u8 []))]⟩)], loops := [(8, L8), (6, L6)], inl := [] } : Ctx)
def E8 (K : AExit → ASt → Option R) : (((List Int) × Int × Int × Int × Int × Int × Int × (List Int))) → Option R := (fun x => K (.exit 2) (S8 x.1 x.2.1 x.2.2.1 x.2.2.2.1 x.2.2.2.2.1 x.2.2.2.2.2.1 x.2.2.2.2.2.2.1 x.2.2.2.2.2.2.2))
theorem round8 (K : AExit → ASt → Option R) (next : ASt → Option R) (x : (List Int) × Int × Int × Int × Int × Int × Int × (List Int)) : roundA D (loopAt Try.f39 8) K next (S8 x.1 x.2.1 x.2.2.1 x.2.2.2.1 x.2.2.2.2.1 x.2.2.2.2.2.1 x.2.2.2.2.2.2.1 x.2.2.2.2.2.2.2) = (fun (x : (List Int) × Int × Int × Int × Int × Int × Int × (List Int)) (next : ((List Int) × Int × Int × Int × Int × Int × Int × (List Int)) → Option R) (ex : (((List Int) × Int × Int × Int × Int × Int × Int × (List Int))) → Option R) => P.bits_Digits_r8 x.1 x.2.1 x.2.2.1 x.2.2.2.1 x.2.2.2.2.1 x.2.2.2.2.2.1 x.2.2.2.2.2.2.1 x.2.2.2.2.2.2.2 (fun v0 v1 v8 v9 v10 v19 v20 h0 => next (v0, v1, v8, v9, v10, v19, v20, h0)) (fun v0 v1 v8 v9 v10 v19 v20 h0 => ex ((v0, v1, v8, v9, v10, v19, v20, h0)))) x (fun x => next (S8 x.1 x.2.1 x.2.2.1 x.2.2.2.1 x.2.2.2.2.1 x.2.2.2.2.2.1 x.2.2.2.2.2.2.1 x.2.2.2.2.2.2.2)) (E8 K) := by kernel_rfl
theorem lq8 (st : ASt) (K : AExit → ASt → Option R) : L8 st K = vMap (V8 st) (fun x => lp (fun (x : (List Int) × Int × Int × Int × Int × Int × Int × (List Int)) (next : ((List Int) × Int × Int × Int × Int × Int × Int × (List Int)) → Option R) (ex : (((List Int) × Int × Int × Int × Int × Int × Int × (List Int))) → Option R) => P.bits_Digits_r8 x.1 x.2.1 x.2.2.1 x.2.2.2.1 x.2.2.2.2.1 x.2.2.2.2.2.1 x.2.2.2.2.2.2.1 x.2.2.2.2.2.2.2 (fun v0 v1 v8 v9 v10 v19 v20 h0 => next (v0, v1, v8, v9, v10, v19, v20, h0)) (fun v0 v1 v8 v9 v10 v19 v20 h0 => ex ((v0, v1, v8, v9, v10, v19, v20, h0)))) x (E8 K)) := by
  unfold L8
  cases V8 st with
  | none => rfl
  | some x => simp only [P.bits_Digits_l8_eq]; rfl
theorem loop8 : LoopOk D (loopAt Try.f39 8) := loopOk_lp (X := (List Int) × Int × Int × Int × Int × Int × Int × (List Int)) (Y := ((List Int) × Int × Int × Int × Int × Int × Int × (List Int))) (fun x => S8 x.1 x.2.1 x.2.2.1 x.2.2.2.1 x.2.2.2.2.1 x.2.2.2.2.2.1 x.2.2.2.2.2.2.1 x.2.2.2.2.2.2.2) V8_ok (stp := (fun (x : (List Int) × Int × Int × Int × Int × Int × Int × (List Int)) (next : ((List Int) × Int × Int × Int × Int × Int × Int × (List Int)) → Option R) (ex : (((List Int) × Int × Int × Int × Int × Int × Int × (List Int))) → Option R) => P.bits_Digits_r8 x.1 x.2.1 x.2.2.1 x.2.2.2.1 x.2.2.2.2.1 x.2.2.2.2.2.1 x.2.2.2.2.2.2.1 x.2.2.2.2.2.2.2 (fun v0 v1 v8 v9 v10 v19 v20 h0 => next (v0, v1, v8, v9, v10, v19, v20, h0)) (fun v0 v1 v8 v9 v10 v19 v20 h0 => ex ((v0, v1, v8, v9, v10, v19, v20, h0))))) (enc := E8) (L := L8) (by kernel_rfl) lq8 round8
def E6 (K : AExit → ASt → Option R) : (((List Int) × Int × Int × Int × Int × Int × (List Int))) → Option R := (fun x => K (.exit 0) (S6 x.1 x.2.1 x.2.2.1 x.2.2.2.1 x.2.2.2.2.1 x.2.2.2.2.2.1 x.2.2.2.2.2.2))
theorem round6 (K : AExit → ASt → Option R) (next : ASt → Option R) (x : (List Int) × Int × Int × Int × Int × Int × (List Int)) : roundA D (loopAt Try.f39 6) K next (S6 x.1 x.2.1 x.2.2.1 x.2.2.2.1 x.2.2.2.2.1 x.2.2.2.2.2.1 x.2.2.2.2.2.2) = (fun (x : (List Int) × Int × Int × Int × Int × Int × (List Int)) (next : ((List Int) × Int × Int × Int × Int × Int × (List Int)) → Option R) (ex : (((List Int) × Int × Int × Int × Int × Int × (List Int))) → Option R) => P.bits_Digits_r6 x.1 x.2.1 x.2.2.1 x.2.2.2.1 x.2.2.2.2.1 x.2.2.2.2.2.1 x.2.2.2.2.2.2 (fun v0 v1 v8 v9 v19 v20 h0 => next (v0, v1, v8, v9, v19, v20, h0)) (fun v0 v1 v8 v9 v19 v20 h0 => ex ((v0, v1, v8, v9, v19, v20, h0)))) x (fun x => next (S6 x.1 x.2.1 x.2.2.1 x.2.2.2.1 x.2.2.2.2.1 x.2.2.2.2.2.1 x.2.2.2.2.2.2)) (E6 K) := by kernel_rfl
theorem lq6 (st : ASt) (K : AExit → ASt → Option R) : L6 st K = vMap (V6 st) (fun x => lp (fun (x : (List Int) × Int × Int × Int × Int × Int × (List Int)) (next : ((List Int) × Int × Int × Int × Int × Int × (List Int)) → Option R) (ex : (((List Int) × Int × Int × Int × Int × Int × (List Int))) → Option R) => P.bits_Digits_r6 x.1 x.2.1 x.2.2.1 x.2.2.2.1 x.2.2.2.2.1 x.2.2.2.2.2.1 x.2.2.2.2.2.2 (fun v0 v1 v8 v9 v19 v20 h0 => next (v0, v1, v8, v9, v19, v20, h0)) (fun v0 v1 v8 v9 v19 v20 h0 => ex ((v0, v1, v8, v9, v19, v20, h0)))) x (E6 K)) := by
  unfold L6
  cases V6 st with
  | none => rfl
  | some x => simp only [P.bits_Digits_l6_eq]; rfl
theorem loop6 : LoopOk D (loopAt Try.f39 6) := loopOk_lp (X := (List Int) × Int × Int × Int × Int × Int × (List Int)) (Y := ((List Int) × Int × Int × Int × Int × Int × (List Int))) (fun x => S6 x.1 x.2.1 x.2.2.1 x.2.2.2.1 x.2.2.2.2.1 x.2.2.2.2.2.1 x.2.2.2.2.2.2) V6_ok (stp := (fun (x : (List Int) × Int × Int × Int × Int × Int × (List Int)) (next : ((List Int) × Int × Int × Int × Int × Int × (List Int)) → Option R) (ex : (((List Int) × Int × Int × Int × Int × Int × (List Int))) → Option R) => P.bits_Digits_r6 x.1 x.2.1 x.2.2.1 x.2.2.2.1 x.2.2.2.2.1 x.2.2.2.2.2.1 x.2.2.2.2.2.2 (fun v0 v1 v8 v9 v19 v20 h0 => next (v0, v1, v8, v9, v19, v20, h0)) (fun v0 v1 v8 v9 v19 v20 h0 => ex ((v0, v1, v8, v9, v19, v20, h0))))) (enc := E6) (L := L6) (by kernel_rfl) lq6 round6
theorem body (a0 : List Int) (a1 : Int) (a2 : Int) (K : AVal → Option R) : bodyA D Try.f39 [.fr 62 (.ints .u32 [])] [.sl (.ints .u8 a0), .v (.int .i64 a1), .v (.int .i64 a2)] K = P.bits_Digits a0 a1 a2 (fun r0 => K (.fr 62 (.ints .u32 r0))) := by
  rw [P.bits_Digits_eq]
  kernel_rfl
theorem loops : loopsOf (Try.f39.body.getD .skip) = [loopAt Try.f39 6, loopAt Try.f39 8] := by kernel_rfl
noncomputable def spec0 : Abs.Spec := fun args K => match args with
  | [.sl (.ints .u8 a0), .v (.int .i64 a1), .v (.int .i64 a2)] => P.bits_Digits a0 a1 a2 (fun r0 => K (.fr 62 (.ints .u32 r0)))
  | _ => none
noncomputable def spec : Abs.Spec := fun args K => spec0 (coerL [.sl (.ints .u8 []), .any, .any] args) K
theorem ok0 : Proved Try.prog [] 39 spec0 := by
  refine proved_of (D := D) (fn := Try.f39) (c := Try.f39.body.getD .skip) [.fr 62 (.ints .u32 [])] (by kernel_rfl) (globsPlain_of (by kernel_rfl)) (by kernel_rfl) (by kernel_rfl) (by kernel_rfl) ⟨bits_such.ok, trivial⟩ trivial ?_ ?_
  · rw [loops]; exact ⟨loop6, loop8, trivial⟩
  · intro args K r h
    unfold spec0 at h
    split at h
    · rw [body]; exact h
    · cases h
theorem ok : Proved Try.prog [] 39 spec := proved_coer _ ok0
end bits_Digits
end

section
open Go Go.Abs Go.Proofs
set_option maxRecDepth 100000
set_option linter.unusedVariables false
namespace bits_Pack
def S6 (v1 : Int) (v6 : Int) (v7 : Int) (v23 : List Int) (v24 : Int) (v25 : Int) (h1 : List Int) : ASt := ⟨[(5, .own 1), (1, .v (.int .i64 v1)), (6, .v (.int .u64 v6)), (7, .v (.int .i64 v7)), (23, .sl (.ints .u32 v23)), (24, .v (.int .i64 v24)), (25, .v (.int .i64 v25))], [(1, some ⟨.row 5 (.ints .u8 h1), false⟩), (0, none)], 2, 62⟩
def V6 : ASt → Option (Int × Int × Int × (List Int) × Int × Int × (List Int))
  | ⟨[(5, .own 1), (1, .v (.int .i64 v1)), (6, .v (.int .u64 v6)), (7, .v (.int .i64 v7)), (23, .sl (.ints .u32 v23)), (24, .v (.int .i64 v24)), (25, .v (.int .i64 v25))], [(1, some ⟨.row 5 (.ints .u8 h1), false⟩), (0, none)], 2, 62⟩ => some (v1, v6, v7, v23, v24, v25, h1)
  | _ => none
theorem V6_ok (st : ASt) (x : Int × Int × Int × (List Int) × Int × Int × (List Int)) (h : V6 st = some x) : st = S6 x.1 x.2.1 x.2.2.1 x.2.2.2.1 x.2.2.2.2.1 x.2.2.2.2.2.1 x.2.2.2.2.2.2 := by
  unfold V6 at h
  split at h
  · cases h; rfl
  · cases h
def S10 (v1 : Int) (v6 : Int) (v7 : Int) (v23 : List Int) (v24 : Int) (v25 : Int) (h2 : List Int) : ASt := ⟨[(5, .own 2), (1, .v (.int .i64 v1)), (6, .v (.int .u64 v6)), (7, .v (.int .i64 v7)), (23, .sl (.ints .u32 v23)), (24, .v (.int .i64 v24)), (25, .v (.int .i64 v25))], [(2, some ⟨.row 5 (.ints .u8 h2), false⟩), (0, none), (1, none)], 3, 62⟩
def V10 : ASt → Option (Int × Int × Int × (List Int) × Int × Int × (List Int))
  | ⟨[(5, .own 2), (1, .v (.int .i64 v1)), (6, .v (.int .u64 v6)), (7, .v (.int .i64 v7)), (23, .sl (.ints .u32 v23)), (24, .v (.int .i64 v24)), (25, .v (.int .i64 v25))], [(2, some ⟨.row 5 (.ints .u8 h2), false⟩), (0, none), (1, none)], 3, 62⟩ => some (v1, v6, v7, v23, v24, v25, h2)
  | _ => none
theorem V10_ok (st : ASt) (x : Int × Int × Int × (List Int) × Int × Int × (List Int)) (h : V10 st = some x) : st = S10 x.1 x.2.1 x.2.2.1 x.2.2.2.1 x.2.2.2.2.1 x.2.2.2.2.2.1 x.2.2.2.2.2.2 := by
  unfold V10 at h
  split at h
  · cases h; rfl
  · cases h
noncomputable def L10 : LSpec := fun st K => match V10 st with
  | some x => P.bits_Pack_l10 x.1 x.2.1 x.2.2.1 x.2.2.2.1 x.2.2.2.2.1 x.2.2.2.2.2.1 x.2.2.2.2.2.2 (fun v1 v6 v7 v23 v24 v25 h2 => K (.exit 2) (S10 v1 v6 v7 v23 v24 v25 h2))
  | none => none
noncomputable def L6 : LSpec := fun st K => match V6 st with
  | some x => P.bits_Pack_l6 x.1 x.2.1 x.2.2.1 x.2.2.2.1 x.2.2.2.2.1 x.2.2.2.2.2.1 x.2.2.2.2.2.2 (fun v1 v6 v7 v23 v24 v25 h1 => K (.exit 0) (S6 v1 v6 v7 v23 v24 v25 h1))
  | none => none
noncomputable def D : Ctx := ({ P := Try.prog, G := [], globs := [], hints := [(10, ⟨[1, 6, 7, 23, 24, 25], [(5, 5, .ints .u8 [])], [4], []⟩), (6, ⟨[1, 6, 7, 23, 24, 25], [(5, 5, .ints .u8 [])], [4], []⟩)], loops := [(10, L10), (6, L6)], inl := [] } : Ctx)
def E10 (K : AExit → ASt → Option R) : ((Int × Int × Int × (List Int) × Int × Int × (List Int))) → Option R := (fun x => K (.exit 2) (S10 x.1 x.2.1 x.2.2.1 x.2.2.2.1 x.2.2.2.2.1 x.2.2.2.2.2.1 x.2.2.2.2.2.2))
theorem round10 (K : AExit → ASt → Option R) (next : ASt → Option R) (x : Int × Int × Int × (List Int) × Int × Int × (List Int)) : roundA D (loopAt Try.f41 10) K next (S10 x.1 x.2.1 x.2.2.1 x.2.2.2.1 x.2.2.2.2.1 x.2.2.2.2.2.1 x.2.2.2.2.2.2) = (fun (x : Int × Int × Int × (List Int) × Int × Int × (List Int)) (next : (Int × Int × Int × (List Int) × Int × Int × (List Int)) → Option R) (ex : ((Int × Int × Int × (List Int) × Int × Int × (List Int))) → Option R) => P.bits_Pack_r10 x.1 x.2.1 x.2.2.1 x.2.2.2.1 x.2.2.2.2.1 x.2.2.2.2.2.1 x.2.2.2.2.2.2 (fun v1 v6 v7 v23 v24 v25 h2 => next (v1, v6, v7, v23, v24, v25, h2)) (fun v1 v6 v7 v23 v24 v25 h2 => ex ((v1, v6, v7, v23, v24, v25, h2)))) x (fun x => next (S10 x.1 x.2.1 x.2.2.1 x.2.2.2.1 x.2.2.2.2.1 x.2.2.2.2.2.1 x.2.2.2.2.2.2)) (E10 K) := by kernel_rfl
theorem lq10 (st : ASt) (K : AExit → ASt → Option R) : L10 st K = vMap (V10 st) (fun x => lp (fun (x : Int × Int × Int × (List Int) × Int × Int × (List Int)) (next : (Int × Int × Int × (List Int) × Int × Int × (List Int)) → Option R) (ex : ((Int × Int × Int × (List Int) × Int × Int × (List Int))) → Option R) => P.bits_Pack_r10 x.1 x.2.1 x.2.2.1 x.2.2.2.1 x.2.2.2.2.1 x.2.2.2.2.2.1 x.2.2.2.2.2.2 (fun v1 v6 v7 v23 v24 v25 h2 => next (v1, v6, v7, v23, v24, v25, h2)) (fun v1 v6 v7 v23 v24 v25 h2 => ex ((v1, v6, v7, v23, v24, v25, h2)))) x (E10 K)) := by
  unfold L10
  cases V10 st with
  | none => rfl
  | some x => simp only [P.bits_Pack_l10_eq]; rfl
theorem loop10 : LoopOk D (loopAt Try.f41 10) := loopOk_lp (X := Int × Int × Int × (List Int) × Int × Int × (List Int)) (Y := (Int × Int × Int × (List Int) × Int × Int × (List Int))) (fun x => S10 x.1 x.2.1 x.2.2.1 x.2.2.2.1 x.2.2.2.2.1 x.2.2.2.2.2.1 x.2.2.2.2.2.2) V10_ok (stp := (fun (x : Int × Int × Int × (List Int) × Int × Int × (List Int)) (next : (Int × Int × Int × (List Int) × Int × Int × (List Int)) → Option R) (ex : ((Int × Int × Int × (List Int) × Int × Int × (List Int))) → Option R) => P.bits_Pack_r10 x.1 x.2.1 x.2.2.1 x.2.2.2.1 x.2.2.2.2.1 x.2.2.2.2.2.1 x.2.2.2.2.2.2 (fun v1 v6 v7 v23 v24 v25 h2 => next (v1, v6, v7, v23, v24, v25, h2)) (fun v1 v6 v7 v23 v24 v25 h2 => ex ((v1, v6, v7, v23, v24, v25, h2))))) (enc := E10) (L := L10) (by kernel_rfl) lq10 round10
def E6 (K : AExit → ASt → Option R) : ((Int × Int × Int × (List Int) × Int × Int × (List Int))) → Option R := (fun x => K (.exit 0) (S6 x.1 x.2.1 x.2.2.1 x.2.2.2.1 x.2.2.2.2.1 x.2.2.2.2.2.1 x.2.2.2.2.2.2))
theorem round6 (K : AExit → ASt → Option R) (next : ASt → Option R) (x : Int × Int × Int × (List Int) × Int × Int × (List Int)) : roundA D (loopAt Try.f41 6) K next (S6 x.1 x.2.1 x.2.2.1 x.2.2.2.1 x.2.2.2.2.1 x.2.2.2.2.2.1 x.2.2.2.2.2.2) = (fun (x : Int × Int × Int × (List Int) × Int × Int × (List Int)) (next : (Int × Int × Int × (List Int) × Int × Int × (List Int)) → Option R) (ex : ((Int × Int × Int × (List Int) × Int × Int × (List Int))) → Option R) => P.bits_Pack_r6 x.1 x.2.1 x.2.2.1 x.2.2.2.1 x.2.2.2.2.1 x.2.2.2.2.2.1 x.2.2.2.2.2.2 (fun v1 v6 v7 v23 v24 v25 h1 => next (v1, v6, v7, v23, v24, v25, h1)) (fun v1 v6 v7 v23 v24 v25 h1 => ex ((v1, v6, v7, v23, v24, v25, h1)))) x (fun x => next (S6 x.1 x.2.1 x.2.2.1 x.2.2.2.1 x.2.2.2.2.1 x.2.2.2.2.2.1 x.2.2.2.2.2.2)) (E6 K) := by kernel_rfl
theorem lq6 (st : ASt) (K : AExit → ASt → Option R) : L6 st K = vMap (V6 st) (fun x => lp (fun (x : Int × Int × Int × (List Int) × Int × Int × (List Int)) (next : (Int × Int × Int × (List Int) × Int × Int × (List Int)) → Option R) (ex : ((Int × Int × Int × (List Int) × Int × Int × (List Int))) → Option R) => P.bits_Pack_r6 x.1 x.2.1 x.2.2.1 x.2.2.2.1 x.2.2.2.2.1 x.2.2.2.2.2.1 x.2.2.2.2.2.2 (fun v1 v6 v7 v23 v24 v25 h1 => next (v1, v6, v7, v23, v24, v25, h1)) (fun v1 v6 v7 v23 v24 v25 h1 => ex ((v1, v6, v7, v23, v24, v25, h1)))) x (E6 K)) := by
  unfold L6
  cases V6 st with
  | none => rfl
  | some x => simp only [P.bits_Pack_l6_eq]; rfl
theorem loop6 : LoopOk D (loopAt Try.f41 6) := loopOk_lp (X := Int × Int × Int × (List Int) × Int × Int × (List Int)) (Y := (Int × Int × Int × (List Int) × Int × Int × (List Int))) (fun x => S6 x.1 x.2.1 x.2.2.1 x.2.2.2.1 x.2.2.2.2.1 x.2.2.2.2.2.1 x.2.2.2.2.2.2) V6_ok (stp := (fun (x : Int × Int × Int × (List Int) × Int × Int × (List Int)) (next : (Int × Int × Int × (List Int) × Int × Int × (List Int)) → Option R) (ex : ((Int × Int × Int × (List Int) × Int × Int × (List Int))) → Option R) => P.bits_Pack_r6 x.1 x.2.1 x.2.2.1 x.2.2.2.1 x.2.2.2.2.1 x.2.2.2.2.2.1 x.2.2.2.2.2.2 (fun v1 v6 v7 v23 v24 v25 h1 => next (v1, v6, v7, v23, v24, v25, h1)) (fun v1 v6 v7 v23 v24 v25 h1 => ex ((v1, v6, v7, v23, v24, v25, h1))))) (enc := E6) (L := L6) (by kernel_rfl) lq6 round6
theorem body (a0 : List Int) (a1 : Int) (K : AVal → Option R) : bodyA D Try.f41 [.fr 5 (.ints .u8 [])] [.sl (.ints .u32 a0), .v (.int .i64 a1)] K = P.bits_Pack a0 a1 (fun r0 => K (.fr 5 (.ints .u8 r0))) := by
  rw [P.bits_Pack_eq]
  kernel_rfl
theorem loops : loopsOf (Try.f41.body.getD .skip) = [loopAt Try.f41 6, loopAt Try.f41 10] := by kernel_rfl
noncomputable def spec0 : Abs.Spec := fun args K => match args with
  | [.sl (.ints .u32 a0), .v (.int .i64 a1)] => P.bits_Pack a0 a1 (fun r0 => K (.fr 5 (.ints .u8 r0)))
  | _ => none
noncomputable def spec : Abs.Spec := fun args K => spec0 (coerL [.sl (.ints .u32 []), .any] args) K
theorem ok0 : Proved Try.prog [] 41 spec0 := by
  refine proved_of (D := D) (fn := Try.f41) (c := Try.f41.body.getD .skip) [.fr 5 (.ints .u8 [])] (by kernel_rfl) (globsPlain_of (by kernel_rfl)) (by kernel_rfl) (by kernel_rfl) (by kernel_rfl) trivial trivial ?_ ?_
  · rw [loops]; exact ⟨loop6, loop10, trivial⟩
  · intro args K r h
    unfold spec0 at h
    split at h
    · rw [body]; exact h
    · cases h
theorem ok : Proved Try.prog [] 41 spec := proved_coer _ ok0
end bits_Pack
end

section
open Go Go.Abs Go.Proofs
set_option maxRecDepth 100000
set_option linter.unusedVariables false
namespace L01_awake
noncomputable def D : Ctx := ({ P := Try.prog, G := [(19, R01_Same.spec), (30, bits_Be.spec), (32, bits_Le.spec), (39, bits_Digits.spec), (41, bits_Pack.spec)], globs := [], hints := [], loops := [], inl := [] } : Ctx)
theorem body  (K : AVal → Option R) : bodyA D Try.f29 [.any] [] K = P.L01_awake (fun r0 => K (.v (.bool r0))) := by
  rw [P.L01_awake_eq]
  kernel_rfl
theorem loops : loopsOf (Try.f29.body.getD .skip) = [] := by kernel_rfl
noncomputable def spec0 : Abs.Spec := fun args K => match args with
  | [] => P.L01_awake (fun r0 => K (.v (.bool r0)))
  | _ => none
noncomputable def spec : Abs.Spec := spec0
theorem ok0 : Proved Try.prog [] 29 spec0 := by
  refine proved_of (D := D) (fn := Try.f29) (c := Try.f29.body.getD .skip) [.any] (by kernel_rfl) (globsPlain_of (by kernel_rfl)) (by kernel_rfl) (by kernel_rfl) (by kernel_rfl) ⟨R01_Same.ok, bits_Be.ok, bits_Le.ok, bits_Digits.ok, bits_Pack.ok, trivial⟩ trivial ?_ ?_
  · rw [loops]; exact trivial
  · intro args K r h
    unfold spec0 at h
    split at h
    · rw [body]; exact h
    · cases h
theorem ok : Proved Try.prog [] 29 spec := ok0
end L01_awake
end

section
open Go Go.Abs Go.Proofs
set_option maxRecDepth 100000
set_option linter.unusedVariables false
namespace bits_Num
def S3 (v3 : Int) (v6 : List Int) (v7 : Int) (v8 : Int) : ASt := ⟨[(3, .v (.int .u64 v3)), (6, .sl (.ints .u8 v6)), (7, .v (.int .i64 v7)), (8, .v (.int .i64 v8))], [], 0, 19⟩
def V3 : ASt → Option (Int × (List Int) × Int × Int)
  | ⟨[(3, .v (.int .u64 v3)), (6, .sl (.ints .u8 v6)), (7, .v (.int .i64 v7)), (8, .v (.int .i64 v8))], [], 0, 19⟩ => some (v3, v6, v7, v8)
  | _ => none
theorem V3_ok (st : ASt) (x : Int × (List Int) × Int × Int) (h : V3 st = some x) : st = S3 x.1 x.2.1 x.2.2.1 x.2.2.2 := by
  unfold V3 at h
  split at h
  · cases h; rfl
  · cases h
noncomputable def L3 : LSpec := fun st K => match V3 st with
  | some x => P.bits_Num_l3 x.1 x.2.1 x.2.2.1 x.2.2.2 (fun v3 v6 v7 v8 => K (.exit 0) (S3 v3 v6 v7 v8))
  | none => none
noncomputable def D : Ctx := ({ P := Try.prog, G := [], globs := [], hints := [(3, ⟨[3, 6, 7, 8], [], [2], []⟩)], loops := [(3, L3)], inl := [] } : Ctx)
def E3 (K : AExit → ASt → Option R) : ((Int × (List Int) × Int × Int)) → Option R := (fun x => K (.exit 0) (S3 x.1 x.2.1 x.2.2.1 x.2.2.2))
theorem round3 (K : AExit → ASt → Option R) (next : ASt → Option R) (x : Int × (List Int) × Int × Int) : roundA D (loopAt Try.f34 3) K next (S3 x.1 x.2.1 x.2.2.1 x.2.2.2) = (fun (x : Int × (List Int) × Int × Int) (next : (Int × (List Int) × Int × Int) → Option R) (ex : ((Int × (List Int) × Int × Int)) → Option R) => P.bits_Num_r3 x.1 x.2.1 x.2.2.1 x.2.2.2 (fun v3 v6 v7 v8 => next (v3, v6, v7, v8)) (fun v3 v6 v7 v8 => ex ((v3, v6, v7, v8)))) x (fun x => next (S3 x.1 x.2.1 x.2.2.1 x.2.2.2)) (E3 K) := by kernel_rfl
theorem lq3 (st : ASt) (K : AExit → ASt → Option R) : L3 st K = vMap (V3 st) (fun x => lp (fun (x : Int × (List Int) × Int × Int) (next : (Int × (List Int) × Int × Int) → Option R) (ex : ((Int × (List Int) × Int × Int)) → Option R) => P.bits_Num_r3 x.1 x.2.1 x.2.2.1 x.2.2.2 (fun v3 v6 v7 v8 => next (v3, v6, v7, v8)) (fun v3 v6 v7 v8 => ex ((v3, v6, v7, v8)))) x (E3 K)) := by
  unfold L3
  cases V3 st with
  | none => rfl
  | some x => simp only [P.bits_Num_l3_eq]; rfl
theorem loop3 : LoopOk D (loopAt Try.f34 3) := loopOk_lp (X := Int × (List Int) × Int × Int) (Y := (Int × (List Int) × Int × Int)) (fun x => S3 x.1 x.2.1 x.2.2.1 x.2.2.2) V3_ok (stp := (fun (x : Int × (List Int) × Int × Int) (next : (Int × (List Int) × Int × Int) → Option R) (ex : ((Int × (List Int) × Int × Int)) → Option R) => P.bits_Num_r3 x.1 x.2.1 x.2.2.1 x.2.2.2 (fun v3 v6 v7 v8 => next (v3, v6, v7, v8)) (fun v3 v6 v7 v8 => ex ((v3, v6, v7, v8))))) (enc := E3) (L := L3) (by kernel_rfl) lq3 round3
theorem body (a0 : List Int) (K : AVal → Option R) : bodyA D Try.f34 [.any] [.sl (.ints .u8 a0)] K = P.bits_Num a0 (fun r0 => K (.v (.int .u64 r0))) := by
  rw [P.bits_Num_eq]
  kernel_rfl
theorem loops : loopsOf (Try.f34.body.getD .skip) = [loopAt Try.f34 3] := by kernel_rfl
noncomputable def spec0 : Abs.Spec := fun args K => match args with
  | [.sl (.ints .u8 a0)] => P.bits_Num a0 (fun r0 => K (.v (.int .u64 r0)))
  | _ => none
noncomputable def spec : Abs.Spec := fun args K => spec0 (coerL [.sl (.ints .u8 [])] args) K
theorem ok0 : Proved Try.prog [] 34 spec0 := by
  refine proved_of (D := D) (fn := Try.f34) (c := Try.f34.body.getD .skip) [.any] (by kernel_rfl) (globsPlain_of (by kernel_rfl)) (by kernel_rfl) (by kernel_rfl) (by kernel_rfl) trivial trivial ?_ ?_
  · rw [loops]; exact ⟨loop3, trivial⟩
  · intro args K r h
    unfold spec0 at h
    split at h
    · rw [body]; exact h
    · cases h
theorem ok : Proved Try.prog [] 34 spec := proved_coer _ ok0
end bits_Num
end

section
open Go Go.Abs Go.Proofs
set_option maxRecDepth 100000
set_option linter.unusedVariables false
namespace bits_NumLe
def S3 (v0 : List Int) (v3 : Int) (v7 : Int) (v8 : Int) : ASt := ⟨[(0, .sl (.ints .u8 v0)), (3, .v (.int .u64 v3)), (7, .v (.int .i64 v7)), (8, .v (.int .i64 v8))], [], 0, 23⟩
def V3 : ASt → Option ((List Int) × Int × Int × Int)
  | ⟨[(0, .sl (.ints .u8 v0)), (3, .v (.int .u64 v3)), (7, .v (.int .i64 v7)), (8, .v (.int .i64 v8))], [], 0, 23⟩ => some (v0, v3, v7, v8)
  | _ => none
theorem V3_ok (st : ASt) (x : (List Int) × Int × Int × Int) (h : V3 st = some x) : st = S3 x.1 x.2.1 x.2.2.1 x.2.2.2 := by
  unfold V3 at h
  split at h
  · cases h; rfl
  · cases h
noncomputable def L3 : LSpec := fun st K => match V3 st with
  | some x => P.bits_NumLe_l3 x.1 x.2.1 x.2.2.1 x.2.2.2 (fun v0 v3 v7 v8 => K (.exit 0) (S3 v0 v3 v7 v8))
  | none => none
noncomputable def D : Ctx := ({ P := Try.prog, G := [], globs := [], hints := [(3, ⟨[0, 3, 7, 8], [], [2], []⟩)], loops := [(3, L3)], inl := [] } : Ctx)
def E3 (K : AExit → ASt → Option R) : (((List Int) × Int × Int × Int)) → Option R := (fun x => K (.exit 0) (S3 x.1 x.2.1 x.2.2.1 x.2.2.2))
theorem round3 (K : AExit → ASt → Option R) (next : ASt → Option R) (x : (List Int) × Int × Int × Int) : roundA D (loopAt Try.f36 3) K next (S3 x.1 x.2.1 x.2.2.1 x.2.2.2) = (fun (x : (List Int) × Int × Int × Int) (next : ((List Int) × Int × Int × Int) → Option R) (ex : (((List Int) × Int × Int × Int)) → Option R) => P.bits_NumLe_r3 x.1 x.2.1 x.2.2.1 x.2.2.2 (fun v0 v3 v7 v8 => next (v0, v3, v7, v8)) (fun v0 v3 v7 v8 => ex ((v0, v3, v7, v8)))) x (fun x => next (S3 x.1 x.2.1 x.2.2.1 x.2.2.2)) (E3 K) := by kernel_rfl
theorem lq3 (st : ASt) (K : AExit → ASt → Option R) : L3 st K = vMap (V3 st) (fun x => lp (fun (x : (List Int) × Int × Int × Int) (next : ((List Int) × Int × Int × Int) → Option R) (ex : (((List Int) × Int × Int × Int)) → Option R) => P.bits_NumLe_r3 x.1 x.2.1 x.2.2.1 x.2.2.2 (fun v0 v3 v7 v8 => next (v0, v3, v7, v8)) (fun v0 v3 v7 v8 => ex ((v0, v3, v7, v8)))) x (E3 K)) := by
  unfold L3
  cases V3 st with
  | none => rfl
  | some x => simp only [P.bits_NumLe_l3_eq]; rfl
theorem loop3 : LoopOk D (loopAt Try.f36 3) := loopOk_lp (X := (List Int) × Int × Int × Int) (Y := ((List Int) × Int × Int × Int)) (fun x => S3 x.1 x.2.1 x.2.2.1 x.2.2.2) V3_ok (stp := (fun (x : (List Int) × Int × Int × Int) (next : ((List Int) × Int × Int × Int) → Option R) (ex : (((List Int) × Int × Int × Int)) → Option R) => P.bits_NumLe_r3 x.1 x.2.1 x.2.2.1 x.2.2.2 (fun v0 v3 v7 v8 => next (v0, v3, v7, v8)) (fun v0 v3 v7 v8 => ex ((v0, v3, v7, v8))))) (enc := E3) (L := L3) (by kernel_rfl) lq3 round3
theorem body (a0 : List Int) (K : AVal → Option R) : bodyA D Try.f36 [.any] [.sl (.ints .u8 a0)] K = P.bits_NumLe a0 (fun r0 => K (.v (.int .u64 r0))) := by
  rw [P.bits_NumLe_eq]
  kernel_rfl
theorem loops : loopsOf (Try.f36.body.getD .skip) = [loopAt Try.f36 3] := by kernel_rfl
noncomputable def spec0 : Abs.Spec := fun args K => match args with
  | [.sl (.ints .u8 a0)] => P.bits_NumLe a0 (fun r0 => K (.v (.int .u64 r0)))
  | _ => none
noncomputable def spec : Abs.Spec := fun args K => spec0 (coerL [.sl (.ints .u8 [])] args) K
theorem ok0 : Proved Try.prog [] 36 spec0 := by
  refine proved_of (D := D) (fn := Try.f36) (c := Try.f36.body.getD .skip) [.any] (by kernel_rfl) (globsPlain_of (by kernel_rfl)) (by kernel_rfl) (by kernel_rfl) (by kernel_rfl) trivial trivial ?_ ?_
  · rw [loops]; exact ⟨loop3, trivial⟩
  · intro args K r h
    unfold spec0 at h
    split at h
    · rw [body]; exact h
    · cases h
theorem ok : Proved Try.prog [] 36 spec := proved_coer _ ok0
end bits_NumLe
end

section
open Go Go.Abs Go.Proofs
set_option maxRecDepth 100000
set_option linter.unusedVariables false
namespace bits_Unpack
def S6 (v0 : List Int) (v1 : Int) (v8 : Int) (v9 : Int) (v19 : Int) (v20 : Int) (h0 : List Int) : ASt := ⟨[(0, .sl (.ints .u8 v0)), (1, .v (.int .i64 v1)), (7, .own 0), (8, .v (.int .u64 v8)), (9, .v (.int .i64 v9)), (19, .v (.int .i64 v19)), (20, .v (.int .i64 v20))], [(0, some ⟨.row 62 (.ints .u32 h0), false⟩)], 1, 55⟩
def V6 : ASt → Option ((List Int) × Int × Int × Int × Int × Int × (List Int))
  | ⟨[(0, .sl (.ints .u8 v0)), (1, .v (.int .i64 v1)), (7, .own 0), (8, .v (.int .u64 v8)), (9, .v (.int .i64 v9)), (19, .v (.int .i64 v19)), (20, .v (.int .i64 v20))], [(0, some ⟨.row 62 (.ints .u32 h0), false⟩)], 1, 55⟩ => some (v0, v1, v8, v9, v19, v20, h0)
  | _ => none
theorem V6_ok (st : ASt) (x : (List Int) × Int × Int × Int × Int × Int × (List Int)) (h : V6 st = some x) : st = S6 x.1 x.2.1 x.2.2.1 x.2.2.2.1 x.2.2.2.2.1 x.2.2.2.2.2.1 x.2.2.2.2.2.2 := by
  unfold V6 at h
  split at h
  · cases h; rfl
  · cases h
def S8 (v0 : List Int) (v1 : Int) (v8 : Int) (v9 : Int) (v10 : Int) (v19 : Int) (v20 : Int) (h0 : List Int) : ASt := ⟨[(0, .sl (.ints .u8 v0)), (1, .v (.int .i64 v1)), (7, .own 0), (8, .v (.int .u64 v8)), (9, .v (.int .i64 v9)), (10, .v (.int .i64 v10)), (19, .v (.int .i64 v19)), (20, .v (.int .i64 v20))], [(0, some ⟨.row 62 (.ints .u32 h0), false⟩)], 1, 55⟩
def V8 : ASt → Option ((List Int) × Int × Int × Int × Int × Int × Int × (List Int))
  | ⟨[(0, .sl (.ints .u8 v0)), (1, .v (.int .i64 v1)), (7, .own 0), (8, .v (.int .u64 v8)), (9, .v (.int .i64 v9)), (10, .v (.int .i64 v10)), (19, .v (.int .i64 v19)), (20, .v (.int .i64 v20))], [(0, some ⟨.row 62 (.ints .u32 h0), false⟩)], 1, 55⟩ => some (v0, v1, v8, v9, v10, v19, v20, h0)
  | _ => none
theorem V8_ok (st : ASt) (x : (List Int) × Int × Int × Int × Int × Int × Int × (List Int)) (h : V8 st = some x) : st = S8 x.1 x.2.1 x.2.2.1 x.2.2.2.1 x.2.2.2.2.1 x.2.2.2.2.2.1 x.2.2.2.2.2.2.1 x.2.2.2.2.2.2.2 := by
  unfold V8 at h
  split at h
  · cases h; rfl
  · cases h
noncomputable def L8 : LSpec := fun st K => match V8 st with
  | some x => P.bits_Unpack_l8 x.1 x.2.1 x.2.2.1 x.2.2.2.1 x.2.2.2.2.1 x.2.2.2.2.2.1 x.2.2.2.2.2.2.1 x.2.2.2.2.2.2.2 (fun v0 v1 v8 v9 v10 v19 v20 h0 => K (.exit 2) (S8 v0 v1 v8 v9 v10 v19 v20 h0))
  | none => none
noncomputable def L6 : LSpec := fun st K => match V6 st with
  | some x => P.bits_Unpack_l6 x.1 x.2.1 x.2.2.1 x.2.2.2.1 x.2.2.2.2.1 x.2.2.2.2.2.1 x.2.2.2.2.2.2 (fun v0 v1 v8 v9 v19 v20 h0 => K (.exit 0) (S6 v0 v1 v8 v9 v19 v20 h0))
  | none => none
noncomputable def D : Ctx := ({ P := Try.prog, G := [(72, bits_such.spec)], globs := [], hints := [(8, ⟨[0, 1, 7, 8, 9, 10, 19, 20], [], [6], [(0, .sl (.ints .u8 []))]⟩), (6, ⟨[0, 1, 7, 8, 9, 19, 20], [], [6], [(0, .sl (.ints .u8 []))]⟩)], loops := [(8, L8), (6, L6)], inl := [] } : Ctx)
def E8 (K : AExit → ASt → Option R) : (((List Int) × Int × Int × Int × Int × Int × Int × (List Int))) → Option R := (fun x => K (.exit 2) (S8 x.1 x.2.1 x.2.2.1 x.2.2.2.1 x.2.2.2.2.1 x.2.2.2.2.2.1 x.2.2.2.2.2.2.1 x.2.2.2.2.2.2.2))
theorem round8 (K : AExit → ASt → Option R) (next : ASt → Option R) (x : (List Int) × Int × Int × Int × Int × Int × Int × (List Int)) : roundA D (loopAt Try.f43 8) K next (S8 x.1 x.2.1 x.2.2.1 x.2.2.2.1 x.2.2.2.2.1 x.2.2.2.2.2.1 x.2.2.2.2.2.2.1 x.2.2.2.2.2.2.2) = (fun (x : (List Int) × Int × Int × Int × Int × Int × Int × (List Int)) (next : ((List Int) × Int × Int × Int × Int × Int × Int × (List Int)) → Option R) (ex : (((List Int) × Int × Int × Int × Int × Int × Int × (List Int))) → Option R) => P.bits_Unpack_r8 x.1 x.2.1 x.2.2.1 x.2.2.2.1 x.2.2.2.2.1 x.2.2.2.2.2.1 x.2.2.2.2.2.2.1 x.2.2.2.2.2.2.2 (fun v0 v1 v8 v9 v10 v19 v20 h0 => next (v0, v1, v8, v9, v10, v19, v20, h0)) (fun v0 v1 v8 v9 v10 v19 v20 h0 => ex ((v0, v1, v8, v9, v10, v19, v20, h0)))) x (fun x => next (S8 x.1 x.2.1 x.2.2.1 x.2.2.2.1 x.2.2.2.2.1 x.2.2.2.2.2.1 x.2.2.2.2.2.2.1 x.2.2.2.2.2.2.2)) (E8 K) := by kernel_rfl
theorem lq8 (st : ASt) (K : AExit → ASt → Option R) : L8 st K = vMap (V8 st) (fun x => lp (fun (x : (List Int) × Int × Int × Int × Int × Int × Int × (List Int)) (next : ((List Int) × Int × Int × Int × Int × Int × Int × (List Int)) → Option R) (ex : (((List Int) × Int × Int × Int × Int × Int × Int × (List Int))) → Option R) => P.bits_Unpack_r8 x.1 x.2.1 x.2.2.1 x.2.2.2.1 x.2.2.2.2.1 x.2.2.2.2.2.1 x.2.2.2.2.2.2.1 x.2.2.2.2.2.2.2 (fun v0 v1 v8 v9 v10 v19 v20 h0 => next (v0, v1, v8, v9, v10, v19, v20, h0)) (fun v0 v1 v8 v9 v10 v19 v20 h0 => ex ((v0, v1, v8, v9, v10, v19, v20, h0)))) x (E8 K)) := by
  unfold L8
  cases V8 st with
  | none => rfl
  | some x => simp only [P.bits_Unpack_l8_eq]; rfl
theorem loop8 : LoopOk D (loopAt Try.f43 8) := loopOk_lp (X := (List Int) × Int × Int × Int × Int × Int × Int × (List Int)) (Y := ((List Int) × Int × Int × Int × Int × Int × Int × (List Int))) (fun x => S8 x.1 x.2.1 x.2.2.1 x.2.2.2.1 x.2.2.2.2.1 x.2.2.2.2.2.1 x.2.2.2.2.2.2.1 x.2.2.2.2.2.2.2) V8_ok (stp := (fun (x : (List Int) × Int × Int × Int × Int × Int × Int × (List Int)) (next : ((List Int) × Int × Int × Int × Int × Int × Int × (List Int)) → Option R) (ex : (((List Int) × Int × Int × Int × Int × Int × Int × (List Int))) → Option R) => P.bits_Unpack_r8 x.1 x.2.1 x.2.2.1 x.2.2.2.1 x.2.2.2.2.1 x.2.2.2.2.2.1 x.2.2.2.2.2.2.1 x.2.2.2.2.2.2.2 (fun v0 v1 v8 v9 v10 v19 v20 h0 => next (v0, v1, v8, v9, v10, v19, v20, h0)) (fun v0 v1 v8 v9 v10 v19 v20 h0 => ex ((v0, v1, v8, v9, v10, v19, v20, h0))))) (enc := E8) (L := L8) (by kernel_rfl) lq8 round8
def E6 (K : AExit → ASt → Option R) : (((List Int) × Int × Int × Int × Int × Int × (List Int))) → Option R := (fun x => K (.exit 0) (S6 x.1 x.2.1 x.2.2.1 x.2.2.2.1 x.2.2.2.2.1 x.2.2.2.2.2.1 x.2.2.2.2.2.2))
theorem round6 (K : AExit → ASt → Option R) (next : ASt → Option R) (x : (List Int) × Int × Int × Int × Int × Int × (List Int)) : roundA D (loopAt Try.f43 6) K next (S6 x.1 x.2.1 x.2.2.1 x.2.2.2.1 x.2.2.2.2.1 x.2.2.2.2.2.1 x.2.2.2.2.2.2) = (fun (x : (List Int) × Int × Int × Int × Int × Int × (List Int)) (next : ((List Int) × Int × Int × Int × Int × Int × (List Int)) → Option R) (ex : (((List Int) × Int × Int × Int × Int × Int × (List Int))) → Option R) => P.bits_Unpack_r6 x.1 x.2.1 x.2.2.1 x.2.2.2.1 x.2.2.2.2.1 x.2.2.2.2.2.1 x.2.2.2.2.2.2 (fun v0 v1 v8 v9 v19 v20 h0 => next (v0, v1, v8, v9, v19, v20, h0)) (fun v0 v1 v8 v9 v19 v20 h0 => ex ((v0, v1, v8, v9, v19, v20, h0)))) x (fun x => next (S6 x.1 x.2.1 x.2.2.1 x.2.2.2.1 x.2.2.2.2.1 x.2.2.2.2.2.1 x.2.2.2.2.2.2)) (E6 K) := by kernel_rfl
theorem lq6 (st : ASt) (K : AExit → ASt → Option R) : L6 st K = vMap (V6 st) (fun x => lp (fun (x : (List Int) × Int × Int × Int × Int × Int × (List Int)) (next : ((List Int) × Int × Int × Int × Int × Int × (List Int)) → Option R) (ex : (((List Int) × Int × Int × Int × Int × Int × (List Int))) → Option R) => P.bits_Unpack_r6 x.1 x.2.1 x.2.2.1 x.2.2.2.1 x.2.2.2.2.1 x.2.2.2.2.2.1 x.2.2.2.2.2.2 (fun v0 v1 v8 v9 v19 v20 h0 => next (v0, v1, v8, v9, v19, v20, h0)) (fun v0 v1 v8 v9 v19 v20 h0 => ex ((v0, v1, v8, v9, v19, v20, h0)))) x (E6 K)) := by
  unfold L6
  cases V6 st with
  | none => rfl
  | some x => simp only [P.bits_Unpack_l6_eq]; rfl
theorem loop6 : LoopOk D (loopAt Try.f43 6) := loopOk_lp (X := (List Int) × Int × Int × Int × Int × Int × (List Int)) (Y := ((List Int) × Int × Int × Int × Int × Int × (List Int))) (fun x => S6 x.1 x.2.1 x.2.2.1 x.2.2.2.1 x.2.2.2.2.1 x.2.2.2.2.2.1 x.2.2.2.2.2.2) V6_ok (stp := (fun (x : (List Int) × Int × Int × Int × Int × Int × (List Int)) (next : ((List Int) × Int × Int × Int × Int × Int × (List Int)) → Option R) (ex : (((List Int) × Int × Int × Int × Int × Int × (List Int))) → Option R) => P.bits_Unpack_r6 x.1 x.2.1 x.2.2.1 x.2.2.2.1 x.2.2.2.2.1 x.2.2.2.2.2.1 x.2.2.2.2.2.2 (fun v0 v1 v8 v9 v19 v20 h0 => next (v0, v1, v8, v9, v19, v20, h0)) (fun v0 v1 v8 v9 v19 v20 h0 => ex ((v0, v1, v8, v9, v19, v20, h0))))) (enc := E6) (L := L6) (by kernel_rfl) lq6 round6
theorem body (a0 : List Int) (a1 : Int) (a2 : Int) (K : AVal → Option R) : bodyA D Try.f43 [.fr 62 (.ints .u32 [])] [.sl (.ints .u8 a0), .v (.int .i64 a1), .v (.int .i64 a2)] K = P.bits_Unpack a0 a1 a2 (fun r0 => K (.fr 62 (.ints .u32 r0))) := by
  rw [P.bits_Unpack_eq]
  kernel_rfl
theorem loops : loopsOf (Try.f43.body.getD .skip) = [loopAt Try.f43 6, loopAt Try.f43 8] := by kernel_rfl
noncomputable def spec0 : Abs.Spec := fun args K => match args with
  | [.sl (.ints .u8 a0), .v (.int .i64 a1), .v (.int .i64 a2)] => P.bits_Unpack a0 a1 a2 (fun r0 => K (.fr 62 (.ints .u32 r0)))
  | _ => none
noncomputable def spec : Abs.Spec := fun args K => spec0 (coerL [.sl (.ints .u8 []), .any, .any] args) K
theorem ok0 : Proved Try.prog [] 43 spec0 := by
  refine proved_of (D := D) (fn := Try.f43) (c := Try.f43.body.getD .skip) [.fr 62 (.ints .u32 [])] (by kernel_rfl) (globsPlain_of (by kernel_rfl)) (by kernel_rfl) (by kernel_rfl) (by kernel_rfl) ⟨bits_such.ok, trivial⟩ trivial ?_ ?_
  · rw [loops]; exact ⟨loop6, loop8, trivial⟩
  · intro args K r h
    unfold spec0 at h
    split at h
    · rw [body]; exact h
    · cases h
theorem ok : Proved Try.prog [] 43 spec := proved_coer _ ok0
end bits_Unpack
end
