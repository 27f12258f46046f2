/-
  BitsRounds, part G: an interpreter of my own over abstract values, the pure functions, the walks and the plain law.
-/

import Derived.Test.YtmaoicbiekgmhaaBitsRoundsF
import Derived.Test.YtmaoicbiekgmhaaProg
import Derived.KernelRfl

section
open Go Go.Abs
set_option linter.unusedVariables false
namespace P
noncomputable def R01_Same_r4 {ρ : Type} (v0 : List Int) (v1 : List Int) (v5 : Int) (nx : (List Int) → (List Int) → Int → Option ρ) (k0 : (List Int) → (List Int) → Int → Option ρ) (k1 : Bool → Option ρ) : Option ρ :=
  br (decide (v5 < (↑v0.length : Int)))
    (br (decide ((0 : Int) ≤ v5))
      (br (decide (v5 < (↑v0.length : Int)))
        (br (decide ((0 : Int) ≤ v5))
          (br (decide (v5 < (↑v1.length : Int)))
            (br (v0.getD v5.toNat (0 : Int) != v1.getD v5.toNat (0 : Int)) (k1 false)
              (nx v0 v1 (IntKind.i64.wrap (v5 + (1 : Int)))))
            none)
          none)
        none)
      none)
    (k0 v0 v1 v5)
noncomputable def R01_Same_L4 {ρ : Type} (v0 : List Int) (v1 : List Int) (v5 : Int) (k0 : (List Int) → (List Int) → Int → Option ρ) (k1 : Bool → Option ρ) : Option ρ :=
  lp (fun (x : (List Int) × (List Int) × Int) (next : ((List Int) × (List Int) × Int) → Option ρ) (ex : (((List Int) × (List Int) × Int) ⊕ ((Bool))) → Option ρ) => R01_Same_r4 x.1 x.2.1 x.2.2 (fun v0 v1 v5 => next (v0, v1, v5)) (fun v0 v1 v5 => ex (.inl (v0, v1, v5))) (fun v4 => ex (.inr v4))) (v0, v1, v5) (Sum.elim (fun x => k0 x.1 x.2.1 x.2.2) (fun x => k1 x))
noncomputable def R01_Same_l4 {ρ : Type} (v0 : List Int) (v1 : List Int) (v5 : Int) (k0 : (List Int) → (List Int) → Int → Option ρ) (k1 : Bool → Option ρ) : Option ρ := shut (R01_Same_L4 (ρ := ρ)) v0 v1 v5 k0 k1
theorem R01_Same_l4_eq {ρ : Type} (v0 : List Int) (v1 : List Int) (v5 : Int) (k0 : (List Int) → (List Int) → Int → Option ρ) (k1 : Bool → Option ρ) : R01_Same_l4 v0 v1 v5 k0 k1 = R01_Same_L4 v0 v1 v5 k0 k1 := by unfold R01_Same_l4; rw [shut_eq]
noncomputable def R01_Same_raw {ρ : Type} (a0 : List Int) (a1 : List Int) (k : Bool → Option ρ) : Option ρ :=
  br ((↑a0.length : Int) != (↑a1.length : Int)) (k false)
    (R01_Same_l4 a0 a1 (0 : Int) (fun (q0 q1 : List Int) (q2 : Int) => k true) fun (q3 : Bool) => k q3)
noncomputable def R01_Same {ρ : Type} (a0 : List Int) (a1 : List Int) (k : Bool → Option ρ) : Option ρ := shut (R01_Same_raw (ρ := ρ)) a0 a1 k
theorem R01_Same_eq {ρ : Type} (a0 : List Int) (a1 : List Int) (k : Bool → Option ρ) : R01_Same a0 a1 k = R01_Same_raw a0 a1 k := by unfold R01_Same; rw [shut_eq]

end P
end

section
open Go Go.Abs
set_option linter.unusedVariables false
namespace P
noncomputable def bits_Le_r5 {ρ : Type} (v0 : Int) (v16 : Int) (v17 : Int) (h0 : List Int) (nx : Int → Int → Int → (List Int) → Option ρ) (k0 : Int → Int → Int → (List Int) → Option ρ) : Option ρ :=
  br (decide (v17 < v16))
    (br (decide (IntKind.i64.wrap ((8 : Int) * v17) < (0 : Int))) none
      (br (decide ((0 : Int) ≤ v17))
        (br (decide (v17 < (↑h0.length : Int)))
          (nx v0 v16 (IntKind.i64.wrap (v17 + (1 : Int)))
            (h0.set v17.toNat
              (IntKind.u8.wrap (v0.fdiv ((2 : Int) ^ min (IntKind.i64.wrap ((8 : Int) * v17)).toNat 64)))))
          none)
        none))
    (k0 v0 v16 v17 h0)
noncomputable def bits_Le_L5 {ρ : Type} (v0 : Int) (v16 : Int) (v17 : Int) (h0 : List Int) (k0 : Int → Int → Int → (List Int) → Option ρ) : Option ρ :=
  lp (fun (x : Int × Int × Int × (List Int)) (next : (Int × Int × Int × (List Int)) → Option ρ) (ex : ((Int × Int × Int × (List Int))) → Option ρ) => bits_Le_r5 x.1 x.2.1 x.2.2.1 x.2.2.2 (fun v0 v16 v17 h0 => next (v0, v16, v17, h0)) (fun v0 v16 v17 h0 => ex ((v0, v16, v17, h0)))) (v0, v16, v17, h0) (fun x => k0 x.1 x.2.1 x.2.2.1 x.2.2.2)
noncomputable def bits_Le_l5 {ρ : Type} (v0 : Int) (v16 : Int) (v17 : Int) (h0 : List Int) (k0 : Int → Int → Int → (List Int) → Option ρ) : Option ρ := shut (bits_Le_L5 (ρ := ρ)) v0 v16 v17 h0 k0
theorem bits_Le_l5_eq {ρ : Type} (v0 : Int) (v16 : Int) (v17 : Int) (h0 : List Int) (k0 : Int → Int → Int → (List Int) → Option ρ) : bits_Le_l5 v0 v16 v17 h0 k0 = bits_Le_L5 v0 v16 v17 h0 k0 := by unfold bits_Le_l5; rw [shut_eq]
noncomputable def bits_Le_raw {ρ : Type} (a0 : Int) (a1 : Int) (k : (List Int) → Option ρ) : Option ρ :=
  br (decide (a1 < (0 : Int))) (k [])
    (br (decide (a1 > (65536 : Int))) (k [])
      (br (decide ((0 : Int) ≤ a1))
        (br (decide (a1 ≤ a1))
          (br (decide (a1 * (↑1 : Int) ≤ (↑140737488355328 : Int)))
            (bits_Le_l5 a0 (bif decide ((8 : Int) < a1) then (8 : Int) else a1) (0 : Int)
              (List.replicate a1.toNat (0 : Int)) fun (q0 q1 q2 : Int) (q3 : List Int) => k q3)
            none)
          none)
        none))
noncomputable def bits_Le {ρ : Type} (a0 : Int) (a1 : Int) (k : (List Int) → Option ρ) : Option ρ := shut (bits_Le_raw (ρ := ρ)) a0 a1 k
theorem bits_Le_eq {ρ : Type} (a0 : Int) (a1 : Int) (k : (List Int) → Option ρ) : bits_Le a0 a1 k = bits_Le_raw a0 a1 k := by unfold bits_Le; rw [shut_eq]

end P
end

section
open Go Go.Abs
set_option linter.unusedVariables false
namespace P
noncomputable def bits_Be_r1_1 {ρ : Type} (v2 : Int) (v3 : Int) (h0 : List Int) (nx : Int → Int → (List Int) → Option ρ) (k0 : Int → Int → (List Int) → Option ρ) : Option ρ :=
  br (decide (v2 < v3))
    (br (decide ((0 : Int) ≤ v3))
      (br (decide (v3 < (↑h0.length : Int)))
        (br (decide ((0 : Int) ≤ v2))
          (br (decide (v2 < (↑h0.length : Int)))
            (br (decide ((0 : Int) ≤ v2))
              (br (decide (v2 < (↑h0.length : Int)))
                (br (decide ((0 : Int) ≤ v3))
                  (br (decide (v3 < (↑(h0.set v2.toNat (h0.getD v3.toNat (0 : Int))).length : Int)))
                    (nx (IntKind.i64.wrap (v2 + (1 : Int))) (IntKind.i64.wrap (v3 - (1 : Int)))
                      ((h0.set v2.toNat (h0.getD v3.toNat (0 : Int))).set v3.toNat (h0.getD v2.toNat (0 : Int))))
                    none)
                  none)
                none)
              none)
            none)
          none)
        none)
      none)
    (k0 v2 v3 h0)
noncomputable def bits_Be_L1_1 {ρ : Type} (v2 : Int) (v3 : Int) (h0 : List Int) (k0 : Int → Int → (List Int) → Option ρ) : Option ρ :=
  lp (fun (x : Int × Int × (List Int)) (next : (Int × Int × (List Int)) → Option ρ) (ex : ((Int × Int × (List Int))) → Option ρ) => bits_Be_r1_1 x.1 x.2.1 x.2.2 (fun v2 v3 h0 => next (v2, v3, h0)) (fun v2 v3 h0 => ex ((v2, v3, h0)))) (v2, v3, h0) (fun x => k0 x.1 x.2.1 x.2.2)
noncomputable def bits_Be_l1_1 {ρ : Type} (v2 : Int) (v3 : Int) (h0 : List Int) (k0 : Int → Int → (List Int) → Option ρ) : Option ρ := shut (bits_Be_L1_1 (ρ := ρ)) v2 v3 h0 k0
theorem bits_Be_l1_1_eq {ρ : Type} (v2 : Int) (v3 : Int) (h0 : List Int) (k0 : Int → Int → (List Int) → Option ρ) : bits_Be_l1_1 v2 v3 h0 k0 = bits_Be_L1_1 v2 v3 h0 k0 := by unfold bits_Be_l1_1; rw [shut_eq]
noncomputable def bits_Be_raw {ρ : Type} (a0 : Int) (a1 : Int) (k : (List Int) → Option ρ) : Option ρ :=
  bits_Le a0 a1 fun (q0 : List Int) =>
    bits_Be_l1_1 (0 : Int) (IntKind.i64.wrap ((↑q0.length : Int) - (1 : Int))) q0 fun (q1 q2 : Int) (q3 : List Int) =>
      k q3
noncomputable def bits_Be {ρ : Type} (a0 : Int) (a1 : Int) (k : (List Int) → Option ρ) : Option ρ := shut (bits_Be_raw (ρ := ρ)) a0 a1 k
theorem bits_Be_eq {ρ : Type} (a0 : Int) (a1 : Int) (k : (List Int) → Option ρ) : bits_Be a0 a1 k = bits_Be_raw a0 a1 k := by unfold bits_Be; rw [shut_eq]

end P
end

section
open Go Go.Abs
set_option linter.unusedVariables false
namespace P
noncomputable def bits_such_raw {ρ : Type} (a0 : List Int) (a1 : Int) (a2 : Int) (k : Bool → Option ρ) : Option ρ :=
  br (decide (a1 ≥ (1 : Int)))
    (br (decide (a1 ≤ (24 : Int)))
      (br (decide (a2 ≥ (0 : Int)))
        (br (decide (a1 = (0 : Int))) none
          (k (decide (a2 ≤ IntKind.i64.wrap ((IntKind.i64.wrap ((↑a0.length : Int) * (8 : Int))).tdiv a1)))))
        (k false))
      (k false))
    (k false)
noncomputable def bits_such {ρ : Type} (a0 : List Int) (a1 : Int) (a2 : Int) (k : Bool → Option ρ) : Option ρ := shut (bits_such_raw (ρ := ρ)) a0 a1 a2 k
theorem bits_such_eq {ρ : Type} (a0 : List Int) (a1 : Int) (a2 : Int) (k : Bool → Option ρ) : bits_such a0 a1 a2 k = bits_such_raw a0 a1 a2 k := by unfold bits_such; rw [shut_eq]

end P
end

section
open Go Go.Abs
set_option linter.unusedVariables false
namespace P
noncomputable def bits_Digits_r8 {ρ : Type} (v0 : List Int) (v1 : Int) (v8 : Int) (v9 : Int) (v10 : Int) (v19 : Int) (v20 : Int) (h0 : List Int) (nx : (List Int) → Int → Int → Int → Int → Int → Int → (List Int) → Option ρ) (k0 : (List Int) → Int → Int → Int → Int → Int → Int → (List Int) → Option ρ) : Option ρ :=
  br (decide (v9 < v1))
    (br (decide ((0 : Int) < (↑v0.length : Int)))
      (br (decide ((1 : Int) ≤ (↑v0.length : Int)))
        (br (decide ((↑v0.length : Int) ≤ (↑v0.length : Int)))
          (nx (List.drop 1 (List.take (↑v0.length : Int).toNat v0)) v1
            (bits BinOp.or IntKind.u64 (IntKind.u64.wrap (v8 * (2 : Int) ^ 8))
              (IntKind.u64.wrap (v0.getD 0 (0 : Int))))
            (IntKind.i64.wrap (v9 + (8 : Int))) v10 v19 v20 h0)
          none)
        none)
      none)
    (k0 v0 v1 v8 v9 v10 v19 v20 h0)
noncomputable def bits_Digits_L8 {ρ : Type} (v0 : List Int) (v1 : Int) (v8 : Int) (v9 : Int) (v10 : Int) (v19 : Int) (v20 : Int) (h0 : List Int) (k0 : (List Int) → Int → Int → Int → Int → Int → Int → (List Int) → Option ρ) : Option ρ :=
  lp (fun (x : (List Int) × Int × Int × Int × Int × Int × Int × (List Int)) (next : ((List Int) × Int × Int × Int × Int × Int × Int × (List Int)) → Option ρ) (ex : (((List Int) × Int × Int × Int × Int × Int × Int × (List Int))) → Option ρ) => bits_Digits_r8 x.1 x.2.1 x.2.2.1 x.2.2.2.1 x.2.2.2.2.1 x.2.2.2.2.2.1 x.2.2.2.2.2.2.1 x.2.2.2.2.2.2.2 (fun v0 v1 v8 v9 v10 v19 v20 h0 => next (v0, v1, v8, v9, v10, v19, v20, h0)) (fun v0 v1 v8 v9 v10 v19 v20 h0 => ex ((v0, v1, v8, v9, v10, v19, v20, h0)))) (v0, v1, v8, v9, v10, v19, v20, h0) (fun x => k0 x.1 x.2.1 x.2.2.1 x.2.2.2.1 x.2.2.2.2.1 x.2.2.2.2.2.1 x.2.2.2.2.2.2.1 x.2.2.2.2.2.2.2)
noncomputable def bits_Digits_l8 {ρ : Type} (v0 : List Int) (v1 : Int) (v8 : Int) (v9 : Int) (v10 : Int) (v19 : Int) (v20 : Int) (h0 : List Int) (k0 : (List Int) → Int → Int → Int → Int → Int → Int → (List Int) → Option ρ) : Option ρ := shut (bits_Digits_L8 (ρ := ρ)) v0 v1 v8 v9 v10 v19 v20 h0 k0
theorem bits_Digits_l8_eq {ρ : Type} (v0 : List Int) (v1 : Int) (v8 : Int) (v9 : Int) (v10 : Int) (v19 : Int) (v20 : Int) (h0 : List Int) (k0 : (List Int) → Int → Int → Int → Int → Int → Int → (List Int) → Option ρ) : bits_Digits_l8 v0 v1 v8 v9 v10 v19 v20 h0 k0 = bits_Digits_L8 v0 v1 v8 v9 v10 v19 v20 h0 k0 := by unfold bits_Digits_l8; rw [shut_eq]
noncomputable def bits_Digits_r6 {ρ : Type} (v0 : List Int) (v1 : Int) (v8 : Int) (v9 : Int) (v19 : Int) (v20 : Int) (h0 : List Int) (nx : (List Int) → Int → Int → Int → Int → Int → (List Int) → Option ρ) (k0 : (List Int) → Int → Int → Int → Int → Int → (List Int) → Option ρ) : Option ρ :=
  br (decide (v20 < v19))
    (bits_Digits_l8 v0 v1 v8 v9 v20 v19 v20 h0 fun (q0 : List Int) (q1 q2 q3 q4 q5 q6 : Int) (q7 : List Int) =>
      br (decide (IntKind.i64.wrap (q3 - q1) < (0 : Int))) none
        (br (decide (q1 < (0 : Int))) none
          (br (decide ((0 : Int) ≤ q4))
            (br (decide (q4 < (↑q7.length : Int)))
              (nx q0 q1 q2 (IntKind.i64.wrap (q3 - q1)) q5 (IntKind.i64.wrap (q6 + (1 : Int)))
                (q7.set q4.toNat
                  (IntKind.u32.wrap
                    (bits BinOp.and IntKind.u64
                      (q2.fdiv ((2 : Int) ^ min (IntKind.i64.wrap (q3 - q1)).toNat 64))
                      (IntKind.u64.wrap
                        (IntKind.u64.wrap ((1 : Int) * (2 : Int) ^ min q1.toNat 64) - (1 : Int)))))))
              none)
            none)))
    (k0 v0 v1 v8 v9 v19 v20 h0)
noncomputable def bits_Digits_L6 {ρ : Type} (v0 : List Int) (v1 : Int) (v8 : Int) (v9 : Int) (v19 : Int) (v20 : Int) (h0 : List Int) (k0 : (List Int) → Int → Int → Int → Int → Int → (List Int) → Option ρ) : Option ρ :=
  lp (fun (x : (List Int) × Int × Int × Int × Int × Int × (List Int)) (next : ((List Int) × Int × Int × Int × Int × Int × (List Int)) → Option ρ) (ex : (((List Int) × Int × Int × Int × Int × Int × (List Int))) → Option ρ) => bits_Digits_r6 x.1 x.2.1 x.2.2.1 x.2.2.2.1 x.2.2.2.2.1 x.2.2.2.2.2.1 x.2.2.2.2.2.2 (fun v0 v1 v8 v9 v19 v20 h0 => next (v0, v1, v8, v9, v19, v20, h0)) (fun v0 v1 v8 v9 v19 v20 h0 => ex ((v0, v1, v8, v9, v19, v20, h0)))) (v0, v1, v8, v9, v19, v20, h0) (fun x => k0 x.1 x.2.1 x.2.2.1 x.2.2.2.1 x.2.2.2.2.1 x.2.2.2.2.2.1 x.2.2.2.2.2.2)
noncomputable def bits_Digits_l6 {ρ : Type} (v0 : List Int) (v1 : Int) (v8 : Int) (v9 : Int) (v19 : Int) (v20 : Int) (h0 : List Int) (k0 : (List Int) → Int → Int → Int → Int → Int → (List Int) → Option ρ) : Option ρ := shut (bits_Digits_L6 (ρ := ρ)) v0 v1 v8 v9 v19 v20 h0 k0
theorem bits_Digits_l6_eq {ρ : Type} (v0 : List Int) (v1 : Int) (v8 : Int) (v9 : Int) (v19 : Int) (v20 : Int) (h0 : List Int) (k0 : (List Int) → Int → Int → Int → Int → Int → (List Int) → Option ρ) : bits_Digits_l6 v0 v1 v8 v9 v19 v20 h0 k0 = bits_Digits_L6 v0 v1 v8 v9 v19 v20 h0 k0 := by unfold bits_Digits_l6; rw [shut_eq]
noncomputable def bits_Digits_raw {ρ : Type} (a0 : List Int) (a1 : Int) (a2 : Int) (k : (List Int) → Option ρ) : Option ρ :=
  bits_such a0 a1 a2 fun (q0 : Bool) =>
    br (!q0) (k [])
      (br (decide ((0 : Int) ≤ a2))
        (br (decide (a2 ≤ a2))
          (br (decide (a2 * (↑4 : Int) ≤ (↑140737488355328 : Int)))
            (bits_Digits_l6 a0 a1 (0 : Int) (0 : Int) (↑(List.replicate a2.toNat (0 : Int)).length : Int) (0 : Int)
              (List.replicate a2.toNat (0 : Int)) fun (q1 : List Int) (q2 q3 q4 q5 q6 : Int) (q7 : List Int) => k q7)
            none)
          none)
        none)
noncomputable def bits_Digits {ρ : Type} (a0 : List Int) (a1 : Int) (a2 : Int) (k : (List Int) → Option ρ) : Option ρ := shut (bits_Digits_raw (ρ := ρ)) a0 a1 a2 k
theorem bits_Digits_eq {ρ : Type} (a0 : List Int) (a1 : Int) (a2 : Int) (k : (List Int) → Option ρ) : bits_Digits a0 a1 a2 k = bits_Digits_raw a0 a1 a2 k := by unfold bits_Digits; rw [shut_eq]

end P
end

section
open Go Go.Abs
set_option linter.unusedVariables false
namespace P
noncomputable def bits_Pack_r10 {ρ : Type} (v1 : Int) (v6 : Int) (v7 : Int) (v23 : List Int) (v24 : Int) (v25 : Int) (h2 : List Int) (nx : Int → Int → Int → (List Int) → Int → Int → (List Int) → Option ρ) (k0 : Int → Int → Int → (List Int) → Int → Int → (List Int) → Option ρ) : Option ρ :=
  br (decide (v7 ≥ (8 : Int)))
    (br
      (decide
        ((h2.length + 1) * 1 ≤
          140737488355328))
      (nx v1 (v6.fdiv ((2 : Int) ^ 8)) (IntKind.i64.wrap (v7 - (8 : Int))) v23 v24 v25
        (h2 ++ [IntKind.u8.wrap v6]))
      none)
    (k0 v1 v6 v7 v23 v24 v25 h2)
noncomputable def bits_Pack_L10 {ρ : Type} (v1 : Int) (v6 : Int) (v7 : Int) (v23 : List Int) (v24 : Int) (v25 : Int) (h2 : List Int) (k0 : Int → Int → Int → (List Int) → Int → Int → (List Int) → Option ρ) : Option ρ :=
  lp (fun (x : Int × Int × Int × (List Int) × Int × Int × (List Int)) (next : (Int × Int × Int × (List Int) × Int × Int × (List Int)) → Option ρ) (ex : ((Int × Int × Int × (List Int) × Int × Int × (List Int))) → Option ρ) => bits_Pack_r10 x.1 x.2.1 x.2.2.1 x.2.2.2.1 x.2.2.2.2.1 x.2.2.2.2.2.1 x.2.2.2.2.2.2 (fun v1 v6 v7 v23 v24 v25 h2 => next (v1, v6, v7, v23, v24, v25, h2)) (fun v1 v6 v7 v23 v24 v25 h2 => ex ((v1, v6, v7, v23, v24, v25, h2)))) (v1, v6, v7, v23, v24, v25, h2) (fun x => k0 x.1 x.2.1 x.2.2.1 x.2.2.2.1 x.2.2.2.2.1 x.2.2.2.2.2.1 x.2.2.2.2.2.2)
noncomputable def bits_Pack_l10 {ρ : Type} (v1 : Int) (v6 : Int) (v7 : Int) (v23 : List Int) (v24 : Int) (v25 : Int) (h2 : List Int) (k0 : Int → Int → Int → (List Int) → Int → Int → (List Int) → Option ρ) : Option ρ := shut (bits_Pack_L10 (ρ := ρ)) v1 v6 v7 v23 v24 v25 h2 k0
theorem bits_Pack_l10_eq {ρ : Type} (v1 : Int) (v6 : Int) (v7 : Int) (v23 : List Int) (v24 : Int) (v25 : Int) (h2 : List Int) (k0 : Int → Int → Int → (List Int) → Int → Int → (List Int) → Option ρ) : bits_Pack_l10 v1 v6 v7 v23 v24 v25 h2 k0 = bits_Pack_L10 v1 v6 v7 v23 v24 v25 h2 k0 := by unfold bits_Pack_l10; rw [shut_eq]
noncomputable def bits_Pack_r6 {ρ : Type} (v1 : Int) (v6 : Int) (v7 : Int) (v23 : List Int) (v24 : Int) (v25 : Int) (h1 : List Int) (nx : Int → Int → Int → (List Int) → Int → Int → (List Int) → Option ρ) (k0 : Int → Int → Int → (List Int) → Int → Int → (List Int) → Option ρ) : Option ρ :=
  br (decide (v25 < v24))
    (br (decide ((0 : Int) ≤ v25))
      (br (decide (v25 < (↑v23.length : Int)))
        (br (decide (v1 < (0 : Int))) none
          (br (decide (v7 < (0 : Int))) none
            (bits_Pack_l10 v1
              (bits BinOp.or IntKind.u64 v6
                (IntKind.u64.wrap
                  (IntKind.u64.wrap
                      (bits BinOp.and IntKind.u32 (v23.getD v25.toNat (0 : Int))
                        (IntKind.u32.wrap
                          (IntKind.u32.wrap ((1 : Int) * (2 : Int) ^ min v1.toNat 32) - (1 : Int)))) *
                    (2 : Int) ^ min v7.toNat 64)))
              (IntKind.i64.wrap (v7 + v1)) v23 v24 v25 h1
              fun (q0 q1 q2 : Int) (q3 : List Int) (q4 q5 : Int) (q6 : List Int) =>
              nx q0 q1 q2 q3 q4 (IntKind.i64.wrap (q5 + (1 : Int))) q6)))
        none)
      none)
    (k0 v1 v6 v7 v23 v24 v25 h1)
noncomputable def bits_Pack_L6 {ρ : Type} (v1 : Int) (v6 : Int) (v7 : Int) (v23 : List Int) (v24 : Int) (v25 : Int) (h1 : List Int) (k0 : Int → Int → Int → (List Int) → Int → Int → (List Int) → Option ρ) : Option ρ :=
  lp (fun (x : Int × Int × Int × (List Int) × Int × Int × (List Int)) (next : (Int × Int × Int × (List Int) × Int × Int × (List Int)) → Option ρ) (ex : ((Int × Int × Int × (List Int) × Int × Int × (List Int))) → Option ρ) => bits_Pack_r6 x.1 x.2.1 x.2.2.1 x.2.2.2.1 x.2.2.2.2.1 x.2.2.2.2.2.1 x.2.2.2.2.2.2 (fun v1 v6 v7 v23 v24 v25 h1 => next (v1, v6, v7, v23, v24, v25, h1)) (fun v1 v6 v7 v23 v24 v25 h1 => ex ((v1, v6, v7, v23, v24, v25, h1)))) (v1, v6, v7, v23, v24, v25, h1) (fun x => k0 x.1 x.2.1 x.2.2.1 x.2.2.2.1 x.2.2.2.2.1 x.2.2.2.2.2.1 x.2.2.2.2.2.2)
noncomputable def bits_Pack_l6 {ρ : Type} (v1 : Int) (v6 : Int) (v7 : Int) (v23 : List Int) (v24 : Int) (v25 : Int) (h1 : List Int) (k0 : Int → Int → Int → (List Int) → Int → Int → (List Int) → Option ρ) : Option ρ := shut (bits_Pack_L6 (ρ := ρ)) v1 v6 v7 v23 v24 v25 h1 k0
theorem bits_Pack_l6_eq {ρ : Type} (v1 : Int) (v6 : Int) (v7 : Int) (v23 : List Int) (v24 : Int) (v25 : Int) (h1 : List Int) (k0 : Int → Int → Int → (List Int) → Int → Int → (List Int) → Option ρ) : bits_Pack_l6 v1 v6 v7 v23 v24 v25 h1 k0 = bits_Pack_L6 v1 v6 v7 v23 v24 v25 h1 k0 := by unfold bits_Pack_l6; rw [shut_eq]
noncomputable def bits_Pack_raw {ρ : Type} (a0 : List Int) (a1 : Int) (k : (List Int) → Option ρ) : Option ρ :=
  br (decide (a1 < (1 : Int))) (k [])
    (br (decide (a1 > (24 : Int))) (k [])
      (br
        (decide
          ((0 : Int) ≤
            IntKind.i64.wrap
              ((IntKind.i64.wrap (IntKind.i64.wrap ((↑a0.length : Int) * a1) + (7 : Int))).tdiv (8 : Int))))
        (br
          (decide
            (IntKind.i64.wrap
                  ((IntKind.i64.wrap (IntKind.i64.wrap ((↑a0.length : Int) * a1) + (7 : Int))).tdiv (8 : Int)) *
                (↑1 : Int) ≤
              (↑140737488355328 : Int)))
          (bits_Pack_l6 a1 (0 : Int) (0 : Int) a0 (↑a0.length : Int) (0 : Int) (List.replicate 0 (0 : Int))
            fun (q0 q1 q2 : Int) (q3 : List Int) (q4 q5 : Int) (q6 : List Int) =>
            br (decide (q2 > (0 : Int)))
              (br
                (decide
                  ((q6.length + 1) * 1 ≤
                    140737488355328))
                (k (q6 ++ [IntKind.u8.wrap q1])) none)
              (k q6))
          none)
        none))
noncomputable def bits_Pack {ρ : Type} (a0 : List Int) (a1 : Int) (k : (List Int) → Option ρ) : Option ρ := shut (bits_Pack_raw (ρ := ρ)) a0 a1 k
theorem bits_Pack_eq {ρ : Type} (a0 : List Int) (a1 : Int) (k : (List Int) → Option ρ) : bits_Pack a0 a1 k = bits_Pack_raw a0 a1 k := by unfold bits_Pack; rw [shut_eq]

end P
end

section
open Go Go.Abs
set_option linter.unusedVariables false
namespace P
noncomputable def L01_awake_raw {ρ : Type}  (k : Bool → Option ρ) : Option ρ :=
  bits_Digits [(165 : Int)] (4 : Int) (2 : Int) fun (q0 : List Int) =>
    bits_Be (258 : Int) (3 : Int) fun (q1 : List Int) =>
      R01_Same q1 [(0 : Int), (1 : Int), (2 : Int)] fun (q2 : Bool) =>
        br q2
          (bits_Le (258 : Int) (3 : Int) fun (q3 : List Int) =>
            R01_Same q3 [(2 : Int), (1 : Int), (0 : Int)] fun (q4 : Bool) =>
              br q4
                (br ((↑q0.length : Int) == (2 : Int))
                  (br (decide ((0 : Int) < (↑q0.length : Int)))
                    (br (q0.getD 0 (0 : Int) == (10 : Int))
                      (br (decide ((1 : Int) < (↑q0.length : Int)))
                        (br (q0.getD 1 (0 : Int) == (5 : Int))
                          (bits_Pack [(5 : Int), (10 : Int)] (4 : Int) fun (q5 : List Int) =>
                            R01_Same q5 [(165 : Int)] fun (q6 : Bool) => k q6)
                          (k false))
                        none)
                      (k false))
                    none)
                  (k false))
                (k false))
          (k false)
noncomputable def L01_awake {ρ : Type}  (k : Bool → Option ρ) : Option ρ := shut (L01_awake_raw (ρ := ρ))  k
theorem L01_awake_eq {ρ : Type}  (k : Bool → Option ρ) : L01_awake  k = L01_awake_raw  k := by unfold L01_awake; rw [shut_eq]

end P
end

section
open Go Go.Abs
set_option linter.unusedVariables false
namespace P
noncomputable def bits_Num_r3 {ρ : Type} (v3 : Int) (v6 : List Int) (v7 : Int) (v8 : Int) (nx : Int → (List Int) → Int → Int → Option ρ) (k0 : Int → (List Int) → Int → Int → Option ρ) : Option ρ :=
  br (decide (v8 < v7))
    (br (decide ((0 : Int) ≤ v8))
      (br (decide (v8 < (↑v6.length : Int)))
        (nx
          (bits BinOp.or IntKind.u64 (IntKind.u64.wrap (v3 * (2 : Int) ^ 8))
            (IntKind.u64.wrap (v6.getD v8.toNat (0 : Int))))
          v6 v7 (IntKind.i64.wrap (v8 + (1 : Int))))
        none)
      none)
    (k0 v3 v6 v7 v8)
noncomputable def bits_Num_L3 {ρ : Type} (v3 : Int) (v6 : List Int) (v7 : Int) (v8 : Int) (k0 : Int → (List Int) → Int → Int → Option ρ) : Option ρ :=
  lp (fun (x : Int × (List Int) × Int × Int) (next : (Int × (List Int) × Int × Int) → Option ρ) (ex : ((Int × (List Int) × Int × Int)) → Option ρ) => bits_Num_r3 x.1 x.2.1 x.2.2.1 x.2.2.2 (fun v3 v6 v7 v8 => next (v3, v6, v7, v8)) (fun v3 v6 v7 v8 => ex ((v3, v6, v7, v8)))) (v3, v6, v7, v8) (fun x => k0 x.1 x.2.1 x.2.2.1 x.2.2.2)
noncomputable def bits_Num_l3 {ρ : Type} (v3 : Int) (v6 : List Int) (v7 : Int) (v8 : Int) (k0 : Int → (List Int) → Int → Int → Option ρ) : Option ρ := shut (bits_Num_L3 (ρ := ρ)) v3 v6 v7 v8 k0
theorem bits_Num_l3_eq {ρ : Type} (v3 : Int) (v6 : List Int) (v7 : Int) (v8 : Int) (k0 : Int → (List Int) → Int → Int → Option ρ) : bits_Num_l3 v3 v6 v7 v8 k0 = bits_Num_L3 v3 v6 v7 v8 k0 := by unfold bits_Num_l3; rw [shut_eq]
noncomputable def bits_Num_raw {ρ : Type} (a0 : List Int) (k : Int → Option ρ) : Option ρ :=
  bits_Num_l3 (0 : Int) a0 (↑a0.length : Int) (0 : Int) fun (q0 : Int) (q1 : List Int) (q2 q3 : Int) => k q0
noncomputable def bits_Num {ρ : Type} (a0 : List Int) (k : Int → Option ρ) : Option ρ := shut (bits_Num_raw (ρ := ρ)) a0 k
theorem bits_Num_eq {ρ : Type} (a0 : List Int) (k : Int → Option ρ) : bits_Num a0 k = bits_Num_raw a0 k := by unfold bits_Num; rw [shut_eq]

end P
end

section
open Go Go.Abs
set_option linter.unusedVariables false
namespace P
noncomputable def bits_NumLe_r3 {ρ : Type} (v0 : List Int) (v3 : Int) (v7 : Int) (v8 : Int) (nx : (List Int) → Int → Int → Int → Option ρ) (k0 : (List Int) → Int → Int → Int → Option ρ) : Option ρ :=
  br (decide (v8 < v7))
    (br (decide ((0 : Int) ≤ v8))
      (br (decide (v8 < (↑v0.length : Int)))
        (br (decide (IntKind.i64.wrap ((8 : Int) * v8) < (0 : Int))) none
          (nx v0
            (bits BinOp.or IntKind.u64 v3
              (IntKind.u64.wrap
                (IntKind.u64.wrap (v0.getD v8.toNat (0 : Int)) *
                  (2 : Int) ^ min (IntKind.i64.wrap ((8 : Int) * v8)).toNat 64)))
            v7 (IntKind.i64.wrap (v8 + (1 : Int)))))
        none)
      none)
    (k0 v0 v3 v7 v8)
noncomputable def bits_NumLe_L3 {ρ : Type} (v0 : List Int) (v3 : Int) (v7 : Int) (v8 : Int) (k0 : (List Int) → Int → Int → Int → Option ρ) : Option ρ :=
  lp (fun (x : (List Int) × Int × Int × Int) (next : ((List Int) × Int × Int × Int) → Option ρ) (ex : (((List Int) × Int × Int × Int)) → Option ρ) => bits_NumLe_r3 x.1 x.2.1 x.2.2.1 x.2.2.2 (fun v0 v3 v7 v8 => next (v0, v3, v7, v8)) (fun v0 v3 v7 v8 => ex ((v0, v3, v7, v8)))) (v0, v3, v7, v8) (fun x => k0 x.1 x.2.1 x.2.2.1 x.2.2.2)
noncomputable def bits_NumLe_l3 {ρ : Type} (v0 : List Int) (v3 : Int) (v7 : Int) (v8 : Int) (k0 : (List Int) → Int → Int → Int → Option ρ) : Option ρ := shut (bits_NumLe_L3 (ρ := ρ)) v0 v3 v7 v8 k0
theorem bits_NumLe_l3_eq {ρ : Type} (v0 : List Int) (v3 : Int) (v7 : Int) (v8 : Int) (k0 : (List Int) → Int → Int → Int → Option ρ) : bits_NumLe_l3 v0 v3 v7 v8 k0 = bits_NumLe_L3 v0 v3 v7 v8 k0 := by unfold bits_NumLe_l3; rw [shut_eq]
noncomputable def bits_NumLe_raw {ρ : Type} (a0 : List Int) (k : Int → Option ρ) : Option ρ :=
  bits_NumLe_l3 a0 (0 : Int) (bif decide ((8 : Int) < (↑a0.length : Int)) then (8 : Int) else (↑a0.length : Int))
    (0 : Int) fun (q0 : List Int) (q1 q2 q3 : Int) => k q1
noncomputable def bits_NumLe {ρ : Type} (a0 : List Int) (k : Int → Option ρ) : Option ρ := shut (bits_NumLe_raw (ρ := ρ)) a0 k
theorem bits_NumLe_eq {ρ : Type} (a0 : List Int) (k : Int → Option ρ) : bits_NumLe a0 k = bits_NumLe_raw a0 k := by unfold bits_NumLe; rw [shut_eq]

end P
end

section
open Go Go.Abs
set_option linter.unusedVariables false
namespace P
noncomputable def slices_Grow_byte_raw {ρ : Type} (a1 : Int) (k : (List Int) → Option ρ) : Option ρ :=
  br (decide (a1 < (0 : Int))) none
    (br (decide (IntKind.i64.wrap (a1 - IntKind.i64.wrap ((0 : Int) - (↑0 : Int))) > (0 : Int)))
      (br (decide ((0 : Int) ≤ IntKind.i64.wrap (a1 - IntKind.i64.wrap ((0 : Int) - (↑0 : Int)))))
        (br
          (decide
            ((IntKind.i64.wrap (a1 - IntKind.i64.wrap ((0 : Int) - (↑0 : Int)))).toNat *
                1 ≤
              140737488355328))
          (k
            (List.take ((↑0 : Int) - (0 : Int)).toNat
              (List.replicate (IntKind.i64.wrap (a1 - IntKind.i64.wrap ((0 : Int) - (↑0 : Int)))).toNat
                (0 : Int))))
          none)
        none)
      (k []))
noncomputable def slices_Grow_byte {ρ : Type} (a1 : Int) (k : (List Int) → Option ρ) : Option ρ := shut (slices_Grow_byte_raw (ρ := ρ)) a1 k
theorem slices_Grow_byte_eq {ρ : Type} (a1 : Int) (k : (List Int) → Option ρ) : slices_Grow_byte a1 k = slices_Grow_byte_raw a1 k := by unfold slices_Grow_byte; rw [shut_eq]

end P
end

section
open Go Go.Abs
set_option linter.unusedVariables false
namespace P
noncomputable def slices_Concat_byte_r3 {ρ : Type} (v0 : List (List Int)) (v3 : Int) (v9 : List (List Int)) (v10 : Int) (v11 : Int) (nx : (List (List Int)) → Int → (List (List Int)) → Int → Int → Option ρ) (k0 : (List (List Int)) → Int → (List (List Int)) → Int → Int → Option ρ) : Option ρ :=
  br (decide (v11 < v10))
    (br (decide ((0 : Int) ≤ v11))
      (br (decide (v11 < (↑v9.length : Int)))
        (br (decide (IntKind.i64.wrap (v3 + (↑(v9.getD v11.toNat []).length : Int)) < (0 : Int))) none
          (nx v0 (IntKind.i64.wrap (v3 + (↑(v9.getD v11.toNat []).length : Int))) v9 v10
            (IntKind.i64.wrap (v11 + (1 : Int)))))
        none)
      none)
    (k0 v0 v3 v9 v10 v11)
noncomputable def slices_Concat_byte_L3 {ρ : Type} (v0 : List (List Int)) (v3 : Int) (v9 : List (List Int)) (v10 : Int) (v11 : Int) (k0 : (List (List Int)) → Int → (List (List Int)) → Int → Int → Option ρ) : Option ρ :=
  lp (fun (x : (List (List Int)) × Int × (List (List Int)) × Int × Int) (next : ((List (List Int)) × Int × (List (List Int)) × Int × Int) → Option ρ) (ex : (((List (List Int)) × Int × (List (List Int)) × Int × Int)) → Option ρ) => slices_Concat_byte_r3 x.1 x.2.1 x.2.2.1 x.2.2.2.1 x.2.2.2.2 (fun v0 v3 v9 v10 v11 => next (v0, v3, v9, v10, v11)) (fun v0 v3 v9 v10 v11 => ex ((v0, v3, v9, v10, v11)))) (v0, v3, v9, v10, v11) (fun x => k0 x.1 x.2.1 x.2.2.1 x.2.2.2.1 x.2.2.2.2)
noncomputable def slices_Concat_byte_l3 {ρ : Type} (v0 : List (List Int)) (v3 : Int) (v9 : List (List Int)) (v10 : Int) (v11 : Int) (k0 : (List (List Int)) → Int → (List (List Int)) → Int → Int → Option ρ) : Option ρ := shut (slices_Concat_byte_L3 (ρ := ρ)) v0 v3 v9 v10 v11 k0
theorem slices_Concat_byte_l3_eq {ρ : Type} (v0 : List (List Int)) (v3 : Int) (v9 : List (List Int)) (v10 : Int) (v11 : Int) (k0 : (List (List Int)) → Int → (List (List Int)) → Int → Int → Option ρ) : slices_Concat_byte_l3 v0 v3 v9 v10 v11 k0 = slices_Concat_byte_L3 v0 v3 v9 v10 v11 k0 := by unfold slices_Concat_byte_l3; rw [shut_eq]
noncomputable def slices_Concat_byte_r11 {ρ : Type} (v25 : List (List Int)) (v26 : Int) (v27 : Int) (h1 : List Int) (nx : (List (List Int)) → Int → Int → (List Int) → Option ρ) (k0 : (List (List Int)) → Int → Int → (List Int) → Option ρ) : Option ρ :=
  br (decide (v27 < v26))
    (br (decide ((0 : Int) ≤ v27))
      (br (decide (v27 < (↑v25.length : Int)))
        (br
          (decide
            ((h1.length + (v25.getD v27.toNat []).length) *
                1 ≤
              140737488355328))
          (nx v25 v26 (IntKind.i64.wrap (v27 + (1 : Int))) (h1 ++ v25.getD v27.toNat [])) none)
        none)
      none)
    (k0 v25 v26 v27 h1)
noncomputable def slices_Concat_byte_L11 {ρ : Type} (v25 : List (List Int)) (v26 : Int) (v27 : Int) (h1 : List Int) (k0 : (List (List Int)) → Int → Int → (List Int) → Option ρ) : Option ρ :=
  lp (fun (x : (List (List Int)) × Int × Int × (List Int)) (next : ((List (List Int)) × Int × Int × (List Int)) → Option ρ) (ex : (((List (List Int)) × Int × Int × (List Int))) → Option ρ) => slices_Concat_byte_r11 x.1 x.2.1 x.2.2.1 x.2.2.2 (fun v25 v26 v27 h1 => next (v25, v26, v27, h1)) (fun v25 v26 v27 h1 => ex ((v25, v26, v27, h1)))) (v25, v26, v27, h1) (fun x => k0 x.1 x.2.1 x.2.2.1 x.2.2.2)
noncomputable def slices_Concat_byte_l11 {ρ : Type} (v25 : List (List Int)) (v26 : Int) (v27 : Int) (h1 : List Int) (k0 : (List (List Int)) → Int → Int → (List Int) → Option ρ) : Option ρ := shut (slices_Concat_byte_L11 (ρ := ρ)) v25 v26 v27 h1 k0
theorem slices_Concat_byte_l11_eq {ρ : Type} (v25 : List (List Int)) (v26 : Int) (v27 : Int) (h1 : List Int) (k0 : (List (List Int)) → Int → Int → (List Int) → Option ρ) : slices_Concat_byte_l11 v25 v26 v27 h1 k0 = slices_Concat_byte_L11 v25 v26 v27 h1 k0 := by unfold slices_Concat_byte_l11; rw [shut_eq]
noncomputable def slices_Concat_byte_raw {ρ : Type} (a0 : List (List Int)) (k : (List Int) → Option ρ) : Option ρ :=
  slices_Concat_byte_l3 a0 (0 : Int) a0 (↑a0.length : Int) (0 : Int)
    fun (q0 : List (List Int)) (q1 : Int) (q2 : List (List Int)) (q3 q4 : Int) =>
    slices_Grow_byte q1 fun (q5 : List Int) =>
      slices_Concat_byte_l11 q0 (↑q0.length : Int) (0 : Int) q5
        fun (q6 : List (List Int)) (q7 q8 : Int) (q9 : List Int) => k q9
noncomputable def slices_Concat_byte {ρ : Type} (a0 : List (List Int)) (k : (List Int) → Option ρ) : Option ρ := shut (slices_Concat_byte_raw (ρ := ρ)) a0 k
theorem slices_Concat_byte_eq {ρ : Type} (a0 : List (List Int)) (k : (List Int) → Option ρ) : slices_Concat_byte a0 k = slices_Concat_byte_raw a0 k := by unfold slices_Concat_byte; rw [shut_eq]

end P
end

section
open Go Go.Abs
set_option linter.unusedVariables false
namespace P
noncomputable def bits_Join_raw {ρ : Type} (a0 : List (List Int)) (k : (List Int) → Option ρ) : Option ρ :=
  slices_Concat_byte a0 fun (q0 : List Int) => k q0
noncomputable def bits_Join {ρ : Type} (a0 : List (List Int)) (k : (List Int) → Option ρ) : Option ρ := shut (bits_Join_raw (ρ := ρ)) a0 k
theorem bits_Join_eq {ρ : Type} (a0 : List (List Int)) (k : (List Int) → Option ρ) : bits_Join a0 k = bits_Join_raw a0 k := by unfold bits_Join; rw [shut_eq]

end P
end

section
open Go Go.Abs
set_option linter.unusedVariables false
namespace P
noncomputable def L01_BitsRounds_r7 {ρ : Type} (v0 : Int) (v1 : List Int) (v27 : Int) (h0 : List Int) (h1 : List Int) (nx : Int → (List Int) → Int → (List Int) → (List Int) → Option ρ) (k0 : Int → (List Int) → Int → (List Int) → (List Int) → Option ρ) (k1 : Bool → (List Int) → (List Int) → Option ρ) : Option ρ :=
  br (decide (v27 < (8 : Int)))
    (br (decide ((0 : Int) ≤ v27))
      (br (decide (v27 < (↑h0.length : Int)))
        (br (decide ((0 : Int) ≤ IntKind.i64.wrap ((7 : Int) - v27)))
          (br (decide (IntKind.i64.wrap ((7 : Int) - v27) < (↑h1.length : Int)))
            (br (h0.getD v27.toNat (0 : Int) != h1.getD (IntKind.i64.wrap ((7 : Int) - v27)).toNat (0 : Int))
              (k1 false h0 h1) (nx v0 v1 (IntKind.i64.wrap (v27 + (1 : Int))) h0 h1))
            none)
          none)
        none)
      none)
    (k0 v0 v1 v27 h0 h1)
noncomputable def L01_BitsRounds_L7 {ρ : Type} (v0 : Int) (v1 : List Int) (v27 : Int) (h0 : List Int) (h1 : List Int) (k0 : Int → (List Int) → Int → (List Int) → (List Int) → Option ρ) (k1 : Bool → (List Int) → (List Int) → Option ρ) : Option ρ :=
  lp (fun (x : Int × (List Int) × Int × (List Int) × (List Int)) (next : (Int × (List Int) × Int × (List Int) × (List Int)) → Option ρ) (ex : ((Int × (List Int) × Int × (List Int) × (List Int)) ⊕ ((Bool × (List Int) × (List Int)))) → Option ρ) => L01_BitsRounds_r7 x.1 x.2.1 x.2.2.1 x.2.2.2.1 x.2.2.2.2 (fun v0 v1 v27 h0 h1 => next (v0, v1, v27, h0, h1)) (fun v0 v1 v27 h0 h1 => ex (.inl (v0, v1, v27, h0, h1))) (fun v4 h0 h1 => ex (.inr (v4, h0, h1)))) (v0, v1, v27, h0, h1) (Sum.elim (fun x => k0 x.1 x.2.1 x.2.2.1 x.2.2.2.1 x.2.2.2.2) (fun x => k1 x.1 x.2.1 x.2.2))
noncomputable def L01_BitsRounds_l7 {ρ : Type} (v0 : Int) (v1 : List Int) (v27 : Int) (h0 : List Int) (h1 : List Int) (k0 : Int → (List Int) → Int → (List Int) → (List Int) → Option ρ) (k1 : Bool → (List Int) → (List Int) → Option ρ) : Option ρ := shut (L01_BitsRounds_L7 (ρ := ρ)) v0 v1 v27 h0 h1 k0 k1
theorem L01_BitsRounds_l7_eq {ρ : Type} (v0 : Int) (v1 : List Int) (v27 : Int) (h0 : List Int) (h1 : List Int) (k0 : Int → (List Int) → Int → (List Int) → (List Int) → Option ρ) (k1 : Bool → (List Int) → (List Int) → Option ρ) : L01_BitsRounds_l7 v0 v1 v27 h0 h1 k0 k1 = L01_BitsRounds_L7 v0 v1 v27 h0 h1 k0 k1 := by unfold L01_BitsRounds_l7; rw [shut_eq]
noncomputable def L01_BitsRounds_r16 {ρ : Type} (v0 : Int) (v1 : List Int) (v64 : Int) (v65 : Int) (h1 : List Int) (h0 : List Int) (h2 : List Int) (h3 : List Int) (nx : Int → (List Int) → Int → Int → (List Int) → (List Int) → (List Int) → (List Int) → Option ρ) (k0 : Int → (List Int) → Int → Int → (List Int) → (List Int) → (List Int) → (List Int) → Option ρ) (k1 : Bool → (List Int) → (List Int) → (List Int) → (List Int) → Option ρ) : Option ρ :=
  br (decide (v65 < v64))
    (br (decide ((0 : Int) ≤ v65))
      (br (decide (v65 < (↑h3.length : Int)))
        (br (decide ((0 : Int) ≤ IntKind.i64.wrap ((2 : Int) * v65)))
          (br (decide (IntKind.i64.wrap ((2 : Int) * v65) < (↑h2.length : Int)))
            (br (decide ((0 : Int) ≤ IntKind.i64.wrap (IntKind.i64.wrap ((2 : Int) * v65) + (1 : Int))))
              (br (decide (IntKind.i64.wrap (IntKind.i64.wrap ((2 : Int) * v65) + (1 : Int)) < (↑h2.length : Int)))
                (br
                  (h3.getD v65.toNat (0 : Int) !=
                    bits BinOp.or IntKind.u32
                      (IntKind.u32.wrap
                        (h2.getD (IntKind.i64.wrap ((2 : Int) * v65)).toNat (0 : Int) * (2 : Int) ^ 4))
                      (h2.getD (IntKind.i64.wrap (IntKind.i64.wrap ((2 : Int) * v65) + (1 : Int))).toNat (0 : Int)))
                  (k1 false h1 h0 h2 h3) (nx v0 v1 v64 (IntKind.i64.wrap (v65 + (1 : Int))) h1 h0 h2 h3))
                none)
              none)
            none)
          none)
        none)
      none)
    (k0 v0 v1 v64 v65 h1 h0 h2 h3)
noncomputable def L01_BitsRounds_L16 {ρ : Type} (v0 : Int) (v1 : List Int) (v64 : Int) (v65 : Int) (h1 : List Int) (h0 : List Int) (h2 : List Int) (h3 : List Int) (k0 : Int → (List Int) → Int → Int → (List Int) → (List Int) → (List Int) → (List Int) → Option ρ) (k1 : Bool → (List Int) → (List Int) → (List Int) → (List Int) → Option ρ) : Option ρ :=
  lp (fun (x : Int × (List Int) × Int × Int × (List Int) × (List Int) × (List Int) × (List Int)) (next : (Int × (List Int) × Int × Int × (List Int) × (List Int) × (List Int) × (List Int)) → Option ρ) (ex : ((Int × (List Int) × Int × Int × (List Int) × (List Int) × (List Int) × (List Int)) ⊕ ((Bool × (List Int) × (List Int) × (List Int) × (List Int)))) → Option ρ) => L01_BitsRounds_r16 x.1 x.2.1 x.2.2.1 x.2.2.2.1 x.2.2.2.2.1 x.2.2.2.2.2.1 x.2.2.2.2.2.2.1 x.2.2.2.2.2.2.2 (fun v0 v1 v64 v65 h1 h0 h2 h3 => next (v0, v1, v64, v65, h1, h0, h2, h3)) (fun v0 v1 v64 v65 h1 h0 h2 h3 => ex (.inl (v0, v1, v64, v65, h1, h0, h2, h3))) (fun v4 h1 h0 h2 h3 => ex (.inr (v4, h1, h0, h2, h3)))) (v0, v1, v64, v65, h1, h0, h2, h3) (Sum.elim (fun x => k0 x.1 x.2.1 x.2.2.1 x.2.2.2.1 x.2.2.2.2.1 x.2.2.2.2.2.1 x.2.2.2.2.2.2.1 x.2.2.2.2.2.2.2) (fun x => k1 x.1 x.2.1 x.2.2.1 x.2.2.2.1 x.2.2.2.2))
noncomputable def L01_BitsRounds_l16 {ρ : Type} (v0 : Int) (v1 : List Int) (v64 : Int) (v65 : Int) (h1 : List Int) (h0 : List Int) (h2 : List Int) (h3 : List Int) (k0 : Int → (List Int) → Int → Int → (List Int) → (List Int) → (List Int) → (List Int) → Option ρ) (k1 : Bool → (List Int) → (List Int) → (List Int) → (List Int) → Option ρ) : Option ρ := shut (L01_BitsRounds_L16 (ρ := ρ)) v0 v1 v64 v65 h1 h0 h2 h3 k0 k1
theorem L01_BitsRounds_l16_eq {ρ : Type} (v0 : Int) (v1 : List Int) (v64 : Int) (v65 : Int) (h1 : List Int) (h0 : List Int) (h2 : List Int) (h3 : List Int) (k0 : Int → (List Int) → Int → Int → (List Int) → (List Int) → (List Int) → (List Int) → Option ρ) (k1 : Bool → (List Int) → (List Int) → (List Int) → (List Int) → Option ρ) : L01_BitsRounds_l16 v0 v1 v64 v65 h1 h0 h2 h3 k0 k1 = L01_BitsRounds_L16 v0 v1 v64 v65 h1 h0 h2 h3 k0 k1 := by unfold L01_BitsRounds_l16; rw [shut_eq]
noncomputable def L01_BitsRounds_raw {ρ : Type} (a0 : Int) (a1 : List Int) (k : Bool → Option ρ) : Option ρ :=
  br (decide ((↑a1.length : Int) > (1000 : Int))) (L01_awake fun (q0 : Bool) => k q0)
    (bits_Be a0 (8 : Int) fun (q1 : List Int) =>
      bits_Le a0 (8 : Int) fun (q2 : List Int) =>
        br ((↑q1.length : Int) != (8 : Int)) (k false)
          (br ((↑q2.length : Int) != (8 : Int)) (k false)
            (L01_BitsRounds_l7 a0 a1 (0 : Int) q1 q2
              (fun (q3 : Int) (q4 : List Int) (q5 : Int) (q6 q7 : List Int) =>
                bits_Digits q4 (4 : Int) (IntKind.i64.wrap ((2 : Int) * (↑q4.length : Int))) fun (q8 : List Int) =>
                  bits_Digits q4 (8 : Int) (↑q4.length : Int) fun (q9 : List Int) =>
                    br ((↑q8.length : Int) != IntKind.i64.wrap ((2 : Int) * (↑q4.length : Int))) (k false)
                      (br ((↑q9.length : Int) != (↑q4.length : Int)) (k false)
                        (L01_BitsRounds_l16 q3 q4 (↑q9.length : Int) (0 : Int) q7 q6 q8 q9
                          (fun (q10 : Int) (q11 : List Int) (q12 q13 : Int) (q14 q15 q16 q17 : List Int) =>
                            bits_Join [q11, q15] fun (q18 : List Int) =>
                              bits_Num q18 fun (q19 : Int) =>
                                br (q19 == q10)
                                  (bits_Join [q14, q11] fun (q20 : List Int) =>
                                    bits_NumLe q20 fun (q21 : Int) =>
                                      br (q21 == q10) (L01_awake fun (q22 : Bool) => k q22) (k false))
                                  (k false))
                          fun (q23 : Bool) (q24 q25 q26 q27 : List Int) => k q23)))
              fun (q28 : Bool) (q29 q30 : List Int) => k q28)))
noncomputable def L01_BitsRounds {ρ : Type} (a0 : Int) (a1 : List Int) (k : Bool → Option ρ) : Option ρ := shut (L01_BitsRounds_raw (ρ := ρ)) a0 a1 k
theorem L01_BitsRounds_eq {ρ : Type} (a0 : Int) (a1 : List Int) (k : Bool → Option ρ) : L01_BitsRounds a0 a1 k = L01_BitsRounds_raw a0 a1 k := by unfold L01_BitsRounds; rw [shut_eq]

end P
end

section
open Go Go.Abs Go.Proofs
set_option maxRecDepth 100000
set_option linter.unusedVariables false
namespace R01_Same
def S4 (v0 : List Int) (v1 : List Int) (v5 : Int) : ASt := ⟨[(0, .sl (.ints .u8 v0)), (1, .sl (.ints .u8 v1)), (5, .v (.int .i64 v5))], [], 0, 26⟩
def V4 : ASt → Option ((List Int) × (List Int) × Int)
  | ⟨[(0, .sl (.ints .u8 v0)), (1, .sl (.ints .u8 v1)), (5, .v (.int .i64 v5))], [], 0, 26⟩ => some (v0, v1, v5)
  | _ => none
theorem V4_ok (st : ASt) (x : (List Int) × (List Int) × Int) (h : V4 st = some x) : st = S4 x.1 x.2.1 x.2.2 := by
  unfold V4 at h
  split at h
  · cases h; rfl
  · cases h
noncomputable def L4 : LSpec := fun st K => match V4 st with
  | some x => P.R01_Same_l4 x.1 x.2.1 x.2.2 (fun v0 v1 v5 => K (.exit 0) (S4 v0 v1 v5)) (fun v4 => K .ret ⟨[(4, .v (.bool v4))], [], 0, 26⟩)
  | none => none
noncomputable def D : Ctx := ({ P := Try.prog, G := [], globs := [], hints := [(4, ⟨[0, 1, 5], [], [4], []⟩)], loops := [(4, L4)], inl := [] } : Ctx)
def E4 (K : AExit → ASt → Option R) : (((List Int) × (List Int) × Int) ⊕ ((Bool))) → Option R := (Sum.elim (fun x => K (.exit 0) (S4 x.1 x.2.1 x.2.2)) (fun x => K .ret ⟨[(4, .v (.bool x))], [], 0, 26⟩))
theorem round4 (K : AExit → ASt → Option R) (next : ASt → Option R) (x : (List Int) × (List Int) × Int) : roundA D (loopAt Try.f19 4) K next (S4 x.1 x.2.1 x.2.2) = (fun (x : (List Int) × (List Int) × Int) (next : ((List Int) × (List Int) × Int) → Option R) (ex : (((List Int) × (List Int) × Int) ⊕ ((Bool))) → Option R) => P.R01_Same_r4 x.1 x.2.1 x.2.2 (fun v0 v1 v5 => next (v0, v1, v5)) (fun v0 v1 v5 => ex (.inl (v0, v1, v5))) (fun v4 => ex (.inr v4))) x (fun x => next (S4 x.1 x.2.1 x.2.2)) (E4 K) := by kernel_rfl
theorem lq4 (st : ASt) (K : AExit → ASt → Option R) : L4 st K = vMap (V4 st) (fun x => lp (fun (x : (List Int) × (List Int) × Int) (next : ((List Int) × (List Int) × Int) → Option R) (ex : (((List Int) × (List Int) × Int) ⊕ ((Bool))) → Option R) => P.R01_Same_r4 x.1 x.2.1 x.2.2 (fun v0 v1 v5 => next (v0, v1, v5)) (fun v0 v1 v5 => ex (.inl (v0, v1, v5))) (fun v4 => ex (.inr v4))) x (E4 K)) := by
  unfold L4
  cases V4 st with
  | none => rfl
  | some x => simp only [P.R01_Same_l4_eq]; rfl
theorem loop4 : LoopOk D (loopAt Try.f19 4) := loopOk_lp (X := (List Int) × (List Int) × Int) (Y := ((List Int) × (List Int) × Int) ⊕ ((Bool))) (fun x => S4 x.1 x.2.1 x.2.2) V4_ok (stp := (fun (x : (List Int) × (List Int) × Int) (next : ((List Int) × (List Int) × Int) → Option R) (ex : (((List Int) × (List Int) × Int) ⊕ ((Bool))) → Option R) => P.R01_Same_r4 x.1 x.2.1 x.2.2 (fun v0 v1 v5 => next (v0, v1, v5)) (fun v0 v1 v5 => ex (.inl (v0, v1, v5))) (fun v4 => ex (.inr v4)))) (enc := E4) (L := L4) (by kernel_rfl) lq4 round4
theorem body (a0 : List Int) (a1 : List Int) (K : AVal → Option R) : bodyA D Try.f19 [.any] [.sl (.ints .u8 a0), .sl (.ints .u8 a1)] K = P.R01_Same a0 a1 (fun r0 => K (.v (.bool r0))) := by
  rw [P.R01_Same_eq]
  kernel_rfl
theorem loops : loopsOf (Try.f19.body.getD .skip) = [loopAt Try.f19 4] := by kernel_rfl
noncomputable def spec0 : Abs.Spec := fun args K => match args with
  | [.sl (.ints .u8 a0), .sl (.ints .u8 a1)] => P.R01_Same a0 a1 (fun r0 => K (.v (.bool r0)))
  | _ => none
noncomputable def spec : Abs.Spec := fun args K => spec0 (coerL [.sl (.ints .u8 []), .sl (.ints .u8 [])] args) K
theorem ok0 : Proved Try.prog [] 19 spec0 := by
  refine proved_of (D := D) (fn := Try.f19) (c := Try.f19.body.getD .skip) [.any] (by kernel_rfl) (globsPlain_of (by kernel_rfl)) (by kernel_rfl) (by kernel_rfl) (by kernel_rfl) trivial trivial ?_ ?_
  · rw [loops]; exact ⟨loop4, trivial⟩
  · intro args K r h
    unfold spec0 at h
    split at h
    · rw [body]; exact h
    · cases h
theorem ok : Proved Try.prog [] 19 spec := proved_coer _ ok0
end R01_Same
end

section
open Go Go.Abs Go.Proofs
set_option maxRecDepth 100000
set_option linter.unusedVariables false
namespace bits_Le
def S5 (v0 : Int) (v16 : Int) (v17 : Int) (h0 : List Int) : ASt := ⟨[(0, .v (.int .u64 v0)), (5, .own 0), (16, .v (.int .i64 v16)), (17, .v (.int .i64 v17))], [(0, some ⟨.row 5 (.ints .u8 h0), false⟩)], 1, 30⟩
def V5 : ASt → Option (Int × Int × Int × (List Int))
  | ⟨[(0, .v (.int .u64 v0)), (5, .own 0), (16, .v (.int .i64 v16)), (17, .v (.int .i64 v17))], [(0, some ⟨.row 5 (.ints .u8 h0), false⟩)], 1, 30⟩ => some (v0, v16, v17, h0)
  | _ => none
theorem V5_ok (st : ASt) (x : Int × Int × Int × (List Int)) (h : V5 st = some x) : st = S5 x.1 x.2.1 x.2.2.1 x.2.2.2 := by
  unfold V5 at h
  split at h
  · cases h; rfl
  · cases h
noncomputable def L5 : LSpec := fun st K => match V5 st with
  | some x => P.bits_Le_l5 x.1 x.2.1 x.2.2.1 x.2.2.2 (fun v0 v16 v17 h0 => K (.exit 0) (S5 v0 v16 v17 h0))
  | none => none
noncomputable def D : Ctx := ({ P := Try.prog, G := [], globs := [], hints := [(5, ⟨[0, 5, 16, 17], [], [4], []⟩)], loops := [(5, L5)], inl := [] } : Ctx)
def E5 (K : AExit → ASt → Option R) : ((Int × Int × Int × (List Int))) → Option R := (fun x => K (.exit 0) (S5 x.1 x.2.1 x.2.2.1 x.2.2.2))
theorem round5 (K : AExit → ASt → Option R) (next : ASt → Option R) (x : Int × Int × Int × (List Int)) : roundA D (loopAt Try.f32 5) K next (S5 x.1 x.2.1 x.2.2.1 x.2.2.2) = (fun (x : Int × Int × Int × (List Int)) (next : (Int × Int × Int × (List Int)) → Option R) (ex : ((Int × Int × Int × (List Int))) → Option R) => P.bits_Le_r5 x.1 x.2.1 x.2.2.1 x.2.2.2 (fun v0 v16 v17 h0 => next (v0, v16, v17, h0)) (fun v0 v16 v17 h0 => ex ((v0, v16, v17, h0)))) x (fun x => next (S5 x.1 x.2.1 x.2.2.1 x.2.2.2)) (E5 K) := by kernel_rfl
theorem lq5 (st : ASt) (K : AExit → ASt → Option R) : L5 st K = vMap (V5 st) (fun x => lp (fun (x : Int × Int × Int × (List Int)) (next : (Int × Int × Int × (List Int)) → Option R) (ex : ((Int × Int × Int × (List Int))) → Option R) => P.bits_Le_r5 x.1 x.2.1 x.2.2.1 x.2.2.2 (fun v0 v16 v17 h0 => next (v0, v16, v17, h0)) (fun v0 v16 v17 h0 => ex ((v0, v16, v17, h0)))) x (E5 K)) := by
  unfold L5
  cases V5 st with
  | none => rfl
  | some x => simp only [P.bits_Le_l5_eq]; rfl
theorem loop5 : LoopOk D (loopAt Try.f32 5) := loopOk_lp (X := Int × Int × Int × (List Int)) (Y := (Int × Int × Int × (List Int))) (fun x => S5 x.1 x.2.1 x.2.2.1 x.2.2.2) V5_ok (stp := (fun (x : Int × Int × Int × (List Int)) (next : (Int × Int × Int × (List Int)) → Option R) (ex : ((Int × Int × Int × (List Int))) → Option R) => P.bits_Le_r5 x.1 x.2.1 x.2.2.1 x.2.2.2 (fun v0 v16 v17 h0 => next (v0, v16, v17, h0)) (fun v0 v16 v17 h0 => ex ((v0, v16, v17, h0))))) (enc := E5) (L := L5) (by kernel_rfl) lq5 round5
theorem body (a0 : Int) (a1 : Int) (K : AVal → Option R) : bodyA D Try.f32 [.fr 5 (.ints .u8 [])] [.v (.int .u64 a0), .v (.int .i64 a1)] K = P.bits_Le a0 a1 (fun r0 => K (.fr 5 (.ints .u8 r0))) := by
  rw [P.bits_Le_eq]
  kernel_rfl
theorem loops : loopsOf (Try.f32.body.getD .skip) = [loopAt Try.f32 5] := by kernel_rfl
noncomputable def spec0 : Abs.Spec := fun args K => match args with
  | [.v (.int .u64 a0), .v (.int .i64 a1)] => P.bits_Le a0 a1 (fun r0 => K (.fr 5 (.ints .u8 r0)))
  | _ => none
noncomputable def spec : Abs.Spec := spec0
theorem ok0 : Proved Try.prog [] 32 spec0 := by
  refine proved_of (D := D) (fn := Try.f32) (c := Try.f32.body.getD .skip) [.fr 5 (.ints .u8 [])] (by kernel_rfl) (globsPlain_of (by kernel_rfl)) (by kernel_rfl) (by kernel_rfl) (by kernel_rfl) trivial trivial ?_ ?_
  · rw [loops]; exact ⟨loop5, trivial⟩
  · intro args K r h
    unfold spec0 at h
    split at h
    · rw [body]; exact h
    · cases h
theorem ok : Proved Try.prog [] 32 spec := ok0
end bits_Le
end

section
open Go Go.Abs Go.Proofs
set_option maxRecDepth 100000
set_option linter.unusedVariables false
namespace bits_Be
def S1_1 (v2 : Int) (v3 : Int) (h0 : List Int) : ASt := ⟨[(0, .own 0), (2, .v (.int .i64 v2)), (3, .v (.int .i64 v3))], [(0, some ⟨.row 5 (.ints .u8 h0), false⟩)], 1, 28⟩
def V1_1 : ASt → Option (Int × Int × (List Int))
  | ⟨[(0, .own 0), (2, .v (.int .i64 v2)), (3, .v (.int .i64 v3))], [(0, some ⟨.row 5 (.ints .u8 h0), false⟩)], 1, 28⟩ => some (v2, v3, h0)
  | _ => none
theorem V1_1_ok (st : ASt) (x : Int × Int × (List Int)) (h : V1_1 st = some x) : st = S1_1 x.1 x.2.1 x.2.2 := by
  unfold V1_1 at h
  split at h
  · cases h; rfl
  · cases h
noncomputable def L1_1 : LSpec := fun st K => match V1_1 st with
  | some x => P.bits_Be_l1_1 x.1 x.2.1 x.2.2 (fun v2 v3 h0 => K (.exit 0) (S1_1 v2 v3 h0))
  | none => none
noncomputable def D1 : Ctx := ({ P := Try.prog, G := [], globs := [], hints := [(1, ⟨[0, 2, 3], [], [], []⟩)], loops := [(1, L1_1)], inl := [] } : Ctx)
noncomputable def D : Ctx := ({ P := Try.prog, G := [(32, bits_Le.spec)], globs := [], hints := [], loops := [], inl := [(70, bodyIn D1 Try.f70)] } : Ctx)
def E1_1 (K : AExit → ASt → Option R) : ((Int × Int × (List Int))) → Option R := (fun x => K (.exit 0) (S1_1 x.1 x.2.1 x.2.2))
theorem round1_1 (K : AExit → ASt → Option R) (next : ASt → Option R) (x : Int × Int × (List Int)) : roundA D1 (loopAt Try.f70 1) K next (S1_1 x.1 x.2.1 x.2.2) = (fun (x : Int × Int × (List Int)) (next : (Int × Int × (List Int)) → Option R) (ex : ((Int × Int × (List Int))) → Option R) => P.bits_Be_r1_1 x.1 x.2.1 x.2.2 (fun v2 v3 h0 => next (v2, v3, h0)) (fun v2 v3 h0 => ex ((v2, v3, h0)))) x (fun x => next (S1_1 x.1 x.2.1 x.2.2)) (E1_1 K) := by kernel_rfl
theorem lq1_1 (st : ASt) (K : AExit → ASt → Option R) : L1_1 st K = vMap (V1_1 st) (fun x => lp (fun (x : Int × Int × (List Int)) (next : (Int × Int × (List Int)) → Option R) (ex : ((Int × Int × (List Int))) → Option R) => P.bits_Be_r1_1 x.1 x.2.1 x.2.2 (fun v2 v3 h0 => next (v2, v3, h0)) (fun v2 v3 h0 => ex ((v2, v3, h0)))) x (E1_1 K)) := by
  unfold L1_1
  cases V1_1 st with
  | none => rfl
  | some x => simp only [P.bits_Be_l1_1_eq]; rfl
theorem loop1_1 : LoopOk D1 (loopAt Try.f70 1) := loopOk_lp (X := Int × Int × (List Int)) (Y := (Int × Int × (List Int))) (fun x => S1_1 x.1 x.2.1 x.2.2) V1_1_ok (stp := (fun (x : Int × Int × (List Int)) (next : (Int × Int × (List Int)) → Option R) (ex : ((Int × Int × (List Int))) → Option R) => P.bits_Be_r1_1 x.1 x.2.1 x.2.2 (fun v2 v3 h0 => next (v2, v3, h0)) (fun v2 v3 h0 => ex ((v2, v3, h0))))) (enc := E1_1) (L := L1_1) (by kernel_rfl) lq1_1 round1_1
theorem body (a0 : Int) (a1 : Int) (K : AVal → Option R) : bodyA D Try.f30 [.fr 5 (.ints .u8 [])] [.v (.int .u64 a0), .v (.int .i64 a1)] K = P.bits_Be a0 a1 (fun r0 => K (.fr 5 (.ints .u8 r0))) := by
  rw [P.bits_Be_eq]
  kernel_rfl
theorem loops : loopsOf (Try.f30.body.getD .skip) = [] := by kernel_rfl
theorem loops1 : loopsOf (Try.f70.body.getD .skip) = [loopAt Try.f70 1] := by kernel_rfl
noncomputable def spec0 : Abs.Spec := fun args K => match args with
  | [.v (.int .u64 a0), .v (.int .i64 a1)] => P.bits_Be a0 a1 (fun r0 => K (.fr 5 (.ints .u8 r0)))
  | _ => none
noncomputable def spec : Abs.Spec := spec0
theorem ok0 : Proved Try.prog [] 30 spec0 := by
  refine proved_of (D := D) (fn := Try.f30) (c := Try.f30.body.getD .skip) [.fr 5 (.ints .u8 [])] (by kernel_rfl) (globsPlain_of (by kernel_rfl)) (by kernel_rfl) (by kernel_rfl) (by kernel_rfl) ⟨bits_Le.ok, trivial⟩ ⟨run_of (D := D1) (D' := D) (fn := Try.f70) (c := Try.f70.body.getD .skip) rfl rfl (by kernel_rfl) (globsPlain_of (by kernel_rfl)) (by kernel_rfl) (by kernel_rfl) (by kernel_rfl) trivial trivial (by rw [loops1]; exact ⟨loop1_1, trivial⟩) (fun _ _ _ _ _ h => h), trivial⟩ ?_ ?_
  · rw [loops]; exact trivial
  · intro args K r h
    unfold spec0 at h
    split at h
    · rw [body]; exact h
    · cases h
theorem ok : Proved Try.prog [] 30 spec := ok0
end bits_Be
end

section
open Go Go.Abs Go.Proofs
set_option maxRecDepth 100000
set_option linter.unusedVariables false
namespace bits_such
noncomputable def D : Ctx := ({ P := Try.prog, G := [], globs := [], hints := [], loops := [], inl := [] } : Ctx)
theorem body (a0 : List Int) (a1 : Int) (a2 : Int) (K : AVal → Option R) : bodyA D Try.f72 [.any] [.sl (.ints .u8 a0), .v (.int .i64 a1), .v (.int .i64 a2)] K = P.bits_such a0 a1 a2 (fun r0 => K (.v (.bool r0))) := by
  rw [P.bits_such_eq]
  kernel_rfl
theorem loops : loopsOf (Try.f72.body.getD .skip) = [] := by kernel_rfl
noncomputable def spec0 : Abs.Spec := fun args K => match args with
  | [.sl (.ints .u8 a0), .v (.int .i64 a1), .v (.int .i64 a2)] => P.bits_such a0 a1 a2 (fun r0 => K (.v (.bool r0)))
  | _ => none
noncomputable def spec : Abs.Spec := fun args K => spec0 (coerL [.sl (.ints .u8 []), .any, .any] args) K
theorem ok0 : Proved Try.prog [] 72 spec0 := by
  refine proved_of (D := D) (fn := Try.f72) (c := Try.f72.body.getD .skip) [.any] (by kernel_rfl) (globsPlain_of (by kernel_rfl)) (by kernel_rfl) (by kernel_rfl) (by kernel_rfl) trivial trivial ?_ ?_
  · rw [loops]; exact trivial
  · intro args K r h
    unfold spec0 at h
    split at h
    · rw [body]; exact h
    · cases h
theorem ok : Proved Try.prog [] 72 spec := proved_coer _ ok0
end bits_such
end

section
open Go Go.Abs Go.Proofs
set_option maxRecDepth 100000
set_option linter.unusedVariables false
namespace bits_Digits
def S6 (v0 : List Int) (v1 : Int) (v8 : Int) (v9 : Int) (v19 : Int) (v20 : Int) (h0 : List Int) : ASt := ⟨[(0, .sl (.ints .u8 v0)), (1, .v (.int .i64 v1)), (7, .own 0), (8, .v (.int .u64 v8)), (9, .v (.int .i64 v9)), (19, .v (.int .i64 v19)), (20, .v (.int .i64 v20))], [(0, some ⟨.row 62 (.ints .u32 h0), false⟩)], 1, 53⟩
def V6 : ASt → Option ((List Int) × Int × Int × Int × Int × Int × (List Int))
  | ⟨[(0, .sl (.ints .u8 v0)), (1, .v (.int .i64 v1)), (7, .own 0), (8, .v (.int .u64 v8)), (9, .v (.int .i64 v9)), (19, .v (.int .i64 v19)), (20, .v (.int .i64 v20))], [(0, some ⟨.row 62 (.ints .u32 h0), false⟩)], 1, 53⟩ => some (v0, v1, v8, v9, v19, v20, h0)
  | _ => none
theorem V6_ok (st : ASt) (x : (List Int) × Int × Int × Int × Int × Int × (List Int)) (h : V6 st = some x) : st = S6 x.1 x.2.1 x.2.2.1 x.2.2.2.1 x.2.2.2.2.1 x.2.2.2.2.2.1 x.2.2.2.2.2.2 := by
  unfold V6 at h
  split at h
  · cases h; rfl
  · cases h
def S8 (v0 : List Int) (v1 : Int) (v8 : Int) (v9 : Int) (v10 : Int) (v19 : Int) (v20 : Int) (h0 : List Int) : ASt := ⟨[(0, .sl (.ints .u8 v0)), (1, .v (.int .i64 v1)), (7, .own 0), (8, .v (.int .u64 v8)), (9, .v (.int .i64 v9)), (10, .v (.int .i64 v10)), (19, .v (.int .i64 v19)), (20, .v (.int .i64 v20))], [(0, some ⟨.row 62 (.ints .u32 h0), false⟩)], 1, 53⟩
def V8 : ASt → Option ((List Int) × Int × Int × Int × Int × Int × Int × (List Int))
  | ⟨[(0, .sl (.ints .u8 v0)), (1, .v (.int .i64 v1)), (7, .own 0), (8, .v (.int .u64 v8)), (9, .v (.int .i64 v9)), (10, .v (.int .i64 v10)), (19, .v (.int .i64 v19)), (20, .v (.int .i64 v20))], [(0, some ⟨.row 62 (.ints .u32 h0), false⟩)], 1, 53⟩ => some (v0, v1, v8, v9, v10, v19, v20, h0)
  | _ => none
theorem V8_ok (st : ASt) (x : (List Int) × Int × Int × Int × Int × Int × Int × (List Int)) (h : V8 st = some x) : st = S8 x.1 x.2.1 x.2.2.1 x.2.2.2.1 x.2.2.2.2.1 x.2.2.2.2.2.1 x.2.2.2.2.2.2.1 x.2.2.2.2.2.2.2 := by
  unfold V8 at h
  split at h
  · cases h; rfl
  · cases h
noncomputable def L8 : LSpec := fun st K => match V8 st with
  | some x => P.bits_Digits_l8 x.1 x.2.1 x.2.2.1 x.2.2.2.1 x.2.2.2.2.1 x.2.2.2.2.2.1 x.2.2.2.2.2.2.1 x.2.2.2.2.2.2.2 (fun v0 v1 v8 v9 v10 v19 v20 h0 => K (.exit 2) (S8 v0 v1 v8 v9 v10 v19 v20 h0))
  | none => none
noncomputable def L6 : LSpec := fun st K => match V6 st with
  | some x => P.bits_Digits_l6 x.1 x.2.1 x.2.2.1 x.2.2.2.1 x.2.2.2.2.1 x.2.2.2.2.2.1 x.2.2.2.2.2.2 (fun v0 v1 v8 v9 v19 v20 h0 => K (.exit 0) (S6 v0 v1 v8 v9 v19 v20 h0))
  | none => none
noncomputable def D : Ctx := ({ P := Try.prog, G := [(72, bits_such.spec)], globs := [], hints := [(8, ⟨[0, 1, 7, 8, 9, 10, 19, 20], [], [6], [(0, .sl (.ints .u8 []))]⟩), (6, ⟨[0, 1, 7, 8, 9, 19, 20], [], [6], [(0, .sl (.ints .u8 []))]⟩)], loops := [(8, L8), (6, L6)], inl := [] } : Ctx)
def E8 (K : AExit → ASt → Option R) : (((List Int) × Int × Int × Int × Int × Int × Int × (List Int))) → Option R := (fun x => K (.exit 2) (S8 x.1 x.2.1 x.2.2.1 x.2.2.2.1 x.2.2.2.2.1 x.2.2.2.2.2.1 x.2.2.2.2.2.2.1 x.2.2.2.2.2.2.2))
theorem round8 (K : AExit → ASt → Option R) (next : ASt → Option R) (x : (List Int) × Int × Int × Int × Int × Int × Int × (List Int)) : roundA D (loopAt Try.f39 8) K next (S8 x.1 x.2.1 x.2.2.1 x.2.2.2.1 x.2.2.2.2.1 x.2.2.2.2.2.1 x.2.2.2.2.2.2.1 x.2.2.2.2.2.2.2) = (fun (x : (List Int) × Int × Int × Int × Int × Int × Int × (List Int)) (next : ((List Int) × Int × Int × Int × Int × Int × Int × (List Int)) → Option R) (ex : (((List Int) × Int × Int × Int × Int × Int × Int × (List Int))) → Option R) => P.bits_Digits_r8 x.1 x.2.1 x.2.2.1 x.2.2.2.1 x.2.2.2.2.1 x.2.2.2.2.2.1 x.2.2.2.2.2.2.1 x.2.2.2.2.2.2.2 (fun v0 v1 v8 v9 v10 v19 v20 h0 => next (v0, v1, v8, v9, v10, v19, v20, h0)) (fun v0 v1 v8 v9 v10 v19 v20 h0 => ex ((v0, v1, v8, v9, v10, v19, v20, h0)))) x (fun x => next (S8 x.1 x.2.1 x.2.2.1 x.2.2.2.1 x.2.2.2.2.1 x.2.2.2.2.2.1 x.2.2.2.2.2.2.1 x.2.2.2.2.2.2.2)) (E8 K) := by kernel_rfl
theorem lq8 (st : ASt) (K : AExit → ASt → Option R) : L8 st K = vMap (V8 st) (fun x => lp (fun (x : (List Int) × Int × Int × Int × Int × Int × Int × (List Int)) (next : ((List Int) × Int × Int × Int × Int × Int × Int × (List Int)) → Option R) (ex : (((List Int) × Int × Int × Int × Int × Int × Int × (List Int))) → Option R) => P.bits_Digits_r8 x.1 x.2.1 x.2.2.1 x.2.2.2.1 x.2.2.2.2.1 x.2.2.2.2.2.1 x.2.2.2.2.2.2.1 x.2.2.2.2.2.2.2 (fun v0 v1 v8 v9 v10 v19 v20 h0 => next (v0, v1, v8, v9, v10, v19, v20, h0)) (fun v0 v1 v8 v9 v10 v19 v20 h0 => ex ((v0, v1, v8, v9, v10, v19, v20, h0)))) x (E8 K)) := by
  unfold L8
  cases V8 st with
  | none => rfl
  | some x => simp only [P.bits_Digits_l8_eq]; rfl
theorem loop8 : LoopOk D (loopAt Try.f39 8) := loopOk_lp (X := (List Int) × Int × Int × Int × Int × Int × Int × (List Int)) (Y := ((List Int) × Int × Int × Int × Int × Int × Int × (List Int))) (fun x => S8 x.1 x.2.1 x.2.2.1 x.2.2.2.1 x.2.2.2.2.1 x.2.2.2.2.2.1 x.2.2.2.2.2.2.1 x.2.2.2.2.2.2.2) V8_ok (stp := (fun (x : (List Int) × Int × Int × Int × Int × Int × Int × (List Int)) (next : ((List Int) × Int × Int × Int × Int × Int × Int × (List Int)) → Option R) (ex : (((List Int) × Int × Int × Int × Int × Int × Int × (List Int))) → Option R) => P.bits_Digits_r8 x.1 x.2.1 x.2.2.1 x.2.2.2.1 x.2.2.2.2.1 x.2.2.2.2.2.1 x.2.2.2.2.2.2.1 x.2.2.2.2.2.2.2 (fun v0 v1 v8 v9 v10 v19 v20 h0 => next (v0, v1, v8, v9, v10, v19, v20, h0)) (fun v0 v1 v8 v9 v10 v19 v20 h0 => ex ((v0, v1, v8, v9, v10, v19, v20, h0))))) (enc := E8) (L := L8) (by kernel_rfl) lq8 round8
def E6 (K : AExit → ASt → Option R) : (((List Int) × Int × Int × Int × Int × Int × (List Int))) → Option R := (fun x => K (.exit 0) (S6 x.1 x.2.1 x.2.2.1 x.2.2.2.1 x.2.2.2.2.1 x.2.2.2.2.2.1 x.2.2.2.2.2.2))
theorem round6 (K : AExit → ASt → Option R) (next : ASt → Option R) (x : (List Int) × Int × Int × Int × Int × Int × (List Int)) : roundA D (loopAt Try.f39 6) K next (S6 x.1 x.2.1 x.2.2.1 x.2.2.2.1 x.2.2.2.2.1 x.2.2.2.2.2.1 x.2.2.2.2.2.2) = (fun (x : (List Int) × Int × Int × Int × Int × Int × (List Int)) (next : ((List Int) × Int × Int × Int × Int × Int × (List Int)) → Option R) (ex : (((List Int) × Int × Int × Int × Int × Int × (List Int))) → Option R) => P.bits_Digits_r6 x.1 x.2.1 x.2.2.1 x.2.2.2.1 x.2.2.2.2.1 x.2.2.2.2.2.1 x.2.2.2.2.2.2 (fun v0 v1 v8 v9 v19 v20 h0 => next (v0, v1, v8, v9, v19, v20, h0)) (fun v0 v1 v8 v9 v19 v20 h0 => ex ((v0, v1, v8, v9, v19, v20, h0)))) x (fun x => next (S6 x.1 x.2.1 x.2.2.1 x.2.2.2.1 x.2.2.2.2.1 x.2.2.2.2.2.1 x.2.2.2.2.2.2)) (E6 K) := by kernel_rfl
theorem lq6 (st : ASt) (K : AExit → ASt → Option R) : L6 st K = vMap (V6 st) (fun x => lp (fun (x : (List Int) × Int × Int × Int × Int × Int × (List Int)) (next : ((List Int) × Int × Int × Int × Int × Int × (List Int)) → Option R) (ex : (((List Int) × Int × Int × Int × Int × Int × (List Int))) → Option R) => P.bits_Digits_r6 x.1 x.2.1 x.2.2.1 x.2.2.2.1 x.2.2.2.2.1 x.2.2.2.2.2.1 x.2.2.2.2.2.2 (fun v0 v1 v8 v9 v19 v20 h0 => next (v0, v1, v8, v9, v19, v20, h0)) (fun v0 v1 v8 v9 v19 v20 h0 => ex ((v0, v1, v8, v9, v19, v20, h0)))) x (E6 K)) := by
  unfold L6
  cases V6 st with
  | none => rfl
  | some x => simp only [P.bits_Digits_l6_eq]; rfl
theorem loop6 : LoopOk D (loopAt Try.f39 6) := loopOk_lp (X := (List Int) × Int × Int × Int × Int × Int × (List Int)) (Y := ((List Int) × Int × Int × Int × Int × Int × (List Int))) (fun x => S6 x.1 x.2.1 x.2.2.1 x.2.2.2.1 x.2.2.2.2.1 x.2.2.2.2.2.1 x.2.2.2.2.2.2) V6_ok (stp := (fun (x : (List Int) × Int × Int × Int × Int × Int × (List Int)) (next : ((List Int) × Int × Int × Int × Int × Int × (List Int)) → Option R) (ex : (((List Int) × Int × Int × Int × Int × Int × (List Int))) → Option R) => P.bits_Digits_r6 x.1 x.2.1 x.2.2.1 x.2.2.2.1 x.2.2.2.2.1 x.2.2.2.2.2.1 x.2.2.2.2.2.2 (fun v0 v1 v8 v9 v19 v20 h0 => next (v0, v1, v8, v9, v19, v20, h0)) (fun v0 v1 v8 v9 v19 v20 h0 => ex ((v0, v1, v8, v9, v19, v20, h0))))) (enc := E6) (L := L6) (by kernel_rfl) lq6 round6
theorem body (a0 : List Int) (a1 : Int) (a2 : Int) (K : AVal → Option R) : bodyA D Try.f39 [.fr 62 (.ints .u32 [])] [.sl (.ints .u8 a0), .v (.int .i64 a1), .v (.int .i64 a2)] K = P.bits_Digits a0 a1 a2 (fun r0 => K (.fr 62 (.ints .u32 r0))) := by
  rw [P.bits_Digits_eq]
  kernel_rfl
theorem loops : loopsOf (Try.f39.body.getD .skip) = [loopAt Try.f39 6, loopAt Try.f39 8] := by kernel_rfl
noncomputable def spec0 : Abs.Spec := fun args K => match args with
  | [.sl (.ints .u8 a0), .v (.int .i64 a1), .v (.int .i64 a2)] => P.bits_Digits a0 a1 a2 (fun r0 => K (.fr 62 (.ints .u32 r0)))
  | _ => none
noncomputable def spec : Abs.Spec := fun args K => spec0 (coerL [.sl (.ints .u8 []), .any, .any] args) K
theorem ok0 : Proved Try.prog [] 39 spec0 := by
  refine proved_of (D := D) (fn := Try.f39) (c := Try.f39.body.getD .skip) [.fr 62 (.ints .u32 [])] (by kernel_rfl) (globsPlain_of (by kernel_rfl)) (by kernel_rfl) (by kernel_rfl) (by kernel_rfl) ⟨bits_such.ok, trivial⟩ trivial ?_ ?_
  · rw [loops]; exact ⟨loop6, loop8, trivial⟩
  · intro args K r h
    unfold spec0 at h
    split at h
    · rw [body]; exact h
    · cases h
theorem ok : Proved Try.prog [] 39 spec := proved_coer _ ok0
end bits_Digits
end

section
open Go Go.Abs Go.Proofs
set_option maxRecDepth 100000
set_option linter.unusedVariables false
namespace bits_Pack
def S6 (v1 : Int) (v6 : Int) (v7 : Int) (v23 : List Int) (v24 : Int) (v25 : Int) (h1 : List Int) : ASt := ⟨[(5, .own 1), (1, .v (.int .i64 v1)), (6, .v (.int .u64 v6)), (7, .v (.int .i64 v7)), (23, .sl (.ints .u32 v23)), (24, .v (.int .i64 v24)), (25, .v (.int .i64 v25))], [(1, some ⟨.row 5 (.ints .u8 h1), false⟩), (0, none)], 2, 62⟩
def V6 : ASt → Option (Int × Int × Int × (List Int) × Int × Int × (List Int))
  | ⟨[(5, .own 1), (1, .v (.int .i64 v1)), (6, .v (.int .u64 v6)), (7, .v (.int .i64 v7)), (23, .sl (.ints .u32 v23)), (24, .v (.int .i64 v24)), (25, .v (.int .i64 v25))], [(1, some ⟨.row 5 (.ints .u8 h1), false⟩), (0, none)], 2, 62⟩ => some (v1, v6, v7, v23, v24, v25, h1)
  | _ => none
theorem V6_ok (st : ASt) (x : Int × Int × Int × (List Int) × Int × Int × (List Int)) (h : V6 st = some x) : st = S6 x.1 x.2.1 x.2.2.1 x.2.2.2.1 x.2.2.2.2.1 x.2.2.2.2.2.1 x.2.2.2.2.2.2 := by
  unfold V6 at h
  split at h
  · cases h; rfl
  · cases h
def S10 (v1 : Int) (v6 : Int) (v7 : Int) (v23 : List Int) (v24 : Int) (v25 : Int) (h2 : List Int) : ASt := ⟨[(5, .own 2), (1, .v (.int .i64 v1)), (6, .v (.int .u64 v6)), (7, .v (.int .i64 v7)), (23, .sl (.ints .u32 v23)), (24, .v (.int .i64 v24)), (25, .v (.int .i64 v25))], [(2, some ⟨.row 5 (.ints .u8 h2), false⟩), (0, none), (1, none)], 3, 62⟩
def V10 : ASt → Option (Int × Int × Int × (List Int) × Int × Int × (List Int))
  | ⟨[(5, .own 2), (1, .v (.int .i64 v1)), (6, .v (.int .u64 v6)), (7, .v (.int .i64 v7)), (23, .sl (.ints .u32 v23)), (24, .v (.int .i64 v24)), (25, .v (.int .i64 v25))], [(2, some ⟨.row 5 (.ints .u8 h2), false⟩), (0, none), (1, none)], 3, 62⟩ => some (v1, v6, v7, v23, v24, v25, h2)
  | _ => none
theorem V10_ok (st : ASt) (x : Int × Int × Int × (List Int) × Int × Int × (List Int)) (h : V10 st = some x) : st = S10 x.1 x.2.1 x.2.2.1 x.2.2.2.1 x.2.2.2.2.1 x.2.2.2.2.2.1 x.2.2.2.2.2.2 := by
  unfold V10 at h
  split at h
  · cases h; rfl
  · cases h
noncomputable def L10 : LSpec := fun st K => match V10 st with
  | some x => P.bits_Pack_l10 x.1 x.2.1 x.2.2.1 x.2.2.2.1 x.2.2.2.2.1 x.2.2.2.2.2.1 x.2.2.2.2.2.2 (fun v1 v6 v7 v23 v24 v25 h2 => K (.exit 2) (S10 v1 v6 v7 v23 v24 v25 h2))
  | none => none
noncomputable def L6 : LSpec := fun st K => match V6 st with
  | some x => P.bits_Pack_l6 x.1 x.2.1 x.2.2.1 x.2.2.2.1 x.2.2.2.2.1 x.2.2.2.2.2.1 x.2.2.2.2.2.2 (fun v1 v6 v7 v23 v24 v25 h1 => K (.exit 0) (S6 v1 v6 v7 v23 v24 v25 h1))
  | none => none
noncomputable def D : Ctx := ({ P := Try.prog, G := [], globs := [], hints := [(10, ⟨[1, 6, 7, 23, 24, 25], [(5, 5, .ints .u8 [])], [4], []⟩), (6, ⟨[1, 6, 7, 23, 24, 25], [(5, 5, .ints .u8 [])], [4], []⟩)], loops := [(10, L10), (6, L6)], inl := [] } : Ctx)
def E10 (K : AExit → ASt → Option R) : ((Int × Int × Int × (List Int) × Int × Int × (List Int))) → Option R := (fun x => K (.exit 2) (S10 x.1 x.2.1 x.2.2.1 x.2.2.2.1 x.2.2.2.2.1 x.2.2.2.2.2.1 x.2.2.2.2.2.2))
theorem round10 (K : AExit → ASt → Option R) (next : ASt → Option R) (x : Int × Int × Int × (List Int) × Int × Int × (List Int)) : roundA D (loopAt Try.f41 10) K next (S10 x.1 x.2.1 x.2.2.1 x.2.2.2.1 x.2.2.2.2.1 x.2.2.2.2.2.1 x.2.2.2.2.2.2) = (fun (x : Int × Int × Int × (List Int) × Int × Int × (List Int)) (next : (Int × Int × Int × (List Int) × Int × Int × (List Int)) → Option R) (ex : ((Int × Int × Int × (List Int) × Int × Int × (List Int))) → Option R) => P.bits_Pack_r10 x.1 x.2.1 x.2.2.1 x.2.2.2.1 x.2.2.2.2.1 x.2.2.2.2.2.1 x.2.2.2.2.2.2 (fun v1 v6 v7 v23 v24 v25 h2 => next (v1, v6, v7, v23, v24, v25, h2)) (fun v1 v6 v7 v23 v24 v25 h2 => ex ((v1, v6, v7, v23, v24, v25, h2)))) x (fun x => next (S10 x.1 x.2.1 x.2.2.1 x.2.2.2.1 x.2.2.2.2.1 x.2.2.2.2.2.1 x.2.2.2.2.2.2)) (E10 K) := by kernel_rfl
theorem lq10 (st : ASt) (K : AExit → ASt → Option R) : L10 st K = vMap (V10 st) (fun x => lp (fun (x : Int × Int × Int × (List Int) × Int × Int × (List Int)) (next : (Int × Int × Int × (List Int) × Int × Int × (List Int)) → Option R) (ex : ((Int × Int × Int × (List Int) × Int × Int × (List Int))) → Option R) => P.bits_Pack_r10 x.1 x.2.1 x.2.2.1 x.2.2.2.1 x.2.2.2.2.1 x.2.2.2.2.2.1 x.2.2.2.2.2.2 (fun v1 v6 v7 v23 v24 v25 h2 => next (v1, v6, v7, v23, v24, v25, h2)) (fun v1 v6 v7 v23 v24 v25 h2 => ex ((v1, v6, v7, v23, v24, v25, h2)))) x (E10 K)) := by
  unfold L10
  cases V10 st with
  | none => rfl
  | some x => simp only [P.bits_Pack_l10_eq]; rfl
theorem loop10 : LoopOk D (loopAt Try.f41 10) := loopOk_lp (X := Int × Int × Int × (List Int) × Int × Int × (List Int)) (Y := (Int × Int × Int × (List Int) × Int × Int × (List Int))) (fun x => S10 x.1 x.2.1 x.2.2.1 x.2.2.2.1 x.2.2.2.2.1 x.2.2.2.2.2.1 x.2.2.2.2.2.2) V10_ok (stp := (fun (x : Int × Int × Int × (List Int) × Int × Int × (List Int)) (next : (Int × Int × Int × (List Int) × Int × Int × (List Int)) → Option R) (ex : ((Int × Int × Int × (List Int) × Int × Int × (List Int))) → Option R) => P.bits_Pack_r10 x.1 x.2.1 x.2.2.1 x.2.2.2.1 x.2.2.2.2.1 x.2.2.2.2.2.1 x.2.2.2.2.2.2 (fun v1 v6 v7 v23 v24 v25 h2 => next (v1, v6, v7, v23, v24, v25, h2)) (fun v1 v6 v7 v23 v24 v25 h2 => ex ((v1, v6, v7, v23, v24, v25, h2))))) (enc := E10) (L := L10) (by kernel_rfl) lq10 round10
def E6 (K : AExit → ASt → Option R) : ((Int × Int × Int × (List Int) × Int × Int × (List Int))) → Option R := (fun x => K (.exit 0) (S6 x.1 x.2.1 x.2.2.1 x.2.2.2.1 x.2.2.2.2.1 x.2.2.2.2.2.1 x.2.2.2.2.2.2))
theorem round6 (K : AExit → ASt → Option R) (next : ASt → Option R) (x : Int × Int × Int × (List Int) × Int × Int × (List Int)) : roundA D (loopAt Try.f41 6) K next (S6 x.1 x.2.1 x.2.2.1 x.2.2.2.1 x.2.2.2.2.1 x.2.2.2.2.2.1 x.2.2.2.2.2.2) = (fun (x : Int × Int × Int × (List Int) × Int × Int × (List Int)) (next : (Int × Int × Int × (List Int) × Int × Int × (List Int)) → Option R) (ex : ((Int × Int × Int × (List Int) × Int × Int × (List Int))) → Option R) => P.bits_Pack_r6 x.1 x.2.1 x.2.2.1 x.2.2.2.1 x.2.2.2.2.1 x.2.2.2.2.2.1 x.2.2.2.2.2.2 (fun v1 v6 v7 v23 v24 v25 h1 => next (v1, v6, v7, v23, v24, v25, h1)) (fun v1 v6 v7 v23 v24 v25 h1 => ex ((v1, v6, v7, v23, v24, v25, h1)))) x (fun x => next (S6 x.1 x.2.1 x.2.2.1 x.2.2.2.1 x.2.2.2.2.1 x.2.2.2.2.2.1 x.2.2.2.2.2.2)) (E6 K) := by kernel_rfl
theorem lq6 (st : ASt) (K : AExit → ASt → Option R) : L6 st K = vMap (V6 st) (fun x => lp (fun (x : Int × Int × Int × (List Int) × Int × Int × (List Int)) (next : (Int × Int × Int × (List Int) × Int × Int × (List Int)) → Option R) (ex : ((Int × Int × Int × (List Int) × Int × Int × (List Int))) → Option R) => P.bits_Pack_r6 x.1 x.2.1 x.2.2.1 x.2.2.2.1 x.2.2.2.2.1 x.2.2.2.2.2.1 x.2.2.2.2.2.2 (fun v1 v6 v7 v23 v24 v25 h1 => next (v1, v6, v7, v23, v24, v25, h1)) (fun v1 v6 v7 v23 v24 v25 h1 => ex ((v1, v6, v7, v23, v24, v25, h1)))) x (E6 K)) := by
  unfold L6
  cases V6 st with
  | none => rfl
  | some x => simp only [P.bits_Pack_l6_eq]; rfl
theorem loop6 : LoopOk D (loopAt Try.f41 6) := loopOk_lp (X := Int × Int × Int × (List Int) × Int × Int × (List Int)) (Y := (Int × Int × Int × (List Int) × Int × Int × (List Int))) (fun x => S6 x.1 x.2.1 x.2.2.1 x.2.2.2.1 x.2.2.2.2.1 x.2.2.2.2.2.1 x.2.2.2.2.2.2) V6_ok (stp := (fun (x : Int × Int × Int × (List Int) × Int × Int × (List Int)) (next : (Int × Int × Int × (List Int) × Int × Int × (List Int)) → Option R) (ex : ((Int × Int × Int × (List Int) × Int × Int × (List Int))) → Option R) => P.bits_Pack_r6 x.1 x.2.1 x.2.2.1 x.2.2.2.1 x.2.2.2.2.1 x.2.2.2.2.2.1 x.2.2.2.2.2.2 (fun v1 v6 v7 v23 v24 v25 h1 => next (v1, v6, v7, v23, v24, v25, h1)) (fun v1 v6 v7 v23 v24 v25 h1 => ex ((v1, v6, v7, v23, v24, v25, h1))))) (enc := E6) (L := L6) (by kernel_rfl) lq6 round6
theorem body (a0 : List Int) (a1 : Int) (K : AVal → Option R) : bodyA D Try.f41 [.fr 5 (.ints .u8 [])] [.sl (.ints .u32 a0), .v (.int .i64 a1)] K = P.bits_Pack a0 a1 (fun r0 => K (.fr 5 (.ints .u8 r0))) := by
  rw [P.bits_Pack_eq]
  kernel_rfl
theorem loops : loopsOf (Try.f41.body.getD .skip) = [loopAt Try.f41 6, loopAt Try.f41 10] := by kernel_rfl
noncomputable def spec0 : Abs.Spec := fun args K => match args with
  | [.sl (.ints .u32 a0), .v (.int .i64 a1)] => P.bits_Pack a0 a1 (fun r0 => K (.fr 5 (.ints .u8 r0)))
  | _ => none
noncomputable def spec : Abs.Spec := fun args K => spec0 (coerL [.sl (.ints .u32 []), .any] args) K
theorem ok0 : Proved Try.prog [] 41 spec0 := by
  refine proved_of (D := D) (fn := Try.f41) (c := Try.f41.body.getD .skip) [.fr 5 (.ints .u8 [])] (by kernel_rfl) (globsPlain_of (by kernel_rfl)) (by kernel_rfl) (by kernel_rfl) (by kernel_rfl) trivial trivial ?_ ?_
  · rw [loops]; exact ⟨loop6, loop10, trivial⟩
  · intro args K r h
    unfold spec0 at h
    split at h
    · rw [body]; exact h
    · cases h
theorem ok : Proved Try.prog [] 41 spec := proved_coer _ ok0
end bits_Pack
end

section
open Go Go.Abs Go.Proofs
set_option maxRecDepth 100000
set_option linter.unusedVariables false
namespace L01_awake
noncomputable def D : Ctx := ({ P := Try.prog, G := [(19, R01_Same.spec), (30, bits_Be.spec), (32, bits_Le.spec), (39, bits_Digits.spec), (41, bits_Pack.spec)], globs := [], hints := [], loops := [], inl := [] } : Ctx)
theorem body  (K : AVal → Option R) : bodyA D Try.f29 [.any] [] K = P.L01_awake (fun r0 => K (.v (.bool r0))) := by
  rw [P.L01_awake_eq]
  kernel_rfl
theorem loops : loopsOf (Try.f29.body.getD .skip) = [] := by kernel_rfl
noncomputable def spec0 : Abs.Spec := fun args K => match args with
  | [] => P.L01_awake (fun r0 => K (.v (.bool r0)))
  | _ => none
noncomputable def spec : Abs.Spec := spec0
theorem ok0 : Proved Try.prog [] 29 spec0 := by
  refine proved_of (D := D) (fn := Try.f29) (c := Try.f29.body.getD .skip) [.any] (by kernel_rfl) (globsPlain_of (by kernel_rfl)) (by kernel_rfl) (by kernel_rfl) (by kernel_rfl) ⟨R01_Same.ok, bits_Be.ok, bits_Le.ok, bits_Digits.ok, bits_Pack.ok, trivial⟩ trivial ?_ ?_
  · rw [loops]; exact trivial
  · intro args K r h
    unfold spec0 at h
    split at h
    · rw [body]; exact h
    · cases h
theorem ok : Proved Try.prog [] 29 spec := ok0
end L01_awake
end
