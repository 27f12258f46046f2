/-
  WotsCheck, part G: an interpreter of my own over abstract values, the pure functions, the walks and the plain law.
-/

import Derived.Test.YtknjpkgnideplaaWotsCheckF
import Derived.Test.YtknjpkgnideplaaProg
import Derived.KernelRfl

section
open Go Go.Abs
set_option linter.unusedVariables false
namespace P
noncomputable def bits_such_raw {ρ : Type} (a0 : List Int) (a1 : Int) (a2 : Int) (k : Bool → Option ρ) : Option ρ :=
  br (decide (a1 ≥ (1 : Int)))
    (br (decide (a1 ≤ (24 : Int)))
      (br (decide (a2 ≥ (0 : Int)))
        (br (decide (a1 = (0 : Int))) none
          (k (decide (a2 ≤ IntKind.i64.wrap ((IntKind.i64.wrap ((↑a0.length : Int) * (8 : Int))).tdiv a1)))))
        (k false))
      (k false))
    (k false)
noncomputable def bits_such {ρ : Type} (a0 : List Int) (a1 : Int) (a2 : Int) (k : Bool → Option ρ) : Option ρ := shut (bits_such_raw (ρ := ρ)) a0 a1 a2 k
theorem bits_such_eq {ρ : Type} (a0 : List Int) (a1 : Int) (a2 : Int) (k : Bool → Option ρ) : bits_such a0 a1 a2 k = bits_such_raw a0 a1 a2 k := by unfold bits_such; rw [shut_eq]

end P
end

section
open Go Go.Abs
set_option linter.unusedVariables false
namespace P
noncomputable def bits_Digits_r8 {ρ : Type} (v0 : List Int) (v1 : Int) (v8 : Int) (v9 : Int) (v10 : Int) (v19 : Int) (v20 : Int) (h0 : List Int) (nx : (List Int) → Int → Int → Int → Int → Int → Int → (List Int) → Option ρ) (k0 : (List Int) → Int → Int → Int → Int → Int → Int → (List Int) → Option ρ) : Option ρ :=
  br (decide (v9 < v1))
    (br (decide ((0 : Int) < (↑v0.length : Int)))
      (br (decide ((1 : Int) ≤ (↑v0.length : Int)))
        (br (decide ((↑v0.length : Int) ≤ (↑v0.length : Int)))
          (nx (List.drop 1 (List.take (↑v0.length : Int).toNat v0)) v1
            (bits BinOp.or IntKind.u64 (IntKind.u64.wrap (v8 * (2 : Int) ^ 8))
              (IntKind.u64.wrap (v0.getD 0 (0 : Int))))
            (IntKind.i64.wrap (v9 + (8 : Int))) v10 v19 v20 h0)
          none)
        none)
      none)
    (k0 v0 v1 v8 v9 v10 v19 v20 h0)
noncomputable def bits_Digits_L8 {ρ : Type} (v0 : List Int) (v1 : Int) (v8 : Int) (v9 : Int) (v10 : Int) (v19 : Int) (v20 : Int) (h0 : List Int) (k0 : (List Int) → Int → Int → Int → Int → Int → Int → (List Int) → Option ρ) : Option ρ :=
  lp (fun (x : (List Int) × Int × Int × Int × Int × Int × Int × (List Int)) (next : ((List Int) × Int × Int × Int × Int × Int × Int × (List Int)) → Option ρ) (ex : (((List Int) × Int × Int × Int × Int × Int × Int × (List Int))) → Option ρ) => bits_Digits_r8 x.1 x.2.1 x.2.2.1 x.2.2.2.1 x.2.2.2.2.1 x.2.2.2.2.2.1 x.2.2.2.2.2.2.1 x.2.2.2.2.2.2.2 (fun v0 v1 v8 v9 v10 v19 v20 h0 => next (v0, v1, v8, v9, v10, v19, v20, h0)) (fun v0 v1 v8 v9 v10 v19 v20 h0 => ex ((v0, v1, v8, v9, v10, v19, v20, h0)))) (v0, v1, v8, v9, v10, v19, v20, h0) (fun x => k0 x.1 x.2.1 x.2.2.1 x.2.2.2.1 x.2.2.2.2.1 x.2.2.2.2.2.1 x.2.2.2.2.2.2.1 x.2.2.2.2.2.2.2)
noncomputable def bits_Digits_l8 {ρ : Type} (v0 : List Int) (v1 : Int) (v8 : Int) (v9 : Int) (v10 : Int) (v19 : Int) (v20 : Int) (h0 : List Int) (k0 : (List Int) → Int → Int → Int → Int → Int → Int → (List Int) → Option ρ) : Option ρ := shut (bits_Digits_L8 (ρ := ρ)) v0 v1 v8 v9 v10 v19 v20 h0 k0
theorem bits_Digits_l8_eq {ρ : Type} (v0 : List Int) (v1 : Int) (v8 : Int) (v9 : Int) (v10 : Int) (v19 : Int) (v20 : Int) (h0 : List Int) (k0 : (List Int) → Int → Int → Int → Int → Int → Int → (List Int) → Option ρ) : bits_Digits_l8 v0 v1 v8 v9 v10 v19 v20 h0 k0 = bits_Digits_L8 v0 v1 v8 v9 v10 v19 v20 h0 k0 := by unfold bits_Digits_l8; rw [shut_eq]
noncomputable def bits_Digits_r6 {ρ : Type} (v0 : List Int) (v1 : Int) (v8 : Int) (v9 : Int) (v19 : Int) (v20 : Int) (h0 : List Int) (nx : (List Int) → Int → Int → Int → Int → Int → (List Int) → Option ρ) (k0 : (List Int) → Int → Int → Int → Int → Int → (List Int) → Option ρ) : Option ρ :=
  br (decide (v20 < v19))
    (bits_Digits_l8 v0 v1 v8 v9 v20 v19 v20 h0 fun (q0 : List Int) (q1 q2 q3 q4 q5 q6 : Int) (q7 : List Int) =>
      br (decide (IntKind.i64.wrap (q3 - q1) < (0 : Int))) none
        (br (decide (q1 < (0 : Int))) none
          (br (decide ((0 : Int) ≤ q4))
            (br (decide (q4 < (↑q7.length : Int)))
              (nx q0 q1 q2 (IntKind.i64.wrap (q3 - q1)) q5 (IntKind.i64.wrap (q6 + (1 : Int)))
                (q7.set q4.toNat
                  (IntKind.u32.wrap
                    (bits BinOp.and IntKind.u64
                      (q2.fdiv ((2 : Int) ^ min (IntKind.i64.wrap (q3 - q1)).toNat 64))
                      (IntKind.u64.wrap
                        (IntKind.u64.wrap ((1 : Int) * (2 : Int) ^ min q1.toNat 64) - (1 : Int)))))))
              none)
            none)))
    (k0 v0 v1 v8 v9 v19 v20 h0)
noncomputable def bits_Digits_L6 {ρ : Type} (v0 : List Int) (v1 : Int) (v8 : Int) (v9 : Int) (v19 : Int) (v20 : Int) (h0 : List Int) (k0 : (List Int) → Int → Int → Int → Int → Int → (List Int) → Option ρ) : Option ρ :=
  lp (fun (x : (List Int) × Int × Int × Int × Int × Int × (List Int)) (next : ((List Int) × Int × Int × Int × Int × Int × (List Int)) → Option ρ) (ex : (((List Int) × Int × Int × Int × Int × Int × (List Int))) → Option ρ) => bits_Digits_r6 x.1 x.2.1 x.2.2.1 x.2.2.2.1 x.2.2.2.2.1 x.2.2.2.2.2.1 x.2.2.2.2.2.2 (fun v0 v1 v8 v9 v19 v20 h0 => next (v0, v1, v8, v9, v19, v20, h0)) (fun v0 v1 v8 v9 v19 v20 h0 => ex ((v0, v1, v8, v9, v19, v20, h0)))) (v0, v1, v8, v9, v19, v20, h0) (fun x => k0 x.1 x.2.1 x.2.2.1 x.2.2.2.1 x.2.2.2.2.1 x.2.2.2.2.2.1 x.2.2.2.2.2.2)
noncomputable def bits_Digits_l6 {ρ : Type} (v0 : List Int) (v1 : Int) (v8 : Int) (v9 : Int) (v19 : Int) (v20 : Int) (h0 : List Int) (k0 : (List Int) → Int → Int → Int → Int → Int → (List Int) → Option ρ) : Option ρ := shut (bits_Digits_L6 (ρ := ρ)) v0 v1 v8 v9 v19 v20 h0 k0
theorem bits_Digits_l6_eq {ρ : Type} (v0 : List Int) (v1 : Int) (v8 : Int) (v9 : Int) (v19 : Int) (v20 : Int) (h0 : List Int) (k0 : (List Int) → Int → Int → Int → Int → Int → (List Int) → Option ρ) : bits_Digits_l6 v0 v1 v8 v9 v19 v20 h0 k0 = bits_Digits_L6 v0 v1 v8 v9 v19 v20 h0 k0 := by unfold bits_Digits_l6; rw [shut_eq]
noncomputable def bits_Digits_raw {ρ : Type} (a0 : List Int) (a1 : Int) (a2 : Int) (k : (List Int) → Option ρ) : Option ρ :=
  bits_such a0 a1 a2 fun (q0 : Bool) =>
    br (!q0) (k [])
      (br (decide ((0 : Int) ≤ a2))
        (br (decide (a2 ≤ a2))
          (br (decide (a2 * (↑4 : Int) ≤ (↑140737488355328 : Int)))
            (bits_Digits_l6 a0 a1 (0 : Int) (0 : Int) (↑(List.replicate a2.toNat (0 : Int)).length : Int) (0 : Int)
              (List.replicate a2.toNat (0 : Int)) fun (q1 : List Int) (q2 q3 q4 q5 q6 : Int) (q7 : List Int) => k q7)
            none)
          none)
        none)
noncomputable def bits_Digits {ρ : Type} (a0 : List Int) (a1 : Int) (a2 : Int) (k : (List Int) → Option ρ) : Option ρ := shut (bits_Digits_raw (ρ := ρ)) a0 a1 a2 k
theorem bits_Digits_eq {ρ : Type} (a0 : List Int) (a1 : Int) (a2 : Int) (k : (List Int) → Option ρ) : bits_Digits a0 a1 a2 k = bits_Digits_raw a0 a1 a2 k := by unfold bits_Digits; rw [shut_eq]

end P
end

section
open Go Go.Abs
set_option linter.unusedVariables false
namespace P
noncomputable def wots_Digits_r6 {ρ : Type} (v6 : Int) (v34 : Int) (v35 : Int) (h0 : List Int) (nx : Int → Int → Int → (List Int) → Option ρ) (k0 : Int → Int → Int → (List Int) → Option ρ) : Option ρ :=
  br (decide (v35 < v34))
    (br (decide ((0 : Int) ≤ v35))
      (br (decide (v35 < (↑h0.length : Int)))
        (nx (IntKind.u32.wrap (v6 - h0.getD v35.toNat (0 : Int))) v34 (IntKind.i64.wrap (v35 + (1 : Int))) h0) none)
      none)
    (k0 v6 v34 v35 h0)
noncomputable def wots_Digits_L6 {ρ : Type} (v6 : Int) (v34 : Int) (v35 : Int) (h0 : List Int) (k0 : Int → Int → Int → (List Int) → Option ρ) : Option ρ :=
  lp (fun (x : Int × Int × Int × (List Int)) (next : (Int × Int × Int × (List Int)) → Option ρ) (ex : ((Int × Int × Int × (List Int))) → Option ρ) => wots_Digits_r6 x.1 x.2.1 x.2.2.1 x.2.2.2 (fun v6 v34 v35 h0 => next (v6, v34, v35, h0)) (fun v6 v34 v35 h0 => ex ((v6, v34, v35, h0)))) (v6, v34, v35, h0) (fun x => k0 x.1 x.2.1 x.2.2.1 x.2.2.2)
noncomputable def wots_Digits_l6 {ρ : Type} (v6 : Int) (v34 : Int) (v35 : Int) (h0 : List Int) (k0 : Int → Int → Int → (List Int) → Option ρ) : Option ρ := shut (wots_Digits_L6 (ρ := ρ)) v6 v34 v35 h0 k0
theorem wots_Digits_l6_eq {ρ : Type} (v6 : Int) (v34 : Int) (v35 : Int) (h0 : List Int) (k0 : Int → Int → Int → (List Int) → Option ρ) : wots_Digits_l6 v6 v34 v35 h0 k0 = wots_Digits_L6 v6 v34 v35 h0 k0 := by unfold wots_Digits_l6; rw [shut_eq]
noncomputable def wots_Digits_raw {ρ : Type} (a0 : Int) (a1 : List Int) (k : (List Int) → Option ρ) : Option ρ :=
  br (a0 != (16 : Int))
    (br (a0 != (24 : Int))
      (br (a0 != (32 : Int)) (k [])
        (br ((↑a1.length : Int) != a0) (k [])
          (bits_Digits a1 (4 : Int) (IntKind.i64.wrap ((2 : Int) * a0)) fun (q0 : List Int) =>
            wots_Digits_l6 (IntKind.u32.wrap (IntKind.i64.wrap ((15 : Int) * (↑q0.length : Int)))) (↑q0.length : Int)
              (0 : Int) q0 fun (q1 q2 q3 : Int) (q4 : List Int) =>
              br
                (decide
                  ((q4.length +
                        ([bits BinOp.and IntKind.u32 (q1.fdiv ((2 : Int) ^ 4)) (15 : Int),
                                  bits BinOp.and IntKind.u32 q1 (15 : Int)].length.add
                            0).succ) *
                      4 ≤
                    140737488355328))
                (k
                  (q4 ++
                    [q1.fdiv ((2 : Int) ^ 8),
                      bits BinOp.and IntKind.u32 (q1.fdiv ((2 : Int) ^ 4)) (15 : Int),
                      bits BinOp.and IntKind.u32 q1 (15 : Int)]))
                none)))
      (br ((↑a1.length : Int) != a0) (k [])
        (bits_Digits a1 (4 : Int) (IntKind.i64.wrap ((2 : Int) * a0)) fun (q5 : List Int) =>
          wots_Digits_l6 (IntKind.u32.wrap (IntKind.i64.wrap ((15 : Int) * (↑q5.length : Int)))) (↑q5.length : Int)
            (0 : Int) q5 fun (q6 q7 q8 : Int) (q9 : List Int) =>
            br
              (decide
                ((q9.length +
                      ([bits BinOp.and IntKind.u32 (q6.fdiv ((2 : Int) ^ 4)) (15 : Int),
                                bits BinOp.and IntKind.u32 q6 (15 : Int)].length.add
                          0).succ) *
                    4 ≤
                  140737488355328))
              (k
                (q9 ++
                  [q6.fdiv ((2 : Int) ^ 8),
                    bits BinOp.and IntKind.u32 (q6.fdiv ((2 : Int) ^ 4)) (15 : Int),
                    bits BinOp.and IntKind.u32 q6 (15 : Int)]))
              none)))
    (br ((↑a1.length : Int) != a0) (k [])
      (bits_Digits a1 (4 : Int) (IntKind.i64.wrap ((2 : Int) * a0)) fun (q10 : List Int) =>
        wots_Digits_l6 (IntKind.u32.wrap (IntKind.i64.wrap ((15 : Int) * (↑q10.length : Int)))) (↑q10.length : Int)
          (0 : Int) q10 fun (q11 q12 q13 : Int) (q14 : List Int) =>
          br
            (decide
              ((q14.length +
                    ([bits BinOp.and IntKind.u32 (q11.fdiv ((2 : Int) ^ 4)) (15 : Int),
                              bits BinOp.and IntKind.u32 q11 (15 : Int)].length.add
                        0).succ) *
                  4 ≤
                140737488355328))
            (k
              (q14 ++
                [q11.fdiv ((2 : Int) ^ 8),
                  bits BinOp.and IntKind.u32 (q11.fdiv ((2 : Int) ^ 4)) (15 : Int),
                  bits BinOp.and IntKind.u32 q11 (15 : Int)]))
            none))
noncomputable def wots_Digits {ρ : Type} (a0 : Int) (a1 : List Int) (k : (List Int) → Option ρ) : Option ρ := shut (wots_Digits_raw (ρ := ρ)) a0 a1 k
theorem wots_Digits_eq {ρ : Type} (a0 : Int) (a1 : List Int) (k : (List Int) → Option ρ) : wots_Digits a0 a1 k = wots_Digits_raw a0 a1 k := by unfold wots_Digits; rw [shut_eq]

end P
end

section
open Go Go.Abs
set_option linter.unusedVariables false
namespace P
noncomputable def R01_Same_r4 {ρ : Type} (v0 : List Int) (v1 : List Int) (v5 : Int) (nx : (List Int) → (List Int) → Int → Option ρ) (k0 : (List Int) → (List Int) → Int → Option ρ) (k1 : Bool → Option ρ) : Option ρ :=
  br (decide (v5 < (↑v0.length : Int)))
    (br (decide ((0 : Int) ≤ v5))
      (br (decide (v5 < (↑v0.length : Int)))
        (br (decide ((0 : Int) ≤ v5))
          (br (decide (v5 < (↑v1.length : Int)))
            (br (v0.getD v5.toNat (0 : Int) != v1.getD v5.toNat (0 : Int)) (k1 false)
              (nx v0 v1 (IntKind.i64.wrap (v5 + (1 : Int)))))
            none)
          none)
        none)
      none)
    (k0 v0 v1 v5)
noncomputable def R01_Same_L4 {ρ : Type} (v0 : List Int) (v1 : List Int) (v5 : Int) (k0 : (List Int) → (List Int) → Int → Option ρ) (k1 : Bool → Option ρ) : Option ρ :=
  lp (fun (x : (List Int) × (List Int) × Int) (next : ((List Int) × (List Int) × Int) → Option ρ) (ex : (((List Int) × (List Int) × Int) ⊕ ((Bool))) → Option ρ) => R01_Same_r4 x.1 x.2.1 x.2.2 (fun v0 v1 v5 => next (v0, v1, v5)) (fun v0 v1 v5 => ex (.inl (v0, v1, v5))) (fun v4 => ex (.inr v4))) (v0, v1, v5) (Sum.elim (fun x => k0 x.1 x.2.1 x.2.2) (fun x => k1 x))
noncomputable def R01_Same_l4 {ρ : Type} (v0 : List Int) (v1 : List Int) (v5 : Int) (k0 : (List Int) → (List Int) → Int → Option ρ) (k1 : Bool → Option ρ) : Option ρ := shut (R01_Same_L4 (ρ := ρ)) v0 v1 v5 k0 k1
theorem R01_Same_l4_eq {ρ : Type} (v0 : List Int) (v1 : List Int) (v5 : Int) (k0 : (List Int) → (List Int) → Int → Option ρ) (k1 : Bool → Option ρ) : R01_Same_l4 v0 v1 v5 k0 k1 = R01_Same_L4 v0 v1 v5 k0 k1 := by unfold R01_Same_l4; rw [shut_eq]
noncomputable def R01_Same_raw {ρ : Type} (a0 : List Int) (a1 : List Int) (k : Bool → Option ρ) : Option ρ :=
  br ((↑a0.length : Int) != (↑a1.length : Int)) (k false)
    (R01_Same_l4 a0 a1 (0 : Int) (fun (q0 q1 : List Int) (q2 : Int) => k true) fun (q3 : Bool) => k q3)
noncomputable def R01_Same {ρ : Type} (a0 : List Int) (a1 : List Int) (k : Bool → Option ρ) : Option ρ := shut (R01_Same_raw (ρ := ρ)) a0 a1 k
theorem R01_Same_eq {ρ : Type} (a0 : List Int) (a1 : List Int) (k : Bool → Option ρ) : R01_Same a0 a1 k = R01_Same_raw a0 a1 k := by unfold R01_Same; rw [shut_eq]

end P
end

section
open Go Go.Abs
set_option linter.unusedVariables false
namespace P
noncomputable def bits_Le_r5 {ρ : Type} (v0 : Int) (v16 : Int) (v17 : Int) (h0 : List Int) (nx : Int → Int → Int → (List Int) → Option ρ) (k0 : Int → Int → Int → (List Int) → Option ρ) : Option ρ :=
  br (decide (v17 < v16))
    (br (decide (IntKind.i64.wrap ((8 : Int) * v17) < (0 : Int))) none
      (br (decide ((0 : Int) ≤ v17))
        (br (decide (v17 < (↑h0.length : Int)))
          (nx v0 v16 (IntKind.i64.wrap (v17 + (1 : Int)))
            (h0.set v17.toNat
              (IntKind.u8.wrap (v0.fdiv ((2 : Int) ^ min (IntKind.i64.wrap ((8 : Int) * v17)).toNat 64)))))
          none)
        none))
    (k0 v0 v16 v17 h0)
noncomputable def bits_Le_L5 {ρ : Type} (v0 : Int) (v16 : Int) (v17 : Int) (h0 : List Int) (k0 : Int → Int → Int → (List Int) → Option ρ) : Option ρ :=
  lp (fun (x : Int × Int × Int × (List Int)) (next : (Int × Int × Int × (List Int)) → Option ρ) (ex : ((Int × Int × Int × (List Int))) → Option ρ) => bits_Le_r5 x.1 x.2.1 x.2.2.1 x.2.2.2 (fun v0 v16 v17 h0 => next (v0, v16, v17, h0)) (fun v0 v16 v17 h0 => ex ((v0, v16, v17, h0)))) (v0, v16, v17, h0) (fun x => k0 x.1 x.2.1 x.2.2.1 x.2.2.2)
noncomputable def bits_Le_l5 {ρ : Type} (v0 : Int) (v16 : Int) (v17 : Int) (h0 : List Int) (k0 : Int → Int → Int → (List Int) → Option ρ) : Option ρ := shut (bits_Le_L5 (ρ := ρ)) v0 v16 v17 h0 k0
theorem bits_Le_l5_eq {ρ : Type} (v0 : Int) (v16 : Int) (v17 : Int) (h0 : List Int) (k0 : Int → Int → Int → (List Int) → Option ρ) : bits_Le_l5 v0 v16 v17 h0 k0 = bits_Le_L5 v0 v16 v17 h0 k0 := by unfold bits_Le_l5; rw [shut_eq]
noncomputable def bits_Le_raw {ρ : Type} (a0 : Int) (a1 : Int) (k : (List Int) → Option ρ) : Option ρ :=
  br (decide (a1 < (0 : Int))) (k [])
    (br (decide (a1 > (65536 : Int))) (k [])
      (br (decide ((0 : Int) ≤ a1))
        (br (decide (a1 ≤ a1))
          (br (decide (a1 * (↑1 : Int) ≤ (↑140737488355328 : Int)))
            (bits_Le_l5 a0 (bif decide ((8 : Int) < a1) then (8 : Int) else a1) (0 : Int)
              (List.replicate a1.toNat (0 : Int)) fun (q0 q1 q2 : Int) (q3 : List Int) => k q3)
            none)
          none)
        none))
noncomputable def bits_Le {ρ : Type} (a0 : Int) (a1 : Int) (k : (List Int) → Option ρ) : Option ρ := shut (bits_Le_raw (ρ := ρ)) a0 a1 k
theorem bits_Le_eq {ρ : Type} (a0 : Int) (a1 : Int) (k : (List Int) → Option ρ) : bits_Le a0 a1 k = bits_Le_raw a0 a1 k := by unfold bits_Le; rw [shut_eq]

end P
end

section
open Go Go.Abs
set_option linter.unusedVariables false
namespace P
noncomputable def bits_Be_r1_1 {ρ : Type} (v2 : Int) (v3 : Int) (h0 : List Int) (nx : Int → Int → (List Int) → Option ρ) (k0 : Int → Int → (List Int) → Option ρ) : Option ρ :=
  br (decide (v2 < v3))
    (br (decide ((0 : Int) ≤ v3))
      (br (decide (v3 < (↑h0.length : Int)))
        (br (decide ((0 : Int) ≤ v2))
          (br (decide (v2 < (↑h0.length : Int)))
            (br (decide ((0 : Int) ≤ v2))
              (br (decide (v2 < (↑h0.length : Int)))
                (br (decide ((0 : Int) ≤ v3))
                  (br (decide (v3 < (↑(h0.set v2.toNat (h0.getD v3.toNat (0 : Int))).length : Int)))
                    (nx (IntKind.i64.wrap (v2 + (1 : Int))) (IntKind.i64.wrap (v3 - (1 : Int)))
                      ((h0.set v2.toNat (h0.getD v3.toNat (0 : Int))).set v3.toNat (h0.getD v2.toNat (0 : Int))))
                    none)
                  none)
                none)
              none)
            none)
          none)
        none)
      none)
    (k0 v2 v3 h0)
noncomputable def bits_Be_L1_1 {ρ : Type} (v2 : Int) (v3 : Int) (h0 : List Int) (k0 : Int → Int → (List Int) → Option ρ) : Option ρ :=
  lp (fun (x : Int × Int × (List Int)) (next : (Int × Int × (List Int)) → Option ρ) (ex : ((Int × Int × (List Int))) → Option ρ) => bits_Be_r1_1 x.1 x.2.1 x.2.2 (fun v2 v3 h0 => next (v2, v3, h0)) (fun v2 v3 h0 => ex ((v2, v3, h0)))) (v2, v3, h0) (fun x => k0 x.1 x.2.1 x.2.2)
noncomputable def bits_Be_l1_1 {ρ : Type} (v2 : Int) (v3 : Int) (h0 : List Int) (k0 : Int → Int → (List Int) → Option ρ) : Option ρ := shut (bits_Be_L1_1 (ρ := ρ)) v2 v3 h0 k0
theorem bits_Be_l1_1_eq {ρ : Type} (v2 : Int) (v3 : Int) (h0 : List Int) (k0 : Int → Int → (List Int) → Option ρ) : bits_Be_l1_1 v2 v3 h0 k0 = bits_Be_L1_1 v2 v3 h0 k0 := by unfold bits_Be_l1_1; rw [shut_eq]
noncomputable def bits_Be_raw {ρ : Type} (a0 : Int) (a1 : Int) (k : (List Int) → Option ρ) : Option ρ :=
  bits_Le a0 a1 fun (q0 : List Int) =>
    bits_Be_l1_1 (0 : Int) (IntKind.i64.wrap ((↑q0.length : Int) - (1 : Int))) q0 fun (q1 q2 : Int) (q3 : List Int) =>
      k q3
noncomputable def bits_Be {ρ : Type} (a0 : Int) (a1 : Int) (k : (List Int) → Option ρ) : Option ρ := shut (bits_Be_raw (ρ := ρ)) a0 a1 k
theorem bits_Be_eq {ρ : Type} (a0 : Int) (a1 : Int) (k : (List Int) → Option ρ) : bits_Be a0 a1 k = bits_Be_raw a0 a1 k := by unfold bits_Be; rw [shut_eq]

end P
end

section
open Go Go.Abs
set_option linter.unusedVariables false
namespace P
noncomputable def slices_Grow_byte_raw {ρ : Type} (a1 : Int) (k : (List Int) → Option ρ) : Option ρ :=
  br (decide (a1 < (0 : Int))) none
    (br (decide (IntKind.i64.wrap (a1 - IntKind.i64.wrap ((0 : Int) - (↑0 : Int))) > (0 : Int)))
      (br (decide ((0 : Int) ≤ IntKind.i64.wrap (a1 - IntKind.i64.wrap ((0 : Int) - (↑0 : Int)))))
        (br
          (decide
            ((IntKind.i64.wrap (a1 - IntKind.i64.wrap ((0 : Int) - (↑0 : Int)))).toNat *
                1 ≤
              140737488355328))
          (k
            (List.take ((↑0 : Int) - (0 : Int)).toNat
              (List.replicate (IntKind.i64.wrap (a1 - IntKind.i64.wrap ((0 : Int) - (↑0 : Int)))).toNat
                (0 : Int))))
          none)
        none)
      (k []))
noncomputable def slices_Grow_byte {ρ : Type} (a1 : Int) (k : (List Int) → Option ρ) : Option ρ := shut (slices_Grow_byte_raw (ρ := ρ)) a1 k
theorem slices_Grow_byte_eq {ρ : Type} (a1 : Int) (k : (List Int) → Option ρ) : slices_Grow_byte a1 k = slices_Grow_byte_raw a1 k := by unfold slices_Grow_byte; rw [shut_eq]

end P
end

section
open Go Go.Abs
set_option linter.unusedVariables false
namespace P
noncomputable def slices_Concat_byte_r3 {ρ : Type} (v0 : List (List Int)) (v3 : Int) (v9 : List (List Int)) (v10 : Int) (v11 : Int) (nx : (List (List Int)) → Int → (List (List Int)) → Int → Int → Option ρ) (k0 : (List (List Int)) → Int → (List (List Int)) → Int → Int → Option ρ) : Option ρ :=
  br (decide (v11 < v10))
    (br (decide ((0 : Int) ≤ v11))
      (br (decide (v11 < (↑v9.length : Int)))
        (br (decide (IntKind.i64.wrap (v3 + (↑(v9.getD v11.toNat []).length : Int)) < (0 : Int))) none
          (nx v0 (IntKind.i64.wrap (v3 + (↑(v9.getD v11.toNat []).length : Int))) v9 v10
            (IntKind.i64.wrap (v11 + (1 : Int)))))
        none)
      none)
    (k0 v0 v3 v9 v10 v11)
noncomputable def slices_Concat_byte_L3 {ρ : Type} (v0 : List (List Int)) (v3 : Int) (v9 : List (List Int)) (v10 : Int) (v11 : Int) (k0 : (List (List Int)) → Int → (List (List Int)) → Int → Int → Option ρ) : Option ρ :=
  lp (fun (x : (List (List Int)) × Int × (List (List Int)) × Int × Int) (next : ((List (List Int)) × Int × (List (List Int)) × Int × Int) → Option ρ) (ex : (((List (List Int)) × Int × (List (List Int)) × Int × Int)) → Option ρ) => slices_Concat_byte_r3 x.1 x.2.1 x.2.2.1 x.2.2.2.1 x.2.2.2.2 (fun v0 v3 v9 v10 v11 => next (v0, v3, v9, v10, v11)) (fun v0 v3 v9 v10 v11 => ex ((v0, v3, v9, v10, v11)))) (v0, v3, v9, v10, v11) (fun x => k0 x.1 x.2.1 x.2.2.1 x.2.2.2.1 x.2.2.2.2)
noncomputable def slices_Concat_byte_l3 {ρ : Type} (v0 : List (List Int)) (v3 : Int) (v9 : List (List Int)) (v10 : Int) (v11 : Int) (k0 : (List (List Int)) → Int → (List (List Int)) → Int → Int → Option ρ) : Option ρ := shut (slices_Concat_byte_L3 (ρ := ρ)) v0 v3 v9 v10 v11 k0
theorem slices_Concat_byte_l3_eq {ρ : Type} (v0 : List (List Int)) (v3 : Int) (v9 : List (List Int)) (v10 : Int) (v11 : Int) (k0 : (List (List Int)) → Int → (List (List Int)) → Int → Int → Option ρ) : slices_Concat_byte_l3 v0 v3 v9 v10 v11 k0 = slices_Concat_byte_L3 v0 v3 v9 v10 v11 k0 := by unfold slices_Concat_byte_l3; rw [shut_eq]
noncomputable def slices_Concat_byte_r11 {ρ : Type} (v25 : List (List Int)) (v26 : Int) (v27 : Int) (h1 : List Int) (nx : (List (List Int)) → Int → Int → (List Int) → Option ρ) (k0 : (List (List Int)) → Int → Int → (List Int) → Option ρ) : Option ρ :=
  br (decide (v27 < v26))
    (br (decide ((0 : Int) ≤ v27))
      (br (decide (v27 < (↑v25.length : Int)))
        (br
          (decide
            ((h1.length + (v25.getD v27.toNat []).length) *
                1 ≤
              140737488355328))
          (nx v25 v26 (IntKind.i64.wrap (v27 + (1 : Int))) (h1 ++ v25.getD v27.toNat [])) none)
        none)
      none)
    (k0 v25 v26 v27 h1)
noncomputable def slices_Concat_byte_L11 {ρ : Type} (v25 : List (List Int)) (v26 : Int) (v27 : Int) (h1 : List Int) (k0 : (List (List Int)) → Int → Int → (List Int) → Option ρ) : Option ρ :=
  lp (fun (x : (List (List Int)) × Int × Int × (List Int)) (next : ((List (List Int)) × Int × Int × (List Int)) → Option ρ) (ex : (((List (List Int)) × Int × Int × (List Int))) → Option ρ) => slices_Concat_byte_r11 x.1 x.2.1 x.2.2.1 x.2.2.2 (fun v25 v26 v27 h1 => next (v25, v26, v27, h1)) (fun v25 v26 v27 h1 => ex ((v25, v26, v27, h1)))) (v25, v26, v27, h1) (fun x => k0 x.1 x.2.1 x.2.2.1 x.2.2.2)
noncomputable def slices_Concat_byte_l11 {ρ : Type} (v25 : List (List Int)) (v26 : Int) (v27 : Int) (h1 : List Int) (k0 : (List (List Int)) → Int → Int → (List Int) → Option ρ) : Option ρ := shut (slices_Concat_byte_L11 (ρ := ρ)) v25 v26 v27 h1 k0
theorem slices_Concat_byte_l11_eq {ρ : Type} (v25 : List (List Int)) (v26 : Int) (v27 : Int) (h1 : List Int) (k0 : (List (List Int)) → Int → Int → (List Int) → Option ρ) : slices_Concat_byte_l11 v25 v26 v27 h1 k0 = slices_Concat_byte_L11 v25 v26 v27 h1 k0 := by unfold slices_Concat_byte_l11; rw [shut_eq]
noncomputable def slices_Concat_byte_raw {ρ : Type} (a0 : List (List Int)) (k : (List Int) → Option ρ) : Option ρ :=
  slices_Concat_byte_l3 a0 (0 : Int) a0 (↑a0.length : Int) (0 : Int)
    fun (q0 : List (List Int)) (q1 : Int) (q2 : List (List Int)) (q3 q4 : Int) =>
    slices_Grow_byte q1 fun (q5 : List Int) =>
      slices_Concat_byte_l11 q0 (↑q0.length : Int) (0 : Int) q5
        fun (q6 : List (List Int)) (q7 q8 : Int) (q9 : List Int) => k q9
noncomputable def slices_Concat_byte {ρ : Type} (a0 : List (List Int)) (k : (List Int) → Option ρ) : Option ρ := shut (slices_Concat_byte_raw (ρ := ρ)) a0 k
theorem slices_Concat_byte_eq {ρ : Type} (a0 : List (List Int)) (k : (List Int) → Option ρ) : slices_Concat_byte a0 k = slices_Concat_byte_raw a0 k := by unfold slices_Concat_byte; rw [shut_eq]

end P
end

section
open Go Go.Abs
set_option linter.unusedVariables false
namespace P
noncomputable def bits_Join_raw {ρ : Type} (a0 : List (List Int)) (k : (List Int) → Option ρ) : Option ρ :=
  slices_Concat_byte a0 fun (q0 : List Int) => k q0
noncomputable def bits_Join {ρ : Type} (a0 : List (List Int)) (k : (List Int) → Option ρ) : Option ρ := shut (bits_Join_raw (ρ := ρ)) a0 k
theorem bits_Join_eq {ρ : Type} (a0 : List (List Int)) (k : (List Int) → Option ρ) : bits_Join a0 k = bits_Join_raw a0 k := by unfold bits_Join; rw [shut_eq]

end P
end

section
open Go Go.Abs
set_option linter.unusedVariables false
namespace P
noncomputable def wots_Put_raw {ρ : Type} (a0 : List Int) (a1 : Int) (a2 : Int) (k : (List Int) → Option ρ) : Option ρ :=
  br (a1 == (0 : Int))
    (bits_Be a2 (4 : Int) fun (q0 : List Int) =>
      k ((List.take 4 q0).append (List.drop (0 + min 4 q0.length) a0)))
    (br (a1 == (1 : Int))
      (bits_Be a2 (12 : Int) fun (q1 : List Int) =>
        k
          ((List.take 4 a0).append
            (List.take 12 q1 ++ List.drop (4 + min 12 q1.length) a0)))
      (br (a1 == (2 : Int))
        (bits_Be a2 (4 : Int) fun (q2 : List Int) =>
          bits_Join [q2, List.replicate 12 (0 : Int)] fun (q3 : List Int) =>
            k
              ((List.take 16 a0).append
                (List.take 16 q3 ++ List.drop (16 + min 16 q3.length) a0)))
        (br (a1 == (3 : Int))
          (br (a1 == (3 : Int))
            (br (decide ((0 : Int) ≤ IntKind.i64.wrap ((8 : Int) + IntKind.i64.wrap ((4 : Int) * a1))))
              (br (decide (IntKind.i64.wrap ((8 : Int) + IntKind.i64.wrap ((4 : Int) * a1)) ≤ (↑32 : Int)))
                (bits_Be a2 (4 : Int) fun (q4 : List Int) =>
                  k
                    ((List.take (IntKind.i64.wrap ((8 : Int) + IntKind.i64.wrap ((4 : Int) * a1))).toNat a0).append
                      (List.take
                          ((↑32 : Int) - IntKind.i64.wrap ((8 : Int) + IntKind.i64.wrap ((4 : Int) * a1))).toNat
                          q4 ++
                        List.drop
                          ((IntKind.i64.wrap ((8 : Int) + IntKind.i64.wrap ((4 : Int) * a1))).toNat +
                            min
                              ((↑32 : Int) -
                                  IntKind.i64.wrap ((8 : Int) + IntKind.i64.wrap ((4 : Int) * a1))).toNat
                              q4.length)
                          a0)))
                none)
              none)
            (k a0))
          (br (a1 == (4 : Int))
            (br (a1 == (4 : Int))
              (br (decide ((0 : Int) ≤ IntKind.i64.wrap ((8 : Int) + IntKind.i64.wrap ((4 : Int) * a1))))
                (br (decide (IntKind.i64.wrap ((8 : Int) + IntKind.i64.wrap ((4 : Int) * a1)) ≤ (↑32 : Int)))
                  (bits_Be a2 (4 : Int) fun (q5 : List Int) =>
                    k
                      ((List.take (IntKind.i64.wrap ((8 : Int) + IntKind.i64.wrap ((4 : Int) * a1))).toNat a0).append
                        (List.take
                            ((↑32 : Int) -
                                IntKind.i64.wrap ((8 : Int) + IntKind.i64.wrap ((4 : Int) * a1))).toNat
                            q5 ++
                          List.drop
                            ((IntKind.i64.wrap ((8 : Int) + IntKind.i64.wrap ((4 : Int) * a1))).toNat +
                              min
                                ((↑32 : Int) -
                                    IntKind.i64.wrap ((8 : Int) + IntKind.i64.wrap ((4 : Int) * a1))).toNat
                                q5.length)
                            a0)))
                  none)
                none)
              (k a0))
            (br (a1 == (5 : Int))
              (br (decide ((0 : Int) ≤ IntKind.i64.wrap ((8 : Int) + IntKind.i64.wrap ((4 : Int) * a1))))
                (br (decide (IntKind.i64.wrap ((8 : Int) + IntKind.i64.wrap ((4 : Int) * a1)) ≤ (↑32 : Int)))
                  (bits_Be a2 (4 : Int) fun (q6 : List Int) =>
                    k
                      ((List.take (IntKind.i64.wrap ((8 : Int) + IntKind.i64.wrap ((4 : Int) * a1))).toNat a0).append
                        (List.take
                            ((↑32 : Int) -
                                IntKind.i64.wrap ((8 : Int) + IntKind.i64.wrap ((4 : Int) * a1))).toNat
                            q6 ++
                          List.drop
                            ((IntKind.i64.wrap ((8 : Int) + IntKind.i64.wrap ((4 : Int) * a1))).toNat +
                              min
                                ((↑32 : Int) -
                                    IntKind.i64.wrap ((8 : Int) + IntKind.i64.wrap ((4 : Int) * a1))).toNat
                                q6.length)
                            a0)))
                  none)
                none)
              (k a0))))))
noncomputable def wots_Put {ρ : Type} (a0 : List Int) (a1 : Int) (a2 : Int) (k : (List Int) → Option ρ) : Option ρ := shut (wots_Put_raw (ρ := ρ)) a0 a1 a2 k
theorem wots_Put_eq {ρ : Type} (a0 : List Int) (a1 : Int) (a2 : Int) (k : (List Int) → Option ρ) : wots_Put a0 a1 a2 k = wots_Put_raw a0 a1 a2 k := by unfold wots_Put; rw [shut_eq]

end P
end

section
open Go Go.Abs
set_option linter.unusedVariables false
namespace P
noncomputable def L17_awake_raw {ρ : Type}  (k : Bool → Option ρ) : Option ρ :=
  wots_Digits (16 : Int) (List.replicate 16 (0 : Int)) fun (q0 : List Int) =>
    wots_Put
      [(0 : Int), (0 : Int), (0 : Int), (0 : Int), (0 : Int), (0 : Int), (0 : Int), (0 : Int), (0 : Int), (0 : Int),
        (0 : Int), (0 : Int), (0 : Int), (0 : Int), (0 : Int), (0 : Int), (0 : Int), (0 : Int), (0 : Int), (0 : Int),
        (0 : Int), (0 : Int), (0 : Int), (0 : Int), (0 : Int), (0 : Int), (0 : Int), (0 : Int), (0 : Int), (0 : Int),
        (0 : Int), (0 : Int)]
      (4 : Int) (7 : Int) fun (q1 : List Int) =>
      wots_Put q1 (2 : Int) (2 : Int) fun (q2 : List Int) =>
        br ((↑q0.length : Int) == (35 : Int))
          (br (decide ((0 : Int) < (↑q0.length : Int)))
            (br (q0.getD 0 (0 : Int) == (0 : Int))
              (br (decide ((32 : Int) < (↑q0.length : Int)))
                (br (q0.getD 32 (0 : Int) == (1 : Int))
                  (br (decide ((33 : Int) < (↑q0.length : Int)))
                    (br (q0.getD 33 (0 : Int) == (14 : Int))
                      (br (decide ((34 : Int) < (↑q0.length : Int)))
                        (br (q0.getD 34 (0 : Int) == (0 : Int))
                          (br (q2.getD 19 (0 : Int) == (2 : Int))
                            (br (q2.getD 27 (0 : Int) == (0 : Int))
                              (wots_Put
                                [(0 : Int), (0 : Int), (0 : Int), (0 : Int), (0 : Int), (0 : Int), (0 : Int), (0 : Int),
                                  (0 : Int), (0 : Int), (0 : Int), (0 : Int), (0 : Int), (0 : Int), (0 : Int), (0 : Int),
                                  (0 : Int), (0 : Int), (0 : Int), (0 : Int), (0 : Int), (0 : Int), (0 : Int), (0 : Int),
                                  (0 : Int), (0 : Int), (0 : Int), (0 : Int), (0 : Int), (0 : Int), (0 : Int), (0 : Int)]
                                (4 : Int) (7 : Int) fun (q3 : List Int) =>
                                k (q3.getD 27 (0 : Int) == (7 : Int)))
                              (k false))
                            (k false))
                          (k false))
                        none)
                      (k false))
                    none)
                  (k false))
                none)
              (k false))
            none)
          (k false)
noncomputable def L17_awake {ρ : Type}  (k : Bool → Option ρ) : Option ρ := shut (L17_awake_raw (ρ := ρ))  k
theorem L17_awake_eq {ρ : Type}  (k : Bool → Option ρ) : L17_awake  k = L17_awake_raw  k := by unfold L17_awake; rw [shut_eq]

end P
end

section
open Go Go.Abs
set_option linter.unusedVariables false
namespace P
noncomputable def L17_WotsCheck_r7 {ρ : Type} (v7 : Int) (v10 : Bool) (v11 : Bool) (v41 : Int) (v42 : Int) (h0_0 : List Int) (h1_0 : List Int) (h2 : List Int) (h3 : List Int) (nx : Int → Bool → Bool → Int → Int → (List Int) → (List Int) → (List Int) → (List Int) → Option ρ) (k0 : Int → Bool → Bool → Int → Int → (List Int) → (List Int) → (List Int) → (List Int) → Option ρ) (k1 : Bool → (List Int) → (List Int) → (List Int) → (List Int) → Option ρ) : Option ρ :=
  br (decide (v42 < v41))
    (br v10
      (br v11
        (br (decide ((0 : Int) ≤ v42))
          (br (decide (v42 < (↑h2.length : Int)))
            (br (decide (h2.getD v42.toNat (0 : Int) > (15 : Int))) (k1 false h0_0 h1_0 h2 h3)
              (nx v7 true true v41 (IntKind.i64.wrap (v42 + (1 : Int))) h0_0 h1_0 h2 h3))
            none)
          none)
        (br (decide ((0 : Int) ≤ v42))
          (br (decide (v42 < (↑h2.length : Int)))
            (br (decide ((0 : Int) ≤ v42))
              (br (decide (v42 < (↑h3.length : Int)))
                (br (decide ((0 : Int) ≤ v42))
                  (br (decide (v42 < (↑h2.length : Int)))
                    (br (decide (h2.getD v42.toNat (0 : Int) > (15 : Int))) (k1 false h0_0 h1_0 h2 h3)
                      (nx v7 true (decide (h2.getD v42.toNat (0 : Int) > h3.getD v42.toNat (0 : Int))) v41
                        (IntKind.i64.wrap (v42 + (1 : Int))) h0_0 h1_0 h2 h3))
                    none)
                  none)
                none)
              none)
            none)
          none))
      (br (decide ((0 : Int) ≤ v42))
        (br (decide (v42 < (↑h2.length : Int)))
          (br (decide ((0 : Int) ≤ v42))
            (br (decide (v42 < (↑h3.length : Int)))
              (br v11
                (br (decide ((0 : Int) ≤ v42))
                  (br (decide (v42 < (↑h2.length : Int)))
                    (br (decide (h2.getD v42.toNat (0 : Int) > (15 : Int))) (k1 false h0_0 h1_0 h2 h3)
                      (nx v7 (decide (h2.getD v42.toNat (0 : Int) < h3.getD v42.toNat (0 : Int))) true v41
                        (IntKind.i64.wrap (v42 + (1 : Int))) h0_0 h1_0 h2 h3))
                    none)
                  none)
                (br (decide ((0 : Int) ≤ v42))
                  (br (decide (v42 < (↑h2.length : Int)))
                    (br (decide ((0 : Int) ≤ v42))
                      (br (decide (v42 < (↑h3.length : Int)))
                        (br (decide ((0 : Int) ≤ v42))
                          (br (decide (v42 < (↑h2.length : Int)))
                            (br (decide (h2.getD v42.toNat (0 : Int) > (15 : Int))) (k1 false h0_0 h1_0 h2 h3)
                              (nx v7 (decide (h2.getD v42.toNat (0 : Int) < h3.getD v42.toNat (0 : Int)))
                                (decide (h2.getD v42.toNat (0 : Int) > h3.getD v42.toNat (0 : Int))) v41
                                (IntKind.i64.wrap (v42 + (1 : Int))) h0_0 h1_0 h2 h3))
                            none)
                          none)
                        none)
                      none)
                    none)
                  none))
              none)
            none)
          none)
        none))
    (k0 v7 v10 v11 v41 v42 h0_0 h1_0 h2 h3)
noncomputable def L17_WotsCheck_L7 {ρ : Type} (v7 : Int) (v10 : Bool) (v11 : Bool) (v41 : Int) (v42 : Int) (h0_0 : List Int) (h1_0 : List Int) (h2 : List Int) (h3 : List Int) (k0 : Int → Bool → Bool → Int → Int → (List Int) → (List Int) → (List Int) → (List Int) → Option ρ) (k1 : Bool → (List Int) → (List Int) → (List Int) → (List Int) → Option ρ) : Option ρ :=
  lp (fun (x : Int × Bool × Bool × Int × Int × (List Int) × (List Int) × (List Int) × (List Int)) (next : (Int × Bool × Bool × Int × Int × (List Int) × (List Int) × (List Int) × (List Int)) → Option ρ) (ex : ((Int × Bool × Bool × Int × Int × (List Int) × (List Int) × (List Int) × (List Int)) ⊕ ((Bool × (List Int) × (List Int) × (List Int) × (List Int)))) → Option ρ) => L17_WotsCheck_r7 x.1 x.2.1 x.2.2.1 x.2.2.2.1 x.2.2.2.2.1 x.2.2.2.2.2.1 x.2.2.2.2.2.2.1 x.2.2.2.2.2.2.2.1 x.2.2.2.2.2.2.2.2 (fun v7 v10 v11 v41 v42 h0_0 h1_0 h2 h3 => next (v7, v10, v11, v41, v42, h0_0, h1_0, h2, h3)) (fun v7 v10 v11 v41 v42 h0_0 h1_0 h2 h3 => ex (.inl (v7, v10, v11, v41, v42, h0_0, h1_0, h2, h3))) (fun v6 h0_0 h1_0 h2 h3 => ex (.inr (v6, h0_0, h1_0, h2, h3)))) (v7, v10, v11, v41, v42, h0_0, h1_0, h2, h3) (Sum.elim (fun x => k0 x.1 x.2.1 x.2.2.1 x.2.2.2.1 x.2.2.2.2.1 x.2.2.2.2.2.1 x.2.2.2.2.2.2.1 x.2.2.2.2.2.2.2.1 x.2.2.2.2.2.2.2.2) (fun x => k1 x.1 x.2.1 x.2.2.1 x.2.2.2.1 x.2.2.2.2))
noncomputable def L17_WotsCheck_l7 {ρ : Type} (v7 : Int) (v10 : Bool) (v11 : Bool) (v41 : Int) (v42 : Int) (h0_0 : List Int) (h1_0 : List Int) (h2 : List Int) (h3 : List Int) (k0 : Int → Bool → Bool → Int → Int → (List Int) → (List Int) → (List Int) → (List Int) → Option ρ) (k1 : Bool → (List Int) → (List Int) → (List Int) → (List Int) → Option ρ) : Option ρ := shut (L17_WotsCheck_L7 (ρ := ρ)) v7 v10 v11 v41 v42 h0_0 h1_0 h2 h3 k0 k1
theorem L17_WotsCheck_l7_eq {ρ : Type} (v7 : Int) (v10 : Bool) (v11 : Bool) (v41 : Int) (v42 : Int) (h0_0 : List Int) (h1_0 : List Int) (h2 : List Int) (h3 : List Int) (k0 : Int → Bool → Bool → Int → Int → (List Int) → (List Int) → (List Int) → (List Int) → Option ρ) (k1 : Bool → (List Int) → (List Int) → (List Int) → (List Int) → Option ρ) : L17_WotsCheck_l7 v7 v10 v11 v41 v42 h0_0 h1_0 h2 h3 k0 k1 = L17_WotsCheck_L7 v7 v10 v11 v41 v42 h0_0 h1_0 h2 h3 k0 k1 := by unfold L17_WotsCheck_l7; rw [shut_eq]
noncomputable def L17_WotsCheck_raw {ρ : Type} (a0 : Int) (a1 : List Int) (a2 : List Int) (k : Bool → Option ρ) : Option ρ :=
  br
    (decide
      ((0 : Int) ≤ IntKind.i64.wrap ((16 : Int) + IntKind.i64.wrap ((8 : Int) * IntKind.i64.wrap (a0.tmod (3 : Int))))))
    (br
      (decide
        (IntKind.i64.wrap ((16 : Int) + IntKind.i64.wrap ((8 : Int) * IntKind.i64.wrap (a0.tmod (3 : Int)))) ≤
          (↑32 : Int)))
      (wots_Digits (IntKind.i64.wrap ((16 : Int) + IntKind.i64.wrap ((8 : Int) * IntKind.i64.wrap (a0.tmod (3 : Int)))))
        (List.take
          (IntKind.i64.wrap ((16 : Int) + IntKind.i64.wrap ((8 : Int) * IntKind.i64.wrap (a0.tmod (3 : Int)))) -
              (0 : Int)).toNat
          (List.drop 0 a1))
        fun (q0 : List Int) =>
        br
          (decide
            ((0 : Int) ≤
              IntKind.i64.wrap ((16 : Int) + IntKind.i64.wrap ((8 : Int) * IntKind.i64.wrap (a0.tmod (3 : Int))))))
          (br
            (decide
              (IntKind.i64.wrap ((16 : Int) + IntKind.i64.wrap ((8 : Int) * IntKind.i64.wrap (a0.tmod (3 : Int)))) ≤
                (↑32 : Int)))
            (wots_Digits
              (IntKind.i64.wrap ((16 : Int) + IntKind.i64.wrap ((8 : Int) * IntKind.i64.wrap (a0.tmod (3 : Int)))))
              (List.take
                (IntKind.i64.wrap ((16 : Int) + IntKind.i64.wrap ((8 : Int) * IntKind.i64.wrap (a0.tmod (3 : Int)))) -
                    (0 : Int)).toNat
                (List.drop 0 a2))
              fun (q1 : List Int) =>
              br
                ((↑q0.length : Int) !=
                  IntKind.i64.wrap
                    (IntKind.i64.wrap
                        ((2 : Int) *
                          IntKind.i64.wrap
                            ((16 : Int) + IntKind.i64.wrap ((8 : Int) * IntKind.i64.wrap (a0.tmod (3 : Int))))) +
                      (3 : Int)))
                (k false)
                (br ((↑q1.length : Int) != (↑q0.length : Int)) (k false)
                  (L17_WotsCheck_l7
                    (IntKind.i64.wrap ((16 : Int) + IntKind.i64.wrap ((8 : Int) * IntKind.i64.wrap (a0.tmod (3 : Int)))))
                    false false (↑q0.length : Int) (0 : Int) a1 a2 q0 q1
                    (fun (q2 : Int) (q3 q4 : Bool) (q5 q6 : Int) (q7 q8 q9 q10 : List Int) =>
                      br (decide ((0 : Int) ≤ q2))
                        (br (decide (q2 ≤ (↑32 : Int)))
                          (br (decide ((0 : Int) ≤ q2))
                            (br (decide (q2 ≤ (↑32 : Int)))
                              (R01_Same (List.take (q2 - (0 : Int)).toNat (List.drop 0 q7))
                                (List.take (q2 - (0 : Int)).toNat (List.drop 0 q8)) fun (q11 : Bool) =>
                                br (q3 == !q11) (br (q4 == !q11) (L17_awake fun (q12 : Bool) => k q12) (k false))
                                  (k false))
                              none)
                            none)
                          none)
                        none)
                    fun (q13 : Bool) (q14 q15 q16 q17 : List Int) => k q13)))
            none)
          none)
      none)
    none
noncomputable def L17_WotsCheck {ρ : Type} (a0 : Int) (a1 : List Int) (a2 : List Int) (k : Bool → Option ρ) : Option ρ := shut (L17_WotsCheck_raw (ρ := ρ)) a0 a1 a2 k
theorem L17_WotsCheck_eq {ρ : Type} (a0 : Int) (a1 : List Int) (a2 : List Int) (k : Bool → Option ρ) : L17_WotsCheck a0 a1 a2 k = L17_WotsCheck_raw a0 a1 a2 k := by unfold L17_WotsCheck; rw [shut_eq]

end P
end

section
open Go Go.Abs Go.Proofs
set_option maxRecDepth 100000
set_option linter.unusedVariables false
namespace bits_such
noncomputable def D : Ctx := ({ P := Try.prog, G := [], globs := [], hints := [], loops := [], inl := [] } : Ctx)
theorem body (a0 : List Int) (a1 : Int) (a2 : Int) (K : AVal → Option R) : bodyA D Try.f9 [.any] [.sl (.ints .u8 a0), .v (.int .i64 a1), .v (.int .i64 a2)] K = P.bits_such a0 a1 a2 (fun r0 => K (.v (.bool r0))) := by
  rw [P.bits_such_eq]
  kernel_rfl
theorem loops : loopsOf (Try.f9.body.getD .skip) = [] := by kernel_rfl
noncomputable def spec0 : Abs.Spec := fun args K => match args with
  | [.sl (.ints .u8 a0), .v (.int .i64 a1), .v (.int .i64 a2)] => P.bits_such a0 a1 a2 (fun r0 => K (.v (.bool r0)))
  | _ => none
noncomputable def spec : Abs.Spec := fun args K => spec0 (coerL [.sl (.ints .u8 []), .any, .any] args) K
theorem ok0 : Proved Try.prog [] 9 spec0 := by
  refine proved_of (D := D) (fn := Try.f9) (c := Try.f9.body.getD .skip) [.any] (by kernel_rfl) (globsPlain_of (by kernel_rfl)) (by kernel_rfl) (by kernel_rfl) (by kernel_rfl) trivial trivial ?_ ?_
  · rw [loops]; exact trivial
  · intro args K r h
    unfold spec0 at h
    split at h
    · rw [body]; exact h
    · cases h
theorem ok : Proved Try.prog [] 9 spec := proved_coer _ ok0
end bits_such
end

section
open Go Go.Abs Go.Proofs
set_option maxRecDepth 100000
set_option linter.unusedVariables false
namespace bits_Digits
def S6 (v0 : List Int) (v1 : Int) (v8 : Int) (v9 : Int) (v19 : Int) (v20 : Int) (h0 : List Int) : ASt := ⟨[(0, .sl (.ints .u8 v0)), (1, .v (.int .i64 v1)), (7, .own 0), (8, .v (.int .u64 v8)), (9, .v (.int .i64 v9)), (19, .v (.int .i64 v19)), (20, .v (.int .i64 v20))], [(0, some ⟨.row 26 (.ints .u32 h0), false⟩)], 1, 53⟩
def V6 : ASt → Option ((List Int) × Int × Int × Int × Int × Int × (List Int))
  | ⟨[(0, .sl (.ints .u8 v0)), (1, .v (.int .i64 v1)), (7, .own 0), (8, .v (.int .u64 v8)), (9, .v (.int .i64 v9)), (19, .v (.int .i64 v19)), (20, .v (.int .i64 v20))], [(0, some ⟨.row 26 (.ints .u32 h0), false⟩)], 1, 53⟩ => some (v0, v1, v8, v9, v19, v20, h0)
  | _ => none
theorem V6_ok (st : ASt) (x : (List Int) × Int × Int × Int × Int × Int × (List Int)) (h : V6 st = some x) : st = S6 x.1 x.2.1 x.2.2.1 x.2.2.2.1 x.2.2.2.2.1 x.2.2.2.2.2.1 x.2.2.2.2.2.2 := by
  unfold V6 at h
  split at h
  · cases h; rfl
  · cases h
def S8 (v0 : List Int) (v1 : Int) (v8 : Int) (v9 : Int) (v10 : Int) (v19 : Int) (v20 : Int) (h0 : List Int) : ASt := ⟨[(0, .sl (.ints .u8 v0)), (1, .v (.int .i64 v1)), (7, .own 0), (8, .v (.int .u64 v8)), (9, .v (.int .i64 v9)), (10, .v (.int .i64 v10)), (19, .v (.int .i64 v19)), (20, .v (.int .i64 v20))], [(0, some ⟨.row 26 (.ints .u32 h0), false⟩)], 1, 53⟩
def V8 : ASt → Option ((List Int) × Int × Int × Int × Int × Int × Int × (List Int))
  | ⟨[(0, .sl (.ints .u8 v0)), (1, .v (.int .i64 v1)), (7, .own 0), (8, .v (.int .u64 v8)), (9, .v (.int .i64 v9)), (10, .v (.int .i64 v10)), (19, .v (.int .i64 v19)), (20, .v (.int .i64 v20))], [(0, some ⟨.row 26 (.ints .u32 h0), false⟩)], 1, 53⟩ => some (v0, v1, v8, v9, v10, v19, v20, h0)
  | _ => none
theorem V8_ok (st : ASt) (x : (List Int) × Int × Int × Int × Int × Int × Int × (List Int)) (h : V8 st = some x) : st = S8 x.1 x.2.1 x.2.2.1 x.2.2.2.1 x.2.2.2.2.1 x.2.2.2.2.2.1 x.2.2.2.2.2.2.1 x.2.2.2.2.2.2.2 := by
  unfold V8 at h
  split at h
  · cases h; rfl
  · cases h
noncomputable def L8 : LSpec := fun st K => match V8 st with
  | some x => P.bits_Digits_l8 x.1 x.2.1 x.2.2.1 x.2.2.2.1 x.2.2.2.2.1 x.2.2.2.2.2.1 x.2.2.2.2.2.2.1 x.2.2.2.2.2.2.2 (fun v0 v1 v8 v9 v10 v19 v20 h0 => K (.exit 2) (S8 v0 v1 v8 v9 v10 v19 v20 h0))
  | none => none
noncomputable def L6 : LSpec := fun st K => match V6 st with
  | some x => P.bits_Digits_l6 x.1 x.2.1 x.2.2.1 x.2.2.2.1 x.2.2.2.2.1 x.2.2.2.2.2.1 x.2.2.2.2.2.2 (fun v0 v1 v8 v9 v19 v20 h0 => K (.exit 0) (S6 v0 v1 v8 v9 v19 v20 h0))
  | none => none
noncomputable def D : Ctx := ({ P := Try.prog, G := [(9, bits_such.spec)], globs := [], hints := [(8, ⟨[0, 1, 7, 8, 9, 10, 19, 20], [], [6], [(0, .sl (.ints .u8 []))], none, []⟩), (6, ⟨[0, 1, 7, 8, 9, 19, 20], [], [6], [(0, .sl (.ints .u8 []))], none, []⟩)], loops := [(8, L8), (6, L6)], inl := [] } : Ctx)
def E8 (K : AExit → ASt → Option R) : (((List Int) × Int × Int × Int × Int × Int × Int × (List Int))) → Option R := (fun x => K (.exit 2) (S8 x.1 x.2.1 x.2.2.1 x.2.2.2.1 x.2.2.2.2.1 x.2.2.2.2.2.1 x.2.2.2.2.2.2.1 x.2.2.2.2.2.2.2))
theorem round8 (K : AExit → ASt → Option R) (next : ASt → Option R) (x : (List Int) × Int × Int × Int × Int × Int × Int × (List Int)) : roundA D (loopAt Try.f7 8) K next (S8 x.1 x.2.1 x.2.2.1 x.2.2.2.1 x.2.2.2.2.1 x.2.2.2.2.2.1 x.2.2.2.2.2.2.1 x.2.2.2.2.2.2.2) = (fun (x : (List Int) × Int × Int × Int × Int × Int × Int × (List Int)) (next : ((List Int) × Int × Int × Int × Int × Int × Int × (List Int)) → Option R) (ex : (((List Int) × Int × Int × Int × Int × Int × Int × (List Int))) → Option R) => P.bits_Digits_r8 x.1 x.2.1 x.2.2.1 x.2.2.2.1 x.2.2.2.2.1 x.2.2.2.2.2.1 x.2.2.2.2.2.2.1 x.2.2.2.2.2.2.2 (fun v0 v1 v8 v9 v10 v19 v20 h0 => next (v0, v1, v8, v9, v10, v19, v20, h0)) (fun v0 v1 v8 v9 v10 v19 v20 h0 => ex ((v0, v1, v8, v9, v10, v19, v20, h0)))) x (fun x => next (S8 x.1 x.2.1 x.2.2.1 x.2.2.2.1 x.2.2.2.2.1 x.2.2.2.2.2.1 x.2.2.2.2.2.2.1 x.2.2.2.2.2.2.2)) (E8 K) := by kernel_rfl
theorem lq8 (st : ASt) (K : AExit → ASt → Option R) : L8 st K = vMap (V8 st) (fun x => lp (fun (x : (List Int) × Int × Int × Int × Int × Int × Int × (List Int)) (next : ((List Int) × Int × Int × Int × Int × Int × Int × (List Int)) → Option R) (ex : (((List Int) × Int × Int × Int × Int × Int × Int × (List Int))) → Option R) => P.bits_Digits_r8 x.1 x.2.1 x.2.2.1 x.2.2.2.1 x.2.2.2.2.1 x.2.2.2.2.2.1 x.2.2.2.2.2.2.1 x.2.2.2.2.2.2.2 (fun v0 v1 v8 v9 v10 v19 v20 h0 => next (v0, v1, v8, v9, v10, v19, v20, h0)) (fun v0 v1 v8 v9 v10 v19 v20 h0 => ex ((v0, v1, v8, v9, v10, v19, v20, h0)))) x (E8 K)) := by
  unfold L8
  cases V8 st with
  | none => rfl
  | some x => simp only [P.bits_Digits_l8_eq]; rfl
theorem loop8 : LoopOk D (loopAt Try.f7 8) := loopOk_lp (X := (List Int) × Int × Int × Int × Int × Int × Int × (List Int)) (Y := ((List Int) × Int × Int × Int × Int × Int × Int × (List Int))) (fun x => S8 x.1 x.2.1 x.2.2.1 x.2.2.2.1 x.2.2.2.2.1 x.2.2.2.2.2.1 x.2.2.2.2.2.2.1 x.2.2.2.2.2.2.2) V8_ok (stp := (fun (x : (List Int) × Int × Int × Int × Int × Int × Int × (List Int)) (next : ((List Int) × Int × Int × Int × Int × Int × Int × (List Int)) → Option R) (ex : (((List Int) × Int × Int × Int × Int × Int × Int × (List Int))) → Option R) => P.bits_Digits_r8 x.1 x.2.1 x.2.2.1 x.2.2.2.1 x.2.2.2.2.1 x.2.2.2.2.2.1 x.2.2.2.2.2.2.1 x.2.2.2.2.2.2.2 (fun v0 v1 v8 v9 v10 v19 v20 h0 => next (v0, v1, v8, v9, v10, v19, v20, h0)) (fun v0 v1 v8 v9 v10 v19 v20 h0 => ex ((v0, v1, v8, v9, v10, v19, v20, h0))))) (enc := E8) (L := L8) (by kernel_rfl) lq8 round8
def E6 (K : AExit → ASt → Option R) : (((List Int) × Int × Int × Int × Int × Int × (List Int))) → Option R := (fun x => K (.exit 0) (S6 x.1 x.2.1 x.2.2.1 x.2.2.2.1 x.2.2.2.2.1 x.2.2.2.2.2.1 x.2.2.2.2.2.2))
theorem round6 (K : AExit → ASt → Option R) (next : ASt → Option R) (x : (List Int) × Int × Int × Int × Int × Int × (List Int)) : roundA D (loopAt Try.f7 6) K next (S6 x.1 x.2.1 x.2.2.1 x.2.2.2.1 x.2.2.2.2.1 x.2.2.2.2.2.1 x.2.2.2.2.2.2) = (fun (x : (List Int) × Int × Int × Int × Int × Int × (List Int)) (next : ((List Int) × Int × Int × Int × Int × Int × (List Int)) → Option R) (ex : (((List Int) × Int × Int × Int × Int × Int × (List Int))) → Option R) => P.bits_Digits_r6 x.1 x.2.1 x.2.2.1 x.2.2.2.1 x.2.2.2.2.1 x.2.2.2.2.2.1 x.2.2.2.2.2.2 (fun v0 v1 v8 v9 v19 v20 h0 => next (v0, v1, v8, v9, v19, v20, h0)) (fun v0 v1 v8 v9 v19 v20 h0 => ex ((v0, v1, v8, v9, v19, v20, h0)))) x (fun x => next (S6 x.1 x.2.1 x.2.2.1 x.2.2.2.1 x.2.2.2.2.1 x.2.2.2.2.2.1 x.2.2.2.2.2.2)) (E6 K) := by kernel_rfl
theorem lq6 (st : ASt) (K : AExit → ASt → Option R) : L6 st K = vMap (V6 st) (fun x => lp (fun (x : (List Int) × Int × Int × Int × Int × Int × (List Int)) (next : ((List Int) × Int × Int × Int × Int × Int × (List Int)) → Option R) (ex : (((List Int) × Int × Int × Int × Int × Int × (List Int))) → Option R) => P.bits_Digits_r6 x.1 x.2.1 x.2.2.1 x.2.2.2.1 x.2.2.2.2.1 x.2.2.2.2.2.1 x.2.2.2.2.2.2 (fun v0 v1 v8 v9 v19 v20 h0 => next (v0, v1, v8, v9, v19, v20, h0)) (fun v0 v1 v8 v9 v19 v20 h0 => ex ((v0, v1, v8, v9, v19, v20, h0)))) x (E6 K)) := by
  unfold L6
  cases V6 st with
  | none => rfl
  | some x => simp only [P.bits_Digits_l6_eq]; rfl
theorem loop6 : LoopOk D (loopAt Try.f7 6) := loopOk_lp (X := (List Int) × Int × Int × Int × Int × Int × (List Int)) (Y := ((List Int) × Int × Int × Int × Int × Int × (List Int))) (fun x => S6 x.1 x.2.1 x.2.2.1 x.2.2.2.1 x.2.2.2.2.1 x.2.2.2.2.2.1 x.2.2.2.2.2.2) V6_ok (stp := (fun (x : (List Int) × Int × Int × Int × Int × Int × (List Int)) (next : ((List Int) × Int × Int × Int × Int × Int × (List Int)) → Option R) (ex : (((List Int) × Int × Int × Int × Int × Int × (List Int))) → Option R) => P.bits_Digits_r6 x.1 x.2.1 x.2.2.1 x.2.2.2.1 x.2.2.2.2.1 x.2.2.2.2.2.1 x.2.2.2.2.2.2 (fun v0 v1 v8 v9 v19 v20 h0 => next (v0, v1, v8, v9, v19, v20, h0)) (fun v0 v1 v8 v9 v19 v20 h0 => ex ((v0, v1, v8, v9, v19, v20, h0))))) (enc := E6) (L := L6) (by kernel_rfl) lq6 round6
theorem body (a0 : List Int) (a1 : Int) (a2 : Int) (K : AVal → Option R) : bodyA D Try.f7 [.fr 26 (.ints .u32 [])] [.sl (.ints .u8 a0), .v (.int .i64 a1), .v (.int .i64 a2)] K = P.bits_Digits a0 a1 a2 (fun r0 => K (.fr 26 (.ints .u32 r0))) := by
  rw [P.bits_Digits_eq]
  kernel_rfl
theorem loops : loopsOf (Try.f7.body.getD .skip) = [loopAt Try.f7 6, loopAt Try.f7 8] := by kernel_rfl
noncomputable def spec0 : Abs.Spec := fun args K => match args with
  | [.sl (.ints .u8 a0), .v (.int .i64 a1), .v (.int .i64 a2)] => P.bits_Digits a0 a1 a2 (fun r0 => K (.fr 26 (.ints .u32 r0)))
  | _ => none
noncomputable def spec : Abs.Spec := fun args K => spec0 (coerL [.sl (.ints .u8 []), .any, .any] args) K
theorem ok0 : Proved Try.prog [] 7 spec0 := by
  refine proved_of (D := D) (fn := Try.f7) (c := Try.f7.body.getD .skip) [.fr 26 (.ints .u32 [])] (by kernel_rfl) (globsPlain_of (by kernel_rfl)) (by kernel_rfl) (by kernel_rfl) (by kernel_rfl) ⟨bits_such.ok, trivial⟩ trivial ?_ ?_
  · rw [loops]; exact ⟨loop6, loop8, trivial⟩
  · intro args K r h
    unfold spec0 at h
    split at h
    · rw [body]; exact h
    · cases h
theorem ok : Proved Try.prog [] 7 spec := proved_coer _ ok0
end bits_Digits
end

section
open Go Go.Abs Go.Proofs
set_option maxRecDepth 100000
set_option linter.unusedVariables false
namespace wots_Digits
def S6 (v6 : Int) (v34 : Int) (v35 : Int) (h0 : List Int) : ASt := ⟨[(5, .own 0), (6, .v (.int .u32 v6)), (33, .own 0), (34, .v (.int .i64 v34)), (35, .v (.int .i64 v35))], [(0, some ⟨.row 26 (.ints .u32 h0), false⟩)], 1, 53⟩
def V6 : ASt → Option (Int × Int × Int × (List Int))
  | ⟨[(5, .own 0), (6, .v (.int .u32 v6)), (33, .own 0), (34, .v (.int .i64 v34)), (35, .v (.int .i64 v35))], [(0, some ⟨.row 26 (.ints .u32 h0), false⟩)], 1, 53⟩ => some (v6, v34, v35, h0)
  | _ => none
theorem V6_ok (st : ASt) (x : Int × Int × Int × (List Int)) (h : V6 st = some x) : st = S6 x.1 x.2.1 x.2.2.1 x.2.2.2 := by
  unfold V6 at h
  split at h
  · cases h; rfl
  · cases h
noncomputable def L6 : LSpec := fun st K => match V6 st with
  | some x => P.wots_Digits_l6 x.1 x.2.1 x.2.2.1 x.2.2.2 (fun v6 v34 v35 h0 => K (.exit 0) (S6 v6 v34 v35 h0))
  | none => none
noncomputable def D : Ctx := ({ P := Try.prog, G := [(7, bits_Digits.spec)], globs := [], hints := [(6, ⟨[5, 6, 33, 34, 35], [], [4], [], none, []⟩)], loops := [(6, L6)], inl := [] } : Ctx)
def E6 (K : AExit → ASt → Option R) : ((Int × Int × Int × (List Int))) → Option R := (fun x => K (.exit 0) (S6 x.1 x.2.1 x.2.2.1 x.2.2.2))
theorem round6 (K : AExit → ASt → Option R) (next : ASt → Option R) (x : Int × Int × Int × (List Int)) : roundA D (loopAt Try.f4 6) K next (S6 x.1 x.2.1 x.2.2.1 x.2.2.2) = (fun (x : Int × Int × Int × (List Int)) (next : (Int × Int × Int × (List Int)) → Option R) (ex : ((Int × Int × Int × (List Int))) → Option R) => P.wots_Digits_r6 x.1 x.2.1 x.2.2.1 x.2.2.2 (fun v6 v34 v35 h0 => next (v6, v34, v35, h0)) (fun v6 v34 v35 h0 => ex ((v6, v34, v35, h0)))) x (fun x => next (S6 x.1 x.2.1 x.2.2.1 x.2.2.2)) (E6 K) := by kernel_rfl
theorem lq6 (st : ASt) (K : AExit → ASt → Option R) : L6 st K = vMap (V6 st) (fun x => lp (fun (x : Int × Int × Int × (List Int)) (next : (Int × Int × Int × (List Int)) → Option R) (ex : ((Int × Int × Int × (List Int))) → Option R) => P.wots_Digits_r6 x.1 x.2.1 x.2.2.1 x.2.2.2 (fun v6 v34 v35 h0 => next (v6, v34, v35, h0)) (fun v6 v34 v35 h0 => ex ((v6, v34, v35, h0)))) x (E6 K)) := by
  unfold L6
  cases V6 st with
  | none => rfl
  | some x => simp only [P.wots_Digits_l6_eq]; rfl
theorem loop6 : LoopOk D (loopAt Try.f4 6) := loopOk_lp (X := Int × Int × Int × (List Int)) (Y := (Int × Int × Int × (List Int))) (fun x => S6 x.1 x.2.1 x.2.2.1 x.2.2.2) V6_ok (stp := (fun (x : Int × Int × Int × (List Int)) (next : (Int × Int × Int × (List Int)) → Option R) (ex : ((Int × Int × Int × (List Int))) → Option R) => P.wots_Digits_r6 x.1 x.2.1 x.2.2.1 x.2.2.2 (fun v6 v34 v35 h0 => next (v6, v34, v35, h0)) (fun v6 v34 v35 h0 => ex ((v6, v34, v35, h0))))) (enc := E6) (L := L6) (by kernel_rfl) lq6 round6
theorem body (a0 : Int) (a1 : List Int) (K : AVal → Option R) : bodyA D Try.f4 [.fr 26 (.ints .u32 [])] [.v (.int .i64 a0), .sl (.ints .u8 a1)] K = P.wots_Digits a0 a1 (fun r0 => K (.fr 26 (.ints .u32 r0))) := by
  rw [P.wots_Digits_eq]
  kernel_rfl
theorem loops : loopsOf (Try.f4.body.getD .skip) = [loopAt Try.f4 6] := by kernel_rfl
noncomputable def spec0 : Abs.Spec := fun args K => match args with
  | [.v (.int .i64 a0), .sl (.ints .u8 a1)] => P.wots_Digits a0 a1 (fun r0 => K (.fr 26 (.ints .u32 r0)))
  | _ => none
noncomputable def spec : Abs.Spec := fun args K => spec0 (coerL [.any, .sl (.ints .u8 [])] args) K
theorem ok0 : Proved Try.prog [] 4 spec0 := by
  refine proved_of (D := D) (fn := Try.f4) (c := Try.f4.body.getD .skip) [.fr 26 (.ints .u32 [])] (by kernel_rfl) (globsPlain_of (by kernel_rfl)) (by kernel_rfl) (by kernel_rfl) (by kernel_rfl) ⟨bits_Digits.ok, trivial⟩ trivial ?_ ?_
  · rw [loops]; exact ⟨loop6, trivial⟩
  · intro args K r h
    unfold spec0 at h
    split at h
    · rw [body]; exact h
    · cases h
theorem ok : Proved Try.prog [] 4 spec := proved_coer _ ok0
end wots_Digits
end

section
open Go Go.Abs Go.Proofs
set_option maxRecDepth 100000
set_option linter.unusedVariables false
namespace bits_Le
def S5 (v0 : Int) (v16 : Int) (v17 : Int) (h0 : List Int) : ASt := ⟨[(0, .v (.int .u64 v0)), (5, .own 0), (16, .v (.int .i64 v16)), (17, .v (.int .i64 v17))], [(0, some ⟨.row 5 (.ints .u8 h0), false⟩)], 1, 30⟩
def V5 : ASt → Option (Int × Int × Int × (List Int))
  | ⟨[(0, .v (.int .u64 v0)), (5, .own 0), (16, .v (.int .i64 v16)), (17, .v (.int .i64 v17))], [(0, some ⟨.row 5 (.ints .u8 h0), false⟩)], 1, 30⟩ => some (v0, v16, v17, h0)
  | _ => none
theorem V5_ok (st : ASt) (x : Int × Int × Int × (List Int)) (h : V5 st = some x) : st = S5 x.1 x.2.1 x.2.2.1 x.2.2.2 := by
  unfold V5 at h
  split at h
  · cases h; rfl
  · cases h
noncomputable def L5 : LSpec := fun st K => match V5 st with
  | some x => P.bits_Le_l5 x.1 x.2.1 x.2.2.1 x.2.2.2 (fun v0 v16 v17 h0 => K (.exit 0) (S5 v0 v16 v17 h0))
  | none => none
noncomputable def D : Ctx := ({ P := Try.prog, G := [], globs := [], hints := [(5, ⟨[0, 5, 16, 17], [], [4], [], none, []⟩)], loops := [(5, L5)], inl := [] } : Ctx)
def E5 (K : AExit → ASt → Option R) : ((Int × Int × Int × (List Int))) → Option R := (fun x => K (.exit 0) (S5 x.1 x.2.1 x.2.2.1 x.2.2.2))
theorem round5 (K : AExit → ASt → Option R) (next : ASt → Option R) (x : Int × Int × Int × (List Int)) : roundA D (loopAt Try.f12 5) K next (S5 x.1 x.2.1 x.2.2.1 x.2.2.2) = (fun (x : Int × Int × Int × (List Int)) (next : (Int × Int × Int × (List Int)) → Option R) (ex : ((Int × Int × Int × (List Int))) → Option R) => P.bits_Le_r5 x.1 x.2.1 x.2.2.1 x.2.2.2 (fun v0 v16 v17 h0 => next (v0, v16, v17, h0)) (fun v0 v16 v17 h0 => ex ((v0, v16, v17, h0)))) x (fun x => next (S5 x.1 x.2.1 x.2.2.1 x.2.2.2)) (E5 K) := by kernel_rfl
theorem lq5 (st : ASt) (K : AExit → ASt → Option R) : L5 st K = vMap (V5 st) (fun x => lp (fun (x : Int × Int × Int × (List Int)) (next : (Int × Int × Int × (List Int)) → Option R) (ex : ((Int × Int × Int × (List Int))) → Option R) => P.bits_Le_r5 x.1 x.2.1 x.2.2.1 x.2.2.2 (fun v0 v16 v17 h0 => next (v0, v16, v17, h0)) (fun v0 v16 v17 h0 => ex ((v0, v16, v17, h0)))) x (E5 K)) := by
  unfold L5
  cases V5 st with
  | none => rfl
  | some x => simp only [P.bits_Le_l5_eq]; rfl
theorem loop5 : LoopOk D (loopAt Try.f12 5) := loopOk_lp (X := Int × Int × Int × (List Int)) (Y := (Int × Int × Int × (List Int))) (fun x => S5 x.1 x.2.1 x.2.2.1 x.2.2.2) V5_ok (stp := (fun (x : Int × Int × Int × (List Int)) (next : (Int × Int × Int × (List Int)) → Option R) (ex : ((Int × Int × Int × (List Int))) → Option R) => P.bits_Le_r5 x.1 x.2.1 x.2.2.1 x.2.2.2 (fun v0 v16 v17 h0 => next (v0, v16, v17, h0)) (fun v0 v16 v17 h0 => ex ((v0, v16, v17, h0))))) (enc := E5) (L := L5) (by kernel_rfl) lq5 round5
theorem body (a0 : Int) (a1 : Int) (K : AVal → Option R) : bodyA D Try.f12 [.fr 5 (.ints .u8 [])] [.v (.int .u64 a0), .v (.int .i64 a1)] K = P.bits_Le a0 a1 (fun r0 => K (.fr 5 (.ints .u8 r0))) := by
  rw [P.bits_Le_eq]
  kernel_rfl
theorem loops : loopsOf (Try.f12.body.getD .skip) = [loopAt Try.f12 5] := by kernel_rfl
noncomputable def spec0 : Abs.Spec := fun args K => match args with
  | [.v (.int .u64 a0), .v (.int .i64 a1)] => P.bits_Le a0 a1 (fun r0 => K (.fr 5 (.ints .u8 r0)))
  | _ => none
noncomputable def spec : Abs.Spec := spec0
theorem ok0 : Proved Try.prog [] 12 spec0 := by
  refine proved_of (D := D) (fn := Try.f12) (c := Try.f12.body.getD .skip) [.fr 5 (.ints .u8 [])] (by kernel_rfl) (globsPlain_of (by kernel_rfl)) (by kernel_rfl) (by kernel_rfl) (by kernel_rfl) trivial trivial ?_ ?_
  · rw [loops]; exact ⟨loop5, trivial⟩
  · intro args K r h
    unfold spec0 at h
    split at h
    · rw [body]; exact h
    · cases h
theorem ok : Proved Try.prog [] 12 spec := ok0
end bits_Le
end

section
open Go Go.Abs Go.Proofs
set_option maxRecDepth 100000
set_option linter.unusedVariables false
namespace bits_Be
def S1_1 (v2 : Int) (v3 : Int) (h0 : List Int) : ASt := ⟨[(0, .own 0), (2, .v (.int .i64 v2)), (3, .v (.int .i64 v3))], [(0, some ⟨.row 5 (.ints .u8 h0), false⟩)], 1, 28⟩
def V1_1 : ASt → Option (Int × Int × (List Int))
  | ⟨[(0, .own 0), (2, .v (.int .i64 v2)), (3, .v (.int .i64 v3))], [(0, some ⟨.row 5 (.ints .u8 h0), false⟩)], 1, 28⟩ => some (v2, v3, h0)
  | _ => none
theorem V1_1_ok (st : ASt) (x : Int × Int × (List Int)) (h : V1_1 st = some x) : st = S1_1 x.1 x.2.1 x.2.2 := by
  unfold V1_1 at h
  split at h
  · cases h; rfl
  · cases h
noncomputable def L1_1 : LSpec := fun st K => match V1_1 st with
  | some x => P.bits_Be_l1_1 x.1 x.2.1 x.2.2 (fun v2 v3 h0 => K (.exit 0) (S1_1 v2 v3 h0))
  | none => none
noncomputable def D1 : Ctx := ({ P := Try.prog, G := [(12, bits_Le.spec)], globs := [], hints := [(1, ⟨[0, 2, 3], [], [], [], none, []⟩)], loops := [(1, L1_1)], inl := [] } : Ctx)
noncomputable def D : Ctx := ({ P := Try.prog, G := [(12, bits_Le.spec)], globs := [], hints := [], loops := [], inl := [(13, bodyIn D1 Try.f13)] } : Ctx)
def E1_1 (K : AExit → ASt → Option R) : ((Int × Int × (List Int))) → Option R := (fun x => K (.exit 0) (S1_1 x.1 x.2.1 x.2.2))
theorem round1_1 (K : AExit → ASt → Option R) (next : ASt → Option R) (x : Int × Int × (List Int)) : roundA D1 (loopAt Try.f13 1) K next (S1_1 x.1 x.2.1 x.2.2) = (fun (x : Int × Int × (List Int)) (next : (Int × Int × (List Int)) → Option R) (ex : ((Int × Int × (List Int))) → Option R) => P.bits_Be_r1_1 x.1 x.2.1 x.2.2 (fun v2 v3 h0 => next (v2, v3, h0)) (fun v2 v3 h0 => ex ((v2, v3, h0)))) x (fun x => next (S1_1 x.1 x.2.1 x.2.2)) (E1_1 K) := by kernel_rfl
theorem lq1_1 (st : ASt) (K : AExit → ASt → Option R) : L1_1 st K = vMap (V1_1 st) (fun x => lp (fun (x : Int × Int × (List Int)) (next : (Int × Int × (List Int)) → Option R) (ex : ((Int × Int × (List Int))) → Option R) => P.bits_Be_r1_1 x.1 x.2.1 x.2.2 (fun v2 v3 h0 => next (v2, v3, h0)) (fun v2 v3 h0 => ex ((v2, v3, h0)))) x (E1_1 K)) := by
  unfold L1_1
  cases V1_1 st with
  | none => rfl
  | some x => simp only [P.bits_Be_l1_1_eq]; rfl
theorem loop1_1 : LoopOk D1 (loopAt Try.f13 1) := loopOk_lp (X := Int × Int × (List Int)) (Y := (Int × Int × (List Int))) (fun x => S1_1 x.1 x.2.1 x.2.2) V1_1_ok (stp := (fun (x : Int × Int × (List Int)) (next : (Int × Int × (List Int)) → Option R) (ex : ((Int × Int × (List Int))) → Option R) => P.bits_Be_r1_1 x.1 x.2.1 x.2.2 (fun v2 v3 h0 => next (v2, v3, h0)) (fun v2 v3 h0 => ex ((v2, v3, h0))))) (enc := E1_1) (L := L1_1) (by kernel_rfl) lq1_1 round1_1
theorem body (a0 : Int) (a1 : Int) (K : AVal → Option R) : bodyA D Try.f10 [.fr 5 (.ints .u8 [])] [.v (.int .u64 a0), .v (.int .i64 a1)] K = P.bits_Be a0 a1 (fun r0 => K (.fr 5 (.ints .u8 r0))) := by
  rw [P.bits_Be_eq]
  kernel_rfl
theorem loops : loopsOf (Try.f10.body.getD .skip) = [] := by kernel_rfl
theorem loops1 : loopsOf (Try.f13.body.getD .skip) = [loopAt Try.f13 1] := by kernel_rfl
noncomputable def spec0 : Abs.Spec := fun args K => match args with
  | [.v (.int .u64 a0), .v (.int .i64 a1)] => P.bits_Be a0 a1 (fun r0 => K (.fr 5 (.ints .u8 r0)))
  | _ => none
noncomputable def spec : Abs.Spec := spec0
theorem ok0 : Proved Try.prog [] 10 spec0 := by
  refine proved_of (D := D) (fn := Try.f10) (c := Try.f10.body.getD .skip) [.fr 5 (.ints .u8 [])] (by kernel_rfl) (globsPlain_of (by kernel_rfl)) (by kernel_rfl) (by kernel_rfl) (by kernel_rfl) ⟨bits_Le.ok, trivial⟩ ⟨run_of (D := D1) (D' := D) (fn := Try.f13) (c := Try.f13.body.getD .skip) rfl rfl (by kernel_rfl) (globsPlain_of (by kernel_rfl)) (by kernel_rfl) (by kernel_rfl) (by kernel_rfl) ⟨bits_Le.ok, trivial⟩ trivial (by rw [loops1]; exact ⟨loop1_1, trivial⟩) (fun _ _ _ _ _ h => h), trivial⟩ ?_ ?_
  · rw [loops]; exact trivial
  · intro args K r h
    unfold spec0 at h
    split at h
    · rw [body]; exact h
    · cases h
theorem ok : Proved Try.prog [] 10 spec := ok0
end bits_Be
end
