/-
  WotsRight, part G: an interpreter of my own over abstract values, the pure functions, the walks and the plain law.
-/

import Derived.Test.YtjhnljhjpnjieaaDoorWotsRightF

section
open Go Go.Abs
set_option linter.unusedVariables false
namespace P
noncomputable def R01_Same_r4 {ρ : Type} (v0 : List Int) (v1 : List Int) (v5 : Int) (nx : (List Int) → (List Int) → Int → Option ρ) (k0 : (List Int) → (List Int) → Int → Option ρ) (k1 : Bool → Option ρ) : Option ρ :=
 br (decide (v5 < (↑v0.length : Int)))
 (br (decide ((0 : Int) ≤ v5))
  (br (decide (v5 < (↑v0.length : Int)))
   (br (decide ((0 : Int) ≤ v5))
    (br (decide (v5 < (↑v1.length : Int)))
     (br (v0.getD v5.toNat (0 : Int) != v1.getD v5.toNat (0 : Int)) (k1 false)
      (nx v0 v1 (IntKind.i64.wrap (v5 + (1 : Int)))))
     none)
    none)
   none)
  none)
 (k0 v0 v1 v5)
noncomputable def R01_Same_L4 {ρ : Type} (v0 : List Int) (v1 : List Int) (v5 : Int) (k0 : (List Int) → (List Int) → Int → Option ρ) (k1 : Bool → Option ρ) : Option ρ :=
 lp (fun (x : (List Int) × (List Int) × Int) next (ex : ((List Int) × (List Int) × Int) ⊕ (Bool) → Option ρ) => R01_Same_r4 x.1 x.2.1 x.2.2 (fun v0 v1 v5 => next (v0, v1, v5)) (fun v0 v1 v5 => ex (.inl (v0, v1, v5))) (fun v4 => ex (.inr v4))) (v0, v1, v5) (Sum.elim (fun x => k0 x.1 x.2.1 x.2.2) (fun x => k1 x))
noncomputable def R01_Same_l4 {ρ : Type} := shut (R01_Same_L4 (ρ := ρ))
theorem R01_Same_l4_eq {ρ : Type} : R01_Same_l4 (ρ := ρ) = R01_Same_L4 := shut_eq _
noncomputable def R01_Same_raw {ρ : Type} (a0 : List Int) (a1 : List Int) (k : Bool → Option ρ) : Option ρ :=
 br ((↑a0.length : Int) != (↑a1.length : Int)) (k false)
 (R01_Same_l4 a0 a1 (0 : Int) (fun (q0 q1 : List Int) (q2 : Int) => k true) fun (q3 : Bool) => k q3)
noncomputable def R01_Same {ρ : Type} := shut (R01_Same_raw (ρ := ρ))
theorem R01_Same_eq {ρ : Type} (a0 : List Int) (a1 : List Int) (k : Bool → Option ρ) : R01_Same a0 a1 k = R01_Same_raw a0 a1 k := by unfold R01_Same; rw [shut_eq]
end P
end

section
open Go Go.Abs
set_option linter.unusedVariables false
namespace P
noncomputable def bits_Le_r5 {ρ : Type} (v0 : Int) (v16 : Int) (v17 : Int) (h0 : List Int) (nx : Int → Int → Int → (List Int) → Option ρ) (k0 : Int → Int → Int → (List Int) → Option ρ) : Option ρ :=
 br (decide (v17 < v16))
 (br (decide (IntKind.i64.wrap ((8 : Int) * v17) < (0 : Int))) none
  (br (decide ((0 : Int) ≤ v17))
   (br (decide (v17 < (↑h0.length : Int)))
    (nx v0 v16 (IntKind.i64.wrap (v17 + (1 : Int)))
     (h0.set v17.toNat
      (IntKind.u8.wrap (v0.fdiv ((2 : Int) ^ min (IntKind.i64.wrap ((8 : Int) * v17)).toNat 64)))))
    none)
   none))
 (k0 v0 v16 v17 h0)
noncomputable def bits_Le_L5 {ρ : Type} (v0 : Int) (v16 : Int) (v17 : Int) (h0 : List Int) (k0 : Int → Int → Int → (List Int) → Option ρ) : Option ρ :=
 lp (fun (x : Int × Int × Int × (List Int)) next (ex : (Int × Int × Int × (List Int)) → Option ρ) => bits_Le_r5 x.1 x.2.1 x.2.2.1 x.2.2.2 (fun v0 v16 v17 h0 => next (v0, v16, v17, h0)) (fun v0 v16 v17 h0 => ex (v0, v16, v17, h0))) (v0, v16, v17, h0) (fun x => k0 x.1 x.2.1 x.2.2.1 x.2.2.2)
noncomputable def bits_Le_l5 {ρ : Type} := shut (bits_Le_L5 (ρ := ρ))
theorem bits_Le_l5_eq {ρ : Type} : bits_Le_l5 (ρ := ρ) = bits_Le_L5 := shut_eq _
noncomputable def bits_Le_raw {ρ : Type} (a0 : Int) (a1 : Int) (k : (List Int) → Option ρ) : Option ρ :=
 br (decide (a1 < (0 : Int))) (k [])
 (br (decide (a1 > (65536 : Int))) (k [])
  (br (decide ((0 : Int) ≤ a1))
   (br (decide (a1 ≤ a1))
    (br (decide (a1 * (↑1 : Int) ≤ (↑140737488355328 : Int)))
     (bits_Le_l5 a0 (bif decide ((8 : Int) < a1) then (8 : Int) else a1) (0 : Int)
      (List.replicate a1.toNat (0 : Int)) fun (q0 q1 q2 : Int) (q3 : List Int) => k q3)
     none)
    none)
   none))
noncomputable def bits_Le {ρ : Type} := shut (bits_Le_raw (ρ := ρ))
theorem bits_Le_eq {ρ : Type} (a0 : Int) (a1 : Int) (k : (List Int) → Option ρ) : bits_Le a0 a1 k = bits_Le_raw a0 a1 k := by unfold bits_Le; rw [shut_eq]
end P
end

section
open Go Go.Abs
set_option linter.unusedVariables false
namespace P
noncomputable def bits_Be_r1_1 {ρ : Type} (v2 : Int) (v3 : Int) (h0 : List Int) (nx : Int → Int → (List Int) → Option ρ) (k0 : Int → Int → (List Int) → Option ρ) : Option ρ :=
 br (decide (v2 < v3))
 (br (decide ((0 : Int) ≤ v3))
  (br (decide (v3 < (↑h0.length : Int)))
   (br (decide ((0 : Int) ≤ v2))
    (br (decide (v2 < (↑h0.length : Int)))
     (br (decide ((0 : Int) ≤ v2))
      (br (decide (v2 < (↑h0.length : Int)))
       (br (decide ((0 : Int) ≤ v3))
        (br (decide (v3 < (↑(h0.set v2.toNat (h0.getD v3.toNat (0 : Int))).length : Int)))
         (nx (IntKind.i64.wrap (v2 + (1 : Int))) (IntKind.i64.wrap (v3 - (1 : Int)))
          ((h0.set v2.toNat (h0.getD v3.toNat (0 : Int))).set v3.toNat (h0.getD v2.toNat (0 : Int))))
         none)
        none)
       none)
      none)
     none)
    none)
   none)
  none)
 (k0 v2 v3 h0)
noncomputable def bits_Be_L1_1 {ρ : Type} (v2 : Int) (v3 : Int) (h0 : List Int) (k0 : Int → Int → (List Int) → Option ρ) : Option ρ :=
 lp (fun (x : Int × Int × (List Int)) next (ex : (Int × Int × (List Int)) → Option ρ) => bits_Be_r1_1 x.1 x.2.1 x.2.2 (fun v2 v3 h0 => next (v2, v3, h0)) (fun v2 v3 h0 => ex (v2, v3, h0))) (v2, v3, h0) (fun x => k0 x.1 x.2.1 x.2.2)
noncomputable def bits_Be_l1_1 {ρ : Type} := shut (bits_Be_L1_1 (ρ := ρ))
theorem bits_Be_l1_1_eq {ρ : Type} : bits_Be_l1_1 (ρ := ρ) = bits_Be_L1_1 := shut_eq _
noncomputable def bits_Be_raw {ρ : Type} (a0 : Int) (a1 : Int) (k : (List Int) → Option ρ) : Option ρ :=
 bits_Le a0 a1 fun (q0 : List Int) =>
 bits_Be_l1_1 (0 : Int) (IntKind.i64.wrap ((↑q0.length : Int) - (1 : Int))) q0 fun (q1 q2 : Int) (q3 : List Int) =>
  k q3
noncomputable def bits_Be {ρ : Type} := shut (bits_Be_raw (ρ := ρ))
theorem bits_Be_eq {ρ : Type} (a0 : Int) (a1 : Int) (k : (List Int) → Option ρ) : bits_Be a0 a1 k = bits_Be_raw a0 a1 k := by unfold bits_Be; rw [shut_eq]
end P
end

section
open Go Go.Abs
set_option linter.unusedVariables false
namespace P
noncomputable def slices_Grow_byte_raw {ρ : Type} (a1 : Int) (k : (List Int) → Option ρ) : Option ρ :=
 br (decide (a1 < (0 : Int))) none
 (br (decide (IntKind.i64.wrap (a1 - IntKind.i64.wrap ((0 : Int) - (↑0 : Int))) > (0 : Int)))
  (br (decide ((0 : Int) ≤ IntKind.i64.wrap (a1 - IntKind.i64.wrap ((0 : Int) - (↑0 : Int)))))
   (br
    (decide
     ((IntKind.i64.wrap (a1 - IntKind.i64.wrap ((0 : Int) - (↑0 : Int)))).toNat *
       1 ≤
      140737488355328))
    (k
     (List.take ((↑0 : Int) - (0 : Int)).toNat
      (List.replicate (IntKind.i64.wrap (a1 - IntKind.i64.wrap ((0 : Int) - (↑0 : Int)))).toNat
       (0 : Int))))
    none)
   none)
  (k []))
noncomputable def slices_Grow_byte {ρ : Type} := shut (slices_Grow_byte_raw (ρ := ρ))
theorem slices_Grow_byte_eq {ρ : Type} (a1 : Int) (k : (List Int) → Option ρ) : slices_Grow_byte a1 k = slices_Grow_byte_raw a1 k := by unfold slices_Grow_byte; rw [shut_eq]
end P
end

section
open Go Go.Abs
set_option linter.unusedVariables false
namespace P
noncomputable def slices_Concat_byte_r3 {ρ : Type} (v0 : List (List Int)) (v3 : Int) (v9 : List (List Int)) (v10 : Int) (v11 : Int) (nx : (List (List Int)) → Int → (List (List Int)) → Int → Int → Option ρ) (k0 : (List (List Int)) → Int → (List (List Int)) → Int → Int → Option ρ) : Option ρ :=
 br (decide (v11 < v10))
 (br (decide ((0 : Int) ≤ v11))
  (br (decide (v11 < (↑v9.length : Int)))
   (br (decide (IntKind.i64.wrap (v3 + (↑(v9.getD v11.toNat []).length : Int)) < (0 : Int))) none
    (nx v0 (IntKind.i64.wrap (v3 + (↑(v9.getD v11.toNat []).length : Int))) v9 v10
     (IntKind.i64.wrap (v11 + (1 : Int)))))
   none)
  none)
 (k0 v0 v3 v9 v10 v11)
noncomputable def slices_Concat_byte_L3 {ρ : Type} (v0 : List (List Int)) (v3 : Int) (v9 : List (List Int)) (v10 : Int) (v11 : Int) (k0 : (List (List Int)) → Int → (List (List Int)) → Int → Int → Option ρ) : Option ρ :=
 lp (fun (x : (List (List Int)) × Int × (List (List Int)) × Int × Int) next (ex : ((List (List Int)) × Int × (List (List Int)) × Int × Int) → Option ρ) => slices_Concat_byte_r3 x.1 x.2.1 x.2.2.1 x.2.2.2.1 x.2.2.2.2 (fun v0 v3 v9 v10 v11 => next (v0, v3, v9, v10, v11)) (fun v0 v3 v9 v10 v11 => ex (v0, v3, v9, v10, v11))) (v0, v3, v9, v10, v11) (fun x => k0 x.1 x.2.1 x.2.2.1 x.2.2.2.1 x.2.2.2.2)
noncomputable def slices_Concat_byte_l3 {ρ : Type} := shut (slices_Concat_byte_L3 (ρ := ρ))
theorem slices_Concat_byte_l3_eq {ρ : Type} : slices_Concat_byte_l3 (ρ := ρ) = slices_Concat_byte_L3 := shut_eq _
noncomputable def slices_Concat_byte_r11 {ρ : Type} (v25 : List (List Int)) (v26 : Int) (v27 : Int) (h1 : List Int) (nx : (List (List Int)) → Int → Int → (List Int) → Option ρ) (k0 : (List (List Int)) → Int → Int → (List Int) → Option ρ) : Option ρ :=
 br (decide (v27 < v26))
 (br (decide ((0 : Int) ≤ v27))
  (br (decide (v27 < (↑v25.length : Int)))
   (br
    (decide
     ((h1.length + (v25.getD v27.toNat []).length) *
       1 ≤
      140737488355328))
    (nx v25 v26 (IntKind.i64.wrap (v27 + (1 : Int))) (h1 ++ v25.getD v27.toNat [])) none)
   none)
  none)
 (k0 v25 v26 v27 h1)
noncomputable def slices_Concat_byte_L11 {ρ : Type} (v25 : List (List Int)) (v26 : Int) (v27 : Int) (h1 : List Int) (k0 : (List (List Int)) → Int → Int → (List Int) → Option ρ) : Option ρ :=
 lp (fun (x : (List (List Int)) × Int × Int × (List Int)) next (ex : ((List (List Int)) × Int × Int × (List Int)) → Option ρ) => slices_Concat_byte_r11 x.1 x.2.1 x.2.2.1 x.2.2.2 (fun v25 v26 v27 h1 => next (v25, v26, v27, h1)) (fun v25 v26 v27 h1 => ex (v25, v26, v27, h1))) (v25, v26, v27, h1) (fun x => k0 x.1 x.2.1 x.2.2.1 x.2.2.2)
noncomputable def slices_Concat_byte_l11 {ρ : Type} := shut (slices_Concat_byte_L11 (ρ := ρ))
theorem slices_Concat_byte_l11_eq {ρ : Type} : slices_Concat_byte_l11 (ρ := ρ) = slices_Concat_byte_L11 := shut_eq _
noncomputable def slices_Concat_byte_raw {ρ : Type} (a0 : List (List Int)) (k : (List Int) → Option ρ) : Option ρ :=
 slices_Concat_byte_l3 a0 (0 : Int) a0 (↑a0.length : Int) (0 : Int)
 fun (q0 : List (List Int)) (q1 : Int) (q2 : List (List Int)) (q3 q4 : Int) =>
 slices_Grow_byte q1 fun (q5 : List Int) =>
  slices_Concat_byte_l11 q0 (↑q0.length : Int) (0 : Int) q5
   fun (q6 : List (List Int)) (q7 q8 : Int) (q9 : List Int) => k q9
noncomputable def slices_Concat_byte {ρ : Type} := shut (slices_Concat_byte_raw (ρ := ρ))
theorem slices_Concat_byte_eq {ρ : Type} (a0 : List (List Int)) (k : (List Int) → Option ρ) : slices_Concat_byte a0 k = slices_Concat_byte_raw a0 k := by unfold slices_Concat_byte; rw [shut_eq]
end P
end

section
open Go Go.Abs
set_option linter.unusedVariables false
namespace P
noncomputable def bits_Join_raw {ρ : Type} (a0 : List (List Int)) (k : (List Int) → Option ρ) : Option ρ :=
 slices_Concat_byte a0 fun (q0 : List Int) => k q0
noncomputable def bits_Join {ρ : Type} := shut (bits_Join_raw (ρ := ρ))
theorem bits_Join_eq {ρ : Type} (a0 : List (List Int)) (k : (List Int) → Option ρ) : bits_Join a0 k = bits_Join_raw a0 k := by unfold bits_Join; rw [shut_eq]
end P
end

section
open Go Go.Abs
set_option linter.unusedVariables false
namespace P
noncomputable def wots_Put_raw {ρ : Type} (a0 : List Int) (a1 : Int) (a2 : Int) (k : (List Int) → Option ρ) : Option ρ :=
 br (a1 == (0 : Int))
 (bits_Be a2 (4 : Int) fun (q0 : List Int) =>
  k ((List.take 4 q0).append (List.drop (0 + min 4 q0.length) a0)))
 (br (a1 == (1 : Int))
  (bits_Be a2 (12 : Int) fun (q1 : List Int) =>
   k
    ((List.take 4 a0).append
     (List.take 12 q1 ++ List.drop (4 + min 12 q1.length) a0)))
  (br (a1 == (2 : Int))
   (bits_Be a2 (4 : Int) fun (q2 : List Int) =>
    bits_Join [q2, List.replicate 12 (0 : Int)] fun (q3 : List Int) =>
     k
      ((List.take 16 a0).append
       (List.take 16 q3 ++ List.drop (16 + min 16 q3.length) a0)))
   (br (a1 == (3 : Int))
    (br (a1 == (3 : Int))
     (br (decide ((0 : Int) ≤ IntKind.i64.wrap ((8 : Int) + IntKind.i64.wrap ((4 : Int) * a1))))
      (br (decide (IntKind.i64.wrap ((8 : Int) + IntKind.i64.wrap ((4 : Int) * a1)) ≤ (↑32 : Int)))
       (bits_Be a2 (4 : Int) fun (q4 : List Int) =>
        k
         ((List.take (IntKind.i64.wrap ((8 : Int) + IntKind.i64.wrap ((4 : Int) * a1))).toNat a0).append
          (List.take
            ((↑32 : Int) - IntKind.i64.wrap ((8 : Int) + IntKind.i64.wrap ((4 : Int) * a1))).toNat
            q4 ++
           List.drop
            ((IntKind.i64.wrap ((8 : Int) + IntKind.i64.wrap ((4 : Int) * a1))).toNat +
             min
              ((↑32 : Int) -
                IntKind.i64.wrap ((8 : Int) + IntKind.i64.wrap ((4 : Int) * a1))).toNat
              q4.length)
            a0)))
       none)
      none)
     (k a0))
    (br (a1 == (4 : Int))
     (br (a1 == (4 : Int))
      (br (decide ((0 : Int) ≤ IntKind.i64.wrap ((8 : Int) + IntKind.i64.wrap ((4 : Int) * a1))))
       (br (decide (IntKind.i64.wrap ((8 : Int) + IntKind.i64.wrap ((4 : Int) * a1)) ≤ (↑32 : Int)))
        (bits_Be a2 (4 : Int) fun (q5 : List Int) =>
         k
          ((List.take (IntKind.i64.wrap ((8 : Int) + IntKind.i64.wrap ((4 : Int) * a1))).toNat a0).append
           (List.take
             ((↑32 : Int) -
               IntKind.i64.wrap ((8 : Int) + IntKind.i64.wrap ((4 : Int) * a1))).toNat
             q5 ++
            List.drop
             ((IntKind.i64.wrap ((8 : Int) + IntKind.i64.wrap ((4 : Int) * a1))).toNat +
              min
               ((↑32 : Int) -
                 IntKind.i64.wrap ((8 : Int) + IntKind.i64.wrap ((4 : Int) * a1))).toNat
               q5.length)
             a0)))
        none)
       none)
      (k a0))
     (br (a1 == (5 : Int))
      (br (decide ((0 : Int) ≤ IntKind.i64.wrap ((8 : Int) + IntKind.i64.wrap ((4 : Int) * a1))))
       (br (decide (IntKind.i64.wrap ((8 : Int) + IntKind.i64.wrap ((4 : Int) * a1)) ≤ (↑32 : Int)))
        (bits_Be a2 (4 : Int) fun (q6 : List Int) =>
         k
          ((List.take (IntKind.i64.wrap ((8 : Int) + IntKind.i64.wrap ((4 : Int) * a1))).toNat a0).append
           (List.take
             ((↑32 : Int) -
               IntKind.i64.wrap ((8 : Int) + IntKind.i64.wrap ((4 : Int) * a1))).toNat
             q6 ++
            List.drop
             ((IntKind.i64.wrap ((8 : Int) + IntKind.i64.wrap ((4 : Int) * a1))).toNat +
              min
               ((↑32 : Int) -
                 IntKind.i64.wrap ((8 : Int) + IntKind.i64.wrap ((4 : Int) * a1))).toNat
               q6.length)
             a0)))
        none)
       none)
      (k a0))))))
noncomputable def wots_Put {ρ : Type} := shut (wots_Put_raw (ρ := ρ))
theorem wots_Put_eq {ρ : Type} (a0 : List Int) (a1 : Int) (a2 : Int) (k : (List Int) → Option ρ) : wots_Put a0 a1 a2 k = wots_Put_raw a0 a1 a2 k := by unfold wots_Put; rw [shut_eq]
end P
end

section
open Go Go.Abs
set_option linter.unusedVariables false
namespace P
noncomputable def bits_such_raw {ρ : Type} (a0 : List Int) (a1 : Int) (a2 : Int) (k : Bool → Option ρ) : Option ρ :=
 br (decide (a1 ≥ (1 : Int)))
 (br (decide (a1 ≤ (24 : Int)))
  (br (decide (a2 ≥ (0 : Int)))
   (br (decide (a1 = (0 : Int))) none
    (k (decide (a2 ≤ IntKind.i64.wrap ((IntKind.i64.wrap ((↑a0.length : Int) * (8 : Int))).tdiv a1)))))
   (k false))
  (k false))
 (k false)
noncomputable def bits_such {ρ : Type} := shut (bits_such_raw (ρ := ρ))
theorem bits_such_eq {ρ : Type} (a0 : List Int) (a1 : Int) (a2 : Int) (k : Bool → Option ρ) : bits_such a0 a1 a2 k = bits_such_raw a0 a1 a2 k := by unfold bits_such; rw [shut_eq]
end P
end

section
open Go Go.Abs
set_option linter.unusedVariables false
namespace P
noncomputable def bits_Digits_r8 {ρ : Type} (v0 : List Int) (v1 : Int) (v8 : Int) (v9 : Int) (v10 : Int) (v19 : Int) (v20 : Int) (h0 : List Int) (nx : (List Int) → Int → Int → Int → Int → Int → Int → (List Int) → Option ρ) (k0 : (List Int) → Int → Int → Int → Int → Int → Int → (List Int) → Option ρ) : Option ρ :=
 br (decide (v9 < v1))
 (br (decide ((0 : Int) < (↑v0.length : Int)))
  (br (decide ((1 : Int) ≤ (↑v0.length : Int)))
   (br (decide ((↑v0.length : Int) ≤ (↑v0.length : Int)))
    (nx (List.drop 1 (List.take (↑v0.length : Int).toNat v0)) v1
     (bits BinOp.or IntKind.u64 (IntKind.u64.wrap (v8 * (2 : Int) ^ 8))
      (IntKind.u64.wrap (v0.getD 0 (0 : Int))))
     (IntKind.i64.wrap (v9 + (8 : Int))) v10 v19 v20 h0)
    none)
   none)
  none)
 (k0 v0 v1 v8 v9 v10 v19 v20 h0)
noncomputable def bits_Digits_L8 {ρ : Type} (v0 : List Int) (v1 : Int) (v8 : Int) (v9 : Int) (v10 : Int) (v19 : Int) (v20 : Int) (h0 : List Int) (k0 : (List Int) → Int → Int → Int → Int → Int → Int → (List Int) → Option ρ) : Option ρ :=
 lp (fun (x : (List Int) × Int × Int × Int × Int × Int × Int × (List Int)) next (ex : ((List Int) × Int × Int × Int × Int × Int × Int × (List Int)) → Option ρ) => bits_Digits_r8 x.1 x.2.1 x.2.2.1 x.2.2.2.1 x.2.2.2.2.1 x.2.2.2.2.2.1 x.2.2.2.2.2.2.1 x.2.2.2.2.2.2.2 (fun v0 v1 v8 v9 v10 v19 v20 h0 => next (v0, v1, v8, v9, v10, v19, v20, h0)) (fun v0 v1 v8 v9 v10 v19 v20 h0 => ex (v0, v1, v8, v9, v10, v19, v20, h0))) (v0, v1, v8, v9, v10, v19, v20, h0) (fun x => k0 x.1 x.2.1 x.2.2.1 x.2.2.2.1 x.2.2.2.2.1 x.2.2.2.2.2.1 x.2.2.2.2.2.2.1 x.2.2.2.2.2.2.2)
noncomputable def bits_Digits_l8 {ρ : Type} := shut (bits_Digits_L8 (ρ := ρ))
theorem bits_Digits_l8_eq {ρ : Type} : bits_Digits_l8 (ρ := ρ) = bits_Digits_L8 := shut_eq _
noncomputable def bits_Digits_r6 {ρ : Type} (v0 : List Int) (v1 : Int) (v8 : Int) (v9 : Int) (v19 : Int) (v20 : Int) (h0 : List Int) (nx : (List Int) → Int → Int → Int → Int → Int → (List Int) → Option ρ) (k0 : (List Int) → Int → Int → Int → Int → Int → (List Int) → Option ρ) : Option ρ :=
 br (decide (v20 < v19))
 (bits_Digits_l8 v0 v1 v8 v9 v20 v19 v20 h0 fun (q0 : List Int) (q1 q2 q3 q4 q5 q6 : Int) (q7 : List Int) =>
  br (decide (IntKind.i64.wrap (q3 - q1) < (0 : Int))) none
   (br (decide (q1 < (0 : Int))) none
    (br (decide ((0 : Int) ≤ q4))
     (br (decide (q4 < (↑q7.length : Int)))
      (nx q0 q1 q2 (IntKind.i64.wrap (q3 - q1)) q5 (IntKind.i64.wrap (q6 + (1 : Int)))
       (q7.set q4.toNat
        (IntKind.u32.wrap
         (bits BinOp.and IntKind.u64
          (q2.fdiv ((2 : Int) ^ min (IntKind.i64.wrap (q3 - q1)).toNat 64))
          (IntKind.u64.wrap
           (IntKind.u64.wrap ((1 : Int) * (2 : Int) ^ min q1.toNat 64) - (1 : Int)))))))
      none)
     none)))
 (k0 v0 v1 v8 v9 v19 v20 h0)
noncomputable def bits_Digits_L6 {ρ : Type} (v0 : List Int) (v1 : Int) (v8 : Int) (v9 : Int) (v19 : Int) (v20 : Int) (h0 : List Int) (k0 : (List Int) → Int → Int → Int → Int → Int → (List Int) → Option ρ) : Option ρ :=
 lp (fun (x : (List Int) × Int × Int × Int × Int × Int × (List Int)) next (ex : ((List Int) × Int × Int × Int × Int × Int × (List Int)) → Option ρ) => bits_Digits_r6 x.1 x.2.1 x.2.2.1 x.2.2.2.1 x.2.2.2.2.1 x.2.2.2.2.2.1 x.2.2.2.2.2.2 (fun v0 v1 v8 v9 v19 v20 h0 => next (v0, v1, v8, v9, v19, v20, h0)) (fun v0 v1 v8 v9 v19 v20 h0 => ex (v0, v1, v8, v9, v19, v20, h0))) (v0, v1, v8, v9, v19, v20, h0) (fun x => k0 x.1 x.2.1 x.2.2.1 x.2.2.2.1 x.2.2.2.2.1 x.2.2.2.2.2.1 x.2.2.2.2.2.2)
noncomputable def bits_Digits_l6 {ρ : Type} := shut (bits_Digits_L6 (ρ := ρ))
theorem bits_Digits_l6_eq {ρ : Type} : bits_Digits_l6 (ρ := ρ) = bits_Digits_L6 := shut_eq _
noncomputable def bits_Digits_raw {ρ : Type} (a0 : List Int) (a1 : Int) (a2 : Int) (k : (List Int) → Option ρ) : Option ρ :=
 bits_such a0 a1 a2 fun (q0 : Bool) =>
 br (!q0) (k [])
  (br (decide ((0 : Int) ≤ a2))
   (br (decide (a2 ≤ a2))
    (br (decide (a2 * (↑4 : Int) ≤ (↑140737488355328 : Int)))
     (bits_Digits_l6 a0 a1 (0 : Int) (0 : Int) (↑(List.replicate a2.toNat (0 : Int)).length : Int) (0 : Int)
      (List.replicate a2.toNat (0 : Int)) fun (q1 : List Int) (q2 q3 q4 q5 q6 : Int) (q7 : List Int) => k q7)
     none)
    none)
   none)
noncomputable def bits_Digits {ρ : Type} := shut (bits_Digits_raw (ρ := ρ))
theorem bits_Digits_eq {ρ : Type} (a0 : List Int) (a1 : Int) (a2 : Int) (k : (List Int) → Option ρ) : bits_Digits a0 a1 a2 k = bits_Digits_raw a0 a1 a2 k := by unfold bits_Digits; rw [shut_eq]
end P
end

section
open Go Go.Abs
set_option linter.unusedVariables false
namespace P
noncomputable def wots_Digits_r6 {ρ : Type} (v6 : Int) (v34 : Int) (v35 : Int) (h0 : List Int) (nx : Int → Int → Int → (List Int) → Option ρ) (k0 : Int → Int → Int → (List Int) → Option ρ) : Option ρ :=
 br (decide (v35 < v34))
 (br (decide ((0 : Int) ≤ v35))
  (br (decide (v35 < (↑h0.length : Int)))
   (nx (IntKind.u32.wrap (v6 - h0.getD v35.toNat (0 : Int))) v34 (IntKind.i64.wrap (v35 + (1 : Int))) h0) none)
  none)
 (k0 v6 v34 v35 h0)
noncomputable def wots_Digits_L6 {ρ : Type} (v6 : Int) (v34 : Int) (v35 : Int) (h0 : List Int) (k0 : Int → Int → Int → (List Int) → Option ρ) : Option ρ :=
 lp (fun (x : Int × Int × Int × (List Int)) next (ex : (Int × Int × Int × (List Int)) → Option ρ) => wots_Digits_r6 x.1 x.2.1 x.2.2.1 x.2.2.2 (fun v6 v34 v35 h0 => next (v6, v34, v35, h0)) (fun v6 v34 v35 h0 => ex (v6, v34, v35, h0))) (v6, v34, v35, h0) (fun x => k0 x.1 x.2.1 x.2.2.1 x.2.2.2)
noncomputable def wots_Digits_l6 {ρ : Type} := shut (wots_Digits_L6 (ρ := ρ))
theorem wots_Digits_l6_eq {ρ : Type} : wots_Digits_l6 (ρ := ρ) = wots_Digits_L6 := shut_eq _
noncomputable def wots_Digits_raw {ρ : Type} (a0 : Int) (a1 : List Int) (k : (List Int) → Option ρ) : Option ρ :=
 br (a0 != (16 : Int))
 (br (a0 != (24 : Int))
  (br (a0 != (32 : Int)) (k [])
   (br ((↑a1.length : Int) != a0) (k [])
    (bits_Digits a1 (4 : Int) (IntKind.i64.wrap ((2 : Int) * a0)) fun (q0 : List Int) =>
     wots_Digits_l6 (IntKind.u32.wrap (IntKind.i64.wrap ((15 : Int) * (↑q0.length : Int)))) (↑q0.length : Int)
      (0 : Int) q0 fun (q1 q2 q3 : Int) (q4 : List Int) =>
      br
       (decide
        ((q4.length +
           ([bits BinOp.and IntKind.u32 (q1.fdiv ((2 : Int) ^ 4)) (15 : Int),
                bits BinOp.and IntKind.u32 q1 (15 : Int)].length.add
             0).succ) *
          4 ≤
         140737488355328))
       (k
        (q4 ++
         [q1.fdiv ((2 : Int) ^ 8),
          bits BinOp.and IntKind.u32 (q1.fdiv ((2 : Int) ^ 4)) (15 : Int),
          bits BinOp.and IntKind.u32 q1 (15 : Int)]))
       none)))
  (br ((↑a1.length : Int) != a0) (k [])
   (bits_Digits a1 (4 : Int) (IntKind.i64.wrap ((2 : Int) * a0)) fun (q5 : List Int) =>
    wots_Digits_l6 (IntKind.u32.wrap (IntKind.i64.wrap ((15 : Int) * (↑q5.length : Int)))) (↑q5.length : Int)
     (0 : Int) q5 fun (q6 q7 q8 : Int) (q9 : List Int) =>
     br
      (decide
       ((q9.length +
          ([bits BinOp.and IntKind.u32 (q6.fdiv ((2 : Int) ^ 4)) (15 : Int),
               bits BinOp.and IntKind.u32 q6 (15 : Int)].length.add
            0).succ) *
         4 ≤
        140737488355328))
      (k
       (q9 ++
        [q6.fdiv ((2 : Int) ^ 8),
         bits BinOp.and IntKind.u32 (q6.fdiv ((2 : Int) ^ 4)) (15 : Int),
         bits BinOp.and IntKind.u32 q6 (15 : Int)]))
      none)))
 (br ((↑a1.length : Int) != a0) (k [])
  (bits_Digits a1 (4 : Int) (IntKind.i64.wrap ((2 : Int) * a0)) fun (q10 : List Int) =>
   wots_Digits_l6 (IntKind.u32.wrap (IntKind.i64.wrap ((15 : Int) * (↑q10.length : Int)))) (↑q10.length : Int)
    (0 : Int) q10 fun (q11 q12 q13 : Int) (q14 : List Int) =>
    br
     (decide
      ((q14.length +
         ([bits BinOp.and IntKind.u32 (q11.fdiv ((2 : Int) ^ 4)) (15 : Int),
              bits BinOp.and IntKind.u32 q11 (15 : Int)].length.add
           0).succ) *
        4 ≤
       140737488355328))
     (k
      (q14 ++
       [q11.fdiv ((2 : Int) ^ 8),
        bits BinOp.and IntKind.u32 (q11.fdiv ((2 : Int) ^ 4)) (15 : Int),
        bits BinOp.and IntKind.u32 q11 (15 : Int)]))
     none))
noncomputable def wots_Digits {ρ : Type} := shut (wots_Digits_raw (ρ := ρ))
theorem wots_Digits_eq {ρ : Type} (a0 : Int) (a1 : List Int) (k : (List Int) → Option ρ) : wots_Digits a0 a1 k = wots_Digits_raw a0 a1 k := by unfold wots_Digits; rw [shut_eq]
end P
end

section
open Go Go.Abs
set_option linter.unusedVariables false
namespace P
noncomputable def L17_awake_raw {ρ : Type}  (k : Bool → Option ρ) : Option ρ :=
 wots_Digits (16 : Int) (List.replicate 16 (0 : Int)) fun (q0 : List Int) =>
 wots_Put
  [(0 : Int), (0 : Int), (0 : Int), (0 : Int), (0 : Int), (0 : Int), (0 : Int), (0 : Int), (0 : Int), (0 : Int),
   (0 : Int), (0 : Int), (0 : Int), (0 : Int), (0 : Int), (0 : Int), (0 : Int), (0 : Int), (0 : Int), (0 : Int),
   (0 : Int), (0 : Int), (0 : Int), (0 : Int), (0 : Int), (0 : Int), (0 : Int), (0 : Int), (0 : Int), (0 : Int),
   (0 : Int), (0 : Int)]
  (4 : Int) (7 : Int) fun (q1 : List Int) =>
  wots_Put q1 (2 : Int) (2 : Int) fun (q2 : List Int) =>
   br ((↑q0.length : Int) == (35 : Int))
    (br (decide ((0 : Int) < (↑q0.length : Int)))
     (br (q0.getD 0 (0 : Int) == (0 : Int))
      (br (decide ((32 : Int) < (↑q0.length : Int)))
       (br (q0.getD 32 (0 : Int) == (1 : Int))
        (br (decide ((33 : Int) < (↑q0.length : Int)))
         (br (q0.getD 33 (0 : Int) == (14 : Int))
          (br (decide ((34 : Int) < (↑q0.length : Int)))
           (br (q0.getD 34 (0 : Int) == (0 : Int))
            (br (q2.getD 19 (0 : Int) == (2 : Int))
             (br (q2.getD 27 (0 : Int) == (0 : Int))
              (wots_Put
               [(0 : Int), (0 : Int), (0 : Int), (0 : Int), (0 : Int), (0 : Int), (0 : Int), (0 : Int),
                (0 : Int), (0 : Int), (0 : Int), (0 : Int), (0 : Int), (0 : Int), (0 : Int), (0 : Int),
                (0 : Int), (0 : Int), (0 : Int), (0 : Int), (0 : Int), (0 : Int), (0 : Int), (0 : Int),
                (0 : Int), (0 : Int), (0 : Int), (0 : Int), (0 : Int), (0 : Int), (0 : Int), (0 : Int)]
               (4 : Int) (7 : Int) fun (q3 : List Int) =>
               k (q3.getD 27 (0 : Int) == (7 : Int)))
              (k false))
             (k false))
            (k false))
           none)
          (k false))
         none)
        (k false))
       none)
      (k false))
     none)
    (k false)
noncomputable def L17_awake {ρ : Type} := shut (L17_awake_raw (ρ := ρ))
theorem L17_awake_eq {ρ : Type}  (k : Bool → Option ρ) : L17_awake  k = L17_awake_raw  k := by unfold L17_awake; rw [shut_eq]
end P
end

section
open Go Go.Abs
set_option linter.unusedVariables false
namespace P
noncomputable def wots_Fit_raw {ρ : Type} (a0_N : Int) (a0_H : Int) (a0_D : Int) (a0_A : Int) (a0_K : Int) (a0_Shake : Bool) (k : Bool → Option ρ) : Option ρ :=
 br (a0_N != (16 : Int))
 (br (a0_N != (24 : Int))
  (br (a0_N != (32 : Int)) (k false)
   (br (decide (a0_D < (1 : Int))) (k false)
    (br (decide (a0_H < a0_D)) (k false)
     (br (decide (a0_H > (68 : Int))) (k false)
      (br (decide (a0_D = (0 : Int))) none
       (br (a0_H.tmod a0_D != (0 : Int)) (k false)
        (br (decide (a0_D = (0 : Int))) none
         (br (decide (IntKind.i64.wrap (a0_H.tdiv a0_D) > (9 : Int))) (k false)
          (br (decide (a0_A ≥ (1 : Int)))
           (br (decide (a0_A ≤ (14 : Int)))
            (br (decide (a0_K ≥ (1 : Int))) (k (decide (a0_K ≤ (40 : Int)))) (k false)) (k false))
           (k false))))))))))
  (br (decide (a0_D < (1 : Int))) (k false)
   (br (decide (a0_H < a0_D)) (k false)
    (br (decide (a0_H > (68 : Int))) (k false)
     (br (decide (a0_D = (0 : Int))) none
      (br (a0_H.tmod a0_D != (0 : Int)) (k false)
       (br (decide (a0_D = (0 : Int))) none
        (br (decide (IntKind.i64.wrap (a0_H.tdiv a0_D) > (9 : Int))) (k false)
         (br (decide (a0_A ≥ (1 : Int)))
          (br (decide (a0_A ≤ (14 : Int)))
           (br (decide (a0_K ≥ (1 : Int))) (k (decide (a0_K ≤ (40 : Int)))) (k false)) (k false))
          (k false))))))))))
 (br (decide (a0_D < (1 : Int))) (k false)
  (br (decide (a0_H < a0_D)) (k false)
   (br (decide (a0_H > (68 : Int))) (k false)
    (br (decide (a0_D = (0 : Int))) none
     (br (a0_H.tmod a0_D != (0 : Int)) (k false)
      (br (decide (a0_D = (0 : Int))) none
       (br (decide (IntKind.i64.wrap (a0_H.tdiv a0_D) > (9 : Int))) (k false)
        (br (decide (a0_A ≥ (1 : Int)))
         (br (decide (a0_A ≤ (14 : Int)))
          (br (decide (a0_K ≥ (1 : Int))) (k (decide (a0_K ≤ (40 : Int)))) (k false)) (k false))
         (k false)))))))))
noncomputable def wots_Fit {ρ : Type} := shut (wots_Fit_raw (ρ := ρ))
theorem wots_Fit_eq {ρ : Type} (a0_N : Int) (a0_H : Int) (a0_D : Int) (a0_A : Int) (a0_K : Int) (a0_Shake : Bool) (k : Bool → Option ρ) : wots_Fit a0_N a0_H a0_D a0_A a0_K a0_Shake k = wots_Fit_raw a0_N a0_H a0_D a0_A a0_K a0_Shake k := by unfold wots_Fit; rw [shut_eq]
end P
end

section
open Go Go.Abs
set_option linter.unusedVariables false
namespace P
noncomputable def keccak_rate_raw {ρ : Type} (a0 : Int) (k : Int → Option ρ) : Option ρ :=
 br (a0 == (4 : Int))
 (br (a0 == (4 : Int)) (k (136 : Int))
  (br (a0 == (5 : Int)) (k (72 : Int)) (br (a0 == (6 : Int)) (k (168 : Int)) (k (0 : Int)))))
 (br (a0 == (7 : Int)) (k (136 : Int))
  (br (a0 == (5 : Int)) (k (72 : Int)) (br (a0 == (6 : Int)) (k (168 : Int)) (k (0 : Int)))))
noncomputable def keccak_rate {ρ : Type} := shut (keccak_rate_raw (ρ := ρ))
theorem keccak_rate_eq {ρ : Type} (a0 : Int) (k : Int → Option ρ) : keccak_rate a0 k = keccak_rate_raw a0 k := by unfold keccak_rate; rw [shut_eq]
end P
end

section
open Go Go.Abs
set_option linter.unusedVariables false
namespace P
noncomputable def keccak_New_raw {ρ : Type} (a0 : Int) (k : Int → (List Int) → Int → Bool → Int → Option ρ) : Option ρ :=
 keccak_rate a0 fun (q0 : Int) =>
 br (q0 == (0 : Int))
  (k (0 : Int)
   [(0 : Int), (0 : Int), (0 : Int), (0 : Int), (0 : Int), (0 : Int), (0 : Int), (0 : Int), (0 : Int), (0 : Int),
    (0 : Int), (0 : Int), (0 : Int), (0 : Int), (0 : Int), (0 : Int), (0 : Int), (0 : Int), (0 : Int), (0 : Int),
    (0 : Int), (0 : Int), (0 : Int), (0 : Int), (0 : Int)]
   (0 : Int) false (9 : Int))
  (k a0
   [(0 : Int), (0 : Int), (0 : Int), (0 : Int), (0 : Int), (0 : Int), (0 : Int), (0 : Int), (0 : Int), (0 : Int),
    (0 : Int), (0 : Int), (0 : Int), (0 : Int), (0 : Int), (0 : Int), (0 : Int), (0 : Int), (0 : Int), (0 : Int),
    (0 : Int), (0 : Int), (0 : Int), (0 : Int), (0 : Int)]
   (0 : Int) false (0 : Int))
noncomputable def keccak_New {ρ : Type} := shut (keccak_New_raw (ρ := ρ))
theorem keccak_New_eq {ρ : Type} (a0 : Int) (k : Int → (List Int) → Int → Bool → Int → Option ρ) : keccak_New a0 k = keccak_New_raw a0 k := by unfold keccak_New; rw [shut_eq]
end P
end

section
open Go Go.Abs
set_option linter.unusedVariables false
namespace P
noncomputable def math_bits_RotateLeft64_raw {ρ : Type} (a0 : Int) (a1 : Int) (k : Int → Option ρ) : Option ρ :=
 br (decide (IntKind.u64.wrap ((64 : Int) - bits BinOp.and IntKind.u64 (IntKind.u64.wrap a1) (63 : Int)) < (0 : Int)))
 none
 (k
  (bits BinOp.or IntKind.u64
   (IntKind.u64.wrap
    (a0 * (2 : Int) ^ min (bits BinOp.and IntKind.u64 (IntKind.u64.wrap a1) (63 : Int)).toNat 64))
   (a0.fdiv
    ((2 : Int) ^
     min (IntKind.u64.wrap ((64 : Int) - bits BinOp.and IntKind.u64 (IntKind.u64.wrap a1) (63 : Int))).toNat
      64))))
noncomputable def math_bits_RotateLeft64 {ρ : Type} := shut (math_bits_RotateLeft64_raw (ρ := ρ))
theorem math_bits_RotateLeft64_eq {ρ : Type} (a0 : Int) (a1 : Int) (k : Int → Option ρ) : math_bits_RotateLeft64 a0 a1 k = math_bits_RotateLeft64_raw a0 a1 k := by unfold math_bits_RotateLeft64; rw [shut_eq]
end P
end

section
namespace P
@[irreducible] def roots256 : List Int := [1116352408, 1899447441, 3049323471, 3921009573, 961987163, 1508970993, 2453635748, 2870763221, 3624381080, 310598401, 607225278, 1426881987, 1925078388, 2162078206, 2614888103, 3248222580, 3835390401, 4022224774, 264347078, 604807628, 770255983, 1249150122, 1555081692, 1996064986, 2554220882, 2821834349, 2952996808, 3210313671, 3336571891, 3584528711, 113926993, 338241895, 666307205, 773529912, 1294757372, 1396182291, 1695183700, 1986661051, 2177026350, 2456956037, 2730485921, 2820302411, 3259730800, 3345764771, 3516065817, 3600352804, 4094571909, 275423344, 430227734, 506948616, 659060556, 883997877, 958139571, 1322822218, 1537002063, 1747873779, 1955562222, 2024104815, 2227730452, 2361852424, 2428436474, 2756734187, 3204031479, 3329325298]
@[irreducible] def roots512 : List Int := [4794697086780616226, 8158064640168781261, 13096744586834688815, 16840607885511220156, 4131703408338449720, 6480981068601479193, 10538285296894168987, 12329834152419229976, 15566598209576043074, 1334009975649890238, 2608012711638119052, 6128411473006802146, 8268148722764581231, 9286055187155687089, 11230858885718282805, 13951009754708518548, 16472876342353939154, 17275323862435702243, 1135362057144423861, 2597628984639134821, 3308224258029322869, 5365058923640841347, 6679025012923562964, 8573033837759648693, 10970295158949994411, 12119686244451234320, 12683024718118986047, 13788192230050041572, 14330467153632333762, 15395433587784984357, 489312712824947311, 1452737877330783856, 2861767655752347644, 3322285676063803686, 5560940570517711597, 5996557281743188959, 7280758554555802590, 8532644243296465576, 9350256976987008742, 10552545826968843579, 11727347734174303076, 12113106623233404929, 14000437183269869457, 14369950271660146224, 15101387698204529176, 15463397548674623760, 17586052441742319658, 1182934255886127544, 1847814050463011016, 2177327727835720531, 2830643537854262169, 3796741975233480872, 4115178125766777443, 5681478168544905931, 6601373596472566643, 7507060721942968483, 8399075790359081724, 8693463985226723168, 9568029438360202098, 10144078919501101548, 10430055236837252648, 11840083180663258601, 13761210420658862357, 14299343276471374635, 14566680578165727644, 15097957966210449927, 16922976911328602910, 17689382322260857208, 500013540394364858, 748580250866718886, 1242879168328830382, 1977374033974150939, 2944078676154940804, 3659926193048069267, 4368137639120453308, 4836135668995329356, 5532061633213252278, 6448918945643986474, 6902733635092675308, 7801388544844847127]
@[irreducible] def kcon : List Int := [1, 32898, 9223372036854808714, 9223372039002292224, 32907, 2147483649, 9223372039002292353, 9223372036854808585, 138, 136, 2147516425, 2147483658, 2147516555, 9223372036854775947, 9223372036854808713, 9223372036854808579, 9223372036854808578, 9223372036854775936, 32778, 9223372039002259466, 9223372039002292353, 9223372036854808704, 2147483649, 9223372039002292232]
@[irreducible] def kpla : List Int := [10, 7, 11, 17, 18, 3, 5, 16, 8, 21, 24, 4, 15, 23, 19, 13, 12, 2, 20, 14, 22, 9, 6, 1]
@[irreducible] def ktur : List Int := [1, 3, 6, 10, 15, 21, 28, 36, 45, 55, 2, 14, 27, 41, 56, 8, 25, 43, 62, 18, 39, 61, 20, 44]
end P
open Go Go.Abs
namespace GLO
end GLO
end

section
open Go Go.Abs
set_option linter.unusedVariables false
namespace P
noncomputable def keccak_Permute_r2_2 {ρ : Type} (v4 : Int) (h1_0 : List Int) (h0_0 : List Int) (h2_0 : List Int) (nx : Int → (List Int) → (List Int) → (List Int) → Option ρ) (k0 : Int → (List Int) → (List Int) → (List Int) → Option ρ) : Option ρ :=
 br (decide (v4 < (5 : Int)))
 (br (decide ((0 : Int) ≤ v4))
  (br (decide (v4 < (↑25 : Int)))
   (br (decide ((0 : Int) ≤ IntKind.i64.wrap (v4 + (5 : Int))))
    (br (decide (IntKind.i64.wrap (v4 + (5 : Int)) < (↑25 : Int)))
     (br (decide ((0 : Int) ≤ IntKind.i64.wrap (v4 + (10 : Int))))
      (br (decide (IntKind.i64.wrap (v4 + (10 : Int)) < (↑25 : Int)))
       (br (decide ((0 : Int) ≤ IntKind.i64.wrap (v4 + (15 : Int))))
        (br (decide (IntKind.i64.wrap (v4 + (15 : Int)) < (↑25 : Int)))
         (br (decide ((0 : Int) ≤ IntKind.i64.wrap (v4 + (20 : Int))))
          (br (decide (IntKind.i64.wrap (v4 + (20 : Int)) < (↑25 : Int)))
           (br (decide ((0 : Int) ≤ v4))
            (br (decide (v4 < (↑5 : Int)))
             (nx (IntKind.i64.wrap (v4 + (1 : Int))) h1_0 h0_0
              (h2_0.set v4.toNat
               (bits BinOp.xor IntKind.u64
                (bits BinOp.xor IntKind.u64
                 (bits BinOp.xor IntKind.u64
                  (bits BinOp.xor IntKind.u64 (h0_0.getD v4.toNat (0 : Int))
                   (h0_0.getD (IntKind.i64.wrap (v4 + (5 : Int))).toNat (0 : Int)))
                  (h0_0.getD (IntKind.i64.wrap (v4 + (10 : Int))).toNat (0 : Int)))
                 (h0_0.getD (IntKind.i64.wrap (v4 + (15 : Int))).toNat (0 : Int)))
                (h0_0.getD (IntKind.i64.wrap (v4 + (20 : Int))).toNat (0 : Int)))))
             none)
            none)
           none)
          none)
         none)
        none)
       none)
      none)
     none)
    none)
   none)
  none)
 (k0 v4 h1_0 h0_0 h2_0)
noncomputable def keccak_Permute_L2_2 {ρ : Type} (v4 : Int) (h1_0 : List Int) (h0_0 : List Int) (h2_0 : List Int) (k0 : Int → (List Int) → (List Int) → (List Int) → Option ρ) : Option ρ :=
 lp (fun (x : Int × (List Int) × (List Int) × (List Int)) next (ex : (Int × (List Int) × (List Int) × (List Int)) → Option ρ) => keccak_Permute_r2_2 x.1 x.2.1 x.2.2.1 x.2.2.2 (fun v4 h1_0 h0_0 h2_0 => next (v4, h1_0, h0_0, h2_0)) (fun v4 h1_0 h0_0 h2_0 => ex (v4, h1_0, h0_0, h2_0))) (v4, h1_0, h0_0, h2_0) (fun x => k0 x.1 x.2.1 x.2.2.1 x.2.2.2)
noncomputable def keccak_Permute_l2_2 {ρ : Type} := shut (keccak_Permute_L2_2 (ρ := ρ))
theorem keccak_Permute_l2_2_eq {ρ : Type} : keccak_Permute_l2_2 (ρ := ρ) = keccak_Permute_L2_2 := shut_eq _
noncomputable def keccak_Permute_r1_6 {ρ : Type} (v1 : Int) (v5 : Int) (v6 : Int) (v7 : Int) (v16 : Int) (h3_0 : List Int) (h2_0 : List Int) (h1_0 : List Int) (h0_0 : List Int) (nx : Int → Int → Int → Int → Int → (List Int) → (List Int) → (List Int) → (List Int) → Option ρ) (k0 : Int → Int → Int → Int → Int → (List Int) → (List Int) → (List Int) → (List Int) → Option ρ) : Option ρ :=
 br (decide (v7 < (25 : Int)))
 (br (decide ((0 : Int) ≤ IntKind.i64.wrap (v5 + v7)))
  (br (decide (IntKind.i64.wrap (v5 + v7) < (↑25 : Int)))
   (br (decide ((0 : Int) ≤ IntKind.i64.wrap (v5 + v7)))
    (br (decide (IntKind.i64.wrap (v5 + v7) < (↑25 : Int)))
     (nx v1 v5 v6 (IntKind.i64.wrap (v7 + (5 : Int))) v16 h3_0 h2_0 h1_0
      (h0_0.set (IntKind.i64.wrap (v5 + v7)).toNat
       (bits BinOp.xor IntKind.u64 (h0_0.getD (IntKind.i64.wrap (v5 + v7)).toNat (0 : Int)) v6)))
     none)
    none)
   none)
  none)
 (k0 v1 v5 v6 v7 v16 h3_0 h2_0 h1_0 h0_0)
noncomputable def keccak_Permute_L1_6 {ρ : Type} (v1 : Int) (v5 : Int) (v6 : Int) (v7 : Int) (v16 : Int) (h3_0 : List Int) (h2_0 : List Int) (h1_0 : List Int) (h0_0 : List Int) (k0 : Int → Int → Int → Int → Int → (List Int) → (List Int) → (List Int) → (List Int) → Option ρ) : Option ρ :=
 lp (fun (x : Int × Int × Int × Int × Int × (List Int) × (List Int) × (List Int) × (List Int)) next (ex : (Int × Int × Int × Int × Int × (List Int) × (List Int) × (List Int) × (List Int)) → Option ρ) => keccak_Permute_r1_6 x.1 x.2.1 x.2.2.1 x.2.2.2.1 x.2.2.2.2.1 x.2.2.2.2.2.1 x.2.2.2.2.2.2.1 x.2.2.2.2.2.2.2.1 x.2.2.2.2.2.2.2.2 (fun v1 v5 v6 v7 v16 h3_0 h2_0 h1_0 h0_0 => next (v1, v5, v6, v7, v16, h3_0, h2_0, h1_0, h0_0)) (fun v1 v5 v6 v7 v16 h3_0 h2_0 h1_0 h0_0 => ex (v1, v5, v6, v7, v16, h3_0, h2_0, h1_0, h0_0))) (v1, v5, v6, v7, v16, h3_0, h2_0, h1_0, h0_0) (fun x => k0 x.1 x.2.1 x.2.2.1 x.2.2.2.1 x.2.2.2.2.1 x.2.2.2.2.2.1 x.2.2.2.2.2.2.1 x.2.2.2.2.2.2.2.1 x.2.2.2.2.2.2.2.2)
noncomputable def keccak_Permute_l1_6 {ρ : Type} := shut (keccak_Permute_L1_6 (ρ := ρ))
theorem keccak_Permute_l1_6_eq {ρ : Type} : keccak_Permute_l1_6 (ρ := ρ) = keccak_Permute_L1_6 := shut_eq _
noncomputable def keccak_Permute_r1_2 {ρ : Type} (v1 : Int) (v16 : Int) (h0_0 : List Int) (h1_0 : List Int) (h2_0 : List Int) (h3_0 : List Int) (nx : Int → Int → (List Int) → (List Int) → (List Int) → (List Int) → Option ρ) (k0 : Int → Int → (List Int) → (List Int) → (List Int) → (List Int) → Option ρ) : Option ρ :=
 br (decide (v16 < (5 : Int)))
 (br (decide ((0 : Int) ≤ (IntKind.i64.wrap (v16 + (4 : Int))).tmod (5 : Int)))
  (br (decide ((IntKind.i64.wrap (v16 + (4 : Int))).tmod (5 : Int) < (↑5 : Int)))
   (br (decide ((0 : Int) ≤ (IntKind.i64.wrap (v16 + (1 : Int))).tmod (5 : Int)))
    (br (decide ((IntKind.i64.wrap (v16 + (1 : Int))).tmod (5 : Int) < (↑5 : Int)))
     (math_bits_RotateLeft64 (h3_0.getD ((IntKind.i64.wrap (v16 + (1 : Int))).tmod (5 : Int)).toNat (0 : Int))
      (1 : Int) fun (q0 : Int) =>
      keccak_Permute_l1_6 v1 v16
       (bits BinOp.xor IntKind.u64
        (h3_0.getD ((IntKind.i64.wrap (v16 + (4 : Int))).tmod (5 : Int)).toNat (0 : Int)) q0)
       (0 : Int) v16 h3_0 h2_0 h1_0 h0_0 fun (q1 q2 q3 q4 q5 : Int) (q6 q7 q8 q9 : List Int) =>
       nx q1 (IntKind.i64.wrap (q5 + (1 : Int))) q9 q8 q7 q6)
     none)
    none)
   none)
  none)
 (k0 v1 v16 h0_0 h1_0 h2_0 h3_0)
noncomputable def keccak_Permute_L1_2 {ρ : Type} (v1 : Int) (v16 : Int) (h0_0 : List Int) (h1_0 : List Int) (h2_0 : List Int) (h3_0 : List Int) (k0 : Int → Int → (List Int) → (List Int) → (List Int) → (List Int) → Option ρ) : Option ρ :=
 lp (fun (x : Int × Int × (List Int) × (List Int) × (List Int) × (List Int)) next (ex : (Int × Int × (List Int) × (List Int) × (List Int) × (List Int)) → Option ρ) => keccak_Permute_r1_2 x.1 x.2.1 x.2.2.1 x.2.2.2.1 x.2.2.2.2.1 x.2.2.2.2.2 (fun v1 v16 h0_0 h1_0 h2_0 h3_0 => next (v1, v16, h0_0, h1_0, h2_0, h3_0)) (fun v1 v16 h0_0 h1_0 h2_0 h3_0 => ex (v1, v16, h0_0, h1_0, h2_0, h3_0))) (v1, v16, h0_0, h1_0, h2_0, h3_0) (fun x => k0 x.1 x.2.1 x.2.2.1 x.2.2.2.1 x.2.2.2.2.1 x.2.2.2.2.2)
noncomputable def keccak_Permute_l1_2 {ρ : Type} := shut (keccak_Permute_L1_2 (ρ := ρ))
theorem keccak_Permute_l1_2_eq {ρ : Type} : keccak_Permute_l1_2 (ρ := ρ) = keccak_Permute_L1_2 := shut_eq _
noncomputable def keccak_Permute_r1_12 {ρ : Type} (v1 : Int) (v8 : Int) (v51 : List Int) (v52 : Int) (h3_0 : List Int) (h2_0 : List Int) (h1_0 : List Int) (h0_0 : List Int) (nx : Int → Int → (List Int) → Int → (List Int) → (List Int) → (List Int) → (List Int) → Option ρ) (k0 : Int → Int → (List Int) → Int → (List Int) → (List Int) → (List Int) → (List Int) → Option ρ) : Option ρ :=
 br (decide (v52 < (24 : Int)))
 (br (decide ((0 : Int) ≤ v52))
  (br (decide (v52 < (↑24 : Int)))
   (br (decide ((0 : Int) ≤ v52))
    (br (decide (v52 < (↑24 : Int)))
     (math_bits_RotateLeft64 v8 (ktur.getD v52.toNat (0 : Int)) fun (q0 : Int) =>
      br (decide ((0 : Int) ≤ v51.getD v52.toNat (0 : Int)))
       (br (decide (v51.getD v52.toNat (0 : Int) < (↑25 : Int)))
        (br (decide ((0 : Int) ≤ v51.getD v52.toNat (0 : Int)))
         (br (decide (v51.getD v52.toNat (0 : Int) < (↑25 : Int)))
          (nx v1 (h0_0.getD (v51.getD v52.toNat (0 : Int)).toNat (0 : Int)) v51
           (IntKind.i64.wrap (v52 + (1 : Int))) h3_0 h2_0 h1_0
           (h0_0.set (v51.getD v52.toNat (0 : Int)).toNat q0))
          none)
         none)
        none)
       none)
     none)
    none)
   none)
  none)
 (k0 v1 v8 v51 v52 h3_0 h2_0 h1_0 h0_0)
noncomputable def keccak_Permute_L1_12 {ρ : Type} (v1 : Int) (v8 : Int) (v51 : List Int) (v52 : Int) (h3_0 : List Int) (h2_0 : List Int) (h1_0 : List Int) (h0_0 : List Int) (k0 : Int → Int → (List Int) → Int → (List Int) → (List Int) → (List Int) → (List Int) → Option ρ) : Option ρ :=
 lp (fun (x : Int × Int × (List Int) × Int × (List Int) × (List Int) × (List Int) × (List Int)) next (ex : (Int × Int × (List Int) × Int × (List Int) × (List Int) × (List Int) × (List Int)) → Option ρ) => keccak_Permute_r1_12 x.1 x.2.1 x.2.2.1 x.2.2.2.1 x.2.2.2.2.1 x.2.2.2.2.2.1 x.2.2.2.2.2.2.1 x.2.2.2.2.2.2.2 (fun v1 v8 v51 v52 h3_0 h2_0 h1_0 h0_0 => next (v1, v8, v51, v52, h3_0, h2_0, h1_0, h0_0)) (fun v1 v8 v51 v52 h3_0 h2_0 h1_0 h0_0 => ex (v1, v8, v51, v52, h3_0, h2_0, h1_0, h0_0))) (v1, v8, v51, v52, h3_0, h2_0, h1_0, h0_0) (fun x => k0 x.1 x.2.1 x.2.2.1 x.2.2.2.1 x.2.2.2.2.1 x.2.2.2.2.2.1 x.2.2.2.2.2.2.1 x.2.2.2.2.2.2.2)
noncomputable def keccak_Permute_l1_12 {ρ : Type} := shut (keccak_Permute_L1_12 (ρ := ρ))
theorem keccak_Permute_l1_12_eq {ρ : Type} : keccak_Permute_l1_12 (ρ := ρ) = keccak_Permute_L1_12 := shut_eq _
noncomputable def keccak_Permute_r1_21 {ρ : Type} (v1 : Int) (v11 : Int) (v83 : Int) (h3_0 : List Int) (h2_0 : List Int) (h1_0 : List Int) (h0_0 : List Int) (h4_0 : List Int) (nx : Int → Int → Int → (List Int) → (List Int) → (List Int) → (List Int) → (List Int) → Option ρ) (k0 : Int → Int → Int → (List Int) → (List Int) → (List Int) → (List Int) → (List Int) → Option ρ) : Option ρ :=
 br (decide (v83 < (5 : Int)))
 (br (decide ((0 : Int) ≤ v83))
  (br (decide (v83 < (↑5 : Int)))
   (br (decide ((0 : Int) ≤ (IntKind.i64.wrap (v83 + (2 : Int))).tmod (5 : Int)))
    (br (decide ((IntKind.i64.wrap (v83 + (2 : Int))).tmod (5 : Int) < (↑5 : Int)))
     (br (decide ((0 : Int) ≤ (IntKind.i64.wrap (v83 + (1 : Int))).tmod (5 : Int)))
      (br (decide ((IntKind.i64.wrap (v83 + (1 : Int))).tmod (5 : Int) < (↑5 : Int)))
       (br (decide ((0 : Int) ≤ IntKind.i64.wrap (v11 + v83)))
        (br (decide (IntKind.i64.wrap (v11 + v83) < (↑25 : Int)))
         (nx v1 v11 (IntKind.i64.wrap (v83 + (1 : Int))) h3_0 h2_0 h1_0
          (h0_0.set (IntKind.i64.wrap (v11 + v83)).toNat
           (bits BinOp.xor IntKind.u64 (h4_0.getD v83.toNat (0 : Int))
            (bits BinOp.andNot IntKind.u64
             (h4_0.getD ((IntKind.i64.wrap (v83 + (2 : Int))).tmod (5 : Int)).toNat (0 : Int))
             (h4_0.getD ((IntKind.i64.wrap (v83 + (1 : Int))).tmod (5 : Int)).toNat (0 : Int)))))
          h4_0)
         none)
        none)
       none)
      none)
     none)
    none)
   none)
  none)
 (k0 v1 v11 v83 h3_0 h2_0 h1_0 h0_0 h4_0)
noncomputable def keccak_Permute_L1_21 {ρ : Type} (v1 : Int) (v11 : Int) (v83 : Int) (h3_0 : List Int) (h2_0 : List Int) (h1_0 : List Int) (h0_0 : List Int) (h4_0 : List Int) (k0 : Int → Int → Int → (List Int) → (List Int) → (List Int) → (List Int) → (List Int) → Option ρ) : Option ρ :=
 lp (fun (x : Int × Int × Int × (List Int) × (List Int) × (List Int) × (List Int) × (List Int)) next (ex : (Int × Int × Int × (List Int) × (List Int) × (List Int) × (List Int) × (List Int)) → Option ρ) => keccak_Permute_r1_21 x.1 x.2.1 x.2.2.1 x.2.2.2.1 x.2.2.2.2.1 x.2.2.2.2.2.1 x.2.2.2.2.2.2.1 x.2.2.2.2.2.2.2 (fun v1 v11 v83 h3_0 h2_0 h1_0 h0_0 h4_0 => next (v1, v11, v83, h3_0, h2_0, h1_0, h0_0, h4_0)) (fun v1 v11 v83 h3_0 h2_0 h1_0 h0_0 h4_0 => ex (v1, v11, v83, h3_0, h2_0, h1_0, h0_0, h4_0))) (v1, v11, v83, h3_0, h2_0, h1_0, h0_0, h4_0) (fun x => k0 x.1 x.2.1 x.2.2.1 x.2.2.2.1 x.2.2.2.2.1 x.2.2.2.2.2.1 x.2.2.2.2.2.2.1 x.2.2.2.2.2.2.2)
noncomputable def keccak_Permute_l1_21 {ρ : Type} := shut (keccak_Permute_L1_21 (ρ := ρ))
theorem keccak_Permute_l1_21_eq {ρ : Type} : keccak_Permute_l1_21 (ρ := ρ) = keccak_Permute_L1_21 := shut_eq _
noncomputable def keccak_Permute_r1_17 {ρ : Type} (v1 : Int) (v11 : Int) (h0_0 : List Int) (h1_0 : List Int) (h2_0 : List Int) (h3_0 : List Int) (nx : Int → Int → (List Int) → (List Int) → (List Int) → (List Int) → Option ρ) (k0 : Int → Int → (List Int) → (List Int) → (List Int) → (List Int) → Option ρ) : Option ρ :=
 br (decide (v11 < (25 : Int)))
 (br (decide ((0 : Int) ≤ v11))
  (br (decide (v11 ≤ IntKind.i64.wrap (v11 + (5 : Int))))
   (br (decide (IntKind.i64.wrap (v11 + (5 : Int)) ≤ (↑25 : Int)))
    (br (decide (5 ≤ (IntKind.i64.wrap (v11 + (5 : Int)) - v11).toNat))
     (br (decide (v11.toNat + 5 ≤ 25))
      (keccak_Permute_l1_21 v1 v11 (0 : Int) h3_0 h2_0 h1_0 h0_0
       (List.take 5 (List.drop v11.toNat h0_0)) fun (q0 q1 q2 : Int) (q3 q4 q5 q6 q7 : List Int) =>
       nx q0 (IntKind.i64.wrap (q1 + (5 : Int))) q6 q5 q4 q3)
      none)
     none)
    none)
   none)
  none)
 (k0 v1 v11 h0_0 h1_0 h2_0 h3_0)
noncomputable def keccak_Permute_L1_17 {ρ : Type} (v1 : Int) (v11 : Int) (h0_0 : List Int) (h1_0 : List Int) (h2_0 : List Int) (h3_0 : List Int) (k0 : Int → Int → (List Int) → (List Int) → (List Int) → (List Int) → Option ρ) : Option ρ :=
 lp (fun (x : Int × Int × (List Int) × (List Int) × (List Int) × (List Int)) next (ex : (Int × Int × (List Int) × (List Int) × (List Int) × (List Int)) → Option ρ) => keccak_Permute_r1_17 x.1 x.2.1 x.2.2.1 x.2.2.2.1 x.2.2.2.2.1 x.2.2.2.2.2 (fun v1 v11 h0_0 h1_0 h2_0 h3_0 => next (v1, v11, h0_0, h1_0, h2_0, h3_0)) (fun v1 v11 h0_0 h1_0 h2_0 h3_0 => ex (v1, v11, h0_0, h1_0, h2_0, h3_0))) (v1, v11, h0_0, h1_0, h2_0, h3_0) (fun x => k0 x.1 x.2.1 x.2.2.1 x.2.2.2.1 x.2.2.2.2.1 x.2.2.2.2.2)
noncomputable def keccak_Permute_l1_17 {ρ : Type} := shut (keccak_Permute_L1_17 (ρ := ρ))
theorem keccak_Permute_l1_17_eq {ρ : Type} : keccak_Permute_l1_17 (ρ := ρ) = keccak_Permute_L1_17 := shut_eq _
noncomputable def keccak_Permute_r2 {ρ : Type} (v5 : List Int) (v6 : Int) (h0_0 : List Int) (h1_0 : List Int) (nx : (List Int) → Int → (List Int) → (List Int) → Option ρ) (k0 : (List Int) → Int → (List Int) → (List Int) → Option ρ) : Option ρ :=
 br (decide (v6 < (24 : Int)))
 (br (decide ((0 : Int) ≤ v6))
  (br (decide (v6 < (↑24 : Int)))
   (keccak_Permute_l2_2 (0 : Int) h1_0 h0_0 [(0 : Int), (0 : Int), (0 : Int), (0 : Int), (0 : Int)]
    fun (q0 : Int) (q1 q2 q3 : List Int) =>
    keccak_Permute_l1_2 (v5.getD v6.toNat (0 : Int)) (0 : Int) q2 q1 q3 q3
     fun (q4 q5 : Int) (q6 q7 q8 q9 : List Int) =>
     keccak_Permute_l1_12 q4 (q6.getD 1 (0 : Int)) kpla (0 : Int) q9 q8 q7 q6
      fun (q10 q11 : Int) (q12 : List Int) (q13 : Int) (q14 q15 q16 q17 : List Int) =>
      keccak_Permute_l1_17 q10 (0 : Int) q17 q16 q15 q14 fun (q18 q19 : Int) (q20 q21 q22 q23 : List Int) =>
       nx v5 (IntKind.i64.wrap (v6 + (1 : Int)))
        (q20.set 0 (bits BinOp.xor IntKind.u64 (q20.getD 0 (0 : Int)) q18)) q21)
   none)
  none)
 (k0 v5 v6 h0_0 h1_0)
noncomputable def keccak_Permute_L2 {ρ : Type} (v5 : List Int) (v6 : Int) (h0_0 : List Int) (h1_0 : List Int) (k0 : (List Int) → Int → (List Int) → (List Int) → Option ρ) : Option ρ :=
 lp (fun (x : (List Int) × Int × (List Int) × (List Int)) next (ex : ((List Int) × Int × (List Int) × (List Int)) → Option ρ) => keccak_Permute_r2 x.1 x.2.1 x.2.2.1 x.2.2.2 (fun v5 v6 h0_0 h1_0 => next (v5, v6, h0_0, h1_0)) (fun v5 v6 h0_0 h1_0 => ex (v5, v6, h0_0, h1_0))) (v5, v6, h0_0, h1_0) (fun x => k0 x.1 x.2.1 x.2.2.1 x.2.2.2)
noncomputable def keccak_Permute_l2 {ρ : Type} := shut (keccak_Permute_L2 (ρ := ρ))
theorem keccak_Permute_l2_eq {ρ : Type} : keccak_Permute_l2 (ρ := ρ) = keccak_Permute_L2 := shut_eq _
noncomputable def keccak_Permute_raw {ρ : Type} (a0 : List Int) (k : (List Int) → Option ρ) : Option ρ :=
 keccak_Permute_l2 kcon (0 : Int) a0
 [(0 : Int), (0 : Int), (0 : Int), (0 : Int), (0 : Int), (0 : Int), (0 : Int), (0 : Int), (0 : Int), (0 : Int),
  (0 : Int), (0 : Int), (0 : Int), (0 : Int), (0 : Int), (0 : Int), (0 : Int), (0 : Int), (0 : Int), (0 : Int),
  (0 : Int), (0 : Int), (0 : Int), (0 : Int), (0 : Int)]
 fun (q0 : List Int) (q1 : Int) (q2 q3 : List Int) => k q2
noncomputable def keccak_Permute {ρ : Type} := shut (keccak_Permute_raw (ρ := ρ))
theorem keccak_Permute_eq {ρ : Type} (a0 : List Int) (k : (List Int) → Option ρ) : keccak_Permute a0 k = keccak_Permute_raw a0 k := by unfold keccak_Permute; rw [shut_eq]
end P
end

section
open Go Go.Abs
set_option linter.unusedVariables false
namespace P
noncomputable def keccak_Absorb_r5 {ρ : Type} (v1 : List Int) (v5 : Int) (v14 : Int) (v15 : Int) (h0_0 : Int) (h0_1 : List Int) (h0_2 : Int) (h0_3 : Bool) (h1_0 : Int) (h1_1 : List Int) (h1_2 : Int) (h1_3 : Bool) (nx : (List Int) → Int → Int → Int → Int → (List Int) → Int → Bool → Int → (List Int) → Int → Bool → Option ρ) (k0 : (List Int) → Int → Int → Int → Int → (List Int) → Int → Bool → Int → (List Int) → Int → Bool → Option ρ) : Option ρ :=
 br (decide (v15 < v14))
 (br (decide ((0 : Int) ≤ v15))
  (br (decide (v15 < (↑v1.length : Int)))
   (br (decide ((0 : Int) ≤ IntKind.i64.wrap (h0_2.tdiv (8 : Int))))
    (br (decide (IntKind.i64.wrap (h0_2.tdiv (8 : Int)) < (↑25 : Int)))
     (br (decide (IntKind.i64.wrap ((8 : Int) * h0_2.tmod (8 : Int)) < (0 : Int))) none
      (br (decide ((0 : Int) ≤ IntKind.i64.wrap (h0_2.tdiv (8 : Int))))
       (br (decide (IntKind.i64.wrap (h0_2.tdiv (8 : Int)) < (↑25 : Int)))
        (br (IntKind.i64.wrap (h0_2 + (1 : Int)) == v5)
         (keccak_Permute
          (h0_1.set (IntKind.i64.wrap (h0_2.tdiv (8 : Int))).toNat
           (bits BinOp.xor IntKind.u64 (h0_1.getD (IntKind.i64.wrap (h0_2.tdiv (8 : Int))).toNat (0 : Int))
            (IntKind.u64.wrap
             (IntKind.u64.wrap (v1.getD v15.toNat (0 : Int)) *
              (2 : Int) ^ min (IntKind.i64.wrap ((8 : Int) * h0_2.tmod (8 : Int))).toNat 64))))
          fun (q0 : List Int) =>
          nx v1 v5 v14 (IntKind.i64.wrap (v15 + (1 : Int))) h0_0 q0 (0 : Int) h0_3 h1_0 h1_1 h1_2 h1_3)
         (nx v1 v5 v14 (IntKind.i64.wrap (v15 + (1 : Int))) h0_0
          (h0_1.set (IntKind.i64.wrap (h0_2.tdiv (8 : Int))).toNat
           (bits BinOp.xor IntKind.u64 (h0_1.getD (IntKind.i64.wrap (h0_2.tdiv (8 : Int))).toNat (0 : Int))
            (IntKind.u64.wrap
             (IntKind.u64.wrap (v1.getD v15.toNat (0 : Int)) *
              (2 : Int) ^ min (IntKind.i64.wrap ((8 : Int) * h0_2.tmod (8 : Int))).toNat 64))))
          (IntKind.i64.wrap (h0_2 + (1 : Int))) h0_3 h1_0 h1_1 h1_2 h1_3))
        none)
       none))
     none)
    none)
   none)
  none)
 (k0 v1 v5 v14 v15 h0_0 h0_1 h0_2 h0_3 h1_0 h1_1 h1_2 h1_3)
noncomputable def keccak_Absorb_L5 {ρ : Type} (v1 : List Int) (v5 : Int) (v14 : Int) (v15 : Int) (h0_0 : Int) (h0_1 : List Int) (h0_2 : Int) (h0_3 : Bool) (h1_0 : Int) (h1_1 : List Int) (h1_2 : Int) (h1_3 : Bool) (k0 : (List Int) → Int → Int → Int → Int → (List Int) → Int → Bool → Int → (List Int) → Int → Bool → Option ρ) : Option ρ :=
 lp (fun (x : (List Int) × Int × Int × Int × Int × (List Int) × Int × Bool × Int × (List Int) × Int × Bool) next (ex : ((List Int) × Int × Int × Int × Int × (List Int) × Int × Bool × Int × (List Int) × Int × Bool) → Option ρ) => keccak_Absorb_r5 x.1 x.2.1 x.2.2.1 x.2.2.2.1 x.2.2.2.2.1 x.2.2.2.2.2.1 x.2.2.2.2.2.2.1 x.2.2.2.2.2.2.2.1 x.2.2.2.2.2.2.2.2.1 x.2.2.2.2.2.2.2.2.2.1 x.2.2.2.2.2.2.2.2.2.2.1 x.2.2.2.2.2.2.2.2.2.2.2 (fun v1 v5 v14 v15 h0_0 h0_1 h0_2 h0_3 h1_0 h1_1 h1_2 h1_3 => next (v1, v5, v14, v15, h0_0, h0_1, h0_2, h0_3, h1_0, h1_1, h1_2, h1_3)) (fun v1 v5 v14 v15 h0_0 h0_1 h0_2 h0_3 h1_0 h1_1 h1_2 h1_3 => ex (v1, v5, v14, v15, h0_0, h0_1, h0_2, h0_3, h1_0, h1_1, h1_2, h1_3))) (v1, v5, v14, v15, h0_0, h0_1, h0_2, h0_3, h1_0, h1_1, h1_2, h1_3) (fun x => k0 x.1 x.2.1 x.2.2.1 x.2.2.2.1 x.2.2.2.2.1 x.2.2.2.2.2.1 x.2.2.2.2.2.2.1 x.2.2.2.2.2.2.2.1 x.2.2.2.2.2.2.2.2.1 x.2.2.2.2.2.2.2.2.2.1 x.2.2.2.2.2.2.2.2.2.2.1 x.2.2.2.2.2.2.2.2.2.2.2)
noncomputable def keccak_Absorb_l5 {ρ : Type} := shut (keccak_Absorb_L5 (ρ := ρ))
theorem keccak_Absorb_l5_eq {ρ : Type} : keccak_Absorb_l5 (ρ := ρ) = keccak_Absorb_L5 := shut_eq _
noncomputable def keccak_Absorb_raw {ρ : Type} (a0_Kind : Int) (a0_Words : List Int) (a0_At : Int) (a0_Out : Bool) (a1 : List Int) (k : Int → (List Int) → Int → Bool → Option ρ) : Option ρ :=
 br a0_Out (k a0_Kind a0_Words a0_At a0_Out)
 (keccak_rate a0_Kind fun (q0 : Int) =>
  keccak_Absorb_l5 a1 q0 (↑a1.length : Int) (0 : Int) a0_Kind a0_Words a0_At a0_Out (0 : Int)
   [(0 : Int), (0 : Int), (0 : Int), (0 : Int), (0 : Int), (0 : Int), (0 : Int), (0 : Int), (0 : Int), (0 : Int),
    (0 : Int), (0 : Int), (0 : Int), (0 : Int), (0 : Int), (0 : Int), (0 : Int), (0 : Int), (0 : Int), (0 : Int),
    (0 : Int), (0 : Int), (0 : Int), (0 : Int), (0 : Int)]
   (0 : Int) false
   fun (q1 : List Int) (q2 q3 q4 q5 : Int) (q6 : List Int) (q7 : Int) (q8 : Bool) (q9 : Int) (q10 : List Int)
    (q11 : Int) (q12 : Bool) =>
   k q5 q6 q7 q8)
noncomputable def keccak_Absorb {ρ : Type} := shut (keccak_Absorb_raw (ρ := ρ))
theorem keccak_Absorb_eq {ρ : Type} (a0_Kind : Int) (a0_Words : List Int) (a0_At : Int) (a0_Out : Bool) (a1 : List Int) (k : Int → (List Int) → Int → Bool → Option ρ) : keccak_Absorb a0_Kind a0_Words a0_At a0_Out a1 k = keccak_Absorb_raw a0_Kind a0_Words a0_At a0_Out a1 k := by unfold keccak_Absorb; rw [shut_eq]
end P
end

section
open Go Go.Abs
set_option linter.unusedVariables false
namespace P
noncomputable def keccak_turned_raw {ρ : Type} (a0_Kind : Int) (a0_Words : List Int) (a0_At : Int) (a0_Out : Bool) (k : Int → (List Int) → Int → Bool → Option ρ) : Option ρ :=
 br (a0_Kind == (4 : Int))
 (br (decide ((0 : Int) ≤ IntKind.i64.wrap (a0_At.tdiv (8 : Int))))
  (br (decide (IntKind.i64.wrap (a0_At.tdiv (8 : Int)) < (↑25 : Int)))
   (br (decide (IntKind.i64.wrap ((8 : Int) * a0_At.tmod (8 : Int)) < (0 : Int))) none
    (br (decide ((0 : Int) ≤ IntKind.i64.wrap (a0_At.tdiv (8 : Int))))
     (br (decide (IntKind.i64.wrap (a0_At.tdiv (8 : Int)) < (↑25 : Int)))
      (keccak_rate a0_Kind fun (q0 : Int) =>
       br (decide ((0 : Int) ≤ IntKind.i64.wrap ((IntKind.i64.wrap (q0 - (1 : Int))).tdiv (8 : Int))))
        (br
         (decide
          (IntKind.i64.wrap ((IntKind.i64.wrap (q0 - (1 : Int))).tdiv (8 : Int)) < (↑25 : Int)))
         (br
          (decide
           (IntKind.i64.wrap ((8 : Int) * (IntKind.i64.wrap (q0 - (1 : Int))).tmod (8 : Int)) < (0 : Int)))
          none
          (br (decide ((0 : Int) ≤ IntKind.i64.wrap ((IntKind.i64.wrap (q0 - (1 : Int))).tdiv (8 : Int))))
           (br
            (decide
             (IntKind.i64.wrap ((IntKind.i64.wrap (q0 - (1 : Int))).tdiv (8 : Int)) <
              (↑25 : Int)))
            (keccak_Permute
             ((a0_Words.set (IntKind.i64.wrap (a0_At.tdiv (8 : Int))).toNat
                (bits BinOp.xor IntKind.u64
                 (a0_Words.getD (IntKind.i64.wrap (a0_At.tdiv (8 : Int))).toNat (0 : Int))
                 (IntKind.u64.wrap
                  (IntKind.u64.wrap (6 : Int) *
                   (2 : Int) ^
                    min (IntKind.i64.wrap ((8 : Int) * a0_At.tmod (8 : Int))).toNat
                     64)))).set
              (IntKind.i64.wrap ((IntKind.i64.wrap (q0 - (1 : Int))).tdiv (8 : Int))).toNat
              (bits BinOp.xor IntKind.u64
               ((a0_Words.set (IntKind.i64.wrap (a0_At.tdiv (8 : Int))).toNat
                  (bits BinOp.xor IntKind.u64
                   (a0_Words.getD (IntKind.i64.wrap (a0_At.tdiv (8 : Int))).toNat (0 : Int))
                   (IntKind.u64.wrap
                    (IntKind.u64.wrap (6 : Int) *
                     (2 : Int) ^
                      min (IntKind.i64.wrap ((8 : Int) * a0_At.tmod (8 : Int))).toNat
                       64)))).getD
                (IntKind.i64.wrap ((IntKind.i64.wrap (q0 - (1 : Int))).tdiv (8 : Int))).toNat (0 : Int))
               (IntKind.u64.wrap
                (IntKind.u64.wrap (128 : Int) *
                 (2 : Int) ^
                  min
                   (IntKind.i64.wrap
                     ((8 : Int) * (IntKind.i64.wrap (q0 - (1 : Int))).tmod (8 : Int))).toNat
                   64))))
             fun (q1 : List Int) => k a0_Kind q1 (0 : Int) true)
            none)
           none))
         none)
        none)
      none)
     none))
   none)
  none)
 (br (a0_Kind == (5 : Int))
  (br (decide ((0 : Int) ≤ IntKind.i64.wrap (a0_At.tdiv (8 : Int))))
   (br (decide (IntKind.i64.wrap (a0_At.tdiv (8 : Int)) < (↑25 : Int)))
    (br (decide (IntKind.i64.wrap ((8 : Int) * a0_At.tmod (8 : Int)) < (0 : Int))) none
     (br (decide ((0 : Int) ≤ IntKind.i64.wrap (a0_At.tdiv (8 : Int))))
      (br (decide (IntKind.i64.wrap (a0_At.tdiv (8 : Int)) < (↑25 : Int)))
       (keccak_rate a0_Kind fun (q2 : Int) =>
        br (decide ((0 : Int) ≤ IntKind.i64.wrap ((IntKind.i64.wrap (q2 - (1 : Int))).tdiv (8 : Int))))
         (br
          (decide
           (IntKind.i64.wrap ((IntKind.i64.wrap (q2 - (1 : Int))).tdiv (8 : Int)) < (↑25 : Int)))
          (br
           (decide
            (IntKind.i64.wrap ((8 : Int) * (IntKind.i64.wrap (q2 - (1 : Int))).tmod (8 : Int)) < (0 : Int)))
           none
           (br (decide ((0 : Int) ≤ IntKind.i64.wrap ((IntKind.i64.wrap (q2 - (1 : Int))).tdiv (8 : Int))))
            (br
             (decide
              (IntKind.i64.wrap ((IntKind.i64.wrap (q2 - (1 : Int))).tdiv (8 : Int)) <
               (↑25 : Int)))
             (keccak_Permute
              ((a0_Words.set (IntKind.i64.wrap (a0_At.tdiv (8 : Int))).toNat
                 (bits BinOp.xor IntKind.u64
                  (a0_Words.getD (IntKind.i64.wrap (a0_At.tdiv (8 : Int))).toNat (0 : Int))
                  (IntKind.u64.wrap
                   (IntKind.u64.wrap (6 : Int) *
                    (2 : Int) ^
                     min (IntKind.i64.wrap ((8 : Int) * a0_At.tmod (8 : Int))).toNat
                      64)))).set
               (IntKind.i64.wrap ((IntKind.i64.wrap (q2 - (1 : Int))).tdiv (8 : Int))).toNat
               (bits BinOp.xor IntKind.u64
                ((a0_Words.set (IntKind.i64.wrap (a0_At.tdiv (8 : Int))).toNat
                   (bits BinOp.xor IntKind.u64
                    (a0_Words.getD (IntKind.i64.wrap (a0_At.tdiv (8 : Int))).toNat (0 : Int))
                    (IntKind.u64.wrap
                     (IntKind.u64.wrap (6 : Int) *
                      (2 : Int) ^
                       min (IntKind.i64.wrap ((8 : Int) * a0_At.tmod (8 : Int))).toNat
                        64)))).getD
                 (IntKind.i64.wrap ((IntKind.i64.wrap (q2 - (1 : Int))).tdiv (8 : Int))).toNat
                 (0 : Int))
                (IntKind.u64.wrap
                 (IntKind.u64.wrap (128 : Int) *
                  (2 : Int) ^
                   min
                    (IntKind.i64.wrap
                      ((8 : Int) * (IntKind.i64.wrap (q2 - (1 : Int))).tmod (8 : Int))).toNat
                    64))))
              fun (q3 : List Int) => k a0_Kind q3 (0 : Int) true)
             none)
            none))
          none)
         none)
       none)
      none))
    none)
   none)
  (br (decide ((0 : Int) ≤ IntKind.i64.wrap (a0_At.tdiv (8 : Int))))
   (br (decide (IntKind.i64.wrap (a0_At.tdiv (8 : Int)) < (↑25 : Int)))
    (br (decide (IntKind.i64.wrap ((8 : Int) * a0_At.tmod (8 : Int)) < (0 : Int))) none
     (br (decide ((0 : Int) ≤ IntKind.i64.wrap (a0_At.tdiv (8 : Int))))
      (br (decide (IntKind.i64.wrap (a0_At.tdiv (8 : Int)) < (↑25 : Int)))
       (keccak_rate a0_Kind fun (q4 : Int) =>
        br (decide ((0 : Int) ≤ IntKind.i64.wrap ((IntKind.i64.wrap (q4 - (1 : Int))).tdiv (8 : Int))))
         (br
          (decide
           (IntKind.i64.wrap ((IntKind.i64.wrap (q4 - (1 : Int))).tdiv (8 : Int)) < (↑25 : Int)))
          (br
           (decide
            (IntKind.i64.wrap ((8 : Int) * (IntKind.i64.wrap (q4 - (1 : Int))).tmod (8 : Int)) < (0 : Int)))
           none
           (br (decide ((0 : Int) ≤ IntKind.i64.wrap ((IntKind.i64.wrap (q4 - (1 : Int))).tdiv (8 : Int))))
            (br
             (decide
              (IntKind.i64.wrap ((IntKind.i64.wrap (q4 - (1 : Int))).tdiv (8 : Int)) <
               (↑25 : Int)))
             (keccak_Permute
              ((a0_Words.set (IntKind.i64.wrap (a0_At.tdiv (8 : Int))).toNat
                 (bits BinOp.xor IntKind.u64
                  (a0_Words.getD (IntKind.i64.wrap (a0_At.tdiv (8 : Int))).toNat (0 : Int))
                  (IntKind.u64.wrap
                   (IntKind.u64.wrap (31 : Int) *
                    (2 : Int) ^
                     min (IntKind.i64.wrap ((8 : Int) * a0_At.tmod (8 : Int))).toNat
                      64)))).set
               (IntKind.i64.wrap ((IntKind.i64.wrap (q4 - (1 : Int))).tdiv (8 : Int))).toNat
               (bits BinOp.xor IntKind.u64
                ((a0_Words.set (IntKind.i64.wrap (a0_At.tdiv (8 : Int))).toNat
                   (bits BinOp.xor IntKind.u64
                    (a0_Words.getD (IntKind.i64.wrap (a0_At.tdiv (8 : Int))).toNat (0 : Int))
                    (IntKind.u64.wrap
                     (IntKind.u64.wrap (31 : Int) *
                      (2 : Int) ^
                       min (IntKind.i64.wrap ((8 : Int) * a0_At.tmod (8 : Int))).toNat
                        64)))).getD
                 (IntKind.i64.wrap ((IntKind.i64.wrap (q4 - (1 : Int))).tdiv (8 : Int))).toNat
                 (0 : Int))
                (IntKind.u64.wrap
                 (IntKind.u64.wrap (128 : Int) *
                  (2 : Int) ^
                   min
                    (IntKind.i64.wrap
                      ((8 : Int) * (IntKind.i64.wrap (q4 - (1 : Int))).tmod (8 : Int))).toNat
                    64))))
              fun (q5 : List Int) => k a0_Kind q5 (0 : Int) true)
             none)
            none))
          none)
         none)
       none)
      none))
    none)
   none))
noncomputable def keccak_turned {ρ : Type} := shut (keccak_turned_raw (ρ := ρ))
theorem keccak_turned_eq {ρ : Type} (a0_Kind : Int) (a0_Words : List Int) (a0_At : Int) (a0_Out : Bool) (k : Int → (List Int) → Int → Bool → Option ρ) : keccak_turned a0_Kind a0_Words a0_At a0_Out k = keccak_turned_raw a0_Kind a0_Words a0_At a0_Out k := by unfold keccak_turned; rw [shut_eq]
end P
end

section
open Go Go.Abs
set_option linter.unusedVariables false
namespace P
noncomputable def keccak_Squeeze_r7 {ρ : Type} (v19 : Int) (v20 : Int) (h0_0 : Int) (h0_1 : List Int) (h0_2 : Int) (h0_3 : Bool) (h1_0 : Int) (h1_1 : List Int) (h1_2 : Int) (h1_3 : Bool) (h2 : List Int) (nx : Int → Int → Int → (List Int) → Int → Bool → Int → (List Int) → Int → Bool → (List Int) → Option ρ) (k0 : Int → Int → Int → (List Int) → Int → Bool → Int → (List Int) → Int → Bool → (List Int) → Option ρ) : Option ρ :=
 br (decide (v20 < v19))
 (keccak_rate h0_0 fun (q0 : Int) =>
  br (h0_2 == q0)
   (keccak_Permute h0_1 fun (q1 : List Int) =>
    br (decide ((0 : Int) ≤ v20))
     (br (decide (v20 < (↑h2.length : Int)))
      (nx v19 (IntKind.i64.wrap (v20 + (1 : Int))) h0_0 q1 (IntKind.i64.wrap ((0 : Int) + (1 : Int))) h0_3 h1_0
       h1_1 h1_2 h1_3
       (h2.set v20.toNat (IntKind.u8.wrap ((q1.getD 0 (0 : Int)).fdiv ((2 : Int) ^ 0)))))
      none)
     none)
   (br (decide ((0 : Int) ≤ IntKind.i64.wrap (h0_2.tdiv (8 : Int))))
    (br (decide (IntKind.i64.wrap (h0_2.tdiv (8 : Int)) < (↑25 : Int)))
     (br (decide (IntKind.i64.wrap ((8 : Int) * h0_2.tmod (8 : Int)) < (0 : Int))) none
      (br (decide ((0 : Int) ≤ v20))
       (br (decide (v20 < (↑h2.length : Int)))
        (nx v19 (IntKind.i64.wrap (v20 + (1 : Int))) h0_0 h0_1 (IntKind.i64.wrap (h0_2 + (1 : Int))) h0_3 h1_0
         h1_1 h1_2 h1_3
         (h2.set v20.toNat
          (IntKind.u8.wrap
           ((h0_1.getD (IntKind.i64.wrap (h0_2.tdiv (8 : Int))).toNat (0 : Int)).fdiv
            ((2 : Int) ^ min (IntKind.i64.wrap ((8 : Int) * h0_2.tmod (8 : Int))).toNat 64)))))
        none)
       none))
     none)
    none))
 (k0 v19 v20 h0_0 h0_1 h0_2 h0_3 h1_0 h1_1 h1_2 h1_3 h2)
noncomputable def keccak_Squeeze_L7 {ρ : Type} (v19 : Int) (v20 : Int) (h0_0 : Int) (h0_1 : List Int) (h0_2 : Int) (h0_3 : Bool) (h1_0 : Int) (h1_1 : List Int) (h1_2 : Int) (h1_3 : Bool) (h2 : List Int) (k0 : Int → Int → Int → (List Int) → Int → Bool → Int → (List Int) → Int → Bool → (List Int) → Option ρ) : Option ρ :=
 lp (fun (x : Int × Int × Int × (List Int) × Int × Bool × Int × (List Int) × Int × Bool × (List Int)) next (ex : (Int × Int × Int × (List Int) × Int × Bool × Int × (List Int) × Int × Bool × (List Int)) → Option ρ) => keccak_Squeeze_r7 x.1 x.2.1 x.2.2.1 x.2.2.2.1 x.2.2.2.2.1 x.2.2.2.2.2.1 x.2.2.2.2.2.2.1 x.2.2.2.2.2.2.2.1 x.2.2.2.2.2.2.2.2.1 x.2.2.2.2.2.2.2.2.2.1 x.2.2.2.2.2.2.2.2.2.2 (fun v19 v20 h0_0 h0_1 h0_2 h0_3 h1_0 h1_1 h1_2 h1_3 h2 => next (v19, v20, h0_0, h0_1, h0_2, h0_3, h1_0, h1_1, h1_2, h1_3, h2)) (fun v19 v20 h0_0 h0_1 h0_2 h0_3 h1_0 h1_1 h1_2 h1_3 h2 => ex (v19, v20, h0_0, h0_1, h0_2, h0_3, h1_0, h1_1, h1_2, h1_3, h2))) (v19, v20, h0_0, h0_1, h0_2, h0_3, h1_0, h1_1, h1_2, h1_3, h2) (fun x => k0 x.1 x.2.1 x.2.2.1 x.2.2.2.1 x.2.2.2.2.1 x.2.2.2.2.2.1 x.2.2.2.2.2.2.1 x.2.2.2.2.2.2.2.1 x.2.2.2.2.2.2.2.2.1 x.2.2.2.2.2.2.2.2.2.1 x.2.2.2.2.2.2.2.2.2.2)
noncomputable def keccak_Squeeze_l7 {ρ : Type} := shut (keccak_Squeeze_L7 (ρ := ρ))
theorem keccak_Squeeze_l7_eq {ρ : Type} : keccak_Squeeze_l7 (ρ := ρ) = keccak_Squeeze_L7 := shut_eq _
noncomputable def keccak_Squeeze_raw {ρ : Type} (a0_Kind : Int) (a0_Words : List Int) (a0_At : Int) (a0_Out : Bool) (a1 : Int) (k : Int → (List Int) → Int → Bool → (List Int) → Option ρ) : Option ρ :=
 br (decide (a1 < (0 : Int))) (k a0_Kind a0_Words a0_At a0_Out [])
 (br (!a0_Out)
  (keccak_turned a0_Kind a0_Words a0_At a0_Out fun (q0 : Int) (q1 : List Int) (q2 : Int) (q3 : Bool) =>
   br (decide ((0 : Int) ≤ a1))
    (br (decide (a1 ≤ a1))
     (br (decide (a1 * (↑1 : Int) ≤ (↑140737488355328 : Int)))
      (keccak_Squeeze_l7 (↑(List.replicate a1.toNat (0 : Int)).length : Int) (0 : Int) q0 q1 q2 q3 (0 : Int)
       [(0 : Int), (0 : Int), (0 : Int), (0 : Int), (0 : Int), (0 : Int), (0 : Int), (0 : Int), (0 : Int),
        (0 : Int), (0 : Int), (0 : Int), (0 : Int), (0 : Int), (0 : Int), (0 : Int), (0 : Int), (0 : Int),
        (0 : Int), (0 : Int), (0 : Int), (0 : Int), (0 : Int), (0 : Int), (0 : Int)]
       (0 : Int) false (List.replicate a1.toNat (0 : Int))
       fun (q4 q5 q6 : Int) (q7 : List Int) (q8 : Int) (q9 : Bool) (q10 : Int) (q11 : List Int) (q12 : Int)
        (q13 : Bool) (q14 : List Int) =>
       k q6 q7 q8 q9 q14)
      none)
     none)
    none)
  (br (decide ((0 : Int) ≤ a1))
   (br (decide (a1 ≤ a1))
    (br (decide (a1 * (↑1 : Int) ≤ (↑140737488355328 : Int)))
     (keccak_Squeeze_l7 (↑(List.replicate a1.toNat (0 : Int)).length : Int) (0 : Int) a0_Kind a0_Words a0_At
      a0_Out (0 : Int)
      [(0 : Int), (0 : Int), (0 : Int), (0 : Int), (0 : Int), (0 : Int), (0 : Int), (0 : Int), (0 : Int),
       (0 : Int), (0 : Int), (0 : Int), (0 : Int), (0 : Int), (0 : Int), (0 : Int), (0 : Int), (0 : Int),
       (0 : Int), (0 : Int), (0 : Int), (0 : Int), (0 : Int), (0 : Int), (0 : Int)]
      (0 : Int) false (List.replicate a1.toNat (0 : Int))
      fun (q15 q16 q17 : Int) (q18 : List Int) (q19 : Int) (q20 : Bool) (q21 : Int) (q22 : List Int) (q23 : Int)
       (q24 : Bool) (q25 : List Int) =>
      k q17 q18 q19 q20 q25)
     none)
    none)
   none))
noncomputable def keccak_Squeeze {ρ : Type} := shut (keccak_Squeeze_raw (ρ := ρ))
theorem keccak_Squeeze_eq {ρ : Type} (a0_Kind : Int) (a0_Words : List Int) (a0_At : Int) (a0_Out : Bool) (a1 : Int) (k : Int → (List Int) → Int → Bool → (List Int) → Option ρ) : keccak_Squeeze a0_Kind a0_Words a0_At a0_Out a1 k = keccak_Squeeze_raw a0_Kind a0_Words a0_At a0_Out a1 k := by unfold keccak_Squeeze; rw [shut_eq]
end P
end

section
open Go Go.Abs
set_option linter.unusedVariables false
namespace P
noncomputable def wots_shaken_f1_raw {ρ : Type} (a0 : List Int) (a1 : List Int) (a2_Kind : Int) (a2_Words : List Int) (a2_At : Int) (a2_Out : Bool) (a3 : Int) (k : (List Int) → Option ρ) : Option ρ :=
 bits_Join [List.take 32 (List.drop 0 a0), a1] fun (q0 : List Int) =>
 keccak_Absorb a2_Kind a2_Words a2_At a2_Out q0 fun (q1 : Int) (q2 : List Int) (q3 : Int) (q4 : Bool) =>
  keccak_Squeeze q1 q2 q3 q4 a3 fun (q5 : Int) (q6 : List Int) (q7 : Int) (q8 : Bool) (q9 : List Int) => k q9
noncomputable def wots_shaken_f1 {ρ : Type} := shut (wots_shaken_f1_raw (ρ := ρ))
theorem wots_shaken_f1_eq {ρ : Type} (a0 : List Int) (a1 : List Int) (a2_Kind : Int) (a2_Words : List Int) (a2_At : Int) (a2_Out : Bool) (a3 : Int) (k : (List Int) → Option ρ) : wots_shaken_f1 a0 a1 a2_Kind a2_Words a2_At a2_Out a3 k = wots_shaken_f1_raw a0 a1 a2_Kind a2_Words a2_At a2_Out a3 k := by unfold wots_shaken_f1; rw [shut_eq]
end P
end

section
open Go Go.Abs
set_option linter.unusedVariables false
namespace P
noncomputable def wots_shaken_raw {ρ : Type} (a0 : Int) (a1 : List Int) (k : Int → (List Int) → Int → Bool → Int → Option ρ) : Option ρ :=
 keccak_New (7 : Int) fun (q0 : Int) (q1 : List Int) (q2 : Int) (q3 : Bool) (q4 : Int) =>
 keccak_Absorb q0 q1 q2 q3 a1 fun (q5 : Int) (q6 : List Int) (q7 : Int) (q8 : Bool) => k q5 q6 q7 q8 a0
noncomputable def wots_shaken {ρ : Type} := shut (wots_shaken_raw (ρ := ρ))
theorem wots_shaken_eq {ρ : Type} (a0 : Int) (a1 : List Int) (k : Int → (List Int) → Int → Bool → Int → Option ρ) : wots_shaken a0 a1 k = wots_shaken_raw a0 a1 k := by unfold wots_shaken; rw [shut_eq]
end P
end

section
open Go Go.Abs
set_option linter.unusedVariables false
namespace P
noncomputable def sha_begin_raw {ρ : Type} (a0 : Int) (k : (List Int) → Bool → Option ρ) : Option ρ :=
 br (a0 == (1 : Int))
 (k
  [(1779033703 : Int), (3144134277 : Int), (1013904242 : Int), (2773480762 : Int), (1359893119 : Int),
   (2600822924 : Int), (528734635 : Int), (1541459225 : Int)]
  true)
 (br (a0 == (2 : Int))
  (k
   [(14680500436340154072 : Int), (7105036623409894663 : Int), (10473403895298186519 : Int),
    (1526699215303891257 : Int), (7436329637833083697 : Int), (10282925794625328401 : Int),
    (15784041429090275239 : Int), (5167115440072839076 : Int)]
   true)
  (br (a0 == (3 : Int))
   (k
    [(7640891576956012808 : Int), (13503953896175478587 : Int), (4354685564936845355 : Int),
     (11912009170470909681 : Int), (5840696475078001361 : Int), (11170449401992604703 : Int),
     (2270897969802886507 : Int), (6620516959819538809 : Int)]
    true)
   (k [(0 : Int), (0 : Int), (0 : Int), (0 : Int), (0 : Int), (0 : Int), (0 : Int), (0 : Int)] false)))
noncomputable def sha_begin {ρ : Type} := shut (sha_begin_raw (ρ := ρ))
theorem sha_begin_eq {ρ : Type} (a0 : Int) (k : (List Int) → Bool → Option ρ) : sha_begin a0 k = sha_begin_raw a0 k := by unfold sha_begin; rw [shut_eq]
end P
end

section
open Go Go.Abs
set_option linter.unusedVariables false
namespace P
noncomputable def sha_New_raw {ρ : Type} (a0 : Int) (k : Int → (List Int) → (List Int) → Int → Int → Option ρ) : Option ρ :=
 sha_begin a0 fun (q0 : List Int) (q1 : Bool) =>
 br (!q1)
  (k (0 : Int) [(0 : Int), (0 : Int), (0 : Int), (0 : Int), (0 : Int), (0 : Int), (0 : Int), (0 : Int)] [] (0 : Int)
   (9 : Int))
  (k a0 q0 [] (0 : Int) (0 : Int))
noncomputable def sha_New {ρ : Type} := shut (sha_New_raw (ρ := ρ))
theorem sha_New_eq {ρ : Type} (a0 : Int) (k : Int → (List Int) → (List Int) → Int → Int → Option ρ) : sha_New a0 k = sha_New_raw a0 k := by unfold sha_New; rw [shut_eq]
end P
end

section
open Go Go.Abs
set_option linter.unusedVariables false
namespace P
noncomputable def bits_Num_r3 {ρ : Type} (v3 : Int) (v6 : List Int) (v7 : Int) (v8 : Int) (nx : Int → (List Int) → Int → Int → Option ρ) (k0 : Int → (List Int) → Int → Int → Option ρ) : Option ρ :=
 br (decide (v8 < v7))
 (br (decide ((0 : Int) ≤ v8))
  (br (decide (v8 < (↑v6.length : Int)))
   (nx
    (bits BinOp.or IntKind.u64 (IntKind.u64.wrap (v3 * (2 : Int) ^ 8))
     (IntKind.u64.wrap (v6.getD v8.toNat (0 : Int))))
    v6 v7 (IntKind.i64.wrap (v8 + (1 : Int))))
   none)
  none)
 (k0 v3 v6 v7 v8)
noncomputable def bits_Num_L3 {ρ : Type} (v3 : Int) (v6 : List Int) (v7 : Int) (v8 : Int) (k0 : Int → (List Int) → Int → Int → Option ρ) : Option ρ :=
 lp (fun (x : Int × (List Int) × Int × Int) next (ex : (Int × (List Int) × Int × Int) → Option ρ) => bits_Num_r3 x.1 x.2.1 x.2.2.1 x.2.2.2 (fun v3 v6 v7 v8 => next (v3, v6, v7, v8)) (fun v3 v6 v7 v8 => ex (v3, v6, v7, v8))) (v3, v6, v7, v8) (fun x => k0 x.1 x.2.1 x.2.2.1 x.2.2.2)
noncomputable def bits_Num_l3 {ρ : Type} := shut (bits_Num_L3 (ρ := ρ))
theorem bits_Num_l3_eq {ρ : Type} : bits_Num_l3 (ρ := ρ) = bits_Num_L3 := shut_eq _
noncomputable def bits_Num_raw {ρ : Type} (a0 : List Int) (k : Int → Option ρ) : Option ρ :=
 bits_Num_l3 (0 : Int) a0 (↑a0.length : Int) (0 : Int) fun (q0 : Int) (q1 : List Int) (q2 q3 : Int) => k q0
noncomputable def bits_Num {ρ : Type} := shut (bits_Num_raw (ρ := ρ))
theorem bits_Num_eq {ρ : Type} (a0 : List Int) (k : Int → Option ρ) : bits_Num a0 k = bits_Num_raw a0 k := by unfold bits_Num; rw [shut_eq]
end P
end

section
open Go Go.Abs
set_option linter.unusedVariables false
namespace P
noncomputable def sha_root256_raw {ρ : Type} (a0 : Int) (k : Int → Option ρ) : Option ρ :=
 br (decide ((0 : Int) ≤ a0)) (br (decide (a0 < (↑64 : Int))) (k (roots256.getD a0.toNat (0 : Int))) none)
 none
noncomputable def sha_root256 {ρ : Type} := shut (sha_root256_raw (ρ := ρ))
theorem sha_root256_eq {ρ : Type} (a0 : Int) (k : Int → Option ρ) : sha_root256 a0 k = sha_root256_raw a0 k := by unfold sha_root256; rw [shut_eq]
end P
end

section
open Go Go.Abs
set_option linter.unusedVariables false
namespace P
noncomputable def sha_engine_uint32_rotated_raw {ρ : Type} (a0_bits : Int) (a0_rounds : Int) (a0_turns_0 : List Int) (a0_turns_1 : List Int) (a0_turns_2 : List Int) (a0_turns_3 : List Int) (a1 : Int) (a2 : Int) (k : Int → Option ρ) : Option ρ :=
 br (decide (a2 < (0 : Int))) none
 (br (decide (IntKind.i64.wrap (a0_bits - a2) < (0 : Int))) none
  (k
   (bits BinOp.or IntKind.u32 (a1.fdiv ((2 : Int) ^ min a2.toNat 32))
    (IntKind.u32.wrap (a1 * (2 : Int) ^ min (IntKind.i64.wrap (a0_bits - a2)).toNat 32)))))
noncomputable def sha_engine_uint32_rotated {ρ : Type} := shut (sha_engine_uint32_rotated_raw (ρ := ρ))
theorem sha_engine_uint32_rotated_eq {ρ : Type} (a0_bits : Int) (a0_rounds : Int) (a0_turns_0 : List Int) (a0_turns_1 : List Int) (a0_turns_2 : List Int) (a0_turns_3 : List Int) (a1 : Int) (a2 : Int) (k : Int → Option ρ) : sha_engine_uint32_rotated a0_bits a0_rounds a0_turns_0 a0_turns_1 a0_turns_2 a0_turns_3 a1 a2 k = sha_engine_uint32_rotated_raw a0_bits a0_rounds a0_turns_0 a0_turns_1 a0_turns_2 a0_turns_3 a1 a2 k := by unfold sha_engine_uint32_rotated; rw [shut_eq]
end P
end

section
open Go Go.Abs
set_option linter.unusedVariables false
namespace P
noncomputable def sha_engine_uint32_high_raw {ρ : Type} (a0_bits : Int) (a0_rounds : Int) (a0_turns_0 : List Int) (a0_turns_1 : List Int) (a0_turns_2 : List Int) (a0_turns_3 : List Int) (a1 : Int) (a2 : Int) (k : Int → Option ρ) : Option ρ :=
 br (decide (a2 = (↑0 : Int)))
 (sha_engine_uint32_rotated a0_bits a0_rounds a0_turns_0 a0_turns_1 a0_turns_2 a0_turns_3 a1
  (a0_turns_0.getD 0 (0 : Int)) fun (q0 : Int) =>
  sha_engine_uint32_rotated a0_bits a0_rounds a0_turns_0 a0_turns_1 a0_turns_2 a0_turns_3 a1
   (a0_turns_0.getD 1 (0 : Int)) fun (q1 : Int) =>
   sha_engine_uint32_rotated a0_bits a0_rounds a0_turns_0 a0_turns_1 a0_turns_2 a0_turns_3 a1
    (a0_turns_0.getD 2 (0 : Int)) fun (q2 : Int) =>
    k (bits BinOp.xor IntKind.u32 (bits BinOp.xor IntKind.u32 q0 q1) q2))
 (br (decide (a2 = (↑1 : Int)))
  (sha_engine_uint32_rotated a0_bits a0_rounds a0_turns_0 a0_turns_1 a0_turns_2 a0_turns_3 a1
   (a0_turns_1.getD 0 (0 : Int)) fun (q3 : Int) =>
   sha_engine_uint32_rotated a0_bits a0_rounds a0_turns_0 a0_turns_1 a0_turns_2 a0_turns_3 a1
    (a0_turns_1.getD 1 (0 : Int)) fun (q4 : Int) =>
    sha_engine_uint32_rotated a0_bits a0_rounds a0_turns_0 a0_turns_1 a0_turns_2 a0_turns_3 a1
     (a0_turns_1.getD 2 (0 : Int)) fun (q5 : Int) =>
     k (bits BinOp.xor IntKind.u32 (bits BinOp.xor IntKind.u32 q3 q4) q5))
  (br (decide (a2 = (↑2 : Int)))
   (sha_engine_uint32_rotated a0_bits a0_rounds a0_turns_0 a0_turns_1 a0_turns_2 a0_turns_3 a1
    (a0_turns_2.getD 0 (0 : Int)) fun (q6 : Int) =>
    sha_engine_uint32_rotated a0_bits a0_rounds a0_turns_0 a0_turns_1 a0_turns_2 a0_turns_3 a1
     (a0_turns_2.getD 1 (0 : Int)) fun (q7 : Int) =>
     sha_engine_uint32_rotated a0_bits a0_rounds a0_turns_0 a0_turns_1 a0_turns_2 a0_turns_3 a1
      (a0_turns_2.getD 2 (0 : Int)) fun (q8 : Int) =>
      k (bits BinOp.xor IntKind.u32 (bits BinOp.xor IntKind.u32 q6 q7) q8))
   (br (decide (a2 = (↑3 : Int)))
    (sha_engine_uint32_rotated a0_bits a0_rounds a0_turns_0 a0_turns_1 a0_turns_2 a0_turns_3 a1
     (a0_turns_3.getD 0 (0 : Int)) fun (q9 : Int) =>
     sha_engine_uint32_rotated a0_bits a0_rounds a0_turns_0 a0_turns_1 a0_turns_2 a0_turns_3 a1
      (a0_turns_3.getD 1 (0 : Int)) fun (q10 : Int) =>
      sha_engine_uint32_rotated a0_bits a0_rounds a0_turns_0 a0_turns_1 a0_turns_2 a0_turns_3 a1
       (a0_turns_3.getD 2 (0 : Int)) fun (q11 : Int) =>
       k (bits BinOp.xor IntKind.u32 (bits BinOp.xor IntKind.u32 q9 q10) q11))
    none)))
noncomputable def sha_engine_uint32_high {ρ : Type} := shut (sha_engine_uint32_high_raw (ρ := ρ))
theorem sha_engine_uint32_high_eq {ρ : Type} (a0_bits : Int) (a0_rounds : Int) (a0_turns_0 : List Int) (a0_turns_1 : List Int) (a0_turns_2 : List Int) (a0_turns_3 : List Int) (a1 : Int) (a2 : Int) (k : Int → Option ρ) : sha_engine_uint32_high a0_bits a0_rounds a0_turns_0 a0_turns_1 a0_turns_2 a0_turns_3 a1 a2 k = sha_engine_uint32_high_raw a0_bits a0_rounds a0_turns_0 a0_turns_1 a0_turns_2 a0_turns_3 a1 a2 k := by unfold sha_engine_uint32_high; rw [shut_eq]
end P
end

section
open Go Go.Abs
set_option linter.unusedVariables false
namespace P
noncomputable def sha_engine_uint32_low_raw {ρ : Type} (a0_bits : Int) (a0_rounds : Int) (a0_turns_0 : List Int) (a0_turns_1 : List Int) (a0_turns_2 : List Int) (a0_turns_3 : List Int) (a1 : Int) (a2 : Int) (k : Int → Option ρ) : Option ρ :=
 br (decide (a2 = (↑0 : Int)))
 (sha_engine_uint32_rotated a0_bits a0_rounds a0_turns_0 a0_turns_1 a0_turns_2 a0_turns_3 a1
  (a0_turns_0.getD 0 (0 : Int)) fun (q0 : Int) =>
  sha_engine_uint32_rotated a0_bits a0_rounds a0_turns_0 a0_turns_1 a0_turns_2 a0_turns_3 a1
   (a0_turns_0.getD 1 (0 : Int)) fun (q1 : Int) =>
   br (decide (a0_turns_0.getD 2 (0 : Int) < (0 : Int))) none
    (k
     (bits BinOp.xor IntKind.u32 (bits BinOp.xor IntKind.u32 q0 q1)
      (a1.fdiv ((2 : Int) ^ min (a0_turns_0.getD 2 (0 : Int)).toNat 32)))))
 (br (decide (a2 = (↑1 : Int)))
  (sha_engine_uint32_rotated a0_bits a0_rounds a0_turns_0 a0_turns_1 a0_turns_2 a0_turns_3 a1
   (a0_turns_1.getD 0 (0 : Int)) fun (q2 : Int) =>
   sha_engine_uint32_rotated a0_bits a0_rounds a0_turns_0 a0_turns_1 a0_turns_2 a0_turns_3 a1
    (a0_turns_1.getD 1 (0 : Int)) fun (q3 : Int) =>
    br (decide (a0_turns_1.getD 2 (0 : Int) < (0 : Int))) none
     (k
      (bits BinOp.xor IntKind.u32 (bits BinOp.xor IntKind.u32 q2 q3)
       (a1.fdiv ((2 : Int) ^ min (a0_turns_1.getD 2 (0 : Int)).toNat 32)))))
  (br (decide (a2 = (↑2 : Int)))
   (sha_engine_uint32_rotated a0_bits a0_rounds a0_turns_0 a0_turns_1 a0_turns_2 a0_turns_3 a1
    (a0_turns_2.getD 0 (0 : Int)) fun (q4 : Int) =>
    sha_engine_uint32_rotated a0_bits a0_rounds a0_turns_0 a0_turns_1 a0_turns_2 a0_turns_3 a1
     (a0_turns_2.getD 1 (0 : Int)) fun (q5 : Int) =>
     br (decide (a0_turns_2.getD 2 (0 : Int) < (0 : Int))) none
      (k
       (bits BinOp.xor IntKind.u32 (bits BinOp.xor IntKind.u32 q4 q5)
        (a1.fdiv ((2 : Int) ^ min (a0_turns_2.getD 2 (0 : Int)).toNat 32)))))
   (br (decide (a2 = (↑3 : Int)))
    (sha_engine_uint32_rotated a0_bits a0_rounds a0_turns_0 a0_turns_1 a0_turns_2 a0_turns_3 a1
     (a0_turns_3.getD 0 (0 : Int)) fun (q6 : Int) =>
     sha_engine_uint32_rotated a0_bits a0_rounds a0_turns_0 a0_turns_1 a0_turns_2 a0_turns_3 a1
      (a0_turns_3.getD 1 (0 : Int)) fun (q7 : Int) =>
      br (decide (a0_turns_3.getD 2 (0 : Int) < (0 : Int))) none
       (k
        (bits BinOp.xor IntKind.u32 (bits BinOp.xor IntKind.u32 q6 q7)
         (a1.fdiv ((2 : Int) ^ min (a0_turns_3.getD 2 (0 : Int)).toNat 32)))))
    none)))
noncomputable def sha_engine_uint32_low {ρ : Type} := shut (sha_engine_uint32_low_raw (ρ := ρ))
theorem sha_engine_uint32_low_eq {ρ : Type} (a0_bits : Int) (a0_rounds : Int) (a0_turns_0 : List Int) (a0_turns_1 : List Int) (a0_turns_2 : List Int) (a0_turns_3 : List Int) (a1 : Int) (a2 : Int) (k : Int → Option ρ) : sha_engine_uint32_low a0_bits a0_rounds a0_turns_0 a0_turns_1 a0_turns_2 a0_turns_3 a1 a2 k = sha_engine_uint32_low_raw a0_bits a0_rounds a0_turns_0 a0_turns_1 a0_turns_2 a0_turns_3 a1 a2 k := by unfold sha_engine_uint32_low; rw [shut_eq]
end P
end

section
open Go Go.Abs
set_option linter.unusedVariables false
namespace P
noncomputable def sha_engine_uint32_block_r4 {ρ : Type} (v2 : List Int) (v8 : Int) (v19 : Int) (h0_0 : Int) (h0_1 : Int) (h0_2 : List Int) (h0_3 : List Int) (h0_4 : List Int) (h0_5 : List Int) (h1_0 : List Int) (h2_0 : List Int) (h3_0 : List Int) (nx : (List Int) → Int → Int → Int → Int → (List Int) → (List Int) → (List Int) → (List Int) → (List Int) → (List Int) → (List Int) → Option ρ) (k0 : (List Int) → Int → Int → Int → Int → (List Int) → (List Int) → (List Int) → (List Int) → (List Int) → (List Int) → (List Int) → Option ρ) : Option ρ :=
 br (decide (v19 < (16 : Int)))
 (br (decide ((0 : Int) ≤ IntKind.i64.wrap (v19 * v8)))
  (br (decide (IntKind.i64.wrap (v19 * v8) ≤ IntKind.i64.wrap (IntKind.i64.wrap (v19 + (1 : Int)) * v8)))
   (br (decide (IntKind.i64.wrap (IntKind.i64.wrap (v19 + (1 : Int)) * v8) ≤ (↑v2.length : Int)))
    (bits_Num
     (List.drop (IntKind.i64.wrap (v19 * v8)).toNat
      (List.take (IntKind.i64.wrap (IntKind.i64.wrap (v19 + (1 : Int)) * v8)).toNat v2))
     fun (q0 : Int) =>
     br (decide ((0 : Int) ≤ v19))
      (br (decide (v19 < (↑16 : Int)))
       (nx v2 v8 (IntKind.i64.wrap (v19 + (1 : Int))) h0_0 h0_1 h0_2 h0_3 h0_4 h0_5 h1_0 h2_0
        (h3_0.set v19.toNat (IntKind.u32.wrap q0)))
       none)
      none)
    none)
   none)
  none)
 (k0 v2 v8 v19 h0_0 h0_1 h0_2 h0_3 h0_4 h0_5 h1_0 h2_0 h3_0)
noncomputable def sha_engine_uint32_block_L4 {ρ : Type} (v2 : List Int) (v8 : Int) (v19 : Int) (h0_0 : Int) (h0_1 : Int) (h0_2 : List Int) (h0_3 : List Int) (h0_4 : List Int) (h0_5 : List Int) (h1_0 : List Int) (h2_0 : List Int) (h3_0 : List Int) (k0 : (List Int) → Int → Int → Int → Int → (List Int) → (List Int) → (List Int) → (List Int) → (List Int) → (List Int) → (List Int) → Option ρ) : Option ρ :=
 lp (fun (x : (List Int) × Int × Int × Int × Int × (List Int) × (List Int) × (List Int) × (List Int) × (List Int) × (List Int) × (List Int)) next (ex : ((List Int) × Int × Int × Int × Int × (List Int) × (List Int) × (List Int) × (List Int) × (List Int) × (List Int) × (List Int)) → Option ρ) => sha_engine_uint32_block_r4 x.1 x.2.1 x.2.2.1 x.2.2.2.1 x.2.2.2.2.1 x.2.2.2.2.2.1 x.2.2.2.2.2.2.1 x.2.2.2.2.2.2.2.1 x.2.2.2.2.2.2.2.2.1 x.2.2.2.2.2.2.2.2.2.1 x.2.2.2.2.2.2.2.2.2.2.1 x.2.2.2.2.2.2.2.2.2.2.2 (fun v2 v8 v19 h0_0 h0_1 h0_2 h0_3 h0_4 h0_5 h1_0 h2_0 h3_0 => next (v2, v8, v19, h0_0, h0_1, h0_2, h0_3, h0_4, h0_5, h1_0, h2_0, h3_0)) (fun v2 v8 v19 h0_0 h0_1 h0_2 h0_3 h0_4 h0_5 h1_0 h2_0 h3_0 => ex (v2, v8, v19, h0_0, h0_1, h0_2, h0_3, h0_4, h0_5, h1_0, h2_0, h3_0))) (v2, v8, v19, h0_0, h0_1, h0_2, h0_3, h0_4, h0_5, h1_0, h2_0, h3_0) (fun x => k0 x.1 x.2.1 x.2.2.1 x.2.2.2.1 x.2.2.2.2.1 x.2.2.2.2.2.1 x.2.2.2.2.2.2.1 x.2.2.2.2.2.2.2.1 x.2.2.2.2.2.2.2.2.1 x.2.2.2.2.2.2.2.2.2.1 x.2.2.2.2.2.2.2.2.2.2.1 x.2.2.2.2.2.2.2.2.2.2.2)
noncomputable def sha_engine_uint32_block_l4 {ρ : Type} := shut (sha_engine_uint32_block_L4 (ρ := ρ))
theorem sha_engine_uint32_block_l4_eq {ρ : Type} : sha_engine_uint32_block_l4 (ρ := ρ) = sha_engine_uint32_block_L4 := shut_eq _
noncomputable def sha_engine_uint32_block_r10 {ρ : Type} (v38 : Int) (v39 : Int) (h3_0 : List Int) (h2_0 : List Int) (h1_0 : List Int) (h0_0 : Int) (h0_1 : Int) (h0_2 : List Int) (h0_3 : List Int) (h0_4 : List Int) (h0_5 : List Int) (h4_0 : List Int) (nx : Int → Int → (List Int) → (List Int) → (List Int) → Int → Int → (List Int) → (List Int) → (List Int) → (List Int) → (List Int) → Option ρ) (k0 : Int → Int → (List Int) → (List Int) → (List Int) → Int → Int → (List Int) → (List Int) → (List Int) → (List Int) → (List Int) → Option ρ) : Option ρ :=
 br (decide (v39 < v38))
 (br (decide ((0 : Int) ≤ v39.tmod (16 : Int)))
  (br (decide (v39.tmod (16 : Int) < (↑16 : Int)))
   (sha_engine_uint32_high h0_0 h0_1 h0_2 h0_3 h0_4 h0_5 (h4_0.getD 4 (0 : Int)) (3 : Int)
    fun (q0 : Int) =>
    sha_root256 v39 fun (q1 : Int) =>
     sha_engine_uint32_high h0_0 h0_1 h0_2 h0_3 h0_4 h0_5 (h4_0.getD 0 (0 : Int)) (2 : Int)
      fun (q2 : Int) =>
      br (decide ((0 : Int) ≤ (IntKind.i64.wrap (v39 + (1 : Int))).tmod (16 : Int)))
       (br (decide ((IntKind.i64.wrap (v39 + (1 : Int))).tmod (16 : Int) < (↑16 : Int)))
        (sha_engine_uint32_low h0_0 h0_1 h0_2 h0_3 h0_4 h0_5
         (h3_0.getD ((IntKind.i64.wrap (v39 + (1 : Int))).tmod (16 : Int)).toNat (0 : Int)) (0 : Int)
         fun (q3 : Int) =>
         br (decide ((0 : Int) ≤ (IntKind.i64.wrap (v39 + (9 : Int))).tmod (16 : Int)))
          (br (decide ((IntKind.i64.wrap (v39 + (9 : Int))).tmod (16 : Int) < (↑16 : Int)))
           (br (decide ((0 : Int) ≤ (IntKind.i64.wrap (v39 + (14 : Int))).tmod (16 : Int)))
            (br (decide ((IntKind.i64.wrap (v39 + (14 : Int))).tmod (16 : Int) < (↑16 : Int)))
             (sha_engine_uint32_low h0_0 h0_1 h0_2 h0_3 h0_4 h0_5
              (h3_0.getD ((IntKind.i64.wrap (v39 + (14 : Int))).tmod (16 : Int)).toNat (0 : Int))
              (1 : Int) fun (q4 : Int) =>
              br (decide ((0 : Int) ≤ v39.tmod (16 : Int)))
               (br (decide (v39.tmod (16 : Int) < (↑16 : Int)))
                (nx v38 (IntKind.i64.wrap (v39 + (1 : Int)))
                 (h3_0.set (v39.tmod (16 : Int)).toNat
                  (IntKind.u32.wrap
                   (IntKind.u32.wrap
                     (IntKind.u32.wrap (h3_0.getD (v39.tmod (16 : Int)).toNat (0 : Int) + q3) +
                      h3_0.getD ((IntKind.i64.wrap (v39 + (9 : Int))).tmod (16 : Int)).toNat
                       (0 : Int)) +
                    q4)))
                 h2_0 h1_0 h0_0 h0_1 h0_2 h0_3 h0_4 h0_5
                 ((((List.take 1 h4_0).append
                      (List.take 7
                        (List.take 7 (List.drop 0 h4_0)) ++
                       List.drop
                        (1 +
                         min 7
                          (List.take 7 (List.drop 0 h4_0)).length)
                        h4_0)).set
                    4
                    (IntKind.u32.wrap
                     (((List.take 1 h4_0).append
                         (List.take 7
                           (List.take 7 (List.drop 0 h4_0)) ++
                          List.drop
                           (1 +
                            min 7
                             (List.take 7 (List.drop 0 h4_0)).length)
                           h4_0)).getD
                       4 (0 : Int) +
                      IntKind.u32.wrap
                       (IntKind.u32.wrap
                         (IntKind.u32.wrap
                           (IntKind.u32.wrap (h4_0.getD 7 (0 : Int) + q0) +
                            bits BinOp.xor IntKind.u32 (h4_0.getD 6 (0 : Int))
                             (bits BinOp.and IntKind.u32 (h4_0.getD 4 (0 : Int))
                              (bits BinOp.xor IntKind.u32
                               (h4_0.getD 5 (0 : Int))
                               (h4_0.getD 6 (0 : Int))))) +
                          q1) +
                        h3_0.getD (v39.tmod (16 : Int)).toNat (0 : Int))))).set
                  0
                  (IntKind.u32.wrap
                   (IntKind.u32.wrap
                     (IntKind.u32.wrap
                       (IntKind.u32.wrap
                         (IntKind.u32.wrap (h4_0.getD 7 (0 : Int) + q0) +
                          bits BinOp.xor IntKind.u32 (h4_0.getD 6 (0 : Int))
                           (bits BinOp.and IntKind.u32 (h4_0.getD 4 (0 : Int))
                            (bits BinOp.xor IntKind.u32 (h4_0.getD 5 (0 : Int))
                             (h4_0.getD 6 (0 : Int))))) +
                        q1) +
                      h3_0.getD (v39.tmod (16 : Int)).toNat (0 : Int)) +
                    IntKind.u32.wrap
                     (q2 +
                      bits BinOp.or IntKind.u32
                       (bits BinOp.and IntKind.u32 (h4_0.getD 0 (0 : Int))
                        (h4_0.getD 1 (0 : Int)))
                       (bits BinOp.and IntKind.u32 (h4_0.getD 2 (0 : Int))
                        (bits BinOp.or IntKind.u32 (h4_0.getD 0 (0 : Int))
                         (h4_0.getD 1 (0 : Int)))))))))
                none)
               none)
             none)
            none)
           none)
          none)
        none)
       none)
   none)
  none)
 (k0 v38 v39 h3_0 h2_0 h1_0 h0_0 h0_1 h0_2 h0_3 h0_4 h0_5 h4_0)
noncomputable def sha_engine_uint32_block_L10 {ρ : Type} (v38 : Int) (v39 : Int) (h3_0 : List Int) (h2_0 : List Int) (h1_0 : List Int) (h0_0 : Int) (h0_1 : Int) (h0_2 : List Int) (h0_3 : List Int) (h0_4 : List Int) (h0_5 : List Int) (h4_0 : List Int) (k0 : Int → Int → (List Int) → (List Int) → (List Int) → Int → Int → (List Int) → (List Int) → (List Int) → (List Int) → (List Int) → Option ρ) : Option ρ :=
 lp (fun (x : Int × Int × (List Int) × (List Int) × (List Int) × Int × Int × (List Int) × (List Int) × (List Int) × (List Int) × (List Int)) next (ex : (Int × Int × (List Int) × (List Int) × (List Int) × Int × Int × (List Int) × (List Int) × (List Int) × (List Int) × (List Int)) → Option ρ) => sha_engine_uint32_block_r10 x.1 x.2.1 x.2.2.1 x.2.2.2.1 x.2.2.2.2.1 x.2.2.2.2.2.1 x.2.2.2.2.2.2.1 x.2.2.2.2.2.2.2.1 x.2.2.2.2.2.2.2.2.1 x.2.2.2.2.2.2.2.2.2.1 x.2.2.2.2.2.2.2.2.2.2.1 x.2.2.2.2.2.2.2.2.2.2.2 (fun v38 v39 h3_0 h2_0 h1_0 h0_0 h0_1 h0_2 h0_3 h0_4 h0_5 h4_0 => next (v38, v39, h3_0, h2_0, h1_0, h0_0, h0_1, h0_2, h0_3, h0_4, h0_5, h4_0)) (fun v38 v39 h3_0 h2_0 h1_0 h0_0 h0_1 h0_2 h0_3 h0_4 h0_5 h4_0 => ex (v38, v39, h3_0, h2_0, h1_0, h0_0, h0_1, h0_2, h0_3, h0_4, h0_5, h4_0))) (v38, v39, h3_0, h2_0, h1_0, h0_0, h0_1, h0_2, h0_3, h0_4, h0_5, h4_0) (fun x => k0 x.1 x.2.1 x.2.2.1 x.2.2.2.1 x.2.2.2.2.1 x.2.2.2.2.2.1 x.2.2.2.2.2.2.1 x.2.2.2.2.2.2.2.1 x.2.2.2.2.2.2.2.2.1 x.2.2.2.2.2.2.2.2.2.1 x.2.2.2.2.2.2.2.2.2.2.1 x.2.2.2.2.2.2.2.2.2.2.2)
noncomputable def sha_engine_uint32_block_l10 {ρ : Type} := shut (sha_engine_uint32_block_L10 (ρ := ρ))
theorem sha_engine_uint32_block_l10_eq {ρ : Type} : sha_engine_uint32_block_l10 (ρ := ρ) = sha_engine_uint32_block_L10 := shut_eq _
noncomputable def sha_engine_uint32_block_r21 {ρ : Type} (v130 : Int) (h1_0 : List Int) (h2_0 : List Int) (h4_0 : List Int) (nx : Int → (List Int) → (List Int) → (List Int) → Option ρ) (k0 : Int → (List Int) → (List Int) → (List Int) → Option ρ) : Option ρ :=
 br (decide (v130 < (8 : Int)))
 (br (decide ((0 : Int) ≤ v130))
  (br (decide (v130 < (↑8 : Int)))
   (br (decide ((0 : Int) ≤ v130))
    (br (decide (v130 < (↑8 : Int)))
     (br (decide ((0 : Int) ≤ v130))
      (br (decide (v130 < (↑8 : Int)))
       (nx (IntKind.i64.wrap (v130 + (1 : Int))) h1_0 h2_0
        (h4_0.set v130.toNat
         (IntKind.u32.wrap (h4_0.getD v130.toNat (0 : Int) + h1_0.getD v130.toNat (0 : Int)))))
       none)
      none)
     none)
    none)
   none)
  none)
 (k0 v130 h1_0 h2_0 h4_0)
noncomputable def sha_engine_uint32_block_L21 {ρ : Type} (v130 : Int) (h1_0 : List Int) (h2_0 : List Int) (h4_0 : List Int) (k0 : Int → (List Int) → (List Int) → (List Int) → Option ρ) : Option ρ :=
 lp (fun (x : Int × (List Int) × (List Int) × (List Int)) next (ex : (Int × (List Int) × (List Int) × (List Int)) → Option ρ) => sha_engine_uint32_block_r21 x.1 x.2.1 x.2.2.1 x.2.2.2 (fun v130 h1_0 h2_0 h4_0 => next (v130, h1_0, h2_0, h4_0)) (fun v130 h1_0 h2_0 h4_0 => ex (v130, h1_0, h2_0, h4_0))) (v130, h1_0, h2_0, h4_0) (fun x => k0 x.1 x.2.1 x.2.2.1 x.2.2.2)
noncomputable def sha_engine_uint32_block_l21 {ρ : Type} := shut (sha_engine_uint32_block_L21 (ρ := ρ))
theorem sha_engine_uint32_block_l21_eq {ρ : Type} : sha_engine_uint32_block_l21 (ρ := ρ) = sha_engine_uint32_block_L21 := shut_eq _
noncomputable def sha_engine_uint32_block_raw {ρ : Type} (a0_bits : Int) (a0_rounds : Int) (a0_turns_0 : List Int) (a0_turns_1 : List Int) (a0_turns_2 : List Int) (a0_turns_3 : List Int) (a1 : List Int) (a2 : List Int) (k : (List Int) → Option ρ) : Option ρ :=
 sha_engine_uint32_block_l4 a2 (IntKind.i64.wrap (a0_bits.tdiv (8 : Int))) (0 : Int) a0_bits a0_rounds a0_turns_0
 a0_turns_1 a0_turns_2 a0_turns_3 a1
 [(0 : Int), (0 : Int), (0 : Int), (0 : Int), (0 : Int), (0 : Int), (0 : Int), (0 : Int)]
 [(0 : Int), (0 : Int), (0 : Int), (0 : Int), (0 : Int), (0 : Int), (0 : Int), (0 : Int), (0 : Int), (0 : Int),
  (0 : Int), (0 : Int), (0 : Int), (0 : Int), (0 : Int), (0 : Int)]
 fun (q0 : List Int) (q1 q2 q3 q4 : Int) (q5 q6 q7 q8 q9 q10 q11 : List Int) =>
 sha_engine_uint32_block_l10 q4 (0 : Int) q11 q10 q9 q3 q4 q5 q6 q7 q8 q9
  fun (q12 q13 : Int) (q14 q15 q16 : List Int) (q17 q18 : Int) (q19 q20 q21 q22 q23 : List Int) =>
  sha_engine_uint32_block_l21 (0 : Int) q16 q15 q23 fun (q24 : Int) (q25 q26 q27 : List Int) => k q27
noncomputable def sha_engine_uint32_block {ρ : Type} := shut (sha_engine_uint32_block_raw (ρ := ρ))
theorem sha_engine_uint32_block_eq {ρ : Type} (a0_bits : Int) (a0_rounds : Int) (a0_turns_0 : List Int) (a0_turns_1 : List Int) (a0_turns_2 : List Int) (a0_turns_3 : List Int) (a1 : List Int) (a2 : List Int) (k : (List Int) → Option ρ) : sha_engine_uint32_block a0_bits a0_rounds a0_turns_0 a0_turns_1 a0_turns_2 a0_turns_3 a1 a2 k = sha_engine_uint32_block_raw a0_bits a0_rounds a0_turns_0 a0_turns_1 a0_turns_2 a0_turns_3 a1 a2 k := by unfold sha_engine_uint32_block; rw [shut_eq]
end P
end

section
open Go Go.Abs
set_option linter.unusedVariables false
namespace P
noncomputable def sha_through_uint32_r3 {ρ : Type} (v2 : List Int) (v14 : List Int) (v15 : Int) (h0_0 : Int) (h0_1 : Int) (h0_2 : List Int) (h0_3 : List Int) (h0_4 : List Int) (h0_5 : List Int) (h1_0 : List Int) (h2_0 : List Int) (h3_0 : List Int) (nx : (List Int) → (List Int) → Int → Int → Int → (List Int) → (List Int) → (List Int) → (List Int) → (List Int) → (List Int) → (List Int) → Option ρ) (k0 : (List Int) → (List Int) → Int → Int → Int → (List Int) → (List Int) → (List Int) → (List Int) → (List Int) → (List Int) → (List Int) → Option ρ) : Option ρ :=
 br (decide (v15 < (8 : Int)))
 (br (decide ((0 : Int) ≤ v15))
  (br (decide (v15 < (↑8 : Int)))
   (br (decide ((0 : Int) ≤ v15))
    (br (decide (v15 < (↑8 : Int)))
     (nx v2 v14 (IntKind.i64.wrap (v15 + (1 : Int))) h0_0 h0_1 h0_2 h0_3 h0_4 h0_5 h1_0 h2_0
      (h3_0.set v15.toNat (IntKind.u32.wrap (v14.getD v15.toNat (0 : Int)))))
     none)
    none)
   none)
  none)
 (k0 v2 v14 v15 h0_0 h0_1 h0_2 h0_3 h0_4 h0_5 h1_0 h2_0 h3_0)
noncomputable def sha_through_uint32_L3 {ρ : Type} (v2 : List Int) (v14 : List Int) (v15 : Int) (h0_0 : Int) (h0_1 : Int) (h0_2 : List Int) (h0_3 : List Int) (h0_4 : List Int) (h0_5 : List Int) (h1_0 : List Int) (h2_0 : List Int) (h3_0 : List Int) (k0 : (List Int) → (List Int) → Int → Int → Int → (List Int) → (List Int) → (List Int) → (List Int) → (List Int) → (List Int) → (List Int) → Option ρ) : Option ρ :=
 lp (fun (x : (List Int) × (List Int) × Int × Int × Int × (List Int) × (List Int) × (List Int) × (List Int) × (List Int) × (List Int) × (List Int)) next (ex : ((List Int) × (List Int) × Int × Int × Int × (List Int) × (List Int) × (List Int) × (List Int) × (List Int) × (List Int) × (List Int)) → Option ρ) => sha_through_uint32_r3 x.1 x.2.1 x.2.2.1 x.2.2.2.1 x.2.2.2.2.1 x.2.2.2.2.2.1 x.2.2.2.2.2.2.1 x.2.2.2.2.2.2.2.1 x.2.2.2.2.2.2.2.2.1 x.2.2.2.2.2.2.2.2.2.1 x.2.2.2.2.2.2.2.2.2.2.1 x.2.2.2.2.2.2.2.2.2.2.2 (fun v2 v14 v15 h0_0 h0_1 h0_2 h0_3 h0_4 h0_5 h1_0 h2_0 h3_0 => next (v2, v14, v15, h0_0, h0_1, h0_2, h0_3, h0_4, h0_5, h1_0, h2_0, h3_0)) (fun v2 v14 v15 h0_0 h0_1 h0_2 h0_3 h0_4 h0_5 h1_0 h2_0 h3_0 => ex (v2, v14, v15, h0_0, h0_1, h0_2, h0_3, h0_4, h0_5, h1_0, h2_0, h3_0))) (v2, v14, v15, h0_0, h0_1, h0_2, h0_3, h0_4, h0_5, h1_0, h2_0, h3_0) (fun x => k0 x.1 x.2.1 x.2.2.1 x.2.2.2.1 x.2.2.2.2.1 x.2.2.2.2.2.1 x.2.2.2.2.2.2.1 x.2.2.2.2.2.2.2.1 x.2.2.2.2.2.2.2.2.1 x.2.2.2.2.2.2.2.2.2.1 x.2.2.2.2.2.2.2.2.2.2.1 x.2.2.2.2.2.2.2.2.2.2.2)
noncomputable def sha_through_uint32_l3 {ρ : Type} := shut (sha_through_uint32_L3 (ρ := ρ))
theorem sha_through_uint32_l3_eq {ρ : Type} : sha_through_uint32_l3 (ρ := ρ) = sha_through_uint32_L3 := shut_eq _
noncomputable def sha_through_uint32_r8 {ρ : Type} (v2 : List Int) (v11 : Int) (h3_0 : List Int) (h2_0 : List Int) (h1_0 : List Int) (h0_0 : Int) (h0_1 : Int) (h0_2 : List Int) (h0_3 : List Int) (h0_4 : List Int) (h0_5 : List Int) (nx : (List Int) → Int → (List Int) → (List Int) → (List Int) → Int → Int → (List Int) → (List Int) → (List Int) → (List Int) → Option ρ) (k0 : (List Int) → Int → (List Int) → (List Int) → (List Int) → Int → Int → (List Int) → (List Int) → (List Int) → (List Int) → Option ρ) : Option ρ :=
 br (decide ((↑v2.length : Int) ≥ v11))
 (br (decide ((0 : Int) ≤ v11))
  (br (decide (v11 ≤ (↑v2.length : Int)))
   (sha_engine_uint32_block h0_0 h0_1 h0_2 h0_3 h0_4 h0_5 h3_0 (List.drop 0 (List.take v11.toNat v2))
    fun (q0 : List Int) =>
    br (decide ((0 : Int) ≤ v11))
     (br (decide (v11 ≤ (↑v2.length : Int)))
      (br (decide ((↑v2.length : Int) ≤ (↑v2.length : Int)))
       (nx (List.drop v11.toNat (List.take (↑v2.length : Int).toNat v2)) v11 q0 h2_0 h1_0 h0_0 h0_1 h0_2 h0_3
        h0_4 h0_5)
       none)
      none)
     none)
   none)
  none)
 (k0 v2 v11 h3_0 h2_0 h1_0 h0_0 h0_1 h0_2 h0_3 h0_4 h0_5)
noncomputable def sha_through_uint32_L8 {ρ : Type} (v2 : List Int) (v11 : Int) (h3_0 : List Int) (h2_0 : List Int) (h1_0 : List Int) (h0_0 : Int) (h0_1 : Int) (h0_2 : List Int) (h0_3 : List Int) (h0_4 : List Int) (h0_5 : List Int) (k0 : (List Int) → Int → (List Int) → (List Int) → (List Int) → Int → Int → (List Int) → (List Int) → (List Int) → (List Int) → Option ρ) : Option ρ :=
 lp (fun (x : (List Int) × Int × (List Int) × (List Int) × (List Int) × Int × Int × (List Int) × (List Int) × (List Int) × (List Int)) next (ex : ((List Int) × Int × (List Int) × (List Int) × (List Int) × Int × Int × (List Int) × (List Int) × (List Int) × (List Int)) → Option ρ) => sha_through_uint32_r8 x.1 x.2.1 x.2.2.1 x.2.2.2.1 x.2.2.2.2.1 x.2.2.2.2.2.1 x.2.2.2.2.2.2.1 x.2.2.2.2.2.2.2.1 x.2.2.2.2.2.2.2.2.1 x.2.2.2.2.2.2.2.2.2.1 x.2.2.2.2.2.2.2.2.2.2 (fun v2 v11 h3_0 h2_0 h1_0 h0_0 h0_1 h0_2 h0_3 h0_4 h0_5 => next (v2, v11, h3_0, h2_0, h1_0, h0_0, h0_1, h0_2, h0_3, h0_4, h0_5)) (fun v2 v11 h3_0 h2_0 h1_0 h0_0 h0_1 h0_2 h0_3 h0_4 h0_5 => ex (v2, v11, h3_0, h2_0, h1_0, h0_0, h0_1, h0_2, h0_3, h0_4, h0_5))) (v2, v11, h3_0, h2_0, h1_0, h0_0, h0_1, h0_2, h0_3, h0_4, h0_5) (fun x => k0 x.1 x.2.1 x.2.2.1 x.2.2.2.1 x.2.2.2.2.1 x.2.2.2.2.2.1 x.2.2.2.2.2.2.1 x.2.2.2.2.2.2.2.1 x.2.2.2.2.2.2.2.2.1 x.2.2.2.2.2.2.2.2.2.1 x.2.2.2.2.2.2.2.2.2.2)
noncomputable def sha_through_uint32_l8 {ρ : Type} := shut (sha_through_uint32_L8 (ρ := ρ))
theorem sha_through_uint32_l8_eq {ρ : Type} : sha_through_uint32_l8 (ρ := ρ) = sha_through_uint32_L8 := shut_eq _
noncomputable def sha_through_uint32_r12 {ρ : Type} (v2 : List Int) (v40 : List Int) (v41 : Int) (h1_0 : List Int) (h2_0 : List Int) (nx : (List Int) → (List Int) → Int → (List Int) → (List Int) → Option ρ) (k0 : (List Int) → (List Int) → Int → (List Int) → (List Int) → Option ρ) : Option ρ :=
 br (decide (v41 < (8 : Int)))
 (br (decide ((0 : Int) ≤ v41))
  (br (decide (v41 < (↑8 : Int)))
   (br (decide ((0 : Int) ≤ v41))
    (br (decide (v41 < (↑8 : Int)))
     (nx v2 v40 (IntKind.i64.wrap (v41 + (1 : Int)))
      (h1_0.set v41.toNat (IntKind.u64.wrap (v40.getD v41.toNat (0 : Int)))) h2_0)
     none)
    none)
   none)
  none)
 (k0 v2 v40 v41 h1_0 h2_0)
noncomputable def sha_through_uint32_L12 {ρ : Type} (v2 : List Int) (v40 : List Int) (v41 : Int) (h1_0 : List Int) (h2_0 : List Int) (k0 : (List Int) → (List Int) → Int → (List Int) → (List Int) → Option ρ) : Option ρ :=
 lp (fun (x : (List Int) × (List Int) × Int × (List Int) × (List Int)) next (ex : ((List Int) × (List Int) × Int × (List Int) × (List Int)) → Option ρ) => sha_through_uint32_r12 x.1 x.2.1 x.2.2.1 x.2.2.2.1 x.2.2.2.2 (fun v2 v40 v41 h1_0 h2_0 => next (v2, v40, v41, h1_0, h2_0)) (fun v2 v40 v41 h1_0 h2_0 => ex (v2, v40, v41, h1_0, h2_0))) (v2, v40, v41, h1_0, h2_0) (fun x => k0 x.1 x.2.1 x.2.2.1 x.2.2.2.1 x.2.2.2.2)
noncomputable def sha_through_uint32_l12 {ρ : Type} := shut (sha_through_uint32_L12 (ρ := ρ))
theorem sha_through_uint32_l12_eq {ρ : Type} : sha_through_uint32_l12 (ρ := ρ) = sha_through_uint32_L12 := shut_eq _
noncomputable def sha_through_uint32_raw {ρ : Type} (a0_bits : Int) (a0_rounds : Int) (a0_turns_0 : List Int) (a0_turns_1 : List Int) (a0_turns_2 : List Int) (a0_turns_3 : List Int) (a1 : List Int) (a2 : List Int) (k : (List Int) → (List Int) → Option ρ) : Option ρ :=
 sha_through_uint32_l3 a2 a1 (0 : Int) a0_bits a0_rounds a0_turns_0 a0_turns_1 a0_turns_2 a0_turns_3 a1
 [(0 : Int), (0 : Int), (0 : Int), (0 : Int), (0 : Int), (0 : Int), (0 : Int), (0 : Int)]
 [(0 : Int), (0 : Int), (0 : Int), (0 : Int), (0 : Int), (0 : Int), (0 : Int), (0 : Int)]
 fun (q0 q1 : List Int) (q2 q3 q4 : Int) (q5 q6 q7 q8 q9 q10 q11 : List Int) =>
 sha_through_uint32_l8 q0 (IntKind.i64.wrap (q3 * (2 : Int))) q11 q10 q9 q3 q4 q5 q6 q7 q8
  fun (q12 : List Int) (q13 : Int) (q14 q15 q16 : List Int) (q17 q18 : Int) (q19 q20 q21 q22 : List Int) =>
  sha_through_uint32_l12 q12 q14 (0 : Int) q16 q15 fun (q23 q24 : List Int) (q25 : Int) (q26 q27 : List Int) =>
   k q26 q23
noncomputable def sha_through_uint32 {ρ : Type} := shut (sha_through_uint32_raw (ρ := ρ))
theorem sha_through_uint32_eq {ρ : Type} (a0_bits : Int) (a0_rounds : Int) (a0_turns_0 : List Int) (a0_turns_1 : List Int) (a0_turns_2 : List Int) (a0_turns_3 : List Int) (a1 : List Int) (a2 : List Int) (k : (List Int) → (List Int) → Option ρ) : sha_through_uint32 a0_bits a0_rounds a0_turns_0 a0_turns_1 a0_turns_2 a0_turns_3 a1 a2 k = sha_through_uint32_raw a0_bits a0_rounds a0_turns_0 a0_turns_1 a0_turns_2 a0_turns_3 a1 a2 k := by unfold sha_through_uint32; rw [shut_eq]
end P
end

section
open Go Go.Abs
set_option linter.unusedVariables false
namespace P
noncomputable def sha_small_raw {ρ : Type}  (k : Int → Int → (List Int) → (List Int) → (List Int) → (List Int) → Option ρ) : Option ρ :=
 k (32 : Int) (64 : Int) [(7 : Int), (18 : Int), (3 : Int)] [(17 : Int), (19 : Int), (10 : Int)]
 [(2 : Int), (13 : Int), (22 : Int)] [(6 : Int), (11 : Int), (25 : Int)]
noncomputable def sha_small {ρ : Type} := shut (sha_small_raw (ρ := ρ))
theorem sha_small_eq {ρ : Type}  (k : Int → Int → (List Int) → (List Int) → (List Int) → (List Int) → Option ρ) : sha_small  k = sha_small_raw  k := by unfold sha_small; rw [shut_eq]
end P
end

section
open Go Go.Abs
set_option linter.unusedVariables false
namespace P
noncomputable def sha_root512_raw {ρ : Type} (a0 : Int) (k : Int → Option ρ) : Option ρ :=
 br (decide ((0 : Int) ≤ a0)) (br (decide (a0 < (↑80 : Int))) (k (roots512.getD a0.toNat (0 : Int))) none)
 none
noncomputable def sha_root512 {ρ : Type} := shut (sha_root512_raw (ρ := ρ))
theorem sha_root512_eq {ρ : Type} (a0 : Int) (k : Int → Option ρ) : sha_root512 a0 k = sha_root512_raw a0 k := by unfold sha_root512; rw [shut_eq]
end P
end
