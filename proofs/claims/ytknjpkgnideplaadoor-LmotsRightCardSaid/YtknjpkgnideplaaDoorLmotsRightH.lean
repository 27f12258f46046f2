/-
  LmotsRight, part H: an interpreter of my own over abstract values, the pure functions, the walks and the plain law.
-/

import Derived.Test.YtknjpkgnideplaaDoorLmotsRightF
import Derived.Test.YtknjpkgnideplaaDoorLmotsRightG
import Derived.Test.YtknjpkgnideplaaDoorProg
import Derived.KernelRfl

section
open Go Go.Abs
set_option linter.unusedVariables false
namespace P
noncomputable def sha_through_uint64_r3 {ρ : Type} (v2 : List Int) (v14 : List Int) (v15 : Int) (h0_0 : Int) (h0_1 : Int) (h0_2 : List Int) (h0_3 : List Int) (h0_4 : List Int) (h0_5 : List Int) (h1_0 : List Int) (h2_0 : List Int) (h3_0 : List Int) (nx : (List Int) → (List Int) → Int → Int → Int → (List Int) → (List Int) → (List Int) → (List Int) → (List Int) → (List Int) → (List Int) → Option ρ) (k0 : (List Int) → (List Int) → Int → Int → Int → (List Int) → (List Int) → (List Int) → (List Int) → (List Int) → (List Int) → (List Int) → Option ρ) : Option ρ :=
  br (decide (v15 < (8 : Int)))
    (br (decide ((0 : Int) ≤ v15))
      (br (decide (v15 < (↑8 : Int)))
        (br (decide ((0 : Int) ≤ v15))
          (br (decide (v15 < (↑8 : Int)))
            (nx v2 v14 (IntKind.i64.wrap (v15 + (1 : Int))) h0_0 h0_1 h0_2 h0_3 h0_4 h0_5 h1_0 h2_0
              (h3_0.set v15.toNat (v14.getD v15.toNat (0 : Int))))
            none)
          none)
        none)
      none)
    (k0 v2 v14 v15 h0_0 h0_1 h0_2 h0_3 h0_4 h0_5 h1_0 h2_0 h3_0)
noncomputable def sha_through_uint64_L3 {ρ : Type} (v2 : List Int) (v14 : List Int) (v15 : Int) (h0_0 : Int) (h0_1 : Int) (h0_2 : List Int) (h0_3 : List Int) (h0_4 : List Int) (h0_5 : List Int) (h1_0 : List Int) (h2_0 : List Int) (h3_0 : List Int) (k0 : (List Int) → (List Int) → Int → Int → Int → (List Int) → (List Int) → (List Int) → (List Int) → (List Int) → (List Int) → (List Int) → Option ρ) : Option ρ :=
  lp (fun (x : (List Int) × (List Int) × Int × Int × Int × (List Int) × (List Int) × (List Int) × (List Int) × (List Int) × (List Int) × (List Int)) (next : ((List Int) × (List Int) × Int × Int × Int × (List Int) × (List Int) × (List Int) × (List Int) × (List Int) × (List Int) × (List Int)) → Option ρ) (ex : (((List Int) × (List Int) × Int × Int × Int × (List Int) × (List Int) × (List Int) × (List Int) × (List Int) × (List Int) × (List Int))) → Option ρ) => sha_through_uint64_r3 x.1 x.2.1 x.2.2.1 x.2.2.2.1 x.2.2.2.2.1 x.2.2.2.2.2.1 x.2.2.2.2.2.2.1 x.2.2.2.2.2.2.2.1 x.2.2.2.2.2.2.2.2.1 x.2.2.2.2.2.2.2.2.2.1 x.2.2.2.2.2.2.2.2.2.2.1 x.2.2.2.2.2.2.2.2.2.2.2 (fun v2 v14 v15 h0_0 h0_1 h0_2 h0_3 h0_4 h0_5 h1_0 h2_0 h3_0 => next (v2, v14, v15, h0_0, h0_1, h0_2, h0_3, h0_4, h0_5, h1_0, h2_0, h3_0)) (fun v2 v14 v15 h0_0 h0_1 h0_2 h0_3 h0_4 h0_5 h1_0 h2_0 h3_0 => ex ((v2, v14, v15, h0_0, h0_1, h0_2, h0_3, h0_4, h0_5, h1_0, h2_0, h3_0)))) (v2, v14, v15, h0_0, h0_1, h0_2, h0_3, h0_4, h0_5, h1_0, h2_0, h3_0) (fun x => k0 x.1 x.2.1 x.2.2.1 x.2.2.2.1 x.2.2.2.2.1 x.2.2.2.2.2.1 x.2.2.2.2.2.2.1 x.2.2.2.2.2.2.2.1 x.2.2.2.2.2.2.2.2.1 x.2.2.2.2.2.2.2.2.2.1 x.2.2.2.2.2.2.2.2.2.2.1 x.2.2.2.2.2.2.2.2.2.2.2)
noncomputable def sha_through_uint64_l3 {ρ : Type} (v2 : List Int) (v14 : List Int) (v15 : Int) (h0_0 : Int) (h0_1 : Int) (h0_2 : List Int) (h0_3 : List Int) (h0_4 : List Int) (h0_5 : List Int) (h1_0 : List Int) (h2_0 : List Int) (h3_0 : List Int) (k0 : (List Int) → (List Int) → Int → Int → Int → (List Int) → (List Int) → (List Int) → (List Int) → (List Int) → (List Int) → (List Int) → Option ρ) : Option ρ := shut (sha_through_uint64_L3 (ρ := ρ)) v2 v14 v15 h0_0 h0_1 h0_2 h0_3 h0_4 h0_5 h1_0 h2_0 h3_0 k0
theorem sha_through_uint64_l3_eq {ρ : Type} (v2 : List Int) (v14 : List Int) (v15 : Int) (h0_0 : Int) (h0_1 : Int) (h0_2 : List Int) (h0_3 : List Int) (h0_4 : List Int) (h0_5 : List Int) (h1_0 : List Int) (h2_0 : List Int) (h3_0 : List Int) (k0 : (List Int) → (List Int) → Int → Int → Int → (List Int) → (List Int) → (List Int) → (List Int) → (List Int) → (List Int) → (List Int) → Option ρ) : sha_through_uint64_l3 v2 v14 v15 h0_0 h0_1 h0_2 h0_3 h0_4 h0_5 h1_0 h2_0 h3_0 k0 = sha_through_uint64_L3 v2 v14 v15 h0_0 h0_1 h0_2 h0_3 h0_4 h0_5 h1_0 h2_0 h3_0 k0 := by unfold sha_through_uint64_l3; rw [shut_eq]
noncomputable def sha_through_uint64_r8 {ρ : Type} (v2 : List Int) (v11 : Int) (h3_0 : List Int) (h2_0 : List Int) (h1_0 : List Int) (h0_0 : Int) (h0_1 : Int) (h0_2 : List Int) (h0_3 : List Int) (h0_4 : List Int) (h0_5 : List Int) (nx : (List Int) → Int → (List Int) → (List Int) → (List Int) → Int → Int → (List Int) → (List Int) → (List Int) → (List Int) → Option ρ) (k0 : (List Int) → Int → (List Int) → (List Int) → (List Int) → Int → Int → (List Int) → (List Int) → (List Int) → (List Int) → Option ρ) : Option ρ :=
  br (decide ((↑v2.length : Int) ≥ v11))
    (br (decide ((0 : Int) ≤ v11))
      (br (decide (v11 ≤ (↑v2.length : Int)))
        (sha_engine_uint64_block h0_0 h0_1 h0_2 h0_3 h0_4 h0_5 h3_0 (List.drop 0 (List.take v11.toNat v2))
          fun (q0 : List Int) =>
          br (decide ((0 : Int) ≤ v11))
            (br (decide (v11 ≤ (↑v2.length : Int)))
              (br (decide ((↑v2.length : Int) ≤ (↑v2.length : Int)))
                (nx (List.drop v11.toNat (List.take (↑v2.length : Int).toNat v2)) v11 q0 h2_0 h1_0 h0_0 h0_1 h0_2 h0_3
                  h0_4 h0_5)
                none)
              none)
            none)
        none)
      none)
    (k0 v2 v11 h3_0 h2_0 h1_0 h0_0 h0_1 h0_2 h0_3 h0_4 h0_5)
noncomputable def sha_through_uint64_L8 {ρ : Type} (v2 : List Int) (v11 : Int) (h3_0 : List Int) (h2_0 : List Int) (h1_0 : List Int) (h0_0 : Int) (h0_1 : Int) (h0_2 : List Int) (h0_3 : List Int) (h0_4 : List Int) (h0_5 : List Int) (k0 : (List Int) → Int → (List Int) → (List Int) → (List Int) → Int → Int → (List Int) → (List Int) → (List Int) → (List Int) → Option ρ) : Option ρ :=
  lp (fun (x : (List Int) × Int × (List Int) × (List Int) × (List Int) × Int × Int × (List Int) × (List Int) × (List Int) × (List Int)) (next : ((List Int) × Int × (List Int) × (List Int) × (List Int) × Int × Int × (List Int) × (List Int) × (List Int) × (List Int)) → Option ρ) (ex : (((List Int) × Int × (List Int) × (List Int) × (List Int) × Int × Int × (List Int) × (List Int) × (List Int) × (List Int))) → Option ρ) => sha_through_uint64_r8 x.1 x.2.1 x.2.2.1 x.2.2.2.1 x.2.2.2.2.1 x.2.2.2.2.2.1 x.2.2.2.2.2.2.1 x.2.2.2.2.2.2.2.1 x.2.2.2.2.2.2.2.2.1 x.2.2.2.2.2.2.2.2.2.1 x.2.2.2.2.2.2.2.2.2.2 (fun v2 v11 h3_0 h2_0 h1_0 h0_0 h0_1 h0_2 h0_3 h0_4 h0_5 => next (v2, v11, h3_0, h2_0, h1_0, h0_0, h0_1, h0_2, h0_3, h0_4, h0_5)) (fun v2 v11 h3_0 h2_0 h1_0 h0_0 h0_1 h0_2 h0_3 h0_4 h0_5 => ex ((v2, v11, h3_0, h2_0, h1_0, h0_0, h0_1, h0_2, h0_3, h0_4, h0_5)))) (v2, v11, h3_0, h2_0, h1_0, h0_0, h0_1, h0_2, h0_3, h0_4, h0_5) (fun x => k0 x.1 x.2.1 x.2.2.1 x.2.2.2.1 x.2.2.2.2.1 x.2.2.2.2.2.1 x.2.2.2.2.2.2.1 x.2.2.2.2.2.2.2.1 x.2.2.2.2.2.2.2.2.1 x.2.2.2.2.2.2.2.2.2.1 x.2.2.2.2.2.2.2.2.2.2)
noncomputable def sha_through_uint64_l8 {ρ : Type} (v2 : List Int) (v11 : Int) (h3_0 : List Int) (h2_0 : List Int) (h1_0 : List Int) (h0_0 : Int) (h0_1 : Int) (h0_2 : List Int) (h0_3 : List Int) (h0_4 : List Int) (h0_5 : List Int) (k0 : (List Int) → Int → (List Int) → (List Int) → (List Int) → Int → Int → (List Int) → (List Int) → (List Int) → (List Int) → Option ρ) : Option ρ := shut (sha_through_uint64_L8 (ρ := ρ)) v2 v11 h3_0 h2_0 h1_0 h0_0 h0_1 h0_2 h0_3 h0_4 h0_5 k0
theorem sha_through_uint64_l8_eq {ρ : Type} (v2 : List Int) (v11 : Int) (h3_0 : List Int) (h2_0 : List Int) (h1_0 : List Int) (h0_0 : Int) (h0_1 : Int) (h0_2 : List Int) (h0_3 : List Int) (h0_4 : List Int) (h0_5 : List Int) (k0 : (List Int) → Int → (List Int) → (List Int) → (List Int) → Int → Int → (List Int) → (List Int) → (List Int) → (List Int) → Option ρ) : sha_through_uint64_l8 v2 v11 h3_0 h2_0 h1_0 h0_0 h0_1 h0_2 h0_3 h0_4 h0_5 k0 = sha_through_uint64_L8 v2 v11 h3_0 h2_0 h1_0 h0_0 h0_1 h0_2 h0_3 h0_4 h0_5 k0 := by unfold sha_through_uint64_l8; rw [shut_eq]
noncomputable def sha_through_uint64_r12 {ρ : Type} (v2 : List Int) (v39 : List Int) (v40 : Int) (h1_0 : List Int) (h2_0 : List Int) (nx : (List Int) → (List Int) → Int → (List Int) → (List Int) → Option ρ) (k0 : (List Int) → (List Int) → Int → (List Int) → (List Int) → Option ρ) : Option ρ :=
  br (decide (v40 < (8 : Int)))
    (br (decide ((0 : Int) ≤ v40))
      (br (decide (v40 < (↑8 : Int)))
        (br (decide ((0 : Int) ≤ v40))
          (br (decide (v40 < (↑8 : Int)))
            (nx v2 v39 (IntKind.i64.wrap (v40 + (1 : Int))) (h1_0.set v40.toNat (v39.getD v40.toNat (0 : Int))) h2_0)
            none)
          none)
        none)
      none)
    (k0 v2 v39 v40 h1_0 h2_0)
noncomputable def sha_through_uint64_L12 {ρ : Type} (v2 : List Int) (v39 : List Int) (v40 : Int) (h1_0 : List Int) (h2_0 : List Int) (k0 : (List Int) → (List Int) → Int → (List Int) → (List Int) → Option ρ) : Option ρ :=
  lp (fun (x : (List Int) × (List Int) × Int × (List Int) × (List Int)) (next : ((List Int) × (List Int) × Int × (List Int) × (List Int)) → Option ρ) (ex : (((List Int) × (List Int) × Int × (List Int) × (List Int))) → Option ρ) => sha_through_uint64_r12 x.1 x.2.1 x.2.2.1 x.2.2.2.1 x.2.2.2.2 (fun v2 v39 v40 h1_0 h2_0 => next (v2, v39, v40, h1_0, h2_0)) (fun v2 v39 v40 h1_0 h2_0 => ex ((v2, v39, v40, h1_0, h2_0)))) (v2, v39, v40, h1_0, h2_0) (fun x => k0 x.1 x.2.1 x.2.2.1 x.2.2.2.1 x.2.2.2.2)
noncomputable def sha_through_uint64_l12 {ρ : Type} (v2 : List Int) (v39 : List Int) (v40 : Int) (h1_0 : List Int) (h2_0 : List Int) (k0 : (List Int) → (List Int) → Int → (List Int) → (List Int) → Option ρ) : Option ρ := shut (sha_through_uint64_L12 (ρ := ρ)) v2 v39 v40 h1_0 h2_0 k0
theorem sha_through_uint64_l12_eq {ρ : Type} (v2 : List Int) (v39 : List Int) (v40 : Int) (h1_0 : List Int) (h2_0 : List Int) (k0 : (List Int) → (List Int) → Int → (List Int) → (List Int) → Option ρ) : sha_through_uint64_l12 v2 v39 v40 h1_0 h2_0 k0 = sha_through_uint64_L12 v2 v39 v40 h1_0 h2_0 k0 := by unfold sha_through_uint64_l12; rw [shut_eq]
noncomputable def sha_through_uint64_raw {ρ : Type} (a0_bits : Int) (a0_rounds : Int) (a0_turns_0 : List Int) (a0_turns_1 : List Int) (a0_turns_2 : List Int) (a0_turns_3 : List Int) (a1 : List Int) (a2 : List Int) (k : (List Int) → (List Int) → Option ρ) : Option ρ :=
  sha_through_uint64_l3 a2 a1 (0 : Int) a0_bits a0_rounds a0_turns_0 a0_turns_1 a0_turns_2 a0_turns_3 a1
    [(0 : Int), (0 : Int), (0 : Int), (0 : Int), (0 : Int), (0 : Int), (0 : Int), (0 : Int)]
    [(0 : Int), (0 : Int), (0 : Int), (0 : Int), (0 : Int), (0 : Int), (0 : Int), (0 : Int)]
    fun (q0 q1 : List Int) (q2 q3 q4 : Int) (q5 q6 q7 q8 q9 q10 q11 : List Int) =>
    sha_through_uint64_l8 q0 (IntKind.i64.wrap (q3 * (2 : Int))) q11 q10 q9 q3 q4 q5 q6 q7 q8
      fun (q12 : List Int) (q13 : Int) (q14 q15 q16 : List Int) (q17 q18 : Int) (q19 q20 q21 q22 : List Int) =>
      sha_through_uint64_l12 q12 q14 (0 : Int) q16 q15 fun (q23 q24 : List Int) (q25 : Int) (q26 q27 : List Int) =>
        k q26 q23
noncomputable def sha_through_uint64 {ρ : Type} (a0_bits : Int) (a0_rounds : Int) (a0_turns_0 : List Int) (a0_turns_1 : List Int) (a0_turns_2 : List Int) (a0_turns_3 : List Int) (a1 : List Int) (a2 : List Int) (k : (List Int) → (List Int) → Option ρ) : Option ρ := shut (sha_through_uint64_raw (ρ := ρ)) a0_bits a0_rounds a0_turns_0 a0_turns_1 a0_turns_2 a0_turns_3 a1 a2 k
theorem sha_through_uint64_eq {ρ : Type} (a0_bits : Int) (a0_rounds : Int) (a0_turns_0 : List Int) (a0_turns_1 : List Int) (a0_turns_2 : List Int) (a0_turns_3 : List Int) (a1 : List Int) (a2 : List Int) (k : (List Int) → (List Int) → Option ρ) : sha_through_uint64 a0_bits a0_rounds a0_turns_0 a0_turns_1 a0_turns_2 a0_turns_3 a1 a2 k = sha_through_uint64_raw a0_bits a0_rounds a0_turns_0 a0_turns_1 a0_turns_2 a0_turns_3 a1 a2 k := by unfold sha_through_uint64; rw [shut_eq]

end P
end

section
open Go Go.Abs
set_option linter.unusedVariables false
namespace P
noncomputable def sha_great_raw {ρ : Type}  (k : Int → Int → (List Int) → (List Int) → (List Int) → (List Int) → Option ρ) : Option ρ :=
  k (64 : Int) (80 : Int) [(1 : Int), (8 : Int), (7 : Int)] [(19 : Int), (61 : Int), (6 : Int)]
    [(28 : Int), (34 : Int), (39 : Int)] [(14 : Int), (18 : Int), (41 : Int)]
noncomputable def sha_great {ρ : Type}  (k : Int → Int → (List Int) → (List Int) → (List Int) → (List Int) → Option ρ) : Option ρ := shut (sha_great_raw (ρ := ρ))  k
theorem sha_great_eq {ρ : Type}  (k : Int → Int → (List Int) → (List Int) → (List Int) → (List Int) → Option ρ) : sha_great  k = sha_great_raw  k := by unfold sha_great; rw [shut_eq]

end P
end

section
open Go Go.Abs
set_option linter.unusedVariables false
namespace P
noncomputable def slices_Clone_byte {ρ : Type} (a0 : List Int) (k : (List Int) → Option ρ) : Option ρ :=
  br (decide (a0.length * 1 ≤ 140737488355328)) (k a0) none
end P
end

section
open Go Go.Abs
set_option linter.unusedVariables false
namespace P
noncomputable def sha_Add_raw {ρ : Type} (a0_Kind : Int) (a0_Words : List Int) (a0_Tail : List Int) (a0_Size : Int) (a1 : List Int) (k : Int → (List Int) → (List Int) → Int → Option ρ) : Option ρ :=
  slices_Concat_byte [a0_Tail, a1] fun (q0 : List Int) =>
    br (a0_Kind == (1 : Int))
      (sha_small fun (q1 q2 : Int) (q3 q4 q5 q6 : List Int) =>
        sha_through_uint32 q1 q2 q3 q4 q5 q6 a0_Words q0 fun (q7 q8 : List Int) =>
          slices_Clone_byte q8 fun (q9 : List Int) =>
            k a0_Kind q7 q9 (IntKind.u64.wrap (a0_Size + IntKind.u64.wrap (↑a1.length : Int))))
      (sha_great fun (q10 q11 : Int) (q12 q13 q14 q15 : List Int) =>
        sha_through_uint64 q10 q11 q12 q13 q14 q15 a0_Words q0 fun (q16 q17 : List Int) =>
          slices_Clone_byte q17 fun (q18 : List Int) =>
            k a0_Kind q16 q18 (IntKind.u64.wrap (a0_Size + IntKind.u64.wrap (↑a1.length : Int))))
noncomputable def sha_Add {ρ : Type} (a0_Kind : Int) (a0_Words : List Int) (a0_Tail : List Int) (a0_Size : Int) (a1 : List Int) (k : Int → (List Int) → (List Int) → Int → Option ρ) : Option ρ := shut (sha_Add_raw (ρ := ρ)) a0_Kind a0_Words a0_Tail a0_Size a1 k
theorem sha_Add_eq {ρ : Type} (a0_Kind : Int) (a0_Words : List Int) (a0_Tail : List Int) (a0_Size : Int) (a1 : List Int) (k : Int → (List Int) → (List Int) → Int → Option ρ) : sha_Add a0_Kind a0_Words a0_Tail a0_Size a1 k = sha_Add_raw a0_Kind a0_Words a0_Tail a0_Size a1 k := by unfold sha_Add; rw [shut_eq]

end P
end

section
open Go Go.Abs
set_option linter.unusedVariables false
namespace P
noncomputable def sha_blockSize_raw {ρ : Type} (a0 : Int) (k : Int → Option ρ) : Option ρ :=
  br (a0 == (1 : Int)) (k (64 : Int)) (k (128 : Int))
noncomputable def sha_blockSize {ρ : Type} (a0 : Int) (k : Int → Option ρ) : Option ρ := shut (sha_blockSize_raw (ρ := ρ)) a0 k
theorem sha_blockSize_eq {ρ : Type} (a0 : Int) (k : Int → Option ρ) : sha_blockSize a0 k = sha_blockSize_raw a0 k := by unfold sha_blockSize; rw [shut_eq]

end P
end

section
open Go Go.Abs
set_option linter.unusedVariables false
namespace P
noncomputable def sha_End_r10 {ρ : Type} (v3 : Int) (v45 : List Int) (v46 : Int) (h40 : List Int) (h0_0 : Int) (h0_1 : List Int) (h0_3 : Int) (h5 : List Int) (nx : Int → (List Int) → Int → (List Int) → Int → (List Int) → Int → (List Int) → Option ρ) (k0 : Int → (List Int) → Int → (List Int) → Int → (List Int) → Int → (List Int) → Option ρ) : Option ρ :=
  br (decide (v46 < (8 : Int)))
    (br (decide ((0 : Int) ≤ v46))
      (br (decide (v46 < (↑8 : Int)))
        (bits_Be (v45.getD v46.toNat (0 : Int)) (IntKind.i64.wrap (v3.tdiv (16 : Int))) fun (q0 : List Int) =>
          br
            (decide
              ((h40.length + q0.length) * 1 ≤
                140737488355328))
            (nx v3 v45 (IntKind.i64.wrap (v46 + (1 : Int))) (h40 ++ q0) h0_0 h0_1 h0_3 h5) none)
        none)
      none)
    (k0 v3 v45 v46 h40 h0_0 h0_1 h0_3 h5)
noncomputable def sha_End_L10 {ρ : Type} (v3 : Int) (v45 : List Int) (v46 : Int) (h40 : List Int) (h0_0 : Int) (h0_1 : List Int) (h0_3 : Int) (h5 : List Int) (k0 : Int → (List Int) → Int → (List Int) → Int → (List Int) → Int → (List Int) → Option ρ) : Option ρ :=
  lp (fun (x : Int × (List Int) × Int × (List Int) × Int × (List Int) × Int × (List Int)) (next : (Int × (List Int) × Int × (List Int) × Int × (List Int) × Int × (List Int)) → Option ρ) (ex : ((Int × (List Int) × Int × (List Int) × Int × (List Int) × Int × (List Int))) → Option ρ) => sha_End_r10 x.1 x.2.1 x.2.2.1 x.2.2.2.1 x.2.2.2.2.1 x.2.2.2.2.2.1 x.2.2.2.2.2.2.1 x.2.2.2.2.2.2.2 (fun v3 v45 v46 h40 h0_0 h0_1 h0_3 h5 => next (v3, v45, v46, h40, h0_0, h0_1, h0_3, h5)) (fun v3 v45 v46 h40 h0_0 h0_1 h0_3 h5 => ex ((v3, v45, v46, h40, h0_0, h0_1, h0_3, h5)))) (v3, v45, v46, h40, h0_0, h0_1, h0_3, h5) (fun x => k0 x.1 x.2.1 x.2.2.1 x.2.2.2.1 x.2.2.2.2.1 x.2.2.2.2.2.1 x.2.2.2.2.2.2.1 x.2.2.2.2.2.2.2)
noncomputable def sha_End_l10 {ρ : Type} (v3 : Int) (v45 : List Int) (v46 : Int) (h40 : List Int) (h0_0 : Int) (h0_1 : List Int) (h0_3 : Int) (h5 : List Int) (k0 : Int → (List Int) → Int → (List Int) → Int → (List Int) → Int → (List Int) → Option ρ) : Option ρ := shut (sha_End_L10 (ρ := ρ)) v3 v45 v46 h40 h0_0 h0_1 h0_3 h5 k0
theorem sha_End_l10_eq {ρ : Type} (v3 : Int) (v45 : List Int) (v46 : Int) (h40 : List Int) (h0_0 : Int) (h0_1 : List Int) (h0_3 : Int) (h5 : List Int) (k0 : Int → (List Int) → Int → (List Int) → Int → (List Int) → Int → (List Int) → Option ρ) : sha_End_l10 v3 v45 v46 h40 h0_0 h0_1 h0_3 h5 k0 = sha_End_L10 v3 v45 v46 h40 h0_0 h0_1 h0_3 h5 k0 := by unfold sha_End_l10; rw [shut_eq]
noncomputable def sha_End_raw {ρ : Type} (a0_Kind : Int) (a0_Words : List Int) (a0_Tail : List Int) (a0_Size : Int) (k : (List Int) → Option ρ) : Option ρ :=
  sha_blockSize a0_Kind fun (q0 : Int) =>
    br (decide ((1 : Int) ≤ q0))
      (br (decide (q0 * (↑1 : Int) ≤ (↑140737488355328 : Int)))
        (br (decide (q0 = (0 : Int))) none
          (br
            (decide
              ((0 : Int) ≤
                IntKind.i64.wrap
                  (IntKind.i64.wrap
                      ((IntKind.i64.wrap
                              (IntKind.i64.wrap
                                  (IntKind.i64.wrap (IntKind.i64.wrap ((2 : Int) * q0) - (1 : Int)) -
                                    IntKind.i64.wrap (q0.tdiv (8 : Int))) -
                                (↑a0_Tail.length : Int))).tmod
                          q0 +
                        IntKind.i64.wrap (q0.tdiv (8 : Int))) -
                    (8 : Int))))
            (br
              (decide
                ((1 +
                      (IntKind.i64.wrap
                          (IntKind.i64.wrap
                              ((IntKind.i64.wrap
                                      (IntKind.i64.wrap
                                          (IntKind.i64.wrap (IntKind.i64.wrap ((2 : Int) * q0) - (1 : Int)) -
                                            IntKind.i64.wrap (q0.tdiv (8 : Int))) -
                                        (↑a0_Tail.length : Int))).tmod
                                  q0 +
                                IntKind.i64.wrap (q0.tdiv (8 : Int))) -
                            (8 : Int))).toNat) *
                    1 ≤
                  140737488355328))
              (bits_Be (IntKind.u64.wrap (a0_Size * (2 : Int) ^ 3)) (8 : Int) fun (q1 : List Int) =>
                br
                  (decide
                    ((((List.replicate
                                    (IntKind.i64.wrap
                                        (IntKind.i64.wrap
                                            ((IntKind.i64.wrap
                                                    (IntKind.i64.wrap
                                                        (IntKind.i64.wrap
                                                            (IntKind.i64.wrap ((2 : Int) * q0) - (1 : Int)) -
                                                          IntKind.i64.wrap (q0.tdiv (8 : Int))) -
                                                      (↑a0_Tail.length : Int))).tmod
                                                q0 +
                                              IntKind.i64.wrap (q0.tdiv (8 : Int))) -
                                          (8 : Int))).toNat
                                    (0 : Int)).length.add
                              0).succ +
                          q1.length) *
                        1 ≤
                      140737488355328))
                  (sha_Add a0_Kind a0_Words a0_Tail a0_Size
                    ((List.replicate 1 (0 : Int)).set 0 (128 : Int) ++
                        List.replicate
                          (IntKind.i64.wrap
                              (IntKind.i64.wrap
                                  ((IntKind.i64.wrap
                                          (IntKind.i64.wrap
                                              (IntKind.i64.wrap (IntKind.i64.wrap ((2 : Int) * q0) - (1 : Int)) -
                                                IntKind.i64.wrap (q0.tdiv (8 : Int))) -
                                            (↑a0_Tail.length : Int))).tmod
                                      q0 +
                                    IntKind.i64.wrap (q0.tdiv (8 : Int))) -
                                (8 : Int))).toNat
                          (0 : Int) ++
                      q1)
                    fun (q2 : Int) (q3 q4 : List Int) (q5 : Int) =>
                    sha_End_l10 q0 q3 (0 : Int) [] q2 q3 q5 q4
                      fun (q6 : Int) (q7 : List Int) (q8 : Int) (q9 : List Int) (q10 : Int) (q11 : List Int) (q12 : Int)
                        (q13 : List Int) =>
                      br (q10 == (2 : Int))
                        (br (decide ((48 : Int) ≤ (↑q9.length : Int))) (k (List.take ((48 : Int) - (0 : Int)).toNat q9))
                          none)
                        (k q9))
                  none)
              none)
            none))
        none)
      none
noncomputable def sha_End {ρ : Type} (a0_Kind : Int) (a0_Words : List Int) (a0_Tail : List Int) (a0_Size : Int) (k : (List Int) → Option ρ) : Option ρ := shut (sha_End_raw (ρ := ρ)) a0_Kind a0_Words a0_Tail a0_Size k
theorem sha_End_eq {ρ : Type} (a0_Kind : Int) (a0_Words : List Int) (a0_Tail : List Int) (a0_Size : Int) (k : (List Int) → Option ρ) : sha_End a0_Kind a0_Words a0_Tail a0_Size k = sha_End_raw a0_Kind a0_Words a0_Tail a0_Size k := by unfold sha_End; rw [shut_eq]

end P
end

section
open Go Go.Abs
set_option linter.unusedVariables false
namespace P
noncomputable def sha_begin_raw {ρ : Type} (a0 : Int) (k : (List Int) → Bool → Option ρ) : Option ρ :=
  br (a0 == (1 : Int))
    (k
      [(1779033703 : Int), (3144134277 : Int), (1013904242 : Int), (2773480762 : Int), (1359893119 : Int),
        (2600822924 : Int), (528734635 : Int), (1541459225 : Int)]
      true)
    (br (a0 == (2 : Int))
      (k
        [(14680500436340154072 : Int), (7105036623409894663 : Int), (10473403895298186519 : Int),
          (1526699215303891257 : Int), (7436329637833083697 : Int), (10282925794625328401 : Int),
          (15784041429090275239 : Int), (5167115440072839076 : Int)]
        true)
      (br (a0 == (3 : Int))
        (k
          [(7640891576956012808 : Int), (13503953896175478587 : Int), (4354685564936845355 : Int),
            (11912009170470909681 : Int), (5840696475078001361 : Int), (11170449401992604703 : Int),
            (2270897969802886507 : Int), (6620516959819538809 : Int)]
          true)
        (k [(0 : Int), (0 : Int), (0 : Int), (0 : Int), (0 : Int), (0 : Int), (0 : Int), (0 : Int)] false)))
noncomputable def sha_begin {ρ : Type} (a0 : Int) (k : (List Int) → Bool → Option ρ) : Option ρ := shut (sha_begin_raw (ρ := ρ)) a0 k
theorem sha_begin_eq {ρ : Type} (a0 : Int) (k : (List Int) → Bool → Option ρ) : sha_begin a0 k = sha_begin_raw a0 k := by unfold sha_begin; rw [shut_eq]

end P
end

section
open Go Go.Abs
set_option linter.unusedVariables false
namespace P
noncomputable def sha_New_raw {ρ : Type} (a0 : Int) (k : Int → (List Int) → (List Int) → Int → Int → Option ρ) : Option ρ :=
  sha_begin a0 fun (q0 : List Int) (q1 : Bool) =>
    br (!q1)
      (k (0 : Int) [(0 : Int), (0 : Int), (0 : Int), (0 : Int), (0 : Int), (0 : Int), (0 : Int), (0 : Int)] [] (0 : Int)
        (9 : Int))
      (k a0 q0 [] (0 : Int) (0 : Int))
noncomputable def sha_New {ρ : Type} (a0 : Int) (k : Int → (List Int) → (List Int) → Int → Int → Option ρ) : Option ρ := shut (sha_New_raw (ρ := ρ)) a0 k
theorem sha_New_eq {ρ : Type} (a0 : Int) (k : Int → (List Int) → (List Int) → Int → Int → Option ρ) : sha_New a0 k = sha_New_raw a0 k := by unfold sha_New; rw [shut_eq]

end P
end

section
open Go Go.Abs
set_option linter.unusedVariables false
namespace P
noncomputable def bits_Join_raw {ρ : Type} (a0 : List (List Int)) (k : (List Int) → Option ρ) : Option ρ :=
  slices_Concat_byte a0 fun (q0 : List Int) => k q0
noncomputable def bits_Join {ρ : Type} (a0 : List (List Int)) (k : (List Int) → Option ρ) : Option ρ := shut (bits_Join_raw (ρ := ρ)) a0 k
theorem bits_Join_eq {ρ : Type} (a0 : List (List Int)) (k : (List Int) → Option ρ) : bits_Join a0 k = bits_Join_raw a0 k := by unfold bits_Join; rw [shut_eq]

end P
end

section
open Go Go.Abs
set_option linter.unusedVariables false
namespace P
noncomputable def lmots_leaf_sum_raw {ρ : Type} (a0_w : Int) (a0_id : List Int) (a0_q : Int) (a0_kind_digits : Int) (a0_kind_shift : Int) (a0_kind_code : Int) (a1 : Int) (a2 : List (List Int)) (k : (List Int) → Option ρ) : Option ρ :=
  sha_New (1 : Int) fun (q0 : Int) (q1 q2 : List Int) (q3 q4 : Int) =>
    bits_Be (IntKind.u64.wrap a0_q) (4 : Int) fun (q5 : List Int) =>
      bits_Be a1 (2 : Int) fun (q6 : List Int) =>
        bits_Join [a0_id, q5, q6] fun (q7 : List Int) =>
          sha_Add q0 q1 q2 q3 q7 fun (q8 : Int) (q9 q10 : List Int) (q11 : Int) =>
            bits_Join a2 fun (q12 : List Int) =>
              sha_Add q8 q9 q10 q11 q12 fun (q13 : Int) (q14 q15 : List Int) (q16 : Int) =>
                sha_End q13 q14 q15 q16 fun (q17 : List Int) => k q17
noncomputable def lmots_leaf_sum {ρ : Type} (a0_w : Int) (a0_id : List Int) (a0_q : Int) (a0_kind_digits : Int) (a0_kind_shift : Int) (a0_kind_code : Int) (a1 : Int) (a2 : List (List Int)) (k : (List Int) → Option ρ) : Option ρ := shut (lmots_leaf_sum_raw (ρ := ρ)) a0_w a0_id a0_q a0_kind_digits a0_kind_shift a0_kind_code a1 a2 k
theorem lmots_leaf_sum_eq {ρ : Type} (a0_w : Int) (a0_id : List Int) (a0_q : Int) (a0_kind_digits : Int) (a0_kind_shift : Int) (a0_kind_code : Int) (a1 : Int) (a2 : List (List Int)) (k : (List Int) → Option ρ) : lmots_leaf_sum a0_w a0_id a0_q a0_kind_digits a0_kind_shift a0_kind_code a1 a2 k = lmots_leaf_sum_raw a0_w a0_id a0_q a0_kind_digits a0_kind_shift a0_kind_code a1 a2 k := by unfold lmots_leaf_sum; rw [shut_eq]

end P
end

section
open Go Go.Abs
set_option linter.unusedVariables false
namespace P
noncomputable def lmots_leaf_along_r2 {ρ : Type} (v1 : Int) (v2 : Int) (v4 : List Int) (v12 : Int) (v13 : Int) (h0_0 : Int) (h0_1 : List Int) (h0_2 : Int) (h0_3 : Int) (h0_4 : Int) (h0_5 : Int) (nx : Int → Int → (List Int) → Int → Int → Int → (List Int) → Int → Int → Int → Int → Option ρ) (k0 : Int → Int → (List Int) → Int → Int → Int → (List Int) → Int → Int → Int → Int → Option ρ) : Option ρ :=
  br (decide (v13 < v12))
    (lmots_leaf_sum h0_0 h0_1 h0_2 h0_3 h0_4 h0_5 (IntKind.u64.wrap v1)
      [[IntKind.u8.wrap (IntKind.u32.wrap (v2 + v13))], v4] fun (q0 : List Int) =>
      nx v1 v2 q0 v12 (IntKind.u32.wrap (v13 + (1 : Int))) h0_0 h0_1 h0_2 h0_3 h0_4 h0_5)
    (k0 v1 v2 v4 v12 v13 h0_0 h0_1 h0_2 h0_3 h0_4 h0_5)
noncomputable def lmots_leaf_along_L2 {ρ : Type} (v1 : Int) (v2 : Int) (v4 : List Int) (v12 : Int) (v13 : Int) (h0_0 : Int) (h0_1 : List Int) (h0_2 : Int) (h0_3 : Int) (h0_4 : Int) (h0_5 : Int) (k0 : Int → Int → (List Int) → Int → Int → Int → (List Int) → Int → Int → Int → Int → Option ρ) : Option ρ :=
  lp (fun (x : Int × Int × (List Int) × Int × Int × Int × (List Int) × Int × Int × Int × Int) (next : (Int × Int × (List Int) × Int × Int × Int × (List Int) × Int × Int × Int × Int) → Option ρ) (ex : ((Int × Int × (List Int) × Int × Int × Int × (List Int) × Int × Int × Int × Int)) → Option ρ) => lmots_leaf_along_r2 x.1 x.2.1 x.2.2.1 x.2.2.2.1 x.2.2.2.2.1 x.2.2.2.2.2.1 x.2.2.2.2.2.2.1 x.2.2.2.2.2.2.2.1 x.2.2.2.2.2.2.2.2.1 x.2.2.2.2.2.2.2.2.2.1 x.2.2.2.2.2.2.2.2.2.2 (fun v1 v2 v4 v12 v13 h0_0 h0_1 h0_2 h0_3 h0_4 h0_5 => next (v1, v2, v4, v12, v13, h0_0, h0_1, h0_2, h0_3, h0_4, h0_5)) (fun v1 v2 v4 v12 v13 h0_0 h0_1 h0_2 h0_3 h0_4 h0_5 => ex ((v1, v2, v4, v12, v13, h0_0, h0_1, h0_2, h0_3, h0_4, h0_5)))) (v1, v2, v4, v12, v13, h0_0, h0_1, h0_2, h0_3, h0_4, h0_5) (fun x => k0 x.1 x.2.1 x.2.2.1 x.2.2.2.1 x.2.2.2.2.1 x.2.2.2.2.2.1 x.2.2.2.2.2.2.1 x.2.2.2.2.2.2.2.1 x.2.2.2.2.2.2.2.2.1 x.2.2.2.2.2.2.2.2.2.1 x.2.2.2.2.2.2.2.2.2.2)
noncomputable def lmots_leaf_along_l2 {ρ : Type} (v1 : Int) (v2 : Int) (v4 : List Int) (v12 : Int) (v13 : Int) (h0_0 : Int) (h0_1 : List Int) (h0_2 : Int) (h0_3 : Int) (h0_4 : Int) (h0_5 : Int) (k0 : Int → Int → (List Int) → Int → Int → Int → (List Int) → Int → Int → Int → Int → Option ρ) : Option ρ := shut (lmots_leaf_along_L2 (ρ := ρ)) v1 v2 v4 v12 v13 h0_0 h0_1 h0_2 h0_3 h0_4 h0_5 k0
theorem lmots_leaf_along_l2_eq {ρ : Type} (v1 : Int) (v2 : Int) (v4 : List Int) (v12 : Int) (v13 : Int) (h0_0 : Int) (h0_1 : List Int) (h0_2 : Int) (h0_3 : Int) (h0_4 : Int) (h0_5 : Int) (k0 : Int → Int → (List Int) → Int → Int → Int → (List Int) → Int → Int → Int → Int → Option ρ) : lmots_leaf_along_l2 v1 v2 v4 v12 v13 h0_0 h0_1 h0_2 h0_3 h0_4 h0_5 k0 = lmots_leaf_along_L2 v1 v2 v4 v12 v13 h0_0 h0_1 h0_2 h0_3 h0_4 h0_5 k0 := by unfold lmots_leaf_along_l2; rw [shut_eq]
noncomputable def lmots_leaf_along_raw {ρ : Type} (a0_w : Int) (a0_id : List Int) (a0_q : Int) (a0_kind_digits : Int) (a0_kind_shift : Int) (a0_kind_code : Int) (a1 : Int) (a2 : Int) (a3 : Int) (a4 : List Int) (k : (List Int) → Option ρ) : Option ρ :=
  lmots_leaf_along_l2 a1 a2 a4 a3 (0 : Int) a0_w a0_id a0_q a0_kind_digits a0_kind_shift a0_kind_code
    fun (q0 q1 : Int) (q2 : List Int) (q3 q4 q5 : Int) (q6 : List Int) (q7 q8 q9 q10 : Int) => k q2
noncomputable def lmots_leaf_along {ρ : Type} (a0_w : Int) (a0_id : List Int) (a0_q : Int) (a0_kind_digits : Int) (a0_kind_shift : Int) (a0_kind_code : Int) (a1 : Int) (a2 : Int) (a3 : Int) (a4 : List Int) (k : (List Int) → Option ρ) : Option ρ := shut (lmots_leaf_along_raw (ρ := ρ)) a0_w a0_id a0_q a0_kind_digits a0_kind_shift a0_kind_code a1 a2 a3 a4 k
theorem lmots_leaf_along_eq {ρ : Type} (a0_w : Int) (a0_id : List Int) (a0_q : Int) (a0_kind_digits : Int) (a0_kind_shift : Int) (a0_kind_code : Int) (a1 : Int) (a2 : Int) (a3 : Int) (a4 : List Int) (k : (List Int) → Option ρ) : lmots_leaf_along a0_w a0_id a0_q a0_kind_digits a0_kind_shift a0_kind_code a1 a2 a3 a4 k = lmots_leaf_along_raw a0_w a0_id a0_q a0_kind_digits a0_kind_shift a0_kind_code a1 a2 a3 a4 k := by unfold lmots_leaf_along; rw [shut_eq]

end P
end

section
open Go Go.Abs
set_option linter.unusedVariables false
namespace P
noncomputable def lmots_leaf_steps_raw {ρ : Type} (a0_w : Int) (a0_id : List Int) (a0_q : Int) (a0_kind_digits : Int) (a0_kind_shift : Int) (a0_kind_code : Int) (k : Int → Option ρ) : Option ρ :=
  br (decide (a0_w < (0 : Int))) none
    (k (IntKind.u32.wrap (IntKind.u32.wrap ((1 : Int) * (2 : Int) ^ min a0_w.toNat 32) - (1 : Int))))
noncomputable def lmots_leaf_steps {ρ : Type} (a0_w : Int) (a0_id : List Int) (a0_q : Int) (a0_kind_digits : Int) (a0_kind_shift : Int) (a0_kind_code : Int) (k : Int → Option ρ) : Option ρ := shut (lmots_leaf_steps_raw (ρ := ρ)) a0_w a0_id a0_q a0_kind_digits a0_kind_shift a0_kind_code k
theorem lmots_leaf_steps_eq {ρ : Type} (a0_w : Int) (a0_id : List Int) (a0_q : Int) (a0_kind_digits : Int) (a0_kind_shift : Int) (a0_kind_code : Int) (k : Int → Option ρ) : lmots_leaf_steps a0_w a0_id a0_q a0_kind_digits a0_kind_shift a0_kind_code k = lmots_leaf_steps_raw a0_w a0_id a0_q a0_kind_digits a0_kind_shift a0_kind_code k := by unfold lmots_leaf_steps; rw [shut_eq]

end P
end

section
open Go Go.Abs
set_option linter.unusedVariables false
namespace P
noncomputable def lmots_leaf_part_raw {ρ : Type} (a0_w : Int) (a0_id : List Int) (a0_q : Int) (a0_kind_digits : Int) (a0_kind_shift : Int) (a0_kind_code : Int) (a1 : Int) (a2 : List Int) (k : (List Int) → Option ρ) : Option ρ :=
  lmots_leaf_sum a0_w a0_id a0_q a0_kind_digits a0_kind_shift a0_kind_code a1 [[(255 : Int)], a2] fun (q0 : List Int) =>
    k q0
noncomputable def lmots_leaf_part {ρ : Type} (a0_w : Int) (a0_id : List Int) (a0_q : Int) (a0_kind_digits : Int) (a0_kind_shift : Int) (a0_kind_code : Int) (a1 : Int) (a2 : List Int) (k : (List Int) → Option ρ) : Option ρ := shut (lmots_leaf_part_raw (ρ := ρ)) a0_w a0_id a0_q a0_kind_digits a0_kind_shift a0_kind_code a1 a2 k
theorem lmots_leaf_part_eq {ρ : Type} (a0_w : Int) (a0_id : List Int) (a0_q : Int) (a0_kind_digits : Int) (a0_kind_shift : Int) (a0_kind_code : Int) (a1 : Int) (a2 : List Int) (k : (List Int) → Option ρ) : lmots_leaf_part a0_w a0_id a0_q a0_kind_digits a0_kind_shift a0_kind_code a1 a2 k = lmots_leaf_part_raw a0_w a0_id a0_q a0_kind_digits a0_kind_shift a0_kind_code a1 a2 k := by unfold lmots_leaf_part; rw [shut_eq]

end P
end

section
open Go Go.Abs
set_option linter.unusedVariables false
namespace P
noncomputable def lmots_Public_r6 {ρ : Type} (v3 : List Int) (v27 : Int) (v28 : Int) (h1 : List Int) (h0_0 : Int) (h0_1 : List Int) (h0_2 : Int) (h0_3 : Int) (h0_4 : Int) (h0_5 : Int) (nx : (List Int) → Int → Int → (List Int) → Int → (List Int) → Int → Int → Int → Int → Option ρ) (k0 : (List Int) → Int → Int → (List Int) → Int → (List Int) → Int → Int → Int → Int → Option ρ) : Option ρ :=
  br (decide (v28 < v27))
    (lmots_leaf_steps h0_0 h0_1 h0_2 h0_3 h0_4 h0_5 fun (q0 : Int) =>
      lmots_leaf_part h0_0 h0_1 h0_2 h0_3 h0_4 h0_5 (IntKind.u64.wrap v28) v3 fun (q1 : List Int) =>
        lmots_leaf_along h0_0 h0_1 h0_2 h0_3 h0_4 h0_5 v28 (0 : Int) q0 q1 fun (q2 : List Int) =>
          br
            (decide
              ((h1.length + q2.length) * 1 ≤
                140737488355328))
            (nx v3 v27 (IntKind.i64.wrap (v28 + (1 : Int))) (h1 ++ q2) h0_0 h0_1 h0_2 h0_3 h0_4 h0_5) none)
    (k0 v3 v27 v28 h1 h0_0 h0_1 h0_2 h0_3 h0_4 h0_5)
noncomputable def lmots_Public_L6 {ρ : Type} (v3 : List Int) (v27 : Int) (v28 : Int) (h1 : List Int) (h0_0 : Int) (h0_1 : List Int) (h0_2 : Int) (h0_3 : Int) (h0_4 : Int) (h0_5 : Int) (k0 : (List Int) → Int → Int → (List Int) → Int → (List Int) → Int → Int → Int → Int → Option ρ) : Option ρ :=
  lp (fun (x : (List Int) × Int × Int × (List Int) × Int × (List Int) × Int × Int × Int × Int) (next : ((List Int) × Int × Int × (List Int) × Int × (List Int) × Int × Int × Int × Int) → Option ρ) (ex : (((List Int) × Int × Int × (List Int) × Int × (List Int) × Int × Int × Int × Int)) → Option ρ) => lmots_Public_r6 x.1 x.2.1 x.2.2.1 x.2.2.2.1 x.2.2.2.2.1 x.2.2.2.2.2.1 x.2.2.2.2.2.2.1 x.2.2.2.2.2.2.2.1 x.2.2.2.2.2.2.2.2.1 x.2.2.2.2.2.2.2.2.2 (fun v3 v27 v28 h1 h0_0 h0_1 h0_2 h0_3 h0_4 h0_5 => next (v3, v27, v28, h1, h0_0, h0_1, h0_2, h0_3, h0_4, h0_5)) (fun v3 v27 v28 h1 h0_0 h0_1 h0_2 h0_3 h0_4 h0_5 => ex ((v3, v27, v28, h1, h0_0, h0_1, h0_2, h0_3, h0_4, h0_5)))) (v3, v27, v28, h1, h0_0, h0_1, h0_2, h0_3, h0_4, h0_5) (fun x => k0 x.1 x.2.1 x.2.2.1 x.2.2.2.1 x.2.2.2.2.1 x.2.2.2.2.2.1 x.2.2.2.2.2.2.1 x.2.2.2.2.2.2.2.1 x.2.2.2.2.2.2.2.2.1 x.2.2.2.2.2.2.2.2.2)
noncomputable def lmots_Public_l6 {ρ : Type} (v3 : List Int) (v27 : Int) (v28 : Int) (h1 : List Int) (h0_0 : Int) (h0_1 : List Int) (h0_2 : Int) (h0_3 : Int) (h0_4 : Int) (h0_5 : Int) (k0 : (List Int) → Int → Int → (List Int) → Int → (List Int) → Int → Int → Int → Int → Option ρ) : Option ρ := shut (lmots_Public_L6 (ρ := ρ)) v3 v27 v28 h1 h0_0 h0_1 h0_2 h0_3 h0_4 h0_5 k0
theorem lmots_Public_l6_eq {ρ : Type} (v3 : List Int) (v27 : Int) (v28 : Int) (h1 : List Int) (h0_0 : Int) (h0_1 : List Int) (h0_2 : Int) (h0_3 : Int) (h0_4 : Int) (h0_5 : Int) (k0 : (List Int) → Int → Int → (List Int) → Int → (List Int) → Int → Int → Int → Int → Option ρ) : lmots_Public_l6 v3 v27 v28 h1 h0_0 h0_1 h0_2 h0_3 h0_4 h0_5 k0 = lmots_Public_L6 v3 v27 v28 h1 h0_0 h0_1 h0_2 h0_3 h0_4 h0_5 k0 := by unfold lmots_Public_l6; rw [shut_eq]
noncomputable def lmots_Public_raw {ρ : Type} (a0 : Int) (a1 : List Int) (a2 : Int) (a3 : List Int) (k : (List Int) → Int → Option ρ) : Option ρ :=
  lmots_seeded a0 a1 a2 a3 fun (q0 : Int) (q1 : List Int) (q2 q3 q4 q5 q6 : Int) =>
    br (q6 != (0 : Int)) (k [] q6)
      (lmots_Public_l6 a3 q3 (0 : Int) [] q0 q1 q2 q3 q4 q5
        fun (q7 : List Int) (q8 q9 : Int) (q10 : List Int) (q11 : Int) (q12 : List Int) (q13 q14 q15 q16 : Int) =>
        lmots_leaf_sum q11 q12 q13 q14 q15 q16 (32896 : Int) [q10] fun (q17 : List Int) => k q17 (0 : Int))
noncomputable def lmots_Public {ρ : Type} (a0 : Int) (a1 : List Int) (a2 : Int) (a3 : List Int) (k : (List Int) → Int → Option ρ) : Option ρ := shut (lmots_Public_raw (ρ := ρ)) a0 a1 a2 a3 k
theorem lmots_Public_eq {ρ : Type} (a0 : Int) (a1 : List Int) (a2 : Int) (a3 : List Int) (k : (List Int) → Int → Option ρ) : lmots_Public a0 a1 a2 a3 k = lmots_Public_raw a0 a1 a2 a3 k := by unfold lmots_Public; rw [shut_eq]

end P
end

section
open Go Go.Abs
set_option linter.unusedVariables false
namespace P
noncomputable def lmots_leaf_digitsOf_raw {ρ : Type} (a0_w : Int) (a0_id : List Int) (a0_q : Int) (a0_kind_digits : Int) (a0_kind_shift : Int) (a0_kind_code : Int) (a1 : List Int) (a2 : List Int) (k : (List Int) → Option ρ) : Option ρ :=
  lmots_leaf_sum a0_w a0_id a0_q a0_kind_digits a0_kind_shift a0_kind_code (33153 : Int) [a1, a2] fun (q0 : List Int) =>
    lmots_Digits a0_w q0 fun (q1 : List Int) (q2 : Int) => k q1
noncomputable def lmots_leaf_digitsOf {ρ : Type} (a0_w : Int) (a0_id : List Int) (a0_q : Int) (a0_kind_digits : Int) (a0_kind_shift : Int) (a0_kind_code : Int) (a1 : List Int) (a2 : List Int) (k : (List Int) → Option ρ) : Option ρ := shut (lmots_leaf_digitsOf_raw (ρ := ρ)) a0_w a0_id a0_q a0_kind_digits a0_kind_shift a0_kind_code a1 a2 k
theorem lmots_leaf_digitsOf_eq {ρ : Type} (a0_w : Int) (a0_id : List Int) (a0_q : Int) (a0_kind_digits : Int) (a0_kind_shift : Int) (a0_kind_code : Int) (a1 : List Int) (a2 : List Int) (k : (List Int) → Option ρ) : lmots_leaf_digitsOf a0_w a0_id a0_q a0_kind_digits a0_kind_shift a0_kind_code a1 a2 k = lmots_leaf_digitsOf_raw a0_w a0_id a0_q a0_kind_digits a0_kind_shift a0_kind_code a1 a2 k := by unfold lmots_leaf_digitsOf; rw [shut_eq]

end P
end

section
open Go Go.Abs
set_option linter.unusedVariables false
namespace P
noncomputable def lmots_Sign_r7 {ρ : Type} (v3 : List Int) (v44 : Int) (v45 : Int) (h40 : List Int) (h0_0 : Int) (h0_1 : List Int) (h0_2 : Int) (h0_3 : Int) (h0_4 : Int) (h0_5 : Int) (h5 : List Int) (nx : (List Int) → Int → Int → (List Int) → Int → (List Int) → Int → Int → Int → Int → (List Int) → Option ρ) (k0 : (List Int) → Int → Int → (List Int) → Int → (List Int) → Int → Int → Int → Int → (List Int) → Option ρ) : Option ρ :=
  br (decide (v45 < v44))
    (br (decide ((0 : Int) ≤ v45))
      (br (decide (v45 < (↑h5.length : Int)))
        (lmots_leaf_part h0_0 h0_1 h0_2 h0_3 h0_4 h0_5 (IntKind.u64.wrap v45) v3 fun (q0 : List Int) =>
          lmots_leaf_along h0_0 h0_1 h0_2 h0_3 h0_4 h0_5 v45 (0 : Int) (h5.getD v45.toNat (0 : Int)) q0
            fun (q1 : List Int) =>
            br
              (decide
                ((h40.length + q1.length) * 1 ≤
                  140737488355328))
              (nx v3 v44 (IntKind.i64.wrap (v45 + (1 : Int))) (h40 ++ q1) h0_0 h0_1 h0_2 h0_3 h0_4 h0_5 h5) none)
        none)
      none)
    (k0 v3 v44 v45 h40 h0_0 h0_1 h0_2 h0_3 h0_4 h0_5 h5)
noncomputable def lmots_Sign_L7 {ρ : Type} (v3 : List Int) (v44 : Int) (v45 : Int) (h40 : List Int) (h0_0 : Int) (h0_1 : List Int) (h0_2 : Int) (h0_3 : Int) (h0_4 : Int) (h0_5 : Int) (h5 : List Int) (k0 : (List Int) → Int → Int → (List Int) → Int → (List Int) → Int → Int → Int → Int → (List Int) → Option ρ) : Option ρ :=
  lp (fun (x : (List Int) × Int × Int × (List Int) × Int × (List Int) × Int × Int × Int × Int × (List Int)) (next : ((List Int) × Int × Int × (List Int) × Int × (List Int) × Int × Int × Int × Int × (List Int)) → Option ρ) (ex : (((List Int) × Int × Int × (List Int) × Int × (List Int) × Int × Int × Int × Int × (List Int))) → Option ρ) => lmots_Sign_r7 x.1 x.2.1 x.2.2.1 x.2.2.2.1 x.2.2.2.2.1 x.2.2.2.2.2.1 x.2.2.2.2.2.2.1 x.2.2.2.2.2.2.2.1 x.2.2.2.2.2.2.2.2.1 x.2.2.2.2.2.2.2.2.2.1 x.2.2.2.2.2.2.2.2.2.2 (fun v3 v44 v45 h40 h0_0 h0_1 h0_2 h0_3 h0_4 h0_5 h5 => next (v3, v44, v45, h40, h0_0, h0_1, h0_2, h0_3, h0_4, h0_5, h5)) (fun v3 v44 v45 h40 h0_0 h0_1 h0_2 h0_3 h0_4 h0_5 h5 => ex ((v3, v44, v45, h40, h0_0, h0_1, h0_2, h0_3, h0_4, h0_5, h5)))) (v3, v44, v45, h40, h0_0, h0_1, h0_2, h0_3, h0_4, h0_5, h5) (fun x => k0 x.1 x.2.1 x.2.2.1 x.2.2.2.1 x.2.2.2.2.1 x.2.2.2.2.2.1 x.2.2.2.2.2.2.1 x.2.2.2.2.2.2.2.1 x.2.2.2.2.2.2.2.2.1 x.2.2.2.2.2.2.2.2.2.1 x.2.2.2.2.2.2.2.2.2.2)
noncomputable def lmots_Sign_l7 {ρ : Type} (v3 : List Int) (v44 : Int) (v45 : Int) (h40 : List Int) (h0_0 : Int) (h0_1 : List Int) (h0_2 : Int) (h0_3 : Int) (h0_4 : Int) (h0_5 : Int) (h5 : List Int) (k0 : (List Int) → Int → Int → (List Int) → Int → (List Int) → Int → Int → Int → Int → (List Int) → Option ρ) : Option ρ := shut (lmots_Sign_L7 (ρ := ρ)) v3 v44 v45 h40 h0_0 h0_1 h0_2 h0_3 h0_4 h0_5 h5 k0
theorem lmots_Sign_l7_eq {ρ : Type} (v3 : List Int) (v44 : Int) (v45 : Int) (h40 : List Int) (h0_0 : Int) (h0_1 : List Int) (h0_2 : Int) (h0_3 : Int) (h0_4 : Int) (h0_5 : Int) (h5 : List Int) (k0 : (List Int) → Int → Int → (List Int) → Int → (List Int) → Int → Int → Int → Int → (List Int) → Option ρ) : lmots_Sign_l7 v3 v44 v45 h40 h0_0 h0_1 h0_2 h0_3 h0_4 h0_5 h5 k0 = lmots_Sign_L7 v3 v44 v45 h40 h0_0 h0_1 h0_2 h0_3 h0_4 h0_5 h5 k0 := by unfold lmots_Sign_l7; rw [shut_eq]
noncomputable def lmots_Sign_raw {ρ : Type} (a0 : Int) (a1 : List Int) (a2 : Int) (a3 : List Int) (a4 : List Int) (k : (List Int) → Int → Option ρ) : Option ρ :=
  lmots_seeded a0 a1 a2 a3 fun (q0 : Int) (q1 : List Int) (q2 q3 q4 q5 q6 : Int) =>
    br (q6 != (0 : Int)) (k [] q6)
      (lmots_leaf_part q0 q1 q2 q3 q4 q5 (65533 : Int) a3 fun (q7 : List Int) =>
        bits_Be (IntKind.u64.wrap q5) (4 : Int) fun (q8 : List Int) =>
          bits_Join [q8, q7] fun (q9 : List Int) =>
            lmots_leaf_digitsOf q0 q1 q2 q3 q4 q5 q7 a4 fun (q10 : List Int) =>
              lmots_Sign_l7 a3 (↑q10.length : Int) (0 : Int) q9 q0 q1 q2 q3 q4 q5 q10
                fun (q11 : List Int) (q12 q13 : Int) (q14 : List Int) (q15 : Int) (q16 : List Int) (q17 q18 q19 q20 : Int)
                  (q21 : List Int) =>
                k q14 (0 : Int))
noncomputable def lmots_Sign {ρ : Type} (a0 : Int) (a1 : List Int) (a2 : Int) (a3 : List Int) (a4 : List Int) (k : (List Int) → Int → Option ρ) : Option ρ := shut (lmots_Sign_raw (ρ := ρ)) a0 a1 a2 a3 a4 k
theorem lmots_Sign_eq {ρ : Type} (a0 : Int) (a1 : List Int) (a2 : Int) (a3 : List Int) (a4 : List Int) (k : (List Int) → Int → Option ρ) : lmots_Sign a0 a1 a2 a3 a4 k = lmots_Sign_raw a0 a1 a2 a3 a4 k := by unfold lmots_Sign; rw [shut_eq]

end P
end

section
open Go Go.Abs
set_option linter.unusedVariables false
namespace P
noncomputable def lmots_Candidate_r9 {ρ : Type} (v15 : List Int) (v52 : Int) (v53 : Int) (h2 : List Int) (h0_0 : Int) (h0_1 : List Int) (h0_2 : Int) (h0_3 : Int) (h0_4 : Int) (h0_5 : Int) (h1 : List Int) (nx : (List Int) → Int → Int → (List Int) → Int → (List Int) → Int → Int → Int → Int → (List Int) → Option ρ) (k0 : (List Int) → Int → Int → (List Int) → Int → (List Int) → Int → Int → Int → Int → (List Int) → Option ρ) : Option ρ :=
  br (decide (v53 < v52))
    (br (decide ((0 : Int) ≤ v53))
      (br (decide (v53 < (↑h1.length : Int)))
        (lmots_leaf_steps h0_0 h0_1 h0_2 h0_3 h0_4 h0_5 fun (q0 : Int) =>
          br (decide ((32 : Int) ≤ (↑v15.length : Int)))
            (lmots_leaf_along h0_0 h0_1 h0_2 h0_3 h0_4 h0_5 v53 (h1.getD v53.toNat (0 : Int))
              (IntKind.u32.wrap (q0 - h1.getD v53.toNat (0 : Int)))
              (List.drop 0 (List.take (Int.toNat (32 : Int)) v15)) fun (q1 : List Int) =>
              br
                (decide
                  ((h2.length + q1.length) * 1 ≤
                    140737488355328))
                (br (decide ((32 : Int) ≤ (↑v15.length : Int)))
                  (br (decide ((↑v15.length : Int) ≤ (↑v15.length : Int)))
                    (nx (List.drop 32 (List.take (↑v15.length : Int).toNat v15)) v52
                      (IntKind.i64.wrap (v53 + (1 : Int))) (h2 ++ q1) h0_0 h0_1 h0_2 h0_3 h0_4 h0_5 h1)
                    none)
                  none)
                none)
            none)
        none)
      none)
    (k0 v15 v52 v53 h2 h0_0 h0_1 h0_2 h0_3 h0_4 h0_5 h1)
noncomputable def lmots_Candidate_L9 {ρ : Type} (v15 : List Int) (v52 : Int) (v53 : Int) (h2 : List Int) (h0_0 : Int) (h0_1 : List Int) (h0_2 : Int) (h0_3 : Int) (h0_4 : Int) (h0_5 : Int) (h1 : List Int) (k0 : (List Int) → Int → Int → (List Int) → Int → (List Int) → Int → Int → Int → Int → (List Int) → Option ρ) : Option ρ :=
  lp (fun (x : (List Int) × Int × Int × (List Int) × Int × (List Int) × Int × Int × Int × Int × (List Int)) (next : ((List Int) × Int × Int × (List Int) × Int × (List Int) × Int × Int × Int × Int × (List Int)) → Option ρ) (ex : (((List Int) × Int × Int × (List Int) × Int × (List Int) × Int × Int × Int × Int × (List Int))) → Option ρ) => lmots_Candidate_r9 x.1 x.2.1 x.2.2.1 x.2.2.2.1 x.2.2.2.2.1 x.2.2.2.2.2.1 x.2.2.2.2.2.2.1 x.2.2.2.2.2.2.2.1 x.2.2.2.2.2.2.2.2.1 x.2.2.2.2.2.2.2.2.2.1 x.2.2.2.2.2.2.2.2.2.2 (fun v15 v52 v53 h2 h0_0 h0_1 h0_2 h0_3 h0_4 h0_5 h1 => next (v15, v52, v53, h2, h0_0, h0_1, h0_2, h0_3, h0_4, h0_5, h1)) (fun v15 v52 v53 h2 h0_0 h0_1 h0_2 h0_3 h0_4 h0_5 h1 => ex ((v15, v52, v53, h2, h0_0, h0_1, h0_2, h0_3, h0_4, h0_5, h1)))) (v15, v52, v53, h2, h0_0, h0_1, h0_2, h0_3, h0_4, h0_5, h1) (fun x => k0 x.1 x.2.1 x.2.2.1 x.2.2.2.1 x.2.2.2.2.1 x.2.2.2.2.2.1 x.2.2.2.2.2.2.1 x.2.2.2.2.2.2.2.1 x.2.2.2.2.2.2.2.2.1 x.2.2.2.2.2.2.2.2.2.1 x.2.2.2.2.2.2.2.2.2.2)
noncomputable def lmots_Candidate_l9 {ρ : Type} (v15 : List Int) (v52 : Int) (v53 : Int) (h2 : List Int) (h0_0 : Int) (h0_1 : List Int) (h0_2 : Int) (h0_3 : Int) (h0_4 : Int) (h0_5 : Int) (h1 : List Int) (k0 : (List Int) → Int → Int → (List Int) → Int → (List Int) → Int → Int → Int → Int → (List Int) → Option ρ) : Option ρ := shut (lmots_Candidate_L9 (ρ := ρ)) v15 v52 v53 h2 h0_0 h0_1 h0_2 h0_3 h0_4 h0_5 h1 k0
theorem lmots_Candidate_l9_eq {ρ : Type} (v15 : List Int) (v52 : Int) (v53 : Int) (h2 : List Int) (h0_0 : Int) (h0_1 : List Int) (h0_2 : Int) (h0_3 : Int) (h0_4 : Int) (h0_5 : Int) (h1 : List Int) (k0 : (List Int) → Int → Int → (List Int) → Int → (List Int) → Int → Int → Int → Int → (List Int) → Option ρ) : lmots_Candidate_l9 v15 v52 v53 h2 h0_0 h0_1 h0_2 h0_3 h0_4 h0_5 h1 k0 = lmots_Candidate_L9 v15 v52 v53 h2 h0_0 h0_1 h0_2 h0_3 h0_4 h0_5 h1 k0 := by unfold lmots_Candidate_l9; rw [shut_eq]
noncomputable def lmots_Candidate_raw {ρ : Type} (a0 : Int) (a1 : List Int) (a2 : Int) (a3 : List Int) (a4 : List Int) (k : (List Int) → Int → Option ρ) : Option ρ :=
  lmots_began a0 a1 a2 fun (q0 : Int) (q1 : List Int) (q2 q3 q4 q5 q6 : Int) =>
    br (q6 != (0 : Int)) (k [] q6)
      (lmots_Size a0 fun (q7 : Int) =>
        br ((↑a4.length : Int) != q7) (k [] (1 : Int))
          (br (decide ((4 : Int) ≤ (↑a4.length : Int)))
            (bits_Num (List.drop 0 (List.take (Int.toNat (4 : Int)) a4)) fun (q8 : Int) =>
              br (q8 != IntKind.u64.wrap q5) (k [] (1 : Int))
                (br (decide ((36 : Int) ≤ (↑a4.length : Int)))
                  (br (decide ((↑a4.length : Int) ≤ (↑a4.length : Int)))
                    (br (decide ((36 : Int) ≤ (↑a4.length : Int)))
                      (lmots_leaf_digitsOf q0 q1 q2 q3 q4 q5
                        (List.drop 4 (List.take (Int.toNat (36 : Int)) a4)) a3 fun (q9 : List Int) =>
                        lmots_Candidate_l9 (List.drop 36 (List.take (↑a4.length : Int).toNat a4))
                          (↑q9.length : Int) (0 : Int) [] q0 q1 q2 q3 q4 q5 q9
                          fun (q10 : List Int) (q11 q12 : Int) (q13 : List Int) (q14 : Int) (q15 : List Int)
                            (q16 q17 q18 q19 : Int) (q20 : List Int) =>
                          lmots_leaf_sum q14 q15 q16 q17 q18 q19 (32896 : Int) [q13] fun (q21 : List Int) =>
                            k q21 (0 : Int))
                      none)
                    none)
                  none))
            none))
noncomputable def lmots_Candidate {ρ : Type} (a0 : Int) (a1 : List Int) (a2 : Int) (a3 : List Int) (a4 : List Int) (k : (List Int) → Int → Option ρ) : Option ρ := shut (lmots_Candidate_raw (ρ := ρ)) a0 a1 a2 a3 a4 k
theorem lmots_Candidate_eq {ρ : Type} (a0 : Int) (a1 : List Int) (a2 : Int) (a3 : List Int) (a4 : List Int) (k : (List Int) → Int → Option ρ) : lmots_Candidate a0 a1 a2 a3 a4 k = lmots_Candidate_raw a0 a1 a2 a3 a4 k := by unfold lmots_Candidate; rw [shut_eq]

end P
end

section
open Go Go.Abs
set_option linter.unusedVariables false
namespace P
noncomputable def L14_LmotsRight_raw {ρ : Type} (a0 : Int) (a1 : List Int) (a2 : Int) (a3 : List Int) (a4 : List Int) (k : Bool → Option ρ) : Option ρ :=
  L14_few [a4] fun (q0 : Bool) =>
    br (!q0) (L14_awake fun (q1 : Bool) => k q1)
      (br (decide ((0 : Int) ≤ a0.tmod (3 : Int)))
        (br (decide (a0.tmod (3 : Int) < (↑3 : Int)))
          (lmots_Public ([(1 : Int), (2 : Int), (4 : Int)].getD (a0.tmod (3 : Int)).toNat (0 : Int))
            (List.take 16 (List.drop 0 a1)) a2 (List.take 32 (List.drop 0 a3))
            fun (q2 : List Int) (q3 : Int) =>
            lmots_Sign ([(1 : Int), (2 : Int), (4 : Int)].getD (a0.tmod (3 : Int)).toNat (0 : Int))
              (List.take 16 (List.drop 0 a1)) a2 (List.take 32 (List.drop 0 a3))
              a4 fun (q4 : List Int) (q5 : Int) =>
              lmots_Candidate ([(1 : Int), (2 : Int), (4 : Int)].getD (a0.tmod (3 : Int)).toNat (0 : Int))
                (List.take 16 (List.drop 0 a1)) a2 a4 q4 fun (q6 : List Int) (q7 : Int) =>
                br (q3 == (0 : Int))
                  (br (q5 == (0 : Int))
                    (br (q7 == (0 : Int))
                      (R01_Same q6 q2 fun (q8 : Bool) =>
                        br q8
                          (br ((↑q2.length : Int) == (32 : Int))
                            (lmots_Size ([(1 : Int), (2 : Int), (4 : Int)].getD (a0.tmod (3 : Int)).toNat (0 : Int))
                              fun (q9 : Int) =>
                              br ((↑q4.length : Int) == q9) (L14_awake fun (q10 : Bool) => k q10) (k false))
                            (k false))
                          (k false))
                      (k false))
                    (k false))
                  (k false))
          none)
        none)
noncomputable def L14_LmotsRight {ρ : Type} (a0 : Int) (a1 : List Int) (a2 : Int) (a3 : List Int) (a4 : List Int) (k : Bool → Option ρ) : Option ρ := shut (L14_LmotsRight_raw (ρ := ρ)) a0 a1 a2 a3 a4 k
theorem L14_LmotsRight_eq {ρ : Type} (a0 : Int) (a1 : List Int) (a2 : Int) (a3 : List Int) (a4 : List Int) (k : Bool → Option ρ) : L14_LmotsRight a0 a1 a2 a3 a4 k = L14_LmotsRight_raw a0 a1 a2 a3 a4 k := by unfold L14_LmotsRight; rw [shut_eq]

end P
end

section
open Go Go.Abs Go.Proofs
set_option maxRecDepth 100000
set_option linter.unusedVariables false
namespace bits_Le
def S5 (v0 : Int) (v16 : Int) (v17 : Int) (h0 : List Int) : ASt := ⟨[(0, .v (.int .u64 v0)), (5, .own 0), (16, .v (.int .i64 v16)), (17, .v (.int .i64 v17))], [(0, some ⟨.row 5 (.ints .u8 h0), false⟩)], 1, 30⟩
def V5 : ASt → Option (Int × Int × Int × (List Int))
  | ⟨[(0, .v (.int .u64 v0)), (5, .own 0), (16, .v (.int .i64 v16)), (17, .v (.int .i64 v17))], [(0, some ⟨.row 5 (.ints .u8 h0), false⟩)], 1, 30⟩ => some (v0, v16, v17, h0)
  | _ => none
theorem V5_ok (st : ASt) (x : Int × Int × Int × (List Int)) (h : V5 st = some x) : st = S5 x.1 x.2.1 x.2.2.1 x.2.2.2 := by
  unfold V5 at h
  split at h
  · cases h; rfl
  · cases h
noncomputable def L5 : LSpec := fun st K => match V5 st with
  | some x => P.bits_Le_l5 x.1 x.2.1 x.2.2.1 x.2.2.2 (fun v0 v16 v17 h0 => K (.exit 0) (S5 v0 v16 v17 h0))
  | none => none
noncomputable def D : Ctx := ({ P := Tryd.prog, G := [], globs := [(0, [.arr .u32 64 P.roots256]), (1, [.arr .u64 80 P.roots512])], hints := [(5, ⟨[0, 5, 16, 17], [], [4], [], none, []⟩)], loops := [(5, L5)], inl := [] } : Ctx)
def E5 (K : AExit → ASt → Option R) : ((Int × Int × Int × (List Int))) → Option R := (fun x => K (.exit 0) (S5 x.1 x.2.1 x.2.2.1 x.2.2.2))
theorem round5 (K : AExit → ASt → Option R) (next : ASt → Option R) (x : Int × Int × Int × (List Int)) : roundA D (loopAt Tryd.f118 5) K next (S5 x.1 x.2.1 x.2.2.1 x.2.2.2) = (fun (x : Int × Int × Int × (List Int)) (next : (Int × Int × Int × (List Int)) → Option R) (ex : ((Int × Int × Int × (List Int))) → Option R) => P.bits_Le_r5 x.1 x.2.1 x.2.2.1 x.2.2.2 (fun v0 v16 v17 h0 => next (v0, v16, v17, h0)) (fun v0 v16 v17 h0 => ex ((v0, v16, v17, h0)))) x (fun x => next (S5 x.1 x.2.1 x.2.2.1 x.2.2.2)) (E5 K) := by kernel_rfl
theorem lq5 (st : ASt) (K : AExit → ASt → Option R) : L5 st K = vMap (V5 st) (fun x => lp (fun (x : Int × Int × Int × (List Int)) (next : (Int × Int × Int × (List Int)) → Option R) (ex : ((Int × Int × Int × (List Int))) → Option R) => P.bits_Le_r5 x.1 x.2.1 x.2.2.1 x.2.2.2 (fun v0 v16 v17 h0 => next (v0, v16, v17, h0)) (fun v0 v16 v17 h0 => ex ((v0, v16, v17, h0)))) x (E5 K)) := by
  unfold L5
  cases V5 st with
  | none => rfl
  | some x => simp only [P.bits_Le_l5_eq]; rfl
theorem loop5 : LoopOk D (loopAt Tryd.f118 5) := loopOk_lp (X := Int × Int × Int × (List Int)) (Y := (Int × Int × Int × (List Int))) (fun x => S5 x.1 x.2.1 x.2.2.1 x.2.2.2) V5_ok (stp := (fun (x : Int × Int × Int × (List Int)) (next : (Int × Int × Int × (List Int)) → Option R) (ex : ((Int × Int × Int × (List Int))) → Option R) => P.bits_Le_r5 x.1 x.2.1 x.2.2.1 x.2.2.2 (fun v0 v16 v17 h0 => next (v0, v16, v17, h0)) (fun v0 v16 v17 h0 => ex ((v0, v16, v17, h0))))) (enc := E5) (L := L5) (by kernel_rfl) lq5 round5
theorem body (a0 : Int) (a1 : Int) (K : AVal → Option R) : bodyA D Tryd.f118 [.fr 5 (.ints .u8 [])] [.v (.int .u64 a0), .v (.int .i64 a1)] K = P.bits_Le a0 a1 (fun r0 => K (.fr 5 (.ints .u8 r0))) := by
  rw [P.bits_Le_eq]
  kernel_rfl
theorem loops : loopsOf (Tryd.f118.body.getD .skip) = [loopAt Tryd.f118 5] := by kernel_rfl
noncomputable def spec0 : Abs.Spec := fun args K => match args with
  | [.v (.int .u64 a0), .v (.int .i64 a1)] => P.bits_Le a0 a1 (fun r0 => K (.fr 5 (.ints .u8 r0)))
  | _ => none
noncomputable def spec : Abs.Spec := spec0
theorem ok0 : Proved Tryd.prog [(0, [.arr .u32 64 P.roots256]), (1, [.arr .u64 80 P.roots512])] 118 spec0 := by
  refine proved_of (D := D) (fn := Tryd.f118) (c := Tryd.f118.body.getD .skip) [.fr 5 (.ints .u8 [])] (by kernel_rfl) (globsPlain_of (by kernel_rfl)) (by kernel_rfl) (by kernel_rfl) (by kernel_rfl) trivial trivial ?_ ?_
  · rw [loops]; exact ⟨loop5, trivial⟩
  · intro args K r h
    unfold spec0 at h
    split at h
    · rw [body]; exact h
    · cases h
theorem ok : Proved Tryd.prog [(0, [.arr .u32 64 P.roots256]), (1, [.arr .u64 80 P.roots512])] 118 spec := ok0
end bits_Le
end

section
open Go Go.Abs Go.Proofs
set_option maxRecDepth 100000
set_option linter.unusedVariables false
namespace bits_Be
def S1_1 (v2 : Int) (v3 : Int) (h0 : List Int) : ASt := ⟨[(0, .own 0), (2, .v (.int .i64 v2)), (3, .v (.int .i64 v3))], [(0, some ⟨.row 5 (.ints .u8 h0), false⟩)], 1, 28⟩
def V1_1 : ASt → Option (Int × Int × (List Int))
  | ⟨[(0, .own 0), (2, .v (.int .i64 v2)), (3, .v (.int .i64 v3))], [(0, some ⟨.row 5 (.ints .u8 h0), false⟩)], 1, 28⟩ => some (v2, v3, h0)
  | _ => none
theorem V1_1_ok (st : ASt) (x : Int × Int × (List Int)) (h : V1_1 st = some x) : st = S1_1 x.1 x.2.1 x.2.2 := by
  unfold V1_1 at h
  split at h
  · cases h; rfl
  · cases h
noncomputable def L1_1 : LSpec := fun st K => match V1_1 st with
  | some x => P.bits_Be_l1_1 x.1 x.2.1 x.2.2 (fun v2 v3 h0 => K (.exit 0) (S1_1 v2 v3 h0))
  | none => none
noncomputable def D1 : Ctx := ({ P := Tryd.prog, G := [(118, bits_Le.spec)], globs := [(0, [.arr .u32 64 P.roots256]), (1, [.arr .u64 80 P.roots512])], hints := [(1, ⟨[0, 2, 3], [], [], [], none, []⟩)], loops := [(1, L1_1)], inl := [] } : Ctx)
noncomputable def D : Ctx := ({ P := Tryd.prog, G := [(118, bits_Le.spec)], globs := [(0, [.arr .u32 64 P.roots256]), (1, [.arr .u64 80 P.roots512])], hints := [], loops := [], inl := [(119, bodyIn D1 Tryd.f119)] } : Ctx)
def E1_1 (K : AExit → ASt → Option R) : ((Int × Int × (List Int))) → Option R := (fun x => K (.exit 0) (S1_1 x.1 x.2.1 x.2.2))
theorem round1_1 (K : AExit → ASt → Option R) (next : ASt → Option R) (x : Int × Int × (List Int)) : roundA D1 (loopAt Tryd.f119 1) K next (S1_1 x.1 x.2.1 x.2.2) = (fun (x : Int × Int × (List Int)) (next : (Int × Int × (List Int)) → Option R) (ex : ((Int × Int × (List Int))) → Option R) => P.bits_Be_r1_1 x.1 x.2.1 x.2.2 (fun v2 v3 h0 => next (v2, v3, h0)) (fun v2 v3 h0 => ex ((v2, v3, h0)))) x (fun x => next (S1_1 x.1 x.2.1 x.2.2)) (E1_1 K) := by kernel_rfl
theorem lq1_1 (st : ASt) (K : AExit → ASt → Option R) : L1_1 st K = vMap (V1_1 st) (fun x => lp (fun (x : Int × Int × (List Int)) (next : (Int × Int × (List Int)) → Option R) (ex : ((Int × Int × (List Int))) → Option R) => P.bits_Be_r1_1 x.1 x.2.1 x.2.2 (fun v2 v3 h0 => next (v2, v3, h0)) (fun v2 v3 h0 => ex ((v2, v3, h0)))) x (E1_1 K)) := by
  unfold L1_1
  cases V1_1 st with
  | none => rfl
  | some x => simp only [P.bits_Be_l1_1_eq]; rfl
theorem loop1_1 : LoopOk D1 (loopAt Tryd.f119 1) := loopOk_lp (X := Int × Int × (List Int)) (Y := (Int × Int × (List Int))) (fun x => S1_1 x.1 x.2.1 x.2.2) V1_1_ok (stp := (fun (x : Int × Int × (List Int)) (next : (Int × Int × (List Int)) → Option R) (ex : ((Int × Int × (List Int))) → Option R) => P.bits_Be_r1_1 x.1 x.2.1 x.2.2 (fun v2 v3 h0 => next (v2, v3, h0)) (fun v2 v3 h0 => ex ((v2, v3, h0))))) (enc := E1_1) (L := L1_1) (by kernel_rfl) lq1_1 round1_1
theorem body (a0 : Int) (a1 : Int) (K : AVal → Option R) : bodyA D Tryd.f68 [.fr 5 (.ints .u8 [])] [.v (.int .u64 a0), .v (.int .i64 a1)] K = P.bits_Be a0 a1 (fun r0 => K (.fr 5 (.ints .u8 r0))) := by
  rw [P.bits_Be_eq]
  kernel_rfl
theorem loops : loopsOf (Tryd.f68.body.getD .skip) = [] := by kernel_rfl
theorem loops1 : loopsOf (Tryd.f119.body.getD .skip) = [loopAt Tryd.f119 1] := by kernel_rfl
noncomputable def spec0 : Abs.Spec := fun args K => match args with
  | [.v (.int .u64 a0), .v (.int .i64 a1)] => P.bits_Be a0 a1 (fun r0 => K (.fr 5 (.ints .u8 r0)))
  | _ => none
noncomputable def spec : Abs.Spec := spec0
theorem ok0 : Proved Tryd.prog [(0, [.arr .u32 64 P.roots256]), (1, [.arr .u64 80 P.roots512])] 68 spec0 := by
  refine proved_of (D := D) (fn := Tryd.f68) (c := Tryd.f68.body.getD .skip) [.fr 5 (.ints .u8 [])] (by kernel_rfl) (globsPlain_of (by kernel_rfl)) (by kernel_rfl) (by kernel_rfl) (by kernel_rfl) ⟨bits_Le.ok, trivial⟩ ⟨run_of (D := D1) (D' := D) (fn := Tryd.f119) (c := Tryd.f119.body.getD .skip) rfl rfl (by kernel_rfl) (globsPlain_of (by kernel_rfl)) (by kernel_rfl) (by kernel_rfl) (by kernel_rfl) ⟨bits_Le.ok, trivial⟩ trivial (by rw [loops1]; exact ⟨loop1_1, trivial⟩) (fun _ _ _ _ _ h => h), trivial⟩ ?_ ?_
  · rw [loops]; exact trivial
  · intro args K r h
    unfold spec0 at h
    split at h
    · rw [body]; exact h
    · cases h
theorem ok : Proved Tryd.prog [(0, [.arr .u32 64 P.roots256]), (1, [.arr .u64 80 P.roots512])] 68 spec := ok0
end bits_Be
end

section
open Go Go.Abs Go.Proofs
set_option maxRecDepth 100000
set_option linter.unusedVariables false
namespace bits_such
noncomputable def D : Ctx := ({ P := Tryd.prog, G := [], globs := [(0, [.arr .u32 64 P.roots256]), (1, [.arr .u64 80 P.roots512])], hints := [], loops := [], inl := [] } : Ctx)
theorem body (a0 : List Int) (a1 : Int) (a2 : Int) (K : AVal → Option R) : bodyA D Tryd.f135 [.any] [.sl (.ints .u8 a0), .v (.int .i64 a1), .v (.int .i64 a2)] K = P.bits_such a0 a1 a2 (fun r0 => K (.v (.bool r0))) := by
  rw [P.bits_such_eq]
  kernel_rfl
theorem loops : loopsOf (Tryd.f135.body.getD .skip) = [] := by kernel_rfl
noncomputable def spec0 : Abs.Spec := fun args K => match args with
  | [.sl (.ints .u8 a0), .v (.int .i64 a1), .v (.int .i64 a2)] => P.bits_such a0 a1 a2 (fun r0 => K (.v (.bool r0)))
  | _ => none
noncomputable def spec : Abs.Spec := fun args K => spec0 (coerL [.sl (.ints .u8 []), .any, .any] args) K
theorem ok0 : Proved Tryd.prog [(0, [.arr .u32 64 P.roots256]), (1, [.arr .u64 80 P.roots512])] 135 spec0 := by
  refine proved_of (D := D) (fn := Tryd.f135) (c := Tryd.f135.body.getD .skip) [.any] (by kernel_rfl) (globsPlain_of (by kernel_rfl)) (by kernel_rfl) (by kernel_rfl) (by kernel_rfl) trivial trivial ?_ ?_
  · rw [loops]; exact trivial
  · intro args K r h
    unfold spec0 at h
    split at h
    · rw [body]; exact h
    · cases h
theorem ok : Proved Tryd.prog [(0, [.arr .u32 64 P.roots256]), (1, [.arr .u64 80 P.roots512])] 135 spec := proved_coer _ ok0
end bits_such
end

section
open Go Go.Abs Go.Proofs
set_option maxRecDepth 100000
set_option linter.unusedVariables false
namespace bits_Digits
def S6 (v0 : List Int) (v1 : Int) (v8 : Int) (v9 : Int) (v19 : Int) (v20 : Int) (h0 : List Int) : ASt := ⟨[(0, .sl (.ints .u8 v0)), (1, .v (.int .i64 v1)), (7, .own 0), (8, .v (.int .u64 v8)), (9, .v (.int .i64 v9)), (19, .v (.int .i64 v19)), (20, .v (.int .i64 v20))], [(0, some ⟨.row 71 (.ints .u32 h0), false⟩)], 1, 53⟩
def V6 : ASt → Option ((List Int) × Int × Int × Int × Int × Int × (List Int))
  | ⟨[(0, .sl (.ints .u8 v0)), (1, .v (.int .i64 v1)), (7, .own 0), (8, .v (.int .u64 v8)), (9, .v (.int .i64 v9)), (19, .v (.int .i64 v19)), (20, .v (.int .i64 v20))], [(0, some ⟨.row 71 (.ints .u32 h0), false⟩)], 1, 53⟩ => some (v0, v1, v8, v9, v19, v20, h0)
  | _ => none
theorem V6_ok (st : ASt) (x : (List Int) × Int × Int × Int × Int × Int × (List Int)) (h : V6 st = some x) : st = S6 x.1 x.2.1 x.2.2.1 x.2.2.2.1 x.2.2.2.2.1 x.2.2.2.2.2.1 x.2.2.2.2.2.2 := by
  unfold V6 at h
  split at h
  · cases h; rfl
  · cases h
def S8 (v0 : List Int) (v1 : Int) (v8 : Int) (v9 : Int) (v10 : Int) (v19 : Int) (v20 : Int) (h0 : List Int) : ASt := ⟨[(0, .sl (.ints .u8 v0)), (1, .v (.int .i64 v1)), (7, .own 0), (8, .v (.int .u64 v8)), (9, .v (.int .i64 v9)), (10, .v (.int .i64 v10)), (19, .v (.int .i64 v19)), (20, .v (.int .i64 v20))], [(0, some ⟨.row 71 (.ints .u32 h0), false⟩)], 1, 53⟩
def V8 : ASt → Option ((List Int) × Int × Int × Int × Int × Int × Int × (List Int))
  | ⟨[(0, .sl (.ints .u8 v0)), (1, .v (.int .i64 v1)), (7, .own 0), (8, .v (.int .u64 v8)), (9, .v (.int .i64 v9)), (10, .v (.int .i64 v10)), (19, .v (.int .i64 v19)), (20, .v (.int .i64 v20))], [(0, some ⟨.row 71 (.ints .u32 h0), false⟩)], 1, 53⟩ => some (v0, v1, v8, v9, v10, v19, v20, h0)
  | _ => none
theorem V8_ok (st : ASt) (x : (List Int) × Int × Int × Int × Int × Int × Int × (List Int)) (h : V8 st = some x) : st = S8 x.1 x.2.1 x.2.2.1 x.2.2.2.1 x.2.2.2.2.1 x.2.2.2.2.2.1 x.2.2.2.2.2.2.1 x.2.2.2.2.2.2.2 := by
  unfold V8 at h
  split at h
  · cases h; rfl
  · cases h
noncomputable def L8 : LSpec := fun st K => match V8 st with
  | some x => P.bits_Digits_l8 x.1 x.2.1 x.2.2.1 x.2.2.2.1 x.2.2.2.2.1 x.2.2.2.2.2.1 x.2.2.2.2.2.2.1 x.2.2.2.2.2.2.2 (fun v0 v1 v8 v9 v10 v19 v20 h0 => K (.exit 2) (S8 v0 v1 v8 v9 v10 v19 v20 h0))
  | none => none
noncomputable def L6 : LSpec := fun st K => match V6 st with
  | some x => P.bits_Digits_l6 x.1 x.2.1 x.2.2.1 x.2.2.2.1 x.2.2.2.2.1 x.2.2.2.2.2.1 x.2.2.2.2.2.2 (fun v0 v1 v8 v9 v19 v20 h0 => K (.exit 0) (S6 v0 v1 v8 v9 v19 v20 h0))
  | none => none
noncomputable def D : Ctx := ({ P := Tryd.prog, G := [(135, bits_such.spec)], globs := [(0, [.arr .u32 64 P.roots256]), (1, [.arr .u64 80 P.roots512])], hints := [(8, ⟨[0, 1, 7, 8, 9, 10, 19, 20], [], [6], [(0, .sl (.ints .u8 []))], none, []⟩), (6, ⟨[0, 1, 7, 8, 9, 19, 20], [], [6], [(0, .sl (.ints .u8 []))], none, []⟩)], loops := [(8, L8), (6, L6)], inl := [] } : Ctx)
def E8 (K : AExit → ASt → Option R) : (((List Int) × Int × Int × Int × Int × Int × Int × (List Int))) → Option R := (fun x => K (.exit 2) (S8 x.1 x.2.1 x.2.2.1 x.2.2.2.1 x.2.2.2.2.1 x.2.2.2.2.2.1 x.2.2.2.2.2.2.1 x.2.2.2.2.2.2.2))
theorem round8 (K : AExit → ASt → Option R) (next : ASt → Option R) (x : (List Int) × Int × Int × Int × Int × Int × Int × (List Int)) : roundA D (loopAt Tryd.f122 8) K next (S8 x.1 x.2.1 x.2.2.1 x.2.2.2.1 x.2.2.2.2.1 x.2.2.2.2.2.1 x.2.2.2.2.2.2.1 x.2.2.2.2.2.2.2) = (fun (x : (List Int) × Int × Int × Int × Int × Int × Int × (List Int)) (next : ((List Int) × Int × Int × Int × Int × Int × Int × (List Int)) → Option R) (ex : (((List Int) × Int × Int × Int × Int × Int × Int × (List Int))) → Option R) => P.bits_Digits_r8 x.1 x.2.1 x.2.2.1 x.2.2.2.1 x.2.2.2.2.1 x.2.2.2.2.2.1 x.2.2.2.2.2.2.1 x.2.2.2.2.2.2.2 (fun v0 v1 v8 v9 v10 v19 v20 h0 => next (v0, v1, v8, v9, v10, v19, v20, h0)) (fun v0 v1 v8 v9 v10 v19 v20 h0 => ex ((v0, v1, v8, v9, v10, v19, v20, h0)))) x (fun x => next (S8 x.1 x.2.1 x.2.2.1 x.2.2.2.1 x.2.2.2.2.1 x.2.2.2.2.2.1 x.2.2.2.2.2.2.1 x.2.2.2.2.2.2.2)) (E8 K) := by kernel_rfl
theorem lq8 (st : ASt) (K : AExit → ASt → Option R) : L8 st K = vMap (V8 st) (fun x => lp (fun (x : (List Int) × Int × Int × Int × Int × Int × Int × (List Int)) (next : ((List Int) × Int × Int × Int × Int × Int × Int × (List Int)) → Option R) (ex : (((List Int) × Int × Int × Int × Int × Int × Int × (List Int))) → Option R) => P.bits_Digits_r8 x.1 x.2.1 x.2.2.1 x.2.2.2.1 x.2.2.2.2.1 x.2.2.2.2.2.1 x.2.2.2.2.2.2.1 x.2.2.2.2.2.2.2 (fun v0 v1 v8 v9 v10 v19 v20 h0 => next (v0, v1, v8, v9, v10, v19, v20, h0)) (fun v0 v1 v8 v9 v10 v19 v20 h0 => ex ((v0, v1, v8, v9, v10, v19, v20, h0)))) x (E8 K)) := by
  unfold L8
  cases V8 st with
  | none => rfl
  | some x => simp only [P.bits_Digits_l8_eq]; rfl
theorem loop8 : LoopOk D (loopAt Tryd.f122 8) := loopOk_lp (X := (List Int) × Int × Int × Int × Int × Int × Int × (List Int)) (Y := ((List Int) × Int × Int × Int × Int × Int × Int × (List Int))) (fun x => S8 x.1 x.2.1 x.2.2.1 x.2.2.2.1 x.2.2.2.2.1 x.2.2.2.2.2.1 x.2.2.2.2.2.2.1 x.2.2.2.2.2.2.2) V8_ok (stp := (fun (x : (List Int) × Int × Int × Int × Int × Int × Int × (List Int)) (next : ((List Int) × Int × Int × Int × Int × Int × Int × (List Int)) → Option R) (ex : (((List Int) × Int × Int × Int × Int × Int × Int × (List Int))) → Option R) => P.bits_Digits_r8 x.1 x.2.1 x.2.2.1 x.2.2.2.1 x.2.2.2.2.1 x.2.2.2.2.2.1 x.2.2.2.2.2.2.1 x.2.2.2.2.2.2.2 (fun v0 v1 v8 v9 v10 v19 v20 h0 => next (v0, v1, v8, v9, v10, v19, v20, h0)) (fun v0 v1 v8 v9 v10 v19 v20 h0 => ex ((v0, v1, v8, v9, v10, v19, v20, h0))))) (enc := E8) (L := L8) (by kernel_rfl) lq8 round8
def E6 (K : AExit → ASt → Option R) : (((List Int) × Int × Int × Int × Int × Int × (List Int))) → Option R := (fun x => K (.exit 0) (S6 x.1 x.2.1 x.2.2.1 x.2.2.2.1 x.2.2.2.2.1 x.2.2.2.2.2.1 x.2.2.2.2.2.2))
theorem round6 (K : AExit → ASt → Option R) (next : ASt → Option R) (x : (List Int) × Int × Int × Int × Int × Int × (List Int)) : roundA D (loopAt Tryd.f122 6) K next (S6 x.1 x.2.1 x.2.2.1 x.2.2.2.1 x.2.2.2.2.1 x.2.2.2.2.2.1 x.2.2.2.2.2.2) = (fun (x : (List Int) × Int × Int × Int × Int × Int × (List Int)) (next : ((List Int) × Int × Int × Int × Int × Int × (List Int)) → Option R) (ex : (((List Int) × Int × Int × Int × Int × Int × (List Int))) → Option R) => P.bits_Digits_r6 x.1 x.2.1 x.2.2.1 x.2.2.2.1 x.2.2.2.2.1 x.2.2.2.2.2.1 x.2.2.2.2.2.2 (fun v0 v1 v8 v9 v19 v20 h0 => next (v0, v1, v8, v9, v19, v20, h0)) (fun v0 v1 v8 v9 v19 v20 h0 => ex ((v0, v1, v8, v9, v19, v20, h0)))) x (fun x => next (S6 x.1 x.2.1 x.2.2.1 x.2.2.2.1 x.2.2.2.2.1 x.2.2.2.2.2.1 x.2.2.2.2.2.2)) (E6 K) := by kernel_rfl
theorem lq6 (st : ASt) (K : AExit → ASt → Option R) : L6 st K = vMap (V6 st) (fun x => lp (fun (x : (List Int) × Int × Int × Int × Int × Int × (List Int)) (next : ((List Int) × Int × Int × Int × Int × Int × (List Int)) → Option R) (ex : (((List Int) × Int × Int × Int × Int × Int × (List Int))) → Option R) => P.bits_Digits_r6 x.1 x.2.1 x.2.2.1 x.2.2.2.1 x.2.2.2.2.1 x.2.2.2.2.2.1 x.2.2.2.2.2.2 (fun v0 v1 v8 v9 v19 v20 h0 => next (v0, v1, v8, v9, v19, v20, h0)) (fun v0 v1 v8 v9 v19 v20 h0 => ex ((v0, v1, v8, v9, v19, v20, h0)))) x (E6 K)) := by
  unfold L6
  cases V6 st with
  | none => rfl
  | some x => simp only [P.bits_Digits_l6_eq]; rfl
theorem loop6 : LoopOk D (loopAt Tryd.f122 6) := loopOk_lp (X := (List Int) × Int × Int × Int × Int × Int × (List Int)) (Y := ((List Int) × Int × Int × Int × Int × Int × (List Int))) (fun x => S6 x.1 x.2.1 x.2.2.1 x.2.2.2.1 x.2.2.2.2.1 x.2.2.2.2.2.1 x.2.2.2.2.2.2) V6_ok (stp := (fun (x : (List Int) × Int × Int × Int × Int × Int × (List Int)) (next : ((List Int) × Int × Int × Int × Int × Int × (List Int)) → Option R) (ex : (((List Int) × Int × Int × Int × Int × Int × (List Int))) → Option R) => P.bits_Digits_r6 x.1 x.2.1 x.2.2.1 x.2.2.2.1 x.2.2.2.2.1 x.2.2.2.2.2.1 x.2.2.2.2.2.2 (fun v0 v1 v8 v9 v19 v20 h0 => next (v0, v1, v8, v9, v19, v20, h0)) (fun v0 v1 v8 v9 v19 v20 h0 => ex ((v0, v1, v8, v9, v19, v20, h0))))) (enc := E6) (L := L6) (by kernel_rfl) lq6 round6
theorem body (a0 : List Int) (a1 : Int) (a2 : Int) (K : AVal → Option R) : bodyA D Tryd.f122 [.fr 71 (.ints .u32 [])] [.sl (.ints .u8 a0), .v (.int .i64 a1), .v (.int .i64 a2)] K = P.bits_Digits a0 a1 a2 (fun r0 => K (.fr 71 (.ints .u32 r0))) := by
  rw [P.bits_Digits_eq]
  kernel_rfl
theorem loops : loopsOf (Tryd.f122.body.getD .skip) = [loopAt Tryd.f122 6, loopAt Tryd.f122 8] := by kernel_rfl
noncomputable def spec0 : Abs.Spec := fun args K => match args with
  | [.sl (.ints .u8 a0), .v (.int .i64 a1), .v (.int .i64 a2)] => P.bits_Digits a0 a1 a2 (fun r0 => K (.fr 71 (.ints .u32 r0)))
  | _ => none
noncomputable def spec : Abs.Spec := fun args K => spec0 (coerL [.sl (.ints .u8 []), .any, .any] args) K
theorem ok0 : Proved Tryd.prog [(0, [.arr .u32 64 P.roots256]), (1, [.arr .u64 80 P.roots512])] 122 spec0 := by
  refine proved_of (D := D) (fn := Tryd.f122) (c := Tryd.f122.body.getD .skip) [.fr 71 (.ints .u32 [])] (by kernel_rfl) (globsPlain_of (by kernel_rfl)) (by kernel_rfl) (by kernel_rfl) (by kernel_rfl) ⟨bits_such.ok, trivial⟩ trivial ?_ ?_
  · rw [loops]; exact ⟨loop6, loop8, trivial⟩
  · intro args K r h
    unfold spec0 at h
    split at h
    · rw [body]; exact h
    · cases h
theorem ok : Proved Tryd.prog [(0, [.arr .u32 64 P.roots256]), (1, [.arr .u64 80 P.roots512])] 122 spec := proved_coer _ ok0
end bits_Digits
end

section
open Go Go.Abs Go.Proofs
set_option maxRecDepth 100000
set_option linter.unusedVariables false
namespace lmots_known
noncomputable def D : Ctx := ({ P := Tryd.prog, G := [], globs := [(0, [.arr .u32 64 P.roots256]), (1, [.arr .u64 80 P.roots512])], hints := [], loops := [], inl := [] } : Ctx)
theorem body (a0 : Int) (K : AVal → Option R) : bodyA D Tryd.f97 [.any, .any] [.v (.int .i64 a0)] K = P.lmots_known a0 (fun r0_digits r0_shift r0_code r1 => K (.tuple [.agg [.v (.int .i64 r0_digits), .v (.int .i64 r0_shift), .v (.int .i64 r0_code)], .v (.bool r1)])) := by
  rw [P.lmots_known_eq]
  kernel_rfl
theorem loops : loopsOf (Tryd.f97.body.getD .skip) = [] := by kernel_rfl
noncomputable def spec0 : Abs.Spec := fun args K => match args with
  | [.v (.int .i64 a0)] => P.lmots_known a0 (fun r0_digits r0_shift r0_code r1 => K (.tuple [.agg [.v (.int .i64 r0_digits), .v (.int .i64 r0_shift), .v (.int .i64 r0_code)], .v (.bool r1)]))
  | _ => none
noncomputable def spec : Abs.Spec := spec0
theorem ok0 : Proved Tryd.prog [(0, [.arr .u32 64 P.roots256]), (1, [.arr .u64 80 P.roots512])] 97 spec0 := by
  refine proved_of (D := D) (fn := Tryd.f97) (c := Tryd.f97.body.getD .skip) [.any, .any] (by kernel_rfl) (globsPlain_of (by kernel_rfl)) (by kernel_rfl) (by kernel_rfl) (by kernel_rfl) trivial trivial ?_ ?_
  · rw [loops]; exact trivial
  · intro args K r h
    unfold spec0 at h
    split at h
    · rw [body]; exact h
    · cases h
theorem ok : Proved Tryd.prog [(0, [.arr .u32 64 P.roots256]), (1, [.arr .u64 80 P.roots512])] 97 spec := ok0
end lmots_known
end

section
open Go Go.Abs Go.Proofs
set_option maxRecDepth 100000
set_option linter.unusedVariables false
namespace lmots_Digits
def S9 (v0 : Int) (v9 : Int) (v37 : Int) (v38 : Int) (h0_0 : Int) (h0_1 : Int) (h0_2 : Int) (h1 : List Int) : ASt := ⟨[(0, .v (.int .i64 v0)), (6, .ptr 0 0), (8, .own 1), (9, .v (.int .u64 v9)), (36, .own 1), (37, .v (.int .i64 v37)), (38, .v (.int .i64 v38))], [(0, some ⟨.box 128 [.v (.int .i64 h0_0), .v (.int .i64 h0_1), .v (.int .i64 h0_2)], false⟩), (1, some ⟨.row 71 (.ints .u32 h1), false⟩)], 2, 61⟩
def V9 : ASt → Option (Int × Int × Int × Int × Int × Int × Int × (List Int))
  | ⟨[(0, .v (.int .i64 v0)), (6, .ptr 0 0), (8, .own 1), (9, .v (.int .u64 v9)), (36, .own 1), (37, .v (.int .i64 v37)), (38, .v (.int .i64 v38))], [(0, some ⟨.box 128 [.v (.int .i64 h0_0), .v (.int .i64 h0_1), .v (.int .i64 h0_2)], false⟩), (1, some ⟨.row 71 (.ints .u32 h1), false⟩)], 2, 61⟩ => some (v0, v9, v37, v38, h0_0, h0_1, h0_2, h1)
  | _ => none
theorem V9_ok (st : ASt) (x : Int × Int × Int × Int × Int × Int × Int × (List Int)) (h : V9 st = some x) : st = S9 x.1 x.2.1 x.2.2.1 x.2.2.2.1 x.2.2.2.2.1 x.2.2.2.2.2.1 x.2.2.2.2.2.2.1 x.2.2.2.2.2.2.2 := by
  unfold V9 at h
  split at h
  · cases h; rfl
  · cases h
noncomputable def L9 : LSpec := fun st K => match V9 st with
  | some x => P.lmots_Digits_l9 x.1 x.2.1 x.2.2.1 x.2.2.2.1 x.2.2.2.2.1 x.2.2.2.2.2.1 x.2.2.2.2.2.2.1 x.2.2.2.2.2.2.2 (fun v0 v9 v37 v38 h0_0 h0_1 h0_2 h1 => K (.exit 1) (S9 v0 v9 v37 v38 h0_0 h0_1 h0_2 h1))
  | none => none
noncomputable def D : Ctx := ({ P := Tryd.prog, G := [(68, bits_Be.spec), (97, lmots_known.spec), (122, bits_Digits.spec)], globs := [(0, [.arr .u32 64 P.roots256]), (1, [.arr .u64 80 P.roots512])], hints := [(9, ⟨[0, 6, 8, 9, 36, 37, 38], [], [4, 5], [], none, []⟩)], loops := [(9, L9)], inl := [] } : Ctx)
def E9 (K : AExit → ASt → Option R) : ((Int × Int × Int × Int × Int × Int × Int × (List Int))) → Option R := (fun x => K (.exit 1) (S9 x.1 x.2.1 x.2.2.1 x.2.2.2.1 x.2.2.2.2.1 x.2.2.2.2.2.1 x.2.2.2.2.2.2.1 x.2.2.2.2.2.2.2))
theorem round9 (K : AExit → ASt → Option R) (next : ASt → Option R) (x : Int × Int × Int × Int × Int × Int × Int × (List Int)) : roundA D (loopAt Tryd.f81 9) K next (S9 x.1 x.2.1 x.2.2.1 x.2.2.2.1 x.2.2.2.2.1 x.2.2.2.2.2.1 x.2.2.2.2.2.2.1 x.2.2.2.2.2.2.2) = (fun (x : Int × Int × Int × Int × Int × Int × Int × (List Int)) (next : (Int × Int × Int × Int × Int × Int × Int × (List Int)) → Option R) (ex : ((Int × Int × Int × Int × Int × Int × Int × (List Int))) → Option R) => P.lmots_Digits_r9 x.1 x.2.1 x.2.2.1 x.2.2.2.1 x.2.2.2.2.1 x.2.2.2.2.2.1 x.2.2.2.2.2.2.1 x.2.2.2.2.2.2.2 (fun v0 v9 v37 v38 h0_0 h0_1 h0_2 h1 => next (v0, v9, v37, v38, h0_0, h0_1, h0_2, h1)) (fun v0 v9 v37 v38 h0_0 h0_1 h0_2 h1 => ex ((v0, v9, v37, v38, h0_0, h0_1, h0_2, h1)))) x (fun x => next (S9 x.1 x.2.1 x.2.2.1 x.2.2.2.1 x.2.2.2.2.1 x.2.2.2.2.2.1 x.2.2.2.2.2.2.1 x.2.2.2.2.2.2.2)) (E9 K) := by kernel_rfl
theorem lq9 (st : ASt) (K : AExit → ASt → Option R) : L9 st K = vMap (V9 st) (fun x => lp (fun (x : Int × Int × Int × Int × Int × Int × Int × (List Int)) (next : (Int × Int × Int × Int × Int × Int × Int × (List Int)) → Option R) (ex : ((Int × Int × Int × Int × Int × Int × Int × (List Int))) → Option R) => P.lmots_Digits_r9 x.1 x.2.1 x.2.2.1 x.2.2.2.1 x.2.2.2.2.1 x.2.2.2.2.2.1 x.2.2.2.2.2.2.1 x.2.2.2.2.2.2.2 (fun v0 v9 v37 v38 h0_0 h0_1 h0_2 h1 => next (v0, v9, v37, v38, h0_0, h0_1, h0_2, h1)) (fun v0 v9 v37 v38 h0_0 h0_1 h0_2 h1 => ex ((v0, v9, v37, v38, h0_0, h0_1, h0_2, h1)))) x (E9 K)) := by
  unfold L9
  cases V9 st with
  | none => rfl
  | some x => simp only [P.lmots_Digits_l9_eq]; rfl
theorem loop9 : LoopOk D (loopAt Tryd.f81 9) := loopOk_lp (X := Int × Int × Int × Int × Int × Int × Int × (List Int)) (Y := (Int × Int × Int × Int × Int × Int × Int × (List Int))) (fun x => S9 x.1 x.2.1 x.2.2.1 x.2.2.2.1 x.2.2.2.2.1 x.2.2.2.2.2.1 x.2.2.2.2.2.2.1 x.2.2.2.2.2.2.2) V9_ok (stp := (fun (x : Int × Int × Int × Int × Int × Int × Int × (List Int)) (next : (Int × Int × Int × Int × Int × Int × Int × (List Int)) → Option R) (ex : ((Int × Int × Int × Int × Int × Int × Int × (List Int))) → Option R) => P.lmots_Digits_r9 x.1 x.2.1 x.2.2.1 x.2.2.2.1 x.2.2.2.2.1 x.2.2.2.2.2.1 x.2.2.2.2.2.2.1 x.2.2.2.2.2.2.2 (fun v0 v9 v37 v38 h0_0 h0_1 h0_2 h1 => next (v0, v9, v37, v38, h0_0, h0_1, h0_2, h1)) (fun v0 v9 v37 v38 h0_0 h0_1 h0_2 h1 => ex ((v0, v9, v37, v38, h0_0, h0_1, h0_2, h1))))) (enc := E9) (L := L9) (by kernel_rfl) lq9 round9
theorem body (a0 : Int) (a1 : List Int) (K : AVal → Option R) : bodyA D Tryd.f81 [.fr 71 (.ints .u32 []), .any] [.v (.int .i64 a0), .sl (.ints .u8 a1)] K = P.lmots_Digits a0 a1 (fun r0 r1 => K (.tuple [.fr 71 (.ints .u32 r0), .v (.int .i64 r1)])) := by
  rw [P.lmots_Digits_eq]
  kernel_rfl
theorem loops : loopsOf (Tryd.f81.body.getD .skip) = [loopAt Tryd.f81 9] := by kernel_rfl
noncomputable def spec0 : Abs.Spec := fun args K => match args with
  | [.v (.int .i64 a0), .sl (.ints .u8 a1)] => P.lmots_Digits a0 a1 (fun r0 r1 => K (.tuple [.fr 71 (.ints .u32 r0), .v (.int .i64 r1)]))
  | _ => none
noncomputable def spec : Abs.Spec := fun args K => spec0 (coerL [.any, .sl (.ints .u8 [])] args) K
theorem ok0 : Proved Tryd.prog [(0, [.arr .u32 64 P.roots256]), (1, [.arr .u64 80 P.roots512])] 81 spec0 := by
  refine proved_of (D := D) (fn := Tryd.f81) (c := Tryd.f81.body.getD .skip) [.fr 71 (.ints .u32 []), .any] (by kernel_rfl) (globsPlain_of (by kernel_rfl)) (by kernel_rfl) (by kernel_rfl) (by kernel_rfl) ⟨bits_Be.ok, lmots_known.ok, bits_Digits.ok, trivial⟩ trivial ?_ ?_
  · rw [loops]; exact ⟨loop9, trivial⟩
  · intro args K r h
    unfold spec0 at h
    split at h
    · rw [body]; exact h
    · cases h
theorem ok : Proved Tryd.prog [(0, [.arr .u32 64 P.roots256]), (1, [.arr .u64 80 P.roots512])] 81 spec := proved_coer _ ok0
end lmots_Digits
end

section
open Go Go.Abs Go.Proofs
set_option maxRecDepth 100000
set_option linter.unusedVariables false
namespace lmots_Size
noncomputable def D : Ctx := ({ P := Tryd.prog, G := [(97, lmots_known.spec)], globs := [(0, [.arr .u32 64 P.roots256]), (1, [.arr .u64 80 P.roots512])], hints := [], loops := [], inl := [] } : Ctx)
theorem body (a0 : Int) (K : AVal → Option R) : bodyA D Tryd.f51 [.any] [.v (.int .i64 a0)] K = P.lmots_Size a0 (fun r0 => K (.v (.int .i64 r0))) := by
  rw [P.lmots_Size_eq]
  kernel_rfl
theorem loops : loopsOf (Tryd.f51.body.getD .skip) = [] := by kernel_rfl
noncomputable def spec0 : Abs.Spec := fun args K => match args with
  | [.v (.int .i64 a0)] => P.lmots_Size a0 (fun r0 => K (.v (.int .i64 r0)))
  | _ => none
noncomputable def spec : Abs.Spec := spec0
theorem ok0 : Proved Tryd.prog [(0, [.arr .u32 64 P.roots256]), (1, [.arr .u64 80 P.roots512])] 51 spec0 := by
  refine proved_of (D := D) (fn := Tryd.f51) (c := Tryd.f51.body.getD .skip) [.any] (by kernel_rfl) (globsPlain_of (by kernel_rfl)) (by kernel_rfl) (by kernel_rfl) (by kernel_rfl) ⟨lmots_known.ok, trivial⟩ trivial ?_ ?_
  · rw [loops]; exact trivial
  · intro args K r h
    unfold spec0 at h
    split at h
    · rw [body]; exact h
    · cases h
theorem ok : Proved Tryd.prog [(0, [.arr .u32 64 P.roots256]), (1, [.arr .u64 80 P.roots512])] 51 spec := ok0
end lmots_Size
end

section
open Go Go.Abs Go.Proofs
set_option maxRecDepth 100000
set_option linter.unusedVariables false
namespace L14_awake
def S3 (v9 : Int) (v10 : Int) (h0 : List Int) : ASt := ⟨[(1, .own 0), (9, .v (.int .i64 v9)), (10, .v (.int .i64 v10))], [(0, some ⟨.row 5 (.ints .u8 h0), false⟩)], 1, 60⟩
def V3 : ASt → Option (Int × Int × (List Int))
  | ⟨[(1, .own 0), (9, .v (.int .i64 v9)), (10, .v (.int .i64 v10))], [(0, some ⟨.row 5 (.ints .u8 h0), false⟩)], 1, 60⟩ => some (v9, v10, h0)
  | _ => none
theorem V3_ok (st : ASt) (x : Int × Int × (List Int)) (h : V3 st = some x) : st = S3 x.1 x.2.1 x.2.2 := by
  unfold V3 at h
  split at h
  · cases h; rfl
  · cases h
noncomputable def L3 : LSpec := fun st K => match V3 st with
  | some x => P.L14_awake_l3 x.1 x.2.1 x.2.2 (fun v9 v10 h0 => K (.exit 0) (S3 v9 v10 h0))
  | none => none
noncomputable def D : Ctx := ({ P := Tryd.prog, G := [(51, lmots_Size.spec), (81, lmots_Digits.spec)], globs := [(0, [.arr .u32 64 P.roots256]), (1, [.arr .u64 80 P.roots512])], hints := [(3, ⟨[1, 9, 10], [], [0], [], none, []⟩)], loops := [(3, L3)], inl := [] } : Ctx)
def E3 (K : AExit → ASt → Option R) : ((Int × Int × (List Int))) → Option R := (fun x => K (.exit 0) (S3 x.1 x.2.1 x.2.2))
theorem round3 (K : AExit → ASt → Option R) (next : ASt → Option R) (x : Int × Int × (List Int)) : roundA D (loopAt Tryd.f44 3) K next (S3 x.1 x.2.1 x.2.2) = (fun (x : Int × Int × (List Int)) (next : (Int × Int × (List Int)) → Option R) (ex : ((Int × Int × (List Int))) → Option R) => P.L14_awake_r3 x.1 x.2.1 x.2.2 (fun v9 v10 h0 => next (v9, v10, h0)) (fun v9 v10 h0 => ex ((v9, v10, h0)))) x (fun x => next (S3 x.1 x.2.1 x.2.2)) (E3 K) := by kernel_rfl
theorem lq3 (st : ASt) (K : AExit → ASt → Option R) : L3 st K = vMap (V3 st) (fun x => lp (fun (x : Int × Int × (List Int)) (next : (Int × Int × (List Int)) → Option R) (ex : ((Int × Int × (List Int))) → Option R) => P.L14_awake_r3 x.1 x.2.1 x.2.2 (fun v9 v10 h0 => next (v9, v10, h0)) (fun v9 v10 h0 => ex ((v9, v10, h0)))) x (E3 K)) := by
  unfold L3
  cases V3 st with
  | none => rfl
  | some x => simp only [P.L14_awake_l3_eq]; rfl
theorem loop3 : LoopOk D (loopAt Tryd.f44 3) := loopOk_lp (X := Int × Int × (List Int)) (Y := (Int × Int × (List Int))) (fun x => S3 x.1 x.2.1 x.2.2) V3_ok (stp := (fun (x : Int × Int × (List Int)) (next : (Int × Int × (List Int)) → Option R) (ex : ((Int × Int × (List Int))) → Option R) => P.L14_awake_r3 x.1 x.2.1 x.2.2 (fun v9 v10 h0 => next (v9, v10, h0)) (fun v9 v10 h0 => ex ((v9, v10, h0))))) (enc := E3) (L := L3) (by kernel_rfl) lq3 round3
theorem body  (K : AVal → Option R) : bodyA D Tryd.f44 [.any] [] K = P.L14_awake (fun r0 => K (.v (.bool r0))) := by
  rw [P.L14_awake_eq]
  kernel_rfl
theorem loops : loopsOf (Tryd.f44.body.getD .skip) = [loopAt Tryd.f44 3] := by kernel_rfl
noncomputable def spec0 : Abs.Spec := fun args K => match args with
  | [] => P.L14_awake (fun r0 => K (.v (.bool r0)))
  | _ => none
noncomputable def spec : Abs.Spec := spec0
theorem ok0 : Proved Tryd.prog [(0, [.arr .u32 64 P.roots256]), (1, [.arr .u64 80 P.roots512])] 44 spec0 := by
  refine proved_of (D := D) (fn := Tryd.f44) (c := Tryd.f44.body.getD .skip) [.any] (by kernel_rfl) (globsPlain_of (by kernel_rfl)) (by kernel_rfl) (by kernel_rfl) (by kernel_rfl) ⟨lmots_Size.ok, lmots_Digits.ok, trivial⟩ trivial ?_ ?_
  · rw [loops]; exact ⟨loop3, trivial⟩
  · intro args K r h
    unfold spec0 at h
    split at h
    · rw [body]; exact h
    · cases h
theorem ok : Proved Tryd.prog [(0, [.arr .u32 64 P.roots256]), (1, [.arr .u64 80 P.roots512])] 44 spec := ok0
end L14_awake
end

section
open Go Go.Abs Go.Proofs
set_option maxRecDepth 100000
set_option linter.unusedVariables false
namespace L14_few
def S2 (v5 : List (List Int)) (v6 : Int) (v7 : Int) : ASt := ⟨[(5, .sl (.rows .u8 v5)), (6, .v (.int .i64 v6)), (7, .v (.int .i64 v7))], [], 0, 15⟩
def V2 : ASt → Option ((List (List Int)) × Int × Int)
  | ⟨[(5, .sl (.rows .u8 v5)), (6, .v (.int .i64 v6)), (7, .v (.int .i64 v7))], [], 0, 15⟩ => some (v5, v6, v7)
  | _ => none
theorem V2_ok (st : ASt) (x : (List (List Int)) × Int × Int) (h : V2 st = some x) : st = S2 x.1 x.2.1 x.2.2 := by
  unfold V2 at h
  split at h
  · cases h; rfl
  · cases h
noncomputable def L2 : LSpec := fun st K => match V2 st with
  | some x => P.L14_few_l2 x.1 x.2.1 x.2.2 (fun v5 v6 v7 => K (.exit 0) (S2 v5 v6 v7)) (fun v2 => K .ret ⟨[(2, .v (.bool v2))], [], 0, 15⟩)
  | none => none
noncomputable def D : Ctx := ({ P := Tryd.prog, G := [], globs := [(0, [.arr .u32 64 P.roots256]), (1, [.arr .u64 80 P.roots512])], hints := [(2, ⟨[5, 6, 7], [], [2], [], none, []⟩)], loops := [(2, L2)], inl := [] } : Ctx)
def E2 (K : AExit → ASt → Option R) : (((List (List Int)) × Int × Int) ⊕ ((Bool))) → Option R := (Sum.elim (fun x => K (.exit 0) (S2 x.1 x.2.1 x.2.2)) (fun x => K .ret ⟨[(2, .v (.bool x))], [], 0, 15⟩))
theorem round2 (K : AExit → ASt → Option R) (next : ASt → Option R) (x : (List (List Int)) × Int × Int) : roundA D (loopAt Tryd.f43 2) K next (S2 x.1 x.2.1 x.2.2) = (fun (x : (List (List Int)) × Int × Int) (next : ((List (List Int)) × Int × Int) → Option R) (ex : (((List (List Int)) × Int × Int) ⊕ ((Bool))) → Option R) => P.L14_few_r2 x.1 x.2.1 x.2.2 (fun v5 v6 v7 => next (v5, v6, v7)) (fun v5 v6 v7 => ex (.inl (v5, v6, v7))) (fun v2 => ex (.inr v2))) x (fun x => next (S2 x.1 x.2.1 x.2.2)) (E2 K) := by kernel_rfl
theorem lq2 (st : ASt) (K : AExit → ASt → Option R) : L2 st K = vMap (V2 st) (fun x => lp (fun (x : (List (List Int)) × Int × Int) (next : ((List (List Int)) × Int × Int) → Option R) (ex : (((List (List Int)) × Int × Int) ⊕ ((Bool))) → Option R) => P.L14_few_r2 x.1 x.2.1 x.2.2 (fun v5 v6 v7 => next (v5, v6, v7)) (fun v5 v6 v7 => ex (.inl (v5, v6, v7))) (fun v2 => ex (.inr v2))) x (E2 K)) := by
  unfold L2
  cases V2 st with
  | none => rfl
  | some x => simp only [P.L14_few_l2_eq]; rfl
theorem loop2 : LoopOk D (loopAt Tryd.f43 2) := loopOk_lp (X := (List (List Int)) × Int × Int) (Y := ((List (List Int)) × Int × Int) ⊕ ((Bool))) (fun x => S2 x.1 x.2.1 x.2.2) V2_ok (stp := (fun (x : (List (List Int)) × Int × Int) (next : ((List (List Int)) × Int × Int) → Option R) (ex : (((List (List Int)) × Int × Int) ⊕ ((Bool))) → Option R) => P.L14_few_r2 x.1 x.2.1 x.2.2 (fun v5 v6 v7 => next (v5, v6, v7)) (fun v5 v6 v7 => ex (.inl (v5, v6, v7))) (fun v2 => ex (.inr v2)))) (enc := E2) (L := L2) (by kernel_rfl) lq2 round2
theorem body (a0 : List (List Int)) (K : AVal → Option R) : bodyA D Tryd.f43 [.any] [.sl (.rows .u8 a0)] K = P.L14_few a0 (fun r0 => K (.v (.bool r0))) := by
  rw [P.L14_few_eq]
  kernel_rfl
theorem loops : loopsOf (Tryd.f43.body.getD .skip) = [loopAt Tryd.f43 2] := by kernel_rfl
noncomputable def spec0 : Abs.Spec := fun args K => match args with
  | [.sl (.rows .u8 a0)] => P.L14_few a0 (fun r0 => K (.v (.bool r0)))
  | _ => none
noncomputable def spec : Abs.Spec := fun args K => spec0 (coerL [.sl (.rows .u8 [])] args) K
theorem ok0 : Proved Tryd.prog [(0, [.arr .u32 64 P.roots256]), (1, [.arr .u64 80 P.roots512])] 43 spec0 := by
  refine proved_of (D := D) (fn := Tryd.f43) (c := Tryd.f43.body.getD .skip) [.any] (by kernel_rfl) (globsPlain_of (by kernel_rfl)) (by kernel_rfl) (by kernel_rfl) (by kernel_rfl) trivial trivial ?_ ?_
  · rw [loops]; exact ⟨loop2, trivial⟩
  · intro args K r h
    unfold spec0 at h
    split at h
    · rw [body]; exact h
    · cases h
theorem ok : Proved Tryd.prog [(0, [.arr .u32 64 P.roots256]), (1, [.arr .u64 80 P.roots512])] 43 spec := proved_coer _ ok0
end L14_few
end

section
open Go Go.Abs Go.Proofs
set_option maxRecDepth 100000
set_option linter.unusedVariables false
namespace R01_Same
def S4 (v0 : List Int) (v1 : List Int) (v5 : Int) : ASt := ⟨[(0, .sl (.ints .u8 v0)), (1, .sl (.ints .u8 v1)), (5, .v (.int .i64 v5))], [], 0, 26⟩
def V4 : ASt → Option ((List Int) × (List Int) × Int)
  | ⟨[(0, .sl (.ints .u8 v0)), (1, .sl (.ints .u8 v1)), (5, .v (.int .i64 v5))], [], 0, 26⟩ => some (v0, v1, v5)
  | _ => none
theorem V4_ok (st : ASt) (x : (List Int) × (List Int) × Int) (h : V4 st = some x) : st = S4 x.1 x.2.1 x.2.2 := by
  unfold V4 at h
  split at h
  · cases h; rfl
  · cases h
noncomputable def L4 : LSpec := fun st K => match V4 st with
  | some x => P.R01_Same_l4 x.1 x.2.1 x.2.2 (fun v0 v1 v5 => K (.exit 0) (S4 v0 v1 v5)) (fun v4 => K .ret ⟨[(4, .v (.bool v4))], [], 0, 26⟩)
  | none => none
noncomputable def D : Ctx := ({ P := Tryd.prog, G := [], globs := [(0, [.arr .u32 64 P.roots256]), (1, [.arr .u64 80 P.roots512])], hints := [(4, ⟨[0, 1, 5], [], [4], [], none, []⟩)], loops := [(4, L4)], inl := [] } : Ctx)
def E4 (K : AExit → ASt → Option R) : (((List Int) × (List Int) × Int) ⊕ ((Bool))) → Option R := (Sum.elim (fun x => K (.exit 0) (S4 x.1 x.2.1 x.2.2)) (fun x => K .ret ⟨[(4, .v (.bool x))], [], 0, 26⟩))
theorem round4 (K : AExit → ASt → Option R) (next : ASt → Option R) (x : (List Int) × (List Int) × Int) : roundA D (loopAt Tryd.f18 4) K next (S4 x.1 x.2.1 x.2.2) = (fun (x : (List Int) × (List Int) × Int) (next : ((List Int) × (List Int) × Int) → Option R) (ex : (((List Int) × (List Int) × Int) ⊕ ((Bool))) → Option R) => P.R01_Same_r4 x.1 x.2.1 x.2.2 (fun v0 v1 v5 => next (v0, v1, v5)) (fun v0 v1 v5 => ex (.inl (v0, v1, v5))) (fun v4 => ex (.inr v4))) x (fun x => next (S4 x.1 x.2.1 x.2.2)) (E4 K) := by kernel_rfl
theorem lq4 (st : ASt) (K : AExit → ASt → Option R) : L4 st K = vMap (V4 st) (fun x => lp (fun (x : (List Int) × (List Int) × Int) (next : ((List Int) × (List Int) × Int) → Option R) (ex : (((List Int) × (List Int) × Int) ⊕ ((Bool))) → Option R) => P.R01_Same_r4 x.1 x.2.1 x.2.2 (fun v0 v1 v5 => next (v0, v1, v5)) (fun v0 v1 v5 => ex (.inl (v0, v1, v5))) (fun v4 => ex (.inr v4))) x (E4 K)) := by
  unfold L4
  cases V4 st with
  | none => rfl
  | some x => simp only [P.R01_Same_l4_eq]; rfl
theorem loop4 : LoopOk D (loopAt Tryd.f18 4) := loopOk_lp (X := (List Int) × (List Int) × Int) (Y := ((List Int) × (List Int) × Int) ⊕ ((Bool))) (fun x => S4 x.1 x.2.1 x.2.2) V4_ok (stp := (fun (x : (List Int) × (List Int) × Int) (next : ((List Int) × (List Int) × Int) → Option R) (ex : (((List Int) × (List Int) × Int) ⊕ ((Bool))) → Option R) => P.R01_Same_r4 x.1 x.2.1 x.2.2 (fun v0 v1 v5 => next (v0, v1, v5)) (fun v0 v1 v5 => ex (.inl (v0, v1, v5))) (fun v4 => ex (.inr v4)))) (enc := E4) (L := L4) (by kernel_rfl) lq4 round4
theorem body (a0 : List Int) (a1 : List Int) (K : AVal → Option R) : bodyA D Tryd.f18 [.any] [.sl (.ints .u8 a0), .sl (.ints .u8 a1)] K = P.R01_Same a0 a1 (fun r0 => K (.v (.bool r0))) := by
  rw [P.R01_Same_eq]
  kernel_rfl
theorem loops : loopsOf (Tryd.f18.body.getD .skip) = [loopAt Tryd.f18 4] := by kernel_rfl
noncomputable def spec0 : Abs.Spec := fun args K => match args with
  | [.sl (.ints .u8 a0), .sl (.ints .u8 a1)] => P.R01_Same a0 a1 (fun r0 => K (.v (.bool r0)))
  | _ => none
noncomputable def spec : Abs.Spec := fun args K => spec0 (coerL [.sl (.ints .u8 []), .sl (.ints .u8 [])] args) K
theorem ok0 : Proved Tryd.prog [(0, [.arr .u32 64 P.roots256]), (1, [.arr .u64 80 P.roots512])] 18 spec0 := by
  refine proved_of (D := D) (fn := Tryd.f18) (c := Tryd.f18.body.getD .skip) [.any] (by kernel_rfl) (globsPlain_of (by kernel_rfl)) (by kernel_rfl) (by kernel_rfl) (by kernel_rfl) trivial trivial ?_ ?_
  · rw [loops]; exact ⟨loop4, trivial⟩
  · intro args K r h
    unfold spec0 at h
    split at h
    · rw [body]; exact h
    · cases h
theorem ok : Proved Tryd.prog [(0, [.arr .u32 64 P.roots256]), (1, [.arr .u64 80 P.roots512])] 18 spec := proved_coer _ ok0
end R01_Same
end

section
open Go Go.Abs Go.Proofs
set_option maxRecDepth 100000
set_option linter.unusedVariables false
namespace bits_Num
def S3 (v3 : Int) (v6 : List Int) (v7 : Int) (v8 : Int) : ASt := ⟨[(3, .v (.int .u64 v3)), (6, .sl (.ints .u8 v6)), (7, .v (.int .i64 v7)), (8, .v (.int .i64 v8))], [], 0, 19⟩
def V3 : ASt → Option (Int × (List Int) × Int × Int)
  | ⟨[(3, .v (.int .u64 v3)), (6, .sl (.ints .u8 v6)), (7, .v (.int .i64 v7)), (8, .v (.int .i64 v8))], [], 0, 19⟩ => some (v3, v6, v7, v8)
  | _ => none
theorem V3_ok (st : ASt) (x : Int × (List Int) × Int × Int) (h : V3 st = some x) : st = S3 x.1 x.2.1 x.2.2.1 x.2.2.2 := by
  unfold V3 at h
  split at h
  · cases h; rfl
  · cases h
noncomputable def L3 : LSpec := fun st K => match V3 st with
  | some x => P.bits_Num_l3 x.1 x.2.1 x.2.2.1 x.2.2.2 (fun v3 v6 v7 v8 => K (.exit 0) (S3 v3 v6 v7 v8))
  | none => none
noncomputable def D : Ctx := ({ P := Tryd.prog, G := [], globs := [(0, [.arr .u32 64 P.roots256]), (1, [.arr .u64 80 P.roots512])], hints := [(3, ⟨[3, 6, 7, 8], [], [2], [], none, []⟩)], loops := [(3, L3)], inl := [] } : Ctx)
def E3 (K : AExit → ASt → Option R) : ((Int × (List Int) × Int × Int)) → Option R := (fun x => K (.exit 0) (S3 x.1 x.2.1 x.2.2.1 x.2.2.2))
theorem round3 (K : AExit → ASt → Option R) (next : ASt → Option R) (x : Int × (List Int) × Int × Int) : roundA D (loopAt Tryd.f75 3) K next (S3 x.1 x.2.1 x.2.2.1 x.2.2.2) = (fun (x : Int × (List Int) × Int × Int) (next : (Int × (List Int) × Int × Int) → Option R) (ex : ((Int × (List Int) × Int × Int)) → Option R) => P.bits_Num_r3 x.1 x.2.1 x.2.2.1 x.2.2.2 (fun v3 v6 v7 v8 => next (v3, v6, v7, v8)) (fun v3 v6 v7 v8 => ex ((v3, v6, v7, v8)))) x (fun x => next (S3 x.1 x.2.1 x.2.2.1 x.2.2.2)) (E3 K) := by kernel_rfl
theorem lq3 (st : ASt) (K : AExit → ASt → Option R) : L3 st K = vMap (V3 st) (fun x => lp (fun (x : Int × (List Int) × Int × Int) (next : (Int × (List Int) × Int × Int) → Option R) (ex : ((Int × (List Int) × Int × Int)) → Option R) => P.bits_Num_r3 x.1 x.2.1 x.2.2.1 x.2.2.2 (fun v3 v6 v7 v8 => next (v3, v6, v7, v8)) (fun v3 v6 v7 v8 => ex ((v3, v6, v7, v8)))) x (E3 K)) := by
  unfold L3
  cases V3 st with
  | none => rfl
  | some x => simp only [P.bits_Num_l3_eq]; rfl
theorem loop3 : LoopOk D (loopAt Tryd.f75 3) := loopOk_lp (X := Int × (List Int) × Int × Int) (Y := (Int × (List Int) × Int × Int)) (fun x => S3 x.1 x.2.1 x.2.2.1 x.2.2.2) V3_ok (stp := (fun (x : Int × (List Int) × Int × Int) (next : (Int × (List Int) × Int × Int) → Option R) (ex : ((Int × (List Int) × Int × Int)) → Option R) => P.bits_Num_r3 x.1 x.2.1 x.2.2.1 x.2.2.2 (fun v3 v6 v7 v8 => next (v3, v6, v7, v8)) (fun v3 v6 v7 v8 => ex ((v3, v6, v7, v8))))) (enc := E3) (L := L3) (by kernel_rfl) lq3 round3
theorem body (a0 : List Int) (K : AVal → Option R) : bodyA D Tryd.f75 [.any] [.sl (.ints .u8 a0)] K = P.bits_Num a0 (fun r0 => K (.v (.int .u64 r0))) := by
  rw [P.bits_Num_eq]
  kernel_rfl
theorem loops : loopsOf (Tryd.f75.body.getD .skip) = [loopAt Tryd.f75 3] := by kernel_rfl
noncomputable def spec0 : Abs.Spec := fun args K => match args with
  | [.sl (.ints .u8 a0)] => P.bits_Num a0 (fun r0 => K (.v (.int .u64 r0)))
  | _ => none
noncomputable def spec : Abs.Spec := fun args K => spec0 (coerL [.sl (.ints .u8 [])] args) K
theorem ok0 : Proved Tryd.prog [(0, [.arr .u32 64 P.roots256]), (1, [.arr .u64 80 P.roots512])] 75 spec0 := by
  refine proved_of (D := D) (fn := Tryd.f75) (c := Tryd.f75.body.getD .skip) [.any] (by kernel_rfl) (globsPlain_of (by kernel_rfl)) (by kernel_rfl) (by kernel_rfl) (by kernel_rfl) trivial trivial ?_ ?_
  · rw [loops]; exact ⟨loop3, trivial⟩
  · intro args K r h
    unfold spec0 at h
    split at h
    · rw [body]; exact h
    · cases h
theorem ok : Proved Tryd.prog [(0, [.arr .u32 64 P.roots256]), (1, [.arr .u64 80 P.roots512])] 75 spec := proved_coer _ ok0
end bits_Num
end

section
open Go Go.Abs Go.Proofs
set_option maxRecDepth 100000
set_option linter.unusedVariables false
namespace lmots_began
noncomputable def D : Ctx := ({ P := Tryd.prog, G := [(97, lmots_known.spec)], globs := [(0, [.arr .u32 64 P.roots256]), (1, [.arr .u64 80 P.roots512])], hints := [], loops := [], inl := [] } : Ctx)
theorem body (a0 : Int) (a1 : List Int) (a2 : Int) (K : AVal → Option R) : bodyA D Tryd.f95 [.agg [.any, .sl (.ints .u8 []), .any, .any, .any, .any], .any] [.v (.int .i64 a0), .sl (.ints .u8 a1), .v (.int .u32 a2)] K = P.lmots_began a0 a1 a2 (fun r0_w r0_id r0_q r0_kind_digits r0_kind_shift r0_kind_code r1 => K (.tuple [.agg [.v (.int .i64 r0_w), .sl (.ints .u8 r0_id), .v (.int .u32 r0_q), .v (.int .i64 r0_kind_digits), .v (.int .i64 r0_kind_shift), .v (.int .i64 r0_kind_code)], .v (.int .i64 r1)])) := by
  rw [P.lmots_began_eq]
  kernel_rfl
theorem loops : loopsOf (Tryd.f95.body.getD .skip) = [] := by kernel_rfl
noncomputable def spec0 : Abs.Spec := fun args K => match args with
  | [.v (.int .i64 a0), .sl (.ints .u8 a1), .v (.int .u32 a2)] => P.lmots_began a0 a1 a2 (fun r0_w r0_id r0_q r0_kind_digits r0_kind_shift r0_kind_code r1 => K (.tuple [.agg [.v (.int .i64 r0_w), .sl (.ints .u8 r0_id), .v (.int .u32 r0_q), .v (.int .i64 r0_kind_digits), .v (.int .i64 r0_kind_shift), .v (.int .i64 r0_kind_code)], .v (.int .i64 r1)]))
  | _ => none
noncomputable def spec : Abs.Spec := fun args K => spec0 (coerL [.any, .sl (.ints .u8 []), .any] args) K
theorem ok0 : Proved Tryd.prog [(0, [.arr .u32 64 P.roots256]), (1, [.arr .u64 80 P.roots512])] 95 spec0 := by
  refine proved_of (D := D) (fn := Tryd.f95) (c := Tryd.f95.body.getD .skip) [.agg [.any, .sl (.ints .u8 []), .any, .any, .any, .any], .any] (by kernel_rfl) (globsPlain_of (by kernel_rfl)) (by kernel_rfl) (by kernel_rfl) (by kernel_rfl) ⟨lmots_known.ok, trivial⟩ trivial ?_ ?_
  · rw [loops]; exact trivial
  · intro args K r h
    unfold spec0 at h
    split at h
    · rw [body]; exact h
    · cases h
theorem ok : Proved Tryd.prog [(0, [.arr .u32 64 P.roots256]), (1, [.arr .u64 80 P.roots512])] 95 spec := proved_coer _ ok0
end lmots_began
end
