/-
  LmotsSigns, part H: an interpreter of my own over abstract values, the pure functions, the walks and the plain law.
-/

import Derived.Test.YtknjpkgnideplaaDoorLmotsSignsF
import Derived.Test.YtknjpkgnideplaaDoorLmotsSignsG

section
open Go Go.Abs
set_option linter.unusedVariables false
namespace P
noncomputable def sha_through_uint64_r3 {ρ : Type} (v2 : List Int) (v14 : List Int) (v15 : Int) (h0_0 : Int) (h0_1 : Int) (h0_2 : List Int) (h0_3 : List Int) (h0_4 : List Int) (h0_5 : List Int) (h1_0 : List Int) (h2_0 : List Int) (h3_0 : List Int) (nx : (List Int) → (List Int) → Int → Int → Int → (List Int) → (List Int) → (List Int) → (List Int) → (List Int) → (List Int) → (List Int) → Option ρ) (k0 : (List Int) → (List Int) → Int → Int → Int → (List Int) → (List Int) → (List Int) → (List Int) → (List Int) → (List Int) → (List Int) → Option ρ) : Option ρ :=
  br (decide (v15 < (8 : Int)))
    (br (decide ((0 : Int) ≤ v15))
      (br (decide (v15 < (↑8 : Int)))
        (br (decide ((0 : Int) ≤ v15))
          (br (decide (v15 < (↑8 : Int)))
            (nx v2 v14 (IntKind.i64.wrap (v15 + (1 : Int))) h0_0 h0_1 h0_2 h0_3 h0_4 h0_5 h1_0 h2_0
              (h3_0.set v15.toNat (v14.getD v15.toNat (0 : Int))))
            none)
          none)
        none)
      none)
    (k0 v2 v14 v15 h0_0 h0_1 h0_2 h0_3 h0_4 h0_5 h1_0 h2_0 h3_0)
noncomputable def sha_through_uint64_L3 {ρ : Type} (v2 : List Int) (v14 : List Int) (v15 : Int) (h0_0 : Int) (h0_1 : Int) (h0_2 : List Int) (h0_3 : List Int) (h0_4 : List Int) (h0_5 : List Int) (h1_0 : List Int) (h2_0 : List Int) (h3_0 : List Int) (k0 : (List Int) → (List Int) → Int → Int → Int → (List Int) → (List Int) → (List Int) → (List Int) → (List Int) → (List Int) → (List Int) → Option ρ) : Option ρ :=
  lp (fun (x : (List Int) × (List Int) × Int × Int × Int × (List Int) × (List Int) × (List Int) × (List Int) × (List Int) × (List Int) × (List Int)) (next : ((List Int) × (List Int) × Int × Int × Int × (List Int) × (List Int) × (List Int) × (List Int) × (List Int) × (List Int) × (List Int)) → Option ρ) (ex : (((List Int) × (List Int) × Int × Int × Int × (List Int) × (List Int) × (List Int) × (List Int) × (List Int) × (List Int) × (List Int))) → Option ρ) => sha_through_uint64_r3 x.1 x.2.1 x.2.2.1 x.2.2.2.1 x.2.2.2.2.1 x.2.2.2.2.2.1 x.2.2.2.2.2.2.1 x.2.2.2.2.2.2.2.1 x.2.2.2.2.2.2.2.2.1 x.2.2.2.2.2.2.2.2.2.1 x.2.2.2.2.2.2.2.2.2.2.1 x.2.2.2.2.2.2.2.2.2.2.2 (fun v2 v14 v15 h0_0 h0_1 h0_2 h0_3 h0_4 h0_5 h1_0 h2_0 h3_0 => next (v2, v14, v15, h0_0, h0_1, h0_2, h0_3, h0_4, h0_5, h1_0, h2_0, h3_0)) (fun v2 v14 v15 h0_0 h0_1 h0_2 h0_3 h0_4 h0_5 h1_0 h2_0 h3_0 => ex ((v2, v14, v15, h0_0, h0_1, h0_2, h0_3, h0_4, h0_5, h1_0, h2_0, h3_0)))) (v2, v14, v15, h0_0, h0_1, h0_2, h0_3, h0_4, h0_5, h1_0, h2_0, h3_0) (fun x => k0 x.1 x.2.1 x.2.2.1 x.2.2.2.1 x.2.2.2.2.1 x.2.2.2.2.2.1 x.2.2.2.2.2.2.1 x.2.2.2.2.2.2.2.1 x.2.2.2.2.2.2.2.2.1 x.2.2.2.2.2.2.2.2.2.1 x.2.2.2.2.2.2.2.2.2.2.1 x.2.2.2.2.2.2.2.2.2.2.2)
noncomputable def sha_through_uint64_l3 {ρ : Type} (v2 : List Int) (v14 : List Int) (v15 : Int) (h0_0 : Int) (h0_1 : Int) (h0_2 : List Int) (h0_3 : List Int) (h0_4 : List Int) (h0_5 : List Int) (h1_0 : List Int) (h2_0 : List Int) (h3_0 : List Int) (k0 : (List Int) → (List Int) → Int → Int → Int → (List Int) → (List Int) → (List Int) → (List Int) → (List Int) → (List Int) → (List Int) → Option ρ) : Option ρ := shut (sha_through_uint64_L3 (ρ := ρ)) v2 v14 v15 h0_0 h0_1 h0_2 h0_3 h0_4 h0_5 h1_0 h2_0 h3_0 k0
theorem sha_through_uint64_l3_eq {ρ : Type} (v2 : List Int) (v14 : List Int) (v15 : Int) (h0_0 : Int) (h0_1 : Int) (h0_2 : List Int) (h0_3 : List Int) (h0_4 : List Int) (h0_5 : List Int) (h1_0 : List Int) (h2_0 : List Int) (h3_0 : List Int) (k0 : (List Int) → (List Int) → Int → Int → Int → (List Int) → (List Int) → (List Int) → (List Int) → (List Int) → (List Int) → (List Int) → Option ρ) : sha_through_uint64_l3 v2 v14 v15 h0_0 h0_1 h0_2 h0_3 h0_4 h0_5 h1_0 h2_0 h3_0 k0 = sha_through_uint64_L3 v2 v14 v15 h0_0 h0_1 h0_2 h0_3 h0_4 h0_5 h1_0 h2_0 h3_0 k0 := by unfold sha_through_uint64_l3; rw [shut_eq]
noncomputable def sha_through_uint64_r8 {ρ : Type} (v2 : List Int) (v11 : Int) (h3_0 : List Int) (h2_0 : List Int) (h1_0 : List Int) (h0_0 : Int) (h0_1 : Int) (h0_2 : List Int) (h0_3 : List Int) (h0_4 : List Int) (h0_5 : List Int) (nx : (List Int) → Int → (List Int) → (List Int) → (List Int) → Int → Int → (List Int) → (List Int) → (List Int) → (List Int) → Option ρ) (k0 : (List Int) → Int → (List Int) → (List Int) → (List Int) → Int → Int → (List Int) → (List Int) → (List Int) → (List Int) → Option ρ) : Option ρ :=
  br (decide ((↑v2.length : Int) ≥ v11))
    (br (decide ((0 : Int) ≤ v11))
      (br (decide (v11 ≤ (↑v2.length : Int)))
        (sha_engine_uint64_block h0_0 h0_1 h0_2 h0_3 h0_4 h0_5 h3_0 (List.drop 0 (List.take v11.toNat v2))
          fun (q0 : List Int) =>
          br (decide ((0 : Int) ≤ v11))
            (br (decide (v11 ≤ (↑v2.length : Int)))
              (br (decide ((↑v2.length : Int) ≤ (↑v2.length : Int)))
                (nx (List.drop v11.toNat (List.take (↑v2.length : Int).toNat v2)) v11 q0 h2_0 h1_0 h0_0 h0_1 h0_2 h0_3
                  h0_4 h0_5)
                none)
              none)
            none)
        none)
      none)
    (k0 v2 v11 h3_0 h2_0 h1_0 h0_0 h0_1 h0_2 h0_3 h0_4 h0_5)
noncomputable def sha_through_uint64_L8 {ρ : Type} (v2 : List Int) (v11 : Int) (h3_0 : List Int) (h2_0 : List Int) (h1_0 : List Int) (h0_0 : Int) (h0_1 : Int) (h0_2 : List Int) (h0_3 : List Int) (h0_4 : List Int) (h0_5 : List Int) (k0 : (List Int) → Int → (List Int) → (List Int) → (List Int) → Int → Int → (List Int) → (List Int) → (List Int) → (List Int) → Option ρ) : Option ρ :=
  lp (fun (x : (List Int) × Int × (List Int) × (List Int) × (List Int) × Int × Int × (List Int) × (List Int) × (List Int) × (List Int)) (next : ((List Int) × Int × (List Int) × (List Int) × (List Int) × Int × Int × (List Int) × (List Int) × (List Int) × (List Int)) → Option ρ) (ex : (((List Int) × Int × (List Int) × (List Int) × (List Int) × Int × Int × (List Int) × (List Int) × (List Int) × (List Int))) → Option ρ) => sha_through_uint64_r8 x.1 x.2.1 x.2.2.1 x.2.2.2.1 x.2.2.2.2.1 x.2.2.2.2.2.1 x.2.2.2.2.2.2.1 x.2.2.2.2.2.2.2.1 x.2.2.2.2.2.2.2.2.1 x.2.2.2.2.2.2.2.2.2.1 x.2.2.2.2.2.2.2.2.2.2 (fun v2 v11 h3_0 h2_0 h1_0 h0_0 h0_1 h0_2 h0_3 h0_4 h0_5 => next (v2, v11, h3_0, h2_0, h1_0, h0_0, h0_1, h0_2, h0_3, h0_4, h0_5)) (fun v2 v11 h3_0 h2_0 h1_0 h0_0 h0_1 h0_2 h0_3 h0_4 h0_5 => ex ((v2, v11, h3_0, h2_0, h1_0, h0_0, h0_1, h0_2, h0_3, h0_4, h0_5)))) (v2, v11, h3_0, h2_0, h1_0, h0_0, h0_1, h0_2, h0_3, h0_4, h0_5) (fun x => k0 x.1 x.2.1 x.2.2.1 x.2.2.2.1 x.2.2.2.2.1 x.2.2.2.2.2.1 x.2.2.2.2.2.2.1 x.2.2.2.2.2.2.2.1 x.2.2.2.2.2.2.2.2.1 x.2.2.2.2.2.2.2.2.2.1 x.2.2.2.2.2.2.2.2.2.2)
noncomputable def sha_through_uint64_l8 {ρ : Type} (v2 : List Int) (v11 : Int) (h3_0 : List Int) (h2_0 : List Int) (h1_0 : List Int) (h0_0 : Int) (h0_1 : Int) (h0_2 : List Int) (h0_3 : List Int) (h0_4 : List Int) (h0_5 : List Int) (k0 : (List Int) → Int → (List Int) → (List Int) → (List Int) → Int → Int → (List Int) → (List Int) → (List Int) → (List Int) → Option ρ) : Option ρ := shut (sha_through_uint64_L8 (ρ := ρ)) v2 v11 h3_0 h2_0 h1_0 h0_0 h0_1 h0_2 h0_3 h0_4 h0_5 k0
theorem sha_through_uint64_l8_eq {ρ : Type} (v2 : List Int) (v11 : Int) (h3_0 : List Int) (h2_0 : List Int) (h1_0 : List Int) (h0_0 : Int) (h0_1 : Int) (h0_2 : List Int) (h0_3 : List Int) (h0_4 : List Int) (h0_5 : List Int) (k0 : (List Int) → Int → (List Int) → (List Int) → (List Int) → Int → Int → (List Int) → (List Int) → (List Int) → (List Int) → Option ρ) : sha_through_uint64_l8 v2 v11 h3_0 h2_0 h1_0 h0_0 h0_1 h0_2 h0_3 h0_4 h0_5 k0 = sha_through_uint64_L8 v2 v11 h3_0 h2_0 h1_0 h0_0 h0_1 h0_2 h0_3 h0_4 h0_5 k0 := by unfold sha_through_uint64_l8; rw [shut_eq]
noncomputable def sha_through_uint64_r12 {ρ : Type} (v2 : List Int) (v39 : List Int) (v40 : Int) (h1_0 : List Int) (h2_0 : List Int) (nx : (List Int) → (List Int) → Int → (List Int) → (List Int) → Option ρ) (k0 : (List Int) → (List Int) → Int → (List Int) → (List Int) → Option ρ) : Option ρ :=
  br (decide (v40 < (8 : Int)))
    (br (decide ((0 : Int) ≤ v40))
      (br (decide (v40 < (↑8 : Int)))
        (br (decide ((0 : Int) ≤ v40))
          (br (decide (v40 < (↑8 : Int)))
            (nx v2 v39 (IntKind.i64.wrap (v40 + (1 : Int))) (h1_0.set v40.toNat (v39.getD v40.toNat (0 : Int))) h2_0)
            none)
          none)
        none)
      none)
    (k0 v2 v39 v40 h1_0 h2_0)
noncomputable def sha_through_uint64_L12 {ρ : Type} (v2 : List Int) (v39 : List Int) (v40 : Int) (h1_0 : List Int) (h2_0 : List Int) (k0 : (List Int) → (List Int) → Int → (List Int) → (List Int) → Option ρ) : Option ρ :=
  lp (fun (x : (List Int) × (List Int) × Int × (List Int) × (List Int)) (next : ((List Int) × (List Int) × Int × (List Int) × (List Int)) → Option ρ) (ex : (((List Int) × (List Int) × Int × (List Int) × (List Int))) → Option ρ) => sha_through_uint64_r12 x.1 x.2.1 x.2.2.1 x.2.2.2.1 x.2.2.2.2 (fun v2 v39 v40 h1_0 h2_0 => next (v2, v39, v40, h1_0, h2_0)) (fun v2 v39 v40 h1_0 h2_0 => ex ((v2, v39, v40, h1_0, h2_0)))) (v2, v39, v40, h1_0, h2_0) (fun x => k0 x.1 x.2.1 x.2.2.1 x.2.2.2.1 x.2.2.2.2)
noncomputable def sha_through_uint64_l12 {ρ : Type} (v2 : List Int) (v39 : List Int) (v40 : Int) (h1_0 : List Int) (h2_0 : List Int) (k0 : (List Int) → (List Int) → Int → (List Int) → (List Int) → Option ρ) : Option ρ := shut (sha_through_uint64_L12 (ρ := ρ)) v2 v39 v40 h1_0 h2_0 k0
theorem sha_through_uint64_l12_eq {ρ : Type} (v2 : List Int) (v39 : List Int) (v40 : Int) (h1_0 : List Int) (h2_0 : List Int) (k0 : (List Int) → (List Int) → Int → (List Int) → (List Int) → Option ρ) : sha_through_uint64_l12 v2 v39 v40 h1_0 h2_0 k0 = sha_through_uint64_L12 v2 v39 v40 h1_0 h2_0 k0 := by unfold sha_through_uint64_l12; rw [shut_eq]
noncomputable def sha_through_uint64_raw {ρ : Type} (a0_bits : Int) (a0_rounds : Int) (a0_turns_0 : List Int) (a0_turns_1 : List Int) (a0_turns_2 : List Int) (a0_turns_3 : List Int) (a1 : List Int) (a2 : List Int) (k : (List Int) → (List Int) → Option ρ) : Option ρ :=
  sha_through_uint64_l3 a2 a1 (0 : Int) a0_bits a0_rounds a0_turns_0 a0_turns_1 a0_turns_2 a0_turns_3 a1
    [(0 : Int), (0 : Int), (0 : Int), (0 : Int), (0 : Int), (0 : Int), (0 : Int), (0 : Int)]
    [(0 : Int), (0 : Int), (0 : Int), (0 : Int), (0 : Int), (0 : Int), (0 : Int), (0 : Int)]
    fun (q0 q1 : List Int) (q2 q3 q4 : Int) (q5 q6 q7 q8 q9 q10 q11 : List Int) =>
    sha_through_uint64_l8 q0 (IntKind.i64.wrap (q3 * (2 : Int))) q11 q10 q9 q3 q4 q5 q6 q7 q8
      fun (q12 : List Int) (q13 : Int) (q14 q15 q16 : List Int) (q17 q18 : Int) (q19 q20 q21 q22 : List Int) =>
      sha_through_uint64_l12 q12 q14 (0 : Int) q16 q15 fun (q23 q24 : List Int) (q25 : Int) (q26 q27 : List Int) =>
        k q26 q23
noncomputable def sha_through_uint64 {ρ : Type} (a0_bits : Int) (a0_rounds : Int) (a0_turns_0 : List Int) (a0_turns_1 : List Int) (a0_turns_2 : List Int) (a0_turns_3 : List Int) (a1 : List Int) (a2 : List Int) (k : (List Int) → (List Int) → Option ρ) : Option ρ := shut (sha_through_uint64_raw (ρ := ρ)) a0_bits a0_rounds a0_turns_0 a0_turns_1 a0_turns_2 a0_turns_3 a1 a2 k
theorem sha_through_uint64_eq {ρ : Type} (a0_bits : Int) (a0_rounds : Int) (a0_turns_0 : List Int) (a0_turns_1 : List Int) (a0_turns_2 : List Int) (a0_turns_3 : List Int) (a1 : List Int) (a2 : List Int) (k : (List Int) → (List Int) → Option ρ) : sha_through_uint64 a0_bits a0_rounds a0_turns_0 a0_turns_1 a0_turns_2 a0_turns_3 a1 a2 k = sha_through_uint64_raw a0_bits a0_rounds a0_turns_0 a0_turns_1 a0_turns_2 a0_turns_3 a1 a2 k := by unfold sha_through_uint64; rw [shut_eq]
end P
end

section
open Go Go.Abs
set_option linter.unusedVariables false
namespace P
noncomputable def sha_great_raw {ρ : Type}  (k : Int → Int → (List Int) → (List Int) → (List Int) → (List Int) → Option ρ) : Option ρ :=
  k (64 : Int) (80 : Int) [(1 : Int), (8 : Int), (7 : Int)] [(19 : Int), (61 : Int), (6 : Int)]
    [(28 : Int), (34 : Int), (39 : Int)] [(14 : Int), (18 : Int), (41 : Int)]
noncomputable def sha_great {ρ : Type}  (k : Int → Int → (List Int) → (List Int) → (List Int) → (List Int) → Option ρ) : Option ρ := shut (sha_great_raw (ρ := ρ))  k
theorem sha_great_eq {ρ : Type}  (k : Int → Int → (List Int) → (List Int) → (List Int) → (List Int) → Option ρ) : sha_great  k = sha_great_raw  k := by unfold sha_great; rw [shut_eq]
end P
end

section
open Go Go.Abs
set_option linter.unusedVariables false
namespace P
noncomputable def slices_Clone_byte {ρ : Type} (a0 : List Int) (k : (List Int) → Option ρ) : Option ρ :=
  br (decide (a0.length * 1 ≤ 140737488355328)) (k a0) none
end P
end

section
open Go Go.Abs
set_option linter.unusedVariables false
namespace P
noncomputable def sha_Add_raw {ρ : Type} (a0_Kind : Int) (a0_Words : List Int) (a0_Tail : List Int) (a0_Size : Int) (a1 : List Int) (k : Int → (List Int) → (List Int) → Int → Option ρ) : Option ρ :=
  slices_Concat_byte [a0_Tail, a1] fun (q0 : List Int) =>
    br (a0_Kind == (1 : Int))
      (sha_small fun (q1 q2 : Int) (q3 q4 q5 q6 : List Int) =>
        sha_through_uint32 q1 q2 q3 q4 q5 q6 a0_Words q0 fun (q7 q8 : List Int) =>
          slices_Clone_byte q8 fun (q9 : List Int) =>
            k a0_Kind q7 q9 (IntKind.u64.wrap (a0_Size + IntKind.u64.wrap (↑a1.length : Int))))
      (sha_great fun (q10 q11 : Int) (q12 q13 q14 q15 : List Int) =>
        sha_through_uint64 q10 q11 q12 q13 q14 q15 a0_Words q0 fun (q16 q17 : List Int) =>
          slices_Clone_byte q17 fun (q18 : List Int) =>
            k a0_Kind q16 q18 (IntKind.u64.wrap (a0_Size + IntKind.u64.wrap (↑a1.length : Int))))
noncomputable def sha_Add {ρ : Type} (a0_Kind : Int) (a0_Words : List Int) (a0_Tail : List Int) (a0_Size : Int) (a1 : List Int) (k : Int → (List Int) → (List Int) → Int → Option ρ) : Option ρ := shut (sha_Add_raw (ρ := ρ)) a0_Kind a0_Words a0_Tail a0_Size a1 k
theorem sha_Add_eq {ρ : Type} (a0_Kind : Int) (a0_Words : List Int) (a0_Tail : List Int) (a0_Size : Int) (a1 : List Int) (k : Int → (List Int) → (List Int) → Int → Option ρ) : sha_Add a0_Kind a0_Words a0_Tail a0_Size a1 k = sha_Add_raw a0_Kind a0_Words a0_Tail a0_Size a1 k := by unfold sha_Add; rw [shut_eq]
end P
end

section
open Go Go.Abs
set_option linter.unusedVariables false
namespace P
noncomputable def sha_blockSize_raw {ρ : Type} (a0 : Int) (k : Int → Option ρ) : Option ρ :=
  br (a0 == (1 : Int)) (k (64 : Int)) (k (128 : Int))
noncomputable def sha_blockSize {ρ : Type} (a0 : Int) (k : Int → Option ρ) : Option ρ := shut (sha_blockSize_raw (ρ := ρ)) a0 k
theorem sha_blockSize_eq {ρ : Type} (a0 : Int) (k : Int → Option ρ) : sha_blockSize a0 k = sha_blockSize_raw a0 k := by unfold sha_blockSize; rw [shut_eq]
end P
end

section
open Go Go.Abs
set_option linter.unusedVariables false
namespace P
noncomputable def sha_End_r10 {ρ : Type} (v3 : Int) (v45 : List Int) (v46 : Int) (h40 : List Int) (h0_0 : Int) (h0_1 : List Int) (h0_3 : Int) (h5 : List Int) (nx : Int → (List Int) → Int → (List Int) → Int → (List Int) → Int → (List Int) → Option ρ) (k0 : Int → (List Int) → Int → (List Int) → Int → (List Int) → Int → (List Int) → Option ρ) : Option ρ :=
  br (decide (v46 < (8 : Int)))
    (br (decide ((0 : Int) ≤ v46))
      (br (decide (v46 < (↑8 : Int)))
        (bits_Be (v45.getD v46.toNat (0 : Int)) (IntKind.i64.wrap (v3.tdiv (16 : Int))) fun (q0 : List Int) =>
          br
            (decide
              ((h40.length + q0.length) * 1 ≤
                140737488355328))
            (nx v3 v45 (IntKind.i64.wrap (v46 + (1 : Int))) (h40 ++ q0) h0_0 h0_1 h0_3 h5) none)
        none)
      none)
    (k0 v3 v45 v46 h40 h0_0 h0_1 h0_3 h5)
noncomputable def sha_End_L10 {ρ : Type} (v3 : Int) (v45 : List Int) (v46 : Int) (h40 : List Int) (h0_0 : Int) (h0_1 : List Int) (h0_3 : Int) (h5 : List Int) (k0 : Int → (List Int) → Int → (List Int) → Int → (List Int) → Int → (List Int) → Option ρ) : Option ρ :=
  lp (fun (x : Int × (List Int) × Int × (List Int) × Int × (List Int) × Int × (List Int)) (next : (Int × (List Int) × Int × (List Int) × Int × (List Int) × Int × (List Int)) → Option ρ) (ex : ((Int × (List Int) × Int × (List Int) × Int × (List Int) × Int × (List Int))) → Option ρ) => sha_End_r10 x.1 x.2.1 x.2.2.1 x.2.2.2.1 x.2.2.2.2.1 x.2.2.2.2.2.1 x.2.2.2.2.2.2.1 x.2.2.2.2.2.2.2 (fun v3 v45 v46 h40 h0_0 h0_1 h0_3 h5 => next (v3, v45, v46, h40, h0_0, h0_1, h0_3, h5)) (fun v3 v45 v46 h40 h0_0 h0_1 h0_3 h5 => ex ((v3, v45, v46, h40, h0_0, h0_1, h0_3, h5)))) (v3, v45, v46, h40, h0_0, h0_1, h0_3, h5) (fun x => k0 x.1 x.2.1 x.2.2.1 x.2.2.2.1 x.2.2.2.2.1 x.2.2.2.2.2.1 x.2.2.2.2.2.2.1 x.2.2.2.2.2.2.2)
noncomputable def sha_End_l10 {ρ : Type} (v3 : Int) (v45 : List Int) (v46 : Int) (h40 : List Int) (h0_0 : Int) (h0_1 : List Int) (h0_3 : Int) (h5 : List Int) (k0 : Int → (List Int) → Int → (List Int) → Int → (List Int) → Int → (List Int) → Option ρ) : Option ρ := shut (sha_End_L10 (ρ := ρ)) v3 v45 v46 h40 h0_0 h0_1 h0_3 h5 k0
theorem sha_End_l10_eq {ρ : Type} (v3 : Int) (v45 : List Int) (v46 : Int) (h40 : List Int) (h0_0 : Int) (h0_1 : List Int) (h0_3 : Int) (h5 : List Int) (k0 : Int → (List Int) → Int → (List Int) → Int → (List Int) → Int → (List Int) → Option ρ) : sha_End_l10 v3 v45 v46 h40 h0_0 h0_1 h0_3 h5 k0 = sha_End_L10 v3 v45 v46 h40 h0_0 h0_1 h0_3 h5 k0 := by unfold sha_End_l10; rw [shut_eq]
noncomputable def sha_End_raw {ρ : Type} (a0_Kind : Int) (a0_Words : List Int) (a0_Tail : List Int) (a0_Size : Int) (k : (List Int) → Option ρ) : Option ρ :=
  sha_blockSize a0_Kind fun (q0 : Int) =>
    br (decide ((1 : Int) ≤ q0))
      (br (decide (q0 * (↑1 : Int) ≤ (↑140737488355328 : Int)))
        (br (decide (q0 = (0 : Int))) none
          (br
            (decide
              ((0 : Int) ≤
                IntKind.i64.wrap
                  (IntKind.i64.wrap
                      ((IntKind.i64.wrap
                              (IntKind.i64.wrap
                                  (IntKind.i64.wrap (IntKind.i64.wrap ((2 : Int) * q0) - (1 : Int)) -
                                    IntKind.i64.wrap (q0.tdiv (8 : Int))) -
                                (↑a0_Tail.length : Int))).tmod
                          q0 +
                        IntKind.i64.wrap (q0.tdiv (8 : Int))) -
                    (8 : Int))))
            (br
              (decide
                ((1 +
                      (IntKind.i64.wrap
                          (IntKind.i64.wrap
                              ((IntKind.i64.wrap
                                      (IntKind.i64.wrap
                                          (IntKind.i64.wrap (IntKind.i64.wrap ((2 : Int) * q0) - (1 : Int)) -
                                            IntKind.i64.wrap (q0.tdiv (8 : Int))) -
                                        (↑a0_Tail.length : Int))).tmod
                                  q0 +
                                IntKind.i64.wrap (q0.tdiv (8 : Int))) -
                            (8 : Int))).toNat) *
                    1 ≤
                  140737488355328))
              (bits_Be (IntKind.u64.wrap (a0_Size * (2 : Int) ^ 3)) (8 : Int) fun (q1 : List Int) =>
                br
                  (decide
                    ((((List.replicate
                                    (IntKind.i64.wrap
                                        (IntKind.i64.wrap
                                            ((IntKind.i64.wrap
                                                    (IntKind.i64.wrap
                                                        (IntKind.i64.wrap
                                                            (IntKind.i64.wrap ((2 : Int) * q0) - (1 : Int)) -
                                                          IntKind.i64.wrap (q0.tdiv (8 : Int))) -
                                                      (↑a0_Tail.length : Int))).tmod
                                                q0 +
                                              IntKind.i64.wrap (q0.tdiv (8 : Int))) -
                                          (8 : Int))).toNat
                                    (0 : Int)).length.add
                              0).succ +
                          q1.length) *
                        1 ≤
                      140737488355328))
                  (sha_Add a0_Kind a0_Words a0_Tail a0_Size
                    ((List.replicate 1 (0 : Int)).set 0 (128 : Int) ++
                        List.replicate
                          (IntKind.i64.wrap
                              (IntKind.i64.wrap
                                  ((IntKind.i64.wrap
                                          (IntKind.i64.wrap
                                              (IntKind.i64.wrap (IntKind.i64.wrap ((2 : Int) * q0) - (1 : Int)) -
                                                IntKind.i64.wrap (q0.tdiv (8 : Int))) -
                                            (↑a0_Tail.length : Int))).tmod
                                      q0 +
                                    IntKind.i64.wrap (q0.tdiv (8 : Int))) -
                                (8 : Int))).toNat
                          (0 : Int) ++
                      q1)
                    fun (q2 : Int) (q3 q4 : List Int) (q5 : Int) =>
                    sha_End_l10 q0 q3 (0 : Int) [] q2 q3 q5 q4
                      fun (q6 : Int) (q7 : List Int) (q8 : Int) (q9 : List Int) (q10 : Int) (q11 : List Int) (q12 : Int)
                        (q13 : List Int) =>
                      br (q10 == (2 : Int))
                        (br (decide ((48 : Int) ≤ (↑q9.length : Int))) (k (List.take ((48 : Int) - (0 : Int)).toNat q9))
                          none)
                        (k q9))
                  none)
              none)
            none))
        none)
      none
noncomputable def sha_End {ρ : Type} (a0_Kind : Int) (a0_Words : List Int) (a0_Tail : List Int) (a0_Size : Int) (k : (List Int) → Option ρ) : Option ρ := shut (sha_End_raw (ρ := ρ)) a0_Kind a0_Words a0_Tail a0_Size k
theorem sha_End_eq {ρ : Type} (a0_Kind : Int) (a0_Words : List Int) (a0_Tail : List Int) (a0_Size : Int) (k : (List Int) → Option ρ) : sha_End a0_Kind a0_Words a0_Tail a0_Size k = sha_End_raw a0_Kind a0_Words a0_Tail a0_Size k := by unfold sha_End; rw [shut_eq]
end P
end

section
open Go Go.Abs
set_option linter.unusedVariables false
namespace P
noncomputable def sha_begin_raw {ρ : Type} (a0 : Int) (k : (List Int) → Bool → Option ρ) : Option ρ :=
  br (a0 == (1 : Int))
    (k
      [(1779033703 : Int), (3144134277 : Int), (1013904242 : Int), (2773480762 : Int), (1359893119 : Int),
        (2600822924 : Int), (528734635 : Int), (1541459225 : Int)]
      true)
    (br (a0 == (2 : Int))
      (k
        [(14680500436340154072 : Int), (7105036623409894663 : Int), (10473403895298186519 : Int),
          (1526699215303891257 : Int), (7436329637833083697 : Int), (10282925794625328401 : Int),
          (15784041429090275239 : Int), (5167115440072839076 : Int)]
        true)
      (br (a0 == (3 : Int))
        (k
          [(7640891576956012808 : Int), (13503953896175478587 : Int), (4354685564936845355 : Int),
            (11912009170470909681 : Int), (5840696475078001361 : Int), (11170449401992604703 : Int),
            (2270897969802886507 : Int), (6620516959819538809 : Int)]
          true)
        (k [(0 : Int), (0 : Int), (0 : Int), (0 : Int), (0 : Int), (0 : Int), (0 : Int), (0 : Int)] false)))
noncomputable def sha_begin {ρ : Type} (a0 : Int) (k : (List Int) → Bool → Option ρ) : Option ρ := shut (sha_begin_raw (ρ := ρ)) a0 k
theorem sha_begin_eq {ρ : Type} (a0 : Int) (k : (List Int) → Bool → Option ρ) : sha_begin a0 k = sha_begin_raw a0 k := by unfold sha_begin; rw [shut_eq]
end P
end

section
open Go Go.Abs
set_option linter.unusedVariables false
namespace P
noncomputable def sha_New_raw {ρ : Type} (a0 : Int) (k : Int → (List Int) → (List Int) → Int → Int → Option ρ) : Option ρ :=
  sha_begin a0 fun (q0 : List Int) (q1 : Bool) =>
    br (!q1)
      (k (0 : Int) [(0 : Int), (0 : Int), (0 : Int), (0 : Int), (0 : Int), (0 : Int), (0 : Int), (0 : Int)] [] (0 : Int)
        (9 : Int))
      (k a0 q0 [] (0 : Int) (0 : Int))
noncomputable def sha_New {ρ : Type} (a0 : Int) (k : Int → (List Int) → (List Int) → Int → Int → Option ρ) : Option ρ := shut (sha_New_raw (ρ := ρ)) a0 k
theorem sha_New_eq {ρ : Type} (a0 : Int) (k : Int → (List Int) → (List Int) → Int → Int → Option ρ) : sha_New a0 k = sha_New_raw a0 k := by unfold sha_New; rw [shut_eq]
end P
end

section
open Go Go.Abs
set_option linter.unusedVariables false
namespace P
noncomputable def bits_Join_raw {ρ : Type} (a0 : List (List Int)) (k : (List Int) → Option ρ) : Option ρ :=
  slices_Concat_byte a0 fun (q0 : List Int) => k q0
noncomputable def bits_Join {ρ : Type} (a0 : List (List Int)) (k : (List Int) → Option ρ) : Option ρ := shut (bits_Join_raw (ρ := ρ)) a0 k
theorem bits_Join_eq {ρ : Type} (a0 : List (List Int)) (k : (List Int) → Option ρ) : bits_Join a0 k = bits_Join_raw a0 k := by unfold bits_Join; rw [shut_eq]
end P
end

section
open Go Go.Abs
set_option linter.unusedVariables false
namespace P
noncomputable def lmots_leaf_sum_raw {ρ : Type} (a0_w : Int) (a0_id : List Int) (a0_q : Int) (a0_kind_digits : Int) (a0_kind_shift : Int) (a0_kind_code : Int) (a1 : Int) (a2 : List (List Int)) (k : (List Int) → Option ρ) : Option ρ :=
  sha_New (1 : Int) fun (q0 : Int) (q1 q2 : List Int) (q3 q4 : Int) =>
    bits_Be (IntKind.u64.wrap a0_q) (4 : Int) fun (q5 : List Int) =>
      bits_Be a1 (2 : Int) fun (q6 : List Int) =>
        bits_Join [a0_id, q5, q6] fun (q7 : List Int) =>
          sha_Add q0 q1 q2 q3 q7 fun (q8 : Int) (q9 q10 : List Int) (q11 : Int) =>
            bits_Join a2 fun (q12 : List Int) =>
              sha_Add q8 q9 q10 q11 q12 fun (q13 : Int) (q14 q15 : List Int) (q16 : Int) =>
                sha_End q13 q14 q15 q16 fun (q17 : List Int) => k q17
noncomputable def lmots_leaf_sum {ρ : Type} (a0_w : Int) (a0_id : List Int) (a0_q : Int) (a0_kind_digits : Int) (a0_kind_shift : Int) (a0_kind_code : Int) (a1 : Int) (a2 : List (List Int)) (k : (List Int) → Option ρ) : Option ρ := shut (lmots_leaf_sum_raw (ρ := ρ)) a0_w a0_id a0_q a0_kind_digits a0_kind_shift a0_kind_code a1 a2 k
theorem lmots_leaf_sum_eq {ρ : Type} (a0_w : Int) (a0_id : List Int) (a0_q : Int) (a0_kind_digits : Int) (a0_kind_shift : Int) (a0_kind_code : Int) (a1 : Int) (a2 : List (List Int)) (k : (List Int) → Option ρ) : lmots_leaf_sum a0_w a0_id a0_q a0_kind_digits a0_kind_shift a0_kind_code a1 a2 k = lmots_leaf_sum_raw a0_w a0_id a0_q a0_kind_digits a0_kind_shift a0_kind_code a1 a2 k := by unfold lmots_leaf_sum; rw [shut_eq]
end P
end

section
open Go Go.Abs
set_option linter.unusedVariables false
namespace P
noncomputable def lmots_leaf_along_r2 {ρ : Type} (v1 : Int) (v2 : Int) (v4 : List Int) (v12 : Int) (v13 : Int) (h0_0 : Int) (h0_1 : List Int) (h0_2 : Int) (h0_3 : Int) (h0_4 : Int) (h0_5 : Int) (nx : Int → Int → (List Int) → Int → Int → Int → (List Int) → Int → Int → Int → Int → Option ρ) (k0 : Int → Int → (List Int) → Int → Int → Int → (List Int) → Int → Int → Int → Int → Option ρ) : Option ρ :=
  br (decide (v13 < v12))
    (lmots_leaf_sum h0_0 h0_1 h0_2 h0_3 h0_4 h0_5 (IntKind.u64.wrap v1)
      [[IntKind.u8.wrap (IntKind.u32.wrap (v2 + v13))], v4] fun (q0 : List Int) =>
      nx v1 v2 q0 v12 (IntKind.u32.wrap (v13 + (1 : Int))) h0_0 h0_1 h0_2 h0_3 h0_4 h0_5)
    (k0 v1 v2 v4 v12 v13 h0_0 h0_1 h0_2 h0_3 h0_4 h0_5)
noncomputable def lmots_leaf_along_L2 {ρ : Type} (v1 : Int) (v2 : Int) (v4 : List Int) (v12 : Int) (v13 : Int) (h0_0 : Int) (h0_1 : List Int) (h0_2 : Int) (h0_3 : Int) (h0_4 : Int) (h0_5 : Int) (k0 : Int → Int → (List Int) → Int → Int → Int → (List Int) → Int → Int → Int → Int → Option ρ) : Option ρ :=
  lp (fun (x : Int × Int × (List Int) × Int × Int × Int × (List Int) × Int × Int × Int × Int) (next : (Int × Int × (List Int) × Int × Int × Int × (List Int) × Int × Int × Int × Int) → Option ρ) (ex : ((Int × Int × (List Int) × Int × Int × Int × (List Int) × Int × Int × Int × Int)) → Option ρ) => lmots_leaf_along_r2 x.1 x.2.1 x.2.2.1 x.2.2.2.1 x.2.2.2.2.1 x.2.2.2.2.2.1 x.2.2.2.2.2.2.1 x.2.2.2.2.2.2.2.1 x.2.2.2.2.2.2.2.2.1 x.2.2.2.2.2.2.2.2.2.1 x.2.2.2.2.2.2.2.2.2.2 (fun v1 v2 v4 v12 v13 h0_0 h0_1 h0_2 h0_3 h0_4 h0_5 => next (v1, v2, v4, v12, v13, h0_0, h0_1, h0_2, h0_3, h0_4, h0_5)) (fun v1 v2 v4 v12 v13 h0_0 h0_1 h0_2 h0_3 h0_4 h0_5 => ex ((v1, v2, v4, v12, v13, h0_0, h0_1, h0_2, h0_3, h0_4, h0_5)))) (v1, v2, v4, v12, v13, h0_0, h0_1, h0_2, h0_3, h0_4, h0_5) (fun x => k0 x.1 x.2.1 x.2.2.1 x.2.2.2.1 x.2.2.2.2.1 x.2.2.2.2.2.1 x.2.2.2.2.2.2.1 x.2.2.2.2.2.2.2.1 x.2.2.2.2.2.2.2.2.1 x.2.2.2.2.2.2.2.2.2.1 x.2.2.2.2.2.2.2.2.2.2)
noncomputable def lmots_leaf_along_l2 {ρ : Type} (v1 : Int) (v2 : Int) (v4 : List Int) (v12 : Int) (v13 : Int) (h0_0 : Int) (h0_1 : List Int) (h0_2 : Int) (h0_3 : Int) (h0_4 : Int) (h0_5 : Int) (k0 : Int → Int → (List Int) → Int → Int → Int → (List Int) → Int → Int → Int → Int → Option ρ) : Option ρ := shut (lmots_leaf_along_L2 (ρ := ρ)) v1 v2 v4 v12 v13 h0_0 h0_1 h0_2 h0_3 h0_4 h0_5 k0
theorem lmots_leaf_along_l2_eq {ρ : Type} (v1 : Int) (v2 : Int) (v4 : List Int) (v12 : Int) (v13 : Int) (h0_0 : Int) (h0_1 : List Int) (h0_2 : Int) (h0_3 : Int) (h0_4 : Int) (h0_5 : Int) (k0 : Int → Int → (List Int) → Int → Int → Int → (List Int) → Int → Int → Int → Int → Option ρ) : lmots_leaf_along_l2 v1 v2 v4 v12 v13 h0_0 h0_1 h0_2 h0_3 h0_4 h0_5 k0 = lmots_leaf_along_L2 v1 v2 v4 v12 v13 h0_0 h0_1 h0_2 h0_3 h0_4 h0_5 k0 := by unfold lmots_leaf_along_l2; rw [shut_eq]
noncomputable def lmots_leaf_along_raw {ρ : Type} (a0_w : Int) (a0_id : List Int) (a0_q : Int) (a0_kind_digits : Int) (a0_kind_shift : Int) (a0_kind_code : Int) (a1 : Int) (a2 : Int) (a3 : Int) (a4 : List Int) (k : (List Int) → Option ρ) : Option ρ :=
  lmots_leaf_along_l2 a1 a2 a4 a3 (0 : Int) a0_w a0_id a0_q a0_kind_digits a0_kind_shift a0_kind_code
    fun (q0 q1 : Int) (q2 : List Int) (q3 q4 q5 : Int) (q6 : List Int) (q7 q8 q9 q10 : Int) => k q2
noncomputable def lmots_leaf_along {ρ : Type} (a0_w : Int) (a0_id : List Int) (a0_q : Int) (a0_kind_digits : Int) (a0_kind_shift : Int) (a0_kind_code : Int) (a1 : Int) (a2 : Int) (a3 : Int) (a4 : List Int) (k : (List Int) → Option ρ) : Option ρ := shut (lmots_leaf_along_raw (ρ := ρ)) a0_w a0_id a0_q a0_kind_digits a0_kind_shift a0_kind_code a1 a2 a3 a4 k
theorem lmots_leaf_along_eq {ρ : Type} (a0_w : Int) (a0_id : List Int) (a0_q : Int) (a0_kind_digits : Int) (a0_kind_shift : Int) (a0_kind_code : Int) (a1 : Int) (a2 : Int) (a3 : Int) (a4 : List Int) (k : (List Int) → Option ρ) : lmots_leaf_along a0_w a0_id a0_q a0_kind_digits a0_kind_shift a0_kind_code a1 a2 a3 a4 k = lmots_leaf_along_raw a0_w a0_id a0_q a0_kind_digits a0_kind_shift a0_kind_code a1 a2 a3 a4 k := by unfold lmots_leaf_along; rw [shut_eq]
end P
end

section
open Go Go.Abs
set_option linter.unusedVariables false
namespace P
noncomputable def lmots_leaf_steps_raw {ρ : Type} (a0_w : Int) (a0_id : List Int) (a0_q : Int) (a0_kind_digits : Int) (a0_kind_shift : Int) (a0_kind_code : Int) (k : Int → Option ρ) : Option ρ :=
  br (decide (a0_w < (0 : Int))) none
    (k (IntKind.u32.wrap (IntKind.u32.wrap ((1 : Int) * (2 : Int) ^ min a0_w.toNat 32) - (1 : Int))))
noncomputable def lmots_leaf_steps {ρ : Type} (a0_w : Int) (a0_id : List Int) (a0_q : Int) (a0_kind_digits : Int) (a0_kind_shift : Int) (a0_kind_code : Int) (k : Int → Option ρ) : Option ρ := shut (lmots_leaf_steps_raw (ρ := ρ)) a0_w a0_id a0_q a0_kind_digits a0_kind_shift a0_kind_code k
theorem lmots_leaf_steps_eq {ρ : Type} (a0_w : Int) (a0_id : List Int) (a0_q : Int) (a0_kind_digits : Int) (a0_kind_shift : Int) (a0_kind_code : Int) (k : Int → Option ρ) : lmots_leaf_steps a0_w a0_id a0_q a0_kind_digits a0_kind_shift a0_kind_code k = lmots_leaf_steps_raw a0_w a0_id a0_q a0_kind_digits a0_kind_shift a0_kind_code k := by unfold lmots_leaf_steps; rw [shut_eq]
end P
end

section
open Go Go.Abs
set_option linter.unusedVariables false
namespace P
noncomputable def lmots_leaf_part_raw {ρ : Type} (a0_w : Int) (a0_id : List Int) (a0_q : Int) (a0_kind_digits : Int) (a0_kind_shift : Int) (a0_kind_code : Int) (a1 : Int) (a2 : List Int) (k : (List Int) → Option ρ) : Option ρ :=
  lmots_leaf_sum a0_w a0_id a0_q a0_kind_digits a0_kind_shift a0_kind_code a1 [[(255 : Int)], a2] fun (q0 : List Int) =>
    k q0
noncomputable def lmots_leaf_part {ρ : Type} (a0_w : Int) (a0_id : List Int) (a0_q : Int) (a0_kind_digits : Int) (a0_kind_shift : Int) (a0_kind_code : Int) (a1 : Int) (a2 : List Int) (k : (List Int) → Option ρ) : Option ρ := shut (lmots_leaf_part_raw (ρ := ρ)) a0_w a0_id a0_q a0_kind_digits a0_kind_shift a0_kind_code a1 a2 k
theorem lmots_leaf_part_eq {ρ : Type} (a0_w : Int) (a0_id : List Int) (a0_q : Int) (a0_kind_digits : Int) (a0_kind_shift : Int) (a0_kind_code : Int) (a1 : Int) (a2 : List Int) (k : (List Int) → Option ρ) : lmots_leaf_part a0_w a0_id a0_q a0_kind_digits a0_kind_shift a0_kind_code a1 a2 k = lmots_leaf_part_raw a0_w a0_id a0_q a0_kind_digits a0_kind_shift a0_kind_code a1 a2 k := by unfold lmots_leaf_part; rw [shut_eq]
end P
end

section
open Go Go.Abs
set_option linter.unusedVariables false
namespace P
noncomputable def lmots_Public_r6 {ρ : Type} (v3 : List Int) (v27 : Int) (v28 : Int) (h1 : List Int) (h0_0 : Int) (h0_1 : List Int) (h0_2 : Int) (h0_3 : Int) (h0_4 : Int) (h0_5 : Int) (nx : (List Int) → Int → Int → (List Int) → Int → (List Int) → Int → Int → Int → Int → Option ρ) (k0 : (List Int) → Int → Int → (List Int) → Int → (List Int) → Int → Int → Int → Int → Option ρ) : Option ρ :=
  br (decide (v28 < v27))
    (lmots_leaf_steps h0_0 h0_1 h0_2 h0_3 h0_4 h0_5 fun (q0 : Int) =>
      lmots_leaf_part h0_0 h0_1 h0_2 h0_3 h0_4 h0_5 (IntKind.u64.wrap v28) v3 fun (q1 : List Int) =>
        lmots_leaf_along h0_0 h0_1 h0_2 h0_3 h0_4 h0_5 v28 (0 : Int) q0 q1 fun (q2 : List Int) =>
          br
            (decide
              ((h1.length + q2.length) * 1 ≤
                140737488355328))
            (nx v3 v27 (IntKind.i64.wrap (v28 + (1 : Int))) (h1 ++ q2) h0_0 h0_1 h0_2 h0_3 h0_4 h0_5) none)
    (k0 v3 v27 v28 h1 h0_0 h0_1 h0_2 h0_3 h0_4 h0_5)
noncomputable def lmots_Public_L6 {ρ : Type} (v3 : List Int) (v27 : Int) (v28 : Int) (h1 : List Int) (h0_0 : Int) (h0_1 : List Int) (h0_2 : Int) (h0_3 : Int) (h0_4 : Int) (h0_5 : Int) (k0 : (List Int) → Int → Int → (List Int) → Int → (List Int) → Int → Int → Int → Int → Option ρ) : Option ρ :=
  lp (fun (x : (List Int) × Int × Int × (List Int) × Int × (List Int) × Int × Int × Int × Int) (next : ((List Int) × Int × Int × (List Int) × Int × (List Int) × Int × Int × Int × Int) → Option ρ) (ex : (((List Int) × Int × Int × (List Int) × Int × (List Int) × Int × Int × Int × Int)) → Option ρ) => lmots_Public_r6 x.1 x.2.1 x.2.2.1 x.2.2.2.1 x.2.2.2.2.1 x.2.2.2.2.2.1 x.2.2.2.2.2.2.1 x.2.2.2.2.2.2.2.1 x.2.2.2.2.2.2.2.2.1 x.2.2.2.2.2.2.2.2.2 (fun v3 v27 v28 h1 h0_0 h0_1 h0_2 h0_3 h0_4 h0_5 => next (v3, v27, v28, h1, h0_0, h0_1, h0_2, h0_3, h0_4, h0_5)) (fun v3 v27 v28 h1 h0_0 h0_1 h0_2 h0_3 h0_4 h0_5 => ex ((v3, v27, v28, h1, h0_0, h0_1, h0_2, h0_3, h0_4, h0_5)))) (v3, v27, v28, h1, h0_0, h0_1, h0_2, h0_3, h0_4, h0_5) (fun x => k0 x.1 x.2.1 x.2.2.1 x.2.2.2.1 x.2.2.2.2.1 x.2.2.2.2.2.1 x.2.2.2.2.2.2.1 x.2.2.2.2.2.2.2.1 x.2.2.2.2.2.2.2.2.1 x.2.2.2.2.2.2.2.2.2)
noncomputable def lmots_Public_l6 {ρ : Type} (v3 : List Int) (v27 : Int) (v28 : Int) (h1 : List Int) (h0_0 : Int) (h0_1 : List Int) (h0_2 : Int) (h0_3 : Int) (h0_4 : Int) (h0_5 : Int) (k0 : (List Int) → Int → Int → (List Int) → Int → (List Int) → Int → Int → Int → Int → Option ρ) : Option ρ := shut (lmots_Public_L6 (ρ := ρ)) v3 v27 v28 h1 h0_0 h0_1 h0_2 h0_3 h0_4 h0_5 k0
theorem lmots_Public_l6_eq {ρ : Type} (v3 : List Int) (v27 : Int) (v28 : Int) (h1 : List Int) (h0_0 : Int) (h0_1 : List Int) (h0_2 : Int) (h0_3 : Int) (h0_4 : Int) (h0_5 : Int) (k0 : (List Int) → Int → Int → (List Int) → Int → (List Int) → Int → Int → Int → Int → Option ρ) : lmots_Public_l6 v3 v27 v28 h1 h0_0 h0_1 h0_2 h0_3 h0_4 h0_5 k0 = lmots_Public_L6 v3 v27 v28 h1 h0_0 h0_1 h0_2 h0_3 h0_4 h0_5 k0 := by unfold lmots_Public_l6; rw [shut_eq]
noncomputable def lmots_Public_raw {ρ : Type} (a0 : Int) (a1 : List Int) (a2 : Int) (a3 : List Int) (k : (List Int) → Int → Option ρ) : Option ρ :=
  lmots_seeded a0 a1 a2 a3 fun (q0 : Int) (q1 : List Int) (q2 q3 q4 q5 q6 : Int) =>
    br (q6 != (0 : Int)) (k [] q6)
      (lmots_Public_l6 a3 q3 (0 : Int) [] q0 q1 q2 q3 q4 q5
        fun (q7 : List Int) (q8 q9 : Int) (q10 : List Int) (q11 : Int) (q12 : List Int) (q13 q14 q15 q16 : Int) =>
        lmots_leaf_sum q11 q12 q13 q14 q15 q16 (32896 : Int) [q10] fun (q17 : List Int) => k q17 (0 : Int))
noncomputable def lmots_Public {ρ : Type} (a0 : Int) (a1 : List Int) (a2 : Int) (a3 : List Int) (k : (List Int) → Int → Option ρ) : Option ρ := shut (lmots_Public_raw (ρ := ρ)) a0 a1 a2 a3 k
theorem lmots_Public_eq {ρ : Type} (a0 : Int) (a1 : List Int) (a2 : Int) (a3 : List Int) (k : (List Int) → Int → Option ρ) : lmots_Public a0 a1 a2 a3 k = lmots_Public_raw a0 a1 a2 a3 k := by unfold lmots_Public; rw [shut_eq]
end P
end

section
open Go Go.Abs
set_option linter.unusedVariables false
namespace P
noncomputable def R14_Kind_raw {ρ : Type} (a0 : Int) (k : Int → Int → Int → Option ρ) : Option ρ :=
  br (a0 == (1 : Int)) (k (265 : Int) (7 : Int) (1 : Int))
    (br (a0 == (2 : Int)) (k (133 : Int) (6 : Int) (2 : Int))
      (br (a0 == (4 : Int)) (k (67 : Int) (4 : Int) (3 : Int))
        (br (a0 == (8 : Int)) (k (34 : Int) (0 : Int) (4 : Int)) (k (0 : Int) (0 : Int) (0 : Int)))))
noncomputable def R14_Kind {ρ : Type} (a0 : Int) (k : Int → Int → Int → Option ρ) : Option ρ := shut (R14_Kind_raw (ρ := ρ)) a0 k
theorem R14_Kind_eq {ρ : Type} (a0 : Int) (k : Int → Int → Int → Option ρ) : R14_Kind a0 k = R14_Kind_raw a0 k := by unfold R14_Kind; rw [shut_eq]
end P
end

section
open Go Go.Abs
set_option linter.unusedVariables false
namespace P
noncomputable def R14_wrong_raw {ρ : Type} (a0 : Int) (a1 : List Int) (a2 : List Int) (k : Int → Option ρ) : Option ρ :=
  R14_Kind a0 fun (q0 q1 q2 : Int) =>
    br (q0 == (0 : Int)) (k (9 : Int))
      (br ((↑a1.length : Int) != (16 : Int)) (k (14 : Int))
        (br ((↑a2.length : Int) != (32 : Int)) (k (14 : Int)) (k (0 : Int))))
noncomputable def R14_wrong {ρ : Type} (a0 : Int) (a1 : List Int) (a2 : List Int) (k : Int → Option ρ) : Option ρ := shut (R14_wrong_raw (ρ := ρ)) a0 a1 a2 k
theorem R14_wrong_eq {ρ : Type} (a0 : Int) (a1 : List Int) (a2 : List Int) (k : Int → Option ρ) : R14_wrong a0 a1 a2 k = R14_wrong_raw a0 a1 a2 k := by unfold R14_wrong; rw [shut_eq]
end P
end

section
open Go Go.Abs
set_option linter.unusedVariables false
namespace P
noncomputable def R01_Be_r5 {ρ : Type} (v0 : Int) (v6 : Int) (h0 : List Int) (nx : Int → Int → (List Int) → Option ρ) (k0 : Int → Int → (List Int) → Option ρ) : Option ρ :=
  br (decide (v6 ≥ (0 : Int)))
    (br (decide ((0 : Int) ≤ v6))
      (br (decide (v6 < (↑h0.length : Int)))
        (nx (v0.fdiv ((2 : Int) ^ 8)) (IntKind.i64.wrap (v6 - (1 : Int)))
          (h0.set v6.toNat (IntKind.u8.wrap (bits BinOp.and IntKind.u64 v0 (255 : Int)))))
        none)
      none)
    (k0 v0 v6 h0)
noncomputable def R01_Be_L5 {ρ : Type} (v0 : Int) (v6 : Int) (h0 : List Int) (k0 : Int → Int → (List Int) → Option ρ) : Option ρ :=
  lp (fun (x : Int × Int × (List Int)) (next : (Int × Int × (List Int)) → Option ρ) (ex : ((Int × Int × (List Int))) → Option ρ) => R01_Be_r5 x.1 x.2.1 x.2.2 (fun v0 v6 h0 => next (v0, v6, h0)) (fun v0 v6 h0 => ex ((v0, v6, h0)))) (v0, v6, h0) (fun x => k0 x.1 x.2.1 x.2.2)
noncomputable def R01_Be_l5 {ρ : Type} (v0 : Int) (v6 : Int) (h0 : List Int) (k0 : Int → Int → (List Int) → Option ρ) : Option ρ := shut (R01_Be_L5 (ρ := ρ)) v0 v6 h0 k0
theorem R01_Be_l5_eq {ρ : Type} (v0 : Int) (v6 : Int) (h0 : List Int) (k0 : Int → Int → (List Int) → Option ρ) : R01_Be_l5 v0 v6 h0 k0 = R01_Be_L5 v0 v6 h0 k0 := by unfold R01_Be_l5; rw [shut_eq]
noncomputable def R01_Be_raw {ρ : Type} (a0 : Int) (a1 : Int) (k : (List Int) → Option ρ) : Option ρ :=
  br (decide (a1 < (0 : Int))) (k [])
    (br (decide (a1 > (65536 : Int))) (k [])
      (br (decide ((0 : Int) ≤ a1))
        (br (decide (a1 ≤ a1))
          (br (decide (a1 * (↑1 : Int) ≤ (↑140737488355328 : Int)))
            (R01_Be_l5 a0 (IntKind.i64.wrap (a1 - (1 : Int))) (List.replicate a1.toNat (0 : Int))
              fun (q0 q1 : Int) (q2 : List Int) => k q2)
            none)
          none)
        none))
noncomputable def R01_Be {ρ : Type} (a0 : Int) (a1 : Int) (k : (List Int) → Option ρ) : Option ρ := shut (R01_Be_raw (ρ := ρ)) a0 a1 k
theorem R01_Be_eq {ρ : Type} (a0 : Int) (a1 : Int) (k : (List Int) → Option ρ) : R01_Be a0 a1 k = R01_Be_raw a0 a1 k := by unfold R01_Be; rw [shut_eq]
end P
end

section
open Go Go.Abs
set_option linter.unusedVariables false
namespace P
noncomputable def R07_Block_raw {ρ : Type} (a0 : Int) (k : Int → Option ρ) : Option ρ :=
  br (a0 == (1 : Int)) (k (64 : Int)) (k (128 : Int))
noncomputable def R07_Block {ρ : Type} (a0 : Int) (k : Int → Option ρ) : Option ρ := shut (R07_Block_raw (ρ := ρ)) a0 k
theorem R07_Block_eq {ρ : Type} (a0 : Int) (k : Int → Option ρ) : R07_Block a0 k = R07_Block_raw a0 k := by unfold R07_Block; rw [shut_eq]
end P
end

section
open Go Go.Abs
set_option linter.unusedVariables false
namespace P
noncomputable def R01_Join_r3 {ρ : Type} (v0 : List (List Int)) (v4 : Int) (h0 : List Int) (nx : (List (List Int)) → Int → (List Int) → Option ρ) (k0 : (List (List Int)) → Int → (List Int) → Option ρ) : Option ρ :=
  br (decide (v4 < (↑v0.length : Int)))
    (br (decide ((0 : Int) ≤ v4))
      (br (decide (v4 < (↑v0.length : Int)))
        (br
          (decide
            ((h0.length + (v0.getD v4.toNat []).length) *
                1 ≤
              140737488355328))
          (nx v0 (IntKind.i64.wrap (v4 + (1 : Int))) (h0 ++ v0.getD v4.toNat [])) none)
        none)
      none)
    (k0 v0 v4 h0)
noncomputable def R01_Join_L3 {ρ : Type} (v0 : List (List Int)) (v4 : Int) (h0 : List Int) (k0 : (List (List Int)) → Int → (List Int) → Option ρ) : Option ρ :=
  lp (fun (x : (List (List Int)) × Int × (List Int)) (next : ((List (List Int)) × Int × (List Int)) → Option ρ) (ex : (((List (List Int)) × Int × (List Int))) → Option ρ) => R01_Join_r3 x.1 x.2.1 x.2.2 (fun v0 v4 h0 => next (v0, v4, h0)) (fun v0 v4 h0 => ex ((v0, v4, h0)))) (v0, v4, h0) (fun x => k0 x.1 x.2.1 x.2.2)
noncomputable def R01_Join_l3 {ρ : Type} (v0 : List (List Int)) (v4 : Int) (h0 : List Int) (k0 : (List (List Int)) → Int → (List Int) → Option ρ) : Option ρ := shut (R01_Join_L3 (ρ := ρ)) v0 v4 h0 k0
theorem R01_Join_l3_eq {ρ : Type} (v0 : List (List Int)) (v4 : Int) (h0 : List Int) (k0 : (List (List Int)) → Int → (List Int) → Option ρ) : R01_Join_l3 v0 v4 h0 k0 = R01_Join_L3 v0 v4 h0 k0 := by unfold R01_Join_l3; rw [shut_eq]
noncomputable def R01_Join_raw {ρ : Type} (a0 : List (List Int)) (k : (List Int) → Option ρ) : Option ρ :=
  R01_Join_l3 a0 (0 : Int) [] fun (q0 : List (List Int)) (q1 : Int) (q2 : List Int) => k q2
noncomputable def R01_Join {ρ : Type} (a0 : List (List Int)) (k : (List Int) → Option ρ) : Option ρ := shut (R01_Join_raw (ρ := ρ)) a0 k
theorem R01_Join_eq {ρ : Type} (a0 : List (List Int)) (k : (List Int) → Option ρ) : R01_Join a0 k = R01_Join_raw a0 k := by unfold R01_Join; rw [shut_eq]
end P
end

section
open Go Go.Abs
set_option linter.unusedVariables false
namespace P
noncomputable def R07_roots256_raw {ρ : Type}  (k : (List Int) → Option ρ) : Option ρ :=
  k
    [(1116352408 : Int), (1899447441 : Int), (3049323471 : Int), (3921009573 : Int), (961987163 : Int),
      (1508970993 : Int), (2453635748 : Int), (2870763221 : Int), (3624381080 : Int), (310598401 : Int),
      (607225278 : Int), (1426881987 : Int), (1925078388 : Int), (2162078206 : Int), (2614888103 : Int),
      (3248222580 : Int), (3835390401 : Int), (4022224774 : Int), (264347078 : Int), (604807628 : Int), (770255983 : Int),
      (1249150122 : Int), (1555081692 : Int), (1996064986 : Int), (2554220882 : Int), (2821834349 : Int),
      (2952996808 : Int), (3210313671 : Int), (3336571891 : Int), (3584528711 : Int), (113926993 : Int),
      (338241895 : Int), (666307205 : Int), (773529912 : Int), (1294757372 : Int), (1396182291 : Int), (1695183700 : Int),
      (1986661051 : Int), (2177026350 : Int), (2456956037 : Int), (2730485921 : Int), (2820302411 : Int),
      (3259730800 : Int), (3345764771 : Int), (3516065817 : Int), (3600352804 : Int), (4094571909 : Int),
      (275423344 : Int), (430227734 : Int), (506948616 : Int), (659060556 : Int), (883997877 : Int), (958139571 : Int),
      (1322822218 : Int), (1537002063 : Int), (1747873779 : Int), (1955562222 : Int), (2024104815 : Int),
      (2227730452 : Int), (2361852424 : Int), (2428436474 : Int), (2756734187 : Int), (3204031479 : Int),
      (3329325298 : Int)]
noncomputable def R07_roots256 {ρ : Type}  (k : (List Int) → Option ρ) : Option ρ := shut (R07_roots256_raw (ρ := ρ))  k
theorem R07_roots256_eq {ρ : Type}  (k : (List Int) → Option ρ) : R07_roots256  k = R07_roots256_raw  k := by unfold R07_roots256; rw [shut_eq]
end P
end

section
open Go Go.Abs
set_option linter.unusedVariables false
namespace P
noncomputable def R07_roots512_raw {ρ : Type}  (k : (List Int) → Option ρ) : Option ρ :=
  k
    [(4794697086780616226 : Int), (8158064640168781261 : Int), (13096744586834688815 : Int), (16840607885511220156 : Int),
      (4131703408338449720 : Int), (6480981068601479193 : Int), (10538285296894168987 : Int),
      (12329834152419229976 : Int), (15566598209576043074 : Int), (1334009975649890238 : Int),
      (2608012711638119052 : Int), (6128411473006802146 : Int), (8268148722764581231 : Int), (9286055187155687089 : Int),
      (11230858885718282805 : Int), (13951009754708518548 : Int), (16472876342353939154 : Int),
      (17275323862435702243 : Int), (1135362057144423861 : Int), (2597628984639134821 : Int), (3308224258029322869 : Int),
      (5365058923640841347 : Int), (6679025012923562964 : Int), (8573033837759648693 : Int), (10970295158949994411 : Int),
      (12119686244451234320 : Int), (12683024718118986047 : Int), (13788192230050041572 : Int),
      (14330467153632333762 : Int), (15395433587784984357 : Int), (489312712824947311 : Int), (1452737877330783856 : Int),
      (2861767655752347644 : Int), (3322285676063803686 : Int), (5560940570517711597 : Int), (5996557281743188959 : Int),
      (7280758554555802590 : Int), (8532644243296465576 : Int), (9350256976987008742 : Int), (10552545826968843579 : Int),
      (11727347734174303076 : Int), (12113106623233404929 : Int), (14000437183269869457 : Int),
      (14369950271660146224 : Int), (15101387698204529176 : Int), (15463397548674623760 : Int),
      (17586052441742319658 : Int), (1182934255886127544 : Int), (1847814050463011016 : Int), (2177327727835720531 : Int),
      (2830643537854262169 : Int), (3796741975233480872 : Int), (4115178125766777443 : Int), (5681478168544905931 : Int),
      (6601373596472566643 : Int), (7507060721942968483 : Int), (8399075790359081724 : Int), (8693463985226723168 : Int),
      (9568029438360202098 : Int), (10144078919501101548 : Int), (10430055236837252648 : Int),
      (11840083180663258601 : Int), (13761210420658862357 : Int), (14299343276471374635 : Int),
      (14566680578165727644 : Int), (15097957966210449927 : Int), (16922976911328602910 : Int),
      (17689382322260857208 : Int), (500013540394364858 : Int), (748580250866718886 : Int), (1242879168328830382 : Int),
      (1977374033974150939 : Int), (2944078676154940804 : Int), (3659926193048069267 : Int), (4368137639120453308 : Int),
      (4836135668995329356 : Int), (5532061633213252278 : Int), (6448918945643986474 : Int), (6902733635092675308 : Int),
      (7801388544844847127 : Int)]
noncomputable def R07_roots512 {ρ : Type}  (k : (List Int) → Option ρ) : Option ρ := shut (R07_roots512_raw (ρ := ρ))  k
theorem R07_roots512_eq {ρ : Type}  (k : (List Int) → Option ρ) : R07_roots512  k = R07_roots512_raw  k := by unfold R07_roots512; rw [shut_eq]
end P
end

section
open Go Go.Abs
set_option linter.unusedVariables false
namespace P
noncomputable def R01_Num_r3 {ρ : Type} (v0 : List Int) (v3 : Int) (v4 : Int) (nx : (List Int) → Int → Int → Option ρ) (k0 : (List Int) → Int → Int → Option ρ) : Option ρ :=
  br (decide (v4 < (↑v0.length : Int)))
    (br (decide ((0 : Int) ≤ v4))
      (br (decide (v4 < (↑v0.length : Int)))
        (nx v0 (IntKind.u64.wrap (IntKind.u64.wrap (v3 * (256 : Int)) + IntKind.u64.wrap (v0.getD v4.toNat (0 : Int))))
          (IntKind.i64.wrap (v4 + (1 : Int))))
        none)
      none)
    (k0 v0 v3 v4)
noncomputable def R01_Num_L3 {ρ : Type} (v0 : List Int) (v3 : Int) (v4 : Int) (k0 : (List Int) → Int → Int → Option ρ) : Option ρ :=
  lp (fun (x : (List Int) × Int × Int) (next : ((List Int) × Int × Int) → Option ρ) (ex : (((List Int) × Int × Int)) → Option ρ) => R01_Num_r3 x.1 x.2.1 x.2.2 (fun v0 v3 v4 => next (v0, v3, v4)) (fun v0 v3 v4 => ex ((v0, v3, v4)))) (v0, v3, v4) (fun x => k0 x.1 x.2.1 x.2.2)
noncomputable def R01_Num_l3 {ρ : Type} (v0 : List Int) (v3 : Int) (v4 : Int) (k0 : (List Int) → Int → Int → Option ρ) : Option ρ := shut (R01_Num_L3 (ρ := ρ)) v0 v3 v4 k0
theorem R01_Num_l3_eq {ρ : Type} (v0 : List Int) (v3 : Int) (v4 : Int) (k0 : (List Int) → Int → Int → Option ρ) : R01_Num_l3 v0 v3 v4 k0 = R01_Num_L3 v0 v3 v4 k0 := by unfold R01_Num_l3; rw [shut_eq]
noncomputable def R01_Num_raw {ρ : Type} (a0 : List Int) (k : Int → Option ρ) : Option ρ :=
  R01_Num_l3 a0 (0 : Int) (0 : Int) fun (q0 : List Int) (q1 q2 : Int) => k q1
noncomputable def R01_Num {ρ : Type} (a0 : List Int) (k : Int → Option ρ) : Option ρ := shut (R01_Num_raw (ρ := ρ)) a0 k
theorem R01_Num_eq {ρ : Type} (a0 : List Int) (k : Int → Option ρ) : R01_Num a0 k = R01_Num_raw a0 k := by unfold R01_Num; rw [shut_eq]
end P
end

section
open Go Go.Abs
set_option linter.unusedVariables false
namespace P
noncomputable def R07_right_raw {ρ : Type} (a0 : Int) (a1 : Int) (a2 : Bool) (k : Int → Option ρ) : Option ρ :=
  br a2
    (br (decide (a1 < (0 : Int))) none
      (br (decide (IntKind.i64.wrap ((64 : Int) - a1) < (0 : Int))) none
        (k
          (bits BinOp.or IntKind.u64 (a0.fdiv ((2 : Int) ^ min a1.toNat 64))
            (IntKind.u64.wrap (a0 * (2 : Int) ^ min (IntKind.i64.wrap ((64 : Int) - a1)).toNat 64))))))
    (br (decide (a1 < (0 : Int))) none
      (br (decide (IntKind.i64.wrap ((32 : Int) - a1) < (0 : Int))) none
        (k
          (bits BinOp.or IntKind.u64 (a0.fdiv ((2 : Int) ^ min a1.toNat 64))
            (bits BinOp.and IntKind.u64
              (IntKind.u64.wrap (a0 * (2 : Int) ^ min (IntKind.i64.wrap ((32 : Int) - a1)).toNat 64))
              (4294967295 : Int))))))
noncomputable def R07_right {ρ : Type} (a0 : Int) (a1 : Int) (a2 : Bool) (k : Int → Option ρ) : Option ρ := shut (R07_right_raw (ρ := ρ)) a0 a1 a2 k
theorem R07_right_eq {ρ : Type} (a0 : Int) (a1 : Int) (a2 : Bool) (k : Int → Option ρ) : R07_right a0 a1 a2 k = R07_right_raw a0 a1 a2 k := by unfold R07_right; rw [shut_eq]
end P
end

section
open Go Go.Abs
set_option linter.unusedVariables false
namespace P
noncomputable def R07_mix_raw {ρ : Type} (a0 : Int) (a1 : Int) (a2 : Int) (a3 : Int) (a4 : Bool) (a5 : Bool) (k : Int → Option ρ) : Option ρ :=
  br (decide (a3 < (0 : Int))) none
    (br (!a4)
      (R07_right a0 a3 a5 fun (q0 : Int) =>
        R07_right a0 a1 a5 fun (q1 : Int) =>
          R07_right a0 a2 a5 fun (q2 : Int) => k (bits BinOp.xor IntKind.u64 (bits BinOp.xor IntKind.u64 q1 q2) q0))
      (R07_right a0 a1 a5 fun (q3 : Int) =>
        R07_right a0 a2 a5 fun (q4 : Int) =>
          k
            (bits BinOp.xor IntKind.u64 (bits BinOp.xor IntKind.u64 q3 q4)
              (a0.fdiv ((2 : Int) ^ min a3.toNat 64)))))
noncomputable def R07_mix {ρ : Type} (a0 : Int) (a1 : Int) (a2 : Int) (a3 : Int) (a4 : Bool) (a5 : Bool) (k : Int → Option ρ) : Option ρ := shut (R07_mix_raw (ρ := ρ)) a0 a1 a2 a3 a4 a5 k
theorem R07_mix_eq {ρ : Type} (a0 : Int) (a1 : Int) (a2 : Int) (a3 : Int) (a4 : Bool) (a5 : Bool) (k : Int → Option ρ) : R07_mix a0 a1 a2 a3 a4 a5 k = R07_mix_raw a0 a1 a2 a3 a4 a5 k := by unfold R07_mix; rw [shut_eq]
end P
end

section
open Go Go.Abs
set_option linter.unusedVariables false
namespace P
noncomputable def R07_words_r6 {ρ : Type} (v0 : List Int) (v1 : Bool) (v2 : Int) (v3 : Int) (v9 : Int) (v11 : Int) (h0 : List Int) (nx : (List Int) → Bool → Int → Int → Int → Int → (List Int) → Option ρ) (k0 : (List Int) → Bool → Int → Int → Int → Int → (List Int) → Option ρ) : Option ρ :=
  br (decide (v11 < v2))
    (br (decide (v11 < (16 : Int)))
      (br (decide ((0 : Int) ≤ IntKind.i64.wrap (v11 * v9)))
        (br (decide (IntKind.i64.wrap (v11 * v9) ≤ IntKind.i64.wrap (IntKind.i64.wrap (v11 * v9) + v9)))
          (br (decide (IntKind.i64.wrap (IntKind.i64.wrap (v11 * v9) + v9) ≤ (↑v0.length : Int)))
            (R01_Num
              (List.drop (IntKind.i64.wrap (v11 * v9)).toNat
                (List.take (IntKind.i64.wrap (IntKind.i64.wrap (v11 * v9) + v9)).toNat v0))
              fun (q0 : Int) =>
              br
                (decide
                  ((h0.length + 1) *
                      8 ≤
                    140737488355328))
                (nx v0 v1 v2 v3 v9 (IntKind.i64.wrap (v11 + (1 : Int))) (h0 ++ [q0])) none)
            none)
          none)
        none)
      (br (decide ((0 : Int) ≤ IntKind.i64.wrap (v11 - (15 : Int))))
        (br (decide (IntKind.i64.wrap (v11 - (15 : Int)) < (↑h0.length : Int)))
          (R07_mix (h0.getD (IntKind.i64.wrap (v11 - (15 : Int))).toNat (0 : Int)) (7 : Int) (18 : Int) (3 : Int) true
            false fun (q1 : Int) =>
            br (decide ((0 : Int) ≤ IntKind.i64.wrap (v11 - (2 : Int))))
              (br (decide (IntKind.i64.wrap (v11 - (2 : Int)) < (↑h0.length : Int)))
                (R07_mix (h0.getD (IntKind.i64.wrap (v11 - (2 : Int))).toNat (0 : Int)) (17 : Int) (19 : Int) (10 : Int)
                  true false fun (q2 : Int) =>
                  br v1
                    (br (decide ((0 : Int) ≤ IntKind.i64.wrap (v11 - (15 : Int))))
                      (br (decide (IntKind.i64.wrap (v11 - (15 : Int)) < (↑h0.length : Int)))
                        (R07_mix (h0.getD (IntKind.i64.wrap (v11 - (15 : Int))).toNat (0 : Int)) (1 : Int) (8 : Int)
                          (7 : Int) true true fun (q3 : Int) =>
                          br (decide ((0 : Int) ≤ IntKind.i64.wrap (v11 - (2 : Int))))
                            (br (decide (IntKind.i64.wrap (v11 - (2 : Int)) < (↑h0.length : Int)))
                              (R07_mix (h0.getD (IntKind.i64.wrap (v11 - (2 : Int))).toNat (0 : Int)) (19 : Int)
                                (61 : Int) (6 : Int) true true fun (q4 : Int) =>
                                br (decide ((0 : Int) ≤ IntKind.i64.wrap (v11 - (7 : Int))))
                                  (br (decide (IntKind.i64.wrap (v11 - (7 : Int)) < (↑h0.length : Int)))
                                    (br (decide ((0 : Int) ≤ IntKind.i64.wrap (v11 - (16 : Int))))
                                      (br (decide (IntKind.i64.wrap (v11 - (16 : Int)) < (↑h0.length : Int)))
                                        (br
                                          (decide
                                            ((h0.length + 1) *
                                                8 ≤
                                              140737488355328))
                                          (nx v0 v1 v2 v3 v9 (IntKind.i64.wrap (v11 + (1 : Int)))
                                            (h0 ++
                                              [bits BinOp.and IntKind.u64
                                                  (IntKind.u64.wrap
                                                    (IntKind.u64.wrap
                                                        (IntKind.u64.wrap
                                                            (q4 +
                                                              h0.getD (IntKind.i64.wrap (v11 - (7 : Int))).toNat
                                                                (0 : Int)) +
                                                          q3) +
                                                      h0.getD (IntKind.i64.wrap (v11 - (16 : Int))).toNat (0 : Int)))
                                                  v3]))
                                          none)
                                        none)
                                      none)
                                    none)
                                  none)
                              none)
                            none)
                        none)
                      none)
                    (br (decide ((0 : Int) ≤ IntKind.i64.wrap (v11 - (7 : Int))))
                      (br (decide (IntKind.i64.wrap (v11 - (7 : Int)) < (↑h0.length : Int)))
                        (br (decide ((0 : Int) ≤ IntKind.i64.wrap (v11 - (16 : Int))))
                          (br (decide (IntKind.i64.wrap (v11 - (16 : Int)) < (↑h0.length : Int)))
                            (br
                              (decide
                                ((h0.length + 1) *
                                    8 ≤
                                  140737488355328))
                              (nx v0 v1 v2 v3 v9 (IntKind.i64.wrap (v11 + (1 : Int)))
                                (h0 ++
                                  [bits BinOp.and IntKind.u64
                                      (IntKind.u64.wrap
                                        (IntKind.u64.wrap
                                            (IntKind.u64.wrap
                                                (q2 + h0.getD (IntKind.i64.wrap (v11 - (7 : Int))).toNat (0 : Int)) +
                                              q1) +
                                          h0.getD (IntKind.i64.wrap (v11 - (16 : Int))).toNat (0 : Int)))
                                      v3]))
                              none)
                            none)
                          none)
                        none)
                      none))
                none)
              none)
          none)
        none))
    (k0 v0 v1 v2 v3 v9 v11 h0)
noncomputable def R07_words_L6 {ρ : Type} (v0 : List Int) (v1 : Bool) (v2 : Int) (v3 : Int) (v9 : Int) (v11 : Int) (h0 : List Int) (k0 : (List Int) → Bool → Int → Int → Int → Int → (List Int) → Option ρ) : Option ρ :=
  lp (fun (x : (List Int) × Bool × Int × Int × Int × Int × (List Int)) (next : ((List Int) × Bool × Int × Int × Int × Int × (List Int)) → Option ρ) (ex : (((List Int) × Bool × Int × Int × Int × Int × (List Int))) → Option ρ) => R07_words_r6 x.1 x.2.1 x.2.2.1 x.2.2.2.1 x.2.2.2.2.1 x.2.2.2.2.2.1 x.2.2.2.2.2.2 (fun v0 v1 v2 v3 v9 v11 h0 => next (v0, v1, v2, v3, v9, v11, h0)) (fun v0 v1 v2 v3 v9 v11 h0 => ex ((v0, v1, v2, v3, v9, v11, h0)))) (v0, v1, v2, v3, v9, v11, h0) (fun x => k0 x.1 x.2.1 x.2.2.1 x.2.2.2.1 x.2.2.2.2.1 x.2.2.2.2.2.1 x.2.2.2.2.2.2)
noncomputable def R07_words_l6 {ρ : Type} (v0 : List Int) (v1 : Bool) (v2 : Int) (v3 : Int) (v9 : Int) (v11 : Int) (h0 : List Int) (k0 : (List Int) → Bool → Int → Int → Int → Int → (List Int) → Option ρ) : Option ρ := shut (R07_words_L6 (ρ := ρ)) v0 v1 v2 v3 v9 v11 h0 k0
theorem R07_words_l6_eq {ρ : Type} (v0 : List Int) (v1 : Bool) (v2 : Int) (v3 : Int) (v9 : Int) (v11 : Int) (h0 : List Int) (k0 : (List Int) → Bool → Int → Int → Int → Int → (List Int) → Option ρ) : R07_words_l6 v0 v1 v2 v3 v9 v11 h0 k0 = R07_words_L6 v0 v1 v2 v3 v9 v11 h0 k0 := by unfold R07_words_l6; rw [shut_eq]
noncomputable def R07_words_raw {ρ : Type} (a0 : List Int) (a1 : Bool) (a2 : Int) (a3 : Int) (k : (List Int) → Option ρ) : Option ρ :=
  br a1
    (R07_words_l6 a0 a1 a2 a3 (8 : Int) (0 : Int) []
      fun (q0 : List Int) (q1 : Bool) (q2 q3 q4 q5 : Int) (q6 : List Int) => k q6)
    (R07_words_l6 a0 a1 a2 a3 (4 : Int) (0 : Int) []
      fun (q7 : List Int) (q8 : Bool) (q9 q10 q11 q12 : Int) (q13 : List Int) => k q13)
noncomputable def R07_words {ρ : Type} (a0 : List Int) (a1 : Bool) (a2 : Int) (a3 : Int) (k : (List Int) → Option ρ) : Option ρ := shut (R07_words_raw (ρ := ρ)) a0 a1 a2 a3 k
theorem R07_words_eq {ρ : Type} (a0 : List Int) (a1 : Bool) (a2 : Int) (a3 : Int) (k : (List Int) → Option ρ) : R07_words a0 a1 a2 a3 k = R07_words_raw a0 a1 a2 a3 k := by unfold R07_words; rw [shut_eq]
end P
end

section
open Go Go.Abs
set_option linter.unusedVariables false
namespace P
noncomputable def R07_block_r11 {ρ : Type} (v2 : Bool) (v7 : Int) (v8 : Int) (v13 : Int) (h0_0 : List Int) (h1_0 : List Int) (h2_0 : List Int) (h3_0 : List Int) (h4 : List Int) (h5_0 : List Int) (nx : Bool → Int → Int → Int → (List Int) → (List Int) → (List Int) → (List Int) → (List Int) → (List Int) → Option ρ) (k0 : Bool → Int → Int → Int → (List Int) → (List Int) → (List Int) → (List Int) → (List Int) → (List Int) → Option ρ) : Option ρ :=
  br (decide (v13 < v7))
    (R07_mix (h5_0.getD 0 (0 : Int)) (2 : Int) (13 : Int) (22 : Int) false false fun (q0 : Int) =>
      R07_mix (h5_0.getD 4 (0 : Int)) (6 : Int) (11 : Int) (25 : Int) false false fun (q1 : Int) =>
        br v2
          (R07_mix (h5_0.getD 0 (0 : Int)) (28 : Int) (34 : Int) (39 : Int) false true fun (q2 : Int) =>
            R07_mix (h5_0.getD 4 (0 : Int)) (14 : Int) (18 : Int) (41 : Int) false true fun (q3 : Int) =>
              br (decide ((0 : Int) ≤ v13))
                (br (decide (v13 < (↑80 : Int)))
                  (br (decide ((0 : Int) ≤ v13))
                    (br (decide (v13 < (↑h4.length : Int)))
                      (nx v2 v7 v8 (IntKind.i64.wrap (v13 + (1 : Int))) h0_0 h1_0 h2_0 h3_0 h4
                        [bits BinOp.and IntKind.u64
                            (IntKind.u64.wrap
                              (IntKind.u64.wrap
                                  (IntKind.u64.wrap
                                      (IntKind.u64.wrap
                                          (IntKind.u64.wrap (h5_0.getD 7 (0 : Int) + q3) +
                                            bits BinOp.xor IntKind.u64
                                              (bits BinOp.and IntKind.u64 (h5_0.getD 4 (0 : Int))
                                                (h5_0.getD 5 (0 : Int)))
                                              (bits BinOp.and IntKind.u64
                                                (bits BinOp.xor IntKind.u64 v8 (h5_0.getD 4 (0 : Int)))
                                                (h5_0.getD 6 (0 : Int)))) +
                                        h3_0.getD v13.toNat (0 : Int)) +
                                    h4.getD v13.toNat (0 : Int)) +
                                IntKind.u64.wrap
                                  (q2 +
                                    bits BinOp.xor IntKind.u64
                                      (bits BinOp.xor IntKind.u64
                                        (bits BinOp.and IntKind.u64 (h5_0.getD 0 (0 : Int))
                                          (h5_0.getD 1 (0 : Int)))
                                        (bits BinOp.and IntKind.u64 (h5_0.getD 0 (0 : Int))
                                          (h5_0.getD 2 (0 : Int))))
                                      (bits BinOp.and IntKind.u64 (h5_0.getD 1 (0 : Int))
                                        (h5_0.getD 2 (0 : Int))))))
                            v8,
                          h5_0.getD 0 (0 : Int), h5_0.getD 1 (0 : Int),
                          h5_0.getD 2 (0 : Int),
                          bits BinOp.and IntKind.u64
                            (IntKind.u64.wrap
                              (h5_0.getD 3 (0 : Int) +
                                IntKind.u64.wrap
                                  (IntKind.u64.wrap
                                      (IntKind.u64.wrap
                                          (IntKind.u64.wrap (h5_0.getD 7 (0 : Int) + q3) +
                                            bits BinOp.xor IntKind.u64
                                              (bits BinOp.and IntKind.u64 (h5_0.getD 4 (0 : Int))
                                                (h5_0.getD 5 (0 : Int)))
                                              (bits BinOp.and IntKind.u64
                                                (bits BinOp.xor IntKind.u64 v8 (h5_0.getD 4 (0 : Int)))
                                                (h5_0.getD 6 (0 : Int)))) +
                                        h3_0.getD v13.toNat (0 : Int)) +
                                    h4.getD v13.toNat (0 : Int))))
                            v8,
                          h5_0.getD 4 (0 : Int), h5_0.getD 5 (0 : Int),
                          h5_0.getD 6 (0 : Int)])
                      none)
                    none)
                  none)
                none)
          (br (decide ((0 : Int) ≤ v13))
            (br (decide (v13 < (↑64 : Int)))
              (br (decide ((0 : Int) ≤ v13))
                (br (decide (v13 < (↑h4.length : Int)))
                  (nx v2 v7 v8 (IntKind.i64.wrap (v13 + (1 : Int))) h0_0 h1_0 h2_0 h3_0 h4
                    [bits BinOp.and IntKind.u64
                        (IntKind.u64.wrap
                          (IntKind.u64.wrap
                              (IntKind.u64.wrap
                                  (IntKind.u64.wrap
                                      (IntKind.u64.wrap (h5_0.getD 7 (0 : Int) + q1) +
                                        bits BinOp.xor IntKind.u64
                                          (bits BinOp.and IntKind.u64 (h5_0.getD 4 (0 : Int))
                                            (h5_0.getD 5 (0 : Int)))
                                          (bits BinOp.and IntKind.u64
                                            (bits BinOp.xor IntKind.u64 v8 (h5_0.getD 4 (0 : Int)))
                                            (h5_0.getD 6 (0 : Int)))) +
                                    h2_0.getD v13.toNat (0 : Int)) +
                                h4.getD v13.toNat (0 : Int)) +
                            IntKind.u64.wrap
                              (q0 +
                                bits BinOp.xor IntKind.u64
                                  (bits BinOp.xor IntKind.u64
                                    (bits BinOp.and IntKind.u64 (h5_0.getD 0 (0 : Int))
                                      (h5_0.getD 1 (0 : Int)))
                                    (bits BinOp.and IntKind.u64 (h5_0.getD 0 (0 : Int))
                                      (h5_0.getD 2 (0 : Int))))
                                  (bits BinOp.and IntKind.u64 (h5_0.getD 1 (0 : Int))
                                    (h5_0.getD 2 (0 : Int))))))
                        v8,
                      h5_0.getD 0 (0 : Int), h5_0.getD 1 (0 : Int), h5_0.getD 2 (0 : Int),
                      bits BinOp.and IntKind.u64
                        (IntKind.u64.wrap
                          (h5_0.getD 3 (0 : Int) +
                            IntKind.u64.wrap
                              (IntKind.u64.wrap
                                  (IntKind.u64.wrap
                                      (IntKind.u64.wrap (h5_0.getD 7 (0 : Int) + q1) +
                                        bits BinOp.xor IntKind.u64
                                          (bits BinOp.and IntKind.u64 (h5_0.getD 4 (0 : Int))
                                            (h5_0.getD 5 (0 : Int)))
                                          (bits BinOp.and IntKind.u64
                                            (bits BinOp.xor IntKind.u64 v8 (h5_0.getD 4 (0 : Int)))
                                            (h5_0.getD 6 (0 : Int)))) +
                                    h2_0.getD v13.toNat (0 : Int)) +
                                h4.getD v13.toNat (0 : Int))))
                        v8,
                      h5_0.getD 4 (0 : Int), h5_0.getD 5 (0 : Int), h5_0.getD 6 (0 : Int)])
                  none)
                none)
              none)
            none))
    (k0 v2 v7 v8 v13 h0_0 h1_0 h2_0 h3_0 h4 h5_0)
noncomputable def R07_block_L11 {ρ : Type} (v2 : Bool) (v7 : Int) (v8 : Int) (v13 : Int) (h0_0 : List Int) (h1_0 : List Int) (h2_0 : List Int) (h3_0 : List Int) (h4 : List Int) (h5_0 : List Int) (k0 : Bool → Int → Int → Int → (List Int) → (List Int) → (List Int) → (List Int) → (List Int) → (List Int) → Option ρ) : Option ρ :=
  lp (fun (x : Bool × Int × Int × Int × (List Int) × (List Int) × (List Int) × (List Int) × (List Int) × (List Int)) (next : (Bool × Int × Int × Int × (List Int) × (List Int) × (List Int) × (List Int) × (List Int) × (List Int)) → Option ρ) (ex : ((Bool × Int × Int × Int × (List Int) × (List Int) × (List Int) × (List Int) × (List Int) × (List Int))) → Option ρ) => R07_block_r11 x.1 x.2.1 x.2.2.1 x.2.2.2.1 x.2.2.2.2.1 x.2.2.2.2.2.1 x.2.2.2.2.2.2.1 x.2.2.2.2.2.2.2.1 x.2.2.2.2.2.2.2.2.1 x.2.2.2.2.2.2.2.2.2 (fun v2 v7 v8 v13 h0_0 h1_0 h2_0 h3_0 h4 h5_0 => next (v2, v7, v8, v13, h0_0, h1_0, h2_0, h3_0, h4, h5_0)) (fun v2 v7 v8 v13 h0_0 h1_0 h2_0 h3_0 h4 h5_0 => ex ((v2, v7, v8, v13, h0_0, h1_0, h2_0, h3_0, h4, h5_0)))) (v2, v7, v8, v13, h0_0, h1_0, h2_0, h3_0, h4, h5_0) (fun x => k0 x.1 x.2.1 x.2.2.1 x.2.2.2.1 x.2.2.2.2.1 x.2.2.2.2.2.1 x.2.2.2.2.2.2.1 x.2.2.2.2.2.2.2.1 x.2.2.2.2.2.2.2.2.1 x.2.2.2.2.2.2.2.2.2)
noncomputable def R07_block_l11 {ρ : Type} (v2 : Bool) (v7 : Int) (v8 : Int) (v13 : Int) (h0_0 : List Int) (h1_0 : List Int) (h2_0 : List Int) (h3_0 : List Int) (h4 : List Int) (h5_0 : List Int) (k0 : Bool → Int → Int → Int → (List Int) → (List Int) → (List Int) → (List Int) → (List Int) → (List Int) → Option ρ) : Option ρ := shut (R07_block_L11 (ρ := ρ)) v2 v7 v8 v13 h0_0 h1_0 h2_0 h3_0 h4 h5_0 k0
theorem R07_block_l11_eq {ρ : Type} (v2 : Bool) (v7 : Int) (v8 : Int) (v13 : Int) (h0_0 : List Int) (h1_0 : List Int) (h2_0 : List Int) (h3_0 : List Int) (h4 : List Int) (h5_0 : List Int) (k0 : Bool → Int → Int → Int → (List Int) → (List Int) → (List Int) → (List Int) → (List Int) → (List Int) → Option ρ) : R07_block_l11 v2 v7 v8 v13 h0_0 h1_0 h2_0 h3_0 h4 h5_0 k0 = R07_block_L11 v2 v7 v8 v13 h0_0 h1_0 h2_0 h3_0 h4 h5_0 k0 := by unfold R07_block_l11; rw [shut_eq]
noncomputable def R07_block_r25 {ρ : Type} (v8 : Int) (v19 : Int) (h0_0 : List Int) (h1_0 : List Int) (h5_0 : List Int) (nx : Int → Int → (List Int) → (List Int) → (List Int) → Option ρ) (k0 : Int → Int → (List Int) → (List Int) → (List Int) → Option ρ) : Option ρ :=
  br (decide (v19 < (8 : Int)))
    (br (decide ((0 : Int) ≤ v19))
      (br (decide (v19 < (↑8 : Int)))
        (br (decide ((0 : Int) ≤ v19))
          (br (decide (v19 < (↑8 : Int)))
            (br (decide ((0 : Int) ≤ v19))
              (br (decide (v19 < (↑8 : Int)))
                (nx v8 (IntKind.i64.wrap (v19 + (1 : Int))) h0_0 h1_0
                  (h5_0.set v19.toNat
                    (bits BinOp.and IntKind.u64
                      (IntKind.u64.wrap (h5_0.getD v19.toNat (0 : Int) + h0_0.getD v19.toNat (0 : Int))) v8)))
                none)
              none)
            none)
          none)
        none)
      none)
    (k0 v8 v19 h0_0 h1_0 h5_0)
noncomputable def R07_block_L25 {ρ : Type} (v8 : Int) (v19 : Int) (h0_0 : List Int) (h1_0 : List Int) (h5_0 : List Int) (k0 : Int → Int → (List Int) → (List Int) → (List Int) → Option ρ) : Option ρ :=
  lp (fun (x : Int × Int × (List Int) × (List Int) × (List Int)) (next : (Int × Int × (List Int) × (List Int) × (List Int)) → Option ρ) (ex : ((Int × Int × (List Int) × (List Int) × (List Int))) → Option ρ) => R07_block_r25 x.1 x.2.1 x.2.2.1 x.2.2.2.1 x.2.2.2.2 (fun v8 v19 h0_0 h1_0 h5_0 => next (v8, v19, h0_0, h1_0, h5_0)) (fun v8 v19 h0_0 h1_0 h5_0 => ex ((v8, v19, h0_0, h1_0, h5_0)))) (v8, v19, h0_0, h1_0, h5_0) (fun x => k0 x.1 x.2.1 x.2.2.1 x.2.2.2.1 x.2.2.2.2)
noncomputable def R07_block_l25 {ρ : Type} (v8 : Int) (v19 : Int) (h0_0 : List Int) (h1_0 : List Int) (h5_0 : List Int) (k0 : Int → Int → (List Int) → (List Int) → (List Int) → Option ρ) : Option ρ := shut (R07_block_L25 (ρ := ρ)) v8 v19 h0_0 h1_0 h5_0 k0
theorem R07_block_l25_eq {ρ : Type} (v8 : Int) (v19 : Int) (h0_0 : List Int) (h1_0 : List Int) (h5_0 : List Int) (k0 : Int → Int → (List Int) → (List Int) → (List Int) → Option ρ) : R07_block_l25 v8 v19 h0_0 h1_0 h5_0 k0 = R07_block_L25 v8 v19 h0_0 h1_0 h5_0 k0 := by unfold R07_block_l25; rw [shut_eq]
noncomputable def R07_block_raw {ρ : Type} (a0 : List Int) (a1 : List Int) (a2 : Bool) (k : (List Int) → Option ρ) : Option ρ :=
  R07_roots256 fun (q0 : List Int) =>
    R07_roots512 fun (q1 : List Int) =>
      br a2
        (R07_words a1 a2 (80 : Int) (18446744073709551615 : Int) fun (q2 : List Int) =>
          R07_block_l11 a2 (80 : Int) (18446744073709551615 : Int) (0 : Int) a0
            [(0 : Int), (0 : Int), (0 : Int), (0 : Int), (0 : Int), (0 : Int), (0 : Int), (0 : Int)] q0 q1 q2 a0
            fun (q3 : Bool) (q4 q5 q6 : Int) (q7 q8 q9 q10 q11 q12 : List Int) =>
            R07_block_l25 q5 (0 : Int) q7 q8 q12 fun (q13 q14 : Int) (q15 q16 q17 : List Int) => k q17)
        (R07_words a1 a2 (64 : Int) (4294967295 : Int) fun (q18 : List Int) =>
          R07_block_l11 a2 (64 : Int) (4294967295 : Int) (0 : Int) a0
            [(0 : Int), (0 : Int), (0 : Int), (0 : Int), (0 : Int), (0 : Int), (0 : Int), (0 : Int)] q0 q1 q18 a0
            fun (q19 : Bool) (q20 q21 q22 : Int) (q23 q24 q25 q26 q27 q28 : List Int) =>
            R07_block_l25 q21 (0 : Int) q23 q24 q28 fun (q29 q30 : Int) (q31 q32 q33 : List Int) => k q33)
noncomputable def R07_block {ρ : Type} (a0 : List Int) (a1 : List Int) (a2 : Bool) (k : (List Int) → Option ρ) : Option ρ := shut (R07_block_raw (ρ := ρ)) a0 a1 a2 k
theorem R07_block_eq {ρ : Type} (a0 : List Int) (a1 : List Int) (a2 : Bool) (k : (List Int) → Option ρ) : R07_block a0 a1 a2 k = R07_block_raw a0 a1 a2 k := by unfold R07_block; rw [shut_eq]
end P
end

section
open Go Go.Abs
set_option linter.unusedVariables false
namespace P
noncomputable def R07_Add_r4 {ρ : Type} (v5 : Int) (v6 : List Int) (h0_0 : Int) (h0_1 : List Int) (h0_2 : List Int) (h0_3 : Int) (h1_0 : Int) (h1_1 : List Int) (h1_3 : Int) (nx : Int → (List Int) → Int → (List Int) → (List Int) → Int → Int → (List Int) → Int → Option ρ) (k0 : Int → (List Int) → Int → (List Int) → (List Int) → Int → Int → (List Int) → Int → Option ρ) : Option ρ :=
  br (decide ((↑v6.length : Int) ≥ v5))
    (br (decide ((0 : Int) ≤ v5))
      (br (decide (v5 ≤ (↑v6.length : Int)))
        (R07_block h0_1 (List.drop 0 (List.take v5.toNat v6)) (v5 == (128 : Int)) fun (q0 : List Int) =>
          br (decide ((0 : Int) ≤ v5))
            (br (decide (v5 ≤ (↑v6.length : Int)))
              (br (decide ((↑v6.length : Int) ≤ (↑v6.length : Int)))
                (nx v5 (List.drop v5.toNat (List.take (↑v6.length : Int).toNat v6)) h0_0 q0 h0_2 h0_3 h1_0 h1_1 h1_3)
                none)
              none)
            none)
        none)
      none)
    (k0 v5 v6 h0_0 h0_1 h0_2 h0_3 h1_0 h1_1 h1_3)
noncomputable def R07_Add_L4 {ρ : Type} (v5 : Int) (v6 : List Int) (h0_0 : Int) (h0_1 : List Int) (h0_2 : List Int) (h0_3 : Int) (h1_0 : Int) (h1_1 : List Int) (h1_3 : Int) (k0 : Int → (List Int) → Int → (List Int) → (List Int) → Int → Int → (List Int) → Int → Option ρ) : Option ρ :=
  lp (fun (x : Int × (List Int) × Int × (List Int) × (List Int) × Int × Int × (List Int) × Int) (next : (Int × (List Int) × Int × (List Int) × (List Int) × Int × Int × (List Int) × Int) → Option ρ) (ex : ((Int × (List Int) × Int × (List Int) × (List Int) × Int × Int × (List Int) × Int)) → Option ρ) => R07_Add_r4 x.1 x.2.1 x.2.2.1 x.2.2.2.1 x.2.2.2.2.1 x.2.2.2.2.2.1 x.2.2.2.2.2.2.1 x.2.2.2.2.2.2.2.1 x.2.2.2.2.2.2.2.2 (fun v5 v6 h0_0 h0_1 h0_2 h0_3 h1_0 h1_1 h1_3 => next (v5, v6, h0_0, h0_1, h0_2, h0_3, h1_0, h1_1, h1_3)) (fun v5 v6 h0_0 h0_1 h0_2 h0_3 h1_0 h1_1 h1_3 => ex ((v5, v6, h0_0, h0_1, h0_2, h0_3, h1_0, h1_1, h1_3)))) (v5, v6, h0_0, h0_1, h0_2, h0_3, h1_0, h1_1, h1_3) (fun x => k0 x.1 x.2.1 x.2.2.1 x.2.2.2.1 x.2.2.2.2.1 x.2.2.2.2.2.1 x.2.2.2.2.2.2.1 x.2.2.2.2.2.2.2.1 x.2.2.2.2.2.2.2.2)
noncomputable def R07_Add_l4 {ρ : Type} (v5 : Int) (v6 : List Int) (h0_0 : Int) (h0_1 : List Int) (h0_2 : List Int) (h0_3 : Int) (h1_0 : Int) (h1_1 : List Int) (h1_3 : Int) (k0 : Int → (List Int) → Int → (List Int) → (List Int) → Int → Int → (List Int) → Int → Option ρ) : Option ρ := shut (R07_Add_L4 (ρ := ρ)) v5 v6 h0_0 h0_1 h0_2 h0_3 h1_0 h1_1 h1_3 k0
theorem R07_Add_l4_eq {ρ : Type} (v5 : Int) (v6 : List Int) (h0_0 : Int) (h0_1 : List Int) (h0_2 : List Int) (h0_3 : Int) (h1_0 : Int) (h1_1 : List Int) (h1_3 : Int) (k0 : Int → (List Int) → Int → (List Int) → (List Int) → Int → Int → (List Int) → Int → Option ρ) : R07_Add_l4 v5 v6 h0_0 h0_1 h0_2 h0_3 h1_0 h1_1 h1_3 k0 = R07_Add_L4 v5 v6 h0_0 h0_1 h0_2 h0_3 h1_0 h1_1 h1_3 k0 := by unfold R07_Add_l4; rw [shut_eq]
noncomputable def R07_Add_raw {ρ : Type} (a0_Kind : Int) (a0_Words : List Int) (a0_Tail : List Int) (a0_Size : Int) (a1 : List Int) (k : Int → (List Int) → (List Int) → Int → Option ρ) : Option ρ :=
  R07_Block a0_Kind fun (q0 : Int) =>
    R01_Join [a0_Tail, a1] fun (q1 : List Int) =>
      R07_Add_l4 q0 q1 a0_Kind a0_Words a0_Tail (IntKind.u64.wrap (a0_Size + IntKind.u64.wrap (↑a1.length : Int)))
        (0 : Int) [(0 : Int), (0 : Int), (0 : Int), (0 : Int), (0 : Int), (0 : Int), (0 : Int), (0 : Int)] (0 : Int)
        fun (q2 : Int) (q3 : List Int) (q4 : Int) (q5 q6 : List Int) (q7 q8 : Int) (q9 : List Int) (q10 : Int) =>
        k q4 q5 q3 q7
noncomputable def R07_Add {ρ : Type} (a0_Kind : Int) (a0_Words : List Int) (a0_Tail : List Int) (a0_Size : Int) (a1 : List Int) (k : Int → (List Int) → (List Int) → Int → Option ρ) : Option ρ := shut (R07_Add_raw (ρ := ρ)) a0_Kind a0_Words a0_Tail a0_Size a1 k
theorem R07_Add_eq {ρ : Type} (a0_Kind : Int) (a0_Words : List Int) (a0_Tail : List Int) (a0_Size : Int) (a1 : List Int) (k : Int → (List Int) → (List Int) → Int → Option ρ) : R07_Add a0_Kind a0_Words a0_Tail a0_Size a1 k = R07_Add_raw a0_Kind a0_Words a0_Tail a0_Size a1 k := by unfold R07_Add; rw [shut_eq]
end P
end

section
open Go Go.Abs
set_option linter.unusedVariables false
namespace P
noncomputable def R07_End_r4 {ρ : Type} (v3 : Int) (v4 : Int) (h40 : List Int) (h0_0 : Int) (h0_1 : List Int) (h0_2 : List Int) (h0_3 : Int) (nx : Int → Int → (List Int) → Int → (List Int) → (List Int) → Int → Option ρ) (k0 : Int → Int → (List Int) → Int → (List Int) → (List Int) → Int → Option ρ) : Option ρ :=
  br (decide (v3 = (0 : Int))) none
    (br ((IntKind.i64.wrap ((↑h0_2.length : Int) + (↑h40.length : Int))).tmod v3 != IntKind.i64.wrap (v3 - (8 : Int)))
      (br
        (decide
          ((h40.length + 1) * 1 ≤
            140737488355328))
        (nx v3 v4 (h40 ++ [(0 : Int)]) h0_0 h0_1 h0_2 h0_3) none)
      (k0 v3 v4 h40 h0_0 h0_1 h0_2 h0_3))
noncomputable def R07_End_L4 {ρ : Type} (v3 : Int) (v4 : Int) (h40 : List Int) (h0_0 : Int) (h0_1 : List Int) (h0_2 : List Int) (h0_3 : Int) (k0 : Int → Int → (List Int) → Int → (List Int) → (List Int) → Int → Option ρ) : Option ρ :=
  lp (fun (x : Int × Int × (List Int) × Int × (List Int) × (List Int) × Int) (next : (Int × Int × (List Int) × Int × (List Int) × (List Int) × Int) → Option ρ) (ex : ((Int × Int × (List Int) × Int × (List Int) × (List Int) × Int)) → Option ρ) => R07_End_r4 x.1 x.2.1 x.2.2.1 x.2.2.2.1 x.2.2.2.2.1 x.2.2.2.2.2.1 x.2.2.2.2.2.2 (fun v3 v4 h40 h0_0 h0_1 h0_2 h0_3 => next (v3, v4, h40, h0_0, h0_1, h0_2, h0_3)) (fun v3 v4 h40 h0_0 h0_1 h0_2 h0_3 => ex ((v3, v4, h40, h0_0, h0_1, h0_2, h0_3)))) (v3, v4, h40, h0_0, h0_1, h0_2, h0_3) (fun x => k0 x.1 x.2.1 x.2.2.1 x.2.2.2.1 x.2.2.2.2.1 x.2.2.2.2.2.1 x.2.2.2.2.2.2)
noncomputable def R07_End_l4 {ρ : Type} (v3 : Int) (v4 : Int) (h40 : List Int) (h0_0 : Int) (h0_1 : List Int) (h0_2 : List Int) (h0_3 : Int) (k0 : Int → Int → (List Int) → Int → (List Int) → (List Int) → Int → Option ρ) : Option ρ := shut (R07_End_L4 (ρ := ρ)) v3 v4 h40 h0_0 h0_1 h0_2 h0_3 k0
theorem R07_End_l4_eq {ρ : Type} (v3 : Int) (v4 : Int) (h40 : List Int) (h0_0 : Int) (h0_1 : List Int) (h0_2 : List Int) (h0_3 : Int) (k0 : Int → Int → (List Int) → Int → (List Int) → (List Int) → Int → Option ρ) : R07_End_l4 v3 v4 h40 h0_0 h0_1 h0_2 h0_3 k0 = R07_End_L4 v3 v4 h40 h0_0 h0_1 h0_2 h0_3 k0 := by unfold R07_End_l4; rw [shut_eq]
noncomputable def R07_End_r8 {ρ : Type} (v3 : Int) (v4 : Int) (h80 : List Int) (h0_0 : Int) (h0_1 : List Int) (h0_2 : List Int) (h0_3 : Int) (nx : Int → Int → (List Int) → Int → (List Int) → (List Int) → Int → Option ρ) (k0 : Int → Int → (List Int) → Int → (List Int) → (List Int) → Int → Option ρ) : Option ρ :=
  br (decide (v3 = (0 : Int))) none
    (br ((IntKind.i64.wrap ((↑h0_2.length : Int) + (↑h80.length : Int))).tmod v3 != IntKind.i64.wrap (v3 - (16 : Int)))
      (br
        (decide
          ((h80.length + 1) * 1 ≤
            140737488355328))
        (nx v3 v4 (h80 ++ [(0 : Int)]) h0_0 h0_1 h0_2 h0_3) none)
      (k0 v3 v4 h80 h0_0 h0_1 h0_2 h0_3))
noncomputable def R07_End_L8 {ρ : Type} (v3 : Int) (v4 : Int) (h80 : List Int) (h0_0 : Int) (h0_1 : List Int) (h0_2 : List Int) (h0_3 : Int) (k0 : Int → Int → (List Int) → Int → (List Int) → (List Int) → Int → Option ρ) : Option ρ :=
  lp (fun (x : Int × Int × (List Int) × Int × (List Int) × (List Int) × Int) (next : (Int × Int × (List Int) × Int × (List Int) × (List Int) × Int) → Option ρ) (ex : ((Int × Int × (List Int) × Int × (List Int) × (List Int) × Int)) → Option ρ) => R07_End_r8 x.1 x.2.1 x.2.2.1 x.2.2.2.1 x.2.2.2.2.1 x.2.2.2.2.2.1 x.2.2.2.2.2.2 (fun v3 v4 h80 h0_0 h0_1 h0_2 h0_3 => next (v3, v4, h80, h0_0, h0_1, h0_2, h0_3)) (fun v3 v4 h80 h0_0 h0_1 h0_2 h0_3 => ex ((v3, v4, h80, h0_0, h0_1, h0_2, h0_3)))) (v3, v4, h80, h0_0, h0_1, h0_2, h0_3) (fun x => k0 x.1 x.2.1 x.2.2.1 x.2.2.2.1 x.2.2.2.2.1 x.2.2.2.2.2.1 x.2.2.2.2.2.2)
noncomputable def R07_End_l8 {ρ : Type} (v3 : Int) (v4 : Int) (h80 : List Int) (h0_0 : Int) (h0_1 : List Int) (h0_2 : List Int) (h0_3 : Int) (k0 : Int → Int → (List Int) → Int → (List Int) → (List Int) → Int → Option ρ) : Option ρ := shut (R07_End_L8 (ρ := ρ)) v3 v4 h80 h0_0 h0_1 h0_2 h0_3 k0
theorem R07_End_l8_eq {ρ : Type} (v3 : Int) (v4 : Int) (h80 : List Int) (h0_0 : Int) (h0_1 : List Int) (h0_2 : List Int) (h0_3 : Int) (k0 : Int → Int → (List Int) → Int → (List Int) → (List Int) → Int → Option ρ) : R07_End_l8 v3 v4 h80 h0_0 h0_1 h0_2 h0_3 k0 = R07_End_L8 v3 v4 h80 h0_0 h0_1 h0_2 h0_3 k0 := by unfold R07_End_l8; rw [shut_eq]
noncomputable def R07_End_r14 {ρ : Type} (v3 : Int) (v7 : Int) (h120 : List Int) (h0_0 : Int) (h0_1 : List Int) (h0_2 : List Int) (h0_3 : Int) (nx : Int → Int → (List Int) → Int → (List Int) → (List Int) → Int → Option ρ) (k0 : Int → Int → (List Int) → Int → (List Int) → (List Int) → Int → Option ρ) : Option ρ :=
  br (decide (v7 < (8 : Int)))
    (br (decide ((0 : Int) ≤ v7))
      (br (decide (v7 < (↑8 : Int)))
        (R01_Be (h0_1.getD v7.toNat (0 : Int)) (IntKind.i64.wrap (v3.tdiv (16 : Int))) fun (q0 : List Int) =>
          br
            (decide
              ((h120.length + q0.length) * 1 ≤
                140737488355328))
            (nx v3 (IntKind.i64.wrap (v7 + (1 : Int))) (h120 ++ q0) h0_0 h0_1 h0_2 h0_3) none)
        none)
      none)
    (k0 v3 v7 h120 h0_0 h0_1 h0_2 h0_3)
noncomputable def R07_End_L14 {ρ : Type} (v3 : Int) (v7 : Int) (h120 : List Int) (h0_0 : Int) (h0_1 : List Int) (h0_2 : List Int) (h0_3 : Int) (k0 : Int → Int → (List Int) → Int → (List Int) → (List Int) → Int → Option ρ) : Option ρ :=
  lp (fun (x : Int × Int × (List Int) × Int × (List Int) × (List Int) × Int) (next : (Int × Int × (List Int) × Int × (List Int) × (List Int) × Int) → Option ρ) (ex : ((Int × Int × (List Int) × Int × (List Int) × (List Int) × Int)) → Option ρ) => R07_End_r14 x.1 x.2.1 x.2.2.1 x.2.2.2.1 x.2.2.2.2.1 x.2.2.2.2.2.1 x.2.2.2.2.2.2 (fun v3 v7 h120 h0_0 h0_1 h0_2 h0_3 => next (v3, v7, h120, h0_0, h0_1, h0_2, h0_3)) (fun v3 v7 h120 h0_0 h0_1 h0_2 h0_3 => ex ((v3, v7, h120, h0_0, h0_1, h0_2, h0_3)))) (v3, v7, h120, h0_0, h0_1, h0_2, h0_3) (fun x => k0 x.1 x.2.1 x.2.2.1 x.2.2.2.1 x.2.2.2.2.1 x.2.2.2.2.2.1 x.2.2.2.2.2.2)
noncomputable def R07_End_l14 {ρ : Type} (v3 : Int) (v7 : Int) (h120 : List Int) (h0_0 : Int) (h0_1 : List Int) (h0_2 : List Int) (h0_3 : Int) (k0 : Int → Int → (List Int) → Int → (List Int) → (List Int) → Int → Option ρ) : Option ρ := shut (R07_End_L14 (ρ := ρ)) v3 v7 h120 h0_0 h0_1 h0_2 h0_3 k0
theorem R07_End_l14_eq {ρ : Type} (v3 : Int) (v7 : Int) (h120 : List Int) (h0_0 : Int) (h0_1 : List Int) (h0_2 : List Int) (h0_3 : Int) (k0 : Int → Int → (List Int) → Int → (List Int) → (List Int) → Int → Option ρ) : R07_End_l14 v3 v7 h120 h0_0 h0_1 h0_2 h0_3 k0 = R07_End_L14 v3 v7 h120 h0_0 h0_1 h0_2 h0_3 k0 := by unfold R07_End_l14; rw [shut_eq]
noncomputable def R07_End_raw {ρ : Type} (a0_Kind : Int) (a0_Words : List Int) (a0_Tail : List Int) (a0_Size : Int) (k : (List Int) → Option ρ) : Option ρ :=
  R07_Block a0_Kind fun (q0 : Int) =>
    R07_End_l4 q0 (IntKind.u64.wrap (a0_Size * (8 : Int))) [(128 : Int)] a0_Kind a0_Words a0_Tail a0_Size
      fun (q1 q2 : Int) (q3 : List Int) (q4 : Int) (q5 q6 : List Int) (q7 : Int) =>
      br (q1 == (128 : Int))
        (R07_End_l8 q1 q2 [(128 : Int)] q4 q5 q6 q7
          fun (q8 q9 : Int) (q10 : List Int) (q11 : Int) (q12 q13 : List Int) (q14 : Int) =>
          R01_Be (q14.fdiv ((2 : Int) ^ 61)) (8 : Int) fun (q15 : List Int) =>
            br
              (decide
                ((q10.length + q15.length) * 1 ≤
                  140737488355328))
              (R01_Be q9 (8 : Int) fun (q16 : List Int) =>
                br
                  (decide
                    (((q10 ++ q15).length + q16.length) *
                        1 ≤
                      140737488355328))
                  (R07_Add q11 q12 q13 q14 (q10 ++ q15 ++ q16) fun (q17 : Int) (q18 q19 : List Int) (q20 : Int) =>
                    R07_End_l14 q8 (0 : Int) [] q17 q18 q19 q20
                      fun (q21 q22 : Int) (q23 : List Int) (q24 : Int) (q25 q26 : List Int) (q27 : Int) =>
                      br (q24 == (2 : Int))
                        (br (decide ((48 : Int) ≤ (↑q23.length : Int))) (k (List.take ((48 : Int) - (0 : Int)).toNat q23))
                          none)
                        (k q23))
                  none)
              none)
        (R01_Be q2 (8 : Int) fun (q28 : List Int) =>
          br
            (decide
              ((q3.length + q28.length) * 1 ≤
                140737488355328))
            (R07_Add q4 q5 q6 q7 (q3 ++ q28) fun (q29 : Int) (q30 q31 : List Int) (q32 : Int) =>
              R07_End_l14 q1 (0 : Int) [] q29 q30 q31 q32
                fun (q33 q34 : Int) (q35 : List Int) (q36 : Int) (q37 q38 : List Int) (q39 : Int) =>
                br (q36 == (2 : Int))
                  (br (decide ((48 : Int) ≤ (↑q35.length : Int))) (k (List.take ((48 : Int) - (0 : Int)).toNat q35)) none)
                  (k q35))
            none)
noncomputable def R07_End {ρ : Type} (a0_Kind : Int) (a0_Words : List Int) (a0_Tail : List Int) (a0_Size : Int) (k : (List Int) → Option ρ) : Option ρ := shut (R07_End_raw (ρ := ρ)) a0_Kind a0_Words a0_Tail a0_Size k
theorem R07_End_eq {ρ : Type} (a0_Kind : Int) (a0_Words : List Int) (a0_Tail : List Int) (a0_Size : Int) (k : (List Int) → Option ρ) : R07_End a0_Kind a0_Words a0_Tail a0_Size k = R07_End_raw a0_Kind a0_Words a0_Tail a0_Size k := by unfold R07_End; rw [shut_eq]
end P
end

section
open Go Go.Abs
set_option linter.unusedVariables false
namespace P
noncomputable def R07_New_raw {ρ : Type} (a0 : Int) (k : Int → (List Int) → (List Int) → Int → Int → Option ρ) : Option ρ :=
  br (a0 == (1 : Int))
    (k a0
      [(1779033703 : Int), (3144134277 : Int), (1013904242 : Int), (2773480762 : Int), (1359893119 : Int),
        (2600822924 : Int), (528734635 : Int), (1541459225 : Int)]
      [] (0 : Int) (0 : Int))
    (br (a0 == (2 : Int))
      (k a0
        [(14680500436340154072 : Int), (7105036623409894663 : Int), (10473403895298186519 : Int),
          (1526699215303891257 : Int), (7436329637833083697 : Int), (10282925794625328401 : Int),
          (15784041429090275239 : Int), (5167115440072839076 : Int)]
        [] (0 : Int) (0 : Int))
      (br (a0 == (3 : Int))
        (k a0
          [(7640891576956012808 : Int), (13503953896175478587 : Int), (4354685564936845355 : Int),
            (11912009170470909681 : Int), (5840696475078001361 : Int), (11170449401992604703 : Int),
            (2270897969802886507 : Int), (6620516959819538809 : Int)]
          [] (0 : Int) (0 : Int))
        (k (0 : Int) [(0 : Int), (0 : Int), (0 : Int), (0 : Int), (0 : Int), (0 : Int), (0 : Int), (0 : Int)] [] (0 : Int)
          (9 : Int))))
noncomputable def R07_New {ρ : Type} (a0 : Int) (k : Int → (List Int) → (List Int) → Int → Int → Option ρ) : Option ρ := shut (R07_New_raw (ρ := ρ)) a0 k
theorem R07_New_eq {ρ : Type} (a0 : Int) (k : Int → (List Int) → (List Int) → Int → Int → Option ρ) : R07_New a0 k = R07_New_raw a0 k := by unfold R07_New; rw [shut_eq]
end P
end

section
open Go Go.Abs
set_option linter.unusedVariables false
namespace P
noncomputable def R07_Sum_raw {ρ : Type} (a0 : Int) (a1 : List Int) (k : (List Int) → Int → Option ρ) : Option ρ :=
  R07_New a0 fun (q0 : Int) (q1 q2 : List Int) (q3 q4 : Int) =>
    br (q4 != (0 : Int)) (k [] q4)
      (R07_Add q0 q1 q2 q3 a1 fun (q5 : Int) (q6 q7 : List Int) (q8 : Int) =>
        R07_End q5 q6 q7 q8 fun (q9 : List Int) => k q9 (0 : Int))
noncomputable def R07_Sum {ρ : Type} (a0 : Int) (a1 : List Int) (k : (List Int) → Int → Option ρ) : Option ρ := shut (R07_Sum_raw (ρ := ρ)) a0 a1 k
theorem R07_Sum_eq {ρ : Type} (a0 : Int) (a1 : List Int) (k : (List Int) → Int → Option ρ) : R07_Sum a0 a1 k = R07_Sum_raw a0 a1 k := by unfold R07_Sum; rw [shut_eq]
end P
end

section
open Go Go.Abs
set_option linter.unusedVariables false
namespace P
noncomputable def R14_H_raw {ρ : Type} (a0 : List (List Int)) (k : (List Int) → Option ρ) : Option ρ :=
  R01_Join a0 fun (q0 : List Int) => R07_Sum (1 : Int) q0 fun (q1 : List Int) (q2 : Int) => k q1
noncomputable def R14_H {ρ : Type} (a0 : List (List Int)) (k : (List Int) → Option ρ) : Option ρ := shut (R14_H_raw (ρ := ρ)) a0 k
theorem R14_H_eq {ρ : Type} (a0 : List (List Int)) (k : (List Int) → Option ρ) : R14_H a0 k = R14_H_raw a0 k := by unfold R14_H; rw [shut_eq]
end P
end

section
open Go Go.Abs
set_option linter.unusedVariables false
namespace P
noncomputable def R14_chain_r2 {ρ : Type} (v0 : List Int) (v1 : Int) (v2 : Int) (v4 : Int) (v5 : List Int) (v13 : Int) (nx : (List Int) → Int → Int → Int → (List Int) → Int → Option ρ) (k0 : (List Int) → Int → Int → Int → (List Int) → Int → Option ρ) : Option ρ :=
  br (decide (v13 < v4))
    (R01_Be (IntKind.u64.wrap v1) (4 : Int) fun (q0 : List Int) =>
      R01_Be (IntKind.u64.wrap v2) (2 : Int) fun (q1 : List Int) =>
        R14_H [v0, q0, q1, [IntKind.u8.wrap v13], v5] fun (q2 : List Int) =>
          nx v0 v1 v2 v4 q2 (IntKind.i64.wrap (v13 + (1 : Int))))
    (k0 v0 v1 v2 v4 v5 v13)
noncomputable def R14_chain_L2 {ρ : Type} (v0 : List Int) (v1 : Int) (v2 : Int) (v4 : Int) (v5 : List Int) (v13 : Int) (k0 : (List Int) → Int → Int → Int → (List Int) → Int → Option ρ) : Option ρ :=
  lp (fun (x : (List Int) × Int × Int × Int × (List Int) × Int) (next : ((List Int) × Int × Int × Int × (List Int) × Int) → Option ρ) (ex : (((List Int) × Int × Int × Int × (List Int) × Int)) → Option ρ) => R14_chain_r2 x.1 x.2.1 x.2.2.1 x.2.2.2.1 x.2.2.2.2.1 x.2.2.2.2.2 (fun v0 v1 v2 v4 v5 v13 => next (v0, v1, v2, v4, v5, v13)) (fun v0 v1 v2 v4 v5 v13 => ex ((v0, v1, v2, v4, v5, v13)))) (v0, v1, v2, v4, v5, v13) (fun x => k0 x.1 x.2.1 x.2.2.1 x.2.2.2.1 x.2.2.2.2.1 x.2.2.2.2.2)
noncomputable def R14_chain_l2 {ρ : Type} (v0 : List Int) (v1 : Int) (v2 : Int) (v4 : Int) (v5 : List Int) (v13 : Int) (k0 : (List Int) → Int → Int → Int → (List Int) → Int → Option ρ) : Option ρ := shut (R14_chain_L2 (ρ := ρ)) v0 v1 v2 v4 v5 v13 k0
theorem R14_chain_l2_eq {ρ : Type} (v0 : List Int) (v1 : Int) (v2 : Int) (v4 : Int) (v5 : List Int) (v13 : Int) (k0 : (List Int) → Int → Int → Int → (List Int) → Int → Option ρ) : R14_chain_l2 v0 v1 v2 v4 v5 v13 k0 = R14_chain_L2 v0 v1 v2 v4 v5 v13 k0 := by unfold R14_chain_l2; rw [shut_eq]
noncomputable def R14_chain_raw {ρ : Type} (a0 : List Int) (a1 : Int) (a2 : Int) (a3 : Int) (a4 : Int) (a5 : List Int) (k : (List Int) → Option ρ) : Option ρ :=
  R14_chain_l2 a0 a1 a2 a4 a5 a3 fun (q0 : List Int) (q1 q2 q3 : Int) (q4 : List Int) (q5 : Int) => k q4
noncomputable def R14_chain {ρ : Type} (a0 : List Int) (a1 : Int) (a2 : Int) (a3 : Int) (a4 : Int) (a5 : List Int) (k : (List Int) → Option ρ) : Option ρ := shut (R14_chain_raw (ρ := ρ)) a0 a1 a2 a3 a4 a5 k
theorem R14_chain_eq {ρ : Type} (a0 : List Int) (a1 : Int) (a2 : Int) (a3 : Int) (a4 : Int) (a5 : List Int) (k : (List Int) → Option ρ) : R14_chain a0 a1 a2 a3 a4 a5 k = R14_chain_raw a0 a1 a2 a3 a4 a5 k := by unfold R14_chain; rw [shut_eq]
end P
end

section
open Go Go.Abs
set_option linter.unusedVariables false
namespace P
noncomputable def R14_part_raw {ρ : Type} (a0 : List Int) (a1 : Int) (a2 : Int) (a3 : List Int) (k : (List Int) → Option ρ) : Option ρ :=
  R01_Be (IntKind.u64.wrap a1) (4 : Int) fun (q0 : List Int) =>
    R01_Be (IntKind.u64.wrap a2) (2 : Int) fun (q1 : List Int) =>
      R14_H [a0, q0, q1, [(255 : Int)], a3] fun (q2 : List Int) => k q2
noncomputable def R14_part {ρ : Type} (a0 : List Int) (a1 : Int) (a2 : Int) (a3 : List Int) (k : (List Int) → Option ρ) : Option ρ := shut (R14_part_raw (ρ := ρ)) a0 a1 a2 a3 k
theorem R14_part_eq {ρ : Type} (a0 : List Int) (a1 : Int) (a2 : Int) (a3 : List Int) (k : (List Int) → Option ρ) : R14_part a0 a1 a2 a3 k = R14_part_raw a0 a1 a2 a3 k := by unfold R14_part; rw [shut_eq]
end P
end

section
open Go Go.Abs
set_option linter.unusedVariables false
namespace P
noncomputable def R14_key_raw {ρ : Type} (a0 : List Int) (a1 : Int) (a2 : List (List Int)) (k : (List Int) → Option ρ) : Option ρ :=
  R01_Be (IntKind.u64.wrap a1) (4 : Int) fun (q0 : List Int) =>
    R01_Be (32896 : Int) (2 : Int) fun (q1 : List Int) =>
      R01_Join a2 fun (q2 : List Int) => R14_H [a0, q0, q1, q2] fun (q3 : List Int) => k q3
noncomputable def R14_key {ρ : Type} (a0 : List Int) (a1 : Int) (a2 : List (List Int)) (k : (List Int) → Option ρ) : Option ρ := shut (R14_key_raw (ρ := ρ)) a0 a1 a2 k
theorem R14_key_eq {ρ : Type} (a0 : List Int) (a1 : Int) (a2 : List (List Int)) (k : (List Int) → Option ρ) : R14_key a0 a1 a2 k = R14_key_raw a0 a1 a2 k := by unfold R14_key; rw [shut_eq]
end P
end

section
open Go Go.Abs
set_option linter.unusedVariables false
namespace P
noncomputable def R14_Public_r7 {ρ : Type} (v0 : Int) (v1 : List Int) (v2 : Int) (v3 : List Int) (v11 : Int) (v15 : Int) (h0 : List (List Int)) (nx : Int → (List Int) → Int → (List Int) → Int → Int → (List (List Int)) → Option ρ) (k0 : Int → (List Int) → Int → (List Int) → Int → Int → (List (List Int)) → Option ρ) : Option ρ :=
  br (decide (v15 < v11))
    (br (decide (v0 < (0 : Int))) none
      (R14_part v1 v2 v15 v3 fun (q0 : List Int) =>
        R14_chain v1 v2 v15 (0 : Int)
          (IntKind.i64.wrap (IntKind.i64.wrap ((1 : Int) * (2 : Int) ^ min v0.toNat 64) - (1 : Int))) q0
          fun (q1 : List Int) =>
          br
            (decide
              ((h0.length + 1) * 24 ≤
                140737488355328))
            (nx v0 v1 v2 v3 v11 (IntKind.i64.wrap (v15 + (1 : Int))) (h0 ++ [q1])) none))
    (k0 v0 v1 v2 v3 v11 v15 h0)
noncomputable def R14_Public_L7 {ρ : Type} (v0 : Int) (v1 : List Int) (v2 : Int) (v3 : List Int) (v11 : Int) (v15 : Int) (h0 : List (List Int)) (k0 : Int → (List Int) → Int → (List Int) → Int → Int → (List (List Int)) → Option ρ) : Option ρ :=
  lp (fun (x : Int × (List Int) × Int × (List Int) × Int × Int × (List (List Int))) (next : (Int × (List Int) × Int × (List Int) × Int × Int × (List (List Int))) → Option ρ) (ex : ((Int × (List Int) × Int × (List Int) × Int × Int × (List (List Int)))) → Option ρ) => R14_Public_r7 x.1 x.2.1 x.2.2.1 x.2.2.2.1 x.2.2.2.2.1 x.2.2.2.2.2.1 x.2.2.2.2.2.2 (fun v0 v1 v2 v3 v11 v15 h0 => next (v0, v1, v2, v3, v11, v15, h0)) (fun v0 v1 v2 v3 v11 v15 h0 => ex ((v0, v1, v2, v3, v11, v15, h0)))) (v0, v1, v2, v3, v11, v15, h0) (fun x => k0 x.1 x.2.1 x.2.2.1 x.2.2.2.1 x.2.2.2.2.1 x.2.2.2.2.2.1 x.2.2.2.2.2.2)
noncomputable def R14_Public_l7 {ρ : Type} (v0 : Int) (v1 : List Int) (v2 : Int) (v3 : List Int) (v11 : Int) (v15 : Int) (h0 : List (List Int)) (k0 : Int → (List Int) → Int → (List Int) → Int → Int → (List (List Int)) → Option ρ) : Option ρ := shut (R14_Public_L7 (ρ := ρ)) v0 v1 v2 v3 v11 v15 h0 k0
theorem R14_Public_l7_eq {ρ : Type} (v0 : Int) (v1 : List Int) (v2 : Int) (v3 : List Int) (v11 : Int) (v15 : Int) (h0 : List (List Int)) (k0 : Int → (List Int) → Int → (List Int) → Int → Int → (List (List Int)) → Option ρ) : R14_Public_l7 v0 v1 v2 v3 v11 v15 h0 k0 = R14_Public_L7 v0 v1 v2 v3 v11 v15 h0 k0 := by unfold R14_Public_l7; rw [shut_eq]
noncomputable def R14_Public_raw {ρ : Type} (a0 : Int) (a1 : List Int) (a2 : Int) (a3 : List Int) (k : (List Int) → Int → Option ρ) : Option ρ :=
  R14_wrong a0 a1 a3 fun (q0 : Int) =>
    br (q0 != (0 : Int)) (k [] q0)
      (R14_Kind a0 fun (q1 q2 q3 : Int) =>
        R14_Public_l7 a0 a1 a2 a3 q1 (0 : Int) []
          fun (q4 : Int) (q5 : List Int) (q6 : Int) (q7 : List Int) (q8 q9 : Int) (q10 : List (List Int)) =>
          R14_key q5 q6 q10 fun (q11 : List Int) => k q11 (0 : Int))
noncomputable def R14_Public {ρ : Type} (a0 : Int) (a1 : List Int) (a2 : Int) (a3 : List Int) (k : (List Int) → Int → Option ρ) : Option ρ := shut (R14_Public_raw (ρ := ρ)) a0 a1 a2 a3 k
theorem R14_Public_eq {ρ : Type} (a0 : Int) (a1 : List Int) (a2 : Int) (a3 : List Int) (k : (List Int) → Int → Option ρ) : R14_Public a0 a1 a2 a3 k = R14_Public_raw a0 a1 a2 a3 k := by unfold R14_Public; rw [shut_eq]
end P
end

section
open Go Go.Abs
set_option linter.unusedVariables false
namespace P
noncomputable def lmots_leaf_digitsOf_raw {ρ : Type} (a0_w : Int) (a0_id : List Int) (a0_q : Int) (a0_kind_digits : Int) (a0_kind_shift : Int) (a0_kind_code : Int) (a1 : List Int) (a2 : List Int) (k : (List Int) → Option ρ) : Option ρ :=
  lmots_leaf_sum a0_w a0_id a0_q a0_kind_digits a0_kind_shift a0_kind_code (33153 : Int) [a1, a2] fun (q0 : List Int) =>
    lmots_Digits a0_w q0 fun (q1 : List Int) (q2 : Int) => k q1
noncomputable def lmots_leaf_digitsOf {ρ : Type} (a0_w : Int) (a0_id : List Int) (a0_q : Int) (a0_kind_digits : Int) (a0_kind_shift : Int) (a0_kind_code : Int) (a1 : List Int) (a2 : List Int) (k : (List Int) → Option ρ) : Option ρ := shut (lmots_leaf_digitsOf_raw (ρ := ρ)) a0_w a0_id a0_q a0_kind_digits a0_kind_shift a0_kind_code a1 a2 k
theorem lmots_leaf_digitsOf_eq {ρ : Type} (a0_w : Int) (a0_id : List Int) (a0_q : Int) (a0_kind_digits : Int) (a0_kind_shift : Int) (a0_kind_code : Int) (a1 : List Int) (a2 : List Int) (k : (List Int) → Option ρ) : lmots_leaf_digitsOf a0_w a0_id a0_q a0_kind_digits a0_kind_shift a0_kind_code a1 a2 k = lmots_leaf_digitsOf_raw a0_w a0_id a0_q a0_kind_digits a0_kind_shift a0_kind_code a1 a2 k := by unfold lmots_leaf_digitsOf; rw [shut_eq]
end P
end

section
open Go Go.Abs
set_option linter.unusedVariables false
namespace P
noncomputable def lmots_Sign_r7 {ρ : Type} (v3 : List Int) (v44 : Int) (v45 : Int) (h40 : List Int) (h0_0 : Int) (h0_1 : List Int) (h0_2 : Int) (h0_3 : Int) (h0_4 : Int) (h0_5 : Int) (h5 : List Int) (nx : (List Int) → Int → Int → (List Int) → Int → (List Int) → Int → Int → Int → Int → (List Int) → Option ρ) (k0 : (List Int) → Int → Int → (List Int) → Int → (List Int) → Int → Int → Int → Int → (List Int) → Option ρ) : Option ρ :=
  br (decide (v45 < v44))
    (br (decide ((0 : Int) ≤ v45))
      (br (decide (v45 < (↑h5.length : Int)))
        (lmots_leaf_part h0_0 h0_1 h0_2 h0_3 h0_4 h0_5 (IntKind.u64.wrap v45) v3 fun (q0 : List Int) =>
          lmots_leaf_along h0_0 h0_1 h0_2 h0_3 h0_4 h0_5 v45 (0 : Int) (h5.getD v45.toNat (0 : Int)) q0
            fun (q1 : List Int) =>
            br
              (decide
                ((h40.length + q1.length) * 1 ≤
                  140737488355328))
              (nx v3 v44 (IntKind.i64.wrap (v45 + (1 : Int))) (h40 ++ q1) h0_0 h0_1 h0_2 h0_3 h0_4 h0_5 h5) none)
        none)
      none)
    (k0 v3 v44 v45 h40 h0_0 h0_1 h0_2 h0_3 h0_4 h0_5 h5)
noncomputable def lmots_Sign_L7 {ρ : Type} (v3 : List Int) (v44 : Int) (v45 : Int) (h40 : List Int) (h0_0 : Int) (h0_1 : List Int) (h0_2 : Int) (h0_3 : Int) (h0_4 : Int) (h0_5 : Int) (h5 : List Int) (k0 : (List Int) → Int → Int → (List Int) → Int → (List Int) → Int → Int → Int → Int → (List Int) → Option ρ) : Option ρ :=
  lp (fun (x : (List Int) × Int × Int × (List Int) × Int × (List Int) × Int × Int × Int × Int × (List Int)) (next : ((List Int) × Int × Int × (List Int) × Int × (List Int) × Int × Int × Int × Int × (List Int)) → Option ρ) (ex : (((List Int) × Int × Int × (List Int) × Int × (List Int) × Int × Int × Int × Int × (List Int))) → Option ρ) => lmots_Sign_r7 x.1 x.2.1 x.2.2.1 x.2.2.2.1 x.2.2.2.2.1 x.2.2.2.2.2.1 x.2.2.2.2.2.2.1 x.2.2.2.2.2.2.2.1 x.2.2.2.2.2.2.2.2.1 x.2.2.2.2.2.2.2.2.2.1 x.2.2.2.2.2.2.2.2.2.2 (fun v3 v44 v45 h40 h0_0 h0_1 h0_2 h0_3 h0_4 h0_5 h5 => next (v3, v44, v45, h40, h0_0, h0_1, h0_2, h0_3, h0_4, h0_5, h5)) (fun v3 v44 v45 h40 h0_0 h0_1 h0_2 h0_3 h0_4 h0_5 h5 => ex ((v3, v44, v45, h40, h0_0, h0_1, h0_2, h0_3, h0_4, h0_5, h5)))) (v3, v44, v45, h40, h0_0, h0_1, h0_2, h0_3, h0_4, h0_5, h5) (fun x => k0 x.1 x.2.1 x.2.2.1 x.2.2.2.1 x.2.2.2.2.1 x.2.2.2.2.2.1 x.2.2.2.2.2.2.1 x.2.2.2.2.2.2.2.1 x.2.2.2.2.2.2.2.2.1 x.2.2.2.2.2.2.2.2.2.1 x.2.2.2.2.2.2.2.2.2.2)
noncomputable def lmots_Sign_l7 {ρ : Type} (v3 : List Int) (v44 : Int) (v45 : Int) (h40 : List Int) (h0_0 : Int) (h0_1 : List Int) (h0_2 : Int) (h0_3 : Int) (h0_4 : Int) (h0_5 : Int) (h5 : List Int) (k0 : (List Int) → Int → Int → (List Int) → Int → (List Int) → Int → Int → Int → Int → (List Int) → Option ρ) : Option ρ := shut (lmots_Sign_L7 (ρ := ρ)) v3 v44 v45 h40 h0_0 h0_1 h0_2 h0_3 h0_4 h0_5 h5 k0
theorem lmots_Sign_l7_eq {ρ : Type} (v3 : List Int) (v44 : Int) (v45 : Int) (h40 : List Int) (h0_0 : Int) (h0_1 : List Int) (h0_2 : Int) (h0_3 : Int) (h0_4 : Int) (h0_5 : Int) (h5 : List Int) (k0 : (List Int) → Int → Int → (List Int) → Int → (List Int) → Int → Int → Int → Int → (List Int) → Option ρ) : lmots_Sign_l7 v3 v44 v45 h40 h0_0 h0_1 h0_2 h0_3 h0_4 h0_5 h5 k0 = lmots_Sign_L7 v3 v44 v45 h40 h0_0 h0_1 h0_2 h0_3 h0_4 h0_5 h5 k0 := by unfold lmots_Sign_l7; rw [shut_eq]
noncomputable def lmots_Sign_raw {ρ : Type} (a0 : Int) (a1 : List Int) (a2 : Int) (a3 : List Int) (a4 : List Int) (k : (List Int) → Int → Option ρ) : Option ρ :=
  lmots_seeded a0 a1 a2 a3 fun (q0 : Int) (q1 : List Int) (q2 q3 q4 q5 q6 : Int) =>
    br (q6 != (0 : Int)) (k [] q6)
      (lmots_leaf_part q0 q1 q2 q3 q4 q5 (65533 : Int) a3 fun (q7 : List Int) =>
        bits_Be (IntKind.u64.wrap q5) (4 : Int) fun (q8 : List Int) =>
          bits_Join [q8, q7] fun (q9 : List Int) =>
            lmots_leaf_digitsOf q0 q1 q2 q3 q4 q5 q7 a4 fun (q10 : List Int) =>
              lmots_Sign_l7 a3 (↑q10.length : Int) (0 : Int) q9 q0 q1 q2 q3 q4 q5 q10
                fun (q11 : List Int) (q12 q13 : Int) (q14 : List Int) (q15 : Int) (q16 : List Int) (q17 q18 q19 q20 : Int)
                  (q21 : List Int) =>
                k q14 (0 : Int))
noncomputable def lmots_Sign {ρ : Type} (a0 : Int) (a1 : List Int) (a2 : Int) (a3 : List Int) (a4 : List Int) (k : (List Int) → Int → Option ρ) : Option ρ := shut (lmots_Sign_raw (ρ := ρ)) a0 a1 a2 a3 a4 k
theorem lmots_Sign_eq {ρ : Type} (a0 : Int) (a1 : List Int) (a2 : Int) (a3 : List Int) (a4 : List Int) (k : (List Int) → Int → Option ρ) : lmots_Sign a0 a1 a2 a3 a4 k = lmots_Sign_raw a0 a1 a2 a3 a4 k := by unfold lmots_Sign; rw [shut_eq]
end P
end

section
open Go Go.Abs
set_option linter.unusedVariables false
namespace P
noncomputable def R01_such_raw {ρ : Type} (a0 : List Int) (a1 : Int) (a2 : Int) (k : Bool → Option ρ) : Option ρ :=
  br (decide (a1 ≥ (1 : Int)))
    (br (decide (a1 ≤ (24 : Int)))
      (br (decide (a2 ≥ (0 : Int)))
        (br (decide (a1 = (0 : Int))) none
          (k (decide (a2 ≤ IntKind.i64.wrap ((IntKind.i64.wrap ((↑a0.length : Int) * (8 : Int))).tdiv a1)))))
        (k false))
      (k false))
    (k false)
noncomputable def R01_such {ρ : Type} (a0 : List Int) (a1 : Int) (a2 : Int) (k : Bool → Option ρ) : Option ρ := shut (R01_such_raw (ρ := ρ)) a0 a1 a2 k
theorem R01_such_eq {ρ : Type} (a0 : List Int) (a1 : Int) (a2 : Int) (k : Bool → Option ρ) : R01_such a0 a1 a2 k = R01_such_raw a0 a1 a2 k := by unfold R01_such; rw [shut_eq]
end P
end
