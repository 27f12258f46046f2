/-
  WotsTells, part H: an interpreter of my own over abstract values, the pure functions, the walks and the plain law.
-/

import Derived.Test.YtjhnljhjpnjieaaDoorWotsTellsF
import Derived.Test.YtjhnljhjpnjieaaDoorWotsTellsG

section
open Go Go.Abs
set_option linter.unusedVariables false
namespace P
noncomputable def sha_engine_uint32_block_r4 {ρ : Type} (v2 : List Int) (v8 : Int) (v19 : Int) (h0_0 : Int) (h0_1 : Int) (h0_2 : List Int) (h0_3 : List Int) (h0_4 : List Int) (h0_5 : List Int) (h1_0 : List Int) (h2_0 : List Int) (h3_0 : List Int) (nx : (List Int) → Int → Int → Int → Int → (List Int) → (List Int) → (List Int) → (List Int) → (List Int) → (List Int) → (List Int) → Option ρ) (k0 : (List Int) → Int → Int → Int → Int → (List Int) → (List Int) → (List Int) → (List Int) → (List Int) → (List Int) → (List Int) → Option ρ) : Option ρ :=
 br (decide (v19 < (16 : Int)))
 (br (decide ((0 : Int) ≤ IntKind.i64.wrap (v19 * v8)))
  (br (decide (IntKind.i64.wrap (v19 * v8) ≤ IntKind.i64.wrap (IntKind.i64.wrap (v19 + (1 : Int)) * v8)))
   (br (decide (IntKind.i64.wrap (IntKind.i64.wrap (v19 + (1 : Int)) * v8) ≤ (↑v2.length : Int)))
    (bits_Num
     (List.drop (IntKind.i64.wrap (v19 * v8)).toNat
      (List.take (IntKind.i64.wrap (IntKind.i64.wrap (v19 + (1 : Int)) * v8)).toNat v2))
     fun (q0 : Int) =>
     br (decide ((0 : Int) ≤ v19))
      (br (decide (v19 < (↑16 : Int)))
       (nx v2 v8 (IntKind.i64.wrap (v19 + (1 : Int))) h0_0 h0_1 h0_2 h0_3 h0_4 h0_5 h1_0 h2_0
        (h3_0.set v19.toNat (IntKind.u32.wrap q0)))
       none)
      none)
    none)
   none)
  none)
 (k0 v2 v8 v19 h0_0 h0_1 h0_2 h0_3 h0_4 h0_5 h1_0 h2_0 h3_0)
noncomputable def sha_engine_uint32_block_L4 {ρ : Type} (v2 : List Int) (v8 : Int) (v19 : Int) (h0_0 : Int) (h0_1 : Int) (h0_2 : List Int) (h0_3 : List Int) (h0_4 : List Int) (h0_5 : List Int) (h1_0 : List Int) (h2_0 : List Int) (h3_0 : List Int) (k0 : (List Int) → Int → Int → Int → Int → (List Int) → (List Int) → (List Int) → (List Int) → (List Int) → (List Int) → (List Int) → Option ρ) : Option ρ :=
 lp (fun (x : (List Int) × Int × Int × Int × Int × (List Int) × (List Int) × (List Int) × (List Int) × (List Int) × (List Int) × (List Int)) next (ex : ((List Int) × Int × Int × Int × Int × (List Int) × (List Int) × (List Int) × (List Int) × (List Int) × (List Int) × (List Int)) → Option ρ) => sha_engine_uint32_block_r4 x.1 x.2.1 x.2.2.1 x.2.2.2.1 x.2.2.2.2.1 x.2.2.2.2.2.1 x.2.2.2.2.2.2.1 x.2.2.2.2.2.2.2.1 x.2.2.2.2.2.2.2.2.1 x.2.2.2.2.2.2.2.2.2.1 x.2.2.2.2.2.2.2.2.2.2.1 x.2.2.2.2.2.2.2.2.2.2.2 (fun v2 v8 v19 h0_0 h0_1 h0_2 h0_3 h0_4 h0_5 h1_0 h2_0 h3_0 => next (v2, v8, v19, h0_0, h0_1, h0_2, h0_3, h0_4, h0_5, h1_0, h2_0, h3_0)) (fun v2 v8 v19 h0_0 h0_1 h0_2 h0_3 h0_4 h0_5 h1_0 h2_0 h3_0 => ex (v2, v8, v19, h0_0, h0_1, h0_2, h0_3, h0_4, h0_5, h1_0, h2_0, h3_0))) (v2, v8, v19, h0_0, h0_1, h0_2, h0_3, h0_4, h0_5, h1_0, h2_0, h3_0) (fun x => k0 x.1 x.2.1 x.2.2.1 x.2.2.2.1 x.2.2.2.2.1 x.2.2.2.2.2.1 x.2.2.2.2.2.2.1 x.2.2.2.2.2.2.2.1 x.2.2.2.2.2.2.2.2.1 x.2.2.2.2.2.2.2.2.2.1 x.2.2.2.2.2.2.2.2.2.2.1 x.2.2.2.2.2.2.2.2.2.2.2)
noncomputable def sha_engine_uint32_block_l4 {ρ : Type} := shut (sha_engine_uint32_block_L4 (ρ := ρ))
theorem sha_engine_uint32_block_l4_eq {ρ : Type} : sha_engine_uint32_block_l4 (ρ := ρ) = sha_engine_uint32_block_L4 := shut_eq _
noncomputable def sha_engine_uint32_block_r10 {ρ : Type} (v38 : Int) (v39 : Int) (h3_0 : List Int) (h2_0 : List Int) (h1_0 : List Int) (h0_0 : Int) (h0_1 : Int) (h0_2 : List Int) (h0_3 : List Int) (h0_4 : List Int) (h0_5 : List Int) (h4_0 : List Int) (nx : Int → Int → (List Int) → (List Int) → (List Int) → Int → Int → (List Int) → (List Int) → (List Int) → (List Int) → (List Int) → Option ρ) (k0 : Int → Int → (List Int) → (List Int) → (List Int) → Int → Int → (List Int) → (List Int) → (List Int) → (List Int) → (List Int) → Option ρ) : Option ρ :=
 br (decide (v39 < v38))
 (br (decide ((0 : Int) ≤ v39.tmod (16 : Int)))
  (br (decide (v39.tmod (16 : Int) < (↑16 : Int)))
   (sha_engine_uint32_high h0_0 h0_1 h0_2 h0_3 h0_4 h0_5 (h4_0.getD 4 (0 : Int)) (3 : Int)
    fun (q0 : Int) =>
    sha_root256 v39 fun (q1 : Int) =>
     sha_engine_uint32_high h0_0 h0_1 h0_2 h0_3 h0_4 h0_5 (h4_0.getD 0 (0 : Int)) (2 : Int)
      fun (q2 : Int) =>
      br (decide ((0 : Int) ≤ (IntKind.i64.wrap (v39 + (1 : Int))).tmod (16 : Int)))
       (br (decide ((IntKind.i64.wrap (v39 + (1 : Int))).tmod (16 : Int) < (↑16 : Int)))
        (sha_engine_uint32_low h0_0 h0_1 h0_2 h0_3 h0_4 h0_5
         (h3_0.getD ((IntKind.i64.wrap (v39 + (1 : Int))).tmod (16 : Int)).toNat (0 : Int)) (0 : Int)
         fun (q3 : Int) =>
         br (decide ((0 : Int) ≤ (IntKind.i64.wrap (v39 + (9 : Int))).tmod (16 : Int)))
          (br (decide ((IntKind.i64.wrap (v39 + (9 : Int))).tmod (16 : Int) < (↑16 : Int)))
           (br (decide ((0 : Int) ≤ (IntKind.i64.wrap (v39 + (14 : Int))).tmod (16 : Int)))
            (br (decide ((IntKind.i64.wrap (v39 + (14 : Int))).tmod (16 : Int) < (↑16 : Int)))
             (sha_engine_uint32_low h0_0 h0_1 h0_2 h0_3 h0_4 h0_5
              (h3_0.getD ((IntKind.i64.wrap (v39 + (14 : Int))).tmod (16 : Int)).toNat (0 : Int))
              (1 : Int) fun (q4 : Int) =>
              br (decide ((0 : Int) ≤ v39.tmod (16 : Int)))
               (br (decide (v39.tmod (16 : Int) < (↑16 : Int)))
                (nx v38 (IntKind.i64.wrap (v39 + (1 : Int)))
                 (h3_0.set (v39.tmod (16 : Int)).toNat
                  (IntKind.u32.wrap
                   (IntKind.u32.wrap
                     (IntKind.u32.wrap (h3_0.getD (v39.tmod (16 : Int)).toNat (0 : Int) + q3) +
                      h3_0.getD ((IntKind.i64.wrap (v39 + (9 : Int))).tmod (16 : Int)).toNat
                       (0 : Int)) +
                    q4)))
                 h2_0 h1_0 h0_0 h0_1 h0_2 h0_3 h0_4 h0_5
                 ((((List.take 1 h4_0).append
                      (List.take 7
                        (List.take 7 (List.drop 0 h4_0)) ++
                       List.drop
                        (1 +
                         min 7
                          (List.take 7 (List.drop 0 h4_0)).length)
                        h4_0)).set
                    4
                    (IntKind.u32.wrap
                     (((List.take 1 h4_0).append
                         (List.take 7
                           (List.take 7 (List.drop 0 h4_0)) ++
                          List.drop
                           (1 +
                            min 7
                             (List.take 7 (List.drop 0 h4_0)).length)
                           h4_0)).getD
                       4 (0 : Int) +
                      IntKind.u32.wrap
                       (IntKind.u32.wrap
                         (IntKind.u32.wrap
                           (IntKind.u32.wrap (h4_0.getD 7 (0 : Int) + q0) +
                            bits BinOp.xor IntKind.u32 (h4_0.getD 6 (0 : Int))
                             (bits BinOp.and IntKind.u32 (h4_0.getD 4 (0 : Int))
                              (bits BinOp.xor IntKind.u32
                               (h4_0.getD 5 (0 : Int))
                               (h4_0.getD 6 (0 : Int))))) +
                          q1) +
                        h3_0.getD (v39.tmod (16 : Int)).toNat (0 : Int))))).set
                  0
                  (IntKind.u32.wrap
                   (IntKind.u32.wrap
                     (IntKind.u32.wrap
                       (IntKind.u32.wrap
                         (IntKind.u32.wrap (h4_0.getD 7 (0 : Int) + q0) +
                          bits BinOp.xor IntKind.u32 (h4_0.getD 6 (0 : Int))
                           (bits BinOp.and IntKind.u32 (h4_0.getD 4 (0 : Int))
                            (bits BinOp.xor IntKind.u32 (h4_0.getD 5 (0 : Int))
                             (h4_0.getD 6 (0 : Int))))) +
                        q1) +
                      h3_0.getD (v39.tmod (16 : Int)).toNat (0 : Int)) +
                    IntKind.u32.wrap
                     (q2 +
                      bits BinOp.or IntKind.u32
                       (bits BinOp.and IntKind.u32 (h4_0.getD 0 (0 : Int))
                        (h4_0.getD 1 (0 : Int)))
                       (bits BinOp.and IntKind.u32 (h4_0.getD 2 (0 : Int))
                        (bits BinOp.or IntKind.u32 (h4_0.getD 0 (0 : Int))
                         (h4_0.getD 1 (0 : Int)))))))))
                none)
               none)
             none)
            none)
           none)
          none)
        none)
       none)
   none)
  none)
 (k0 v38 v39 h3_0 h2_0 h1_0 h0_0 h0_1 h0_2 h0_3 h0_4 h0_5 h4_0)
noncomputable def sha_engine_uint32_block_L10 {ρ : Type} (v38 : Int) (v39 : Int) (h3_0 : List Int) (h2_0 : List Int) (h1_0 : List Int) (h0_0 : Int) (h0_1 : Int) (h0_2 : List Int) (h0_3 : List Int) (h0_4 : List Int) (h0_5 : List Int) (h4_0 : List Int) (k0 : Int → Int → (List Int) → (List Int) → (List Int) → Int → Int → (List Int) → (List Int) → (List Int) → (List Int) → (List Int) → Option ρ) : Option ρ :=
 lp (fun (x : Int × Int × (List Int) × (List Int) × (List Int) × Int × Int × (List Int) × (List Int) × (List Int) × (List Int) × (List Int)) next (ex : (Int × Int × (List Int) × (List Int) × (List Int) × Int × Int × (List Int) × (List Int) × (List Int) × (List Int) × (List Int)) → Option ρ) => sha_engine_uint32_block_r10 x.1 x.2.1 x.2.2.1 x.2.2.2.1 x.2.2.2.2.1 x.2.2.2.2.2.1 x.2.2.2.2.2.2.1 x.2.2.2.2.2.2.2.1 x.2.2.2.2.2.2.2.2.1 x.2.2.2.2.2.2.2.2.2.1 x.2.2.2.2.2.2.2.2.2.2.1 x.2.2.2.2.2.2.2.2.2.2.2 (fun v38 v39 h3_0 h2_0 h1_0 h0_0 h0_1 h0_2 h0_3 h0_4 h0_5 h4_0 => next (v38, v39, h3_0, h2_0, h1_0, h0_0, h0_1, h0_2, h0_3, h0_4, h0_5, h4_0)) (fun v38 v39 h3_0 h2_0 h1_0 h0_0 h0_1 h0_2 h0_3 h0_4 h0_5 h4_0 => ex (v38, v39, h3_0, h2_0, h1_0, h0_0, h0_1, h0_2, h0_3, h0_4, h0_5, h4_0))) (v38, v39, h3_0, h2_0, h1_0, h0_0, h0_1, h0_2, h0_3, h0_4, h0_5, h4_0) (fun x => k0 x.1 x.2.1 x.2.2.1 x.2.2.2.1 x.2.2.2.2.1 x.2.2.2.2.2.1 x.2.2.2.2.2.2.1 x.2.2.2.2.2.2.2.1 x.2.2.2.2.2.2.2.2.1 x.2.2.2.2.2.2.2.2.2.1 x.2.2.2.2.2.2.2.2.2.2.1 x.2.2.2.2.2.2.2.2.2.2.2)
noncomputable def sha_engine_uint32_block_l10 {ρ : Type} := shut (sha_engine_uint32_block_L10 (ρ := ρ))
theorem sha_engine_uint32_block_l10_eq {ρ : Type} : sha_engine_uint32_block_l10 (ρ := ρ) = sha_engine_uint32_block_L10 := shut_eq _
noncomputable def sha_engine_uint32_block_r21 {ρ : Type} (v130 : Int) (h1_0 : List Int) (h2_0 : List Int) (h4_0 : List Int) (nx : Int → (List Int) → (List Int) → (List Int) → Option ρ) (k0 : Int → (List Int) → (List Int) → (List Int) → Option ρ) : Option ρ :=
 br (decide (v130 < (8 : Int)))
 (br (decide ((0 : Int) ≤ v130))
  (br (decide (v130 < (↑8 : Int)))
   (br (decide ((0 : Int) ≤ v130))
    (br (decide (v130 < (↑8 : Int)))
     (br (decide ((0 : Int) ≤ v130))
      (br (decide (v130 < (↑8 : Int)))
       (nx (IntKind.i64.wrap (v130 + (1 : Int))) h1_0 h2_0
        (h4_0.set v130.toNat
         (IntKind.u32.wrap (h4_0.getD v130.toNat (0 : Int) + h1_0.getD v130.toNat (0 : Int)))))
       none)
      none)
     none)
    none)
   none)
  none)
 (k0 v130 h1_0 h2_0 h4_0)
noncomputable def sha_engine_uint32_block_L21 {ρ : Type} (v130 : Int) (h1_0 : List Int) (h2_0 : List Int) (h4_0 : List Int) (k0 : Int → (List Int) → (List Int) → (List Int) → Option ρ) : Option ρ :=
 lp (fun (x : Int × (List Int) × (List Int) × (List Int)) next (ex : (Int × (List Int) × (List Int) × (List Int)) → Option ρ) => sha_engine_uint32_block_r21 x.1 x.2.1 x.2.2.1 x.2.2.2 (fun v130 h1_0 h2_0 h4_0 => next (v130, h1_0, h2_0, h4_0)) (fun v130 h1_0 h2_0 h4_0 => ex (v130, h1_0, h2_0, h4_0))) (v130, h1_0, h2_0, h4_0) (fun x => k0 x.1 x.2.1 x.2.2.1 x.2.2.2)
noncomputable def sha_engine_uint32_block_l21 {ρ : Type} := shut (sha_engine_uint32_block_L21 (ρ := ρ))
theorem sha_engine_uint32_block_l21_eq {ρ : Type} : sha_engine_uint32_block_l21 (ρ := ρ) = sha_engine_uint32_block_L21 := shut_eq _
noncomputable def sha_engine_uint32_block_raw {ρ : Type} (a0_bits : Int) (a0_rounds : Int) (a0_turns_0 : List Int) (a0_turns_1 : List Int) (a0_turns_2 : List Int) (a0_turns_3 : List Int) (a1 : List Int) (a2 : List Int) (k : (List Int) → Option ρ) : Option ρ :=
 sha_engine_uint32_block_l4 a2 (IntKind.i64.wrap (a0_bits.tdiv (8 : Int))) (0 : Int) a0_bits a0_rounds a0_turns_0
 a0_turns_1 a0_turns_2 a0_turns_3 a1
 [(0 : Int), (0 : Int), (0 : Int), (0 : Int), (0 : Int), (0 : Int), (0 : Int), (0 : Int)]
 [(0 : Int), (0 : Int), (0 : Int), (0 : Int), (0 : Int), (0 : Int), (0 : Int), (0 : Int), (0 : Int), (0 : Int),
  (0 : Int), (0 : Int), (0 : Int), (0 : Int), (0 : Int), (0 : Int)]
 fun (q0 : List Int) (q1 q2 q3 q4 : Int) (q5 q6 q7 q8 q9 q10 q11 : List Int) =>
 sha_engine_uint32_block_l10 q4 (0 : Int) q11 q10 q9 q3 q4 q5 q6 q7 q8 q9
  fun (q12 q13 : Int) (q14 q15 q16 : List Int) (q17 q18 : Int) (q19 q20 q21 q22 q23 : List Int) =>
  sha_engine_uint32_block_l21 (0 : Int) q16 q15 q23 fun (q24 : Int) (q25 q26 q27 : List Int) => k q27
noncomputable def sha_engine_uint32_block {ρ : Type} := shut (sha_engine_uint32_block_raw (ρ := ρ))
theorem sha_engine_uint32_block_eq {ρ : Type} (a0_bits : Int) (a0_rounds : Int) (a0_turns_0 : List Int) (a0_turns_1 : List Int) (a0_turns_2 : List Int) (a0_turns_3 : List Int) (a1 : List Int) (a2 : List Int) (k : (List Int) → Option ρ) : sha_engine_uint32_block a0_bits a0_rounds a0_turns_0 a0_turns_1 a0_turns_2 a0_turns_3 a1 a2 k = sha_engine_uint32_block_raw a0_bits a0_rounds a0_turns_0 a0_turns_1 a0_turns_2 a0_turns_3 a1 a2 k := by unfold sha_engine_uint32_block; rw [shut_eq]
end P
end

section
open Go Go.Abs
set_option linter.unusedVariables false
namespace P
noncomputable def sha_through_uint32_r3 {ρ : Type} (v2 : List Int) (v14 : List Int) (v15 : Int) (h0_0 : Int) (h0_1 : Int) (h0_2 : List Int) (h0_3 : List Int) (h0_4 : List Int) (h0_5 : List Int) (h1_0 : List Int) (h2_0 : List Int) (h3_0 : List Int) (nx : (List Int) → (List Int) → Int → Int → Int → (List Int) → (List Int) → (List Int) → (List Int) → (List Int) → (List Int) → (List Int) → Option ρ) (k0 : (List Int) → (List Int) → Int → Int → Int → (List Int) → (List Int) → (List Int) → (List Int) → (List Int) → (List Int) → (List Int) → Option ρ) : Option ρ :=
 br (decide (v15 < (8 : Int)))
 (br (decide ((0 : Int) ≤ v15))
  (br (decide (v15 < (↑8 : Int)))
   (br (decide ((0 : Int) ≤ v15))
    (br (decide (v15 < (↑8 : Int)))
     (nx v2 v14 (IntKind.i64.wrap (v15 + (1 : Int))) h0_0 h0_1 h0_2 h0_3 h0_4 h0_5 h1_0 h2_0
      (h3_0.set v15.toNat (IntKind.u32.wrap (v14.getD v15.toNat (0 : Int)))))
     none)
    none)
   none)
  none)
 (k0 v2 v14 v15 h0_0 h0_1 h0_2 h0_3 h0_4 h0_5 h1_0 h2_0 h3_0)
noncomputable def sha_through_uint32_L3 {ρ : Type} (v2 : List Int) (v14 : List Int) (v15 : Int) (h0_0 : Int) (h0_1 : Int) (h0_2 : List Int) (h0_3 : List Int) (h0_4 : List Int) (h0_5 : List Int) (h1_0 : List Int) (h2_0 : List Int) (h3_0 : List Int) (k0 : (List Int) → (List Int) → Int → Int → Int → (List Int) → (List Int) → (List Int) → (List Int) → (List Int) → (List Int) → (List Int) → Option ρ) : Option ρ :=
 lp (fun (x : (List Int) × (List Int) × Int × Int × Int × (List Int) × (List Int) × (List Int) × (List Int) × (List Int) × (List Int) × (List Int)) next (ex : ((List Int) × (List Int) × Int × Int × Int × (List Int) × (List Int) × (List Int) × (List Int) × (List Int) × (List Int) × (List Int)) → Option ρ) => sha_through_uint32_r3 x.1 x.2.1 x.2.2.1 x.2.2.2.1 x.2.2.2.2.1 x.2.2.2.2.2.1 x.2.2.2.2.2.2.1 x.2.2.2.2.2.2.2.1 x.2.2.2.2.2.2.2.2.1 x.2.2.2.2.2.2.2.2.2.1 x.2.2.2.2.2.2.2.2.2.2.1 x.2.2.2.2.2.2.2.2.2.2.2 (fun v2 v14 v15 h0_0 h0_1 h0_2 h0_3 h0_4 h0_5 h1_0 h2_0 h3_0 => next (v2, v14, v15, h0_0, h0_1, h0_2, h0_3, h0_4, h0_5, h1_0, h2_0, h3_0)) (fun v2 v14 v15 h0_0 h0_1 h0_2 h0_3 h0_4 h0_5 h1_0 h2_0 h3_0 => ex (v2, v14, v15, h0_0, h0_1, h0_2, h0_3, h0_4, h0_5, h1_0, h2_0, h3_0))) (v2, v14, v15, h0_0, h0_1, h0_2, h0_3, h0_4, h0_5, h1_0, h2_0, h3_0) (fun x => k0 x.1 x.2.1 x.2.2.1 x.2.2.2.1 x.2.2.2.2.1 x.2.2.2.2.2.1 x.2.2.2.2.2.2.1 x.2.2.2.2.2.2.2.1 x.2.2.2.2.2.2.2.2.1 x.2.2.2.2.2.2.2.2.2.1 x.2.2.2.2.2.2.2.2.2.2.1 x.2.2.2.2.2.2.2.2.2.2.2)
noncomputable def sha_through_uint32_l3 {ρ : Type} := shut (sha_through_uint32_L3 (ρ := ρ))
theorem sha_through_uint32_l3_eq {ρ : Type} : sha_through_uint32_l3 (ρ := ρ) = sha_through_uint32_L3 := shut_eq _
noncomputable def sha_through_uint32_r8 {ρ : Type} (v2 : List Int) (v11 : Int) (h3_0 : List Int) (h2_0 : List Int) (h1_0 : List Int) (h0_0 : Int) (h0_1 : Int) (h0_2 : List Int) (h0_3 : List Int) (h0_4 : List Int) (h0_5 : List Int) (nx : (List Int) → Int → (List Int) → (List Int) → (List Int) → Int → Int → (List Int) → (List Int) → (List Int) → (List Int) → Option ρ) (k0 : (List Int) → Int → (List Int) → (List Int) → (List Int) → Int → Int → (List Int) → (List Int) → (List Int) → (List Int) → Option ρ) : Option ρ :=
 br (decide ((↑v2.length : Int) ≥ v11))
 (br (decide ((0 : Int) ≤ v11))
  (br (decide (v11 ≤ (↑v2.length : Int)))
   (sha_engine_uint32_block h0_0 h0_1 h0_2 h0_3 h0_4 h0_5 h3_0 (List.drop 0 (List.take v11.toNat v2))
    fun (q0 : List Int) =>
    br (decide ((0 : Int) ≤ v11))
     (br (decide (v11 ≤ (↑v2.length : Int)))
      (br (decide ((↑v2.length : Int) ≤ (↑v2.length : Int)))
       (nx (List.drop v11.toNat (List.take (↑v2.length : Int).toNat v2)) v11 q0 h2_0 h1_0 h0_0 h0_1 h0_2 h0_3
        h0_4 h0_5)
       none)
      none)
     none)
   none)
  none)
 (k0 v2 v11 h3_0 h2_0 h1_0 h0_0 h0_1 h0_2 h0_3 h0_4 h0_5)
noncomputable def sha_through_uint32_L8 {ρ : Type} (v2 : List Int) (v11 : Int) (h3_0 : List Int) (h2_0 : List Int) (h1_0 : List Int) (h0_0 : Int) (h0_1 : Int) (h0_2 : List Int) (h0_3 : List Int) (h0_4 : List Int) (h0_5 : List Int) (k0 : (List Int) → Int → (List Int) → (List Int) → (List Int) → Int → Int → (List Int) → (List Int) → (List Int) → (List Int) → Option ρ) : Option ρ :=
 lp (fun (x : (List Int) × Int × (List Int) × (List Int) × (List Int) × Int × Int × (List Int) × (List Int) × (List Int) × (List Int)) next (ex : ((List Int) × Int × (List Int) × (List Int) × (List Int) × Int × Int × (List Int) × (List Int) × (List Int) × (List Int)) → Option ρ) => sha_through_uint32_r8 x.1 x.2.1 x.2.2.1 x.2.2.2.1 x.2.2.2.2.1 x.2.2.2.2.2.1 x.2.2.2.2.2.2.1 x.2.2.2.2.2.2.2.1 x.2.2.2.2.2.2.2.2.1 x.2.2.2.2.2.2.2.2.2.1 x.2.2.2.2.2.2.2.2.2.2 (fun v2 v11 h3_0 h2_0 h1_0 h0_0 h0_1 h0_2 h0_3 h0_4 h0_5 => next (v2, v11, h3_0, h2_0, h1_0, h0_0, h0_1, h0_2, h0_3, h0_4, h0_5)) (fun v2 v11 h3_0 h2_0 h1_0 h0_0 h0_1 h0_2 h0_3 h0_4 h0_5 => ex (v2, v11, h3_0, h2_0, h1_0, h0_0, h0_1, h0_2, h0_3, h0_4, h0_5))) (v2, v11, h3_0, h2_0, h1_0, h0_0, h0_1, h0_2, h0_3, h0_4, h0_5) (fun x => k0 x.1 x.2.1 x.2.2.1 x.2.2.2.1 x.2.2.2.2.1 x.2.2.2.2.2.1 x.2.2.2.2.2.2.1 x.2.2.2.2.2.2.2.1 x.2.2.2.2.2.2.2.2.1 x.2.2.2.2.2.2.2.2.2.1 x.2.2.2.2.2.2.2.2.2.2)
noncomputable def sha_through_uint32_l8 {ρ : Type} := shut (sha_through_uint32_L8 (ρ := ρ))
theorem sha_through_uint32_l8_eq {ρ : Type} : sha_through_uint32_l8 (ρ := ρ) = sha_through_uint32_L8 := shut_eq _
noncomputable def sha_through_uint32_r12 {ρ : Type} (v2 : List Int) (v40 : List Int) (v41 : Int) (h1_0 : List Int) (h2_0 : List Int) (nx : (List Int) → (List Int) → Int → (List Int) → (List Int) → Option ρ) (k0 : (List Int) → (List Int) → Int → (List Int) → (List Int) → Option ρ) : Option ρ :=
 br (decide (v41 < (8 : Int)))
 (br (decide ((0 : Int) ≤ v41))
  (br (decide (v41 < (↑8 : Int)))
   (br (decide ((0 : Int) ≤ v41))
    (br (decide (v41 < (↑8 : Int)))
     (nx v2 v40 (IntKind.i64.wrap (v41 + (1 : Int)))
      (h1_0.set v41.toNat (IntKind.u64.wrap (v40.getD v41.toNat (0 : Int)))) h2_0)
     none)
    none)
   none)
  none)
 (k0 v2 v40 v41 h1_0 h2_0)
noncomputable def sha_through_uint32_L12 {ρ : Type} (v2 : List Int) (v40 : List Int) (v41 : Int) (h1_0 : List Int) (h2_0 : List Int) (k0 : (List Int) → (List Int) → Int → (List Int) → (List Int) → Option ρ) : Option ρ :=
 lp (fun (x : (List Int) × (List Int) × Int × (List Int) × (List Int)) next (ex : ((List Int) × (List Int) × Int × (List Int) × (List Int)) → Option ρ) => sha_through_uint32_r12 x.1 x.2.1 x.2.2.1 x.2.2.2.1 x.2.2.2.2 (fun v2 v40 v41 h1_0 h2_0 => next (v2, v40, v41, h1_0, h2_0)) (fun v2 v40 v41 h1_0 h2_0 => ex (v2, v40, v41, h1_0, h2_0))) (v2, v40, v41, h1_0, h2_0) (fun x => k0 x.1 x.2.1 x.2.2.1 x.2.2.2.1 x.2.2.2.2)
noncomputable def sha_through_uint32_l12 {ρ : Type} := shut (sha_through_uint32_L12 (ρ := ρ))
theorem sha_through_uint32_l12_eq {ρ : Type} : sha_through_uint32_l12 (ρ := ρ) = sha_through_uint32_L12 := shut_eq _
noncomputable def sha_through_uint32_raw {ρ : Type} (a0_bits : Int) (a0_rounds : Int) (a0_turns_0 : List Int) (a0_turns_1 : List Int) (a0_turns_2 : List Int) (a0_turns_3 : List Int) (a1 : List Int) (a2 : List Int) (k : (List Int) → (List Int) → Option ρ) : Option ρ :=
 sha_through_uint32_l3 a2 a1 (0 : Int) a0_bits a0_rounds a0_turns_0 a0_turns_1 a0_turns_2 a0_turns_3 a1
 [(0 : Int), (0 : Int), (0 : Int), (0 : Int), (0 : Int), (0 : Int), (0 : Int), (0 : Int)]
 [(0 : Int), (0 : Int), (0 : Int), (0 : Int), (0 : Int), (0 : Int), (0 : Int), (0 : Int)]
 fun (q0 q1 : List Int) (q2 q3 q4 : Int) (q5 q6 q7 q8 q9 q10 q11 : List Int) =>
 sha_through_uint32_l8 q0 (IntKind.i64.wrap (q3 * (2 : Int))) q11 q10 q9 q3 q4 q5 q6 q7 q8
  fun (q12 : List Int) (q13 : Int) (q14 q15 q16 : List Int) (q17 q18 : Int) (q19 q20 q21 q22 : List Int) =>
  sha_through_uint32_l12 q12 q14 (0 : Int) q16 q15 fun (q23 q24 : List Int) (q25 : Int) (q26 q27 : List Int) =>
   k q26 q23
noncomputable def sha_through_uint32 {ρ : Type} := shut (sha_through_uint32_raw (ρ := ρ))
theorem sha_through_uint32_eq {ρ : Type} (a0_bits : Int) (a0_rounds : Int) (a0_turns_0 : List Int) (a0_turns_1 : List Int) (a0_turns_2 : List Int) (a0_turns_3 : List Int) (a1 : List Int) (a2 : List Int) (k : (List Int) → (List Int) → Option ρ) : sha_through_uint32 a0_bits a0_rounds a0_turns_0 a0_turns_1 a0_turns_2 a0_turns_3 a1 a2 k = sha_through_uint32_raw a0_bits a0_rounds a0_turns_0 a0_turns_1 a0_turns_2 a0_turns_3 a1 a2 k := by unfold sha_through_uint32; rw [shut_eq]
end P
end

section
open Go Go.Abs
set_option linter.unusedVariables false
namespace P
noncomputable def sha_small_raw {ρ : Type}  (k : Int → Int → (List Int) → (List Int) → (List Int) → (List Int) → Option ρ) : Option ρ :=
 k (32 : Int) (64 : Int) [(7 : Int), (18 : Int), (3 : Int)] [(17 : Int), (19 : Int), (10 : Int)]
 [(2 : Int), (13 : Int), (22 : Int)] [(6 : Int), (11 : Int), (25 : Int)]
noncomputable def sha_small {ρ : Type} := shut (sha_small_raw (ρ := ρ))
theorem sha_small_eq {ρ : Type}  (k : Int → Int → (List Int) → (List Int) → (List Int) → (List Int) → Option ρ) : sha_small  k = sha_small_raw  k := by unfold sha_small; rw [shut_eq]
end P
end

section
open Go Go.Abs
set_option linter.unusedVariables false
namespace P
noncomputable def sha_root512_raw {ρ : Type} (a0 : Int) (k : Int → Option ρ) : Option ρ :=
 br (decide ((0 : Int) ≤ a0)) (br (decide (a0 < (↑80 : Int))) (k (roots512.getD a0.toNat (0 : Int))) none)
 none
noncomputable def sha_root512 {ρ : Type} := shut (sha_root512_raw (ρ := ρ))
theorem sha_root512_eq {ρ : Type} (a0 : Int) (k : Int → Option ρ) : sha_root512 a0 k = sha_root512_raw a0 k := by unfold sha_root512; rw [shut_eq]
end P
end

section
open Go Go.Abs
set_option linter.unusedVariables false
namespace P
noncomputable def sha_engine_uint64_rotated_raw {ρ : Type} (a0_bits : Int) (a0_rounds : Int) (a0_turns_0 : List Int) (a0_turns_1 : List Int) (a0_turns_2 : List Int) (a0_turns_3 : List Int) (a1 : Int) (a2 : Int) (k : Int → Option ρ) : Option ρ :=
 br (decide (a2 < (0 : Int))) none
 (br (decide (IntKind.i64.wrap (a0_bits - a2) < (0 : Int))) none
  (k
   (bits BinOp.or IntKind.u64 (a1.fdiv ((2 : Int) ^ min a2.toNat 64))
    (IntKind.u64.wrap (a1 * (2 : Int) ^ min (IntKind.i64.wrap (a0_bits - a2)).toNat 64)))))
noncomputable def sha_engine_uint64_rotated {ρ : Type} := shut (sha_engine_uint64_rotated_raw (ρ := ρ))
theorem sha_engine_uint64_rotated_eq {ρ : Type} (a0_bits : Int) (a0_rounds : Int) (a0_turns_0 : List Int) (a0_turns_1 : List Int) (a0_turns_2 : List Int) (a0_turns_3 : List Int) (a1 : Int) (a2 : Int) (k : Int → Option ρ) : sha_engine_uint64_rotated a0_bits a0_rounds a0_turns_0 a0_turns_1 a0_turns_2 a0_turns_3 a1 a2 k = sha_engine_uint64_rotated_raw a0_bits a0_rounds a0_turns_0 a0_turns_1 a0_turns_2 a0_turns_3 a1 a2 k := by unfold sha_engine_uint64_rotated; rw [shut_eq]
end P
end

section
open Go Go.Abs
set_option linter.unusedVariables false
namespace P
noncomputable def sha_engine_uint64_high_raw {ρ : Type} (a0_bits : Int) (a0_rounds : Int) (a0_turns_0 : List Int) (a0_turns_1 : List Int) (a0_turns_2 : List Int) (a0_turns_3 : List Int) (a1 : Int) (a2 : Int) (k : Int → Option ρ) : Option ρ :=
 br (decide (a2 = (↑0 : Int)))
 (sha_engine_uint64_rotated a0_bits a0_rounds a0_turns_0 a0_turns_1 a0_turns_2 a0_turns_3 a1
  (a0_turns_0.getD 0 (0 : Int)) fun (q0 : Int) =>
  sha_engine_uint64_rotated a0_bits a0_rounds a0_turns_0 a0_turns_1 a0_turns_2 a0_turns_3 a1
   (a0_turns_0.getD 1 (0 : Int)) fun (q1 : Int) =>
   sha_engine_uint64_rotated a0_bits a0_rounds a0_turns_0 a0_turns_1 a0_turns_2 a0_turns_3 a1
    (a0_turns_0.getD 2 (0 : Int)) fun (q2 : Int) =>
    k (bits BinOp.xor IntKind.u64 (bits BinOp.xor IntKind.u64 q0 q1) q2))
 (br (decide (a2 = (↑1 : Int)))
  (sha_engine_uint64_rotated a0_bits a0_rounds a0_turns_0 a0_turns_1 a0_turns_2 a0_turns_3 a1
   (a0_turns_1.getD 0 (0 : Int)) fun (q3 : Int) =>
   sha_engine_uint64_rotated a0_bits a0_rounds a0_turns_0 a0_turns_1 a0_turns_2 a0_turns_3 a1
    (a0_turns_1.getD 1 (0 : Int)) fun (q4 : Int) =>
    sha_engine_uint64_rotated a0_bits a0_rounds a0_turns_0 a0_turns_1 a0_turns_2 a0_turns_3 a1
     (a0_turns_1.getD 2 (0 : Int)) fun (q5 : Int) =>
     k (bits BinOp.xor IntKind.u64 (bits BinOp.xor IntKind.u64 q3 q4) q5))
  (br (decide (a2 = (↑2 : Int)))
   (sha_engine_uint64_rotated a0_bits a0_rounds a0_turns_0 a0_turns_1 a0_turns_2 a0_turns_3 a1
    (a0_turns_2.getD 0 (0 : Int)) fun (q6 : Int) =>
    sha_engine_uint64_rotated a0_bits a0_rounds a0_turns_0 a0_turns_1 a0_turns_2 a0_turns_3 a1
     (a0_turns_2.getD 1 (0 : Int)) fun (q7 : Int) =>
     sha_engine_uint64_rotated a0_bits a0_rounds a0_turns_0 a0_turns_1 a0_turns_2 a0_turns_3 a1
      (a0_turns_2.getD 2 (0 : Int)) fun (q8 : Int) =>
      k (bits BinOp.xor IntKind.u64 (bits BinOp.xor IntKind.u64 q6 q7) q8))
   (br (decide (a2 = (↑3 : Int)))
    (sha_engine_uint64_rotated a0_bits a0_rounds a0_turns_0 a0_turns_1 a0_turns_2 a0_turns_3 a1
     (a0_turns_3.getD 0 (0 : Int)) fun (q9 : Int) =>
     sha_engine_uint64_rotated a0_bits a0_rounds a0_turns_0 a0_turns_1 a0_turns_2 a0_turns_3 a1
      (a0_turns_3.getD 1 (0 : Int)) fun (q10 : Int) =>
      sha_engine_uint64_rotated a0_bits a0_rounds a0_turns_0 a0_turns_1 a0_turns_2 a0_turns_3 a1
       (a0_turns_3.getD 2 (0 : Int)) fun (q11 : Int) =>
       k (bits BinOp.xor IntKind.u64 (bits BinOp.xor IntKind.u64 q9 q10) q11))
    none)))
noncomputable def sha_engine_uint64_high {ρ : Type} := shut (sha_engine_uint64_high_raw (ρ := ρ))
theorem sha_engine_uint64_high_eq {ρ : Type} (a0_bits : Int) (a0_rounds : Int) (a0_turns_0 : List Int) (a0_turns_1 : List Int) (a0_turns_2 : List Int) (a0_turns_3 : List Int) (a1 : Int) (a2 : Int) (k : Int → Option ρ) : sha_engine_uint64_high a0_bits a0_rounds a0_turns_0 a0_turns_1 a0_turns_2 a0_turns_3 a1 a2 k = sha_engine_uint64_high_raw a0_bits a0_rounds a0_turns_0 a0_turns_1 a0_turns_2 a0_turns_3 a1 a2 k := by unfold sha_engine_uint64_high; rw [shut_eq]
end P
end

section
open Go Go.Abs
set_option linter.unusedVariables false
namespace P
noncomputable def sha_engine_uint64_low_raw {ρ : Type} (a0_bits : Int) (a0_rounds : Int) (a0_turns_0 : List Int) (a0_turns_1 : List Int) (a0_turns_2 : List Int) (a0_turns_3 : List Int) (a1 : Int) (a2 : Int) (k : Int → Option ρ) : Option ρ :=
 br (decide (a2 = (↑0 : Int)))
 (sha_engine_uint64_rotated a0_bits a0_rounds a0_turns_0 a0_turns_1 a0_turns_2 a0_turns_3 a1
  (a0_turns_0.getD 0 (0 : Int)) fun (q0 : Int) =>
  sha_engine_uint64_rotated a0_bits a0_rounds a0_turns_0 a0_turns_1 a0_turns_2 a0_turns_3 a1
   (a0_turns_0.getD 1 (0 : Int)) fun (q1 : Int) =>
   br (decide (a0_turns_0.getD 2 (0 : Int) < (0 : Int))) none
    (k
     (bits BinOp.xor IntKind.u64 (bits BinOp.xor IntKind.u64 q0 q1)
      (a1.fdiv ((2 : Int) ^ min (a0_turns_0.getD 2 (0 : Int)).toNat 64)))))
 (br (decide (a2 = (↑1 : Int)))
  (sha_engine_uint64_rotated a0_bits a0_rounds a0_turns_0 a0_turns_1 a0_turns_2 a0_turns_3 a1
   (a0_turns_1.getD 0 (0 : Int)) fun (q2 : Int) =>
   sha_engine_uint64_rotated a0_bits a0_rounds a0_turns_0 a0_turns_1 a0_turns_2 a0_turns_3 a1
    (a0_turns_1.getD 1 (0 : Int)) fun (q3 : Int) =>
    br (decide (a0_turns_1.getD 2 (0 : Int) < (0 : Int))) none
     (k
      (bits BinOp.xor IntKind.u64 (bits BinOp.xor IntKind.u64 q2 q3)
       (a1.fdiv ((2 : Int) ^ min (a0_turns_1.getD 2 (0 : Int)).toNat 64)))))
  (br (decide (a2 = (↑2 : Int)))
   (sha_engine_uint64_rotated a0_bits a0_rounds a0_turns_0 a0_turns_1 a0_turns_2 a0_turns_3 a1
    (a0_turns_2.getD 0 (0 : Int)) fun (q4 : Int) =>
    sha_engine_uint64_rotated a0_bits a0_rounds a0_turns_0 a0_turns_1 a0_turns_2 a0_turns_3 a1
     (a0_turns_2.getD 1 (0 : Int)) fun (q5 : Int) =>
     br (decide (a0_turns_2.getD 2 (0 : Int) < (0 : Int))) none
      (k
       (bits BinOp.xor IntKind.u64 (bits BinOp.xor IntKind.u64 q4 q5)
        (a1.fdiv ((2 : Int) ^ min (a0_turns_2.getD 2 (0 : Int)).toNat 64)))))
   (br (decide (a2 = (↑3 : Int)))
    (sha_engine_uint64_rotated a0_bits a0_rounds a0_turns_0 a0_turns_1 a0_turns_2 a0_turns_3 a1
     (a0_turns_3.getD 0 (0 : Int)) fun (q6 : Int) =>
     sha_engine_uint64_rotated a0_bits a0_rounds a0_turns_0 a0_turns_1 a0_turns_2 a0_turns_3 a1
      (a0_turns_3.getD 1 (0 : Int)) fun (q7 : Int) =>
      br (decide (a0_turns_3.getD 2 (0 : Int) < (0 : Int))) none
       (k
        (bits BinOp.xor IntKind.u64 (bits BinOp.xor IntKind.u64 q6 q7)
         (a1.fdiv ((2 : Int) ^ min (a0_turns_3.getD 2 (0 : Int)).toNat 64)))))
    none)))
noncomputable def sha_engine_uint64_low {ρ : Type} := shut (sha_engine_uint64_low_raw (ρ := ρ))
theorem sha_engine_uint64_low_eq {ρ : Type} (a0_bits : Int) (a0_rounds : Int) (a0_turns_0 : List Int) (a0_turns_1 : List Int) (a0_turns_2 : List Int) (a0_turns_3 : List Int) (a1 : Int) (a2 : Int) (k : Int → Option ρ) : sha_engine_uint64_low a0_bits a0_rounds a0_turns_0 a0_turns_1 a0_turns_2 a0_turns_3 a1 a2 k = sha_engine_uint64_low_raw a0_bits a0_rounds a0_turns_0 a0_turns_1 a0_turns_2 a0_turns_3 a1 a2 k := by unfold sha_engine_uint64_low; rw [shut_eq]
end P
end

section
open Go Go.Abs
set_option linter.unusedVariables false
namespace P
noncomputable def sha_engine_uint64_block_r4 {ρ : Type} (v2 : List Int) (v8 : Int) (v19 : Int) (h0_0 : Int) (h0_1 : Int) (h0_2 : List Int) (h0_3 : List Int) (h0_4 : List Int) (h0_5 : List Int) (h1_0 : List Int) (h2_0 : List Int) (h3_0 : List Int) (nx : (List Int) → Int → Int → Int → Int → (List Int) → (List Int) → (List Int) → (List Int) → (List Int) → (List Int) → (List Int) → Option ρ) (k0 : (List Int) → Int → Int → Int → Int → (List Int) → (List Int) → (List Int) → (List Int) → (List Int) → (List Int) → (List Int) → Option ρ) : Option ρ :=
 br (decide (v19 < (16 : Int)))
 (br (decide ((0 : Int) ≤ IntKind.i64.wrap (v19 * v8)))
  (br (decide (IntKind.i64.wrap (v19 * v8) ≤ IntKind.i64.wrap (IntKind.i64.wrap (v19 + (1 : Int)) * v8)))
   (br (decide (IntKind.i64.wrap (IntKind.i64.wrap (v19 + (1 : Int)) * v8) ≤ (↑v2.length : Int)))
    (bits_Num
     (List.drop (IntKind.i64.wrap (v19 * v8)).toNat
      (List.take (IntKind.i64.wrap (IntKind.i64.wrap (v19 + (1 : Int)) * v8)).toNat v2))
     fun (q0 : Int) =>
     br (decide ((0 : Int) ≤ v19))
      (br (decide (v19 < (↑16 : Int)))
       (nx v2 v8 (IntKind.i64.wrap (v19 + (1 : Int))) h0_0 h0_1 h0_2 h0_3 h0_4 h0_5 h1_0 h2_0
        (h3_0.set v19.toNat q0))
       none)
      none)
    none)
   none)
  none)
 (k0 v2 v8 v19 h0_0 h0_1 h0_2 h0_3 h0_4 h0_5 h1_0 h2_0 h3_0)
noncomputable def sha_engine_uint64_block_L4 {ρ : Type} (v2 : List Int) (v8 : Int) (v19 : Int) (h0_0 : Int) (h0_1 : Int) (h0_2 : List Int) (h0_3 : List Int) (h0_4 : List Int) (h0_5 : List Int) (h1_0 : List Int) (h2_0 : List Int) (h3_0 : List Int) (k0 : (List Int) → Int → Int → Int → Int → (List Int) → (List Int) → (List Int) → (List Int) → (List Int) → (List Int) → (List Int) → Option ρ) : Option ρ :=
 lp (fun (x : (List Int) × Int × Int × Int × Int × (List Int) × (List Int) × (List Int) × (List Int) × (List Int) × (List Int) × (List Int)) next (ex : ((List Int) × Int × Int × Int × Int × (List Int) × (List Int) × (List Int) × (List Int) × (List Int) × (List Int) × (List Int)) → Option ρ) => sha_engine_uint64_block_r4 x.1 x.2.1 x.2.2.1 x.2.2.2.1 x.2.2.2.2.1 x.2.2.2.2.2.1 x.2.2.2.2.2.2.1 x.2.2.2.2.2.2.2.1 x.2.2.2.2.2.2.2.2.1 x.2.2.2.2.2.2.2.2.2.1 x.2.2.2.2.2.2.2.2.2.2.1 x.2.2.2.2.2.2.2.2.2.2.2 (fun v2 v8 v19 h0_0 h0_1 h0_2 h0_3 h0_4 h0_5 h1_0 h2_0 h3_0 => next (v2, v8, v19, h0_0, h0_1, h0_2, h0_3, h0_4, h0_5, h1_0, h2_0, h3_0)) (fun v2 v8 v19 h0_0 h0_1 h0_2 h0_3 h0_4 h0_5 h1_0 h2_0 h3_0 => ex (v2, v8, v19, h0_0, h0_1, h0_2, h0_3, h0_4, h0_5, h1_0, h2_0, h3_0))) (v2, v8, v19, h0_0, h0_1, h0_2, h0_3, h0_4, h0_5, h1_0, h2_0, h3_0) (fun x => k0 x.1 x.2.1 x.2.2.1 x.2.2.2.1 x.2.2.2.2.1 x.2.2.2.2.2.1 x.2.2.2.2.2.2.1 x.2.2.2.2.2.2.2.1 x.2.2.2.2.2.2.2.2.1 x.2.2.2.2.2.2.2.2.2.1 x.2.2.2.2.2.2.2.2.2.2.1 x.2.2.2.2.2.2.2.2.2.2.2)
noncomputable def sha_engine_uint64_block_l4 {ρ : Type} := shut (sha_engine_uint64_block_L4 (ρ := ρ))
theorem sha_engine_uint64_block_l4_eq {ρ : Type} : sha_engine_uint64_block_l4 (ρ := ρ) = sha_engine_uint64_block_L4 := shut_eq _
noncomputable def sha_engine_uint64_block_r10 {ρ : Type} (v37 : Int) (v38 : Int) (h3_0 : List Int) (h2_0 : List Int) (h1_0 : List Int) (h0_0 : Int) (h0_1 : Int) (h0_2 : List Int) (h0_3 : List Int) (h0_4 : List Int) (h0_5 : List Int) (h4_0 : List Int) (nx : Int → Int → (List Int) → (List Int) → (List Int) → Int → Int → (List Int) → (List Int) → (List Int) → (List Int) → (List Int) → Option ρ) (k0 : Int → Int → (List Int) → (List Int) → (List Int) → Int → Int → (List Int) → (List Int) → (List Int) → (List Int) → (List Int) → Option ρ) : Option ρ :=
 br (decide (v38 < v37))
 (br (decide ((0 : Int) ≤ v38.tmod (16 : Int)))
  (br (decide (v38.tmod (16 : Int) < (↑16 : Int)))
   (sha_engine_uint64_high h0_0 h0_1 h0_2 h0_3 h0_4 h0_5 (h4_0.getD 4 (0 : Int)) (3 : Int)
    fun (q0 : Int) =>
    sha_root512 v38 fun (q1 : Int) =>
     sha_engine_uint64_high h0_0 h0_1 h0_2 h0_3 h0_4 h0_5 (h4_0.getD 0 (0 : Int)) (2 : Int)
      fun (q2 : Int) =>
      br (decide ((0 : Int) ≤ (IntKind.i64.wrap (v38 + (1 : Int))).tmod (16 : Int)))
       (br (decide ((IntKind.i64.wrap (v38 + (1 : Int))).tmod (16 : Int) < (↑16 : Int)))
        (sha_engine_uint64_low h0_0 h0_1 h0_2 h0_3 h0_4 h0_5
         (h3_0.getD ((IntKind.i64.wrap (v38 + (1 : Int))).tmod (16 : Int)).toNat (0 : Int)) (0 : Int)
         fun (q3 : Int) =>
         br (decide ((0 : Int) ≤ (IntKind.i64.wrap (v38 + (9 : Int))).tmod (16 : Int)))
          (br (decide ((IntKind.i64.wrap (v38 + (9 : Int))).tmod (16 : Int) < (↑16 : Int)))
           (br (decide ((0 : Int) ≤ (IntKind.i64.wrap (v38 + (14 : Int))).tmod (16 : Int)))
            (br (decide ((IntKind.i64.wrap (v38 + (14 : Int))).tmod (16 : Int) < (↑16 : Int)))
             (sha_engine_uint64_low h0_0 h0_1 h0_2 h0_3 h0_4 h0_5
              (h3_0.getD ((IntKind.i64.wrap (v38 + (14 : Int))).tmod (16 : Int)).toNat (0 : Int))
              (1 : Int) fun (q4 : Int) =>
              br (decide ((0 : Int) ≤ v38.tmod (16 : Int)))
               (br (decide (v38.tmod (16 : Int) < (↑16 : Int)))
                (nx v37 (IntKind.i64.wrap (v38 + (1 : Int)))
                 (h3_0.set (v38.tmod (16 : Int)).toNat
                  (IntKind.u64.wrap
                   (IntKind.u64.wrap
                     (IntKind.u64.wrap (h3_0.getD (v38.tmod (16 : Int)).toNat (0 : Int) + q3) +
                      h3_0.getD ((IntKind.i64.wrap (v38 + (9 : Int))).tmod (16 : Int)).toNat
                       (0 : Int)) +
                    q4)))
                 h2_0 h1_0 h0_0 h0_1 h0_2 h0_3 h0_4 h0_5
                 ((((List.take 1 h4_0).append
                      (List.take 7
                        (List.take 7 (List.drop 0 h4_0)) ++
                       List.drop
                        (1 +
                         min 7
                          (List.take 7 (List.drop 0 h4_0)).length)
                        h4_0)).set
                    4
                    (IntKind.u64.wrap
                     (((List.take 1 h4_0).append
                         (List.take 7
                           (List.take 7 (List.drop 0 h4_0)) ++
                          List.drop
                           (1 +
                            min 7
                             (List.take 7 (List.drop 0 h4_0)).length)
                           h4_0)).getD
                       4 (0 : Int) +
                      IntKind.u64.wrap
                       (IntKind.u64.wrap
                         (IntKind.u64.wrap
                           (IntKind.u64.wrap (h4_0.getD 7 (0 : Int) + q0) +
                            bits BinOp.xor IntKind.u64 (h4_0.getD 6 (0 : Int))
                             (bits BinOp.and IntKind.u64 (h4_0.getD 4 (0 : Int))
                              (bits BinOp.xor IntKind.u64
                               (h4_0.getD 5 (0 : Int))
                               (h4_0.getD 6 (0 : Int))))) +
                          q1) +
                        h3_0.getD (v38.tmod (16 : Int)).toNat (0 : Int))))).set
                  0
                  (IntKind.u64.wrap
                   (IntKind.u64.wrap
                     (IntKind.u64.wrap
                       (IntKind.u64.wrap
                         (IntKind.u64.wrap (h4_0.getD 7 (0 : Int) + q0) +
                          bits BinOp.xor IntKind.u64 (h4_0.getD 6 (0 : Int))
                           (bits BinOp.and IntKind.u64 (h4_0.getD 4 (0 : Int))
                            (bits BinOp.xor IntKind.u64 (h4_0.getD 5 (0 : Int))
                             (h4_0.getD 6 (0 : Int))))) +
                        q1) +
                      h3_0.getD (v38.tmod (16 : Int)).toNat (0 : Int)) +
                    IntKind.u64.wrap
                     (q2 +
                      bits BinOp.or IntKind.u64
                       (bits BinOp.and IntKind.u64 (h4_0.getD 0 (0 : Int))
                        (h4_0.getD 1 (0 : Int)))
                       (bits BinOp.and IntKind.u64 (h4_0.getD 2 (0 : Int))
                        (bits BinOp.or IntKind.u64 (h4_0.getD 0 (0 : Int))
                         (h4_0.getD 1 (0 : Int)))))))))
                none)
               none)
             none)
            none)
           none)
          none)
        none)
       none)
   none)
  none)
 (k0 v37 v38 h3_0 h2_0 h1_0 h0_0 h0_1 h0_2 h0_3 h0_4 h0_5 h4_0)
noncomputable def sha_engine_uint64_block_L10 {ρ : Type} (v37 : Int) (v38 : Int) (h3_0 : List Int) (h2_0 : List Int) (h1_0 : List Int) (h0_0 : Int) (h0_1 : Int) (h0_2 : List Int) (h0_3 : List Int) (h0_4 : List Int) (h0_5 : List Int) (h4_0 : List Int) (k0 : Int → Int → (List Int) → (List Int) → (List Int) → Int → Int → (List Int) → (List Int) → (List Int) → (List Int) → (List Int) → Option ρ) : Option ρ :=
 lp (fun (x : Int × Int × (List Int) × (List Int) × (List Int) × Int × Int × (List Int) × (List Int) × (List Int) × (List Int) × (List Int)) next (ex : (Int × Int × (List Int) × (List Int) × (List Int) × Int × Int × (List Int) × (List Int) × (List Int) × (List Int) × (List Int)) → Option ρ) => sha_engine_uint64_block_r10 x.1 x.2.1 x.2.2.1 x.2.2.2.1 x.2.2.2.2.1 x.2.2.2.2.2.1 x.2.2.2.2.2.2.1 x.2.2.2.2.2.2.2.1 x.2.2.2.2.2.2.2.2.1 x.2.2.2.2.2.2.2.2.2.1 x.2.2.2.2.2.2.2.2.2.2.1 x.2.2.2.2.2.2.2.2.2.2.2 (fun v37 v38 h3_0 h2_0 h1_0 h0_0 h0_1 h0_2 h0_3 h0_4 h0_5 h4_0 => next (v37, v38, h3_0, h2_0, h1_0, h0_0, h0_1, h0_2, h0_3, h0_4, h0_5, h4_0)) (fun v37 v38 h3_0 h2_0 h1_0 h0_0 h0_1 h0_2 h0_3 h0_4 h0_5 h4_0 => ex (v37, v38, h3_0, h2_0, h1_0, h0_0, h0_1, h0_2, h0_3, h0_4, h0_5, h4_0))) (v37, v38, h3_0, h2_0, h1_0, h0_0, h0_1, h0_2, h0_3, h0_4, h0_5, h4_0) (fun x => k0 x.1 x.2.1 x.2.2.1 x.2.2.2.1 x.2.2.2.2.1 x.2.2.2.2.2.1 x.2.2.2.2.2.2.1 x.2.2.2.2.2.2.2.1 x.2.2.2.2.2.2.2.2.1 x.2.2.2.2.2.2.2.2.2.1 x.2.2.2.2.2.2.2.2.2.2.1 x.2.2.2.2.2.2.2.2.2.2.2)
noncomputable def sha_engine_uint64_block_l10 {ρ : Type} := shut (sha_engine_uint64_block_L10 (ρ := ρ))
theorem sha_engine_uint64_block_l10_eq {ρ : Type} : sha_engine_uint64_block_l10 (ρ := ρ) = sha_engine_uint64_block_L10 := shut_eq _
noncomputable def sha_engine_uint64_block_r21 {ρ : Type} (v129 : Int) (h1_0 : List Int) (h2_0 : List Int) (h4_0 : List Int) (nx : Int → (List Int) → (List Int) → (List Int) → Option ρ) (k0 : Int → (List Int) → (List Int) → (List Int) → Option ρ) : Option ρ :=
 br (decide (v129 < (8 : Int)))
 (br (decide ((0 : Int) ≤ v129))
  (br (decide (v129 < (↑8 : Int)))
   (br (decide ((0 : Int) ≤ v129))
    (br (decide (v129 < (↑8 : Int)))
     (br (decide ((0 : Int) ≤ v129))
      (br (decide (v129 < (↑8 : Int)))
       (nx (IntKind.i64.wrap (v129 + (1 : Int))) h1_0 h2_0
        (h4_0.set v129.toNat
         (IntKind.u64.wrap (h4_0.getD v129.toNat (0 : Int) + h1_0.getD v129.toNat (0 : Int)))))
       none)
      none)
     none)
    none)
   none)
  none)
 (k0 v129 h1_0 h2_0 h4_0)
noncomputable def sha_engine_uint64_block_L21 {ρ : Type} (v129 : Int) (h1_0 : List Int) (h2_0 : List Int) (h4_0 : List Int) (k0 : Int → (List Int) → (List Int) → (List Int) → Option ρ) : Option ρ :=
 lp (fun (x : Int × (List Int) × (List Int) × (List Int)) next (ex : (Int × (List Int) × (List Int) × (List Int)) → Option ρ) => sha_engine_uint64_block_r21 x.1 x.2.1 x.2.2.1 x.2.2.2 (fun v129 h1_0 h2_0 h4_0 => next (v129, h1_0, h2_0, h4_0)) (fun v129 h1_0 h2_0 h4_0 => ex (v129, h1_0, h2_0, h4_0))) (v129, h1_0, h2_0, h4_0) (fun x => k0 x.1 x.2.1 x.2.2.1 x.2.2.2)
noncomputable def sha_engine_uint64_block_l21 {ρ : Type} := shut (sha_engine_uint64_block_L21 (ρ := ρ))
theorem sha_engine_uint64_block_l21_eq {ρ : Type} : sha_engine_uint64_block_l21 (ρ := ρ) = sha_engine_uint64_block_L21 := shut_eq _
noncomputable def sha_engine_uint64_block_raw {ρ : Type} (a0_bits : Int) (a0_rounds : Int) (a0_turns_0 : List Int) (a0_turns_1 : List Int) (a0_turns_2 : List Int) (a0_turns_3 : List Int) (a1 : List Int) (a2 : List Int) (k : (List Int) → Option ρ) : Option ρ :=
 sha_engine_uint64_block_l4 a2 (IntKind.i64.wrap (a0_bits.tdiv (8 : Int))) (0 : Int) a0_bits a0_rounds a0_turns_0
 a0_turns_1 a0_turns_2 a0_turns_3 a1
 [(0 : Int), (0 : Int), (0 : Int), (0 : Int), (0 : Int), (0 : Int), (0 : Int), (0 : Int)]
 [(0 : Int), (0 : Int), (0 : Int), (0 : Int), (0 : Int), (0 : Int), (0 : Int), (0 : Int), (0 : Int), (0 : Int),
  (0 : Int), (0 : Int), (0 : Int), (0 : Int), (0 : Int), (0 : Int)]
 fun (q0 : List Int) (q1 q2 q3 q4 : Int) (q5 q6 q7 q8 q9 q10 q11 : List Int) =>
 sha_engine_uint64_block_l10 q4 (0 : Int) q11 q10 q9 q3 q4 q5 q6 q7 q8 q9
  fun (q12 q13 : Int) (q14 q15 q16 : List Int) (q17 q18 : Int) (q19 q20 q21 q22 q23 : List Int) =>
  sha_engine_uint64_block_l21 (0 : Int) q16 q15 q23 fun (q24 : Int) (q25 q26 q27 : List Int) => k q27
noncomputable def sha_engine_uint64_block {ρ : Type} := shut (sha_engine_uint64_block_raw (ρ := ρ))
theorem sha_engine_uint64_block_eq {ρ : Type} (a0_bits : Int) (a0_rounds : Int) (a0_turns_0 : List Int) (a0_turns_1 : List Int) (a0_turns_2 : List Int) (a0_turns_3 : List Int) (a1 : List Int) (a2 : List Int) (k : (List Int) → Option ρ) : sha_engine_uint64_block a0_bits a0_rounds a0_turns_0 a0_turns_1 a0_turns_2 a0_turns_3 a1 a2 k = sha_engine_uint64_block_raw a0_bits a0_rounds a0_turns_0 a0_turns_1 a0_turns_2 a0_turns_3 a1 a2 k := by unfold sha_engine_uint64_block; rw [shut_eq]
end P
end

section
open Go Go.Abs
set_option linter.unusedVariables false
namespace P
noncomputable def sha_through_uint64_r3 {ρ : Type} (v2 : List Int) (v14 : List Int) (v15 : Int) (h0_0 : Int) (h0_1 : Int) (h0_2 : List Int) (h0_3 : List Int) (h0_4 : List Int) (h0_5 : List Int) (h1_0 : List Int) (h2_0 : List Int) (h3_0 : List Int) (nx : (List Int) → (List Int) → Int → Int → Int → (List Int) → (List Int) → (List Int) → (List Int) → (List Int) → (List Int) → (List Int) → Option ρ) (k0 : (List Int) → (List Int) → Int → Int → Int → (List Int) → (List Int) → (List Int) → (List Int) → (List Int) → (List Int) → (List Int) → Option ρ) : Option ρ :=
 br (decide (v15 < (8 : Int)))
 (br (decide ((0 : Int) ≤ v15))
  (br (decide (v15 < (↑8 : Int)))
   (br (decide ((0 : Int) ≤ v15))
    (br (decide (v15 < (↑8 : Int)))
     (nx v2 v14 (IntKind.i64.wrap (v15 + (1 : Int))) h0_0 h0_1 h0_2 h0_3 h0_4 h0_5 h1_0 h2_0
      (h3_0.set v15.toNat (v14.getD v15.toNat (0 : Int))))
     none)
    none)
   none)
  none)
 (k0 v2 v14 v15 h0_0 h0_1 h0_2 h0_3 h0_4 h0_5 h1_0 h2_0 h3_0)
noncomputable def sha_through_uint64_L3 {ρ : Type} (v2 : List Int) (v14 : List Int) (v15 : Int) (h0_0 : Int) (h0_1 : Int) (h0_2 : List Int) (h0_3 : List Int) (h0_4 : List Int) (h0_5 : List Int) (h1_0 : List Int) (h2_0 : List Int) (h3_0 : List Int) (k0 : (List Int) → (List Int) → Int → Int → Int → (List Int) → (List Int) → (List Int) → (List Int) → (List Int) → (List Int) → (List Int) → Option ρ) : Option ρ :=
 lp (fun (x : (List Int) × (List Int) × Int × Int × Int × (List Int) × (List Int) × (List Int) × (List Int) × (List Int) × (List Int) × (List Int)) next (ex : ((List Int) × (List Int) × Int × Int × Int × (List Int) × (List Int) × (List Int) × (List Int) × (List Int) × (List Int) × (List Int)) → Option ρ) => sha_through_uint64_r3 x.1 x.2.1 x.2.2.1 x.2.2.2.1 x.2.2.2.2.1 x.2.2.2.2.2.1 x.2.2.2.2.2.2.1 x.2.2.2.2.2.2.2.1 x.2.2.2.2.2.2.2.2.1 x.2.2.2.2.2.2.2.2.2.1 x.2.2.2.2.2.2.2.2.2.2.1 x.2.2.2.2.2.2.2.2.2.2.2 (fun v2 v14 v15 h0_0 h0_1 h0_2 h0_3 h0_4 h0_5 h1_0 h2_0 h3_0 => next (v2, v14, v15, h0_0, h0_1, h0_2, h0_3, h0_4, h0_5, h1_0, h2_0, h3_0)) (fun v2 v14 v15 h0_0 h0_1 h0_2 h0_3 h0_4 h0_5 h1_0 h2_0 h3_0 => ex (v2, v14, v15, h0_0, h0_1, h0_2, h0_3, h0_4, h0_5, h1_0, h2_0, h3_0))) (v2, v14, v15, h0_0, h0_1, h0_2, h0_3, h0_4, h0_5, h1_0, h2_0, h3_0) (fun x => k0 x.1 x.2.1 x.2.2.1 x.2.2.2.1 x.2.2.2.2.1 x.2.2.2.2.2.1 x.2.2.2.2.2.2.1 x.2.2.2.2.2.2.2.1 x.2.2.2.2.2.2.2.2.1 x.2.2.2.2.2.2.2.2.2.1 x.2.2.2.2.2.2.2.2.2.2.1 x.2.2.2.2.2.2.2.2.2.2.2)
noncomputable def sha_through_uint64_l3 {ρ : Type} := shut (sha_through_uint64_L3 (ρ := ρ))
theorem sha_through_uint64_l3_eq {ρ : Type} : sha_through_uint64_l3 (ρ := ρ) = sha_through_uint64_L3 := shut_eq _
noncomputable def sha_through_uint64_r8 {ρ : Type} (v2 : List Int) (v11 : Int) (h3_0 : List Int) (h2_0 : List Int) (h1_0 : List Int) (h0_0 : Int) (h0_1 : Int) (h0_2 : List Int) (h0_3 : List Int) (h0_4 : List Int) (h0_5 : List Int) (nx : (List Int) → Int → (List Int) → (List Int) → (List Int) → Int → Int → (List Int) → (List Int) → (List Int) → (List Int) → Option ρ) (k0 : (List Int) → Int → (List Int) → (List Int) → (List Int) → Int → Int → (List Int) → (List Int) → (List Int) → (List Int) → Option ρ) : Option ρ :=
 br (decide ((↑v2.length : Int) ≥ v11))
 (br (decide ((0 : Int) ≤ v11))
  (br (decide (v11 ≤ (↑v2.length : Int)))
   (sha_engine_uint64_block h0_0 h0_1 h0_2 h0_3 h0_4 h0_5 h3_0 (List.drop 0 (List.take v11.toNat v2))
    fun (q0 : List Int) =>
    br (decide ((0 : Int) ≤ v11))
     (br (decide (v11 ≤ (↑v2.length : Int)))
      (br (decide ((↑v2.length : Int) ≤ (↑v2.length : Int)))
       (nx (List.drop v11.toNat (List.take (↑v2.length : Int).toNat v2)) v11 q0 h2_0 h1_0 h0_0 h0_1 h0_2 h0_3
        h0_4 h0_5)
       none)
      none)
     none)
   none)
  none)
 (k0 v2 v11 h3_0 h2_0 h1_0 h0_0 h0_1 h0_2 h0_3 h0_4 h0_5)
noncomputable def sha_through_uint64_L8 {ρ : Type} (v2 : List Int) (v11 : Int) (h3_0 : List Int) (h2_0 : List Int) (h1_0 : List Int) (h0_0 : Int) (h0_1 : Int) (h0_2 : List Int) (h0_3 : List Int) (h0_4 : List Int) (h0_5 : List Int) (k0 : (List Int) → Int → (List Int) → (List Int) → (List Int) → Int → Int → (List Int) → (List Int) → (List Int) → (List Int) → Option ρ) : Option ρ :=
 lp (fun (x : (List Int) × Int × (List Int) × (List Int) × (List Int) × Int × Int × (List Int) × (List Int) × (List Int) × (List Int)) next (ex : ((List Int) × Int × (List Int) × (List Int) × (List Int) × Int × Int × (List Int) × (List Int) × (List Int) × (List Int)) → Option ρ) => sha_through_uint64_r8 x.1 x.2.1 x.2.2.1 x.2.2.2.1 x.2.2.2.2.1 x.2.2.2.2.2.1 x.2.2.2.2.2.2.1 x.2.2.2.2.2.2.2.1 x.2.2.2.2.2.2.2.2.1 x.2.2.2.2.2.2.2.2.2.1 x.2.2.2.2.2.2.2.2.2.2 (fun v2 v11 h3_0 h2_0 h1_0 h0_0 h0_1 h0_2 h0_3 h0_4 h0_5 => next (v2, v11, h3_0, h2_0, h1_0, h0_0, h0_1, h0_2, h0_3, h0_4, h0_5)) (fun v2 v11 h3_0 h2_0 h1_0 h0_0 h0_1 h0_2 h0_3 h0_4 h0_5 => ex (v2, v11, h3_0, h2_0, h1_0, h0_0, h0_1, h0_2, h0_3, h0_4, h0_5))) (v2, v11, h3_0, h2_0, h1_0, h0_0, h0_1, h0_2, h0_3, h0_4, h0_5) (fun x => k0 x.1 x.2.1 x.2.2.1 x.2.2.2.1 x.2.2.2.2.1 x.2.2.2.2.2.1 x.2.2.2.2.2.2.1 x.2.2.2.2.2.2.2.1 x.2.2.2.2.2.2.2.2.1 x.2.2.2.2.2.2.2.2.2.1 x.2.2.2.2.2.2.2.2.2.2)
noncomputable def sha_through_uint64_l8 {ρ : Type} := shut (sha_through_uint64_L8 (ρ := ρ))
theorem sha_through_uint64_l8_eq {ρ : Type} : sha_through_uint64_l8 (ρ := ρ) = sha_through_uint64_L8 := shut_eq _
noncomputable def sha_through_uint64_r12 {ρ : Type} (v2 : List Int) (v39 : List Int) (v40 : Int) (h1_0 : List Int) (h2_0 : List Int) (nx : (List Int) → (List Int) → Int → (List Int) → (List Int) → Option ρ) (k0 : (List Int) → (List Int) → Int → (List Int) → (List Int) → Option ρ) : Option ρ :=
 br (decide (v40 < (8 : Int)))
 (br (decide ((0 : Int) ≤ v40))
  (br (decide (v40 < (↑8 : Int)))
   (br (decide ((0 : Int) ≤ v40))
    (br (decide (v40 < (↑8 : Int)))
     (nx v2 v39 (IntKind.i64.wrap (v40 + (1 : Int))) (h1_0.set v40.toNat (v39.getD v40.toNat (0 : Int))) h2_0)
     none)
    none)
   none)
  none)
 (k0 v2 v39 v40 h1_0 h2_0)
noncomputable def sha_through_uint64_L12 {ρ : Type} (v2 : List Int) (v39 : List Int) (v40 : Int) (h1_0 : List Int) (h2_0 : List Int) (k0 : (List Int) → (List Int) → Int → (List Int) → (List Int) → Option ρ) : Option ρ :=
 lp (fun (x : (List Int) × (List Int) × Int × (List Int) × (List Int)) next (ex : ((List Int) × (List Int) × Int × (List Int) × (List Int)) → Option ρ) => sha_through_uint64_r12 x.1 x.2.1 x.2.2.1 x.2.2.2.1 x.2.2.2.2 (fun v2 v39 v40 h1_0 h2_0 => next (v2, v39, v40, h1_0, h2_0)) (fun v2 v39 v40 h1_0 h2_0 => ex (v2, v39, v40, h1_0, h2_0))) (v2, v39, v40, h1_0, h2_0) (fun x => k0 x.1 x.2.1 x.2.2.1 x.2.2.2.1 x.2.2.2.2)
noncomputable def sha_through_uint64_l12 {ρ : Type} := shut (sha_through_uint64_L12 (ρ := ρ))
theorem sha_through_uint64_l12_eq {ρ : Type} : sha_through_uint64_l12 (ρ := ρ) = sha_through_uint64_L12 := shut_eq _
noncomputable def sha_through_uint64_raw {ρ : Type} (a0_bits : Int) (a0_rounds : Int) (a0_turns_0 : List Int) (a0_turns_1 : List Int) (a0_turns_2 : List Int) (a0_turns_3 : List Int) (a1 : List Int) (a2 : List Int) (k : (List Int) → (List Int) → Option ρ) : Option ρ :=
 sha_through_uint64_l3 a2 a1 (0 : Int) a0_bits a0_rounds a0_turns_0 a0_turns_1 a0_turns_2 a0_turns_3 a1
 [(0 : Int), (0 : Int), (0 : Int), (0 : Int), (0 : Int), (0 : Int), (0 : Int), (0 : Int)]
 [(0 : Int), (0 : Int), (0 : Int), (0 : Int), (0 : Int), (0 : Int), (0 : Int), (0 : Int)]
 fun (q0 q1 : List Int) (q2 q3 q4 : Int) (q5 q6 q7 q8 q9 q10 q11 : List Int) =>
 sha_through_uint64_l8 q0 (IntKind.i64.wrap (q3 * (2 : Int))) q11 q10 q9 q3 q4 q5 q6 q7 q8
  fun (q12 : List Int) (q13 : Int) (q14 q15 q16 : List Int) (q17 q18 : Int) (q19 q20 q21 q22 : List Int) =>
  sha_through_uint64_l12 q12 q14 (0 : Int) q16 q15 fun (q23 q24 : List Int) (q25 : Int) (q26 q27 : List Int) =>
   k q26 q23
noncomputable def sha_through_uint64 {ρ : Type} := shut (sha_through_uint64_raw (ρ := ρ))
theorem sha_through_uint64_eq {ρ : Type} (a0_bits : Int) (a0_rounds : Int) (a0_turns_0 : List Int) (a0_turns_1 : List Int) (a0_turns_2 : List Int) (a0_turns_3 : List Int) (a1 : List Int) (a2 : List Int) (k : (List Int) → (List Int) → Option ρ) : sha_through_uint64 a0_bits a0_rounds a0_turns_0 a0_turns_1 a0_turns_2 a0_turns_3 a1 a2 k = sha_through_uint64_raw a0_bits a0_rounds a0_turns_0 a0_turns_1 a0_turns_2 a0_turns_3 a1 a2 k := by unfold sha_through_uint64; rw [shut_eq]
end P
end

section
open Go Go.Abs
set_option linter.unusedVariables false
namespace P
noncomputable def sha_great_raw {ρ : Type}  (k : Int → Int → (List Int) → (List Int) → (List Int) → (List Int) → Option ρ) : Option ρ :=
 k (64 : Int) (80 : Int) [(1 : Int), (8 : Int), (7 : Int)] [(19 : Int), (61 : Int), (6 : Int)]
 [(28 : Int), (34 : Int), (39 : Int)] [(14 : Int), (18 : Int), (41 : Int)]
noncomputable def sha_great {ρ : Type} := shut (sha_great_raw (ρ := ρ))
theorem sha_great_eq {ρ : Type}  (k : Int → Int → (List Int) → (List Int) → (List Int) → (List Int) → Option ρ) : sha_great  k = sha_great_raw  k := by unfold sha_great; rw [shut_eq]
end P
end

section
open Go Go.Abs
set_option linter.unusedVariables false
namespace P
noncomputable def slices_Clone_byte {ρ : Type} (a0 : List Int) (k : (List Int) → Option ρ) : Option ρ :=
  br (decide (a0.length * 1 ≤ 140737488355328)) (k a0) none
end P
end

section
open Go Go.Abs
set_option linter.unusedVariables false
namespace P
noncomputable def sha_Add_raw {ρ : Type} (a0_Kind : Int) (a0_Words : List Int) (a0_Tail : List Int) (a0_Size : Int) (a1 : List Int) (k : Int → (List Int) → (List Int) → Int → Option ρ) : Option ρ :=
 slices_Concat_byte [a0_Tail, a1] fun (q0 : List Int) =>
 br (a0_Kind == (1 : Int))
  (sha_small fun (q1 q2 : Int) (q3 q4 q5 q6 : List Int) =>
   sha_through_uint32 q1 q2 q3 q4 q5 q6 a0_Words q0 fun (q7 q8 : List Int) =>
    slices_Clone_byte q8 fun (q9 : List Int) =>
     k a0_Kind q7 q9 (IntKind.u64.wrap (a0_Size + IntKind.u64.wrap (↑a1.length : Int))))
  (sha_great fun (q10 q11 : Int) (q12 q13 q14 q15 : List Int) =>
   sha_through_uint64 q10 q11 q12 q13 q14 q15 a0_Words q0 fun (q16 q17 : List Int) =>
    slices_Clone_byte q17 fun (q18 : List Int) =>
     k a0_Kind q16 q18 (IntKind.u64.wrap (a0_Size + IntKind.u64.wrap (↑a1.length : Int))))
noncomputable def sha_Add {ρ : Type} := shut (sha_Add_raw (ρ := ρ))
theorem sha_Add_eq {ρ : Type} (a0_Kind : Int) (a0_Words : List Int) (a0_Tail : List Int) (a0_Size : Int) (a1 : List Int) (k : Int → (List Int) → (List Int) → Int → Option ρ) : sha_Add a0_Kind a0_Words a0_Tail a0_Size a1 k = sha_Add_raw a0_Kind a0_Words a0_Tail a0_Size a1 k := by unfold sha_Add; rw [shut_eq]
end P
end

section
open Go Go.Abs
set_option linter.unusedVariables false
namespace P
noncomputable def wots_filled_raw {ρ : Type} (a0 : Int) (a1 : Int) (a2 : List Int) (k : Int → (List Int) → (List Int) → Int → Option ρ) : Option ρ :=
 sha_New a0 fun (q0 : Int) (q1 q2 : List Int) (q3 q4 : Int) =>
 bits_Join [a2] fun (q5 : List Int) =>
  br (decide ((0 : Int) ≤ IntKind.i64.wrap (a1 - (↑a2.length : Int))))
   (br
    (decide
     ((q5.length + (IntKind.i64.wrap (a1 - (↑a2.length : Int))).toNat) *
       1 ≤
      140737488355328))
    (sha_Add q0 q1 q2 q3 (q5 ++ List.replicate (IntKind.i64.wrap (a1 - (↑a2.length : Int))).toNat (0 : Int))
     fun (q6 : Int) (q7 q8 : List Int) (q9 : Int) => k q6 q7 q8 q9)
    none)
   none
noncomputable def wots_filled {ρ : Type} := shut (wots_filled_raw (ρ := ρ))
theorem wots_filled_eq {ρ : Type} (a0 : Int) (a1 : Int) (a2 : List Int) (k : Int → (List Int) → (List Int) → Int → Option ρ) : wots_filled a0 a1 a2 k = wots_filled_raw a0 a1 a2 k := by unfold wots_filled; rw [shut_eq]
end P
end

section
open Go Go.Abs
set_option linter.unusedVariables false
namespace P
noncomputable def sha_blockSize_raw {ρ : Type} (a0 : Int) (k : Int → Option ρ) : Option ρ :=
 br (a0 == (1 : Int)) (k (64 : Int)) (k (128 : Int))
noncomputable def sha_blockSize {ρ : Type} := shut (sha_blockSize_raw (ρ := ρ))
theorem sha_blockSize_eq {ρ : Type} (a0 : Int) (k : Int → Option ρ) : sha_blockSize a0 k = sha_blockSize_raw a0 k := by unfold sha_blockSize; rw [shut_eq]
end P
end

section
open Go Go.Abs
set_option linter.unusedVariables false
namespace P
noncomputable def sha_End_r10 {ρ : Type} (v3 : Int) (v45 : List Int) (v46 : Int) (h40 : List Int) (h0_0 : Int) (h0_1 : List Int) (h0_3 : Int) (h5 : List Int) (nx : Int → (List Int) → Int → (List Int) → Int → (List Int) → Int → (List Int) → Option ρ) (k0 : Int → (List Int) → Int → (List Int) → Int → (List Int) → Int → (List Int) → Option ρ) : Option ρ :=
 br (decide (v46 < (8 : Int)))
 (br (decide ((0 : Int) ≤ v46))
  (br (decide (v46 < (↑8 : Int)))
   (bits_Be (v45.getD v46.toNat (0 : Int)) (IntKind.i64.wrap (v3.tdiv (16 : Int))) fun (q0 : List Int) =>
    br
     (decide
      ((h40.length + q0.length) * 1 ≤
       140737488355328))
     (nx v3 v45 (IntKind.i64.wrap (v46 + (1 : Int))) (h40 ++ q0) h0_0 h0_1 h0_3 h5) none)
   none)
  none)
 (k0 v3 v45 v46 h40 h0_0 h0_1 h0_3 h5)
noncomputable def sha_End_L10 {ρ : Type} (v3 : Int) (v45 : List Int) (v46 : Int) (h40 : List Int) (h0_0 : Int) (h0_1 : List Int) (h0_3 : Int) (h5 : List Int) (k0 : Int → (List Int) → Int → (List Int) → Int → (List Int) → Int → (List Int) → Option ρ) : Option ρ :=
 lp (fun (x : Int × (List Int) × Int × (List Int) × Int × (List Int) × Int × (List Int)) next (ex : (Int × (List Int) × Int × (List Int) × Int × (List Int) × Int × (List Int)) → Option ρ) => sha_End_r10 x.1 x.2.1 x.2.2.1 x.2.2.2.1 x.2.2.2.2.1 x.2.2.2.2.2.1 x.2.2.2.2.2.2.1 x.2.2.2.2.2.2.2 (fun v3 v45 v46 h40 h0_0 h0_1 h0_3 h5 => next (v3, v45, v46, h40, h0_0, h0_1, h0_3, h5)) (fun v3 v45 v46 h40 h0_0 h0_1 h0_3 h5 => ex (v3, v45, v46, h40, h0_0, h0_1, h0_3, h5))) (v3, v45, v46, h40, h0_0, h0_1, h0_3, h5) (fun x => k0 x.1 x.2.1 x.2.2.1 x.2.2.2.1 x.2.2.2.2.1 x.2.2.2.2.2.1 x.2.2.2.2.2.2.1 x.2.2.2.2.2.2.2)
noncomputable def sha_End_l10 {ρ : Type} := shut (sha_End_L10 (ρ := ρ))
theorem sha_End_l10_eq {ρ : Type} : sha_End_l10 (ρ := ρ) = sha_End_L10 := shut_eq _
noncomputable def sha_End_raw {ρ : Type} (a0_Kind : Int) (a0_Words : List Int) (a0_Tail : List Int) (a0_Size : Int) (k : (List Int) → Option ρ) : Option ρ :=
 sha_blockSize a0_Kind fun (q0 : Int) =>
 br (decide ((1 : Int) ≤ q0))
  (br (decide (q0 * (↑1 : Int) ≤ (↑140737488355328 : Int)))
   (br (decide (q0 = (0 : Int))) none
    (br
     (decide
      ((0 : Int) ≤
       IntKind.i64.wrap
        (IntKind.i64.wrap
          ((IntKind.i64.wrap
              (IntKind.i64.wrap
                (IntKind.i64.wrap (IntKind.i64.wrap ((2 : Int) * q0) - (1 : Int)) -
                 IntKind.i64.wrap (q0.tdiv (8 : Int))) -
               (↑a0_Tail.length : Int))).tmod
            q0 +
           IntKind.i64.wrap (q0.tdiv (8 : Int))) -
         (8 : Int))))
     (br
      (decide
       ((1 +
          (IntKind.i64.wrap
            (IntKind.i64.wrap
              ((IntKind.i64.wrap
                  (IntKind.i64.wrap
                    (IntKind.i64.wrap (IntKind.i64.wrap ((2 : Int) * q0) - (1 : Int)) -
                     IntKind.i64.wrap (q0.tdiv (8 : Int))) -
                   (↑a0_Tail.length : Int))).tmod
                q0 +
               IntKind.i64.wrap (q0.tdiv (8 : Int))) -
             (8 : Int))).toNat) *
         1 ≤
        140737488355328))
      (bits_Be (IntKind.u64.wrap (a0_Size * (2 : Int) ^ 3)) (8 : Int) fun (q1 : List Int) =>
       br
        (decide
         ((((List.replicate
                 (IntKind.i64.wrap
                   (IntKind.i64.wrap
                     ((IntKind.i64.wrap
                         (IntKind.i64.wrap
                           (IntKind.i64.wrap
                             (IntKind.i64.wrap ((2 : Int) * q0) - (1 : Int)) -
                            IntKind.i64.wrap (q0.tdiv (8 : Int))) -
                          (↑a0_Tail.length : Int))).tmod
                       q0 +
                      IntKind.i64.wrap (q0.tdiv (8 : Int))) -
                    (8 : Int))).toNat
                 (0 : Int)).length.add
              0).succ +
            q1.length) *
           1 ≤
          140737488355328))
        (sha_Add a0_Kind a0_Words a0_Tail a0_Size
         ((List.replicate 1 (0 : Int)).set 0 (128 : Int) ++
           List.replicate
            (IntKind.i64.wrap
              (IntKind.i64.wrap
                ((IntKind.i64.wrap
                    (IntKind.i64.wrap
                      (IntKind.i64.wrap (IntKind.i64.wrap ((2 : Int) * q0) - (1 : Int)) -
                       IntKind.i64.wrap (q0.tdiv (8 : Int))) -
                     (↑a0_Tail.length : Int))).tmod
                  q0 +
                 IntKind.i64.wrap (q0.tdiv (8 : Int))) -
               (8 : Int))).toNat
            (0 : Int) ++
          q1)
         fun (q2 : Int) (q3 q4 : List Int) (q5 : Int) =>
         sha_End_l10 q0 q3 (0 : Int) [] q2 q3 q5 q4
          fun (q6 : Int) (q7 : List Int) (q8 : Int) (q9 : List Int) (q10 : Int) (q11 : List Int) (q12 : Int)
           (q13 : List Int) =>
          br (q10 == (2 : Int))
           (br (decide ((48 : Int) ≤ (↑q9.length : Int))) (k (List.take ((48 : Int) - (0 : Int)).toNat q9))
            none)
           (k q9))
        none)
      none)
     none))
   none)
  none
noncomputable def sha_End {ρ : Type} := shut (sha_End_raw (ρ := ρ))
theorem sha_End_eq {ρ : Type} (a0_Kind : Int) (a0_Words : List Int) (a0_Tail : List Int) (a0_Size : Int) (k : (List Int) → Option ρ) : sha_End a0_Kind a0_Words a0_Tail a0_Size k = sha_End_raw a0_Kind a0_Words a0_Tail a0_Size k := by unfold sha_End; rw [shut_eq]
end P
end

section
open Go Go.Abs
set_option linter.unusedVariables false
namespace P
noncomputable def wots_short_raw {ρ : Type} (a0 : List Int) (k : (List Int) → Option ρ) : Option ρ :=
 bits_Join
 [List.take 1 (List.drop 3 a0), List.take 8 (List.drop 8 a0),
  List.take 13 (List.drop 19 a0)]
 fun (q0 : List Int) => k q0
noncomputable def wots_short {ρ : Type} := shut (wots_short_raw (ρ := ρ))
theorem wots_short_eq {ρ : Type} (a0 : List Int) (k : (List Int) → Option ρ) : wots_short a0 k = wots_short_raw a0 k := by unfold wots_short; rw [shut_eq]
end P
end

section
open Go Go.Abs
set_option linter.unusedVariables false
namespace P
noncomputable def wots_hashed_f1_raw {ρ : Type} (a0 : List Int) (a1 : List Int) (a2_Kind : Int) (a2_Words : List Int) (a2_Tail : List Int) (a2_Size : Int) (a3 : Int) (a4_Kind : Int) (a4_Words : List Int) (a4_Tail : List Int) (a4_Size : Int) (k : (List Int) → Option ρ) : Option ρ :=
 br (decide (a3 > (16 : Int)))
 (br (decide ((↑a1.length : Int) > a3))
  (wots_short a0 fun (q0 : List Int) =>
   bits_Join [q0, a1] fun (q1 : List Int) =>
    sha_Add a4_Kind a4_Words a4_Tail a4_Size q1 fun (q2 : Int) (q3 q4 : List Int) (q5 : Int) =>
     sha_End q2 q3 q4 q5 fun (q6 : List Int) =>
      br (decide ((0 : Int) ≤ a3))
       (br (decide (a3 ≤ (↑q6.length : Int))) (k (List.take (a3 - (0 : Int)).toNat (List.drop 0 q6)))
        none)
       none)
  (wots_short a0 fun (q7 : List Int) =>
   bits_Join [q7, a1] fun (q8 : List Int) =>
    sha_Add a2_Kind a2_Words a2_Tail a2_Size q8 fun (q9 : Int) (q10 q11 : List Int) (q12 : Int) =>
     sha_End q9 q10 q11 q12 fun (q13 : List Int) =>
      br (decide ((0 : Int) ≤ a3))
       (br (decide (a3 ≤ (↑q13.length : Int))) (k (List.take (a3 - (0 : Int)).toNat (List.drop 0 q13)))
        none)
       none))
 (wots_short a0 fun (q14 : List Int) =>
  bits_Join [q14, a1] fun (q15 : List Int) =>
   sha_Add a2_Kind a2_Words a2_Tail a2_Size q15 fun (q16 : Int) (q17 q18 : List Int) (q19 : Int) =>
    sha_End q16 q17 q18 q19 fun (q20 : List Int) =>
     br (decide ((0 : Int) ≤ a3))
      (br (decide (a3 ≤ (↑q20.length : Int))) (k (List.take (a3 - (0 : Int)).toNat (List.drop 0 q20)))
       none)
      none)
noncomputable def wots_hashed_f1 {ρ : Type} := shut (wots_hashed_f1_raw (ρ := ρ))
theorem wots_hashed_f1_eq {ρ : Type} (a0 : List Int) (a1 : List Int) (a2_Kind : Int) (a2_Words : List Int) (a2_Tail : List Int) (a2_Size : Int) (a3 : Int) (a4_Kind : Int) (a4_Words : List Int) (a4_Tail : List Int) (a4_Size : Int) (k : (List Int) → Option ρ) : wots_hashed_f1 a0 a1 a2_Kind a2_Words a2_Tail a2_Size a3 a4_Kind a4_Words a4_Tail a4_Size k = wots_hashed_f1_raw a0 a1 a2_Kind a2_Words a2_Tail a2_Size a3 a4_Kind a4_Words a4_Tail a4_Size k := by unfold wots_hashed_f1; rw [shut_eq]
end P
end

section
open Go Go.Abs
set_option linter.unusedVariables false
namespace P
noncomputable def wots_hashed_raw {ρ : Type} (a0 : Int) (a1 : List Int) (k : Int → (List Int) → (List Int) → Int → Int → Int → (List Int) → (List Int) → Int → Option ρ) : Option ρ :=
 wots_filled (1 : Int) (64 : Int) a1 fun (q0 : Int) (q1 q2 : List Int) (q3 : Int) =>
 wots_filled (3 : Int) (128 : Int) a1 fun (q4 : Int) (q5 q6 : List Int) (q7 : Int) => k q0 q1 q2 q3 a0 q4 q5 q6 q7
noncomputable def wots_hashed {ρ : Type} := shut (wots_hashed_raw (ρ := ρ))
theorem wots_hashed_eq {ρ : Type} (a0 : Int) (a1 : List Int) (k : Int → (List Int) → (List Int) → Int → Int → Int → (List Int) → (List Int) → Int → Option ρ) : wots_hashed a0 a1 k = wots_hashed_raw a0 a1 k := by unfold wots_hashed; rw [shut_eq]
end P
end

section
open Go Go.Abs
set_option linter.unusedVariables false
namespace P
noncomputable def wots_began_raw {ρ : Type} (a0_N : Int) (a0_H : Int) (a0_D : Int) (a0_A : Int) (a0_K : Int) (a0_Shake : Bool) (a1 : List Int) (k : Int → Int → Int → Int → Int → Bool → Nat → Int → (List Int) → Int → Bool → Int → Int → (List Int) → (List Int) → Int → Int → Int → (List Int) → (List Int) → Int → Bool → Option ρ) : Option ρ :=
 wots_Fit a0_N a0_H a0_D a0_A a0_K a0_Shake fun (q0 : Bool) =>
 br (!q0)
  (k (0 : Int) (0 : Int) (0 : Int) (0 : Int) (0 : Int) false 0 (0 : Int) [] (0 : Int) false (0 : Int)
   (0 : Int) [] [] (0 : Int) (0 : Int) (0 : Int) [] [] (0 : Int) false)
  (br ((↑a1.length : Int) != a0_N)
   (k (0 : Int) (0 : Int) (0 : Int) (0 : Int) (0 : Int) false 0 (0 : Int) [] (0 : Int) false (0 : Int)
    (0 : Int) [] [] (0 : Int) (0 : Int) (0 : Int) [] [] (0 : Int) false)
   (br a0_Shake
    (wots_shaken a0_N a1 fun (q1 : Int) (q2 : List Int) (q3 : Int) (q4 : Bool) (q5 : Int) =>
     k a0_N a0_H a0_D a0_A a0_K a0_Shake 1 q1 q2 q3 q4 q5 (0 : Int) [] [] (0 : Int) (0 : Int) (0 : Int)
      [] [] (0 : Int) true)
    (wots_hashed a0_N a1 fun (q6 : Int) (q7 q8 : List Int) (q9 q10 q11 : Int) (q12 q13 : List Int) (q14 : Int) =>
     k a0_N a0_H a0_D a0_A a0_K a0_Shake 2 (0 : Int) [] (0 : Int) false (0 : Int) q6 q7 q8 q9 q10 q11 q12
      q13 q14 true)))
noncomputable def wots_began {ρ : Type} := shut (wots_began_raw (ρ := ρ))
theorem wots_began_eq {ρ : Type} (a0_N : Int) (a0_H : Int) (a0_D : Int) (a0_A : Int) (a0_K : Int) (a0_Shake : Bool) (a1 : List Int) (k : Int → Int → Int → Int → Int → Bool → Nat → Int → (List Int) → Int → Bool → Int → Int → (List Int) → (List Int) → Int → Int → Int → (List Int) → (List Int) → Int → Bool → Option ρ) : wots_began a0_N a0_H a0_D a0_A a0_K a0_Shake a1 k = wots_began_raw a0_N a0_H a0_D a0_A a0_K a0_Shake a1 k := by unfold wots_began; rw [shut_eq]
end P
end

section
open Go Go.Abs
set_option linter.unusedVariables false
namespace P
noncomputable def wots_Sum_raw {ρ : Type} (a0_N : Int) (a0_H : Int) (a0_D : Int) (a0_A : Int) (a0_K : Int) (a0_Shake : Bool) (a1 : List Int) (a2 : List Int) (a3 : List Int) (k : (List Int) → Option ρ) : Option ρ :=
 wots_began a0_N a0_H a0_D a0_A a0_K a0_Shake a1
 fun (q0 q1 q2 q3 q4 : Int) (q5 : Bool) (q6 : Nat) (q7 : Int) (q8 : List Int) (q9 : Int) (q10 : Bool) (q11 q12 : Int)
  (q13 q14 : List Int) (q15 q16 q17 : Int) (q18 q19 : List Int) (q20 : Int) (q21 : Bool) =>
 br (!q21) (k [])
  (br (decide (q6 = 1)) (wots_shaken_f1 a2 a3 q7 q8 q9 q10 q11 fun (q22 : List Int) => k q22)
   (br (decide (q6 = 2))
    (wots_hashed_f1 a2 a3 q12 q13 q14 q15 q16 q17 q18 q19 q20 fun (q23 : List Int) => k q23) none))
noncomputable def wots_Sum {ρ : Type} := shut (wots_Sum_raw (ρ := ρ))
theorem wots_Sum_eq {ρ : Type} (a0_N : Int) (a0_H : Int) (a0_D : Int) (a0_A : Int) (a0_K : Int) (a0_Shake : Bool) (a1 : List Int) (a2 : List Int) (a3 : List Int) (k : (List Int) → Option ρ) : wots_Sum a0_N a0_H a0_D a0_A a0_K a0_Shake a1 a2 a3 k = wots_Sum_raw a0_N a0_H a0_D a0_A a0_K a0_Shake a1 a2 a3 k := by unfold wots_Sum; rw [shut_eq]
end P
end

section
open Go Go.Abs
set_option linter.unusedVariables false
namespace P
noncomputable def R07_New_raw {ρ : Type} (a0 : Int) (k : Int → (List Int) → (List Int) → Int → Int → Option ρ) : Option ρ :=
 br (a0 == (1 : Int))
 (k a0
  [(1779033703 : Int), (3144134277 : Int), (1013904242 : Int), (2773480762 : Int), (1359893119 : Int),
   (2600822924 : Int), (528734635 : Int), (1541459225 : Int)]
  [] (0 : Int) (0 : Int))
 (br (a0 == (2 : Int))
  (k a0
   [(14680500436340154072 : Int), (7105036623409894663 : Int), (10473403895298186519 : Int),
    (1526699215303891257 : Int), (7436329637833083697 : Int), (10282925794625328401 : Int),
    (15784041429090275239 : Int), (5167115440072839076 : Int)]
   [] (0 : Int) (0 : Int))
  (br (a0 == (3 : Int))
   (k a0
    [(7640891576956012808 : Int), (13503953896175478587 : Int), (4354685564936845355 : Int),
     (11912009170470909681 : Int), (5840696475078001361 : Int), (11170449401992604703 : Int),
     (2270897969802886507 : Int), (6620516959819538809 : Int)]
    [] (0 : Int) (0 : Int))
   (k (0 : Int) [(0 : Int), (0 : Int), (0 : Int), (0 : Int), (0 : Int), (0 : Int), (0 : Int), (0 : Int)] [] (0 : Int)
    (9 : Int))))
noncomputable def R07_New {ρ : Type} := shut (R07_New_raw (ρ := ρ))
theorem R07_New_eq {ρ : Type} (a0 : Int) (k : Int → (List Int) → (List Int) → Int → Int → Option ρ) : R07_New a0 k = R07_New_raw a0 k := by unfold R07_New; rw [shut_eq]
end P
end

section
open Go Go.Abs
set_option linter.unusedVariables false
namespace P
noncomputable def R01_Join_r3 {ρ : Type} (v0 : List (List Int)) (v4 : Int) (h0 : List Int) (nx : (List (List Int)) → Int → (List Int) → Option ρ) (k0 : (List (List Int)) → Int → (List Int) → Option ρ) : Option ρ :=
 br (decide (v4 < (↑v0.length : Int)))
 (br (decide ((0 : Int) ≤ v4))
  (br (decide (v4 < (↑v0.length : Int)))
   (br
    (decide
     ((h0.length + (v0.getD v4.toNat []).length) *
       1 ≤
      140737488355328))
    (nx v0 (IntKind.i64.wrap (v4 + (1 : Int))) (h0 ++ v0.getD v4.toNat [])) none)
   none)
  none)
 (k0 v0 v4 h0)
noncomputable def R01_Join_L3 {ρ : Type} (v0 : List (List Int)) (v4 : Int) (h0 : List Int) (k0 : (List (List Int)) → Int → (List Int) → Option ρ) : Option ρ :=
 lp (fun (x : (List (List Int)) × Int × (List Int)) next (ex : ((List (List Int)) × Int × (List Int)) → Option ρ) => R01_Join_r3 x.1 x.2.1 x.2.2 (fun v0 v4 h0 => next (v0, v4, h0)) (fun v0 v4 h0 => ex (v0, v4, h0))) (v0, v4, h0) (fun x => k0 x.1 x.2.1 x.2.2)
noncomputable def R01_Join_l3 {ρ : Type} := shut (R01_Join_L3 (ρ := ρ))
theorem R01_Join_l3_eq {ρ : Type} : R01_Join_l3 (ρ := ρ) = R01_Join_L3 := shut_eq _
noncomputable def R01_Join_raw {ρ : Type} (a0 : List (List Int)) (k : (List Int) → Option ρ) : Option ρ :=
 R01_Join_l3 a0 (0 : Int) [] fun (q0 : List (List Int)) (q1 : Int) (q2 : List Int) => k q2
noncomputable def R01_Join {ρ : Type} := shut (R01_Join_raw (ρ := ρ))
theorem R01_Join_eq {ρ : Type} (a0 : List (List Int)) (k : (List Int) → Option ρ) : R01_Join a0 k = R01_Join_raw a0 k := by unfold R01_Join; rw [shut_eq]
end P
end

section
open Go Go.Abs
set_option linter.unusedVariables false
namespace P
noncomputable def R07_Block_raw {ρ : Type} (a0 : Int) (k : Int → Option ρ) : Option ρ :=
 br (a0 == (1 : Int)) (k (64 : Int)) (k (128 : Int))
noncomputable def R07_Block {ρ : Type} := shut (R07_Block_raw (ρ := ρ))
theorem R07_Block_eq {ρ : Type} (a0 : Int) (k : Int → Option ρ) : R07_Block a0 k = R07_Block_raw a0 k := by unfold R07_Block; rw [shut_eq]
end P
end

section
open Go Go.Abs
set_option linter.unusedVariables false
namespace P
noncomputable def R07_roots256_raw {ρ : Type}  (k : (List Int) → Option ρ) : Option ρ :=
 k
 [(1116352408 : Int), (1899447441 : Int), (3049323471 : Int), (3921009573 : Int), (961987163 : Int),
  (1508970993 : Int), (2453635748 : Int), (2870763221 : Int), (3624381080 : Int), (310598401 : Int),
  (607225278 : Int), (1426881987 : Int), (1925078388 : Int), (2162078206 : Int), (2614888103 : Int),
  (3248222580 : Int), (3835390401 : Int), (4022224774 : Int), (264347078 : Int), (604807628 : Int), (770255983 : Int),
  (1249150122 : Int), (1555081692 : Int), (1996064986 : Int), (2554220882 : Int), (2821834349 : Int),
  (2952996808 : Int), (3210313671 : Int), (3336571891 : Int), (3584528711 : Int), (113926993 : Int),
  (338241895 : Int), (666307205 : Int), (773529912 : Int), (1294757372 : Int), (1396182291 : Int), (1695183700 : Int),
  (1986661051 : Int), (2177026350 : Int), (2456956037 : Int), (2730485921 : Int), (2820302411 : Int),
  (3259730800 : Int), (3345764771 : Int), (3516065817 : Int), (3600352804 : Int), (4094571909 : Int),
  (275423344 : Int), (430227734 : Int), (506948616 : Int), (659060556 : Int), (883997877 : Int), (958139571 : Int),
  (1322822218 : Int), (1537002063 : Int), (1747873779 : Int), (1955562222 : Int), (2024104815 : Int),
  (2227730452 : Int), (2361852424 : Int), (2428436474 : Int), (2756734187 : Int), (3204031479 : Int),
  (3329325298 : Int)]
noncomputable def R07_roots256 {ρ : Type} := shut (R07_roots256_raw (ρ := ρ))
theorem R07_roots256_eq {ρ : Type}  (k : (List Int) → Option ρ) : R07_roots256  k = R07_roots256_raw  k := by unfold R07_roots256; rw [shut_eq]
end P
end

section
open Go Go.Abs
set_option linter.unusedVariables false
namespace P
noncomputable def R07_roots512_raw {ρ : Type}  (k : (List Int) → Option ρ) : Option ρ :=
 k
 [(4794697086780616226 : Int), (8158064640168781261 : Int), (13096744586834688815 : Int), (16840607885511220156 : Int),
  (4131703408338449720 : Int), (6480981068601479193 : Int), (10538285296894168987 : Int),
  (12329834152419229976 : Int), (15566598209576043074 : Int), (1334009975649890238 : Int),
  (2608012711638119052 : Int), (6128411473006802146 : Int), (8268148722764581231 : Int), (9286055187155687089 : Int),
  (11230858885718282805 : Int), (13951009754708518548 : Int), (16472876342353939154 : Int),
  (17275323862435702243 : Int), (1135362057144423861 : Int), (2597628984639134821 : Int), (3308224258029322869 : Int),
  (5365058923640841347 : Int), (6679025012923562964 : Int), (8573033837759648693 : Int), (10970295158949994411 : Int),
  (12119686244451234320 : Int), (12683024718118986047 : Int), (13788192230050041572 : Int),
  (14330467153632333762 : Int), (15395433587784984357 : Int), (489312712824947311 : Int), (1452737877330783856 : Int),
  (2861767655752347644 : Int), (3322285676063803686 : Int), (5560940570517711597 : Int), (5996557281743188959 : Int),
  (7280758554555802590 : Int), (8532644243296465576 : Int), (9350256976987008742 : Int), (10552545826968843579 : Int),
  (11727347734174303076 : Int), (12113106623233404929 : Int), (14000437183269869457 : Int),
  (14369950271660146224 : Int), (15101387698204529176 : Int), (15463397548674623760 : Int),
  (17586052441742319658 : Int), (1182934255886127544 : Int), (1847814050463011016 : Int), (2177327727835720531 : Int),
  (2830643537854262169 : Int), (3796741975233480872 : Int), (4115178125766777443 : Int), (5681478168544905931 : Int),
  (6601373596472566643 : Int), (7507060721942968483 : Int), (8399075790359081724 : Int), (8693463985226723168 : Int),
  (9568029438360202098 : Int), (10144078919501101548 : Int), (10430055236837252648 : Int),
  (11840083180663258601 : Int), (13761210420658862357 : Int), (14299343276471374635 : Int),
  (14566680578165727644 : Int), (15097957966210449927 : Int), (16922976911328602910 : Int),
  (17689382322260857208 : Int), (500013540394364858 : Int), (748580250866718886 : Int), (1242879168328830382 : Int),
  (1977374033974150939 : Int), (2944078676154940804 : Int), (3659926193048069267 : Int), (4368137639120453308 : Int),
  (4836135668995329356 : Int), (5532061633213252278 : Int), (6448918945643986474 : Int), (6902733635092675308 : Int),
  (7801388544844847127 : Int)]
noncomputable def R07_roots512 {ρ : Type} := shut (R07_roots512_raw (ρ := ρ))
theorem R07_roots512_eq {ρ : Type}  (k : (List Int) → Option ρ) : R07_roots512  k = R07_roots512_raw  k := by unfold R07_roots512; rw [shut_eq]
end P
end

section
open Go Go.Abs
set_option linter.unusedVariables false
namespace P
noncomputable def R07_right_raw {ρ : Type} (a0 : Int) (a1 : Int) (a2 : Bool) (k : Int → Option ρ) : Option ρ :=
 br a2
 (br (decide (a1 < (0 : Int))) none
  (br (decide (IntKind.i64.wrap ((64 : Int) - a1) < (0 : Int))) none
   (k
    (bits BinOp.or IntKind.u64 (a0.fdiv ((2 : Int) ^ min a1.toNat 64))
     (IntKind.u64.wrap (a0 * (2 : Int) ^ min (IntKind.i64.wrap ((64 : Int) - a1)).toNat 64))))))
 (br (decide (a1 < (0 : Int))) none
  (br (decide (IntKind.i64.wrap ((32 : Int) - a1) < (0 : Int))) none
   (k
    (bits BinOp.or IntKind.u64 (a0.fdiv ((2 : Int) ^ min a1.toNat 64))
     (bits BinOp.and IntKind.u64
      (IntKind.u64.wrap (a0 * (2 : Int) ^ min (IntKind.i64.wrap ((32 : Int) - a1)).toNat 64))
      (4294967295 : Int))))))
noncomputable def R07_right {ρ : Type} := shut (R07_right_raw (ρ := ρ))
theorem R07_right_eq {ρ : Type} (a0 : Int) (a1 : Int) (a2 : Bool) (k : Int → Option ρ) : R07_right a0 a1 a2 k = R07_right_raw a0 a1 a2 k := by unfold R07_right; rw [shut_eq]
end P
end

section
open Go Go.Abs
set_option linter.unusedVariables false
namespace P
noncomputable def R07_mix_raw {ρ : Type} (a0 : Int) (a1 : Int) (a2 : Int) (a3 : Int) (a4 : Bool) (a5 : Bool) (k : Int → Option ρ) : Option ρ :=
 br (decide (a3 < (0 : Int))) none
 (br (!a4)
  (R07_right a0 a3 a5 fun (q0 : Int) =>
   R07_right a0 a1 a5 fun (q1 : Int) =>
    R07_right a0 a2 a5 fun (q2 : Int) => k (bits BinOp.xor IntKind.u64 (bits BinOp.xor IntKind.u64 q1 q2) q0))
  (R07_right a0 a1 a5 fun (q3 : Int) =>
   R07_right a0 a2 a5 fun (q4 : Int) =>
    k
     (bits BinOp.xor IntKind.u64 (bits BinOp.xor IntKind.u64 q3 q4)
      (a0.fdiv ((2 : Int) ^ min a3.toNat 64)))))
noncomputable def R07_mix {ρ : Type} := shut (R07_mix_raw (ρ := ρ))
theorem R07_mix_eq {ρ : Type} (a0 : Int) (a1 : Int) (a2 : Int) (a3 : Int) (a4 : Bool) (a5 : Bool) (k : Int → Option ρ) : R07_mix a0 a1 a2 a3 a4 a5 k = R07_mix_raw a0 a1 a2 a3 a4 a5 k := by unfold R07_mix; rw [shut_eq]
end P
end

section
open Go Go.Abs
set_option linter.unusedVariables false
namespace P
noncomputable def R01_Num_r3 {ρ : Type} (v0 : List Int) (v3 : Int) (v4 : Int) (nx : (List Int) → Int → Int → Option ρ) (k0 : (List Int) → Int → Int → Option ρ) : Option ρ :=
 br (decide (v4 < (↑v0.length : Int)))
 (br (decide ((0 : Int) ≤ v4))
  (br (decide (v4 < (↑v0.length : Int)))
   (nx v0 (IntKind.u64.wrap (IntKind.u64.wrap (v3 * (256 : Int)) + IntKind.u64.wrap (v0.getD v4.toNat (0 : Int))))
    (IntKind.i64.wrap (v4 + (1 : Int))))
   none)
  none)
 (k0 v0 v3 v4)
noncomputable def R01_Num_L3 {ρ : Type} (v0 : List Int) (v3 : Int) (v4 : Int) (k0 : (List Int) → Int → Int → Option ρ) : Option ρ :=
 lp (fun (x : (List Int) × Int × Int) next (ex : ((List Int) × Int × Int) → Option ρ) => R01_Num_r3 x.1 x.2.1 x.2.2 (fun v0 v3 v4 => next (v0, v3, v4)) (fun v0 v3 v4 => ex (v0, v3, v4))) (v0, v3, v4) (fun x => k0 x.1 x.2.1 x.2.2)
noncomputable def R01_Num_l3 {ρ : Type} := shut (R01_Num_L3 (ρ := ρ))
theorem R01_Num_l3_eq {ρ : Type} : R01_Num_l3 (ρ := ρ) = R01_Num_L3 := shut_eq _
noncomputable def R01_Num_raw {ρ : Type} (a0 : List Int) (k : Int → Option ρ) : Option ρ :=
 R01_Num_l3 a0 (0 : Int) (0 : Int) fun (q0 : List Int) (q1 q2 : Int) => k q1
noncomputable def R01_Num {ρ : Type} := shut (R01_Num_raw (ρ := ρ))
theorem R01_Num_eq {ρ : Type} (a0 : List Int) (k : Int → Option ρ) : R01_Num a0 k = R01_Num_raw a0 k := by unfold R01_Num; rw [shut_eq]
end P
end

section
open Go Go.Abs
set_option linter.unusedVariables false
namespace P
noncomputable def R07_words_r6 {ρ : Type} (v0 : List Int) (v1 : Bool) (v2 : Int) (v3 : Int) (v9 : Int) (v11 : Int) (h0 : List Int) (nx : (List Int) → Bool → Int → Int → Int → Int → (List Int) → Option ρ) (k0 : (List Int) → Bool → Int → Int → Int → Int → (List Int) → Option ρ) : Option ρ :=
 br (decide (v11 < v2))
 (br (decide (v11 < (16 : Int)))
  (br (decide ((0 : Int) ≤ IntKind.i64.wrap (v11 * v9)))
   (br (decide (IntKind.i64.wrap (v11 * v9) ≤ IntKind.i64.wrap (IntKind.i64.wrap (v11 * v9) + v9)))
    (br (decide (IntKind.i64.wrap (IntKind.i64.wrap (v11 * v9) + v9) ≤ (↑v0.length : Int)))
     (R01_Num
      (List.drop (IntKind.i64.wrap (v11 * v9)).toNat
       (List.take (IntKind.i64.wrap (IntKind.i64.wrap (v11 * v9) + v9)).toNat v0))
      fun (q0 : Int) =>
      br
       (decide
        ((h0.length + 1) *
          8 ≤
         140737488355328))
       (nx v0 v1 v2 v3 v9 (IntKind.i64.wrap (v11 + (1 : Int))) (h0 ++ [q0])) none)
     none)
    none)
   none)
  (br (decide ((0 : Int) ≤ IntKind.i64.wrap (v11 - (15 : Int))))
   (br (decide (IntKind.i64.wrap (v11 - (15 : Int)) < (↑h0.length : Int)))
    (R07_mix (h0.getD (IntKind.i64.wrap (v11 - (15 : Int))).toNat (0 : Int)) (7 : Int) (18 : Int) (3 : Int) true
     false fun (q1 : Int) =>
     br (decide ((0 : Int) ≤ IntKind.i64.wrap (v11 - (2 : Int))))
      (br (decide (IntKind.i64.wrap (v11 - (2 : Int)) < (↑h0.length : Int)))
       (R07_mix (h0.getD (IntKind.i64.wrap (v11 - (2 : Int))).toNat (0 : Int)) (17 : Int) (19 : Int) (10 : Int)
        true false fun (q2 : Int) =>
        br v1
         (br (decide ((0 : Int) ≤ IntKind.i64.wrap (v11 - (15 : Int))))
          (br (decide (IntKind.i64.wrap (v11 - (15 : Int)) < (↑h0.length : Int)))
           (R07_mix (h0.getD (IntKind.i64.wrap (v11 - (15 : Int))).toNat (0 : Int)) (1 : Int) (8 : Int)
            (7 : Int) true true fun (q3 : Int) =>
            br (decide ((0 : Int) ≤ IntKind.i64.wrap (v11 - (2 : Int))))
             (br (decide (IntKind.i64.wrap (v11 - (2 : Int)) < (↑h0.length : Int)))
              (R07_mix (h0.getD (IntKind.i64.wrap (v11 - (2 : Int))).toNat (0 : Int)) (19 : Int)
               (61 : Int) (6 : Int) true true fun (q4 : Int) =>
               br (decide ((0 : Int) ≤ IntKind.i64.wrap (v11 - (7 : Int))))
                (br (decide (IntKind.i64.wrap (v11 - (7 : Int)) < (↑h0.length : Int)))
                 (br (decide ((0 : Int) ≤ IntKind.i64.wrap (v11 - (16 : Int))))
                  (br (decide (IntKind.i64.wrap (v11 - (16 : Int)) < (↑h0.length : Int)))
                   (br
                    (decide
                     ((h0.length + 1) *
                       8 ≤
                      140737488355328))
                    (nx v0 v1 v2 v3 v9 (IntKind.i64.wrap (v11 + (1 : Int)))
                     (h0 ++
                      [bits BinOp.and IntKind.u64
                        (IntKind.u64.wrap
                         (IntKind.u64.wrap
                           (IntKind.u64.wrap
                             (q4 +
                              h0.getD (IntKind.i64.wrap (v11 - (7 : Int))).toNat
                               (0 : Int)) +
                            q3) +
                          h0.getD (IntKind.i64.wrap (v11 - (16 : Int))).toNat (0 : Int)))
                        v3]))
                    none)
                   none)
                  none)
                 none)
                none)
              none)
             none)
           none)
          none)
         (br (decide ((0 : Int) ≤ IntKind.i64.wrap (v11 - (7 : Int))))
          (br (decide (IntKind.i64.wrap (v11 - (7 : Int)) < (↑h0.length : Int)))
           (br (decide ((0 : Int) ≤ IntKind.i64.wrap (v11 - (16 : Int))))
            (br (decide (IntKind.i64.wrap (v11 - (16 : Int)) < (↑h0.length : Int)))
             (br
              (decide
               ((h0.length + 1) *
                 8 ≤
                140737488355328))
              (nx v0 v1 v2 v3 v9 (IntKind.i64.wrap (v11 + (1 : Int)))
               (h0 ++
                [bits BinOp.and IntKind.u64
                  (IntKind.u64.wrap
                   (IntKind.u64.wrap
                     (IntKind.u64.wrap
                       (q2 + h0.getD (IntKind.i64.wrap (v11 - (7 : Int))).toNat (0 : Int)) +
                      q1) +
                    h0.getD (IntKind.i64.wrap (v11 - (16 : Int))).toNat (0 : Int)))
                  v3]))
              none)
             none)
            none)
           none)
          none))
       none)
      none)
    none)
   none))
 (k0 v0 v1 v2 v3 v9 v11 h0)
noncomputable def R07_words_L6 {ρ : Type} (v0 : List Int) (v1 : Bool) (v2 : Int) (v3 : Int) (v9 : Int) (v11 : Int) (h0 : List Int) (k0 : (List Int) → Bool → Int → Int → Int → Int → (List Int) → Option ρ) : Option ρ :=
 lp (fun (x : (List Int) × Bool × Int × Int × Int × Int × (List Int)) next (ex : ((List Int) × Bool × Int × Int × Int × Int × (List Int)) → Option ρ) => R07_words_r6 x.1 x.2.1 x.2.2.1 x.2.2.2.1 x.2.2.2.2.1 x.2.2.2.2.2.1 x.2.2.2.2.2.2 (fun v0 v1 v2 v3 v9 v11 h0 => next (v0, v1, v2, v3, v9, v11, h0)) (fun v0 v1 v2 v3 v9 v11 h0 => ex (v0, v1, v2, v3, v9, v11, h0))) (v0, v1, v2, v3, v9, v11, h0) (fun x => k0 x.1 x.2.1 x.2.2.1 x.2.2.2.1 x.2.2.2.2.1 x.2.2.2.2.2.1 x.2.2.2.2.2.2)
noncomputable def R07_words_l6 {ρ : Type} := shut (R07_words_L6 (ρ := ρ))
theorem R07_words_l6_eq {ρ : Type} : R07_words_l6 (ρ := ρ) = R07_words_L6 := shut_eq _
noncomputable def R07_words_raw {ρ : Type} (a0 : List Int) (a1 : Bool) (a2 : Int) (a3 : Int) (k : (List Int) → Option ρ) : Option ρ :=
 br a1
 (R07_words_l6 a0 a1 a2 a3 (8 : Int) (0 : Int) []
  fun (q0 : List Int) (q1 : Bool) (q2 q3 q4 q5 : Int) (q6 : List Int) => k q6)
 (R07_words_l6 a0 a1 a2 a3 (4 : Int) (0 : Int) []
  fun (q7 : List Int) (q8 : Bool) (q9 q10 q11 q12 : Int) (q13 : List Int) => k q13)
noncomputable def R07_words {ρ : Type} := shut (R07_words_raw (ρ := ρ))
theorem R07_words_eq {ρ : Type} (a0 : List Int) (a1 : Bool) (a2 : Int) (a3 : Int) (k : (List Int) → Option ρ) : R07_words a0 a1 a2 a3 k = R07_words_raw a0 a1 a2 a3 k := by unfold R07_words; rw [shut_eq]
end P
end

section
open Go Go.Abs
set_option linter.unusedVariables false
namespace P
noncomputable def R07_block_r11 {ρ : Type} (v2 : Bool) (v7 : Int) (v8 : Int) (v13 : Int) (h0_0 : List Int) (h1_0 : List Int) (h2_0 : List Int) (h3_0 : List Int) (h4 : List Int) (h5_0 : List Int) (nx : Bool → Int → Int → Int → (List Int) → (List Int) → (List Int) → (List Int) → (List Int) → (List Int) → Option ρ) (k0 : Bool → Int → Int → Int → (List Int) → (List Int) → (List Int) → (List Int) → (List Int) → (List Int) → Option ρ) : Option ρ :=
 br (decide (v13 < v7))
 (R07_mix (h5_0.getD 0 (0 : Int)) (2 : Int) (13 : Int) (22 : Int) false false fun (q0 : Int) =>
  R07_mix (h5_0.getD 4 (0 : Int)) (6 : Int) (11 : Int) (25 : Int) false false fun (q1 : Int) =>
   br v2
    (R07_mix (h5_0.getD 0 (0 : Int)) (28 : Int) (34 : Int) (39 : Int) false true fun (q2 : Int) =>
     R07_mix (h5_0.getD 4 (0 : Int)) (14 : Int) (18 : Int) (41 : Int) false true fun (q3 : Int) =>
      br (decide ((0 : Int) ≤ v13))
       (br (decide (v13 < (↑80 : Int)))
        (br (decide ((0 : Int) ≤ v13))
         (br (decide (v13 < (↑h4.length : Int)))
          (nx v2 v7 v8 (IntKind.i64.wrap (v13 + (1 : Int))) h0_0 h1_0 h2_0 h3_0 h4
           [bits BinOp.and IntKind.u64
             (IntKind.u64.wrap
              (IntKind.u64.wrap
                (IntKind.u64.wrap
                  (IntKind.u64.wrap
                    (IntKind.u64.wrap (h5_0.getD 7 (0 : Int) + q3) +
                     bits BinOp.xor IntKind.u64
                      (bits BinOp.and IntKind.u64 (h5_0.getD 4 (0 : Int))
                       (h5_0.getD 5 (0 : Int)))
                      (bits BinOp.and IntKind.u64
                       (bits BinOp.xor IntKind.u64 v8 (h5_0.getD 4 (0 : Int)))
                       (h5_0.getD 6 (0 : Int)))) +
                   h3_0.getD v13.toNat (0 : Int)) +
                 h4.getD v13.toNat (0 : Int)) +
               IntKind.u64.wrap
                (q2 +
                 bits BinOp.xor IntKind.u64
                  (bits BinOp.xor IntKind.u64
                   (bits BinOp.and IntKind.u64 (h5_0.getD 0 (0 : Int))
                    (h5_0.getD 1 (0 : Int)))
                   (bits BinOp.and IntKind.u64 (h5_0.getD 0 (0 : Int))
                    (h5_0.getD 2 (0 : Int))))
                  (bits BinOp.and IntKind.u64 (h5_0.getD 1 (0 : Int))
                   (h5_0.getD 2 (0 : Int))))))
             v8,
            h5_0.getD 0 (0 : Int), h5_0.getD 1 (0 : Int),
            h5_0.getD 2 (0 : Int),
            bits BinOp.and IntKind.u64
             (IntKind.u64.wrap
              (h5_0.getD 3 (0 : Int) +
               IntKind.u64.wrap
                (IntKind.u64.wrap
                  (IntKind.u64.wrap
                    (IntKind.u64.wrap (h5_0.getD 7 (0 : Int) + q3) +
                     bits BinOp.xor IntKind.u64
                      (bits BinOp.and IntKind.u64 (h5_0.getD 4 (0 : Int))
                       (h5_0.getD 5 (0 : Int)))
                      (bits BinOp.and IntKind.u64
                       (bits BinOp.xor IntKind.u64 v8 (h5_0.getD 4 (0 : Int)))
                       (h5_0.getD 6 (0 : Int)))) +
                   h3_0.getD v13.toNat (0 : Int)) +
                 h4.getD v13.toNat (0 : Int))))
             v8,
            h5_0.getD 4 (0 : Int), h5_0.getD 5 (0 : Int),
            h5_0.getD 6 (0 : Int)])
          none)
         none)
        none)
       none)
    (br (decide ((0 : Int) ≤ v13))
     (br (decide (v13 < (↑64 : Int)))
      (br (decide ((0 : Int) ≤ v13))
       (br (decide (v13 < (↑h4.length : Int)))
        (nx v2 v7 v8 (IntKind.i64.wrap (v13 + (1 : Int))) h0_0 h1_0 h2_0 h3_0 h4
         [bits BinOp.and IntKind.u64
           (IntKind.u64.wrap
            (IntKind.u64.wrap
              (IntKind.u64.wrap
                (IntKind.u64.wrap
                  (IntKind.u64.wrap (h5_0.getD 7 (0 : Int) + q1) +
                   bits BinOp.xor IntKind.u64
                    (bits BinOp.and IntKind.u64 (h5_0.getD 4 (0 : Int))
                     (h5_0.getD 5 (0 : Int)))
                    (bits BinOp.and IntKind.u64
                     (bits BinOp.xor IntKind.u64 v8 (h5_0.getD 4 (0 : Int)))
                     (h5_0.getD 6 (0 : Int)))) +
                 h2_0.getD v13.toNat (0 : Int)) +
               h4.getD v13.toNat (0 : Int)) +
             IntKind.u64.wrap
              (q0 +
               bits BinOp.xor IntKind.u64
                (bits BinOp.xor IntKind.u64
                 (bits BinOp.and IntKind.u64 (h5_0.getD 0 (0 : Int))
                  (h5_0.getD 1 (0 : Int)))
                 (bits BinOp.and IntKind.u64 (h5_0.getD 0 (0 : Int))
                  (h5_0.getD 2 (0 : Int))))
                (bits BinOp.and IntKind.u64 (h5_0.getD 1 (0 : Int))
                 (h5_0.getD 2 (0 : Int))))))
           v8,
          h5_0.getD 0 (0 : Int), h5_0.getD 1 (0 : Int), h5_0.getD 2 (0 : Int),
          bits BinOp.and IntKind.u64
           (IntKind.u64.wrap
            (h5_0.getD 3 (0 : Int) +
             IntKind.u64.wrap
              (IntKind.u64.wrap
                (IntKind.u64.wrap
                  (IntKind.u64.wrap (h5_0.getD 7 (0 : Int) + q1) +
                   bits BinOp.xor IntKind.u64
                    (bits BinOp.and IntKind.u64 (h5_0.getD 4 (0 : Int))
                     (h5_0.getD 5 (0 : Int)))
                    (bits BinOp.and IntKind.u64
                     (bits BinOp.xor IntKind.u64 v8 (h5_0.getD 4 (0 : Int)))
                     (h5_0.getD 6 (0 : Int)))) +
                 h2_0.getD v13.toNat (0 : Int)) +
               h4.getD v13.toNat (0 : Int))))
           v8,
          h5_0.getD 4 (0 : Int), h5_0.getD 5 (0 : Int), h5_0.getD 6 (0 : Int)])
        none)
       none)
      none)
     none))
 (k0 v2 v7 v8 v13 h0_0 h1_0 h2_0 h3_0 h4 h5_0)
noncomputable def R07_block_L11 {ρ : Type} (v2 : Bool) (v7 : Int) (v8 : Int) (v13 : Int) (h0_0 : List Int) (h1_0 : List Int) (h2_0 : List Int) (h3_0 : List Int) (h4 : List Int) (h5_0 : List Int) (k0 : Bool → Int → Int → Int → (List Int) → (List Int) → (List Int) → (List Int) → (List Int) → (List Int) → Option ρ) : Option ρ :=
 lp (fun (x : Bool × Int × Int × Int × (List Int) × (List Int) × (List Int) × (List Int) × (List Int) × (List Int)) next (ex : (Bool × Int × Int × Int × (List Int) × (List Int) × (List Int) × (List Int) × (List Int) × (List Int)) → Option ρ) => R07_block_r11 x.1 x.2.1 x.2.2.1 x.2.2.2.1 x.2.2.2.2.1 x.2.2.2.2.2.1 x.2.2.2.2.2.2.1 x.2.2.2.2.2.2.2.1 x.2.2.2.2.2.2.2.2.1 x.2.2.2.2.2.2.2.2.2 (fun v2 v7 v8 v13 h0_0 h1_0 h2_0 h3_0 h4 h5_0 => next (v2, v7, v8, v13, h0_0, h1_0, h2_0, h3_0, h4, h5_0)) (fun v2 v7 v8 v13 h0_0 h1_0 h2_0 h3_0 h4 h5_0 => ex (v2, v7, v8, v13, h0_0, h1_0, h2_0, h3_0, h4, h5_0))) (v2, v7, v8, v13, h0_0, h1_0, h2_0, h3_0, h4, h5_0) (fun x => k0 x.1 x.2.1 x.2.2.1 x.2.2.2.1 x.2.2.2.2.1 x.2.2.2.2.2.1 x.2.2.2.2.2.2.1 x.2.2.2.2.2.2.2.1 x.2.2.2.2.2.2.2.2.1 x.2.2.2.2.2.2.2.2.2)
noncomputable def R07_block_l11 {ρ : Type} := shut (R07_block_L11 (ρ := ρ))
theorem R07_block_l11_eq {ρ : Type} : R07_block_l11 (ρ := ρ) = R07_block_L11 := shut_eq _
noncomputable def R07_block_r25 {ρ : Type} (v8 : Int) (v19 : Int) (h0_0 : List Int) (h1_0 : List Int) (h5_0 : List Int) (nx : Int → Int → (List Int) → (List Int) → (List Int) → Option ρ) (k0 : Int → Int → (List Int) → (List Int) → (List Int) → Option ρ) : Option ρ :=
 br (decide (v19 < (8 : Int)))
 (br (decide ((0 : Int) ≤ v19))
  (br (decide (v19 < (↑8 : Int)))
   (br (decide ((0 : Int) ≤ v19))
    (br (decide (v19 < (↑8 : Int)))
     (br (decide ((0 : Int) ≤ v19))
      (br (decide (v19 < (↑8 : Int)))
       (nx v8 (IntKind.i64.wrap (v19 + (1 : Int))) h0_0 h1_0
        (h5_0.set v19.toNat
         (bits BinOp.and IntKind.u64
          (IntKind.u64.wrap (h5_0.getD v19.toNat (0 : Int) + h0_0.getD v19.toNat (0 : Int))) v8)))
       none)
      none)
     none)
    none)
   none)
  none)
 (k0 v8 v19 h0_0 h1_0 h5_0)
noncomputable def R07_block_L25 {ρ : Type} (v8 : Int) (v19 : Int) (h0_0 : List Int) (h1_0 : List Int) (h5_0 : List Int) (k0 : Int → Int → (List Int) → (List Int) → (List Int) → Option ρ) : Option ρ :=
 lp (fun (x : Int × Int × (List Int) × (List Int) × (List Int)) next (ex : (Int × Int × (List Int) × (List Int) × (List Int)) → Option ρ) => R07_block_r25 x.1 x.2.1 x.2.2.1 x.2.2.2.1 x.2.2.2.2 (fun v8 v19 h0_0 h1_0 h5_0 => next (v8, v19, h0_0, h1_0, h5_0)) (fun v8 v19 h0_0 h1_0 h5_0 => ex (v8, v19, h0_0, h1_0, h5_0))) (v8, v19, h0_0, h1_0, h5_0) (fun x => k0 x.1 x.2.1 x.2.2.1 x.2.2.2.1 x.2.2.2.2)
noncomputable def R07_block_l25 {ρ : Type} := shut (R07_block_L25 (ρ := ρ))
theorem R07_block_l25_eq {ρ : Type} : R07_block_l25 (ρ := ρ) = R07_block_L25 := shut_eq _
noncomputable def R07_block_raw {ρ : Type} (a0 : List Int) (a1 : List Int) (a2 : Bool) (k : (List Int) → Option ρ) : Option ρ :=
 R07_roots256 fun (q0 : List Int) =>
 R07_roots512 fun (q1 : List Int) =>
  br a2
   (R07_words a1 a2 (80 : Int) (18446744073709551615 : Int) fun (q2 : List Int) =>
    R07_block_l11 a2 (80 : Int) (18446744073709551615 : Int) (0 : Int) a0
     [(0 : Int), (0 : Int), (0 : Int), (0 : Int), (0 : Int), (0 : Int), (0 : Int), (0 : Int)] q0 q1 q2 a0
     fun (q3 : Bool) (q4 q5 q6 : Int) (q7 q8 q9 q10 q11 q12 : List Int) =>
     R07_block_l25 q5 (0 : Int) q7 q8 q12 fun (q13 q14 : Int) (q15 q16 q17 : List Int) => k q17)
   (R07_words a1 a2 (64 : Int) (4294967295 : Int) fun (q18 : List Int) =>
    R07_block_l11 a2 (64 : Int) (4294967295 : Int) (0 : Int) a0
     [(0 : Int), (0 : Int), (0 : Int), (0 : Int), (0 : Int), (0 : Int), (0 : Int), (0 : Int)] q0 q1 q18 a0
     fun (q19 : Bool) (q20 q21 q22 : Int) (q23 q24 q25 q26 q27 q28 : List Int) =>
     R07_block_l25 q21 (0 : Int) q23 q24 q28 fun (q29 q30 : Int) (q31 q32 q33 : List Int) => k q33)
noncomputable def R07_block {ρ : Type} := shut (R07_block_raw (ρ := ρ))
theorem R07_block_eq {ρ : Type} (a0 : List Int) (a1 : List Int) (a2 : Bool) (k : (List Int) → Option ρ) : R07_block a0 a1 a2 k = R07_block_raw a0 a1 a2 k := by unfold R07_block; rw [shut_eq]
end P
end

section
open Go Go.Abs
set_option linter.unusedVariables false
namespace P
noncomputable def R07_Add_r4 {ρ : Type} (v5 : Int) (v6 : List Int) (h0_0 : Int) (h0_1 : List Int) (h0_2 : List Int) (h0_3 : Int) (h1_0 : Int) (h1_1 : List Int) (h1_3 : Int) (nx : Int → (List Int) → Int → (List Int) → (List Int) → Int → Int → (List Int) → Int → Option ρ) (k0 : Int → (List Int) → Int → (List Int) → (List Int) → Int → Int → (List Int) → Int → Option ρ) : Option ρ :=
 br (decide ((↑v6.length : Int) ≥ v5))
 (br (decide ((0 : Int) ≤ v5))
  (br (decide (v5 ≤ (↑v6.length : Int)))
   (R07_block h0_1 (List.drop 0 (List.take v5.toNat v6)) (v5 == (128 : Int)) fun (q0 : List Int) =>
    br (decide ((0 : Int) ≤ v5))
     (br (decide (v5 ≤ (↑v6.length : Int)))
      (br (decide ((↑v6.length : Int) ≤ (↑v6.length : Int)))
       (nx v5 (List.drop v5.toNat (List.take (↑v6.length : Int).toNat v6)) h0_0 q0 h0_2 h0_3 h1_0 h1_1 h1_3)
       none)
      none)
     none)
   none)
  none)
 (k0 v5 v6 h0_0 h0_1 h0_2 h0_3 h1_0 h1_1 h1_3)
noncomputable def R07_Add_L4 {ρ : Type} (v5 : Int) (v6 : List Int) (h0_0 : Int) (h0_1 : List Int) (h0_2 : List Int) (h0_3 : Int) (h1_0 : Int) (h1_1 : List Int) (h1_3 : Int) (k0 : Int → (List Int) → Int → (List Int) → (List Int) → Int → Int → (List Int) → Int → Option ρ) : Option ρ :=
 lp (fun (x : Int × (List Int) × Int × (List Int) × (List Int) × Int × Int × (List Int) × Int) next (ex : (Int × (List Int) × Int × (List Int) × (List Int) × Int × Int × (List Int) × Int) → Option ρ) => R07_Add_r4 x.1 x.2.1 x.2.2.1 x.2.2.2.1 x.2.2.2.2.1 x.2.2.2.2.2.1 x.2.2.2.2.2.2.1 x.2.2.2.2.2.2.2.1 x.2.2.2.2.2.2.2.2 (fun v5 v6 h0_0 h0_1 h0_2 h0_3 h1_0 h1_1 h1_3 => next (v5, v6, h0_0, h0_1, h0_2, h0_3, h1_0, h1_1, h1_3)) (fun v5 v6 h0_0 h0_1 h0_2 h0_3 h1_0 h1_1 h1_3 => ex (v5, v6, h0_0, h0_1, h0_2, h0_3, h1_0, h1_1, h1_3))) (v5, v6, h0_0, h0_1, h0_2, h0_3, h1_0, h1_1, h1_3) (fun x => k0 x.1 x.2.1 x.2.2.1 x.2.2.2.1 x.2.2.2.2.1 x.2.2.2.2.2.1 x.2.2.2.2.2.2.1 x.2.2.2.2.2.2.2.1 x.2.2.2.2.2.2.2.2)
noncomputable def R07_Add_l4 {ρ : Type} := shut (R07_Add_L4 (ρ := ρ))
theorem R07_Add_l4_eq {ρ : Type} : R07_Add_l4 (ρ := ρ) = R07_Add_L4 := shut_eq _
noncomputable def R07_Add_raw {ρ : Type} (a0_Kind : Int) (a0_Words : List Int) (a0_Tail : List Int) (a0_Size : Int) (a1 : List Int) (k : Int → (List Int) → (List Int) → Int → Option ρ) : Option ρ :=
 R07_Block a0_Kind fun (q0 : Int) =>
 R01_Join [a0_Tail, a1] fun (q1 : List Int) =>
  R07_Add_l4 q0 q1 a0_Kind a0_Words a0_Tail (IntKind.u64.wrap (a0_Size + IntKind.u64.wrap (↑a1.length : Int)))
   (0 : Int) [(0 : Int), (0 : Int), (0 : Int), (0 : Int), (0 : Int), (0 : Int), (0 : Int), (0 : Int)] (0 : Int)
   fun (q2 : Int) (q3 : List Int) (q4 : Int) (q5 q6 : List Int) (q7 q8 : Int) (q9 : List Int) (q10 : Int) =>
   k q4 q5 q3 q7
noncomputable def R07_Add {ρ : Type} := shut (R07_Add_raw (ρ := ρ))
theorem R07_Add_eq {ρ : Type} (a0_Kind : Int) (a0_Words : List Int) (a0_Tail : List Int) (a0_Size : Int) (a1 : List Int) (k : Int → (List Int) → (List Int) → Int → Option ρ) : R07_Add a0_Kind a0_Words a0_Tail a0_Size a1 k = R07_Add_raw a0_Kind a0_Words a0_Tail a0_Size a1 k := by unfold R07_Add; rw [shut_eq]
end P
end

section
open Go Go.Abs
set_option linter.unusedVariables false
namespace P
noncomputable def R07_End_r4 {ρ : Type} (v3 : Int) (v4 : Int) (h40 : List Int) (h0_0 : Int) (h0_1 : List Int) (h0_2 : List Int) (h0_3 : Int) (nx : Int → Int → (List Int) → Int → (List Int) → (List Int) → Int → Option ρ) (k0 : Int → Int → (List Int) → Int → (List Int) → (List Int) → Int → Option ρ) : Option ρ :=
 br (decide (v3 = (0 : Int))) none
 (br ((IntKind.i64.wrap ((↑h0_2.length : Int) + (↑h40.length : Int))).tmod v3 != IntKind.i64.wrap (v3 - (8 : Int)))
  (br
   (decide
    ((h40.length + 1) * 1 ≤
     140737488355328))
   (nx v3 v4 (h40 ++ [(0 : Int)]) h0_0 h0_1 h0_2 h0_3) none)
  (k0 v3 v4 h40 h0_0 h0_1 h0_2 h0_3))
noncomputable def R07_End_L4 {ρ : Type} (v3 : Int) (v4 : Int) (h40 : List Int) (h0_0 : Int) (h0_1 : List Int) (h0_2 : List Int) (h0_3 : Int) (k0 : Int → Int → (List Int) → Int → (List Int) → (List Int) → Int → Option ρ) : Option ρ :=
 lp (fun (x : Int × Int × (List Int) × Int × (List Int) × (List Int) × Int) next (ex : (Int × Int × (List Int) × Int × (List Int) × (List Int) × Int) → Option ρ) => R07_End_r4 x.1 x.2.1 x.2.2.1 x.2.2.2.1 x.2.2.2.2.1 x.2.2.2.2.2.1 x.2.2.2.2.2.2 (fun v3 v4 h40 h0_0 h0_1 h0_2 h0_3 => next (v3, v4, h40, h0_0, h0_1, h0_2, h0_3)) (fun v3 v4 h40 h0_0 h0_1 h0_2 h0_3 => ex (v3, v4, h40, h0_0, h0_1, h0_2, h0_3))) (v3, v4, h40, h0_0, h0_1, h0_2, h0_3) (fun x => k0 x.1 x.2.1 x.2.2.1 x.2.2.2.1 x.2.2.2.2.1 x.2.2.2.2.2.1 x.2.2.2.2.2.2)
noncomputable def R07_End_l4 {ρ : Type} := shut (R07_End_L4 (ρ := ρ))
theorem R07_End_l4_eq {ρ : Type} : R07_End_l4 (ρ := ρ) = R07_End_L4 := shut_eq _
noncomputable def R07_End_r8 {ρ : Type} (v3 : Int) (v4 : Int) (h80 : List Int) (h0_0 : Int) (h0_1 : List Int) (h0_2 : List Int) (h0_3 : Int) (nx : Int → Int → (List Int) → Int → (List Int) → (List Int) → Int → Option ρ) (k0 : Int → Int → (List Int) → Int → (List Int) → (List Int) → Int → Option ρ) : Option ρ :=
 br (decide (v3 = (0 : Int))) none
 (br ((IntKind.i64.wrap ((↑h0_2.length : Int) + (↑h80.length : Int))).tmod v3 != IntKind.i64.wrap (v3 - (16 : Int)))
  (br
   (decide
    ((h80.length + 1) * 1 ≤
     140737488355328))
   (nx v3 v4 (h80 ++ [(0 : Int)]) h0_0 h0_1 h0_2 h0_3) none)
  (k0 v3 v4 h80 h0_0 h0_1 h0_2 h0_3))
noncomputable def R07_End_L8 {ρ : Type} (v3 : Int) (v4 : Int) (h80 : List Int) (h0_0 : Int) (h0_1 : List Int) (h0_2 : List Int) (h0_3 : Int) (k0 : Int → Int → (List Int) → Int → (List Int) → (List Int) → Int → Option ρ) : Option ρ :=
 lp (fun (x : Int × Int × (List Int) × Int × (List Int) × (List Int) × Int) next (ex : (Int × Int × (List Int) × Int × (List Int) × (List Int) × Int) → Option ρ) => R07_End_r8 x.1 x.2.1 x.2.2.1 x.2.2.2.1 x.2.2.2.2.1 x.2.2.2.2.2.1 x.2.2.2.2.2.2 (fun v3 v4 h80 h0_0 h0_1 h0_2 h0_3 => next (v3, v4, h80, h0_0, h0_1, h0_2, h0_3)) (fun v3 v4 h80 h0_0 h0_1 h0_2 h0_3 => ex (v3, v4, h80, h0_0, h0_1, h0_2, h0_3))) (v3, v4, h80, h0_0, h0_1, h0_2, h0_3) (fun x => k0 x.1 x.2.1 x.2.2.1 x.2.2.2.1 x.2.2.2.2.1 x.2.2.2.2.2.1 x.2.2.2.2.2.2)
noncomputable def R07_End_l8 {ρ : Type} := shut (R07_End_L8 (ρ := ρ))
theorem R07_End_l8_eq {ρ : Type} : R07_End_l8 (ρ := ρ) = R07_End_L8 := shut_eq _
noncomputable def R07_End_r14 {ρ : Type} (v3 : Int) (v7 : Int) (h120 : List Int) (h0_0 : Int) (h0_1 : List Int) (h0_2 : List Int) (h0_3 : Int) (nx : Int → Int → (List Int) → Int → (List Int) → (List Int) → Int → Option ρ) (k0 : Int → Int → (List Int) → Int → (List Int) → (List Int) → Int → Option ρ) : Option ρ :=
 br (decide (v7 < (8 : Int)))
 (br (decide ((0 : Int) ≤ v7))
  (br (decide (v7 < (↑8 : Int)))
   (R01_Be (h0_1.getD v7.toNat (0 : Int)) (IntKind.i64.wrap (v3.tdiv (16 : Int))) fun (q0 : List Int) =>
    br
     (decide
      ((h120.length + q0.length) * 1 ≤
       140737488355328))
     (nx v3 (IntKind.i64.wrap (v7 + (1 : Int))) (h120 ++ q0) h0_0 h0_1 h0_2 h0_3) none)
   none)
  none)
 (k0 v3 v7 h120 h0_0 h0_1 h0_2 h0_3)
noncomputable def R07_End_L14 {ρ : Type} (v3 : Int) (v7 : Int) (h120 : List Int) (h0_0 : Int) (h0_1 : List Int) (h0_2 : List Int) (h0_3 : Int) (k0 : Int → Int → (List Int) → Int → (List Int) → (List Int) → Int → Option ρ) : Option ρ :=
 lp (fun (x : Int × Int × (List Int) × Int × (List Int) × (List Int) × Int) next (ex : (Int × Int × (List Int) × Int × (List Int) × (List Int) × Int) → Option ρ) => R07_End_r14 x.1 x.2.1 x.2.2.1 x.2.2.2.1 x.2.2.2.2.1 x.2.2.2.2.2.1 x.2.2.2.2.2.2 (fun v3 v7 h120 h0_0 h0_1 h0_2 h0_3 => next (v3, v7, h120, h0_0, h0_1, h0_2, h0_3)) (fun v3 v7 h120 h0_0 h0_1 h0_2 h0_3 => ex (v3, v7, h120, h0_0, h0_1, h0_2, h0_3))) (v3, v7, h120, h0_0, h0_1, h0_2, h0_3) (fun x => k0 x.1 x.2.1 x.2.2.1 x.2.2.2.1 x.2.2.2.2.1 x.2.2.2.2.2.1 x.2.2.2.2.2.2)
noncomputable def R07_End_l14 {ρ : Type} := shut (R07_End_L14 (ρ := ρ))
theorem R07_End_l14_eq {ρ : Type} : R07_End_l14 (ρ := ρ) = R07_End_L14 := shut_eq _
noncomputable def R07_End_raw {ρ : Type} (a0_Kind : Int) (a0_Words : List Int) (a0_Tail : List Int) (a0_Size : Int) (k : (List Int) → Option ρ) : Option ρ :=
 R07_Block a0_Kind fun (q0 : Int) =>
 R07_End_l4 q0 (IntKind.u64.wrap (a0_Size * (8 : Int))) [(128 : Int)] a0_Kind a0_Words a0_Tail a0_Size
  fun (q1 q2 : Int) (q3 : List Int) (q4 : Int) (q5 q6 : List Int) (q7 : Int) =>
  br (q1 == (128 : Int))
   (R07_End_l8 q1 q2 [(128 : Int)] q4 q5 q6 q7
    fun (q8 q9 : Int) (q10 : List Int) (q11 : Int) (q12 q13 : List Int) (q14 : Int) =>
    R01_Be (q14.fdiv ((2 : Int) ^ 61)) (8 : Int) fun (q15 : List Int) =>
     br
      (decide
       ((q10.length + q15.length) * 1 ≤
        140737488355328))
      (R01_Be q9 (8 : Int) fun (q16 : List Int) =>
       br
        (decide
         (((q10 ++ q15).length + q16.length) *
           1 ≤
          140737488355328))
        (R07_Add q11 q12 q13 q14 (q10 ++ q15 ++ q16) fun (q17 : Int) (q18 q19 : List Int) (q20 : Int) =>
         R07_End_l14 q8 (0 : Int) [] q17 q18 q19 q20
          fun (q21 q22 : Int) (q23 : List Int) (q24 : Int) (q25 q26 : List Int) (q27 : Int) =>
          br (q24 == (2 : Int))
           (br (decide ((48 : Int) ≤ (↑q23.length : Int))) (k (List.take ((48 : Int) - (0 : Int)).toNat q23))
            none)
           (k q23))
        none)
      none)
   (R01_Be q2 (8 : Int) fun (q28 : List Int) =>
    br
     (decide
      ((q3.length + q28.length) * 1 ≤
       140737488355328))
     (R07_Add q4 q5 q6 q7 (q3 ++ q28) fun (q29 : Int) (q30 q31 : List Int) (q32 : Int) =>
      R07_End_l14 q1 (0 : Int) [] q29 q30 q31 q32
       fun (q33 q34 : Int) (q35 : List Int) (q36 : Int) (q37 q38 : List Int) (q39 : Int) =>
       br (q36 == (2 : Int))
        (br (decide ((48 : Int) ≤ (↑q35.length : Int))) (k (List.take ((48 : Int) - (0 : Int)).toNat q35)) none)
        (k q35))
     none)
noncomputable def R07_End {ρ : Type} := shut (R07_End_raw (ρ := ρ))
theorem R07_End_eq {ρ : Type} (a0_Kind : Int) (a0_Words : List Int) (a0_Tail : List Int) (a0_Size : Int) (k : (List Int) → Option ρ) : R07_End a0_Kind a0_Words a0_Tail a0_Size k = R07_End_raw a0_Kind a0_Words a0_Tail a0_Size k := by unfold R07_End; rw [shut_eq]
end P
end
