/-
  LmotsRight, part N: an interpreter of my own over abstract values, the pure functions, the walks and the plain law.
-/

import Derived.Test.YtknjpkgnideplaaDoorLmotsRightF
import Derived.Test.YtknjpkgnideplaaDoorLmotsRightM
import Derived.Test.YtknjpkgnideplaaDoorLmotsRightG
import Derived.Test.YtknjpkgnideplaaDoorLmotsRightH

section
open Go Go.Abs
set_option linter.unusedVariables false
namespace P
noncomputable def R07_words_r6 {ρ : Type} (v0 : List Int) (v1 : Bool) (v2 : Int) (v3 : Int) (v9 : Int) (v11 : Int) (h0 : List Int) (nx : (List Int) → Bool → Int → Int → Int → Int → (List Int) → Option ρ) (k0 : (List Int) → Bool → Int → Int → Int → Int → (List Int) → Option ρ) : Option ρ :=
  br (decide (v11 < v2))
    (br (decide (v11 < (16 : Int)))
      (br (decide ((0 : Int) ≤ IntKind.i64.wrap (v11 * v9)))
        (br (decide (IntKind.i64.wrap (v11 * v9) ≤ IntKind.i64.wrap (IntKind.i64.wrap (v11 * v9) + v9)))
          (br (decide (IntKind.i64.wrap (IntKind.i64.wrap (v11 * v9) + v9) ≤ (↑v0.length : Int)))
            (R01_Num
              (List.drop (IntKind.i64.wrap (v11 * v9)).toNat
                (List.take (IntKind.i64.wrap (IntKind.i64.wrap (v11 * v9) + v9)).toNat v0))
              fun (q0 : Int) =>
              br
                (decide
                  ((h0.length + 1) *
                      8 ≤
                    140737488355328))
                (nx v0 v1 v2 v3 v9 (IntKind.i64.wrap (v11 + (1 : Int))) (h0 ++ [q0])) none)
            none)
          none)
        none)
      (br (decide ((0 : Int) ≤ IntKind.i64.wrap (v11 - (15 : Int))))
        (br (decide (IntKind.i64.wrap (v11 - (15 : Int)) < (↑h0.length : Int)))
          (R07_mix (h0.getD (IntKind.i64.wrap (v11 - (15 : Int))).toNat (0 : Int)) (7 : Int) (18 : Int) (3 : Int) true
            false fun (q1 : Int) =>
            br (decide ((0 : Int) ≤ IntKind.i64.wrap (v11 - (2 : Int))))
              (br (decide (IntKind.i64.wrap (v11 - (2 : Int)) < (↑h0.length : Int)))
                (R07_mix (h0.getD (IntKind.i64.wrap (v11 - (2 : Int))).toNat (0 : Int)) (17 : Int) (19 : Int) (10 : Int)
                  true false fun (q2 : Int) =>
                  br v1
                    (br (decide ((0 : Int) ≤ IntKind.i64.wrap (v11 - (15 : Int))))
                      (br (decide (IntKind.i64.wrap (v11 - (15 : Int)) < (↑h0.length : Int)))
                        (R07_mix (h0.getD (IntKind.i64.wrap (v11 - (15 : Int))).toNat (0 : Int)) (1 : Int) (8 : Int)
                          (7 : Int) true true fun (q3 : Int) =>
                          br (decide ((0 : Int) ≤ IntKind.i64.wrap (v11 - (2 : Int))))
                            (br (decide (IntKind.i64.wrap (v11 - (2 : Int)) < (↑h0.length : Int)))
                              (R07_mix (h0.getD (IntKind.i64.wrap (v11 - (2 : Int))).toNat (0 : Int)) (19 : Int)
                                (61 : Int) (6 : Int) true true fun (q4 : Int) =>
                                br (decide ((0 : Int) ≤ IntKind.i64.wrap (v11 - (7 : Int))))
                                  (br (decide (IntKind.i64.wrap (v11 - (7 : Int)) < (↑h0.length : Int)))
                                    (br (decide ((0 : Int) ≤ IntKind.i64.wrap (v11 - (16 : Int))))
                                      (br (decide (IntKind.i64.wrap (v11 - (16 : Int)) < (↑h0.length : Int)))
                                        (br
                                          (decide
                                            ((h0.length + 1) *
                                                8 ≤
                                              140737488355328))
                                          (nx v0 v1 v2 v3 v9 (IntKind.i64.wrap (v11 + (1 : Int)))
                                            (h0 ++
                                              [bits BinOp.and IntKind.u64
                                                  (IntKind.u64.wrap
                                                    (IntKind.u64.wrap
                                                        (IntKind.u64.wrap
                                                            (q4 +
                                                              h0.getD (IntKind.i64.wrap (v11 - (7 : Int))).toNat
                                                                (0 : Int)) +
                                                          q3) +
                                                      h0.getD (IntKind.i64.wrap (v11 - (16 : Int))).toNat (0 : Int)))
                                                  v3]))
                                          none)
                                        none)
                                      none)
                                    none)
                                  none)
                              none)
                            none)
                        none)
                      none)
                    (br (decide ((0 : Int) ≤ IntKind.i64.wrap (v11 - (7 : Int))))
                      (br (decide (IntKind.i64.wrap (v11 - (7 : Int)) < (↑h0.length : Int)))
                        (br (decide ((0 : Int) ≤ IntKind.i64.wrap (v11 - (16 : Int))))
                          (br (decide (IntKind.i64.wrap (v11 - (16 : Int)) < (↑h0.length : Int)))
                            (br
                              (decide
                                ((h0.length + 1) *
                                    8 ≤
                                  140737488355328))
                              (nx v0 v1 v2 v3 v9 (IntKind.i64.wrap (v11 + (1 : Int)))
                                (h0 ++
                                  [bits BinOp.and IntKind.u64
                                      (IntKind.u64.wrap
                                        (IntKind.u64.wrap
                                            (IntKind.u64.wrap
                                                (q2 + h0.getD (IntKind.i64.wrap (v11 - (7 : Int))).toNat (0 : Int)) +
                                              q1) +
                                          h0.getD (IntKind.i64.wrap (v11 - (16 : Int))).toNat (0 : Int)))
                                      v3]))
                              none)
                            none)
                          none)
                        none)
                      none))
                none)
              none)
          none)
        none))
    (k0 v0 v1 v2 v3 v9 v11 h0)
noncomputable def R07_words_L6 {ρ : Type} (v0 : List Int) (v1 : Bool) (v2 : Int) (v3 : Int) (v9 : Int) (v11 : Int) (h0 : List Int) (k0 : (List Int) → Bool → Int → Int → Int → Int → (List Int) → Option ρ) : Option ρ :=
  lp (fun (x : (List Int) × Bool × Int × Int × Int × Int × (List Int)) (next : ((List Int) × Bool × Int × Int × Int × Int × (List Int)) → Option ρ) (ex : (((List Int) × Bool × Int × Int × Int × Int × (List Int))) → Option ρ) => R07_words_r6 x.1 x.2.1 x.2.2.1 x.2.2.2.1 x.2.2.2.2.1 x.2.2.2.2.2.1 x.2.2.2.2.2.2 (fun v0 v1 v2 v3 v9 v11 h0 => next (v0, v1, v2, v3, v9, v11, h0)) (fun v0 v1 v2 v3 v9 v11 h0 => ex ((v0, v1, v2, v3, v9, v11, h0)))) (v0, v1, v2, v3, v9, v11, h0) (fun x => k0 x.1 x.2.1 x.2.2.1 x.2.2.2.1 x.2.2.2.2.1 x.2.2.2.2.2.1 x.2.2.2.2.2.2)
noncomputable def R07_words_l6 {ρ : Type} (v0 : List Int) (v1 : Bool) (v2 : Int) (v3 : Int) (v9 : Int) (v11 : Int) (h0 : List Int) (k0 : (List Int) → Bool → Int → Int → Int → Int → (List Int) → Option ρ) : Option ρ := shut (R07_words_L6 (ρ := ρ)) v0 v1 v2 v3 v9 v11 h0 k0
theorem R07_words_l6_eq {ρ : Type} (v0 : List Int) (v1 : Bool) (v2 : Int) (v3 : Int) (v9 : Int) (v11 : Int) (h0 : List Int) (k0 : (List Int) → Bool → Int → Int → Int → Int → (List Int) → Option ρ) : R07_words_l6 v0 v1 v2 v3 v9 v11 h0 k0 = R07_words_L6 v0 v1 v2 v3 v9 v11 h0 k0 := by unfold R07_words_l6; rw [shut_eq]
noncomputable def R07_words_raw {ρ : Type} (a0 : List Int) (a1 : Bool) (a2 : Int) (a3 : Int) (k : (List Int) → Option ρ) : Option ρ :=
  br a1
    (R07_words_l6 a0 a1 a2 a3 (8 : Int) (0 : Int) []
      fun (q0 : List Int) (q1 : Bool) (q2 q3 q4 q5 : Int) (q6 : List Int) => k q6)
    (R07_words_l6 a0 a1 a2 a3 (4 : Int) (0 : Int) []
      fun (q7 : List Int) (q8 : Bool) (q9 q10 q11 q12 : Int) (q13 : List Int) => k q13)
noncomputable def R07_words {ρ : Type} (a0 : List Int) (a1 : Bool) (a2 : Int) (a3 : Int) (k : (List Int) → Option ρ) : Option ρ := shut (R07_words_raw (ρ := ρ)) a0 a1 a2 a3 k
theorem R07_words_eq {ρ : Type} (a0 : List Int) (a1 : Bool) (a2 : Int) (a3 : Int) (k : (List Int) → Option ρ) : R07_words a0 a1 a2 a3 k = R07_words_raw a0 a1 a2 a3 k := by unfold R07_words; rw [shut_eq]

end P
end

section
open Go Go.Abs
set_option linter.unusedVariables false
namespace P
noncomputable def R07_block_r11 {ρ : Type} (v2 : Bool) (v7 : Int) (v8 : Int) (v13 : Int) (h0_0 : List Int) (h1_0 : List Int) (h2_0 : List Int) (h3_0 : List Int) (h4 : List Int) (h5_0 : List Int) (nx : Bool → Int → Int → Int → (List Int) → (List Int) → (List Int) → (List Int) → (List Int) → (List Int) → Option ρ) (k0 : Bool → Int → Int → Int → (List Int) → (List Int) → (List Int) → (List Int) → (List Int) → (List Int) → Option ρ) : Option ρ :=
  br (decide (v13 < v7))
    (R07_mix (h5_0.getD 0 (0 : Int)) (2 : Int) (13 : Int) (22 : Int) false false fun (q0 : Int) =>
      R07_mix (h5_0.getD 4 (0 : Int)) (6 : Int) (11 : Int) (25 : Int) false false fun (q1 : Int) =>
        br v2
          (R07_mix (h5_0.getD 0 (0 : Int)) (28 : Int) (34 : Int) (39 : Int) false true fun (q2 : Int) =>
            R07_mix (h5_0.getD 4 (0 : Int)) (14 : Int) (18 : Int) (41 : Int) false true fun (q3 : Int) =>
              br (decide ((0 : Int) ≤ v13))
                (br (decide (v13 < (↑80 : Int)))
                  (br (decide ((0 : Int) ≤ v13))
                    (br (decide (v13 < (↑h4.length : Int)))
                      (nx v2 v7 v8 (IntKind.i64.wrap (v13 + (1 : Int))) h0_0 h1_0 h2_0 h3_0 h4
                        [bits BinOp.and IntKind.u64
                            (IntKind.u64.wrap
                              (IntKind.u64.wrap
                                  (IntKind.u64.wrap
                                      (IntKind.u64.wrap
                                          (IntKind.u64.wrap (h5_0.getD 7 (0 : Int) + q3) +
                                            bits BinOp.xor IntKind.u64
                                              (bits BinOp.and IntKind.u64 (h5_0.getD 4 (0 : Int))
                                                (h5_0.getD 5 (0 : Int)))
                                              (bits BinOp.and IntKind.u64
                                                (bits BinOp.xor IntKind.u64 v8 (h5_0.getD 4 (0 : Int)))
                                                (h5_0.getD 6 (0 : Int)))) +
                                        h3_0.getD v13.toNat (0 : Int)) +
                                    h4.getD v13.toNat (0 : Int)) +
                                IntKind.u64.wrap
                                  (q2 +
                                    bits BinOp.xor IntKind.u64
                                      (bits BinOp.xor IntKind.u64
                                        (bits BinOp.and IntKind.u64 (h5_0.getD 0 (0 : Int))
                                          (h5_0.getD 1 (0 : Int)))
                                        (bits BinOp.and IntKind.u64 (h5_0.getD 0 (0 : Int))
                                          (h5_0.getD 2 (0 : Int))))
                                      (bits BinOp.and IntKind.u64 (h5_0.getD 1 (0 : Int))
                                        (h5_0.getD 2 (0 : Int))))))
                            v8,
                          h5_0.getD 0 (0 : Int), h5_0.getD 1 (0 : Int),
                          h5_0.getD 2 (0 : Int),
                          bits BinOp.and IntKind.u64
                            (IntKind.u64.wrap
                              (h5_0.getD 3 (0 : Int) +
                                IntKind.u64.wrap
                                  (IntKind.u64.wrap
                                      (IntKind.u64.wrap
                                          (IntKind.u64.wrap (h5_0.getD 7 (0 : Int) + q3) +
                                            bits BinOp.xor IntKind.u64
                                              (bits BinOp.and IntKind.u64 (h5_0.getD 4 (0 : Int))
                                                (h5_0.getD 5 (0 : Int)))
                                              (bits BinOp.and IntKind.u64
                                                (bits BinOp.xor IntKind.u64 v8 (h5_0.getD 4 (0 : Int)))
                                                (h5_0.getD 6 (0 : Int)))) +
                                        h3_0.getD v13.toNat (0 : Int)) +
                                    h4.getD v13.toNat (0 : Int))))
                            v8,
                          h5_0.getD 4 (0 : Int), h5_0.getD 5 (0 : Int),
                          h5_0.getD 6 (0 : Int)])
                      none)
                    none)
                  none)
                none)
          (br (decide ((0 : Int) ≤ v13))
            (br (decide (v13 < (↑64 : Int)))
              (br (decide ((0 : Int) ≤ v13))
                (br (decide (v13 < (↑h4.length : Int)))
                  (nx v2 v7 v8 (IntKind.i64.wrap (v13 + (1 : Int))) h0_0 h1_0 h2_0 h3_0 h4
                    [bits BinOp.and IntKind.u64
                        (IntKind.u64.wrap
                          (IntKind.u64.wrap
                              (IntKind.u64.wrap
                                  (IntKind.u64.wrap
                                      (IntKind.u64.wrap (h5_0.getD 7 (0 : Int) + q1) +
                                        bits BinOp.xor IntKind.u64
                                          (bits BinOp.and IntKind.u64 (h5_0.getD 4 (0 : Int))
                                            (h5_0.getD 5 (0 : Int)))
                                          (bits BinOp.and IntKind.u64
                                            (bits BinOp.xor IntKind.u64 v8 (h5_0.getD 4 (0 : Int)))
                                            (h5_0.getD 6 (0 : Int)))) +
                                    h2_0.getD v13.toNat (0 : Int)) +
                                h4.getD v13.toNat (0 : Int)) +
                            IntKind.u64.wrap
                              (q0 +
                                bits BinOp.xor IntKind.u64
                                  (bits BinOp.xor IntKind.u64
                                    (bits BinOp.and IntKind.u64 (h5_0.getD 0 (0 : Int))
                                      (h5_0.getD 1 (0 : Int)))
                                    (bits BinOp.and IntKind.u64 (h5_0.getD 0 (0 : Int))
                                      (h5_0.getD 2 (0 : Int))))
                                  (bits BinOp.and IntKind.u64 (h5_0.getD 1 (0 : Int))
                                    (h5_0.getD 2 (0 : Int))))))
                        v8,
                      h5_0.getD 0 (0 : Int), h5_0.getD 1 (0 : Int), h5_0.getD 2 (0 : Int),
                      bits BinOp.and IntKind.u64
                        (IntKind.u64.wrap
                          (h5_0.getD 3 (0 : Int) +
                            IntKind.u64.wrap
                              (IntKind.u64.wrap
                                  (IntKind.u64.wrap
                                      (IntKind.u64.wrap (h5_0.getD 7 (0 : Int) + q1) +
                                        bits BinOp.xor IntKind.u64
                                          (bits BinOp.and IntKind.u64 (h5_0.getD 4 (0 : Int))
                                            (h5_0.getD 5 (0 : Int)))
                                          (bits BinOp.and IntKind.u64
                                            (bits BinOp.xor IntKind.u64 v8 (h5_0.getD 4 (0 : Int)))
                                            (h5_0.getD 6 (0 : Int)))) +
                                    h2_0.getD v13.toNat (0 : Int)) +
                                h4.getD v13.toNat (0 : Int))))
                        v8,
                      h5_0.getD 4 (0 : Int), h5_0.getD 5 (0 : Int), h5_0.getD 6 (0 : Int)])
                  none)
                none)
              none)
            none))
    (k0 v2 v7 v8 v13 h0_0 h1_0 h2_0 h3_0 h4 h5_0)
noncomputable def R07_block_L11 {ρ : Type} (v2 : Bool) (v7 : Int) (v8 : Int) (v13 : Int) (h0_0 : List Int) (h1_0 : List Int) (h2_0 : List Int) (h3_0 : List Int) (h4 : List Int) (h5_0 : List Int) (k0 : Bool → Int → Int → Int → (List Int) → (List Int) → (List Int) → (List Int) → (List Int) → (List Int) → Option ρ) : Option ρ :=
  lp (fun (x : Bool × Int × Int × Int × (List Int) × (List Int) × (List Int) × (List Int) × (List Int) × (List Int)) (next : (Bool × Int × Int × Int × (List Int) × (List Int) × (List Int) × (List Int) × (List Int) × (List Int)) → Option ρ) (ex : ((Bool × Int × Int × Int × (List Int) × (List Int) × (List Int) × (List Int) × (List Int) × (List Int))) → Option ρ) => R07_block_r11 x.1 x.2.1 x.2.2.1 x.2.2.2.1 x.2.2.2.2.1 x.2.2.2.2.2.1 x.2.2.2.2.2.2.1 x.2.2.2.2.2.2.2.1 x.2.2.2.2.2.2.2.2.1 x.2.2.2.2.2.2.2.2.2 (fun v2 v7 v8 v13 h0_0 h1_0 h2_0 h3_0 h4 h5_0 => next (v2, v7, v8, v13, h0_0, h1_0, h2_0, h3_0, h4, h5_0)) (fun v2 v7 v8 v13 h0_0 h1_0 h2_0 h3_0 h4 h5_0 => ex ((v2, v7, v8, v13, h0_0, h1_0, h2_0, h3_0, h4, h5_0)))) (v2, v7, v8, v13, h0_0, h1_0, h2_0, h3_0, h4, h5_0) (fun x => k0 x.1 x.2.1 x.2.2.1 x.2.2.2.1 x.2.2.2.2.1 x.2.2.2.2.2.1 x.2.2.2.2.2.2.1 x.2.2.2.2.2.2.2.1 x.2.2.2.2.2.2.2.2.1 x.2.2.2.2.2.2.2.2.2)
noncomputable def R07_block_l11 {ρ : Type} (v2 : Bool) (v7 : Int) (v8 : Int) (v13 : Int) (h0_0 : List Int) (h1_0 : List Int) (h2_0 : List Int) (h3_0 : List Int) (h4 : List Int) (h5_0 : List Int) (k0 : Bool → Int → Int → Int → (List Int) → (List Int) → (List Int) → (List Int) → (List Int) → (List Int) → Option ρ) : Option ρ := shut (R07_block_L11 (ρ := ρ)) v2 v7 v8 v13 h0_0 h1_0 h2_0 h3_0 h4 h5_0 k0
theorem R07_block_l11_eq {ρ : Type} (v2 : Bool) (v7 : Int) (v8 : Int) (v13 : Int) (h0_0 : List Int) (h1_0 : List Int) (h2_0 : List Int) (h3_0 : List Int) (h4 : List Int) (h5_0 : List Int) (k0 : Bool → Int → Int → Int → (List Int) → (List Int) → (List Int) → (List Int) → (List Int) → (List Int) → Option ρ) : R07_block_l11 v2 v7 v8 v13 h0_0 h1_0 h2_0 h3_0 h4 h5_0 k0 = R07_block_L11 v2 v7 v8 v13 h0_0 h1_0 h2_0 h3_0 h4 h5_0 k0 := by unfold R07_block_l11; rw [shut_eq]
noncomputable def R07_block_r25 {ρ : Type} (v8 : Int) (v19 : Int) (h0_0 : List Int) (h1_0 : List Int) (h5_0 : List Int) (nx : Int → Int → (List Int) → (List Int) → (List Int) → Option ρ) (k0 : Int → Int → (List Int) → (List Int) → (List Int) → Option ρ) : Option ρ :=
  br (decide (v19 < (8 : Int)))
    (br (decide ((0 : Int) ≤ v19))
      (br (decide (v19 < (↑8 : Int)))
        (br (decide ((0 : Int) ≤ v19))
          (br (decide (v19 < (↑8 : Int)))
            (br (decide ((0 : Int) ≤ v19))
              (br (decide (v19 < (↑8 : Int)))
                (nx v8 (IntKind.i64.wrap (v19 + (1 : Int))) h0_0 h1_0
                  (h5_0.set v19.toNat
                    (bits BinOp.and IntKind.u64
                      (IntKind.u64.wrap (h5_0.getD v19.toNat (0 : Int) + h0_0.getD v19.toNat (0 : Int))) v8)))
                none)
              none)
            none)
          none)
        none)
      none)
    (k0 v8 v19 h0_0 h1_0 h5_0)
noncomputable def R07_block_L25 {ρ : Type} (v8 : Int) (v19 : Int) (h0_0 : List Int) (h1_0 : List Int) (h5_0 : List Int) (k0 : Int → Int → (List Int) → (List Int) → (List Int) → Option ρ) : Option ρ :=
  lp (fun (x : Int × Int × (List Int) × (List Int) × (List Int)) (next : (Int × Int × (List Int) × (List Int) × (List Int)) → Option ρ) (ex : ((Int × Int × (List Int) × (List Int) × (List Int))) → Option ρ) => R07_block_r25 x.1 x.2.1 x.2.2.1 x.2.2.2.1 x.2.2.2.2 (fun v8 v19 h0_0 h1_0 h5_0 => next (v8, v19, h0_0, h1_0, h5_0)) (fun v8 v19 h0_0 h1_0 h5_0 => ex ((v8, v19, h0_0, h1_0, h5_0)))) (v8, v19, h0_0, h1_0, h5_0) (fun x => k0 x.1 x.2.1 x.2.2.1 x.2.2.2.1 x.2.2.2.2)
noncomputable def R07_block_l25 {ρ : Type} (v8 : Int) (v19 : Int) (h0_0 : List Int) (h1_0 : List Int) (h5_0 : List Int) (k0 : Int → Int → (List Int) → (List Int) → (List Int) → Option ρ) : Option ρ := shut (R07_block_L25 (ρ := ρ)) v8 v19 h0_0 h1_0 h5_0 k0
theorem R07_block_l25_eq {ρ : Type} (v8 : Int) (v19 : Int) (h0_0 : List Int) (h1_0 : List Int) (h5_0 : List Int) (k0 : Int → Int → (List Int) → (List Int) → (List Int) → Option ρ) : R07_block_l25 v8 v19 h0_0 h1_0 h5_0 k0 = R07_block_L25 v8 v19 h0_0 h1_0 h5_0 k0 := by unfold R07_block_l25; rw [shut_eq]
noncomputable def R07_block_raw {ρ : Type} (a0 : List Int) (a1 : List Int) (a2 : Bool) (k : (List Int) → Option ρ) : Option ρ :=
  R07_roots256 fun (q0 : List Int) =>
    R07_roots512 fun (q1 : List Int) =>
      br a2
        (R07_words a1 a2 (80 : Int) (18446744073709551615 : Int) fun (q2 : List Int) =>
          R07_block_l11 a2 (80 : Int) (18446744073709551615 : Int) (0 : Int) a0
            [(0 : Int), (0 : Int), (0 : Int), (0 : Int), (0 : Int), (0 : Int), (0 : Int), (0 : Int)] q0 q1 q2 a0
            fun (q3 : Bool) (q4 q5 q6 : Int) (q7 q8 q9 q10 q11 q12 : List Int) =>
            R07_block_l25 q5 (0 : Int) q7 q8 q12 fun (q13 q14 : Int) (q15 q16 q17 : List Int) => k q17)
        (R07_words a1 a2 (64 : Int) (4294967295 : Int) fun (q18 : List Int) =>
          R07_block_l11 a2 (64 : Int) (4294967295 : Int) (0 : Int) a0
            [(0 : Int), (0 : Int), (0 : Int), (0 : Int), (0 : Int), (0 : Int), (0 : Int), (0 : Int)] q0 q1 q18 a0
            fun (q19 : Bool) (q20 q21 q22 : Int) (q23 q24 q25 q26 q27 q28 : List Int) =>
            R07_block_l25 q21 (0 : Int) q23 q24 q28 fun (q29 q30 : Int) (q31 q32 q33 : List Int) => k q33)
noncomputable def R07_block {ρ : Type} (a0 : List Int) (a1 : List Int) (a2 : Bool) (k : (List Int) → Option ρ) : Option ρ := shut (R07_block_raw (ρ := ρ)) a0 a1 a2 k
theorem R07_block_eq {ρ : Type} (a0 : List Int) (a1 : List Int) (a2 : Bool) (k : (List Int) → Option ρ) : R07_block a0 a1 a2 k = R07_block_raw a0 a1 a2 k := by unfold R07_block; rw [shut_eq]

end P
end

section
/- SHA-2: the document's block of words of 32 bits. -/
namespace Q
open Go Go.Abs
set_option linter.unusedVariables false
set_option linter.unusedSimpArgs false

theorem R01_Num (b : List Int) (hb : In 256 b) (hn : b.length ≤ 1000000) {ρ : Type} (k : Int → Option ρ) : P.R01_Num b k = k ((T 8 b.reverse % 2 ^ 64 : Nat) : Int) := by
  rw [P.R01_Num_eq]
  unfold P.R01_Num_raw
  rw [P.R01_Num_l3_eq]
  unfold P.R01_Num_L3
  refine lp_go (fun i => (b, ((T 8 (b.take i).reverse % 2 ^ 64 : Nat) : Int), (i : Int))) b.length (by simp [T]) (fun i hi next hn' => ?_) (fun next => ?_) (by omega)
  · obtain ⟨x, hx, hx2, hx3⟩ := byte_at hb i
    have est := rev_step b i hi
    rw [← hx3] at est
    simp only [P.R01_Num_r3, toNat_cast]
    have e1 : IntKind.u64.wrap (IntKind.u64.wrap (((T 8 (b.take i).reverse % 2 ^ 64 : Nat) : Int) * 256) + IntKind.u64.wrap (x : Int)) = ((T 8 (b.take (i + 1)).reverse % 2 ^ 64 : Nat) : Int) := by
      rw [u64m, u64m, u64m, est]; omega
    rw [hx, e1]
    simp (disch := omega) only [br_pos, br_neg, br_bne_pos, br_bne_neg, br_beq_pos, br_beq_neg, br_not, br_tt, br_ff, i64w]
    exact hn'
  · simp only [P.R01_Num_r3]
    rw [br_neg (by omega), List.take_length]

theorem right_any (x m : Int) (n : Nat) (hm : m = (n : Int)) (hn : n ≤ 32) : ∃ q, ∀ {ρ : Type} (k : Int → Option ρ), P.R07_right x m false k = k q := by
  subst hm
  refine ⟨bits .or .u64 (x.fdiv ((2 : Int) ^ min ((n : Int)).toNat 64)) (bits .and .u64 (IntKind.u64.wrap (x * (2 : Int) ^ min ((32 : Int) - (n : Int)).toNat 64)) 4294967295), fun k => ?_⟩
  rw [P.R07_right_eq]
  unfold P.R07_right_raw
  rw [br_ff, br_neg (by omega), i64w (by omega) (by omega), br_neg (by omega)]
theorem mix_any (x a b c : Int) (l m n : Nat) (ha : a = (l : Int)) (hb : b = (m : Int)) (hc : c = (n : Int)) (h1 : l ≤ 32) (h2 : m ≤ 32) (h3 : n ≤ 32) : ∃ q, ∀ {ρ : Type} (k : Int → Option ρ), P.R07_mix x a b c false false k = k q := by
  obtain ⟨q1, e1⟩ := right_any x a l ha h1
  obtain ⟨q2, e2⟩ := right_any x b m hb h2
  obtain ⟨q3, e3⟩ := right_any x c n hc h3
  refine ⟨bits .xor .u64 (bits .xor .u64 q1 q2) q3, fun k => ?_⟩
  rw [P.R07_mix_eq]
  unfold P.R07_mix_raw
  rw [br_neg (by omega), br_not, br_ff, e3, e1, e2]
theorem mix_any' (x a b c : Int) (l m n : Nat) (ha : a = (l : Int)) (hb : b = (m : Int)) (hc : c = (n : Int)) (h1 : l ≤ 32) (h2 : m ≤ 32) (h3 : n ≤ 32) : ∃ q, ∀ {ρ : Type} (k : Int → Option ρ), P.R07_mix x a b c true false k = k q := by
  obtain ⟨q1, e1⟩ := right_any x a l ha h1
  obtain ⟨q2, e2⟩ := right_any x b m hb h2
  refine ⟨bits .xor .u64 (bits .xor .u64 q1 q2) (x.fdiv ((2 : Int) ^ min c.toNat 64)), fun k => ?_⟩
  rw [P.R07_mix_eq]
  unfold P.R07_mix_raw
  rw [br_neg (by omega), br_not, br_tt, e1, e2]

theorem r32_right (x : BitVec 32) (m : Int) (n : Nat) (hm : m = (n : Int)) (hn : n ≤ 32) {ρ : Type} (k : Int → Option ρ) : P.R07_right (x.toNat : Int) m false k = k ((rr x n).toNat : Int) := by
  subst hm
  rw [P.R07_right_eq]
  unfold P.R07_right_raw
  rw [br_ff, br_neg (by omega), i64w (by omega) (by omega), br_neg (by omega), show (32 : Int) - (n : Int) = ((32 - n : Nat) : Int) by omega]
  simp only [toNat_cast]
  rw [nshr _ _ (by omega), nshl _ _ (by omega), nor]
  rfl
theorem r32_hi (x : BitVec 32) (t : Nat × Nat × Nat) (a b c : Int) (ha : a = (t.1 : Int)) (hb : b = (t.2.1 : Int)) (hc : c = (t.2.2 : Int)) (h1 : t.1 ≤ 32) (h2 : t.2.1 ≤ 32) (h3 : t.2.2 ≤ 32) {ρ : Type} (k : Int → Option ρ) :
    P.R07_mix (x.toNat : Int) a b c false false k = k ((hi t x).toNat : Int) := by
  rw [P.R07_mix_eq]
  unfold P.R07_mix_raw
  rw [br_neg (by omega), br_not, br_ff, r32_right _ _ _ hc h3, r32_right _ _ _ ha h1, r32_right _ _ _ hb h2, nxor, nxor]
  rfl
theorem r32_lo (x : BitVec 32) (t : Nat × Nat × Nat) (a b c : Int) (ha : a = (t.1 : Int)) (hb : b = (t.2.1 : Int)) (hc : c = (t.2.2 : Int)) (h1 : t.1 ≤ 32) (h2 : t.2.1 ≤ 32) (h3 : t.2.2 ≤ 32) {ρ : Type} (k : Int → Option ρ) :
    P.R07_mix (x.toNat : Int) a b c true false k = k ((lo t x).toNat : Int) := by
  rw [P.R07_mix_eq]
  unfold P.R07_mix_raw
  rw [br_neg (by omega), br_not, br_tt, r32_right _ _ _ ha h1, r32_right _ _ _ hb h2, nxor, hc]
  simp only [toNat_cast]
  rw [nshr _ _ (by omega), nxor]
  rfl

/-- sums under the mask -/
theorem s4_32 (a b c d : BitVec 32) : bits .and .u64 (IntKind.u64.wrap (IntKind.u64.wrap (IntKind.u64.wrap ((a.toNat : Int) + (b.toNat : Int)) + (c.toNat : Int)) + (d.toNat : Int))) 4294967295 = ((a + b + c + d).toNat : Int) := by
  have ha := lt32 a
  have hb := lt32 b
  have hc := lt32 c
  have hd := lt32 d
  rw [← Int.natCast_add, u64n _ (by omega), ← Int.natCast_add, u64n _ (by omega), ← Int.natCast_add, u64n _ (by omega), nmask _ (by omega), BitVec.toNat_add, BitVec.toNat_add, BitVec.toNat_add]
  omega
theorem s2_32 (a b : BitVec 32) : bits .and .u64 (IntKind.u64.wrap ((a.toNat : Int) + (b.toNat : Int))) 4294967295 = ((a + b).toNat : Int) := by
  have ha := lt32 a
  have hb := lt32 b
  rw [← Int.natCast_add, u64n _ (by omega), nmask _ (by omega), BitVec.toNat_add]
/-- the round's two sums -/
theorem s6_32 (d a b c e f : BitVec 32) : bits .and .u64 (IntKind.u64.wrap ((d.toNat : Int) + IntKind.u64.wrap (IntKind.u64.wrap (IntKind.u64.wrap (IntKind.u64.wrap ((a.toNat : Int) + (b.toNat : Int)) + (c.toNat : Int)) + (e.toNat : Int)) + (f.toNat : Int)))) 4294967295 = ((d + (a + b + c + e + f)).toNat : Int) := by
  have hd := lt32 d
  have ha := lt32 a
  have hb := lt32 b
  have hc := lt32 c
  have he := lt32 e
  have hf := lt32 f
  rw [← Int.natCast_add, u64n _ (by omega), ← Int.natCast_add, u64n _ (by omega), ← Int.natCast_add, u64n _ (by omega), ← Int.natCast_add, u64n _ (by omega), ← Int.natCast_add, u64n _ (by omega), nmask _ (by omega), BitVec.toNat_add, BitVec.toNat_add, BitVec.toNat_add, BitVec.toNat_add, BitVec.toNat_add]
  omega
theorem s7_32 (a b c e f g h : BitVec 32) : bits .and .u64 (IntKind.u64.wrap (IntKind.u64.wrap (IntKind.u64.wrap (IntKind.u64.wrap (IntKind.u64.wrap ((a.toNat : Int) + (b.toNat : Int)) + (c.toNat : Int)) + (e.toNat : Int)) + (f.toNat : Int)) + IntKind.u64.wrap ((g.toNat : Int) + (h.toNat : Int)))) 4294967295 = (((a + b + c + e + f) + (g + h)).toNat : Int) := by
  have ha := lt32 a
  have hb := lt32 b
  have hc := lt32 c
  have he := lt32 e
  have hf := lt32 f
  have hg := lt32 g
  have hh := lt32 h
  rw [← Int.natCast_add, u64n _ (by omega), ← Int.natCast_add, u64n _ (by omega), ← Int.natCast_add, u64n _ (by omega), ← Int.natCast_add, u64n _ (by omega), ← Int.natCast_add (g.toNat), u64n _ (by omega), ← Int.natCast_add, u64n _ (by omega), nmask _ (by omega), BitVec.toNat_add, BitVec.toNat_add, BitVec.toNat_add, BitVec.toNat_add, BitVec.toNat_add, BitVec.toNat_add]
  omega
theorem ch_32 (e f g : BitVec 32) : bits .xor .u64 (bits .and .u64 (e.toNat : Int) (f.toNat : Int)) (bits .and .u64 (bits .xor .u64 4294967295 (e.toNat : Int)) (g.toNat : Int)) = ((g ^^^ (e &&& (f ^^^ g))).toNat : Int) := by
  rw [show (4294967295 : Int) = ((BitVec.allOnes 32).toNat : Int) from rfl, nand, nxor, nand, nxor, ch_eq]
theorem maj_32 (a b c : BitVec 32) : bits .xor .u64 (bits .xor .u64 (bits .and .u64 (a.toNat : Int) (b.toNat : Int)) (bits .and .u64 (a.toNat : Int) (c.toNat : Int))) (bits .and .u64 (b.toNat : Int) (c.toNat : Int)) = (((a &&& b) ||| (c &&& (a ||| b))).toNat : Int) := by
  rw [nand, nand, nand, nxor, nxor, maj_eq]

/-- the words that are there already -/
def pre32 (b : List Int) (t : Nat) : List (BitVec 32) := (List.range t).map (W p32 (wordsB 32 b 16))
theorem pre32_succ (b : List Int) (t : Nat) : pre32 b (t + 1) = pre32 b t ++ [W p32 (wordsB 32 b 16) t] := by simp [pre32, List.range_succ]
theorem pre32_len (b : List Int) (t : Nat) : (pre32 b t).length = t := by simp [pre32]
theorem pre32_at (b : List Int) (t i : Nat) (h : i < t) : (pre32 b t).getD i 0 = W p32 (wordsB 32 b 16) i := by
  unfold pre32
  rw [getD_lt (by simpa using h)]; simp
theorem W32_low (b : List Int) (t : Nat) (h : t < 16) : W p32 (wordsB 32 b 16) t = BitVec.ofNat 32 (T 8 ((b.take ((t + 1) * 4)).drop (t * 4)).reverse) := by
  rw [← W_eq p32 _ (by rw [wordsB_len]; omega) 0 t (by rw [wordsB_len]; omega), show sched p32 (wordsB 32 b 16) 0 = wordsB 32 b 16 from rfl, getD_lt (by rw [wordsB_len]; exact h)]
  simp [wordsB]

theorem r32_words (b : List Int) (hb : In 256 b) (hl : b.length = 16 * 4) {ρ : Type} (k : List Int → Option ρ) : P.R07_words b false 64 4294967295 k = k (cv (pre32 b 64)) := by
  rw [P.R07_words_eq]
  unfold P.R07_words_raw
  rw [br_ff, P.R07_words_l6_eq]
  unfold P.R07_words_L6
  refine lp_go (fun t => (b, false, 64, 4294967295, 4, (t : Int), cv (pre32 b t))) 64 rfl (fun t ht next hn' => ?_) (fun next => ?_) (by omega)
  · simp only [P.R07_words_r6, toNat_cast]
    have e1 : IntKind.i64.wrap ((t : Int) + 1) = ((t + 1 : Nat) : Int) := by rw [i64w (by omega) (by omega)]; omega
    rw [br_pos (by omega)]
    have hlen := pre32_len b t
    by_cases h16 : t < 16
    · have e2 : IntKind.i64.wrap ((t : Int) * 4) = ((t * 4 : Nat) : Int) := by rw [i64w (by omega) (by omega)]; omega
      have e3 : IntKind.i64.wrap (IntKind.i64.wrap ((t : Int) * 4) + 4) = (((t + 1) * 4 : Nat) : Int) := by rw [e2, i64w (by omega) (by omega)]; omega
      have hl2 : ((b.take ((t + 1) * 4)).drop (t * 4)).length = 4 := by simp; omega
      rw [br_pos (by omega), e3, e2, br_pos (by omega), br_pos (by omega), br_pos (by omega)]
      simp only [toNat_cast]
      have hT := T_lt 8 ((b.take ((t + 1) * 4)).drop (t * 4)).reverse
      rw [List.length_reverse, hl2] at hT
      have e4 : ((T 8 ((b.take ((t + 1) * 4)).drop (t * 4)).reverse % 2 ^ 64 : Nat) : Int) = ((W p32 (wordsB 32 b 16) t).toNat : Int) := by
        rw [W32_low b t h16, BitVec.toNat_ofNat, Nat.mod_eq_of_lt (by omega), Nat.mod_eq_of_lt (by omega)]
      rw [R01_Num _ ((hb.take _).drop _) (by omega), br_pos (by rw [cv_length]; omega), e4, e1, show [((W p32 (wordsB 32 b 16) t).toNat : Int)] = cv [W p32 (wordsB 32 b 16) t] from rfl, cv_append, ← pre32_succ]
      exact hn'
    · have e15 : IntKind.i64.wrap ((t : Int) - 15) = ((t - 15 : Nat) : Int) := by rw [i64w (by omega) (by omega)]; omega
      have e2 : IntKind.i64.wrap ((t : Int) - 2) = ((t - 2 : Nat) : Int) := by rw [i64w (by omega) (by omega)]; omega
      have e7 : IntKind.i64.wrap ((t : Int) - 7) = ((t - 7 : Nat) : Int) := by rw [i64w (by omega) (by omega)]; omega
      have e16 : IntKind.i64.wrap ((t : Int) - 16) = ((t - 16 : Nat) : Int) := by rw [i64w (by omega) (by omega)]; omega
      simp only [e15, e2, e7, e16, toNat_cast, cv_getD, cv_length, hlen]
      rw [pre32_at b t _ (by omega), pre32_at b t _ (by omega), pre32_at b t _ (by omega), pre32_at b t _ (by omega)]
      rw [br_neg (by omega), br_pos (by omega), br_pos (by omega), r32_lo _ p32.a _ _ _ (by rfl) (by rfl) (by rfl) (by decide) (by decide) (by decide), br_pos (by omega), br_pos (by omega), r32_lo _ p32.b _ _ _ (by rfl) (by rfl) (by rfl) (by decide) (by decide) (by decide), br_ff]
      have hW := W_next p32 (wordsB 32 b 16) (wordsB_len b 16) (t - 16)
      rw [show t - 16 + 16 = t by omega, show t - 16 + 1 = t - 15 by omega, show t - 16 + 9 = t - 7 by omega, show t - 16 + 14 = t - 2 by omega] at hW
      have hW2 : lo p32.b (W p32 (wordsB 32 b 16) (t - 2)) + W p32 (wordsB 32 b 16) (t - 7) + lo p32.a (W p32 (wordsB 32 b 16) (t - 15)) + W p32 (wordsB 32 b 16) (t - 16) = W p32 (wordsB 32 b 16) t := by rw [hW]; ac_rfl
      rw [br_pos (by omega), br_pos (by omega), br_pos (by omega), br_pos (by omega), br_pos (by omega), s4_32, hW2, e1, show [((W p32 (wordsB 32 b 16) t).toNat : Int)] = cv [W p32 (wordsB 32 b 16) t] from rfl, cv_append, ← pre32_succ]
      exact hn'
  · simp only [P.R07_words_r6]
    rw [br_neg (by omega)]

theorem r32_l11 (b : List Int) (v : List (BitVec 32)) (hv : v.length = 8) (h0 h1 : List Int) {ρ : Type} (k0 : Bool → Int → Int → Int → List Int → List Int → List Int → List Int → List Int → List Int → Option ρ) :
    P.R07_block_l11 false 64 4294967295 0 h0 h1 P.roots256 P.roots512 (cv (pre32 b 64)) (cv v) k0 = k0 false 64 4294967295 64 h0 h1 P.roots256 P.roots512 (cv (pre32 b 64)) (cv (runs p32 (wordsB 32 b 16) v 64)) := by
  rw [P.R07_block_l11_eq]
  unfold P.R07_block_L11
  refine lp_go (fun t => (false, 64, 4294967295, (t : Int), h0, h1, P.roots256, P.roots512, cv (pre32 b 64), cv (runs p32 (wordsB 32 b 16) v t))) 64 rfl (fun t ht next hn' => ?_) (fun next => ?_) (by omega)
  · simp only [P.R07_block_r11]
    have e1 : IntKind.i64.wrap ((t : Int) + 1) = ((t + 1 : Nat) : Int) := by rw [i64w (by omega) (by omega)]; omega
    have hlen := pre32_len b 64
    simp only [e1, toNat_cast, cv_getD, cv_length, hlen]
    rw [pre32_at b 64 t ht, K32]
    rw [br_pos (by omega), r32_hi _ p32.c _ _ _ (by rfl) (by rfl) (by rfl) (by decide) (by decide) (by decide), r32_hi _ p32.d _ _ _ (by rfl) (by rfl) (by rfl) (by decide) (by decide) (by decide), br_ff]
    rw [br_pos (by omega), br_pos (by omega), br_pos (by omega), br_pos (by omega), ch_32, maj_32, s7_32, s6_32]
    exact hn'
  · simp only [P.R07_block_r11]
    rw [br_neg (by omega)]
    rfl

theorem r32_l25 (v u : List (BitVec 32)) (hv : v.length = 8) (hu : u.length = 8) (h1 : List Int) {ρ : Type} (k0 : Int → Int → List Int → List Int → List Int → Option ρ) :
    P.R07_block_l25 4294967295 0 (cv v) h1 (cv u) k0 = k0 4294967295 8 (cv v) h1 (cv ((List.range 8).map fun i => u.getD i 0 + v.getD i 0)) := by
  rw [P.R07_block_l25_eq]
  unfold P.R07_block_L25
  refine lp_go (fun i => (4294967295, (i : Int), cv v, h1, cv (((List.range i).map fun i => u.getD i 0 + v.getD i 0) ++ u.drop i))) 8 (by simp) (fun i hi next hn' => ?_) (fun next => ?_) (by omega)
  · simp only [P.R07_block_r25, toNat_cast, cv_getD]
    have e1 : IntKind.i64.wrap ((i : Int) + 1) = ((i + 1 : Nat) : Int) := by rw [i64w (by omega) (by omega)]; omega
    have e2 : (((List.range i).map fun i => u.getD i 0 + v.getD i 0) ++ u.drop i).getD i 0 = u.getD i 0 := by
      rw [List.getD_eq_getElem?_getD, List.getElem?_append_right (by simp), List.getElem?_drop, List.length_map, List.length_range, List.getD_eq_getElem?_getD]
      congr 2
      omega
    rw [e1, e2, s2_32, cv_set]
    have e3 : (((List.range i).map fun i => u.getD i 0 + v.getD i 0) ++ u.drop i).set i (u.getD i 0 + v.getD i 0) = ((List.range (i + 1)).map fun i => u.getD i 0 + v.getD i 0) ++ u.drop (i + 1) := by
      rw [List.set_append_right _ _ (by simp), List.length_map, List.length_range, Nat.sub_self, List.range_succ, List.map_append, List.append_assoc, List.drop_eq_getElem_cons (by omega), List.set_cons_zero]
      rfl
    rw [e3]
    simp (disch := omega) only [br_pos, br_neg, br_bne_pos, br_bne_neg, br_beq_pos, br_beq_neg, br_not, br_tt, br_ff, i64w]
    exact hn'
  · simp only [P.R07_block_r25]
    rw [br_neg (by omega), List.drop_eq_nil_of_le (by omega), List.append_nil]
    rfl

theorem r32_block (v : List (BitVec 32)) (hv : v.length = 8) (b : List Int) (hb : In 256 b) (hl : b.length = 16 * 4) {ρ : Type} (k : List Int → Option ρ) : P.R07_block (cv v) b false k = k (cv (blockB p32 v b)) := by
  rw [P.R07_block_eq]
  unfold P.R07_block_raw
  have hr1 : ∀ (k : List Int → Option ρ), P.R07_roots256 k = k P.roots256 := fun k => by rw [P.R07_roots256_eq]; kernel_rfl
  have hr2 : ∀ (k : List Int → Option ρ), P.R07_roots512 k = k P.roots512 := fun k => by rw [P.R07_roots512_eq]; kernel_rfl
  rw [hr1, hr2, br_ff, r32_words b hb hl, r32_l11 b v hv, r32_l25 v _ hv (runs_len _ _ _ hv _)]
  rfl
end Q
end

section
/- SHA-2: the program's engine of 64 bits. -/
namespace Q
open Go Go.Abs
set_option linter.unusedVariables false
set_option linter.unusedSimpArgs false

theorem e64_rot (rd : Int) (t0 t1 t2 t3 : List Int) (x : BitVec 64) (m : Int) (n : Nat) (hm : m = (n : Int)) (hn : n ≤ 64) {ρ : Type} (k : Int → Option ρ) :
    P.sha_engine_uint64_rotated 64 rd t0 t1 t2 t3 (x.toNat : Int) m k = k ((rr x n).toNat : Int) := by
  subst hm
  rw [P.sha_engine_uint64_rotated_eq]
  unfold P.sha_engine_uint64_rotated_raw
  rw [br_neg (by omega), i64w (by omega) (by omega), br_neg (by omega), show (64 : Int) - (n : Int) = ((64 - n : Nat) : Int) by omega]
  simp only [toNat_cast]
  rw [shr64 _ _ hn, shl64 _ _ (by omega), or64]
  rfl

theorem e64_high3 (rd : Int) (x : BitVec 64) {ρ : Type} (k : Int → Option ρ) : P.sha_engine_uint64_high 64 rd [1, 8, 7] [19, 61, 6] [28, 34, 39] [14, 18, 41] (x.toNat : Int) 3 k = k ((hi p64.d x).toNat : Int) := by
  rw [P.sha_engine_uint64_high_eq]
  unfold P.sha_engine_uint64_high_raw
  simp only [List.getD_cons_zero, List.getD_cons_succ]
  rw [br_neg (by decide), br_neg (by decide), br_neg (by decide), br_pos (by decide), e64_rot _ _ _ _ _ _ _ 14 (by rfl) (by omega), e64_rot _ _ _ _ _ _ _ 18 (by rfl) (by omega), e64_rot _ _ _ _ _ _ _ 41 (by rfl) (by omega), xor64, xor64]
  rfl
theorem e64_high2 (rd : Int) (x : BitVec 64) {ρ : Type} (k : Int → Option ρ) : P.sha_engine_uint64_high 64 rd [1, 8, 7] [19, 61, 6] [28, 34, 39] [14, 18, 41] (x.toNat : Int) 2 k = k ((hi p64.c x).toNat : Int) := by
  rw [P.sha_engine_uint64_high_eq]
  unfold P.sha_engine_uint64_high_raw
  simp only [List.getD_cons_zero, List.getD_cons_succ]
  rw [br_neg (by decide), br_neg (by decide), br_pos (by decide), e64_rot _ _ _ _ _ _ _ 28 (by rfl) (by omega), e64_rot _ _ _ _ _ _ _ 34 (by rfl) (by omega), e64_rot _ _ _ _ _ _ _ 39 (by rfl) (by omega), xor64, xor64]
  rfl
theorem e64_low0 (rd : Int) (x : BitVec 64) {ρ : Type} (k : Int → Option ρ) : P.sha_engine_uint64_low 64 rd [1, 8, 7] [19, 61, 6] [28, 34, 39] [14, 18, 41] (x.toNat : Int) 0 k = k ((lo p64.a x).toNat : Int) := by
  rw [P.sha_engine_uint64_low_eq]
  unfold P.sha_engine_uint64_low_raw
  simp only [List.getD_cons_zero, List.getD_cons_succ]
  rw [br_pos (by decide), e64_rot _ _ _ _ _ _ _ 1 (by rfl) (by omega), e64_rot _ _ _ _ _ _ _ 8 (by rfl) (by omega), br_neg (by decide), xor64, show (7 : Int).toNat = 7 from rfl, shr64 _ _ (by omega), xor64]
  rfl
theorem e64_low1 (rd : Int) (x : BitVec 64) {ρ : Type} (k : Int → Option ρ) : P.sha_engine_uint64_low 64 rd [1, 8, 7] [19, 61, 6] [28, 34, 39] [14, 18, 41] (x.toNat : Int) 1 k = k ((lo p64.b x).toNat : Int) := by
  rw [P.sha_engine_uint64_low_eq]
  unfold P.sha_engine_uint64_low_raw
  simp only [List.getD_cons_zero, List.getD_cons_succ]
  rw [br_neg (by decide), br_pos (by decide), e64_rot _ _ _ _ _ _ _ 19 (by rfl) (by omega), e64_rot _ _ _ _ _ _ _ 61 (by rfl) (by omega), br_neg (by decide), xor64, show (6 : Int).toNat = 6 from rfl, shr64 _ _ (by omega), xor64]
  rfl
theorem e64_root (t : Nat) (h : t < 80) {ρ : Type} (k : Int → Option ρ) : P.sha_root512 (t : Int) k = k ((p64.K t).toNat : Int) := by
  rw [P.sha_root512_eq]
  unfold P.sha_root512_raw
  rw [br_pos (by omega), br_pos (by omega), toNat_cast, K64]



theorem e64_l4 (b : List Int) (hb : In 256 b) (hl : b.length = 16 * 8) (rd : Int) (t0 t1 t2 t3 h1 h2 : List Int) {ρ : Type} (k0 : List Int → Int → Int → Int → Int → List Int → List Int → List Int → List Int → List Int → List Int → List Int → Option ρ) :
    P.sha_engine_uint64_block_l4 b 8 0 64 rd t0 t1 t2 t3 h1 h2 (List.replicate 16 0) k0 = k0 b 8 16 64 rd t0 t1 t2 t3 h1 h2 (cv (wordsB 64 b 16)) := by
  rw [P.sha_engine_uint64_block_l4_eq]
  unfold P.sha_engine_uint64_block_L4
  refine lp_go (fun i => (b, 8, (i : Int), 64, rd, t0, t1, t2, t3, h1, h2, cv (wordsB 64 b i) ++ List.replicate (16 - i) 0)) 16 (by simp [wordsB, cv]) (fun i hi next hn' => ?_) (fun next => ?_) (by omega)
  · simp only [P.sha_engine_uint64_block_r4, toNat_cast]
    have e1 : IntKind.i64.wrap ((i : Int) * 8) = ((i * 8 : Nat) : Int) := by rw [i64w (by omega) (by omega)]; omega
    have e2 : IntKind.i64.wrap (IntKind.i64.wrap ((i : Int) + 1) * 8) = (((i + 1) * 8 : Nat) : Int) := by rw [i64w (x := (i : Int) + 1) (by omega) (by omega), i64w (by omega) (by omega)]; omega
    rw [e1, e2]
    simp only [toNat_cast]
    have hlen : ((b.take ((i + 1) * 8)).drop (i * 8)).length = 8 := by simp; omega
    rw [br_pos (by omega), br_pos (by omega), br_pos (by omega), br_pos (by omega), bits_Num _ ((hb.take _).drop _) (by omega), br_pos (by omega), br_pos (by omega)]
    have e3 : ((T 8 ((b.take ((i + 1) * 8)).drop (i * 8)).reverse % 2 ^ 64 : Nat) : Int) = (((BitVec.ofNat 64 (T 8 ((b.take ((i + 1) * 8)).drop (i * 8)).reverse)).toNat : Nat) : Int) := by
      rw [BitVec.toNat_ofNat]
    have e4 : IntKind.i64.wrap ((i : Int) + 1) = ((i + 1 : Nat) : Int) := by rw [i64w (by omega) (by omega)]; omega
    rw [e3, e4]
    have e5 : (cv (wordsB 64 b i) ++ List.replicate (16 - i) (0 : Int)).set i (((BitVec.ofNat 64 (T 8 ((b.take ((i + 1) * 8)).drop (i * 8)).reverse)).toNat : Nat) : Int) = cv (wordsB 64 b (i + 1)) ++ List.replicate (16 - (i + 1)) 0 := by
      rw [List.set_append_right _ _ (by simp [wordsB_len]), cv_length, wordsB_len, Nat.sub_self, show 16 - i = (16 - (i + 1)) + 1 by omega, List.replicate_succ, List.set_cons_zero, wordsB_succ, ← cv_append, List.append_assoc]
      rfl
    rw [e5]
    exact hn'
  · simp only [P.sha_engine_uint64_block_r4]
    rw [br_neg (by omega)]
    simp

theorem e64_l10 (l v : List (BitVec 64)) (hv : v.length = 8) (h2 h1 : List Int) {ρ : Type} (k0 : Int → Int → List Int → List Int → List Int → Int → Int → List Int → List Int → List Int → List Int → List Int → Option ρ) (hl : l.length = 16) :
    P.sha_engine_uint64_block_l10 80 0 (cv (win p64 l 0)) h2 h1 64 80 [1, 8, 7] [19, 61, 6] [28, 34, 39] [14, 18, 41] (cv v) k0 =
      k0 80 80 (cv (win p64 l 80)) h2 h1 64 80 [1, 8, 7] [19, 61, 6] [28, 34, 39] [14, 18, 41] (cv (runs p64 l v 80)) := by
  rw [P.sha_engine_uint64_block_l10_eq]
  unfold P.sha_engine_uint64_block_L10
  refine lp_go (fun t => (80, (t : Int), cv (win p64 l t), h2, h1, 64, 80, [1, 8, 7], [19, 61, 6], [28, 34, 39], [14, 18, 41], cv (runs p64 l v t))) 80 rfl (fun t ht next hn' => ?_) (fun next => ?_) (by omega)
  · simp only [P.sha_engine_uint64_block_r10]
    have e1 : IntKind.i64.wrap ((t : Int) + 1) = ((t + 1 : Nat) : Int) := by rw [i64w (by omega) (by omega)]; omega
    have e9 : IntKind.i64.wrap ((t : Int) + 9) = ((t + 9 : Nat) : Int) := by rw [i64w (by omega) (by omega)]; omega
    have e14 : IntKind.i64.wrap ((t : Int) + 14) = ((t + 14 : Nat) : Int) := by rw [i64w (by omega) (by omega)]; omega
    simp only [e1, e9, e14, tm16, toNat_cast, cv_getD]
    have g0 := win_at p64 l t 0 (by omega)
    rw [Nat.add_zero] at g0
    rw [g0, win_at p64 l t 1 (by omega), win_at p64 l t 9 (by omega), win_at p64 l t 14 (by omega)]
    have hV := v8 _ (runs_len p64 l v hv t)
    rw [br_pos (by omega), br_pos (by omega), br_pos (by omega), e64_high3, e64_root t ht, e64_high2, br_pos (by omega), br_pos (by omega), e64_low0, br_pos (by omega), br_pos (by omega), br_pos (by omega), br_pos (by omega), e64_low1, br_pos (by omega), br_pos (by omega)]
    simp only [add64, xor64, and64, or64]
    rw [← W_next p64 l hl t, cv_set, win_next]
    have hr : cv (runs p64 l v (t + 1)) = (((List.take 1 (cv (runs p64 l v t))).append (List.take 7 (List.take 7 (List.drop 0 (cv (runs p64 l v t)))) ++ List.drop (1 + min 7 (List.take 7 (List.drop 0 (cv (runs p64 l v t)))).length) (cv (runs p64 l v t)))).set 4
        (((runs p64 l v t).getD 3 0 + rnd1 p64 t (W p64 l t) (runs p64 l v t)).toNat : Int)).set 0 ((rnd1 p64 t (W p64 l t) (runs p64 l v t) + rnd2 p64 (runs p64 l v t)).toNat : Int) := by
      rw [hV]
      rfl
    have h3 : ((List.take 1 (cv (runs p64 l v t))).append (List.take 7 (List.take 7 (List.drop 0 (cv (runs p64 l v t)))) ++ List.drop (1 + min 7 (List.take 7 (List.drop 0 (cv (runs p64 l v t)))).length) (cv (runs p64 l v t)))).getD 4 0 = (((runs p64 l v t).getD 3 0).toNat : Int) := by
      rw [hV]
      rfl
    rw [h3, add64]
    rw [hr] at hn'
    exact hn'
  · simp only [P.sha_engine_uint64_block_r10]
    rw [br_neg (by omega)]
    rfl

theorem e64_l21 (v u : List (BitVec 64)) (hv : v.length = 8) (hu : u.length = 8) (h2 : List Int) {ρ : Type} (k0 : Int → List Int → List Int → List Int → Option ρ) :
    P.sha_engine_uint64_block_l21 0 (cv v) h2 (cv u) k0 = k0 8 (cv v) h2 (cv ((List.range 8).map fun i => u.getD i 0 + v.getD i 0)) := by
  rw [P.sha_engine_uint64_block_l21_eq]
  unfold P.sha_engine_uint64_block_L21
  have hs : ∀ i, i ≤ 8 → (((List.range i).map fun i => u.getD i 0 + v.getD i 0) ++ u.drop i).length = 8 := fun i hi => by simp; omega
  refine lp_go (fun i => ((i : Int), cv v, h2, cv (((List.range i).map fun i => u.getD i 0 + v.getD i 0) ++ u.drop i))) 8 (by simp) (fun i hi next hn' => ?_) (fun next => ?_) (by omega)
  · simp only [P.sha_engine_uint64_block_r21, toNat_cast, cv_getD]
    have e1 : IntKind.i64.wrap ((i : Int) + 1) = ((i + 1 : Nat) : Int) := by rw [i64w (by omega) (by omega)]; omega
    have e2 : (((List.range i).map fun i => u.getD i 0 + v.getD i 0) ++ u.drop i).getD i 0 = u.getD i 0 := by
      rw [List.getD_eq_getElem?_getD, List.getElem?_append_right (by simp), List.getElem?_drop, List.length_map, List.length_range, List.getD_eq_getElem?_getD]
      congr 2
      omega
    rw [e1, e2, add64, cv_set]
    have e3 : (((List.range i).map fun i => u.getD i 0 + v.getD i 0) ++ u.drop i).set i (u.getD i 0 + v.getD i 0) = ((List.range (i + 1)).map fun i => u.getD i 0 + v.getD i 0) ++ u.drop (i + 1) := by
      rw [List.set_append_right _ _ (by simp), List.length_map, List.length_range, Nat.sub_self, List.range_succ, List.map_append, List.append_assoc, List.drop_eq_getElem_cons (by omega), List.set_cons_zero]
      rfl
    rw [e3]
    simp (disch := omega) only [br_pos, br_neg, br_bne_pos, br_bne_neg, br_beq_pos, br_beq_neg, br_not, br_tt, br_ff, i64w]
    exact hn'
  · simp only [P.sha_engine_uint64_block_r21]
    rw [br_neg (by omega), List.drop_eq_nil_of_le (by omega), List.append_nil]
    rfl

theorem e64_block (v : List (BitVec 64)) (hv : v.length = 8) (b : List Int) (hb : In 256 b) (hl : b.length = 16 * 8) {ρ : Type} (k : List Int → Option ρ) :
    P.sha_engine_uint64_block 64 80 [1, 8, 7] [19, 61, 6] [28, 34, 39] [14, 18, 41] (cv v) b k = k (cv (blockB p64 v b)) := by
  rw [P.sha_engine_uint64_block_eq]
  unfold P.sha_engine_uint64_block_raw
  rw [show IntKind.i64.wrap ((64 : Int).tdiv 8) = 8 from rfl]
  have := e64_l4 b hb hl 80 [1, 8, 7] [19, 61, 6] [28, 34, 39] [14, 18, 41] (cv v) (List.replicate 8 0) (fun (q0 : List Int) (q1 q2 q3 q4 : Int) (q5 q6 q7 q8 q9 q10 q11 : List Int) =>
    P.sha_engine_uint64_block_l10 q4 (0 : Int) q11 q10 q9 q3 q4 q5 q6 q7 q8 q9
      fun (q12 q13 : Int) (q14 q15 q16 : List Int) (q17 q18 : Int) (q19 q20 q21 q22 q23 : List Int) =>
      P.sha_engine_uint64_block_l21 (0 : Int) q16 q15 q23 fun (q24 : Int) (q25 q26 q27 : List Int) => k q27)
  refine this.trans ?_
  rw [← win_zero p64, e64_l10 _ v hv _ _ _ (wordsB_len b 16), e64_l21 v _ hv (runs_len _ _ _ hv _)]
  rfl
end Q
end

section
/- SHA-2: the document's block of words of 64 bits. -/
namespace Q
open Go Go.Abs
set_option linter.unusedVariables false
set_option linter.unusedSimpArgs false


theorem r64_right (x : BitVec 64) (m : Int) (n : Nat) (hm : m = (n : Int)) (hn : n ≤ 64) {ρ : Type} (k : Int → Option ρ) : P.R07_right (x.toNat : Int) m true k = k ((rr x n).toNat : Int) := by
  subst hm
  rw [P.R07_right_eq]
  unfold P.R07_right_raw
  rw [br_tt, br_neg (by omega), i64w (by omega) (by omega), br_neg (by omega), show (64 : Int) - (n : Int) = ((64 - n : Nat) : Int) by omega]
  simp only [toNat_cast]
  rw [shr64 _ _ hn, shl64 _ _ (by omega), or64]
  rfl
theorem r64_hi (x : BitVec 64) (t : Nat × Nat × Nat) (a b c : Int) (ha : a = (t.1 : Int)) (hb : b = (t.2.1 : Int)) (hc : c = (t.2.2 : Int)) (h1 : t.1 ≤ 64) (h2 : t.2.1 ≤ 64) (h3 : t.2.2 ≤ 64) {ρ : Type} (k : Int → Option ρ) :
    P.R07_mix (x.toNat : Int) a b c false true k = k ((hi t x).toNat : Int) := by
  rw [P.R07_mix_eq]
  unfold P.R07_mix_raw
  rw [br_neg (by omega), br_not, br_ff, r64_right _ _ _ hc h3, r64_right _ _ _ ha h1, r64_right _ _ _ hb h2, xor64, xor64]
  rfl
theorem r64_lo (x : BitVec 64) (t : Nat × Nat × Nat) (a b c : Int) (ha : a = (t.1 : Int)) (hb : b = (t.2.1 : Int)) (hc : c = (t.2.2 : Int)) (h1 : t.1 ≤ 64) (h2 : t.2.1 ≤ 64) (h3 : t.2.2 ≤ 64) {ρ : Type} (k : Int → Option ρ) :
    P.R07_mix (x.toNat : Int) a b c true true k = k ((lo t x).toNat : Int) := by
  rw [P.R07_mix_eq]
  unfold P.R07_mix_raw
  rw [br_neg (by omega), br_not, br_tt, r64_right _ _ _ ha h1, r64_right _ _ _ hb h2, xor64, hc]
  simp only [toNat_cast]
  rw [shr64 _ _ h3, xor64]
  rfl

/-- sums under the mask -/
theorem s4_64 (a b c d : BitVec 64) : bits .and .u64 (IntKind.u64.wrap (IntKind.u64.wrap (IntKind.u64.wrap ((a.toNat : Int) + (b.toNat : Int)) + (c.toNat : Int)) + (d.toNat : Int))) 18446744073709551615 = ((a + b + c + d).toNat : Int) := by
  rw [add64, add64, add64, wmask _ (lt64 _)]
theorem s2_64 (a b : BitVec 64) : bits .and .u64 (IntKind.u64.wrap ((a.toNat : Int) + (b.toNat : Int))) 18446744073709551615 = ((a + b).toNat : Int) := by
  rw [add64, wmask _ (lt64 _)]
/-- the round's two sums -/
theorem s6_64 (d a b c e f : BitVec 64) : bits .and .u64 (IntKind.u64.wrap ((d.toNat : Int) + IntKind.u64.wrap (IntKind.u64.wrap (IntKind.u64.wrap (IntKind.u64.wrap ((a.toNat : Int) + (b.toNat : Int)) + (c.toNat : Int)) + (e.toNat : Int)) + (f.toNat : Int)))) 18446744073709551615 = ((d + (a + b + c + e + f)).toNat : Int) := by
  rw [add64, add64, add64, add64, add64, wmask _ (lt64 _)]
theorem s7_64 (a b c e f g h : BitVec 64) : bits .and .u64 (IntKind.u64.wrap (IntKind.u64.wrap (IntKind.u64.wrap (IntKind.u64.wrap (IntKind.u64.wrap ((a.toNat : Int) + (b.toNat : Int)) + (c.toNat : Int)) + (e.toNat : Int)) + (f.toNat : Int)) + IntKind.u64.wrap ((g.toNat : Int) + (h.toNat : Int)))) 18446744073709551615 = (((a + b + c + e + f) + (g + h)).toNat : Int) := by
  rw [add64, add64, add64, add64, add64, add64, wmask _ (lt64 _)]
theorem ch_64 (e f g : BitVec 64) : bits .xor .u64 (bits .and .u64 (e.toNat : Int) (f.toNat : Int)) (bits .and .u64 (bits .xor .u64 18446744073709551615 (e.toNat : Int)) (g.toNat : Int)) = ((g ^^^ (e &&& (f ^^^ g))).toNat : Int) := by
  rw [show (18446744073709551615 : Int) = ((BitVec.allOnes 64).toNat : Int) from rfl, and64, xor64, and64, xor64, ch_eq]
theorem maj_64 (a b c : BitVec 64) : bits .xor .u64 (bits .xor .u64 (bits .and .u64 (a.toNat : Int) (b.toNat : Int)) (bits .and .u64 (a.toNat : Int) (c.toNat : Int))) (bits .and .u64 (b.toNat : Int) (c.toNat : Int)) = (((a &&& b) ||| (c &&& (a ||| b))).toNat : Int) := by
  rw [and64, and64, and64, xor64, xor64, maj_eq]

/-- the words that are there already -/
def pre64 (b : List Int) (t : Nat) : List (BitVec 64) := (List.range t).map (W p64 (wordsB 64 b 16))
theorem pre64_succ (b : List Int) (t : Nat) : pre64 b (t + 1) = pre64 b t ++ [W p64 (wordsB 64 b 16) t] := by simp [pre64, List.range_succ]
theorem pre64_len (b : List Int) (t : Nat) : (pre64 b t).length = t := by simp [pre64]
theorem pre64_at (b : List Int) (t i : Nat) (h : i < t) : (pre64 b t).getD i 0 = W p64 (wordsB 64 b 16) i := by
  unfold pre64
  rw [getD_lt (by simpa using h)]; simp
theorem W64_low (b : List Int) (t : Nat) (h : t < 16) : W p64 (wordsB 64 b 16) t = BitVec.ofNat 64 (T 8 ((b.take ((t + 1) * 8)).drop (t * 8)).reverse) := by
  rw [← W_eq p64 _ (by rw [wordsB_len]; omega) 0 t (by rw [wordsB_len]; omega), show sched p64 (wordsB 64 b 16) 0 = wordsB 64 b 16 from rfl, getD_lt (by rw [wordsB_len]; exact h)]
  simp [wordsB]

theorem r64_words (b : List Int) (hb : In 256 b) (hl : b.length = 16 * 8) {ρ : Type} (k : List Int → Option ρ) : P.R07_words b true 80 18446744073709551615 k = k (cv (pre64 b 80)) := by
  rw [P.R07_words_eq]
  unfold P.R07_words_raw
  rw [br_tt, P.R07_words_l6_eq]
  unfold P.R07_words_L6
  refine lp_go (fun t => (b, true, 80, 18446744073709551615, 8, (t : Int), cv (pre64 b t))) 80 rfl (fun t ht next hn' => ?_) (fun next => ?_) (by omega)
  · simp only [P.R07_words_r6, toNat_cast]
    have e1 : IntKind.i64.wrap ((t : Int) + 1) = ((t + 1 : Nat) : Int) := by rw [i64w (by omega) (by omega)]; omega
    rw [br_pos (by omega)]
    have hlen := pre64_len b t
    by_cases h16 : t < 16
    · have e2 : IntKind.i64.wrap ((t : Int) * 8) = ((t * 8 : Nat) : Int) := by rw [i64w (by omega) (by omega)]; omega
      have e3 : IntKind.i64.wrap (IntKind.i64.wrap ((t : Int) * 8) + 8) = (((t + 1) * 8 : Nat) : Int) := by rw [e2, i64w (by omega) (by omega)]; omega
      have hl2 : ((b.take ((t + 1) * 8)).drop (t * 8)).length = 8 := by simp; omega
      rw [br_pos (by omega), e3, e2, br_pos (by omega), br_pos (by omega), br_pos (by omega)]
      simp only [toNat_cast]
      have hT := T_lt 8 ((b.take ((t + 1) * 8)).drop (t * 8)).reverse
      rw [List.length_reverse, hl2] at hT
      have e4 : ((T 8 ((b.take ((t + 1) * 8)).drop (t * 8)).reverse % 2 ^ 64 : Nat) : Int) = ((W p64 (wordsB 64 b 16) t).toNat : Int) := by
        rw [W64_low b t h16, BitVec.toNat_ofNat]
      rw [R01_Num _ ((hb.take _).drop _) (by omega), br_pos (by rw [cv_length]; omega), e4, e1, show [((W p64 (wordsB 64 b 16) t).toNat : Int)] = cv [W p64 (wordsB 64 b 16) t] from rfl, cv_append, ← pre64_succ]
      exact hn'
    · have e15 : IntKind.i64.wrap ((t : Int) - 15) = ((t - 15 : Nat) : Int) := by rw [i64w (by omega) (by omega)]; omega
      have e2 : IntKind.i64.wrap ((t : Int) - 2) = ((t - 2 : Nat) : Int) := by rw [i64w (by omega) (by omega)]; omega
      have e7 : IntKind.i64.wrap ((t : Int) - 7) = ((t - 7 : Nat) : Int) := by rw [i64w (by omega) (by omega)]; omega
      have e16 : IntKind.i64.wrap ((t : Int) - 16) = ((t - 16 : Nat) : Int) := by rw [i64w (by omega) (by omega)]; omega
      simp only [e15, e2, e7, e16, toNat_cast, cv_getD, cv_length, hlen]
      rw [pre64_at b t _ (by omega), pre64_at b t _ (by omega), pre64_at b t _ (by omega), pre64_at b t _ (by omega)]
      obtain ⟨q1, m1⟩ := mix_any' ((W p64 (wordsB 64 b 16) (t - 15)).toNat : Int) 7 18 3 7 18 3 rfl rfl rfl (by omega) (by omega) (by omega)
      obtain ⟨q2, m2⟩ := mix_any' ((W p64 (wordsB 64 b 16) (t - 2)).toNat : Int) 17 19 10 17 19 10 rfl rfl rfl (by omega) (by omega) (by omega)
      rw [br_neg (by omega), br_pos (by omega), br_pos (by omega), m1, br_pos (by omega), br_pos (by omega), m2, br_tt, br_pos (by omega), br_pos (by omega), r64_lo _ p64.a _ _ _ (by rfl) (by rfl) (by rfl) (by decide) (by decide) (by decide), br_pos (by omega), br_pos (by omega), r64_lo _ p64.b _ _ _ (by rfl) (by rfl) (by rfl) (by decide) (by decide) (by decide)]
      have hW := W_next p64 (wordsB 64 b 16) (wordsB_len b 16) (t - 16)
      rw [show t - 16 + 16 = t by omega, show t - 16 + 1 = t - 15 by omega, show t - 16 + 9 = t - 7 by omega, show t - 16 + 14 = t - 2 by omega] at hW
      have hW2 : lo p64.b (W p64 (wordsB 64 b 16) (t - 2)) + W p64 (wordsB 64 b 16) (t - 7) + lo p64.a (W p64 (wordsB 64 b 16) (t - 15)) + W p64 (wordsB 64 b 16) (t - 16) = W p64 (wordsB 64 b 16) t := by rw [hW]; ac_rfl
      rw [br_pos (by omega), br_pos (by omega), br_pos (by omega), br_pos (by omega), br_pos (by omega), s4_64, hW2, e1, show [((W p64 (wordsB 64 b 16) t).toNat : Int)] = cv [W p64 (wordsB 64 b 16) t] from rfl, cv_append, ← pre64_succ]
      exact hn'
  · simp only [P.R07_words_r6]
    rw [br_neg (by omega)]

theorem r64_l11 (b : List Int) (v : List (BitVec 64)) (hv : v.length = 8) (h0 h1 : List Int) {ρ : Type} (k0 : Bool → Int → Int → Int → List Int → List Int → List Int → List Int → List Int → List Int → Option ρ) :
    P.R07_block_l11 true 80 18446744073709551615 0 h0 h1 P.roots256 P.roots512 (cv (pre64 b 80)) (cv v) k0 = k0 true 80 18446744073709551615 80 h0 h1 P.roots256 P.roots512 (cv (pre64 b 80)) (cv (runs p64 (wordsB 64 b 16) v 80)) := by
  rw [P.R07_block_l11_eq]
  unfold P.R07_block_L11
  refine lp_go (fun t => (true, 80, 18446744073709551615, (t : Int), h0, h1, P.roots256, P.roots512, cv (pre64 b 80), cv (runs p64 (wordsB 64 b 16) v t))) 80 rfl (fun t ht next hn' => ?_) (fun next => ?_) (by omega)
  · simp only [P.R07_block_r11]
    have e1 : IntKind.i64.wrap ((t : Int) + 1) = ((t + 1 : Nat) : Int) := by rw [i64w (by omega) (by omega)]; omega
    have hlen := pre64_len b 80
    simp only [e1, toNat_cast, cv_getD, cv_length, hlen]
    rw [pre64_at b 80 t ht, K64]
    obtain ⟨q1, m1⟩ := mix_any (((runs p64 (wordsB 64 b 16) v t).getD 0 0).toNat : Int) 2 13 22 2 13 22 rfl rfl rfl (by omega) (by omega) (by omega)
    obtain ⟨q2, m2⟩ := mix_any (((runs p64 (wordsB 64 b 16) v t).getD 4 0).toNat : Int) 6 11 25 6 11 25 rfl rfl rfl (by omega) (by omega) (by omega)
    rw [br_pos (by omega), m1, m2, br_tt, r64_hi _ p64.c _ _ _ (by rfl) (by rfl) (by rfl) (by decide) (by decide) (by decide), r64_hi _ p64.d _ _ _ (by rfl) (by rfl) (by rfl) (by decide) (by decide) (by decide)]
    rw [br_pos (by omega), br_pos (by omega), br_pos (by omega), br_pos (by omega), ch_64, maj_64, s7_64, s6_64]
    exact hn'
  · simp only [P.R07_block_r11]
    rw [br_neg (by omega)]
    rfl

theorem r64_l25 (v u : List (BitVec 64)) (hv : v.length = 8) (hu : u.length = 8) (h1 : List Int) {ρ : Type} (k0 : Int → Int → List Int → List Int → List Int → Option ρ) :
    P.R07_block_l25 18446744073709551615 0 (cv v) h1 (cv u) k0 = k0 18446744073709551615 8 (cv v) h1 (cv ((List.range 8).map fun i => u.getD i 0 + v.getD i 0)) := by
  rw [P.R07_block_l25_eq]
  unfold P.R07_block_L25
  refine lp_go (fun i => (18446744073709551615, (i : Int), cv v, h1, cv (((List.range i).map fun i => u.getD i 0 + v.getD i 0) ++ u.drop i))) 8 (by simp) (fun i hi next hn' => ?_) (fun next => ?_) (by omega)
  · simp only [P.R07_block_r25, toNat_cast, cv_getD]
    have e1 : IntKind.i64.wrap ((i : Int) + 1) = ((i + 1 : Nat) : Int) := by rw [i64w (by omega) (by omega)]; omega
    have e2 : (((List.range i).map fun i => u.getD i 0 + v.getD i 0) ++ u.drop i).getD i 0 = u.getD i 0 := by
      rw [List.getD_eq_getElem?_getD, List.getElem?_append_right (by simp), List.getElem?_drop, List.length_map, List.length_range, List.getD_eq_getElem?_getD]
      congr 2
      omega
    rw [e1, e2, s2_64, cv_set]
    have e3 : (((List.range i).map fun i => u.getD i 0 + v.getD i 0) ++ u.drop i).set i (u.getD i 0 + v.getD i 0) = ((List.range (i + 1)).map fun i => u.getD i 0 + v.getD i 0) ++ u.drop (i + 1) := by
      rw [List.set_append_right _ _ (by simp), List.length_map, List.length_range, Nat.sub_self, List.range_succ, List.map_append, List.append_assoc, List.drop_eq_getElem_cons (by omega), List.set_cons_zero]
      rfl
    rw [e3]
    simp (disch := omega) only [br_pos, br_neg, br_bne_pos, br_bne_neg, br_beq_pos, br_beq_neg, br_not, br_tt, br_ff, i64w]
    exact hn'
  · simp only [P.R07_block_r25]
    rw [br_neg (by omega), List.drop_eq_nil_of_le (by omega), List.append_nil]
    rfl

theorem r64_block (v : List (BitVec 64)) (hv : v.length = 8) (b : List Int) (hb : In 256 b) (hl : b.length = 16 * 8) {ρ : Type} (k : List Int → Option ρ) : P.R07_block (cv v) b true k = k (cv (blockB p64 v b)) := by
  rw [P.R07_block_eq]
  unfold P.R07_block_raw
  have hr1 : ∀ (k : List Int → Option ρ), P.R07_roots256 k = k P.roots256 := fun k => by rw [P.R07_roots256_eq]; kernel_rfl
  have hr2 : ∀ (k : List Int → Option ρ), P.R07_roots512 k = k P.roots512 := fun k => by rw [P.R07_roots512_eq]; kernel_rfl
  rw [hr1, hr2, br_tt, r64_words b hb hl, r64_l11 b v hv, r64_l25 v _ hv (runs_len _ _ _ hv _)]
  rfl
end Q
end

section
open Go Go.Abs
set_option linter.unusedVariables false
namespace P
noncomputable def R07_Block_raw {ρ : Type} (a0 : Int) (k : Int → Option ρ) : Option ρ :=
  br (a0 == (1 : Int)) (k (64 : Int)) (k (128 : Int))
noncomputable def R07_Block {ρ : Type} (a0 : Int) (k : Int → Option ρ) : Option ρ := shut (R07_Block_raw (ρ := ρ)) a0 k
theorem R07_Block_eq {ρ : Type} (a0 : Int) (k : Int → Option ρ) : R07_Block a0 k = R07_Block_raw a0 k := by unfold R07_Block; rw [shut_eq]

end P
end

section
open Go Go.Abs
set_option linter.unusedVariables false
namespace P
noncomputable def R01_Join_r3 {ρ : Type} (v0 : List (List Int)) (v4 : Int) (h0 : List Int) (nx : (List (List Int)) → Int → (List Int) → Option ρ) (k0 : (List (List Int)) → Int → (List Int) → Option ρ) : Option ρ :=
  br (decide (v4 < (↑v0.length : Int)))
    (br (decide ((0 : Int) ≤ v4))
      (br (decide (v4 < (↑v0.length : Int)))
        (br
          (decide
            ((h0.length + (v0.getD v4.toNat []).length) *
                1 ≤
              140737488355328))
          (nx v0 (IntKind.i64.wrap (v4 + (1 : Int))) (h0 ++ v0.getD v4.toNat [])) none)
        none)
      none)
    (k0 v0 v4 h0)
noncomputable def R01_Join_L3 {ρ : Type} (v0 : List (List Int)) (v4 : Int) (h0 : List Int) (k0 : (List (List Int)) → Int → (List Int) → Option ρ) : Option ρ :=
  lp (fun (x : (List (List Int)) × Int × (List Int)) (next : ((List (List Int)) × Int × (List Int)) → Option ρ) (ex : (((List (List Int)) × Int × (List Int))) → Option ρ) => R01_Join_r3 x.1 x.2.1 x.2.2 (fun v0 v4 h0 => next (v0, v4, h0)) (fun v0 v4 h0 => ex ((v0, v4, h0)))) (v0, v4, h0) (fun x => k0 x.1 x.2.1 x.2.2)
noncomputable def R01_Join_l3 {ρ : Type} (v0 : List (List Int)) (v4 : Int) (h0 : List Int) (k0 : (List (List Int)) → Int → (List Int) → Option ρ) : Option ρ := shut (R01_Join_L3 (ρ := ρ)) v0 v4 h0 k0
theorem R01_Join_l3_eq {ρ : Type} (v0 : List (List Int)) (v4 : Int) (h0 : List Int) (k0 : (List (List Int)) → Int → (List Int) → Option ρ) : R01_Join_l3 v0 v4 h0 k0 = R01_Join_L3 v0 v4 h0 k0 := by unfold R01_Join_l3; rw [shut_eq]
noncomputable def R01_Join_raw {ρ : Type} (a0 : List (List Int)) (k : (List Int) → Option ρ) : Option ρ :=
  R01_Join_l3 a0 (0 : Int) [] fun (q0 : List (List Int)) (q1 : Int) (q2 : List Int) => k q2
noncomputable def R01_Join {ρ : Type} (a0 : List (List Int)) (k : (List Int) → Option ρ) : Option ρ := shut (R01_Join_raw (ρ := ρ)) a0 k
theorem R01_Join_eq {ρ : Type} (a0 : List (List Int)) (k : (List Int) → Option ρ) : R01_Join a0 k = R01_Join_raw a0 k := by unfold R01_Join; rw [shut_eq]

end P
end

section
open Go Go.Abs
set_option linter.unusedVariables false
namespace P
noncomputable def R07_Add_r4 {ρ : Type} (v5 : Int) (v6 : List Int) (h0_0 : Int) (h0_1 : List Int) (h0_2 : List Int) (h0_3 : Int) (h1_0 : Int) (h1_1 : List Int) (h1_3 : Int) (nx : Int → (List Int) → Int → (List Int) → (List Int) → Int → Int → (List Int) → Int → Option ρ) (k0 : Int → (List Int) → Int → (List Int) → (List Int) → Int → Int → (List Int) → Int → Option ρ) : Option ρ :=
  br (decide ((↑v6.length : Int) ≥ v5))
    (br (decide ((0 : Int) ≤ v5))
      (br (decide (v5 ≤ (↑v6.length : Int)))
        (R07_block h0_1 (List.drop 0 (List.take v5.toNat v6)) (v5 == (128 : Int)) fun (q0 : List Int) =>
          br (decide ((0 : Int) ≤ v5))
            (br (decide (v5 ≤ (↑v6.length : Int)))
              (br (decide ((↑v6.length : Int) ≤ (↑v6.length : Int)))
                (nx v5 (List.drop v5.toNat (List.take (↑v6.length : Int).toNat v6)) h0_0 q0 h0_2 h0_3 h1_0 h1_1 h1_3)
                none)
              none)
            none)
        none)
      none)
    (k0 v5 v6 h0_0 h0_1 h0_2 h0_3 h1_0 h1_1 h1_3)
noncomputable def R07_Add_L4 {ρ : Type} (v5 : Int) (v6 : List Int) (h0_0 : Int) (h0_1 : List Int) (h0_2 : List Int) (h0_3 : Int) (h1_0 : Int) (h1_1 : List Int) (h1_3 : Int) (k0 : Int → (List Int) → Int → (List Int) → (List Int) → Int → Int → (List Int) → Int → Option ρ) : Option ρ :=
  lp (fun (x : Int × (List Int) × Int × (List Int) × (List Int) × Int × Int × (List Int) × Int) (next : (Int × (List Int) × Int × (List Int) × (List Int) × Int × Int × (List Int) × Int) → Option ρ) (ex : ((Int × (List Int) × Int × (List Int) × (List Int) × Int × Int × (List Int) × Int)) → Option ρ) => R07_Add_r4 x.1 x.2.1 x.2.2.1 x.2.2.2.1 x.2.2.2.2.1 x.2.2.2.2.2.1 x.2.2.2.2.2.2.1 x.2.2.2.2.2.2.2.1 x.2.2.2.2.2.2.2.2 (fun v5 v6 h0_0 h0_1 h0_2 h0_3 h1_0 h1_1 h1_3 => next (v5, v6, h0_0, h0_1, h0_2, h0_3, h1_0, h1_1, h1_3)) (fun v5 v6 h0_0 h0_1 h0_2 h0_3 h1_0 h1_1 h1_3 => ex ((v5, v6, h0_0, h0_1, h0_2, h0_3, h1_0, h1_1, h1_3)))) (v5, v6, h0_0, h0_1, h0_2, h0_3, h1_0, h1_1, h1_3) (fun x => k0 x.1 x.2.1 x.2.2.1 x.2.2.2.1 x.2.2.2.2.1 x.2.2.2.2.2.1 x.2.2.2.2.2.2.1 x.2.2.2.2.2.2.2.1 x.2.2.2.2.2.2.2.2)
noncomputable def R07_Add_l4 {ρ : Type} (v5 : Int) (v6 : List Int) (h0_0 : Int) (h0_1 : List Int) (h0_2 : List Int) (h0_3 : Int) (h1_0 : Int) (h1_1 : List Int) (h1_3 : Int) (k0 : Int → (List Int) → Int → (List Int) → (List Int) → Int → Int → (List Int) → Int → Option ρ) : Option ρ := shut (R07_Add_L4 (ρ := ρ)) v5 v6 h0_0 h0_1 h0_2 h0_3 h1_0 h1_1 h1_3 k0
theorem R07_Add_l4_eq {ρ : Type} (v5 : Int) (v6 : List Int) (h0_0 : Int) (h0_1 : List Int) (h0_2 : List Int) (h0_3 : Int) (h1_0 : Int) (h1_1 : List Int) (h1_3 : Int) (k0 : Int → (List Int) → Int → (List Int) → (List Int) → Int → Int → (List Int) → Int → Option ρ) : R07_Add_l4 v5 v6 h0_0 h0_1 h0_2 h0_3 h1_0 h1_1 h1_3 k0 = R07_Add_L4 v5 v6 h0_0 h0_1 h0_2 h0_3 h1_0 h1_1 h1_3 k0 := by unfold R07_Add_l4; rw [shut_eq]
noncomputable def R07_Add_raw {ρ : Type} (a0_Kind : Int) (a0_Words : List Int) (a0_Tail : List Int) (a0_Size : Int) (a1 : List Int) (k : Int → (List Int) → (List Int) → Int → Option ρ) : Option ρ :=
  R07_Block a0_Kind fun (q0 : Int) =>
    R01_Join [a0_Tail, a1] fun (q1 : List Int) =>
      R07_Add_l4 q0 q1 a0_Kind a0_Words a0_Tail (IntKind.u64.wrap (a0_Size + IntKind.u64.wrap (↑a1.length : Int)))
        (0 : Int) [(0 : Int), (0 : Int), (0 : Int), (0 : Int), (0 : Int), (0 : Int), (0 : Int), (0 : Int)] (0 : Int)
        fun (q2 : Int) (q3 : List Int) (q4 : Int) (q5 q6 : List Int) (q7 q8 : Int) (q9 : List Int) (q10 : Int) =>
        k q4 q5 q3 q7
noncomputable def R07_Add {ρ : Type} (a0_Kind : Int) (a0_Words : List Int) (a0_Tail : List Int) (a0_Size : Int) (a1 : List Int) (k : Int → (List Int) → (List Int) → Int → Option ρ) : Option ρ := shut (R07_Add_raw (ρ := ρ)) a0_Kind a0_Words a0_Tail a0_Size a1 k
theorem R07_Add_eq {ρ : Type} (a0_Kind : Int) (a0_Words : List Int) (a0_Tail : List Int) (a0_Size : Int) (a1 : List Int) (k : Int → (List Int) → (List Int) → Int → Option ρ) : R07_Add a0_Kind a0_Words a0_Tail a0_Size a1 k = R07_Add_raw a0_Kind a0_Words a0_Tail a0_Size a1 k := by unfold R07_Add; rw [shut_eq]

end P
end

section
open Go Go.Abs
set_option linter.unusedVariables false
namespace P
noncomputable def R01_Be_r5 {ρ : Type} (v0 : Int) (v6 : Int) (h0 : List Int) (nx : Int → Int → (List Int) → Option ρ) (k0 : Int → Int → (List Int) → Option ρ) : Option ρ :=
  br (decide (v6 ≥ (0 : Int)))
    (br (decide ((0 : Int) ≤ v6))
      (br (decide (v6 < (↑h0.length : Int)))
        (nx (v0.fdiv ((2 : Int) ^ 8)) (IntKind.i64.wrap (v6 - (1 : Int)))
          (h0.set v6.toNat (IntKind.u8.wrap (bits BinOp.and IntKind.u64 v0 (255 : Int)))))
        none)
      none)
    (k0 v0 v6 h0)
noncomputable def R01_Be_L5 {ρ : Type} (v0 : Int) (v6 : Int) (h0 : List Int) (k0 : Int → Int → (List Int) → Option ρ) : Option ρ :=
  lp (fun (x : Int × Int × (List Int)) (next : (Int × Int × (List Int)) → Option ρ) (ex : ((Int × Int × (List Int))) → Option ρ) => R01_Be_r5 x.1 x.2.1 x.2.2 (fun v0 v6 h0 => next (v0, v6, h0)) (fun v0 v6 h0 => ex ((v0, v6, h0)))) (v0, v6, h0) (fun x => k0 x.1 x.2.1 x.2.2)
noncomputable def R01_Be_l5 {ρ : Type} (v0 : Int) (v6 : Int) (h0 : List Int) (k0 : Int → Int → (List Int) → Option ρ) : Option ρ := shut (R01_Be_L5 (ρ := ρ)) v0 v6 h0 k0
theorem R01_Be_l5_eq {ρ : Type} (v0 : Int) (v6 : Int) (h0 : List Int) (k0 : Int → Int → (List Int) → Option ρ) : R01_Be_l5 v0 v6 h0 k0 = R01_Be_L5 v0 v6 h0 k0 := by unfold R01_Be_l5; rw [shut_eq]
noncomputable def R01_Be_raw {ρ : Type} (a0 : Int) (a1 : Int) (k : (List Int) → Option ρ) : Option ρ :=
  br (decide (a1 < (0 : Int))) (k [])
    (br (decide (a1 > (65536 : Int))) (k [])
      (br (decide ((0 : Int) ≤ a1))
        (br (decide (a1 ≤ a1))
          (br (decide (a1 * (↑1 : Int) ≤ (↑140737488355328 : Int)))
            (R01_Be_l5 a0 (IntKind.i64.wrap (a1 - (1 : Int))) (List.replicate a1.toNat (0 : Int))
              fun (q0 q1 : Int) (q2 : List Int) => k q2)
            none)
          none)
        none))
noncomputable def R01_Be {ρ : Type} (a0 : Int) (a1 : Int) (k : (List Int) → Option ρ) : Option ρ := shut (R01_Be_raw (ρ := ρ)) a0 a1 k
theorem R01_Be_eq {ρ : Type} (a0 : Int) (a1 : Int) (k : (List Int) → Option ρ) : R01_Be a0 a1 k = R01_Be_raw a0 a1 k := by unfold R01_Be; rw [shut_eq]

end P
end

section
open Go Go.Abs
set_option linter.unusedVariables false
namespace P
noncomputable def R07_End_r4 {ρ : Type} (v3 : Int) (v4 : Int) (h40 : List Int) (h0_0 : Int) (h0_1 : List Int) (h0_2 : List Int) (h0_3 : Int) (nx : Int → Int → (List Int) → Int → (List Int) → (List Int) → Int → Option ρ) (k0 : Int → Int → (List Int) → Int → (List Int) → (List Int) → Int → Option ρ) : Option ρ :=
  br (decide (v3 = (0 : Int))) none
    (br ((IntKind.i64.wrap ((↑h0_2.length : Int) + (↑h40.length : Int))).tmod v3 != IntKind.i64.wrap (v3 - (8 : Int)))
      (br
        (decide
          ((h40.length + 1) * 1 ≤
            140737488355328))
        (nx v3 v4 (h40 ++ [(0 : Int)]) h0_0 h0_1 h0_2 h0_3) none)
      (k0 v3 v4 h40 h0_0 h0_1 h0_2 h0_3))
noncomputable def R07_End_L4 {ρ : Type} (v3 : Int) (v4 : Int) (h40 : List Int) (h0_0 : Int) (h0_1 : List Int) (h0_2 : List Int) (h0_3 : Int) (k0 : Int → Int → (List Int) → Int → (List Int) → (List Int) → Int → Option ρ) : Option ρ :=
  lp (fun (x : Int × Int × (List Int) × Int × (List Int) × (List Int) × Int) (next : (Int × Int × (List Int) × Int × (List Int) × (List Int) × Int) → Option ρ) (ex : ((Int × Int × (List Int) × Int × (List Int) × (List Int) × Int)) → Option ρ) => R07_End_r4 x.1 x.2.1 x.2.2.1 x.2.2.2.1 x.2.2.2.2.1 x.2.2.2.2.2.1 x.2.2.2.2.2.2 (fun v3 v4 h40 h0_0 h0_1 h0_2 h0_3 => next (v3, v4, h40, h0_0, h0_1, h0_2, h0_3)) (fun v3 v4 h40 h0_0 h0_1 h0_2 h0_3 => ex ((v3, v4, h40, h0_0, h0_1, h0_2, h0_3)))) (v3, v4, h40, h0_0, h0_1, h0_2, h0_3) (fun x => k0 x.1 x.2.1 x.2.2.1 x.2.2.2.1 x.2.2.2.2.1 x.2.2.2.2.2.1 x.2.2.2.2.2.2)
noncomputable def R07_End_l4 {ρ : Type} (v3 : Int) (v4 : Int) (h40 : List Int) (h0_0 : Int) (h0_1 : List Int) (h0_2 : List Int) (h0_3 : Int) (k0 : Int → Int → (List Int) → Int → (List Int) → (List Int) → Int → Option ρ) : Option ρ := shut (R07_End_L4 (ρ := ρ)) v3 v4 h40 h0_0 h0_1 h0_2 h0_3 k0
theorem R07_End_l4_eq {ρ : Type} (v3 : Int) (v4 : Int) (h40 : List Int) (h0_0 : Int) (h0_1 : List Int) (h0_2 : List Int) (h0_3 : Int) (k0 : Int → Int → (List Int) → Int → (List Int) → (List Int) → Int → Option ρ) : R07_End_l4 v3 v4 h40 h0_0 h0_1 h0_2 h0_3 k0 = R07_End_L4 v3 v4 h40 h0_0 h0_1 h0_2 h0_3 k0 := by unfold R07_End_l4; rw [shut_eq]
noncomputable def R07_End_r8 {ρ : Type} (v3 : Int) (v4 : Int) (h80 : List Int) (h0_0 : Int) (h0_1 : List Int) (h0_2 : List Int) (h0_3 : Int) (nx : Int → Int → (List Int) → Int → (List Int) → (List Int) → Int → Option ρ) (k0 : Int → Int → (List Int) → Int → (List Int) → (List Int) → Int → Option ρ) : Option ρ :=
  br (decide (v3 = (0 : Int))) none
    (br ((IntKind.i64.wrap ((↑h0_2.length : Int) + (↑h80.length : Int))).tmod v3 != IntKind.i64.wrap (v3 - (16 : Int)))
      (br
        (decide
          ((h80.length + 1) * 1 ≤
            140737488355328))
        (nx v3 v4 (h80 ++ [(0 : Int)]) h0_0 h0_1 h0_2 h0_3) none)
      (k0 v3 v4 h80 h0_0 h0_1 h0_2 h0_3))
noncomputable def R07_End_L8 {ρ : Type} (v3 : Int) (v4 : Int) (h80 : List Int) (h0_0 : Int) (h0_1 : List Int) (h0_2 : List Int) (h0_3 : Int) (k0 : Int → Int → (List Int) → Int → (List Int) → (List Int) → Int → Option ρ) : Option ρ :=
  lp (fun (x : Int × Int × (List Int) × Int × (List Int) × (List Int) × Int) (next : (Int × Int × (List Int) × Int × (List Int) × (List Int) × Int) → Option ρ) (ex : ((Int × Int × (List Int) × Int × (List Int) × (List Int) × Int)) → Option ρ) => R07_End_r8 x.1 x.2.1 x.2.2.1 x.2.2.2.1 x.2.2.2.2.1 x.2.2.2.2.2.1 x.2.2.2.2.2.2 (fun v3 v4 h80 h0_0 h0_1 h0_2 h0_3 => next (v3, v4, h80, h0_0, h0_1, h0_2, h0_3)) (fun v3 v4 h80 h0_0 h0_1 h0_2 h0_3 => ex ((v3, v4, h80, h0_0, h0_1, h0_2, h0_3)))) (v3, v4, h80, h0_0, h0_1, h0_2, h0_3) (fun x => k0 x.1 x.2.1 x.2.2.1 x.2.2.2.1 x.2.2.2.2.1 x.2.2.2.2.2.1 x.2.2.2.2.2.2)
noncomputable def R07_End_l8 {ρ : Type} (v3 : Int) (v4 : Int) (h80 : List Int) (h0_0 : Int) (h0_1 : List Int) (h0_2 : List Int) (h0_3 : Int) (k0 : Int → Int → (List Int) → Int → (List Int) → (List Int) → Int → Option ρ) : Option ρ := shut (R07_End_L8 (ρ := ρ)) v3 v4 h80 h0_0 h0_1 h0_2 h0_3 k0
theorem R07_End_l8_eq {ρ : Type} (v3 : Int) (v4 : Int) (h80 : List Int) (h0_0 : Int) (h0_1 : List Int) (h0_2 : List Int) (h0_3 : Int) (k0 : Int → Int → (List Int) → Int → (List Int) → (List Int) → Int → Option ρ) : R07_End_l8 v3 v4 h80 h0_0 h0_1 h0_2 h0_3 k0 = R07_End_L8 v3 v4 h80 h0_0 h0_1 h0_2 h0_3 k0 := by unfold R07_End_l8; rw [shut_eq]
noncomputable def R07_End_r14 {ρ : Type} (v3 : Int) (v7 : Int) (h120 : List Int) (h0_0 : Int) (h0_1 : List Int) (h0_2 : List Int) (h0_3 : Int) (nx : Int → Int → (List Int) → Int → (List Int) → (List Int) → Int → Option ρ) (k0 : Int → Int → (List Int) → Int → (List Int) → (List Int) → Int → Option ρ) : Option ρ :=
  br (decide (v7 < (8 : Int)))
    (br (decide ((0 : Int) ≤ v7))
      (br (decide (v7 < (↑8 : Int)))
        (R01_Be (h0_1.getD v7.toNat (0 : Int)) (IntKind.i64.wrap (v3.tdiv (16 : Int))) fun (q0 : List Int) =>
          br
            (decide
              ((h120.length + q0.length) * 1 ≤
                140737488355328))
            (nx v3 (IntKind.i64.wrap (v7 + (1 : Int))) (h120 ++ q0) h0_0 h0_1 h0_2 h0_3) none)
        none)
      none)
    (k0 v3 v7 h120 h0_0 h0_1 h0_2 h0_3)
noncomputable def R07_End_L14 {ρ : Type} (v3 : Int) (v7 : Int) (h120 : List Int) (h0_0 : Int) (h0_1 : List Int) (h0_2 : List Int) (h0_3 : Int) (k0 : Int → Int → (List Int) → Int → (List Int) → (List Int) → Int → Option ρ) : Option ρ :=
  lp (fun (x : Int × Int × (List Int) × Int × (List Int) × (List Int) × Int) (next : (Int × Int × (List Int) × Int × (List Int) × (List Int) × Int) → Option ρ) (ex : ((Int × Int × (List Int) × Int × (List Int) × (List Int) × Int)) → Option ρ) => R07_End_r14 x.1 x.2.1 x.2.2.1 x.2.2.2.1 x.2.2.2.2.1 x.2.2.2.2.2.1 x.2.2.2.2.2.2 (fun v3 v7 h120 h0_0 h0_1 h0_2 h0_3 => next (v3, v7, h120, h0_0, h0_1, h0_2, h0_3)) (fun v3 v7 h120 h0_0 h0_1 h0_2 h0_3 => ex ((v3, v7, h120, h0_0, h0_1, h0_2, h0_3)))) (v3, v7, h120, h0_0, h0_1, h0_2, h0_3) (fun x => k0 x.1 x.2.1 x.2.2.1 x.2.2.2.1 x.2.2.2.2.1 x.2.2.2.2.2.1 x.2.2.2.2.2.2)
noncomputable def R07_End_l14 {ρ : Type} (v3 : Int) (v7 : Int) (h120 : List Int) (h0_0 : Int) (h0_1 : List Int) (h0_2 : List Int) (h0_3 : Int) (k0 : Int → Int → (List Int) → Int → (List Int) → (List Int) → Int → Option ρ) : Option ρ := shut (R07_End_L14 (ρ := ρ)) v3 v7 h120 h0_0 h0_1 h0_2 h0_3 k0
theorem R07_End_l14_eq {ρ : Type} (v3 : Int) (v7 : Int) (h120 : List Int) (h0_0 : Int) (h0_1 : List Int) (h0_2 : List Int) (h0_3 : Int) (k0 : Int → Int → (List Int) → Int → (List Int) → (List Int) → Int → Option ρ) : R07_End_l14 v3 v7 h120 h0_0 h0_1 h0_2 h0_3 k0 = R07_End_L14 v3 v7 h120 h0_0 h0_1 h0_2 h0_3 k0 := by unfold R07_End_l14; rw [shut_eq]
noncomputable def R07_End_raw {ρ : Type} (a0_Kind : Int) (a0_Words : List Int) (a0_Tail : List Int) (a0_Size : Int) (k : (List Int) → Option ρ) : Option ρ :=
  R07_Block a0_Kind fun (q0 : Int) =>
    R07_End_l4 q0 (IntKind.u64.wrap (a0_Size * (8 : Int))) [(128 : Int)] a0_Kind a0_Words a0_Tail a0_Size
      fun (q1 q2 : Int) (q3 : List Int) (q4 : Int) (q5 q6 : List Int) (q7 : Int) =>
      br (q1 == (128 : Int))
        (R07_End_l8 q1 q2 [(128 : Int)] q4 q5 q6 q7
          fun (q8 q9 : Int) (q10 : List Int) (q11 : Int) (q12 q13 : List Int) (q14 : Int) =>
          R01_Be (q14.fdiv ((2 : Int) ^ 61)) (8 : Int) fun (q15 : List Int) =>
            br
              (decide
                ((q10.length + q15.length) * 1 ≤
                  140737488355328))
              (R01_Be q9 (8 : Int) fun (q16 : List Int) =>
                br
                  (decide
                    (((q10 ++ q15).length + q16.length) *
                        1 ≤
                      140737488355328))
                  (R07_Add q11 q12 q13 q14 (q10 ++ q15 ++ q16) fun (q17 : Int) (q18 q19 : List Int) (q20 : Int) =>
                    R07_End_l14 q8 (0 : Int) [] q17 q18 q19 q20
                      fun (q21 q22 : Int) (q23 : List Int) (q24 : Int) (q25 q26 : List Int) (q27 : Int) =>
                      br (q24 == (2 : Int))
                        (br (decide ((48 : Int) ≤ (↑q23.length : Int))) (k (List.take ((48 : Int) - (0 : Int)).toNat q23))
                          none)
                        (k q23))
                  none)
              none)
        (R01_Be q2 (8 : Int) fun (q28 : List Int) =>
          br
            (decide
              ((q3.length + q28.length) * 1 ≤
                140737488355328))
            (R07_Add q4 q5 q6 q7 (q3 ++ q28) fun (q29 : Int) (q30 q31 : List Int) (q32 : Int) =>
              R07_End_l14 q1 (0 : Int) [] q29 q30 q31 q32
                fun (q33 q34 : Int) (q35 : List Int) (q36 : Int) (q37 q38 : List Int) (q39 : Int) =>
                br (q36 == (2 : Int))
                  (br (decide ((48 : Int) ≤ (↑q35.length : Int))) (k (List.take ((48 : Int) - (0 : Int)).toNat q35)) none)
                  (k q35))
            none)
noncomputable def R07_End {ρ : Type} (a0_Kind : Int) (a0_Words : List Int) (a0_Tail : List Int) (a0_Size : Int) (k : (List Int) → Option ρ) : Option ρ := shut (R07_End_raw (ρ := ρ)) a0_Kind a0_Words a0_Tail a0_Size k
theorem R07_End_eq {ρ : Type} (a0_Kind : Int) (a0_Words : List Int) (a0_Tail : List Int) (a0_Size : Int) (k : (List Int) → Option ρ) : R07_End a0_Kind a0_Words a0_Tail a0_Size k = R07_End_raw a0_Kind a0_Words a0_Tail a0_Size k := by unfold R07_End; rw [shut_eq]

end P
end

section
open Go Go.Abs
set_option linter.unusedVariables false
namespace P
noncomputable def sha_Sum_raw {ρ : Type} (a0 : Int) (a1 : List Int) (k : (List Int) → Int → Option ρ) : Option ρ :=
  sha_New a0 fun (q0 : Int) (q1 q2 : List Int) (q3 q4 : Int) =>
    br (q4 != (0 : Int)) (k [] q4)
      (sha_Add q0 q1 q2 q3 a1 fun (q5 : Int) (q6 q7 : List Int) (q8 : Int) =>
        sha_End q5 q6 q7 q8 fun (q9 : List Int) => k q9 (0 : Int))
noncomputable def sha_Sum {ρ : Type} (a0 : Int) (a1 : List Int) (k : (List Int) → Int → Option ρ) : Option ρ := shut (sha_Sum_raw (ρ := ρ)) a0 a1 k
theorem sha_Sum_eq {ρ : Type} (a0 : Int) (a1 : List Int) (k : (List Int) → Int → Option ρ) : sha_Sum a0 a1 k = sha_Sum_raw a0 a1 k := by unfold sha_Sum; rw [shut_eq]

end P
end

section
open Go Go.Abs
set_option linter.unusedVariables false
namespace P
noncomputable def R07_New_raw {ρ : Type} (a0 : Int) (k : Int → (List Int) → (List Int) → Int → Int → Option ρ) : Option ρ :=
  br (a0 == (1 : Int))
    (k a0
      [(1779033703 : Int), (3144134277 : Int), (1013904242 : Int), (2773480762 : Int), (1359893119 : Int),
        (2600822924 : Int), (528734635 : Int), (1541459225 : Int)]
      [] (0 : Int) (0 : Int))
    (br (a0 == (2 : Int))
      (k a0
        [(14680500436340154072 : Int), (7105036623409894663 : Int), (10473403895298186519 : Int),
          (1526699215303891257 : Int), (7436329637833083697 : Int), (10282925794625328401 : Int),
          (15784041429090275239 : Int), (5167115440072839076 : Int)]
        [] (0 : Int) (0 : Int))
      (br (a0 == (3 : Int))
        (k a0
          [(7640891576956012808 : Int), (13503953896175478587 : Int), (4354685564936845355 : Int),
            (11912009170470909681 : Int), (5840696475078001361 : Int), (11170449401992604703 : Int),
            (2270897969802886507 : Int), (6620516959819538809 : Int)]
          [] (0 : Int) (0 : Int))
        (k (0 : Int) [(0 : Int), (0 : Int), (0 : Int), (0 : Int), (0 : Int), (0 : Int), (0 : Int), (0 : Int)] [] (0 : Int)
          (9 : Int))))
noncomputable def R07_New {ρ : Type} (a0 : Int) (k : Int → (List Int) → (List Int) → Int → Int → Option ρ) : Option ρ := shut (R07_New_raw (ρ := ρ)) a0 k
theorem R07_New_eq {ρ : Type} (a0 : Int) (k : Int → (List Int) → (List Int) → Int → Int → Option ρ) : R07_New a0 k = R07_New_raw a0 k := by unfold R07_New; rw [shut_eq]

end P
end

section
open Go Go.Abs
set_option linter.unusedVariables false
namespace P
noncomputable def R07_Sum_raw {ρ : Type} (a0 : Int) (a1 : List Int) (k : (List Int) → Int → Option ρ) : Option ρ :=
  R07_New a0 fun (q0 : Int) (q1 q2 : List Int) (q3 q4 : Int) =>
    br (q4 != (0 : Int)) (k [] q4)
      (R07_Add q0 q1 q2 q3 a1 fun (q5 : Int) (q6 q7 : List Int) (q8 : Int) =>
        R07_End q5 q6 q7 q8 fun (q9 : List Int) => k q9 (0 : Int))
noncomputable def R07_Sum {ρ : Type} (a0 : Int) (a1 : List Int) (k : (List Int) → Int → Option ρ) : Option ρ := shut (R07_Sum_raw (ρ := ρ)) a0 a1 k
theorem R07_Sum_eq {ρ : Type} (a0 : Int) (a1 : List Int) (k : (List Int) → Int → Option ρ) : R07_Sum a0 a1 k = R07_Sum_raw a0 a1 k := by unfold R07_Sum; rw [shut_eq]

end P
end

section
open Go Go.Abs
set_option linter.unusedVariables false
namespace P
noncomputable def R01_SameNums_r4 {ρ : Type} (v0 : List Int) (v1 : List Int) (v5 : Int) (nx : (List Int) → (List Int) → Int → Option ρ) (k0 : (List Int) → (List Int) → Int → Option ρ) (k1 : Bool → Option ρ) : Option ρ :=
  br (decide (v5 < (↑v0.length : Int)))
    (br (decide ((0 : Int) ≤ v5))
      (br (decide (v5 < (↑v0.length : Int)))
        (br (decide ((0 : Int) ≤ v5))
          (br (decide (v5 < (↑v1.length : Int)))
            (br (v0.getD v5.toNat (0 : Int) != v1.getD v5.toNat (0 : Int)) (k1 false)
              (nx v0 v1 (IntKind.i64.wrap (v5 + (1 : Int)))))
            none)
          none)
        none)
      none)
    (k0 v0 v1 v5)
noncomputable def R01_SameNums_L4 {ρ : Type} (v0 : List Int) (v1 : List Int) (v5 : Int) (k0 : (List Int) → (List Int) → Int → Option ρ) (k1 : Bool → Option ρ) : Option ρ :=
  lp (fun (x : (List Int) × (List Int) × Int) (next : ((List Int) × (List Int) × Int) → Option ρ) (ex : (((List Int) × (List Int) × Int) ⊕ ((Bool))) → Option ρ) => R01_SameNums_r4 x.1 x.2.1 x.2.2 (fun v0 v1 v5 => next (v0, v1, v5)) (fun v0 v1 v5 => ex (.inl (v0, v1, v5))) (fun v4 => ex (.inr v4))) (v0, v1, v5) (Sum.elim (fun x => k0 x.1 x.2.1 x.2.2) (fun x => k1 x))
noncomputable def R01_SameNums_l4 {ρ : Type} (v0 : List Int) (v1 : List Int) (v5 : Int) (k0 : (List Int) → (List Int) → Int → Option ρ) (k1 : Bool → Option ρ) : Option ρ := shut (R01_SameNums_L4 (ρ := ρ)) v0 v1 v5 k0 k1
theorem R01_SameNums_l4_eq {ρ : Type} (v0 : List Int) (v1 : List Int) (v5 : Int) (k0 : (List Int) → (List Int) → Int → Option ρ) (k1 : Bool → Option ρ) : R01_SameNums_l4 v0 v1 v5 k0 k1 = R01_SameNums_L4 v0 v1 v5 k0 k1 := by unfold R01_SameNums_l4; rw [shut_eq]
noncomputable def R01_SameNums_raw {ρ : Type} (a0 : List Int) (a1 : List Int) (k : Bool → Option ρ) : Option ρ :=
  br ((↑a0.length : Int) != (↑a1.length : Int)) (k false)
    (R01_SameNums_l4 a0 a1 (0 : Int) (fun (q0 q1 : List Int) (q2 : Int) => k true) fun (q3 : Bool) => k q3)
noncomputable def R01_SameNums {ρ : Type} (a0 : List Int) (a1 : List Int) (k : Bool → Option ρ) : Option ρ := shut (R01_SameNums_raw (ρ := ρ)) a0 a1 k
theorem R01_SameNums_eq {ρ : Type} (a0 : List Int) (a1 : List Int) (k : Bool → Option ρ) : R01_SameNums a0 a1 k = R01_SameNums_raw a0 a1 k := by unfold R01_SameNums; rw [shut_eq]

end P
end

section
open Go Go.Abs
set_option linter.unusedVariables false
namespace P
noncomputable def R01_Xor_r3 {ρ : Type} (v0 : List Int) (v1 : List Int) (v6 : Int) (h0 : List Int) (nx : (List Int) → (List Int) → Int → (List Int) → Option ρ) (k0 : (List Int) → (List Int) → Int → (List Int) → Option ρ) : Option ρ :=
  br (decide (v6 < (↑v0.length : Int)))
    (br (decide (v6 < (↑v1.length : Int)))
      (br (decide ((0 : Int) ≤ v6))
        (br (decide (v6 < (↑v0.length : Int)))
          (br (decide ((0 : Int) ≤ v6))
            (br (decide (v6 < (↑v1.length : Int)))
              (br
                (decide
                  ((h0.length + 1) * 1 ≤
                    140737488355328))
                (nx v0 v1 (IntKind.i64.wrap (v6 + (1 : Int)))
                  (h0 ++ [bits BinOp.xor IntKind.u8 (v0.getD v6.toNat (0 : Int)) (v1.getD v6.toNat (0 : Int))]))
                none)
              none)
            none)
          none)
        none)
      (k0 v0 v1 v6 h0))
    (k0 v0 v1 v6 h0)
noncomputable def R01_Xor_L3 {ρ : Type} (v0 : List Int) (v1 : List Int) (v6 : Int) (h0 : List Int) (k0 : (List Int) → (List Int) → Int → (List Int) → Option ρ) : Option ρ :=
  lp (fun (x : (List Int) × (List Int) × Int × (List Int)) (next : ((List Int) × (List Int) × Int × (List Int)) → Option ρ) (ex : (((List Int) × (List Int) × Int × (List Int))) → Option ρ) => R01_Xor_r3 x.1 x.2.1 x.2.2.1 x.2.2.2 (fun v0 v1 v6 h0 => next (v0, v1, v6, h0)) (fun v0 v1 v6 h0 => ex ((v0, v1, v6, h0)))) (v0, v1, v6, h0) (fun x => k0 x.1 x.2.1 x.2.2.1 x.2.2.2)
noncomputable def R01_Xor_l3 {ρ : Type} (v0 : List Int) (v1 : List Int) (v6 : Int) (h0 : List Int) (k0 : (List Int) → (List Int) → Int → (List Int) → Option ρ) : Option ρ := shut (R01_Xor_L3 (ρ := ρ)) v0 v1 v6 h0 k0
theorem R01_Xor_l3_eq {ρ : Type} (v0 : List Int) (v1 : List Int) (v6 : Int) (h0 : List Int) (k0 : (List Int) → (List Int) → Int → (List Int) → Option ρ) : R01_Xor_l3 v0 v1 v6 h0 k0 = R01_Xor_L3 v0 v1 v6 h0 k0 := by unfold R01_Xor_l3; rw [shut_eq]
noncomputable def R01_Xor_raw {ρ : Type} (a0 : List Int) (a1 : List Int) (k : (List Int) → Option ρ) : Option ρ :=
  R01_Xor_l3 a0 a1 (0 : Int) [] fun (q0 q1 : List Int) (q2 : Int) (q3 : List Int) => k q3
noncomputable def R01_Xor {ρ : Type} (a0 : List Int) (a1 : List Int) (k : (List Int) → Option ρ) : Option ρ := shut (R01_Xor_raw (ρ := ρ)) a0 a1 k
theorem R01_Xor_eq {ρ : Type} (a0 : List Int) (a1 : List Int) (k : (List Int) → Option ρ) : R01_Xor a0 a1 k = R01_Xor_raw a0 a1 k := by unfold R01_Xor; rw [shut_eq]

end P
end

section
open Go Go.Abs
set_option linter.unusedVariables false
namespace P
noncomputable def bits_Xor_r3 {ρ : Type} (v1 : List Int) (v16 : Int) (v17 : Int) (h0 : List Int) (nx : (List Int) → Int → Int → (List Int) → Option ρ) (k0 : (List Int) → Int → Int → (List Int) → Option ρ) : Option ρ :=
  br (decide (v17 < v16))
    (br (decide ((0 : Int) ≤ v17))
      (br (decide (v17 < (↑h0.length : Int)))
        (br (decide ((0 : Int) ≤ v17))
          (br (decide (v17 < (↑v1.length : Int)))
            (br (decide ((0 : Int) ≤ v17))
              (br (decide (v17 < (↑h0.length : Int)))
                (nx v1 v16 (IntKind.i64.wrap (v17 + (1 : Int)))
                  (h0.set v17.toNat
                    (bits BinOp.xor IntKind.u8 (h0.getD v17.toNat (0 : Int)) (v1.getD v17.toNat (0 : Int)))))
                none)
              none)
            none)
          none)
        none)
      none)
    (k0 v1 v16 v17 h0)
noncomputable def bits_Xor_L3 {ρ : Type} (v1 : List Int) (v16 : Int) (v17 : Int) (h0 : List Int) (k0 : (List Int) → Int → Int → (List Int) → Option ρ) : Option ρ :=
  lp (fun (x : (List Int) × Int × Int × (List Int)) (next : ((List Int) × Int × Int × (List Int)) → Option ρ) (ex : (((List Int) × Int × Int × (List Int))) → Option ρ) => bits_Xor_r3 x.1 x.2.1 x.2.2.1 x.2.2.2 (fun v1 v16 v17 h0 => next (v1, v16, v17, h0)) (fun v1 v16 v17 h0 => ex ((v1, v16, v17, h0)))) (v1, v16, v17, h0) (fun x => k0 x.1 x.2.1 x.2.2.1 x.2.2.2)
noncomputable def bits_Xor_l3 {ρ : Type} (v1 : List Int) (v16 : Int) (v17 : Int) (h0 : List Int) (k0 : (List Int) → Int → Int → (List Int) → Option ρ) : Option ρ := shut (bits_Xor_L3 (ρ := ρ)) v1 v16 v17 h0 k0
theorem bits_Xor_l3_eq {ρ : Type} (v1 : List Int) (v16 : Int) (v17 : Int) (h0 : List Int) (k0 : (List Int) → Int → Int → (List Int) → Option ρ) : bits_Xor_l3 v1 v16 v17 h0 k0 = bits_Xor_L3 v1 v16 v17 h0 k0 := by unfold bits_Xor_l3; rw [shut_eq]
noncomputable def bits_Xor_raw {ρ : Type} (a0 : List Int) (a1 : List Int) (k : (List Int) → Option ρ) : Option ρ :=
  br
    (decide
      ((0 : Int) ≤ bif decide ((↑a1.length : Int) < (↑a0.length : Int)) then (↑a1.length : Int) else (↑a0.length : Int)))
    (br
      (decide
        ((bif decide ((↑a1.length : Int) < (↑a0.length : Int)) then (↑a1.length : Int) else (↑a0.length : Int)) ≤
          (↑a0.length : Int)))
      (slices_Clone_byte
        (List.drop 0
          (List.take
            (bif decide ((↑a1.length : Int) < (↑a0.length : Int)) then (↑a1.length : Int) else (↑a0.length : Int)).toNat
            a0))
        fun (q0 : List Int) =>
        bits_Xor_l3 a1 (↑q0.length : Int) (0 : Int) q0 fun (q1 : List Int) (q2 q3 : Int) (q4 : List Int) => k q4)
      none)
    none
noncomputable def bits_Xor {ρ : Type} (a0 : List Int) (a1 : List Int) (k : (List Int) → Option ρ) : Option ρ := shut (bits_Xor_raw (ρ := ρ)) a0 a1 k
theorem bits_Xor_eq {ρ : Type} (a0 : List Int) (a1 : List Int) (k : (List Int) → Option ρ) : bits_Xor a0 a1 k = bits_Xor_raw a0 a1 k := by unfold bits_Xor; rw [shut_eq]

end P
end

section
open Go Go.Abs
set_option linter.unusedVariables false
namespace P
noncomputable def bits_Same_r5 {ρ : Type} (v0 : List Int) (v1 : List Int) (v5 : Int) (v13 : Int) (v14 : Int) (nx : (List Int) → (List Int) → Int → Int → Int → Option ρ) (k0 : (List Int) → (List Int) → Int → Int → Int → Option ρ) : Option ρ :=
  br (decide (v14 < v13))
    (br (decide ((0 : Int) ≤ v14))
      (br (decide (v14 < (↑v0.length : Int)))
        (br (decide ((0 : Int) ≤ v14))
          (br (decide (v14 < (↑v1.length : Int)))
            (nx v0 v1
              (bits BinOp.or IntKind.u8 v5
                (bits BinOp.xor IntKind.u8 (v0.getD v14.toNat (0 : Int)) (v1.getD v14.toNat (0 : Int))))
              v13 (IntKind.i64.wrap (v14 + (1 : Int))))
            none)
          none)
        none)
      none)
    (k0 v0 v1 v5 v13 v14)
noncomputable def bits_Same_L5 {ρ : Type} (v0 : List Int) (v1 : List Int) (v5 : Int) (v13 : Int) (v14 : Int) (k0 : (List Int) → (List Int) → Int → Int → Int → Option ρ) : Option ρ :=
  lp (fun (x : (List Int) × (List Int) × Int × Int × Int) (next : ((List Int) × (List Int) × Int × Int × Int) → Option ρ) (ex : (((List Int) × (List Int) × Int × Int × Int)) → Option ρ) => bits_Same_r5 x.1 x.2.1 x.2.2.1 x.2.2.2.1 x.2.2.2.2 (fun v0 v1 v5 v13 v14 => next (v0, v1, v5, v13, v14)) (fun v0 v1 v5 v13 v14 => ex ((v0, v1, v5, v13, v14)))) (v0, v1, v5, v13, v14) (fun x => k0 x.1 x.2.1 x.2.2.1 x.2.2.2.1 x.2.2.2.2)
noncomputable def bits_Same_l5 {ρ : Type} (v0 : List Int) (v1 : List Int) (v5 : Int) (v13 : Int) (v14 : Int) (k0 : (List Int) → (List Int) → Int → Int → Int → Option ρ) : Option ρ := shut (bits_Same_L5 (ρ := ρ)) v0 v1 v5 v13 v14 k0
theorem bits_Same_l5_eq {ρ : Type} (v0 : List Int) (v1 : List Int) (v5 : Int) (v13 : Int) (v14 : Int) (k0 : (List Int) → (List Int) → Int → Int → Int → Option ρ) : bits_Same_l5 v0 v1 v5 v13 v14 k0 = bits_Same_L5 v0 v1 v5 v13 v14 k0 := by unfold bits_Same_l5; rw [shut_eq]
noncomputable def bits_Same_raw {ρ : Type} (a0 : List Int) (a1 : List Int) (k : Bool → Option ρ) : Option ρ :=
  br ((↑a0.length : Int) != (↑a1.length : Int)) (k false)
    (bits_Same_l5 a0 a1 (0 : Int) (↑a0.length : Int) (0 : Int) fun (q0 q1 : List Int) (q2 q3 q4 : Int) =>
      k (q2 == (0 : Int)))
noncomputable def bits_Same {ρ : Type} (a0 : List Int) (a1 : List Int) (k : Bool → Option ρ) : Option ρ := shut (bits_Same_raw (ρ := ρ)) a0 a1 k
theorem bits_Same_eq {ρ : Type} (a0 : List Int) (a1 : List Int) (k : Bool → Option ρ) : bits_Same a0 a1 k = bits_Same_raw a0 a1 k := by unfold bits_Same; rw [shut_eq]

end P
end

section
/- bits, the first part: texts. -/
namespace Q
open Go Go.Abs
set_option linter.unusedVariables false
set_option linter.unusedSimpArgs false

theorem same_loop {a b : List Int} (hl : a.length = b.length) (hs : a.length ≤ 140737488355328) {ρ : Type} (k0 : List Int → List Int → Int → Option ρ) (k1 : Bool → Option ρ) :
    ∀ (m i : Nat), i + m = a.length → ∀ {stp : (List Int × List Int × Int) → ((List Int × List Int × Int) → Option ρ) → ((List Int × List Int × Int) ⊕ Bool → Option ρ) → Option ρ} {K : (List Int × List Int × Int) ⊕ Bool → Option ρ},
      (∀ (j : Nat) next, stp (a, b, (j : Int)) next K = br (decide ((j : Int) < (a.length : Int))) (br (a.getD j 0 != b.getD j 0) (k1 false) (next (a, b, ((j + 1 : Nat) : Int)))) (k0 a b (j : Int))) →
      lp stp (a, b, (i : Int)) K = if a.drop i = b.drop i then k0 a b (a.length : Int) else k1 false := by
  intro m i hm stp K hst
  refine lp_eq (P := fun x => ∃ j : Nat, x = (a, b, (j : Int)) ∧ j ≤ a.length ∧ (if a.drop j = b.drop j then k0 a b (a.length : Int) else k1 false) = (if a.drop i = b.drop i then k0 a b (a.length : Int) else k1 false)) (μ := fun x => ((a.length : Int) - x.2.2).toNat) ?_ ⟨i, rfl, by omega, rfl⟩ (by simp only; omega)
  rintro _ ⟨j, rfl, hj, he⟩ next hn
  rw [hst, ← he]
  by_cases hji : j < a.length
  · rw [br_pos (by omega), drop_step a 0 j hji, drop_step b 0 j (by omega)]
    by_cases hab : a.getD j 0 = b.getD j 0
    · rw [br_bne_neg hab, hn _ ⟨j + 1, rfl, by omega, ?_⟩ (by simp only; omega), ← he, drop_step a 0 j hji, drop_step b 0 j (by omega)]
      · rw [← he, drop_step a 0 j hji, drop_step b 0 j (by omega)]
        simp only [hab, List.cons.injEq, true_and]
    · rw [br_bne_pos hab, if_neg (by simp only [List.cons.injEq]; exact fun h => hab h.1)]
  · have : j = a.length := by omega
    subst this
    rw [br_neg (by omega), if_pos (by rw [List.drop_eq_nil_of_le (Nat.le_refl _), List.drop_eq_nil_of_le (by omega)])]

theorem R01_Same (a b : List Int) (h : a.length ≤ 140737488355328) {ρ : Type} (k : Bool → Option ρ) : P.R01_Same a b k = k (decide (a = b)) := by
  rw [P.R01_Same_eq]
  unfold P.R01_Same_raw
  by_cases hl : a.length = b.length
  · rw [br_bne_neg (by omega), P.R01_Same_l4_eq]
    unfold P.R01_Same_L4
    have := same_loop hl h (fun _ _ _ => k true) k a.length 0 (by omega) (stp := (fun x next ex => P.R01_Same_r4 x.1 x.2.1 x.2.2 (fun v0 v1 v5 => next (v0, v1, v5)) (fun v0 v1 v5 => ex (.inl (v0, v1, v5))) (fun v4 => ex (.inr v4)))) (K := Sum.elim (fun _ => k true) k) (by
      intro j next
      simp only [P.R01_Same_r4, Sum.elim_inl, Sum.elim_inr]
      by_cases hj : (j : Int) < (a.length : Int)
      · simp only [br_pos hj]
        simp (disch := omega) only [br_pos, br_neg, br_bne_pos, br_bne_neg, br_beq_pos, br_beq_neg, br_not, br_tt, br_ff, i64w, toNat_cast]
        rfl
      · simp only [br_neg hj])
    simp only [List.drop_zero] at this
    refine this.trans ?_
    by_cases hab : a = b
    · rw [if_pos hab, decide_eq_true hab]
    · rw [if_neg hab, decide_eq_false hab]
  · rw [br_bne_pos (by omega), decide_eq_false (fun e => hl (by rw [e]))]

theorem R01_SameNums (a b : List Int) (h : a.length ≤ 140737488355328) {ρ : Type} (k : Bool → Option ρ) : P.R01_SameNums a b k = k (decide (a = b)) := by
  rw [P.R01_SameNums_eq]
  unfold P.R01_SameNums_raw
  by_cases hl : a.length = b.length
  · rw [br_bne_neg (by omega), P.R01_SameNums_l4_eq]
    unfold P.R01_SameNums_L4
    have := same_loop hl h (fun _ _ _ => k true) k a.length 0 (by omega) (stp := (fun x next ex => P.R01_SameNums_r4 x.1 x.2.1 x.2.2 (fun v0 v1 v5 => next (v0, v1, v5)) (fun v0 v1 v5 => ex (.inl (v0, v1, v5))) (fun v4 => ex (.inr v4)))) (K := Sum.elim (fun _ => k true) k) (by
      intro j next
      simp only [P.R01_SameNums_r4, Sum.elim_inl, Sum.elim_inr]
      by_cases hj : (j : Int) < (a.length : Int)
      · simp only [br_pos hj]
        simp (disch := omega) only [br_pos, br_neg, br_bne_pos, br_bne_neg, br_beq_pos, br_beq_neg, br_not, br_tt, br_ff, i64w, toNat_cast]
        rfl
      · simp only [br_neg hj])
    simp only [List.drop_zero] at this
    refine this.trans ?_
    by_cases hab : a = b
    · rw [if_pos hab, decide_eq_true hab]
    · rw [if_neg hab, decide_eq_false hab]
  · rw [br_bne_pos (by omega), decide_eq_false (fun e => hl (by rw [e]))]

/-- two texts xored -/
def xorS (a b : List Int) : List Int := (List.range (min a.length b.length)).map fun i => bits .xor .u8 (a.getD i 0) (b.getD i 0)

theorem R01_Xor (a b : List Int) (h : a.length ≤ 140737488355327) (h2 : b.length ≤ 140737488355327) {ρ : Type} (k : List Int → Option ρ) : P.R01_Xor a b k = k (xorS a b) := by
  rw [P.R01_Xor_eq]
  unfold P.R01_Xor_raw
  rw [P.R01_Xor_l3_eq]
  unfold P.R01_Xor_L3
  refine lp_up (fun i => (a, b, (i : Int), (List.range i).map fun i => bits .xor .u8 (a.getD i 0) (b.getD i 0))) (min a.length b.length) (fun i hi next hn => ?_) (fun next => ?_) (Nat.zero_le _) (by omega)
  · simp only [P.R01_Xor_r3, List.length_map, List.length_range, toNat_cast]
    simp (disch := omega) only [br_pos, br_neg, br_bne_pos, br_bne_neg, br_beq_pos, br_beq_neg, br_not, br_tt, br_ff, i64w]
    rw [range_map_step (fun i => bits .xor .u8 (a.getD i 0) (b.getD i 0))]
    exact hn
  · simp only [P.R01_Xor_r3, List.length_map, List.length_range, toNat_cast]
    by_cases hm : a.length ≤ b.length
    · rw [br_neg (by omega)]; rfl
    · rw [br_pos (by omega), br_neg (by omega)]; rfl

theorem bits_Xor (a b : List Int) (h : a.length ≤ 140737488355327) (h2 : b.length ≤ 140737488355327) {ρ : Type} (k : List Int → Option ρ) : P.bits_Xor a b k = k (xorS a b) := by
  rw [P.bits_Xor_eq]
  unfold P.bits_Xor_raw
  have e : (bif decide ((↑b.length : Int) < (↑a.length : Int)) then (↑b.length : Int) else (↑a.length : Int)) = ((min a.length b.length : Nat) : Int) := by
    by_cases hl : (b.length : Int) < (a.length : Int)
    · rw [decide_eq_true hl]; simp only [cond_true]; omega
    · rw [decide_eq_false hl]; simp only [cond_false]; omega
  rw [e, br_pos (by omega), br_pos (by omega), toNat_cast]
  unfold P.slices_Clone_byte
  simp only [List.drop_zero, List.length_take]
  rw [br_pos (by omega), P.bits_Xor_l3_eq]
  unfold P.bits_Xor_L3
  have hl0 : (a.take (min a.length b.length)).length = min a.length b.length := by simp
  have key : ∀ i, (fun i : Nat => (b, ((min a.length b.length : Nat) : Int), (i : Int), ((List.range i).map fun i => bits .xor .u8 (a.getD i 0) (b.getD i 0)) ++ (a.take (min a.length b.length)).drop i)) i = (b, ((min a.length b.length : Nat) : Int), (i : Int), ((List.range i).map fun i => bits .xor .u8 (a.getD i 0) (b.getD i 0)) ++ (a.take (min a.length b.length)).drop i) := fun _ => rfl
  have hrun := lp_up (ρ := ρ) (stp := (fun (x : (List Int) × Int × Int × (List Int)) (next : ((List Int) × Int × Int × (List Int)) → Option ρ) (ex : (((List Int) × Int × Int × (List Int))) → Option ρ) => P.bits_Xor_r3 x.1 x.2.1 x.2.2.1 x.2.2.2 (fun v1 v16 v17 h0 => next (v1, v16, v17, h0)) (fun v1 v16 v17 h0 => ex ((v1, v16, v17, h0))))) (K := fun x => k x.2.2.2) (r := k (xorS a b))
    (fun i : Nat => (b, ((min a.length b.length : Nat) : Int), (i : Int), ((List.range i).map fun i => bits .xor .u8 (a.getD i 0) (b.getD i 0)) ++ (a.take (min a.length b.length)).drop i)) (min a.length b.length) (fun i hi next hn => ?_) (fun next => ?_) (i := 0) (Nat.zero_le _) (by omega)
  · simp only [List.range_zero, List.map_nil, List.nil_append, List.drop_zero] at hrun
    rw [show min (min a.length b.length) a.length = min a.length b.length by omega]
    exact hrun
  · have hlen : (((List.range i).map fun i => bits .xor .u8 (a.getD i 0) (b.getD i 0)) ++ (a.take (min a.length b.length)).drop i).length = min a.length b.length := by
      simp; omega
    have hget : (((List.range i).map fun i => bits .xor .u8 (a.getD i 0) (b.getD i 0)) ++ (a.take (min a.length b.length)).drop i).getD i 0 = a.getD i 0 := by
      rw [List.getD_eq_getElem?_getD, List.getElem?_append_right (by simp)]
      simp only [List.length_map, List.length_range, Nat.sub_self, List.getElem?_drop, Nat.add_zero]
      rw [List.getElem?_take_of_lt hi, ← List.getD_eq_getElem?_getD]
    simp only [P.bits_Xor_r3, hlen, toNat_cast]
    simp (disch := omega) only [br_pos, br_neg, br_bne_pos, br_bne_neg, br_beq_pos, br_beq_neg, br_not, br_tt, br_ff, i64w, hget]
    rw [List.set_append_right _ _ (by simp)]
    simp only [List.length_map, List.length_range, Nat.sub_self]
    rw [List.drop_eq_getElem_cons (by rw [hl0]; exact hi), List.set_cons_zero]
    have e2 := range_map_step (fun i => bits .xor .u8 (a.getD i 0) (b.getD i 0)) i

    rw [← e2, List.append_assoc, List.singleton_append] at hn
    exact hn
  · simp only [P.bits_Xor_r3]
    rw [br_neg (by omega), List.drop_eq_nil_of_le (by rw [hl0]; exact Nat.le_refl _), List.append_nil]
    rfl
end Q
end
