/-
  LmotsRight, part O: an interpreter of my own over abstract values, the pure functions, the walks and the plain law.
-/

import Derived.Test.YtknjpkgnideplaaDoorLmotsRightF
import Derived.Test.YtknjpkgnideplaaDoorLmotsRightG
import Derived.Test.YtknjpkgnideplaaDoorLmotsRightN
import Derived.Test.YtknjpkgnideplaaDoorLmotsRightM
import Derived.Test.YtknjpkgnideplaaDoorLmotsRightH

section
open Go Go.Abs
set_option linter.unusedVariables false
namespace P
noncomputable def bits_Pack_r10 {ρ : Type} (v1 : Int) (v6 : Int) (v7 : Int) (v23 : List Int) (v24 : Int) (v25 : Int) (h2 : List Int) (nx : Int → Int → Int → (List Int) → Int → Int → (List Int) → Option ρ) (k0 : Int → Int → Int → (List Int) → Int → Int → (List Int) → Option ρ) : Option ρ :=
  br (decide (v7 ≥ (8 : Int)))
    (br
      (decide
        ((h2.length + 1) * 1 ≤
          140737488355328))
      (nx v1 (v6.fdiv ((2 : Int) ^ 8)) (IntKind.i64.wrap (v7 - (8 : Int))) v23 v24 v25
        (h2 ++ [IntKind.u8.wrap v6]))
      none)
    (k0 v1 v6 v7 v23 v24 v25 h2)
noncomputable def bits_Pack_L10 {ρ : Type} (v1 : Int) (v6 : Int) (v7 : Int) (v23 : List Int) (v24 : Int) (v25 : Int) (h2 : List Int) (k0 : Int → Int → Int → (List Int) → Int → Int → (List Int) → Option ρ) : Option ρ :=
  lp (fun (x : Int × Int × Int × (List Int) × Int × Int × (List Int)) (next : (Int × Int × Int × (List Int) × Int × Int × (List Int)) → Option ρ) (ex : ((Int × Int × Int × (List Int) × Int × Int × (List Int))) → Option ρ) => bits_Pack_r10 x.1 x.2.1 x.2.2.1 x.2.2.2.1 x.2.2.2.2.1 x.2.2.2.2.2.1 x.2.2.2.2.2.2 (fun v1 v6 v7 v23 v24 v25 h2 => next (v1, v6, v7, v23, v24, v25, h2)) (fun v1 v6 v7 v23 v24 v25 h2 => ex ((v1, v6, v7, v23, v24, v25, h2)))) (v1, v6, v7, v23, v24, v25, h2) (fun x => k0 x.1 x.2.1 x.2.2.1 x.2.2.2.1 x.2.2.2.2.1 x.2.2.2.2.2.1 x.2.2.2.2.2.2)
noncomputable def bits_Pack_l10 {ρ : Type} (v1 : Int) (v6 : Int) (v7 : Int) (v23 : List Int) (v24 : Int) (v25 : Int) (h2 : List Int) (k0 : Int → Int → Int → (List Int) → Int → Int → (List Int) → Option ρ) : Option ρ := shut (bits_Pack_L10 (ρ := ρ)) v1 v6 v7 v23 v24 v25 h2 k0
theorem bits_Pack_l10_eq {ρ : Type} (v1 : Int) (v6 : Int) (v7 : Int) (v23 : List Int) (v24 : Int) (v25 : Int) (h2 : List Int) (k0 : Int → Int → Int → (List Int) → Int → Int → (List Int) → Option ρ) : bits_Pack_l10 v1 v6 v7 v23 v24 v25 h2 k0 = bits_Pack_L10 v1 v6 v7 v23 v24 v25 h2 k0 := by unfold bits_Pack_l10; rw [shut_eq]
noncomputable def bits_Pack_r6 {ρ : Type} (v1 : Int) (v6 : Int) (v7 : Int) (v23 : List Int) (v24 : Int) (v25 : Int) (h1 : List Int) (nx : Int → Int → Int → (List Int) → Int → Int → (List Int) → Option ρ) (k0 : Int → Int → Int → (List Int) → Int → Int → (List Int) → Option ρ) : Option ρ :=
  br (decide (v25 < v24))
    (br (decide ((0 : Int) ≤ v25))
      (br (decide (v25 < (↑v23.length : Int)))
        (br (decide (v1 < (0 : Int))) none
          (br (decide (v7 < (0 : Int))) none
            (bits_Pack_l10 v1
              (bits BinOp.or IntKind.u64 v6
                (IntKind.u64.wrap
                  (IntKind.u64.wrap
                      (bits BinOp.and IntKind.u32 (v23.getD v25.toNat (0 : Int))
                        (IntKind.u32.wrap
                          (IntKind.u32.wrap ((1 : Int) * (2 : Int) ^ min v1.toNat 32) - (1 : Int)))) *
                    (2 : Int) ^ min v7.toNat 64)))
              (IntKind.i64.wrap (v7 + v1)) v23 v24 v25 h1
              fun (q0 q1 q2 : Int) (q3 : List Int) (q4 q5 : Int) (q6 : List Int) =>
              nx q0 q1 q2 q3 q4 (IntKind.i64.wrap (q5 + (1 : Int))) q6)))
        none)
      none)
    (k0 v1 v6 v7 v23 v24 v25 h1)
noncomputable def bits_Pack_L6 {ρ : Type} (v1 : Int) (v6 : Int) (v7 : Int) (v23 : List Int) (v24 : Int) (v25 : Int) (h1 : List Int) (k0 : Int → Int → Int → (List Int) → Int → Int → (List Int) → Option ρ) : Option ρ :=
  lp (fun (x : Int × Int × Int × (List Int) × Int × Int × (List Int)) (next : (Int × Int × Int × (List Int) × Int × Int × (List Int)) → Option ρ) (ex : ((Int × Int × Int × (List Int) × Int × Int × (List Int))) → Option ρ) => bits_Pack_r6 x.1 x.2.1 x.2.2.1 x.2.2.2.1 x.2.2.2.2.1 x.2.2.2.2.2.1 x.2.2.2.2.2.2 (fun v1 v6 v7 v23 v24 v25 h1 => next (v1, v6, v7, v23, v24, v25, h1)) (fun v1 v6 v7 v23 v24 v25 h1 => ex ((v1, v6, v7, v23, v24, v25, h1)))) (v1, v6, v7, v23, v24, v25, h1) (fun x => k0 x.1 x.2.1 x.2.2.1 x.2.2.2.1 x.2.2.2.2.1 x.2.2.2.2.2.1 x.2.2.2.2.2.2)
noncomputable def bits_Pack_l6 {ρ : Type} (v1 : Int) (v6 : Int) (v7 : Int) (v23 : List Int) (v24 : Int) (v25 : Int) (h1 : List Int) (k0 : Int → Int → Int → (List Int) → Int → Int → (List Int) → Option ρ) : Option ρ := shut (bits_Pack_L6 (ρ := ρ)) v1 v6 v7 v23 v24 v25 h1 k0
theorem bits_Pack_l6_eq {ρ : Type} (v1 : Int) (v6 : Int) (v7 : Int) (v23 : List Int) (v24 : Int) (v25 : Int) (h1 : List Int) (k0 : Int → Int → Int → (List Int) → Int → Int → (List Int) → Option ρ) : bits_Pack_l6 v1 v6 v7 v23 v24 v25 h1 k0 = bits_Pack_L6 v1 v6 v7 v23 v24 v25 h1 k0 := by unfold bits_Pack_l6; rw [shut_eq]
noncomputable def bits_Pack_raw {ρ : Type} (a0 : List Int) (a1 : Int) (k : (List Int) → Option ρ) : Option ρ :=
  br (decide (a1 < (1 : Int))) (k [])
    (br (decide (a1 > (24 : Int))) (k [])
      (br
        (decide
          ((0 : Int) ≤
            IntKind.i64.wrap
              ((IntKind.i64.wrap (IntKind.i64.wrap ((↑a0.length : Int) * a1) + (7 : Int))).tdiv (8 : Int))))
        (br
          (decide
            (IntKind.i64.wrap
                  ((IntKind.i64.wrap (IntKind.i64.wrap ((↑a0.length : Int) * a1) + (7 : Int))).tdiv (8 : Int)) *
                (↑1 : Int) ≤
              (↑140737488355328 : Int)))
          (bits_Pack_l6 a1 (0 : Int) (0 : Int) a0 (↑a0.length : Int) (0 : Int) (List.replicate 0 (0 : Int))
            fun (q0 q1 q2 : Int) (q3 : List Int) (q4 q5 : Int) (q6 : List Int) =>
            br (decide (q2 > (0 : Int)))
              (br
                (decide
                  ((q6.length + 1) * 1 ≤
                    140737488355328))
                (k (q6 ++ [IntKind.u8.wrap q1])) none)
              (k q6))
          none)
        none))
noncomputable def bits_Pack {ρ : Type} (a0 : List Int) (a1 : Int) (k : (List Int) → Option ρ) : Option ρ := shut (bits_Pack_raw (ρ := ρ)) a0 a1 k
theorem bits_Pack_eq {ρ : Type} (a0 : List Int) (a1 : Int) (k : (List Int) → Option ρ) : bits_Pack a0 a1 k = bits_Pack_raw a0 a1 k := by unfold bits_Pack; rw [shut_eq]

end P
end

section
open Go Go.Abs
set_option linter.unusedVariables false
namespace P
noncomputable def L01_awake_raw {ρ : Type}  (k : Bool → Option ρ) : Option ρ :=
  bits_Digits [(165 : Int)] (4 : Int) (2 : Int) fun (q0 : List Int) =>
    bits_Be (258 : Int) (3 : Int) fun (q1 : List Int) =>
      R01_Same q1 [(0 : Int), (1 : Int), (2 : Int)] fun (q2 : Bool) =>
        br q2
          (bits_Le (258 : Int) (3 : Int) fun (q3 : List Int) =>
            R01_Same q3 [(2 : Int), (1 : Int), (0 : Int)] fun (q4 : Bool) =>
              br q4
                (br ((↑q0.length : Int) == (2 : Int))
                  (br (decide ((0 : Int) < (↑q0.length : Int)))
                    (br (q0.getD 0 (0 : Int) == (10 : Int))
                      (br (decide ((1 : Int) < (↑q0.length : Int)))
                        (br (q0.getD 1 (0 : Int) == (5 : Int))
                          (bits_Pack [(5 : Int), (10 : Int)] (4 : Int) fun (q5 : List Int) =>
                            R01_Same q5 [(165 : Int)] fun (q6 : Bool) => k q6)
                          (k false))
                        none)
                      (k false))
                    none)
                  (k false))
                (k false))
          (k false)
noncomputable def L01_awake {ρ : Type}  (k : Bool → Option ρ) : Option ρ := shut (L01_awake_raw (ρ := ρ))  k
theorem L01_awake_eq {ρ : Type}  (k : Bool → Option ρ) : L01_awake  k = L01_awake_raw  k := by unfold L01_awake; rw [shut_eq]

end P
end

section
/- bits: the law's own test. -/
namespace Q
open Go Go.Abs
set_option linter.unusedVariables false
set_option linter.unusedSimpArgs false

theorem FU_ge (n : Nat) (h : n ≤ 18446744073709551616) : ∃ m, FU = m + n := ⟨18446744073709551616 - n, by rw [FU_eq]; omega⟩

theorem L01_awake {ρ : Type} (k : Bool → Option ρ) : P.L01_awake k = k true := by
  obtain ⟨m, hm⟩ := FU_ge 20 (by omega)
  simp only [P.L01_awake_eq, P.L01_awake_raw, P.bits_Digits_eq, P.bits_Digits_raw, P.bits_Digits_l6_eq, P.bits_Digits_L6, P.bits_Digits_r6, P.bits_Digits_l8_eq, P.bits_Digits_L8, P.bits_Digits_r8,
    P.bits_Be_eq, P.bits_Be_raw, P.bits_Be_l1_1_eq, P.bits_Be_L1_1, P.bits_Be_r1_1, P.bits_Le_eq, P.bits_Le_raw, P.bits_Le_l5_eq, P.bits_Le_L5, P.bits_Le_r5,
    P.bits_Pack_eq, P.bits_Pack_raw, P.bits_Pack_l6_eq, P.bits_Pack_L6, P.bits_Pack_r6, P.bits_Pack_l10_eq, P.bits_Pack_L10, P.bits_Pack_r10, P.bits_such_eq, P.bits_such_raw,
    P.R01_Same_eq, P.R01_Same_raw, P.R01_Same_l4_eq, P.R01_Same_L4, P.R01_Same_r4, lp, hm]
  kernel_rfl

end Q
end

section
/- bits: Same, Join. -/
namespace Q
open Go Go.Abs
set_option linter.unusedVariables false
set_option linter.unusedSimpArgs false

/-- the differences, gathered -/
def diff (a b : List Int) (i : Nat) : Int := (List.range i).foldl (fun acc j => bits .or .u8 acc (bits .xor .u8 (a.getD j 0) (b.getD j 0))) 0
theorem diff_succ (a b : List Int) (i : Nat) : diff a b (i + 1) = bits .or .u8 (diff a b i) (bits .xor .u8 (a.getD i 0) (b.getD i 0)) := by
  simp [diff, List.range_succ]
theorem diff_fact (a b : List Int) (ha : In 256 a) (hb : In 256 b) : ∀ i, (0 ≤ diff a b i ∧ diff a b i < 256) ∧ (diff a b i = 0 ↔ ∀ j, j < i → a.getD j 0 = b.getD j 0)
  | 0 => ⟨⟨by simp [diff], by simp [diff]⟩, by simp [diff]⟩
  | i + 1 => by
    obtain ⟨h1, h2⟩ := diff_fact a b ha hb i
    rw [diff_succ]
    have hx := ha.getD i (by omega)
    have hy := hb.getD i (by omega)
    obtain ⟨d, hd⟩ := Int.eq_ofNat_of_zero_le h1.1
    obtain ⟨x, hx'⟩ := Int.eq_ofNat_of_zero_le hx.1
    obtain ⟨y, hy'⟩ := Int.eq_ofNat_of_zero_le hy.1
    rw [hd, hx', hy', xor_u8 x y (by omega) (by omega), or_u8 d _ (by omega) (Nat.xor_lt_two_pow (n := 8) (show x < 2 ^ 8 by omega) (show y < 2 ^ 8 by omega))]
    have hb : d ||| (x ^^^ y) < 256 := Nat.or_lt_two_pow (n := 8) (show d < 2 ^ 8 by omega) (Nat.xor_lt_two_pow (n := 8) (show x < 2 ^ 8 by omega) (show y < 2 ^ 8 by omega))
    refine ⟨⟨by omega, by omega⟩, ?_⟩
    rw [show (((d ||| (x ^^^ y) : Nat) : Int) = 0 ↔ (d ||| (x ^^^ y)) = 0) by omega, Nat.or_eq_zero_iff, xor_zero]
    constructor
    · rintro ⟨h0, hxy⟩ j hj
      by_cases hji : j = i
      · subst hji; rw [hx', hy', hxy]
      · exact h2.1 (by omega) j (by omega)
    · intro h
      refine ⟨?_, ?_⟩
      · have := h2.2 (fun j hj => h j (by omega)); omega
      · have := h i (by omega); rw [hx', hy'] at this; omega

theorem bits_Same (a b : List Int) (ha : In 256 a) (hb : In 256 b) (h : a.length ≤ 140737488355328) {ρ : Type} (k : Bool → Option ρ) : P.bits_Same a b k = k (decide (a = b)) := by
  rw [P.bits_Same_eq]
  unfold P.bits_Same_raw
  by_cases hl : a.length = b.length
  · rw [br_bne_neg (by omega), P.bits_Same_l5_eq]
    unfold P.bits_Same_L5
    refine lp_up (fun i => (a, b, diff a b i, (a.length : Int), (i : Int))) a.length (fun i hi next hn => ?_) (fun next => ?_) (Nat.zero_le _) (by omega)
    · simp only [P.bits_Same_r5, toNat_cast]
      simp (disch := omega) only [br_pos, br_neg, br_bne_pos, br_bne_neg, br_beq_pos, br_beq_neg, br_not, br_tt, br_ff, i64w]
      rw [← diff_succ]
      exact hn
    · simp only [P.bits_Same_r5]
      rw [br_neg (by omega)]
      congr 1
      have := (diff_fact a b ha hb a.length).2
      by_cases hab : a = b
      · rw [decide_eq_true hab, beq_iff_eq, this]
        subst hab; exact fun _ _ => rfl
      · rw [decide_eq_false hab, beq_eq_false_iff_ne]
        intro h0
        refine hab (List.ext_getElem hl (fun i h1 h2 => ?_))
        have := this.1 h0 i h1
        rw [getD_lt h1, getD_lt h2] at this
        exact this
  · rw [br_bne_pos (by omega), decide_eq_false (fun e => hl (by rw [e]))]

/-- rows one behind the other -/
def joined (l : List (List Int)) (i : Nat) : List Int := (l.take i).flatten
theorem joined_succ (l : List (List Int)) (i : Nat) (h : i < l.length) : joined l (i + 1) = joined l i ++ l.getD i [] := by
  unfold joined
  rw [← take_step l [] i h, List.flatten_append]; simp
theorem joined_all (l : List (List Int)) : joined l l.length = l.flatten := by unfold joined; rw [List.take_length]
theorem joined_le (l : List (List Int)) (i : Nat) : (joined l i).length ≤ l.flatten.length := by
  unfold joined
  have : l.flatten = (l.take i).flatten ++ (l.drop i).flatten := by rw [← List.flatten_append, List.take_append_drop]
  rw [this, List.length_append]; omega

theorem R01_Join (l : List (List Int)) (h : l.length ≤ 140737488355328) (h2 : l.flatten.length ≤ 140737488355328) {ρ : Type} (k : List Int → Option ρ) : P.R01_Join l k = k l.flatten := by
  rw [P.R01_Join_eq]
  unfold P.R01_Join_raw
  rw [P.R01_Join_l3_eq]
  unfold P.R01_Join_L3
  refine lp_up (fun i => (l, (i : Int), joined l i)) l.length (fun i hi next hn => ?_) (fun next => ?_) (Nat.zero_le _) (by omega)
  · have e := joined_succ l i hi
    have h3 := joined_le l (i + 1)
    rw [e, List.length_append] at h3
    simp only [P.R01_Join_r3, toNat_cast]
    simp (disch := omega) only [br_pos, br_neg, br_bne_pos, br_bne_neg, br_beq_pos, br_beq_neg, br_not, br_tt, br_ff, i64w]
    rw [← e]
    exact hn
  · simp only [P.R01_Join_r3]
    rw [br_neg (by omega), joined_all]

theorem slices_Grow_byte (n : Nat) (h : n ≤ 140737488355328) {ρ : Type} (k : List Int → Option ρ) : P.slices_Grow_byte (n : Int) k = k [] := by
  rw [P.slices_Grow_byte_eq]
  unfold P.slices_Grow_byte_raw
  rw [br_neg (by omega), show IntKind.i64.wrap ((0 : Int) - (0 : Int)) = 0 by decide]
  rw [i64w (by omega) (by omega)]
  by_cases h0 : n = 0
  · subst h0; rw [br_neg (by omega)]
  · rw [br_pos (by omega), br_pos (by omega), br_pos (by omega)]; rfl

theorem slices_Concat_byte (l : List (List Int)) (h : l.length ≤ 140737488355328) (h2 : l.flatten.length ≤ 140737488355328) {ρ : Type} (k : List Int → Option ρ) : P.slices_Concat_byte l k = k l.flatten := by
  rw [P.slices_Concat_byte_eq]
  unfold P.slices_Concat_byte_raw
  rw [P.slices_Concat_byte_l3_eq]
  unfold P.slices_Concat_byte_L3
  refine lp_up (fun i => (l, ((joined l i).length : Int), l, (l.length : Int), (i : Int))) l.length (fun i hi next hn => ?_) (fun next => ?_) (Nat.zero_le _) (by omega)
  · have e := joined_succ l i hi
    have h3 := joined_le l (i + 1)
    have e2 : ((joined l i).length : Int) + ((l.getD i []).length : Int) = ((joined l (i + 1)).length : Int) := by rw [e, List.length_append]; omega
    simp only [P.slices_Concat_byte_r3, toNat_cast, e2]
    simp (disch := omega) only [br_pos, br_neg, br_bne_pos, br_bne_neg, br_beq_pos, br_beq_neg, br_not, br_tt, br_ff, i64w]
    exact hn
  · simp only [P.slices_Concat_byte_r3]
    rw [br_neg (by omega), joined_all, slices_Grow_byte _ h2, P.slices_Concat_byte_l11_eq]
    unfold P.slices_Concat_byte_L11
    refine lp_up (fun i => (l, (l.length : Int), (i : Int), joined l i)) l.length (fun i hi next hn => ?_) (fun next => ?_) (Nat.zero_le _) (by omega)
    · have e := joined_succ l i hi
      have h3 := joined_le l (i + 1)
      rw [e, List.length_append] at h3
      simp only [P.slices_Concat_byte_r11, toNat_cast]
      simp (disch := omega) only [br_pos, br_neg, br_bne_pos, br_bne_neg, br_beq_pos, br_beq_neg, br_not, br_tt, br_ff, i64w]
      rw [← e]
      exact hn
    · simp only [P.slices_Concat_byte_r11]
      rw [br_neg (by omega), joined_all]

theorem bits_Join (l : List (List Int)) (h : l.length ≤ 140737488355328) (h2 : l.flatten.length ≤ 140737488355328) {ρ : Type} (k : List Int → Option ρ) : P.bits_Join l k = k l.flatten := by
  rw [P.bits_Join_eq]
  unfold P.bits_Join_raw
  exact slices_Concat_byte l h h2 k
end Q
end

section
open Go Go.Abs
set_option linter.unusedVariables false
namespace P
noncomputable def R14_Kind_raw {ρ : Type} (a0 : Int) (k : Int → Int → Int → Option ρ) : Option ρ :=
  br (a0 == (1 : Int)) (k (265 : Int) (7 : Int) (1 : Int))
    (br (a0 == (2 : Int)) (k (133 : Int) (6 : Int) (2 : Int))
      (br (a0 == (4 : Int)) (k (67 : Int) (4 : Int) (3 : Int))
        (br (a0 == (8 : Int)) (k (34 : Int) (0 : Int) (4 : Int)) (k (0 : Int) (0 : Int) (0 : Int)))))
noncomputable def R14_Kind {ρ : Type} (a0 : Int) (k : Int → Int → Int → Option ρ) : Option ρ := shut (R14_Kind_raw (ρ := ρ)) a0 k
theorem R14_Kind_eq {ρ : Type} (a0 : Int) (k : Int → Int → Int → Option ρ) : R14_Kind a0 k = R14_Kind_raw a0 k := by unfold R14_Kind; rw [shut_eq]

end P
end

section
open Go Go.Abs
set_option linter.unusedVariables false
namespace P
noncomputable def R14_Digits_r9 {ρ : Type} (v0 : Int) (v1 : List Int) (v6 : Int) (v7 : Int) (v10 : Int) (v11 : Int) (h0 : List Int) (nx : Int → (List Int) → Int → Int → Int → Int → (List Int) → Option ρ) (k0 : Int → (List Int) → Int → Int → Int → Int → (List Int) → Option ρ) : Option ρ :=
  br (decide (v11 < (↑h0.length : Int)))
    (br (decide (v0 < (0 : Int))) none
      (br (decide ((0 : Int) ≤ v11))
        (br (decide (v11 < (↑h0.length : Int)))
          (nx v0 v1 v6 v7
            (IntKind.u64.wrap
              (IntKind.u64.wrap
                  (v10 +
                    IntKind.u64.wrap (IntKind.u64.wrap ((1 : Int) * (2 : Int) ^ min v0.toNat 64) - (1 : Int))) -
                IntKind.u64.wrap (h0.getD v11.toNat (0 : Int))))
            (IntKind.i64.wrap (v11 + (1 : Int))) h0)
          none)
        none))
    (k0 v0 v1 v6 v7 v10 v11 h0)
noncomputable def R14_Digits_L9 {ρ : Type} (v0 : Int) (v1 : List Int) (v6 : Int) (v7 : Int) (v10 : Int) (v11 : Int) (h0 : List Int) (k0 : Int → (List Int) → Int → Int → Int → Int → (List Int) → Option ρ) : Option ρ :=
  lp (fun (x : Int × (List Int) × Int × Int × Int × Int × (List Int)) (next : (Int × (List Int) × Int × Int × Int × Int × (List Int)) → Option ρ) (ex : ((Int × (List Int) × Int × Int × Int × Int × (List Int))) → Option ρ) => R14_Digits_r9 x.1 x.2.1 x.2.2.1 x.2.2.2.1 x.2.2.2.2.1 x.2.2.2.2.2.1 x.2.2.2.2.2.2 (fun v0 v1 v6 v7 v10 v11 h0 => next (v0, v1, v6, v7, v10, v11, h0)) (fun v0 v1 v6 v7 v10 v11 h0 => ex ((v0, v1, v6, v7, v10, v11, h0)))) (v0, v1, v6, v7, v10, v11, h0) (fun x => k0 x.1 x.2.1 x.2.2.1 x.2.2.2.1 x.2.2.2.2.1 x.2.2.2.2.2.1 x.2.2.2.2.2.2)
noncomputable def R14_Digits_l9 {ρ : Type} (v0 : Int) (v1 : List Int) (v6 : Int) (v7 : Int) (v10 : Int) (v11 : Int) (h0 : List Int) (k0 : Int → (List Int) → Int → Int → Int → Int → (List Int) → Option ρ) : Option ρ := shut (R14_Digits_L9 (ρ := ρ)) v0 v1 v6 v7 v10 v11 h0 k0
theorem R14_Digits_l9_eq {ρ : Type} (v0 : Int) (v1 : List Int) (v6 : Int) (v7 : Int) (v10 : Int) (v11 : Int) (h0 : List Int) (k0 : Int → (List Int) → Int → Int → Int → Int → (List Int) → Option ρ) : R14_Digits_l9 v0 v1 v6 v7 v10 v11 h0 k0 = R14_Digits_L9 v0 v1 v6 v7 v10 v11 h0 k0 := by unfold R14_Digits_l9; rw [shut_eq]
noncomputable def R14_Digits_raw {ρ : Type} (a0 : Int) (a1 : List Int) (k : (List Int) → Int → Option ρ) : Option ρ :=
  R14_Kind a0 fun (q0 q1 q2 : Int) =>
    br (q0 == (0 : Int)) (k [] (9 : Int))
      (br ((↑a1.length : Int) != (32 : Int)) (k [] (14 : Int))
        (br (decide (a0 = (0 : Int))) none
          (R01_Digits a1 a0 (IntKind.i64.wrap (Int.tdiv (256 : Int) a0)) fun (q3 : List Int) =>
            R14_Digits_l9 a0 a1 q0 q1 (0 : Int) (0 : Int) q3
              fun (q4 : Int) (q5 : List Int) (q6 q7 q8 q9 : Int) (q10 : List Int) =>
              br (decide (q7 < (0 : Int))) none
                (R01_Be (IntKind.u64.wrap (q8 * (2 : Int) ^ min q7.toNat 64)) (2 : Int)
                  fun (q11 : List Int) =>
                  R01_Join [q5, q11] fun (q12 : List Int) =>
                    R01_Digits q12 q4 q6 fun (q13 : List Int) => k q13 (0 : Int)))))
noncomputable def R14_Digits {ρ : Type} (a0 : Int) (a1 : List Int) (k : (List Int) → Int → Option ρ) : Option ρ := shut (R14_Digits_raw (ρ := ρ)) a0 a1 k
theorem R14_Digits_eq {ρ : Type} (a0 : Int) (a1 : List Int) (k : (List Int) → Int → Option ρ) : R14_Digits a0 a1 k = R14_Digits_raw a0 a1 k := by unfold R14_Digits; rw [shut_eq]

end P
end

section
open Go Go.Abs
set_option linter.unusedVariables false
namespace P
noncomputable def R14_Size_raw {ρ : Type} (a0 : Int) (k : Int → Option ρ) : Option ρ :=
  R14_Kind a0 fun (q0 q1 q2 : Int) =>
    br (q0 == (0 : Int)) (k (0 : Int)) (k (IntKind.i64.wrap ((36 : Int) + IntKind.i64.wrap ((32 : Int) * q0))))
noncomputable def R14_Size {ρ : Type} (a0 : Int) (k : Int → Option ρ) : Option ρ := shut (R14_Size_raw (ρ := ρ)) a0 k
theorem R14_Size_eq {ρ : Type} (a0 : Int) (k : Int → Option ρ) : R14_Size a0 k = R14_Size_raw a0 k := by unfold R14_Size; rw [shut_eq]

end P
end

section
/- lmots: digits. -/
namespace Q
open Go Go.Abs
set_option linter.unusedVariables false
set_option linter.unusedSimpArgs false

theorem R01_Be (N s : Nat) (hN : N < 18446744073709551616) (hs : s ≤ 65536) {ρ : Type} (k : List Int → Option ρ) : P.R01_Be (N : Int) (s : Int) k = k (bsw 8 s N).reverse := by
  rw [P.R01_Be_eq]
  unfold P.R01_Be_raw
  simp only [toNat_cast]
  simp (disch := omega) only [br_pos, br_neg, br_bne_pos, br_bne_neg, br_beq_pos, br_beq_neg, br_not, br_tt, br_ff, i64w]
  rw [P.R01_Be_l5_eq]
  unfold P.R01_Be_L5
  refine lp_go (fun j => (((N / 2 ^ (8 * j) : Nat) : Int), (s : Int) - 1 - (j : Int), List.replicate (s - j) 0 ++ (bsw 8 j N).reverse)) s (by simp [bsw]) (fun j hj next hn' => ?_) (fun next => ?_) (by omega)
  · simp only [P.R01_Be_r5, List.length_append, List.length_replicate, List.length_reverse, bsw_length]
    rw [show (s : Int) - 1 - (j : Int) = ((s - 1 - j : Nat) : Int) by omega]
    simp only [toNat_cast]
    have hd := Nat.div_le_self N (2 ^ (8 * j))
    have hb : bits .and .u64 ((N / 2 ^ (8 * j) : Nat) : Int) 255 = ((N / 2 ^ (8 * j) % 2 ^ 8 : Nat) : Int) := by
      rw [show (255 : Int) = ((2 ^ 8 - 1 : Nat) : Int) from rfl, and_u64 _ _ (by omega) (by omega), Nat.and_two_pow_sub_one_eq_mod]
    have hd2 : (((N / 2 ^ (8 * j) : Nat) : Int)).fdiv ((2 : Int) ^ 8) = ((N / 2 ^ (8 * (j + 1)) : Nat) : Int) := by
      rw [show ((2 : Int) ^ 8) = (2 : Int) ^ min 8 8 from rfl, fdiv_pow _ 8 8 (by omega), Nat.div_div_eq_div_mul, ← Nat.pow_add, Nat.mul_succ]
    rw [hb, hd2, u8n _ (by omega)]
    rw [bsw_succ, List.reverse_append, List.reverse_singleton, List.singleton_append] at hn'
    have hset : (List.replicate (s - j) (0 : Int) ++ (bsw 8 j N).reverse).set (s - 1 - j) ((N / 2 ^ (8 * j) % 2 ^ 8 : Nat) : Int) = List.replicate (s - (j + 1)) 0 ++ ((N / 2 ^ (8 * j) % 2 ^ 8 : Nat) : Int) :: (bsw 8 j N).reverse := by
      rw [show s - j = (s - (j + 1)) + 1 by omega, List.replicate_succ', List.append_assoc, List.set_append_right _ _ (by simp; omega), List.length_replicate, show s - 1 - j - (s - (j + 1)) = 0 by omega]
      rfl
    rw [hset]
    simp (disch := omega) only [br_pos, br_neg, br_bne_pos, br_bne_neg, br_beq_pos, br_beq_neg, br_not, br_tt, br_ff, i64w]
    rw [show ((s - 1 - j : Nat) : Int) - 1 = (s : Int) - 1 - ((j + 1 : Nat) : Int) by omega]
    exact hn'
  · simp only [P.R01_Be_r5]
    rw [br_neg (by omega), Nat.sub_self]; rfl

/-- the kinds: numbers, spare bits -/
def Kind (w p s : Nat) : Prop := (w = 1 ∧ p = 265 ∧ s = 7) ∨ (w = 2 ∧ p = 133 ∧ s = 6) ∨ (w = 4 ∧ p = 67 ∧ s = 4) ∨ (w = 8 ∧ p = 34 ∧ s = 0)
/-- the sum of the first digits -/
def sumTo (D : List Int) : Nat → Nat
  | 0 => 0
  | i + 1 => sumTo D i + (D.getD i 0).toNat
theorem sumTo_le (D : List Int) (w : Nat) (h : In (2 ^ w) D) : ∀ i, sumTo D i ≤ i * (2 ^ w - 1)
  | 0 => by simp [sumTo]
  | i + 1 => by
    have ih := sumTo_le D w h i
    have hp : ((2 : Int) ^ w) = ((2 ^ w : Nat) : Int) := by simp
    have := h.getD i (by rw [hp]; have := p2 w; omega)
    rw [hp] at this
    rw [Nat.succ_mul]; simp only [sumTo]; omega

theorem digits_in (b : List Int) (w c : Int) : In (2 ^ w.toNat) (digitsS b w c) := by
  unfold digitsS
  split
  · refine In.map (fun i _ => ⟨Int.natCast_nonneg _, ?_⟩)
    have := Nat.mod_lt (T 8 b.reverse / 2 ^ (8 * b.length - w.toNat * (i + 1))) (p2 w.toNat)
    have hp : ((2 : Int) ^ w.toNat) = ((2 ^ w.toNat : Nat) : Int) := by simp
    rw [hp]; unfold dg; omega
  · exact In.nil

/-- what the sum leaves -/
def left (w s : Nat) (b : List Int) : Nat := ((256 / w) * (2 ^ w - 1) - sumTo (digitsS b w ((256 / w : Nat) : Int)) (256 / w)) * 2 ^ s
/-- all digits -/
def allD (w p s : Nat) (b : List Int) : List Int := digitsS (b ++ (bsw 8 2 (left w s b)).reverse) w p

theorem kind_facts {w p s : Nat} (h : Kind w p s) : 1 ≤ w ∧ w ≤ 8 ∧ (256 / w) * w = 256 ∧ 256 / w ≤ p ∧ w * p = 272 - s ∧ s ≤ 7 ∧ (256 / w) * (2 ^ w - 1) * 2 ^ s < 65536 ∧ p ≤ 265 ∧ 2 ^ w ≤ 256 ∧ 2 ^ s ≤ 128 ∧ (256 / w) * (2 ^ w - 1) < 65536 := by
  rcases h with ⟨rfl, rfl, rfl⟩ | ⟨rfl, rfl, rfl⟩ | ⟨rfl, rfl, rfl⟩ | ⟨rfl, rfl, rfl⟩ <;> decide

theorem left_lt {w p s : Nat} (h : Kind w p s) (b : List Int) : left w s b < 65536 := by
  have f := kind_facts h
  unfold left
  have : ((256 / w) * (2 ^ w - 1) - sumTo (digitsS b w ((256 / w : Nat) : Int)) (256 / w)) * 2 ^ s ≤ (256 / w) * (2 ^ w - 1) * 2 ^ s := Nat.mul_le_mul (by omega) (Nat.le_refl _)
  omega

theorem digits_map (b : List Int) (w c : Nat) (h1 : 1 ≤ w) (h2 : w ≤ 24) (h : c * w ≤ b.length * 8) : digitsS b (w : Int) (c : Int) = (List.range c).map (dg w b.length (T 8 b.reverse)) := by
  unfold digitsS
  rw [if_pos (by refine ⟨by omega, by omega, by omega, ?_⟩; rw [← Int.natCast_mul]; omega)]
  simp only [toNat_cast]

/-- the digits of two texts: the one's, then the other's -/
theorem digits_app {w p s : Nat} (hk : Kind w p s) (b e : List Int) (hb : b.length = 32) (he : e.length = 2) :
    digitsS (b ++ e) w p = digitsS b w ((256 / w : Nat) : Int) ++ digitsS e w ((p - 256 / w : Nat) : Int) := by
  obtain ⟨f1, f2, f3, f4, f5, f6, f7, f8, f9, f10, f11⟩ := kind_facts hk
  have hpw : p * w = 272 - s := by rw [Nat.mul_comm]; exact f5
  rw [digits_map _ w p f1 (by omega) (by rw [List.length_append]; omega), digits_map _ w _ f1 (by omega) (by omega), digits_map _ w _ f1 (by omega) (by rw [Nat.sub_mul]; omega)]
  rw [show p = 256 / w + (p - 256 / w) by omega, List.range_add, List.map_append, List.map_map, show 256 / w + (p - 256 / w) - 256 / w = p - 256 / w by omega]
  have hT : T 8 (b ++ e).reverse = T 8 e.reverse + 2 ^ 16 * T 8 b.reverse := by
    rw [List.reverse_append, T_append, List.length_reverse, he]
  have hlt := T_lt 8 e.reverse
  rw [List.length_reverse, he] at hlt
  congr 1
  · refine List.map_congr_left (fun i hi => ?_)
    have hi := List.mem_range.1 hi
    have : w * (i + 1) ≤ w * (256 / w) := Nat.mul_le_mul (Nat.le_refl _) hi
    rw [Nat.mul_comm w (256 / w), f3] at this
    unfold dg
    rw [hT, List.length_append, hb, he, show 8 * (32 + 2) - w * (i + 1) = 16 + (8 * 32 - w * (i + 1)) by omega, Nat.pow_add, ← Nat.div_div_eq_div_mul, Nat.add_mul_div_left _ _ (p2 _), Nat.div_eq_of_lt hlt, Nat.zero_add]
  · refine List.map_congr_left (fun j hj => ?_)
    have hj := List.mem_range.1 hj
    have h3 : w * (256 / w + (j + 1)) ≤ w * p := Nat.mul_le_mul (Nat.le_refl _) (by omega)
    rw [Nat.mul_add, Nat.mul_comm w (256 / w), f3] at h3
    simp only [Function.comp]
    unfold dg
    rw [hT, List.length_append, hb, he, Nat.add_assoc, Nat.mul_add w (256 / w) (j + 1), Nat.mul_comm w (256 / w), f3, show 8 * (32 + 2) - (256 + w * (j + 1)) = 8 * 2 - w * (j + 1) by omega]
    congr 1
    rw [← piece_mod (T 8 e.reverse + 2 ^ 16 * T 8 b.reverse) (8 * 2 - w * (j + 1)) w 16 (by have h4 : w * (j + 1) = w * j + w := Nat.mul_succ w j; omega), Nat.add_mul_mod_self_left, Nat.mod_eq_of_lt hlt]
end Q
end

section
/- SHA-2: blocks one behind the other, words of 32 bits. -/
namespace Q
open Go Go.Abs
set_option linter.unusedVariables false
set_option linter.unusedSimpArgs false

/-- words behind so many blocks -/
def thr {w : Nat} (p : Par w) (v : List (BitVec w)) (b : List Int) : Nat → List (BitVec w)
  | 0 => v
  | i + 1 => blockB p (thr p v b i) ((b.drop ((2 * w) * i)).take (2 * w))
theorem thr_len {w : Nat} (p : Par w) (v : List (BitVec w)) (hv : v.length = 8) (b : List Int) : ∀ i, (thr p v b i).length = 8
  | 0 => hv
  | i + 1 => blockB_len _ _ _
def toV (w : Nat) (l : List Int) : List (BitVec w) := (List.range 8).map fun i => BitVec.ofInt w (l.getD i 0)
theorem toV_len (w : Nat) (l : List Int) : (toV w l).length = 8 := by simp [toV]
theorem cv_toV (w : Nat) (l : List Int) (hl : l.length = 8) (hi : In (2 ^ w) l) : cv (toV w l) = l := by
  unfold cv toV
  rw [List.map_map]
  refine List.ext_getElem (by simp [hl]) (fun i h1 h2 => ?_)
  have hp : ((2 : Int) ^ w) = ((2 ^ w : Nat) : Int) := by simp
  have := hi.getD i (by rw [hp]; have := p2 w; omega)
  rw [getD_lt h2] at this
  simp only [List.getElem_map, List.getElem_range, Function.comp, getD_lt h2, BitVec.toNat_ofInt]
  rw [hp] at this
  rw [Int.emod_eq_of_lt this.1 this.2]
  omega
theorem cv_in {w : Nat} (l : List (BitVec w)) : In (2 ^ w) (cv l) := by
  intro x hx
  obtain ⟨y, _, rfl⟩ := List.mem_map.1 hx
  have := y.isLt
  have hp : ((2 : Int) ^ w) = ((2 ^ w : Nat) : Int) := by simp
  rw [hp]
  omega
theorem toV_cv {w : Nat} (l : List (BitVec w)) (hl : l.length = 8) : toV w (cv l) = l := by
  unfold toV
  refine List.ext_getElem (by simp [hl]) (fun i h1 h2 => ?_)
  simp only [List.getElem_map, List.getElem_range, cv_getD, ofI, getD_lt h2]
theorem ofInt_toNat32 (x : Int) : IntKind.u32.wrap x = ((BitVec.ofInt 32 x).toNat : Int) := by
  rw [u32m, BitVec.toNat_ofInt]; omega
theorem ofInt_toNat64 (x : Int) : IntKind.u64.wrap x = ((BitVec.ofInt 64 x).toNat : Int) := by
  rw [u64m, BitVec.toNat_ofInt]; omega
theorem wrapN (n : Nat) (h : n < 18446744073709551616) : IntKind.u64.wrap (n : Int) = (n : Int) := u64n n h
/-- what is left of bytes behind whole blocks -/
def rest (n : Nat) (b : List Int) : List Int := b.drop (n * (b.length / n))

theorem t32_l3 (words b : List Int) (rd : Int) (t0 t1 t2 t3 h1 h2 : List Int) (hi : In 18446744073709551616 words) {ρ : Type} (k0 : List Int → List Int → Int → Int → Int → List Int → List Int → List Int → List Int → List Int → List Int → List Int → Option ρ) :
    P.sha_through_uint32_l3 b words 0 32 rd t0 t1 t2 t3 h1 h2 (List.replicate 8 0) k0 = k0 b words 8 32 rd t0 t1 t2 t3 h1 h2 (cv (toV 32 words)) := by
  rw [P.sha_through_uint32_l3_eq]
  unfold P.sha_through_uint32_L3
  refine lp_go (fun i => (b, words, (i : Int), 32, rd, t0, t1, t2, t3, h1, h2, cv ((List.range i).map fun i => BitVec.ofInt 32 (words.getD i 0)) ++ List.replicate (8 - i) 0)) 8 (by simp [cv]) (fun i hi' next hn' => ?_) (fun next => ?_) (by omega)
  · simp only [P.sha_through_uint32_r3, toNat_cast]
    have e4 : IntKind.i64.wrap ((i : Int) + 1) = ((i + 1 : Nat) : Int) := by rw [i64w (by omega) (by omega)]; omega
    have e5 : (cv ((List.range i).map fun i => BitVec.ofInt 32 (words.getD i 0)) ++ List.replicate (8 - i) (0 : Int)).set i ((BitVec.ofInt 32 (words.getD i 0)).toNat : Int) = cv ((List.range (i + 1)).map fun i => BitVec.ofInt 32 (words.getD i 0)) ++ List.replicate (8 - (i + 1)) 0 := by
      rw [List.set_append_right _ _ (by simp), cv_length, List.length_map, List.length_range, Nat.sub_self, show 8 - i = (8 - (i + 1)) + 1 by omega, List.replicate_succ, List.set_cons_zero, List.range_succ, List.map_append, ← cv_append, List.append_assoc]
      rfl
    rw [br_pos (by omega), br_pos (by omega), br_pos (by omega), br_pos (by omega), br_pos (by omega), ofInt_toNat32, e5, e4]
    exact hn'
  · simp only [P.sha_through_uint32_r3]
    rw [br_neg (by omega)]
    simp [toV]

theorem t32_l8 (v : List (BitVec 32)) (hv : v.length = 8) (b : List Int) (hb : In 256 b) (hn : b.length ≤ 1000000) (h1 h2 : List Int) {ρ : Type} (k0 : List Int → Int → List Int → List Int → List Int → Int → Int → List Int → List Int → List Int → List Int → Option ρ) :
    P.sha_through_uint32_l8 b 64 (cv v) h2 h1 32 64 [7, 18, 3] [17, 19, 10] [2, 13, 22] [6, 11, 25] k0 =
      k0 (rest 64 b) 64 (cv (thr p32 v b (b.length / 64))) h2 h1 32 64 [7, 18, 3] [17, 19, 10] [2, 13, 22] [6, 11, 25] := by
  rw [P.sha_through_uint32_l8_eq]
  unfold P.sha_through_uint32_L8
  refine lp_go (fun i => (b.drop (64 * i), 64, cv (thr p32 v b i), h2, h1, 32, 64, [7, 18, 3], [17, 19, 10], [2, 13, 22], [6, 11, 25])) (b.length / 64) (by simp [thr]) (fun i hi next hn' => ?_) (fun next => ?_) (by omega)
  · simp only [P.sha_through_uint32_r8]
    have hlen : (b.drop (64 * i)).length = b.length - 64 * i := by simp
    have hge : 64 ≤ b.length - 64 * i := by omega
    simp only [hlen, show (64 : Int).toNat = 64 from rfl, toNat_cast, List.drop_zero]
    have hbl : ((b.drop (64 * i)).take 64).length = 16 * 4 := by rw [List.length_take, hlen]; omega
    rw [br_pos (by omega), br_pos (by omega), br_pos (by omega), e32_block _ (thr_len _ _ hv _ _) _ ((hb.drop _).take _) hbl, br_pos (by omega), br_pos (by omega), br_pos (by omega),
      List.take_of_length_le (by rw [hlen]; omega), List.drop_drop, show 64 * i + 64 = 64 * (i + 1) by omega]
    exact hn'
  · simp only [P.sha_through_uint32_r8]
    have hlen : (b.drop (64 * (b.length / 64))).length = b.length - 64 * (b.length / 64) := by simp
    rw [br_neg (by rw [hlen]; omega)]
    rfl

theorem t32_l12 (v : List (BitVec 32)) (hv : v.length = 8) (b : List Int) (words h2 : List Int) (hl : words.length = 8) {ρ : Type} (k0 : List Int → List Int → Int → List Int → List Int → Option ρ) :
    P.sha_through_uint32_l12 b (cv v) 0 words h2 k0 = k0 b (cv v) 8 (cv v) h2 := by
  rw [P.sha_through_uint32_l12_eq]
  unfold P.sha_through_uint32_L12
  refine lp_go (fun i => (b, cv v, (i : Int), (cv v).take i ++ words.drop i, h2)) 8 (by simp) (fun i hi next hn' => ?_) (fun next => ?_) (by omega)
  · simp only [P.sha_through_uint32_r12, toNat_cast]
    have e4 : IntKind.i64.wrap ((i : Int) + 1) = ((i + 1 : Nat) : Int) := by rw [i64w (by omega) (by omega)]; omega
    have e5 : ((cv v).take i ++ words.drop i).set i ((cv v).getD i 0) = (cv v).take (i + 1) ++ words.drop (i + 1) := by
      rw [List.set_append_right _ _ (by rw [List.length_take]; omega), List.length_take, cv_length, hv, Nat.min_eq_left (by omega), Nat.sub_self, List.drop_eq_getElem_cons (by omega), List.set_cons_zero, ← take_step (cv v) 0 i (by rw [cv_length]; omega), List.append_assoc]
      rfl
    have e6 : IntKind.u64.wrap ((cv v).getD i 0) = (cv v).getD i 0 := by
      rw [cv_getD]; exact u64n _ (nlt _)
    rw [br_pos (by omega), br_pos (by omega), br_pos (by omega), br_pos (by omega), br_pos (by omega), e6, e5, e4]
    exact hn'
  · simp only [P.sha_through_uint32_r12]
    rw [br_neg (by omega), List.drop_eq_nil_of_le (by omega), List.append_nil, List.take_of_length_le (by rw [cv_length]; omega)]
    rfl

theorem t32_through (words b : List Int) (hl : words.length = 8) (hi : In 18446744073709551616 words) (hb : In 256 b) (hn : b.length ≤ 1000000) {ρ : Type} (k : List Int → List Int → Option ρ) :
    P.sha_through_uint32 32 64 [7, 18, 3] [17, 19, 10] [2, 13, 22] [6, 11, 25] words b k = k (cv (thr p32 (toV 32 words) b (b.length / 64))) (rest 64 b) := by
  rw [P.sha_through_uint32_eq]
  unfold P.sha_through_uint32_raw
  refine (t32_l3 words b 64 [7, 18, 3] [17, 19, 10] [2, 13, 22] [6, 11, 25] words (List.replicate 8 0) hi _).trans ?_
  rw [show IntKind.i64.wrap ((32 : Int) * 2) = 64 from rfl, t32_l8 _ (toV_len _ _) b hb hn, t32_l12 _ (thr_len _ _ (toV_len _ _) _ _) _ _ _ hl]

theorem r32_l4 (v : List (BitVec 32)) (hv : v.length = 8) (b : List Int) (hb : In 256 b) (hn : b.length ≤ 1000000) (kd : Int) (tl : List Int) (sz : Int) (a1 : Int) (a2 : List Int) (a3 : Int) {ρ : Type} (k0 : Int → List Int → Int → List Int → List Int → Int → Int → List Int → Int → Option ρ) :
    P.R07_Add_l4 64 b kd (cv v) tl sz a1 a2 a3 k0 = k0 64 (rest 64 b) kd (cv (thr p32 v b (b.length / 64))) tl sz a1 a2 a3 := by
  rw [P.R07_Add_l4_eq]
  unfold P.R07_Add_L4
  refine lp_go (fun i => (64, b.drop (64 * i), kd, cv (thr p32 v b i), tl, sz, a1, a2, a3)) (b.length / 64) (by simp [thr]) (fun i hi next hn' => ?_) (fun next => ?_) (by omega)
  · simp only [P.R07_Add_r4]
    have hlen : (b.drop (64 * i)).length = b.length - 64 * i := by simp
    have hge : 64 ≤ b.length - 64 * i := by omega
    simp only [hlen, show (64 : Int).toNat = 64 from rfl, toNat_cast, List.drop_zero]
    have hbl : ((b.drop (64 * i)).take 64).length = 16 * 4 := by rw [List.length_take, hlen]; omega
    rw [br_pos (by omega), br_pos (by omega), br_pos (by omega), show ((64 : Int) == 128) = false from rfl, r32_block _ (thr_len _ _ hv _ _) _ ((hb.drop _).take _) hbl, br_pos (by omega), br_pos (by omega), br_pos (by omega),
      List.take_of_length_le (by rw [hlen]; omega), List.drop_drop, show 64 * i + 64 = 64 * (i + 1) by omega]
    exact hn'
  · simp only [P.R07_Add_r4]
    have hlen : (b.drop (64 * (b.length / 64))).length = b.length - 64 * (b.length / 64) := by simp
    rw [br_neg (by rw [hlen]; omega)]
    rfl
end Q
end

section
/- SHA-2: blocks one behind the other, words of 64 bits. -/
namespace Q
open Go Go.Abs
set_option linter.unusedVariables false
set_option linter.unusedSimpArgs false


theorem t64_l3 (words b : List Int) (rd : Int) (t0 t1 t2 t3 h1 h2 : List Int) (hi : In 18446744073709551616 words) {ρ : Type} (k0 : List Int → List Int → Int → Int → Int → List Int → List Int → List Int → List Int → List Int → List Int → List Int → Option ρ) :
    P.sha_through_uint64_l3 b words 0 64 rd t0 t1 t2 t3 h1 h2 (List.replicate 8 0) k0 = k0 b words 8 64 rd t0 t1 t2 t3 h1 h2 (cv (toV 64 words)) := by
  rw [P.sha_through_uint64_l3_eq]
  unfold P.sha_through_uint64_L3
  refine lp_go (fun i => (b, words, (i : Int), 64, rd, t0, t1, t2, t3, h1, h2, cv ((List.range i).map fun i => BitVec.ofInt 64 (words.getD i 0)) ++ List.replicate (8 - i) 0)) 8 (by simp [cv]) (fun i hi' next hn' => ?_) (fun next => ?_) (by omega)
  · simp only [P.sha_through_uint64_r3, toNat_cast]
    have e4 : IntKind.i64.wrap ((i : Int) + 1) = ((i + 1 : Nat) : Int) := by rw [i64w (by omega) (by omega)]; omega
    have e6 : words.getD i 0 = ((BitVec.ofInt 64 (words.getD i 0)).toNat : Int) := by
      have := hi.getD i (by omega)
      rw [BitVec.toNat_ofInt]
      omega
    have e5 : (cv ((List.range i).map fun i => BitVec.ofInt 64 (words.getD i 0)) ++ List.replicate (8 - i) (0 : Int)).set i ((BitVec.ofInt 64 (words.getD i 0)).toNat : Int) = cv ((List.range (i + 1)).map fun i => BitVec.ofInt 64 (words.getD i 0)) ++ List.replicate (8 - (i + 1)) 0 := by
      rw [List.set_append_right _ _ (by simp), cv_length, List.length_map, List.length_range, Nat.sub_self, show 8 - i = (8 - (i + 1)) + 1 by omega, List.replicate_succ, List.set_cons_zero, List.range_succ, List.map_append, ← cv_append, List.append_assoc]
      rfl
    rw [br_pos (by omega), br_pos (by omega), br_pos (by omega), br_pos (by omega), br_pos (by omega), e6, e5, e4]
    exact hn'
  · simp only [P.sha_through_uint64_r3]
    rw [br_neg (by omega)]
    simp [toV]

theorem t64_l8 (v : List (BitVec 64)) (hv : v.length = 8) (b : List Int) (hb : In 256 b) (hn : b.length ≤ 1000000) (h1 h2 : List Int) {ρ : Type} (k0 : List Int → Int → List Int → List Int → List Int → Int → Int → List Int → List Int → List Int → List Int → Option ρ) :
    P.sha_through_uint64_l8 b 128 (cv v) h2 h1 64 80 [1, 8, 7] [19, 61, 6] [28, 34, 39] [14, 18, 41] k0 =
      k0 (rest 128 b) 128 (cv (thr p64 v b (b.length / 128))) h2 h1 64 80 [1, 8, 7] [19, 61, 6] [28, 34, 39] [14, 18, 41] := by
  rw [P.sha_through_uint64_l8_eq]
  unfold P.sha_through_uint64_L8
  refine lp_go (fun i => (b.drop (128 * i), 128, cv (thr p64 v b i), h2, h1, 64, 80, [1, 8, 7], [19, 61, 6], [28, 34, 39], [14, 18, 41])) (b.length / 128) (by simp [thr]) (fun i hi next hn' => ?_) (fun next => ?_) (by omega)
  · simp only [P.sha_through_uint64_r8]
    have hlen : (b.drop (128 * i)).length = b.length - 128 * i := by simp
    have hge : 128 ≤ b.length - 128 * i := by omega
    simp only [hlen, show (128 : Int).toNat = 128 from rfl, toNat_cast, List.drop_zero]
    have hbl : ((b.drop (128 * i)).take 128).length = 16 * 8 := by rw [List.length_take, hlen]; omega
    rw [br_pos (by omega), br_pos (by omega), br_pos (by omega), e64_block _ (thr_len _ _ hv _ _) _ ((hb.drop _).take _) hbl, br_pos (by omega), br_pos (by omega), br_pos (by omega),
      List.take_of_length_le (by rw [hlen]; omega), List.drop_drop, show 128 * i + 128 = 128 * (i + 1) by omega]
    exact hn'
  · simp only [P.sha_through_uint64_r8]
    have hlen : (b.drop (128 * (b.length / 128))).length = b.length - 128 * (b.length / 128) := by simp
    rw [br_neg (by rw [hlen]; omega)]
    rfl

theorem t64_l12 (v : List (BitVec 64)) (hv : v.length = 8) (b : List Int) (words h2 : List Int) (hl : words.length = 8) {ρ : Type} (k0 : List Int → List Int → Int → List Int → List Int → Option ρ) :
    P.sha_through_uint64_l12 b (cv v) 0 words h2 k0 = k0 b (cv v) 8 (cv v) h2 := by
  rw [P.sha_through_uint64_l12_eq]
  unfold P.sha_through_uint64_L12
  refine lp_go (fun i => (b, cv v, (i : Int), (cv v).take i ++ words.drop i, h2)) 8 (by simp) (fun i hi next hn' => ?_) (fun next => ?_) (by omega)
  · simp only [P.sha_through_uint64_r12, toNat_cast]
    have e4 : IntKind.i64.wrap ((i : Int) + 1) = ((i + 1 : Nat) : Int) := by rw [i64w (by omega) (by omega)]; omega
    have e5 : ((cv v).take i ++ words.drop i).set i ((cv v).getD i 0) = (cv v).take (i + 1) ++ words.drop (i + 1) := by
      rw [List.set_append_right _ _ (by rw [List.length_take]; omega), List.length_take, cv_length, hv, Nat.min_eq_left (by omega), Nat.sub_self, List.drop_eq_getElem_cons (by omega), List.set_cons_zero, ← take_step (cv v) 0 i (by rw [cv_length]; omega), List.append_assoc]
      rfl
    rw [br_pos (by omega), br_pos (by omega), br_pos (by omega), br_pos (by omega), br_pos (by omega), e5, e4]
    exact hn'
  · simp only [P.sha_through_uint64_r12]
    rw [br_neg (by omega), List.drop_eq_nil_of_le (by omega), List.append_nil, List.take_of_length_le (by rw [cv_length]; omega)]
    rfl

theorem t64_through (words b : List Int) (hl : words.length = 8) (hi : In 18446744073709551616 words) (hb : In 256 b) (hn : b.length ≤ 1000000) {ρ : Type} (k : List Int → List Int → Option ρ) :
    P.sha_through_uint64 64 80 [1, 8, 7] [19, 61, 6] [28, 34, 39] [14, 18, 41] words b k = k (cv (thr p64 (toV 64 words) b (b.length / 128))) (rest 128 b) := by
  rw [P.sha_through_uint64_eq]
  unfold P.sha_through_uint64_raw
  refine (t64_l3 words b 80 [1, 8, 7] [19, 61, 6] [28, 34, 39] [14, 18, 41] words (List.replicate 8 0) hi _).trans ?_
  rw [show IntKind.i64.wrap ((64 : Int) * 2) = 128 from rfl, t64_l8 _ (toV_len _ _) b hb hn, t64_l12 _ (thr_len _ _ (toV_len _ _) _ _) _ _ _ hl]

theorem r64_l4 (v : List (BitVec 64)) (hv : v.length = 8) (b : List Int) (hb : In 256 b) (hn : b.length ≤ 1000000) (kd : Int) (tl : List Int) (sz : Int) (a1 : Int) (a2 : List Int) (a3 : Int) {ρ : Type} (k0 : Int → List Int → Int → List Int → List Int → Int → Int → List Int → Int → Option ρ) :
    P.R07_Add_l4 128 b kd (cv v) tl sz a1 a2 a3 k0 = k0 128 (rest 128 b) kd (cv (thr p64 v b (b.length / 128))) tl sz a1 a2 a3 := by
  rw [P.R07_Add_l4_eq]
  unfold P.R07_Add_L4
  refine lp_go (fun i => (128, b.drop (128 * i), kd, cv (thr p64 v b i), tl, sz, a1, a2, a3)) (b.length / 128) (by simp [thr]) (fun i hi next hn' => ?_) (fun next => ?_) (by omega)
  · simp only [P.R07_Add_r4]
    have hlen : (b.drop (128 * i)).length = b.length - 128 * i := by simp
    have hge : 128 ≤ b.length - 128 * i := by omega
    simp only [hlen, show (128 : Int).toNat = 128 from rfl, toNat_cast, List.drop_zero]
    have hbl : ((b.drop (128 * i)).take 128).length = 16 * 8 := by rw [List.length_take, hlen]; omega
    rw [br_pos (by omega), br_pos (by omega), br_pos (by omega), show ((128 : Int) == 128) = true from rfl, r64_block _ (thr_len _ _ hv _ _) _ ((hb.drop _).take _) hbl, br_pos (by omega), br_pos (by omega), br_pos (by omega),
      List.take_of_length_le (by rw [hlen]; omega), List.drop_drop, show 128 * i + 128 = 128 * (i + 1) by omega]
    exact hn'
  · simp only [P.R07_Add_r4]
    have hlen : (b.drop (128 * (b.length / 128))).length = b.length - 128 * (b.length / 128) := by simp
    rw [br_neg (by rw [hlen]; omega)]
    rfl
end Q
end

section
open Go Go.Abs
set_option linter.unusedVariables false
namespace P
noncomputable def slices_Equal_byte_r4 {ρ : Type} (v0 : List Int) (v1 : List Int) (v12 : Int) (v13 : Int) (nx : (List Int) → (List Int) → Int → Int → Option ρ) (k0 : (List Int) → (List Int) → Int → Int → Option ρ) (k1 : Bool → Option ρ) : Option ρ :=
  br (decide (v13 < v12))
    (br (decide ((0 : Int) ≤ v13))
      (br (decide (v13 < (↑v0.length : Int)))
        (br (decide ((0 : Int) ≤ v13))
          (br (decide (v13 < (↑v1.length : Int)))
            (br (v0.getD v13.toNat (0 : Int) != v1.getD v13.toNat (0 : Int)) (k1 false)
              (nx v0 v1 v12 (IntKind.i64.wrap (v13 + (1 : Int)))))
            none)
          none)
        none)
      none)
    (k0 v0 v1 v12 v13)
noncomputable def slices_Equal_byte_L4 {ρ : Type} (v0 : List Int) (v1 : List Int) (v12 : Int) (v13 : Int) (k0 : (List Int) → (List Int) → Int → Int → Option ρ) (k1 : Bool → Option ρ) : Option ρ :=
  lp (fun (x : (List Int) × (List Int) × Int × Int) (next : ((List Int) × (List Int) × Int × Int) → Option ρ) (ex : (((List Int) × (List Int) × Int × Int) ⊕ ((Bool))) → Option ρ) => slices_Equal_byte_r4 x.1 x.2.1 x.2.2.1 x.2.2.2 (fun v0 v1 v12 v13 => next (v0, v1, v12, v13)) (fun v0 v1 v12 v13 => ex (.inl (v0, v1, v12, v13))) (fun v4 => ex (.inr v4))) (v0, v1, v12, v13) (Sum.elim (fun x => k0 x.1 x.2.1 x.2.2.1 x.2.2.2) (fun x => k1 x))
noncomputable def slices_Equal_byte_l4 {ρ : Type} (v0 : List Int) (v1 : List Int) (v12 : Int) (v13 : Int) (k0 : (List Int) → (List Int) → Int → Int → Option ρ) (k1 : Bool → Option ρ) : Option ρ := shut (slices_Equal_byte_L4 (ρ := ρ)) v0 v1 v12 v13 k0 k1
theorem slices_Equal_byte_l4_eq {ρ : Type} (v0 : List Int) (v1 : List Int) (v12 : Int) (v13 : Int) (k0 : (List Int) → (List Int) → Int → Int → Option ρ) (k1 : Bool → Option ρ) : slices_Equal_byte_l4 v0 v1 v12 v13 k0 k1 = slices_Equal_byte_L4 v0 v1 v12 v13 k0 k1 := by unfold slices_Equal_byte_l4; rw [shut_eq]
noncomputable def slices_Equal_byte_raw {ρ : Type} (a0 : List Int) (a1 : List Int) (k : Bool → Option ρ) : Option ρ :=
  br ((↑a0.length : Int) != (↑a1.length : Int)) (k false)
    (slices_Equal_byte_l4 a0 a1 (↑a0.length : Int) (0 : Int) (fun (q0 q1 : List Int) (q2 q3 : Int) => k true)
      fun (q4 : Bool) => k q4)
noncomputable def slices_Equal_byte {ρ : Type} (a0 : List Int) (a1 : List Int) (k : Bool → Option ρ) : Option ρ := shut (slices_Equal_byte_raw (ρ := ρ)) a0 a1 k
theorem slices_Equal_byte_eq {ρ : Type} (a0 : List Int) (a1 : List Int) (k : Bool → Option ρ) : slices_Equal_byte a0 a1 k = slices_Equal_byte_raw a0 a1 k := by unfold slices_Equal_byte; rw [shut_eq]

end P
end

section
/- Are two rows of bytes the same. -/
namespace Q
open Go Go.Abs
set_option linter.unusedVariables false
set_option linter.unusedSimpArgs false

theorem slices_Equal_byte (a b : List Int) (h : a.length ≤ 140737488355328) {ρ : Type} (k : Bool → Option ρ) : P.slices_Equal_byte a b k = k (decide (a = b)) := by
  rw [P.slices_Equal_byte_eq]
  unfold P.slices_Equal_byte_raw
  by_cases hl : a.length = b.length
  · rw [br_bne_neg (by omega), P.slices_Equal_byte_l4_eq]
    unfold P.slices_Equal_byte_L4
    refine lp_eq (P := fun x => ∃ j : Nat, x = (a, b, (a.length : Int), (j : Int)) ∧ j ≤ a.length ∧ (a.drop j = b.drop j ↔ a = b)) (μ := fun x => ((a.length : Int) - x.2.2.2).toNat) ?_ ⟨0, rfl, by omega, by simp⟩ (by simp only; omega)
    rintro _ ⟨j, rfl, hj, he⟩ next hn
    simp only [P.slices_Equal_byte_r4, toNat_cast, Sum.elim_inl, Sum.elim_inr]
    by_cases hji : j < a.length
    · rw [drop_step a 0 j hji, drop_step b 0 j (by omega), List.cons.injEq] at he
      by_cases hab : a.getD j 0 = b.getD j 0
      · simp (disch := omega) only [br_pos, br_neg, br_bne_pos, br_bne_neg, br_beq_pos, br_beq_neg, br_not, br_tt, br_ff, i64w]
        exact hn _ ⟨j + 1, rfl, by omega, by rw [← he]; exact ⟨fun h => ⟨hab, h⟩, fun h => h.2⟩⟩ (by simp only; omega)
      · simp (disch := omega) only [br_pos, br_neg, br_bne_pos, br_bne_neg, br_beq_pos, br_beq_neg, br_not, br_tt, br_ff, i64w]
        rw [decide_eq_false (fun e => hab (he.2 e).1)]
    · rw [br_neg (by omega), decide_eq_true (he.1 (by rw [List.drop_eq_nil_of_le (by omega), List.drop_eq_nil_of_le (by omega)]))]
  · rw [br_bne_pos (by omega), decide_eq_false (fun e => hl (by rw [e]))]
end Q
end

section
open Go Go.Abs
set_option linter.unusedVariables false
namespace P
noncomputable def sha_Fit_f1_raw {ρ : Type} (a0 : Int) (k : Bool → Option ρ) : Option ρ :=
  k (a0.fdiv ((2 : Int) ^ 32) != (0 : Int))
noncomputable def sha_Fit_f1 {ρ : Type} (a0 : Int) (k : Bool → Option ρ) : Option ρ := shut (sha_Fit_f1_raw (ρ := ρ)) a0 k
theorem sha_Fit_f1_eq {ρ : Type} (a0 : Int) (k : Bool → Option ρ) : sha_Fit_f1 a0 k = sha_Fit_f1_raw a0 k := by unfold sha_Fit_f1; rw [shut_eq]

end P
end

section
open Go Go.Abs
set_option linter.unusedVariables false
namespace P
noncomputable def sha_Fit_r2_2 {ρ : Type} (v7 : Int) (v8 : Int) (h0_0 : Int) (h0_1 : List Int) (h0_2 : List Int) (h0_3 : Int) (h1_0 : List Int) (nx : Int → Int → Int → (List Int) → (List Int) → Int → (List Int) → Option ρ) (k0 : Int → Int → Int → (List Int) → (List Int) → Int → (List Int) → Option ρ) (k1 : Int → Int → (List Int) → (List Int) → Int → (List Int) → Option ρ) : Option ρ :=
  br (decide (v8 < v7))
    (br (decide ((0 : Int) ≤ v8))
      (br (decide (v8 < (↑8 : Int)))
        (sha_Fit_f1 (h0_1.getD (0 + v8.toNat) (0 : Int)) fun (q0 : Bool) =>
          br q0 (k1 v8 h0_0 h0_1 h0_2 h0_3 h1_0) (nx v7 (IntKind.i64.wrap (v8 + (1 : Int))) h0_0 h0_1 h0_2 h0_3 h1_0))
        none)
      none)
    (k0 v7 v8 h0_0 h0_1 h0_2 h0_3 h1_0)
noncomputable def sha_Fit_L2_2 {ρ : Type} (v7 : Int) (v8 : Int) (h0_0 : Int) (h0_1 : List Int) (h0_2 : List Int) (h0_3 : Int) (h1_0 : List Int) (k0 : Int → Int → Int → (List Int) → (List Int) → Int → (List Int) → Option ρ) (k1 : Int → Int → (List Int) → (List Int) → Int → (List Int) → Option ρ) : Option ρ :=
  lp (fun (x : Int × Int × Int × (List Int) × (List Int) × Int × (List Int)) (next : (Int × Int × Int × (List Int) × (List Int) × Int × (List Int)) → Option ρ) (ex : ((Int × Int × Int × (List Int) × (List Int) × Int × (List Int)) ⊕ ((Int × Int × (List Int) × (List Int) × Int × (List Int)))) → Option ρ) => sha_Fit_r2_2 x.1 x.2.1 x.2.2.1 x.2.2.2.1 x.2.2.2.2.1 x.2.2.2.2.2.1 x.2.2.2.2.2.2 (fun v7 v8 h0_0 h0_1 h0_2 h0_3 h1_0 => next (v7, v8, h0_0, h0_1, h0_2, h0_3, h1_0)) (fun v7 v8 h0_0 h0_1 h0_2 h0_3 h1_0 => ex (.inl (v7, v8, h0_0, h0_1, h0_2, h0_3, h1_0))) (fun v4 h0_0 h0_1 h0_2 h0_3 h1_0 => ex (.inr (v4, h0_0, h0_1, h0_2, h0_3, h1_0)))) (v7, v8, h0_0, h0_1, h0_2, h0_3, h1_0) (Sum.elim (fun x => k0 x.1 x.2.1 x.2.2.1 x.2.2.2.1 x.2.2.2.2.1 x.2.2.2.2.2.1 x.2.2.2.2.2.2) (fun x => k1 x.1 x.2.1 x.2.2.1 x.2.2.2.1 x.2.2.2.2.1 x.2.2.2.2.2))
noncomputable def sha_Fit_l2_2 {ρ : Type} (v7 : Int) (v8 : Int) (h0_0 : Int) (h0_1 : List Int) (h0_2 : List Int) (h0_3 : Int) (h1_0 : List Int) (k0 : Int → Int → Int → (List Int) → (List Int) → Int → (List Int) → Option ρ) (k1 : Int → Int → (List Int) → (List Int) → Int → (List Int) → Option ρ) : Option ρ := shut (sha_Fit_L2_2 (ρ := ρ)) v7 v8 h0_0 h0_1 h0_2 h0_3 h1_0 k0 k1
theorem sha_Fit_l2_2_eq {ρ : Type} (v7 : Int) (v8 : Int) (h0_0 : Int) (h0_1 : List Int) (h0_2 : List Int) (h0_3 : Int) (h1_0 : List Int) (k0 : Int → Int → Int → (List Int) → (List Int) → Int → (List Int) → Option ρ) (k1 : Int → Int → (List Int) → (List Int) → Int → (List Int) → Option ρ) : sha_Fit_l2_2 v7 v8 h0_0 h0_1 h0_2 h0_3 h1_0 k0 k1 = sha_Fit_L2_2 v7 v8 h0_0 h0_1 h0_2 h0_3 h1_0 k0 k1 := by unfold sha_Fit_l2_2; rw [shut_eq]
noncomputable def sha_Fit_raw {ρ : Type} (a0_Kind : Int) (a0_Words : List Int) (a0_Tail : List Int) (a0_Size : Int) (k : Bool → Option ρ) : Option ρ :=
  sha_begin a0_Kind fun (q0 : List Int) (q1 : Bool) =>
    br (!q1) (k false)
      (br (decide (a0_Size ≥ (1152921504606846976 : Int))) (k false)
        (sha_blockSize a0_Kind fun (q2 : Int) =>
          br (decide (IntKind.u64.wrap q2 = (0 : Int))) none
            (br (IntKind.u64.wrap (↑a0_Tail.length : Int) != a0_Size.tmod (IntKind.u64.wrap q2)) (k false)
              (br (a0_Kind != (1 : Int)) (k true)
                (sha_Fit_l2_2 (↑8 : Int) (0 : Int) a0_Kind a0_Words a0_Tail a0_Size q0
                  (fun (q3 q4 q5 : Int) (q6 q7 : List Int) (q8 : Int) (q9 : List Int) =>
                    k !decide ((-1 : Int) ≥ (0 : Int)))
                  fun (q10 q11 : Int) (q12 q13 : List Int) (q14 : Int) (q15 : List Int) =>
                  k !decide (q10 ≥ (0 : Int)))))))
noncomputable def sha_Fit {ρ : Type} (a0_Kind : Int) (a0_Words : List Int) (a0_Tail : List Int) (a0_Size : Int) (k : Bool → Option ρ) : Option ρ := shut (sha_Fit_raw (ρ := ρ)) a0_Kind a0_Words a0_Tail a0_Size k
theorem sha_Fit_eq {ρ : Type} (a0_Kind : Int) (a0_Words : List Int) (a0_Tail : List Int) (a0_Size : Int) (k : Bool → Option ρ) : sha_Fit a0_Kind a0_Words a0_Tail a0_Size k = sha_Fit_raw a0_Kind a0_Words a0_Tail a0_Size k := by unfold sha_Fit; rw [shut_eq]

end P
end

section
open Go Go.Abs
set_option linter.unusedVariables false
namespace P
noncomputable def R07_Fit_r4 {ρ : Type} (v3 : Int) (h0_0 : Int) (h0_1 : List Int) (h0_2 : List Int) (h0_3 : Int) (nx : Int → Int → (List Int) → (List Int) → Int → Option ρ) (k0 : Int → Int → (List Int) → (List Int) → Int → Option ρ) (k1 : Bool → Int → (List Int) → (List Int) → Int → Option ρ) : Option ρ :=
  br (decide (v3 < (8 : Int)))
    (br (h0_0 == (1 : Int))
      (br (decide ((0 : Int) ≤ v3))
        (br (decide (v3 < (↑8 : Int)))
          (br (decide (h0_1.getD v3.toNat (0 : Int) ≥ (4294967296 : Int))) (k1 false h0_0 h0_1 h0_2 h0_3)
            (nx (IntKind.i64.wrap (v3 + (1 : Int))) h0_0 h0_1 h0_2 h0_3))
          none)
        none)
      (nx (IntKind.i64.wrap (v3 + (1 : Int))) h0_0 h0_1 h0_2 h0_3))
    (k0 v3 h0_0 h0_1 h0_2 h0_3)
noncomputable def R07_Fit_L4 {ρ : Type} (v3 : Int) (h0_0 : Int) (h0_1 : List Int) (h0_2 : List Int) (h0_3 : Int) (k0 : Int → Int → (List Int) → (List Int) → Int → Option ρ) (k1 : Bool → Int → (List Int) → (List Int) → Int → Option ρ) : Option ρ :=
  lp (fun (x : Int × Int × (List Int) × (List Int) × Int) (next : (Int × Int × (List Int) × (List Int) × Int) → Option ρ) (ex : ((Int × Int × (List Int) × (List Int) × Int) ⊕ ((Bool × Int × (List Int) × (List Int) × Int))) → Option ρ) => R07_Fit_r4 x.1 x.2.1 x.2.2.1 x.2.2.2.1 x.2.2.2.2 (fun v3 h0_0 h0_1 h0_2 h0_3 => next (v3, h0_0, h0_1, h0_2, h0_3)) (fun v3 h0_0 h0_1 h0_2 h0_3 => ex (.inl (v3, h0_0, h0_1, h0_2, h0_3))) (fun v2 h0_0 h0_1 h0_2 h0_3 => ex (.inr (v2, h0_0, h0_1, h0_2, h0_3)))) (v3, h0_0, h0_1, h0_2, h0_3) (Sum.elim (fun x => k0 x.1 x.2.1 x.2.2.1 x.2.2.2.1 x.2.2.2.2) (fun x => k1 x.1 x.2.1 x.2.2.1 x.2.2.2.1 x.2.2.2.2))
noncomputable def R07_Fit_l4 {ρ : Type} (v3 : Int) (h0_0 : Int) (h0_1 : List Int) (h0_2 : List Int) (h0_3 : Int) (k0 : Int → Int → (List Int) → (List Int) → Int → Option ρ) (k1 : Bool → Int → (List Int) → (List Int) → Int → Option ρ) : Option ρ := shut (R07_Fit_L4 (ρ := ρ)) v3 h0_0 h0_1 h0_2 h0_3 k0 k1
theorem R07_Fit_l4_eq {ρ : Type} (v3 : Int) (h0_0 : Int) (h0_1 : List Int) (h0_2 : List Int) (h0_3 : Int) (k0 : Int → Int → (List Int) → (List Int) → Int → Option ρ) (k1 : Bool → Int → (List Int) → (List Int) → Int → Option ρ) : R07_Fit_l4 v3 h0_0 h0_1 h0_2 h0_3 k0 k1 = R07_Fit_L4 v3 h0_0 h0_1 h0_2 h0_3 k0 k1 := by unfold R07_Fit_l4; rw [shut_eq]
noncomputable def R07_Fit_raw {ρ : Type} (a0_Kind : Int) (a0_Words : List Int) (a0_Tail : List Int) (a0_Size : Int) (k : Bool → Option ρ) : Option ρ :=
  br (decide (a0_Kind < (1 : Int))) (k false)
    (br (decide (a0_Kind > (3 : Int))) (k false)
      (br (decide (a0_Size ≥ (1152921504606846976 : Int))) (k false)
        (R07_Block a0_Kind fun (q0 : Int) =>
          br (decide (IntKind.u64.wrap q0 = (0 : Int))) none
            (br (IntKind.u64.wrap (↑a0_Tail.length : Int) != a0_Size.tmod (IntKind.u64.wrap q0)) (k false)
              (R07_Fit_l4 (0 : Int) a0_Kind a0_Words a0_Tail a0_Size
                (fun (q1 q2 : Int) (q3 q4 : List Int) (q5 : Int) => k true)
                fun (q6 : Bool) (q7 : Int) (q8 q9 : List Int) (q10 : Int) => k q6)))))
noncomputable def R07_Fit {ρ : Type} (a0_Kind : Int) (a0_Words : List Int) (a0_Tail : List Int) (a0_Size : Int) (k : Bool → Option ρ) : Option ρ := shut (R07_Fit_raw (ρ := ρ)) a0_Kind a0_Words a0_Tail a0_Size k
theorem R07_Fit_eq {ρ : Type} (a0_Kind : Int) (a0_Words : List Int) (a0_Tail : List Int) (a0_Size : Int) (k : Bool → Option ρ) : R07_Fit a0_Kind a0_Words a0_Tail a0_Size k = R07_Fit_raw a0_Kind a0_Words a0_Tail a0_Size k := by unfold R07_Fit; rw [shut_eq]

end P
end

section
open Go Go.Abs
set_option linter.unusedVariables false
namespace P
noncomputable def sha_Same_raw {ρ : Type} (a0_Kind : Int) (a0_Words : List Int) (a0_Tail : List Int) (a0_Size : Int) (a1_Kind : Int) (a1_Words : List Int) (a1_Tail : List Int) (a1_Size : Int) (k : Bool → Option ρ) : Option ρ :=
  br (a0_Kind == a1_Kind)
    (br (decide (a0_Words = a1_Words))
      (br (a0_Size == a1_Size) (slices_Equal_byte a0_Tail a1_Tail fun (q0 : Bool) => k q0) (k false)) (k false))
    (k false)
noncomputable def sha_Same {ρ : Type} (a0_Kind : Int) (a0_Words : List Int) (a0_Tail : List Int) (a0_Size : Int) (a1_Kind : Int) (a1_Words : List Int) (a1_Tail : List Int) (a1_Size : Int) (k : Bool → Option ρ) : Option ρ := shut (sha_Same_raw (ρ := ρ)) a0_Kind a0_Words a0_Tail a0_Size a1_Kind a1_Words a1_Tail a1_Size k
theorem sha_Same_eq {ρ : Type} (a0_Kind : Int) (a0_Words : List Int) (a0_Tail : List Int) (a0_Size : Int) (a1_Kind : Int) (a1_Words : List Int) (a1_Tail : List Int) (a1_Size : Int) (k : Bool → Option ρ) : sha_Same a0_Kind a0_Words a0_Tail a0_Size a1_Kind a1_Words a1_Tail a1_Size k = sha_Same_raw a0_Kind a0_Words a0_Tail a0_Size a1_Kind a1_Words a1_Tail a1_Size k := by unfold sha_Same; rw [shut_eq]

end P
end

section
open Go Go.Abs
set_option linter.unusedVariables false
namespace P
noncomputable def R07_Same_raw {ρ : Type} (a0_Kind : Int) (a0_Words : List Int) (a0_Tail : List Int) (a0_Size : Int) (a1_Kind : Int) (a1_Words : List Int) (a1_Tail : List Int) (a1_Size : Int) (k : Bool → Option ρ) : Option ρ :=
  br (a0_Kind == a1_Kind)
    (br (decide (a0_Words = a1_Words))
      (br (a0_Size == a1_Size) (R01_Same a0_Tail a1_Tail fun (q0 : Bool) => k q0) (k false)) (k false))
    (k false)
noncomputable def R07_Same {ρ : Type} (a0_Kind : Int) (a0_Words : List Int) (a0_Tail : List Int) (a0_Size : Int) (a1_Kind : Int) (a1_Words : List Int) (a1_Tail : List Int) (a1_Size : Int) (k : Bool → Option ρ) : Option ρ := shut (R07_Same_raw (ρ := ρ)) a0_Kind a0_Words a0_Tail a0_Size a1_Kind a1_Words a1_Tail a1_Size k
theorem R07_Same_eq {ρ : Type} (a0_Kind : Int) (a0_Words : List Int) (a0_Tail : List Int) (a0_Size : Int) (a1_Kind : Int) (a1_Words : List Int) (a1_Tail : List Int) (a1_Size : Int) (k : Bool → Option ρ) : R07_Same a0_Kind a0_Words a0_Tail a0_Size a1_Kind a1_Words a1_Tail a1_Size k = R07_Same_raw a0_Kind a0_Words a0_Tail a0_Size a1_Kind a1_Words a1_Tail a1_Size k := by unfold R07_Same; rw [shut_eq]

end P
end

section
/- SHA-2: sums that go on, and their ends. -/
namespace Q
open Go Go.Abs
set_option linter.unusedVariables false
set_option linter.unusedSimpArgs false

def bsz (kind : Int) : Nat := if kind = 1 then 64 else 128
theorem bsz_or (kind : Int) : (kind = 1 ∧ bsz kind = 64) ∨ (kind ≠ 1 ∧ bsz kind = 128) := by
  unfold bsz
  by_cases h : kind = 1
  · exact .inl ⟨h, if_pos h⟩
  · exact .inr ⟨h, if_neg h⟩
theorem sha_blockSize (kind : Int) {ρ : Type} (k : Int → Option ρ) : P.sha_blockSize kind k = k ((bsz kind : Nat) : Int) := by
  rw [P.sha_blockSize_eq]; unfold P.sha_blockSize_raw
  rcases bsz_or kind with ⟨h, e⟩ | ⟨h, e⟩
  · rw [br_beq_pos h, e]; rfl
  · rw [br_beq_neg h, e]; rfl
theorem R07_Block (kind : Int) {ρ : Type} (k : Int → Option ρ) : P.R07_Block kind k = k ((bsz kind : Nat) : Int) := by
  rw [P.R07_Block_eq]; unfold P.R07_Block_raw
  rcases bsz_or kind with ⟨h, e⟩ | ⟨h, e⟩
  · rw [br_beq_pos h, e]; rfl
  · rw [br_beq_neg h, e]; rfl

/-- words behind whole blocks -/
def addW (kind : Int) (words all : List Int) : List Int :=
  if kind = 1 then cv (thr p32 (toV 32 words) all (all.length / 64)) else cv (thr p64 (toV 64 words) all (all.length / 128))
theorem addW_len (kind : Int) (words all : List Int) : (addW kind words all).length = 8 := by
  unfold addW
  split <;> rw [cv_length, thr_len _ _ (toV_len _ _)]
/-- words that can be -/
def Wok (kind : Int) (words : List Int) : Prop := words.length = 8 ∧ In 18446744073709551616 words ∧ (kind = 1 → In 4294967296 words)
theorem addW_ok (kind : Int) (words all : List Int) : Wok kind (addW kind words all) := by
  refine ⟨addW_len _ _ _, ?_, fun h => ?_⟩
  · unfold addW
    split
    · intro x hx
      have := cv_in _ x hx
      omega
    · intro x hx
      have := cv_in _ x hx
      omega
  · unfold addW
    rw [if_pos h]
    intro x hx
    have := cv_in _ x hx
    omega
theorem rest_len (n : Nat) (hn : 0 < n) (b : List Int) : (rest n b).length = b.length % n := by
  unfold rest
  rw [List.length_drop]
  have := Nat.div_add_mod b.length n
  omega
theorem rest_in {n : Nat} {b : List Int} (h : In 256 b) : In 256 (rest n b) := h.drop _

theorem sha_small {ρ : Type} (k : Int → Int → List Int → List Int → List Int → List Int → Option ρ) : P.sha_small k = k 32 64 [7, 18, 3] [17, 19, 10] [2, 13, 22] [6, 11, 25] := by rw [P.sha_small_eq]; rfl
theorem sha_great {ρ : Type} (k : Int → Int → List Int → List Int → List Int → List Int → Option ρ) : P.sha_great k = k 64 80 [1, 8, 7] [19, 61, 6] [28, 34, 39] [14, 18, 41] := by rw [P.sha_great_eq]; rfl
theorem sha_Add (kind : Int) (words tail : List Int) (size : Int) (b : List Int) (hl : words.length = 8) (hi : In 18446744073709551616 words) (ht : In 256 tail) (hb : In 256 b) (hn : tail.length + b.length ≤ 1000000) {ρ : Type} (k : Int → List Int → List Int → Int → Option ρ) :
    P.sha_Add kind words tail size b k = k kind (addW kind words (tail ++ b)) (rest (bsz kind) (tail ++ b)) (IntKind.u64.wrap (size + IntKind.u64.wrap (b.length : Int))) := by
  rw [P.sha_Add_eq]; unfold P.sha_Add_raw
  have hf : [tail, b].flatten = tail ++ b := by simp
  have hall : (tail ++ b).length ≤ 1000000 := by rw [List.length_append]; exact hn
  have hin : In 256 (tail ++ b) := ht.app hb
  have hr : ∀ n, (rest n (tail ++ b)).length ≤ 1000000 := fun n => by unfold rest; rw [List.length_drop]; omega
  rw [slices_Concat_byte _ (by simp) (by rw [hf]; omega), hf]
  rcases bsz_or kind with ⟨h, e⟩ | ⟨h, e⟩
  · rw [br_beq_pos h, sha_small, e]
    rw [t32_through words _ hl hi hin hall]
    unfold P.slices_Clone_byte addW
    have := hr 64
    rw [br_pos (by omega), if_pos h]
  · rw [br_beq_neg h, sha_great, e]
    rw [t64_through words _ hl hi hin hall]
    unfold P.slices_Clone_byte addW
    have := hr 128
    rw [br_pos (by omega), if_neg h]

theorem R07_Add (kind : Int) (words tail : List Int) (size : Int) (b : List Int) (hw : Wok kind words) (ht : In 256 tail) (hb : In 256 b) (hn : tail.length + b.length ≤ 1000000) {ρ : Type} (k : Int → List Int → List Int → Int → Option ρ) :
    P.R07_Add kind words tail size b k = k kind (addW kind words (tail ++ b)) (rest (bsz kind) (tail ++ b)) (IntKind.u64.wrap (size + IntKind.u64.wrap (b.length : Int))) := by
  rw [P.R07_Add_eq]; unfold P.R07_Add_raw
  obtain ⟨hl, hi, h1⟩ := hw
  have hf : [tail, b].flatten = tail ++ b := by simp
  have hall : (tail ++ b).length ≤ 1000000 := by rw [List.length_append]; exact hn
  have hin : In 256 (tail ++ b) := ht.app hb
  rw [R07_Block, R01_Join _ (by simp) (by rw [hf]; omega), hf]
  rcases bsz_or kind with ⟨h, e⟩ | ⟨h, e⟩
  · have hv := cv_toV 32 words hl (h1 h)
    rw [e]
    conv => lhs; rw [← hv]
    rw [show ((64 : Nat) : Int) = 64 from rfl, r32_l4 _ (toV_len _ _) _ hin hall]
    unfold addW
    rw [if_pos h]
  · have hv := cv_toV 64 words hl hi
    rw [e]
    conv => lhs; rw [← hv]
    rw [show ((128 : Nat) : Int) = 128 from rfl, r64_l4 _ (toV_len _ _) _ hin hall]
    unfold addW
    rw [if_neg h]

/-- how many bytes of 0 fill a block up -/
def padZ (kind : Int) (tl : Nat) : Nat := if kind = 1 then (119 - tl) % 64 else (239 - tl) % 128 + 8
def pad (kind : Int) (tl : Nat) (size : Nat) : List Int := 128 :: List.replicate (padZ kind tl) 0 ++ (bsw 8 8 (size * 8 % 2 ^ 64)).reverse
def outI (n : Nat) (words : List Int) (i : Nat) : List Int := ((List.range i).map fun j => (bsw 8 n (words.getD j 0).toNat).reverse).flatten
theorem outI_succ (n : Nat) (words : List Int) (i : Nat) : outI n words (i + 1) = outI n words i ++ (bsw 8 n (words.getD i 0).toNat).reverse := by simp [outI, List.range_succ]
theorem outI_len (n : Nat) (words : List Int) : ∀ i, (outI n words i).length = n * i
  | 0 => by simp [outI]
  | i + 1 => by rw [outI_succ, List.length_append, outI_len n words i, List.length_reverse, bsw_length, Nat.mul_succ]
theorem outI_in (n : Nat) (words : List Int) : ∀ i, In 256 (outI n words i)
  | 0 => by simp [outI, In]
  | i + 1 => by rw [outI_succ]; exact (outI_in n words i).app (bsw_in 8 n _).rev
/-- the end of a sum -/
def endS (kind : Int) (words tail : List Int) (size : Nat) : List Int :=
  let o := outI (bsz kind / 16) (addW kind words (tail ++ pad kind tail.length size)) 8
  if kind = 2 then o.take 48 else o
theorem endS_in (kind : Int) (words tail : List Int) (size : Nat) : In 256 (endS kind words tail size) := by
  unfold endS
  simp only
  split
  · exact (outI_in _ _ _).take _
  · exact outI_in _ _ _
theorem endS_len (kind : Int) (words tail : List Int) (size : Nat) : (endS kind words tail size).length = if kind = 1 then 32 else if kind = 2 then 48 else 64 := by
  unfold endS
  simp only
  rcases bsz_or kind with ⟨h, e⟩ | ⟨h, e⟩
  · rw [if_neg (by omega), if_pos h, outI_len, e]
  · rw [if_neg h, e]
    split
    · rw [List.length_take, outI_len]; decide
    · rw [outI_len]

theorem tmN (a b : Nat) : ((a : Nat) : Int).tmod (b : Int) = ((a % b : Nat) : Int) := by
  rw [Int.tmod_eq_emod_of_nonneg (by omega)]; rfl
theorem pad_in (kind : Int) (tl size : Nat) : In 256 (pad kind tl size) := by
  unfold pad
  refine In.app ?_ (bsw_in 8 8 _).rev
  intro x hx
  rcases List.mem_cons.1 hx with rfl | hx
  · omega
  · rw [List.mem_replicate] at hx; omega
theorem pad_len (kind : Int) (tl size : Nat) : (pad kind tl size).length = padZ kind tl + 9 := by
  unfold pad; simp
theorem padZ_le (kind : Int) (tl : Nat) : padZ kind tl ≤ 200 := by
  unfold padZ; split <;> omega

theorem sha_outs (n : Nat) (hn : n = 64 ∨ n = 128) (words : List Int) (hw : In 18446744073709551616 words) (a : Int) (b : List Int) (c : Int) (d : List Int) {ρ : Type} (k0 : Int → List Int → Int → List Int → Int → List Int → Int → List Int → Option ρ) :
    P.sha_End_l10 (n : Int) words 0 [] a b c d k0 = k0 (n : Int) words 8 (outI (n / 16) words 8) a b c d := by
  rw [P.sha_End_l10_eq]
  unfold P.sha_End_L10
  have e16 : IntKind.i64.wrap ((n : Int).tdiv 16) = ((n / 16 : Nat) : Int) := by rcases hn with rfl | rfl <;> rfl
  refine lp_go (fun i => ((n : Int), words, (i : Int), outI (n / 16) words i, a, b, c, d)) 8 rfl (fun i hi next hn' => ?_) (fun next => ?_) (by omega)
  · simp only [P.sha_End_r10, toNat_cast]
    have h1 := hw.getD i (by omega)
    have e4 : IntKind.i64.wrap ((i : Int) + 1) = ((i + 1 : Nat) : Int) := by rw [i64w (by omega) (by omega)]; omega
    have e5 : words.getD i 0 = (((words.getD i 0).toNat : Nat) : Int) := by omega
    rw [outI_succ] at hn'
    rw [br_pos (by omega), br_pos (by omega), br_pos (by omega), e16, e5, bits_Be _ _ (by omega) (by omega), e4]
    rw [br_pos (by rw [outI_len, List.length_reverse, bsw_length]; rcases hn with rfl | rfl <;> omega)]
    exact hn'
  · simp only [P.sha_End_r10]
    rw [br_neg (by omega)]
    rfl

theorem shl3 (size : Nat) : IntKind.u64.wrap ((size : Int) * (2 : Int) ^ 3) = ((size * 8 % 2 ^ 64 : Nat) : Int) := by
  rw [u64m]; omega

theorem sha_End (kind : Int) (words tail : List Int) (size : Nat) (hl : words.length = 8) (hi : In 18446744073709551616 words) (ht : In 256 tail) (hn : tail.length < bsz kind) {ρ : Type} (k : List Int → Option ρ) :
    P.sha_End kind words tail (size : Int) k = k (endS kind words tail size) := by
  rw [P.sha_End_eq]; unfold P.sha_End_raw
  rw [sha_blockSize]
  have hz : IntKind.i64.wrap (IntKind.i64.wrap ((IntKind.i64.wrap (IntKind.i64.wrap (IntKind.i64.wrap (IntKind.i64.wrap ((2 : Int) * ((bsz kind : Nat) : Int)) - (1 : Int)) - IntKind.i64.wrap (((bsz kind : Nat) : Int).tdiv (8 : Int))) - (tail.length : Int))).tmod ((bsz kind : Nat) : Int) + IntKind.i64.wrap (((bsz kind : Nat) : Int).tdiv (8 : Int))) - (8 : Int)) = ((padZ kind tail.length : Nat) : Int) := by
    unfold padZ
    rcases bsz_or kind with ⟨h, e⟩ | ⟨h, e⟩
    · rw [e] at hn ⊢
      rw [if_pos h, show IntKind.i64.wrap (IntKind.i64.wrap (IntKind.i64.wrap ((2 : Int) * ((64 : Nat) : Int)) - (1 : Int)) - IntKind.i64.wrap (((64 : Nat) : Int).tdiv (8 : Int))) = 119 from rfl, i64w (x := (119 : Int) - (tail.length : Int)) (by omega) (by omega),
        show (119 : Int) - (tail.length : Int) = ((119 - tail.length : Nat) : Int) by omega, tmN, show IntKind.i64.wrap (((64 : Nat) : Int).tdiv (8 : Int)) = 8 from rfl, i64w (x := ((((119 - tail.length) % 64 : Nat) : Int)) + 8) (by omega) (by omega), i64w (by omega) (by omega)]
      omega
    · rw [e] at hn ⊢
      rw [if_neg h, show IntKind.i64.wrap (IntKind.i64.wrap (IntKind.i64.wrap ((2 : Int) * ((128 : Nat) : Int)) - (1 : Int)) - IntKind.i64.wrap (((128 : Nat) : Int).tdiv (8 : Int))) = 239 from rfl, i64w (x := (239 : Int) - (tail.length : Int)) (by omega) (by omega),
        show (239 : Int) - (tail.length : Int) = ((239 - tail.length : Nat) : Int) by omega, tmN, show IntKind.i64.wrap (((128 : Nat) : Int).tdiv (8 : Int)) = 16 from rfl, i64w (x := ((((239 - tail.length) % 128 : Nat) : Int)) + 16) (by omega) (by omega), i64w (by omega) (by omega)]
      omega
  have hb : bsz kind = 64 ∨ bsz kind = 128 := by rcases bsz_or kind with ⟨h, e⟩ | ⟨h, e⟩ <;> omega
  have hz2 := padZ_le kind tail.length
  rw [hz]
  simp only [toNat_cast]
  rw [br_pos (by omega), br_pos (by omega), br_neg (by omega), br_pos (by omega), br_pos (by omega), shl3, show (8 : Int) = ((8 : Nat) : Int) from rfl, bits_Be _ 8 (by omega) (by omega)]
  have hp : (List.replicate 1 (0 : Int)).set 0 (128 : Int) ++ List.replicate (padZ kind tail.length) (0 : Int) ++ (bsw 8 8 (size * 8 % 2 ^ 64)).reverse = pad kind tail.length size := rfl
  rw [br_pos (by
    show ((List.replicate (padZ kind tail.length) (0 : Int)).length + 0 + 1 + _) * 1 ≤ _
    rw [List.length_replicate, List.length_reverse, bsw_length]; omega), hp]
  have hpl := pad_len kind tail.length size
  rw [sha_Add kind words tail _ _ hl hi ht (pad_in _ _ _) (by omega), sha_outs _ hb _ (addW_ok _ _ _).2.1]
  unfold endS
  simp only
  by_cases h2 : kind = 2
  · have e : bsz kind = 128 := by unfold bsz; rw [if_neg (by omega)]
    rw [br_beq_pos h2, br_pos (by rw [outI_len, e]; omega), if_pos h2]
    rfl
  · rw [br_beq_neg h2, if_neg h2]

/-! the document's ends -/
theorem pads (n : Nat) (hn : n = 64 ∨ n = 128) (tl : Nat) (ht : tl < 200) (z m : Nat) (hm : m < n) (h1 : ∀ i, i < z → (tl + (1 + i)) % n ≠ m) (h2 : (tl + (1 + z)) % n = m) (hz : z ≤ 200) (c : Int) (kd : Int) (words tail : List Int) (size : Int) (hl : tail.length = tl) (d : Int) (hd : IntKind.i64.wrap ((n : Int) - d) = (m : Int)) :
    (d = 8 → ∀ {ρ : Type} (k0 : Int → Int → List Int → Int → List Int → List Int → Int → Option ρ), P.R07_End_l4 (n : Int) c [128] kd words tail size k0 = k0 (n : Int) c (128 :: List.replicate z 0) kd words tail size) ∧
    (d = 16 → ∀ {ρ : Type} (k0 : Int → Int → List Int → Int → List Int → List Int → Int → Option ρ), P.R07_End_l8 (n : Int) c [128] kd words tail size k0 = k0 (n : Int) c (128 :: List.replicate z 0) kd words tail size) := by
  have hlen : ∀ i : Nat, ((128 : Int) :: List.replicate i 0).length = 1 + i := fun i => by simp; omega
  have hc : ∀ i : Nat, i ≤ z → IntKind.i64.wrap (((tail.length : Nat) : Int) + ((((128 : Int) :: List.replicate i 0).length : Nat) : Int)) = ((tl + (1 + i) : Nat) : Int) := fun i hi => by
    rw [hlen, hl, i64w (by omega) (by omega)]; omega
  have hs : ∀ i : Nat, ((128 : Int) :: List.replicate i 0) ++ [(0 : Int)] = 128 :: List.replicate (i + 1) 0 := fun i => by
    rw [List.replicate_succ']; rfl
  constructor
  · rintro rfl ρ k0
    rw [P.R07_End_l4_eq]
    unfold P.R07_End_L4
    refine lp_go (fun i => ((n : Int), c, 128 :: List.replicate i 0, kd, words, tail, size)) z rfl (fun i hi next hn' => ?_) (fun next => ?_) (by omega)
    · simp only [P.R07_End_r4]
      have := h1 i hi
      rw [hc i (by omega), tmN, hd, br_neg (by omega), br_bne_pos (by omega), br_pos (by rw [hlen]; omega), hs]
      exact hn'
    · simp only [P.R07_End_r4]
      rw [hc z (by omega), tmN, hd, br_neg (by omega), h2, br_bne_neg (by rfl)]
  · rintro rfl ρ k0
    rw [P.R07_End_l8_eq]
    unfold P.R07_End_L8
    refine lp_go (fun i => ((n : Int), c, 128 :: List.replicate i 0, kd, words, tail, size)) z rfl (fun i hi next hn' => ?_) (fun next => ?_) (by omega)
    · simp only [P.R07_End_r8]
      have := h1 i hi
      rw [hc i (by omega), tmN, hd, br_neg (by omega), br_bne_pos (by omega), br_pos (by rw [hlen]; omega), hs]
      exact hn'
    · simp only [P.R07_End_r8]
      rw [hc z (by omega), tmN, hd, br_neg (by omega), h2, br_bne_neg (by rfl)]

theorem R07_outs (n : Nat) (hn : n = 64 ∨ n = 128) (words : List Int) (hw : In 18446744073709551616 words) (a : Int) (b : List Int) (c : Int) {ρ : Type} (k0 : Int → Int → List Int → Int → List Int → List Int → Int → Option ρ) :
    P.R07_End_l14 (n : Int) 0 [] a words b c k0 = k0 (n : Int) 8 (outI (n / 16) words 8) a words b c := by
  rw [P.R07_End_l14_eq]
  unfold P.R07_End_L14
  have e16 : IntKind.i64.wrap ((n : Int).tdiv 16) = ((n / 16 : Nat) : Int) := by rcases hn with rfl | rfl <;> rfl
  refine lp_go (fun i => ((n : Int), (i : Int), outI (n / 16) words i, a, words, b, c)) 8 rfl (fun i hi next hn' => ?_) (fun next => ?_) (by omega)
  · simp only [P.R07_End_r14, toNat_cast]
    have h1 := hw.getD i (by omega)
    have e4 : IntKind.i64.wrap ((i : Int) + 1) = ((i + 1 : Nat) : Int) := by rw [i64w (by omega) (by omega)]; omega
    have e5 : words.getD i 0 = (((words.getD i 0).toNat : Nat) : Int) := by omega
    rw [outI_succ] at hn'
    rw [br_pos (by omega), br_pos (by omega), br_pos (by omega), e16, e5, R01_Be _ _ (by omega) (by omega), e4]
    rw [br_pos (by rw [outI_len, List.length_reverse, bsw_length]; rcases hn with rfl | rfl <;> omega)]
    exact hn'
  · simp only [P.R07_End_r14]
    rw [br_neg (by omega)]
    rfl

theorem R07_tail (kind : Int) (words tail : List Int) (size : Nat) {ρ : Type} (k : List Int → Option ρ) :
    (br (kind == (2 : Int)) (br (decide ((48 : Int) ≤ ((outI (bsz kind / 16) (addW kind words (tail ++ pad kind tail.length size)) 8).length : Int))) (k (List.take ((48 : Int) - (0 : Int)).toNat (outI (bsz kind / 16) (addW kind words (tail ++ pad kind tail.length size)) 8))) none)
      (k (outI (bsz kind / 16) (addW kind words (tail ++ pad kind tail.length size)) 8))) = k (endS kind words tail size) := by
  unfold endS
  simp only
  by_cases h2 : kind = 2
  · have e : bsz kind = 128 := by unfold bsz; rw [if_neg (by omega)]
    rw [br_beq_pos h2, br_pos (by rw [outI_len, e]; omega), if_pos h2]
    rfl
  · rw [br_beq_neg h2, if_neg h2]

theorem R07_End (kind : Int) (words tail : List Int) (size : Nat) (hw : Wok kind words) (ht : In 256 tail) (hn : tail.length < bsz kind) (hs : size < 2305843009213693952) {ρ : Type} (k : List Int → Option ρ) :
    P.R07_End kind words tail (size : Int) k = k (endS kind words tail size) := by
  rw [P.R07_End_eq]; unfold P.R07_End_raw
  have h8 : IntKind.u64.wrap ((size : Int) * 8) = ((size * 8 % 2 ^ 64 : Nat) : Int) := by rw [u64m]; omega
  have hpl := pad_len kind tail.length size
  have hz2 := padZ_le kind tail.length
  rw [R07_Block, h8]
  rcases bsz_or kind with ⟨h, e⟩ | ⟨h, e⟩
  · rw [e] at hn ⊢
    have hp := (pads 64 (.inl rfl) tail.length (by omega) (padZ kind tail.length) 56 (by omega) (fun i hi => by unfold padZ at hi; rw [if_pos h] at hi; omega) (by unfold padZ; rw [if_pos h]; omega) hz2 ((size * 8 % 2 ^ 64 : Nat) : Int) kind words tail (size : Int) rfl 8 rfl).1
    rw [hp rfl, br_beq_neg (by decide), show (8 : Int) = ((8 : Nat) : Int) from rfl, R01_Be _ 8 (by omega) (by omega), br_pos (by simp; omega)]
    have hpad : (128 : Int) :: List.replicate (padZ kind tail.length) 0 ++ (bsw 8 8 (size * 8 % 2 ^ 64)).reverse = pad kind tail.length size := rfl
    rw [hpad, R07_Add kind words tail _ _ hw ht (pad_in _ _ _) (by omega), R07_outs _ (.inl rfl) _ (addW_ok _ _ _).2.1]
    have := R07_tail kind words tail size k
    rw [e] at this
    exact this
  · rw [e] at hn ⊢
    have hp1 := (pads 128 (.inr rfl) tail.length (by omega) ((247 - tail.length) % 128) 120 (by omega) (fun i hi => by omega) (by omega) (by omega) ((size * 8 % 2 ^ 64 : Nat) : Int) kind words tail (size : Int) rfl 8 rfl).1
    have hp2 := (pads 128 (.inr rfl) tail.length (by omega) ((239 - tail.length) % 128) 112 (by omega) (fun i hi => by omega) (by omega) (by omega) ((size * 8 % 2 ^ 64 : Nat) : Int) kind words tail (size : Int) rfl 16 rfl).2
    have h61 : ((size : Nat) : Int).fdiv ((2 : Int) ^ 61) = ((0 : Nat) : Int) := by
      have := fdiv_pow size 61 61 (by omega)
      rw [Nat.div_eq_of_lt (by omega)] at this
      exact this
    rw [hp1 rfl, br_beq_pos (by rfl), hp2 rfl, h61, show (8 : Int) = ((8 : Nat) : Int) from rfl, R01_Be _ 8 (by omega) (by omega), br_pos (by simp; omega), R01_Be _ 8 (by omega) (by omega), br_pos (by simp; omega)]
    have hpad : (128 : Int) :: List.replicate ((239 - tail.length) % 128) 0 ++ (bsw 8 8 0).reverse ++ (bsw 8 8 (size * 8 % 2 ^ 64)).reverse = pad kind tail.length size := by
      unfold pad padZ
      rw [if_neg h, ← List.replicate_append_replicate]
      rfl
    rw [hpad, R07_Add kind words tail _ _ hw ht (pad_in _ _ _) (by omega), R07_outs _ (.inr rfl) _ (addW_ok _ _ _).2.1]
    have := R07_tail kind words tail size k
    rw [e] at this
    exact this

/-! sums -/
def newW (kind : Int) : List Int :=
  if kind = 1 then [1779033703, 3144134277, 1013904242, 2773480762, 1359893119, 2600822924, 528734635, 1541459225]
  else if kind = 2 then [14680500436340154072, 7105036623409894663, 10473403895298186519, 1526699215303891257, 7436329637833083697, 10282925794625328401, 15784041429090275239, 5167115440072839076]
  else [7640891576956012808, 13503953896175478587, 4354685564936845355, 11912009170470909681, 5840696475078001361, 11170449401992604703, 2270897969802886507, 6620516959819538809]
theorem newW_ok (kind : Int) : Wok kind (newW kind) := by
  unfold newW Wok
  by_cases h1 : kind = 1
  · simp only [if_pos h1]
    refine ⟨rfl, ?_, fun _ => ?_⟩
    · unfold In; decide
    · unfold In; decide
  · by_cases h2 : kind = 2
    · simp only [if_neg h1, if_pos h2]
      refine ⟨rfl, ?_, fun h => absurd h h1⟩
      unfold In; decide
    · simp only [if_neg h1, if_neg h2]
      refine ⟨rfl, ?_, fun h => absurd h h1⟩
      unfold In; decide
/-- such a kind -/
def K3 (kind : Int) : Prop := kind = 1 ∨ kind = 2 ∨ kind = 3
theorem k3_or (kind : Int) : K3 kind ∨ (kind ≠ 1 ∧ kind ≠ 2 ∧ kind ≠ 3) := by
  unfold K3; omega
theorem sha_begin_k {kind : Int} (h : K3 kind) {ρ : Type} (k : List Int → Bool → Option ρ) : P.sha_begin kind k = k (newW kind) true := by
  rw [P.sha_begin_eq]
  rcases h with rfl | rfl | rfl <;> kernel_rfl
theorem sha_begin_no {kind : Int} (h : kind ≠ 1 ∧ kind ≠ 2 ∧ kind ≠ 3) {ρ : Type} (k : List Int → Bool → Option ρ) : P.sha_begin kind k = k (List.replicate 8 0) false := by
  rw [P.sha_begin_eq]; unfold P.sha_begin_raw
  rw [br_beq_neg h.1, br_beq_neg h.2.1, br_beq_neg h.2.2]; rfl
theorem sha_New {kind : Int} (h : K3 kind) {ρ : Type} (k : Int → List Int → List Int → Int → Int → Option ρ) : P.sha_New kind k = k kind (newW kind) [] 0 0 := by
  rw [P.sha_New_eq]; unfold P.sha_New_raw
  rw [sha_begin_k h, br_not, br_tt]
theorem sha_New_no {kind : Int} (h : kind ≠ 1 ∧ kind ≠ 2 ∧ kind ≠ 3) {ρ : Type} (k : Int → List Int → List Int → Int → Int → Option ρ) : P.sha_New kind k = k 0 (List.replicate 8 0) [] 0 9 := by
  rw [P.sha_New_eq]; unfold P.sha_New_raw
  rw [sha_begin_no h, br_not, br_ff]; rfl
theorem R07_New {kind : Int} (h : K3 kind) {ρ : Type} (k : Int → List Int → List Int → Int → Int → Option ρ) : P.R07_New kind k = k kind (newW kind) [] 0 0 := by
  rw [P.R07_New_eq]; unfold P.R07_New_raw newW
  rcases h with rfl | rfl | rfl
  · rw [br_beq_pos (by rfl)]; rfl
  · rw [br_beq_neg (by decide), br_beq_pos (by rfl)]; rfl
  · rw [br_beq_neg (by decide), br_beq_neg (by decide), br_beq_pos (by rfl)]; rfl
theorem R07_New_no {kind : Int} (h : kind ≠ 1 ∧ kind ≠ 2 ∧ kind ≠ 3) {ρ : Type} (k : Int → List Int → List Int → Int → Int → Option ρ) : P.R07_New kind k = k 0 (List.replicate 8 0) [] 0 9 := by
  rw [P.R07_New_eq]; unfold P.R07_New_raw
  rw [br_beq_neg h.1, br_beq_neg h.2.1, br_beq_neg h.2.2]; rfl
theorem bsz_pos (kind : Int) : 0 < bsz kind := by rcases bsz_or kind with ⟨h, e⟩ | ⟨h, e⟩ <;> omega

/-- a sum of bytes -/
def sumS (kind : Int) (b : List Int) : List Int := endS kind (addW kind (newW kind) b) (rest (bsz kind) b) b.length
theorem size_add (b : List Int) (hn : b.length ≤ 1000000) : IntKind.u64.wrap ((0 : Int) + IntKind.u64.wrap (b.length : Int)) = ((b.length : Nat) : Int) := by
  rw [u64n _ (by omega), Int.zero_add, u64n _ (by omega)]
theorem sha_Sum {kind : Int} (h : K3 kind) (b : List Int) (hb : In 256 b) (hn : b.length ≤ 1000000) {ρ : Type} (k : List Int → Int → Option ρ) : P.sha_Sum kind b k = k (sumS kind b) 0 := by
  rw [P.sha_Sum_eq]; unfold P.sha_Sum_raw
  have hw := newW_ok kind
  have hr := rest_len _ (bsz_pos kind) b
  have hlt := Nat.mod_lt b.length (bsz_pos kind)
  rw [sha_New h, br_bne_neg (by rfl), sha_Add kind _ [] _ b hw.1 hw.2.1 In.nil hb (by simpa using hn), List.nil_append, size_add b hn, sha_End kind _ _ _ (addW_len _ _ _) (addW_ok _ _ _).2.1 (rest_in hb) (by omega)]
  rfl
theorem R07_Sum {kind : Int} (h : K3 kind) (b : List Int) (hb : In 256 b) (hn : b.length ≤ 1000000) {ρ : Type} (k : List Int → Int → Option ρ) : P.R07_Sum kind b k = k (sumS kind b) 0 := by
  rw [P.R07_Sum_eq]; unfold P.R07_Sum_raw
  have hw := newW_ok kind
  have hr := rest_len _ (bsz_pos kind) b
  have hlt := Nat.mod_lt b.length (bsz_pos kind)
  rw [R07_New h, br_bne_neg (by rfl), R07_Add kind _ [] _ b hw In.nil hb (by simpa using hn), List.nil_append, size_add b hn, R07_End kind _ _ _ (addW_ok _ _ _) (rest_in hb) (by omega) (by omega)]
  rfl
theorem sha_Sum_no {kind : Int} (h : kind ≠ 1 ∧ kind ≠ 2 ∧ kind ≠ 3) (b : List Int) {ρ : Type} (k : List Int → Int → Option ρ) : P.sha_Sum kind b k = k [] 9 := by
  rw [P.sha_Sum_eq]; unfold P.sha_Sum_raw
  rw [sha_New_no h, br_bne_pos (by decide)]
theorem R07_Sum_no {kind : Int} (h : kind ≠ 1 ∧ kind ≠ 2 ∧ kind ≠ 3) (b : List Int) {ρ : Type} (k : List Int → Int → Option ρ) : P.R07_Sum kind b k = k [] 9 := by
  rw [P.R07_Sum_eq]; unfold P.R07_Sum_raw
  rw [R07_New_no h, br_bne_pos (by decide)]
theorem sumS_in (kind : Int) (b : List Int) : In 256 (sumS kind b) := endS_in _ _ _ _
theorem sumS_len (kind : Int) (b : List Int) : (sumS kind b).length = if kind = 1 then 32 else if kind = 2 then 48 else 64 := endS_len _ _ _ _
end Q
end

section
/- SHA-2: bytes that are added one behind the other. -/
namespace Q
open Go Go.Abs
set_option linter.unusedVariables false
set_option linter.unusedSimpArgs false

theorem thr_append {w : Nat} (p : Par w) (v : List (BitVec w)) (a b : List Int) (m : Nat) (hm : (2 * w) * m = a.length) : ∀ i, thr p v (a ++ b) (m + i) = thr p (thr p v a m) b i ∧ thr p v (a ++ b) m = thr p v a m := by
  have key : ∀ i, i ≤ m → thr p v (a ++ b) i = thr p v a i := by
    intro i
    induction i with
    | zero => intro _; rfl
    | succ i ih =>
      intro hi
      have h1 : (2 * w) * i + 2 * w ≤ a.length := by
        rw [← hm, ← Nat.mul_succ]
        exact Nat.mul_le_mul (Nat.le_refl _) hi
      simp only [thr]
      rw [ih (by omega), List.drop_append_of_le_length (by omega), List.take_append_of_le_length (by rw [List.length_drop]; omega)]
  intro i
  refine ⟨?_, key m (Nat.le_refl _)⟩
  induction i with
  | zero => exact key m (Nat.le_refl _)
  | succ i ih =>
    rw [← Nat.add_assoc]
    simp only [thr]
    rw [ih, Nat.mul_add, hm, List.drop_append, List.drop_eq_nil_of_le (by omega), List.nil_append, Nat.add_sub_cancel_left]

theorem addW1 (words all : List Int) : addW 1 words all = cv (thr p32 (toV 32 words) all (all.length / 64)) := if_pos rfl
/-- bytes that are added one behind the other -/
theorem addW_two (words a b : List Int) : addW 1 (addW 1 words a) (rest 64 a ++ b) = addW 1 words (a ++ b) := by
  have hlen := thr_len p32 (toV 32 words) (toV_len _ _) a (a.length / 64)
  rw [addW1, addW1, addW1, toV_cv _ hlen]
  have h0 : a = a.take (64 * (a.length / 64)) ++ rest 64 a := by unfold rest; rw [List.take_append_drop]
  have h1 : (a.take (64 * (a.length / 64))).length = 64 * (a.length / 64) := by rw [List.length_take]; omega
  have h2 := rest_len 64 (by omega) a
  have e1 := thr_append p32 (toV 32 words) (a.take (64 * (a.length / 64))) (rest 64 a ++ b) (a.length / 64) h1.symm ((rest 64 a ++ b).length / 64)
  have e2 := thr_append p32 (toV 32 words) (a.take (64 * (a.length / 64))) (rest 64 a) (a.length / 64) h1.symm 0
  rw [← List.append_assoc, ← h0] at e1
  rw [← h0] at e2
  rw [e2.2, ← e1.1]
  congr 2
  rw [List.length_append, List.length_append, h2]
  omega


theorem rest_two (a b : List Int) : rest 64 (rest 64 a ++ b) = rest 64 (a ++ b) := by
  have h2 := rest_len 64 (by omega) a
  have h3 : (a ++ b).drop (64 * (a.length / 64)) = rest 64 a ++ b := by unfold rest; rw [List.drop_append_of_le_length (by omega)]
  have hl : (rest 64 a ++ b).length = a.length % 64 + b.length := by rw [List.length_append, h2]
  have hq : (a ++ b).length / 64 = a.length / 64 + (rest 64 a ++ b).length / 64 := by
    rw [hl, List.length_append]; omega
  show (rest 64 a ++ b).drop (64 * ((rest 64 a ++ b).length / 64)) = (a ++ b).drop (64 * ((a ++ b).length / 64))
  rw [hq, Nat.mul_add, ← List.drop_drop, h3]

/-- a sum in two steps -/
theorem sum_two (a b : List Int) (n : Nat) (hn : n = (a ++ b).length) : endS 1 (addW 1 (addW 1 (newW 1) a) (rest 64 a ++ b)) (rest 64 (rest 64 a ++ b)) n = sumS 1 (a ++ b) := by
  rw [addW_two, rest_two, hn]
  rfl
end Q
end

section
/- lmots: the digits as the program and as the document count them. -/
namespace Q
open Go Go.Abs
set_option linter.unusedVariables false
set_option linter.unusedSimpArgs false

theorem R14_Kind {w p s : Nat} (h : Kind w p s) : ∃ t : Int, ∀ {ρ : Type} (k : Int → Int → Int → Option ρ), P.R14_Kind (w : Int) k = k (p : Int) (s : Int) t := by
  rcases h with ⟨rfl, rfl, rfl⟩ | ⟨rfl, rfl, rfl⟩ | ⟨rfl, rfl, rfl⟩ | ⟨rfl, rfl, rfl⟩ 
  · exact ⟨1, fun k => by rw [P.R14_Kind_eq]; kernel_rfl⟩
  · exact ⟨2, fun k => by rw [P.R14_Kind_eq]; kernel_rfl⟩
  · exact ⟨3, fun k => by rw [P.R14_Kind_eq]; kernel_rfl⟩
  · exact ⟨4, fun k => by rw [P.R14_Kind_eq]; kernel_rfl⟩
theorem lmots_known {w p s : Nat} (h : Kind w p s) : ∃ t : Int, ∀ {ρ : Type} (k : Int → Int → Int → Bool → Option ρ), P.lmots_known (w : Int) k = k (p : Int) (s : Int) t true := by
  rcases h with ⟨rfl, rfl, rfl⟩ | ⟨rfl, rfl, rfl⟩ | ⟨rfl, rfl, rfl⟩ | ⟨rfl, rfl, rfl⟩ 
  · exact ⟨1, fun k => by rw [P.lmots_known_eq]; kernel_rfl⟩
  · exact ⟨2, fun k => by rw [P.lmots_known_eq]; kernel_rfl⟩
  · exact ⟨3, fun k => by rw [P.lmots_known_eq]; kernel_rfl⟩
  · exact ⟨4, fun k => by rw [P.lmots_known_eq]; kernel_rfl⟩
theorem kind_or (w : Int) : (∃ n p s : Nat, w = (n : Int) ∧ Kind n p s) ∨ (w ≠ 1 ∧ w ≠ 2 ∧ w ≠ 4 ∧ w ≠ 8) := by
  by_cases h1 : w = 1
  · exact .inl ⟨1, 265, 7, h1, by simp [Kind]⟩
  · by_cases h2 : w = 2
    · exact .inl ⟨2, 133, 6, h2, by simp [Kind]⟩
    · by_cases h4 : w = 4
      · exact .inl ⟨4, 67, 4, h4, by simp [Kind]⟩
      · by_cases h8 : w = 8
        · exact .inl ⟨8, 34, 0, h8, by simp [Kind]⟩
        · exact .inr ⟨h1, h2, h4, h8⟩
theorem R14_Kind_no {w : Int} (h : w ≠ 1 ∧ w ≠ 2 ∧ w ≠ 4 ∧ w ≠ 8) {ρ : Type} (k : Int → Int → Int → Option ρ) : P.R14_Kind w k = k 0 0 0 := by
  rw [P.R14_Kind_eq]; unfold P.R14_Kind_raw
  rw [br_beq_neg h.1, br_beq_neg h.2.1, br_beq_neg h.2.2.1, br_beq_neg h.2.2.2]
theorem lmots_known_no {w : Int} (h : w ≠ 1 ∧ w ≠ 2 ∧ w ≠ 4 ∧ w ≠ 8) {ρ : Type} (k : Int → Int → Int → Bool → Option ρ) : P.lmots_known w k = k 0 0 0 false := by
  rw [P.lmots_known_eq]; unfold P.lmots_known_raw
  rw [br_beq_neg h.1, br_beq_neg h.2.1, br_beq_neg h.2.2.1, br_beq_neg h.2.2.2]

theorem kind_pos {w p s : Nat} (h : Kind w p s) : ((p : Int) == 0) = false := by
  rcases h with ⟨rfl, rfl, rfl⟩ | ⟨rfl, rfl, rfl⟩ | ⟨rfl, rfl, rfl⟩ | ⟨rfl, rfl, rfl⟩ <;> rfl

theorem tdiv_w {w p s : Nat} (h : Kind w p s) : IntKind.i64.wrap (Int.tdiv (256 : Int) (w : Int)) = ((256 / w : Nat) : Int) := by
  rcases h with ⟨rfl, rfl, rfl⟩ | ⟨rfl, rfl, rfl⟩ | ⟨rfl, rfl, rfl⟩ | ⟨rfl, rfl, rfl⟩ <;> rfl

theorem num_at' {w : Nat} {b : List Int} (hb : In (2 ^ w) b) (t : Nat) : ∃ x : Nat, b.getD t 0 = (x : Int) ∧ x < 2 ^ w := by
  have hp : ((2 : Int) ^ w) = ((2 ^ w : Nat) : Int) := by simp
  have := hb.getD t (by rw [hp]; have := p2 w; omega)
  rw [hp] at this
  exact ⟨(b.getD t 0).toNat, by omega, by omega⟩
theorem sum_le {w p s : Nat} (hk : Kind w p s) (x : List Int) (i : Nat) : sumTo (digitsS x w ((256 / w : Nat) : Int)) i ≤ i * (2 ^ w - 1) := sumTo_le _ w (digits_in x w _) i

theorem lmots_Digits_kind {w p s : Nat} (hk : Kind w p s) (x : List Int) (hx : In 256 x) (hl : x.length = 32) {ρ : Type} (k : List Int → Int → Option ρ) : P.lmots_Digits (w : Int) x k = k (allD w p s x) 0 := by
  obtain ⟨t, ht⟩ := lmots_known hk
  obtain ⟨f1, f2, f3, f4, f5, f6, f7, f8, f9, f10, f11⟩ := kind_facts hk
  rw [P.lmots_Digits_eq]
  unfold P.lmots_Digits_raw
  have hn : (digitsS x w ((256 / w : Nat) : Int)).length = 256 / w := by
    rw [digits_map x w _ f1 (by omega) (by omega)]; simp
  rw [ht, br_not, br_tt, br_bne_neg (by omega), br_neg (by omega), tdiv_w hk, bits_Digits _ _ _ hx (by omega), br_neg (by omega), hn]
  have hm : IntKind.u64.wrap (((256 / w : Nat) : Int)) = ((256 / w : Nat) : Int) := u64n _ (by omega)
  simp only [toNat_cast]
  rw [hm, mask64 w (by omega), ← Int.natCast_mul, u64n _ (by omega), P.lmots_Digits_l9_eq]
  unfold P.lmots_Digits_L9
  refine lp_go (fun i => ((w : Int), ((256 / w * (2 ^ w - 1) - sumTo (digitsS x w ((256 / w : Nat) : Int)) i : Nat) : Int), ((256 / w : Nat) : Int), (i : Int), (p : Int), (s : Int), t, digitsS x w ((256 / w : Nat) : Int))) (256 / w) (by simp [sumTo]) (fun i hi next hn' => ?_) (fun next => ?_) (by omega)
  · obtain ⟨d, hd, hd2⟩ := num_at' (w := w) (digits_in x w ((256 / w : Nat) : Int)) i
    have hle := sum_le hk x (i + 1)
    have hle2 : (i + 1) * (2 ^ w - 1) ≤ 256 / w * (2 ^ w - 1) := Nat.mul_le_mul hi (Nat.le_refl _)
    simp only [sumTo, hd, Int.toNat_natCast] at hn' hle
    simp only [P.lmots_Digits_r9, toNat_cast]
    rw [hd, u64n d (by omega), show ((256 / w * (2 ^ w - 1) - sumTo (digitsS x w ((256 / w : Nat) : Int)) i : Nat) : Int) - (d : Int) = ((256 / w * (2 ^ w - 1) - (sumTo (digitsS x w ((256 / w : Nat) : Int)) i + d) : Nat) : Int) by omega, u64n _ (by omega)]
    simp (disch := omega) only [br_pos, br_neg, br_bne_pos, br_bne_neg, br_beq_pos, br_beq_neg, br_not, br_tt, br_ff, i64w, hn]
    exact hn'
  · simp only [P.lmots_Digits_r9]
    have hleft : (256 / w * (2 ^ w - 1) - sumTo (digitsS x w ((256 / w : Nat) : Int)) (256 / w)) * 2 ^ s = left w s x := rfl
    have hlt := left_lt hk x
    have hn2 : (digitsS (bsw 8 2 (left w s x)).reverse w ((p - 256 / w : Nat) : Int)).length = p - 256 / w := by
      rw [digits_map _ w _ f1 (by omega) (by rw [Nat.sub_mul, Nat.mul_comm p w, f5]; simp; omega)]; simp
    rw [br_neg (by omega), br_neg (by omega)]
    simp only [toNat_cast]
    rw [mul_pow _ s 64 (by omega), hleft, u64n _ (by omega), show (2 : Int) = ((2 : Nat) : Int) from rfl, bits_Be _ 2 (by omega) (by omega), hn, i64w (by omega) (by omega), show (p : Int) - ((256 / w : Nat) : Int) = ((p - 256 / w : Nat) : Int) by omega,
      bits_Digits _ _ _ (bsw_in 8 2 _).rev (by simp), hn2, br_pos (by omega)]
    unfold allD
    rw [digits_app hk x _ hl (by simp)]

theorem R14_Digits_kind {w p s : Nat} (hk : Kind w p s) (x : List Int) (hx : In 256 x) (hl : x.length = 32) {ρ : Type} (k : List Int → Int → Option ρ) : P.R14_Digits (w : Int) x k = k (allD w p s x) 0 := by
  obtain ⟨t, ht⟩ := R14_Kind hk
  obtain ⟨f1, f2, f3, f4, f5, f6, f7, f8, f9, f10, f11⟩ := kind_facts hk
  rw [P.R14_Digits_eq]
  unfold P.R14_Digits_raw
  have hn : (digitsS x w ((256 / w : Nat) : Int)).length = 256 / w := by
    rw [digits_map x w _ f1 (by omega) (by omega)]; simp
  rw [ht, kind_pos hk, br_ff, br_bne_neg (by omega), br_neg (by omega), tdiv_w hk, R01_Digits _ _ _ hx (by omega), P.R14_Digits_l9_eq]
  unfold P.R14_Digits_L9
  refine lp_go (fun i => ((w : Int), x, (p : Int), (s : Int), ((i * (2 ^ w - 1) - sumTo (digitsS x w ((256 / w : Nat) : Int)) i : Nat) : Int), (i : Int), digitsS x w ((256 / w : Nat) : Int))) (256 / w) (by simp [sumTo]) (fun i hi next hn' => ?_) (fun next => ?_) (by omega)
  · obtain ⟨d, hd, hd2⟩ := num_at' (w := w) (digits_in x w ((256 / w : Nat) : Int)) i
    have hle := sum_le hk x i
    have hle2 : (i + 1) * (2 ^ w - 1) ≤ 256 / w * (2 ^ w - 1) := Nat.mul_le_mul hi (Nat.le_refl _)
    have hs : (i + 1) * (2 ^ w - 1) = i * (2 ^ w - 1) + (2 ^ w - 1) := Nat.succ_mul i _
    simp only [sumTo, hd, Int.toNat_natCast] at hn'
    simp only [P.R14_Digits_r9, toNat_cast]
    rw [mask64 w (by omega), hd, u64n d (by omega), ← Int.natCast_add, u64n _ (by omega), show ((i * (2 ^ w - 1) - sumTo (digitsS x w ((256 / w : Nat) : Int)) i + (2 ^ w - 1) : Nat) : Int) - (d : Int) = (((i + 1) * (2 ^ w - 1) - (sumTo (digitsS x w ((256 / w : Nat) : Int)) i + d) : Nat) : Int) by omega, u64n _ (by omega)]
    simp (disch := omega) only [br_pos, br_neg, br_bne_pos, br_bne_neg, br_beq_pos, br_beq_neg, br_not, br_tt, br_ff, i64w, hn]
    exact hn'
  · simp only [P.R14_Digits_r9]
    have hleft : (256 / w * (2 ^ w - 1) - sumTo (digitsS x w ((256 / w : Nat) : Int)) (256 / w)) * 2 ^ s = left w s x := rfl
    have hlt := left_lt hk x
    have hf : [x, (bsw 8 2 (left w s x)).reverse].flatten = x ++ (bsw 8 2 (left w s x)).reverse := by simp
    rw [br_neg (by rw [hn]; omega), br_neg (by omega)]
    simp only [toNat_cast]
    rw [mul_pow _ s 64 (by omega), hleft, u64n _ (by omega), show (2 : Int) = ((2 : Nat) : Int) from rfl, R01_Be _ 2 (by omega) (by omega), R01_Join _ (by simp) (by rw [hf]; simp; omega), hf, R01_Digits _ _ _ (hx.app (bsw_in 8 2 _).rev) (by simp; omega)]
    rfl

theorem lmots_Digits_len {w p s : Nat} (hk : Kind w p s) (x : List Int) (hl : x.length ≠ 32) {ρ : Type} (k : List Int → Int → Option ρ) : P.lmots_Digits (w : Int) x k = k [] 14 := by
  obtain ⟨t, ht⟩ := lmots_known hk
  rw [P.lmots_Digits_eq]; unfold P.lmots_Digits_raw
  rw [ht, br_not, br_tt, br_bne_pos (by omega)]
theorem R14_Digits_len {w p s : Nat} (hk : Kind w p s) (x : List Int) (hl : x.length ≠ 32) {ρ : Type} (k : List Int → Int → Option ρ) : P.R14_Digits (w : Int) x k = k [] 14 := by
  obtain ⟨t, ht⟩ := R14_Kind hk
  rw [P.R14_Digits_eq]; unfold P.R14_Digits_raw
  rw [ht, kind_pos hk, br_ff, br_bne_pos (by omega)]
theorem lmots_Digits_no {w : Int} (h : w ≠ 1 ∧ w ≠ 2 ∧ w ≠ 4 ∧ w ≠ 8) (x : List Int) {ρ : Type} (k : List Int → Int → Option ρ) : P.lmots_Digits w x k = k [] 9 := by
  rw [P.lmots_Digits_eq]; unfold P.lmots_Digits_raw
  rw [lmots_known_no h, br_not, br_ff]
theorem R14_Digits_no {w : Int} (h : w ≠ 1 ∧ w ≠ 2 ∧ w ≠ 4 ∧ w ≠ 8) (x : List Int) {ρ : Type} (k : List Int → Int → Option ρ) : P.R14_Digits w x k = k [] 9 := by
  rw [P.R14_Digits_eq]; unfold P.R14_Digits_raw
  rw [R14_Kind_no h]; kernel_rfl

theorem lmots_Size {w p s : Nat} (hk : Kind w p s) {ρ : Type} (k : Int → Option ρ) : P.lmots_Size (w : Int) k = k ((36 + 32 * p : Nat) : Int) := by
  obtain ⟨t, ht⟩ := lmots_known hk
  obtain ⟨f1, f2, f3, f4, f5, f6, f7, f8, f9, f10, f11⟩ := kind_facts hk
  rw [P.lmots_Size_eq]; unfold P.lmots_Size_raw
  rw [ht, br_not, br_tt, i64w (x := (32 : Int) * (p : Int)) (by omega) (by omega), i64w (by omega) (by omega)]; rfl
theorem R14_Size {w p s : Nat} (hk : Kind w p s) {ρ : Type} (k : Int → Option ρ) : P.R14_Size (w : Int) k = k ((36 + 32 * p : Nat) : Int) := by
  obtain ⟨t, ht⟩ := R14_Kind hk
  obtain ⟨f1, f2, f3, f4, f5, f6, f7, f8, f9, f10, f11⟩ := kind_facts hk
  rw [P.R14_Size_eq]; unfold P.R14_Size_raw
  rw [ht, kind_pos hk, br_ff, i64w (x := (32 : Int) * (p : Int)) (by omega) (by omega), i64w (by omega) (by omega)]; rfl
theorem lmots_Size_no {w : Int} (h : w ≠ 1 ∧ w ≠ 2 ∧ w ≠ 4 ∧ w ≠ 8) {ρ : Type} (k : Int → Option ρ) : P.lmots_Size w k = k 0 := by
  rw [P.lmots_Size_eq]; unfold P.lmots_Size_raw
  rw [lmots_known_no h, br_not, br_ff]
theorem R14_Size_no {w : Int} (h : w ≠ 1 ∧ w ≠ 2 ∧ w ≠ 4 ∧ w ≠ 8) {ρ : Type} (k : Int → Option ρ) : P.R14_Size w k = k 0 := by
  rw [P.R14_Size_eq]; unfold P.R14_Size_raw
  rw [R14_Kind_no h]; kernel_rfl
theorem allD_len {w p s : Nat} (hk : Kind w p s) (x : List Int) (hl : x.length = 32) : (allD w p s x).length = p := by
  obtain ⟨f1, f2, f3, f4, f5, f6, f7, f8, f9, f10, f11⟩ := kind_facts hk
  unfold allD
  rw [digits_map _ w p f1 (by omega) (by rw [Nat.mul_comm, f5]; simp; omega)]; simp

theorem L14_few (l : List (List Int)) (hl : l.length ≤ 100) {ρ : Type} (k : Bool → Option ρ) : (P.L14_few l k = k true ∧ ∀ i, i < l.length → (l.getD i []).length ≤ 300) ∨ P.L14_few l k = k false := by
  rw [P.L14_few_eq]
  unfold P.L14_few_raw
  rw [P.L14_few_l2_eq]
  unfold P.L14_few_L2
  by_cases h : ∀ i, i < l.length → (l.getD i []).length ≤ 300
  · refine .inl ⟨lp_go (fun i => (l, (l.length : Int), (i : Int))) l.length rfl (fun i hi next hn' => ?_) (fun next => ?_) (by omega), h⟩
    · have := h i hi
      simp only [P.L14_few_r2, toNat_cast, Sum.elim_inl, Sum.elim_inr]
      simp (disch := omega) only [br_pos, br_neg, br_bne_pos, br_bne_neg, br_beq_pos, br_beq_neg, br_not, br_tt, br_ff, i64w]
      exact hn'
    · simp only [P.L14_few_r2, toNat_cast, Sum.elim_inl, Sum.elim_inr]
      rw [br_neg (by omega)]
  · refine .inr (lp_eq (P := fun x => ∃ j : Nat, x = (l, (l.length : Int), (j : Int)) ∧ ∃ i, j ≤ i ∧ i < l.length ∧ ¬ (l.getD i []).length ≤ 300) (μ := fun x => ((l.length : Int) - x.2.2).toNat) ?_ ⟨0, rfl, ?_⟩ (by simp only; omega))
    · rintro _ ⟨j, rfl, i, hji, hi, hb⟩ next hn
      simp only [P.L14_few_r2, toNat_cast, Sum.elim_inl, Sum.elim_inr]
      by_cases hj : ((l.getD j []).length : Int) > 300
      · simp (disch := omega) only [br_pos, br_neg, br_bne_pos, br_bne_neg, br_beq_pos, br_beq_neg, br_not, br_tt, br_ff, i64w]
      · simp (disch := omega) only [br_pos, br_neg, br_bne_pos, br_bne_neg, br_beq_pos, br_beq_neg, br_not, br_tt, br_ff, i64w]
        exact hn _ ⟨j + 1, rfl, i, by by_cases e : j = i <;> (try subst e) <;> omega, hi, hb⟩ (by simp only; omega)
    · have : ∃ i, ¬ (i < l.length → (l.getD i []).length ≤ 300) := Classical.not_forall.1 h
      obtain ⟨i, hi⟩ := this
      exact ⟨i, Nat.zero_le _, by by_cases e : i < l.length <;> simp_all, fun e => hi (fun _ => e)⟩

theorem L14_awake {ρ : Type} (k : Bool → Option ρ) : P.L14_awake k = k true := by
  rw [P.L14_awake_eq]
  unfold P.L14_awake_raw
  rw [P.L14_awake_l3_eq]
  unfold P.L14_awake_L3
  refine lp_go (fun i => ((32 : Int), (i : Int), List.replicate i (255 : Int) ++ List.replicate (32 - i) 0)) 32 rfl (fun i hi next hn' => ?_) (fun next => ?_) (by omega)
  · simp only [P.L14_awake_r3, toNat_cast, List.length_append, List.length_replicate]
    simp (disch := omega) only [br_pos, br_neg, br_bne_pos, br_bne_neg, br_beq_pos, br_beq_neg, br_not, br_tt, br_ff, i64w]
    rw [List.set_append_right _ _ (by simp), List.length_replicate, Nat.sub_self, show 32 - i = (32 - (i + 1)) + 1 by omega, List.replicate_succ, List.set_cons_zero]
    rw [show i + 1 = i + 1 from rfl, List.replicate_succ', List.append_assoc, List.singleton_append] at hn'
    exact hn'
  · simp only [P.L14_awake_r3]
    have hk8 : Kind 8 34 0 := by simp [Kind]
    have hk4 : Kind 4 67 4 := by simp [Kind]
    have hin : In 256 (List.replicate 32 (255 : Int) ++ List.replicate (32 - 32) 0) := by
      intro y hy
      simp at hy
      omega
    have e : allD 8 34 0 (List.replicate 32 (255 : Int) ++ List.replicate (32 - 32) 0) = List.replicate 32 (255 : Int) ++ [0, 0] := by decide +kernel
    rw [br_neg (by omega), show (8 : Int) = ((8 : Nat) : Int) from rfl, lmots_Digits_kind hk8 _ hin (by simp), lmots_Digits_no (by omega), show (4 : Int) = ((4 : Nat) : Int) from rfl, lmots_Size hk4, e]
    refine Eq.trans (b := k true) ?_ rfl
    kernel_rfl
end Q
end

section
open Go Go.Abs
set_option linter.unusedVariables false
namespace P
noncomputable def R14_wrong_raw {ρ : Type} (a0 : Int) (a1 : List Int) (a2 : List Int) (k : Int → Option ρ) : Option ρ :=
  R14_Kind a0 fun (q0 q1 q2 : Int) =>
    br (q0 == (0 : Int)) (k (9 : Int))
      (br ((↑a1.length : Int) != (16 : Int)) (k (14 : Int))
        (br ((↑a2.length : Int) != (32 : Int)) (k (14 : Int)) (k (0 : Int))))
noncomputable def R14_wrong {ρ : Type} (a0 : Int) (a1 : List Int) (a2 : List Int) (k : Int → Option ρ) : Option ρ := shut (R14_wrong_raw (ρ := ρ)) a0 a1 a2 k
theorem R14_wrong_eq {ρ : Type} (a0 : Int) (a1 : List Int) (a2 : List Int) (k : Int → Option ρ) : R14_wrong a0 a1 a2 k = R14_wrong_raw a0 a1 a2 k := by unfold R14_wrong; rw [shut_eq]

end P
end

section
open Go Go.Abs
set_option linter.unusedVariables false
namespace P
noncomputable def R14_H_raw {ρ : Type} (a0 : List (List Int)) (k : (List Int) → Option ρ) : Option ρ :=
  R01_Join a0 fun (q0 : List Int) => R07_Sum (1 : Int) q0 fun (q1 : List Int) (q2 : Int) => k q1
noncomputable def R14_H {ρ : Type} (a0 : List (List Int)) (k : (List Int) → Option ρ) : Option ρ := shut (R14_H_raw (ρ := ρ)) a0 k
theorem R14_H_eq {ρ : Type} (a0 : List (List Int)) (k : (List Int) → Option ρ) : R14_H a0 k = R14_H_raw a0 k := by unfold R14_H; rw [shut_eq]

end P
end

section
open Go Go.Abs
set_option linter.unusedVariables false
namespace P
noncomputable def R14_chain_r2 {ρ : Type} (v0 : List Int) (v1 : Int) (v2 : Int) (v4 : Int) (v5 : List Int) (v13 : Int) (nx : (List Int) → Int → Int → Int → (List Int) → Int → Option ρ) (k0 : (List Int) → Int → Int → Int → (List Int) → Int → Option ρ) : Option ρ :=
  br (decide (v13 < v4))
    (R01_Be (IntKind.u64.wrap v1) (4 : Int) fun (q0 : List Int) =>
      R01_Be (IntKind.u64.wrap v2) (2 : Int) fun (q1 : List Int) =>
        R14_H [v0, q0, q1, [IntKind.u8.wrap v13], v5] fun (q2 : List Int) =>
          nx v0 v1 v2 v4 q2 (IntKind.i64.wrap (v13 + (1 : Int))))
    (k0 v0 v1 v2 v4 v5 v13)
noncomputable def R14_chain_L2 {ρ : Type} (v0 : List Int) (v1 : Int) (v2 : Int) (v4 : Int) (v5 : List Int) (v13 : Int) (k0 : (List Int) → Int → Int → Int → (List Int) → Int → Option ρ) : Option ρ :=
  lp (fun (x : (List Int) × Int × Int × Int × (List Int) × Int) (next : ((List Int) × Int × Int × Int × (List Int) × Int) → Option ρ) (ex : (((List Int) × Int × Int × Int × (List Int) × Int)) → Option ρ) => R14_chain_r2 x.1 x.2.1 x.2.2.1 x.2.2.2.1 x.2.2.2.2.1 x.2.2.2.2.2 (fun v0 v1 v2 v4 v5 v13 => next (v0, v1, v2, v4, v5, v13)) (fun v0 v1 v2 v4 v5 v13 => ex ((v0, v1, v2, v4, v5, v13)))) (v0, v1, v2, v4, v5, v13) (fun x => k0 x.1 x.2.1 x.2.2.1 x.2.2.2.1 x.2.2.2.2.1 x.2.2.2.2.2)
noncomputable def R14_chain_l2 {ρ : Type} (v0 : List Int) (v1 : Int) (v2 : Int) (v4 : Int) (v5 : List Int) (v13 : Int) (k0 : (List Int) → Int → Int → Int → (List Int) → Int → Option ρ) : Option ρ := shut (R14_chain_L2 (ρ := ρ)) v0 v1 v2 v4 v5 v13 k0
theorem R14_chain_l2_eq {ρ : Type} (v0 : List Int) (v1 : Int) (v2 : Int) (v4 : Int) (v5 : List Int) (v13 : Int) (k0 : (List Int) → Int → Int → Int → (List Int) → Int → Option ρ) : R14_chain_l2 v0 v1 v2 v4 v5 v13 k0 = R14_chain_L2 v0 v1 v2 v4 v5 v13 k0 := by unfold R14_chain_l2; rw [shut_eq]
noncomputable def R14_chain_raw {ρ : Type} (a0 : List Int) (a1 : Int) (a2 : Int) (a3 : Int) (a4 : Int) (a5 : List Int) (k : (List Int) → Option ρ) : Option ρ :=
  R14_chain_l2 a0 a1 a2 a4 a5 a3 fun (q0 : List Int) (q1 q2 q3 : Int) (q4 : List Int) (q5 : Int) => k q4
noncomputable def R14_chain {ρ : Type} (a0 : List Int) (a1 : Int) (a2 : Int) (a3 : Int) (a4 : Int) (a5 : List Int) (k : (List Int) → Option ρ) : Option ρ := shut (R14_chain_raw (ρ := ρ)) a0 a1 a2 a3 a4 a5 k
theorem R14_chain_eq {ρ : Type} (a0 : List Int) (a1 : Int) (a2 : Int) (a3 : Int) (a4 : Int) (a5 : List Int) (k : (List Int) → Option ρ) : R14_chain a0 a1 a2 a3 a4 a5 k = R14_chain_raw a0 a1 a2 a3 a4 a5 k := by unfold R14_chain; rw [shut_eq]

end P
end

section
open Go Go.Abs
set_option linter.unusedVariables false
namespace P
noncomputable def R14_part_raw {ρ : Type} (a0 : List Int) (a1 : Int) (a2 : Int) (a3 : List Int) (k : (List Int) → Option ρ) : Option ρ :=
  R01_Be (IntKind.u64.wrap a1) (4 : Int) fun (q0 : List Int) =>
    R01_Be (IntKind.u64.wrap a2) (2 : Int) fun (q1 : List Int) =>
      R14_H [a0, q0, q1, [(255 : Int)], a3] fun (q2 : List Int) => k q2
noncomputable def R14_part {ρ : Type} (a0 : List Int) (a1 : Int) (a2 : Int) (a3 : List Int) (k : (List Int) → Option ρ) : Option ρ := shut (R14_part_raw (ρ := ρ)) a0 a1 a2 a3 k
theorem R14_part_eq {ρ : Type} (a0 : List Int) (a1 : Int) (a2 : Int) (a3 : List Int) (k : (List Int) → Option ρ) : R14_part a0 a1 a2 a3 k = R14_part_raw a0 a1 a2 a3 k := by unfold R14_part; rw [shut_eq]

end P
end

section
open Go Go.Abs
set_option linter.unusedVariables false
namespace P
noncomputable def R14_key_raw {ρ : Type} (a0 : List Int) (a1 : Int) (a2 : List (List Int)) (k : (List Int) → Option ρ) : Option ρ :=
  R01_Be (IntKind.u64.wrap a1) (4 : Int) fun (q0 : List Int) =>
    R01_Be (32896 : Int) (2 : Int) fun (q1 : List Int) =>
      R01_Join a2 fun (q2 : List Int) => R14_H [a0, q0, q1, q2] fun (q3 : List Int) => k q3
noncomputable def R14_key {ρ : Type} (a0 : List Int) (a1 : Int) (a2 : List (List Int)) (k : (List Int) → Option ρ) : Option ρ := shut (R14_key_raw (ρ := ρ)) a0 a1 a2 k
theorem R14_key_eq {ρ : Type} (a0 : List Int) (a1 : Int) (a2 : List (List Int)) (k : (List Int) → Option ρ) : R14_key a0 a1 a2 k = R14_key_raw a0 a1 a2 k := by unfold R14_key; rw [shut_eq]

end P
end
