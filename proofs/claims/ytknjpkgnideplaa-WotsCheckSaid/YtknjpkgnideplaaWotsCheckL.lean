/-
  WotsCheck, part L: an interpreter of my own over abstract values, the pure functions, the walks and the plain law.
-/

import Derived.Test.YtknjpkgnideplaaWotsCheckK
import Derived.Test.YtknjpkgnideplaaWotsCheckG
import Derived.Test.YtknjpkgnideplaaWotsCheckF

section
/- bits: numbers as bytes and back. -/
namespace Q
open Go Go.Abs
set_option linter.unusedVariables false
set_option linter.unusedSimpArgs false

theorem bsw_more (w n m X : Nat) (hm : m ≤ n) (hX : X < 2 ^ (w * m)) : bsw w m X ++ List.replicate (n - m) 0 = bsw w n X := by
  refine List.ext_getElem (by simp; omega) (fun i h1 h2 => ?_)
  have hi : i < n := by simpa using h2
  rw [← getD_lt (d := 0) h2, bsw_getD _ _ _ _ hi]
  by_cases him : i < m
  · rw [List.getElem_append_left (by simpa using him), ← getD_lt (d := 0), bsw_getD _ _ _ _ him]
  · rw [List.getElem_append_right (by simp; omega), List.getElem_replicate, Nat.div_eq_of_lt]
    · rfl
    · exact Nat.lt_of_lt_of_le hX (p2_le (Nat.mul_le_mul (Nat.le_refl _) (by omega)))

theorem bits_Le (N s : Nat) (hN : N < 18446744073709551616) (hs : s ≤ 65536) {ρ : Type} (k : List Int → Option ρ) : P.bits_Le (N : Int) (s : Int) k = k (bsw 8 s N) := by
  rw [P.bits_Le_eq]
  unfold P.bits_Le_raw
  have em : (bif decide ((8 : Int) < (s : Int)) then (8 : Int) else (s : Int)) = ((min s 8 : Nat) : Int) := by
    by_cases h : (8 : Int) < (s : Int)
    · rw [decide_eq_true h]; simp only [cond_true]; omega
    · rw [decide_eq_false h]; simp only [cond_false]; omega
  simp only [toNat_cast]
  rw [em]
  simp (disch := omega) only [br_pos, br_neg, br_bne_pos, br_bne_neg, br_beq_pos, br_beq_neg, br_not, br_tt, br_ff, i64w]
  rw [P.bits_Le_l5_eq]
  unfold P.bits_Le_L5
  refine lp_go (fun i => ((N : Int), ((min s 8 : Nat) : Int), (i : Int), bsw 8 i N ++ List.replicate (s - i) 0)) (min s 8) (by simp [bsw]) (fun i hi next hn' => ?_) (fun next => ?_) (by omega)
  · simp only [P.bits_Le_r5, List.length_append, bsw_length, List.length_replicate, toNat_cast]
    rw [show (8 : Int) * (i : Int) = ((8 * i : Nat) : Int) by omega, i64w (x := ((8 * i : Nat) : Int)) (by omega) (by omega)]
    simp only [toNat_cast]
    rw [fdiv_pow N _ 64 (by omega), u8m]
    simp (disch := omega) only [br_pos, br_neg, br_bne_pos, br_bne_neg, br_beq_pos, br_beq_neg, br_not, br_tt, br_ff, i64w]
    rw [List.set_append_right _ _ (by simp), bsw_length, Nat.sub_self, show s - i = (s - (i + 1)) + 1 by omega, List.replicate_succ, List.set_cons_zero]
    rw [bsw_succ, List.append_assoc, List.singleton_append] at hn'
    exact hn'
  · simp only [P.bits_Le_r5]
    rw [br_neg (by omega)]
    by_cases h : s ≤ 8
    · rw [Nat.min_eq_left h, Nat.sub_self]; simp
    · rw [Nat.min_eq_right (by omega), bsw_more 8 s 8 N (by omega) (by omega)]

theorem set_map {f : Nat → Int} (n q : Nat) (v : Int) : ((List.range n).map f).set q v = (List.range n).map (fun j => if j = q then v else f j) := by
  refine List.ext_getElem (by simp) (fun i h1 h2 => ?_)
  simp only [List.getElem_set, List.getElem_map, List.getElem_range]
  by_cases h : q = i
  · rw [if_pos h, if_pos h.symm]
  · rw [if_neg h, if_neg (fun e => h e.symm)]
theorem map_getD {f : Nat → Int} (n q : Nat) (h : q < n) : ((List.range n).map f).getD q 0 = f q := by
  rw [getD_lt (by simpa using h)]; simp
theorem list_map (l : List Int) : l = (List.range l.length).map (fun j => l.getD j 0) := by
  refine List.ext_getElem (by simp) (fun i h1 h2 => ?_)
  simp only [List.getElem_map, List.getElem_range]
  rw [getD_lt h1]

theorem bits_Be (N s : Nat) (hN : N < 18446744073709551616) (hs : s ≤ 65536) {ρ : Type} (k : List Int → Option ρ) : P.bits_Be (N : Int) (s : Int) k = k (bsw 8 s N).reverse := by
  rw [P.bits_Be_eq]
  unfold P.bits_Be_raw
  rw [bits_Le N s hN hs, P.bits_Be_l1_1_eq]
  unfold P.bits_Be_L1_1
  simp only [bsw_length]
  rw [i64w (by omega) (by omega)]
  have hfin : (bsw 8 s N).reverse = (List.range s).map (fun q => (bsw 8 s N).getD (s - 1 - q) 0) := by
    refine List.ext_getElem (by simp) (fun i h1 h2 => ?_)
    have hi : i < s := by simpa using h2
    rw [List.getElem_reverse, List.getElem_map, List.getElem_range, getD_lt (by simp; omega)]
    congr 1; simp
  have h0 : bsw 8 s N = (List.range s).map (fun q => if q < 0 ∨ s - 0 ≤ q then (bsw 8 s N).getD (s - 1 - q) 0 else (bsw 8 s N).getD q 0) := by
    have e := list_map (bsw 8 s N)
    rw [bsw_length] at e
    refine e.trans (List.map_congr_left (fun q hq => ?_))
    have := List.mem_range.1 hq
    rw [if_neg (by omega)]
  generalize bsw 8 s N = l at h0 hfin
  refine lp_go (fun i => ((i : Int), (s : Int) - 1 - (i : Int), (List.range s).map (fun q => if q < i ∨ s - i ≤ q then l.getD (s - 1 - q) 0 else l.getD q 0))) (s / 2) (by rw [← h0]; simp) (fun i hi next hn' => ?_) (fun next => ?_) (by omega)
  · simp only [P.bits_Be_r1_1, List.length_map, List.length_range, List.length_set]
    rw [show (s : Int) - 1 - (i : Int) = ((s - 1 - i : Nat) : Int) by omega]
    simp only [toNat_cast]
    rw [map_getD _ _ (by omega), map_getD _ _ (by omega), if_neg (by omega), if_neg (by omega), set_map, set_map]
    have e : (List.range s).map (fun q => if q < i + 1 ∨ s - (i + 1) ≤ q then l.getD (s - 1 - q) 0 else l.getD q 0) = (List.range s).map (fun j => if j = s - 1 - i then l.getD i 0 else if j = i then l.getD (s - 1 - i) 0 else if j < i ∨ s - i ≤ j then l.getD (s - 1 - j) 0 else l.getD j 0) := by
      refine List.map_congr_left (fun q hq => ?_)
      have := List.mem_range.1 hq
      by_cases a1 : q = s - 1 - i
      · subst a1; rw [if_pos (by omega), if_pos rfl]; congr 1; omega
      · rw [if_neg a1]
        by_cases a2 : q = i
        · subst a2; rw [if_pos (by omega), if_pos rfl]
        · rw [if_neg a2]
          by_cases a3 : q < i ∨ s - i ≤ q
          · rw [if_pos (by omega), if_pos a3]
          · rw [if_neg (by omega), if_neg a3]
    rw [e] at hn'
    simp (disch := omega) only [br_pos, br_neg, br_bne_pos, br_bne_neg, br_beq_pos, br_beq_neg, br_not, br_tt, br_ff, i64w]
    rw [show ((s - 1 - i : Nat) : Int) - 1 = (s : Int) - 1 - ((i + 1 : Nat) : Int) by omega]
    exact hn'
  · simp only [P.bits_Be_r1_1]
    rw [br_neg (by omega), hfin]
    congr 1
    refine List.map_congr_left (fun q hq => ?_)
    have := List.mem_range.1 hq
    by_cases a3 : q < s / 2 ∨ s - s / 2 ≤ q
    · rw [if_pos a3]
    · rw [if_neg a3]; congr 1; omega

theorem bits_Num (b : List Int) (hb : In 256 b) (hn : b.length ≤ 1000000) {ρ : Type} (k : Int → Option ρ) : P.bits_Num b k = k ((T 8 b.reverse % 2 ^ 64 : Nat) : Int) := by
  rw [P.bits_Num_eq]
  unfold P.bits_Num_raw
  rw [P.bits_Num_l3_eq]
  unfold P.bits_Num_L3
  refine lp_go (fun i => (((T 8 (b.take i).reverse % 2 ^ 64 : Nat) : Int), b, (b.length : Int), (i : Int))) b.length (by simp [T]) (fun i hi next hn' => ?_) (fun next => ?_) (by omega)
  · obtain ⟨x, hx, hx2, hx3⟩ := byte_at hb i
    have est := rev_step b i hi
    rw [← hx3] at est
    simp only [P.bits_Num_r3, toNat_cast]
    have e1 : IntKind.u64.wrap (((T 8 (b.take i).reverse % 2 ^ 64 : Nat) : Int) * 2 ^ 8) = ((T 8 (b.take i).reverse % 2 ^ 56 * 2 ^ 8 : Nat) : Int) := by
      rw [u64m]; omega
    rw [hx, e1, u64n x (by omega), or_u64 _ _ (by omega) (by omega), or_shift _ _ _ (by omega),
      show T 8 (b.take i).reverse % 2 ^ 56 * 2 ^ 8 + x = T 8 (b.take (i + 1)).reverse % 2 ^ 64 by rw [est]; omega]
    simp (disch := omega) only [br_pos, br_neg, br_bne_pos, br_bne_neg, br_beq_pos, br_beq_neg, br_not, br_tt, br_ff, i64w]
    exact hn'
  · simp only [P.bits_Num_r3]
    rw [br_neg (by omega), List.take_length]

theorem bits_NumLe (b : List Int) (hb : In 256 b) (hn : b.length ≤ 1000000) {ρ : Type} (k : Int → Option ρ) : P.bits_NumLe b k = k ((T 8 (b.take 8) : Nat) : Int) := by
  rw [P.bits_NumLe_eq]
  unfold P.bits_NumLe_raw
  have em : (bif decide ((8 : Int) < (b.length : Int)) then (8 : Int) else (b.length : Int)) = ((min b.length 8 : Nat) : Int) := by
    by_cases h : (8 : Int) < (b.length : Int)
    · rw [decide_eq_true h]; simp only [cond_true]; omega
    · rw [decide_eq_false h]; simp only [cond_false]; omega
  rw [em, P.bits_NumLe_l3_eq]
  unfold P.bits_NumLe_L3
  refine lp_go (fun i => (b, ((T 8 (b.take i) : Nat) : Int), ((min b.length 8 : Nat) : Int), (i : Int))) (min b.length 8) (by simp [T]) (fun i hi next hn' => ?_) (fun next => ?_) (by omega)
  · obtain ⟨x, hx, hx2, hx3⟩ := byte_at hb i
    have hlt := T_lt 8 (b.take i)
    rw [List.length_take, Nat.min_eq_left (by omega)] at hlt
    have hp : 2 ^ (8 * i) ≤ 2 ^ 56 := p2_le (by omega)
    have hxp : x * 2 ^ (8 * i) ≤ 255 * 2 ^ 56 := Nat.mul_le_mul (by omega) hp
    have est := T_step 8 b i (by omega)
    rw [← hx3] at est
    simp only [P.bits_NumLe_r3, toNat_cast]
    rw [show (8 : Int) * (i : Int) = ((8 * i : Nat) : Int) by omega, i64w (x := ((8 * i : Nat) : Int)) (by omega) (by omega)]
    simp only [toNat_cast]
    rw [hx, u64n x (by omega), mul_pow x _ 64 (by omega), u64n _ (by omega), or_u64 _ _ (by omega) (by omega), or_high _ _ _ hlt, Nat.mul_comm x, ← est]
    simp (disch := omega) only [br_pos, br_neg, br_bne_pos, br_bne_neg, br_beq_pos, br_beq_neg, br_not, br_tt, br_ff, i64w]
    exact hn'
  · simp only [P.bits_NumLe_r3]
    rw [br_neg (by omega)]
    congr 3
    by_cases h : b.length ≤ 8
    · rw [Nat.min_eq_left h, List.take_length, List.take_of_length_le h]
    · rw [Nat.min_eq_right (by omega)]
end Q
end

section
open Go Go.Abs
set_option linter.unusedVariables false
namespace P
noncomputable def R01_Be_r5 {ρ : Type} (v0 : Int) (v6 : Int) (h0 : List Int) (nx : Int → Int → (List Int) → Option ρ) (k0 : Int → Int → (List Int) → Option ρ) : Option ρ :=
  br (decide (v6 ≥ (0 : Int)))
    (br (decide ((0 : Int) ≤ v6))
      (br (decide (v6 < (↑h0.length : Int)))
        (nx (v0.fdiv ((2 : Int) ^ 8)) (IntKind.i64.wrap (v6 - (1 : Int)))
          (h0.set v6.toNat (IntKind.u8.wrap (bits BinOp.and IntKind.u64 v0 (255 : Int)))))
        none)
      none)
    (k0 v0 v6 h0)
noncomputable def R01_Be_L5 {ρ : Type} (v0 : Int) (v6 : Int) (h0 : List Int) (k0 : Int → Int → (List Int) → Option ρ) : Option ρ :=
  lp (fun (x : Int × Int × (List Int)) (next : (Int × Int × (List Int)) → Option ρ) (ex : ((Int × Int × (List Int))) → Option ρ) => R01_Be_r5 x.1 x.2.1 x.2.2 (fun v0 v6 h0 => next (v0, v6, h0)) (fun v0 v6 h0 => ex ((v0, v6, h0)))) (v0, v6, h0) (fun x => k0 x.1 x.2.1 x.2.2)
noncomputable def R01_Be_l5 {ρ : Type} (v0 : Int) (v6 : Int) (h0 : List Int) (k0 : Int → Int → (List Int) → Option ρ) : Option ρ := shut (R01_Be_L5 (ρ := ρ)) v0 v6 h0 k0
theorem R01_Be_l5_eq {ρ : Type} (v0 : Int) (v6 : Int) (h0 : List Int) (k0 : Int → Int → (List Int) → Option ρ) : R01_Be_l5 v0 v6 h0 k0 = R01_Be_L5 v0 v6 h0 k0 := by unfold R01_Be_l5; rw [shut_eq]
noncomputable def R01_Be_raw {ρ : Type} (a0 : Int) (a1 : Int) (k : (List Int) → Option ρ) : Option ρ :=
  br (decide (a1 < (0 : Int))) (k [])
    (br (decide (a1 > (65536 : Int))) (k [])
      (br (decide ((0 : Int) ≤ a1))
        (br (decide (a1 ≤ a1))
          (br (decide (a1 * (↑1 : Int) ≤ (↑140737488355328 : Int)))
            (R01_Be_l5 a0 (IntKind.i64.wrap (a1 - (1 : Int))) (List.replicate a1.toNat (0 : Int))
              fun (q0 q1 : Int) (q2 : List Int) => k q2)
            none)
          none)
        none))
noncomputable def R01_Be {ρ : Type} (a0 : Int) (a1 : Int) (k : (List Int) → Option ρ) : Option ρ := shut (R01_Be_raw (ρ := ρ)) a0 a1 k
theorem R01_Be_eq {ρ : Type} (a0 : Int) (a1 : Int) (k : (List Int) → Option ρ) : R01_Be a0 a1 k = R01_Be_raw a0 a1 k := by unfold R01_Be; rw [shut_eq]

end P
end

section
open Go Go.Abs
set_option linter.unusedVariables false
namespace P
noncomputable def lmots_known_raw {ρ : Type} (a0 : Int) (k : Int → Int → Int → Bool → Option ρ) : Option ρ :=
  br (a0 == (1 : Int)) (k (265 : Int) (7 : Int) (1 : Int) true)
    (br (a0 == (2 : Int)) (k (133 : Int) (6 : Int) (2 : Int) true)
      (br (a0 == (4 : Int)) (k (67 : Int) (4 : Int) (3 : Int) true)
        (br (a0 == (8 : Int)) (k (34 : Int) (0 : Int) (4 : Int) true) (k (0 : Int) (0 : Int) (0 : Int) false))))
noncomputable def lmots_known {ρ : Type} (a0 : Int) (k : Int → Int → Int → Bool → Option ρ) : Option ρ := shut (lmots_known_raw (ρ := ρ)) a0 k
theorem lmots_known_eq {ρ : Type} (a0 : Int) (k : Int → Int → Int → Bool → Option ρ) : lmots_known a0 k = lmots_known_raw a0 k := by unfold lmots_known; rw [shut_eq]

end P
end

section
open Go Go.Abs
set_option linter.unusedVariables false
namespace P
noncomputable def lmots_Digits_r9 {ρ : Type} (v0 : Int) (v9 : Int) (v37 : Int) (v38 : Int) (h0_0 : Int) (h0_1 : Int) (h0_2 : Int) (h1 : List Int) (nx : Int → Int → Int → Int → Int → Int → Int → (List Int) → Option ρ) (k0 : Int → Int → Int → Int → Int → Int → Int → (List Int) → Option ρ) : Option ρ :=
  br (decide (v38 < v37))
    (br (decide ((0 : Int) ≤ v38))
      (br (decide (v38 < (↑h1.length : Int)))
        (nx v0 (IntKind.u64.wrap (v9 - IntKind.u64.wrap (h1.getD v38.toNat (0 : Int)))) v37
          (IntKind.i64.wrap (v38 + (1 : Int))) h0_0 h0_1 h0_2 h1)
        none)
      none)
    (k0 v0 v9 v37 v38 h0_0 h0_1 h0_2 h1)
noncomputable def lmots_Digits_L9 {ρ : Type} (v0 : Int) (v9 : Int) (v37 : Int) (v38 : Int) (h0_0 : Int) (h0_1 : Int) (h0_2 : Int) (h1 : List Int) (k0 : Int → Int → Int → Int → Int → Int → Int → (List Int) → Option ρ) : Option ρ :=
  lp (fun (x : Int × Int × Int × Int × Int × Int × Int × (List Int)) (next : (Int × Int × Int × Int × Int × Int × Int × (List Int)) → Option ρ) (ex : ((Int × Int × Int × Int × Int × Int × Int × (List Int))) → Option ρ) => lmots_Digits_r9 x.1 x.2.1 x.2.2.1 x.2.2.2.1 x.2.2.2.2.1 x.2.2.2.2.2.1 x.2.2.2.2.2.2.1 x.2.2.2.2.2.2.2 (fun v0 v9 v37 v38 h0_0 h0_1 h0_2 h1 => next (v0, v9, v37, v38, h0_0, h0_1, h0_2, h1)) (fun v0 v9 v37 v38 h0_0 h0_1 h0_2 h1 => ex ((v0, v9, v37, v38, h0_0, h0_1, h0_2, h1)))) (v0, v9, v37, v38, h0_0, h0_1, h0_2, h1) (fun x => k0 x.1 x.2.1 x.2.2.1 x.2.2.2.1 x.2.2.2.2.1 x.2.2.2.2.2.1 x.2.2.2.2.2.2.1 x.2.2.2.2.2.2.2)
noncomputable def lmots_Digits_l9 {ρ : Type} (v0 : Int) (v9 : Int) (v37 : Int) (v38 : Int) (h0_0 : Int) (h0_1 : Int) (h0_2 : Int) (h1 : List Int) (k0 : Int → Int → Int → Int → Int → Int → Int → (List Int) → Option ρ) : Option ρ := shut (lmots_Digits_L9 (ρ := ρ)) v0 v9 v37 v38 h0_0 h0_1 h0_2 h1 k0
theorem lmots_Digits_l9_eq {ρ : Type} (v0 : Int) (v9 : Int) (v37 : Int) (v38 : Int) (h0_0 : Int) (h0_1 : Int) (h0_2 : Int) (h1 : List Int) (k0 : Int → Int → Int → Int → Int → Int → Int → (List Int) → Option ρ) : lmots_Digits_l9 v0 v9 v37 v38 h0_0 h0_1 h0_2 h1 k0 = lmots_Digits_L9 v0 v9 v37 v38 h0_0 h0_1 h0_2 h1 k0 := by unfold lmots_Digits_l9; rw [shut_eq]
noncomputable def lmots_Digits_raw {ρ : Type} (a0 : Int) (a1 : List Int) (k : (List Int) → Int → Option ρ) : Option ρ :=
  lmots_known a0 fun (q0 q1 q2 : Int) (q3 : Bool) =>
    br (!q3) (k [] (9 : Int))
      (br ((↑a1.length : Int) != (32 : Int)) (k [] (14 : Int))
        (br (decide (a0 = (0 : Int))) none
          (bits_Digits a1 a0 (IntKind.i64.wrap (Int.tdiv (256 : Int) a0)) fun (q4 : List Int) =>
            br (decide (a0 < (0 : Int))) none
              (lmots_Digits_l9 a0
                (IntKind.u64.wrap
                  (IntKind.u64.wrap (↑q4.length : Int) *
                    IntKind.u64.wrap (IntKind.u64.wrap ((1 : Int) * (2 : Int) ^ min a0.toNat 64) - (1 : Int))))
                (↑q4.length : Int) (0 : Int) q0 q1 q2 q4 fun (q5 q6 q7 q8 q9 q10 q11 : Int) (q12 : List Int) =>
                br (decide (q10 < (0 : Int))) none
                  (bits_Be (IntKind.u64.wrap (q6 * (2 : Int) ^ min q10.toNat 64)) (2 : Int)
                    fun (q13 : List Int) =>
                    bits_Digits q13 q5 (IntKind.i64.wrap (q9 - (↑q12.length : Int))) fun (q14 : List Int) =>
                      br
                        (decide
                          ((q12.length + q14.length) *
                              4 ≤
                            140737488355328))
                        (k (q12 ++ q14) (0 : Int)) none)))))
noncomputable def lmots_Digits {ρ : Type} (a0 : Int) (a1 : List Int) (k : (List Int) → Int → Option ρ) : Option ρ := shut (lmots_Digits_raw (ρ := ρ)) a0 a1 k
theorem lmots_Digits_eq {ρ : Type} (a0 : Int) (a1 : List Int) (k : (List Int) → Int → Option ρ) : lmots_Digits a0 a1 k = lmots_Digits_raw a0 a1 k := by unfold lmots_Digits; rw [shut_eq]

end P
end

section
open Go Go.Abs
set_option linter.unusedVariables false
namespace P
noncomputable def R14_Kind_raw {ρ : Type} (a0 : Int) (k : Int → Int → Int → Option ρ) : Option ρ :=
  br (a0 == (1 : Int)) (k (265 : Int) (7 : Int) (1 : Int))
    (br (a0 == (2 : Int)) (k (133 : Int) (6 : Int) (2 : Int))
      (br (a0 == (4 : Int)) (k (67 : Int) (4 : Int) (3 : Int))
        (br (a0 == (8 : Int)) (k (34 : Int) (0 : Int) (4 : Int)) (k (0 : Int) (0 : Int) (0 : Int)))))
noncomputable def R14_Kind {ρ : Type} (a0 : Int) (k : Int → Int → Int → Option ρ) : Option ρ := shut (R14_Kind_raw (ρ := ρ)) a0 k
theorem R14_Kind_eq {ρ : Type} (a0 : Int) (k : Int → Int → Int → Option ρ) : R14_Kind a0 k = R14_Kind_raw a0 k := by unfold R14_Kind; rw [shut_eq]

end P
end

section
open Go Go.Abs
set_option linter.unusedVariables false
namespace P
noncomputable def R14_Digits_r9 {ρ : Type} (v0 : Int) (v1 : List Int) (v6 : Int) (v7 : Int) (v10 : Int) (v11 : Int) (h0 : List Int) (nx : Int → (List Int) → Int → Int → Int → Int → (List Int) → Option ρ) (k0 : Int → (List Int) → Int → Int → Int → Int → (List Int) → Option ρ) : Option ρ :=
  br (decide (v11 < (↑h0.length : Int)))
    (br (decide (v0 < (0 : Int))) none
      (br (decide ((0 : Int) ≤ v11))
        (br (decide (v11 < (↑h0.length : Int)))
          (nx v0 v1 v6 v7
            (IntKind.u64.wrap
              (IntKind.u64.wrap
                  (v10 +
                    IntKind.u64.wrap (IntKind.u64.wrap ((1 : Int) * (2 : Int) ^ min v0.toNat 64) - (1 : Int))) -
                IntKind.u64.wrap (h0.getD v11.toNat (0 : Int))))
            (IntKind.i64.wrap (v11 + (1 : Int))) h0)
          none)
        none))
    (k0 v0 v1 v6 v7 v10 v11 h0)
noncomputable def R14_Digits_L9 {ρ : Type} (v0 : Int) (v1 : List Int) (v6 : Int) (v7 : Int) (v10 : Int) (v11 : Int) (h0 : List Int) (k0 : Int → (List Int) → Int → Int → Int → Int → (List Int) → Option ρ) : Option ρ :=
  lp (fun (x : Int × (List Int) × Int × Int × Int × Int × (List Int)) (next : (Int × (List Int) × Int × Int × Int × Int × (List Int)) → Option ρ) (ex : ((Int × (List Int) × Int × Int × Int × Int × (List Int))) → Option ρ) => R14_Digits_r9 x.1 x.2.1 x.2.2.1 x.2.2.2.1 x.2.2.2.2.1 x.2.2.2.2.2.1 x.2.2.2.2.2.2 (fun v0 v1 v6 v7 v10 v11 h0 => next (v0, v1, v6, v7, v10, v11, h0)) (fun v0 v1 v6 v7 v10 v11 h0 => ex ((v0, v1, v6, v7, v10, v11, h0)))) (v0, v1, v6, v7, v10, v11, h0) (fun x => k0 x.1 x.2.1 x.2.2.1 x.2.2.2.1 x.2.2.2.2.1 x.2.2.2.2.2.1 x.2.2.2.2.2.2)
noncomputable def R14_Digits_l9 {ρ : Type} (v0 : Int) (v1 : List Int) (v6 : Int) (v7 : Int) (v10 : Int) (v11 : Int) (h0 : List Int) (k0 : Int → (List Int) → Int → Int → Int → Int → (List Int) → Option ρ) : Option ρ := shut (R14_Digits_L9 (ρ := ρ)) v0 v1 v6 v7 v10 v11 h0 k0
theorem R14_Digits_l9_eq {ρ : Type} (v0 : Int) (v1 : List Int) (v6 : Int) (v7 : Int) (v10 : Int) (v11 : Int) (h0 : List Int) (k0 : Int → (List Int) → Int → Int → Int → Int → (List Int) → Option ρ) : R14_Digits_l9 v0 v1 v6 v7 v10 v11 h0 k0 = R14_Digits_L9 v0 v1 v6 v7 v10 v11 h0 k0 := by unfold R14_Digits_l9; rw [shut_eq]
noncomputable def R14_Digits_raw {ρ : Type} (a0 : Int) (a1 : List Int) (k : (List Int) → Int → Option ρ) : Option ρ :=
  R14_Kind a0 fun (q0 q1 q2 : Int) =>
    br (q0 == (0 : Int)) (k [] (9 : Int))
      (br ((↑a1.length : Int) != (32 : Int)) (k [] (14 : Int))
        (br (decide (a0 = (0 : Int))) none
          (R01_Digits a1 a0 (IntKind.i64.wrap (Int.tdiv (256 : Int) a0)) fun (q3 : List Int) =>
            R14_Digits_l9 a0 a1 q0 q1 (0 : Int) (0 : Int) q3
              fun (q4 : Int) (q5 : List Int) (q6 q7 q8 q9 : Int) (q10 : List Int) =>
              br (decide (q7 < (0 : Int))) none
                (R01_Be (IntKind.u64.wrap (q8 * (2 : Int) ^ min q7.toNat 64)) (2 : Int)
                  fun (q11 : List Int) =>
                  R01_Join [q5, q11] fun (q12 : List Int) =>
                    R01_Digits q12 q4 q6 fun (q13 : List Int) => k q13 (0 : Int)))))
noncomputable def R14_Digits {ρ : Type} (a0 : Int) (a1 : List Int) (k : (List Int) → Int → Option ρ) : Option ρ := shut (R14_Digits_raw (ρ := ρ)) a0 a1 k
theorem R14_Digits_eq {ρ : Type} (a0 : Int) (a1 : List Int) (k : (List Int) → Int → Option ρ) : R14_Digits a0 a1 k = R14_Digits_raw a0 a1 k := by unfold R14_Digits; rw [shut_eq]

end P
end

section
open Go Go.Abs
set_option linter.unusedVariables false
namespace P
noncomputable def lmots_Size_raw {ρ : Type} (a0 : Int) (k : Int → Option ρ) : Option ρ :=
  lmots_known a0 fun (q0 q1 q2 : Int) (q3 : Bool) =>
    br (!q3) (k (0 : Int)) (k (IntKind.i64.wrap ((36 : Int) + IntKind.i64.wrap ((32 : Int) * q0))))
noncomputable def lmots_Size {ρ : Type} (a0 : Int) (k : Int → Option ρ) : Option ρ := shut (lmots_Size_raw (ρ := ρ)) a0 k
theorem lmots_Size_eq {ρ : Type} (a0 : Int) (k : Int → Option ρ) : lmots_Size a0 k = lmots_Size_raw a0 k := by unfold lmots_Size; rw [shut_eq]

end P
end

section
open Go Go.Abs
set_option linter.unusedVariables false
namespace P
noncomputable def R14_Size_raw {ρ : Type} (a0 : Int) (k : Int → Option ρ) : Option ρ :=
  R14_Kind a0 fun (q0 q1 q2 : Int) =>
    br (q0 == (0 : Int)) (k (0 : Int)) (k (IntKind.i64.wrap ((36 : Int) + IntKind.i64.wrap ((32 : Int) * q0))))
noncomputable def R14_Size {ρ : Type} (a0 : Int) (k : Int → Option ρ) : Option ρ := shut (R14_Size_raw (ρ := ρ)) a0 k
theorem R14_Size_eq {ρ : Type} (a0 : Int) (k : Int → Option ρ) : R14_Size a0 k = R14_Size_raw a0 k := by unfold R14_Size; rw [shut_eq]

end P
end

section
open Go Go.Abs
set_option linter.unusedVariables false
namespace P
noncomputable def L14_few_r2 {ρ : Type} (v5 : List (List Int)) (v6 : Int) (v7 : Int) (nx : (List (List Int)) → Int → Int → Option ρ) (k0 : (List (List Int)) → Int → Int → Option ρ) (k1 : Bool → Option ρ) : Option ρ :=
  br (decide (v7 < v6))
    (br (decide ((0 : Int) ≤ v7))
      (br (decide (v7 < (↑v5.length : Int)))
        (br (decide ((↑(v5.getD v7.toNat []).length : Int) > (300 : Int))) (k1 false)
          (nx v5 v6 (IntKind.i64.wrap (v7 + (1 : Int)))))
        none)
      none)
    (k0 v5 v6 v7)
noncomputable def L14_few_L2 {ρ : Type} (v5 : List (List Int)) (v6 : Int) (v7 : Int) (k0 : (List (List Int)) → Int → Int → Option ρ) (k1 : Bool → Option ρ) : Option ρ :=
  lp (fun (x : (List (List Int)) × Int × Int) (next : ((List (List Int)) × Int × Int) → Option ρ) (ex : (((List (List Int)) × Int × Int) ⊕ ((Bool))) → Option ρ) => L14_few_r2 x.1 x.2.1 x.2.2 (fun v5 v6 v7 => next (v5, v6, v7)) (fun v5 v6 v7 => ex (.inl (v5, v6, v7))) (fun v2 => ex (.inr v2))) (v5, v6, v7) (Sum.elim (fun x => k0 x.1 x.2.1 x.2.2) (fun x => k1 x))
noncomputable def L14_few_l2 {ρ : Type} (v5 : List (List Int)) (v6 : Int) (v7 : Int) (k0 : (List (List Int)) → Int → Int → Option ρ) (k1 : Bool → Option ρ) : Option ρ := shut (L14_few_L2 (ρ := ρ)) v5 v6 v7 k0 k1
theorem L14_few_l2_eq {ρ : Type} (v5 : List (List Int)) (v6 : Int) (v7 : Int) (k0 : (List (List Int)) → Int → Int → Option ρ) (k1 : Bool → Option ρ) : L14_few_l2 v5 v6 v7 k0 k1 = L14_few_L2 v5 v6 v7 k0 k1 := by unfold L14_few_l2; rw [shut_eq]
noncomputable def L14_few_raw {ρ : Type} (a0 : List (List Int)) (k : Bool → Option ρ) : Option ρ :=
  L14_few_l2 a0 (↑a0.length : Int) (0 : Int) (fun (q0 : List (List Int)) (q1 q2 : Int) => k true) fun (q3 : Bool) =>
    k q3
noncomputable def L14_few {ρ : Type} (a0 : List (List Int)) (k : Bool → Option ρ) : Option ρ := shut (L14_few_raw (ρ := ρ)) a0 k
theorem L14_few_eq {ρ : Type} (a0 : List (List Int)) (k : Bool → Option ρ) : L14_few a0 k = L14_few_raw a0 k := by unfold L14_few; rw [shut_eq]

end P
end

section
open Go Go.Abs
set_option linter.unusedVariables false
namespace P
noncomputable def L14_awake_r3 {ρ : Type} (v9 : Int) (v10 : Int) (h0 : List Int) (nx : Int → Int → (List Int) → Option ρ) (k0 : Int → Int → (List Int) → Option ρ) : Option ρ :=
  br (decide (v10 < v9))
    (br (decide ((0 : Int) ≤ v10))
      (br (decide (v10 < (↑h0.length : Int))) (nx v9 (IntKind.i64.wrap (v10 + (1 : Int))) (h0.set v10.toNat (255 : Int)))
        none)
      none)
    (k0 v9 v10 h0)
noncomputable def L14_awake_L3 {ρ : Type} (v9 : Int) (v10 : Int) (h0 : List Int) (k0 : Int → Int → (List Int) → Option ρ) : Option ρ :=
  lp (fun (x : Int × Int × (List Int)) (next : (Int × Int × (List Int)) → Option ρ) (ex : ((Int × Int × (List Int))) → Option ρ) => L14_awake_r3 x.1 x.2.1 x.2.2 (fun v9 v10 h0 => next (v9, v10, h0)) (fun v9 v10 h0 => ex ((v9, v10, h0)))) (v9, v10, h0) (fun x => k0 x.1 x.2.1 x.2.2)
noncomputable def L14_awake_l3 {ρ : Type} (v9 : Int) (v10 : Int) (h0 : List Int) (k0 : Int → Int → (List Int) → Option ρ) : Option ρ := shut (L14_awake_L3 (ρ := ρ)) v9 v10 h0 k0
theorem L14_awake_l3_eq {ρ : Type} (v9 : Int) (v10 : Int) (h0 : List Int) (k0 : Int → Int → (List Int) → Option ρ) : L14_awake_l3 v9 v10 h0 k0 = L14_awake_L3 v9 v10 h0 k0 := by unfold L14_awake_l3; rw [shut_eq]
noncomputable def L14_awake_raw {ρ : Type}  (k : Bool → Option ρ) : Option ρ :=
  L14_awake_l3 (↑32 : Int) (0 : Int) (List.replicate 32 (0 : Int))
    fun (q0 q1 : Int) (q2 : List Int) =>
    lmots_Digits (8 : Int) q2 fun (q3 : List Int) (q4 : Int) =>
      lmots_Digits (3 : Int) q2 fun (q5 : List Int) (q6 : Int) =>
        lmots_Size (4 : Int) fun (q7 : Int) =>
          br (q7 == (2180 : Int))
            (br (q4 == (0 : Int))
              (br ((↑q3.length : Int) == (34 : Int))
                (br (decide ((31 : Int) < (↑q3.length : Int)))
                  (br (q3.getD 31 (0 : Int) == (255 : Int))
                    (br (decide ((32 : Int) < (↑q3.length : Int)))
                      (br (q3.getD 32 (0 : Int) == (0 : Int))
                        (br (decide ((33 : Int) < (↑q3.length : Int)))
                          (br (q3.getD 33 (0 : Int) == (0 : Int)) (k (q6 == (9 : Int))) (k false)) none)
                        (k false))
                      none)
                    (k false))
                  none)
                (k false))
              (k false))
            (k false)
noncomputable def L14_awake {ρ : Type}  (k : Bool → Option ρ) : Option ρ := shut (L14_awake_raw (ρ := ρ))  k
theorem L14_awake_eq {ρ : Type}  (k : Bool → Option ρ) : L14_awake  k = L14_awake_raw  k := by unfold L14_awake; rw [shut_eq]

end P
end

section
/- lmots: digits. -/
namespace Q
open Go Go.Abs
set_option linter.unusedVariables false
set_option linter.unusedSimpArgs false

theorem R01_Be (N s : Nat) (hN : N < 18446744073709551616) (hs : s ≤ 65536) {ρ : Type} (k : List Int → Option ρ) : P.R01_Be (N : Int) (s : Int) k = k (bsw 8 s N).reverse := by
  rw [P.R01_Be_eq]
  unfold P.R01_Be_raw
  simp only [toNat_cast]
  simp (disch := omega) only [br_pos, br_neg, br_bne_pos, br_bne_neg, br_beq_pos, br_beq_neg, br_not, br_tt, br_ff, i64w]
  rw [P.R01_Be_l5_eq]
  unfold P.R01_Be_L5
  refine lp_go (fun j => (((N / 2 ^ (8 * j) : Nat) : Int), (s : Int) - 1 - (j : Int), List.replicate (s - j) 0 ++ (bsw 8 j N).reverse)) s (by simp [bsw]) (fun j hj next hn' => ?_) (fun next => ?_) (by omega)
  · simp only [P.R01_Be_r5, List.length_append, List.length_replicate, List.length_reverse, bsw_length]
    rw [show (s : Int) - 1 - (j : Int) = ((s - 1 - j : Nat) : Int) by omega]
    simp only [toNat_cast]
    have hd := Nat.div_le_self N (2 ^ (8 * j))
    have hb : bits .and .u64 ((N / 2 ^ (8 * j) : Nat) : Int) 255 = ((N / 2 ^ (8 * j) % 2 ^ 8 : Nat) : Int) := by
      rw [show (255 : Int) = ((2 ^ 8 - 1 : Nat) : Int) from rfl, and_u64 _ _ (by omega) (by omega), Nat.and_two_pow_sub_one_eq_mod]
    have hd2 : (((N / 2 ^ (8 * j) : Nat) : Int)).fdiv ((2 : Int) ^ 8) = ((N / 2 ^ (8 * (j + 1)) : Nat) : Int) := by
      rw [show ((2 : Int) ^ 8) = (2 : Int) ^ min 8 8 from rfl, fdiv_pow _ 8 8 (by omega), Nat.div_div_eq_div_mul, ← Nat.pow_add, Nat.mul_succ]
    rw [hb, hd2, u8n _ (by omega)]
    rw [bsw_succ, List.reverse_append, List.reverse_singleton, List.singleton_append] at hn'
    have hset : (List.replicate (s - j) (0 : Int) ++ (bsw 8 j N).reverse).set (s - 1 - j) ((N / 2 ^ (8 * j) % 2 ^ 8 : Nat) : Int) = List.replicate (s - (j + 1)) 0 ++ ((N / 2 ^ (8 * j) % 2 ^ 8 : Nat) : Int) :: (bsw 8 j N).reverse := by
      rw [show s - j = (s - (j + 1)) + 1 by omega, List.replicate_succ', List.append_assoc, List.set_append_right _ _ (by simp; omega), List.length_replicate, show s - 1 - j - (s - (j + 1)) = 0 by omega]
      rfl
    rw [hset]
    simp (disch := omega) only [br_pos, br_neg, br_bne_pos, br_bne_neg, br_beq_pos, br_beq_neg, br_not, br_tt, br_ff, i64w]
    rw [show ((s - 1 - j : Nat) : Int) - 1 = (s : Int) - 1 - ((j + 1 : Nat) : Int) by omega]
    exact hn'
  · simp only [P.R01_Be_r5]
    rw [br_neg (by omega), Nat.sub_self]; rfl

/-- the kinds: numbers, spare bits -/
def Kind (w p s : Nat) : Prop := (w = 1 ∧ p = 265 ∧ s = 7) ∨ (w = 2 ∧ p = 133 ∧ s = 6) ∨ (w = 4 ∧ p = 67 ∧ s = 4) ∨ (w = 8 ∧ p = 34 ∧ s = 0)
/-- the sum of the first digits -/
def sumTo (D : List Int) : Nat → Nat
  | 0 => 0
  | i + 1 => sumTo D i + (D.getD i 0).toNat
theorem sumTo_le (D : List Int) (w : Nat) (h : In (2 ^ w) D) : ∀ i, sumTo D i ≤ i * (2 ^ w - 1)
  | 0 => by simp [sumTo]
  | i + 1 => by
    have ih := sumTo_le D w h i
    have hp : ((2 : Int) ^ w) = ((2 ^ w : Nat) : Int) := by simp
    have := h.getD i (by rw [hp]; have := p2 w; omega)
    rw [hp] at this
    rw [Nat.succ_mul]; simp only [sumTo]; omega

theorem digits_in (b : List Int) (w c : Int) : In (2 ^ w.toNat) (digitsS b w c) := by
  unfold digitsS
  split
  · refine In.map (fun i _ => ⟨Int.natCast_nonneg _, ?_⟩)
    have := Nat.mod_lt (T 8 b.reverse / 2 ^ (8 * b.length - w.toNat * (i + 1))) (p2 w.toNat)
    have hp : ((2 : Int) ^ w.toNat) = ((2 ^ w.toNat : Nat) : Int) := by simp
    rw [hp]; unfold dg; omega
  · exact In.nil

/-- what the sum leaves -/
def left (w s : Nat) (b : List Int) : Nat := ((256 / w) * (2 ^ w - 1) - sumTo (digitsS b w ((256 / w : Nat) : Int)) (256 / w)) * 2 ^ s
/-- all digits -/
def allD (w p s : Nat) (b : List Int) : List Int := digitsS (b ++ (bsw 8 2 (left w s b)).reverse) w p

theorem kind_facts {w p s : Nat} (h : Kind w p s) : 1 ≤ w ∧ w ≤ 8 ∧ (256 / w) * w = 256 ∧ 256 / w ≤ p ∧ w * p = 272 - s ∧ s ≤ 7 ∧ (256 / w) * (2 ^ w - 1) * 2 ^ s < 65536 ∧ p ≤ 265 ∧ 2 ^ w ≤ 256 ∧ 2 ^ s ≤ 128 ∧ (256 / w) * (2 ^ w - 1) < 65536 := by
  rcases h with ⟨rfl, rfl, rfl⟩ | ⟨rfl, rfl, rfl⟩ | ⟨rfl, rfl, rfl⟩ | ⟨rfl, rfl, rfl⟩ <;> decide

theorem left_lt {w p s : Nat} (h : Kind w p s) (b : List Int) : left w s b < 65536 := by
  have f := kind_facts h
  unfold left
  have : ((256 / w) * (2 ^ w - 1) - sumTo (digitsS b w ((256 / w : Nat) : Int)) (256 / w)) * 2 ^ s ≤ (256 / w) * (2 ^ w - 1) * 2 ^ s := Nat.mul_le_mul (by omega) (Nat.le_refl _)
  omega

theorem digits_map (b : List Int) (w c : Nat) (h1 : 1 ≤ w) (h2 : w ≤ 24) (h : c * w ≤ b.length * 8) : digitsS b (w : Int) (c : Int) = (List.range c).map (dg w b.length (T 8 b.reverse)) := by
  unfold digitsS
  rw [if_pos (by refine ⟨by omega, by omega, by omega, ?_⟩; rw [← Int.natCast_mul]; omega)]
  simp only [toNat_cast]

/-- the digits of two texts: the one's, then the other's -/
theorem digits_app {w p s : Nat} (hk : Kind w p s) (b e : List Int) (hb : b.length = 32) (he : e.length = 2) :
    digitsS (b ++ e) w p = digitsS b w ((256 / w : Nat) : Int) ++ digitsS e w ((p - 256 / w : Nat) : Int) := by
  obtain ⟨f1, f2, f3, f4, f5, f6, f7, f8, f9, f10, f11⟩ := kind_facts hk
  have hpw : p * w = 272 - s := by rw [Nat.mul_comm]; exact f5
  rw [digits_map _ w p f1 (by omega) (by rw [List.length_append]; omega), digits_map _ w _ f1 (by omega) (by omega), digits_map _ w _ f1 (by omega) (by rw [Nat.sub_mul]; omega)]
  rw [show p = 256 / w + (p - 256 / w) by omega, List.range_add, List.map_append, List.map_map, show 256 / w + (p - 256 / w) - 256 / w = p - 256 / w by omega]
  have hT : T 8 (b ++ e).reverse = T 8 e.reverse + 2 ^ 16 * T 8 b.reverse := by
    rw [List.reverse_append, T_append, List.length_reverse, he]
  have hlt := T_lt 8 e.reverse
  rw [List.length_reverse, he] at hlt
  congr 1
  · refine List.map_congr_left (fun i hi => ?_)
    have hi := List.mem_range.1 hi
    have : w * (i + 1) ≤ w * (256 / w) := Nat.mul_le_mul (Nat.le_refl _) hi
    rw [Nat.mul_comm w (256 / w), f3] at this
    unfold dg
    rw [hT, List.length_append, hb, he, show 8 * (32 + 2) - w * (i + 1) = 16 + (8 * 32 - w * (i + 1)) by omega, Nat.pow_add, ← Nat.div_div_eq_div_mul, Nat.add_mul_div_left _ _ (p2 _), Nat.div_eq_of_lt hlt, Nat.zero_add]
  · refine List.map_congr_left (fun j hj => ?_)
    have hj := List.mem_range.1 hj
    have h3 : w * (256 / w + (j + 1)) ≤ w * p := Nat.mul_le_mul (Nat.le_refl _) (by omega)
    rw [Nat.mul_add, Nat.mul_comm w (256 / w), f3] at h3
    simp only [Function.comp]
    unfold dg
    rw [hT, List.length_append, hb, he, Nat.add_assoc, Nat.mul_add w (256 / w) (j + 1), Nat.mul_comm w (256 / w), f3, show 8 * (32 + 2) - (256 + w * (j + 1)) = 8 * 2 - w * (j + 1) by omega]
    congr 1
    rw [← piece_mod (T 8 e.reverse + 2 ^ 16 * T 8 b.reverse) (8 * 2 - w * (j + 1)) w 16 (by have h4 : w * (j + 1) = w * j + w := Nat.mul_succ w j; omega), Nat.add_mul_mod_self_left, Nat.mod_eq_of_lt hlt]
end Q
end

section
/- lmots: the digits as the program and as the document count them. -/
namespace Q
open Go Go.Abs
set_option linter.unusedVariables false
set_option linter.unusedSimpArgs false

theorem R14_Kind {w p s : Nat} (h : Kind w p s) : ∃ t : Int, ∀ {ρ : Type} (k : Int → Int → Int → Option ρ), P.R14_Kind (w : Int) k = k (p : Int) (s : Int) t := by
  rcases h with ⟨rfl, rfl, rfl⟩ | ⟨rfl, rfl, rfl⟩ | ⟨rfl, rfl, rfl⟩ | ⟨rfl, rfl, rfl⟩ 
  · exact ⟨1, fun k => by rw [P.R14_Kind_eq]; kernel_rfl⟩
  · exact ⟨2, fun k => by rw [P.R14_Kind_eq]; kernel_rfl⟩
  · exact ⟨3, fun k => by rw [P.R14_Kind_eq]; kernel_rfl⟩
  · exact ⟨4, fun k => by rw [P.R14_Kind_eq]; kernel_rfl⟩
theorem lmots_known {w p s : Nat} (h : Kind w p s) : ∃ t : Int, ∀ {ρ : Type} (k : Int → Int → Int → Bool → Option ρ), P.lmots_known (w : Int) k = k (p : Int) (s : Int) t true := by
  rcases h with ⟨rfl, rfl, rfl⟩ | ⟨rfl, rfl, rfl⟩ | ⟨rfl, rfl, rfl⟩ | ⟨rfl, rfl, rfl⟩ 
  · exact ⟨1, fun k => by rw [P.lmots_known_eq]; kernel_rfl⟩
  · exact ⟨2, fun k => by rw [P.lmots_known_eq]; kernel_rfl⟩
  · exact ⟨3, fun k => by rw [P.lmots_known_eq]; kernel_rfl⟩
  · exact ⟨4, fun k => by rw [P.lmots_known_eq]; kernel_rfl⟩
theorem kind_or (w : Int) : (∃ n p s : Nat, w = (n : Int) ∧ Kind n p s) ∨ (w ≠ 1 ∧ w ≠ 2 ∧ w ≠ 4 ∧ w ≠ 8) := by
  by_cases h1 : w = 1
  · exact .inl ⟨1, 265, 7, h1, by simp [Kind]⟩
  · by_cases h2 : w = 2
    · exact .inl ⟨2, 133, 6, h2, by simp [Kind]⟩
    · by_cases h4 : w = 4
      · exact .inl ⟨4, 67, 4, h4, by simp [Kind]⟩
      · by_cases h8 : w = 8
        · exact .inl ⟨8, 34, 0, h8, by simp [Kind]⟩
        · exact .inr ⟨h1, h2, h4, h8⟩
theorem R14_Kind_no {w : Int} (h : w ≠ 1 ∧ w ≠ 2 ∧ w ≠ 4 ∧ w ≠ 8) {ρ : Type} (k : Int → Int → Int → Option ρ) : P.R14_Kind w k = k 0 0 0 := by
  rw [P.R14_Kind_eq]; unfold P.R14_Kind_raw
  rw [br_beq_neg h.1, br_beq_neg h.2.1, br_beq_neg h.2.2.1, br_beq_neg h.2.2.2]
theorem lmots_known_no {w : Int} (h : w ≠ 1 ∧ w ≠ 2 ∧ w ≠ 4 ∧ w ≠ 8) {ρ : Type} (k : Int → Int → Int → Bool → Option ρ) : P.lmots_known w k = k 0 0 0 false := by
  rw [P.lmots_known_eq]; unfold P.lmots_known_raw
  rw [br_beq_neg h.1, br_beq_neg h.2.1, br_beq_neg h.2.2.1, br_beq_neg h.2.2.2]

theorem kind_pos {w p s : Nat} (h : Kind w p s) : ((p : Int) == 0) = false := by
  rcases h with ⟨rfl, rfl, rfl⟩ | ⟨rfl, rfl, rfl⟩ | ⟨rfl, rfl, rfl⟩ | ⟨rfl, rfl, rfl⟩ <;> rfl

theorem tdiv_w {w p s : Nat} (h : Kind w p s) : IntKind.i64.wrap (Int.tdiv (256 : Int) (w : Int)) = ((256 / w : Nat) : Int) := by
  rcases h with ⟨rfl, rfl, rfl⟩ | ⟨rfl, rfl, rfl⟩ | ⟨rfl, rfl, rfl⟩ | ⟨rfl, rfl, rfl⟩ <;> rfl

theorem num_at' {w : Nat} {b : List Int} (hb : In (2 ^ w) b) (t : Nat) : ∃ x : Nat, b.getD t 0 = (x : Int) ∧ x < 2 ^ w := by
  have hp : ((2 : Int) ^ w) = ((2 ^ w : Nat) : Int) := by simp
  have := hb.getD t (by rw [hp]; have := p2 w; omega)
  rw [hp] at this
  exact ⟨(b.getD t 0).toNat, by omega, by omega⟩
theorem sum_le {w p s : Nat} (hk : Kind w p s) (x : List Int) (i : Nat) : sumTo (digitsS x w ((256 / w : Nat) : Int)) i ≤ i * (2 ^ w - 1) := sumTo_le _ w (digits_in x w _) i

theorem lmots_Digits_kind {w p s : Nat} (hk : Kind w p s) (x : List Int) (hx : In 256 x) (hl : x.length = 32) {ρ : Type} (k : List Int → Int → Option ρ) : P.lmots_Digits (w : Int) x k = k (allD w p s x) 0 := by
  obtain ⟨t, ht⟩ := lmots_known hk
  obtain ⟨f1, f2, f3, f4, f5, f6, f7, f8, f9, f10, f11⟩ := kind_facts hk
  rw [P.lmots_Digits_eq]
  unfold P.lmots_Digits_raw
  have hn : (digitsS x w ((256 / w : Nat) : Int)).length = 256 / w := by
    rw [digits_map x w _ f1 (by omega) (by omega)]; simp
  rw [ht, br_not, br_tt, br_bne_neg (by omega), br_neg (by omega), tdiv_w hk, bits_Digits _ _ _ hx (by omega), br_neg (by omega), hn]
  have hm : IntKind.u64.wrap (((256 / w : Nat) : Int)) = ((256 / w : Nat) : Int) := u64n _ (by omega)
  simp only [toNat_cast]
  rw [hm, mask64 w (by omega), ← Int.natCast_mul, u64n _ (by omega), P.lmots_Digits_l9_eq]
  unfold P.lmots_Digits_L9
  refine lp_go (fun i => ((w : Int), ((256 / w * (2 ^ w - 1) - sumTo (digitsS x w ((256 / w : Nat) : Int)) i : Nat) : Int), ((256 / w : Nat) : Int), (i : Int), (p : Int), (s : Int), t, digitsS x w ((256 / w : Nat) : Int))) (256 / w) (by simp [sumTo]) (fun i hi next hn' => ?_) (fun next => ?_) (by omega)
  · obtain ⟨d, hd, hd2⟩ := num_at' (w := w) (digits_in x w ((256 / w : Nat) : Int)) i
    have hle := sum_le hk x (i + 1)
    have hle2 : (i + 1) * (2 ^ w - 1) ≤ 256 / w * (2 ^ w - 1) := Nat.mul_le_mul hi (Nat.le_refl _)
    simp only [sumTo, hd, Int.toNat_natCast] at hn' hle
    simp only [P.lmots_Digits_r9, toNat_cast]
    rw [hd, u64n d (by omega), show ((256 / w * (2 ^ w - 1) - sumTo (digitsS x w ((256 / w : Nat) : Int)) i : Nat) : Int) - (d : Int) = ((256 / w * (2 ^ w - 1) - (sumTo (digitsS x w ((256 / w : Nat) : Int)) i + d) : Nat) : Int) by omega, u64n _ (by omega)]
    simp (disch := omega) only [br_pos, br_neg, br_bne_pos, br_bne_neg, br_beq_pos, br_beq_neg, br_not, br_tt, br_ff, i64w, hn]
    exact hn'
  · simp only [P.lmots_Digits_r9]
    have hleft : (256 / w * (2 ^ w - 1) - sumTo (digitsS x w ((256 / w : Nat) : Int)) (256 / w)) * 2 ^ s = left w s x := rfl
    have hlt := left_lt hk x
    have hn2 : (digitsS (bsw 8 2 (left w s x)).reverse w ((p - 256 / w : Nat) : Int)).length = p - 256 / w := by
      rw [digits_map _ w _ f1 (by omega) (by rw [Nat.sub_mul, Nat.mul_comm p w, f5]; simp; omega)]; simp
    rw [br_neg (by omega), br_neg (by omega)]
    simp only [toNat_cast]
    rw [mul_pow _ s 64 (by omega), hleft, u64n _ (by omega), show (2 : Int) = ((2 : Nat) : Int) from rfl, bits_Be _ 2 (by omega) (by omega), hn, i64w (by omega) (by omega), show (p : Int) - ((256 / w : Nat) : Int) = ((p - 256 / w : Nat) : Int) by omega,
      bits_Digits _ _ _ (bsw_in 8 2 _).rev (by simp), hn2, br_pos (by omega)]
    unfold allD
    rw [digits_app hk x _ hl (by simp)]

theorem R14_Digits_kind {w p s : Nat} (hk : Kind w p s) (x : List Int) (hx : In 256 x) (hl : x.length = 32) {ρ : Type} (k : List Int → Int → Option ρ) : P.R14_Digits (w : Int) x k = k (allD w p s x) 0 := by
  obtain ⟨t, ht⟩ := R14_Kind hk
  obtain ⟨f1, f2, f3, f4, f5, f6, f7, f8, f9, f10, f11⟩ := kind_facts hk
  rw [P.R14_Digits_eq]
  unfold P.R14_Digits_raw
  have hn : (digitsS x w ((256 / w : Nat) : Int)).length = 256 / w := by
    rw [digits_map x w _ f1 (by omega) (by omega)]; simp
  rw [ht, kind_pos hk, br_ff, br_bne_neg (by omega), br_neg (by omega), tdiv_w hk, R01_Digits _ _ _ hx (by omega), P.R14_Digits_l9_eq]
  unfold P.R14_Digits_L9
  refine lp_go (fun i => ((w : Int), x, (p : Int), (s : Int), ((i * (2 ^ w - 1) - sumTo (digitsS x w ((256 / w : Nat) : Int)) i : Nat) : Int), (i : Int), digitsS x w ((256 / w : Nat) : Int))) (256 / w) (by simp [sumTo]) (fun i hi next hn' => ?_) (fun next => ?_) (by omega)
  · obtain ⟨d, hd, hd2⟩ := num_at' (w := w) (digits_in x w ((256 / w : Nat) : Int)) i
    have hle := sum_le hk x i
    have hle2 : (i + 1) * (2 ^ w - 1) ≤ 256 / w * (2 ^ w - 1) := Nat.mul_le_mul hi (Nat.le_refl _)
    have hs : (i + 1) * (2 ^ w - 1) = i * (2 ^ w - 1) + (2 ^ w - 1) := Nat.succ_mul i _
    simp only [sumTo, hd, Int.toNat_natCast] at hn'
    simp only [P.R14_Digits_r9, toNat_cast]
    rw [mask64 w (by omega), hd, u64n d (by omega), ← Int.natCast_add, u64n _ (by omega), show ((i * (2 ^ w - 1) - sumTo (digitsS x w ((256 / w : Nat) : Int)) i + (2 ^ w - 1) : Nat) : Int) - (d : Int) = (((i + 1) * (2 ^ w - 1) - (sumTo (digitsS x w ((256 / w : Nat) : Int)) i + d) : Nat) : Int) by omega, u64n _ (by omega)]
    simp (disch := omega) only [br_pos, br_neg, br_bne_pos, br_bne_neg, br_beq_pos, br_beq_neg, br_not, br_tt, br_ff, i64w, hn]
    exact hn'
  · simp only [P.R14_Digits_r9]
    have hleft : (256 / w * (2 ^ w - 1) - sumTo (digitsS x w ((256 / w : Nat) : Int)) (256 / w)) * 2 ^ s = left w s x := rfl
    have hlt := left_lt hk x
    have hf : [x, (bsw 8 2 (left w s x)).reverse].flatten = x ++ (bsw 8 2 (left w s x)).reverse := by simp
    rw [br_neg (by rw [hn]; omega), br_neg (by omega)]
    simp only [toNat_cast]
    rw [mul_pow _ s 64 (by omega), hleft, u64n _ (by omega), show (2 : Int) = ((2 : Nat) : Int) from rfl, R01_Be _ 2 (by omega) (by omega), R01_Join _ (by simp) (by rw [hf]; simp; omega), hf, R01_Digits _ _ _ (hx.app (bsw_in 8 2 _).rev) (by simp; omega)]
    rfl

theorem lmots_Digits_len {w p s : Nat} (hk : Kind w p s) (x : List Int) (hl : x.length ≠ 32) {ρ : Type} (k : List Int → Int → Option ρ) : P.lmots_Digits (w : Int) x k = k [] 14 := by
  obtain ⟨t, ht⟩ := lmots_known hk
  rw [P.lmots_Digits_eq]; unfold P.lmots_Digits_raw
  rw [ht, br_not, br_tt, br_bne_pos (by omega)]
theorem R14_Digits_len {w p s : Nat} (hk : Kind w p s) (x : List Int) (hl : x.length ≠ 32) {ρ : Type} (k : List Int → Int → Option ρ) : P.R14_Digits (w : Int) x k = k [] 14 := by
  obtain ⟨t, ht⟩ := R14_Kind hk
  rw [P.R14_Digits_eq]; unfold P.R14_Digits_raw
  rw [ht, kind_pos hk, br_ff, br_bne_pos (by omega)]
theorem lmots_Digits_no {w : Int} (h : w ≠ 1 ∧ w ≠ 2 ∧ w ≠ 4 ∧ w ≠ 8) (x : List Int) {ρ : Type} (k : List Int → Int → Option ρ) : P.lmots_Digits w x k = k [] 9 := by
  rw [P.lmots_Digits_eq]; unfold P.lmots_Digits_raw
  rw [lmots_known_no h, br_not, br_ff]
theorem R14_Digits_no {w : Int} (h : w ≠ 1 ∧ w ≠ 2 ∧ w ≠ 4 ∧ w ≠ 8) (x : List Int) {ρ : Type} (k : List Int → Int → Option ρ) : P.R14_Digits w x k = k [] 9 := by
  rw [P.R14_Digits_eq]; unfold P.R14_Digits_raw
  rw [R14_Kind_no h]; kernel_rfl

theorem lmots_Size {w p s : Nat} (hk : Kind w p s) {ρ : Type} (k : Int → Option ρ) : P.lmots_Size (w : Int) k = k ((36 + 32 * p : Nat) : Int) := by
  obtain ⟨t, ht⟩ := lmots_known hk
  obtain ⟨f1, f2, f3, f4, f5, f6, f7, f8, f9, f10, f11⟩ := kind_facts hk
  rw [P.lmots_Size_eq]; unfold P.lmots_Size_raw
  rw [ht, br_not, br_tt, i64w (x := (32 : Int) * (p : Int)) (by omega) (by omega), i64w (by omega) (by omega)]; rfl
theorem R14_Size {w p s : Nat} (hk : Kind w p s) {ρ : Type} (k : Int → Option ρ) : P.R14_Size (w : Int) k = k ((36 + 32 * p : Nat) : Int) := by
  obtain ⟨t, ht⟩ := R14_Kind hk
  obtain ⟨f1, f2, f3, f4, f5, f6, f7, f8, f9, f10, f11⟩ := kind_facts hk
  rw [P.R14_Size_eq]; unfold P.R14_Size_raw
  rw [ht, kind_pos hk, br_ff, i64w (x := (32 : Int) * (p : Int)) (by omega) (by omega), i64w (by omega) (by omega)]; rfl
theorem lmots_Size_no {w : Int} (h : w ≠ 1 ∧ w ≠ 2 ∧ w ≠ 4 ∧ w ≠ 8) {ρ : Type} (k : Int → Option ρ) : P.lmots_Size w k = k 0 := by
  rw [P.lmots_Size_eq]; unfold P.lmots_Size_raw
  rw [lmots_known_no h, br_not, br_ff]
theorem R14_Size_no {w : Int} (h : w ≠ 1 ∧ w ≠ 2 ∧ w ≠ 4 ∧ w ≠ 8) {ρ : Type} (k : Int → Option ρ) : P.R14_Size w k = k 0 := by
  rw [P.R14_Size_eq]; unfold P.R14_Size_raw
  rw [R14_Kind_no h]; kernel_rfl
theorem allD_len {w p s : Nat} (hk : Kind w p s) (x : List Int) (hl : x.length = 32) : (allD w p s x).length = p := by
  obtain ⟨f1, f2, f3, f4, f5, f6, f7, f8, f9, f10, f11⟩ := kind_facts hk
  unfold allD
  rw [digits_map _ w p f1 (by omega) (by rw [Nat.mul_comm, f5]; simp; omega)]; simp

theorem L14_few (l : List (List Int)) (hl : l.length ≤ 100) {ρ : Type} (k : Bool → Option ρ) : (P.L14_few l k = k true ∧ ∀ i, i < l.length → (l.getD i []).length ≤ 300) ∨ P.L14_few l k = k false := by
  rw [P.L14_few_eq]
  unfold P.L14_few_raw
  rw [P.L14_few_l2_eq]
  unfold P.L14_few_L2
  by_cases h : ∀ i, i < l.length → (l.getD i []).length ≤ 300
  · refine .inl ⟨lp_go (fun i => (l, (l.length : Int), (i : Int))) l.length rfl (fun i hi next hn' => ?_) (fun next => ?_) (by omega), h⟩
    · have := h i hi
      simp only [P.L14_few_r2, toNat_cast, Sum.elim_inl, Sum.elim_inr]
      simp (disch := omega) only [br_pos, br_neg, br_bne_pos, br_bne_neg, br_beq_pos, br_beq_neg, br_not, br_tt, br_ff, i64w]
      exact hn'
    · simp only [P.L14_few_r2, toNat_cast, Sum.elim_inl, Sum.elim_inr]
      rw [br_neg (by omega)]
  · refine .inr (lp_eq (P := fun x => ∃ j : Nat, x = (l, (l.length : Int), (j : Int)) ∧ ∃ i, j ≤ i ∧ i < l.length ∧ ¬ (l.getD i []).length ≤ 300) (μ := fun x => ((l.length : Int) - x.2.2).toNat) ?_ ⟨0, rfl, ?_⟩ (by simp only; omega))
    · rintro _ ⟨j, rfl, i, hji, hi, hb⟩ next hn
      simp only [P.L14_few_r2, toNat_cast, Sum.elim_inl, Sum.elim_inr]
      by_cases hj : ((l.getD j []).length : Int) > 300
      · simp (disch := omega) only [br_pos, br_neg, br_bne_pos, br_bne_neg, br_beq_pos, br_beq_neg, br_not, br_tt, br_ff, i64w]
      · simp (disch := omega) only [br_pos, br_neg, br_bne_pos, br_bne_neg, br_beq_pos, br_beq_neg, br_not, br_tt, br_ff, i64w]
        exact hn _ ⟨j + 1, rfl, i, by by_cases e : j = i <;> (try subst e) <;> omega, hi, hb⟩ (by simp only; omega)
    · have : ∃ i, ¬ (i < l.length → (l.getD i []).length ≤ 300) := Classical.not_forall.1 h
      obtain ⟨i, hi⟩ := this
      exact ⟨i, Nat.zero_le _, by by_cases e : i < l.length <;> simp_all, fun e => hi (fun _ => e)⟩

theorem L14_awake {ρ : Type} (k : Bool → Option ρ) : P.L14_awake k = k true := by
  rw [P.L14_awake_eq]
  unfold P.L14_awake_raw
  rw [P.L14_awake_l3_eq]
  unfold P.L14_awake_L3
  refine lp_go (fun i => ((32 : Int), (i : Int), List.replicate i (255 : Int) ++ List.replicate (32 - i) 0)) 32 rfl (fun i hi next hn' => ?_) (fun next => ?_) (by omega)
  · simp only [P.L14_awake_r3, toNat_cast, List.length_append, List.length_replicate]
    simp (disch := omega) only [br_pos, br_neg, br_bne_pos, br_bne_neg, br_beq_pos, br_beq_neg, br_not, br_tt, br_ff, i64w]
    rw [List.set_append_right _ _ (by simp), List.length_replicate, Nat.sub_self, show 32 - i = (32 - (i + 1)) + 1 by omega, List.replicate_succ, List.set_cons_zero]
    rw [show i + 1 = i + 1 from rfl, List.replicate_succ', List.append_assoc, List.singleton_append] at hn'
    exact hn'
  · simp only [P.L14_awake_r3]
    have hk8 : Kind 8 34 0 := by simp [Kind]
    have hk4 : Kind 4 67 4 := by simp [Kind]
    have hin : In 256 (List.replicate 32 (255 : Int) ++ List.replicate (32 - 32) 0) := by
      intro y hy
      simp at hy
      omega
    have e : allD 8 34 0 (List.replicate 32 (255 : Int) ++ List.replicate (32 - 32) 0) = List.replicate 32 (255 : Int) ++ [0, 0] := by decide +kernel
    rw [br_neg (by omega), show (8 : Int) = ((8 : Nat) : Int) from rfl, lmots_Digits_kind hk8 _ hin (by simp), lmots_Digits_no (by omega), show (4 : Int) = ((4 : Nat) : Int) from rfl, lmots_Size hk4, e]
    refine Eq.trans (b := k true) ?_ rfl
    kernel_rfl
end Q
end

section
/- wots: the digits of a text. -/
namespace Q
open Go Go.Abs
set_option linter.unusedVariables false
set_option linter.unusedSimpArgs false

def N3 (n : Nat) : Prop := n = 16 ∨ n = 24 ∨ n = 32
/-- what the sum leaves -/
def wl (n : Nat) (x : List Int) : Nat := 15 * (2 * n) - sumTo (digitsS x 4 ((2 * n : Nat) : Int)) (2 * n)
/-- all digits -/
def wd (n : Nat) (x : List Int) : List Int := digitsS x 4 ((2 * n : Nat) : Int) ++ [((wl n x / 2 ^ 8 : Nat) : Int), ((wl n x / 2 ^ 4 % 2 ^ 4 : Nat) : Int), ((wl n x % 2 ^ 4 : Nat) : Int)]

theorem wd4_len (n : Nat) (x : List Int) (hl : x.length = n) : (digitsS x 4 ((2 * n : Nat) : Int)).length = 2 * n := by
  rw [show (4 : Int) = ((4 : Nat) : Int) from rfl, digits_map x 4 (2 * n) (by omega) (by omega) (by omega)]; simp
theorem wd_in (n : Nat) (x : List Int) : In (2 ^ 4) (digitsS x 4 ((2 * n : Nat) : Int)) := digits_in x 4 _
theorem wd_len (n : Nat) (x : List Int) (hl : x.length = n) : (wd n x).length = 2 * n + 3 := by
  unfold wd; rw [List.length_append, wd4_len n x hl]; rfl
theorem wl_lt {n : Nat} (h : N3 n) (x : List Int) : wl n x < 961 := by
  unfold wl; rcases h with rfl | rfl | rfl <;> omega

theorem wots_l6 {n : Nat} (hn : N3 n) (x : List Int) (hl : x.length = n) {ρ : Type} (k0 : Int → Int → Int → List Int → Option ρ) :
    P.wots_Digits_l6 ((15 * (2 * n) : Nat) : Int) ((2 * n : Nat) : Int) 0 (digitsS x 4 ((2 * n : Nat) : Int)) k0 = k0 ((wl n x : Nat) : Int) ((2 * n : Nat) : Int) ((2 * n : Nat) : Int) (digitsS x 4 ((2 * n : Nat) : Int)) := by
  have hn2 : n ≤ 32 := by rcases hn with rfl | rfl | rfl <;> omega
  have hlen := wd4_len n x hl
  rw [P.wots_Digits_l6_eq]
  unfold P.wots_Digits_L6
  refine lp_go (fun i => (((15 * (2 * n) - sumTo (digitsS x 4 ((2 * n : Nat) : Int)) i : Nat) : Int), ((2 * n : Nat) : Int), (i : Int), digitsS x 4 ((2 * n : Nat) : Int))) (2 * n) (by simp [sumTo]) (fun i hi next hn' => ?_) (fun next => ?_) (by omega)
  · obtain ⟨d, hd, hd2⟩ := num_at' (w := 4) (wd_in n x) i
    have hle := sumTo_le (digitsS x 4 ((2 * n : Nat) : Int)) 4 (wd_in n x) (i + 1)
    simp only [sumTo, hd, Int.toNat_natCast] at hn' hle
    simp only [P.wots_Digits_r6, toNat_cast]
    rw [hd, show ((15 * (2 * n) - sumTo (digitsS x 4 ((2 * n : Nat) : Int)) i : Nat) : Int) - (d : Int) = ((15 * (2 * n) - (sumTo (digitsS x 4 ((2 * n : Nat) : Int)) i + d) : Nat) : Int) by omega, u32n _ (by omega)]
    simp (disch := omega) only [br_pos, br_neg, br_bne_pos, br_bne_neg, br_beq_pos, br_beq_neg, br_not, br_tt, br_ff, i64w, hlen]
    exact hn'
  · simp only [P.wots_Digits_r6]
    rw [br_neg (by omega)]
    rfl

theorem and15 (a : Nat) (h : a < 4294967296) : bits .and .u32 (a : Int) 15 = ((a % 2 ^ 4 : Nat) : Int) := by
  rw [show (15 : Int) = ((2 ^ 4 - 1 : Nat) : Int) from rfl, and_u32 _ _ h (by omega), Nat.and_two_pow_sub_one_eq_mod]

theorem wots_tail {n : Nat} (hn : N3 n) (x : List Int) (hx : In 256 x) (hl : x.length = n) {ρ : Type} (k : List Int → Option ρ) :
    (P.bits_Digits x (4 : Int) (IntKind.i64.wrap ((2 : Int) * ((n : Nat) : Int))) fun (q0 : List Int) =>
            P.wots_Digits_l6 (IntKind.u32.wrap (IntKind.i64.wrap ((15 : Int) * (↑q0.length : Int)))) (↑q0.length : Int)
              (0 : Int) q0 fun (q1 q2 q3 : Int) (q4 : List Int) =>
              br
                (decide
                  ((q4.length +
                        ([bits BinOp.and IntKind.u32 (q1.fdiv ((2 : Int) ^ 4)) (15 : Int),
                                  bits BinOp.and IntKind.u32 q1 (15 : Int)].length.add
                            0).succ) *
                      4 ≤
                    140737488355328))
                (k
                  (q4 ++
                    [q1.fdiv ((2 : Int) ^ 8),
                      bits BinOp.and IntKind.u32 (q1.fdiv ((2 : Int) ^ 4)) (15 : Int),
                      bits BinOp.and IntKind.u32 q1 (15 : Int)]))
                none) = k (wd n x) := by
  have hn2 : n ≤ 32 := by rcases hn with rfl | rfl | rfl <;> omega
  have hlen := wd4_len n x hl
  have hlt := wl_lt hn x
  rw [i64w (by omega) (by omega), show (2 : Int) * (n : Int) = ((2 * n : Nat) : Int) by omega, bits_Digits _ _ _ hx (by omega), hlen, i64w (x := (15 : Int) * ((2 * n : Nat) : Int)) (by omega) (by omega), show (15 : Int) * ((2 * n : Nat) : Int) = ((15 * (2 * n) : Nat) : Int) by omega, u32n _ (by omega), wots_l6 hn x hl, hlen]
  have e8 : ((wl n x : Nat) : Int).fdiv ((2 : Int) ^ 8) = ((wl n x / 2 ^ 8 : Nat) : Int) := fdiv_pow _ 8 8 (by omega)
  have e4 : ((wl n x : Nat) : Int).fdiv ((2 : Int) ^ 4) = ((wl n x / 2 ^ 4 : Nat) : Int) := fdiv_pow _ 4 4 (by omega)
  have hd := Nat.div_le_self (wl n x) (2 ^ 4)
  rw [e8, e4, and15 _ (by omega), and15 _ (by omega), br_pos (by show (2 * n + 3) * 4 ≤ _; omega)]
  rfl

theorem wots_Digits {n : Nat} (hn : N3 n) (x : List Int) (hx : In 256 x) (hl : x.length = n) {ρ : Type} (k : List Int → Option ρ) : P.wots_Digits (n : Int) x k = k (wd n x) := by
  rw [P.wots_Digits_eq]
  unfold P.wots_Digits_raw
  have ht := wots_tail hn x hx hl k
  rcases hn with rfl | rfl | rfl
  · rw [br_bne_neg (by rfl), br_bne_neg (by rw [hl])]
    exact ht
  · rw [br_bne_pos (by decide), br_bne_neg (by rfl), br_bne_neg (by rw [hl])]
    exact ht
  · rw [br_bne_pos (by decide), br_bne_pos (by decide), br_bne_neg (by rfl), br_bne_neg (by rw [hl])]
    exact ht

theorem wots_Put_4 (a : List Int) (v : Nat) (hv : v < 18446744073709551616) {ρ : Type} (k : List Int → Option ρ) : P.wots_Put a 4 (v : Int) k = k (a.take 24 ++ ((bsw 8 4 v).reverse.take 8 ++ a.drop (24 + min 8 (bsw 8 4 v).reverse.length))) := by
  rw [P.wots_Put_eq]
  unfold P.wots_Put_raw
  rw [br_beq_neg (by decide), br_beq_neg (by decide), br_beq_neg (by decide), br_beq_neg (by decide), br_beq_pos (by rfl), br_beq_pos (by rfl), br_pos (by decide), br_pos (by decide), show (4 : Int) = ((4 : Nat) : Int) from rfl, bits_Be _ 4 hv (by omega)]
  rfl
theorem wots_Put_2 (a : List Int) (v : Nat) (hv : v < 18446744073709551616) {ρ : Type} (k : List Int → Option ρ) : P.wots_Put a 2 (v : Int) k = k (a.take 16 ++ (([(bsw 8 4 v).reverse, List.replicate 12 (0 : Int)].flatten).take 16 ++ a.drop (16 + min 16 ([(bsw 8 4 v).reverse, List.replicate 12 (0 : Int)].flatten).length))) := by
  rw [P.wots_Put_eq]
  unfold P.wots_Put_raw
  rw [br_beq_neg (by decide), br_beq_neg (by decide), br_beq_pos (by rfl), show (4 : Int) = ((4 : Nat) : Int) from rfl, bits_Be _ 4 hv (by omega), bits_Join _ (by simp) (by simp)]
  rfl
theorem L17_awake {ρ : Type} (k : Bool → Option ρ) : P.L17_awake k = k true := by
  rw [P.L17_awake_eq]
  unfold P.L17_awake_raw
  rw [show (16 : Int) = ((16 : Nat) : Int) from rfl, wots_Digits (.inl rfl) _ (fun x hx => by rw [List.mem_replicate] at hx; omega) (by simp)]
  rw [show (7 : Int) = ((7 : Nat) : Int) from rfl, wots_Put_4 _ 7 (by omega), show P.wots_Put (ρ := ρ) _ 2 2 = P.wots_Put _ 2 ((2 : Nat) : Int) from rfl, wots_Put_2 _ 2 (by omega), wots_Put_4 _ 7 (by omega)]
  kernel_rfl
end Q
end

section
open Go Go.Abs
set_option linter.unusedVariables false
namespace P
noncomputable def L14_LmotsCheck_r8 {ρ : Type} (v7 : Int) (v12 : Bool) (v13 : Bool) (v55 : Int) (v56 : Int) (h0_0 : List Int) (h1_0 : List Int) (h2 : List Int) (h3 : List Int) (h4 : List Int) (nx : Int → Bool → Bool → Int → Int → (List Int) → (List Int) → (List Int) → (List Int) → (List Int) → Option ρ) (k0 : Int → Bool → Bool → Int → Int → (List Int) → (List Int) → (List Int) → (List Int) → (List Int) → Option ρ) (k1 : Bool → (List Int) → (List Int) → (List Int) → (List Int) → (List Int) → Option ρ) : Option ρ :=
  br (decide (v56 < v55))
    (br v12
      (br v13
        (br (decide ((0 : Int) ≤ v56))
          (br (decide (v56 < (↑h3.length : Int)))
            (br (decide (v7 < (0 : Int))) none
              (br
                (decide
                  (h3.getD v56.toNat (0 : Int) ≥ IntKind.u32.wrap ((1 : Int) * (2 : Int) ^ min v7.toNat 32)))
                (k1 false h0_0 h1_0 h2 h3 h4)
                (nx v7 true true v55 (IntKind.i64.wrap (v56 + (1 : Int))) h0_0 h1_0 h2 h3 h4)))
            none)
          none)
        (br (decide ((0 : Int) ≤ v56))
          (br (decide (v56 < (↑h3.length : Int)))
            (br (decide ((0 : Int) ≤ v56))
              (br (decide (v56 < (↑h4.length : Int)))
                (br (decide ((0 : Int) ≤ v56))
                  (br (decide (v56 < (↑h3.length : Int)))
                    (br (decide (v7 < (0 : Int))) none
                      (br
                        (decide
                          (h3.getD v56.toNat (0 : Int) ≥
                            IntKind.u32.wrap ((1 : Int) * (2 : Int) ^ min v7.toNat 32)))
                        (k1 false h0_0 h1_0 h2 h3 h4)
                        (nx v7 true (decide (h3.getD v56.toNat (0 : Int) > h4.getD v56.toNat (0 : Int))) v55
                          (IntKind.i64.wrap (v56 + (1 : Int))) h0_0 h1_0 h2 h3 h4)))
                    none)
                  none)
                none)
              none)
            none)
          none))
      (br (decide ((0 : Int) ≤ v56))
        (br (decide (v56 < (↑h3.length : Int)))
          (br (decide ((0 : Int) ≤ v56))
            (br (decide (v56 < (↑h4.length : Int)))
              (br v13
                (br (decide ((0 : Int) ≤ v56))
                  (br (decide (v56 < (↑h3.length : Int)))
                    (br (decide (v7 < (0 : Int))) none
                      (br
                        (decide
                          (h3.getD v56.toNat (0 : Int) ≥
                            IntKind.u32.wrap ((1 : Int) * (2 : Int) ^ min v7.toNat 32)))
                        (k1 false h0_0 h1_0 h2 h3 h4)
                        (nx v7 (decide (h3.getD v56.toNat (0 : Int) < h4.getD v56.toNat (0 : Int))) true v55
                          (IntKind.i64.wrap (v56 + (1 : Int))) h0_0 h1_0 h2 h3 h4)))
                    none)
                  none)
                (br (decide ((0 : Int) ≤ v56))
                  (br (decide (v56 < (↑h3.length : Int)))
                    (br (decide ((0 : Int) ≤ v56))
                      (br (decide (v56 < (↑h4.length : Int)))
                        (br (decide ((0 : Int) ≤ v56))
                          (br (decide (v56 < (↑h3.length : Int)))
                            (br (decide (v7 < (0 : Int))) none
                              (br
                                (decide
                                  (h3.getD v56.toNat (0 : Int) ≥
                                    IntKind.u32.wrap ((1 : Int) * (2 : Int) ^ min v7.toNat 32)))
                                (k1 false h0_0 h1_0 h2 h3 h4)
                                (nx v7 (decide (h3.getD v56.toNat (0 : Int) < h4.getD v56.toNat (0 : Int)))
                                  (decide (h3.getD v56.toNat (0 : Int) > h4.getD v56.toNat (0 : Int))) v55
                                  (IntKind.i64.wrap (v56 + (1 : Int))) h0_0 h1_0 h2 h3 h4)))
                            none)
                          none)
                        none)
                      none)
                    none)
                  none))
              none)
            none)
          none)
        none))
    (k0 v7 v12 v13 v55 v56 h0_0 h1_0 h2 h3 h4)
noncomputable def L14_LmotsCheck_L8 {ρ : Type} (v7 : Int) (v12 : Bool) (v13 : Bool) (v55 : Int) (v56 : Int) (h0_0 : List Int) (h1_0 : List Int) (h2 : List Int) (h3 : List Int) (h4 : List Int) (k0 : Int → Bool → Bool → Int → Int → (List Int) → (List Int) → (List Int) → (List Int) → (List Int) → Option ρ) (k1 : Bool → (List Int) → (List Int) → (List Int) → (List Int) → (List Int) → Option ρ) : Option ρ :=
  lp (fun (x : Int × Bool × Bool × Int × Int × (List Int) × (List Int) × (List Int) × (List Int) × (List Int)) (next : (Int × Bool × Bool × Int × Int × (List Int) × (List Int) × (List Int) × (List Int) × (List Int)) → Option ρ) (ex : ((Int × Bool × Bool × Int × Int × (List Int) × (List Int) × (List Int) × (List Int) × (List Int)) ⊕ ((Bool × (List Int) × (List Int) × (List Int) × (List Int) × (List Int)))) → Option ρ) => L14_LmotsCheck_r8 x.1 x.2.1 x.2.2.1 x.2.2.2.1 x.2.2.2.2.1 x.2.2.2.2.2.1 x.2.2.2.2.2.2.1 x.2.2.2.2.2.2.2.1 x.2.2.2.2.2.2.2.2.1 x.2.2.2.2.2.2.2.2.2 (fun v7 v12 v13 v55 v56 h0_0 h1_0 h2 h3 h4 => next (v7, v12, v13, v55, v56, h0_0, h1_0, h2, h3, h4)) (fun v7 v12 v13 v55 v56 h0_0 h1_0 h2 h3 h4 => ex (.inl (v7, v12, v13, v55, v56, h0_0, h1_0, h2, h3, h4))) (fun v6 h0_0 h1_0 h2 h3 h4 => ex (.inr (v6, h0_0, h1_0, h2, h3, h4)))) (v7, v12, v13, v55, v56, h0_0, h1_0, h2, h3, h4) (Sum.elim (fun x => k0 x.1 x.2.1 x.2.2.1 x.2.2.2.1 x.2.2.2.2.1 x.2.2.2.2.2.1 x.2.2.2.2.2.2.1 x.2.2.2.2.2.2.2.1 x.2.2.2.2.2.2.2.2.1 x.2.2.2.2.2.2.2.2.2) (fun x => k1 x.1 x.2.1 x.2.2.1 x.2.2.2.1 x.2.2.2.2.1 x.2.2.2.2.2))
noncomputable def L14_LmotsCheck_l8 {ρ : Type} (v7 : Int) (v12 : Bool) (v13 : Bool) (v55 : Int) (v56 : Int) (h0_0 : List Int) (h1_0 : List Int) (h2 : List Int) (h3 : List Int) (h4 : List Int) (k0 : Int → Bool → Bool → Int → Int → (List Int) → (List Int) → (List Int) → (List Int) → (List Int) → Option ρ) (k1 : Bool → (List Int) → (List Int) → (List Int) → (List Int) → (List Int) → Option ρ) : Option ρ := shut (L14_LmotsCheck_L8 (ρ := ρ)) v7 v12 v13 v55 v56 h0_0 h1_0 h2 h3 h4 k0 k1
theorem L14_LmotsCheck_l8_eq {ρ : Type} (v7 : Int) (v12 : Bool) (v13 : Bool) (v55 : Int) (v56 : Int) (h0_0 : List Int) (h1_0 : List Int) (h2 : List Int) (h3 : List Int) (h4 : List Int) (k0 : Int → Bool → Bool → Int → Int → (List Int) → (List Int) → (List Int) → (List Int) → (List Int) → Option ρ) (k1 : Bool → (List Int) → (List Int) → (List Int) → (List Int) → (List Int) → Option ρ) : L14_LmotsCheck_l8 v7 v12 v13 v55 v56 h0_0 h1_0 h2 h3 h4 k0 k1 = L14_LmotsCheck_L8 v7 v12 v13 v55 v56 h0_0 h1_0 h2 h3 h4 k0 k1 := by unfold L14_LmotsCheck_l8; rw [shut_eq]
noncomputable def L14_LmotsCheck_raw {ρ : Type} (a0 : Int) (a1 : List Int) (a2 : List Int) (k : Bool → Option ρ) : Option ρ :=
  br (decide ((0 : Int) ≤ a0.tmod (4 : Int)))
    (br (decide (a0.tmod (4 : Int) < (↑4 : Int)))
      (lmots_Digits ([(1 : Int), (2 : Int), (4 : Int), (8 : Int)].getD (a0.tmod (4 : Int)).toNat (0 : Int))
        (List.take 32 (List.drop 0 a1)) fun (q0 : List Int) (q1 : Int) =>
        lmots_Digits ([(1 : Int), (2 : Int), (4 : Int), (8 : Int)].getD (a0.tmod (4 : Int)).toNat (0 : Int))
          (List.take 32 (List.drop 0 a2)) fun (q2 : List Int) (q3 : Int) =>
          br (q1 != (0 : Int)) (k false)
            (br (q3 != (0 : Int)) (k false)
              (br ((↑q0.length : Int) != (↑q2.length : Int)) (k false)
                (lmots_Size ([(1 : Int), (2 : Int), (4 : Int), (8 : Int)].getD (a0.tmod (4 : Int)).toNat (0 : Int))
                  fun (q4 : Int) =>
                  br ((↑q0.length : Int) != IntKind.i64.wrap ((IntKind.i64.wrap (q4 - (36 : Int))).tdiv (32 : Int)))
                    (k false)
                    (L14_LmotsCheck_l8
                      ([(1 : Int), (2 : Int), (4 : Int), (8 : Int)].getD (a0.tmod (4 : Int)).toNat (0 : Int)) false false
                      (↑q0.length : Int) (0 : Int) a1 a2 [(1 : Int), (2 : Int), (4 : Int), (8 : Int)] q0 q2
                      (fun (q5 : Int) (q6 q7 : Bool) (q8 q9 : Int) (q10 q11 q12 q13 q14 : List Int) =>
                        br (q6 == !decide (q10 = q11))
                          (br (q7 == !decide (q10 = q11)) (L14_awake fun (q15 : Bool) => k q15) (k false)) (k false))
                      fun (q16 : Bool) (q17 q18 q19 q20 q21 : List Int) => k q16)))))
      none)
    none
noncomputable def L14_LmotsCheck {ρ : Type} (a0 : Int) (a1 : List Int) (a2 : List Int) (k : Bool → Option ρ) : Option ρ := shut (L14_LmotsCheck_raw (ρ := ρ)) a0 a1 a2 k
theorem L14_LmotsCheck_eq {ρ : Type} (a0 : Int) (a1 : List Int) (a2 : List Int) (k : Bool → Option ρ) : L14_LmotsCheck a0 a1 a2 k = L14_LmotsCheck_raw a0 a1 a2 k := by unfold L14_LmotsCheck; rw [shut_eq]

end P
end

section
/- The plain law of LmotsCheck. -/
namespace Q
open Go Go.Abs
set_option linter.unusedVariables false
set_option linter.unusedSimpArgs false

theorem dg_le (w L X Y : Nat) : ∀ c, w * c ≤ 8 * L → (∀ j, j < c → dg w L X j ≤ dg w L Y j) → X / 2 ^ (8 * L - w * c) % 2 ^ (w * c) ≤ Y / 2 ^ (8 * L - w * c) % 2 ^ (w * c)
  | 0, _, _ => by simp [Nat.mod_one]
  | c + 1, hc, h => by
    have hs : w * (c + 1) = w * c + w := Nat.mul_succ w c
    have ih := dg_le w L X Y c (by omega) (fun j hj => h j (by omega))
    have h1 := h c (by omega)
    have e1 := piece_up X (8 * L - w * (c + 1)) w (w * c)
    have e2 := piece_up Y (8 * L - w * (c + 1)) w (w * c)
    rw [show 8 * L - w * (c + 1) + w = 8 * L - w * c by omega, show w + w * c = w * (c + 1) by omega] at e1 e2
    rw [← e1, ← e2]
    unfold dg at h1
    have := Nat.mul_le_mul (Nat.le_refl (2 ^ w)) ih
    omega

theorem sum_eq (A B : List Int) : ∀ i, (∀ j, j < i → (B.getD j 0).toNat ≤ (A.getD j 0).toNat) → sumTo B i ≤ sumTo A i ∧ (sumTo A i ≤ sumTo B i → ∀ j, j < i → (A.getD j 0).toNat = (B.getD j 0).toNat)
  | 0, _ => ⟨by simp [sumTo], fun _ j hj => by omega⟩
  | i + 1, h => by
    obtain ⟨h1, h2⟩ := sum_eq A B i (fun j hj => h j (by omega))
    have h3 := h i (by omega)
    simp only [sumTo]
    refine ⟨by omega, fun hle j hj => ?_⟩
    by_cases e : j = i
    · subst e; omega
    · exact h2 (by omega) j (by omega)

theorem getD_app_l {l r : List Int} {d : Int} {i : Nat} (h : i < l.length) : (l ++ r).getD i d = l.getD i d := by
  rw [List.getD_eq_getElem?_getD, List.getD_eq_getElem?_getD, List.getElem?_append_left h]
theorem getD_app_r {l r : List Int} {d : Int} {i : Nat} (h : l.length ≤ i) : (l ++ r).getD i d = r.getD (i - l.length) d := by
  rw [List.getD_eq_getElem?_getD, List.getD_eq_getElem?_getD, List.getElem?_append_right h]
theorem allD_first {w p s : Nat} (hk : Kind w p s) (x : List Int) (hl : x.length = 32) (j : Nat) (hj : j < 256 / w) : (allD w p s x).getD j 0 = dg w 32 (T 8 x.reverse) j := by
  obtain ⟨f1, f2, f3, f4, f5, f6, f7, f8, f9, f10, f11⟩ := kind_facts hk
  unfold allD
  rw [digits_app hk x _ hl (by simp), digits_map x w _ f1 (by omega) (by omega), getD_app_l (by simpa using hj), map_getD _ _ hj, hl]
theorem allD_rest {w p s : Nat} (hk : Kind w p s) (x : List Int) (hl : x.length = 32) (j : Nat) (hj : j < p - 256 / w) : (allD w p s x).getD (256 / w + j) 0 = dg w 2 (left w s x) j := by
  obtain ⟨f1, f2, f3, f4, f5, f6, f7, f8, f9, f10, f11⟩ := kind_facts hk
  have hlt := left_lt hk x
  unfold allD
  rw [digits_app hk x _ hl (by simp), digits_map x w _ f1 (by omega) (by omega), getD_app_r (by simp)]
  rw [List.length_map, List.length_range, Nat.add_sub_cancel_left, digits_map _ w _ f1 (by omega) (by rw [Nat.sub_mul, Nat.mul_comm p w, f5]; simp; omega), map_getD _ _ hj, List.reverse_reverse, T_bsw, Nat.mod_eq_of_lt (by omega)]
  simp

theorem check {w p s : Nat} (hk : Kind w p s) (a b : List Int) (ha : In 256 a) (hb : In 256 b) (la : a.length = 32) (lb : b.length = 32)
    (h : ∀ j, j < p → ¬ (allD w p s a).getD j 0 < (allD w p s b).getD j 0) : a = b := by
  obtain ⟨f1, f2, f3, f4, f5, f6, f7, f8, f9, f10, f11⟩ := kind_facts hk
  have h1 : ∀ j, j < 256 / w → dg w 32 (T 8 b.reverse) j ≤ dg w 32 (T 8 a.reverse) j := fun j hj => by
    have := h j (by omega)
    rw [allD_first hk a la j hj, allD_first hk b lb j hj] at this
    omega
  have h2 : ∀ j, j < p - 256 / w → dg w 2 (left w s b) j ≤ dg w 2 (left w s a) j := fun j hj => by
    have := h (256 / w + j) (by omega)
    rw [allD_rest hk a la j hj, allD_rest hk b lb j hj] at this
    omega
  have hwr : w * (p - 256 / w) = 16 - s := by rw [Nat.mul_sub, f5, Nat.mul_comm w, f3]; omega
  have h3 := dg_le w 2 _ _ (p - 256 / w) (by omega) h2
  have la' := left_lt hk a
  have lb' := left_lt hk b
  have hdiv : ∀ x, left w s x / 2 ^ s = (256 / w) * (2 ^ w - 1) - sumTo (digitsS x w ((256 / w : Nat) : Int)) (256 / w) := fun x => by
    unfold left; exact Nat.mul_div_cancel _ (p2 s)
  have hsm : ∀ x, left w s x < 65536 → left w s x / 2 ^ s < 2 ^ (16 - s) := fun x hx => by
    rw [Nat.div_lt_iff_lt_mul (p2 s), ← Nat.pow_add, show 16 - s + s = 16 by omega]; omega
  rw [hwr, show 8 * 2 - (16 - s) = s by omega, Nat.mod_eq_of_lt (hsm b lb'), Nat.mod_eq_of_lt (hsm a la'), hdiv, hdiv] at h3
  have sa := sum_le hk a (256 / w)
  have sb := sum_le hk b (256 / w)
  have ga : ∀ x : List Int, x.length = 32 → ∀ j, j < 256 / w → (digitsS x w ((256 / w : Nat) : Int)).getD j 0 = dg w 32 (T 8 x.reverse) j := fun x hx j hj => by
    rw [digits_map x w _ f1 (by omega) (by omega), map_getD _ _ hj, hx]
  have h4 := sum_eq (digitsS a w ((256 / w : Nat) : Int)) (digitsS b w ((256 / w : Nat) : Int)) (256 / w) (fun j hj => by
    have := h1 j hj
    rw [ga a la j hj, ga b lb j hj]; omega)
  have h5 := h4.2 (by omega)
  have h6 : ∀ j, j < 256 / w → dg w 32 (T 8 a.reverse) j ≤ dg w 32 (T 8 b.reverse) j := fun j hj => by
    have := h5 j hj
    rw [ga a la j hj, ga b lb j hj] at this
    have h7 : (0 : Int) ≤ dg w 32 (T 8 a.reverse) j := by unfold dg; omega
    have h8 : (0 : Int) ≤ dg w 32 (T 8 b.reverse) j := by unfold dg; omega
    omega
  have hw256 : w * (256 / w) = 256 := by rw [Nat.mul_comm]; exact f3
  have m1 := dg_le w 32 _ _ (256 / w) (by omega) h1
  have m2 := dg_le w 32 _ _ (256 / w) (by omega) h6
  have ta := T_lt 8 a.reverse
  have tb := T_lt 8 b.reverse
  rw [List.length_reverse, la] at ta
  rw [List.length_reverse, lb] at tb
  rw [hw256, show 8 * 32 - 256 = 0 by omega, Nat.pow_zero, Nat.div_one, Nat.div_one, Nat.mod_eq_of_lt ta, Nat.mod_eq_of_lt tb] at m1 m2
  have e1 := bsw_T 8 a.reverse ha.rev
  have e2 := bsw_T 8 b.reverse hb.rev
  rw [Nat.le_antisymm m2 m1, List.length_reverse, la] at e1
  rw [List.length_reverse, lb] at e2
  exact List.reverse_inj.1 (e1.symm.trans e2)

/-- somewhere below -/
def less (A B : List Int) : Nat → Bool
  | 0 => false
  | i + 1 => less A B i || decide (A.getD i 0 < B.getD i 0)
theorem less_false (A B : List Int) : ∀ i, less A B i = false → ∀ j, j < i → ¬ A.getD j 0 < B.getD j 0
  | 0, _, j, hj => by omega
  | i + 1, h, j, hj => by
    simp only [less, Bool.or_eq_false_iff, decide_eq_false_iff_not] at h
    by_cases e : j = i
    · subst e; exact h.2
    · exact less_false A B i h.1 j (by omega)
theorem less_self (A : List Int) : ∀ i, less A A i = false
  | 0 => rfl
  | i + 1 => by simp only [less, less_self A i, Bool.false_or, decide_eq_false_iff_not]; omega
theorem less_all {w p s : Nat} (hk : Kind w p s) (a b : List Int) (ha : In 256 a) (hb : In 256 b) (la : a.length = 32) (lb : b.length = 32) : less (allD w p s a) (allD w p s b) p = !decide (a = b) := by
  by_cases e : a = b
  · rw [decide_eq_true e, e, less_self]; rfl
  · rw [decide_eq_false e]
    cases hh : less (allD w p s a) (allD w p s b) p
    · exact absurd (check hk a b ha hb la lb (less_false _ _ p hh)) e
    · rfl

theorem kind_of (x0 : Int) (h : 0 ≤ x0) : ∃ w p s : Nat, [(1 : Int), (2 : Int), (4 : Int), (8 : Int)].getD (x0.tmod (4 : Int)).toNat (0 : Int) = (w : Int) ∧ Kind w p s := by
  rw [Int.tmod_eq_emod_of_nonneg h]
  have : x0 % 4 = 0 ∨ x0 % 4 = 1 ∨ x0 % 4 = 2 ∨ x0 % 4 = 3 := by omega
  rcases this with e | e | e | e <;> rw [e]
  · exact ⟨1, 265, 7, rfl, by simp [Kind]⟩
  · exact ⟨2, 133, 6, rfl, by simp [Kind]⟩
  · exact ⟨4, 67, 4, rfl, by simp [Kind]⟩
  · exact ⟨8, 34, 0, rfl, by simp [Kind]⟩

theorem LmotsCheck (x0 : Int) (x1 : List Int) (x2 : List Int) (wx0 : wfI .u8 x0) (nx1 : x1.length = 32) (wx1 : ∀ x, x ∈ x1 → wfI .u8 x) (nx2 : x2.length = 32) (wx2 : ∀ x, x ∈ x2 → wfI .u8 x) {ρ : Type} (k : Bool → Option ρ) : P.L14_LmotsCheck x0 x1 x2 k = k true := by
  rw [P.L14_LmotsCheck_eq]
  unfold P.L14_LmotsCheck_raw
  have h0 := wf_u8 wx0
  have h1 := in_u8 wx1
  have h2 := in_u8 wx2
  have hm : 0 ≤ x0.tmod 4 ∧ x0.tmod 4 < 4 := by rw [Int.tmod_eq_emod_of_nonneg h0.1]; omega
  obtain ⟨w, p, s, e, hk⟩ := kind_of x0 h0.1
  obtain ⟨f1, f2, f3, f4, f5, f6, f7, f8, f9, f10, f11⟩ := kind_facts hk
  have l1 := allD_len hk x1 nx1
  have l2 := allD_len hk x2 nx2
  have es : IntKind.i64.wrap ((IntKind.i64.wrap (((36 + 32 * p : Nat) : Int) - (36 : Int))).tdiv (32 : Int)) = (p : Int) := by
    rw [i64w (x := ((36 + 32 * p : Nat) : Int) - (36 : Int)) (by omega) (by omega), Int.tdiv_eq_ediv_of_nonneg (by omega), i64w (by omega) (by omega)]; omega
  rw [br_pos hm.1, br_pos hm.2]
  simp only [e, List.drop_zero]
  rw [List.take_of_length_le (by omega), List.take_of_length_le (by omega), lmots_Digits_kind hk x1 h1 nx1, lmots_Digits_kind hk x2 h2 nx2, br_bne_neg rfl, br_bne_neg rfl, l1, l2, br_bne_neg rfl, lmots_Size hk, es, br_bne_neg rfl, P.L14_LmotsCheck_l8_eq]
  unfold P.L14_LmotsCheck_L8
  have hin1 : In (2 ^ w) (allD w p s x1) := digits_in _ _ _
  refine lp_go (fun i => ((w : Int), less (allD w p s x1) (allD w p s x2) i, less (allD w p s x2) (allD w p s x1) i, (p : Int), (i : Int), x1, x2, [(1 : Int), (2 : Int), (4 : Int), (8 : Int)], allD w p s x1, allD w p s x2)) p rfl (fun i hi next hn' => ?_) (fun next => ?_) (by omega)
  · obtain ⟨d, hd, hd2⟩ := num_at' (w := w) hin1 i
    have em : IntKind.u32.wrap ((1 : Int) * (2 : Int) ^ min w 32) = ((2 ^ w : Nat) : Int) := by
      rw [show (1 : Int) = ((1 : Nat) : Int) from rfl, mul_pow 1 w 32 (by omega), u32n _ (by omega)]; omega
    simp only [less] at hn'
    simp only [P.L14_LmotsCheck_r8, toNat_cast, Sum.elim_inl, Sum.elim_inr, em, l1, l2]
    rw [hd] at hn' ⊢
    cases c1 : less (allD w p s x1) (allD w p s x2) i <;> cases c2 : less (allD w p s x2) (allD w p s x1) i <;> rw [c1, c2] at hn' <;> simp only [Bool.true_or, Bool.false_or] at hn'
    · simp (disch := omega) only [br_pos, br_neg, br_bne_pos, br_bne_neg, br_beq_pos, br_beq_neg, br_not, br_tt, br_ff, i64w]
      exact hn'
    · simp (disch := omega) only [br_pos, br_neg, br_bne_pos, br_bne_neg, br_beq_pos, br_beq_neg, br_not, br_tt, br_ff, i64w]
      exact hn'
    · simp (disch := omega) only [br_pos, br_neg, br_bne_pos, br_bne_neg, br_beq_pos, br_beq_neg, br_not, br_tt, br_ff, i64w]
      exact hn'
    · simp (disch := omega) only [br_pos, br_neg, br_bne_pos, br_bne_neg, br_beq_pos, br_beq_neg, br_not, br_tt, br_ff, i64w]
      exact hn'
  · simp only [P.L14_LmotsCheck_r8, Sum.elim_inl, Sum.elim_inr]
    rw [br_neg (by omega), less_all hk x1 x2 h1 h2 nx1 nx2, less_all hk x2 x1 h2 h1 nx2 nx1, beq_self_eq_true, br_tt, show decide (x2 = x1) = decide (x1 = x2) from decide_eq_decide.2 ⟨Eq.symm, Eq.symm⟩, beq_self_eq_true, br_tt, L14_awake]
end Q
end

section
/- The plain law of WotsCheck. -/
namespace Q
open Go Go.Abs
set_option linter.unusedVariables false
set_option linter.unusedSimpArgs false

theorem wd_first {n : Nat} (x : List Int) (hl : x.length = n) (j : Nat) (hj : j < 2 * n) : (wd n x).getD j 0 = dg 4 n (T 8 x.reverse) j := by
  unfold wd
  rw [getD_app_l (by rw [wd4_len n x hl]; omega), show (4 : Int) = ((4 : Nat) : Int) from rfl, digits_map x 4 (2 * n) (by omega) (by omega) (by omega), map_getD _ _ hj, hl]
theorem wd_rest {n : Nat} (x : List Int) (hl : x.length = n) (j : Nat) : (wd n x).getD (2 * n + j) 0 = [((wl n x / 2 ^ 8 : Nat) : Int), ((wl n x / 2 ^ 4 % 2 ^ 4 : Nat) : Int), ((wl n x % 2 ^ 4 : Nat) : Int)].getD j 0 := by
  unfold wd
  rw [getD_app_r (by rw [wd4_len n x hl]; omega), wd4_len n x hl, Nat.add_sub_cancel_left]

theorem wcheck {n : Nat} (hn : N3 n) (a b : List Int) (ha : In 256 a) (hb : In 256 b) (la : a.length = n) (lb : b.length = n)
    (h : ∀ j, j < 2 * n + 3 → ¬ (wd n a).getD j 0 < (wd n b).getD j 0) : a = b := by
  have h1 : ∀ j, j < 2 * n → dg 4 n (T 8 b.reverse) j ≤ dg 4 n (T 8 a.reverse) j := fun j hj => by
    have := h j (by omega)
    rw [wd_first a la j hj, wd_first b lb j hj] at this
    omega
  have c0 := h (2 * n + 0) (by omega)
  have c1 := h (2 * n + 1) (by omega)
  have c2 := h (2 * n + 2) (by omega)
  rw [wd_rest a la, wd_rest b lb] at c0 c1 c2
  simp only [List.getD_cons_zero, List.getD_cons_succ] at c0 c1 c2
  have hle : wl n b ≤ wl n a := by omega
  have sa := sumTo_le (digitsS a 4 ((2 * n : Nat) : Int)) 4 (wd_in n a) (2 * n)
  have sb := sumTo_le (digitsS b 4 ((2 * n : Nat) : Int)) 4 (wd_in n b) (2 * n)
  have ga : ∀ x : List Int, x.length = n → ∀ j, j < 2 * n → (digitsS x 4 ((2 * n : Nat) : Int)).getD j 0 = dg 4 n (T 8 x.reverse) j := fun x hx j hj => by
    rw [show (4 : Int) = ((4 : Nat) : Int) from rfl, digits_map x 4 (2 * n) (by omega) (by omega) (by omega), map_getD _ _ hj, hx]
  have h4 := sum_eq (digitsS a 4 ((2 * n : Nat) : Int)) (digitsS b 4 ((2 * n : Nat) : Int)) (2 * n) (fun j hj => by
    have := h1 j hj
    rw [ga a la j hj, ga b lb j hj]; omega)
  unfold wl at hle
  have h5 := h4.2 (by omega)
  have h6 : ∀ j, j < 2 * n → dg 4 n (T 8 a.reverse) j ≤ dg 4 n (T 8 b.reverse) j := fun j hj => by
    have := h5 j hj
    rw [ga a la j hj, ga b lb j hj] at this
    have h7 : (0 : Int) ≤ dg 4 n (T 8 a.reverse) j := by unfold dg; omega
    have h8 : (0 : Int) ≤ dg 4 n (T 8 b.reverse) j := by unfold dg; omega
    omega
  have m1 := dg_le 4 n _ _ (2 * n) (by omega) h1
  have m2 := dg_le 4 n _ _ (2 * n) (by omega) h6
  have ta := T_lt 8 a.reverse
  have tb := T_lt 8 b.reverse
  rw [List.length_reverse, la] at ta
  rw [List.length_reverse, lb] at tb
  rw [show 4 * (2 * n) = 8 * n by omega, Nat.sub_self, Nat.pow_zero, Nat.div_one, Nat.div_one, Nat.mod_eq_of_lt ta, Nat.mod_eq_of_lt tb] at m1 m2
  have e1 := bsw_T 8 a.reverse ha.rev
  have e2 := bsw_T 8 b.reverse hb.rev
  rw [Nat.le_antisymm m2 m1, List.length_reverse, la] at e1
  rw [List.length_reverse, lb] at e2
  exact List.reverse_inj.1 (e1.symm.trans e2)

theorem wless_all {n : Nat} (hn : N3 n) (a b : List Int) (ha : In 256 a) (hb : In 256 b) (la : a.length = n) (lb : b.length = n) : less (wd n a) (wd n b) (2 * n + 3) = !decide (a = b) := by
  by_cases e : a = b
  · rw [decide_eq_true e, e, less_self]; rfl
  · rw [decide_eq_false e]
    cases hh : less (wd n a) (wd n b) (2 * n + 3)
    · exact absurd (wcheck hn a b ha hb la lb (less_false _ _ _ hh)) e
    · rfl
theorem wd_le {n : Nat} (hn : N3 n) (x : List Int) (hl : x.length = n) (i : Nat) : ¬ (wd n x).getD i 0 > 15 := by
  by_cases h : i < 2 * n
  · have := num_at' (w := 4) (wd_in n x) i
    obtain ⟨d, hd, hd2⟩ := this
    unfold wd
    rw [getD_app_l (by rw [wd4_len n x hl]; omega), hd]
    omega
  · rw [show i = 2 * n + (i - 2 * n) by omega, wd_rest x hl]
    have h9 := wl_lt hn x
    match i - 2 * n with
    | 0 => simp only [List.getD_cons_zero]; omega
    | 1 => simp only [List.getD_cons_zero, List.getD_cons_succ]; omega
    | 2 => simp only [List.getD_cons_zero, List.getD_cons_succ]; omega
    | q + 3 => simp

theorem size_of (x0 : Int) (h : 0 ≤ x0) : ∃ n : Nat, IntKind.i64.wrap ((16 : Int) + IntKind.i64.wrap ((8 : Int) * IntKind.i64.wrap (x0.tmod (3 : Int)))) = (n : Int) ∧ N3 n := by
  rw [Int.tmod_eq_emod_of_nonneg h]
  have : x0 % 3 = 0 ∨ x0 % 3 = 1 ∨ x0 % 3 = 2 := by omega
  rcases this with e | e | e <;> rw [e]
  · exact ⟨16, rfl, .inl rfl⟩
  · exact ⟨24, rfl, .inr (.inl rfl)⟩
  · exact ⟨32, rfl, .inr (.inr rfl)⟩

theorem WotsCheck (x0 : Int) (x1 : List Int) (x2 : List Int) (wx0 : wfI .u8 x0) (nx1 : x1.length = 32) (wx1 : ∀ x, x ∈ x1 → wfI .u8 x) (nx2 : x2.length = 32) (wx2 : ∀ x, x ∈ x2 → wfI .u8 x) {ρ : Type} (k : Bool → Option ρ) : P.L17_WotsCheck x0 x1 x2 k = k true := by
  rw [P.L17_WotsCheck_eq]
  unfold P.L17_WotsCheck_raw
  have h0 := wf_u8 wx0
  have h1 := (in_u8 wx1)
  have h2 := (in_u8 wx2)
  obtain ⟨n, e, hn⟩ := size_of x0 h0.1
  have hn2 : n ≤ 32 := by rcases hn with rfl | rfl | rfl <;> omega
  rw [e]
  simp only [List.drop_zero, Int.sub_zero, toNat_cast]
  have la : (x1.take n).length = n := by rw [List.length_take]; omega
  have lb : (x2.take n).length = n := by rw [List.length_take]; omega
  have l1 := wd_len n _ la
  have l2 := wd_len n _ lb
  have e3 : IntKind.i64.wrap (IntKind.i64.wrap ((2 : Int) * (n : Int)) + (3 : Int)) = ((2 * n + 3 : Nat) : Int) := by
    rw [i64w (x := (2 : Int) * (n : Int)) (by omega) (by omega), i64w (by omega) (by omega)]; omega
  rw [br_pos (by omega), br_pos (by omega), wots_Digits hn _ (h1.take n) la, br_pos (by omega), br_pos (by omega), wots_Digits hn _ (h2.take n) lb, e3, l1, l2, br_bne_neg (by rfl), br_bne_neg (by rfl), P.L17_WotsCheck_l7_eq]
  unfold P.L17_WotsCheck_L7
  refine lp_go (fun i => ((n : Int), less (wd n (x1.take n)) (wd n (x2.take n)) i, less (wd n (x2.take n)) (wd n (x1.take n)) i, ((2 * n + 3 : Nat) : Int), (i : Int), x1, x2, wd n (x1.take n), wd n (x2.take n))) (2 * n + 3) rfl (fun i hi next hn' => ?_) (fun next => ?_) (by omega)
  · have hle := wd_le hn (x1.take n) la i
    simp only [less] at hn'
    simp only [P.L17_WotsCheck_r7, toNat_cast, Sum.elim_inl, Sum.elim_inr, l1, l2]
    cases c1 : less (wd n (x1.take n)) (wd n (x2.take n)) i <;> cases c2 : less (wd n (x2.take n)) (wd n (x1.take n)) i <;> rw [c1, c2] at hn' <;> simp only [Bool.true_or, Bool.false_or] at hn'
    · simp (disch := omega) only [br_pos, br_neg, br_bne_pos, br_bne_neg, br_beq_pos, br_beq_neg, br_not, br_tt, br_ff, i64w]
      exact hn'
    · simp (disch := omega) only [br_pos, br_neg, br_bne_pos, br_bne_neg, br_beq_pos, br_beq_neg, br_not, br_tt, br_ff, i64w]
      exact hn'
    · simp (disch := omega) only [br_pos, br_neg, br_bne_pos, br_bne_neg, br_beq_pos, br_beq_neg, br_not, br_tt, br_ff, i64w]
      exact hn'
    · simp (disch := omega) only [br_pos, br_neg, br_bne_pos, br_bne_neg, br_beq_pos, br_beq_neg, br_not, br_tt, br_ff, i64w]
      exact hn'
  · simp only [P.L17_WotsCheck_r7, Sum.elim_inl, Sum.elim_inr, List.drop_zero, Int.sub_zero, toNat_cast]
    rw [br_neg (by omega), br_pos (by omega), br_pos (by omega), br_pos (by omega), br_pos (by omega), R01_Same _ _ (by omega), wless_all hn _ _ (h1.take n) (h2.take n) la lb, wless_all hn _ _ (h2.take n) (h1.take n) lb la, beq_self_eq_true, br_tt, show decide (x2.take n = x1.take n) = decide (x1.take n = x2.take n) from decide_eq_decide.2 ⟨Eq.symm, Eq.symm⟩, beq_self_eq_true, br_tt, L17_awake]
end Q
end
