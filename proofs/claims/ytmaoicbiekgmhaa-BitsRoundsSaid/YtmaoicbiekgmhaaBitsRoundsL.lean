/-
  BitsRounds, part L: an interpreter of my own over abstract values, the pure functions, the walks and the plain law.
-/

import Derived.Test.YtmaoicbiekgmhaaBitsRoundsK
import Derived.Test.YtmaoicbiekgmhaaBitsRoundsG
import Derived.Test.YtmaoicbiekgmhaaBitsRoundsF

section
/- bits: numbers as bytes and back. -/
namespace Q
open Go Go.Abs
set_option linter.unusedVariables false
set_option linter.unusedSimpArgs false

theorem bsw_more (w n m X : Nat) (hm : m ≤ n) (hX : X < 2 ^ (w * m)) : bsw w m X ++ List.replicate (n - m) 0 = bsw w n X := by
  refine List.ext_getElem (by simp; omega) (fun i h1 h2 => ?_)
  have hi : i < n := by simpa using h2
  rw [← getD_lt (d := 0) h2, bsw_getD _ _ _ _ hi]
  by_cases him : i < m
  · rw [List.getElem_append_left (by simpa using him), ← getD_lt (d := 0), bsw_getD _ _ _ _ him]
  · rw [List.getElem_append_right (by simp; omega), List.getElem_replicate, Nat.div_eq_of_lt]
    · rfl
    · exact Nat.lt_of_lt_of_le hX (p2_le (Nat.mul_le_mul (Nat.le_refl _) (by omega)))

theorem bits_Le (N s : Nat) (hN : N < 18446744073709551616) (hs : s ≤ 65536) {ρ : Type} (k : List Int → Option ρ) : P.bits_Le (N : Int) (s : Int) k = k (bsw 8 s N) := by
  rw [P.bits_Le_eq]
  unfold P.bits_Le_raw
  have em : (bif decide ((8 : Int) < (s : Int)) then (8 : Int) else (s : Int)) = ((min s 8 : Nat) : Int) := by
    by_cases h : (8 : Int) < (s : Int)
    · rw [decide_eq_true h]; simp only [cond_true]; omega
    · rw [decide_eq_false h]; simp only [cond_false]; omega
  simp only [toNat_cast]
  rw [em]
  simp (disch := omega) only [br_pos, br_neg, br_bne_pos, br_bne_neg, br_beq_pos, br_beq_neg, br_not, br_tt, br_ff, i64w]
  rw [P.bits_Le_l5_eq]
  unfold P.bits_Le_L5
  refine lp_go (fun i => ((N : Int), ((min s 8 : Nat) : Int), (i : Int), bsw 8 i N ++ List.replicate (s - i) 0)) (min s 8) (by simp [bsw]) (fun i hi next hn' => ?_) (fun next => ?_) (by omega)
  · simp only [P.bits_Le_r5, List.length_append, bsw_length, List.length_replicate, toNat_cast]
    rw [show (8 : Int) * (i : Int) = ((8 * i : Nat) : Int) by omega, i64w (x := ((8 * i : Nat) : Int)) (by omega) (by omega)]
    simp only [toNat_cast]
    rw [fdiv_pow N _ 64 (by omega), u8m]
    simp (disch := omega) only [br_pos, br_neg, br_bne_pos, br_bne_neg, br_beq_pos, br_beq_neg, br_not, br_tt, br_ff, i64w]
    rw [List.set_append_right _ _ (by simp), bsw_length, Nat.sub_self, show s - i = (s - (i + 1)) + 1 by omega, List.replicate_succ, List.set_cons_zero]
    rw [bsw_succ, List.append_assoc, List.singleton_append] at hn'
    exact hn'
  · simp only [P.bits_Le_r5]
    rw [br_neg (by omega)]
    by_cases h : s ≤ 8
    · rw [Nat.min_eq_left h, Nat.sub_self]; simp
    · rw [Nat.min_eq_right (by omega), bsw_more 8 s 8 N (by omega) (by omega)]

theorem set_map {f : Nat → Int} (n q : Nat) (v : Int) : ((List.range n).map f).set q v = (List.range n).map (fun j => if j = q then v else f j) := by
  refine List.ext_getElem (by simp) (fun i h1 h2 => ?_)
  simp only [List.getElem_set, List.getElem_map, List.getElem_range]
  by_cases h : q = i
  · rw [if_pos h, if_pos h.symm]
  · rw [if_neg h, if_neg (fun e => h e.symm)]
theorem map_getD {f : Nat → Int} (n q : Nat) (h : q < n) : ((List.range n).map f).getD q 0 = f q := by
  rw [getD_lt (by simpa using h)]; simp
theorem list_map (l : List Int) : l = (List.range l.length).map (fun j => l.getD j 0) := by
  refine List.ext_getElem (by simp) (fun i h1 h2 => ?_)
  simp only [List.getElem_map, List.getElem_range]
  rw [getD_lt h1]

theorem bits_Be (N s : Nat) (hN : N < 18446744073709551616) (hs : s ≤ 65536) {ρ : Type} (k : List Int → Option ρ) : P.bits_Be (N : Int) (s : Int) k = k (bsw 8 s N).reverse := by
  rw [P.bits_Be_eq]
  unfold P.bits_Be_raw
  rw [bits_Le N s hN hs, P.bits_Be_l1_1_eq]
  unfold P.bits_Be_L1_1
  simp only [bsw_length]
  rw [i64w (by omega) (by omega)]
  have hfin : (bsw 8 s N).reverse = (List.range s).map (fun q => (bsw 8 s N).getD (s - 1 - q) 0) := by
    refine List.ext_getElem (by simp) (fun i h1 h2 => ?_)
    have hi : i < s := by simpa using h2
    rw [List.getElem_reverse, List.getElem_map, List.getElem_range, getD_lt (by simp; omega)]
    congr 1; simp
  have h0 : bsw 8 s N = (List.range s).map (fun q => if q < 0 ∨ s - 0 ≤ q then (bsw 8 s N).getD (s - 1 - q) 0 else (bsw 8 s N).getD q 0) := by
    have e := list_map (bsw 8 s N)
    rw [bsw_length] at e
    refine e.trans (List.map_congr_left (fun q hq => ?_))
    have := List.mem_range.1 hq
    rw [if_neg (by omega)]
  generalize bsw 8 s N = l at h0 hfin
  refine lp_go (fun i => ((i : Int), (s : Int) - 1 - (i : Int), (List.range s).map (fun q => if q < i ∨ s - i ≤ q then l.getD (s - 1 - q) 0 else l.getD q 0))) (s / 2) (by rw [← h0]; simp) (fun i hi next hn' => ?_) (fun next => ?_) (by omega)
  · simp only [P.bits_Be_r1_1, List.length_map, List.length_range, List.length_set]
    rw [show (s : Int) - 1 - (i : Int) = ((s - 1 - i : Nat) : Int) by omega]
    simp only [toNat_cast]
    rw [map_getD _ _ (by omega), map_getD _ _ (by omega), if_neg (by omega), if_neg (by omega), set_map, set_map]
    have e : (List.range s).map (fun q => if q < i + 1 ∨ s - (i + 1) ≤ q then l.getD (s - 1 - q) 0 else l.getD q 0) = (List.range s).map (fun j => if j = s - 1 - i then l.getD i 0 else if j = i then l.getD (s - 1 - i) 0 else if j < i ∨ s - i ≤ j then l.getD (s - 1 - j) 0 else l.getD j 0) := by
      refine List.map_congr_left (fun q hq => ?_)
      have := List.mem_range.1 hq
      by_cases a1 : q = s - 1 - i
      · subst a1; rw [if_pos (by omega), if_pos rfl]; congr 1; omega
      · rw [if_neg a1]
        by_cases a2 : q = i
        · subst a2; rw [if_pos (by omega), if_pos rfl]
        · rw [if_neg a2]
          by_cases a3 : q < i ∨ s - i ≤ q
          · rw [if_pos (by omega), if_pos a3]
          · rw [if_neg (by omega), if_neg a3]
    rw [e] at hn'
    simp (disch := omega) only [br_pos, br_neg, br_bne_pos, br_bne_neg, br_beq_pos, br_beq_neg, br_not, br_tt, br_ff, i64w]
    rw [show ((s - 1 - i : Nat) : Int) - 1 = (s : Int) - 1 - ((i + 1 : Nat) : Int) by omega]
    exact hn'
  · simp only [P.bits_Be_r1_1]
    rw [br_neg (by omega), hfin]
    congr 1
    refine List.map_congr_left (fun q hq => ?_)
    have := List.mem_range.1 hq
    by_cases a3 : q < s / 2 ∨ s - s / 2 ≤ q
    · rw [if_pos a3]
    · rw [if_neg a3]; congr 1; omega

theorem bits_Num (b : List Int) (hb : In 256 b) (hn : b.length ≤ 1000000) {ρ : Type} (k : Int → Option ρ) : P.bits_Num b k = k ((T 8 b.reverse % 2 ^ 64 : Nat) : Int) := by
  rw [P.bits_Num_eq]
  unfold P.bits_Num_raw
  rw [P.bits_Num_l3_eq]
  unfold P.bits_Num_L3
  refine lp_go (fun i => (((T 8 (b.take i).reverse % 2 ^ 64 : Nat) : Int), b, (b.length : Int), (i : Int))) b.length (by simp [T]) (fun i hi next hn' => ?_) (fun next => ?_) (by omega)
  · obtain ⟨x, hx, hx2, hx3⟩ := byte_at hb i
    have est := rev_step b i hi
    rw [← hx3] at est
    simp only [P.bits_Num_r3, toNat_cast]
    have e1 : IntKind.u64.wrap (((T 8 (b.take i).reverse % 2 ^ 64 : Nat) : Int) * 2 ^ 8) = ((T 8 (b.take i).reverse % 2 ^ 56 * 2 ^ 8 : Nat) : Int) := by
      rw [u64m]; omega
    rw [hx, e1, u64n x (by omega), or_u64 _ _ (by omega) (by omega), or_shift _ _ _ (by omega),
      show T 8 (b.take i).reverse % 2 ^ 56 * 2 ^ 8 + x = T 8 (b.take (i + 1)).reverse % 2 ^ 64 by rw [est]; omega]
    simp (disch := omega) only [br_pos, br_neg, br_bne_pos, br_bne_neg, br_beq_pos, br_beq_neg, br_not, br_tt, br_ff, i64w]
    exact hn'
  · simp only [P.bits_Num_r3]
    rw [br_neg (by omega), List.take_length]

theorem bits_NumLe (b : List Int) (hb : In 256 b) (hn : b.length ≤ 1000000) {ρ : Type} (k : Int → Option ρ) : P.bits_NumLe b k = k ((T 8 (b.take 8) : Nat) : Int) := by
  rw [P.bits_NumLe_eq]
  unfold P.bits_NumLe_raw
  have em : (bif decide ((8 : Int) < (b.length : Int)) then (8 : Int) else (b.length : Int)) = ((min b.length 8 : Nat) : Int) := by
    by_cases h : (8 : Int) < (b.length : Int)
    · rw [decide_eq_true h]; simp only [cond_true]; omega
    · rw [decide_eq_false h]; simp only [cond_false]; omega
  rw [em, P.bits_NumLe_l3_eq]
  unfold P.bits_NumLe_L3
  refine lp_go (fun i => (b, ((T 8 (b.take i) : Nat) : Int), ((min b.length 8 : Nat) : Int), (i : Int))) (min b.length 8) (by simp [T]) (fun i hi next hn' => ?_) (fun next => ?_) (by omega)
  · obtain ⟨x, hx, hx2, hx3⟩ := byte_at hb i
    have hlt := T_lt 8 (b.take i)
    rw [List.length_take, Nat.min_eq_left (by omega)] at hlt
    have hp : 2 ^ (8 * i) ≤ 2 ^ 56 := p2_le (by omega)
    have hxp : x * 2 ^ (8 * i) ≤ 255 * 2 ^ 56 := Nat.mul_le_mul (by omega) hp
    have est := T_step 8 b i (by omega)
    rw [← hx3] at est
    simp only [P.bits_NumLe_r3, toNat_cast]
    rw [show (8 : Int) * (i : Int) = ((8 * i : Nat) : Int) by omega, i64w (x := ((8 * i : Nat) : Int)) (by omega) (by omega)]
    simp only [toNat_cast]
    rw [hx, u64n x (by omega), mul_pow x _ 64 (by omega), u64n _ (by omega), or_u64 _ _ (by omega) (by omega), or_high _ _ _ hlt, Nat.mul_comm x, ← est]
    simp (disch := omega) only [br_pos, br_neg, br_bne_pos, br_bne_neg, br_beq_pos, br_beq_neg, br_not, br_tt, br_ff, i64w]
    exact hn'
  · simp only [P.bits_NumLe_r3]
    rw [br_neg (by omega)]
    congr 3
    by_cases h : b.length ≤ 8
    · rw [Nat.min_eq_left h, List.take_length, List.take_of_length_le h]
    · rw [Nat.min_eq_right (by omega)]
end Q
end

section
open Go Go.Abs
set_option linter.unusedVariables false
namespace P
noncomputable def L01_BitsBack_r10 {ρ : Type} (v3 : List Int) (v4 : List Int) (v11 : Int) (v67 : List Int) (v68 : Int) (v69 : Int) (h0 : List Int) (h1 : List Int) (h2 : List Int) (h3 : List Int) (h4 : List Int) (nx : (List Int) → (List Int) → Int → (List Int) → Int → Int → (List Int) → (List Int) → (List Int) → (List Int) → (List Int) → Option ρ) (k0 : (List Int) → (List Int) → Int → (List Int) → Int → Int → (List Int) → (List Int) → (List Int) → (List Int) → (List Int) → Option ρ) (k1 : Bool → (List Int) → (List Int) → (List Int) → (List Int) → (List Int) → Option ρ) : Option ρ :=
  br (decide (v69 < v68))
    (br (decide ((0 : Int) ≤ v69))
      (br (decide (v69 < (↑v67.length : Int)))
        (br (decide ((0 : Int) ≤ v69))
          (br (decide (v69 < (↑h4.length : Int)))
            (br (decide (v11 < (0 : Int))) none
              (br (decide (IntKind.u32.wrap ((1 : Int) * (2 : Int) ^ min v11.toNat 32) = (0 : Int))) none
                (br
                  (h4.getD v69.toNat (0 : Int) !=
                    (v67.getD v69.toNat (0 : Int)).tmod
                      (IntKind.u32.wrap ((1 : Int) * (2 : Int) ^ min v11.toNat 32)))
                  (k1 false h0 h1 h2 h3 h4) (nx v3 v4 v11 v67 v68 (IntKind.i64.wrap (v69 + (1 : Int))) h0 h1 h2 h3 h4))))
            none)
          none)
        none)
      none)
    (k0 v3 v4 v11 v67 v68 v69 h0 h1 h2 h3 h4)
noncomputable def L01_BitsBack_L10 {ρ : Type} (v3 : List Int) (v4 : List Int) (v11 : Int) (v67 : List Int) (v68 : Int) (v69 : Int) (h0 : List Int) (h1 : List Int) (h2 : List Int) (h3 : List Int) (h4 : List Int) (k0 : (List Int) → (List Int) → Int → (List Int) → Int → Int → (List Int) → (List Int) → (List Int) → (List Int) → (List Int) → Option ρ) (k1 : Bool → (List Int) → (List Int) → (List Int) → (List Int) → (List Int) → Option ρ) : Option ρ :=
  lp (fun (x : (List Int) × (List Int) × Int × (List Int) × Int × Int × (List Int) × (List Int) × (List Int) × (List Int) × (List Int)) (next : ((List Int) × (List Int) × Int × (List Int) × Int × Int × (List Int) × (List Int) × (List Int) × (List Int) × (List Int)) → Option ρ) (ex : (((List Int) × (List Int) × Int × (List Int) × Int × Int × (List Int) × (List Int) × (List Int) × (List Int) × (List Int)) ⊕ ((Bool × (List Int) × (List Int) × (List Int) × (List Int) × (List Int)))) → Option ρ) => L01_BitsBack_r10 x.1 x.2.1 x.2.2.1 x.2.2.2.1 x.2.2.2.2.1 x.2.2.2.2.2.1 x.2.2.2.2.2.2.1 x.2.2.2.2.2.2.2.1 x.2.2.2.2.2.2.2.2.1 x.2.2.2.2.2.2.2.2.2.1 x.2.2.2.2.2.2.2.2.2.2 (fun v3 v4 v11 v67 v68 v69 h0 h1 h2 h3 h4 => next (v3, v4, v11, v67, v68, v69, h0, h1, h2, h3, h4)) (fun v3 v4 v11 v67 v68 v69 h0 h1 h2 h3 h4 => ex (.inl (v3, v4, v11, v67, v68, v69, h0, h1, h2, h3, h4))) (fun v10 h0 h1 h2 h3 h4 => ex (.inr (v10, h0, h1, h2, h3, h4)))) (v3, v4, v11, v67, v68, v69, h0, h1, h2, h3, h4) (Sum.elim (fun x => k0 x.1 x.2.1 x.2.2.1 x.2.2.2.1 x.2.2.2.2.1 x.2.2.2.2.2.1 x.2.2.2.2.2.2.1 x.2.2.2.2.2.2.2.1 x.2.2.2.2.2.2.2.2.1 x.2.2.2.2.2.2.2.2.2.1 x.2.2.2.2.2.2.2.2.2.2) (fun x => k1 x.1 x.2.1 x.2.2.1 x.2.2.2.1 x.2.2.2.2.1 x.2.2.2.2.2))
noncomputable def L01_BitsBack_l10 {ρ : Type} (v3 : List Int) (v4 : List Int) (v11 : Int) (v67 : List Int) (v68 : Int) (v69 : Int) (h0 : List Int) (h1 : List Int) (h2 : List Int) (h3 : List Int) (h4 : List Int) (k0 : (List Int) → (List Int) → Int → (List Int) → Int → Int → (List Int) → (List Int) → (List Int) → (List Int) → (List Int) → Option ρ) (k1 : Bool → (List Int) → (List Int) → (List Int) → (List Int) → (List Int) → Option ρ) : Option ρ := shut (L01_BitsBack_L10 (ρ := ρ)) v3 v4 v11 v67 v68 v69 h0 h1 h2 h3 h4 k0 k1
theorem L01_BitsBack_l10_eq {ρ : Type} (v3 : List Int) (v4 : List Int) (v11 : Int) (v67 : List Int) (v68 : Int) (v69 : Int) (h0 : List Int) (h1 : List Int) (h2 : List Int) (h3 : List Int) (h4 : List Int) (k0 : (List Int) → (List Int) → Int → (List Int) → Int → Int → (List Int) → (List Int) → (List Int) → (List Int) → (List Int) → Option ρ) (k1 : Bool → (List Int) → (List Int) → (List Int) → (List Int) → (List Int) → Option ρ) : L01_BitsBack_l10 v3 v4 v11 v67 v68 v69 h0 h1 h2 h3 h4 k0 k1 = L01_BitsBack_L10 v3 v4 v11 v67 v68 v69 h0 h1 h2 h3 h4 k0 k1 := by unfold L01_BitsBack_l10; rw [shut_eq]
noncomputable def L01_BitsBack_r20 {ρ : Type} (v3 : List Int) (v4 : List Int) (v105 : Int) (v106 : Int) (h4 : List Int) (h3 : List Int) (h2 : List Int) (h1 : List Int) (h0 : List Int) (h5 : List Int) (h6 : List Int) (h7 : List Int) (nx : (List Int) → (List Int) → Int → Int → (List Int) → (List Int) → (List Int) → (List Int) → (List Int) → (List Int) → (List Int) → (List Int) → Option ρ) (k0 : (List Int) → (List Int) → Int → Int → (List Int) → (List Int) → (List Int) → (List Int) → (List Int) → (List Int) → (List Int) → (List Int) → Option ρ) (k1 : Bool → (List Int) → (List Int) → (List Int) → (List Int) → (List Int) → (List Int) → (List Int) → (List Int) → Option ρ) : Option ρ :=
  br (decide (v106 < v105))
    (br (decide ((0 : Int) ≤ v106))
      (br (decide (v106 < (↑h7.length : Int)))
        (br (decide ((0 : Int) ≤ v106))
          (br (decide (v106 < (↑v3.length : Int)))
            (br (h7.getD v106.toNat (0 : Int) != IntKind.u32.wrap (v3.getD v106.toNat (0 : Int)))
              (k1 false h4 h3 h2 h1 h0 h5 h6 h7)
              (nx v3 v4 v105 (IntKind.i64.wrap (v106 + (1 : Int))) h4 h3 h2 h1 h0 h5 h6 h7))
            none)
          none)
        none)
      none)
    (k0 v3 v4 v105 v106 h4 h3 h2 h1 h0 h5 h6 h7)
noncomputable def L01_BitsBack_L20 {ρ : Type} (v3 : List Int) (v4 : List Int) (v105 : Int) (v106 : Int) (h4 : List Int) (h3 : List Int) (h2 : List Int) (h1 : List Int) (h0 : List Int) (h5 : List Int) (h6 : List Int) (h7 : List Int) (k0 : (List Int) → (List Int) → Int → Int → (List Int) → (List Int) → (List Int) → (List Int) → (List Int) → (List Int) → (List Int) → (List Int) → Option ρ) (k1 : Bool → (List Int) → (List Int) → (List Int) → (List Int) → (List Int) → (List Int) → (List Int) → (List Int) → Option ρ) : Option ρ :=
  lp (fun (x : (List Int) × (List Int) × Int × Int × (List Int) × (List Int) × (List Int) × (List Int) × (List Int) × (List Int) × (List Int) × (List Int)) (next : ((List Int) × (List Int) × Int × Int × (List Int) × (List Int) × (List Int) × (List Int) × (List Int) × (List Int) × (List Int) × (List Int)) → Option ρ) (ex : (((List Int) × (List Int) × Int × Int × (List Int) × (List Int) × (List Int) × (List Int) × (List Int) × (List Int) × (List Int) × (List Int)) ⊕ ((Bool × (List Int) × (List Int) × (List Int) × (List Int) × (List Int) × (List Int) × (List Int) × (List Int)))) → Option ρ) => L01_BitsBack_r20 x.1 x.2.1 x.2.2.1 x.2.2.2.1 x.2.2.2.2.1 x.2.2.2.2.2.1 x.2.2.2.2.2.2.1 x.2.2.2.2.2.2.2.1 x.2.2.2.2.2.2.2.2.1 x.2.2.2.2.2.2.2.2.2.1 x.2.2.2.2.2.2.2.2.2.2.1 x.2.2.2.2.2.2.2.2.2.2.2 (fun v3 v4 v105 v106 h4 h3 h2 h1 h0 h5 h6 h7 => next (v3, v4, v105, v106, h4, h3, h2, h1, h0, h5, h6, h7)) (fun v3 v4 v105 v106 h4 h3 h2 h1 h0 h5 h6 h7 => ex (.inl (v3, v4, v105, v106, h4, h3, h2, h1, h0, h5, h6, h7))) (fun v10 h4 h3 h2 h1 h0 h5 h6 h7 => ex (.inr (v10, h4, h3, h2, h1, h0, h5, h6, h7)))) (v3, v4, v105, v106, h4, h3, h2, h1, h0, h5, h6, h7) (Sum.elim (fun x => k0 x.1 x.2.1 x.2.2.1 x.2.2.2.1 x.2.2.2.2.1 x.2.2.2.2.2.1 x.2.2.2.2.2.2.1 x.2.2.2.2.2.2.2.1 x.2.2.2.2.2.2.2.2.1 x.2.2.2.2.2.2.2.2.2.1 x.2.2.2.2.2.2.2.2.2.2.1 x.2.2.2.2.2.2.2.2.2.2.2) (fun x => k1 x.1 x.2.1 x.2.2.1 x.2.2.2.1 x.2.2.2.2.1 x.2.2.2.2.2.1 x.2.2.2.2.2.2.1 x.2.2.2.2.2.2.2.1 x.2.2.2.2.2.2.2.2))
noncomputable def L01_BitsBack_l20 {ρ : Type} (v3 : List Int) (v4 : List Int) (v105 : Int) (v106 : Int) (h4 : List Int) (h3 : List Int) (h2 : List Int) (h1 : List Int) (h0 : List Int) (h5 : List Int) (h6 : List Int) (h7 : List Int) (k0 : (List Int) → (List Int) → Int → Int → (List Int) → (List Int) → (List Int) → (List Int) → (List Int) → (List Int) → (List Int) → (List Int) → Option ρ) (k1 : Bool → (List Int) → (List Int) → (List Int) → (List Int) → (List Int) → (List Int) → (List Int) → (List Int) → Option ρ) : Option ρ := shut (L01_BitsBack_L20 (ρ := ρ)) v3 v4 v105 v106 h4 h3 h2 h1 h0 h5 h6 h7 k0 k1
theorem L01_BitsBack_l20_eq {ρ : Type} (v3 : List Int) (v4 : List Int) (v105 : Int) (v106 : Int) (h4 : List Int) (h3 : List Int) (h2 : List Int) (h1 : List Int) (h0 : List Int) (h5 : List Int) (h6 : List Int) (h7 : List Int) (k0 : (List Int) → (List Int) → Int → Int → (List Int) → (List Int) → (List Int) → (List Int) → (List Int) → (List Int) → (List Int) → (List Int) → Option ρ) (k1 : Bool → (List Int) → (List Int) → (List Int) → (List Int) → (List Int) → (List Int) → (List Int) → (List Int) → Option ρ) : L01_BitsBack_l20 v3 v4 v105 v106 h4 h3 h2 h1 h0 h5 h6 h7 k0 k1 = L01_BitsBack_L20 v3 v4 v105 v106 h4 h3 h2 h1 h0 h5 h6 h7 k0 k1 := by unfold L01_BitsBack_l20; rw [shut_eq]
noncomputable def L01_BitsBack_raw {ρ : Type} (a0 : Int) (a1 : List Int) (a2 : Int) (a3 : List Int) (a4 : List Int) (k : Bool → Option ρ) : Option ρ :=
  br (decide ((↑a1.length : Int) > (400 : Int))) (L01_awake fun (q0 : Bool) => k q0)
    (br (decide (IntKind.i64.wrap ((↑a3.length : Int) + (↑a4.length : Int)) > (1000 : Int)))
      (L01_awake fun (q1 : Bool) => k q1)
      (bits_Be a0 (8 : Int) fun (q2 : List Int) =>
        bits_Num q2 fun (q3 : Int) =>
          br (q3 != a0) (k false)
            (bits_Le a0 (8 : Int) fun (q4 : List Int) =>
              bits_NumLe q4 fun (q5 : Int) =>
                br (q5 != a0) (k false)
                  (bits_Be a0 (3 : Int) fun (q6 : List Int) =>
                    bits_Num q6 fun (q7 : Int) =>
                      br (q7 != a0.tmod (16777216 : Int)) (k false)
                        (bits_Pack a1 (IntKind.i64.wrap ((1 : Int) + IntKind.i64.wrap (a2.tmod (24 : Int))))
                          fun (q8 : List Int) =>
                          bits_Unpack q8 (IntKind.i64.wrap ((1 : Int) + IntKind.i64.wrap (a2.tmod (24 : Int))))
                            (↑a1.length : Int) fun (q9 : List Int) =>
                            br ((↑q9.length : Int) != (↑a1.length : Int)) (k false)
                              (L01_BitsBack_l10 a3 a4
                                (IntKind.i64.wrap ((1 : Int) + IntKind.i64.wrap (a2.tmod (24 : Int)))) a1
                                (↑a1.length : Int) (0 : Int) q2 q4 q6 q8 q9
                                (fun (q10 q11 : List Int) (q12 : Int) (q13 : List Int) (q14 q15 : Int)
                                    (q16 q17 q18 q19 q20 : List Int) =>
                                  br
                                    (decide
                                      ((0 : Int) ≤
                                        IntKind.i64.wrap
                                          (IntKind.i64.wrap ((↑q10.length : Int).tdiv (3 : Int)) * (3 : Int))))
                                    (br
                                      (decide
                                        (IntKind.i64.wrap
                                            (IntKind.i64.wrap ((↑q10.length : Int).tdiv (3 : Int)) * (3 : Int)) ≤
                                          (↑q10.length : Int)))
                                      (bits_Unpack
                                        (List.drop 0
                                          (List.take
                                            (IntKind.i64.wrap
                                                (IntKind.i64.wrap ((↑q10.length : Int).tdiv (3 : Int)) * (3 : Int))).toNat
                                            q10))
                                        (12 : Int)
                                        (IntKind.i64.wrap
                                          ((IntKind.i64.wrap
                                                ((↑(List.drop 0
                                                          (List.take
                                                            (IntKind.i64.wrap
                                                                (IntKind.i64.wrap ((↑q10.length : Int).tdiv (3 : Int)) *
                                                                  (3 : Int))).toNat
                                                            q10)).length :
                                                    Int) *
                                                  (2 : Int))).tdiv
                                            (3 : Int)))
                                        fun (q21 : List Int) =>
                                        bits_Pack q21 (12 : Int) fun (q22 : List Int) =>
                                          R01_Same q22
                                            (List.drop 0
                                              (List.take
                                                (IntKind.i64.wrap
                                                    (IntKind.i64.wrap ((↑q10.length : Int).tdiv (3 : Int)) *
                                                      (3 : Int))).toNat
                                                q10))
                                            fun (q23 : Bool) =>
                                            br (!q23) (k false)
                                              (bits_Digits q10 (8 : Int) (↑q10.length : Int) fun (q24 : List Int) =>
                                                L01_BitsBack_l20 q10 q11 (↑q24.length : Int) (0 : Int) q20 q19 q18 q17
                                                  q16 q21 q22 q24
                                                  (fun (q25 q26 : List Int) (q27 q28 : Int)
                                                      (q29 q30 q31 q32 q33 q34 q35 q36 : List Int) =>
                                                    br ((↑q36.length : Int) == (↑q25.length : Int))
                                                      (bits_Xor q25 q26 fun (q37 : List Int) =>
                                                        bits_Xor q37 q26 fun (q38 : List Int) =>
                                                          br
                                                            (decide
                                                              ((0 : Int) ≤
                                                                bif
                                                                    decide
                                                                      ((↑q26.length : Int) < (↑q25.length : Int)) then
                                                                  (↑q26.length : Int)
                                                                else (↑q25.length : Int)))
                                                            (br
                                                              (decide
                                                                ((bif
                                                                      decide
                                                                        ((↑q26.length : Int) < (↑q25.length : Int)) then
                                                                    (↑q26.length : Int)
                                                                  else (↑q25.length : Int)) ≤
                                                                  (↑q25.length : Int)))
                                                              (R01_Same q38
                                                                (List.drop 0
                                                                  (List.take
                                                                    (bif
                                                                          decide
                                                                            ((↑q26.length : Int) <
                                                                              (↑q25.length : Int)) then
                                                                        (↑q26.length : Int)
                                                                      else (↑q25.length : Int)).toNat
                                                                    q25))
                                                                fun (q39 : Bool) =>
                                                                br q39 (L01_awake fun (q40 : Bool) => k q40) (k false))
                                                              none)
                                                            none)
                                                      (k false))
                                                  fun (q41 : Bool) (q42 q43 q44 q45 q46 q47 q48 q49 : List Int) => k q41))
                                      none)
                                    none)
                                fun (q50 : Bool) (q51 q52 q53 q54 q55 : List Int) => k q50))))))
noncomputable def L01_BitsBack {ρ : Type} (a0 : Int) (a1 : List Int) (a2 : Int) (a3 : List Int) (a4 : List Int) (k : Bool → Option ρ) : Option ρ := shut (L01_BitsBack_raw (ρ := ρ)) a0 a1 a2 a3 a4 k
theorem L01_BitsBack_eq {ρ : Type} (a0 : Int) (a1 : List Int) (a2 : Int) (a3 : List Int) (a4 : List Int) (k : Bool → Option ρ) : L01_BitsBack a0 a1 a2 a3 a4 k = L01_BitsBack_raw a0 a1 a2 a3 a4 k := by unfold L01_BitsBack; rw [shut_eq]

end P
end

section
/- The plain law of BitsBack. -/
namespace Q
open Go Go.Abs
set_option linter.unusedVariables false
set_option linter.unusedSimpArgs false

theorem In.mono {m n : Int} {l : List Int} (h : In m l) (hmn : m ≤ n) : In n l := fun x hx => ⟨(h x hx).1, by have := (h x hx).2; omega⟩
theorem bsw8_in (n X : Nat) : In 256 (bsw 8 n X) := bsw_in 8 n X

theorem unpack_pack (l : List Int) (w : Nat) (h1 : 1 ≤ w) (h2 : w ≤ 24) (h : In 4294967296 l) : unpackS (packS l (w : Int)) (w : Int) (l.length : Int) = bsw w l.length (T w l) := by
  have hc := ceil8_le (w * l.length)
  have hp : packS l (w : Int) = bsw 8 (ceil8 (w * l.length)) (T w l) := by unfold packS; rw [if_pos (by omega)]; rfl
  have hs : Such (ceil8 (w * l.length)) (w : Int) (l.length : Int) := by
    refine ⟨by omega, by omega, by omega, ?_⟩
    rw [← Int.natCast_mul, Nat.mul_comm l.length w]; omega
  rw [hp]
  unfold unpackS
  rw [bsw_length, if_pos hs, T_bsw, toNat_cast, toNat_cast, bsw_mod _ _ _ _ hc]

theorem pack_unpack (c : List Int) (n : Nat) (hl : c.length = 3 * n) (h : In 256 c) : packS (unpackS c 12 ((2 * n : Nat) : Int)) 12 = c := by
  unfold packS unpackS
  rw [if_pos (by omega), if_pos (by refine ⟨by omega, by omega, by omega, by omega⟩)]
  simp only [toNat_cast, bsw_length, show ((12 : Int)).toNat = 12 from rfl]
  have hlt := T_lt 8 c
  rw [T_bsw, Nat.mod_eq_of_lt (by rw [show 12 * (2 * n) = 8 * c.length by omega]; exact hlt), show ceil8 (12 * (2 * n)) = c.length by unfold ceil8; omega]
  exact bsw_T 8 c h

theorem xor_xor (a b : List Int) (ha : In 256 a) (hb : In 256 b) : xorS (xorS a b) b = a.take (min a.length b.length) := by
  refine List.ext_getElem (by simp [xorS]) (fun i h1 h2 => ?_)
  have hi : i < min a.length b.length := by simpa [xorS] using h1
  obtain ⟨x, hx, hx2, _⟩ := byte_at ha i
  obtain ⟨y, hy, hy2, _⟩ := byte_at hb i
  rw [List.getElem_take, ← getD_lt (l := a) (d := 0), hx]
  simp only [xorS, List.getElem_map, List.getElem_range]
  rw [map_getD _ _ hi, hx, hy, xor_u8 x y hx2 hy2, xor_u8 _ _ (Nat.xor_lt_two_pow (n := 8) hx2 hy2) hy2, Nat.xor_assoc, Nat.xor_self, Nat.xor_zero]

theorem digits8 (a : List Int) (h : In 256 a) (hn : a.length ≤ 1000000) : digitsS a 8 (a.length : Int) = a := by
  unfold digitsS
  rw [if_pos (by refine ⟨by omega, by omega, by omega, by omega⟩)]
  refine List.ext_getElem (by simp) (fun i h1 h2 => ?_)
  simp only [List.getElem_map, List.getElem_range]
  have e := rev_getD a i h2
  obtain ⟨x, hx, hx2, hx3⟩ := byte_at h i
  rw [← getD_lt (d := 0) h2, hx]
  unfold dg
  simp only [show ((8 : Int)).toNat = 8 from rfl]
  rw [show 8 * a.length - 8 * (i + 1) = 8 * (a.length - 1 - i) by omega, ← e, ← hx3]

theorem BitsBack (x0 : Int) (x1 : List Int) (x2 : Int) (x3 : List Int) (x4 : List Int) (wx0 : wfI .u64 x0) (nx1 : x1.length ≤ 140737488355328) (wx1 : ∀ x, x ∈ x1 → wfI .u32 x) (wx2 : wfI .u8 x2) (nx3 : x3.length ≤ 140737488355328) (wx3 : ∀ x, x ∈ x3 → wfI .u8 x) (nx4 : x4.length ≤ 140737488355328) (wx4 : ∀ x, x ∈ x4 → wfI .u8 x) {ρ : Type} (k : Bool → Option ρ) : P.L01_BitsBack x0 x1 x2 x3 x4 k = k true := by
  rw [P.L01_BitsBack_eq]
  unfold P.L01_BitsBack_raw
  by_cases g1 : (x1.length : Int) > 400
  · rw [br_pos g1, L01_awake]
  rw [br_neg g1, i64w (by omega) (by omega)]
  by_cases g2 : (x3.length : Int) + x4.length > 1000
  · rw [br_pos g2, L01_awake]
  have h1 := in_u32 wx1
  have h3 := in_u8 wx3
  have h4 := in_u8 wx4
  have h0 := wf_u64 wx0
  have h2 := wf_u8 wx2
  obtain ⟨n, rfl⟩ := Int.eq_ofNat_of_zero_le h0.1
  obtain ⟨a, rfl⟩ := Int.eq_ofNat_of_zero_le h2.1
  have ew : IntKind.i64.wrap ((1 : Int) + IntKind.i64.wrap (((a : Nat) : Int).tmod (24 : Int))) = ((1 + a % 24 : Nat) : Int) := by
    rw [Int.tmod_eq_emod_of_nonneg (by omega), i64w (x := (a : Int) % 24) (by omega) (by omega), i64w (by omega) (by omega)]; omega
  have hw1 : 1 ≤ 1 + a % 24 := by omega
  have hw2 : 1 + a % 24 ≤ 24 := by omega
  simp only [ew]
  generalize 1 + a % 24 = w at hw1 hw2
  have hwl : w * x1.length ≤ 24 * x1.length := Nat.mul_le_mul hw2 (Nat.le_refl _)
  have hc := ceil8_lt (w * x1.length)
  have hpl : (packS x1 (w : Int)).length ≤ 1000000 := by
    unfold packS
    rw [if_pos (by omega)]; simp; omega
  have hpi : In 256 (packS x1 (w : Int)) := by
    unfold packS
    rw [if_pos (by omega)]; exact bsw8_in _ _
  rw [br_neg g2, show (8 : Int) = ((8 : Nat) : Int) from rfl, bits_Be n 8 (by omega) (by omega), bits_Num _ (bsw8_in _ _).rev (by simp), List.reverse_reverse, T_bsw, br_bne_neg (by omega),
    bits_Le n 8 (by omega) (by omega), bits_NumLe _ (bsw8_in _ _) (by simp), List.take_of_length_le (by simp), T_bsw, br_bne_neg (by omega),
    show (3 : Int) = ((3 : Nat) : Int) from rfl, bits_Be n 3 (by omega) (by omega), bits_Num _ (bsw8_in _ _).rev (by simp), List.reverse_reverse, T_bsw, Int.tmod_eq_emod_of_nonneg (by omega), br_bne_neg (by omega),
    bits_Pack _ _ h1 (by omega), bits_Unpack _ _ _ hpi hpl, unpack_pack x1 w hw1 hw2 h1, bsw_length, br_bne_neg rfl, P.L01_BitsBack_l10_eq]
  unfold P.L01_BitsBack_L10
  generalize packS x1 (w : Int) = q8 at hpl hpi
  generalize (bsw 8 8 n).reverse = q2
  generalize bsw 8 8 n = q4
  generalize (bsw 8 3 n).reverse = q6
  refine lp_go (fun i => (x3, x4, (w : Int), x1, (x1.length : Int), (i : Int), q2, q4, q6, q8, bsw w x1.length (T w x1))) x1.length rfl (fun i hi next hn' => ?_) (fun next => ?_) (by omega)
  · obtain ⟨x, hx, hx2⟩ := num_at h1 (by omega) i
    have hw3 : 2 ^ w ≤ 2 ^ 24 := p2_le (by omega)
    have hw4 := p2 w
    have em : IntKind.u32.wrap ((1 : Int) * (2 : Int) ^ min w 32) = ((2 ^ w : Nat) : Int) := by
      rw [show (1 : Int) = ((1 : Nat) : Int) from rfl, mul_pow 1 w 32 (by omega), u32n _ (by omega)]; omega
    have et : (x : Int).tmod ((2 ^ w : Nat) : Int) = ((x % 2 ^ w : Nat) : Int) := by
      rw [Int.tmod_eq_emod_of_nonneg (by omega)]; exact (Int.natCast_emod x (2 ^ w)).symm
    simp only [P.L01_BitsBack_r10, toNat_cast, bsw_length, Sum.elim_inl, Sum.elim_inr, em]
    rw [bsw_getD _ _ _ _ hi, T_getD, hx, Int.toNat_natCast, et]
    simp (disch := omega) only [br_pos, br_neg, br_bne_pos, br_bne_neg, br_beq_pos, br_beq_neg, br_not, br_tt, br_ff, i64w]
    exact hn'
  · simp only [P.L01_BitsBack_r10, Sum.elim_inl, Sum.elim_inr]
    have e3 : IntKind.i64.wrap (IntKind.i64.wrap ((x3.length : Int).tdiv (3 : Int)) * (3 : Int)) = ((x3.length / 3 * 3 : Nat) : Int) := by
      rw [Int.tdiv_eq_ediv_of_nonneg (by omega), i64w (x := (x3.length : Int) / 3) (by omega) (by omega), i64w (by omega) (by omega)]; omega
    have hlen : (List.drop 0 (List.take (x3.length / 3 * 3) x3)).length = 3 * (x3.length / 3) := by simp; omega
    have e4 : IntKind.i64.wrap ((IntKind.i64.wrap (((3 * (x3.length / 3) : Nat) : Int) * (2 : Int))).tdiv (3 : Int)) = ((2 * (x3.length / 3) : Nat) : Int) := by
      rw [i64w (x := ((3 * (x3.length / 3) : Nat) : Int) * (2 : Int)) (by omega) (by omega), Int.tdiv_eq_ediv_of_nonneg (by omega), i64w (by omega) (by omega)]; omega
    have hci : In 256 (List.drop 0 (List.take (x3.length / 3 * 3) x3)) := (h3.take _).drop _
    have hup : In 4294967296 (unpackS (List.drop 0 (List.take (x3.length / 3 * 3) x3)) 12 ((2 * (x3.length / 3) : Nat) : Int)) := by
      unfold unpackS
      split
      · exact (bsw_in 12 _ _).mono (by decide)
      · exact In.nil
    have hul : (unpackS (List.drop 0 (List.take (x3.length / 3 * 3) x3)) 12 ((2 * (x3.length / 3) : Nat) : Int)).length ≤ 1000000 := by
      unfold unpackS
      split
      · simp; omega
      · simp
    simp only [show ((3 : Nat) : Int) = (3 : Int) from rfl, show ((8 : Nat) : Int) = (8 : Int) from rfl, e3, toNat_cast, hlen, e4]
    rw [br_neg (by omega), br_pos (by omega), br_pos (by omega), bits_Unpack _ _ _ hci (by omega), bits_Pack _ _ hup hul, pack_unpack _ _ hlen hci, R01_Same _ _ (by omega), decide_eq_true rfl, br_not, br_tt,
      bits_Digits _ _ _ h3 (by omega), digits8 _ h3 (by omega), P.L01_BitsBack_l20_eq]
    unfold P.L01_BitsBack_L20
    generalize unpackS (List.drop 0 (List.take (x3.length / 3 * 3) x3)) 12 ((2 * (x3.length / 3) : Nat) : Int) = u1
    refine lp_go (fun i => (x3, x4, (x3.length : Int), (i : Int), _, _, _, _, _, _, _, x3)) x3.length rfl (fun i hi next hn' => ?_) (fun next => ?_) (by omega)
    · obtain ⟨x, hx, hx2, hx3⟩ := byte_at h3 i
      simp only [P.L01_BitsBack_r20, toNat_cast, Sum.elim_inl, Sum.elim_inr]
      rw [hx, u32n _ (by omega)]
      simp (disch := omega) only [br_pos, br_neg, br_bne_pos, br_bne_neg, br_beq_pos, br_beq_neg, br_not, br_tt, br_ff, i64w]
      exact hn'
    · simp only [P.L01_BitsBack_r20, Sum.elim_inl, Sum.elim_inr]
      have em : (bif decide ((x4.length : Int) < (x3.length : Int)) then (x4.length : Int) else (x3.length : Int)) = ((min x3.length x4.length : Nat) : Int) := by
        by_cases h : (x4.length : Int) < (x3.length : Int)
        · rw [decide_eq_true h]; simp only [cond_true]; omega
        · rw [decide_eq_false h]; simp only [cond_false]; omega
      simp only [em, toNat_cast]
      have hxl : (xorS x3 x4).length = min x3.length x4.length := by simp [xorS]
      rw [br_neg (by omega), br_beq_pos rfl, bits_Xor _ _ (by omega) (by omega), bits_Xor _ _ (by omega) (by omega), xor_xor _ _ h3 h4, List.drop_zero, br_pos (by omega), br_pos (by omega), R01_Same _ _ (by simp; omega), decide_eq_true rfl, br_tt, L01_awake]
end Q
end

section
/- The plain law of BitsRounds. -/
namespace Q
open Go Go.Abs
set_option linter.unusedVariables false
set_option linter.unusedSimpArgs false

theorem digits4 (a : List Int) (h : In 256 a) (i : Nat) (hi : i < a.length) (x : Nat) (hx : a.getD i 0 = (x : Int)) (hx2 : x < 256) :
    dg 4 a.length (T 8 a.reverse) (2 * i) = ((x / 16 : Nat) : Int) ∧ dg 4 a.length (T 8 a.reverse) (2 * i + 1) = ((x % 16 : Nat) : Int) := by
  have e := rev_getD a i hi
  rw [hx, Int.toNat_natCast, Nat.mod_eq_of_lt (by omega)] at e
  have p1 := piece_piece (T 8 a.reverse) (8 * (a.length - 1 - i)) 8 4 4 (by omega)
  have p0 := piece_piece (T 8 a.reverse) (8 * (a.length - 1 - i)) 8 0 4 (by omega)
  rw [← e] at p1 p0
  unfold dg
  rw [show 8 * a.length - 4 * (2 * i + 1) = 8 * (a.length - 1 - i) + 4 by omega, show 8 * a.length - 4 * (2 * i + 1 + 1) = 8 * (a.length - 1 - i) + 0 by omega, ← p1, ← p0]
  refine ⟨by omega, by omega⟩

theorem BitsRounds (x0 : Int) (x1 : List Int) (wx0 : wfI .u64 x0) (nx1 : x1.length ≤ 140737488355328) (wx1 : ∀ x, x ∈ x1 → wfI .u8 x) {ρ : Type} (k : Bool → Option ρ) : P.L01_BitsRounds x0 x1 k = k true := by
  rw [P.L01_BitsRounds_eq]
  unfold P.L01_BitsRounds_raw
  by_cases g1 : (x1.length : Int) > 1000
  · rw [br_pos g1, L01_awake]
  have h1 := in_u8 wx1
  have h0 := wf_u64 wx0
  obtain ⟨n, rfl⟩ := Int.eq_ofNat_of_zero_le h0.1
  rw [br_neg g1, show (8 : Int) = ((8 : Nat) : Int) from rfl, bits_Be n 8 (by omega) (by omega), bits_Le n 8 (by omega) (by omega), br_bne_neg (by simp), br_bne_neg (by simp), P.L01_BitsRounds_l7_eq]
  unfold P.L01_BitsRounds_L7
  refine lp_go (fun i => ((n : Int), x1, (i : Int), (bsw 8 8 n).reverse, bsw 8 8 n)) 8 rfl (fun i hi next hn' => ?_) (fun next => ?_) (by omega)
  · simp only [P.L01_BitsRounds_r7, Sum.elim_inl, Sum.elim_inr, List.length_reverse, bsw_length]
    rw [show (7 : Int) - (i : Int) = ((7 - i : Nat) : Int) by omega, i64w (x := ((7 - i : Nat) : Int)) (by omega) (by omega)]
    simp only [toNat_cast]
    have e : (bsw 8 8 n).reverse.getD i 0 = (bsw 8 8 n).getD (7 - i) 0 := by
      rw [getD_lt (by simp; omega), List.getElem_reverse, getD_lt (by simp; omega)]
      congr 1
    simp (disch := omega) only [br_pos, br_neg, br_bne_pos, br_bne_neg, br_beq_pos, br_beq_neg, br_not, br_tt, br_ff, i64w, e]
    exact hn'
  · simp only [P.L01_BitsRounds_r7, Sum.elim_inl, Sum.elim_inr]
    have e2 : IntKind.i64.wrap ((2 : Int) * (x1.length : Int)) = ((2 * x1.length : Nat) : Int) := by rw [i64w (by omega) (by omega)]; omega
    have ed : digitsS x1 4 ((2 * x1.length : Nat) : Int) = (List.range (2 * x1.length)).map (dg 4 x1.length (T 8 x1.reverse)) := by
      unfold digitsS
      rw [if_pos (by refine ⟨by omega, by omega, by omega, by omega⟩)]; rfl
    rw [br_neg (by omega), e2, bits_Digits _ _ _ h1 (by omega), show ((8 : Nat) : Int) = (8 : Int) from rfl, bits_Digits _ _ _ h1 (by omega), digits8 _ h1 (by omega), ed, br_bne_neg (by simp), br_bne_neg rfl, P.L01_BitsRounds_l16_eq]
    unfold P.L01_BitsRounds_L16
    refine lp_go (fun i => ((n : Int), x1, (x1.length : Int), (i : Int), bsw 8 8 n, (bsw 8 8 n).reverse, (List.range (2 * x1.length)).map (dg 4 x1.length (T 8 x1.reverse)), x1)) x1.length rfl (fun i hi next hn' => ?_) (fun next => ?_) (by omega)
    · obtain ⟨x, hx, hx2, hx3⟩ := byte_at h1 i
      obtain ⟨d1, d2⟩ := digits4 x1 h1 i hi x hx hx2
      simp only [P.L01_BitsRounds_r16, Sum.elim_inl, Sum.elim_inr, List.length_map, List.length_range]
      rw [show (2 : Int) * (i : Int) = ((2 * i : Nat) : Int) by omega, i64w (x := ((2 * i : Nat) : Int)) (by omega) (by omega), show ((2 * i : Nat) : Int) + 1 = ((2 * i + 1 : Nat) : Int) by omega, i64w (x := ((2 * i + 1 : Nat) : Int)) (by omega) (by omega)]
      simp only [toNat_cast]
      have eo : bits .or .u32 (IntKind.u32.wrap (((x / 16 : Nat) : Int) * (2 : Int) ^ 4)) ((x % 16 : Nat) : Int) = (x : Int) := by
        rw [show ((x / 16 : Nat) : Int) * (2 : Int) ^ 4 = ((x / 16 * 2 ^ 4 : Nat) : Int) by omega, u32n _ (by omega), or_u32 _ _ (by omega) (by omega), or_shift _ _ _ (by omega)]; omega
      rw [map_getD _ _ (by omega), map_getD _ _ (by omega), d1, d2, eo, hx]
      simp (disch := omega) only [br_pos, br_neg, br_bne_pos, br_bne_neg, br_beq_pos, br_beq_neg, br_not, br_tt, br_ff, i64w]
      exact hn'
    · simp only [P.L01_BitsRounds_r16, Sum.elim_inl, Sum.elim_inr]
      have f1 : [x1, (bsw 8 8 n).reverse].flatten = x1 ++ (bsw 8 8 n).reverse := by simp
      have f2 : [bsw 8 8 n, x1].flatten = bsw 8 8 n ++ x1 := by simp
      rw [br_neg (by omega), bits_Join _ (by simp) (by rw [f1]; simp; omega), f1, bits_Num _ (h1.app (bsw8_in _ _).rev) (by simp; omega), List.reverse_append, List.reverse_reverse, T_append, bsw_length, T_bsw, br_beq_pos (by omega),
        bits_Join _ (by simp) (by rw [f2]; simp; omega), f2, bits_NumLe _ ((bsw8_in _ _).app h1) (by simp; omega), List.take_append_of_le_length (by simp), List.take_of_length_le (by simp), T_bsw, br_beq_pos (by omega), L01_awake]
end Q
end
