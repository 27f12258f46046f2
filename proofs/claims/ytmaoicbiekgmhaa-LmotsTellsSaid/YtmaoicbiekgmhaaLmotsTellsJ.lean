/-
  LmotsTells, part J: an interpreter of my own over abstract values, the pure functions, the walks and the plain law.
-/

import Derived.Test.YtmaoicbiekgmhaaLmotsTellsI
import Derived.Test.YtmaoicbiekgmhaaLmotsTellsG

section
/- lmots: digits. -/
namespace Q
open Go Go.Abs
set_option linter.unusedVariables false
set_option linter.unusedSimpArgs false

theorem R01_Be (N s : Nat) (hN : N < 18446744073709551616) (hs : s ≤ 65536) {ρ : Type} (k : List Int → Option ρ) : P.R01_Be (N : Int) (s : Int) k = k (bsw 8 s N).reverse := by
  rw [P.R01_Be_eq]
  unfold P.R01_Be_raw
  simp only [toNat_cast]
  simp (disch := omega) only [br_pos, br_neg, br_bne_pos, br_bne_neg, br_beq_pos, br_beq_neg, br_not, br_tt, br_ff, i64w]
  rw [P.R01_Be_l5_eq]
  unfold P.R01_Be_L5
  refine lp_go (fun j => (((N / 2 ^ (8 * j) : Nat) : Int), (s : Int) - 1 - (j : Int), List.replicate (s - j) 0 ++ (bsw 8 j N).reverse)) s (by simp [bsw]) (fun j hj next hn' => ?_) (fun next => ?_) (by omega)
  · simp only [P.R01_Be_r5, List.length_append, List.length_replicate, List.length_reverse, bsw_length]
    rw [show (s : Int) - 1 - (j : Int) = ((s - 1 - j : Nat) : Int) by omega]
    simp only [toNat_cast]
    have hd := Nat.div_le_self N (2 ^ (8 * j))
    have hb : bits .and .u64 ((N / 2 ^ (8 * j) : Nat) : Int) 255 = ((N / 2 ^ (8 * j) % 2 ^ 8 : Nat) : Int) := by
      rw [show (255 : Int) = ((2 ^ 8 - 1 : Nat) : Int) from rfl, and_u64 _ _ (by omega) (by omega), Nat.and_two_pow_sub_one_eq_mod]
    have hd2 : (((N / 2 ^ (8 * j) : Nat) : Int)).fdiv ((2 : Int) ^ 8) = ((N / 2 ^ (8 * (j + 1)) : Nat) : Int) := by
      rw [show ((2 : Int) ^ 8) = (2 : Int) ^ min 8 8 from rfl, fdiv_pow _ 8 8 (by omega), Nat.div_div_eq_div_mul, ← Nat.pow_add, Nat.mul_succ]
    rw [hb, hd2, u8n _ (by omega)]
    rw [bsw_succ, List.reverse_append, List.reverse_singleton, List.singleton_append] at hn'
    have hset : (List.replicate (s - j) (0 : Int) ++ (bsw 8 j N).reverse).set (s - 1 - j) ((N / 2 ^ (8 * j) % 2 ^ 8 : Nat) : Int) = List.replicate (s - (j + 1)) 0 ++ ((N / 2 ^ (8 * j) % 2 ^ 8 : Nat) : Int) :: (bsw 8 j N).reverse := by
      rw [show s - j = (s - (j + 1)) + 1 by omega, List.replicate_succ', List.append_assoc, List.set_append_right _ _ (by simp; omega), List.length_replicate, show s - 1 - j - (s - (j + 1)) = 0 by omega]
      rfl
    rw [hset]
    simp (disch := omega) only [br_pos, br_neg, br_bne_pos, br_bne_neg, br_beq_pos, br_beq_neg, br_not, br_tt, br_ff, i64w]
    rw [show ((s - 1 - j : Nat) : Int) - 1 = (s : Int) - 1 - ((j + 1 : Nat) : Int) by omega]
    exact hn'
  · simp only [P.R01_Be_r5]
    rw [br_neg (by omega), Nat.sub_self]; rfl

/-- the kinds: numbers, spare bits -/
def Kind (w p s : Nat) : Prop := (w = 1 ∧ p = 265 ∧ s = 7) ∨ (w = 2 ∧ p = 133 ∧ s = 6) ∨ (w = 4 ∧ p = 67 ∧ s = 4) ∨ (w = 8 ∧ p = 34 ∧ s = 0)
/-- the sum of the first digits -/
def sumTo (D : List Int) : Nat → Nat
  | 0 => 0
  | i + 1 => sumTo D i + (D.getD i 0).toNat
theorem sumTo_le (D : List Int) (w : Nat) (h : In (2 ^ w) D) : ∀ i, sumTo D i ≤ i * (2 ^ w - 1)
  | 0 => by simp [sumTo]
  | i + 1 => by
    have ih := sumTo_le D w h i
    have hp : ((2 : Int) ^ w) = ((2 ^ w : Nat) : Int) := by simp
    have := h.getD i (by rw [hp]; have := p2 w; omega)
    rw [hp] at this
    rw [Nat.succ_mul]; simp only [sumTo]; omega

theorem digits_in (b : List Int) (w c : Int) : In (2 ^ w.toNat) (digitsS b w c) := by
  unfold digitsS
  split
  · refine In.map (fun i _ => ⟨Int.natCast_nonneg _, ?_⟩)
    have := Nat.mod_lt (T 8 b.reverse / 2 ^ (8 * b.length - w.toNat * (i + 1))) (p2 w.toNat)
    have hp : ((2 : Int) ^ w.toNat) = ((2 ^ w.toNat : Nat) : Int) := by simp
    rw [hp]; unfold dg; omega
  · exact In.nil

/-- what the sum leaves -/
def left (w s : Nat) (b : List Int) : Nat := ((256 / w) * (2 ^ w - 1) - sumTo (digitsS b w ((256 / w : Nat) : Int)) (256 / w)) * 2 ^ s
/-- all digits -/
def allD (w p s : Nat) (b : List Int) : List Int := digitsS (b ++ (bsw 8 2 (left w s b)).reverse) w p

theorem kind_facts {w p s : Nat} (h : Kind w p s) : 1 ≤ w ∧ w ≤ 8 ∧ (256 / w) * w = 256 ∧ 256 / w ≤ p ∧ w * p = 272 - s ∧ s ≤ 7 ∧ (256 / w) * (2 ^ w - 1) * 2 ^ s < 65536 ∧ p ≤ 265 ∧ 2 ^ w ≤ 256 ∧ 2 ^ s ≤ 128 ∧ (256 / w) * (2 ^ w - 1) < 65536 := by
  rcases h with ⟨rfl, rfl, rfl⟩ | ⟨rfl, rfl, rfl⟩ | ⟨rfl, rfl, rfl⟩ | ⟨rfl, rfl, rfl⟩ <;> decide

theorem left_lt {w p s : Nat} (h : Kind w p s) (b : List Int) : left w s b < 65536 := by
  have f := kind_facts h
  unfold left
  have : ((256 / w) * (2 ^ w - 1) - sumTo (digitsS b w ((256 / w : Nat) : Int)) (256 / w)) * 2 ^ s ≤ (256 / w) * (2 ^ w - 1) * 2 ^ s := Nat.mul_le_mul (by omega) (Nat.le_refl _)
  omega

theorem digits_map (b : List Int) (w c : Nat) (h1 : 1 ≤ w) (h2 : w ≤ 24) (h : c * w ≤ b.length * 8) : digitsS b (w : Int) (c : Int) = (List.range c).map (dg w b.length (T 8 b.reverse)) := by
  unfold digitsS
  rw [if_pos (by refine ⟨by omega, by omega, by omega, ?_⟩; rw [← Int.natCast_mul]; omega)]
  simp only [toNat_cast]

/-- the digits of two texts: the one's, then the other's -/
theorem digits_app {w p s : Nat} (hk : Kind w p s) (b e : List Int) (hb : b.length = 32) (he : e.length = 2) :
    digitsS (b ++ e) w p = digitsS b w ((256 / w : Nat) : Int) ++ digitsS e w ((p - 256 / w : Nat) : Int) := by
  obtain ⟨f1, f2, f3, f4, f5, f6, f7, f8, f9, f10, f11⟩ := kind_facts hk
  have hpw : p * w = 272 - s := by rw [Nat.mul_comm]; exact f5
  rw [digits_map _ w p f1 (by omega) (by rw [List.length_append]; omega), digits_map _ w _ f1 (by omega) (by omega), digits_map _ w _ f1 (by omega) (by rw [Nat.sub_mul]; omega)]
  rw [show p = 256 / w + (p - 256 / w) by omega, List.range_add, List.map_append, List.map_map, show 256 / w + (p - 256 / w) - 256 / w = p - 256 / w by omega]
  have hT : T 8 (b ++ e).reverse = T 8 e.reverse + 2 ^ 16 * T 8 b.reverse := by
    rw [List.reverse_append, T_append, List.length_reverse, he]
  have hlt := T_lt 8 e.reverse
  rw [List.length_reverse, he] at hlt
  congr 1
  · refine List.map_congr_left (fun i hi => ?_)
    have hi := List.mem_range.1 hi
    have : w * (i + 1) ≤ w * (256 / w) := Nat.mul_le_mul (Nat.le_refl _) hi
    rw [Nat.mul_comm w (256 / w), f3] at this
    unfold dg
    rw [hT, List.length_append, hb, he, show 8 * (32 + 2) - w * (i + 1) = 16 + (8 * 32 - w * (i + 1)) by omega, Nat.pow_add, ← Nat.div_div_eq_div_mul, Nat.add_mul_div_left _ _ (p2 _), Nat.div_eq_of_lt hlt, Nat.zero_add]
  · refine List.map_congr_left (fun j hj => ?_)
    have hj := List.mem_range.1 hj
    have h3 : w * (256 / w + (j + 1)) ≤ w * p := Nat.mul_le_mul (Nat.le_refl _) (by omega)
    rw [Nat.mul_add, Nat.mul_comm w (256 / w), f3] at h3
    simp only [Function.comp]
    unfold dg
    rw [hT, List.length_append, hb, he, Nat.add_assoc, Nat.mul_add w (256 / w) (j + 1), Nat.mul_comm w (256 / w), f3, show 8 * (32 + 2) - (256 + w * (j + 1)) = 8 * 2 - w * (j + 1) by omega]
    congr 1
    rw [← piece_mod (T 8 e.reverse + 2 ^ 16 * T 8 b.reverse) (8 * 2 - w * (j + 1)) w 16 (by have h4 : w * (j + 1) = w * j + w := Nat.mul_succ w j; omega), Nat.add_mul_mod_self_left, Nat.mod_eq_of_lt hlt]
end Q
end

section
/- lmots: the digits as the program and as the document count them. -/
namespace Q
open Go Go.Abs
set_option linter.unusedVariables false
set_option linter.unusedSimpArgs false

theorem R14_Kind {w p s : Nat} (h : Kind w p s) : ∃ t : Int, ∀ {ρ : Type} (k : Int → Int → Int → Option ρ), P.R14_Kind (w : Int) k = k (p : Int) (s : Int) t := by
  rcases h with ⟨rfl, rfl, rfl⟩ | ⟨rfl, rfl, rfl⟩ | ⟨rfl, rfl, rfl⟩ | ⟨rfl, rfl, rfl⟩ 
  · exact ⟨1, fun k => by rw [P.R14_Kind_eq]; kernel_rfl⟩
  · exact ⟨2, fun k => by rw [P.R14_Kind_eq]; kernel_rfl⟩
  · exact ⟨3, fun k => by rw [P.R14_Kind_eq]; kernel_rfl⟩
  · exact ⟨4, fun k => by rw [P.R14_Kind_eq]; kernel_rfl⟩
theorem lmots_known {w p s : Nat} (h : Kind w p s) : ∃ t : Int, ∀ {ρ : Type} (k : Int → Int → Int → Bool → Option ρ), P.lmots_known (w : Int) k = k (p : Int) (s : Int) t true := by
  rcases h with ⟨rfl, rfl, rfl⟩ | ⟨rfl, rfl, rfl⟩ | ⟨rfl, rfl, rfl⟩ | ⟨rfl, rfl, rfl⟩ 
  · exact ⟨1, fun k => by rw [P.lmots_known_eq]; kernel_rfl⟩
  · exact ⟨2, fun k => by rw [P.lmots_known_eq]; kernel_rfl⟩
  · exact ⟨3, fun k => by rw [P.lmots_known_eq]; kernel_rfl⟩
  · exact ⟨4, fun k => by rw [P.lmots_known_eq]; kernel_rfl⟩
theorem kind_or (w : Int) : (∃ n p s : Nat, w = (n : Int) ∧ Kind n p s) ∨ (w ≠ 1 ∧ w ≠ 2 ∧ w ≠ 4 ∧ w ≠ 8) := by
  by_cases h1 : w = 1
  · exact .inl ⟨1, 265, 7, h1, by simp [Kind]⟩
  · by_cases h2 : w = 2
    · exact .inl ⟨2, 133, 6, h2, by simp [Kind]⟩
    · by_cases h4 : w = 4
      · exact .inl ⟨4, 67, 4, h4, by simp [Kind]⟩
      · by_cases h8 : w = 8
        · exact .inl ⟨8, 34, 0, h8, by simp [Kind]⟩
        · exact .inr ⟨h1, h2, h4, h8⟩
theorem R14_Kind_no {w : Int} (h : w ≠ 1 ∧ w ≠ 2 ∧ w ≠ 4 ∧ w ≠ 8) {ρ : Type} (k : Int → Int → Int → Option ρ) : P.R14_Kind w k = k 0 0 0 := by
  rw [P.R14_Kind_eq]; unfold P.R14_Kind_raw
  rw [br_beq_neg h.1, br_beq_neg h.2.1, br_beq_neg h.2.2.1, br_beq_neg h.2.2.2]
theorem lmots_known_no {w : Int} (h : w ≠ 1 ∧ w ≠ 2 ∧ w ≠ 4 ∧ w ≠ 8) {ρ : Type} (k : Int → Int → Int → Bool → Option ρ) : P.lmots_known w k = k 0 0 0 false := by
  rw [P.lmots_known_eq]; unfold P.lmots_known_raw
  rw [br_beq_neg h.1, br_beq_neg h.2.1, br_beq_neg h.2.2.1, br_beq_neg h.2.2.2]

theorem kind_pos {w p s : Nat} (h : Kind w p s) : ((p : Int) == 0) = false := by
  rcases h with ⟨rfl, rfl, rfl⟩ | ⟨rfl, rfl, rfl⟩ | ⟨rfl, rfl, rfl⟩ | ⟨rfl, rfl, rfl⟩ <;> rfl

theorem tdiv_w {w p s : Nat} (h : Kind w p s) : IntKind.i64.wrap (Int.tdiv (256 : Int) (w : Int)) = ((256 / w : Nat) : Int) := by
  rcases h with ⟨rfl, rfl, rfl⟩ | ⟨rfl, rfl, rfl⟩ | ⟨rfl, rfl, rfl⟩ | ⟨rfl, rfl, rfl⟩ <;> rfl

theorem num_at' {w : Nat} {b : List Int} (hb : In (2 ^ w) b) (t : Nat) : ∃ x : Nat, b.getD t 0 = (x : Int) ∧ x < 2 ^ w := by
  have hp : ((2 : Int) ^ w) = ((2 ^ w : Nat) : Int) := by simp
  have := hb.getD t (by rw [hp]; have := p2 w; omega)
  rw [hp] at this
  exact ⟨(b.getD t 0).toNat, by omega, by omega⟩
theorem sum_le {w p s : Nat} (hk : Kind w p s) (x : List Int) (i : Nat) : sumTo (digitsS x w ((256 / w : Nat) : Int)) i ≤ i * (2 ^ w - 1) := sumTo_le _ w (digits_in x w _) i

theorem lmots_Digits_kind {w p s : Nat} (hk : Kind w p s) (x : List Int) (hx : In 256 x) (hl : x.length = 32) {ρ : Type} (k : List Int → Int → Option ρ) : P.lmots_Digits (w : Int) x k = k (allD w p s x) 0 := by
  obtain ⟨t, ht⟩ := lmots_known hk
  obtain ⟨f1, f2, f3, f4, f5, f6, f7, f8, f9, f10, f11⟩ := kind_facts hk
  rw [P.lmots_Digits_eq]
  unfold P.lmots_Digits_raw
  have hn : (digitsS x w ((256 / w : Nat) : Int)).length = 256 / w := by
    rw [digits_map x w _ f1 (by omega) (by omega)]; simp
  rw [ht, br_not, br_tt, br_bne_neg (by omega), br_neg (by omega), tdiv_w hk, bits_Digits _ _ _ hx (by omega), br_neg (by omega), hn]
  have hm : IntKind.u64.wrap (((256 / w : Nat) : Int)) = ((256 / w : Nat) : Int) := u64n _ (by omega)
  simp only [toNat_cast]
  rw [hm, mask64 w (by omega), ← Int.natCast_mul, u64n _ (by omega), P.lmots_Digits_l9_eq]
  unfold P.lmots_Digits_L9
  refine lp_go (fun i => ((w : Int), ((256 / w * (2 ^ w - 1) - sumTo (digitsS x w ((256 / w : Nat) : Int)) i : Nat) : Int), ((256 / w : Nat) : Int), (i : Int), (p : Int), (s : Int), t, digitsS x w ((256 / w : Nat) : Int))) (256 / w) (by simp [sumTo]) (fun i hi next hn' => ?_) (fun next => ?_) (by omega)
  · obtain ⟨d, hd, hd2⟩ := num_at' (w := w) (digits_in x w ((256 / w : Nat) : Int)) i
    have hle := sum_le hk x (i + 1)
    have hle2 : (i + 1) * (2 ^ w - 1) ≤ 256 / w * (2 ^ w - 1) := Nat.mul_le_mul hi (Nat.le_refl _)
    simp only [sumTo, hd, Int.toNat_natCast] at hn' hle
    simp only [P.lmots_Digits_r9, toNat_cast]
    rw [hd, u64n d (by omega), show ((256 / w * (2 ^ w - 1) - sumTo (digitsS x w ((256 / w : Nat) : Int)) i : Nat) : Int) - (d : Int) = ((256 / w * (2 ^ w - 1) - (sumTo (digitsS x w ((256 / w : Nat) : Int)) i + d) : Nat) : Int) by omega, u64n _ (by omega)]
    simp (disch := omega) only [br_pos, br_neg, br_bne_pos, br_bne_neg, br_beq_pos, br_beq_neg, br_not, br_tt, br_ff, i64w, hn]
    exact hn'
  · simp only [P.lmots_Digits_r9]
    have hleft : (256 / w * (2 ^ w - 1) - sumTo (digitsS x w ((256 / w : Nat) : Int)) (256 / w)) * 2 ^ s = left w s x := rfl
    have hlt := left_lt hk x
    have hn2 : (digitsS (bsw 8 2 (left w s x)).reverse w ((p - 256 / w : Nat) : Int)).length = p - 256 / w := by
      rw [digits_map _ w _ f1 (by omega) (by rw [Nat.sub_mul, Nat.mul_comm p w, f5]; simp; omega)]; simp
    rw [br_neg (by omega), br_neg (by omega)]
    simp only [toNat_cast]
    rw [mul_pow _ s 64 (by omega), hleft, u64n _ (by omega), show (2 : Int) = ((2 : Nat) : Int) from rfl, bits_Be _ 2 (by omega) (by omega), hn, i64w (by omega) (by omega), show (p : Int) - ((256 / w : Nat) : Int) = ((p - 256 / w : Nat) : Int) by omega,
      bits_Digits _ _ _ (bsw_in 8 2 _).rev (by simp), hn2, br_pos (by omega)]
    unfold allD
    rw [digits_app hk x _ hl (by simp)]

theorem R14_Digits_kind {w p s : Nat} (hk : Kind w p s) (x : List Int) (hx : In 256 x) (hl : x.length = 32) {ρ : Type} (k : List Int → Int → Option ρ) : P.R14_Digits (w : Int) x k = k (allD w p s x) 0 := by
  obtain ⟨t, ht⟩ := R14_Kind hk
  obtain ⟨f1, f2, f3, f4, f5, f6, f7, f8, f9, f10, f11⟩ := kind_facts hk
  rw [P.R14_Digits_eq]
  unfold P.R14_Digits_raw
  have hn : (digitsS x w ((256 / w : Nat) : Int)).length = 256 / w := by
    rw [digits_map x w _ f1 (by omega) (by omega)]; simp
  rw [ht, kind_pos hk, br_ff, br_bne_neg (by omega), br_neg (by omega), tdiv_w hk, R01_Digits _ _ _ hx (by omega), P.R14_Digits_l9_eq]
  unfold P.R14_Digits_L9
  refine lp_go (fun i => ((w : Int), x, (p : Int), (s : Int), ((i * (2 ^ w - 1) - sumTo (digitsS x w ((256 / w : Nat) : Int)) i : Nat) : Int), (i : Int), digitsS x w ((256 / w : Nat) : Int))) (256 / w) (by simp [sumTo]) (fun i hi next hn' => ?_) (fun next => ?_) (by omega)
  · obtain ⟨d, hd, hd2⟩ := num_at' (w := w) (digits_in x w ((256 / w : Nat) : Int)) i
    have hle := sum_le hk x i
    have hle2 : (i + 1) * (2 ^ w - 1) ≤ 256 / w * (2 ^ w - 1) := Nat.mul_le_mul hi (Nat.le_refl _)
    have hs : (i + 1) * (2 ^ w - 1) = i * (2 ^ w - 1) + (2 ^ w - 1) := Nat.succ_mul i _
    simp only [sumTo, hd, Int.toNat_natCast] at hn'
    simp only [P.R14_Digits_r9, toNat_cast]
    rw [mask64 w (by omega), hd, u64n d (by omega), ← Int.natCast_add, u64n _ (by omega), show ((i * (2 ^ w - 1) - sumTo (digitsS x w ((256 / w : Nat) : Int)) i + (2 ^ w - 1) : Nat) : Int) - (d : Int) = (((i + 1) * (2 ^ w - 1) - (sumTo (digitsS x w ((256 / w : Nat) : Int)) i + d) : Nat) : Int) by omega, u64n _ (by omega)]
    simp (disch := omega) only [br_pos, br_neg, br_bne_pos, br_bne_neg, br_beq_pos, br_beq_neg, br_not, br_tt, br_ff, i64w, hn]
    exact hn'
  · simp only [P.R14_Digits_r9]
    have hleft : (256 / w * (2 ^ w - 1) - sumTo (digitsS x w ((256 / w : Nat) : Int)) (256 / w)) * 2 ^ s = left w s x := rfl
    have hlt := left_lt hk x
    have hf : [x, (bsw 8 2 (left w s x)).reverse].flatten = x ++ (bsw 8 2 (left w s x)).reverse := by simp
    rw [br_neg (by rw [hn]; omega), br_neg (by omega)]
    simp only [toNat_cast]
    rw [mul_pow _ s 64 (by omega), hleft, u64n _ (by omega), show (2 : Int) = ((2 : Nat) : Int) from rfl, R01_Be _ 2 (by omega) (by omega), R01_Join _ (by simp) (by rw [hf]; simp; omega), hf, R01_Digits _ _ _ (hx.app (bsw_in 8 2 _).rev) (by simp; omega)]
    rfl

theorem lmots_Digits_len {w p s : Nat} (hk : Kind w p s) (x : List Int) (hl : x.length ≠ 32) {ρ : Type} (k : List Int → Int → Option ρ) : P.lmots_Digits (w : Int) x k = k [] 14 := by
  obtain ⟨t, ht⟩ := lmots_known hk
  rw [P.lmots_Digits_eq]; unfold P.lmots_Digits_raw
  rw [ht, br_not, br_tt, br_bne_pos (by omega)]
theorem R14_Digits_len {w p s : Nat} (hk : Kind w p s) (x : List Int) (hl : x.length ≠ 32) {ρ : Type} (k : List Int → Int → Option ρ) : P.R14_Digits (w : Int) x k = k [] 14 := by
  obtain ⟨t, ht⟩ := R14_Kind hk
  rw [P.R14_Digits_eq]; unfold P.R14_Digits_raw
  rw [ht, kind_pos hk, br_ff, br_bne_pos (by omega)]
theorem lmots_Digits_no {w : Int} (h : w ≠ 1 ∧ w ≠ 2 ∧ w ≠ 4 ∧ w ≠ 8) (x : List Int) {ρ : Type} (k : List Int → Int → Option ρ) : P.lmots_Digits w x k = k [] 9 := by
  rw [P.lmots_Digits_eq]; unfold P.lmots_Digits_raw
  rw [lmots_known_no h, br_not, br_ff]
theorem R14_Digits_no {w : Int} (h : w ≠ 1 ∧ w ≠ 2 ∧ w ≠ 4 ∧ w ≠ 8) (x : List Int) {ρ : Type} (k : List Int → Int → Option ρ) : P.R14_Digits w x k = k [] 9 := by
  rw [P.R14_Digits_eq]; unfold P.R14_Digits_raw
  rw [R14_Kind_no h]; kernel_rfl

theorem lmots_Size {w p s : Nat} (hk : Kind w p s) {ρ : Type} (k : Int → Option ρ) : P.lmots_Size (w : Int) k = k ((36 + 32 * p : Nat) : Int) := by
  obtain ⟨t, ht⟩ := lmots_known hk
  obtain ⟨f1, f2, f3, f4, f5, f6, f7, f8, f9, f10, f11⟩ := kind_facts hk
  rw [P.lmots_Size_eq]; unfold P.lmots_Size_raw
  rw [ht, br_not, br_tt, i64w (x := (32 : Int) * (p : Int)) (by omega) (by omega), i64w (by omega) (by omega)]; rfl
theorem R14_Size {w p s : Nat} (hk : Kind w p s) {ρ : Type} (k : Int → Option ρ) : P.R14_Size (w : Int) k = k ((36 + 32 * p : Nat) : Int) := by
  obtain ⟨t, ht⟩ := R14_Kind hk
  obtain ⟨f1, f2, f3, f4, f5, f6, f7, f8, f9, f10, f11⟩ := kind_facts hk
  rw [P.R14_Size_eq]; unfold P.R14_Size_raw
  rw [ht, kind_pos hk, br_ff, i64w (x := (32 : Int) * (p : Int)) (by omega) (by omega), i64w (by omega) (by omega)]; rfl
theorem lmots_Size_no {w : Int} (h : w ≠ 1 ∧ w ≠ 2 ∧ w ≠ 4 ∧ w ≠ 8) {ρ : Type} (k : Int → Option ρ) : P.lmots_Size w k = k 0 := by
  rw [P.lmots_Size_eq]; unfold P.lmots_Size_raw
  rw [lmots_known_no h, br_not, br_ff]
theorem R14_Size_no {w : Int} (h : w ≠ 1 ∧ w ≠ 2 ∧ w ≠ 4 ∧ w ≠ 8) {ρ : Type} (k : Int → Option ρ) : P.R14_Size w k = k 0 := by
  rw [P.R14_Size_eq]; unfold P.R14_Size_raw
  rw [R14_Kind_no h]; kernel_rfl
theorem allD_len {w p s : Nat} (hk : Kind w p s) (x : List Int) (hl : x.length = 32) : (allD w p s x).length = p := by
  obtain ⟨f1, f2, f3, f4, f5, f6, f7, f8, f9, f10, f11⟩ := kind_facts hk
  unfold allD
  rw [digits_map _ w p f1 (by omega) (by rw [Nat.mul_comm, f5]; simp; omega)]; simp

theorem L14_few (l : List (List Int)) (hl : l.length ≤ 100) {ρ : Type} (k : Bool → Option ρ) : (P.L14_few l k = k true ∧ ∀ i, i < l.length → (l.getD i []).length ≤ 300) ∨ P.L14_few l k = k false := by
  rw [P.L14_few_eq]
  unfold P.L14_few_raw
  rw [P.L14_few_l2_eq]
  unfold P.L14_few_L2
  by_cases h : ∀ i, i < l.length → (l.getD i []).length ≤ 300
  · refine .inl ⟨lp_go (fun i => (l, (l.length : Int), (i : Int))) l.length rfl (fun i hi next hn' => ?_) (fun next => ?_) (by omega), h⟩
    · have := h i hi
      simp only [P.L14_few_r2, toNat_cast, Sum.elim_inl, Sum.elim_inr]
      simp (disch := omega) only [br_pos, br_neg, br_bne_pos, br_bne_neg, br_beq_pos, br_beq_neg, br_not, br_tt, br_ff, i64w]
      exact hn'
    · simp only [P.L14_few_r2, toNat_cast, Sum.elim_inl, Sum.elim_inr]
      rw [br_neg (by omega)]
  · refine .inr (lp_eq (P := fun x => ∃ j : Nat, x = (l, (l.length : Int), (j : Int)) ∧ ∃ i, j ≤ i ∧ i < l.length ∧ ¬ (l.getD i []).length ≤ 300) (μ := fun x => ((l.length : Int) - x.2.2).toNat) ?_ ⟨0, rfl, ?_⟩ (by simp only; omega))
    · rintro _ ⟨j, rfl, i, hji, hi, hb⟩ next hn
      simp only [P.L14_few_r2, toNat_cast, Sum.elim_inl, Sum.elim_inr]
      by_cases hj : ((l.getD j []).length : Int) > 300
      · simp (disch := omega) only [br_pos, br_neg, br_bne_pos, br_bne_neg, br_beq_pos, br_beq_neg, br_not, br_tt, br_ff, i64w]
      · simp (disch := omega) only [br_pos, br_neg, br_bne_pos, br_bne_neg, br_beq_pos, br_beq_neg, br_not, br_tt, br_ff, i64w]
        exact hn _ ⟨j + 1, rfl, i, by by_cases e : j = i <;> (try subst e) <;> omega, hi, hb⟩ (by simp only; omega)
    · have : ∃ i, ¬ (i < l.length → (l.getD i []).length ≤ 300) := Classical.not_forall.1 h
      obtain ⟨i, hi⟩ := this
      exact ⟨i, Nat.zero_le _, by by_cases e : i < l.length <;> simp_all, fun e => hi (fun _ => e)⟩

theorem L14_awake {ρ : Type} (k : Bool → Option ρ) : P.L14_awake k = k true := by
  rw [P.L14_awake_eq]
  unfold P.L14_awake_raw
  rw [P.L14_awake_l3_eq]
  unfold P.L14_awake_L3
  refine lp_go (fun i => ((32 : Int), (i : Int), List.replicate i (255 : Int) ++ List.replicate (32 - i) 0)) 32 rfl (fun i hi next hn' => ?_) (fun next => ?_) (by omega)
  · simp only [P.L14_awake_r3, toNat_cast, List.length_append, List.length_replicate]
    simp (disch := omega) only [br_pos, br_neg, br_bne_pos, br_bne_neg, br_beq_pos, br_beq_neg, br_not, br_tt, br_ff, i64w]
    rw [List.set_append_right _ _ (by simp), List.length_replicate, Nat.sub_self, show 32 - i = (32 - (i + 1)) + 1 by omega, List.replicate_succ, List.set_cons_zero]
    rw [show i + 1 = i + 1 from rfl, List.replicate_succ', List.append_assoc, List.singleton_append] at hn'
    exact hn'
  · simp only [P.L14_awake_r3]
    have hk8 : Kind 8 34 0 := by simp [Kind]
    have hk4 : Kind 4 67 4 := by simp [Kind]
    have hin : In 256 (List.replicate 32 (255 : Int) ++ List.replicate (32 - 32) 0) := by
      intro y hy
      simp at hy
      omega
    have e : allD 8 34 0 (List.replicate 32 (255 : Int) ++ List.replicate (32 - 32) 0) = List.replicate 32 (255 : Int) ++ [0, 0] := by decide +kernel
    rw [br_neg (by omega), show (8 : Int) = ((8 : Nat) : Int) from rfl, lmots_Digits_kind hk8 _ hin (by simp), lmots_Digits_no (by omega), show (4 : Int) = ((4 : Nat) : Int) from rfl, lmots_Size hk4, e]
    refine Eq.trans (b := k true) ?_ rfl
    kernel_rfl
end Q
end

section
/- The plain law of LmotsTells. -/
namespace Q
open Go Go.Abs
set_option linter.unusedVariables false

theorem LmotsTells (x0 : Int) (x1 : List Int) (wx0 : wfI .i64 x0) (nx1 : x1.length ≤ 140737488355328) (wx1 : ∀ x, x ∈ x1 → wfI .u8 x) {ρ : Type} (k : Bool → Option ρ) : P.L14_LmotsTells x0 x1 k = k true := by
  rw [P.L14_LmotsTells_eq]
  unfold P.L14_LmotsTells_raw
  have h1 := in_u8 wx1
  rcases L14_few [x1] (by simp) (fun (q0 : Bool) =>
    br (!q0) (P.L14_awake fun (q1 : Bool) => k q1)
      (P.lmots_Digits x0 x1 fun (q2 : List Int) (q3 : Int) =>
        P.R14_Digits x0 x1 fun (q4 : List Int) (q5 : Int) =>
          P.R01_SameNums q2 q4 fun (q6 : Bool) =>
            br q6
              (br (q3 == q5)
                (P.lmots_Size x0 fun (q7 : Int) =>
                  P.R14_Size x0 fun (q8 : Int) => br (q7 == q8) (P.L14_awake fun (q9 : Bool) => k q9) (k false))
                (k false))
              (k false))) with ⟨e, hl⟩ | e
  · rw [e, br_not, br_tt]
    have hl : x1.length ≤ 300 := hl 0 (by simp)
    rcases kind_or x0 with ⟨n, p, s, rfl, hk⟩ | hno
    · by_cases h32 : x1.length = 32
      · obtain ⟨f1, f2, f3, f4, f5, f6, f7, f8, f9, f10, f11⟩ := kind_facts hk
        rw [lmots_Digits_kind hk x1 h1 h32, R14_Digits_kind hk x1 h1 h32, R01_SameNums _ _ (by rw [allD_len hk x1 h32]; omega), decide_eq_true rfl, br_tt, beq_self_eq_true, br_tt, lmots_Size hk, R14_Size hk, beq_self_eq_true, br_tt, L14_awake]
      · rw [lmots_Digits_len hk x1 h32, R14_Digits_len hk x1 h32, R01_SameNums _ _ (by simp), decide_eq_true rfl, br_tt, beq_self_eq_true, br_tt, lmots_Size hk, R14_Size hk, beq_self_eq_true, br_tt, L14_awake]
    · rw [lmots_Digits_no hno, R14_Digits_no hno, R01_SameNums _ _ (by simp), decide_eq_true rfl, br_tt, beq_self_eq_true, br_tt, lmots_Size_no hno, R14_Size_no hno, beq_self_eq_true, br_tt, L14_awake]
  · rw [e, br_not, br_ff, L14_awake]
end Q
end
