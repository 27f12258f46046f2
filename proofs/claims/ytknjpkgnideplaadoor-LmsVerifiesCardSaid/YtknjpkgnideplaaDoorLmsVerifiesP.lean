/-
  LmsVerifies, part P: an interpreter of my own over abstract values, the pure functions, the walks and the plain law.
-/

import Derived.Test.YtknjpkgnideplaaDoorLmsVerifiesO
import Derived.Test.YtknjpkgnideplaaDoorLmsVerifiesH
import Derived.Test.YtknjpkgnideplaaDoorLmsVerifiesG
import Derived.Test.YtknjpkgnideplaaDoorLmsVerifiesF

section
/- lmots: digits. -/
namespace Q
open Go Go.Abs
set_option linter.unusedVariables false
set_option linter.unusedSimpArgs false
theorem R01_Be (N s : Nat) (hN : N < 18446744073709551616) (hs : s ≤ 65536) {ρ : Type} (k : List Int → Option ρ) : P.R01_Be (N : Int) (s : Int) k = k (bsw 8 s N).reverse := by
 rw [P.R01_Be_eq]
 unfold P.R01_Be_raw
 simp only [toNat_cast]
 simp (disch := omega) only [br_pos, br_neg, br_bne_pos, br_bne_neg, br_beq_pos, br_beq_neg, br_not, br_tt, br_ff, i64w]
 rw [P.R01_Be_l5_eq]
 unfold P.R01_Be_L5
 refine lp_go (fun j => (((N / 2 ^ (8 * j) : Nat) : Int), (s : Int) - 1 - (j : Int), List.replicate (s - j) 0 ++ (bsw 8 j N).reverse)) s (by simp [bsw]) (fun j hj next hn' => ?_) (fun next => ?_) (by omega)
 ·simp only [P.R01_Be_r5, List.length_append, List.length_replicate, List.length_reverse, bsw_length]
  rw [show (s : Int) - 1 - (j : Int) = ((s - 1 - j : Nat) : Int) by omega]
  simp only [toNat_cast]
  have hd := Nat.div_le_self N (2 ^ (8 * j))
  have hb : bits .and .u64 ((N / 2 ^ (8 * j) : Nat) : Int) 255 = ((N / 2 ^ (8 * j) % 2 ^ 8 : Nat) : Int) := by
   rw [show (255 : Int) = ((2 ^ 8 - 1 : Nat) : Int) from rfl, and_u64 _ _ (by omega) (by omega), Nat.and_two_pow_sub_one_eq_mod]
  have hd2 : (((N / 2 ^ (8 * j) : Nat) : Int)).fdiv ((2 : Int) ^ 8) = ((N / 2 ^ (8 * (j + 1)) : Nat) : Int) := by
   rw [show ((2 : Int) ^ 8) = (2 : Int) ^ min 8 8 from rfl, fdiv_pow _ 8 8 (by omega), Nat.div_div_eq_div_mul, ← Nat.pow_add, Nat.mul_succ]
  rw [hb, hd2, u8n _ (by omega)]
  rw [bsw_succ, List.reverse_append, List.reverse_singleton, List.singleton_append] at hn'
  have hset : (List.replicate (s - j) (0 : Int) ++ (bsw 8 j N).reverse).set (s - 1 - j) ((N / 2 ^ (8 * j) % 2 ^ 8 : Nat) : Int) = List.replicate (s - (j + 1)) 0 ++ ((N / 2 ^ (8 * j) % 2 ^ 8 : Nat) : Int) :: (bsw 8 j N).reverse := by
   rw [show s - j = (s - (j + 1)) + 1 by omega, List.replicate_succ', List.append_assoc, List.set_append_right _ _ (by simp; omega), List.length_replicate, show s - 1 - j - (s - (j + 1)) = 0 by omega]
   rfl
  rw [hset]
  simp (disch := omega) only [br_pos, br_neg, br_bne_pos, br_bne_neg, br_beq_pos, br_beq_neg, br_not, br_tt, br_ff, i64w]
  rw [show ((s - 1 - j : Nat) : Int) - 1 = (s : Int) - 1 - ((j + 1 : Nat) : Int) by omega]
  exact hn'
 ·simp only [P.R01_Be_r5]
  rw [br_neg (by omega), Nat.sub_self]; rfl
def Kind (w p s : Nat) : Prop := (w = 1 ∧ p = 265 ∧ s = 7) ∨ (w = 2 ∧ p = 133 ∧ s = 6) ∨ (w = 4 ∧ p = 67 ∧ s = 4) ∨ (w = 8 ∧ p = 34 ∧ s = 0)
def sumTo (D : List Int) : Nat → Nat
 | 0 => 0
 | i + 1 => sumTo D i + (D.getD i 0).toNat
theorem sumTo_le (D : List Int) (w : Nat) (h : In (2 ^ w) D) : ∀ i, sumTo D i ≤ i * (2 ^ w - 1)
 | 0 => by simp [sumTo]
 | i + 1 => by
  have ih := sumTo_le D w h i
  have hp : ((2 : Int) ^ w) = ((2 ^ w : Nat) : Int) := by simp
  have := h.getD i (by rw [hp]; have := p2 w; omega)
  rw [hp] at this
  rw [Nat.succ_mul]; simp only [sumTo]; omega
theorem digits_in (b : List Int) (w c : Int) : In (2 ^ w.toNat) (digitsS b w c) := by
 unfold digitsS
 split
 ·refine In.map (fun i _ => ⟨Int.natCast_nonneg _, ?_⟩)
  have := Nat.mod_lt (T 8 b.reverse / 2 ^ (8 * b.length - w.toNat * (i + 1))) (p2 w.toNat)
  have hp : ((2 : Int) ^ w.toNat) = ((2 ^ w.toNat : Nat) : Int) := by simp
  rw [hp]; unfold dg; omega
 ·exact In.nil
def left (w s : Nat) (b : List Int) : Nat := ((256 / w) * (2 ^ w - 1) - sumTo (digitsS b w ((256 / w : Nat) : Int)) (256 / w)) * 2 ^ s
def allD (w p s : Nat) (b : List Int) : List Int := digitsS (b ++ (bsw 8 2 (left w s b)).reverse) w p
theorem kind_facts {w p s : Nat} (h : Kind w p s) : 1 ≤ w ∧ w ≤ 8 ∧ (256 / w) * w = 256 ∧ 256 / w ≤ p ∧ w * p = 272 - s ∧ s ≤ 7 ∧ (256 / w) * (2 ^ w - 1) * 2 ^ s < 65536 ∧ p ≤ 265 ∧ 2 ^ w ≤ 256 ∧ 2 ^ s ≤ 128 ∧ (256 / w) * (2 ^ w - 1) < 65536 := by
 rcases h with ⟨rfl, rfl, rfl⟩ | ⟨rfl, rfl, rfl⟩ | ⟨rfl, rfl, rfl⟩ | ⟨rfl, rfl, rfl⟩ <;> decide
theorem left_lt {w p s : Nat} (h : Kind w p s) (b : List Int) : left w s b < 65536 := by
 have f := kind_facts h
 unfold left
 have : ((256 / w) * (2 ^ w - 1) - sumTo (digitsS b w ((256 / w : Nat) : Int)) (256 / w)) * 2 ^ s ≤ (256 / w) * (2 ^ w - 1) * 2 ^ s := Nat.mul_le_mul (by omega) (Nat.le_refl _)
 omega
theorem digits_map (b : List Int) (w c : Nat) (h1 : 1 ≤ w) (h2 : w ≤ 24) (h : c * w ≤ b.length * 8) : digitsS b (w : Int) (c : Int) = (List.range c).map (dg w b.length (T 8 b.reverse)) := by
 unfold digitsS
 rw [if_pos (by refine ⟨by omega, by omega, by omega, ?_⟩; rw [← Int.natCast_mul]; omega)]
 simp only [toNat_cast]
theorem digits_app {w p s : Nat} (hk : Kind w p s) (b e : List Int) (hb : b.length = 32) (he : e.length = 2) :
    digitsS (b ++ e) w p = digitsS b w ((256 / w : Nat) : Int) ++ digitsS e w ((p - 256 / w : Nat) : Int) := by
 obtain ⟨f1, f2, f3, f4, f5, f6, f7, f8, f9, f10, f11⟩ := kind_facts hk
 have hpw : p * w = 272 - s := by rw [Nat.mul_comm]; exact f5
 rw [digits_map _ w p f1 (by omega) (by rw [List.length_append]; omega), digits_map _ w _ f1 (by omega) (by omega), digits_map _ w _ f1 (by omega) (by rw [Nat.sub_mul]; omega)]
 rw [show p = 256 / w + (p - 256 / w) by omega, List.range_add, List.map_append, List.map_map, show 256 / w + (p - 256 / w) - 256 / w = p - 256 / w by omega]
 have hT : T 8 (b ++ e).reverse = T 8 e.reverse + 2 ^ 16 * T 8 b.reverse := by
  rw [List.reverse_append, T_append, List.length_reverse, he]
 have hlt := T_lt 8 e.reverse
 rw [List.length_reverse, he] at hlt
 congr 1
 ·refine List.map_congr_left (fun i hi => ?_)
  have hi := List.mem_range.1 hi
  have : w * (i + 1) ≤ w * (256 / w) := Nat.mul_le_mul (Nat.le_refl _) hi
  rw [Nat.mul_comm w (256 / w), f3] at this
  unfold dg
  rw [hT, List.length_append, hb, he, show 8 * (32 + 2) - w * (i + 1) = 16 + (8 * 32 - w * (i + 1)) by omega, Nat.pow_add, ← Nat.div_div_eq_div_mul, Nat.add_mul_div_left _ _ (p2 _), Nat.div_eq_of_lt hlt, Nat.zero_add]
 ·refine List.map_congr_left (fun j hj => ?_)
  have hj := List.mem_range.1 hj
  have h3 : w * (256 / w + (j + 1)) ≤ w * p := Nat.mul_le_mul (Nat.le_refl _) (by omega)
  rw [Nat.mul_add, Nat.mul_comm w (256 / w), f3] at h3
  simp only [Function.comp]
  unfold dg
  rw [hT, List.length_append, hb, he, Nat.add_assoc, Nat.mul_add w (256 / w) (j + 1), Nat.mul_comm w (256 / w), f3, show 8 * (32 + 2) - (256 + w * (j + 1)) = 8 * 2 - w * (j + 1) by omega]
  congr 1
  rw [← piece_mod (T 8 e.reverse + 2 ^ 16 * T 8 b.reverse) (8 * 2 - w * (j + 1)) w 16 (by have h4 : w * (j + 1) = w * j + w := Nat.mul_succ w j; omega), Nat.add_mul_mod_self_left, Nat.mod_eq_of_lt hlt]
end Q
end

section
/- SHA-2: blocks one behind the other, words of 32 bits. -/
namespace Q
open Go Go.Abs
set_option linter.unusedVariables false
set_option linter.unusedSimpArgs false
def thr {w : Nat} (p : Par w) (v : List (BitVec w)) (b : List Int) : Nat → List (BitVec w)
 | 0 => v
 | i + 1 => blockB p (thr p v b i) ((b.drop ((2 * w) * i)).take (2 * w))
theorem thr_len {w : Nat} (p : Par w) (v : List (BitVec w)) (hv : v.length = 8) (b : List Int) : ∀ i, (thr p v b i).length = 8
 | 0 => hv
 | i + 1 => blockB_len _ _ _
def toV (w : Nat) (l : List Int) : List (BitVec w) := (List.range 8).map fun i => BitVec.ofInt w (l.getD i 0)
theorem toV_len (w : Nat) (l : List Int) : (toV w l).length = 8 := by simp [toV]
theorem cv_toV (w : Nat) (l : List Int) (hl : l.length = 8) (hi : In (2 ^ w) l) : cv (toV w l) = l := by
 unfold cv toV
 rw [List.map_map]
 refine List.ext_getElem (by simp [hl]) (fun i h1 h2 => ?_)
 have hp : ((2 : Int) ^ w) = ((2 ^ w : Nat) : Int) := by simp
 have := hi.getD i (by rw [hp]; have := p2 w; omega)
 rw [getD_lt h2] at this
 simp only [List.getElem_map, List.getElem_range, Function.comp, getD_lt h2, BitVec.toNat_ofInt]
 rw [hp] at this
 rw [Int.emod_eq_of_lt this.1 this.2]
 omega
theorem cv_in {w : Nat} (l : List (BitVec w)) : In (2 ^ w) (cv l) := by
 intro x hx
 obtain ⟨y, _, rfl⟩ := List.mem_map.1 hx
 have := y.isLt
 have hp : ((2 : Int) ^ w) = ((2 ^ w : Nat) : Int) := by simp
 rw [hp]
 omega
theorem toV_cv {w : Nat} (l : List (BitVec w)) (hl : l.length = 8) : toV w (cv l) = l := by
 unfold toV
 refine List.ext_getElem (by simp [hl]) (fun i h1 h2 => ?_)
 simp only [List.getElem_map, List.getElem_range, cv_getD, ofI, getD_lt h2]
theorem ofInt_toNat32 (x : Int) : IntKind.u32.wrap x = ((BitVec.ofInt 32 x).toNat : Int) := by
 rw [u32m, BitVec.toNat_ofInt]; omega
def rest (n : Nat) (b : List Int) : List Int := b.drop (n * (b.length / n))
theorem t32_l3 (words b : List Int) (rd : Int) (t0 t1 t2 t3 h1 h2 : List Int) (hi : In 18446744073709551616 words) {ρ : Type} (k0 : List Int → List Int → Int → Int → Int → List Int → List Int → List Int → List Int → List Int → List Int → List Int → Option ρ) :
    P.sha_through_uint32_l3 b words 0 32 rd t0 t1 t2 t3 h1 h2 (List.replicate 8 0) k0 = k0 b words 8 32 rd t0 t1 t2 t3 h1 h2 (cv (toV 32 words)) := by
 rw [P.sha_through_uint32_l3_eq]
 unfold P.sha_through_uint32_L3
 refine lp_go (fun i => (b, words, (i : Int), 32, rd, t0, t1, t2, t3, h1, h2, cv ((List.range i).map fun i => BitVec.ofInt 32 (words.getD i 0)) ++ List.replicate (8 - i) 0)) 8 (by simp [cv]) (fun i hi' next hn' => ?_) (fun next => ?_) (by omega)
 ·simp only [P.sha_through_uint32_r3, toNat_cast]
  have e4 : IntKind.i64.wrap ((i : Int) + 1) = ((i + 1 : Nat) : Int) := by rw [i64w (by omega) (by omega)]; omega
  have e5 : (cv ((List.range i).map fun i => BitVec.ofInt 32 (words.getD i 0)) ++ List.replicate (8 - i) (0 : Int)).set i ((BitVec.ofInt 32 (words.getD i 0)).toNat : Int) = cv ((List.range (i + 1)).map fun i => BitVec.ofInt 32 (words.getD i 0)) ++ List.replicate (8 - (i + 1)) 0 := by
   rw [List.set_append_right _ _ (by simp), cv_length, List.length_map, List.length_range, Nat.sub_self, show 8 - i = (8 - (i + 1)) + 1 by omega, List.replicate_succ, List.set_cons_zero, List.range_succ, List.map_append, ← cv_append, List.append_assoc]
   rfl
  rw [br_pos (by omega), br_pos (by omega), br_pos (by omega), br_pos (by omega), br_pos (by omega), ofInt_toNat32, e5, e4]
  exact hn'
 ·simp only [P.sha_through_uint32_r3]
  rw [br_neg (by omega)]
  simp [toV]
theorem t32_l8 (v : List (BitVec 32)) (hv : v.length = 8) (b : List Int) (hb : In 256 b) (hn : b.length ≤ 1000000) (h1 h2 : List Int) {ρ : Type} (k0 : List Int → Int → List Int → List Int → List Int → Int → Int → List Int → List Int → List Int → List Int → Option ρ) :
    P.sha_through_uint32_l8 b 64 (cv v) h2 h1 32 64 [7, 18, 3] [17, 19, 10] [2, 13, 22] [6, 11, 25] k0 =
     k0 (rest 64 b) 64 (cv (thr p32 v b (b.length / 64))) h2 h1 32 64 [7, 18, 3] [17, 19, 10] [2, 13, 22] [6, 11, 25] := by
 rw [P.sha_through_uint32_l8_eq]
 unfold P.sha_through_uint32_L8
 refine lp_go (fun i => (b.drop (64 * i), 64, cv (thr p32 v b i), h2, h1, 32, 64, [7, 18, 3], [17, 19, 10], [2, 13, 22], [6, 11, 25])) (b.length / 64) (by simp [thr]) (fun i hi next hn' => ?_) (fun next => ?_) (by omega)
 ·simp only [P.sha_through_uint32_r8]
  have hlen : (b.drop (64 * i)).length = b.length - 64 * i := by simp
  have hge : 64 ≤ b.length - 64 * i := by omega
  simp only [hlen, show (64 : Int).toNat = 64 from rfl, toNat_cast, List.drop_zero]
  have hbl : ((b.drop (64 * i)).take 64).length = 16 * 4 := by rw [List.length_take, hlen]; omega
  rw [br_pos (by omega), br_pos (by omega), br_pos (by omega), e32_block _ (thr_len _ _ hv _ _) _ ((hb.drop _).take _) hbl, br_pos (by omega), br_pos (by omega), br_pos (by omega),
   List.take_of_length_le (by rw [hlen]; omega), List.drop_drop, show 64 * i + 64 = 64 * (i + 1) by omega]
  exact hn'
 ·simp only [P.sha_through_uint32_r8]
  have hlen : (b.drop (64 * (b.length / 64))).length = b.length - 64 * (b.length / 64) := by simp
  rw [br_neg (by rw [hlen]; omega)]
  rfl
theorem t32_l12 (v : List (BitVec 32)) (hv : v.length = 8) (b : List Int) (words h2 : List Int) (hl : words.length = 8) {ρ : Type} (k0 : List Int → List Int → Int → List Int → List Int → Option ρ) :
    P.sha_through_uint32_l12 b (cv v) 0 words h2 k0 = k0 b (cv v) 8 (cv v) h2 := by
 rw [P.sha_through_uint32_l12_eq]
 unfold P.sha_through_uint32_L12
 refine lp_go (fun i => (b, cv v, (i : Int), (cv v).take i ++ words.drop i, h2)) 8 (by simp) (fun i hi next hn' => ?_) (fun next => ?_) (by omega)
 ·simp only [P.sha_through_uint32_r12, toNat_cast]
  have e4 : IntKind.i64.wrap ((i : Int) + 1) = ((i + 1 : Nat) : Int) := by rw [i64w (by omega) (by omega)]; omega
  have e5 : ((cv v).take i ++ words.drop i).set i ((cv v).getD i 0) = (cv v).take (i + 1) ++ words.drop (i + 1) := by
   rw [List.set_append_right _ _ (by rw [List.length_take]; omega), List.length_take, cv_length, hv, Nat.min_eq_left (by omega), Nat.sub_self, List.drop_eq_getElem_cons (by omega), List.set_cons_zero, ← take_step (cv v) 0 i (by rw [cv_length]; omega), List.append_assoc]
   rfl
  have e6 : IntKind.u64.wrap ((cv v).getD i 0) = (cv v).getD i 0 := by
   rw [cv_getD]; exact u64n _ (nlt _)
  rw [br_pos (by omega), br_pos (by omega), br_pos (by omega), br_pos (by omega), br_pos (by omega), e6, e5, e4]
  exact hn'
 ·simp only [P.sha_through_uint32_r12]
  rw [br_neg (by omega), List.drop_eq_nil_of_le (by omega), List.append_nil, List.take_of_length_le (by rw [cv_length]; omega)]
  rfl
theorem t32_through (words b : List Int) (hl : words.length = 8) (hi : In 18446744073709551616 words) (hb : In 256 b) (hn : b.length ≤ 1000000) {ρ : Type} (k : List Int → List Int → Option ρ) :
    P.sha_through_uint32 32 64 [7, 18, 3] [17, 19, 10] [2, 13, 22] [6, 11, 25] words b k = k (cv (thr p32 (toV 32 words) b (b.length / 64))) (rest 64 b) := by
 rw [P.sha_through_uint32_eq]
 unfold P.sha_through_uint32_raw
 refine (t32_l3 words b 64 [7, 18, 3] [17, 19, 10] [2, 13, 22] [6, 11, 25] words (List.replicate 8 0) hi _).trans ?_
 rw [show IntKind.i64.wrap ((32 : Int) * 2) = 64 from rfl, t32_l8 _ (toV_len _ _) b hb hn, t32_l12 _ (thr_len _ _ (toV_len _ _) _ _) _ _ _ hl]
theorem r32_l4 (v : List (BitVec 32)) (hv : v.length = 8) (b : List Int) (hb : In 256 b) (hn : b.length ≤ 1000000) (kd : Int) (tl : List Int) (sz : Int) (a1 : Int) (a2 : List Int) (a3 : Int) {ρ : Type} (k0 : Int → List Int → Int → List Int → List Int → Int → Int → List Int → Int → Option ρ) :
    P.R07_Add_l4 64 b kd (cv v) tl sz a1 a2 a3 k0 = k0 64 (rest 64 b) kd (cv (thr p32 v b (b.length / 64))) tl sz a1 a2 a3 := by
 rw [P.R07_Add_l4_eq]
 unfold P.R07_Add_L4
 refine lp_go (fun i => (64, b.drop (64 * i), kd, cv (thr p32 v b i), tl, sz, a1, a2, a3)) (b.length / 64) (by simp [thr]) (fun i hi next hn' => ?_) (fun next => ?_) (by omega)
 ·simp only [P.R07_Add_r4]
  have hlen : (b.drop (64 * i)).length = b.length - 64 * i := by simp
  have hge : 64 ≤ b.length - 64 * i := by omega
  simp only [hlen, show (64 : Int).toNat = 64 from rfl, toNat_cast, List.drop_zero]
  have hbl : ((b.drop (64 * i)).take 64).length = 16 * 4 := by rw [List.length_take, hlen]; omega
  rw [br_pos (by omega), br_pos (by omega), br_pos (by omega), show ((64 : Int) == 128) = false from rfl, r32_block _ (thr_len _ _ hv _ _) _ ((hb.drop _).take _) hbl, br_pos (by omega), br_pos (by omega), br_pos (by omega),
   List.take_of_length_le (by rw [hlen]; omega), List.drop_drop, show 64 * i + 64 = 64 * (i + 1) by omega]
  exact hn'
 ·simp only [P.R07_Add_r4]
  have hlen : (b.drop (64 * (b.length / 64))).length = b.length - 64 * (b.length / 64) := by simp
  rw [br_neg (by rw [hlen]; omega)]
  rfl
end Q
end

section
/- SHA-2: blocks one behind the other, words of 64 bits. -/
namespace Q
open Go Go.Abs
set_option linter.unusedVariables false
set_option linter.unusedSimpArgs false
theorem t64_l3 (words b : List Int) (rd : Int) (t0 t1 t2 t3 h1 h2 : List Int) (hi : In 18446744073709551616 words) {ρ : Type} (k0 : List Int → List Int → Int → Int → Int → List Int → List Int → List Int → List Int → List Int → List Int → List Int → Option ρ) :
    P.sha_through_uint64_l3 b words 0 64 rd t0 t1 t2 t3 h1 h2 (List.replicate 8 0) k0 = k0 b words 8 64 rd t0 t1 t2 t3 h1 h2 (cv (toV 64 words)) := by
 rw [P.sha_through_uint64_l3_eq]
 unfold P.sha_through_uint64_L3
 refine lp_go (fun i => (b, words, (i : Int), 64, rd, t0, t1, t2, t3, h1, h2, cv ((List.range i).map fun i => BitVec.ofInt 64 (words.getD i 0)) ++ List.replicate (8 - i) 0)) 8 (by simp [cv]) (fun i hi' next hn' => ?_) (fun next => ?_) (by omega)
 ·simp only [P.sha_through_uint64_r3, toNat_cast]
  have e4 : IntKind.i64.wrap ((i : Int) + 1) = ((i + 1 : Nat) : Int) := by rw [i64w (by omega) (by omega)]; omega
  have e6 : words.getD i 0 = ((BitVec.ofInt 64 (words.getD i 0)).toNat : Int) := by
   have := hi.getD i (by omega)
   rw [BitVec.toNat_ofInt]
   omega
  have e5 : (cv ((List.range i).map fun i => BitVec.ofInt 64 (words.getD i 0)) ++ List.replicate (8 - i) (0 : Int)).set i ((BitVec.ofInt 64 (words.getD i 0)).toNat : Int) = cv ((List.range (i + 1)).map fun i => BitVec.ofInt 64 (words.getD i 0)) ++ List.replicate (8 - (i + 1)) 0 := by
   rw [List.set_append_right _ _ (by simp), cv_length, List.length_map, List.length_range, Nat.sub_self, show 8 - i = (8 - (i + 1)) + 1 by omega, List.replicate_succ, List.set_cons_zero, List.range_succ, List.map_append, ← cv_append, List.append_assoc]
   rfl
  rw [br_pos (by omega), br_pos (by omega), br_pos (by omega), br_pos (by omega), br_pos (by omega), e6, e5, e4]
  exact hn'
 ·simp only [P.sha_through_uint64_r3]
  rw [br_neg (by omega)]
  simp [toV]
theorem t64_l8 (v : List (BitVec 64)) (hv : v.length = 8) (b : List Int) (hb : In 256 b) (hn : b.length ≤ 1000000) (h1 h2 : List Int) {ρ : Type} (k0 : List Int → Int → List Int → List Int → List Int → Int → Int → List Int → List Int → List Int → List Int → Option ρ) :
    P.sha_through_uint64_l8 b 128 (cv v) h2 h1 64 80 [1, 8, 7] [19, 61, 6] [28, 34, 39] [14, 18, 41] k0 =
     k0 (rest 128 b) 128 (cv (thr p64 v b (b.length / 128))) h2 h1 64 80 [1, 8, 7] [19, 61, 6] [28, 34, 39] [14, 18, 41] := by
 rw [P.sha_through_uint64_l8_eq]
 unfold P.sha_through_uint64_L8
 refine lp_go (fun i => (b.drop (128 * i), 128, cv (thr p64 v b i), h2, h1, 64, 80, [1, 8, 7], [19, 61, 6], [28, 34, 39], [14, 18, 41])) (b.length / 128) (by simp [thr]) (fun i hi next hn' => ?_) (fun next => ?_) (by omega)
 ·simp only [P.sha_through_uint64_r8]
  have hlen : (b.drop (128 * i)).length = b.length - 128 * i := by simp
  have hge : 128 ≤ b.length - 128 * i := by omega
  simp only [hlen, show (128 : Int).toNat = 128 from rfl, toNat_cast, List.drop_zero]
  have hbl : ((b.drop (128 * i)).take 128).length = 16 * 8 := by rw [List.length_take, hlen]; omega
  rw [br_pos (by omega), br_pos (by omega), br_pos (by omega), e64_block _ (thr_len _ _ hv _ _) _ ((hb.drop _).take _) hbl, br_pos (by omega), br_pos (by omega), br_pos (by omega),
   List.take_of_length_le (by rw [hlen]; omega), List.drop_drop, show 128 * i + 128 = 128 * (i + 1) by omega]
  exact hn'
 ·simp only [P.sha_through_uint64_r8]
  have hlen : (b.drop (128 * (b.length / 128))).length = b.length - 128 * (b.length / 128) := by simp
  rw [br_neg (by rw [hlen]; omega)]
  rfl
theorem t64_l12 (v : List (BitVec 64)) (hv : v.length = 8) (b : List Int) (words h2 : List Int) (hl : words.length = 8) {ρ : Type} (k0 : List Int → List Int → Int → List Int → List Int → Option ρ) :
    P.sha_through_uint64_l12 b (cv v) 0 words h2 k0 = k0 b (cv v) 8 (cv v) h2 := by
 rw [P.sha_through_uint64_l12_eq]
 unfold P.sha_through_uint64_L12
 refine lp_go (fun i => (b, cv v, (i : Int), (cv v).take i ++ words.drop i, h2)) 8 (by simp) (fun i hi next hn' => ?_) (fun next => ?_) (by omega)
 ·simp only [P.sha_through_uint64_r12, toNat_cast]
  have e4 : IntKind.i64.wrap ((i : Int) + 1) = ((i + 1 : Nat) : Int) := by rw [i64w (by omega) (by omega)]; omega
  have e5 : ((cv v).take i ++ words.drop i).set i ((cv v).getD i 0) = (cv v).take (i + 1) ++ words.drop (i + 1) := by
   rw [List.set_append_right _ _ (by rw [List.length_take]; omega), List.length_take, cv_length, hv, Nat.min_eq_left (by omega), Nat.sub_self, List.drop_eq_getElem_cons (by omega), List.set_cons_zero, ← take_step (cv v) 0 i (by rw [cv_length]; omega), List.append_assoc]
   rfl
  rw [br_pos (by omega), br_pos (by omega), br_pos (by omega), br_pos (by omega), br_pos (by omega), e5, e4]
  exact hn'
 ·simp only [P.sha_through_uint64_r12]
  rw [br_neg (by omega), List.drop_eq_nil_of_le (by omega), List.append_nil, List.take_of_length_le (by rw [cv_length]; omega)]
  rfl
theorem t64_through (words b : List Int) (hl : words.length = 8) (hi : In 18446744073709551616 words) (hb : In 256 b) (hn : b.length ≤ 1000000) {ρ : Type} (k : List Int → List Int → Option ρ) :
    P.sha_through_uint64 64 80 [1, 8, 7] [19, 61, 6] [28, 34, 39] [14, 18, 41] words b k = k (cv (thr p64 (toV 64 words) b (b.length / 128))) (rest 128 b) := by
 rw [P.sha_through_uint64_eq]
 unfold P.sha_through_uint64_raw
 refine (t64_l3 words b 80 [1, 8, 7] [19, 61, 6] [28, 34, 39] [14, 18, 41] words (List.replicate 8 0) hi _).trans ?_
 rw [show IntKind.i64.wrap ((64 : Int) * 2) = 128 from rfl, t64_l8 _ (toV_len _ _) b hb hn, t64_l12 _ (thr_len _ _ (toV_len _ _) _ _) _ _ _ hl]
theorem r64_l4 (v : List (BitVec 64)) (hv : v.length = 8) (b : List Int) (hb : In 256 b) (hn : b.length ≤ 1000000) (kd : Int) (tl : List Int) (sz : Int) (a1 : Int) (a2 : List Int) (a3 : Int) {ρ : Type} (k0 : Int → List Int → Int → List Int → List Int → Int → Int → List Int → Int → Option ρ) :
    P.R07_Add_l4 128 b kd (cv v) tl sz a1 a2 a3 k0 = k0 128 (rest 128 b) kd (cv (thr p64 v b (b.length / 128))) tl sz a1 a2 a3 := by
 rw [P.R07_Add_l4_eq]
 unfold P.R07_Add_L4
 refine lp_go (fun i => (128, b.drop (128 * i), kd, cv (thr p64 v b i), tl, sz, a1, a2, a3)) (b.length / 128) (by simp [thr]) (fun i hi next hn' => ?_) (fun next => ?_) (by omega)
 ·simp only [P.R07_Add_r4]
  have hlen : (b.drop (128 * i)).length = b.length - 128 * i := by simp
  have hge : 128 ≤ b.length - 128 * i := by omega
  simp only [hlen, show (128 : Int).toNat = 128 from rfl, toNat_cast, List.drop_zero]
  have hbl : ((b.drop (128 * i)).take 128).length = 16 * 8 := by rw [List.length_take, hlen]; omega
  rw [br_pos (by omega), br_pos (by omega), br_pos (by omega), show ((128 : Int) == 128) = true from rfl, r64_block _ (thr_len _ _ hv _ _) _ ((hb.drop _).take _) hbl, br_pos (by omega), br_pos (by omega), br_pos (by omega),
   List.take_of_length_le (by rw [hlen]; omega), List.drop_drop, show 128 * i + 128 = 128 * (i + 1) by omega]
  exact hn'
 ·simp only [P.R07_Add_r4]
  have hlen : (b.drop (128 * (b.length / 128))).length = b.length - 128 * (b.length / 128) := by simp
  rw [br_neg (by rw [hlen]; omega)]
  rfl
end Q
end

section
open Go Go.Abs
set_option linter.unusedVariables false
namespace P
end P
end

section
/- Are two rows of bytes the same. -/
namespace Q
open Go Go.Abs
set_option linter.unusedVariables false
set_option linter.unusedSimpArgs false
end Q
end

section
open Go Go.Abs
set_option linter.unusedVariables false
namespace P
end P
end

section
open Go Go.Abs
set_option linter.unusedVariables false
namespace P
end P
end

section
open Go Go.Abs
set_option linter.unusedVariables false
namespace P
end P
end

section
open Go Go.Abs
set_option linter.unusedVariables false
namespace P
end P
end

section
open Go Go.Abs
set_option linter.unusedVariables false
namespace P
end P
end

section
/- SHA-2: sums that go on, and their ends. -/
namespace Q
open Go Go.Abs
set_option linter.unusedVariables false
set_option linter.unusedSimpArgs false
def bsz (kind : Int) : Nat := if kind = 1 then 64 else 128
theorem bsz_or (kind : Int) : (kind = 1 ∧ bsz kind = 64) ∨ (kind ≠ 1 ∧ bsz kind = 128) := by
 unfold bsz
 by_cases h : kind = 1
 ·exact .inl ⟨h, if_pos h⟩
 ·exact .inr ⟨h, if_neg h⟩
theorem sha_blockSize (kind : Int) {ρ : Type} (k : Int → Option ρ) : P.sha_blockSize kind k = k ((bsz kind : Nat) : Int) := by
 rw [P.sha_blockSize_eq]; unfold P.sha_blockSize_raw
 rcases bsz_or kind with ⟨h, e⟩ | ⟨h, e⟩
 ·rw [br_beq_pos h, e]; rfl
 ·rw [br_beq_neg h, e]; rfl
theorem R07_Block (kind : Int) {ρ : Type} (k : Int → Option ρ) : P.R07_Block kind k = k ((bsz kind : Nat) : Int) := by
 rw [P.R07_Block_eq]; unfold P.R07_Block_raw
 rcases bsz_or kind with ⟨h, e⟩ | ⟨h, e⟩
 ·rw [br_beq_pos h, e]; rfl
 ·rw [br_beq_neg h, e]; rfl
def addW (kind : Int) (words all : List Int) : List Int :=
 if kind = 1 then cv (thr p32 (toV 32 words) all (all.length / 64)) else cv (thr p64 (toV 64 words) all (all.length / 128))
theorem addW_len (kind : Int) (words all : List Int) : (addW kind words all).length = 8 := by
 unfold addW
 split <;> rw [cv_length, thr_len _ _ (toV_len _ _)]
def Wok (kind : Int) (words : List Int) : Prop := words.length = 8 ∧ In 18446744073709551616 words ∧ (kind = 1 → In 4294967296 words)
theorem addW_ok (kind : Int) (words all : List Int) : Wok kind (addW kind words all) := by
 refine ⟨addW_len _ _ _, ?_, fun h => ?_⟩
 ·unfold addW
  split
  ·intro x hx
   have := cv_in _ x hx
   omega
  ·intro x hx
   have := cv_in _ x hx
   omega
 ·unfold addW
  rw [if_pos h]
  intro x hx
  have := cv_in _ x hx
  omega
theorem rest_len (n : Nat) (hn : 0 < n) (b : List Int) : (rest n b).length = b.length % n := by
 unfold rest
 rw [List.length_drop]
 have := Nat.div_add_mod b.length n
 omega
theorem rest_in {n : Nat} {b : List Int} (h : In 256 b) : In 256 (rest n b) := h.drop _
theorem sha_small {ρ : Type} (k : Int → Int → List Int → List Int → List Int → List Int → Option ρ) : P.sha_small k = k 32 64 [7, 18, 3] [17, 19, 10] [2, 13, 22] [6, 11, 25] := by rw [P.sha_small_eq]; rfl
theorem sha_great {ρ : Type} (k : Int → Int → List Int → List Int → List Int → List Int → Option ρ) : P.sha_great k = k 64 80 [1, 8, 7] [19, 61, 6] [28, 34, 39] [14, 18, 41] := by rw [P.sha_great_eq]; rfl
theorem sha_Add (kind : Int) (words tail : List Int) (size : Int) (b : List Int) (hl : words.length = 8) (hi : In 18446744073709551616 words) (ht : In 256 tail) (hb : In 256 b) (hn : tail.length + b.length ≤ 1000000) {ρ : Type} (k : Int → List Int → List Int → Int → Option ρ) :
    P.sha_Add kind words tail size b k = k kind (addW kind words (tail ++ b)) (rest (bsz kind) (tail ++ b)) (IntKind.u64.wrap (size + IntKind.u64.wrap (b.length : Int))) := by
 rw [P.sha_Add_eq]; unfold P.sha_Add_raw
 have hf : [tail, b].flatten = tail ++ b := by simp
 have hall : (tail ++ b).length ≤ 1000000 := by rw [List.length_append]; exact hn
 have hin : In 256 (tail ++ b) := ht.app hb
 have hr : ∀ n, (rest n (tail ++ b)).length ≤ 1000000 := fun n => by unfold rest; rw [List.length_drop]; omega
 rw [slices_Concat_byte _ (by simp) (by rw [hf]; omega), hf]
 rcases bsz_or kind with ⟨h, e⟩ | ⟨h, e⟩
 ·rw [br_beq_pos h, sha_small, e]
  rw [t32_through words _ hl hi hin hall]
  unfold P.slices_Clone_byte addW
  have := hr 64
  rw [br_pos (by omega), if_pos h]
 ·rw [br_beq_neg h, sha_great, e]
  rw [t64_through words _ hl hi hin hall]
  unfold P.slices_Clone_byte addW
  have := hr 128
  rw [br_pos (by omega), if_neg h]
theorem R07_Add (kind : Int) (words tail : List Int) (size : Int) (b : List Int) (hw : Wok kind words) (ht : In 256 tail) (hb : In 256 b) (hn : tail.length + b.length ≤ 1000000) {ρ : Type} (k : Int → List Int → List Int → Int → Option ρ) :
    P.R07_Add kind words tail size b k = k kind (addW kind words (tail ++ b)) (rest (bsz kind) (tail ++ b)) (IntKind.u64.wrap (size + IntKind.u64.wrap (b.length : Int))) := by
 rw [P.R07_Add_eq]; unfold P.R07_Add_raw
 obtain ⟨hl, hi, h1⟩ := hw
 have hf : [tail, b].flatten = tail ++ b := by simp
 have hall : (tail ++ b).length ≤ 1000000 := by rw [List.length_append]; exact hn
 have hin : In 256 (tail ++ b) := ht.app hb
 rw [R07_Block, R01_Join _ (by simp) (by rw [hf]; omega), hf]
 rcases bsz_or kind with ⟨h, e⟩ | ⟨h, e⟩
 ·have hv := cv_toV 32 words hl (h1 h)
  rw [e]
  conv => lhs; rw [← hv]
  rw [show ((64 : Nat) : Int) = 64 from rfl, r32_l4 _ (toV_len _ _) _ hin hall]
  unfold addW
  rw [if_pos h]
 ·have hv := cv_toV 64 words hl hi
  rw [e]
  conv => lhs; rw [← hv]
  rw [show ((128 : Nat) : Int) = 128 from rfl, r64_l4 _ (toV_len _ _) _ hin hall]
  unfold addW
  rw [if_neg h]
def padZ (kind : Int) (tl : Nat) : Nat := if kind = 1 then (119 - tl) % 64 else (239 - tl) % 128 + 8
def pad (kind : Int) (tl : Nat) (size : Nat) : List Int := 128 :: List.replicate (padZ kind tl) 0 ++ (bsw 8 8 (size * 8 % 2 ^ 64)).reverse
def outI (n : Nat) (words : List Int) (i : Nat) : List Int := ((List.range i).map fun j => (bsw 8 n (words.getD j 0).toNat).reverse).flatten
theorem outI_succ (n : Nat) (words : List Int) (i : Nat) : outI n words (i + 1) = outI n words i ++ (bsw 8 n (words.getD i 0).toNat).reverse := by simp [outI, List.range_succ]
theorem outI_len (n : Nat) (words : List Int) : ∀ i, (outI n words i).length = n * i
 | 0 => by simp [outI]
 | i + 1 => by rw [outI_succ, List.length_append, outI_len n words i, List.length_reverse, bsw_length, Nat.mul_succ]
theorem outI_in (n : Nat) (words : List Int) : ∀ i, In 256 (outI n words i)
 | 0 => by simp [outI, In]
 | i + 1 => by rw [outI_succ]; exact (outI_in n words i).app (bsw_in 8 n _).rev
def endS (kind : Int) (words tail : List Int) (size : Nat) : List Int :=
 let o := outI (bsz kind / 16) (addW kind words (tail ++ pad kind tail.length size)) 8
 if kind = 2 then o.take 48 else o
theorem endS_in (kind : Int) (words tail : List Int) (size : Nat) : In 256 (endS kind words tail size) := by
 unfold endS
 simp only
 split
 ·exact (outI_in _ _ _).take _
 ·exact outI_in _ _ _
theorem endS_len (kind : Int) (words tail : List Int) (size : Nat) : (endS kind words tail size).length = if kind = 1 then 32 else if kind = 2 then 48 else 64 := by
 unfold endS
 simp only
 rcases bsz_or kind with ⟨h, e⟩ | ⟨h, e⟩
 ·rw [if_neg (by omega), if_pos h, outI_len, e]
 ·rw [if_neg h, e]
  split
  ·rw [List.length_take, outI_len]; decide
  ·rw [outI_len]
theorem tmN (a b : Nat) : ((a : Nat) : Int).tmod (b : Int) = ((a % b : Nat) : Int) := by
 rw [Int.tmod_eq_emod_of_nonneg (by omega)]; rfl
theorem pad_in (kind : Int) (tl size : Nat) : In 256 (pad kind tl size) := by
 unfold pad
 refine In.app ?_ (bsw_in 8 8 _).rev
 intro x hx
 rcases List.mem_cons.1 hx with rfl | hx
 ·omega
 ·rw [List.mem_replicate] at hx; omega
theorem pad_len (kind : Int) (tl size : Nat) : (pad kind tl size).length = padZ kind tl + 9 := by
 unfold pad; simp
theorem padZ_le (kind : Int) (tl : Nat) : padZ kind tl ≤ 200 := by
 unfold padZ; split <;> omega
theorem sha_outs (n : Nat) (hn : n = 64 ∨ n = 128) (words : List Int) (hw : In 18446744073709551616 words) (a : Int) (b : List Int) (c : Int) (d : List Int) {ρ : Type} (k0 : Int → List Int → Int → List Int → Int → List Int → Int → List Int → Option ρ) :
    P.sha_End_l10 (n : Int) words 0 [] a b c d k0 = k0 (n : Int) words 8 (outI (n / 16) words 8) a b c d := by
 rw [P.sha_End_l10_eq]
 unfold P.sha_End_L10
 have e16 : IntKind.i64.wrap ((n : Int).tdiv 16) = ((n / 16 : Nat) : Int) := by rcases hn with rfl | rfl <;> rfl
 refine lp_go (fun i => ((n : Int), words, (i : Int), outI (n / 16) words i, a, b, c, d)) 8 rfl (fun i hi next hn' => ?_) (fun next => ?_) (by omega)
 ·simp only [P.sha_End_r10, toNat_cast]
  have h1 := hw.getD i (by omega)
  have e4 : IntKind.i64.wrap ((i : Int) + 1) = ((i + 1 : Nat) : Int) := by rw [i64w (by omega) (by omega)]; omega
  have e5 : words.getD i 0 = (((words.getD i 0).toNat : Nat) : Int) := by omega
  rw [outI_succ] at hn'
  rw [br_pos (by omega), br_pos (by omega), br_pos (by omega), e16, e5, bits_Be _ _ (by omega) (by omega), e4]
  rw [br_pos (by rw [outI_len, List.length_reverse, bsw_length]; rcases hn with rfl | rfl <;> omega)]
  exact hn'
 ·simp only [P.sha_End_r10]
  rw [br_neg (by omega)]
  rfl
theorem shl3 (size : Nat) : IntKind.u64.wrap ((size : Int) * (2 : Int) ^ 3) = ((size * 8 % 2 ^ 64 : Nat) : Int) := by
 rw [u64m]; omega
theorem sha_End (kind : Int) (words tail : List Int) (size : Nat) (hl : words.length = 8) (hi : In 18446744073709551616 words) (ht : In 256 tail) (hn : tail.length < bsz kind) {ρ : Type} (k : List Int → Option ρ) :
    P.sha_End kind words tail (size : Int) k = k (endS kind words tail size) := by
 rw [P.sha_End_eq]; unfold P.sha_End_raw
 rw [sha_blockSize]
 have hz : IntKind.i64.wrap (IntKind.i64.wrap ((IntKind.i64.wrap (IntKind.i64.wrap (IntKind.i64.wrap (IntKind.i64.wrap ((2 : Int) * ((bsz kind : Nat) : Int)) - (1 : Int)) - IntKind.i64.wrap (((bsz kind : Nat) : Int).tdiv (8 : Int))) - (tail.length : Int))).tmod ((bsz kind : Nat) : Int) + IntKind.i64.wrap (((bsz kind : Nat) : Int).tdiv (8 : Int))) - (8 : Int)) = ((padZ kind tail.length : Nat) : Int) := by
  unfold padZ
  rcases bsz_or kind with ⟨h, e⟩ | ⟨h, e⟩
  ·rw [e] at hn ⊢
   rw [if_pos h, show IntKind.i64.wrap (IntKind.i64.wrap (IntKind.i64.wrap ((2 : Int) * ((64 : Nat) : Int)) - (1 : Int)) - IntKind.i64.wrap (((64 : Nat) : Int).tdiv (8 : Int))) = 119 from rfl, i64w (x := (119 : Int) - (tail.length : Int)) (by omega) (by omega),
    show (119 : Int) - (tail.length : Int) = ((119 - tail.length : Nat) : Int) by omega, tmN, show IntKind.i64.wrap (((64 : Nat) : Int).tdiv (8 : Int)) = 8 from rfl, i64w (x := ((((119 - tail.length) % 64 : Nat) : Int)) + 8) (by omega) (by omega), i64w (by omega) (by omega)]
   omega
  ·rw [e] at hn ⊢
   rw [if_neg h, show IntKind.i64.wrap (IntKind.i64.wrap (IntKind.i64.wrap ((2 : Int) * ((128 : Nat) : Int)) - (1 : Int)) - IntKind.i64.wrap (((128 : Nat) : Int).tdiv (8 : Int))) = 239 from rfl, i64w (x := (239 : Int) - (tail.length : Int)) (by omega) (by omega),
    show (239 : Int) - (tail.length : Int) = ((239 - tail.length : Nat) : Int) by omega, tmN, show IntKind.i64.wrap (((128 : Nat) : Int).tdiv (8 : Int)) = 16 from rfl, i64w (x := ((((239 - tail.length) % 128 : Nat) : Int)) + 16) (by omega) (by omega), i64w (by omega) (by omega)]
   omega
 have hb : bsz kind = 64 ∨ bsz kind = 128 := by rcases bsz_or kind with ⟨h, e⟩ | ⟨h, e⟩ <;> omega
 have hz2 := padZ_le kind tail.length
 rw [hz]
 simp only [toNat_cast]
 rw [br_pos (by omega), br_pos (by omega), br_neg (by omega), br_pos (by omega), br_pos (by omega), shl3, show (8 : Int) = ((8 : Nat) : Int) from rfl, bits_Be _ 8 (by omega) (by omega)]
 have hp : (List.replicate 1 (0 : Int)).set 0 (128 : Int) ++ List.replicate (padZ kind tail.length) (0 : Int) ++ (bsw 8 8 (size * 8 % 2 ^ 64)).reverse = pad kind tail.length size := rfl
 rw [br_pos (by
  show ((List.replicate (padZ kind tail.length) (0 : Int)).length + 0 + 1 + _) * 1 ≤ _
  rw [List.length_replicate, List.length_reverse, bsw_length]; omega), hp]
 have hpl := pad_len kind tail.length size
 rw [sha_Add kind words tail _ _ hl hi ht (pad_in _ _ _) (by omega), sha_outs _ hb _ (addW_ok _ _ _).2.1]
 unfold endS
 simp only
 by_cases h2 : kind = 2
 ·have e : bsz kind = 128 := by unfold bsz; rw [if_neg (by omega)]
  rw [br_beq_pos h2, br_pos (by rw [outI_len, e]; omega), if_pos h2]
  rfl
 ·rw [br_beq_neg h2, if_neg h2]
theorem pads (n : Nat) (hn : n = 64 ∨ n = 128) (tl : Nat) (ht : tl < 200) (z m : Nat) (hm : m < n) (h1 : ∀ i, i < z → (tl + (1 + i)) % n ≠ m) (h2 : (tl + (1 + z)) % n = m) (hz : z ≤ 200) (c : Int) (kd : Int) (words tail : List Int) (size : Int) (hl : tail.length = tl) (d : Int) (hd : IntKind.i64.wrap ((n : Int) - d) = (m : Int)) :
    (d = 8 → ∀ {ρ : Type} (k0 : Int → Int → List Int → Int → List Int → List Int → Int → Option ρ), P.R07_End_l4 (n : Int) c [128] kd words tail size k0 = k0 (n : Int) c (128 :: List.replicate z 0) kd words tail size) ∧
    (d = 16 → ∀ {ρ : Type} (k0 : Int → Int → List Int → Int → List Int → List Int → Int → Option ρ), P.R07_End_l8 (n : Int) c [128] kd words tail size k0 = k0 (n : Int) c (128 :: List.replicate z 0) kd words tail size) := by
 have hlen : ∀ i : Nat, ((128 : Int) :: List.replicate i 0).length = 1 + i := fun i => by simp; omega
 have hc : ∀ i : Nat, i ≤ z → IntKind.i64.wrap (((tail.length : Nat) : Int) + ((((128 : Int) :: List.replicate i 0).length : Nat) : Int)) = ((tl + (1 + i) : Nat) : Int) := fun i hi => by
  rw [hlen, hl, i64w (by omega) (by omega)]; omega
 have hs : ∀ i : Nat, ((128 : Int) :: List.replicate i 0) ++ [(0 : Int)] = 128 :: List.replicate (i + 1) 0 := fun i => by
  rw [List.replicate_succ']; rfl
 constructor
 ·rintro rfl ρ k0
  rw [P.R07_End_l4_eq]
  unfold P.R07_End_L4
  refine lp_go (fun i => ((n : Int), c, 128 :: List.replicate i 0, kd, words, tail, size)) z rfl (fun i hi next hn' => ?_) (fun next => ?_) (by omega)
  ·simp only [P.R07_End_r4]
   have := h1 i hi
   rw [hc i (by omega), tmN, hd, br_neg (by omega), br_bne_pos (by omega), br_pos (by rw [hlen]; omega), hs]
   exact hn'
  ·simp only [P.R07_End_r4]
   rw [hc z (by omega), tmN, hd, br_neg (by omega), h2, br_bne_neg (by rfl)]
 ·rintro rfl ρ k0
  rw [P.R07_End_l8_eq]
  unfold P.R07_End_L8
  refine lp_go (fun i => ((n : Int), c, 128 :: List.replicate i 0, kd, words, tail, size)) z rfl (fun i hi next hn' => ?_) (fun next => ?_) (by omega)
  ·simp only [P.R07_End_r8]
   have := h1 i hi
   rw [hc i (by omega), tmN, hd, br_neg (by omega), br_bne_pos (by omega), br_pos (by rw [hlen]; omega), hs]
   exact hn'
  ·simp only [P.R07_End_r8]
   rw [hc z (by omega), tmN, hd, br_neg (by omega), h2, br_bne_neg (by rfl)]
theorem R07_outs (n : Nat) (hn : n = 64 ∨ n = 128) (words : List Int) (hw : In 18446744073709551616 words) (a : Int) (b : List Int) (c : Int) {ρ : Type} (k0 : Int → Int → List Int → Int → List Int → List Int → Int → Option ρ) :
    P.R07_End_l14 (n : Int) 0 [] a words b c k0 = k0 (n : Int) 8 (outI (n / 16) words 8) a words b c := by
 rw [P.R07_End_l14_eq]
 unfold P.R07_End_L14
 have e16 : IntKind.i64.wrap ((n : Int).tdiv 16) = ((n / 16 : Nat) : Int) := by rcases hn with rfl | rfl <;> rfl
 refine lp_go (fun i => ((n : Int), (i : Int), outI (n / 16) words i, a, words, b, c)) 8 rfl (fun i hi next hn' => ?_) (fun next => ?_) (by omega)
 ·simp only [P.R07_End_r14, toNat_cast]
  have h1 := hw.getD i (by omega)
  have e4 : IntKind.i64.wrap ((i : Int) + 1) = ((i + 1 : Nat) : Int) := by rw [i64w (by omega) (by omega)]; omega
  have e5 : words.getD i 0 = (((words.getD i 0).toNat : Nat) : Int) := by omega
  rw [outI_succ] at hn'
  rw [br_pos (by omega), br_pos (by omega), br_pos (by omega), e16, e5, R01_Be _ _ (by omega) (by omega), e4]
  rw [br_pos (by rw [outI_len, List.length_reverse, bsw_length]; rcases hn with rfl | rfl <;> omega)]
  exact hn'
 ·simp only [P.R07_End_r14]
  rw [br_neg (by omega)]
  rfl
theorem R07_tail (kind : Int) (words tail : List Int) (size : Nat) {ρ : Type} (k : List Int → Option ρ) :
    (br (kind == (2 : Int)) (br (decide ((48 : Int) ≤ ((outI (bsz kind / 16) (addW kind words (tail ++ pad kind tail.length size)) 8).length : Int))) (k (List.take ((48 : Int) - (0 : Int)).toNat (outI (bsz kind / 16) (addW kind words (tail ++ pad kind tail.length size)) 8))) none)
     (k (outI (bsz kind / 16) (addW kind words (tail ++ pad kind tail.length size)) 8))) = k (endS kind words tail size) := by
 unfold endS
 simp only
 by_cases h2 : kind = 2
 ·have e : bsz kind = 128 := by unfold bsz; rw [if_neg (by omega)]
  rw [br_beq_pos h2, br_pos (by rw [outI_len, e]; omega), if_pos h2]
  rfl
 ·rw [br_beq_neg h2, if_neg h2]
theorem R07_End (kind : Int) (words tail : List Int) (size : Nat) (hw : Wok kind words) (ht : In 256 tail) (hn : tail.length < bsz kind) (hs : size < 2305843009213693952) {ρ : Type} (k : List Int → Option ρ) :
    P.R07_End kind words tail (size : Int) k = k (endS kind words tail size) := by
 rw [P.R07_End_eq]; unfold P.R07_End_raw
 have h8 : IntKind.u64.wrap ((size : Int) * 8) = ((size * 8 % 2 ^ 64 : Nat) : Int) := by rw [u64m]; omega
 have hpl := pad_len kind tail.length size
 have hz2 := padZ_le kind tail.length
 rw [R07_Block, h8]
 rcases bsz_or kind with ⟨h, e⟩ | ⟨h, e⟩
 ·rw [e] at hn ⊢
  have hp := (pads 64 (.inl rfl) tail.length (by omega) (padZ kind tail.length) 56 (by omega) (fun i hi => by unfold padZ at hi; rw [if_pos h] at hi; omega) (by unfold padZ; rw [if_pos h]; omega) hz2 ((size * 8 % 2 ^ 64 : Nat) : Int) kind words tail (size : Int) rfl 8 rfl).1
  rw [hp rfl, br_beq_neg (by decide), show (8 : Int) = ((8 : Nat) : Int) from rfl, R01_Be _ 8 (by omega) (by omega), br_pos (by simp; omega)]
  have hpad : (128 : Int) :: List.replicate (padZ kind tail.length) 0 ++ (bsw 8 8 (size * 8 % 2 ^ 64)).reverse = pad kind tail.length size := rfl
  rw [hpad, R07_Add kind words tail _ _ hw ht (pad_in _ _ _) (by omega), R07_outs _ (.inl rfl) _ (addW_ok _ _ _).2.1]
  have := R07_tail kind words tail size k
  rw [e] at this
  exact this
 ·rw [e] at hn ⊢
  have hp1 := (pads 128 (.inr rfl) tail.length (by omega) ((247 - tail.length) % 128) 120 (by omega) (fun i hi => by omega) (by omega) (by omega) ((size * 8 % 2 ^ 64 : Nat) : Int) kind words tail (size : Int) rfl 8 rfl).1
  have hp2 := (pads 128 (.inr rfl) tail.length (by omega) ((239 - tail.length) % 128) 112 (by omega) (fun i hi => by omega) (by omega) (by omega) ((size * 8 % 2 ^ 64 : Nat) : Int) kind words tail (size : Int) rfl 16 rfl).2
  have h61 : ((size : Nat) : Int).fdiv ((2 : Int) ^ 61) = ((0 : Nat) : Int) := by
   have := fdiv_pow size 61 61 (by omega)
   rw [Nat.div_eq_of_lt (by omega)] at this
   exact this
  rw [hp1 rfl, br_beq_pos (by rfl), hp2 rfl, h61, show (8 : Int) = ((8 : Nat) : Int) from rfl, R01_Be _ 8 (by omega) (by omega), br_pos (by simp; omega), R01_Be _ 8 (by omega) (by omega), br_pos (by simp; omega)]
  have hpad : (128 : Int) :: List.replicate ((239 - tail.length) % 128) 0 ++ (bsw 8 8 0).reverse ++ (bsw 8 8 (size * 8 % 2 ^ 64)).reverse = pad kind tail.length size := by
   unfold pad padZ
   rw [if_neg h, ← List.replicate_append_replicate]
   rfl
  rw [hpad, R07_Add kind words tail _ _ hw ht (pad_in _ _ _) (by omega), R07_outs _ (.inr rfl) _ (addW_ok _ _ _).2.1]
  have := R07_tail kind words tail size k
  rw [e] at this
  exact this
def newW (kind : Int) : List Int :=
 if kind = 1 then [1779033703, 3144134277, 1013904242, 2773480762, 1359893119, 2600822924, 528734635, 1541459225]
 else if kind = 2 then [14680500436340154072, 7105036623409894663, 10473403895298186519, 1526699215303891257, 7436329637833083697, 10282925794625328401, 15784041429090275239, 5167115440072839076]
 else [7640891576956012808, 13503953896175478587, 4354685564936845355, 11912009170470909681, 5840696475078001361, 11170449401992604703, 2270897969802886507, 6620516959819538809]
theorem newW_ok (kind : Int) : Wok kind (newW kind) := by
 unfold newW Wok
 by_cases h1 : kind = 1
 ·simp only [if_pos h1]
  refine ⟨rfl, ?_, fun _ => ?_⟩
  ·unfold In; decide
  ·unfold In; decide
 ·by_cases h2 : kind = 2
  ·simp only [if_neg h1, if_pos h2]
   refine ⟨rfl, ?_, fun h => absurd h h1⟩
   unfold In; decide
  ·simp only [if_neg h1, if_neg h2]
   refine ⟨rfl, ?_, fun h => absurd h h1⟩
   unfold In; decide
def K3 (kind : Int) : Prop := kind = 1 ∨ kind = 2 ∨ kind = 3
theorem sha_begin_k {kind : Int} (h : K3 kind) {ρ : Type} (k : List Int → Bool → Option ρ) : P.sha_begin kind k = k (newW kind) true := by
 rw [P.sha_begin_eq]
 rcases h with rfl | rfl | rfl <;> kernel_rfl
theorem sha_New {kind : Int} (h : K3 kind) {ρ : Type} (k : Int → List Int → List Int → Int → Int → Option ρ) : P.sha_New kind k = k kind (newW kind) [] 0 0 := by
 rw [P.sha_New_eq]; unfold P.sha_New_raw
 rw [sha_begin_k h, br_not, br_tt]
theorem R07_New {kind : Int} (h : K3 kind) {ρ : Type} (k : Int → List Int → List Int → Int → Int → Option ρ) : P.R07_New kind k = k kind (newW kind) [] 0 0 := by
 rw [P.R07_New_eq]; unfold P.R07_New_raw newW
 rcases h with rfl | rfl | rfl
 ·rw [br_beq_pos (by rfl)]; rfl
 ·rw [br_beq_neg (by decide), br_beq_pos (by rfl)]; rfl
 ·rw [br_beq_neg (by decide), br_beq_neg (by decide), br_beq_pos (by rfl)]; rfl
theorem bsz_pos (kind : Int) : 0 < bsz kind := by rcases bsz_or kind with ⟨h, e⟩ | ⟨h, e⟩ <;> omega
def sumS (kind : Int) (b : List Int) : List Int := endS kind (addW kind (newW kind) b) (rest (bsz kind) b) b.length
theorem size_add (b : List Int) (hn : b.length ≤ 1000000) : IntKind.u64.wrap ((0 : Int) + IntKind.u64.wrap (b.length : Int)) = ((b.length : Nat) : Int) := by
 rw [u64n _ (by omega), Int.zero_add, u64n _ (by omega)]
theorem R07_Sum {kind : Int} (h : K3 kind) (b : List Int) (hb : In 256 b) (hn : b.length ≤ 1000000) {ρ : Type} (k : List Int → Int → Option ρ) : P.R07_Sum kind b k = k (sumS kind b) 0 := by
 rw [P.R07_Sum_eq]; unfold P.R07_Sum_raw
 have hw := newW_ok kind
 have hr := rest_len _ (bsz_pos kind) b
 have hlt := Nat.mod_lt b.length (bsz_pos kind)
 rw [R07_New h, br_bne_neg (by rfl), R07_Add kind _ [] _ b hw In.nil hb (by simpa using hn), List.nil_append, size_add b hn, R07_End kind _ _ _ (addW_ok _ _ _) (rest_in hb) (by omega) (by omega)]
 rfl
theorem sumS_in (kind : Int) (b : List Int) : In 256 (sumS kind b) := endS_in _ _ _ _
theorem sumS_len (kind : Int) (b : List Int) : (sumS kind b).length = if kind = 1 then 32 else if kind = 2 then 48 else 64 := endS_len _ _ _ _
end Q
end

section
/- SHA-2: bytes that are added one behind the other. -/
namespace Q
open Go Go.Abs
set_option linter.unusedVariables false
set_option linter.unusedSimpArgs false
theorem thr_append {w : Nat} (p : Par w) (v : List (BitVec w)) (a b : List Int) (m : Nat) (hm : (2 * w) * m = a.length) : ∀ i, thr p v (a ++ b) (m + i) = thr p (thr p v a m) b i ∧ thr p v (a ++ b) m = thr p v a m := by
 have key : ∀ i, i ≤ m → thr p v (a ++ b) i = thr p v a i := by
  intro i
  induction i with
  | zero => intro _; rfl
  | succ i ih =>
   intro hi
   have h1 : (2 * w) * i + 2 * w ≤ a.length := by
    rw [← hm, ← Nat.mul_succ]
    exact Nat.mul_le_mul (Nat.le_refl _) hi
   simp only [thr]
   rw [ih (by omega), List.drop_append_of_le_length (by omega), List.take_append_of_le_length (by rw [List.length_drop]; omega)]
 intro i
 refine ⟨?_, key m (Nat.le_refl _)⟩
 induction i with
 | zero => exact key m (Nat.le_refl _)
 | succ i ih =>
  rw [← Nat.add_assoc]
  simp only [thr]
  rw [ih, Nat.mul_add, hm, List.drop_append, List.drop_eq_nil_of_le (by omega), List.nil_append, Nat.add_sub_cancel_left]
theorem addW1 (words all : List Int) : addW 1 words all = cv (thr p32 (toV 32 words) all (all.length / 64)) := if_pos rfl
theorem addW_two (words a b : List Int) : addW 1 (addW 1 words a) (rest 64 a ++ b) = addW 1 words (a ++ b) := by
 have hlen := thr_len p32 (toV 32 words) (toV_len _ _) a (a.length / 64)
 rw [addW1, addW1, addW1, toV_cv _ hlen]
 have h0 : a = a.take (64 * (a.length / 64)) ++ rest 64 a := by unfold rest; rw [List.take_append_drop]
 have h1 : (a.take (64 * (a.length / 64))).length = 64 * (a.length / 64) := by rw [List.length_take]; omega
 have h2 := rest_len 64 (by omega) a
 have e1 := thr_append p32 (toV 32 words) (a.take (64 * (a.length / 64))) (rest 64 a ++ b) (a.length / 64) h1.symm ((rest 64 a ++ b).length / 64)
 have e2 := thr_append p32 (toV 32 words) (a.take (64 * (a.length / 64))) (rest 64 a) (a.length / 64) h1.symm 0
 rw [← List.append_assoc, ← h0] at e1
 rw [← h0] at e2
 rw [e2.2, ← e1.1]
 congr 2
 rw [List.length_append, List.length_append, h2]
 omega
theorem rest_two (a b : List Int) : rest 64 (rest 64 a ++ b) = rest 64 (a ++ b) := by
 have h2 := rest_len 64 (by omega) a
 have h3 : (a ++ b).drop (64 * (a.length / 64)) = rest 64 a ++ b := by unfold rest; rw [List.drop_append_of_le_length (by omega)]
 have hl : (rest 64 a ++ b).length = a.length % 64 + b.length := by rw [List.length_append, h2]
 have hq : (a ++ b).length / 64 = a.length / 64 + (rest 64 a ++ b).length / 64 := by
  rw [hl, List.length_append]; omega
 show (rest 64 a ++ b).drop (64 * ((rest 64 a ++ b).length / 64)) = (a ++ b).drop (64 * ((a ++ b).length / 64))
 rw [hq, Nat.mul_add, ← List.drop_drop, h3]
theorem sum_two (a b : List Int) (n : Nat) (hn : n = (a ++ b).length) : endS 1 (addW 1 (addW 1 (newW 1) a) (rest 64 a ++ b)) (rest 64 (rest 64 a ++ b)) n = sumS 1 (a ++ b) := by
 rw [addW_two, rest_two, hn]
 rfl
end Q
end

section
/- lmots: the digits as the program and as the document count them. -/
namespace Q
open Go Go.Abs
set_option linter.unusedVariables false
set_option linter.unusedSimpArgs false
theorem R14_Kind {w p s : Nat} (h : Kind w p s) : ∃ t : Int, ∀ {ρ : Type} (k : Int → Int → Int → Option ρ), P.R14_Kind (w : Int) k = k (p : Int) (s : Int) t := by
 rcases h with ⟨rfl, rfl, rfl⟩ | ⟨rfl, rfl, rfl⟩ | ⟨rfl, rfl, rfl⟩ | ⟨rfl, rfl, rfl⟩ 
 ·exact ⟨1, fun k => by rw [P.R14_Kind_eq]; kernel_rfl⟩
 ·exact ⟨2, fun k => by rw [P.R14_Kind_eq]; kernel_rfl⟩
 ·exact ⟨3, fun k => by rw [P.R14_Kind_eq]; kernel_rfl⟩
 ·exact ⟨4, fun k => by rw [P.R14_Kind_eq]; kernel_rfl⟩
theorem lmots_known {w p s : Nat} (h : Kind w p s) : ∃ t : Int, ∀ {ρ : Type} (k : Int → Int → Int → Bool → Option ρ), P.lmots_known (w : Int) k = k (p : Int) (s : Int) t true := by
 rcases h with ⟨rfl, rfl, rfl⟩ | ⟨rfl, rfl, rfl⟩ | ⟨rfl, rfl, rfl⟩ | ⟨rfl, rfl, rfl⟩ 
 ·exact ⟨1, fun k => by rw [P.lmots_known_eq]; kernel_rfl⟩
 ·exact ⟨2, fun k => by rw [P.lmots_known_eq]; kernel_rfl⟩
 ·exact ⟨3, fun k => by rw [P.lmots_known_eq]; kernel_rfl⟩
 ·exact ⟨4, fun k => by rw [P.lmots_known_eq]; kernel_rfl⟩
theorem kind_pos {w p s : Nat} (h : Kind w p s) : ((p : Int) == 0) = false := by
 rcases h with ⟨rfl, rfl, rfl⟩ | ⟨rfl, rfl, rfl⟩ | ⟨rfl, rfl, rfl⟩ | ⟨rfl, rfl, rfl⟩ <;> rfl
theorem tdiv_w {w p s : Nat} (h : Kind w p s) : IntKind.i64.wrap (Int.tdiv (256 : Int) (w : Int)) = ((256 / w : Nat) : Int) := by
 rcases h with ⟨rfl, rfl, rfl⟩ | ⟨rfl, rfl, rfl⟩ | ⟨rfl, rfl, rfl⟩ | ⟨rfl, rfl, rfl⟩ <;> rfl
theorem num_at' {w : Nat} {b : List Int} (hb : In (2 ^ w) b) (t : Nat) : ∃ x : Nat, b.getD t 0 = (x : Int) ∧ x < 2 ^ w := by
 have hp : ((2 : Int) ^ w) = ((2 ^ w : Nat) : Int) := by simp
 have := hb.getD t (by rw [hp]; have := p2 w; omega)
 rw [hp] at this
 exact ⟨(b.getD t 0).toNat, by omega, by omega⟩
theorem sum_le {w p s : Nat} (hk : Kind w p s) (x : List Int) (i : Nat) : sumTo (digitsS x w ((256 / w : Nat) : Int)) i ≤ i * (2 ^ w - 1) := sumTo_le _ w (digits_in x w _) i
theorem lmots_Digits_kind {w p s : Nat} (hk : Kind w p s) (x : List Int) (hx : In 256 x) (hl : x.length = 32) {ρ : Type} (k : List Int → Int → Option ρ) : P.lmots_Digits (w : Int) x k = k (allD w p s x) 0 := by
 obtain ⟨t, ht⟩ := lmots_known hk
 obtain ⟨f1, f2, f3, f4, f5, f6, f7, f8, f9, f10, f11⟩ := kind_facts hk
 rw [P.lmots_Digits_eq]
 unfold P.lmots_Digits_raw
 have hn : (digitsS x w ((256 / w : Nat) : Int)).length = 256 / w := by
  rw [digits_map x w _ f1 (by omega) (by omega)]; simp
 rw [ht, br_not, br_tt, br_bne_neg (by omega), br_neg (by omega), tdiv_w hk, bits_Digits _ _ _ hx (by omega), br_neg (by omega), hn]
 have hm : IntKind.u64.wrap (((256 / w : Nat) : Int)) = ((256 / w : Nat) : Int) := u64n _ (by omega)
 simp only [toNat_cast]
 rw [hm, mask64 w (by omega), ← Int.natCast_mul, u64n _ (by omega), P.lmots_Digits_l9_eq]
 unfold P.lmots_Digits_L9
 refine lp_go (fun i => ((w : Int), ((256 / w * (2 ^ w - 1) - sumTo (digitsS x w ((256 / w : Nat) : Int)) i : Nat) : Int), ((256 / w : Nat) : Int), (i : Int), (p : Int), (s : Int), t, digitsS x w ((256 / w : Nat) : Int))) (256 / w) (by simp [sumTo]) (fun i hi next hn' => ?_) (fun next => ?_) (by omega)
 ·obtain ⟨d, hd, hd2⟩ := num_at' (w := w) (digits_in x w ((256 / w : Nat) : Int)) i
  have hle := sum_le hk x (i + 1)
  have hle2 : (i + 1) * (2 ^ w - 1) ≤ 256 / w * (2 ^ w - 1) := Nat.mul_le_mul hi (Nat.le_refl _)
  simp only [sumTo, hd, Int.toNat_natCast] at hn' hle
  simp only [P.lmots_Digits_r9, toNat_cast]
  rw [hd, u64n d (by omega), show ((256 / w * (2 ^ w - 1) - sumTo (digitsS x w ((256 / w : Nat) : Int)) i : Nat) : Int) - (d : Int) = ((256 / w * (2 ^ w - 1) - (sumTo (digitsS x w ((256 / w : Nat) : Int)) i + d) : Nat) : Int) by omega, u64n _ (by omega)]
  simp (disch := omega) only [br_pos, br_neg, br_bne_pos, br_bne_neg, br_beq_pos, br_beq_neg, br_not, br_tt, br_ff, i64w, hn]
  exact hn'
 ·simp only [P.lmots_Digits_r9]
  have hleft : (256 / w * (2 ^ w - 1) - sumTo (digitsS x w ((256 / w : Nat) : Int)) (256 / w)) * 2 ^ s = left w s x := rfl
  have hlt := left_lt hk x
  have hn2 : (digitsS (bsw 8 2 (left w s x)).reverse w ((p - 256 / w : Nat) : Int)).length = p - 256 / w := by
   rw [digits_map _ w _ f1 (by omega) (by rw [Nat.sub_mul, Nat.mul_comm p w, f5]; simp; omega)]; simp
  rw [br_neg (by omega), br_neg (by omega)]
  simp only [toNat_cast]
  rw [mul_pow _ s 64 (by omega), hleft, u64n _ (by omega), show (2 : Int) = ((2 : Nat) : Int) from rfl, bits_Be _ 2 (by omega) (by omega), hn, i64w (by omega) (by omega), show (p : Int) - ((256 / w : Nat) : Int) = ((p - 256 / w : Nat) : Int) by omega,
   bits_Digits _ _ _ (bsw_in 8 2 _).rev (by simp), hn2, br_pos (by omega)]
  unfold allD
  rw [digits_app hk x _ hl (by simp)]
theorem R14_Digits_kind {w p s : Nat} (hk : Kind w p s) (x : List Int) (hx : In 256 x) (hl : x.length = 32) {ρ : Type} (k : List Int → Int → Option ρ) : P.R14_Digits (w : Int) x k = k (allD w p s x) 0 := by
 obtain ⟨t, ht⟩ := R14_Kind hk
 obtain ⟨f1, f2, f3, f4, f5, f6, f7, f8, f9, f10, f11⟩ := kind_facts hk
 rw [P.R14_Digits_eq]
 unfold P.R14_Digits_raw
 have hn : (digitsS x w ((256 / w : Nat) : Int)).length = 256 / w := by
  rw [digits_map x w _ f1 (by omega) (by omega)]; simp
 rw [ht, kind_pos hk, br_ff, br_bne_neg (by omega), br_neg (by omega), tdiv_w hk, R01_Digits _ _ _ hx (by omega), P.R14_Digits_l9_eq]
 unfold P.R14_Digits_L9
 refine lp_go (fun i => ((w : Int), x, (p : Int), (s : Int), ((i * (2 ^ w - 1) - sumTo (digitsS x w ((256 / w : Nat) : Int)) i : Nat) : Int), (i : Int), digitsS x w ((256 / w : Nat) : Int))) (256 / w) (by simp [sumTo]) (fun i hi next hn' => ?_) (fun next => ?_) (by omega)
 ·obtain ⟨d, hd, hd2⟩ := num_at' (w := w) (digits_in x w ((256 / w : Nat) : Int)) i
  have hle := sum_le hk x i
  have hle2 : (i + 1) * (2 ^ w - 1) ≤ 256 / w * (2 ^ w - 1) := Nat.mul_le_mul hi (Nat.le_refl _)
  have hs : (i + 1) * (2 ^ w - 1) = i * (2 ^ w - 1) + (2 ^ w - 1) := Nat.succ_mul i _
  simp only [sumTo, hd, Int.toNat_natCast] at hn'
  simp only [P.R14_Digits_r9, toNat_cast]
  rw [mask64 w (by omega), hd, u64n d (by omega), ← Int.natCast_add, u64n _ (by omega), show ((i * (2 ^ w - 1) - sumTo (digitsS x w ((256 / w : Nat) : Int)) i + (2 ^ w - 1) : Nat) : Int) - (d : Int) = (((i + 1) * (2 ^ w - 1) - (sumTo (digitsS x w ((256 / w : Nat) : Int)) i + d) : Nat) : Int) by omega, u64n _ (by omega)]
  simp (disch := omega) only [br_pos, br_neg, br_bne_pos, br_bne_neg, br_beq_pos, br_beq_neg, br_not, br_tt, br_ff, i64w, hn]
  exact hn'
 ·simp only [P.R14_Digits_r9]
  have hleft : (256 / w * (2 ^ w - 1) - sumTo (digitsS x w ((256 / w : Nat) : Int)) (256 / w)) * 2 ^ s = left w s x := rfl
  have hlt := left_lt hk x
  have hf : [x, (bsw 8 2 (left w s x)).reverse].flatten = x ++ (bsw 8 2 (left w s x)).reverse := by simp
  rw [br_neg (by rw [hn]; omega), br_neg (by omega)]
  simp only [toNat_cast]
  rw [mul_pow _ s 64 (by omega), hleft, u64n _ (by omega), show (2 : Int) = ((2 : Nat) : Int) from rfl, R01_Be _ 2 (by omega) (by omega), R01_Join _ (by simp) (by rw [hf]; simp; omega), hf, R01_Digits _ _ _ (hx.app (bsw_in 8 2 _).rev) (by simp; omega)]
  rfl
theorem lmots_Size {w p s : Nat} (hk : Kind w p s) {ρ : Type} (k : Int → Option ρ) : P.lmots_Size (w : Int) k = k ((36 + 32 * p : Nat) : Int) := by
 obtain ⟨t, ht⟩ := lmots_known hk
 obtain ⟨f1, f2, f3, f4, f5, f6, f7, f8, f9, f10, f11⟩ := kind_facts hk
 rw [P.lmots_Size_eq]; unfold P.lmots_Size_raw
 rw [ht, br_not, br_tt, i64w (x := (32 : Int) * (p : Int)) (by omega) (by omega), i64w (by omega) (by omega)]; rfl
theorem R14_Size {w p s : Nat} (hk : Kind w p s) {ρ : Type} (k : Int → Option ρ) : P.R14_Size (w : Int) k = k ((36 + 32 * p : Nat) : Int) := by
 obtain ⟨t, ht⟩ := R14_Kind hk
 obtain ⟨f1, f2, f3, f4, f5, f6, f7, f8, f9, f10, f11⟩ := kind_facts hk
 rw [P.R14_Size_eq]; unfold P.R14_Size_raw
 rw [ht, kind_pos hk, br_ff, i64w (x := (32 : Int) * (p : Int)) (by omega) (by omega), i64w (by omega) (by omega)]; rfl
theorem allD_len {w p s : Nat} (hk : Kind w p s) (x : List Int) (hl : x.length = 32) : (allD w p s x).length = p := by
 obtain ⟨f1, f2, f3, f4, f5, f6, f7, f8, f9, f10, f11⟩ := kind_facts hk
 unfold allD
 rw [digits_map _ w p f1 (by omega) (by rw [Nat.mul_comm, f5]; simp; omega)]; simp
end Q
end

section
open Go Go.Abs
set_option linter.unusedVariables false
namespace P
end P
end

section
open Go Go.Abs
set_option linter.unusedVariables false
namespace P
end P
end

section
open Go Go.Abs
set_option linter.unusedVariables false
namespace P
end P
end

section
open Go Go.Abs
set_option linter.unusedVariables false
namespace P
end P
end

section
open Go Go.Abs
set_option linter.unusedVariables false
namespace P
end P
end

section
open Go Go.Abs
set_option linter.unusedVariables false
namespace P
end P
end

section
open Go Go.Abs
set_option linter.unusedVariables false
namespace P
end P
end

section
open Go Go.Abs
set_option linter.unusedVariables false
namespace P
end P
end

section
/- lmots: sums of a leaf. -/
namespace Q
open Go Go.Abs
set_option linter.unusedVariables false
set_option linter.unusedSimpArgs false
def beN (n s : Nat) : List Int := (bsw 8 s n).reverse
theorem beN_len (n s : Nat) : (beN n s).length = s := by simp [beN]
theorem beN_in (n s : Nat) : In 256 (beN n s) := (bsw_in 8 s n).rev
def lsum (id : List Int) (q n : Nat) (l : List (List Int)) : List Int := sumS 1 ((id ++ (beN q 4 ++ beN n 2)) ++ l.flatten)
theorem lsum_len (id : List Int) (q n : Nat) (l : List (List Int)) : (lsum id q n l).length = 32 := by
 unfold lsum; rw [sumS_len, if_pos rfl]
theorem lsum_in (id : List Int) (q n : Nat) (l : List (List Int)) : In 256 (lsum id q n l) := sumS_in _ _
theorem add_size (a b : Nat) (h : a + b ≤ 1000000) : IntKind.u64.wrap (((a : Nat) : Int) + IntKind.u64.wrap ((b : Nat) : Int)) = ((a + b : Nat) : Int) := by
 rw [u64n _ (by omega), ← Int.natCast_add, u64n _ (by omega)]
theorem leaf_sum (w : Int) (id : List Int) (q n : Nat) (d s c : Int) (l : List (List Int)) (hid : In 256 id) (h16 : id.length ≤ 300) (hq : q < 4294967296) (hn : n < 18446744073709551616) (hl : In 256 l.flatten) (hc : l.length ≤ 1000000) (hb : l.flatten.length ≤ 900000) {ρ : Type} (k : List Int → Option ρ) :
    P.lmots_leaf_sum w id (q : Int) d s c (n : Int) l k = k (lsum id q n l) := by
 rw [P.lmots_leaf_sum_eq]; unfold P.lmots_leaf_sum_raw
 have hw := newW_ok 1
 have hf : [id, (bsw 8 4 q).reverse, (bsw 8 2 n).reverse].flatten = id ++ (beN q 4 ++ beN n 2) := by simp [beN]
 have hlen : (id ++ (beN q 4 ++ beN n 2)).length = id.length + 6 := by simp [beN_len]
 have hin : In 256 (id ++ (beN q 4 ++ beN n 2)) := hid.app ((beN_in _ _).app (beN_in _ _))
 have hr := rest_len 64 (by omega) (id ++ (beN q 4 ++ beN n 2))
 have hr2 := rest_len 64 (by omega) (rest 64 (id ++ (beN q 4 ++ beN n 2)) ++ l.flatten)
 have hlt := Nat.mod_lt (rest 64 (id ++ (beN q 4 ++ beN n 2)) ++ l.flatten).length (show 0 < 64 by omega)
 rw [sha_New (.inl rfl), u64n _ (by omega), show (4 : Int) = ((4 : Nat) : Int) from rfl, bits_Be q 4 (by omega) (by omega), show (2 : Int) = ((2 : Nat) : Int) from rfl, bits_Be n 2 hn (by omega), bits_Join _ (by simp) (by rw [hf]; omega), hf,
  sha_Add 1 _ [] _ _ hw.1 hw.2.1 In.nil hin (by rw [hlen, List.length_nil]; omega), List.nil_append, size_add _ (by omega), show bsz 1 = 64 from rfl, bits_Join l (by omega) (by omega),
  sha_Add 1 _ _ _ _ (addW_len _ _ _) (addW_ok _ _ _).2.1 (rest_in hin) hl (by omega), show bsz 1 = 64 from rfl, add_size _ _ (by omega), sha_End 1 _ _ _ (addW_len _ _ _) (addW_ok _ _ _).2.1 (rest_in ((rest_in hin).app hl)) (by rw [hr2]; exact hlt),
  sum_two _ _ _ (by simp only [List.length_append])]
 rfl
theorem H14 (l : List (List Int)) (hl : In 256 l.flatten) (hc : l.length ≤ 1000000) (hb : l.flatten.length ≤ 1000000) {ρ : Type} (k : List Int → Option ρ) : P.R14_H l k = k (sumS 1 l.flatten) := by
 rw [P.R14_H_eq]; unfold P.R14_H_raw
 rw [R01_Join l (by omega) (by omega), R07_Sum (.inl rfl) _ hl hb]
theorem H14_leaf (id : List Int) (q n : Nat) (l : List (List Int)) (hid : In 256 id) (h16 : id.length ≤ 300) (hl : In 256 l.flatten) (hc : l.length ≤ 900000) (hb : l.flatten.length ≤ 900000) {ρ : Type} (k : List Int → Option ρ) :
    P.R14_H (id :: (bsw 8 4 q).reverse :: (bsw 8 2 n).reverse :: l) k = k (lsum id q n l) := by
 have hf : (id :: (bsw 8 4 q).reverse :: (bsw 8 2 n).reverse :: l).flatten = (id ++ (beN q 4 ++ beN n 2)) ++ l.flatten := by simp [beN]
 have hlen : (id ++ (beN q 4 ++ beN n 2)).length = id.length + 6 := by simp [beN_len]
 rw [H14 _ (by rw [hf]; exact (hid.app ((beN_in _ _).app (beN_in _ _))).app hl) (by simp only [List.length_cons]; omega) (by rw [hf, List.length_append, hlen]; omega), hf]
 rfl
def chS (id : List Int) (q i f : Nat) (y : List Int) : Nat → List Int
 | 0 => y
 | j + 1 => lsum id q i [[((f + j : Nat) : Int)], chS id q i f y j]
theorem chS_len (id : List Int) (q i f : Nat) (y : List Int) (hy : y.length = 32) : ∀ j, (chS id q i f y j).length = 32
 | 0 => hy
 | j + 1 => lsum_len _ _ _ _
theorem chS_in (id : List Int) (q i f : Nat) (y : List Int) (hy : In 256 y) : ∀ j, In 256 (chS id q i f y j)
 | 0 => hy
 | j + 1 => lsum_in _ _ _ _
theorem two_in {b : Int} {y : List Int} (hb : 0 ≤ b ∧ b < 256) (hy : In 256 y) : In 256 [[b], y].flatten := by
 have e : [[b], y].flatten = [b] ++ y := by simp
 rw [e]
 refine In.app ?_ hy
 intro x hx
 simp only [List.mem_singleton] at hx
 subst hx; exact hb
theorem two_len (b : Int) (y : List Int) : [[b], y].flatten.length = y.length + 1 := by simp
theorem leaf_along (w : Int) (id : List Int) (q i f n : Nat) (d s c : Int) (y : List Int) (hid : In 256 id) (h16 : id.length ≤ 300) (hq : q < 4294967296) (hi : i < 100000) (hf : f + n ≤ 256) (hy : In 256 y) (hyl : y.length = 32) {ρ : Type} (k : List Int → Option ρ) :
    P.lmots_leaf_along w id (q : Int) d s c (i : Int) (f : Int) (n : Int) y k = k (chS id q i f y n) := by
 rw [P.lmots_leaf_along_eq]; unfold P.lmots_leaf_along_raw
 rw [P.lmots_leaf_along_l2_eq]
 unfold P.lmots_leaf_along_L2
 refine lp_go (fun j => ((i : Int), (f : Int), chS id q i f y j, (n : Int), (j : Int), w, id, (q : Int), d, s, c)) n rfl (fun j hj next hn' => ?_) (fun next => ?_) (by omega)
 ·simp only [P.lmots_leaf_along_r2]
  have e1 : IntKind.u8.wrap (IntKind.u32.wrap ((f : Int) + (j : Int))) = ((f + j : Nat) : Int) := by
   rw [← Int.natCast_add, u32n _ (by omega), u8n _ (by omega)]
  have e2 : IntKind.u32.wrap ((j : Int) + 1) = ((j + 1 : Nat) : Int) := by rw [show ((j : Int) + 1) = ((j + 1 : Nat) : Int) by omega, u32n _ (by omega)]
  have hl := chS_len id q i f y hyl j
  rw [br_pos (by omega), u64n _ (by omega), e1, e2, leaf_sum w id q i d s c _ hid h16 hq (by omega) (two_in (by omega) (chS_in _ _ _ _ _ hy _)) (by simp) (by rw [two_len]; omega)]
  exact hn'
 ·simp only [P.lmots_leaf_along_r2]
  rw [br_neg (by omega)]
theorem chain14 (id : List Int) (q i f t : Nat) (y : List Int) (hid : In 256 id) (h16 : id.length ≤ 300) (hq : q < 4294967296) (hi : i < 100000) (hft : f ≤ t) (ht : t ≤ 256) (hy : In 256 y) (hyl : y.length = 32) {ρ : Type} (k : List Int → Option ρ) :
    P.R14_chain id (q : Int) (i : Int) (f : Int) (t : Int) y k = k (chS id q i f y (t - f)) := by
 rw [P.R14_chain_eq]; unfold P.R14_chain_raw
 rw [P.R14_chain_l2_eq]
 unfold P.R14_chain_L2
 refine lp_go (fun j => (id, (q : Int), (i : Int), (t : Int), chS id q i f y j, ((f + j : Nat) : Int))) (t - f) rfl (fun j hj next hn' => ?_) (fun next => ?_) (by omega)
 ·simp only [P.R14_chain_r2]
  have e1 : IntKind.u8.wrap ((f + j : Nat) : Int) = ((f + j : Nat) : Int) := u8n _ (by omega)
  have e2 : IntKind.i64.wrap (((f + j : Nat) : Int) + 1) = ((f + (j + 1) : Nat) : Int) := by rw [i64w (by omega) (by omega)]; omega
  have hl := chS_len id q i f y hyl j
  rw [br_pos (by omega), u64n _ (by omega), u64n _ (by omega), e1, e2, show (4 : Int) = ((4 : Nat) : Int) from rfl, R01_Be q 4 (by omega) (by omega), show (2 : Int) = ((2 : Nat) : Int) from rfl, R01_Be i 2 (by omega) (by omega), H14_leaf id q i [[((f + j : Nat) : Int)], chS id q i f y j] hid h16 (two_in (by omega) (chS_in _ _ _ _ _ hy _)) (by simp) (by rw [two_len]; omega)]
  exact hn'
 ·simp only [P.R14_chain_r2]
  rw [br_neg (by omega)]
end Q
end

section
/- lmots: keys, signatures, and what these lead to. -/
namespace Q
open Go Go.Abs
set_option linter.unusedVariables false
set_option linter.unusedSimpArgs false
def codeW (w : Nat) : Nat := if w = 1 then 1 else if w = 2 then 2 else if w = 4 then 3 else 4
theorem known_c {w p s : Nat} (h : Kind w p s) {ρ : Type} (k : Int → Int → Int → Bool → Option ρ) : P.lmots_known (w : Int) k = k (p : Int) (s : Int) ((codeW w : Nat) : Int) true := by
 rw [P.lmots_known_eq]
 rcases h with ⟨rfl, rfl, rfl⟩ | ⟨rfl, rfl, rfl⟩ | ⟨rfl, rfl, rfl⟩ | ⟨rfl, rfl, rfl⟩ <;> kernel_rfl
theorem Kind_c {w p s : Nat} (h : Kind w p s) {ρ : Type} (k : Int → Int → Int → Option ρ) : P.R14_Kind (w : Int) k = k (p : Int) (s : Int) ((codeW w : Nat) : Int) := by
 rw [P.R14_Kind_eq]
 rcases h with ⟨rfl, rfl, rfl⟩ | ⟨rfl, rfl, rfl⟩ | ⟨rfl, rfl, rfl⟩ | ⟨rfl, rfl, rfl⟩ <;> kernel_rfl
theorem codeW_lt (w : Nat) : codeW w < 5 := by unfold codeW; split <;> (try split) <;> (try split) <;> omega
theorem began_ok {w p s : Nat} (h : Kind w p s) (id : List Int) (q : Int) (hl : id.length = 16) {ρ : Type} (k : Int → List Int → Int → Int → Int → Int → Int → Option ρ) : P.lmots_began (w : Int) id q k = k (w : Int) id q (p : Int) (s : Int) ((codeW w : Nat) : Int) 0 := by
 rw [P.lmots_began_eq]; unfold P.lmots_began_raw
 rw [known_c h, br_not, br_tt, br_bne_neg (by rw [hl]; rfl)]
theorem steps_ok {w p s : Nat} (h : Kind w p s) (id : List Int) (q a b c : Int) {ρ : Type} (k : Int → Option ρ) : P.lmots_leaf_steps (w : Int) id q a b c k = k ((2 ^ w - 1 : Nat) : Int) := by
 rw [P.lmots_leaf_steps_eq]
 rcases h with ⟨rfl, rfl, rfl⟩ | ⟨rfl, rfl, rfl⟩ | ⟨rfl, rfl, rfl⟩ | ⟨rfl, rfl, rfl⟩ <;> kernel_rfl
theorem mask_i64 {w p s : Nat} (h : Kind w p s) : IntKind.i64.wrap (IntKind.i64.wrap ((1 : Int) * (2 : Int) ^ min ((w : Int)).toNat 64) - (1 : Int)) = ((2 ^ w - 1 : Nat) : Int) := by
 rcases h with ⟨rfl, rfl, rfl⟩ | ⟨rfl, rfl, rfl⟩ | ⟨rfl, rfl, rfl⟩ | ⟨rfl, rfl, rfl⟩ <;> rfl
theorem pw {w p s : Nat} (h : Kind w p s) : 2 ^ w ≤ 256 ∧ 1 ≤ 2 ^ w ∧ p ≤ 265 ∧ 1 ≤ p := by
 rcases h with ⟨rfl, rfl, rfl⟩ | ⟨rfl, rfl, rfl⟩ | ⟨rfl, rfl, rfl⟩ | ⟨rfl, rfl, rfl⟩ <;> decide
def endsP (f : Nat → List Int) (n : Nat) : List Int := ((List.range n).map f).flatten
theorem endsP_succ (f : Nat → List Int) (n : Nat) : endsP f (n + 1) = endsP f n ++ f n := by simp [endsP, List.range_succ]
theorem key14 (id : List Int) (q : Nat) (l : List (List Int)) (hid : In 256 id) (h16 : id.length ≤ 300) (hq : q < 4294967296) (hl : In 256 l.flatten) (hc : l.length ≤ 1000) (hb : l.flatten.length ≤ 100000) {ρ : Type} (k : List Int → Option ρ) :
    P.R14_key id (q : Int) l k = k (lsum id q 32896 [l.flatten]) := by
 rw [P.R14_key_eq]; unfold P.R14_key_raw
 have hf : [l.flatten].flatten = l.flatten := by simp
 rw [u64n _ (by omega), show (4 : Int) = ((4 : Nat) : Int) from rfl, R01_Be q 4 (by omega) (by omega), show (2 : Int) = ((2 : Nat) : Int) from rfl, show (32896 : Int) = ((32896 : Nat) : Int) from rfl, R01_Be 32896 2 (by omega) (by omega), R01_Join l (by omega) (by omega), H14_leaf id q 32896 [l.flatten] hid h16 (by rw [hf]; exact hl) (by simp) (by rw [hf]; omega)]
theorem one_flat (x : List Int) : [x].flatten = x := by simp
def digD (w p s : Nat) (id : List Int) (q : Nat) (c text : List Int) : List Int := allD w p s (lsum id q 33153 [c, text])
theorem digD_len {w p s : Nat} (h : Kind w p s) (id : List Int) (q : Nat) (c text : List Int) : (digD w p s id q c text).length = p := allD_len h _ (lsum_len _ _ _ _)
theorem digD_at {w p s : Nat} (h : Kind w p s) (id : List Int) (q : Nat) (c text : List Int) (i : Nat) : ∃ d : Nat, (digD w p s id q c text).getD i 0 = (d : Int) ∧ d ≤ 2 ^ w - 1 ∧ ((digD w p s id q c text).getD i 0).toNat = d := by
 have hin : In (2 ^ w) (digD w p s id q c text) := digits_in _ _ _
 obtain ⟨d, h1, h2⟩ := num_at' (w := w) hin i
 exact ⟨d, h1, by omega, by omega⟩
theorem ct_in {c text : List Int} (hc : In 256 c) (ht : In 256 text) : In 256 [c, text].flatten := by
 have e : [c, text].flatten = c ++ text := by simp
 rw [e]; exact hc.app ht
theorem ct_len (c text : List Int) : [c, text].flatten.length = c.length + text.length := by simp
theorem digitsOf_ok {w p s : Nat} (h : Kind w p s) (id : List Int) (q : Nat) (a b : Int) (cc : Int) (c text : List Int) (hid : In 256 id) (h16 : id.length = 16) (hq : q < 4294967296) (hc : In 256 c) (hcl : c.length = 32) (ht : In 256 text) (htl : text.length ≤ 300) {ρ : Type} (k : List Int → Option ρ) :
    P.lmots_leaf_digitsOf (w : Int) id (q : Int) a b cc c text k = k (digD w p s id q c text) := by
 rw [P.lmots_leaf_digitsOf_eq]; unfold P.lmots_leaf_digitsOf_raw
 rw [show (33153 : Int) = ((33153 : Nat) : Int) from rfl, leaf_sum _ id q 33153 _ _ _ _ hid (by omega) hq (by omega) (ct_in hc ht) (by simp) (by rw [ct_len]; omega), lmots_Digits_kind h _ (lsum_in _ _ _ _) (lsum_len _ _ _ _)]
 rfl
theorem digest14 (id : List Int) (q : Nat) (c text : List Int) (hid : In 256 id) (h16 : id.length = 16) (hq : q < 4294967296) (hc : In 256 c) (hcl : c.length = 32) (ht : In 256 text) (htl : text.length ≤ 300) {ρ : Type} (k : List Int → Option ρ) :
    P.R14_digest id (q : Int) c text k = k (lsum id q 33153 [c, text]) := by
 rw [P.R14_digest_eq]; unfold P.R14_digest_raw
 rw [u64n _ (by omega), show (4 : Int) = ((4 : Nat) : Int) from rfl, R01_Be q 4 (by omega) (by omega), show (2 : Int) = ((2 : Nat) : Int) from rfl, show (33153 : Int) = ((33153 : Nat) : Int) from rfl, R01_Be 33153 2 (by omega) (by omega), H14_leaf id q 33153 [c, text] hid (by omega) (ct_in hc ht) (by simp) (by rw [ct_len]; omega)]
end Q
end

section
/- lmots: what a signature leads to. -/
namespace Q
open Go Go.Abs
set_option linter.unusedVariables false
set_option linter.unusedSimpArgs false
def candEnd (w p s : Nat) (id : List Int) (q : Nat) (text sig : List Int) (i : Nat) : List Int :=
 chS id q i ((digD w p s id q ((sig.take 36).drop 4) text).getD i 0).toNat ((sig.drop (36 + 32 * i)).take 32) (2 ^ w - 1 - ((digD w p s id q ((sig.take 36).drop 4) text).getD i 0).toNat)
def candS (w p s : Nat) (id : List Int) (q : Nat) (text sig : List Int) : List Int := lsum id q 32896 [endsP (candEnd w p s id q text sig) p]
theorem endsP_len' (f : Nat → List Int) : ∀ n, (∀ i, i < n → (f i).length = 32) → (endsP f n).length = 32 * n
 | 0, _ => by simp [endsP]
 | n + 1, h => by rw [endsP_succ, List.length_append, endsP_len' f n (fun i hi => h i (by omega)), h n (by omega)]; omega
theorem endsP_in' (f : Nat → List Int) : ∀ n, (∀ i, i < n → In 256 (f i)) → In 256 (endsP f n)
 | 0, _ => by simp [endsP, In]
 | n + 1, h => by rw [endsP_succ]; exact (endsP_in' f n (fun i hi => h i (by omega))).app (h n (by omega))
theorem candEnd_len {w p s : Nat} (id : List Int) (q : Nat) (text sig : List Int) (hsl : sig.length = 36 + 32 * p) (i : Nat) (hi : i < p) : (candEnd w p s id q text sig i).length = 32 := by
 unfold candEnd
 refine chS_len _ _ _ _ _ ?_ _
 rw [List.length_take, List.length_drop]; omega
theorem candEnd_in {w p s : Nat} (id : List Int) (q : Nat) (text sig : List Int) (hs : In 256 sig) (i : Nat) : In 256 (candEnd w p s id q text sig i) := chS_in _ _ _ _ _ ((hs.drop _).take _) _
theorem Candidate_ok {w p s : Nat} (h : Kind w p s) (id : List Int) (q : Nat) (text sig : List Int) (hid : In 256 id) (hq : q < 4294967296) (hl : id.length = 16) (ht : In 256 text) (htl : text.length ≤ 300) (hs : In 256 sig) (hsl : sig.length = 36 + 32 * p) (hcode : T 8 (sig.take 4).reverse = codeW w) {ρ : Type} (k : List Int → Int → Option ρ) :
    P.lmots_Candidate (w : Int) id (q : Int) text sig k = k (candS w p s id q text sig) 0 := by
 rw [P.lmots_Candidate_eq]; unfold P.lmots_Candidate_raw
 obtain ⟨f1, f2, f3, f4⟩ := pw h
 have hcd := codeW_lt w
 have hcl : ((sig.take 36).drop 4).length = 32 := by rw [List.length_drop, List.length_take]; omega
 have hdl := digD_len h id q ((sig.take 36).drop 4) text
 have hce := fun i (hi : i ≤ p) => endsP_len' (candEnd w p s id q text sig) i (fun j hj => candEnd_len id q text sig hsl j (by omega))
 simp only [show (4 : Int).toNat = 4 from rfl, show (36 : Int).toNat = 36 from rfl, show (32 : Int).toNat = 32 from rfl, List.drop_zero, toNat_cast]
 have hnum : ((T 8 (sig.take 4).reverse % 2 ^ 64 : Nat) : Int) = ((codeW w : Nat) : Int) := by rw [hcode]; omega
 rw [began_ok h id q hl, br_bne_neg (by rfl), lmots_Size h, br_bne_neg (by rw [hsl]), br_pos (by omega), bits_Num _ (hs.take 4) (by rw [List.length_take]; omega), hnum, u64n _ (by omega), br_bne_neg (by rfl), br_pos (by omega), br_pos (by omega), br_pos (by omega),
  digitsOf_ok h id q _ _ _ _ text hid hl hq ((hs.take 36).drop 4) hcl ht htl, hdl, List.take_of_length_le (show sig.length ≤ sig.length by omega), P.lmots_Candidate_l9_eq]
 unfold P.lmots_Candidate_L9
 refine lp_go (fun i => (sig.drop (36 + 32 * i), (p : Int), (i : Int), endsP (candEnd w p s id q text sig) i, (w : Int), id, (q : Int), (p : Int), (s : Int), ((codeW w : Nat) : Int), digD w p s id q ((sig.take 36).drop 4) text)) p rfl (fun i hi next hn' => ?_) (fun next => ?_) (by omega)
 ·simp only [P.lmots_Candidate_r9, toNat_cast, show (32 : Int).toNat = 32 from rfl, List.drop_zero]
  rw [endsP_succ] at hn'
  have e3 : IntKind.i64.wrap ((i : Int) + 1) = ((i + 1 : Nat) : Int) := by rw [i64w (by omega) (by omega)]; omega
  obtain ⟨d, d1, d2, d3⟩ := digD_at h id q ((sig.take 36).drop 4) text i
  have hse : candEnd w p s id q text sig i = chS id q i d ((sig.drop (36 + 32 * i)).take 32) (2 ^ w - 1 - d) := by unfold candEnd; rw [d3]
  have hrl : (sig.drop (36 + 32 * i)).length = 32 * (p - i) := by rw [List.length_drop]; omega
  have htk : ((sig.drop (36 + 32 * i)).take 32).length = 32 := by rw [List.length_take]; omega
  have hcl2 := candEnd_len (w := w) (s := s) id q text sig hsl i hi
  rw [hse] at hn' hcl2
  rw [br_pos (by omega), br_pos (by omega), br_pos (by rw [hdl]; omega), steps_ok h, br_pos (by omega), d1, show ((2 ^ w - 1 : Nat) : Int) - (d : Int) = ((2 ^ w - 1 - d : Nat) : Int) by omega, u32n _ (by omega),
   leaf_along _ id q i d (2 ^ w - 1 - d) _ _ _ _ hid (by omega) hq (by omega) (by omega) ((hs.drop _).take _) htk, e3]
  rw [br_pos (by rw [hce i (by omega), hcl2]; omega), br_pos (by omega), br_pos (by omega), List.take_of_length_le (Nat.le_refl _), List.drop_drop, show 36 + 32 * i + 32 = 36 + 32 * (i + 1) by omega]
  exact hn'
 ·simp only [P.lmots_Candidate_r9]
  have he := hce p (Nat.le_refl _)
  rw [br_neg (by omega), show (32896 : Int) = ((32896 : Nat) : Int) from rfl, leaf_sum _ id q 32896 _ _ _ _ hid (by omega) hq (by omega) (by rw [one_flat]; exact endsP_in' _ p (fun i _ => candEnd_in id q text sig hs i)) (by simp) (by rw [one_flat]; omega)]
  rfl
theorem R14_Candidate_ok {w p s : Nat} (h : Kind w p s) (id : List Int) (q : Nat) (text sig : List Int) (hid : In 256 id) (hq : q < 4294967296) (hl : id.length = 16) (ht : In 256 text) (htl : text.length ≤ 300) (hs : In 256 sig) (hsl : sig.length = 36 + 32 * p) (hcode : T 8 (sig.take 4).reverse = codeW w) {ρ : Type} (k : List Int → Int → Option ρ) :
    P.R14_Candidate (w : Int) id (q : Int) text sig k = k (candS w p s id q text sig) 0 := by
 rw [P.R14_Candidate_eq]; unfold P.R14_Candidate_raw
 obtain ⟨f1, f2, f3, f4⟩ := pw h
 have hcd := codeW_lt w
 have hcl : ((sig.take 36).drop 4).length = 32 := by rw [List.length_drop, List.length_take]; omega
 have hdl := digD_len h id q ((sig.take 36).drop 4) text
 simp only [show (4 : Int).toNat = 4 from rfl, show (36 : Int).toNat = 36 from rfl, List.drop_zero]
 have hnum : ((T 8 (sig.take 4).reverse % 2 ^ 64 : Nat) : Int) = ((codeW w : Nat) : Int) := by rw [hcode]; omega
 rw [Kind_c h, kind_pos h, br_ff, br_bne_neg (by rw [hl]; rfl), R14_Size h, br_bne_neg (by rw [hsl]), br_pos (by omega), R01_Num _ (hs.take 4) (by rw [List.length_take]; omega), hnum, br_bne_neg (by rfl), br_pos (by omega),
  digest14 id q _ text hid hl hq ((hs.take 36).drop 4) hcl ht htl, R14_Digits_kind h _ (lsum_in _ _ _ _) (lsum_len _ _ _ _), P.R14_Candidate_l11_eq]
 unfold P.R14_Candidate_L11
 refine lp_go (fun i => ((w : Int), id, (q : Int), sig, (p : Int), (i : Int), (List.range i).map (candEnd w p s id q text sig), digD w p s id q ((sig.take 36).drop 4) text)) p rfl (fun i hi next hn' => ?_) (fun next => ?_) (by omega)
 ·simp only [P.R14_Candidate_r11]
  rw [List.range_succ, List.map_append, List.map_singleton] at hn'
  have e3 : IntKind.i64.wrap ((i : Int) + 1) = ((i + 1 : Nat) : Int) := by rw [i64w (by omega) (by omega)]; omega
  have e36 : IntKind.i64.wrap ((36 : Int) + IntKind.i64.wrap ((32 : Int) * (i : Int))) = ((36 + 32 * i : Nat) : Int) := by rw [i64w (x := (32 : Int) * (i : Int)) (by omega) (by omega), i64w (by omega) (by omega)]; omega
  have e68 : IntKind.i64.wrap ((68 : Int) + IntKind.i64.wrap ((32 : Int) * (i : Int))) = ((68 + 32 * i : Nat) : Int) := by rw [i64w (x := (32 : Int) * (i : Int)) (by omega) (by omega), i64w (by omega) (by omega)]; omega
  obtain ⟨d, d1, d2, d3⟩ := digD_at h id q ((sig.take 36).drop 4) text i
  have hse : candEnd w p s id q text sig i = chS id q i d ((sig.drop (36 + 32 * i)).take 32) (2 ^ w - 1 - d) := by unfold candEnd; rw [d3]
  have htk : ((sig.drop (36 + 32 * i)).take 32).length = 32 := by rw [List.length_take, List.length_drop]; omega
  have hdt : (sig.take (68 + 32 * i)).drop (36 + 32 * i) = (sig.drop (36 + 32 * i)).take 32 := by
   rw [List.drop_take, show 68 + 32 * i - (36 + 32 * i) = 32 by omega]
  rw [hse] at hn'
  rw [e36, e68, e3, mask_i64 h]
  simp only [toNat_cast]
  rw [hdt, br_pos (by omega), br_pos (by omega), br_pos (by rw [hdl]; omega), br_neg (by omega), br_pos (by omega), br_pos (by omega), br_pos (by omega), d1, i64w (x := (d : Int)) (by omega) (by omega), chain14 id q i d (2 ^ w - 1) _ hid (by omega) hq (by omega) (by omega) (by omega) ((hs.drop _).take _) htk,
   br_pos (by rw [List.length_map, List.length_range]; omega)]
  exact hn'
 ·simp only [P.R14_Candidate_r11]
  have he := endsP_len' (candEnd w p s id q text sig) p (fun j hj => candEnd_len id q text sig hsl j (by omega))
  have hin := endsP_in' (candEnd w p s id q text sig) p (fun i _ => candEnd_in id q text sig hs i)
  unfold endsP at he hin
  rw [br_neg (by omega), key14 id q _ hid (by omega) hq hin (by rw [List.length_map, List.length_range]; omega) (by omega)]
  rfl
end Q
end

section
/- lms: kinds of trees. -/
namespace Q
open Go Go.Abs
set_option linter.unusedVariables false
set_option linter.unusedSimpArgs false
def codeH (h : Nat) : Nat := if 1 ≤ h ∧ h ≤ 4 then 3758096384 + h else if 5 ≤ h ∧ h ≤ 25 ∧ h % 5 = 0 then 4 + h / 5 else 0
def hOf (c : Nat) : Nat := if 3758096384 < c ∧ c ≤ 3758096388 then c - 3758096384 else if 5 ≤ c ∧ c ≤ 9 then 5 * (c - 4) else 0
def wOf (c : Nat) : Nat := if c = 1 then 1 else if c = 2 then 2 else if c = 3 then 4 else if c = 4 then 8 else 0
theorem hOf_codeH (h : Nat) (h0 : codeH h ≠ 0) : hOf (codeH h) = h := by
 unfold codeH at h0 ⊢
 split
 ·rename_i hc
  unfold hOf
  rw [if_pos (by omega)]
  omega
 ·split
  ·rename_i hc
   unfold hOf
   rw [if_neg (by omega), if_pos (by omega)]
   omega
  ·rename_i h1 h2
   rw [if_neg h1, if_neg h2] at h0
   exact absurd rfl h0
theorem codeH_hOf (c : Nat) (h0 : hOf c ≠ 0) : codeH (hOf c) = c ∧ 1 ≤ hOf c ∧ hOf c ≤ 25 := by
 unfold hOf at h0 ⊢
 split
 ·rename_i hc
  refine ⟨?_, by omega, by omega⟩
  unfold codeH
  rw [if_pos (by omega)]
  omega
 ·split
  ·rename_i h1 h2
   refine ⟨?_, by omega, by omega⟩
   unfold codeH
   rw [if_neg (by omega), if_pos (by omega)]
   omega
  ·rename_i h1 h2
   rw [if_neg h1, if_neg h2] at h0
   exact absurd rfl h0
theorem codeH_lt (h : Nat) : codeH h < 4294967296 := by
 unfold codeH; split
 ·omega
 ·split <;> omega
theorem lms_height (c : Nat) (hc : c < 18446744073709551616) {ρ : Type} (k : Int → Option ρ) : P.lms_height (c : Int) k = k ((hOf c : Nat) : Int) := by
 rw [P.lms_height_eq]; unfold P.lms_height_raw
 have rest : br (decide ((c : Int) ≥ (5 : Int))) (br (decide ((c : Int) ≤ (9 : Int))) (k (IntKind.i64.wrap ((5 : Int) * IntKind.i64.wrap (IntKind.u64.wrap ((c : Int) - (4 : Int)))))) (k (0 : Int))) (k (0 : Int)) = k (((if 5 ≤ c ∧ c ≤ 9 then 5 * (c - 4) else 0) : Nat) : Int) := by
  by_cases h5 : 5 ≤ c
  ·rw [br_pos (by omega)]
   by_cases h9 : c ≤ 9
   ·rw [br_pos (by omega), if_pos ⟨h5, h9⟩, show (c : Int) - 4 = ((c - 4 : Nat) : Int) by omega, u64n _ (by omega), i64w (x := ((c - 4 : Nat) : Int)) (by omega) (by omega), i64w (by omega) (by omega)]
    congr 1
   ·rw [br_neg (by omega), if_neg (by omega)]; rfl
  ·rw [br_neg (by omega), if_neg (by omega)]; rfl
 unfold hOf
 by_cases h1 : 3758096384 < c
 ·rw [br_pos (by omega)]
  by_cases h2 : c ≤ 3758096388
  ·rw [br_pos (by omega), if_pos ⟨h1, h2⟩, show (c : Int) - 3758096384 = ((c - 3758096384 : Nat) : Int) by omega, u64n _ (by omega), i64w (by omega) (by omega)]
  ·rw [br_neg (by omega), if_neg (by omega)]
   exact rest
 ·rw [br_neg (by omega), if_neg (by omega)]
  exact rest
theorem R15_Code (h : Nat) (hh : h ≤ 100) {ρ : Type} (k : Int → Option ρ) : P.R15_Code (h : Int) k = k ((codeH h : Nat) : Int) := by
 rw [P.R15_Code_eq]; unfold P.R15_Code_raw
 have rest : br (decide ((h : Int) ≥ (5 : Int))) (br (decide ((h : Int) ≤ (25 : Int))) (br ((h : Int).tmod (5 : Int) == (0 : Int)) (k (IntKind.u64.wrap (IntKind.i64.wrap ((4 : Int) + IntKind.i64.wrap ((h : Int).tdiv (5 : Int)))))) (k (0 : Int))) (k (0 : Int))) (k (0 : Int)) =
     k (((if 5 ≤ h ∧ h ≤ 25 ∧ h % 5 = 0 then 4 + h / 5 else 0) : Nat) : Int) := by
  by_cases h5 : 5 ≤ h
  ·rw [br_pos (by omega)]
   by_cases h9 : h ≤ 25
   ·rw [br_pos (by omega), show (5 : Int) = ((5 : Nat) : Int) from rfl, tmN]
    by_cases hm : h % 5 = 0
    ·rw [br_beq_pos (by omega), if_pos ⟨h5, h9, hm⟩, Int.tdiv_eq_ediv_of_nonneg (by omega), show (h : Int) / ((5 : Nat) : Int) = ((h / 5 : Nat) : Int) by omega, i64w (x := ((h / 5 : Nat) : Int)) (by omega) (by omega), i64w (by omega) (by omega), show (4 : Int) + ((h / 5 : Nat) : Int) = ((4 + h / 5 : Nat) : Int) by omega, u64n _ (by omega)]
    ·rw [br_beq_neg (by omega), if_neg (by omega)]; rfl
   ·rw [br_neg (by omega), if_neg (by omega)]; rfl
  ·rw [br_neg (by omega), if_neg (by omega)]; rfl
 unfold codeH
 by_cases h1 : 1 ≤ h
 ·rw [br_pos (by omega)]
  by_cases h2 : h ≤ 4
  ·rw [br_pos (by omega), if_pos ⟨h1, h2⟩, u64n _ (by omega), show (3758096384 : Int) + (h : Int) = ((3758096384 + h : Nat) : Int) by omega, u64n _ (by omega)]
  ·rw [br_neg (by omega), if_neg (by omega)]
   exact rest
 ·rw [br_neg (by omega), if_neg (by omega)]
  exact rest
theorem R15_height (c : Nat) (hc : c < 18446744073709551616) {ρ : Type} (k : Int → Option ρ) : P.R15_height (c : Int) k = k ((hOf c : Nat) : Int) := by
 rw [P.R15_height_eq]; unfold P.R15_height_raw
 rw [P.R15_height_l2_eq]
 unfold P.R15_height_L2
 by_cases h0 : hOf c = 0
 ·refine lp_go (fun i => ((c : Int), ((i + 1 : Nat) : Int))) 25 rfl (fun i hi next hn => ?_) (fun next => ?_) (by omega)
  ·simp only [P.R15_height_r2]
   rw [br_pos (by omega), R15_Code _ (by omega)]
   have key : ¬ (codeH (i + 1) = c ∧ c ≠ 0) := by
    rintro ⟨h1, h2⟩
    have := hOf_codeH (i + 1) (by omega)
    rw [h1] at this
    omega
   rw [i64w (x := ((i + 1 : Nat) : Int) + 1) (by omega) (by omega), show ((i + 1 : Nat) : Int) + 1 = ((i + 1 + 1 : Nat) : Int) by omega]
   by_cases h1 : codeH (i + 1) = c
   ·rw [br_beq_pos (by omega), br_bne_neg (by omega)]; exact hn
   ·rw [br_beq_neg (by omega)]; exact hn
  ·simp only [P.R15_height_r2]
   rw [br_neg (by omega), h0]
   rfl
 ·obtain ⟨g1, g2, g3⟩ := codeH_hOf c h0
  refine lp_go (fun i => ((c : Int), ((i + 1 : Nat) : Int))) (hOf c - 1) rfl (fun i hi next hn => ?_) (fun next => ?_) (by omega)
  ·simp only [P.R15_height_r2]
   rw [br_pos (by omega), R15_Code _ (by omega)]
   have key : codeH (i + 1) ≠ c := by
    intro h1
    have h2 : codeH (i + 1) ≠ 0 := by
     intro h3
     have : c = 0 := by omega
     subst this
     exact h0 rfl
    have := hOf_codeH (i + 1) h2
    rw [h1] at this
    omega
   rw [br_beq_neg (by omega), i64w (x := ((i + 1 : Nat) : Int) + 1) (by omega) (by omega), show ((i + 1 : Nat) : Int) + 1 = ((i + 1 + 1 : Nat) : Int) by omega]
   exact hn
  ·simp only [P.R15_height_r2]
   have hc0 : c ≠ 0 := by
    rintro rfl
    exact h0 rfl
   rw [show hOf c - 1 + 1 = hOf c by omega, br_pos (by omega), R15_Code _ (by omega), g1, br_beq_pos rfl, br_bne_pos (by omega)]
   rfl
theorem lms_digit (c : Nat) (hc : c < 18446744073709551616) {ρ : Type} (k : Int → Option ρ) : P.lms_digit (c : Int) k = k ((wOf c : Nat) : Int) := by
 rw [P.lms_digit_eq]; unfold P.lms_digit_raw
 by_cases h1 : c < 1
 ·rw [br_pos (by omega)]
  have : c = 0 := by omega
  subst this
  rfl
 ·rw [br_neg (by omega)]
  by_cases h4 : c > 4
  ·rw [br_pos (by omega)]
   unfold wOf
   rw [if_neg (by omega), if_neg (by omega), if_neg (by omega), if_neg (by omega)]
   rfl
  ·have : c = 1 ∨ c = 2 ∨ c = 3 ∨ c = 4 := by omega
   rw [br_neg (by omega)]
   rcases this with rfl | rfl | rfl | rfl <;> rw [br_neg (by decide)] <;> rfl
theorem R15_digit (c : Nat) (hc : c < 18446744073709551616) {ρ : Type} (k : Int → Option ρ) : P.R15_digit (c : Int) k = k ((wOf c : Nat) : Int) := by
 rw [P.R15_digit_eq]; unfold P.R15_digit_raw
 rw [P.R15_digit_l2_eq]
 unfold P.R15_digit_L2
 have kd : ∀ (j : Nat) {σ : Type} (k : Int → Int → Int → Option σ), ∃ a b : Int, P.R14_Kind (j : Int) k = k a b (((if j = 1 then 1 else if j = 2 then 2 else if j = 4 then 3 else if j = 8 then 4 else 0) : Nat) : Int) := by
  intro j σ k
  rw [P.R14_Kind_eq]; unfold P.R14_Kind_raw
  by_cases a1 : j = 1
  ·subst a1; exact ⟨_, _, by rw [br_beq_pos (by decide)]; rfl⟩
  ·by_cases a2 : j = 2
   ·subst a2; exact ⟨_, _, by rw [br_beq_neg (by omega), br_beq_pos (by decide)]; rfl⟩
   ·by_cases a4 : j = 4
    ·subst a4; exact ⟨_, _, by rw [br_beq_neg (by omega), br_beq_neg (by omega), br_beq_pos (by decide)]; rfl⟩
    ·by_cases a8 : j = 8
     ·subst a8; exact ⟨_, _, by rw [br_beq_neg (by omega), br_beq_neg (by omega), br_beq_neg (by omega), br_beq_pos (by decide)]; rfl⟩
     ·exact ⟨_, _, by rw [br_beq_neg (by omega), br_beq_neg (by omega), br_beq_neg (by omega), br_beq_neg (by omega), if_neg a1, if_neg a2, if_neg a4, if_neg a8]; rfl⟩
 have step : ∀ (i : Nat), i < 8 → wOf c ≠ i + 1 → ∀ (nx : Int → Int → Option ρ) (k0 : Int → Int → Option ρ) (k1 : Int → Option ρ), P.R15_digit_r2 (c : Int) ((i + 1 : Nat) : Int) nx k0 k1 = nx (c : Int) ((i + 1 + 1 : Nat) : Int) := by
  intro i hi hne nx k0 k1
  unfold P.R15_digit_r2
  obtain ⟨a, b, hk⟩ := kd (i + 1) (fun (q0 q1 q2 : Int) => br (q2 == (c : Int)) (br (q2 != (0 : Int)) (k1 ((i + 1 : Nat) : Int)) (nx (c : Int) (IntKind.i64.wrap (((i + 1 : Nat) : Int) + (1 : Int))))) (nx (c : Int) (IntKind.i64.wrap (((i + 1 : Nat) : Int) + (1 : Int)))))
  rw [br_pos (by omega), hk, i64w (x := ((i + 1 : Nat) : Int) + 1) (by omega) (by omega), show ((i + 1 : Nat) : Int) + 1 = ((i + 1 + 1 : Nat) : Int) by omega]
  generalize hm : (if i + 1 = 1 then 1 else if i + 1 = 2 then 2 else if i + 1 = 4 then 3 else if i + 1 = 8 then 4 else 0 : Nat) = m
  by_cases hc1 : m = c
  ·rw [br_beq_pos (by omega)]
   by_cases hm0 : m = 0
   ·rw [br_bne_neg (by omega)]
   ·exfalso
    apply hne
    subst hc1
    subst hm
    unfold wOf
    have : i = 0 ∨ i = 1 ∨ i = 2 ∨ i = 3 ∨ i = 4 ∨ i = 5 ∨ i = 6 ∨ i = 7 := by omega
    rcases this with rfl | rfl | rfl | rfl | rfl | rfl | rfl | rfl <;> first | rfl | exact absurd rfl hm0
  ·rw [br_beq_neg (by omega)]
 by_cases h0 : wOf c = 0
 ·refine lp_go (fun i => ((c : Int), ((i + 1 : Nat) : Int))) 8 rfl (fun i hi next hn => ?_) (fun next => ?_) (by omega)
  ·exact (step i hi (by omega) _ _ _).trans hn
  ·simp only [P.R15_digit_r2]
   rw [br_neg (by omega), h0]
   rfl
 ·have hw : (c = 1 ∧ wOf c = 1) ∨ (c = 2 ∧ wOf c = 2) ∨ (c = 3 ∧ wOf c = 4) ∨ (c = 4 ∧ wOf c = 8) := by
    revert h0
    unfold wOf
    split
    ·omega
    ·split
     ·omega
     ·split
      ·omega
      ·split <;> omega
  refine lp_go (fun i => ((c : Int), ((i + 1 : Nat) : Int))) (wOf c - 1) rfl (fun i hi next hn => ?_) (fun next => ?_) (by omega)
  ·exact (step i (by omega) (by omega) _ _ _).trans hn
  ·simp only [P.R15_digit_r2]
   rw [show wOf c - 1 + 1 = wOf c by omega, br_pos (by omega)]
   obtain ⟨a, b, hk⟩ := kd (wOf c) (fun (q0 q1 q2 : Int) => br (q2 == (c : Int)) (br (q2 != (0 : Int)) (Sum.elim (fun (x : Int × Int) => k 0) (fun (x : Int) => k x) (.inr ((wOf c : Nat) : Int))) (next ((c : Int), IntKind.i64.wrap (((wOf c : Nat) : Int) + (1 : Int))))) (next ((c : Int), IntKind.i64.wrap (((wOf c : Nat) : Int) + (1 : Int)))))
   refine Eq.trans hk ?_
   rcases hw with ⟨rfl, h⟩ | ⟨rfl, h⟩ | ⟨rfl, h⟩ | ⟨rfl, h⟩ <;> rw [h, br_beq_pos (by decide), br_bne_pos (by decide)] <;> rfl
end Q
end

section
/- lms: sums on the way up. -/
namespace Q
open Go Go.Abs
set_option linter.unusedVariables false
set_option linter.unusedSimpArgs false
theorem lms_sum (id : List Int) (n mk : Nat) (l : List (List Int)) (hid : In 256 id) (h16 : id.length ≤ 300) (hn : n < 18446744073709551616) (hm : mk < 18446744073709551616) (hl : In 256 l.flatten) (hc : l.length ≤ 1000000) (hb : l.flatten.length ≤ 900000) {ρ : Type} (k : List Int → Option ρ) :
    P.lms_sum id (n : Int) (mk : Int) l k = k (lsum id n mk l) := by
 rw [P.lms_sum_eq]; unfold P.lms_sum_raw
 have hw := newW_ok 1
 have hf : [id, (bsw 8 4 n).reverse, (bsw 8 2 mk).reverse].flatten = id ++ (beN n 4 ++ beN mk 2) := by simp [beN]
 have hlen : (id ++ (beN n 4 ++ beN mk 2)).length = id.length + 6 := by simp [beN_len]
 have hin : In 256 (id ++ (beN n 4 ++ beN mk 2)) := hid.app ((beN_in _ _).app (beN_in _ _))
 have hr := rest_len 64 (by omega) (id ++ (beN n 4 ++ beN mk 2))
 have hr2 := rest_len 64 (by omega) (rest 64 (id ++ (beN n 4 ++ beN mk 2)) ++ l.flatten)
 have hlt := Nat.mod_lt (rest 64 (id ++ (beN n 4 ++ beN mk 2)) ++ l.flatten).length (show 0 < 64 by omega)
 rw [sha_New (.inl rfl), show (4 : Int) = ((4 : Nat) : Int) from rfl, bits_Be n 4 hn (by omega), show (2 : Int) = ((2 : Nat) : Int) from rfl, bits_Be mk 2 hm (by omega), bits_Join _ (by simp) (by rw [hf]; omega), hf,
  sha_Add 1 _ [] _ _ hw.1 hw.2.1 In.nil hin (by rw [hlen, List.length_nil]; omega), List.nil_append, size_add _ (by omega), show bsz 1 = 64 from rfl, bits_Join l (by omega) (by omega),
  sha_Add 1 _ _ _ _ (addW_len _ _ _) (addW_ok _ _ _).2.1 (rest_in hin) hl (by omega), show bsz 1 = 64 from rfl, add_size _ _ (by omega), sha_End 1 _ _ _ (addW_len _ _ _) (addW_ok _ _ _).2.1 (rest_in ((rest_in hin).app hl)) (by rw [hr2]; exact hlt),
  sum_two _ _ _ (by simp only [List.length_append])]
 rfl
theorem R15_leafSum (id : List Int) (n : Nat) (x : List Int) (hid : In 256 id) (h16 : id.length ≤ 300) (hn : n < 18446744073709551616) (hx : In 256 x) (hxl : x.length ≤ 1000) {ρ : Type} (k : List Int → Option ρ) : P.R15_leafSum id (n : Int) x k = k (lsum id n 33410 [x]) := by
 rw [P.R15_leafSum_eq]; unfold P.R15_leafSum_raw
 rw [show (4 : Int) = ((4 : Nat) : Int) from rfl, R01_Be n 4 hn (by omega), show (2 : Int) = ((2 : Nat) : Int) from rfl, show (33410 : Int) = ((33410 : Nat) : Int) from rfl, R01_Be 33410 2 (by omega) (by omega), H14_leaf id n 33410 [x] hid h16 (by simpa using hx) (by simp) (by simp; omega)]
theorem R15_over (id : List Int) (n : Nat) (x y : List Int) (hid : In 256 id) (h16 : id.length ≤ 300) (hn : n < 18446744073709551616) (hx : In 256 x) (hxl : x.length ≤ 1000) (hy : In 256 y) (hyl : y.length ≤ 1000) {ρ : Type} (k : List Int → Option ρ) : P.R15_over id (n : Int) x y k = k (lsum id n 33667 [x, y]) := by
 rw [P.R15_over_eq]; unfold P.R15_over_raw
 rw [show (4 : Int) = ((4 : Nat) : Int) from rfl, R01_Be n 4 hn (by omega), show (2 : Int) = ((2 : Nat) : Int) from rfl, show (33667 : Int) = ((33667 : Nat) : Int) from rfl, R01_Be 33667 2 (by omega) (by omega), H14_leaf id n 33667 [x, y] hid h16 (by simpa using hx.app hy) (by simp) (by simp; omega)]
def curS (id : List Int) (n : Nat) (path c : List Int) : Nat → List Int
 | 0 => c
 | i + 1 => if n / 2 ^ i % 2 = 1 then lsum id (n / 2 ^ i / 2) 33667 [(path.drop (32 * i)).take 32, curS id n path c i] else lsum id (n / 2 ^ i / 2) 33667 [curS id n path c i, (path.drop (32 * i)).take 32]
theorem curS_len (id : List Int) (n : Nat) (path c : List Int) (hc : c.length = 32) (i : Nat) : (curS id n path c i).length = 32 := by
 cases i with
 | zero => exact hc
 | succ i => unfold curS; split <;> exact lsum_len _ _ _ _
theorem curS_in (id : List Int) (n : Nat) (path c : List Int) (hc : In 256 c) (i : Nat) : In 256 (curS id n path c i) := by
 cases i with
 | zero => exact hc
 | succ i => unfold curS; split <;> exact lsum_in _ _ _ _
theorem way_up {n h i : Nat} (h1 : 2 ^ h ≤ n) (h2 : n < 2 ^ (h + 1)) (hi : i < h) : n / 2 ^ i > 1 := by
 have e : 2 ^ h = 2 ^ (h - i) * 2 ^ i := by rw [← Nat.pow_add]; congr 1; omega
 have e2 : 2 ≤ 2 ^ (h - i) := by
  have : 2 ^ 1 ≤ 2 ^ (h - i) := Nat.pow_le_pow_right (by omega) (by omega)
  omega
 have : 2 ^ (h - i) ≤ n / 2 ^ i := (Nat.le_div_iff_mul_le (Nat.two_pow_pos i)).2 (by omega)
 omega
theorem way_end {n h : Nat} (h1 : 2 ^ h ≤ n) (h2 : n < 2 ^ (h + 1)) : n / 2 ^ h = 1 := by
 rw [Nat.pow_succ] at h2
 have := (Nat.le_div_iff_mul_le (Nat.two_pow_pos h)).2 (show 1 * 2 ^ h ≤ n by omega)
 have := (Nat.div_lt_iff_lt_mul (Nat.two_pow_pos h)).2 (show n < 2 * 2 ^ h by omega)
 omega
theorem half (m : Nat) (hm : m < 18446744073709551616) : IntKind.u64.wrap (((m : Nat) : Int).tdiv 2) = ((m / 2 : Nat) : Int) := by
 rw [Int.tdiv_eq_ediv_of_nonneg (by omega), show (m : Int) / 2 = ((m / 2 : Nat) : Int) by omega, u64n _ (by omega)]
theorem root_loop (id h4 c path : List Int) (n h : Nat) (hid : In 256 id) (h16 : id.length ≤ 300) (hc : In 256 c) (hcl : c.length = 32) (hp : In 256 path) (hpl : path.length = 32 * h) (hh : h ≤ 60) (h1 : 2 ^ h ≤ n) (h2 : n < 2 ^ (h + 1)) (hn : n < 18446744073709551616)
    {ρ : Type} (k0 : Int → List Int → List Int → List Int → List Int → Option ρ) : P.lms_root_l2_1 (n : Int) id h4 c path k0 = k0 1 id h4 (curS id n path c h) [] := by
 rw [P.lms_root_l2_1_eq]
 unfold P.lms_root_L2_1
 refine lp_go (fun i => (((n / 2 ^ i : Nat) : Int), id, h4, curS id n path c i, path.drop (32 * i))) h (by simp [curS]) (fun i hi next hn' => ?_) (fun next => ?_) (by omega)
 ·simp only [P.lms_root_r2_1]
  have hw := way_up h1 h2 hi
  have hlt : n / 2 ^ i < 18446744073709551616 := Nat.lt_of_le_of_lt (Nat.div_le_self _ _) hn
  have hpl' : (path.drop (32 * i)).length = 32 * h - 32 * i := by rw [List.length_drop, hpl]
  have hnx : n / 2 ^ (i + 1) = n / 2 ^ i / 2 := by rw [Nat.pow_succ, Nat.div_div_eq_div_mul]
  have hdr : (path.drop (32 * i)).drop 32 = path.drop (32 * (i + 1)) := by rw [List.drop_drop]; congr 1
  have e32 : Int.toNat (32 : Int) = 32 := rfl
  have hx : In 256 ((path.drop (32 * i)).take 32) := (hp.drop _).take _
  have hxl : ((path.drop (32 * i)).take 32).length ≤ 32 := by rw [List.length_take]; omega
  have hcu := curS_in id n path c hc i
  have hcul := curS_len id n path c hcl i
  rw [br_pos (by omega), br_pos (by omega), show (2 : Int) = ((2 : Nat) : Int) from rfl, tmN, show ((2 : Nat) : Int) = 2 from rfl, half _ hlt, e32, List.drop_zero, toNat_cast, List.take_length, hdr]
  by_cases hm : n / 2 ^ i % 2 = 1
  ·rw [br_beq_pos (by omega), show (33667 : Int) = ((33667 : Nat) : Int) from rfl, lms_sum id _ 33667 _ hid h16 (by omega) (by omega) (by simpa using hx.app hcu) (by simp) (by simp; omega), br_pos (by omega), br_pos (by omega)]
   refine Eq.trans ?_ hn'
   simp only [curS, if_pos hm, hnx]
  ·rw [br_beq_neg (by omega), show (33667 : Int) = ((33667 : Nat) : Int) from rfl, lms_sum id _ 33667 _ hid h16 (by omega) (by omega) (by simpa using hcu.app hx) (by simp) (by simp; omega), br_pos (by omega), br_pos (by omega)]
   refine Eq.trans ?_ hn'
   simp only [curS, if_neg hm, hnx]
 ·simp only [P.lms_root_r2_1]
  rw [way_end h1 h2, br_neg (by omega), List.drop_eq_nil_of_le (by omega)]
  rfl
theorem ref_loop (v0 id c path : List Int) (n h : Nat) (hid : In 256 id) (h16 : id.length ≤ 300) (hc : In 256 c) (hcl : c.length = 32) (hp : In 256 path) (hpl : path.length = 32 * h) (hh : h ≤ 60) (h1 : 2 ^ h ≤ n) (h2 : n < 2 ^ (h + 1)) (hn : n < 18446744073709551616)
    {ρ : Type} (k0 : List Int → List Int → Int → List Int → List Int → Option ρ) : P.R15_Verify_l17 v0 id (n : Int) c path k0 = k0 v0 id 1 (curS id n path c h) [] := by
 rw [P.R15_Verify_l17_eq]
 unfold P.R15_Verify_L17
 refine lp_go (fun i => (v0, id, ((n / 2 ^ i : Nat) : Int), curS id n path c i, path.drop (32 * i))) h (by simp [curS]) (fun i hi next hn' => ?_) (fun next => ?_) (by omega)
 ·simp only [P.R15_Verify_r17]
  have hw := way_up h1 h2 hi
  have hlt : n / 2 ^ i < 18446744073709551616 := Nat.lt_of_le_of_lt (Nat.div_le_self _ _) hn
  have hpl' : (path.drop (32 * i)).length = 32 * h - 32 * i := by rw [List.length_drop, hpl]
  have hnx : n / 2 ^ (i + 1) = n / 2 ^ i / 2 := by rw [Nat.pow_succ, Nat.div_div_eq_div_mul]
  have hdr : (path.drop (32 * i)).drop 32 = path.drop (32 * (i + 1)) := by rw [List.drop_drop]; congr 1
  have e32 : Int.toNat (32 : Int) = 32 := rfl
  have hx : In 256 ((path.drop (32 * i)).take 32) := (hp.drop _).take _
  have hxl : ((path.drop (32 * i)).take 32).length ≤ 32 := by rw [List.length_take]; omega
  have hcu := curS_in id n path c hc i
  have hcul := curS_len id n path c hcl i
  rw [br_pos (by omega), show (2 : Int) = ((2 : Nat) : Int) from rfl, tmN, show ((2 : Nat) : Int) = 2 from rfl, half _ hlt, e32, List.drop_zero, toNat_cast, List.take_length, hdr]
  by_cases hm : n / 2 ^ i % 2 = 1
  ·rw [br_beq_neg (by omega), br_pos (by omega), R15_over id _ _ _ hid h16 (by omega) hx (by omega) hcu (by omega), br_pos (by omega), br_pos (by omega)]
   refine Eq.trans ?_ hn'
   simp only [curS, if_pos hm, hnx]
  ·rw [br_beq_pos (by omega), br_pos (by omega), R15_over id _ _ _ hid h16 (by omega) hcu (by omega) hx (by omega), br_pos (by omega), br_pos (by omega)]
   refine Eq.trans ?_ hn'
   simp only [curS, if_neg hm, hnx]
 ·simp only [P.R15_Verify_r17]
  rw [way_end h1 h2, br_neg (by omega), List.drop_eq_nil_of_le (by omega)]
  rfl
end Q
end
