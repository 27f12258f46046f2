/-
  LmotsSigns, part R: an interpreter of my own over abstract values, the pure functions, the walks and the plain law.
-/

import Derived.Test.YtknjpkgnideplaaDoorLmotsSignsQ
import Derived.Test.YtknjpkgnideplaaDoorLmotsSignsH
import Derived.Test.YtknjpkgnideplaaDoorLmotsSignsI
import Derived.Test.YtknjpkgnideplaaDoorLmotsSignsP

section
/- SHA-2: sums that go on, and their ends. -/
namespace Q
open Go Go.Abs
set_option linter.unusedVariables false
set_option linter.unusedSimpArgs false
def bsz (kind : Int) : Nat := if kind = 1 then 64 else 128
theorem bsz_or (kind : Int) : (kind = 1 ∧ bsz kind = 64) ∨ (kind ≠ 1 ∧ bsz kind = 128) := by
  unfold bsz
  by_cases h : kind = 1
  · exact .inl ⟨h, if_pos h⟩
  · exact .inr ⟨h, if_neg h⟩
theorem sha_blockSize (kind : Int) {ρ : Type} (k : Int → Option ρ) : P.sha_blockSize kind k = k ((bsz kind : Nat) : Int) := by
  rw [P.sha_blockSize_eq]; unfold P.sha_blockSize_raw
  rcases bsz_or kind with ⟨h, e⟩ | ⟨h, e⟩
  · rw [br_beq_pos h, e]; rfl
  · rw [br_beq_neg h, e]; rfl
theorem R07_Block (kind : Int) {ρ : Type} (k : Int → Option ρ) : P.R07_Block kind k = k ((bsz kind : Nat) : Int) := by
  rw [P.R07_Block_eq]; unfold P.R07_Block_raw
  rcases bsz_or kind with ⟨h, e⟩ | ⟨h, e⟩
  · rw [br_beq_pos h, e]; rfl
  · rw [br_beq_neg h, e]; rfl
def addW (kind : Int) (words all : List Int) : List Int :=
  if kind = 1 then cv (thr p32 (toV 32 words) all (all.length / 64)) else cv (thr p64 (toV 64 words) all (all.length / 128))
theorem addW_len (kind : Int) (words all : List Int) : (addW kind words all).length = 8 := by
  unfold addW
  split <;> rw [cv_length, thr_len _ _ (toV_len _ _)]
def Wok (kind : Int) (words : List Int) : Prop := words.length = 8 ∧ In 18446744073709551616 words ∧ (kind = 1 → In 4294967296 words)
theorem addW_ok (kind : Int) (words all : List Int) : Wok kind (addW kind words all) := by
  refine ⟨addW_len _ _ _, ?_, fun h => ?_⟩
  · unfold addW
    split
    · intro x hx
      have := cv_in _ x hx
      omega
    · intro x hx
      have := cv_in _ x hx
      omega
  · unfold addW
    rw [if_pos h]
    intro x hx
    have := cv_in _ x hx
    omega
theorem rest_len (n : Nat) (hn : 0 < n) (b : List Int) : (rest n b).length = b.length % n := by
  unfold rest
  rw [List.length_drop]
  have := Nat.div_add_mod b.length n
  omega
theorem rest_in {n : Nat} {b : List Int} (h : In 256 b) : In 256 (rest n b) := h.drop _
theorem sha_small {ρ : Type} (k : Int → Int → List Int → List Int → List Int → List Int → Option ρ) : P.sha_small k = k 32 64 [7, 18, 3] [17, 19, 10] [2, 13, 22] [6, 11, 25] := by rw [P.sha_small_eq]; rfl
theorem sha_great {ρ : Type} (k : Int → Int → List Int → List Int → List Int → List Int → Option ρ) : P.sha_great k = k 64 80 [1, 8, 7] [19, 61, 6] [28, 34, 39] [14, 18, 41] := by rw [P.sha_great_eq]; rfl
theorem sha_Add (kind : Int) (words tail : List Int) (size : Int) (b : List Int) (hl : words.length = 8) (hi : In 18446744073709551616 words) (ht : In 256 tail) (hb : In 256 b) (hn : tail.length + b.length ≤ 1000000) {ρ : Type} (k : Int → List Int → List Int → Int → Option ρ) :
    P.sha_Add kind words tail size b k = k kind (addW kind words (tail ++ b)) (rest (bsz kind) (tail ++ b)) (IntKind.u64.wrap (size + IntKind.u64.wrap (b.length : Int))) := by
  rw [P.sha_Add_eq]; unfold P.sha_Add_raw
  have hf : [tail, b].flatten = tail ++ b := by simp
  have hall : (tail ++ b).length ≤ 1000000 := by rw [List.length_append]; exact hn
  have hin : In 256 (tail ++ b) := ht.app hb
  have hr : ∀ n, (rest n (tail ++ b)).length ≤ 1000000 := fun n => by unfold rest; rw [List.length_drop]; omega
  rw [slices_Concat_byte _ (by simp) (by rw [hf]; omega), hf]
  rcases bsz_or kind with ⟨h, e⟩ | ⟨h, e⟩
  · rw [br_beq_pos h, sha_small, e]
    rw [t32_through words _ hl hi hin hall]
    unfold P.slices_Clone_byte addW
    have := hr 64
    rw [br_pos (by omega), if_pos h]
  · rw [br_beq_neg h, sha_great, e]
    rw [t64_through words _ hl hi hin hall]
    unfold P.slices_Clone_byte addW
    have := hr 128
    rw [br_pos (by omega), if_neg h]
theorem R07_Add (kind : Int) (words tail : List Int) (size : Int) (b : List Int) (hw : Wok kind words) (ht : In 256 tail) (hb : In 256 b) (hn : tail.length + b.length ≤ 1000000) {ρ : Type} (k : Int → List Int → List Int → Int → Option ρ) :
    P.R07_Add kind words tail size b k = k kind (addW kind words (tail ++ b)) (rest (bsz kind) (tail ++ b)) (IntKind.u64.wrap (size + IntKind.u64.wrap (b.length : Int))) := by
  rw [P.R07_Add_eq]; unfold P.R07_Add_raw
  obtain ⟨hl, hi, h1⟩ := hw
  have hf : [tail, b].flatten = tail ++ b := by simp
  have hall : (tail ++ b).length ≤ 1000000 := by rw [List.length_append]; exact hn
  have hin : In 256 (tail ++ b) := ht.app hb
  rw [R07_Block, R01_Join _ (by simp) (by rw [hf]; omega), hf]
  rcases bsz_or kind with ⟨h, e⟩ | ⟨h, e⟩
  · have hv := cv_toV 32 words hl (h1 h)
    rw [e]
    conv => lhs; rw [← hv]
    rw [show ((64 : Nat) : Int) = 64 from rfl, r32_l4 _ (toV_len _ _) _ hin hall]
    unfold addW
    rw [if_pos h]
  · have hv := cv_toV 64 words hl hi
    rw [e]
    conv => lhs; rw [← hv]
    rw [show ((128 : Nat) : Int) = 128 from rfl, r64_l4 _ (toV_len _ _) _ hin hall]
    unfold addW
    rw [if_neg h]
def padZ (kind : Int) (tl : Nat) : Nat := if kind = 1 then (119 - tl) % 64 else (239 - tl) % 128 + 8
def pad (kind : Int) (tl : Nat) (size : Nat) : List Int := 128 :: List.replicate (padZ kind tl) 0 ++ (bsw 8 8 (size * 8 % 2 ^ 64)).reverse
def outI (n : Nat) (words : List Int) (i : Nat) : List Int := ((List.range i).map fun j => (bsw 8 n (words.getD j 0).toNat).reverse).flatten
theorem outI_succ (n : Nat) (words : List Int) (i : Nat) : outI n words (i + 1) = outI n words i ++ (bsw 8 n (words.getD i 0).toNat).reverse := by simp [outI, List.range_succ]
theorem outI_len (n : Nat) (words : List Int) : ∀ i, (outI n words i).length = n * i
  | 0 => by simp [outI]
  | i + 1 => by rw [outI_succ, List.length_append, outI_len n words i, List.length_reverse, bsw_length, Nat.mul_succ]
theorem outI_in (n : Nat) (words : List Int) : ∀ i, In 256 (outI n words i)
  | 0 => by simp [outI, In]
  | i + 1 => by rw [outI_succ]; exact (outI_in n words i).app (bsw_in 8 n _).rev
def endS (kind : Int) (words tail : List Int) (size : Nat) : List Int :=
  let o := outI (bsz kind / 16) (addW kind words (tail ++ pad kind tail.length size)) 8
  if kind = 2 then o.take 48 else o
theorem endS_in (kind : Int) (words tail : List Int) (size : Nat) : In 256 (endS kind words tail size) := by
  unfold endS
  simp only
  split
  · exact (outI_in _ _ _).take _
  · exact outI_in _ _ _
theorem endS_len (kind : Int) (words tail : List Int) (size : Nat) : (endS kind words tail size).length = if kind = 1 then 32 else if kind = 2 then 48 else 64 := by
  unfold endS
  simp only
  rcases bsz_or kind with ⟨h, e⟩ | ⟨h, e⟩
  · rw [if_neg (by omega), if_pos h, outI_len, e]
  · rw [if_neg h, e]
    split
    · rw [List.length_take, outI_len]; decide
    · rw [outI_len]
theorem tmN (a b : Nat) : ((a : Nat) : Int).tmod (b : Int) = ((a % b : Nat) : Int) := by
  rw [Int.tmod_eq_emod_of_nonneg (by omega)]; rfl
theorem pad_in (kind : Int) (tl size : Nat) : In 256 (pad kind tl size) := by
  unfold pad
  refine In.app ?_ (bsw_in 8 8 _).rev
  intro x hx
  rcases List.mem_cons.1 hx with rfl | hx
  · omega
  · rw [List.mem_replicate] at hx; omega
theorem pad_len (kind : Int) (tl size : Nat) : (pad kind tl size).length = padZ kind tl + 9 := by
  unfold pad; simp
theorem padZ_le (kind : Int) (tl : Nat) : padZ kind tl ≤ 200 := by
  unfold padZ; split <;> omega
theorem sha_outs (n : Nat) (hn : n = 64 ∨ n = 128) (words : List Int) (hw : In 18446744073709551616 words) (a : Int) (b : List Int) (c : Int) (d : List Int) {ρ : Type} (k0 : Int → List Int → Int → List Int → Int → List Int → Int → List Int → Option ρ) :
    P.sha_End_l10 (n : Int) words 0 [] a b c d k0 = k0 (n : Int) words 8 (outI (n / 16) words 8) a b c d := by
  rw [P.sha_End_l10_eq]
  unfold P.sha_End_L10
  have e16 : IntKind.i64.wrap ((n : Int).tdiv 16) = ((n / 16 : Nat) : Int) := by rcases hn with rfl | rfl <;> rfl
  refine lp_go (fun i => ((n : Int), words, (i : Int), outI (n / 16) words i, a, b, c, d)) 8 rfl (fun i hi next hn' => ?_) (fun next => ?_) (by omega)
  · simp only [P.sha_End_r10, toNat_cast]
    have h1 := hw.getD i (by omega)
    have e4 : IntKind.i64.wrap ((i : Int) + 1) = ((i + 1 : Nat) : Int) := by rw [i64w (by omega) (by omega)]; omega
    have e5 : words.getD i 0 = (((words.getD i 0).toNat : Nat) : Int) := by omega
    rw [outI_succ] at hn'
    rw [br_pos (by omega), br_pos (by omega), br_pos (by omega), e16, e5, bits_Be _ _ (by omega) (by omega), e4]
    rw [br_pos (by rw [outI_len, List.length_reverse, bsw_length]; rcases hn with rfl | rfl <;> omega)]
    exact hn'
  · simp only [P.sha_End_r10]
    rw [br_neg (by omega)]
    rfl
theorem shl3 (size : Nat) : IntKind.u64.wrap ((size : Int) * (2 : Int) ^ 3) = ((size * 8 % 2 ^ 64 : Nat) : Int) := by
  rw [u64m]; omega
theorem sha_End (kind : Int) (words tail : List Int) (size : Nat) (hl : words.length = 8) (hi : In 18446744073709551616 words) (ht : In 256 tail) (hn : tail.length < bsz kind) {ρ : Type} (k : List Int → Option ρ) :
    P.sha_End kind words tail (size : Int) k = k (endS kind words tail size) := by
  rw [P.sha_End_eq]; unfold P.sha_End_raw
  rw [sha_blockSize]
  have hz : IntKind.i64.wrap (IntKind.i64.wrap ((IntKind.i64.wrap (IntKind.i64.wrap (IntKind.i64.wrap (IntKind.i64.wrap ((2 : Int) * ((bsz kind : Nat) : Int)) - (1 : Int)) - IntKind.i64.wrap (((bsz kind : Nat) : Int).tdiv (8 : Int))) - (tail.length : Int))).tmod ((bsz kind : Nat) : Int) + IntKind.i64.wrap (((bsz kind : Nat) : Int).tdiv (8 : Int))) - (8 : Int)) = ((padZ kind tail.length : Nat) : Int) := by
    unfold padZ
    rcases bsz_or kind with ⟨h, e⟩ | ⟨h, e⟩
    · rw [e] at hn ⊢
      rw [if_pos h, show IntKind.i64.wrap (IntKind.i64.wrap (IntKind.i64.wrap ((2 : Int) * ((64 : Nat) : Int)) - (1 : Int)) - IntKind.i64.wrap (((64 : Nat) : Int).tdiv (8 : Int))) = 119 from rfl, i64w (x := (119 : Int) - (tail.length : Int)) (by omega) (by omega),
        show (119 : Int) - (tail.length : Int) = ((119 - tail.length : Nat) : Int) by omega, tmN, show IntKind.i64.wrap (((64 : Nat) : Int).tdiv (8 : Int)) = 8 from rfl, i64w (x := ((((119 - tail.length) % 64 : Nat) : Int)) + 8) (by omega) (by omega), i64w (by omega) (by omega)]
      omega
    · rw [e] at hn ⊢
      rw [if_neg h, show IntKind.i64.wrap (IntKind.i64.wrap (IntKind.i64.wrap ((2 : Int) * ((128 : Nat) : Int)) - (1 : Int)) - IntKind.i64.wrap (((128 : Nat) : Int).tdiv (8 : Int))) = 239 from rfl, i64w (x := (239 : Int) - (tail.length : Int)) (by omega) (by omega),
        show (239 : Int) - (tail.length : Int) = ((239 - tail.length : Nat) : Int) by omega, tmN, show IntKind.i64.wrap (((128 : Nat) : Int).tdiv (8 : Int)) = 16 from rfl, i64w (x := ((((239 - tail.length) % 128 : Nat) : Int)) + 16) (by omega) (by omega), i64w (by omega) (by omega)]
      omega
  have hb : bsz kind = 64 ∨ bsz kind = 128 := by rcases bsz_or kind with ⟨h, e⟩ | ⟨h, e⟩ <;> omega
  have hz2 := padZ_le kind tail.length
  rw [hz]
  simp only [toNat_cast]
  rw [br_pos (by omega), br_pos (by omega), br_neg (by omega), br_pos (by omega), br_pos (by omega), shl3, show (8 : Int) = ((8 : Nat) : Int) from rfl, bits_Be _ 8 (by omega) (by omega)]
  have hp : (List.replicate 1 (0 : Int)).set 0 (128 : Int) ++ List.replicate (padZ kind tail.length) (0 : Int) ++ (bsw 8 8 (size * 8 % 2 ^ 64)).reverse = pad kind tail.length size := rfl
  rw [br_pos (by
    show ((List.replicate (padZ kind tail.length) (0 : Int)).length + 0 + 1 + _) * 1 ≤ _
    rw [List.length_replicate, List.length_reverse, bsw_length]; omega), hp]
  have hpl := pad_len kind tail.length size
  rw [sha_Add kind words tail _ _ hl hi ht (pad_in _ _ _) (by omega), sha_outs _ hb _ (addW_ok _ _ _).2.1]
  unfold endS
  simp only
  by_cases h2 : kind = 2
  · have e : bsz kind = 128 := by unfold bsz; rw [if_neg (by omega)]
    rw [br_beq_pos h2, br_pos (by rw [outI_len, e]; omega), if_pos h2]
    rfl
  · rw [br_beq_neg h2, if_neg h2]
theorem pads (n : Nat) (hn : n = 64 ∨ n = 128) (tl : Nat) (ht : tl < 200) (z m : Nat) (hm : m < n) (h1 : ∀ i, i < z → (tl + (1 + i)) % n ≠ m) (h2 : (tl + (1 + z)) % n = m) (hz : z ≤ 200) (c : Int) (kd : Int) (words tail : List Int) (size : Int) (hl : tail.length = tl) (d : Int) (hd : IntKind.i64.wrap ((n : Int) - d) = (m : Int)) :
    (d = 8 → ∀ {ρ : Type} (k0 : Int → Int → List Int → Int → List Int → List Int → Int → Option ρ), P.R07_End_l4 (n : Int) c [128] kd words tail size k0 = k0 (n : Int) c (128 :: List.replicate z 0) kd words tail size) ∧
    (d = 16 → ∀ {ρ : Type} (k0 : Int → Int → List Int → Int → List Int → List Int → Int → Option ρ), P.R07_End_l8 (n : Int) c [128] kd words tail size k0 = k0 (n : Int) c (128 :: List.replicate z 0) kd words tail size) := by
  have hlen : ∀ i : Nat, ((128 : Int) :: List.replicate i 0).length = 1 + i := fun i => by simp; omega
  have hc : ∀ i : Nat, i ≤ z → IntKind.i64.wrap (((tail.length : Nat) : Int) + ((((128 : Int) :: List.replicate i 0).length : Nat) : Int)) = ((tl + (1 + i) : Nat) : Int) := fun i hi => by
    rw [hlen, hl, i64w (by omega) (by omega)]; omega
  have hs : ∀ i : Nat, ((128 : Int) :: List.replicate i 0) ++ [(0 : Int)] = 128 :: List.replicate (i + 1) 0 := fun i => by
    rw [List.replicate_succ']; rfl
  constructor
  · rintro rfl ρ k0
    rw [P.R07_End_l4_eq]
    unfold P.R07_End_L4
    refine lp_go (fun i => ((n : Int), c, 128 :: List.replicate i 0, kd, words, tail, size)) z rfl (fun i hi next hn' => ?_) (fun next => ?_) (by omega)
    · simp only [P.R07_End_r4]
      have := h1 i hi
      rw [hc i (by omega), tmN, hd, br_neg (by omega), br_bne_pos (by omega), br_pos (by rw [hlen]; omega), hs]
      exact hn'
    · simp only [P.R07_End_r4]
      rw [hc z (by omega), tmN, hd, br_neg (by omega), h2, br_bne_neg (by rfl)]
  · rintro rfl ρ k0
    rw [P.R07_End_l8_eq]
    unfold P.R07_End_L8
    refine lp_go (fun i => ((n : Int), c, 128 :: List.replicate i 0, kd, words, tail, size)) z rfl (fun i hi next hn' => ?_) (fun next => ?_) (by omega)
    · simp only [P.R07_End_r8]
      have := h1 i hi
      rw [hc i (by omega), tmN, hd, br_neg (by omega), br_bne_pos (by omega), br_pos (by rw [hlen]; omega), hs]
      exact hn'
    · simp only [P.R07_End_r8]
      rw [hc z (by omega), tmN, hd, br_neg (by omega), h2, br_bne_neg (by rfl)]
theorem R07_outs (n : Nat) (hn : n = 64 ∨ n = 128) (words : List Int) (hw : In 18446744073709551616 words) (a : Int) (b : List Int) (c : Int) {ρ : Type} (k0 : Int → Int → List Int → Int → List Int → List Int → Int → Option ρ) :
    P.R07_End_l14 (n : Int) 0 [] a words b c k0 = k0 (n : Int) 8 (outI (n / 16) words 8) a words b c := by
  rw [P.R07_End_l14_eq]
  unfold P.R07_End_L14
  have e16 : IntKind.i64.wrap ((n : Int).tdiv 16) = ((n / 16 : Nat) : Int) := by rcases hn with rfl | rfl <;> rfl
  refine lp_go (fun i => ((n : Int), (i : Int), outI (n / 16) words i, a, words, b, c)) 8 rfl (fun i hi next hn' => ?_) (fun next => ?_) (by omega)
  · simp only [P.R07_End_r14, toNat_cast]
    have h1 := hw.getD i (by omega)
    have e4 : IntKind.i64.wrap ((i : Int) + 1) = ((i + 1 : Nat) : Int) := by rw [i64w (by omega) (by omega)]; omega
    have e5 : words.getD i 0 = (((words.getD i 0).toNat : Nat) : Int) := by omega
    rw [outI_succ] at hn'
    rw [br_pos (by omega), br_pos (by omega), br_pos (by omega), e16, e5, R01_Be _ _ (by omega) (by omega), e4]
    rw [br_pos (by rw [outI_len, List.length_reverse, bsw_length]; rcases hn with rfl | rfl <;> omega)]
    exact hn'
  · simp only [P.R07_End_r14]
    rw [br_neg (by omega)]
    rfl
theorem R07_tail (kind : Int) (words tail : List Int) (size : Nat) {ρ : Type} (k : List Int → Option ρ) :
    (br (kind == (2 : Int)) (br (decide ((48 : Int) ≤ ((outI (bsz kind / 16) (addW kind words (tail ++ pad kind tail.length size)) 8).length : Int))) (k (List.take ((48 : Int) - (0 : Int)).toNat (outI (bsz kind / 16) (addW kind words (tail ++ pad kind tail.length size)) 8))) none)
      (k (outI (bsz kind / 16) (addW kind words (tail ++ pad kind tail.length size)) 8))) = k (endS kind words tail size) := by
  unfold endS
  simp only
  by_cases h2 : kind = 2
  · have e : bsz kind = 128 := by unfold bsz; rw [if_neg (by omega)]
    rw [br_beq_pos h2, br_pos (by rw [outI_len, e]; omega), if_pos h2]
    rfl
  · rw [br_beq_neg h2, if_neg h2]
theorem R07_End (kind : Int) (words tail : List Int) (size : Nat) (hw : Wok kind words) (ht : In 256 tail) (hn : tail.length < bsz kind) (hs : size < 2305843009213693952) {ρ : Type} (k : List Int → Option ρ) :
    P.R07_End kind words tail (size : Int) k = k (endS kind words tail size) := by
  rw [P.R07_End_eq]; unfold P.R07_End_raw
  have h8 : IntKind.u64.wrap ((size : Int) * 8) = ((size * 8 % 2 ^ 64 : Nat) : Int) := by rw [u64m]; omega
  have hpl := pad_len kind tail.length size
  have hz2 := padZ_le kind tail.length
  rw [R07_Block, h8]
  rcases bsz_or kind with ⟨h, e⟩ | ⟨h, e⟩
  · rw [e] at hn ⊢
    have hp := (pads 64 (.inl rfl) tail.length (by omega) (padZ kind tail.length) 56 (by omega) (fun i hi => by unfold padZ at hi; rw [if_pos h] at hi; omega) (by unfold padZ; rw [if_pos h]; omega) hz2 ((size * 8 % 2 ^ 64 : Nat) : Int) kind words tail (size : Int) rfl 8 rfl).1
    rw [hp rfl, br_beq_neg (by decide), show (8 : Int) = ((8 : Nat) : Int) from rfl, R01_Be _ 8 (by omega) (by omega), br_pos (by simp; omega)]
    have hpad : (128 : Int) :: List.replicate (padZ kind tail.length) 0 ++ (bsw 8 8 (size * 8 % 2 ^ 64)).reverse = pad kind tail.length size := rfl
    rw [hpad, R07_Add kind words tail _ _ hw ht (pad_in _ _ _) (by omega), R07_outs _ (.inl rfl) _ (addW_ok _ _ _).2.1]
    have := R07_tail kind words tail size k
    rw [e] at this
    exact this
  · rw [e] at hn ⊢
    have hp1 := (pads 128 (.inr rfl) tail.length (by omega) ((247 - tail.length) % 128) 120 (by omega) (fun i hi => by omega) (by omega) (by omega) ((size * 8 % 2 ^ 64 : Nat) : Int) kind words tail (size : Int) rfl 8 rfl).1
    have hp2 := (pads 128 (.inr rfl) tail.length (by omega) ((239 - tail.length) % 128) 112 (by omega) (fun i hi => by omega) (by omega) (by omega) ((size * 8 % 2 ^ 64 : Nat) : Int) kind words tail (size : Int) rfl 16 rfl).2
    have h61 : ((size : Nat) : Int).fdiv ((2 : Int) ^ 61) = ((0 : Nat) : Int) := by
      have := fdiv_pow size 61 61 (by omega)
      rw [Nat.div_eq_of_lt (by omega)] at this
      exact this
    rw [hp1 rfl, br_beq_pos (by rfl), hp2 rfl, h61, show (8 : Int) = ((8 : Nat) : Int) from rfl, R01_Be _ 8 (by omega) (by omega), br_pos (by simp; omega), R01_Be _ 8 (by omega) (by omega), br_pos (by simp; omega)]
    have hpad : (128 : Int) :: List.replicate ((239 - tail.length) % 128) 0 ++ (bsw 8 8 0).reverse ++ (bsw 8 8 (size * 8 % 2 ^ 64)).reverse = pad kind tail.length size := by
      unfold pad padZ
      rw [if_neg h, ← List.replicate_append_replicate]
      rfl
    rw [hpad, R07_Add kind words tail _ _ hw ht (pad_in _ _ _) (by omega), R07_outs _ (.inr rfl) _ (addW_ok _ _ _).2.1]
    have := R07_tail kind words tail size k
    rw [e] at this
    exact this
def newW (kind : Int) : List Int :=
  if kind = 1 then [1779033703, 3144134277, 1013904242, 2773480762, 1359893119, 2600822924, 528734635, 1541459225]
  else if kind = 2 then [14680500436340154072, 7105036623409894663, 10473403895298186519, 1526699215303891257, 7436329637833083697, 10282925794625328401, 15784041429090275239, 5167115440072839076]
  else [7640891576956012808, 13503953896175478587, 4354685564936845355, 11912009170470909681, 5840696475078001361, 11170449401992604703, 2270897969802886507, 6620516959819538809]
theorem newW_ok (kind : Int) : Wok kind (newW kind) := by
  unfold newW Wok
  by_cases h1 : kind = 1
  · simp only [if_pos h1]
    refine ⟨rfl, ?_, fun _ => ?_⟩
    · unfold In; decide
    · unfold In; decide
  · by_cases h2 : kind = 2
    · simp only [if_neg h1, if_pos h2]
      refine ⟨rfl, ?_, fun h => absurd h h1⟩
      unfold In; decide
    · simp only [if_neg h1, if_neg h2]
      refine ⟨rfl, ?_, fun h => absurd h h1⟩
      unfold In; decide
def K3 (kind : Int) : Prop := kind = 1 ∨ kind = 2 ∨ kind = 3
theorem k3_or (kind : Int) : K3 kind ∨ (kind ≠ 1 ∧ kind ≠ 2 ∧ kind ≠ 3) := by
  unfold K3; omega
theorem sha_begin_k {kind : Int} (h : K3 kind) {ρ : Type} (k : List Int → Bool → Option ρ) : P.sha_begin kind k = k (newW kind) true := by
  rw [P.sha_begin_eq]
  rcases h with rfl | rfl | rfl <;> kernel_rfl
theorem sha_begin_no {kind : Int} (h : kind ≠ 1 ∧ kind ≠ 2 ∧ kind ≠ 3) {ρ : Type} (k : List Int → Bool → Option ρ) : P.sha_begin kind k = k (List.replicate 8 0) false := by
  rw [P.sha_begin_eq]; unfold P.sha_begin_raw
  rw [br_beq_neg h.1, br_beq_neg h.2.1, br_beq_neg h.2.2]; rfl
theorem sha_New {kind : Int} (h : K3 kind) {ρ : Type} (k : Int → List Int → List Int → Int → Int → Option ρ) : P.sha_New kind k = k kind (newW kind) [] 0 0 := by
  rw [P.sha_New_eq]; unfold P.sha_New_raw
  rw [sha_begin_k h, br_not, br_tt]
theorem sha_New_no {kind : Int} (h : kind ≠ 1 ∧ kind ≠ 2 ∧ kind ≠ 3) {ρ : Type} (k : Int → List Int → List Int → Int → Int → Option ρ) : P.sha_New kind k = k 0 (List.replicate 8 0) [] 0 9 := by
  rw [P.sha_New_eq]; unfold P.sha_New_raw
  rw [sha_begin_no h, br_not, br_ff]; rfl
theorem R07_New {kind : Int} (h : K3 kind) {ρ : Type} (k : Int → List Int → List Int → Int → Int → Option ρ) : P.R07_New kind k = k kind (newW kind) [] 0 0 := by
  rw [P.R07_New_eq]; unfold P.R07_New_raw newW
  rcases h with rfl | rfl | rfl
  · rw [br_beq_pos (by rfl)]; rfl
  · rw [br_beq_neg (by decide), br_beq_pos (by rfl)]; rfl
  · rw [br_beq_neg (by decide), br_beq_neg (by decide), br_beq_pos (by rfl)]; rfl
theorem R07_New_no {kind : Int} (h : kind ≠ 1 ∧ kind ≠ 2 ∧ kind ≠ 3) {ρ : Type} (k : Int → List Int → List Int → Int → Int → Option ρ) : P.R07_New kind k = k 0 (List.replicate 8 0) [] 0 9 := by
  rw [P.R07_New_eq]; unfold P.R07_New_raw
  rw [br_beq_neg h.1, br_beq_neg h.2.1, br_beq_neg h.2.2]; rfl
theorem bsz_pos (kind : Int) : 0 < bsz kind := by rcases bsz_or kind with ⟨h, e⟩ | ⟨h, e⟩ <;> omega
def sumS (kind : Int) (b : List Int) : List Int := endS kind (addW kind (newW kind) b) (rest (bsz kind) b) b.length
theorem size_add (b : List Int) (hn : b.length ≤ 1000000) : IntKind.u64.wrap ((0 : Int) + IntKind.u64.wrap (b.length : Int)) = ((b.length : Nat) : Int) := by
  rw [u64n _ (by omega), Int.zero_add, u64n _ (by omega)]
theorem sha_Sum {kind : Int} (h : K3 kind) (b : List Int) (hb : In 256 b) (hn : b.length ≤ 1000000) {ρ : Type} (k : List Int → Int → Option ρ) : P.sha_Sum kind b k = k (sumS kind b) 0 := by
  rw [P.sha_Sum_eq]; unfold P.sha_Sum_raw
  have hw := newW_ok kind
  have hr := rest_len _ (bsz_pos kind) b
  have hlt := Nat.mod_lt b.length (bsz_pos kind)
  rw [sha_New h, br_bne_neg (by rfl), sha_Add kind _ [] _ b hw.1 hw.2.1 In.nil hb (by simpa using hn), List.nil_append, size_add b hn, sha_End kind _ _ _ (addW_len _ _ _) (addW_ok _ _ _).2.1 (rest_in hb) (by omega)]
  rfl
theorem R07_Sum {kind : Int} (h : K3 kind) (b : List Int) (hb : In 256 b) (hn : b.length ≤ 1000000) {ρ : Type} (k : List Int → Int → Option ρ) : P.R07_Sum kind b k = k (sumS kind b) 0 := by
  rw [P.R07_Sum_eq]; unfold P.R07_Sum_raw
  have hw := newW_ok kind
  have hr := rest_len _ (bsz_pos kind) b
  have hlt := Nat.mod_lt b.length (bsz_pos kind)
  rw [R07_New h, br_bne_neg (by rfl), R07_Add kind _ [] _ b hw In.nil hb (by simpa using hn), List.nil_append, size_add b hn, R07_End kind _ _ _ (addW_ok _ _ _) (rest_in hb) (by omega) (by omega)]
  rfl
theorem sha_Sum_no {kind : Int} (h : kind ≠ 1 ∧ kind ≠ 2 ∧ kind ≠ 3) (b : List Int) {ρ : Type} (k : List Int → Int → Option ρ) : P.sha_Sum kind b k = k [] 9 := by
  rw [P.sha_Sum_eq]; unfold P.sha_Sum_raw
  rw [sha_New_no h, br_bne_pos (by decide)]
theorem R07_Sum_no {kind : Int} (h : kind ≠ 1 ∧ kind ≠ 2 ∧ kind ≠ 3) (b : List Int) {ρ : Type} (k : List Int → Int → Option ρ) : P.R07_Sum kind b k = k [] 9 := by
  rw [P.R07_Sum_eq]; unfold P.R07_Sum_raw
  rw [R07_New_no h, br_bne_pos (by decide)]
theorem sumS_in (kind : Int) (b : List Int) : In 256 (sumS kind b) := endS_in _ _ _ _
theorem sumS_len (kind : Int) (b : List Int) : (sumS kind b).length = if kind = 1 then 32 else if kind = 2 then 48 else 64 := endS_len _ _ _ _
end Q
end

section
/- SHA-2: bytes that are added one behind the other. -/
namespace Q
open Go Go.Abs
set_option linter.unusedVariables false
set_option linter.unusedSimpArgs false
theorem thr_append {w : Nat} (p : Par w) (v : List (BitVec w)) (a b : List Int) (m : Nat) (hm : (2 * w) * m = a.length) : ∀ i, thr p v (a ++ b) (m + i) = thr p (thr p v a m) b i ∧ thr p v (a ++ b) m = thr p v a m := by
  have key : ∀ i, i ≤ m → thr p v (a ++ b) i = thr p v a i := by
    intro i
    induction i with
    | zero => intro _; rfl
    | succ i ih =>
      intro hi
      have h1 : (2 * w) * i + 2 * w ≤ a.length := by
        rw [← hm, ← Nat.mul_succ]
        exact Nat.mul_le_mul (Nat.le_refl _) hi
      simp only [thr]
      rw [ih (by omega), List.drop_append_of_le_length (by omega), List.take_append_of_le_length (by rw [List.length_drop]; omega)]
  intro i
  refine ⟨?_, key m (Nat.le_refl _)⟩
  induction i with
  | zero => exact key m (Nat.le_refl _)
  | succ i ih =>
    rw [← Nat.add_assoc]
    simp only [thr]
    rw [ih, Nat.mul_add, hm, List.drop_append, List.drop_eq_nil_of_le (by omega), List.nil_append, Nat.add_sub_cancel_left]
theorem addW1 (words all : List Int) : addW 1 words all = cv (thr p32 (toV 32 words) all (all.length / 64)) := if_pos rfl
theorem addW_two (words a b : List Int) : addW 1 (addW 1 words a) (rest 64 a ++ b) = addW 1 words (a ++ b) := by
  have hlen := thr_len p32 (toV 32 words) (toV_len _ _) a (a.length / 64)
  rw [addW1, addW1, addW1, toV_cv _ hlen]
  have h0 : a = a.take (64 * (a.length / 64)) ++ rest 64 a := by unfold rest; rw [List.take_append_drop]
  have h1 : (a.take (64 * (a.length / 64))).length = 64 * (a.length / 64) := by rw [List.length_take]; omega
  have h2 := rest_len 64 (by omega) a
  have e1 := thr_append p32 (toV 32 words) (a.take (64 * (a.length / 64))) (rest 64 a ++ b) (a.length / 64) h1.symm ((rest 64 a ++ b).length / 64)
  have e2 := thr_append p32 (toV 32 words) (a.take (64 * (a.length / 64))) (rest 64 a) (a.length / 64) h1.symm 0
  rw [← List.append_assoc, ← h0] at e1
  rw [← h0] at e2
  rw [e2.2, ← e1.1]
  congr 2
  rw [List.length_append, List.length_append, h2]
  omega
theorem rest_two (a b : List Int) : rest 64 (rest 64 a ++ b) = rest 64 (a ++ b) := by
  have h2 := rest_len 64 (by omega) a
  have h3 : (a ++ b).drop (64 * (a.length / 64)) = rest 64 a ++ b := by unfold rest; rw [List.drop_append_of_le_length (by omega)]
  have hl : (rest 64 a ++ b).length = a.length % 64 + b.length := by rw [List.length_append, h2]
  have hq : (a ++ b).length / 64 = a.length / 64 + (rest 64 a ++ b).length / 64 := by
    rw [hl, List.length_append]; omega
  show (rest 64 a ++ b).drop (64 * ((rest 64 a ++ b).length / 64)) = (a ++ b).drop (64 * ((a ++ b).length / 64))
  rw [hq, Nat.mul_add, ← List.drop_drop, h3]
theorem sum_two (a b : List Int) (n : Nat) (hn : n = (a ++ b).length) : endS 1 (addW 1 (addW 1 (newW 1) a) (rest 64 a ++ b)) (rest 64 (rest 64 a ++ b)) n = sumS 1 (a ++ b) := by
  rw [addW_two, rest_two, hn]
  rfl
end Q
end

section
/- lmots: the digits as the program and as the document count them. -/
namespace Q
open Go Go.Abs
set_option linter.unusedVariables false
set_option linter.unusedSimpArgs false
theorem R14_Kind {w p s : Nat} (h : Kind w p s) : ∃ t : Int, ∀ {ρ : Type} (k : Int → Int → Int → Option ρ), P.R14_Kind (w : Int) k = k (p : Int) (s : Int) t := by
  rcases h with ⟨rfl, rfl, rfl⟩ | ⟨rfl, rfl, rfl⟩ | ⟨rfl, rfl, rfl⟩ | ⟨rfl, rfl, rfl⟩ 
  · exact ⟨1, fun k => by rw [P.R14_Kind_eq]; kernel_rfl⟩
  · exact ⟨2, fun k => by rw [P.R14_Kind_eq]; kernel_rfl⟩
  · exact ⟨3, fun k => by rw [P.R14_Kind_eq]; kernel_rfl⟩
  · exact ⟨4, fun k => by rw [P.R14_Kind_eq]; kernel_rfl⟩
theorem lmots_known {w p s : Nat} (h : Kind w p s) : ∃ t : Int, ∀ {ρ : Type} (k : Int → Int → Int → Bool → Option ρ), P.lmots_known (w : Int) k = k (p : Int) (s : Int) t true := by
  rcases h with ⟨rfl, rfl, rfl⟩ | ⟨rfl, rfl, rfl⟩ | ⟨rfl, rfl, rfl⟩ | ⟨rfl, rfl, rfl⟩ 
  · exact ⟨1, fun k => by rw [P.lmots_known_eq]; kernel_rfl⟩
  · exact ⟨2, fun k => by rw [P.lmots_known_eq]; kernel_rfl⟩
  · exact ⟨3, fun k => by rw [P.lmots_known_eq]; kernel_rfl⟩
  · exact ⟨4, fun k => by rw [P.lmots_known_eq]; kernel_rfl⟩
theorem kind_or (w : Int) : (∃ n p s : Nat, w = (n : Int) ∧ Kind n p s) ∨ (w ≠ 1 ∧ w ≠ 2 ∧ w ≠ 4 ∧ w ≠ 8) := by
  by_cases h1 : w = 1
  · exact .inl ⟨1, 265, 7, h1, by simp [Kind]⟩
  · by_cases h2 : w = 2
    · exact .inl ⟨2, 133, 6, h2, by simp [Kind]⟩
    · by_cases h4 : w = 4
      · exact .inl ⟨4, 67, 4, h4, by simp [Kind]⟩
      · by_cases h8 : w = 8
        · exact .inl ⟨8, 34, 0, h8, by simp [Kind]⟩
        · exact .inr ⟨h1, h2, h4, h8⟩
theorem R14_Kind_no {w : Int} (h : w ≠ 1 ∧ w ≠ 2 ∧ w ≠ 4 ∧ w ≠ 8) {ρ : Type} (k : Int → Int → Int → Option ρ) : P.R14_Kind w k = k 0 0 0 := by
  rw [P.R14_Kind_eq]; unfold P.R14_Kind_raw
  rw [br_beq_neg h.1, br_beq_neg h.2.1, br_beq_neg h.2.2.1, br_beq_neg h.2.2.2]
theorem lmots_known_no {w : Int} (h : w ≠ 1 ∧ w ≠ 2 ∧ w ≠ 4 ∧ w ≠ 8) {ρ : Type} (k : Int → Int → Int → Bool → Option ρ) : P.lmots_known w k = k 0 0 0 false := by
  rw [P.lmots_known_eq]; unfold P.lmots_known_raw
  rw [br_beq_neg h.1, br_beq_neg h.2.1, br_beq_neg h.2.2.1, br_beq_neg h.2.2.2]
theorem kind_pos {w p s : Nat} (h : Kind w p s) : ((p : Int) == 0) = false := by
  rcases h with ⟨rfl, rfl, rfl⟩ | ⟨rfl, rfl, rfl⟩ | ⟨rfl, rfl, rfl⟩ | ⟨rfl, rfl, rfl⟩ <;> rfl
theorem tdiv_w {w p s : Nat} (h : Kind w p s) : IntKind.i64.wrap (Int.tdiv (256 : Int) (w : Int)) = ((256 / w : Nat) : Int) := by
  rcases h with ⟨rfl, rfl, rfl⟩ | ⟨rfl, rfl, rfl⟩ | ⟨rfl, rfl, rfl⟩ | ⟨rfl, rfl, rfl⟩ <;> rfl
theorem num_at' {w : Nat} {b : List Int} (hb : In (2 ^ w) b) (t : Nat) : ∃ x : Nat, b.getD t 0 = (x : Int) ∧ x < 2 ^ w := by
  have hp : ((2 : Int) ^ w) = ((2 ^ w : Nat) : Int) := by simp
  have := hb.getD t (by rw [hp]; have := p2 w; omega)
  rw [hp] at this
  exact ⟨(b.getD t 0).toNat, by omega, by omega⟩
theorem sum_le {w p s : Nat} (hk : Kind w p s) (x : List Int) (i : Nat) : sumTo (digitsS x w ((256 / w : Nat) : Int)) i ≤ i * (2 ^ w - 1) := sumTo_le _ w (digits_in x w _) i
theorem lmots_Digits_kind {w p s : Nat} (hk : Kind w p s) (x : List Int) (hx : In 256 x) (hl : x.length = 32) {ρ : Type} (k : List Int → Int → Option ρ) : P.lmots_Digits (w : Int) x k = k (allD w p s x) 0 := by
  obtain ⟨t, ht⟩ := lmots_known hk
  obtain ⟨f1, f2, f3, f4, f5, f6, f7, f8, f9, f10, f11⟩ := kind_facts hk
  rw [P.lmots_Digits_eq]
  unfold P.lmots_Digits_raw
  have hn : (digitsS x w ((256 / w : Nat) : Int)).length = 256 / w := by
    rw [digits_map x w _ f1 (by omega) (by omega)]; simp
  rw [ht, br_not, br_tt, br_bne_neg (by omega), br_neg (by omega), tdiv_w hk, bits_Digits _ _ _ hx (by omega), br_neg (by omega), hn]
  have hm : IntKind.u64.wrap (((256 / w : Nat) : Int)) = ((256 / w : Nat) : Int) := u64n _ (by omega)
  simp only [toNat_cast]
  rw [hm, mask64 w (by omega), ← Int.natCast_mul, u64n _ (by omega), P.lmots_Digits_l9_eq]
  unfold P.lmots_Digits_L9
  refine lp_go (fun i => ((w : Int), ((256 / w * (2 ^ w - 1) - sumTo (digitsS x w ((256 / w : Nat) : Int)) i : Nat) : Int), ((256 / w : Nat) : Int), (i : Int), (p : Int), (s : Int), t, digitsS x w ((256 / w : Nat) : Int))) (256 / w) (by simp [sumTo]) (fun i hi next hn' => ?_) (fun next => ?_) (by omega)
  · obtain ⟨d, hd, hd2⟩ := num_at' (w := w) (digits_in x w ((256 / w : Nat) : Int)) i
    have hle := sum_le hk x (i + 1)
    have hle2 : (i + 1) * (2 ^ w - 1) ≤ 256 / w * (2 ^ w - 1) := Nat.mul_le_mul hi (Nat.le_refl _)
    simp only [sumTo, hd, Int.toNat_natCast] at hn' hle
    simp only [P.lmots_Digits_r9, toNat_cast]
    rw [hd, u64n d (by omega), show ((256 / w * (2 ^ w - 1) - sumTo (digitsS x w ((256 / w : Nat) : Int)) i : Nat) : Int) - (d : Int) = ((256 / w * (2 ^ w - 1) - (sumTo (digitsS x w ((256 / w : Nat) : Int)) i + d) : Nat) : Int) by omega, u64n _ (by omega)]
    simp (disch := omega) only [br_pos, br_neg, br_bne_pos, br_bne_neg, br_beq_pos, br_beq_neg, br_not, br_tt, br_ff, i64w, hn]
    exact hn'
  · simp only [P.lmots_Digits_r9]
    have hleft : (256 / w * (2 ^ w - 1) - sumTo (digitsS x w ((256 / w : Nat) : Int)) (256 / w)) * 2 ^ s = left w s x := rfl
    have hlt := left_lt hk x
    have hn2 : (digitsS (bsw 8 2 (left w s x)).reverse w ((p - 256 / w : Nat) : Int)).length = p - 256 / w := by
      rw [digits_map _ w _ f1 (by omega) (by rw [Nat.sub_mul, Nat.mul_comm p w, f5]; simp; omega)]; simp
    rw [br_neg (by omega), br_neg (by omega)]
    simp only [toNat_cast]
    rw [mul_pow _ s 64 (by omega), hleft, u64n _ (by omega), show (2 : Int) = ((2 : Nat) : Int) from rfl, bits_Be _ 2 (by omega) (by omega), hn, i64w (by omega) (by omega), show (p : Int) - ((256 / w : Nat) : Int) = ((p - 256 / w : Nat) : Int) by omega,
      bits_Digits _ _ _ (bsw_in 8 2 _).rev (by simp), hn2, br_pos (by omega)]
    unfold allD
    rw [digits_app hk x _ hl (by simp)]
theorem R14_Digits_kind {w p s : Nat} (hk : Kind w p s) (x : List Int) (hx : In 256 x) (hl : x.length = 32) {ρ : Type} (k : List Int → Int → Option ρ) : P.R14_Digits (w : Int) x k = k (allD w p s x) 0 := by
  obtain ⟨t, ht⟩ := R14_Kind hk
  obtain ⟨f1, f2, f3, f4, f5, f6, f7, f8, f9, f10, f11⟩ := kind_facts hk
  rw [P.R14_Digits_eq]
  unfold P.R14_Digits_raw
  have hn : (digitsS x w ((256 / w : Nat) : Int)).length = 256 / w := by
    rw [digits_map x w _ f1 (by omega) (by omega)]; simp
  rw [ht, kind_pos hk, br_ff, br_bne_neg (by omega), br_neg (by omega), tdiv_w hk, R01_Digits _ _ _ hx (by omega), P.R14_Digits_l9_eq]
  unfold P.R14_Digits_L9
  refine lp_go (fun i => ((w : Int), x, (p : Int), (s : Int), ((i * (2 ^ w - 1) - sumTo (digitsS x w ((256 / w : Nat) : Int)) i : Nat) : Int), (i : Int), digitsS x w ((256 / w : Nat) : Int))) (256 / w) (by simp [sumTo]) (fun i hi next hn' => ?_) (fun next => ?_) (by omega)
  · obtain ⟨d, hd, hd2⟩ := num_at' (w := w) (digits_in x w ((256 / w : Nat) : Int)) i
    have hle := sum_le hk x i
    have hle2 : (i + 1) * (2 ^ w - 1) ≤ 256 / w * (2 ^ w - 1) := Nat.mul_le_mul hi (Nat.le_refl _)
    have hs : (i + 1) * (2 ^ w - 1) = i * (2 ^ w - 1) + (2 ^ w - 1) := Nat.succ_mul i _
    simp only [sumTo, hd, Int.toNat_natCast] at hn'
    simp only [P.R14_Digits_r9, toNat_cast]
    rw [mask64 w (by omega), hd, u64n d (by omega), ← Int.natCast_add, u64n _ (by omega), show ((i * (2 ^ w - 1) - sumTo (digitsS x w ((256 / w : Nat) : Int)) i + (2 ^ w - 1) : Nat) : Int) - (d : Int) = (((i + 1) * (2 ^ w - 1) - (sumTo (digitsS x w ((256 / w : Nat) : Int)) i + d) : Nat) : Int) by omega, u64n _ (by omega)]
    simp (disch := omega) only [br_pos, br_neg, br_bne_pos, br_bne_neg, br_beq_pos, br_beq_neg, br_not, br_tt, br_ff, i64w, hn]
    exact hn'
  · simp only [P.R14_Digits_r9]
    have hleft : (256 / w * (2 ^ w - 1) - sumTo (digitsS x w ((256 / w : Nat) : Int)) (256 / w)) * 2 ^ s = left w s x := rfl
    have hlt := left_lt hk x
    have hf : [x, (bsw 8 2 (left w s x)).reverse].flatten = x ++ (bsw 8 2 (left w s x)).reverse := by simp
    rw [br_neg (by rw [hn]; omega), br_neg (by omega)]
    simp only [toNat_cast]
    rw [mul_pow _ s 64 (by omega), hleft, u64n _ (by omega), show (2 : Int) = ((2 : Nat) : Int) from rfl, R01_Be _ 2 (by omega) (by omega), R01_Join _ (by simp) (by rw [hf]; simp; omega), hf, R01_Digits _ _ _ (hx.app (bsw_in 8 2 _).rev) (by simp; omega)]
    rfl
theorem lmots_Digits_len {w p s : Nat} (hk : Kind w p s) (x : List Int) (hl : x.length ≠ 32) {ρ : Type} (k : List Int → Int → Option ρ) : P.lmots_Digits (w : Int) x k = k [] 14 := by
  obtain ⟨t, ht⟩ := lmots_known hk
  rw [P.lmots_Digits_eq]; unfold P.lmots_Digits_raw
  rw [ht, br_not, br_tt, br_bne_pos (by omega)]
theorem R14_Digits_len {w p s : Nat} (hk : Kind w p s) (x : List Int) (hl : x.length ≠ 32) {ρ : Type} (k : List Int → Int → Option ρ) : P.R14_Digits (w : Int) x k = k [] 14 := by
  obtain ⟨t, ht⟩ := R14_Kind hk
  rw [P.R14_Digits_eq]; unfold P.R14_Digits_raw
  rw [ht, kind_pos hk, br_ff, br_bne_pos (by omega)]
theorem lmots_Digits_no {w : Int} (h : w ≠ 1 ∧ w ≠ 2 ∧ w ≠ 4 ∧ w ≠ 8) (x : List Int) {ρ : Type} (k : List Int → Int → Option ρ) : P.lmots_Digits w x k = k [] 9 := by
  rw [P.lmots_Digits_eq]; unfold P.lmots_Digits_raw
  rw [lmots_known_no h, br_not, br_ff]
theorem R14_Digits_no {w : Int} (h : w ≠ 1 ∧ w ≠ 2 ∧ w ≠ 4 ∧ w ≠ 8) (x : List Int) {ρ : Type} (k : List Int → Int → Option ρ) : P.R14_Digits w x k = k [] 9 := by
  rw [P.R14_Digits_eq]; unfold P.R14_Digits_raw
  rw [R14_Kind_no h]; kernel_rfl
theorem lmots_Size {w p s : Nat} (hk : Kind w p s) {ρ : Type} (k : Int → Option ρ) : P.lmots_Size (w : Int) k = k ((36 + 32 * p : Nat) : Int) := by
  obtain ⟨t, ht⟩ := lmots_known hk
  obtain ⟨f1, f2, f3, f4, f5, f6, f7, f8, f9, f10, f11⟩ := kind_facts hk
  rw [P.lmots_Size_eq]; unfold P.lmots_Size_raw
  rw [ht, br_not, br_tt, i64w (x := (32 : Int) * (p : Int)) (by omega) (by omega), i64w (by omega) (by omega)]; rfl
theorem R14_Size {w p s : Nat} (hk : Kind w p s) {ρ : Type} (k : Int → Option ρ) : P.R14_Size (w : Int) k = k ((36 + 32 * p : Nat) : Int) := by
  obtain ⟨t, ht⟩ := R14_Kind hk
  obtain ⟨f1, f2, f3, f4, f5, f6, f7, f8, f9, f10, f11⟩ := kind_facts hk
  rw [P.R14_Size_eq]; unfold P.R14_Size_raw
  rw [ht, kind_pos hk, br_ff, i64w (x := (32 : Int) * (p : Int)) (by omega) (by omega), i64w (by omega) (by omega)]; rfl
theorem lmots_Size_no {w : Int} (h : w ≠ 1 ∧ w ≠ 2 ∧ w ≠ 4 ∧ w ≠ 8) {ρ : Type} (k : Int → Option ρ) : P.lmots_Size w k = k 0 := by
  rw [P.lmots_Size_eq]; unfold P.lmots_Size_raw
  rw [lmots_known_no h, br_not, br_ff]
theorem R14_Size_no {w : Int} (h : w ≠ 1 ∧ w ≠ 2 ∧ w ≠ 4 ∧ w ≠ 8) {ρ : Type} (k : Int → Option ρ) : P.R14_Size w k = k 0 := by
  rw [P.R14_Size_eq]; unfold P.R14_Size_raw
  rw [R14_Kind_no h]; kernel_rfl
theorem allD_len {w p s : Nat} (hk : Kind w p s) (x : List Int) (hl : x.length = 32) : (allD w p s x).length = p := by
  obtain ⟨f1, f2, f3, f4, f5, f6, f7, f8, f9, f10, f11⟩ := kind_facts hk
  unfold allD
  rw [digits_map _ w p f1 (by omega) (by rw [Nat.mul_comm, f5]; simp; omega)]; simp
theorem L14_few (l : List (List Int)) (hl : l.length ≤ 100) {ρ : Type} (k : Bool → Option ρ) : (P.L14_few l k = k true ∧ ∀ i, i < l.length → (l.getD i []).length ≤ 300) ∨ P.L14_few l k = k false := by
  rw [P.L14_few_eq]
  unfold P.L14_few_raw
  rw [P.L14_few_l2_eq]
  unfold P.L14_few_L2
  by_cases h : ∀ i, i < l.length → (l.getD i []).length ≤ 300
  · refine .inl ⟨lp_go (fun i => (l, (l.length : Int), (i : Int))) l.length rfl (fun i hi next hn' => ?_) (fun next => ?_) (by omega), h⟩
    · have := h i hi
      simp only [P.L14_few_r2, toNat_cast, Sum.elim_inl, Sum.elim_inr]
      simp (disch := omega) only [br_pos, br_neg, br_bne_pos, br_bne_neg, br_beq_pos, br_beq_neg, br_not, br_tt, br_ff, i64w]
      exact hn'
    · simp only [P.L14_few_r2, toNat_cast, Sum.elim_inl, Sum.elim_inr]
      rw [br_neg (by omega)]
  · refine .inr (lp_eq (P := fun x => ∃ j : Nat, x = (l, (l.length : Int), (j : Int)) ∧ ∃ i, j ≤ i ∧ i < l.length ∧ ¬ (l.getD i []).length ≤ 300) (μ := fun x => ((l.length : Int) - x.2.2).toNat) ?_ ⟨0, rfl, ?_⟩ (by simp only; omega))
    · rintro _ ⟨j, rfl, i, hji, hi, hb⟩ next hn
      simp only [P.L14_few_r2, toNat_cast, Sum.elim_inl, Sum.elim_inr]
      by_cases hj : ((l.getD j []).length : Int) > 300
      · simp (disch := omega) only [br_pos, br_neg, br_bne_pos, br_bne_neg, br_beq_pos, br_beq_neg, br_not, br_tt, br_ff, i64w]
      · simp (disch := omega) only [br_pos, br_neg, br_bne_pos, br_bne_neg, br_beq_pos, br_beq_neg, br_not, br_tt, br_ff, i64w]
        exact hn _ ⟨j + 1, rfl, i, by by_cases e : j = i <;> (try subst e) <;> omega, hi, hb⟩ (by simp only; omega)
    · have : ∃ i, ¬ (i < l.length → (l.getD i []).length ≤ 300) := Classical.not_forall.1 h
      obtain ⟨i, hi⟩ := this
      exact ⟨i, Nat.zero_le _, by by_cases e : i < l.length <;> simp_all, fun e => hi (fun _ => e)⟩
theorem L14_awake {ρ : Type} (k : Bool → Option ρ) : P.L14_awake k = k true := by
  rw [P.L14_awake_eq]
  unfold P.L14_awake_raw
  rw [P.L14_awake_l3_eq]
  unfold P.L14_awake_L3
  refine lp_go (fun i => ((32 : Int), (i : Int), List.replicate i (255 : Int) ++ List.replicate (32 - i) 0)) 32 rfl (fun i hi next hn' => ?_) (fun next => ?_) (by omega)
  · simp only [P.L14_awake_r3, toNat_cast, List.length_append, List.length_replicate]
    simp (disch := omega) only [br_pos, br_neg, br_bne_pos, br_bne_neg, br_beq_pos, br_beq_neg, br_not, br_tt, br_ff, i64w]
    rw [List.set_append_right _ _ (by simp), List.length_replicate, Nat.sub_self, show 32 - i = (32 - (i + 1)) + 1 by omega, List.replicate_succ, List.set_cons_zero]
    rw [show i + 1 = i + 1 from rfl, List.replicate_succ', List.append_assoc, List.singleton_append] at hn'
    exact hn'
  · simp only [P.L14_awake_r3]
    have hk8 : Kind 8 34 0 := by simp [Kind]
    have hk4 : Kind 4 67 4 := by simp [Kind]
    have hin : In 256 (List.replicate 32 (255 : Int) ++ List.replicate (32 - 32) 0) := by
      intro y hy
      simp at hy
      omega
    have e : allD 8 34 0 (List.replicate 32 (255 : Int) ++ List.replicate (32 - 32) 0) = List.replicate 32 (255 : Int) ++ [0, 0] := by decide +kernel
    rw [br_neg (by omega), show (8 : Int) = ((8 : Nat) : Int) from rfl, lmots_Digits_kind hk8 _ hin (by simp), lmots_Digits_no (by omega), show (4 : Int) = ((4 : Nat) : Int) from rfl, lmots_Size hk4, e]
    refine Eq.trans (b := k true) ?_ rfl
    kernel_rfl
end Q
end

section
/- lmots: sums of a leaf. -/
namespace Q
open Go Go.Abs
set_option linter.unusedVariables false
set_option linter.unusedSimpArgs false
def beN (n s : Nat) : List Int := (bsw 8 s n).reverse
theorem beN_len (n s : Nat) : (beN n s).length = s := by simp [beN]
theorem beN_in (n s : Nat) : In 256 (beN n s) := (bsw_in 8 s n).rev
def lsum (id : List Int) (q n : Nat) (l : List (List Int)) : List Int := sumS 1 ((id ++ (beN q 4 ++ beN n 2)) ++ l.flatten)
theorem lsum_len (id : List Int) (q n : Nat) (l : List (List Int)) : (lsum id q n l).length = 32 := by
  unfold lsum; rw [sumS_len, if_pos rfl]
theorem lsum_in (id : List Int) (q n : Nat) (l : List (List Int)) : In 256 (lsum id q n l) := sumS_in _ _
theorem add_size (a b : Nat) (h : a + b ≤ 1000000) : IntKind.u64.wrap (((a : Nat) : Int) + IntKind.u64.wrap ((b : Nat) : Int)) = ((a + b : Nat) : Int) := by
  rw [u64n _ (by omega), ← Int.natCast_add, u64n _ (by omega)]
theorem leaf_sum (w : Int) (id : List Int) (q n : Nat) (d s c : Int) (l : List (List Int)) (hid : In 256 id) (h16 : id.length ≤ 300) (hq : q < 4294967296) (hn : n < 18446744073709551616) (hl : In 256 l.flatten) (hc : l.length ≤ 1000000) (hb : l.flatten.length ≤ 900000) {ρ : Type} (k : List Int → Option ρ) :
    P.lmots_leaf_sum w id (q : Int) d s c (n : Int) l k = k (lsum id q n l) := by
  rw [P.lmots_leaf_sum_eq]; unfold P.lmots_leaf_sum_raw
  have hw := newW_ok 1
  have hf : [id, (bsw 8 4 q).reverse, (bsw 8 2 n).reverse].flatten = id ++ (beN q 4 ++ beN n 2) := by simp [beN]
  have hlen : (id ++ (beN q 4 ++ beN n 2)).length = id.length + 6 := by simp [beN_len]
  have hin : In 256 (id ++ (beN q 4 ++ beN n 2)) := hid.app ((beN_in _ _).app (beN_in _ _))
  have hr := rest_len 64 (by omega) (id ++ (beN q 4 ++ beN n 2))
  have hr2 := rest_len 64 (by omega) (rest 64 (id ++ (beN q 4 ++ beN n 2)) ++ l.flatten)
  have hlt := Nat.mod_lt (rest 64 (id ++ (beN q 4 ++ beN n 2)) ++ l.flatten).length (show 0 < 64 by omega)
  rw [sha_New (.inl rfl), u64n _ (by omega), show (4 : Int) = ((4 : Nat) : Int) from rfl, bits_Be q 4 (by omega) (by omega), show (2 : Int) = ((2 : Nat) : Int) from rfl, bits_Be n 2 hn (by omega), bits_Join _ (by simp) (by rw [hf]; omega), hf,
    sha_Add 1 _ [] _ _ hw.1 hw.2.1 In.nil hin (by rw [hlen, List.length_nil]; omega), List.nil_append, size_add _ (by omega), show bsz 1 = 64 from rfl, bits_Join l (by omega) (by omega),
    sha_Add 1 _ _ _ _ (addW_len _ _ _) (addW_ok _ _ _).2.1 (rest_in hin) hl (by omega), show bsz 1 = 64 from rfl, add_size _ _ (by omega), sha_End 1 _ _ _ (addW_len _ _ _) (addW_ok _ _ _).2.1 (rest_in ((rest_in hin).app hl)) (by rw [hr2]; exact hlt),
    sum_two _ _ _ (by simp only [List.length_append])]
  rfl
theorem H14 (l : List (List Int)) (hl : In 256 l.flatten) (hc : l.length ≤ 1000000) (hb : l.flatten.length ≤ 1000000) {ρ : Type} (k : List Int → Option ρ) : P.R14_H l k = k (sumS 1 l.flatten) := by
  rw [P.R14_H_eq]; unfold P.R14_H_raw
  rw [R01_Join l (by omega) (by omega), R07_Sum (.inl rfl) _ hl hb]
theorem H14_leaf (id : List Int) (q n : Nat) (l : List (List Int)) (hid : In 256 id) (h16 : id.length ≤ 300) (hl : In 256 l.flatten) (hc : l.length ≤ 900000) (hb : l.flatten.length ≤ 900000) {ρ : Type} (k : List Int → Option ρ) :
    P.R14_H (id :: (bsw 8 4 q).reverse :: (bsw 8 2 n).reverse :: l) k = k (lsum id q n l) := by
  have hf : (id :: (bsw 8 4 q).reverse :: (bsw 8 2 n).reverse :: l).flatten = (id ++ (beN q 4 ++ beN n 2)) ++ l.flatten := by simp [beN]
  have hlen : (id ++ (beN q 4 ++ beN n 2)).length = id.length + 6 := by simp [beN_len]
  rw [H14 _ (by rw [hf]; exact (hid.app ((beN_in _ _).app (beN_in _ _))).app hl) (by simp only [List.length_cons]; omega) (by rw [hf, List.length_append, hlen]; omega), hf]
  rfl
def chS (id : List Int) (q i f : Nat) (y : List Int) : Nat → List Int
  | 0 => y
  | j + 1 => lsum id q i [[((f + j : Nat) : Int)], chS id q i f y j]
theorem chS_len (id : List Int) (q i f : Nat) (y : List Int) (hy : y.length = 32) : ∀ j, (chS id q i f y j).length = 32
  | 0 => hy
  | j + 1 => lsum_len _ _ _ _
theorem chS_in (id : List Int) (q i f : Nat) (y : List Int) (hy : In 256 y) : ∀ j, In 256 (chS id q i f y j)
  | 0 => hy
  | j + 1 => lsum_in _ _ _ _
theorem chS_two (id : List Int) (q i f : Nat) (y : List Int) (m : Nat) : ∀ n, chS id q i f y (m + n) = chS id q i (f + m) (chS id q i f y m) n
  | 0 => rfl
  | n + 1 => by
    rw [← Nat.add_assoc]
    simp only [chS]
    rw [chS_two id q i f y m n, Nat.add_assoc]
def partS14 (id : List Int) (q i : Nat) (seed : List Int) : List Int := lsum id q i [[255], seed]
theorem partS14_in (id : List Int) (q i : Nat) (seed : List Int) : In 256 (partS14 id q i seed) := lsum_in _ _ _ _
theorem partS14_len (id : List Int) (q i : Nat) (seed : List Int) : (partS14 id q i seed).length = 32 := lsum_len _ _ _ _
theorem two_in {b : Int} {y : List Int} (hb : 0 ≤ b ∧ b < 256) (hy : In 256 y) : In 256 [[b], y].flatten := by
  have e : [[b], y].flatten = [b] ++ y := by simp
  rw [e]
  refine In.app ?_ hy
  intro x hx
  simp only [List.mem_singleton] at hx
  subst hx; exact hb
theorem two_len (b : Int) (y : List Int) : [[b], y].flatten.length = y.length + 1 := by simp
theorem leaf_part (w : Int) (id : List Int) (q i : Nat) (d s c : Int) (seed : List Int) (hid : In 256 id) (h16 : id.length ≤ 300) (hq : q < 4294967296) (hi : i < 18446744073709551616) (hs : In 256 seed) (hsl : seed.length ≤ 300) {ρ : Type} (k : List Int → Option ρ) :
    P.lmots_leaf_part w id (q : Int) d s c (i : Int) seed k = k (partS14 id q i seed) := by
  rw [P.lmots_leaf_part_eq]; unfold P.lmots_leaf_part_raw
  rw [leaf_sum w id q i d s c _ hid h16 hq hi (two_in (by omega) hs) (by simp) (by rw [two_len]; omega)]
  rfl
theorem leaf_along (w : Int) (id : List Int) (q i f n : Nat) (d s c : Int) (y : List Int) (hid : In 256 id) (h16 : id.length ≤ 300) (hq : q < 4294967296) (hi : i < 100000) (hf : f + n ≤ 256) (hy : In 256 y) (hyl : y.length = 32) {ρ : Type} (k : List Int → Option ρ) :
    P.lmots_leaf_along w id (q : Int) d s c (i : Int) (f : Int) (n : Int) y k = k (chS id q i f y n) := by
  rw [P.lmots_leaf_along_eq]; unfold P.lmots_leaf_along_raw
  rw [P.lmots_leaf_along_l2_eq]
  unfold P.lmots_leaf_along_L2
  refine lp_go (fun j => ((i : Int), (f : Int), chS id q i f y j, (n : Int), (j : Int), w, id, (q : Int), d, s, c)) n rfl (fun j hj next hn' => ?_) (fun next => ?_) (by omega)
  · simp only [P.lmots_leaf_along_r2]
    have e1 : IntKind.u8.wrap (IntKind.u32.wrap ((f : Int) + (j : Int))) = ((f + j : Nat) : Int) := by
      rw [← Int.natCast_add, u32n _ (by omega), u8n _ (by omega)]
    have e2 : IntKind.u32.wrap ((j : Int) + 1) = ((j + 1 : Nat) : Int) := by rw [show ((j : Int) + 1) = ((j + 1 : Nat) : Int) by omega, u32n _ (by omega)]
    have hl := chS_len id q i f y hyl j
    rw [br_pos (by omega), u64n _ (by omega), e1, e2, leaf_sum w id q i d s c _ hid h16 hq (by omega) (two_in (by omega) (chS_in _ _ _ _ _ hy _)) (by simp) (by rw [two_len]; omega)]
    exact hn'
  · simp only [P.lmots_leaf_along_r2]
    rw [br_neg (by omega)]
theorem part14 (id : List Int) (q i : Nat) (seed : List Int) (hid : In 256 id) (h16 : id.length ≤ 300) (hq : q < 4294967296) (hi : i < 18446744073709551616) (hs : In 256 seed) (hsl : seed.length ≤ 300) {ρ : Type} (k : List Int → Option ρ) :
    P.R14_part id (q : Int) (i : Int) seed k = k (partS14 id q i seed) := by
  rw [P.R14_part_eq]; unfold P.R14_part_raw
  rw [u64n _ (by omega), u64n _ (by omega), show (4 : Int) = ((4 : Nat) : Int) from rfl, R01_Be q 4 (by omega) (by omega), show (2 : Int) = ((2 : Nat) : Int) from rfl, R01_Be i 2 hi (by omega), H14_leaf id q i [[255], seed] hid h16 (two_in (by omega) hs) (by simp) (by rw [two_len]; omega)]
  rfl
theorem chain14 (id : List Int) (q i f t : Nat) (y : List Int) (hid : In 256 id) (h16 : id.length ≤ 300) (hq : q < 4294967296) (hi : i < 100000) (hft : f ≤ t) (ht : t ≤ 256) (hy : In 256 y) (hyl : y.length = 32) {ρ : Type} (k : List Int → Option ρ) :
    P.R14_chain id (q : Int) (i : Int) (f : Int) (t : Int) y k = k (chS id q i f y (t - f)) := by
  rw [P.R14_chain_eq]; unfold P.R14_chain_raw
  rw [P.R14_chain_l2_eq]
  unfold P.R14_chain_L2
  refine lp_go (fun j => (id, (q : Int), (i : Int), (t : Int), chS id q i f y j, ((f + j : Nat) : Int))) (t - f) rfl (fun j hj next hn' => ?_) (fun next => ?_) (by omega)
  · simp only [P.R14_chain_r2]
    have e1 : IntKind.u8.wrap ((f + j : Nat) : Int) = ((f + j : Nat) : Int) := u8n _ (by omega)
    have e2 : IntKind.i64.wrap (((f + j : Nat) : Int) + 1) = ((f + (j + 1) : Nat) : Int) := by rw [i64w (by omega) (by omega)]; omega
    have hl := chS_len id q i f y hyl j
    rw [br_pos (by omega), u64n _ (by omega), u64n _ (by omega), e1, e2, show (4 : Int) = ((4 : Nat) : Int) from rfl, R01_Be q 4 (by omega) (by omega), show (2 : Int) = ((2 : Nat) : Int) from rfl, R01_Be i 2 (by omega) (by omega), H14_leaf id q i [[((f + j : Nat) : Int)], chS id q i f y j] hid h16 (two_in (by omega) (chS_in _ _ _ _ _ hy _)) (by simp) (by rw [two_len]; omega)]
    exact hn'
  · simp only [P.R14_chain_r2]
    rw [br_neg (by omega)]
end Q
end

section
/- lmots: keys, signatures, and what these lead to. -/
namespace Q
open Go Go.Abs
set_option linter.unusedVariables false
set_option linter.unusedSimpArgs false
def codeW (w : Nat) : Nat := if w = 1 then 1 else if w = 2 then 2 else if w = 4 then 3 else 4
theorem known_c {w p s : Nat} (h : Kind w p s) {ρ : Type} (k : Int → Int → Int → Bool → Option ρ) : P.lmots_known (w : Int) k = k (p : Int) (s : Int) ((codeW w : Nat) : Int) true := by
  rw [P.lmots_known_eq]
  rcases h with ⟨rfl, rfl, rfl⟩ | ⟨rfl, rfl, rfl⟩ | ⟨rfl, rfl, rfl⟩ | ⟨rfl, rfl, rfl⟩ <;> kernel_rfl
theorem Kind_c {w p s : Nat} (h : Kind w p s) {ρ : Type} (k : Int → Int → Int → Option ρ) : P.R14_Kind (w : Int) k = k (p : Int) (s : Int) ((codeW w : Nat) : Int) := by
  rw [P.R14_Kind_eq]
  rcases h with ⟨rfl, rfl, rfl⟩ | ⟨rfl, rfl, rfl⟩ | ⟨rfl, rfl, rfl⟩ | ⟨rfl, rfl, rfl⟩ <;> kernel_rfl
theorem codeW_lt (w : Nat) : codeW w < 5 := by unfold codeW; split <;> (try split) <;> (try split) <;> omega
theorem began_ok {w p s : Nat} (h : Kind w p s) (id : List Int) (q : Int) (hl : id.length = 16) {ρ : Type} (k : Int → List Int → Int → Int → Int → Int → Int → Option ρ) : P.lmots_began (w : Int) id q k = k (w : Int) id q (p : Int) (s : Int) ((codeW w : Nat) : Int) 0 := by
  rw [P.lmots_began_eq]; unfold P.lmots_began_raw
  rw [known_c h, br_not, br_tt, br_bne_neg (by rw [hl]; rfl)]
theorem began_len {w p s : Nat} (h : Kind w p s) (id : List Int) (q : Int) (hl : id.length ≠ 16) {ρ : Type} (k : Int → List Int → Int → Int → Int → Int → Int → Option ρ) : P.lmots_began (w : Int) id q k = k 0 [] 0 0 0 0 14 := by
  rw [P.lmots_began_eq]; unfold P.lmots_began_raw
  rw [known_c h, br_not, br_tt, br_bne_pos (by omega)]
theorem began_no {w : Int} (h : w ≠ 1 ∧ w ≠ 2 ∧ w ≠ 4 ∧ w ≠ 8) (id : List Int) (q : Int) {ρ : Type} (k : Int → List Int → Int → Int → Int → Int → Int → Option ρ) : P.lmots_began w id q k = k 0 [] 0 0 0 0 9 := by
  rw [P.lmots_began_eq]; unfold P.lmots_began_raw
  rw [lmots_known_no h, br_not, br_ff]
theorem seeded_ok {w p s : Nat} (h : Kind w p s) (id : List Int) (q : Int) (seed : List Int) (hl : id.length = 16) (hs : seed.length = 32) {ρ : Type} (k : Int → List Int → Int → Int → Int → Int → Int → Option ρ) : P.lmots_seeded (w : Int) id q seed k = k (w : Int) id q (p : Int) (s : Int) ((codeW w : Nat) : Int) 0 := by
  rw [P.lmots_seeded_eq]; unfold P.lmots_seeded_raw
  rw [began_ok h id q hl, br_beq_pos (by rfl), br_bne_neg (by rw [hs]; rfl)]
theorem seeded_len {w p s : Nat} (h : Kind w p s) (id : List Int) (q : Int) (seed : List Int) (hl : ¬ (id.length = 16 ∧ seed.length = 32)) {ρ : Type} (k : Int → List Int → Int → Int → Int → Int → Int → Option ρ) : P.lmots_seeded (w : Int) id q seed k = k 0 [] 0 0 0 0 14 := by
  rw [P.lmots_seeded_eq]; unfold P.lmots_seeded_raw
  by_cases h1 : id.length = 16
  · rw [began_ok h id q h1, br_beq_pos (by rfl), br_bne_pos (by omega)]
  · rw [began_len h id q h1, br_beq_neg (by decide)]
theorem seeded_no {w : Int} (h : w ≠ 1 ∧ w ≠ 2 ∧ w ≠ 4 ∧ w ≠ 8) (id : List Int) (q : Int) (seed : List Int) {ρ : Type} (k : Int → List Int → Int → Int → Int → Int → Int → Option ρ) : P.lmots_seeded w id q seed k = k 0 [] 0 0 0 0 9 := by
  rw [P.lmots_seeded_eq]; unfold P.lmots_seeded_raw
  rw [began_no h id q, br_beq_neg (by decide)]
theorem wrong_ok {w p s : Nat} (h : Kind w p s) (id seed : List Int) (hl : id.length = 16) (hs : seed.length = 32) {ρ : Type} (k : Int → Option ρ) : P.R14_wrong (w : Int) id seed k = k 0 := by
  rw [P.R14_wrong_eq]; unfold P.R14_wrong_raw
  rw [Kind_c h, kind_pos h, br_ff, br_bne_neg (by rw [hl]; rfl), br_bne_neg (by rw [hs]; rfl)]
theorem wrong_len {w p s : Nat} (h : Kind w p s) (id seed : List Int) (hl : ¬ (id.length = 16 ∧ seed.length = 32)) {ρ : Type} (k : Int → Option ρ) : P.R14_wrong (w : Int) id seed k = k 14 := by
  rw [P.R14_wrong_eq]; unfold P.R14_wrong_raw
  rw [Kind_c h, kind_pos h, br_ff]
  by_cases h1 : id.length = 16
  · rw [br_bne_neg (by rw [h1]; rfl), br_bne_pos (by omega)]
  · rw [br_bne_pos (by omega)]
theorem wrong_no {w : Int} (h : w ≠ 1 ∧ w ≠ 2 ∧ w ≠ 4 ∧ w ≠ 8) (id seed : List Int) {ρ : Type} (k : Int → Option ρ) : P.R14_wrong w id seed k = k 9 := by
  rw [P.R14_wrong_eq]; unfold P.R14_wrong_raw
  rw [R14_Kind_no h, br_beq_pos (by rfl)]
theorem steps_ok {w p s : Nat} (h : Kind w p s) (id : List Int) (q a b c : Int) {ρ : Type} (k : Int → Option ρ) : P.lmots_leaf_steps (w : Int) id q a b c k = k ((2 ^ w - 1 : Nat) : Int) := by
  rw [P.lmots_leaf_steps_eq]
  rcases h with ⟨rfl, rfl, rfl⟩ | ⟨rfl, rfl, rfl⟩ | ⟨rfl, rfl, rfl⟩ | ⟨rfl, rfl, rfl⟩ <;> kernel_rfl
theorem mask_i64 {w p s : Nat} (h : Kind w p s) : IntKind.i64.wrap (IntKind.i64.wrap ((1 : Int) * (2 : Int) ^ min ((w : Int)).toNat 64) - (1 : Int)) = ((2 ^ w - 1 : Nat) : Int) := by
  rcases h with ⟨rfl, rfl, rfl⟩ | ⟨rfl, rfl, rfl⟩ | ⟨rfl, rfl, rfl⟩ | ⟨rfl, rfl, rfl⟩ <;> rfl
theorem pw {w p s : Nat} (h : Kind w p s) : 2 ^ w ≤ 256 ∧ 1 ≤ 2 ^ w ∧ p ≤ 265 ∧ 1 ≤ p := by
  rcases h with ⟨rfl, rfl, rfl⟩ | ⟨rfl, rfl, rfl⟩ | ⟨rfl, rfl, rfl⟩ | ⟨rfl, rfl, rfl⟩ <;> decide
def endsP (f : Nat → List Int) (n : Nat) : List Int := ((List.range n).map f).flatten
theorem endsP_succ (f : Nat → List Int) (n : Nat) : endsP f (n + 1) = endsP f n ++ f n := by simp [endsP, List.range_succ]
theorem endsP_len (f : Nat → List Int) (h : ∀ i, (f i).length = 32) : ∀ n, (endsP f n).length = 32 * n
  | 0 => by simp [endsP]
  | n + 1 => by rw [endsP_succ, List.length_append, endsP_len f h n, h]; omega
theorem endsP_in (f : Nat → List Int) (h : ∀ i, In 256 (f i)) : ∀ n, In 256 (endsP f n)
  | 0 => by simp [endsP, In]
  | n + 1 => by rw [endsP_succ]; exact (endsP_in f h n).app (h n)
theorem endsP_congr (f g : Nat → List Int) : ∀ n, (∀ i, i < n → f i = g i) → endsP f n = endsP g n
  | 0, _ => rfl
  | n + 1, h => by rw [endsP_succ, endsP_succ, endsP_congr f g n (fun i hi => h i (by omega)), h n (by omega)]
theorem endsP_piece (f : Nat → List Int) (h : ∀ i, (f i).length = 32) : ∀ n i, i < n → ((endsP f n).drop (32 * i)).take 32 = f i
  | 0, i, hi => by omega
  | n + 1, i, hi => by
    rw [endsP_succ]
    have hl := endsP_len f h n
    by_cases e : i = n
    · subst e
      rw [List.drop_append, List.drop_eq_nil_of_le (by omega), List.nil_append, hl, Nat.sub_self, List.drop_zero, List.take_of_length_le (by rw [h]; omega)]
    · rw [List.drop_append_of_le_length (by omega), List.take_append_of_le_length (by rw [List.length_drop]; omega), endsP_piece f h n i (by omega)]
theorem key14 (id : List Int) (q : Nat) (l : List (List Int)) (hid : In 256 id) (h16 : id.length ≤ 300) (hq : q < 4294967296) (hl : In 256 l.flatten) (hc : l.length ≤ 1000) (hb : l.flatten.length ≤ 100000) {ρ : Type} (k : List Int → Option ρ) :
    P.R14_key id (q : Int) l k = k (lsum id q 32896 [l.flatten]) := by
  rw [P.R14_key_eq]; unfold P.R14_key_raw
  have hf : [l.flatten].flatten = l.flatten := by simp
  rw [u64n _ (by omega), show (4 : Int) = ((4 : Nat) : Int) from rfl, R01_Be q 4 (by omega) (by omega), show (2 : Int) = ((2 : Nat) : Int) from rfl, show (32896 : Int) = ((32896 : Nat) : Int) from rfl, R01_Be 32896 2 (by omega) (by omega), R01_Join l (by omega) (by omega), H14_leaf id q 32896 [l.flatten] hid h16 (by rw [hf]; exact hl) (by simp) (by rw [hf]; omega)]
def ownEnd (w : Nat) (id : List Int) (q : Nat) (seed : List Int) (i : Nat) : List Int := chS id q i 0 (partS14 id q i seed) (2 ^ w - 1)
theorem ownEnd_len (w : Nat) (id : List Int) (q : Nat) (seed : List Int) (i : Nat) : (ownEnd w id q seed i).length = 32 := chS_len _ _ _ _ _ (lsum_len _ _ _ _) _
theorem ownEnd_in (w : Nat) (id : List Int) (q : Nat) (seed : List Int) (i : Nat) : In 256 (ownEnd w id q seed i) := chS_in _ _ _ _ _ (lsum_in _ _ _ _) _
def pubS (w p : Nat) (id : List Int) (q : Nat) (seed : List Int) : List Int := lsum id q 32896 [endsP (ownEnd w id q seed) p]
theorem one_flat (x : List Int) : [x].flatten = x := by simp
theorem Public_ok {w p s : Nat} (h : Kind w p s) (id : List Int) (q : Nat) (seed : List Int) (hid : In 256 id) (hq : q < 4294967296) (hsd : In 256 seed) (hl : id.length = 16) (hs : seed.length = 32) {ρ : Type} (k : List Int → Int → Option ρ) :
    P.lmots_Public (w : Int) id (q : Int) seed k = k (pubS w p id q seed) 0 := by
  rw [P.lmots_Public_eq]; unfold P.lmots_Public_raw
  obtain ⟨f1, f2, f3, f4⟩ := pw h
  have hel := endsP_len _ (ownEnd_len w id q seed)
  rw [seeded_ok h id q seed hl hs, br_bne_neg (by rfl), P.lmots_Public_l6_eq]
  unfold P.lmots_Public_L6
  refine lp_go (fun i => (seed, (p : Int), (i : Int), endsP (ownEnd w id q seed) i, (w : Int), id, (q : Int), (p : Int), (s : Int), ((codeW w : Nat) : Int))) p rfl (fun i hi next hn' => ?_) (fun next => ?_) (by omega)
  · simp only [P.lmots_Public_r6]
    rw [endsP_succ] at hn'
    have e3 : IntKind.i64.wrap ((i : Int) + 1) = ((i + 1 : Nat) : Int) := by rw [i64w (by omega) (by omega)]; omega
    have hpl : (partS14 id q i seed).length = 32 := lsum_len _ _ _ _
    have := ownEnd_len w id q seed i
    rw [br_pos (by omega), steps_ok h, u64n _ (by omega), leaf_part _ id q i _ _ _ seed hid (by omega) hq (by omega) hsd (by omega), show (0 : Int) = ((0 : Nat) : Int) from rfl, leaf_along _ id q i 0 (2 ^ w - 1) _ _ _ _ hid (by omega) hq (by omega) (by omega) (partS14_in id q i seed) hpl, e3]
    rw [br_pos (by rw [hel]; show (_ + (ownEnd w id q seed i).length) * 1 ≤ _; rw [this]; omega)]
    exact hn'
  · simp only [P.lmots_Public_r6]
    have he := hel p
    rw [br_neg (by omega), show (32896 : Int) = ((32896 : Nat) : Int) from rfl, leaf_sum _ id q 32896 _ _ _ _ hid (by omega) hq (by omega) (by rw [one_flat]; exact endsP_in _ (ownEnd_in w id q seed) p) (by simp) (by rw [one_flat]; omega)]
    rfl
theorem R14_Public_ok {w p s : Nat} (h : Kind w p s) (id : List Int) (q : Nat) (seed : List Int) (hid : In 256 id) (hq : q < 4294967296) (hsd : In 256 seed) (hl : id.length = 16) (hs : seed.length = 32) {ρ : Type} (k : List Int → Int → Option ρ) :
    P.R14_Public (w : Int) id (q : Int) seed k = k (pubS w p id q seed) 0 := by
  rw [P.R14_Public_eq]; unfold P.R14_Public_raw
  obtain ⟨f1, f2, f3, f4⟩ := pw h
  have hel := endsP_len _ (ownEnd_len w id q seed)
  rw [wrong_ok h id seed hl hs, br_bne_neg (by rfl), Kind_c h, P.R14_Public_l7_eq]
  unfold P.R14_Public_L7
  refine lp_go (fun i => ((w : Int), id, (q : Int), seed, (p : Int), (i : Int), (List.range i).map (ownEnd w id q seed))) p rfl (fun i hi next hn' => ?_) (fun next => ?_) (by omega)
  · simp only [P.R14_Public_r7]
    rw [List.range_succ, List.map_append, List.map_singleton] at hn'
    have e3 : IntKind.i64.wrap ((i : Int) + 1) = ((i + 1 : Nat) : Int) := by rw [i64w (by omega) (by omega)]; omega
    have hpl : (partS14 id q i seed).length = 32 := lsum_len _ _ _ _
    rw [br_pos (by omega), br_neg (by omega), part14 id q i seed hid (by omega) hq (by omega) hsd (by omega), mask_i64 h, show (0 : Int) = ((0 : Nat) : Int) from rfl, chain14 id q i 0 (2 ^ w - 1) _ hid (by omega) hq (by omega) (by omega) (by omega) (partS14_in id q i seed) hpl, e3,
      br_pos (by rw [List.length_map, List.length_range]; omega)]
    exact hn'
  · simp only [P.R14_Public_r7]
    have he := hel p
    unfold endsP at he
    rw [br_neg (by omega), key14 id q _ hid (by omega) hq (endsP_in _ (ownEnd_in w id q seed) p) (by rw [List.length_map, List.length_range]; omega) (by omega)]
    rfl
def digD (w p s : Nat) (id : List Int) (q : Nat) (c text : List Int) : List Int := allD w p s (lsum id q 33153 [c, text])
theorem digD_len {w p s : Nat} (h : Kind w p s) (id : List Int) (q : Nat) (c text : List Int) : (digD w p s id q c text).length = p := allD_len h _ (lsum_len _ _ _ _)
theorem digD_at {w p s : Nat} (h : Kind w p s) (id : List Int) (q : Nat) (c text : List Int) (i : Nat) : ∃ d : Nat, (digD w p s id q c text).getD i 0 = (d : Int) ∧ d ≤ 2 ^ w - 1 ∧ ((digD w p s id q c text).getD i 0).toNat = d := by
  have hin : In (2 ^ w) (digD w p s id q c text) := digits_in _ _ _
  obtain ⟨d, h1, h2⟩ := num_at' (w := w) hin i
  exact ⟨d, h1, by omega, by omega⟩
def sigEnd (w p s : Nat) (id : List Int) (q : Nat) (seed text : List Int) (i : Nat) : List Int :=
  chS id q i 0 (partS14 id q i seed) ((digD w p s id q (partS14 id q 65533 seed) text).getD i 0).toNat
theorem sigEnd_len (w p s : Nat) (id : List Int) (q : Nat) (seed text : List Int) (i : Nat) : (sigEnd w p s id q seed text i).length = 32 := chS_len _ _ _ _ _ (lsum_len _ _ _ _) _
theorem sigEnd_in (w p s : Nat) (id : List Int) (q : Nat) (seed text : List Int) (i : Nat) : In 256 (sigEnd w p s id q seed text i) := chS_in _ _ _ _ _ (lsum_in _ _ _ _) _
def sigS (w p s : Nat) (id : List Int) (q : Nat) (seed text : List Int) : List Int := (beN (codeW w) 4 ++ partS14 id q 65533 seed) ++ endsP (sigEnd w p s id q seed text) p
theorem sigS_len (w p s : Nat) (id : List Int) (q : Nat) (seed text : List Int) : (sigS w p s id q seed text).length = 36 + 32 * p := by
  have hc : (partS14 id q 65533 seed).length = 32 := lsum_len _ _ _ _
  unfold sigS
  rw [List.length_append, List.length_append, beN_len, hc, endsP_len _ (sigEnd_len w p s id q seed text)]
theorem sigS_in (w p s : Nat) (id : List Int) (q : Nat) (seed text : List Int) : In 256 (sigS w p s id q seed text) :=
  ((beN_in _ _).app (lsum_in _ _ _ _)).app (endsP_in _ (sigEnd_in w p s id q seed text) p)
theorem ct_in {c text : List Int} (hc : In 256 c) (ht : In 256 text) : In 256 [c, text].flatten := by
  have e : [c, text].flatten = c ++ text := by simp
  rw [e]; exact hc.app ht
theorem ct_len (c text : List Int) : [c, text].flatten.length = c.length + text.length := by simp
theorem digitsOf_ok {w p s : Nat} (h : Kind w p s) (id : List Int) (q : Nat) (a b : Int) (cc : Int) (c text : List Int) (hid : In 256 id) (h16 : id.length = 16) (hq : q < 4294967296) (hc : In 256 c) (hcl : c.length = 32) (ht : In 256 text) (htl : text.length ≤ 300) {ρ : Type} (k : List Int → Option ρ) :
    P.lmots_leaf_digitsOf (w : Int) id (q : Int) a b cc c text k = k (digD w p s id q c text) := by
  rw [P.lmots_leaf_digitsOf_eq]; unfold P.lmots_leaf_digitsOf_raw
  rw [show (33153 : Int) = ((33153 : Nat) : Int) from rfl, leaf_sum _ id q 33153 _ _ _ _ hid (by omega) hq (by omega) (ct_in hc ht) (by simp) (by rw [ct_len]; omega), lmots_Digits_kind h _ (lsum_in _ _ _ _) (lsum_len _ _ _ _)]
  rfl
theorem digest14 (id : List Int) (q : Nat) (c text : List Int) (hid : In 256 id) (h16 : id.length = 16) (hq : q < 4294967296) (hc : In 256 c) (hcl : c.length = 32) (ht : In 256 text) (htl : text.length ≤ 300) {ρ : Type} (k : List Int → Option ρ) :
    P.R14_digest id (q : Int) c text k = k (lsum id q 33153 [c, text]) := by
  rw [P.R14_digest_eq]; unfold P.R14_digest_raw
  rw [u64n _ (by omega), show (4 : Int) = ((4 : Nat) : Int) from rfl, R01_Be q 4 (by omega) (by omega), show (2 : Int) = ((2 : Nat) : Int) from rfl, show (33153 : Int) = ((33153 : Nat) : Int) from rfl, R01_Be 33153 2 (by omega) (by omega), H14_leaf id q 33153 [c, text] hid (by omega) (ct_in hc ht) (by simp) (by rw [ct_len]; omega)]
theorem Sign_ok {w p s : Nat} (h : Kind w p s) (id : List Int) (q : Nat) (seed text : List Int) (hid : In 256 id) (hq : q < 4294967296) (hsd : In 256 seed) (hl : id.length = 16) (hs : seed.length = 32) (ht : In 256 text) (htl : text.length ≤ 300) {ρ : Type} (k : List Int → Int → Option ρ) :
    P.lmots_Sign (w : Int) id (q : Int) seed text k = k (sigS w p s id q seed text) 0 := by
  rw [P.lmots_Sign_eq]; unfold P.lmots_Sign_raw
  obtain ⟨f1, f2, f3, f4⟩ := pw h
  have hel := endsP_len _ (sigEnd_len w p s id q seed text)
  have hcl : (partS14 id q 65533 seed).length = 32 := lsum_len _ _ _ _
  have hcd := codeW_lt w
  have hf : [(bsw 8 4 (codeW w)).reverse, partS14 id q 65533 seed].flatten = beN (codeW w) 4 ++ partS14 id q 65533 seed := by simp [beN]
  have hfl : (beN (codeW w) 4 ++ partS14 id q 65533 seed).length = 36 := by rw [List.length_append, beN_len, hcl]
  have hdl := digD_len h id q (partS14 id q 65533 seed) text
  rw [seeded_ok h id q seed hl hs, br_bne_neg (by rfl), show (65533 : Int) = ((65533 : Nat) : Int) from rfl, leaf_part _ id q 65533 _ _ _ seed hid (by omega) hq (by omega) hsd (by omega), u64n _ (by omega), show (4 : Int) = ((4 : Nat) : Int) from rfl, bits_Be (codeW w) 4 (by omega) (by omega),
    bits_Join _ (by simp) (by rw [hf, hfl]; omega), hf, digitsOf_ok h id q _ _ _ _ text hid hl hq (partS14_in id q 65533 seed) hcl ht htl, hdl, P.lmots_Sign_l7_eq]
  unfold P.lmots_Sign_L7
  refine lp_go (fun i => (seed, (p : Int), (i : Int), (beN (codeW w) 4 ++ partS14 id q 65533 seed) ++ endsP (sigEnd w p s id q seed text) i, (w : Int), id, (q : Int), (p : Int), (s : Int), ((codeW w : Nat) : Int), digD w p s id q (partS14 id q 65533 seed) text)) p (by simp [endsP]) (fun i hi next hn' => ?_) (fun next => ?_) (by omega)
  · simp only [P.lmots_Sign_r7, toNat_cast]
    rw [endsP_succ, ← List.append_assoc] at hn'
    have e3 : IntKind.i64.wrap ((i : Int) + 1) = ((i + 1 : Nat) : Int) := by rw [i64w (by omega) (by omega)]; omega
    have hpl : (partS14 id q i seed).length = 32 := lsum_len _ _ _ _
    obtain ⟨d, d1, d2, d3⟩ := digD_at h id q (partS14 id q 65533 seed) text i
    have hse : sigEnd w p s id q seed text i = chS id q i 0 (partS14 id q i seed) d := by unfold sigEnd; rw [d3]
    have := sigEnd_len w p s id q seed text i
    rw [hse] at hn' this
    rw [br_pos (by omega), br_pos (by omega), br_pos (by rw [hdl]; omega), u64n _ (by omega), leaf_part _ id q i _ _ _ seed hid (by omega) hq (by omega) hsd (by omega), d1, show (0 : Int) = ((0 : Nat) : Int) from rfl, leaf_along _ id q i 0 d _ _ _ _ hid (by omega) hq (by omega) (by omega) (partS14_in id q i seed) hpl, e3]
    rw [br_pos (by rw [List.length_append, hfl, hel, this]; omega)]
    exact hn'
  · simp only [P.lmots_Sign_r7]
    rw [br_neg (by omega)]
    rfl
theorem R14_Sign_ok {w p s : Nat} (h : Kind w p s) (id : List Int) (q : Nat) (seed text : List Int) (hid : In 256 id) (hq : q < 4294967296) (hsd : In 256 seed) (hl : id.length = 16) (hs : seed.length = 32) (ht : In 256 text) (htl : text.length ≤ 300) {ρ : Type} (k : List Int → Int → Option ρ) :
    P.R14_Sign (w : Int) id (q : Int) seed text k = k (sigS w p s id q seed text) 0 := by
  rw [P.R14_Sign_eq]; unfold P.R14_Sign_raw
  obtain ⟨f1, f2, f3, f4⟩ := pw h
  have hel := endsP_len _ (sigEnd_len w p s id q seed text)
  have hcl : (partS14 id q 65533 seed).length = 32 := lsum_len _ _ _ _
  have hcd := codeW_lt w
  have hdl := digD_len h id q (partS14 id q 65533 seed) text
  rw [wrong_ok h id seed hl hs, br_bne_neg (by rfl), Kind_c h, show (65533 : Int) = ((65533 : Nat) : Int) from rfl, part14 id q 65533 seed hid (by omega) hq (by omega) hsd (by omega), digest14 id q _ text hid hl hq (partS14_in id q 65533 seed) hcl ht htl,
    R14_Digits_kind h _ (lsum_in _ _ _ _) (lsum_len _ _ _ _), show (4 : Int) = ((4 : Nat) : Int) from rfl, R01_Be (codeW w) 4 (by omega) (by omega), P.R14_Sign_l9_eq]
  unfold P.R14_Sign_L9
  refine lp_go (fun i => (id, (q : Int), seed, (i : Int), [beN (codeW w) 4, partS14 id q 65533 seed] ++ (List.range i).map (sigEnd w p s id q seed text), digD w p s id q (partS14 id q 65533 seed) text)) p rfl (fun i hi next hn' => ?_) (fun next => ?_) (by omega)
  · simp only [P.R14_Sign_r9, toNat_cast]
    rw [List.range_succ, List.map_append, List.map_singleton, ← List.append_assoc] at hn'
    have e3 : IntKind.i64.wrap ((i : Int) + 1) = ((i + 1 : Nat) : Int) := by rw [i64w (by omega) (by omega)]; omega
    have hpl : (partS14 id q i seed).length = 32 := lsum_len _ _ _ _
    obtain ⟨d, d1, d2, d3⟩ := digD_at h id q (partS14 id q 65533 seed) text i
    have hse : sigEnd w p s id q seed text i = chS id q i 0 (partS14 id q i seed) d := by unfold sigEnd; rw [d3]
    rw [hse] at hn'
    rw [hdl, br_pos (by omega), br_pos (by omega), br_pos (by omega), part14 id q i seed hid (by omega) hq (by omega) hsd (by omega), d1, i64w (x := (d : Int)) (by omega) (by omega), show (0 : Int) = ((0 : Nat) : Int) from rfl, chain14 id q i 0 d _ hid (by omega) hq (by omega) (by omega) (by omega) (partS14_in id q i seed) hpl, e3,
      br_pos (by rw [List.length_append, List.length_map, List.length_range]; simp; omega)]
    exact hn'
  · simp only [P.R14_Sign_r9]
    have he := hel p
    have hf : ([beN (codeW w) 4, partS14 id q 65533 seed] ++ (List.range p).map (sigEnd w p s id q seed text)).flatten = sigS w p s id q seed text := by
      unfold sigS endsP; simp
    rw [hdl, br_neg (by omega), R01_Join _ (by rw [List.length_append, List.length_map, List.length_range]; simp; omega) (by rw [hf, sigS_len]; omega), hf]
end Q
end

section
/- lmots: what a signature leads to. -/
namespace Q
open Go Go.Abs
set_option linter.unusedVariables false
set_option linter.unusedSimpArgs false
def candEnd (w p s : Nat) (id : List Int) (q : Nat) (text sig : List Int) (i : Nat) : List Int :=
  chS id q i ((digD w p s id q ((sig.take 36).drop 4) text).getD i 0).toNat ((sig.drop (36 + 32 * i)).take 32) (2 ^ w - 1 - ((digD w p s id q ((sig.take 36).drop 4) text).getD i 0).toNat)
def candS (w p s : Nat) (id : List Int) (q : Nat) (text sig : List Int) : List Int := lsum id q 32896 [endsP (candEnd w p s id q text sig) p]
theorem endsP_len' (f : Nat → List Int) : ∀ n, (∀ i, i < n → (f i).length = 32) → (endsP f n).length = 32 * n
  | 0, _ => by simp [endsP]
  | n + 1, h => by rw [endsP_succ, List.length_append, endsP_len' f n (fun i hi => h i (by omega)), h n (by omega)]; omega
theorem endsP_in' (f : Nat → List Int) : ∀ n, (∀ i, i < n → In 256 (f i)) → In 256 (endsP f n)
  | 0, _ => by simp [endsP, In]
  | n + 1, h => by rw [endsP_succ]; exact (endsP_in' f n (fun i hi => h i (by omega))).app (h n (by omega))
theorem candEnd_len {w p s : Nat} (id : List Int) (q : Nat) (text sig : List Int) (hsl : sig.length = 36 + 32 * p) (i : Nat) (hi : i < p) : (candEnd w p s id q text sig i).length = 32 := by
  unfold candEnd
  refine chS_len _ _ _ _ _ ?_ _
  rw [List.length_take, List.length_drop]; omega
theorem candEnd_in {w p s : Nat} (id : List Int) (q : Nat) (text sig : List Int) (hs : In 256 sig) (i : Nat) : In 256 (candEnd w p s id q text sig i) := chS_in _ _ _ _ _ ((hs.drop _).take _) _
theorem Candidate_ok {w p s : Nat} (h : Kind w p s) (id : List Int) (q : Nat) (text sig : List Int) (hid : In 256 id) (hq : q < 4294967296) (hl : id.length = 16) (ht : In 256 text) (htl : text.length ≤ 300) (hs : In 256 sig) (hsl : sig.length = 36 + 32 * p) (hcode : T 8 (sig.take 4).reverse = codeW w) {ρ : Type} (k : List Int → Int → Option ρ) :
    P.lmots_Candidate (w : Int) id (q : Int) text sig k = k (candS w p s id q text sig) 0 := by
  rw [P.lmots_Candidate_eq]; unfold P.lmots_Candidate_raw
  obtain ⟨f1, f2, f3, f4⟩ := pw h
  have hcd := codeW_lt w
  have hcl : ((sig.take 36).drop 4).length = 32 := by rw [List.length_drop, List.length_take]; omega
  have hdl := digD_len h id q ((sig.take 36).drop 4) text
  have hce := fun i (hi : i ≤ p) => endsP_len' (candEnd w p s id q text sig) i (fun j hj => candEnd_len id q text sig hsl j (by omega))
  simp only [show (4 : Int).toNat = 4 from rfl, show (36 : Int).toNat = 36 from rfl, show (32 : Int).toNat = 32 from rfl, List.drop_zero, toNat_cast]
  have hnum : ((T 8 (sig.take 4).reverse % 2 ^ 64 : Nat) : Int) = ((codeW w : Nat) : Int) := by rw [hcode]; omega
  rw [began_ok h id q hl, br_bne_neg (by rfl), lmots_Size h, br_bne_neg (by rw [hsl]), br_pos (by omega), bits_Num _ (hs.take 4) (by rw [List.length_take]; omega), hnum, u64n _ (by omega), br_bne_neg (by rfl), br_pos (by omega), br_pos (by omega), br_pos (by omega),
    digitsOf_ok h id q _ _ _ _ text hid hl hq ((hs.take 36).drop 4) hcl ht htl, hdl, List.take_of_length_le (show sig.length ≤ sig.length by omega), P.lmots_Candidate_l9_eq]
  unfold P.lmots_Candidate_L9
  refine lp_go (fun i => (sig.drop (36 + 32 * i), (p : Int), (i : Int), endsP (candEnd w p s id q text sig) i, (w : Int), id, (q : Int), (p : Int), (s : Int), ((codeW w : Nat) : Int), digD w p s id q ((sig.take 36).drop 4) text)) p rfl (fun i hi next hn' => ?_) (fun next => ?_) (by omega)
  · simp only [P.lmots_Candidate_r9, toNat_cast, show (32 : Int).toNat = 32 from rfl, List.drop_zero]
    rw [endsP_succ] at hn'
    have e3 : IntKind.i64.wrap ((i : Int) + 1) = ((i + 1 : Nat) : Int) := by rw [i64w (by omega) (by omega)]; omega
    obtain ⟨d, d1, d2, d3⟩ := digD_at h id q ((sig.take 36).drop 4) text i
    have hse : candEnd w p s id q text sig i = chS id q i d ((sig.drop (36 + 32 * i)).take 32) (2 ^ w - 1 - d) := by unfold candEnd; rw [d3]
    have hrl : (sig.drop (36 + 32 * i)).length = 32 * (p - i) := by rw [List.length_drop]; omega
    have htk : ((sig.drop (36 + 32 * i)).take 32).length = 32 := by rw [List.length_take]; omega
    have hcl2 := candEnd_len (w := w) (s := s) id q text sig hsl i hi
    rw [hse] at hn' hcl2
    rw [br_pos (by omega), br_pos (by omega), br_pos (by rw [hdl]; omega), steps_ok h, br_pos (by omega), d1, show ((2 ^ w - 1 : Nat) : Int) - (d : Int) = ((2 ^ w - 1 - d : Nat) : Int) by omega, u32n _ (by omega),
      leaf_along _ id q i d (2 ^ w - 1 - d) _ _ _ _ hid (by omega) hq (by omega) (by omega) ((hs.drop _).take _) htk, e3]
    rw [br_pos (by rw [hce i (by omega), hcl2]; omega), br_pos (by omega), br_pos (by omega), List.take_of_length_le (Nat.le_refl _), List.drop_drop, show 36 + 32 * i + 32 = 36 + 32 * (i + 1) by omega]
    exact hn'
  · simp only [P.lmots_Candidate_r9]
    have he := hce p (Nat.le_refl _)
    rw [br_neg (by omega), show (32896 : Int) = ((32896 : Nat) : Int) from rfl, leaf_sum _ id q 32896 _ _ _ _ hid (by omega) hq (by omega) (by rw [one_flat]; exact endsP_in' _ p (fun i _ => candEnd_in id q text sig hs i)) (by simp) (by rw [one_flat]; omega)]
    rfl
theorem R14_Candidate_ok {w p s : Nat} (h : Kind w p s) (id : List Int) (q : Nat) (text sig : List Int) (hid : In 256 id) (hq : q < 4294967296) (hl : id.length = 16) (ht : In 256 text) (htl : text.length ≤ 300) (hs : In 256 sig) (hsl : sig.length = 36 + 32 * p) (hcode : T 8 (sig.take 4).reverse = codeW w) {ρ : Type} (k : List Int → Int → Option ρ) :
    P.R14_Candidate (w : Int) id (q : Int) text sig k = k (candS w p s id q text sig) 0 := by
  rw [P.R14_Candidate_eq]; unfold P.R14_Candidate_raw
  obtain ⟨f1, f2, f3, f4⟩ := pw h
  have hcd := codeW_lt w
  have hcl : ((sig.take 36).drop 4).length = 32 := by rw [List.length_drop, List.length_take]; omega
  have hdl := digD_len h id q ((sig.take 36).drop 4) text
  simp only [show (4 : Int).toNat = 4 from rfl, show (36 : Int).toNat = 36 from rfl, List.drop_zero]
  have hnum : ((T 8 (sig.take 4).reverse % 2 ^ 64 : Nat) : Int) = ((codeW w : Nat) : Int) := by rw [hcode]; omega
  rw [Kind_c h, kind_pos h, br_ff, br_bne_neg (by rw [hl]; rfl), R14_Size h, br_bne_neg (by rw [hsl]), br_pos (by omega), R01_Num _ (hs.take 4) (by rw [List.length_take]; omega), hnum, br_bne_neg (by rfl), br_pos (by omega),
    digest14 id q _ text hid hl hq ((hs.take 36).drop 4) hcl ht htl, R14_Digits_kind h _ (lsum_in _ _ _ _) (lsum_len _ _ _ _), P.R14_Candidate_l11_eq]
  unfold P.R14_Candidate_L11
  refine lp_go (fun i => ((w : Int), id, (q : Int), sig, (p : Int), (i : Int), (List.range i).map (candEnd w p s id q text sig), digD w p s id q ((sig.take 36).drop 4) text)) p rfl (fun i hi next hn' => ?_) (fun next => ?_) (by omega)
  · simp only [P.R14_Candidate_r11]
    rw [List.range_succ, List.map_append, List.map_singleton] at hn'
    have e3 : IntKind.i64.wrap ((i : Int) + 1) = ((i + 1 : Nat) : Int) := by rw [i64w (by omega) (by omega)]; omega
    have e36 : IntKind.i64.wrap ((36 : Int) + IntKind.i64.wrap ((32 : Int) * (i : Int))) = ((36 + 32 * i : Nat) : Int) := by rw [i64w (x := (32 : Int) * (i : Int)) (by omega) (by omega), i64w (by omega) (by omega)]; omega
    have e68 : IntKind.i64.wrap ((68 : Int) + IntKind.i64.wrap ((32 : Int) * (i : Int))) = ((68 + 32 * i : Nat) : Int) := by rw [i64w (x := (32 : Int) * (i : Int)) (by omega) (by omega), i64w (by omega) (by omega)]; omega
    obtain ⟨d, d1, d2, d3⟩ := digD_at h id q ((sig.take 36).drop 4) text i
    have hse : candEnd w p s id q text sig i = chS id q i d ((sig.drop (36 + 32 * i)).take 32) (2 ^ w - 1 - d) := by unfold candEnd; rw [d3]
    have htk : ((sig.drop (36 + 32 * i)).take 32).length = 32 := by rw [List.length_take, List.length_drop]; omega
    have hdt : (sig.take (68 + 32 * i)).drop (36 + 32 * i) = (sig.drop (36 + 32 * i)).take 32 := by
      rw [List.drop_take, show 68 + 32 * i - (36 + 32 * i) = 32 by omega]
    rw [hse] at hn'
    rw [e36, e68, e3, mask_i64 h]
    simp only [toNat_cast]
    rw [hdt, br_pos (by omega), br_pos (by omega), br_pos (by rw [hdl]; omega), br_neg (by omega), br_pos (by omega), br_pos (by omega), br_pos (by omega), d1, i64w (x := (d : Int)) (by omega) (by omega), chain14 id q i d (2 ^ w - 1) _ hid (by omega) hq (by omega) (by omega) (by omega) ((hs.drop _).take _) htk,
      br_pos (by rw [List.length_map, List.length_range]; omega)]
    exact hn'
  · simp only [P.R14_Candidate_r11]
    have he := endsP_len' (candEnd w p s id q text sig) p (fun j hj => candEnd_len id q text sig hsl j (by omega))
    have hin := endsP_in' (candEnd w p s id q text sig) p (fun i _ => candEnd_in id q text sig hs i)
    unfold endsP at he hin
    rw [br_neg (by omega), key14 id q _ hid (by omega) hq hin (by rw [List.length_map, List.length_range]; omega) (by omega)]
    rfl
theorem cand_sig {w p s : Nat} (h : Kind w p s) (id : List Int) (q : Nat) (seed text : List Int) : candS w p s id q text (sigS w p s id q seed text) = pubS w p id q seed := by
  have hcl := partS14_len id q 65533 seed
  have hc : ((sigS w p s id q seed text).take 36).drop 4 = partS14 id q 65533 seed := by
    unfold sigS
    rw [List.take_append_of_le_length (by rw [List.length_append, beN_len, hcl]; omega), List.take_of_length_le (by rw [List.length_append, beN_len, hcl]; omega), List.drop_append, List.drop_eq_nil_of_le (by rw [beN_len]; omega), List.nil_append, beN_len, Nat.sub_self, List.drop_zero]
  unfold candS pubS
  congr 2
  refine endsP_congr _ _ p (fun i hi => ?_)
  have hp : ((sigS w p s id q seed text).drop (36 + 32 * i)).take 32 = sigEnd w p s id q seed text i := by
    unfold sigS
    rw [List.drop_append, List.drop_eq_nil_of_le (by rw [List.length_append, beN_len, hcl]; omega), List.nil_append, List.length_append, beN_len, hcl, show 36 + 32 * i - (4 + 32) = 32 * i by omega]
    exact endsP_piece _ (sigEnd_len w p s id q seed text) p i hi
  obtain ⟨d, d1, d2, d3⟩ := digD_at h id q (partS14 id q 65533 seed) text i
  unfold candEnd ownEnd
  rw [hc, hp, d3]
  unfold sigEnd
  rw [d3]
  have := chS_two id q i 0 (partS14 id q i seed) d (2 ^ w - 1 - d)
  rw [Nat.zero_add] at this
  rw [← this, show d + (2 ^ w - 1 - d) = 2 ^ w - 1 by omega]
theorem sig_code {w p s : Nat} (id : List Int) (q : Nat) (seed text : List Int) : T 8 ((sigS w p s id q seed text).take 4).reverse = codeW w := by
  have hcd := codeW_lt w
  unfold sigS
  rw [List.append_assoc, List.take_append_of_le_length (by rw [beN_len]; omega), List.take_of_length_le (by rw [beN_len]; omega)]
  unfold beN
  rw [List.reverse_reverse, T_bsw]
  omega
end Q
end

section
/- The plain law of LmotsSigns. -/
namespace Q
open Go Go.Abs
set_option linter.unusedVariables false
set_option linter.unusedSimpArgs false
theorem pub_same (w : Int) (id : List Int) (q : Nat) (seed : List Int) (hid : In 256 id) (hq : q < 4294967296) (hsd : In 256 seed) : ∃ x e, x.length ≤ 1000000 ∧ (∀ {ρ : Type} (k : List Int → Int → Option ρ), P.lmots_Public w id (q : Int) seed k = k x e) ∧ ∀ {ρ : Type} (k : List Int → Int → Option ρ), P.R14_Public w id (q : Int) seed k = k x e := by
  rcases kind_or w with ⟨n, p, s, rfl, hk⟩ | hno
  · by_cases hl : id.length = 16 ∧ seed.length = 32
    · exact ⟨pubS n p id q seed, 0, by have : (pubS n p id q seed).length = 32 := lsum_len _ _ _ _
                                       omega, fun k => Public_ok hk id q seed hid hq hsd hl.1 hl.2 k, fun k => R14_Public_ok hk id q seed hid hq hsd hl.1 hl.2 k⟩
    · refine ⟨[], 14, by simp, fun k => ?_, fun k => ?_⟩
      · rw [P.lmots_Public_eq]; unfold P.lmots_Public_raw
        rw [seeded_len hk id q seed hl, br_bne_pos (by decide)]
      · rw [P.R14_Public_eq]; unfold P.R14_Public_raw
        rw [wrong_len hk id seed hl, br_bne_pos (by decide)]
  · refine ⟨[], 9, by simp, fun k => ?_, fun k => ?_⟩
    · rw [P.lmots_Public_eq]; unfold P.lmots_Public_raw
      rw [seeded_no hno id q seed, br_bne_pos (by decide)]
    · rw [P.R14_Public_eq]; unfold P.R14_Public_raw
      rw [wrong_no hno id seed, br_bne_pos (by decide)]
theorem sign_same (w : Int) (id : List Int) (q : Nat) (seed text : List Int) (hid : In 256 id) (hq : q < 4294967296) (hsd : In 256 seed) (ht : In 256 text) (htl : text.length ≤ 300) : ∃ x e, x.length ≤ 1000000 ∧ (∀ {ρ : Type} (k : List Int → Int → Option ρ), P.lmots_Sign w id (q : Int) seed text k = k x e) ∧ ∀ {ρ : Type} (k : List Int → Int → Option ρ), P.R14_Sign w id (q : Int) seed text k = k x e := by
  rcases kind_or w with ⟨n, p, s, rfl, hk⟩ | hno
  · by_cases hl : id.length = 16 ∧ seed.length = 32
    · have := pw hk
      exact ⟨sigS n p s id q seed text, 0, by rw [sigS_len]; omega, fun k => Sign_ok hk id q seed text hid hq hsd hl.1 hl.2 ht htl k, fun k => R14_Sign_ok hk id q seed text hid hq hsd hl.1 hl.2 ht htl k⟩
    · refine ⟨[], 14, by simp, fun k => ?_, fun k => ?_⟩
      · rw [P.lmots_Sign_eq]; unfold P.lmots_Sign_raw
        rw [seeded_len hk id q seed hl, br_bne_pos (by decide)]
      · rw [P.R14_Sign_eq]; unfold P.R14_Sign_raw
        rw [wrong_len hk id seed hl, br_bne_pos (by decide)]
  · refine ⟨[], 9, by simp, fun k => ?_, fun k => ?_⟩
    · rw [P.lmots_Sign_eq]; unfold P.lmots_Sign_raw
      rw [seeded_no hno id q seed, br_bne_pos (by decide)]
    · rw [P.R14_Sign_eq]; unfold P.R14_Sign_raw
      rw [wrong_no hno id seed, br_bne_pos (by decide)]
theorem cand_same (w : Int) (id : List Int) (q : Nat) (text sig : List Int) (hid : In 256 id) (hq : q < 4294967296) (ht : In 256 text) (htl : text.length ≤ 300) (hs : In 256 sig) : ∃ x e, x.length ≤ 1000000 ∧ (∀ {ρ : Type} (k : List Int → Int → Option ρ), P.lmots_Candidate w id (q : Int) text sig k = k x e) ∧ ∀ {ρ : Type} (k : List Int → Int → Option ρ), P.R14_Candidate w id (q : Int) text sig k = k x e := by
  rcases kind_or w with ⟨n, p, s, rfl, hk⟩ | hno
  · have hpw := pw hk
    have hcd := codeW_lt n
    by_cases hl : id.length = 16
    · by_cases hsl : sig.length = 36 + 32 * p
      · by_cases hcode : T 8 (sig.take 4).reverse = codeW n
        · exact ⟨candS n p s id q text sig, 0, by have : (candS n p s id q text sig).length = 32 := lsum_len _ _ _ _
                                                  omega, fun k => Candidate_ok hk id q text sig hid hq hl ht htl hs hsl hcode k, fun k => R14_Candidate_ok hk id q text sig hid hq hl ht htl hs hsl hcode k⟩
        · have hT := T_lt 8 (sig.take 4).reverse
          rw [List.length_reverse, List.length_take, Nat.min_eq_left (by omega)] at hT
          have hne : ((T 8 (sig.take 4).reverse % 2 ^ 64 : Nat) : Int) ≠ ((codeW n : Nat) : Int) := by omega
          refine ⟨[], 1, by simp, fun k => ?_, fun k => ?_⟩
          · rw [P.lmots_Candidate_eq]; unfold P.lmots_Candidate_raw
            simp only [show (4 : Int).toNat = 4 from rfl, show (36 : Int).toNat = 36 from rfl, List.drop_zero]
            rw [began_ok hk id q hl, br_bne_neg (by rfl), lmots_Size hk, br_bne_neg (by rw [hsl]), br_pos (by omega), bits_Num _ (hs.take 4) (by rw [List.length_take]; omega), u64n _ (by omega), br_bne_pos hne]
          · rw [P.R14_Candidate_eq]; unfold P.R14_Candidate_raw
            simp only [show (4 : Int).toNat = 4 from rfl, show (36 : Int).toNat = 36 from rfl, List.drop_zero]
            rw [Kind_c hk, kind_pos hk, br_ff, br_bne_neg (by rw [hl]; rfl), R14_Size hk, br_bne_neg (by rw [hsl]), br_pos (by omega), R01_Num _ (hs.take 4) (by rw [List.length_take]; omega), br_bne_pos hne]
      · refine ⟨[], 1, by simp, fun k => ?_, fun k => ?_⟩
        · rw [P.lmots_Candidate_eq]; unfold P.lmots_Candidate_raw
          rw [began_ok hk id q hl, br_bne_neg (by rfl), lmots_Size hk, br_bne_pos (by omega)]
        · rw [P.R14_Candidate_eq]; unfold P.R14_Candidate_raw
          rw [Kind_c hk, kind_pos hk, br_ff, br_bne_neg (by rw [hl]; rfl), R14_Size hk, br_bne_pos (by omega)]
    · refine ⟨[], 14, by simp, fun k => ?_, fun k => ?_⟩
      · rw [P.lmots_Candidate_eq]; unfold P.lmots_Candidate_raw
        rw [began_len hk id q hl, br_bne_pos (by decide)]
      · rw [P.R14_Candidate_eq]; unfold P.R14_Candidate_raw
        rw [Kind_c hk, kind_pos hk, br_ff, br_bne_pos (by omega)]
  · refine ⟨[], 9, by simp, fun k => ?_, fun k => ?_⟩
    · rw [P.lmots_Candidate_eq]; unfold P.lmots_Candidate_raw
      rw [began_no hno id q, br_bne_pos (by decide)]
    · rw [P.R14_Candidate_eq]; unfold P.R14_Candidate_raw
      rw [R14_Kind_no hno, br_beq_pos (by rfl)]
theorem LmotsSigns (x0 : Int) (x1 : List Int) (x2 : Int) (x3 : List Int) (x4 : List Int) (x5 : List Int) (wx0 : wfI .i64 x0) (nx1 : x1.length ≤ 140737488355328) (wx1 : ∀ x, x ∈ x1 → wfI .u8 x) (wx2 : wfI .u32 x2) (nx3 : x3.length ≤ 140737488355328) (wx3 : ∀ x, x ∈ x3 → wfI .u8 x) (nx4 : x4.length ≤ 140737488355328) (wx4 : ∀ x, x ∈ x4 → wfI .u8 x) (nx5 : x5.length ≤ 140737488355328) (wx5 : ∀ x, x ∈ x5 → wfI .u8 x) {ρ : Type} (k : Bool → Option ρ) : P.L14_LmotsSigns x0 x1 x2 x3 x4 x5 k = k true := by
  rw [P.L14_LmotsSigns_eq]; unfold P.L14_LmotsSigns_raw
  by_cases g8 : x0 = 8
  · rw [br_beq_pos g8, L14_awake]
  rw [br_beq_neg g8]
  have hq := wf_u32 wx2
  obtain ⟨q, rfl⟩ : ∃ q : Nat, x2 = (q : Int) := ⟨x2.toNat, by omega⟩
  rcases L14_few [x1, x3, x4] (by simp) (fun (q1 : Bool) =>
      br (!q1) (P.L14_awake fun (q2 : Bool) => k q2)
        (br (decide (((x5.length : Nat) : Int) > (9000 : Int))) (P.L14_awake fun (q3 : Bool) => k q3)
          (P.lmots_Public x0 x1 (q : Int) x3 fun (q4 : List Int) (q5 : Int) =>
            P.R14_Public x0 x1 (q : Int) x3 fun (q6 : List Int) (q7 : Int) =>
              P.lmots_Sign x0 x1 (q : Int) x3 x4 fun (q8 : List Int) (q9 : Int) =>
                P.R14_Sign x0 x1 (q : Int) x3 x4 fun (q10 : List Int) (q11 : Int) =>
                  P.lmots_Candidate x0 x1 (q : Int) x4 x5 fun (q12 : List Int) (q13 : Int) =>
                    P.R14_Candidate x0 x1 (q : Int) x4 x5 fun (q14 : List Int) (q15 : Int) =>
                      P.R01_Same q4 q6 fun (q16 : Bool) =>
                        br q16
                          (br (q5 == q7)
                            (P.R01_Same q8 q10 fun (q17 : Bool) =>
                              br q17
                                (br (q9 == q11)
                                  (P.R01_Same q12 q14 fun (q18 : Bool) =>
                                    br q18 (br (q13 == q15) (P.L14_awake fun (q19 : Bool) => k q19) (k false)) (k false))
                                  (k false))
                                (k false))
                            (k false))
                          (k false)))) with ⟨e, hlen⟩ | e
  · rw [e, br_not, br_tt]
    have l1 := hlen 0 (by simp)
    have l4 := hlen 2 (by simp)
    simp only [List.getD_cons_zero, List.getD_cons_succ] at l1 l4
    by_cases g9 : ((x5.length : Nat) : Int) > 9000
    · rw [br_pos g9, L14_awake]
    · obtain ⟨a, b, hab, p1, p2⟩ := pub_same x0 x1 q x3 (in_u8 wx1) (by omega) (in_u8 wx3)
      obtain ⟨c, d, hcd, s1, s2⟩ := sign_same x0 x1 q x3 x4 (in_u8 wx1) (by omega) (in_u8 wx3) (in_u8 wx4) l4
      obtain ⟨f, g, hfg, c1, c2⟩ := cand_same x0 x1 q x4 x5 (in_u8 wx1) (by omega) (in_u8 wx4) l4 (in_u8 wx5)
      rw [br_neg g9, p1, p2, s1, s2, c1, c2, R01_Same _ _ (by omega), decide_eq_true rfl, br_tt, beq_self_eq_true, br_tt, R01_Same _ _ (by omega), decide_eq_true rfl, br_tt, beq_self_eq_true, br_tt, R01_Same _ _ (by omega), decide_eq_true rfl, br_tt, beq_self_eq_true, br_tt, L14_awake]
  · rw [e, br_not, br_ff, L14_awake]
end Q
end
