/-
  MacStarts, part S: an interpreter of my own over abstract values, the pure functions, the walks and the plain law.
-/

import Derived.Test.YtjhnljhjpnjieaaDoorMacStartsR
import Derived.Test.YtjhnljhjpnjieaaDoorMacStartsF
import Derived.Test.YtjhnljhjpnjieaaDoorMacStartsH
import Derived.Test.YtjhnljhjpnjieaaDoorMacStartsG

section
/- SHA-2: sums that go on, and their ends. -/
namespace Q
open Go Go.Abs
set_option linter.unusedVariables false
set_option linter.unusedSimpArgs false
def bsz (kind : Int) : Nat := if kind = 1 then 64 else 128
theorem bsz_or (kind : Int) : (kind = 1 ∧ bsz kind = 64) ∨ (kind ≠ 1 ∧ bsz kind = 128) := by
 unfold bsz
 by_cases h : kind = 1
 ·exact .inl ⟨h, if_pos h⟩
 ·exact .inr ⟨h, if_neg h⟩
theorem sha_blockSize (kind : Int) {ρ : Type} (k : Int → Option ρ) : P.sha_blockSize kind k = k ((bsz kind : Nat) : Int) := by
 rw [P.sha_blockSize_eq]; unfold P.sha_blockSize_raw
 rcases bsz_or kind with ⟨h, e⟩ | ⟨h, e⟩
 ·rw [br_beq_pos h, e]; rfl
 ·rw [br_beq_neg h, e]; rfl
def addW (kind : Int) (words all : List Int) : List Int :=
 if kind = 1 then cv (thr p32 (toV 32 words) all (all.length / 64)) else cv (thr p64 (toV 64 words) all (all.length / 128))
theorem addW_len (kind : Int) (words all : List Int) : (addW kind words all).length = 8 := by
 unfold addW
 split <;> rw [cv_length, thr_len _ _ (toV_len _ _)]
def Wok (kind : Int) (words : List Int) : Prop := words.length = 8 ∧ In 18446744073709551616 words ∧ (kind = 1 → In 4294967296 words)
theorem addW_ok (kind : Int) (words all : List Int) : Wok kind (addW kind words all) := by
 refine ⟨addW_len _ _ _, ?_, fun h => ?_⟩
 ·unfold addW
  split
  ·intro x hx
   have := cv_in _ x hx
   omega
  ·intro x hx
   have := cv_in _ x hx
   omega
 ·unfold addW
  rw [if_pos h]
  intro x hx
  have := cv_in _ x hx
  omega
theorem rest_len (n : Nat) (hn : 0 < n) (b : List Int) : (rest n b).length = b.length % n := by
 unfold rest
 rw [List.length_drop]
 have := Nat.div_add_mod b.length n
 omega
theorem rest_in {n : Nat} {b : List Int} (h : In 256 b) : In 256 (rest n b) := h.drop _
theorem sha_small {ρ : Type} (k : Int → Int → List Int → List Int → List Int → List Int → Option ρ) : P.sha_small k = k 32 64 [7, 18, 3] [17, 19, 10] [2, 13, 22] [6, 11, 25] := by rw [P.sha_small_eq]; rfl
theorem sha_great {ρ : Type} (k : Int → Int → List Int → List Int → List Int → List Int → Option ρ) : P.sha_great k = k 64 80 [1, 8, 7] [19, 61, 6] [28, 34, 39] [14, 18, 41] := by rw [P.sha_great_eq]; rfl
theorem sha_Add (kind : Int) (words tail : List Int) (size : Int) (b : List Int) (hl : words.length = 8) (hi : In 18446744073709551616 words) (ht : In 256 tail) (hb : In 256 b) (hn : tail.length + b.length ≤ 1000000) {ρ : Type} (k : Int → List Int → List Int → Int → Option ρ) :
    P.sha_Add kind words tail size b k = k kind (addW kind words (tail ++ b)) (rest (bsz kind) (tail ++ b)) (IntKind.u64.wrap (size + IntKind.u64.wrap (b.length : Int))) := by
 rw [P.sha_Add_eq]; unfold P.sha_Add_raw
 have hf : [tail, b].flatten = tail ++ b := by simp
 have hall : (tail ++ b).length ≤ 1000000 := by rw [List.length_append]; exact hn
 have hin : In 256 (tail ++ b) := ht.app hb
 have hr : ∀ n, (rest n (tail ++ b)).length ≤ 1000000 := fun n => by unfold rest; rw [List.length_drop]; omega
 rw [slices_Concat_byte _ (by simp) (by rw [hf]; omega), hf]
 rcases bsz_or kind with ⟨h, e⟩ | ⟨h, e⟩
 ·rw [br_beq_pos h, sha_small, e]
  rw [t32_through words _ hl hi hin hall]
  unfold P.slices_Clone_byte addW
  have := hr 64
  rw [br_pos (by omega), if_pos h]
 ·rw [br_beq_neg h, sha_great, e]
  rw [t64_through words _ hl hi hin hall]
  unfold P.slices_Clone_byte addW
  have := hr 128
  rw [br_pos (by omega), if_neg h]
def padZ (kind : Int) (tl : Nat) : Nat := if kind = 1 then (119 - tl) % 64 else (239 - tl) % 128 + 8
def pad (kind : Int) (tl : Nat) (size : Nat) : List Int := 128 :: List.replicate (padZ kind tl) 0 ++ (bsw 8 8 (size * 8 % 2 ^ 64)).reverse
def outI (n : Nat) (words : List Int) (i : Nat) : List Int := ((List.range i).map fun j => (bsw 8 n (words.getD j 0).toNat).reverse).flatten
theorem outI_succ (n : Nat) (words : List Int) (i : Nat) : outI n words (i + 1) = outI n words i ++ (bsw 8 n (words.getD i 0).toNat).reverse := by simp [outI, List.range_succ]
theorem outI_len (n : Nat) (words : List Int) : ∀ i, (outI n words i).length = n * i
 | 0 => by simp [outI]
 | i + 1 => by rw [outI_succ, List.length_append, outI_len n words i, List.length_reverse, bsw_length, Nat.mul_succ]
theorem outI_in (n : Nat) (words : List Int) : ∀ i, In 256 (outI n words i)
 | 0 => by simp [outI, In]
 | i + 1 => by rw [outI_succ]; exact (outI_in n words i).app (bsw_in 8 n _).rev
def endS (kind : Int) (words tail : List Int) (size : Nat) : List Int :=
 let o := outI (bsz kind / 16) (addW kind words (tail ++ pad kind tail.length size)) 8
 if kind = 2 then o.take 48 else o
theorem endS_in (kind : Int) (words tail : List Int) (size : Nat) : In 256 (endS kind words tail size) := by
 unfold endS
 simp only
 split
 ·exact (outI_in _ _ _).take _
 ·exact outI_in _ _ _
theorem endS_len (kind : Int) (words tail : List Int) (size : Nat) : (endS kind words tail size).length = if kind = 1 then 32 else if kind = 2 then 48 else 64 := by
 unfold endS
 simp only
 rcases bsz_or kind with ⟨h, e⟩ | ⟨h, e⟩
 ·rw [if_neg (by omega), if_pos h, outI_len, e]
 ·rw [if_neg h, e]
  split
  ·rw [List.length_take, outI_len]; decide
  ·rw [outI_len]
theorem tmN (a b : Nat) : ((a : Nat) : Int).tmod (b : Int) = ((a % b : Nat) : Int) := by
 rw [Int.tmod_eq_emod_of_nonneg (by omega)]; rfl
theorem pad_in (kind : Int) (tl size : Nat) : In 256 (pad kind tl size) := by
 unfold pad
 refine In.app ?_ (bsw_in 8 8 _).rev
 intro x hx
 rcases List.mem_cons.1 hx with rfl | hx
 ·omega
 ·rw [List.mem_replicate] at hx; omega
theorem pad_len (kind : Int) (tl size : Nat) : (pad kind tl size).length = padZ kind tl + 9 := by
 unfold pad; simp
theorem padZ_le (kind : Int) (tl : Nat) : padZ kind tl ≤ 200 := by
 unfold padZ; split <;> omega
theorem sha_outs (n : Nat) (hn : n = 64 ∨ n = 128) (words : List Int) (hw : In 18446744073709551616 words) (a : Int) (b : List Int) (c : Int) (d : List Int) {ρ : Type} (k0 : Int → List Int → Int → List Int → Int → List Int → Int → List Int → Option ρ) :
    P.sha_End_l10 (n : Int) words 0 [] a b c d k0 = k0 (n : Int) words 8 (outI (n / 16) words 8) a b c d := by
 rw [P.sha_End_l10_eq]
 unfold P.sha_End_L10
 have e16 : IntKind.i64.wrap ((n : Int).tdiv 16) = ((n / 16 : Nat) : Int) := by rcases hn with rfl | rfl <;> rfl
 refine lp_go (fun i => ((n : Int), words, (i : Int), outI (n / 16) words i, a, b, c, d)) 8 rfl (fun i hi next hn' => ?_) (fun next => ?_) (by omega)
 ·simp only [P.sha_End_r10, toNat_cast]
  have h1 := hw.getD i (by omega)
  have e4 : IntKind.i64.wrap ((i : Int) + 1) = ((i + 1 : Nat) : Int) := by rw [i64w (by omega) (by omega)]; omega
  have e5 : words.getD i 0 = (((words.getD i 0).toNat : Nat) : Int) := by omega
  rw [outI_succ] at hn'
  rw [br_pos (by omega), br_pos (by omega), br_pos (by omega), e16, e5, bits_Be _ _ (by omega) (by omega), e4]
  rw [br_pos (by rw [outI_len, List.length_reverse, bsw_length]; rcases hn with rfl | rfl <;> omega)]
  exact hn'
 ·simp only [P.sha_End_r10]
  rw [br_neg (by omega)]
  rfl
theorem shl3 (size : Nat) : IntKind.u64.wrap ((size : Int) * (2 : Int) ^ 3) = ((size * 8 % 2 ^ 64 : Nat) : Int) := by
 rw [u64m]; omega
theorem sha_End (kind : Int) (words tail : List Int) (size : Nat) (hl : words.length = 8) (hi : In 18446744073709551616 words) (ht : In 256 tail) (hn : tail.length < bsz kind) {ρ : Type} (k : List Int → Option ρ) :
    P.sha_End kind words tail (size : Int) k = k (endS kind words tail size) := by
 rw [P.sha_End_eq]; unfold P.sha_End_raw
 rw [sha_blockSize]
 have hz : IntKind.i64.wrap (IntKind.i64.wrap ((IntKind.i64.wrap (IntKind.i64.wrap (IntKind.i64.wrap (IntKind.i64.wrap ((2 : Int) * ((bsz kind : Nat) : Int)) - (1 : Int)) - IntKind.i64.wrap (((bsz kind : Nat) : Int).tdiv (8 : Int))) - (tail.length : Int))).tmod ((bsz kind : Nat) : Int) + IntKind.i64.wrap (((bsz kind : Nat) : Int).tdiv (8 : Int))) - (8 : Int)) = ((padZ kind tail.length : Nat) : Int) := by
  unfold padZ
  rcases bsz_or kind with ⟨h, e⟩ | ⟨h, e⟩
  ·rw [e] at hn ⊢
   rw [if_pos h, show IntKind.i64.wrap (IntKind.i64.wrap (IntKind.i64.wrap ((2 : Int) * ((64 : Nat) : Int)) - (1 : Int)) - IntKind.i64.wrap (((64 : Nat) : Int).tdiv (8 : Int))) = 119 from rfl, i64w (x := (119 : Int) - (tail.length : Int)) (by omega) (by omega),
    show (119 : Int) - (tail.length : Int) = ((119 - tail.length : Nat) : Int) by omega, tmN, show IntKind.i64.wrap (((64 : Nat) : Int).tdiv (8 : Int)) = 8 from rfl, i64w (x := ((((119 - tail.length) % 64 : Nat) : Int)) + 8) (by omega) (by omega), i64w (by omega) (by omega)]
   omega
  ·rw [e] at hn ⊢
   rw [if_neg h, show IntKind.i64.wrap (IntKind.i64.wrap (IntKind.i64.wrap ((2 : Int) * ((128 : Nat) : Int)) - (1 : Int)) - IntKind.i64.wrap (((128 : Nat) : Int).tdiv (8 : Int))) = 239 from rfl, i64w (x := (239 : Int) - (tail.length : Int)) (by omega) (by omega),
    show (239 : Int) - (tail.length : Int) = ((239 - tail.length : Nat) : Int) by omega, tmN, show IntKind.i64.wrap (((128 : Nat) : Int).tdiv (8 : Int)) = 16 from rfl, i64w (x := ((((239 - tail.length) % 128 : Nat) : Int)) + 16) (by omega) (by omega), i64w (by omega) (by omega)]
   omega
 have hb : bsz kind = 64 ∨ bsz kind = 128 := by rcases bsz_or kind with ⟨h, e⟩ | ⟨h, e⟩ <;> omega
 have hz2 := padZ_le kind tail.length
 rw [hz]
 simp only [toNat_cast]
 rw [br_pos (by omega), br_pos (by omega), br_neg (by omega), br_pos (by omega), br_pos (by omega), shl3, show (8 : Int) = ((8 : Nat) : Int) from rfl, bits_Be _ 8 (by omega) (by omega)]
 have hp : (List.replicate 1 (0 : Int)).set 0 (128 : Int) ++ List.replicate (padZ kind tail.length) (0 : Int) ++ (bsw 8 8 (size * 8 % 2 ^ 64)).reverse = pad kind tail.length size := rfl
 rw [br_pos (by
  show ((List.replicate (padZ kind tail.length) (0 : Int)).length + 0 + 1 + _) * 1 ≤ _
  rw [List.length_replicate, List.length_reverse, bsw_length]; omega), hp]
 have hpl := pad_len kind tail.length size
 rw [sha_Add kind words tail _ _ hl hi ht (pad_in _ _ _) (by omega), sha_outs _ hb _ (addW_ok _ _ _).2.1]
 unfold endS
 simp only
 by_cases h2 : kind = 2
 ·have e : bsz kind = 128 := by unfold bsz; rw [if_neg (by omega)]
  rw [br_beq_pos h2, br_pos (by rw [outI_len, e]; omega), if_pos h2]
  rfl
 ·rw [br_beq_neg h2, if_neg h2]
def newW (kind : Int) : List Int :=
 if kind = 1 then [1779033703, 3144134277, 1013904242, 2773480762, 1359893119, 2600822924, 528734635, 1541459225]
 else if kind = 2 then [14680500436340154072, 7105036623409894663, 10473403895298186519, 1526699215303891257, 7436329637833083697, 10282925794625328401, 15784041429090275239, 5167115440072839076]
 else [7640891576956012808, 13503953896175478587, 4354685564936845355, 11912009170470909681, 5840696475078001361, 11170449401992604703, 2270897969802886507, 6620516959819538809]
theorem newW_ok (kind : Int) : Wok kind (newW kind) := by
 unfold newW Wok
 by_cases h1 : kind = 1
 ·simp only [if_pos h1]
  refine ⟨rfl, ?_, fun _ => ?_⟩
  ·unfold In; decide
  ·unfold In; decide
 ·by_cases h2 : kind = 2
  ·simp only [if_neg h1, if_pos h2]
   refine ⟨rfl, ?_, fun h => absurd h h1⟩
   unfold In; decide
  ·simp only [if_neg h1, if_neg h2]
   refine ⟨rfl, ?_, fun h => absurd h h1⟩
   unfold In; decide
def K3 (kind : Int) : Prop := kind = 1 ∨ kind = 2 ∨ kind = 3
theorem sha_begin_k {kind : Int} (h : K3 kind) {ρ : Type} (k : List Int → Bool → Option ρ) : P.sha_begin kind k = k (newW kind) true := by
 rw [P.sha_begin_eq]
 rcases h with rfl | rfl | rfl <;> kernel_rfl
theorem sha_New {kind : Int} (h : K3 kind) {ρ : Type} (k : Int → List Int → List Int → Int → Int → Option ρ) : P.sha_New kind k = k kind (newW kind) [] 0 0 := by
 rw [P.sha_New_eq]; unfold P.sha_New_raw
 rw [sha_begin_k h, br_not, br_tt]
theorem bsz_pos (kind : Int) : 0 < bsz kind := by rcases bsz_or kind with ⟨h, e⟩ | ⟨h, e⟩ <;> omega
def sumS (kind : Int) (b : List Int) : List Int := endS kind (addW kind (newW kind) b) (rest (bsz kind) b) b.length
theorem size_add (b : List Int) (hn : b.length ≤ 1000000) : IntKind.u64.wrap ((0 : Int) + IntKind.u64.wrap (b.length : Int)) = ((b.length : Nat) : Int) := by
 rw [u64n _ (by omega), Int.zero_add, u64n _ (by omega)]
theorem sha_Sum {kind : Int} (h : K3 kind) (b : List Int) (hb : In 256 b) (hn : b.length ≤ 1000000) {ρ : Type} (k : List Int → Int → Option ρ) : P.sha_Sum kind b k = k (sumS kind b) 0 := by
 rw [P.sha_Sum_eq]; unfold P.sha_Sum_raw
 have hw := newW_ok kind
 have hr := rest_len _ (bsz_pos kind) b
 have hlt := Nat.mod_lt b.length (bsz_pos kind)
 rw [sha_New h, br_bne_neg (by rfl), sha_Add kind _ [] _ b hw.1 hw.2.1 In.nil hb (by simpa using hn), List.nil_append, size_add b hn, sha_End kind _ _ _ (addW_len _ _ _) (addW_ok _ _ _).2.1 (rest_in hb) (by omega)]
 rfl
theorem sumS_in (kind : Int) (b : List Int) : In 256 (sumS kind b) := endS_in _ _ _ _
theorem sumS_len (kind : Int) (b : List Int) : (sumS kind b).length = if kind = 1 then 32 else if kind = 2 then 48 else 64 := endS_len _ _ _ _
end Q
end

section
open Go Go.Abs
set_option linter.unusedVariables false
namespace P
end P
end

section
/- SHA-2: which sums can be, which are the same; the examples. -/
namespace Q
open Go Go.Abs
set_option linter.unusedVariables false
set_option linter.unusedSimpArgs false
theorem first (p : Nat → Bool) : ∀ n, ∃ m, m ≤ n ∧ (∀ i, i < m → p i = true) ∧ (m = n ∨ (m < n ∧ p m = false))
 | 0 => ⟨0, by omega, by omega, .inl rfl⟩
 | n + 1 => by
  obtain ⟨m, h1, h2, h3⟩ := first p n
  rcases h3 with h3 | ⟨h3, h4⟩
  ·subst h3
   cases hp : p m with
   | true => exact ⟨m + 1, by omega, fun i hi => by
       by_cases e : i = m
       ·rw [e]; exact hp
       ·exact h2 i (by omega), .inl rfl⟩
   | false => exact ⟨m, by omega, h2, .inr ⟨by omega, hp⟩⟩
  ·exact ⟨m, by omega, h2, .inr ⟨by omega, h4⟩⟩
end Q
end

section
open Go Go.Abs
set_option linter.unusedVariables false
namespace P
end P
end

section
open Go Go.Abs
set_option linter.unusedVariables false
namespace P
end P
end

section
open Go Go.Abs
set_option linter.unusedVariables false
namespace P
end P
end

section
/- mac: digests, with keys and without. -/
namespace Q
open QK
open Go Go.Abs
set_option linter.unusedVariables false
set_option linter.unusedSimpArgs false
def K7 (kd : Int) : Prop := kd = 1 ∨ kd = 2 ∨ kd = 3 ∨ kd = 4 ∨ kd = 5 ∨ kd = 6 ∨ kd = 7
theorem K7.of {kd : Int} (h : 1 ≤ kd ∧ kd ≤ 7) : K7 kd := by unfold K7; omega
def dl (kd : Int) : Nat := if kd = 1 ∨ kd = 4 ∨ kd = 6 then 32 else if kd = 2 then 48 else if kd = 3 ∨ kd = 5 ∨ kd = 7 then 64 else 0
theorem dl_pos {kd : Int} (h : K7 kd) : 32 ≤ dl kd ∧ dl kd ≤ 64 := by
 rcases h with rfl | rfl | rfl | rfl | rfl | rfl | rfl <;> decide
theorem dl_no {kd : Int} (h : ¬ K7 kd) : dl kd = 0 := by
 unfold K7 at h
 unfold dl
 rw [if_neg (by omega), if_neg (by omega), if_neg (by omega)]
theorem mac_Size (kd : Int) {ρ : Type} (k : Int → Option ρ) : P.mac_Size kd k = k ((dl kd : Nat) : Int) := by
 rw [P.mac_Size_eq]; unfold P.mac_Size_raw
 by_cases h0 : kd < 0
 ·rw [br_pos h0, dl_no (by unfold K7; omega)]; rfl
 by_cases h8 : kd ≥ 8
 ·rw [br_neg h0, br_pos h8, dl_no (by unfold K7; omega)]; rfl
 have : kd = 0 ∨ kd = 1 ∨ kd = 2 ∨ kd = 3 ∨ kd = 4 ∨ kd = 5 ∨ kd = 6 ∨ kd = 7 := by omega
 rcases this with rfl | rfl | rfl | rfl | rfl | rfl | rfl | rfl <;> simp [dl]
theorem R09_Size (kd : Int) {ρ : Type} (k : Int → Option ρ) : P.R09_Size kd k = k ((dl kd : Nat) : Int) := by
 rw [P.R09_Size_eq]; unfold P.R09_Size_raw
 by_cases h0 : kd < 0
 ·rw [br_pos h0, dl_no (by unfold K7; omega)]; rfl
 by_cases h8 : kd > 7
 ·rw [br_neg h0, br_pos h8, dl_no (by unfold K7; omega)]; rfl
 have : kd = 0 ∨ kd = 1 ∨ kd = 2 ∨ kd = 3 ∨ kd = 4 ∨ kd = 5 ∨ kd = 6 ∨ kd = 7 := by omega
 rcases this with rfl | rfl | rfl | rfl | rfl | rfl | rfl | rfl <;> simp [dl]
def dig (kd : Int) (b : List Int) : List Int := if kd ≤ 3 then sumS kd b else ksum kd b (dl kd)
theorem dig_in (kd : Int) (b : List Int) : In 256 (dig kd b) := by
 unfold dig; split
 ·exact sumS_in _ _
 ·exact ksum_in _ _ _
theorem dig_len {kd : Int} (h : K7 kd) (b : List Int) : (dig kd b).length = dl kd := by
 unfold dig
 rcases h with rfl | rfl | rfl | rfl | rfl | rfl | rfl
 ·rw [if_pos (by omega), sumS_len]; rfl
 ·rw [if_pos (by omega), sumS_len]; rfl
 ·rw [if_pos (by omega), sumS_len]; rfl
 all_goals rw [if_neg (by omega), ksum_len]
theorem mac_Digest {kd : Int} (h : K7 kd) (b : List Int) (hb : In 256 b) (hn : b.length ≤ 1000000) {ρ : Type} (k : List Int → Int → Option ρ) : P.mac_Digest kd b k = k (dig kd b) 0 := by
 have hd := dl_pos h
 rw [P.mac_Digest_eq]; unfold P.mac_Digest_raw
 rw [mac_Size, br_beq_neg (by omega)]
 unfold dig
 by_cases h3 : kd ≤ 3
 ·rw [br_pos h3, if_pos h3, sha_Sum (by unfold K7 at h; unfold K3; omega) b hb hn]
 ·rw [br_neg h3, if_neg h3, mac_Size, keccak_Sum (by unfold K7 at h; omega) b (by omega) _ (by omega)]
theorem digests_f1 {kd : Int} (h : K7 kd) (l : List (List Int)) (hl : l.length ≤ 1000) (hb : In 256 l.flatten) (hn : l.flatten.length ≤ 1000000) {ρ : Type} (k : List Int → Option ρ) : P.mac_digests_f1 l kd k = k (dig kd l.flatten) := by
 rw [P.mac_digests_f1_eq]; unfold P.mac_digests_f1_raw
 rw [bits_Join l (by omega) (by omega), mac_Digest h _ hb hn]
theorem digests_ok (kd : Int) {ρ : Type} (k : Int → Option ρ) : P.mac_digests kd k = k kd := by
 rw [P.mac_digests_eq]; rfl
def stir (key : List Int) (n : Nat) (c : Int) : List Int := (List.range n).map fun i => bits .xor .u8 (key.getD i 0) c
theorem stir_len (key : List Int) (n : Nat) (c : Int) : (stir key n c).length = n := by simp [stir]
theorem xor8_in (x c : Int) : 0 ≤ bits .xor .u8 x c ∧ bits .xor .u8 x c < 256 := by
 have e : bits .xor .u8 x c = IntKind.u8.wrap ((BitVec.ofInt 8 x ^^^ BitVec.ofInt 8 c).toNat : Int) := rfl
 rw [e, u8m]
 exact ⟨Int.emod_nonneg _ (by omega), Int.emod_lt_of_pos _ (by omega)⟩
theorem stir_in (key : List Int) (n : Nat) (c : Int) : In 256 (stir key n c) := fun x hx => by
 simp only [stir, List.mem_map] at hx
 obtain ⟨i, _, rfl⟩ := hx
 exact xor8_in _ _
theorem stir_step (key : List Int) (i : Nat) (c : Int) : stir key i c ++ [bits .xor .u8 (key.getD i 0) c] = stir key (i + 1) c := range_map_step (fun i => bits .xor .u8 (key.getD i 0) c) i
theorem set_at {α : Type} (a b : List α) (x y : α) (i : Nat) (h : a.length = i) : (a ++ x :: b).set i y = a ++ y :: b := by
 subst h
 rw [List.set_append_right _ _ (Nat.le_refl _), Nat.sub_self]
 rfl
theorem mac_stirred (key : List Int) (n : Nat) (c : Int) (hk : key.length ≤ n) (hn : n ≤ 1000) {ρ : Type} (k : List Int → Option ρ) : P.mac_stirred key (n : Int) c k = k (stir key n c) := by
 rw [P.mac_stirred_eq]; unfold P.mac_stirred_raw
 rw [br_pos (by omega), br_pos (by omega), br_pos (by omega), toNat_cast, List.length_replicate]
 have e0 : (List.take n key).append (List.drop (0 + min n key.length) (List.replicate n 0)) = key ++ List.replicate (n - key.length) 0 := by
  show List.take n key ++ _ = _
  rw [List.take_of_length_le hk, Nat.zero_add, Nat.min_eq_right hk, List.drop_replicate]
 rw [e0]
 generalize hl0 : key ++ List.replicate (n - key.length) 0 = l0
 have hlen : l0.length = n := by rw [← hl0]; simp; omega
 have hget : ∀ i, l0.getD i 0 = key.getD i 0 := by
  intro i
  rw [← hl0]
  by_cases hi : i < key.length
  ·rw [getD_lt (by simp; omega), getD_lt hi, List.getElem_append_left hi]
  ·rw [getD_ge (l := key) (by omega), List.getD_eq_getElem?_getD, List.getElem?_append_right (by omega), List.getElem?_replicate]
   split <;> rfl
 rw [P.mac_stirred_l4_eq, hlen]; unfold P.mac_stirred_L4
 refine lp_go (fun i => (c, (n : Int), (i : Int), stir key i c ++ l0.drop i)) n (by simp [stir]) (fun i hi next hnx => ?_) (fun next => ?_) (by omega)
 ·have hsl := stir_len key i c
  have hd := drop_step l0 0 i (by omega)
  have hL : (stir key i c ++ l0.drop i).length = n := by simp [hsl]; omega
  have hG : (stir key i c ++ l0.drop i).getD i 0 = key.getD i 0 := by
   rw [List.getD_eq_getElem?_getD, List.getElem?_append_right (by omega), hsl, Nat.sub_self, hd, hget]
   rfl
  have hS : (stir key i c ++ l0.drop i).set i (bits .xor .u8 (key.getD i 0) c) = stir key (i + 1) c ++ l0.drop (i + 1) := by
   rw [hd, set_at _ _ _ _ i hsl, ← stir_step, List.append_assoc]
   rfl
  simp only [P.mac_stirred_r4, toNat_cast]
  rw [hL, hG, hS]
  simp (disch := omega) only [br_pos, br_neg, br_bne_pos, br_bne_neg, br_beq_pos, br_beq_neg, br_not, br_tt, br_ff, i64w]
  exact hnx
 ·simp only [P.mac_stirred_r4]
  rw [br_neg (by omega), List.drop_of_length_le (by omega), List.append_nil]
def bk (kd : Int) : Nat := if kd ≤ 3 then bsz kd else rOf kd
theorem bk_ok {kd : Int} (h : K7 kd) : 64 ≤ bk kd ∧ bk kd ≤ 168 := by
 rcases h with rfl | rfl | rfl | rfl | rfl | rfl | rfl <;> decide
def kfit (kd : Int) (key : List Int) : List Int := if bk kd < key.length then dig kd key else key
def hmc (kd : Int) (key b : List Int) : List Int := dig kd (stir (kfit kd key) (bk kd) 92 ++ dig kd (stir (kfit kd key) (bk kd) 54 ++ b))
theorem hmc_in (kd : Int) (key b : List Int) : In 256 (hmc kd key b) := dig_in _ _
theorem hmc_len {kd : Int} (h : K7 kd) (key b : List Int) : (hmc kd key b).length = dl kd := dig_len h _
theorem with_f1 {kd : Int} (h : K7 kd) (l : List (List Int)) (hl : l.length ≤ 1000) (hb : In 256 l.flatten) (hn : l.flatten.length ≤ 900000) (i o : List Int) (hi : In 256 i) (ho : In 256 o) (ni : i.length ≤ 1000) (no : o.length ≤ 1000) {ρ : Type} (k : List Int → Option ρ) :
    P.mac_with_f1 l kd o i k = k (dig kd (o ++ dig kd (i ++ l.flatten))) := by
 have hd := dl_pos h
 have hdl := dig_len h (i ++ l.flatten)
 have two : ∀ (x y : List Int), In 256 x → In 256 y → x.length + y.length ≤ 1000000 → ∀ (k : List Int → Option ρ), P.mac_digests_f1 [x, y] kd k = k (dig kd (x ++ y)) := by
  intro x y hx hy hl k
  have e : [x, y].flatten = x ++ y := by simp
  rw [digests_f1 h [x, y] (by simp) (by rw [e]; exact hx.app hy) (by rw [e, List.length_append]; exact hl), e]
 rw [P.mac_with_f1_eq]; unfold P.mac_with_f1_raw
 rw [bits_Join l (by omega) (by omega), two _ _ hi hb (by omega), two _ _ ho (dig_in _ _) (by omega)]
end Q
end

section
open Go Go.Abs
set_option linter.unusedVariables false
namespace P
end P
end

section
open Go Go.Abs
set_option linter.unusedVariables false
namespace P
end P
end

section
/- mac: bytes of keys and of seeds. -/
namespace Q
open QK
open Go Go.Abs
set_option linter.unusedVariables false
set_option linter.unusedSimpArgs false
def cat (T : Nat → List Int) : Nat → List Int
 | 0 => []
 | j + 1 => cat T j ++ T j
theorem cat_len {T : Nat → List Int} {d : Nat} (h : ∀ i, (T i).length = d) : ∀ j, (cat T j).length = j * d
 | 0 => by simp [cat]
 | j + 1 => by rw [cat, List.length_append, cat_len h j, h, Nat.succ_mul]
theorem cat_take {T : Nat → List Int} {d : Nat} (h : ∀ i, (T i).length = d) (j : Nat) : ∀ m, (cat T (j + m)).take (j * d) = cat T j
 | 0 => by rw [Nat.add_zero, List.take_of_length_le (by rw [cat_len h]; exact Nat.le_refl _)]
 | m + 1 => by
  show (cat T (j + m) ++ T (j + m)).take (j * d) = _
  rw [List.take_append_of_le_length (by rw [cat_len h, Nat.add_mul]; omega), cat_take h j m]
def cnt (d n : Nat) : Nat := (n + d - 1) / d
theorem cnt_lt {d n i : Nat} (hd : 0 < d) : i < cnt d n ↔ i * d < n := by
 unfold cnt
 have := Nat.le_div_iff_mul_le (x := i + 1) (y := n + d - 1) hd
 rw [Nat.succ_mul] at this
 omega
theorem cnt_mul {d n : Nat} (hd : 0 < d) : n ≤ cnt d n * d := by
 have := cnt_lt (i := cnt d n) (n := n) hd
 omega
theorem cnt_le {d n m : Nat} (h : n ≤ m * d) (hd : 0 < d) : cnt d n ≤ m := by
 have := cnt_lt (i := m) (n := n) hd
 omega
def grow (T : Nat → List Int) (d n : Nat) : List Int := (cat T (cnt d n)).take n
theorem grow_len {T : Nat → List Int} {d : Nat} (h : ∀ i, (T i).length = d) (hd : 0 < d) (n : Nat) : (grow T d n).length = n := by
 unfold grow
 have := cnt_mul (n := n) hd
 rw [List.length_take, cat_len h]
 omega
theorem grow_take {T : Nat → List Int} {d : Nat} (h : ∀ i, (T i).length = d) (hd : 0 < d) {n m : Nat} (hnm : n ≤ m) : (grow T d m).take n = grow T d n := by
 unfold grow
 have h1 := cnt_mul (n := n) hd
 have h2 := cnt_mul (n := m) hd
 have h3 : cnt d n ≤ cnt d m := cnt_le (by omega) hd
 rw [List.take_take, Nat.min_eq_left hnm]
 obtain ⟨q, hq⟩ : ∃ q, cnt d m = cnt d n + q := ⟨cnt d m - cnt d n, by omega⟩
 have h4 := cat_take h (cnt d n) q
 rw [hq, ← h4, List.take_take, Nat.min_eq_left h1]
def exT (kd : Int) (key info : List Int) : Nat → List Int
 | 0 => hmc kd key ([] ++ info ++ [1])
 | i + 1 => hmc kd key (exT kd key info i ++ info ++ [((i + 2 : Nat) : Int) % 256])
theorem exT_len {kd : Int} (h : K7 kd) (key info : List Int) : ∀ i, (exT kd key info i).length = dl kd
 | 0 => hmc_len h _ _
 | i + 1 => hmc_len h _ _
theorem exT_in (kd : Int) (key info : List Int) : ∀ i, In 256 (exT kd key info i)
 | 0 => hmc_in _ _ _
 | i + 1 => hmc_in _ _ _
def exL (kd : Int) (key info : List Int) : Nat → List Int
 | 0 => []
 | i + 1 => exT kd key info i
theorem exT_step (kd : Int) (key info : List Int) (i : Nat) : hmc kd key (exL kd key info i ++ info ++ [((i + 1 : Nat) : Int) % 256]) = exT kd key info i := by
 cases i with
 | zero => rfl
 | succ i => rfl
theorem exL_in (kd : Int) (key info : List Int) : ∀ i, In 256 (exL kd key info i)
 | 0 => In.nil
 | i + 1 => exT_in _ _ _ i
theorem exL_len {kd : Int} (h : K7 kd) (key info : List Int) : ∀ i, (exL kd key info i).length ≤ dl kd
 | 0 => Nat.zero_le _
 | i + 1 => by rw [exL, exT_len h]; exact Nat.le_refl _
def maT (kd : Int) (seed : List Int) (i : Nat) : List Int := dig kd (seed ++ (bsw 8 4 i).reverse)
theorem mac_Mask {kd : Int} (h : 1 ≤ kd ∧ kd ≤ 3) (seed : List Int) (hs : In 256 seed) (ns : seed.length ≤ 100000) (n : Nat) (hn : n ≤ 10000) {ρ : Type} (k : List Int → Int → Option ρ) :
    P.mac_Mask kd seed (n : Int) k = k (grow (maT kd seed) (dl kd) n) 0 := by
 have hK : K7 kd := K7.of (by omega)
 have hd := dl_pos hK
 have hc : cnt (dl kd) n ≤ n := cnt_le (Nat.le_mul_of_pos_right n (by omega)) (by omega)
 have hcm := cnt_mul (n := n) (d := dl kd) (by omega)
 have hl := cat_len (T := maT kd seed) (fun i => dig_len hK _)
 rw [P.mac_Mask_eq]; unfold P.mac_Mask_raw
 rw [br_neg (by omega), br_neg (by omega), br_neg (by omega), br_neg (by omega), digests_ok, P.mac_Mask_l8_eq]
 unfold P.mac_Mask_L8
 refine lp_go (fun i => (seed, (n : Int), kd, (i : Int), cat (maT kd seed) i)) (cnt (dl kd) n) rfl (fun i hi' next hnx => ?_) (fun next => ?_) (by omega)
 ·have hlt := (cnt_lt (n := n) (d := dl kd) (i := i) (by omega)).1 hi'
  have hli := hl i
  have hlen : ([seed, (bsw 8 4 i).reverse] : List (List Int)).flatten = seed ++ (bsw 8 4 i).reverse := by simp
  simp only [P.mac_Mask_r8]
  rw [br_pos (by omega), show (4 : Int) = ((4 : Nat) : Int) from rfl, bits_Be i 4 (by omega) (by omega), digests_f1 hK _ (by simp) (by rw [hlen]; exact hs.app (bsw_in 8 4 i).rev) (by rw [hlen]; simp; omega), hlen, br_pos (by rw [dig_len hK]; omega), u64m, Int.emod_eq_of_lt (by omega) (by omega)]
  exact hnx
 ·have hlc := hl (cnt (dl kd) n)
  simp only [P.mac_Mask_r8]
  rw [br_neg (by omega), br_pos (by omega), br_pos (by omega), br_pos (by omega), br_pos (by omega), List.drop_zero, toNat_cast]
  rfl
end Q
end

section
open Go Go.Abs
set_option linter.unusedVariables false
namespace P
end P
end

section
/- mac: digests with keys, and keys that grow, by the program. -/
namespace Q
open QK
open Go Go.Abs
set_option linter.unusedVariables false
set_option linter.unusedSimpArgs false
theorem bk_tab {kd : Int} (h : 1 ≤ kd ∧ kd ≤ 5) : (([0, 0, 32, 64, 48, 128, 64, 128, 32, 136, 64, 72, 32, 168, 64, 136] : List Int).getD (kd.toNat * 2 + 1) 0) = ((bk kd : Nat) : Int) := by
 have : kd = 1 ∨ kd = 2 ∨ kd = 3 ∨ kd = 4 ∨ kd = 5 := by omega
 rcases this with rfl | rfl | rfl | rfl | rfl <;> decide
theorem mac_with {kd : Int} (h : 1 ≤ kd ∧ kd ≤ 5) (key : List Int) (hk : In 256 key) (nk : key.length ≤ 100000) {ρ : Type} (k : Int → List Int → List Int → Option ρ) : P.mac_with kd key k = k kd (stir (kfit kd key) (bk kd) 92) (stir (kfit kd key) (bk kd) 54) := by
 have hK : K7 kd := K7.of (by omega)
 have h2 := bk_ok hK
 have hd := dl_pos hK
 rw [P.mac_with_eq]; unfold P.mac_with_raw
 rw [digests_ok, br_pos (by omega), br_pos (by omega), br_pos (by omega), bk_tab h]
 unfold kfit
 by_cases hg : bk kd < key.length
 ·rw [br_pos (by omega), if_pos hg, digests_f1 hK [key] (by simp) (by simpa using hk) (by simp; omega)]
  have e : [key].flatten = key := by simp
  rw [e, mac_stirred _ _ _ (by rw [dig_len hK]; omega) (by omega), mac_stirred _ _ _ (by rw [dig_len hK]; omega) (by omega)]
 ·rw [br_neg (by omega), if_neg hg, mac_stirred _ _ _ (by omega) (by omega), mac_stirred _ _ _ (by omega) (by omega)]
theorem keyed {kd : Int} {ρ : Type} (k : Bool → Option ρ) : P.mac_keyed kd k = k (decide (1 ≤ kd ∧ kd ≤ 5)) := by
 rw [P.mac_keyed_eq]; unfold P.mac_keyed_raw
 by_cases h1 : kd ≥ 1
 ·rw [br_pos h1]
  congr 1
  exact decide_eq_decide.2 ⟨fun h => ⟨h1, h⟩, fun h => h.2⟩
 ·rw [br_neg h1, decide_eq_false (fun h => h1 h.1)]
theorem mac_Hmac {kd : Int} (h : 1 ≤ kd ∧ kd ≤ 5) (key b : List Int) (hk : In 256 key) (hb : In 256 b) (nk : key.length ≤ 100000) (nb : b.length ≤ 900000) {ρ : Type} (k : List Int → Int → Option ρ) : P.mac_Hmac kd key b k = k (hmc kd key b) 0 := by
 have hK : K7 kd := K7.of (by omega)
 have h2 := bk_ok hK
 rw [P.mac_Hmac_eq]; unfold P.mac_Hmac_raw
 rw [keyed, decide_eq_true h, br_not, br_tt, mac_with h key hk nk, with_f1 hK [b] (by simp) (by simpa using hb) (by simp; omega) _ _ (stir_in _ _ _) (stir_in _ _ _) (by rw [stir_len]; omega) (by rw [stir_len]; omega)]
 simp [hmc]
theorem mac_Expand {kd : Int} (h : 1 ≤ kd ∧ kd ≤ 5) (key info : List Int) (hk : In 256 key) (hi : In 256 info) (nk : key.length ≤ 100000) (ni : info.length ≤ 100000) (n : Nat) (hn : n ≤ 255 * dl kd) {ρ : Type} (k : List Int → Int → Option ρ) :
    P.mac_Expand kd key info (n : Int) k = k (grow (exT kd key info) (dl kd) n) 0 := by
 have hK : K7 kd := K7.of (by omega)
 have hd := dl_pos hK
 have h2 := bk_ok hK
 have hc : cnt (dl kd) n ≤ 255 := cnt_le hn (by omega)
 have hcm := cnt_mul (n := n) (d := dl kd) (by omega)
 have hl := cat_len (exT_len hK key info)
 rw [P.mac_Expand_eq]; unfold P.mac_Expand_raw
 rw [keyed, decide_eq_true h, br_not, br_tt, br_neg (by omega), mac_Size, i64w (by omega) (by omega), br_neg (by omega), mac_with h key hk nk, P.mac_Expand_l8_eq]
 unfold P.mac_Expand_L8
 refine lp_go (fun i => (info, (n : Int), kd, stir (kfit kd key) (bk kd) 92, stir (kfit kd key) (bk kd) 54, exL kd key info i, ((i + 1 : Nat) : Int) % 256, cat (exT kd key info) i)) (cnt (dl kd) n) rfl (fun i hi' next hnx => ?_) (fun next => ?_) (by omega)
 ·have hlt := (cnt_lt (n := n) (d := dl kd) (i := i) (by omega)).1 hi'
  have hli := hl i
  have hL := exL_len hK key info i
  have hlen : ([exL kd key info i, info, [((i + 1 : Nat) : Int) % 256]] : List (List Int)).flatten = exL kd key info i ++ info ++ [((i + 1 : Nat) : Int) % 256] := by simp
  have hin : In 256 (exL kd key info i ++ info ++ [((i + 1 : Nat) : Int) % 256]) := ((exL_in _ _ _ i).app hi).app (fun x hx => by
   have : x = ((i + 1 : Nat) : Int) % 256 := by simpa using hx
   omega)
  have hle : (exL kd key info i ++ info ++ [((i + 1 : Nat) : Int) % 256]).length ≤ 200000 := by simp; omega
  have hb : i * dl kd ≤ 255 * 64 := Nat.mul_le_mul (by omega) (by omega)
  have hst := exT_step kd key info i
  unfold hmc at hst
  simp only [P.mac_Expand_r8]
  rw [br_pos (by omega), with_f1 hK _ (by simp) (by rw [hlen]; exact hin) (by rw [hlen]; omega) _ _ (stir_in _ _ _) (stir_in _ _ _) (by rw [stir_len]; omega) (by rw [stir_len]; omega), hlen, hst, br_pos (by rw [exT_len hK]; omega), u8m,
   show (((i + 1 : Nat) : Int) % 256 + 1) % 256 = ((i + 1 + 1 : Nat) : Int) % 256 by omega]
  exact hnx
 ·have hlc := hl (cnt (dl kd) n)
  simp only [P.mac_Expand_r8]
  rw [br_neg (by omega), br_pos (by omega), br_pos (by omega), br_pos (by omega), br_pos (by omega), List.drop_zero, toNat_cast]
  rfl
theorem hm1 : (hmc 1 [] []).take 4 = [182, 19, 103, 154] := by decide +kernel
theorem L09_awake {ρ : Type} (k : Bool → Option ρ) : P.L09_awake k = k true := by
 have hl : (hmc 1 [] []).length = 32 := hmc_len (.inl rfl) _ _
 rw [P.L09_awake_eq]; unfold P.L09_awake_raw
 rw [mac_Hmac (by decide) [] [] In.nil In.nil (by simp) (by simp)]
 have he := mac_Expand (kd := 1) (by decide) [] [] In.nil In.nil (by simp) (by simp) 0 (by omega) (ρ := ρ)
 have e0 : ((0 : Nat) : Int) = 0 := rfl
 rw [e0] at he
 rw [he, br_beq_pos rfl, hl, br_beq_pos (by rfl), br_pos (by decide), List.drop_zero, show ((4 : Int) - 0).toNat = 4 from rfl, hm1, R01_Same _ _ (by decide), decide_eq_true rfl, br_tt, br_beq_pos rfl, grow_len (exT_len (.inl rfl) [] []) (by decide), br_beq_pos (by rfl), mac_Size, show dl 9 = 0 from rfl]
 rfl
end Q
end

section
namespace Q
open QK
open Go Go.Abs
set_option linter.unusedVariables false
set_option linter.unusedSimpArgs false
theorem stir_zero (key : List Int) (n : Nat) (c : Int) : stir (key ++ [0]) n c = stir key n c := by
 have : ∀ i, (key ++ [0]).getD i 0 = key.getD i 0 := by
  intro i
  by_cases hi : i < key.length
  ·rw [getD_lt (by simp; omega), getD_lt hi, List.getElem_append_left hi]
  ·rw [getD_ge (l := key) (by omega)]
   by_cases he : i = key.length
   ·rw [List.getD_eq_getElem?_getD, List.getElem?_append_right (by omega), he, Nat.sub_self]; rfl
   ·rw [getD_ge (by simp; omega)]
 unfold stir
 simp only [this]
theorem bk_le {kd : Int} (h : 1 ≤ kd ∧ kd ≤ 5) : 64 ≤ bk kd ∧ bk kd ≤ 136 := by
 have : kd = 1 ∨ kd = 2 ∨ kd = 3 ∨ kd = 4 ∨ kd = 5 := by omega
 rcases this with rfl | rfl | rfl | rfl | rfl <;> decide
theorem hmc_zero {kd : Int} (h : 1 ≤ kd ∧ kd ≤ 5) (key b : List Int) (hk : key.length < 64) : hmc kd (key ++ [0]) b = hmc kd key b := by
 have h2 := bk_le h
 unfold hmc kfit
 rw [if_neg (by rw [List.length_append, List.length_singleton]; omega), if_neg (by omega), stir_zero, stir_zero]
theorem hmc_long {kd : Int} (h : 1 ≤ kd ∧ kd ≤ 5) (key b : List Int) (hk : 136 < key.length) : hmc kd (dig kd key) b = hmc kd key b := by
 have hK : K7 kd := K7.of (by omega)
 have h2 := bk_le h
 have hd := dl_pos hK
 unfold hmc kfit
 rw [if_pos (show bk kd < key.length by omega), if_neg (by rw [dig_len hK]; omega)]
theorem wu8 (x : Int) (h : 0 ≤ x ∧ x < 256) : IntKind.i64.wrap x = x := i64w (by omega) (by omega)
theorem starts_end {kd : Int} (h : 1 ≤ kd ∧ kd ≤ 5) (x1 x2 : List Int) (h1 : In 256 x1) (h2 : In 256 x2) (n1 : x1.length ≤ 400) (n2 : x2.length ≤ 400) {ρ : Type} (k : Bool → Option ρ) :
    (P.mac_Hmac kd x1 x2 fun (q12 : List Int) (q13 : Int) =>
     br (decide ((x1.length : Int) < (64 : Int)))
      (br (decide ((0 + x1.length) * 1 ≤ 140737488355328))
       (br (decide ((([] ++ x1).length + 1) * 1 ≤ 140737488355328))
        (P.mac_Hmac kd ([] ++ x1 ++ [(0 : Int)]) x2 fun (q14 : List Int) (q15 : Int) =>
         P.R01_Same q12 q14 fun (q16 : Bool) =>
          br q16 (P.R09_Size kd fun (q17 : Int) => br ((q12.length : Int) == q17) (P.L09_awake fun (q18 : Bool) => k q18) (k false)) (k false)) none) none)
      (br (decide ((x1.length : Int) > (136 : Int)))
       (P.mac_Digest kd x1 fun (q19 : List Int) (q20 : Int) =>
        P.mac_Hmac kd q19 x2 fun (q21 : List Int) (q22 : Int) =>
         P.R01_Same q12 q21 fun (q23 : Bool) =>
          br q23 (P.R09_Size kd fun (q24 : Int) => br ((q12.length : Int) == q24) (P.L09_awake fun (q25 : Bool) => k q25) (k false)) (k false))
       (P.R09_Size kd fun (q26 : Int) => br ((q12.length : Int) == q26) (P.L09_awake fun (q27 : Bool) => k q27) (k false)))) = k true := by
 have hK : K7 kd := K7.of (by omega)
 have hd := dl_pos hK
 have hl := hmc_len hK x1 x2
 have fin : (P.R09_Size kd fun (q17 : Int) => br (((hmc kd x1 x2).length : Int) == q17) (P.L09_awake fun (q18 : Bool) => k q18) (k false)) = k true := by
  rw [R09_Size, hl, br_beq_pos rfl, L09_awake]
 rw [mac_Hmac h x1 x2 h1 h2 (by omega) (by omega)]
 by_cases hs : (x1.length : Int) < 64
 ·have hz : In 256 (x1 ++ [0]) := h1.app (fun x hx => by
    have : x = 0 := by simpa using hx
    omega)
  rw [br_pos hs, br_pos (by omega), br_pos (by simp; omega), List.nil_append, mac_Hmac h (x1 ++ [0]) x2 hz h2 (by simp; omega) (by omega), hmc_zero h x1 x2 (by omega), R01_Same _ _ (by omega), decide_eq_true rfl, br_tt]
  exact fin
 ·rw [br_neg hs]
  by_cases hg : (x1.length : Int) > 136
  ·rw [br_pos hg, mac_Digest hK x1 h1 (by omega), mac_Hmac h (dig kd x1) x2 (dig_in _ _) h2 (by rw [dig_len hK]; omega) (by omega), hmc_long h x1 x2 (by omega), R01_Same _ _ (by omega), decide_eq_true rfl, br_tt]
   exact fin
  ·rw [br_neg hg]
   exact fin
theorem MacStarts (x0 : Int) (x1 : List Int) (x2 : List Int) (x3 : Int) (x4 : Int) (wx0 : wfI .u8 x0) (nx1 : x1.length ≤ 140737488355328) (wx1 : ∀ x, x ∈ x1 → wfI .u8 x) (nx2 : x2.length ≤ 140737488355328) (wx2 : ∀ x, x ∈ x2 → wfI .u8 x) (wx3 : wfI .u8 x3) (wx4 : wfI .u8 x4) {ρ : Type} (k : Bool → Option ρ) : P.L09_MacStarts x0 x1 x2 x3 x4 k = k true := by
 have h1 := in_u8 wx1
 have h2 := in_u8 wx2
 have w0 := wf_u8 wx0
 have w3 := wf_u8 wx3
 have w4 := wf_u8 wx4
 rw [P.L09_MacStarts_eq]; unfold P.L09_MacStarts_raw
 by_cases n1 : (x1.length : Int) > 400
 ·rw [br_pos n1, L09_awake]
 rw [br_neg n1]
 by_cases n2 : (x2.length : Int) > 400
 ·rw [br_pos n2, L09_awake]
 rw [br_neg n2]
 have e0 : IntKind.i64.wrap ((1 : Int) + IntKind.i64.wrap (x0.tmod (5 : Int))) = 1 + x0 % 5 := by
  rw [Int.tmod_eq_emod_of_nonneg (by omega), i64w (x := x0 % 5) (by omega) (by omega), i64w (by omega) (by omega)]
 rw [e0]
 have hk5 : 1 ≤ 1 + x0 % 5 ∧ 1 + x0 % 5 ≤ 5 := by omega
 generalize 1 + x0 % 5 = kd at hk5
 have hK : K7 kd := K7.of (by omega)
 have hd := dl_pos hK
 obtain ⟨n, rfl⟩ := Int.eq_ofNat_of_zero_le w3.1
 obtain ⟨m, rfl⟩ := Int.eq_ofNat_of_zero_le w4.1
 rw [wu8 _ w3, wu8 _ w4, i64w (x := (n : Int) + (m : Int)) (by omega) (by omega), show (n : Int) + (m : Int) = ((n + m : Nat) : Int) by omega]
 have hn : (n : Int) < 256 := w3.2
 have hm : (m : Int) < 256 := w4.2
 have g1 := grow_len (exT_len hK x1 x2) (by omega) (n + m)
 have g2 := grow_take (exT_len hK x1 x2) (by omega) (show n ≤ n + m by omega)
 have g3 := grow_len (exT_len hK x1 x2) (by omega) n
 rw [mac_Expand hk5 x1 x2 h1 h2 (by omega) (by omega) n (by omega), mac_Expand hk5 x1 x2 h1 h2 (by omega) (by omega) (n + m) (by omega)]
 rw [br_bne_neg rfl, br_bne_neg rfl, g1, br_bne_neg rfl, br_pos (by omega), br_pos (by omega), toNat_cast, List.drop_zero, g2, R01_Same _ _ (by omega), decide_eq_true rfl, br_not, br_tt]
 by_cases h3 : kd ≤ 3
 ·have f1 := grow_len (T := maT kd x2) (fun i => dig_len hK _) (by omega) (n + m)
  have f2 := grow_take (T := maT kd x2) (fun i => dig_len hK _) (by omega) (show n ≤ n + m by omega)
  have f3 := grow_len (T := maT kd x2) (fun i => dig_len hK _) (by omega) n
  rw [br_pos h3, mac_Mask (by omega) x2 h2 (by omega) n (by omega), mac_Mask (by omega) x2 h2 (by omega) (n + m) (by omega)]
  rw [br_bne_neg rfl, br_bne_neg rfl, f1, br_bne_neg rfl, br_pos (by omega), br_pos (by omega), List.drop_zero, f2, R01_Same _ _ (by omega), decide_eq_true rfl, br_not, br_tt]
  exact starts_end hk5 x1 x2 h1 h2 (by omega) (by omega) k
 ·rw [br_neg h3]
  exact starts_end hk5 x1 x2 h1 h2 (by omega) (by omega) k
end Q
end
