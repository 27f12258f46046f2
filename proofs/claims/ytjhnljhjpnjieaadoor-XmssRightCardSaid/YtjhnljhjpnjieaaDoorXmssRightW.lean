/-
  XmssRight, part 23: an interpreter of my own over abstract values, the pure functions, the walks and the plain law.
-/

import Derived.Test.YtjhnljhjpnjieaaDoorXmssRightV
import Derived.Test.YtjhnljhjpnjieaaDoorXmssRightH
import Derived.Test.YtjhnljhjpnjieaaDoorXmssRightI
import Derived.Test.YtjhnljhjpnjieaaDoorXmssRightJ

section
/- SHA-2: blocks one behind the other, words of 64 bits. -/
namespace Q
open Go Go.Abs
set_option linter.unusedVariables false
set_option linter.unusedSimpArgs false
theorem t64_l3 (words b : List Int) (rd : Int) (t0 t1 t2 t3 h1 h2 : List Int) (hi : In 18446744073709551616 words) {ρ : Type} (k0 : List Int → List Int → Int → Int → Int → List Int → List Int → List Int → List Int → List Int → List Int → List Int → Option ρ) :
    P.sha_through_uint64_l3 b words 0 64 rd t0 t1 t2 t3 h1 h2 (List.replicate 8 0) k0 = k0 b words 8 64 rd t0 t1 t2 t3 h1 h2 (cv (toV 64 words)) := by
 rw [P.sha_through_uint64_l3_eq]
 unfold P.sha_through_uint64_L3
 refine lp_go (fun i => (b, words, (i : Int), 64, rd, t0, t1, t2, t3, h1, h2, cv ((List.range i).map fun i => BitVec.ofInt 64 (words.getD i 0)) ++ List.replicate (8 - i) 0)) 8 (by simp [cv]) (fun i hi' next hn' => ?_) (fun next => ?_) (by omega)
 ·simp only [P.sha_through_uint64_r3, toNat_cast]
  have e4 : IntKind.i64.wrap ((i : Int) + 1) = ((i + 1 : Nat) : Int) := by rw [i64w (by omega) (by omega)]; omega
  have e6 : words.getD i 0 = ((BitVec.ofInt 64 (words.getD i 0)).toNat : Int) := by
   have := hi.getD i (by omega)
   rw [BitVec.toNat_ofInt]
   omega
  have e5 : (cv ((List.range i).map fun i => BitVec.ofInt 64 (words.getD i 0)) ++ List.replicate (8 - i) (0 : Int)).set i ((BitVec.ofInt 64 (words.getD i 0)).toNat : Int) = cv ((List.range (i + 1)).map fun i => BitVec.ofInt 64 (words.getD i 0)) ++ List.replicate (8 - (i + 1)) 0 := by
   rw [List.set_append_right _ _ (by simp), cv_length, List.length_map, List.length_range, Nat.sub_self, show 8 - i = (8 - (i + 1)) + 1 by omega, List.replicate_succ, List.set_cons_zero, List.range_succ, List.map_append, ← cv_append, List.append_assoc]
   rfl
  rw [br_pos (by omega), br_pos (by omega), br_pos (by omega), br_pos (by omega), br_pos (by omega), e6, e5, e4]
  exact hn'
 ·simp only [P.sha_through_uint64_r3]
  rw [br_neg (by omega)]
  simp [toV]
theorem t64_l8 (v : List (BitVec 64)) (hv : v.length = 8) (b : List Int) (hb : In 256 b) (hn : b.length ≤ 1000000) (h1 h2 : List Int) {ρ : Type} (k0 : List Int → Int → List Int → List Int → List Int → Int → Int → List Int → List Int → List Int → List Int → Option ρ) :
    P.sha_through_uint64_l8 b 128 (cv v) h2 h1 64 80 [1, 8, 7] [19, 61, 6] [28, 34, 39] [14, 18, 41] k0 =
     k0 (rest 128 b) 128 (cv (thr p64 v b (b.length / 128))) h2 h1 64 80 [1, 8, 7] [19, 61, 6] [28, 34, 39] [14, 18, 41] := by
 rw [P.sha_through_uint64_l8_eq]
 unfold P.sha_through_uint64_L8
 refine lp_go (fun i => (b.drop (128 * i), 128, cv (thr p64 v b i), h2, h1, 64, 80, [1, 8, 7], [19, 61, 6], [28, 34, 39], [14, 18, 41])) (b.length / 128) (by simp [thr]) (fun i hi next hn' => ?_) (fun next => ?_) (by omega)
 ·simp only [P.sha_through_uint64_r8]
  have hlen : (b.drop (128 * i)).length = b.length - 128 * i := by simp
  have hge : 128 ≤ b.length - 128 * i := by omega
  simp only [hlen, show (128 : Int).toNat = 128 from rfl, toNat_cast, List.drop_zero]
  have hbl : ((b.drop (128 * i)).take 128).length = 16 * 8 := by rw [List.length_take, hlen]; omega
  rw [br_pos (by omega), br_pos (by omega), br_pos (by omega), e64_block _ (thr_len _ _ hv _ _) _ ((hb.drop _).take _) hbl, br_pos (by omega), br_pos (by omega), br_pos (by omega),
   List.take_of_length_le (by rw [hlen]; omega), List.drop_drop, show 128 * i + 128 = 128 * (i + 1) by omega]
  exact hn'
 ·simp only [P.sha_through_uint64_r8]
  have hlen : (b.drop (128 * (b.length / 128))).length = b.length - 128 * (b.length / 128) := by simp
  rw [br_neg (by rw [hlen]; omega)]
  rfl
theorem t64_l12 (v : List (BitVec 64)) (hv : v.length = 8) (b : List Int) (words h2 : List Int) (hl : words.length = 8) {ρ : Type} (k0 : List Int → List Int → Int → List Int → List Int → Option ρ) :
    P.sha_through_uint64_l12 b (cv v) 0 words h2 k0 = k0 b (cv v) 8 (cv v) h2 := by
 rw [P.sha_through_uint64_l12_eq]
 unfold P.sha_through_uint64_L12
 refine lp_go (fun i => (b, cv v, (i : Int), (cv v).take i ++ words.drop i, h2)) 8 (by simp) (fun i hi next hn' => ?_) (fun next => ?_) (by omega)
 ·simp only [P.sha_through_uint64_r12, toNat_cast]
  have e4 : IntKind.i64.wrap ((i : Int) + 1) = ((i + 1 : Nat) : Int) := by rw [i64w (by omega) (by omega)]; omega
  have e5 : ((cv v).take i ++ words.drop i).set i ((cv v).getD i 0) = (cv v).take (i + 1) ++ words.drop (i + 1) := by
   rw [List.set_append_right _ _ (by rw [List.length_take]; omega), List.length_take, cv_length, hv, Nat.min_eq_left (by omega), Nat.sub_self, List.drop_eq_getElem_cons (by omega), List.set_cons_zero, ← take_step (cv v) 0 i (by rw [cv_length]; omega), List.append_assoc]
   rfl
  rw [br_pos (by omega), br_pos (by omega), br_pos (by omega), br_pos (by omega), br_pos (by omega), e5, e4]
  exact hn'
 ·simp only [P.sha_through_uint64_r12]
  rw [br_neg (by omega), List.drop_eq_nil_of_le (by omega), List.append_nil, List.take_of_length_le (by rw [cv_length]; omega)]
  rfl
theorem t64_through (words b : List Int) (hl : words.length = 8) (hi : In 18446744073709551616 words) (hb : In 256 b) (hn : b.length ≤ 1000000) {ρ : Type} (k : List Int → List Int → Option ρ) :
    P.sha_through_uint64 64 80 [1, 8, 7] [19, 61, 6] [28, 34, 39] [14, 18, 41] words b k = k (cv (thr p64 (toV 64 words) b (b.length / 128))) (rest 128 b) := by
 rw [P.sha_through_uint64_eq]
 unfold P.sha_through_uint64_raw
 refine (t64_l3 words b 80 [1, 8, 7] [19, 61, 6] [28, 34, 39] [14, 18, 41] words (List.replicate 8 0) hi _).trans ?_
 rw [show IntKind.i64.wrap ((64 : Int) * 2) = 128 from rfl, t64_l8 _ (toV_len _ _) b hb hn, t64_l12 _ (thr_len _ _ (toV_len _ _) _ _) _ _ _ hl]
end Q
end

section
open Go Go.Abs
set_option linter.unusedVariables false
namespace P
end P
end

section
/- Are two rows of bytes the same. -/
namespace Q
open Go Go.Abs
set_option linter.unusedVariables false
set_option linter.unusedSimpArgs false
end Q
end

section
open Go Go.Abs
set_option linter.unusedVariables false
namespace P
end P
end

section
open Go Go.Abs
set_option linter.unusedVariables false
namespace P
end P
end

section
open Go Go.Abs
set_option linter.unusedVariables false
namespace P
end P
end

section
open Go Go.Abs
set_option linter.unusedVariables false
namespace P
end P
end

section
open Go Go.Abs
set_option linter.unusedVariables false
namespace P
end P
end

section
/- SHA-2: sums that go on, and their ends. -/
namespace Q
open Go Go.Abs
set_option linter.unusedVariables false
set_option linter.unusedSimpArgs false
def bsz (kind : Int) : Nat := if kind = 1 then 64 else 128
theorem bsz_or (kind : Int) : (kind = 1 ∧ bsz kind = 64) ∨ (kind ≠ 1 ∧ bsz kind = 128) := by
 unfold bsz
 by_cases h : kind = 1
 ·exact .inl ⟨h, if_pos h⟩
 ·exact .inr ⟨h, if_neg h⟩
theorem sha_blockSize (kind : Int) {ρ : Type} (k : Int → Option ρ) : P.sha_blockSize kind k = k ((bsz kind : Nat) : Int) := by
 rw [P.sha_blockSize_eq]; unfold P.sha_blockSize_raw
 rcases bsz_or kind with ⟨h, e⟩ | ⟨h, e⟩
 ·rw [br_beq_pos h, e]; rfl
 ·rw [br_beq_neg h, e]; rfl
def addW (kind : Int) (words all : List Int) : List Int :=
 if kind = 1 then cv (thr p32 (toV 32 words) all (all.length / 64)) else cv (thr p64 (toV 64 words) all (all.length / 128))
theorem addW_len (kind : Int) (words all : List Int) : (addW kind words all).length = 8 := by
 unfold addW
 split <;> rw [cv_length, thr_len _ _ (toV_len _ _)]
def Wok (kind : Int) (words : List Int) : Prop := words.length = 8 ∧ In 18446744073709551616 words ∧ (kind = 1 → In 4294967296 words)
theorem addW_ok (kind : Int) (words all : List Int) : Wok kind (addW kind words all) := by
 refine ⟨addW_len _ _ _, ?_, fun h => ?_⟩
 ·unfold addW
  split
  ·intro x hx
   have := cv_in _ x hx
   omega
  ·intro x hx
   have := cv_in _ x hx
   omega
 ·unfold addW
  rw [if_pos h]
  intro x hx
  have := cv_in _ x hx
  omega
theorem rest_len (n : Nat) (hn : 0 < n) (b : List Int) : (rest n b).length = b.length % n := by
 unfold rest
 rw [List.length_drop]
 have := Nat.div_add_mod b.length n
 omega
theorem rest_in {n : Nat} {b : List Int} (h : In 256 b) : In 256 (rest n b) := h.drop _
theorem sha_small {ρ : Type} (k : Int → Int → List Int → List Int → List Int → List Int → Option ρ) : P.sha_small k = k 32 64 [7, 18, 3] [17, 19, 10] [2, 13, 22] [6, 11, 25] := by rw [P.sha_small_eq]; rfl
theorem sha_great {ρ : Type} (k : Int → Int → List Int → List Int → List Int → List Int → Option ρ) : P.sha_great k = k 64 80 [1, 8, 7] [19, 61, 6] [28, 34, 39] [14, 18, 41] := by rw [P.sha_great_eq]; rfl
theorem sha_Add (kind : Int) (words tail : List Int) (size : Int) (b : List Int) (hl : words.length = 8) (hi : In 18446744073709551616 words) (ht : In 256 tail) (hb : In 256 b) (hn : tail.length + b.length ≤ 1000000) {ρ : Type} (k : Int → List Int → List Int → Int → Option ρ) :
    P.sha_Add kind words tail size b k = k kind (addW kind words (tail ++ b)) (rest (bsz kind) (tail ++ b)) (IntKind.u64.wrap (size + IntKind.u64.wrap (b.length : Int))) := by
 rw [P.sha_Add_eq]; unfold P.sha_Add_raw
 have hf : [tail, b].flatten = tail ++ b := by simp
 have hall : (tail ++ b).length ≤ 1000000 := by rw [List.length_append]; exact hn
 have hin : In 256 (tail ++ b) := ht.app hb
 have hr : ∀ n, (rest n (tail ++ b)).length ≤ 1000000 := fun n => by unfold rest; rw [List.length_drop]; omega
 rw [slices_Concat_byte _ (by simp) (by rw [hf]; omega), hf]
 rcases bsz_or kind with ⟨h, e⟩ | ⟨h, e⟩
 ·rw [br_beq_pos h, sha_small, e]
  rw [t32_through words _ hl hi hin hall]
  unfold P.slices_Clone_byte addW
  have := hr 64
  rw [br_pos (by omega), if_pos h]
 ·rw [br_beq_neg h, sha_great, e]
  rw [t64_through words _ hl hi hin hall]
  unfold P.slices_Clone_byte addW
  have := hr 128
  rw [br_pos (by omega), if_neg h]
def padZ (kind : Int) (tl : Nat) : Nat := if kind = 1 then (119 - tl) % 64 else (239 - tl) % 128 + 8
def pad (kind : Int) (tl : Nat) (size : Nat) : List Int := 128 :: List.replicate (padZ kind tl) 0 ++ (bsw 8 8 (size * 8 % 2 ^ 64)).reverse
def outI (n : Nat) (words : List Int) (i : Nat) : List Int := ((List.range i).map fun j => (bsw 8 n (words.getD j 0).toNat).reverse).flatten
theorem outI_succ (n : Nat) (words : List Int) (i : Nat) : outI n words (i + 1) = outI n words i ++ (bsw 8 n (words.getD i 0).toNat).reverse := by simp [outI, List.range_succ]
theorem outI_len (n : Nat) (words : List Int) : ∀ i, (outI n words i).length = n * i
 | 0 => by simp [outI]
 | i + 1 => by rw [outI_succ, List.length_append, outI_len n words i, List.length_reverse, bsw_length, Nat.mul_succ]
theorem outI_in (n : Nat) (words : List Int) : ∀ i, In 256 (outI n words i)
 | 0 => by simp [outI, In]
 | i + 1 => by rw [outI_succ]; exact (outI_in n words i).app (bsw_in 8 n _).rev
def endS (kind : Int) (words tail : List Int) (size : Nat) : List Int :=
 let o := outI (bsz kind / 16) (addW kind words (tail ++ pad kind tail.length size)) 8
 if kind = 2 then o.take 48 else o
theorem endS_in (kind : Int) (words tail : List Int) (size : Nat) : In 256 (endS kind words tail size) := by
 unfold endS
 simp only
 split
 ·exact (outI_in _ _ _).take _
 ·exact outI_in _ _ _
theorem endS_len (kind : Int) (words tail : List Int) (size : Nat) : (endS kind words tail size).length = if kind = 1 then 32 else if kind = 2 then 48 else 64 := by
 unfold endS
 simp only
 rcases bsz_or kind with ⟨h, e⟩ | ⟨h, e⟩
 ·rw [if_neg (by omega), if_pos h, outI_len, e]
 ·rw [if_neg h, e]
  split
  ·rw [List.length_take, outI_len]; decide
  ·rw [outI_len]
theorem tmN (a b : Nat) : ((a : Nat) : Int).tmod (b : Int) = ((a % b : Nat) : Int) := by
 rw [Int.tmod_eq_emod_of_nonneg (by omega)]; rfl
theorem pad_in (kind : Int) (tl size : Nat) : In 256 (pad kind tl size) := by
 unfold pad
 refine In.app ?_ (bsw_in 8 8 _).rev
 intro x hx
 rcases List.mem_cons.1 hx with rfl | hx
 ·omega
 ·rw [List.mem_replicate] at hx; omega
theorem pad_len (kind : Int) (tl size : Nat) : (pad kind tl size).length = padZ kind tl + 9 := by
 unfold pad; simp
theorem padZ_le (kind : Int) (tl : Nat) : padZ kind tl ≤ 200 := by
 unfold padZ; split <;> omega
theorem sha_outs (n : Nat) (hn : n = 64 ∨ n = 128) (words : List Int) (hw : In 18446744073709551616 words) (a : Int) (b : List Int) (c : Int) (d : List Int) {ρ : Type} (k0 : Int → List Int → Int → List Int → Int → List Int → Int → List Int → Option ρ) :
    P.sha_End_l10 (n : Int) words 0 [] a b c d k0 = k0 (n : Int) words 8 (outI (n / 16) words 8) a b c d := by
 rw [P.sha_End_l10_eq]
 unfold P.sha_End_L10
 have e16 : IntKind.i64.wrap ((n : Int).tdiv 16) = ((n / 16 : Nat) : Int) := by rcases hn with rfl | rfl <;> rfl
 refine lp_go (fun i => ((n : Int), words, (i : Int), outI (n / 16) words i, a, b, c, d)) 8 rfl (fun i hi next hn' => ?_) (fun next => ?_) (by omega)
 ·simp only [P.sha_End_r10, toNat_cast]
  have h1 := hw.getD i (by omega)
  have e4 : IntKind.i64.wrap ((i : Int) + 1) = ((i + 1 : Nat) : Int) := by rw [i64w (by omega) (by omega)]; omega
  have e5 : words.getD i 0 = (((words.getD i 0).toNat : Nat) : Int) := by omega
  rw [outI_succ] at hn'
  rw [br_pos (by omega), br_pos (by omega), br_pos (by omega), e16, e5, bits_Be _ _ (by omega) (by omega), e4]
  rw [br_pos (by rw [outI_len, List.length_reverse, bsw_length]; rcases hn with rfl | rfl <;> omega)]
  exact hn'
 ·simp only [P.sha_End_r10]
  rw [br_neg (by omega)]
  rfl
theorem shl3 (size : Nat) : IntKind.u64.wrap ((size : Int) * (2 : Int) ^ 3) = ((size * 8 % 2 ^ 64 : Nat) : Int) := by
 rw [u64m]; omega
theorem sha_End (kind : Int) (words tail : List Int) (size : Nat) (hl : words.length = 8) (hi : In 18446744073709551616 words) (ht : In 256 tail) (hn : tail.length < bsz kind) {ρ : Type} (k : List Int → Option ρ) :
    P.sha_End kind words tail (size : Int) k = k (endS kind words tail size) := by
 rw [P.sha_End_eq]; unfold P.sha_End_raw
 rw [sha_blockSize]
 have hz : IntKind.i64.wrap (IntKind.i64.wrap ((IntKind.i64.wrap (IntKind.i64.wrap (IntKind.i64.wrap (IntKind.i64.wrap ((2 : Int) * ((bsz kind : Nat) : Int)) - (1 : Int)) - IntKind.i64.wrap (((bsz kind : Nat) : Int).tdiv (8 : Int))) - (tail.length : Int))).tmod ((bsz kind : Nat) : Int) + IntKind.i64.wrap (((bsz kind : Nat) : Int).tdiv (8 : Int))) - (8 : Int)) = ((padZ kind tail.length : Nat) : Int) := by
  unfold padZ
  rcases bsz_or kind with ⟨h, e⟩ | ⟨h, e⟩
  ·rw [e] at hn ⊢
   rw [if_pos h, show IntKind.i64.wrap (IntKind.i64.wrap (IntKind.i64.wrap ((2 : Int) * ((64 : Nat) : Int)) - (1 : Int)) - IntKind.i64.wrap (((64 : Nat) : Int).tdiv (8 : Int))) = 119 from rfl, i64w (x := (119 : Int) - (tail.length : Int)) (by omega) (by omega),
    show (119 : Int) - (tail.length : Int) = ((119 - tail.length : Nat) : Int) by omega, tmN, show IntKind.i64.wrap (((64 : Nat) : Int).tdiv (8 : Int)) = 8 from rfl, i64w (x := ((((119 - tail.length) % 64 : Nat) : Int)) + 8) (by omega) (by omega), i64w (by omega) (by omega)]
   omega
  ·rw [e] at hn ⊢
   rw [if_neg h, show IntKind.i64.wrap (IntKind.i64.wrap (IntKind.i64.wrap ((2 : Int) * ((128 : Nat) : Int)) - (1 : Int)) - IntKind.i64.wrap (((128 : Nat) : Int).tdiv (8 : Int))) = 239 from rfl, i64w (x := (239 : Int) - (tail.length : Int)) (by omega) (by omega),
    show (239 : Int) - (tail.length : Int) = ((239 - tail.length : Nat) : Int) by omega, tmN, show IntKind.i64.wrap (((128 : Nat) : Int).tdiv (8 : Int)) = 16 from rfl, i64w (x := ((((239 - tail.length) % 128 : Nat) : Int)) + 16) (by omega) (by omega), i64w (by omega) (by omega)]
   omega
 have hb : bsz kind = 64 ∨ bsz kind = 128 := by rcases bsz_or kind with ⟨h, e⟩ | ⟨h, e⟩ <;> omega
 have hz2 := padZ_le kind tail.length
 rw [hz]
 simp only [toNat_cast]
 rw [br_pos (by omega), br_pos (by omega), br_neg (by omega), br_pos (by omega), br_pos (by omega), shl3, show (8 : Int) = ((8 : Nat) : Int) from rfl, bits_Be _ 8 (by omega) (by omega)]
 have hp : (List.replicate 1 (0 : Int)).set 0 (128 : Int) ++ List.replicate (padZ kind tail.length) (0 : Int) ++ (bsw 8 8 (size * 8 % 2 ^ 64)).reverse = pad kind tail.length size := rfl
 rw [br_pos (by
  show ((List.replicate (padZ kind tail.length) (0 : Int)).length + 0 + 1 + _) * 1 ≤ _
  rw [List.length_replicate, List.length_reverse, bsw_length]; omega), hp]
 have hpl := pad_len kind tail.length size
 rw [sha_Add kind words tail _ _ hl hi ht (pad_in _ _ _) (by omega), sha_outs _ hb _ (addW_ok _ _ _).2.1]
 unfold endS
 simp only
 by_cases h2 : kind = 2
 ·have e : bsz kind = 128 := by unfold bsz; rw [if_neg (by omega)]
  rw [br_beq_pos h2, br_pos (by rw [outI_len, e]; omega), if_pos h2]
  rfl
 ·rw [br_beq_neg h2, if_neg h2]
def newW (kind : Int) : List Int :=
 if kind = 1 then [1779033703, 3144134277, 1013904242, 2773480762, 1359893119, 2600822924, 528734635, 1541459225]
 else if kind = 2 then [14680500436340154072, 7105036623409894663, 10473403895298186519, 1526699215303891257, 7436329637833083697, 10282925794625328401, 15784041429090275239, 5167115440072839076]
 else [7640891576956012808, 13503953896175478587, 4354685564936845355, 11912009170470909681, 5840696475078001361, 11170449401992604703, 2270897969802886507, 6620516959819538809]
theorem newW_ok (kind : Int) : Wok kind (newW kind) := by
 unfold newW Wok
 by_cases h1 : kind = 1
 ·simp only [if_pos h1]
  refine ⟨rfl, ?_, fun _ => ?_⟩
  ·unfold In; decide
  ·unfold In; decide
 ·by_cases h2 : kind = 2
  ·simp only [if_neg h1, if_pos h2]
   refine ⟨rfl, ?_, fun h => absurd h h1⟩
   unfold In; decide
  ·simp only [if_neg h1, if_neg h2]
   refine ⟨rfl, ?_, fun h => absurd h h1⟩
   unfold In; decide
def K3 (kind : Int) : Prop := kind = 1 ∨ kind = 2 ∨ kind = 3
theorem sha_begin_k {kind : Int} (h : K3 kind) {ρ : Type} (k : List Int → Bool → Option ρ) : P.sha_begin kind k = k (newW kind) true := by
 rw [P.sha_begin_eq]
 rcases h with rfl | rfl | rfl <;> kernel_rfl
theorem sha_New {kind : Int} (h : K3 kind) {ρ : Type} (k : Int → List Int → List Int → Int → Int → Option ρ) : P.sha_New kind k = k kind (newW kind) [] 0 0 := by
 rw [P.sha_New_eq]; unfold P.sha_New_raw
 rw [sha_begin_k h, br_not, br_tt]
theorem bsz_pos (kind : Int) : 0 < bsz kind := by rcases bsz_or kind with ⟨h, e⟩ | ⟨h, e⟩ <;> omega
def sumS (kind : Int) (b : List Int) : List Int := endS kind (addW kind (newW kind) b) (rest (bsz kind) b) b.length
theorem size_add (b : List Int) (hn : b.length ≤ 1000000) : IntKind.u64.wrap ((0 : Int) + IntKind.u64.wrap (b.length : Int)) = ((b.length : Nat) : Int) := by
 rw [u64n _ (by omega), Int.zero_add, u64n _ (by omega)]
theorem sumS_in (kind : Int) (b : List Int) : In 256 (sumS kind b) := endS_in _ _ _ _
theorem sumS_len (kind : Int) (b : List Int) : (sumS kind b).length = if kind = 1 then 32 else if kind = 2 then 48 else 64 := endS_len _ _ _ _
end Q
end

section
open Go Go.Abs
set_option linter.unusedVariables false
namespace P
end P
end

section
/- SHA-2: which sums can be, which are the same; the examples. -/
namespace Q
open Go Go.Abs
set_option linter.unusedVariables false
set_option linter.unusedSimpArgs false
theorem first (p : Nat → Bool) : ∀ n, ∃ m, m ≤ n ∧ (∀ i, i < m → p i = true) ∧ (m = n ∨ (m < n ∧ p m = false))
 | 0 => ⟨0, by omega, by omega, .inl rfl⟩
 | n + 1 => by
  obtain ⟨m, h1, h2, h3⟩ := first p n
  rcases h3 with h3 | ⟨h3, h4⟩
  ·subst h3
   cases hp : p m with
   | true => exact ⟨m + 1, by omega, fun i hi => by
       by_cases e : i = m
       ·rw [e]; exact hp
       ·exact h2 i (by omega), .inl rfl⟩
   | false => exact ⟨m, by omega, h2, .inr ⟨by omega, hp⟩⟩
  ·exact ⟨m, by omega, h2, .inr ⟨by omega, h4⟩⟩
end Q
end

section
open Go Go.Abs
set_option linter.unusedVariables false
namespace P
end P
end

section
open Go Go.Abs
set_option linter.unusedVariables false
namespace P
end P
end

section
open Go Go.Abs
set_option linter.unusedVariables false
namespace P
end P
end

section
open Go Go.Abs
set_option linter.unusedVariables false
namespace P
end P
end

section
open Go Go.Abs
set_option linter.unusedVariables false
namespace P
end P
end

section
open Go Go.Abs
set_option linter.unusedVariables false
namespace P
end P
end

section
open Go Go.Abs
set_option linter.unusedVariables false
namespace P
end P
end

section
open Go Go.Abs
set_option linter.unusedVariables false
namespace P
end P
end

section
open Go Go.Abs
set_option linter.unusedVariables false
namespace P
end P
end

section
open Go Go.Abs
set_option linter.unusedVariables false
namespace P
end P
end

section
open Go Go.Abs
set_option linter.unusedVariables false
namespace P
end P
end

section
/- mac: digests, with keys and without. -/
namespace Q
open QK
open Go Go.Abs
set_option linter.unusedVariables false
set_option linter.unusedSimpArgs false
def K7 (kd : Int) : Prop := kd = 1 ∨ kd = 2 ∨ kd = 3 ∨ kd = 4 ∨ kd = 5 ∨ kd = 6 ∨ kd = 7
theorem K7.of {kd : Int} (h : 1 ≤ kd ∧ kd ≤ 7) : K7 kd := by unfold K7; omega
def bk (kd : Int) : Nat := if kd ≤ 3 then bsz kd else rOf kd
end Q
end

section
open Go Go.Abs
set_option linter.unusedVariables false
namespace P
end P
end

section
open Go Go.Abs
set_option linter.unusedVariables false
namespace P
end P
end

section
open Go Go.Abs
set_option linter.unusedVariables false
namespace P
end P
end

section
/- mac: bytes of keys and of seeds. -/
namespace Q
open QK
open Go Go.Abs
set_option linter.unusedVariables false
set_option linter.unusedSimpArgs false
def cat (T : Nat → List Int) : Nat → List Int
 | 0 => []
 | j + 1 => cat T j ++ T j
theorem cat_len {T : Nat → List Int} {d : Nat} (h : ∀ i, (T i).length = d) : ∀ j, (cat T j).length = j * d
 | 0 => by simp [cat]
 | j + 1 => by rw [cat, List.length_append, cat_len h j, h, Nat.succ_mul]
theorem cat_in {T : Nat → List Int} (h : ∀ i, In 256 (T i)) : ∀ j, In 256 (cat T j)
 | 0 => In.nil
 | j + 1 => (cat_in h j).app (h j)
end Q
end

section
/- SHA-2: bytes that are added one behind the other. -/
namespace Q
open Go Go.Abs
set_option linter.unusedVariables false
set_option linter.unusedSimpArgs false
theorem thr_append {w : Nat} (p : Par w) (v : List (BitVec w)) (a b : List Int) (m : Nat) (hm : (2 * w) * m = a.length) : ∀ i, thr p v (a ++ b) (m + i) = thr p (thr p v a m) b i ∧ thr p v (a ++ b) m = thr p v a m := by
 have key : ∀ i, i ≤ m → thr p v (a ++ b) i = thr p v a i := by
  intro i
  induction i with
  | zero => intro _; rfl
  | succ i ih =>
   intro hi
   have h1 : (2 * w) * i + 2 * w ≤ a.length := by
    rw [← hm, ← Nat.mul_succ]
    exact Nat.mul_le_mul (Nat.le_refl _) hi
   simp only [thr]
   rw [ih (by omega), List.drop_append_of_le_length (by omega), List.take_append_of_le_length (by rw [List.length_drop]; omega)]
 intro i
 refine ⟨?_, key m (Nat.le_refl _)⟩
 induction i with
 | zero => exact key m (Nat.le_refl _)
 | succ i ih =>
  rw [← Nat.add_assoc]
  simp only [thr]
  rw [ih, Nat.mul_add, hm, List.drop_append, List.drop_eq_nil_of_le (by omega), List.nil_append, Nat.add_sub_cancel_left]
end Q
end

section
/- lmots: the digits as the program and as the document count them. -/
namespace Q
open Go Go.Abs
set_option linter.unusedVariables false
set_option linter.unusedSimpArgs false
theorem num_at' {w : Nat} {b : List Int} (hb : In (2 ^ w) b) (t : Nat) : ∃ x : Nat, b.getD t 0 = (x : Int) ∧ x < 2 ^ w := by
 have hp : ((2 : Int) ^ w) = ((2 ^ w : Nat) : Int) := by simp
 have := hb.getD t (by rw [hp]; have := p2 w; omega)
 rw [hp] at this
 exact ⟨(b.getD t 0).toNat, by omega, by omega⟩
end Q
end

section
open Go Go.Abs
set_option linter.unusedVariables false
namespace P
end P
end

section
/- wots: the digits of a text. -/
namespace Q
open Go Go.Abs
set_option linter.unusedVariables false
set_option linter.unusedSimpArgs false
def N3 (n : Nat) : Prop := n = 16 ∨ n = 24 ∨ n = 32
def wl (n : Nat) (x : List Int) : Nat := 15 * (2 * n) - sumTo (digitsS x 4 ((2 * n : Nat) : Int)) (2 * n)
def wd (n : Nat) (x : List Int) : List Int := digitsS x 4 ((2 * n : Nat) : Int) ++ [((wl n x / 2 ^ 8 : Nat) : Int), ((wl n x / 2 ^ 4 % 2 ^ 4 : Nat) : Int), ((wl n x % 2 ^ 4 : Nat) : Int)]
theorem wd4_len (n : Nat) (x : List Int) (hl : x.length = n) : (digitsS x 4 ((2 * n : Nat) : Int)).length = 2 * n := by
 rw [show (4 : Int) = ((4 : Nat) : Int) from rfl, digits_map x 4 (2 * n) (by omega) (by omega) (by omega)]; simp
theorem wd_in (n : Nat) (x : List Int) : In (2 ^ 4) (digitsS x 4 ((2 * n : Nat) : Int)) := digits_in x 4 _
theorem wd_len (n : Nat) (x : List Int) (hl : x.length = n) : (wd n x).length = 2 * n + 3 := by
 unfold wd; rw [List.length_append, wd4_len n x hl]; rfl
theorem wl_lt {n : Nat} (h : N3 n) (x : List Int) : wl n x < 961 := by
 unfold wl; rcases h with rfl | rfl | rfl <;> omega
theorem wots_l6 {n : Nat} (hn : N3 n) (x : List Int) (hl : x.length = n) {ρ : Type} (k0 : Int → Int → Int → List Int → Option ρ) :
    P.wots_Digits_l6 ((15 * (2 * n) : Nat) : Int) ((2 * n : Nat) : Int) 0 (digitsS x 4 ((2 * n : Nat) : Int)) k0 = k0 ((wl n x : Nat) : Int) ((2 * n : Nat) : Int) ((2 * n : Nat) : Int) (digitsS x 4 ((2 * n : Nat) : Int)) := by
 have hn2 : n ≤ 32 := by rcases hn with rfl | rfl | rfl <;> omega
 have hlen := wd4_len n x hl
 rw [P.wots_Digits_l6_eq]
 unfold P.wots_Digits_L6
 refine lp_go (fun i => (((15 * (2 * n) - sumTo (digitsS x 4 ((2 * n : Nat) : Int)) i : Nat) : Int), ((2 * n : Nat) : Int), (i : Int), digitsS x 4 ((2 * n : Nat) : Int))) (2 * n) (by simp [sumTo]) (fun i hi next hn' => ?_) (fun next => ?_) (by omega)
 ·obtain ⟨d, hd, hd2⟩ := num_at' (w := 4) (wd_in n x) i
  have hle := sumTo_le (digitsS x 4 ((2 * n : Nat) : Int)) 4 (wd_in n x) (i + 1)
  simp only [sumTo, hd, Int.toNat_natCast] at hn' hle
  simp only [P.wots_Digits_r6, toNat_cast]
  rw [hd, show ((15 * (2 * n) - sumTo (digitsS x 4 ((2 * n : Nat) : Int)) i : Nat) : Int) - (d : Int) = ((15 * (2 * n) - (sumTo (digitsS x 4 ((2 * n : Nat) : Int)) i + d) : Nat) : Int) by omega, u32n _ (by omega)]
  simp (disch := omega) only [br_pos, br_neg, br_bne_pos, br_bne_neg, br_beq_pos, br_beq_neg, br_not, br_tt, br_ff, i64w, hlen]
  exact hn'
 ·simp only [P.wots_Digits_r6]
  rw [br_neg (by omega)]
  rfl
theorem and15 (a : Nat) (h : a < 4294967296) : bits .and .u32 (a : Int) 15 = ((a % 2 ^ 4 : Nat) : Int) := by
 rw [show (15 : Int) = ((2 ^ 4 - 1 : Nat) : Int) from rfl, and_u32 _ _ h (by omega), Nat.and_two_pow_sub_one_eq_mod]
theorem wots_tail {n : Nat} (hn : N3 n) (x : List Int) (hx : In 256 x) (hl : x.length = n) {ρ : Type} (k : List Int → Option ρ) :
    (P.bits_Digits x (4 : Int) (IntKind.i64.wrap ((2 : Int) * ((n : Nat) : Int))) fun (q0 : List Int) =>
            P.wots_Digits_l6 (IntKind.u32.wrap (IntKind.i64.wrap ((15 : Int) * (↑q0.length : Int)))) (↑q0.length : Int)
             (0 : Int) q0 fun (q1 q2 q3 : Int) (q4 : List Int) =>
             br
              (decide
               ((q4.length +
                     ([bits BinOp.and IntKind.u32 (q1.fdiv ((2 : Int) ^ 4)) (15 : Int),
                               bits BinOp.and IntKind.u32 q1 (15 : Int)].length.add
                         0).succ) *
                   4 ≤
                140737488355328))
              (k
               (q4 ++
                [q1.fdiv ((2 : Int) ^ 8),
                 bits BinOp.and IntKind.u32 (q1.fdiv ((2 : Int) ^ 4)) (15 : Int),
                 bits BinOp.and IntKind.u32 q1 (15 : Int)]))
              none) = k (wd n x) := by
 have hn2 : n ≤ 32 := by rcases hn with rfl | rfl | rfl <;> omega
 have hlen := wd4_len n x hl
 have hlt := wl_lt hn x
 rw [i64w (by omega) (by omega), show (2 : Int) * (n : Int) = ((2 * n : Nat) : Int) by omega, bits_Digits _ _ _ hx (by omega), hlen, i64w (x := (15 : Int) * ((2 * n : Nat) : Int)) (by omega) (by omega), show (15 : Int) * ((2 * n : Nat) : Int) = ((15 * (2 * n) : Nat) : Int) by omega, u32n _ (by omega), wots_l6 hn x hl, hlen]
 have e8 : ((wl n x : Nat) : Int).fdiv ((2 : Int) ^ 8) = ((wl n x / 2 ^ 8 : Nat) : Int) := fdiv_pow _ 8 8 (by omega)
 have e4 : ((wl n x : Nat) : Int).fdiv ((2 : Int) ^ 4) = ((wl n x / 2 ^ 4 : Nat) : Int) := fdiv_pow _ 4 4 (by omega)
 have hd := Nat.div_le_self (wl n x) (2 ^ 4)
 rw [e8, e4, and15 _ (by omega), and15 _ (by omega), br_pos (by show (2 * n + 3) * 4 ≤ _; omega)]
 rfl
theorem wots_Digits {n : Nat} (hn : N3 n) (x : List Int) (hx : In 256 x) (hl : x.length = n) {ρ : Type} (k : List Int → Option ρ) : P.wots_Digits (n : Int) x k = k (wd n x) := by
 rw [P.wots_Digits_eq]
 unfold P.wots_Digits_raw
 have ht := wots_tail hn x hx hl k
 rcases hn with rfl | rfl | rfl
 ·rw [br_bne_neg (by rfl), br_bne_neg (by rw [hl])]
  exact ht
 ·rw [br_bne_pos (by decide), br_bne_neg (by rfl), br_bne_neg (by rw [hl])]
  exact ht
 ·rw [br_bne_pos (by decide), br_bne_pos (by decide), br_bne_neg (by rfl), br_bne_neg (by rw [hl])]
  exact ht
end Q
end

section
open Go Go.Abs
set_option linter.unusedVariables false
namespace P
end P
end

section
open Go Go.Abs
set_option linter.unusedVariables false
namespace P
end P
end

section
open Go Go.Abs
set_option linter.unusedVariables false
namespace P
end P
end

section
open Go Go.Abs
set_option linter.unusedVariables false
namespace P
end P
end

section
open Go Go.Abs
set_option linter.unusedVariables false
namespace P
end P
end

section
open Go Go.Abs
set_option linter.unusedVariables false
namespace P
end P
end

section
open Go Go.Abs
set_option linter.unusedVariables false
namespace P
end P
end

section
open Go Go.Abs
set_option linter.unusedVariables false
namespace P
end P
end

section
/- wots: kinds, places, digits, by the program and by the document. -/
namespace Q
open QK
open Go Go.Abs
set_option linter.unusedVariables false
set_option linter.unusedSimpArgs false
def FitP (N H D A K : Int) : Prop := (N = 16 ∨ N = 24 ∨ N = 32) ∧ 1 ≤ D ∧ H ≤ 68 ∧ D ≤ H ∧ H.tmod D = 0 ∧ IntKind.i64.wrap (H.tdiv D) ≤ 9 ∧ 1 ≤ A ∧ A ≤ 14 ∧ 1 ≤ K ∧ K ≤ 40
instance (N H D A K : Int) : Decidable (FitP N H D A K) := by unfold FitP; infer_instance
theorem fit_tail (N H D A K : Int) (hN : N = 16 ∨ N = 24 ∨ N = 32) {ρ : Type} (k : Bool → Option ρ) :
    (br (decide (D < (1 : Int))) (k false) (br (decide (H < D)) (k false) (br (decide (H > (68 : Int))) (k false)
     (br (decide (D = (0 : Int))) none (br (H.tmod D != (0 : Int)) (k false) (br (decide (D = (0 : Int))) none
      (br (decide (IntKind.i64.wrap (H.tdiv D) > (9 : Int))) (k false) (br (decide (A ≥ (1 : Int)))
       (br (decide (A ≤ (14 : Int))) (br (decide (K ≥ (1 : Int))) (k (decide (K ≤ (40 : Int)))) (k false)) (k false)) (k false))))))))) = k (decide (FitP N H D A K)) := by
 by_cases h1 : D < 1
 ·rw [br_pos h1, decide_eq_false (by unfold FitP; omega)]
 rw [br_neg h1]
 by_cases h2 : H < D
 ·rw [br_pos h2, decide_eq_false (by unfold FitP; omega)]
 rw [br_neg h2]
 by_cases h3 : H > 68
 ·rw [br_pos h3, decide_eq_false (by unfold FitP; omega)]
 rw [br_neg h3, br_neg (by omega)]
 by_cases h4 : H.tmod D = 0
 ·rw [br_bne_neg h4, br_neg (by omega)]
  by_cases h5 : IntKind.i64.wrap (H.tdiv D) > 9
  ·rw [br_pos h5, decide_eq_false (by unfold FitP; omega)]
  rw [br_neg h5]
  by_cases h6 : A ≥ 1
  ·rw [br_pos h6]
   by_cases h7 : A ≤ 14
   ·rw [br_pos h7]
    by_cases h8 : K ≥ 1
    ·rw [br_pos h8]
     congr 1
     apply decide_eq_decide.2
     unfold FitP
     omega
    ·rw [br_neg h8, decide_eq_false (by unfold FitP; omega)]
   ·rw [br_neg h7, decide_eq_false (by unfold FitP; omega)]
  ·rw [br_neg h6, decide_eq_false (by unfold FitP; omega)]
 ·rw [br_bne_pos h4, decide_eq_false (by unfold FitP; omega)]
theorem wots_Fit (N H D A K : Int) (z : Bool) {ρ : Type} (k : Bool → Option ρ) : P.wots_Fit N H D A K z k = k (decide (FitP N H D A K)) := by
 rw [P.wots_Fit_eq]; unfold P.wots_Fit_raw
 by_cases h1 : N = 16
 ·rw [br_bne_neg h1]; exact fit_tail N H D A K (.inl h1) k
 rw [br_bne_pos h1]
 by_cases h2 : N = 24
 ·rw [br_bne_neg h2]; exact fit_tail N H D A K (.inr (.inl h2)) k
 rw [br_bne_pos h2]
 by_cases h3 : N = 32
 ·rw [br_bne_neg h3]; exact fit_tail N H D A K (.inr (.inr h3)) k
 rw [br_bne_pos h3, decide_eq_false (by unfold FitP; omega)]
def setA (a : List Int) (i : Nat) (b : List Int) : List Int := a.take i ++ b ++ a.drop (i + b.length)
theorem setA_len (a : List Int) (i : Nat) (b : List Int) (h : i + b.length ≤ a.length) : (setA a i b).length = a.length := by
 unfold setA; simp; omega
theorem setA_in {a : List Int} {i : Nat} {b : List Int} (ha : In 256 a) (hb : In 256 b) : In 256 (setA a i b) := ((ha.take i).app hb).app (ha.drop _)
def be4 (n v : Nat) : List Int := (bsw 8 n v).reverse
theorem be4_len (n v : Nat) : (be4 n v).length = n := by simp [be4]
theorem be4_in (n v : Nat) : In 256 (be4 n v) := (bsw_in 8 n v).rev
def putS (a : List Int) (part : Int) (v : Nat) : List Int :=
 if part = 0 then setA a 0 (be4 4 v) else if part = 1 then setA a 4 (be4 12 v) else if part = 2 then setA a 16 (be4 4 v ++ List.replicate 12 0)
 else if part = 3 ∨ part = 4 ∨ part = 5 then setA a (8 + 4 * part.toNat) (be4 4 v) else a
theorem putS_len {a : List Int} (h : a.length = 32) (part : Int) (v : Nat) : (putS a part v).length = 32 := by
 unfold putS
 have h4 := be4_len 4 v
 have h12 := be4_len 12 v
 split
 ·rw [setA_len _ _ _ (by omega), h]
 split
 ·rw [setA_len _ _ _ (by omega), h]
 split
 ·rw [setA_len _ _ _ (by rw [List.length_append, List.length_replicate]; omega), h]
 split
 ·rw [setA_len _ _ _ (by omega), h]
 exact h
theorem putS_in {a : List Int} (h : In 256 a) (part : Int) (v : Nat) : In 256 (putS a part v) := by
 unfold putS
 split
 ·exact setA_in h (be4_in _ _)
 split
 ·exact setA_in h (be4_in _ _)
 split
 ·exact setA_in h ((be4_in _ _).app (fun x hx => by rw [List.mem_replicate] at hx; omega))
 split
 ·exact setA_in h (be4_in _ _)
 exact h
theorem cpy (a : List Int) (i m : Nat) (b : List Int) (hb : b.length ≤ m) : (a.take i).append (b.take m ++ a.drop (i + min m b.length)) = setA a i b := by
 rw [List.take_of_length_le hb, Nat.min_eq_right hb]
 show a.take i ++ (b ++ _) = _
 rw [← List.append_assoc]
 rfl
theorem wots_Put {a : List Int} (h : a.length = 32) (part : Int) (v : Nat) (hv : v < 18446744073709551616) {ρ : Type} (k : List Int → Option ρ) : P.wots_Put a part (v : Int) k = k (putS a part v) := by
 rw [P.wots_Put_eq]; unfold P.wots_Put_raw putS
 have h4 : (bsw 8 4 v).reverse.length = 4 := by simp
 have h12 : (bsw 8 12 v).reverse.length = 12 := by simp
 have be : ∀ (k' : List Int → Option ρ), P.bits_Be (v : Int) 4 k' = k' (be4 4 v) := fun k' => bits_Be v 4 hv (by omega) k'
 have be' : ∀ (k' : List Int → Option ρ), P.bits_Be (v : Int) 12 k' = k' (be4 12 v) := fun k' => bits_Be v 12 hv (by omega) k'
 by_cases h0 : part = 0
 ·rw [br_beq_pos h0, if_pos h0, be]
  exact congrArg k (by rw [← cpy a 0 4 (be4 4 v) (by rw [be4_len]; omega)]; rfl)
 rw [br_beq_neg h0, if_neg h0]
 by_cases h1 : part = 1
 ·rw [br_beq_pos h1, if_pos h1, be']
  exact congrArg k (cpy a 4 12 _ (by rw [be4_len]; omega))
 rw [br_beq_neg h1, if_neg h1]
 by_cases h2 : part = 2
 ·have e : [be4 4 v, List.replicate 12 (0 : Int)].flatten = be4 4 v ++ List.replicate 12 0 := by simp
  rw [br_beq_pos h2, if_pos h2, be, bits_Join _ (by simp) (by rw [e]; simp [be4_len]), e]
  exact congrArg k (cpy a 16 16 _ (by rw [List.length_append, be4_len, List.length_replicate]; omega))
 rw [br_beq_neg h2, if_neg h2]
 have fin : ∀ (p : Nat), part = (p : Int) → 3 ≤ p → p ≤ 5 → (br (decide ((0 : Int) ≤ IntKind.i64.wrap ((8 : Int) + IntKind.i64.wrap ((4 : Int) * part))))
     (br (decide (IntKind.i64.wrap ((8 : Int) + IntKind.i64.wrap ((4 : Int) * part)) ≤ ((32 : Nat) : Int)))
      (P.bits_Be (v : Int) (4 : Int) fun (q4 : List Int) =>
       k ((List.take (IntKind.i64.wrap ((8 : Int) + IntKind.i64.wrap ((4 : Int) * part))).toNat a).append
        (List.take (((32 : Nat) : Int) - IntKind.i64.wrap ((8 : Int) + IntKind.i64.wrap ((4 : Int) * part))).toNat q4 ++
         List.drop ((IntKind.i64.wrap ((8 : Int) + IntKind.i64.wrap ((4 : Int) * part))).toNat +
          min (((32 : Nat) : Int) - IntKind.i64.wrap ((8 : Int) + IntKind.i64.wrap ((4 : Int) * part))).toNat q4.length) a))) none) none) = k (setA a (8 + 4 * part.toNat) (be4 4 v)) := by
  intro p hp h3 h5
  subst hp
  have e : IntKind.i64.wrap ((8 : Int) + IntKind.i64.wrap ((4 : Int) * (p : Int))) = ((8 + 4 * p : Nat) : Int) := by
   rw [i64w (x := 4 * (p : Int)) (by omega) (by omega), i64w (by omega) (by omega)]; omega
  rw [e, br_pos (by omega), br_pos (by omega), be, show (((32 : Nat) : Int) - ((8 + 4 * p : Nat) : Int)).toNat = 24 - 4 * p by omega, toNat_cast, toNat_cast]
  exact congrArg k (cpy a _ _ _ (by rw [be4_len]; omega))
 by_cases h3 : part = 3
 ·rw [br_beq_pos h3, br_beq_pos h3, if_pos (.inl h3)]
  exact fin 3 h3 (by omega) (by omega)
 rw [br_beq_neg h3]
 by_cases h4' : part = 4
 ·rw [br_beq_pos h4', br_beq_pos h4', if_pos (.inr (.inl h4'))]
  exact fin 4 h4' (by omega) (by omega)
 rw [br_beq_neg h4']
 by_cases h5 : part = 5
 ·rw [br_beq_pos h5, if_pos (.inr (.inr h5))]
  exact fin 5 h5 (by omega) (by omega)
 rw [br_beq_neg h5, if_neg (by omega)]
end Q
end

section
/- wots: sums at places. -/
namespace Q
open QK
open Go Go.Abs
set_option linter.unusedVariables false
set_option linter.unusedSimpArgs false
theorem addW_blk {kind : Int} (w blk b : List Int) (hl : blk.length = bsz kind) : addW kind (addW kind w blk) b = addW kind w (blk ++ b) := by
 unfold addW
 rcases bsz_or kind with ⟨h, e⟩ | ⟨h, e⟩
 ·rw [e] at hl
  have := (thr_append p32 (toV 32 w) blk b 1 (by omega) (b.length / 64)).1
  simp only [if_pos h]
  rw [toV_cv _ (thr_len _ _ (toV_len _ _) _ _), List.length_append, hl, show (64 + b.length) / 64 = 1 + b.length / 64 by omega, Nat.div_self (by omega), this]
 ·rw [e] at hl
  have := (thr_append p64 (toV 64 w) blk b 1 (by omega) (b.length / 128)).1
  simp only [if_neg h]
  rw [toV_cv _ (thr_len _ _ (toV_len _ _) _ _), List.length_append, hl, show (128 + b.length) / 128 = 1 + b.length / 128 by omega, Nat.div_self (by omega), this]
theorem rest_blk {n : Nat} (hn : 0 < n) (blk b : List Int) (hl : blk.length = n) : rest n (blk ++ b) = rest n b := by
 unfold rest
 rw [List.length_append, hl, Nat.add_comm n, Nat.add_div_right _ hn, Nat.mul_succ, List.drop_append, List.drop_eq_nil_of_le (by omega), List.nil_append, hl, Nat.add_sub_cancel]
def blk (kind : Int) (pub : List Int) : List Int := pub ++ List.replicate (bsz kind - pub.length) 0
theorem blk_len (kind : Int) (pub : List Int) (h : pub.length ≤ 64) : (blk kind pub).length = bsz kind := by
 unfold blk
 rcases bsz_or kind with ⟨_, e⟩ | ⟨_, e⟩ <;> rw [List.length_append, List.length_replicate, e] <;> omega
theorem blk_in {kind : Int} {pub : List Int} (h : In 256 pub) : In 256 (blk kind pub) := h.app (fun x hx => by rw [List.mem_replicate] at hx; omega)
theorem wots_filled {kind : Int} (h : K3 kind) (pub : List Int) (hp : In 256 pub) (hn : pub.length ≤ 64) (B : Int) (hB : B = ((bsz kind : Nat) : Int)) {ρ : Type} (k : Int → List Int → List Int → Int → Option ρ) :
    P.wots_filled kind B pub k = k kind (addW kind (newW kind) (blk kind pub)) [] B := by
 have hb : bsz kind = 64 ∨ bsz kind = 128 := by rcases bsz_or kind with ⟨_, e⟩ | ⟨_, e⟩ <;> omega
 have hw := newW_ok kind
 have e1 : [pub].flatten = pub := by simp
 have e2 : IntKind.i64.wrap (B - (pub.length : Int)) = ((bsz kind - pub.length : Nat) : Int) := by rw [i64w (by omega) (by omega)]; omega
 have hl := blk_len kind pub hn
 have er : rest (bsz kind) (blk kind pub) = [] := List.eq_nil_of_length_eq_zero (by rw [rest_len _ (bsz_pos kind), hl, Nat.mod_self])
 have e3 := size_add (blk kind pub) (by omega)
 rw [P.wots_filled_eq]; unfold P.wots_filled_raw
 rw [sha_New h, bits_Join _ (by simp) (by rw [e1]; omega), e1, e2, toNat_cast, br_pos (by omega), br_pos (by omega)]
 show P.sha_Add kind (newW kind) [] 0 (blk kind pub) _ = _
 rw [sha_Add kind _ [] _ _ hw.1 hw.2.1 In.nil (blk_in hp) (by rw [List.length_nil]; omega), List.nil_append, er, e3, hl, hB]
def sho (a : List Int) : List Int := (a.drop 3).take 1 ++ ((a.drop 8).take 8 ++ (a.drop 19).take 13)
theorem sho_len (a : List Int) : (sho a).length ≤ 22 := by unfold sho; simp; omega
theorem sho_in {a : List Int} (h : In 256 a) : In 256 (sho a) := ((h.drop _).take _).app (((h.drop _).take _).app ((h.drop _).take _))
theorem wots_short (a : List Int) {ρ : Type} (k : List Int → Option ρ) : P.wots_short a k = k (sho a) := by
 have e : [List.take 1 (List.drop 3 a), List.take 8 (List.drop 8 a), List.take 13 (List.drop 19 a)].flatten = sho a := by unfold sho; simp
 have := sho_len a
 rw [P.wots_short_eq]; unfold P.wots_short_raw
 rw [bits_Join _ (by simp) (by rw [e]; omega), e]
def hk (n : Nat) (t : List Int) : Int := if 16 < n ∧ n < t.length then 3 else 1
def sumW (n : Nat) (sh : Bool) (pub a t : List Int) : List Int := if sh then ksum 7 (pub ++ (a ++ t)) n else (sumS (hk n t) (blk (hk n t) pub ++ (sho a ++ t))).take n
theorem sumS_32 {kd : Int} (h : kd = 1 ∨ kd = 3) (b : List Int) : 32 ≤ (sumS kd b).length := by
 rw [sumS_len]; rcases h with rfl | rfl <;> simp
theorem hk13 (n : Nat) (t : List Int) : hk n t = 1 ∨ hk n t = 3 := by unfold hk; split; exact .inr rfl; exact .inl rfl
theorem sumW_len {n : Nat} (hn : n ≤ 32) (sh : Bool) (pub a t : List Int) : (sumW n sh pub a t).length = n := by
 unfold sumW
 split
 ·exact ksum_len _ _ _
 ·have := sumS_32 (hk13 n t) (blk (hk n t) pub ++ (sho a ++ t))
  rw [List.length_take]; omega
theorem sumW_in (n : Nat) (sh : Bool) (pub a t : List Int) : In 256 (sumW n sh pub a t) := by
 unfold sumW
 split
 ·exact ksum_in _ _ _
 ·exact (sumS_in _ _).take _
theorem hash_path {kind : Int} (h : kind = 1 ∨ kind = 3) {n : Nat} (hn : n ≤ 32) (pub : List Int) (hp : In 256 pub) (np : pub.length ≤ 64) (q : List Int) (hq : In 256 q) (nq : q.length ≤ 100000) (B : Int) (hB : B = ((bsz kind : Nat) : Int)) {ρ : Type} (k : List Int → Option ρ) :
    (P.sha_Add kind (addW kind (newW kind) (blk kind pub)) [] B q fun (q2 : Int) (q3 q4 : List Int) (q5 : Int) => P.sha_End q2 q3 q4 q5 fun (q6 : List Int) =>
     br (decide ((0 : Int) ≤ (n : Int))) (br (decide ((n : Int) ≤ (q6.length : Int))) (k (List.take ((n : Int) - (0 : Int)).toNat (List.drop 0 q6))) none) none) = k ((sumS kind (blk kind pub ++ q)).take n) := by
 have hb : bsz kind = 64 ∨ bsz kind = 128 := by rcases bsz_or kind with ⟨_, e⟩ | ⟨_, e⟩ <;> omega
 have hw := addW_ok kind (newW kind) (blk kind pub)
 have hl := blk_len kind pub np
 have hw2 := addW_ok kind (addW kind (newW kind) (blk kind pub)) ([] ++ q)
 have hr := rest_len (bsz kind) (bsz_pos kind) ([] ++ q)
 have hm := Nat.mod_lt ([] ++ q).length (bsz_pos kind)
 have e3 : IntKind.u64.wrap (B + IntKind.u64.wrap (q.length : Int)) = (((blk kind pub ++ q).length : Nat) : Int) := by
  rw [u64n _ (by omega), hB, ← Int.natCast_add, u64n _ (by omega), List.length_append, hl]
 have hs := sumS_32 h (blk kind pub ++ q)
 rw [sha_Add kind _ [] _ q hw.1 hw.2.1 In.nil hq (by rw [List.length_nil]; omega), e3, sha_End _ _ _ _ hw2.1 hw2.2.1 (rest_in (In.nil.app hq)) (by omega)]
 have e4 : endS kind (addW kind (addW kind (newW kind) (blk kind pub)) ([] ++ q)) (rest (bsz kind) ([] ++ q)) (blk kind pub ++ q).length = sumS kind (blk kind pub ++ q) := by
  unfold sumS
  rw [List.nil_append, addW_blk _ _ _ hl, rest_blk (bsz_pos kind) _ _ hl]
 rw [e4, br_pos (by omega), br_pos (by omega), List.drop_zero, Int.sub_zero, toNat_cast]
theorem hashed_f1 {n : Nat} (hn : n ≤ 32) (pub a t : List Int) (hp : In 256 pub) (np : pub.length ≤ 64) (ha : In 256 a) (ht : In 256 t) (nt : t.length ≤ 90000) {ρ : Type} (k : List Int → Option ρ) :
    P.wots_hashed_f1 a t 1 (addW 1 (newW 1) (blk 1 pub)) [] 64 (n : Int) 3 (addW 3 (newW 3) (blk 3 pub)) [] 128 k = k (sumW n false pub a t) := by
 have e : [sho a, t].flatten = sho a ++ t := by simp
 have hs := sho_len a
 have hl : (sho a ++ t).length ≤ 100000 := by rw [List.length_append]; omega
 have hq : In 256 (sho a ++ t) := (sho_in ha).app ht
 rw [P.wots_hashed_f1_eq]; unfold P.wots_hashed_f1_raw sumW hk
 by_cases h1 : 16 < n
 ·rw [br_pos (by omega)]
  by_cases h2 : n < t.length
  ·rw [br_pos (by omega), if_neg (by simp), if_pos ⟨h1, h2⟩, wots_short, bits_Join _ (by simp) (by rw [e]; omega), e]
   exact hash_path (.inr rfl) hn pub hp np _ hq hl 128 rfl k
  ·rw [br_neg (by omega), if_neg (by simp), if_neg (by omega), wots_short, bits_Join _ (by simp) (by rw [e]; omega), e]
   exact hash_path (.inl rfl) hn pub hp np _ hq hl 64 rfl k
 ·rw [br_neg (by omega), if_neg (by simp), if_neg (by omega), wots_short, bits_Join _ (by simp) (by rw [e]; omega), e]
  exact hash_path (.inl rfl) hn pub hp np _ hq hl 64 rfl k
theorem R7t : Rt 7 136 := .inr (.inr (.inr ⟨rfl, rfl⟩))
theorem g0 : Good 136 (Z25, 0) := ⟨Z25_W, by decide⟩
theorem shaken_f1 {n : Nat} (hn : n ≤ 32) (pub a t : List Int) (la : a.length = 32) (nt : t.length ≤ 90000) {ρ : Type} (k : List Int → Option ρ) :
    P.wots_shaken_f1 a t 7 (absb 136 (Z25, 0) pub).1 ((absb 136 (Z25, 0) pub).2 : Int) false (n : Int) k = k (sumW n true pub a t) := by
 have e : [List.take 32 (List.drop 0 a), t].flatten = a ++ t := by rw [List.drop_zero, List.take_of_length_le (by omega)]; simp
 have hl : (a ++ t).length ≤ 100000 := by rw [List.length_append]; omega
 rw [P.wots_shaken_f1_eq]; unfold P.wots_shaken_f1_raw sumW
 rw [bits_Join _ (by simp) (by rw [e]; omega), e, if_pos rfl]
 refine (keccak_Absorb R7t _ _ (absb_good pub g0) (a ++ t) (by omega) _).trans ?_
 refine (keccak_Squeeze R7t _ (absb_good (a ++ t) (absb_good pub g0)) n (by omega) _).trans ?_
 unfold ksum
 show k (sqO 136 (trn 7 136 (absb 136 (absb 136 (Z25, 0) pub) (a ++ t)), 0) n) = k (sqO 136 (trn 7 136 (absb 136 (Z25, 0) (pub ++ (a ++ t))), 0) n)
 simp only [absb_app]
def Sg (n : Nat) (sh : Bool) (pub : List Int) (tg : Nat) (cK : Int) (cW : List Int) (cA : Int) (cO : Bool) (c1 dK : Int) (dW dT : List Int) (dS d1 eK : Int) (eW eT : List Int) (eS : Int) : Prop :=
 (sh = true ∧ tg = 1 ∧ cK = 7 ∧ cW = (absb 136 (Z25, 0) pub).1 ∧ cA = ((absb 136 (Z25, 0) pub).2 : Int) ∧ cO = false ∧ c1 = (n : Int)) ∨
 (sh = false ∧ tg = 2 ∧ dK = 1 ∧ dW = addW 1 (newW 1) (blk 1 pub) ∧ dT = [] ∧ dS = 64 ∧ d1 = (n : Int) ∧ eK = 3 ∧ eW = addW 3 (newW 3) (blk 3 pub) ∧ eT = [] ∧ eS = 128)
theorem call {n : Nat} {sh : Bool} {pub : List Int} {tg : Nat} {cK : Int} {cW : List Int} {cA : Int} {cO : Bool} {c1 dK : Int} {dW dT : List Int} {dS d1 eK : Int} {eW eT : List Int} {eS : Int} (h : Sg n sh pub tg cK cW cA cO c1 dK dW dT dS d1 eK eW eT eS)
    (hn : n ≤ 32) (hp : In 256 pub) (np : pub.length ≤ 64) {a t : List Int} (la : a.length = 32) (ha : In 256 a) (ht : In 256 t) (nt : t.length ≤ 90000) {ρ : Type} (k : List Int → Option ρ) :
    br (decide (tg = 1)) (P.wots_shaken_f1 a t cK cW cA cO c1 fun (q : List Int) => k q) (br (decide (tg = 2)) (P.wots_hashed_f1 a t dK dW dT dS d1 eK eW eT eS fun (q : List Int) => k q) none) = k (sumW n sh pub a t) := by
 rcases h with ⟨rfl, rfl, rfl, rfl, rfl, rfl, rfl⟩ | ⟨rfl, rfl, rfl, rfl, rfl, rfl, rfl, rfl, rfl, rfl, rfl⟩
 ·rw [br_pos rfl]
  exact shaken_f1 hn pub a t la nt k
 ·rw [br_neg (by omega), br_pos rfl]
  exact hashed_f1 hn pub a t hp np ha ht nt k
theorem began_ok {n : Nat} {H D A K : Int} (hf : FitP n H D A K) (sh : Bool) (pub : List Int) (hp : In 256 pub) (np : pub.length = n) :
    ∃ tg cK cW cA cO c1 dK dW dT dS d1 eK eW eT eS, Sg n sh pub tg cK cW cA cO c1 dK dW dT dS d1 eK eW eT eS ∧
     ∀ {ρ : Type} (k : Int → Int → Int → Int → Int → Bool → Nat → Int → (List Int) → Int → Bool → Int → Int → (List Int) → (List Int) → Int → Int → Int → (List Int) → (List Int) → Int → Bool → Option ρ),
      P.wots_began n H D A K sh pub k = k n H D A K sh tg cK cW cA cO c1 dK dW dT dS d1 eK eW eT eS true := by
 have hn : n ≤ 32 := by unfold FitP at hf; omega
 cases sh with
 | true =>
  refine ⟨1, 7, _, _, false, (n : Int), 0, [], [], 0, 0, 0, [], [], 0, .inl ⟨rfl, rfl, rfl, rfl, rfl, rfl, rfl⟩, fun k => ?_⟩
  rw [P.wots_began_eq]; unfold P.wots_began_raw
  rw [wots_Fit, decide_eq_true hf, br_not, br_tt, br_bne_neg (by omega), br_tt, P.wots_shaken_eq]; unfold P.wots_shaken_raw
  rw [P.keccak_New_eq]; unfold P.keccak_New_raw
  rw [rate_k R7t, br_beq_neg (by omega)]
  exact keccak_Absorb R7t Z25 0 g0 pub (by omega) _
 | false =>
  refine ⟨2, 0, [], 0, false, 0, 1, _, _, 64, (n : Int), 3, _, _, 128, .inr ⟨rfl, rfl, rfl, rfl, rfl, rfl, rfl, rfl, rfl, rfl, rfl⟩, fun k => ?_⟩
  rw [P.wots_began_eq]; unfold P.wots_began_raw
  rw [wots_Fit, decide_eq_true hf, br_not, br_tt, br_bne_neg (by omega), br_ff, P.wots_hashed_eq]; unfold P.wots_hashed_raw
  rw [wots_filled (.inl rfl) pub hp (by omega) 64 rfl, wots_filled (.inr (.inr rfl)) pub hp (by omega) 128 rfl]
theorem wots_Sum {n : Nat} {H D A K : Int} (hf : FitP n H D A K) (sh : Bool) (pub : List Int) (hp : In 256 pub) (np : pub.length = n) (a t : List Int) (la : a.length = 32) (ha : In 256 a) (ht : In 256 t) (nt : t.length ≤ 90000) {ρ : Type} (k : List Int → Option ρ) :
    P.wots_Sum n H D A K sh pub a t k = k (sumW n sh pub a t) := by
 have hn : n ≤ 32 := by unfold FitP at hf; omega
 obtain ⟨tg, cK, cW, cA, cO, c1, dK, dW, dT, dS, d1, eK, eW, eT, eS, hs, hb⟩ := began_ok hf sh pub hp np
 rw [P.wots_Sum_eq]; unfold P.wots_Sum_raw
 rw [hb, br_not, br_tt]
 exact call hs hn hp (by omega) la ha ht nt k
end Q
end

section
/- wots: chains, keys, signatures, by the program. -/
namespace Q
open QK
open Go Go.Abs
set_option linter.unusedVariables false
set_option linter.unusedSimpArgs false
def chn (n : Nat) (sh : Bool) (pub a : List Int) (f : Nat) : Nat → List Int → List Int
 | 0, y => y
 | m + 1, y => sumW n sh pub (putS a 5 (f + m)) (chn n sh pub a f m y)
theorem chn_len {n : Nat} (hn : n ≤ 32) (sh : Bool) (pub a : List Int) (f : Nat) (y : List Int) (hy : y.length = n) : ∀ m, (chn n sh pub a f m y).length = n
 | 0 => hy
 | m + 1 => sumW_len hn sh pub _ _
theorem chn_in (n : Nat) (sh : Bool) (pub a : List Int) (f : Nat) (y : List Int) (hy : In 256 y) : ∀ m, In 256 (chn n sh pub a f m y)
 | 0 => hy
 | m + 1 => sumW_in n sh pub _ _
theorem chn_add (n : Nat) (sh : Bool) (pub a : List Int) (f x : Nat) (y : List Int) : ∀ m, chn n sh pub a (f + x) m (chn n sh pub a f x y) = chn n sh pub a f (x + m) y
 | 0 => rfl
 | m + 1 => by
  show sumW n sh pub (putS a 5 (f + x + m)) (chn n sh pub a (f + x) m _) = sumW n sh pub (putS a 5 (f + (x + m))) (chn n sh pub a f (x + m) y)
  rw [chn_add n sh pub a f x y m, Nat.add_assoc]
theorem along {n : Nat} {sh : Bool} {pub : List Int} {tg : Nat} {cK : Int} {cW : List Int} {cA : Int} {cO : Bool} {c1 dK : Int} {dW dT : List Int} {dS d1 eK : Int} {eW eT : List Int} {eS : Int} (hs : Sg n sh pub tg cK cW cA cO c1 dK dW dT dS d1 eK eW eT eS) (hn : n ≤ 32) (hp : In 256 pub) (np : pub.length ≤ 64) {a y : List Int} (la : a.length = 32) (ha : In 256 a) (hy : In 256 y) (ly : y.length = n) (H D A K : Int) (f m : Nat) (hm : f + m < 4294967295) {ρ : Type} (k : List Int → Option ρ) :
    P.wots_signer_along (n : Int) H D A K sh tg cK cW cA cO c1 dK dW dT dS d1 eK eW eT eS a y (f : Int) ((f + m : Nat) : Int) k = k (chn n sh pub a f m y) := by
 rw [P.wots_signer_along_eq]; unfold P.wots_signer_along_raw
 rw [P.wots_signer_along_l2_eq]; unfold P.wots_signer_along_L2
 refine lp_go (fun i => (chn n sh pub a f i y, ((f + m : Nat) : Int), ((f + i : Nat) : Int), (n : Int), H, D, A, K, sh, tg, cK, cW, cA, cO, c1, dK, dW, dT, dS, d1, eK, eW, eT, eS, a)) m rfl (fun i hi next hnx => ?_) (fun next => ?_) (by omega)
 ·have hl := chn_len hn sh pub a f y ly i
  simp only [P.wots_signer_along_r2]
  rw [br_pos (by omega), u64n _ (by omega), wots_Put la 5 _ (by omega), show ((f + i : Nat) : Int) + 1 = ((f + (i + 1) : Nat) : Int) by omega, u32n _ (by omega)]
  exact (call hs hn hp np (putS_len la 5 (f + i)) (putS_in ha 5 (f + i)) (chn_in n sh pub a f y hy i) (by omega) _).trans hnx
 ·simp only [P.wots_signer_along_r2]
  rw [br_neg (by omega)]
def prn (a : List Int) : Nat := T 8 ((a.drop 20).take 4).reverse % 2 ^ 64
theorem prn_lt (a : List Int) : prn a < 18446744073709551616 := Nat.mod_lt _ (by decide)
theorem wots_number {a : List Int} (ha : In 256 a) {ρ : Type} (k : Int → Option ρ) : P.wots_number a 3 k = k (prn a : Int) := by
 rw [P.wots_number_eq]; unfold P.wots_number_raw
 rw [show IntKind.i64.wrap ((8 : Int) + IntKind.i64.wrap ((4 : Int) * 3)) = 20 from rfl, show IntKind.i64.wrap ((12 : Int) + IntKind.i64.wrap ((4 : Int) * 3)) = 24 from rfl, br_pos (by omega), br_pos (by omega), br_pos (by omega)]
 exact bits_Num _ ((ha.drop 20).take 4) (by simp; omega) k
def fsW (n : Nat) (sh : Bool) (pub sec a : List Int) (i : Nat) : List Int := sumW n sh pub (putS (putS (putS a 2 5) 3 (prn a)) 4 i) sec
theorem fsW_len {n : Nat} (hn : n ≤ 32) (sh : Bool) (pub sec a : List Int) (i : Nat) : (fsW n sh pub sec a i).length = n := sumW_len hn sh pub _ _
theorem fsW_in (n : Nat) (sh : Bool) (pub sec a : List Int) (i : Nat) : In 256 (fsW n sh pub sec a i) := sumW_in n sh pub _ _
theorem first' {n : Nat} {sh : Bool} {pub : List Int} {tg : Nat} {cK : Int} {cW : List Int} {cA : Int} {cO : Bool} {c1 dK : Int} {dW dT : List Int} {dS d1 eK : Int} {eW eT : List Int} {eS : Int} (hs : Sg n sh pub tg cK cW cA cO c1 dK dW dT dS d1 eK eW eT eS) (hn : n ≤ 32) (hp : In 256 pub) (np : pub.length ≤ 64) {a y : List Int} (la : a.length = 32) (ha : In 256 a) (hy : In 256 y) (ly : y.length ≤ 1000) (H D A K : Int) (i : Nat) (hi : i < 1000) {ρ : Type} (k : List Int → Option ρ) :
    P.wots_signer_first (n : Int) H D A K sh tg cK cW cA cO c1 dK dW dT dS d1 eK eW eT eS y a (i : Int) k = k (fsW n sh pub y a i) := by
 rw [P.wots_signer_first_eq]; unfold P.wots_signer_first_raw
 rw [show (5 : Int) = ((5 : Nat) : Int) from rfl, wots_Put la 2 5 (by omega), wots_number ha, wots_Put (putS_len la _ _) 3 _ (prn_lt a), u64n _ (by omega), wots_Put (putS_len (putS_len la _ _) _ _) 4 _ (by omega)]
 exact call hs hn hp np (putS_len (putS_len (putS_len la _ _) _ _) _ _) (putS_in (putS_in (putS_in ha _ _) _ _) _ _) hy (by omega) k
def kyW (n : Nat) (sh : Bool) (pub a ends : List Int) : List Int := sumW n sh pub (putS (putS a 2 1) 3 (prn a)) ends
theorem key' {n : Nat} {sh : Bool} {pub : List Int} {tg : Nat} {cK : Int} {cW : List Int} {cA : Int} {cO : Bool} {c1 dK : Int} {dW dT : List Int} {dS d1 eK : Int} {eW eT : List Int} {eS : Int} (hs : Sg n sh pub tg cK cW cA cO c1 dK dW dT dS d1 eK eW eT eS) (hn : n ≤ 32) (hp : In 256 pub) (np : pub.length ≤ 64) {a y : List Int} (la : a.length = 32) (ha : In 256 a) (hy : In 256 y) (ly : y.length ≤ 90000) (H D A K : Int) {ρ : Type} (k : List Int → Option ρ) :
    P.wots_signer_key (n : Int) H D A K sh tg cK cW cA cO c1 dK dW dT dS d1 eK eW eT eS y a k = k (kyW n sh pub a y) := by
 rw [P.wots_signer_key_eq]; unfold P.wots_signer_key_raw
 rw [show P.wots_Put (ρ := ρ) a 2 1 = P.wots_Put a 2 ((1 : Nat) : Int) from rfl, wots_Put la 2 1 (by omega), wots_number ha, wots_Put (putS_len la _ _) 3 _ (prn_lt a)]
 exact call hs hn hp np (putS_len (putS_len la _ _) _ _) (putS_in (putS_in ha _ _) _ _) hy (by omega) k
theorem count' {n : Nat} (hn : n ≤ 32) (H D A K : Int) (sh : Bool) (tg : Nat) (cK : Int) (cW : List Int) (cA : Int) (cO : Bool) (c1 dK : Int) (dW dT : List Int) (dS d1 eK : Int) (eW eT : List Int) (eS : Int) {ρ : Type} (k : Int → Option ρ) :
    P.wots_signer_count (n : Int) H D A K sh tg cK cW cA cO c1 dK dW dT dS d1 eK eW eT eS k = k ((2 * n + 3 : Nat) : Int) := by
 rw [P.wots_signer_count_eq]; unfold P.wots_signer_count_raw
 rw [i64w (x := (2 : Int) * (n : Int)) (by omega) (by omega), i64w (by omega) (by omega)]
 congr 1
def endT (n : Nat) (sh : Bool) (pub sec a : List Int) (i : Nat) : List Int := chn n sh pub (putS a 4 i) 0 15 (fsW n sh pub sec a i)
theorem endT_len {n : Nat} (hn : n ≤ 32) (sh : Bool) (pub sec a : List Int) (i : Nat) : (endT n sh pub sec a i).length = n := chn_len hn sh pub _ 0 _ (sumW_len hn sh pub _ _) 15
theorem endT_in (n : Nat) (sh : Bool) (pub sec a : List Int) (i : Nat) : In 256 (endT n sh pub sec a i) := chn_in n sh pub _ 0 _ (sumW_in n sh pub _ _) 15
theorem cat_bd {n : Nat} (hn : n ≤ 32) (T : Nat → List Int) (hT : ∀ i, (T i).length = n) (j : Nat) (hj : j ≤ 2 * n + 3) : (cat T j).length ≤ 2200 := by
 rw [cat_len hT]
 have := Nat.mul_le_mul (show j ≤ 67 by omega) hn
 omega
theorem wots_Public {n : Nat} {H D A K : Int} (hf : FitP n H D A K) (sh : Bool) (sec pub a : List Int) (hsec : In 256 sec) (lsec : sec.length = n) (hp : In 256 pub) (np : pub.length = n) (la : a.length = 32) (ha : In 256 a) {ρ : Type} (k : List Int → Option ρ) :
    P.wots_Public n H D A K sh sec pub a k = k (kyW n sh pub a (cat (endT n sh pub sec a) (2 * n + 3))) := by
 have hn : n ≤ 32 := by unfold FitP at hf; omega
 obtain ⟨tg, cK, cW, cA, cO, c1, dK, dW, dT, dS, d1, eK, eW, eT, eS, hs, hb⟩ := began_ok hf sh pub hp np
 have hT := endT_len hn sh pub sec a
 rw [P.wots_Public_eq]; unfold P.wots_Public_raw
 rw [hb, br_not, br_tt, br_bne_neg (by omega), count' hn, P.wots_Public_l6_eq]; unfold P.wots_Public_L6
 refine lp_go (fun i => (sec, ((2 * n + 3 : Nat) : Int), (i : Int), cat (endT n sh pub sec a) i, a, (n : Int), H, D, A, K, sh, tg, cK, cW, cA, cO, c1, dK, dW, dT, dS, d1, eK, eW, eT, eS)) (2 * n + 3) rfl (fun i hi next hnx => ?_) (fun next => ?_) (by omega)
 ·have hb1 := cat_bd hn _ hT i (by omega)
  simp only [P.wots_Public_r6]
  rw [br_pos (by omega), u64n _ (by omega), wots_Put la 4 _ (by omega), first' hs hn hp (by omega) la ha hsec (by omega) H D A K i (by omega), show (15 : Int) = ((0 + 15 : Nat) : Int) from rfl, show (0 : Int) = ((0 : Nat) : Int) from rfl,
   along hs hn hp (by omega) (putS_len la 4 i) (putS_in ha 4 i) (fsW_in n sh pub sec a i) (fsW_len hn sh pub sec a i) H D A K 0 15 (by omega)]
  have e := hT i
  unfold endT at e
  rw [br_pos (by omega), i64w (by omega) (by omega)]
  exact hnx
 ·simp only [P.wots_Public_r6]
  rw [br_neg (by omega), key' hs hn hp (by omega) la ha (cat_in (endT_in n sh pub sec a) _) (by have := cat_bd hn _ hT (2 * n + 3) (by omega); omega)]
theorem gd_l {l r : List Int} {d : Int} {i : Nat} (h : i < l.length) : (l ++ r).getD i d = l.getD i d := by
 rw [List.getD_eq_getElem?_getD, List.getD_eq_getElem?_getD, List.getElem?_append_left h]
theorem gd_r {l r : List Int} {d : Int} {i : Nat} (h : l.length ≤ i) : (l ++ r).getD i d = r.getD (i - l.length) d := by
 rw [List.getD_eq_getElem?_getD, List.getD_eq_getElem?_getD, List.getElem?_append_right h]
theorem wdn {n : Nat} (hn : N3 n) (x : List Int) (hl : x.length = n) (i : Nat) : ∃ d : Nat, (wd n x).getD i 0 = (d : Int) ∧ d ≤ 15 := by
 by_cases h : i < 2 * n
 ·obtain ⟨d, hd, hd2⟩ := num_at' (w := 4) (wd_in n x) i
  refine ⟨d, ?_, by omega⟩
  unfold wd
  rw [gd_l (by rw [wd4_len n x hl]; omega), hd]
 ·have h9 := wl_lt hn x
  have hr : (wd n x).getD i 0 = [((wl n x / 2 ^ 8 : Nat) : Int), ((wl n x / 2 ^ 4 % 2 ^ 4 : Nat) : Int), ((wl n x % 2 ^ 4 : Nat) : Int)].getD (i - 2 * n) 0 := by
   unfold wd
   rw [gd_r (by rw [wd4_len n x hl]; omega), wd4_len n x hl]
  rw [hr]
  match i - 2 * n with
  | 0 => exact ⟨_, rfl, by omega⟩
  | 1 => exact ⟨_, rfl, by omega⟩
  | 2 => exact ⟨_, rfl, by omega⟩
  | q + 3 => exact ⟨0, rfl, by omega⟩
def dgt (n : Nat) (x : List Int) (i : Nat) : Nat := ((wd n x).getD i 0).toNat
theorem dgt_eq {n : Nat} (hn : N3 n) (x : List Int) (hl : x.length = n) (i : Nat) : (wd n x).getD i 0 = ((dgt n x i : Nat) : Int) ∧ dgt n x i ≤ 15 := by
 obtain ⟨d, h1, h2⟩ := wdn hn x hl i
 unfold dgt
 rw [h1]
 exact ⟨rfl, h2⟩
def sigT (n : Nat) (sh : Bool) (pub sec a t : List Int) (i : Nat) : List Int := chn n sh pub (putS a 4 i) 0 (dgt n t i) (fsW n sh pub sec a i)
theorem sigT_len {n : Nat} (hn : n ≤ 32) (sh : Bool) (pub sec a t : List Int) (i : Nat) : (sigT n sh pub sec a t i).length = n := chn_len hn sh pub _ 0 _ (sumW_len hn sh pub _ _) _
theorem sigT_in (n : Nat) (sh : Bool) (pub sec a t : List Int) (i : Nat) : In 256 (sigT n sh pub sec a t i) := chn_in n sh pub _ 0 _ (sumW_in n sh pub _ _) _
theorem fit_n3 {n : Nat} {H D A K : Int} (hf : FitP n H D A K) : N3 n := by unfold FitP at hf; unfold N3; omega
theorem wots_Sign {n : Nat} {H D A K : Int} (hf : FitP n H D A K) (sh : Bool) (t sec pub a : List Int) (ht : In 256 t) (lt : t.length = n) (hsec : In 256 sec) (lsec : sec.length = n) (hp : In 256 pub) (np : pub.length = n) (la : a.length = 32) (ha : In 256 a) {ρ : Type} (k : List Int → Option ρ) :
    P.wots_Sign n H D A K sh t sec pub a k = k (cat (sigT n sh pub sec a t) (2 * n + 3)) := by
 have hn : n ≤ 32 := by unfold FitP at hf; omega
 have hn3 := fit_n3 hf
 have hdl := wd_len n t lt
 obtain ⟨tg, cK, cW, cA, cO, c1, dK, dW, dT, dS, d1, eK, eW, eT, eS, hs, hb⟩ := began_ok hf sh pub hp np
 have hT := sigT_len hn sh pub sec a t
 rw [P.wots_Sign_eq]; unfold P.wots_Sign_raw
 rw [hb, br_not, br_tt, br_bne_neg (by omega), br_bne_neg (by omega), wots_Digits hn3 t ht lt, hdl, P.wots_Sign_l6_eq]; unfold P.wots_Sign_L6
 refine lp_go (fun i => (sec, ((2 * n + 3 : Nat) : Int), (i : Int), cat (sigT n sh pub sec a t) i, a, (n : Int), H, D, A, K, sh, tg, cK, cW, cA, cO, c1, dK, dW, dT, dS, d1, eK, eW, eT, eS, wd n t)) (2 * n + 3) rfl (fun i hi next hnx => ?_) (fun next => ?_) (by omega)
 ·have hb1 := cat_bd hn _ hT i (by omega)
  obtain ⟨e1, e2⟩ := dgt_eq hn3 t lt i
  simp only [P.wots_Sign_r6, toNat_cast]
  rw [br_pos (by omega), br_pos (by omega), br_pos (by omega), u64n _ (by omega), wots_Put la 4 _ (by omega), first' hs hn hp (by omega) la ha hsec (by omega) H D A K i (by omega), e1, show ((dgt n t i : Nat) : Int) = ((0 + dgt n t i : Nat) : Int) by omega, show (0 : Int) = ((0 : Nat) : Int) from rfl,
   along hs hn hp (by omega) (putS_len la 4 i) (putS_in ha 4 i) (fsW_in n sh pub sec a i) (fsW_len hn sh pub sec a i) H D A K 0 _ (by omega)]
  have e := hT i
  unfold sigT at e
  rw [br_pos (by omega), i64w (by omega) (by omega)]
  exact hnx
 ·simp only [P.wots_Sign_r6]
  rw [br_neg (by omega)]
def canT (n : Nat) (sh : Bool) (sig pub a t : List Int) (i : Nat) : List Int := chn n sh pub (putS a 4 i) (dgt n t i) (15 - dgt n t i) ((sig.drop (i * n)).take n)
theorem wots_Candidate {n : Nat} {H D A K : Int} (hf : FitP n H D A K) (sh : Bool) (sig t pub a : List Int) (hsig : In 256 sig) (lsig : sig.length = (2 * n + 3) * n) (ht : In 256 t) (lt : t.length = n) (hp : In 256 pub) (np : pub.length = n) (la : a.length = 32) (ha : In 256 a) {ρ : Type} (k : List Int → Option ρ) :
    P.wots_Candidate n H D A K sh sig t pub a k = k (kyW n sh pub a (cat (canT n sh sig pub a t) (2 * n + 3))) := by
 have hn : n ≤ 32 := by unfold FitP at hf; omega
 have hn3 := fit_n3 hf
 have hdl := wd_len n t lt
 obtain ⟨tg, cK, cW, cA, cO, c1, dK, dW, dT, dS, d1, eK, eW, eT, eS, hs, hb⟩ := began_ok hf sh pub hp np
 have hlen : ∀ i, i < 2 * n + 3 → i * n + n ≤ sig.length := fun i hi => by
  rw [lsig, ← Nat.succ_mul]
  exact Nat.mul_le_mul (by omega) (Nat.le_refl _)
 have hT : ∀ i, i < 2 * n + 3 → (canT n sh sig pub a t i).length = n := fun i hi => chn_len hn sh pub _ _ _ (by have := hlen i hi; rw [List.length_take, List.length_drop]; omega) _
 have hTi : ∀ i, In 256 (canT n sh sig pub a t i) := fun i => chn_in n sh pub _ _ _ ((hsig.drop _).take _) _
 have hcl : ∀ i, i ≤ 2 * n + 3 → (cat (canT n sh sig pub a t) i).length = i * n := by
  intro i
  induction i with
  | zero => intro _; simp [cat]
  | succ i ih => intro hi; rw [cat, List.length_append, ih (by omega), hT i (by omega), Nat.succ_mul]
 have hbd : ∀ i, i ≤ 2 * n + 3 → (cat (canT n sh sig pub a t) i).length ≤ 2200 := fun i hi => by
  rw [hcl i hi]
  have := Nat.mul_le_mul (show i ≤ 67 by omega) hn
  omega
 have hmul : (2 * n + 3) * n ≤ 67 * 32 := Nat.mul_le_mul (by omega) hn
 have hc : (n : Int) * ((2 * n + 3 : Nat) : Int) = (((2 * n + 3) * n : Nat) : Int) := by rw [Int.natCast_mul, Int.mul_comm]
 rw [P.wots_Candidate_eq]; unfold P.wots_Candidate_raw
 rw [hb, br_not, br_tt, br_bne_neg (by omega), count' hn, hc, i64w (by omega) (by omega), br_bne_neg (by rw [lsig]), wots_Digits hn3 t ht lt, hdl, P.wots_Candidate_l6_eq]; unfold P.wots_Candidate_L6
 refine lp_go (fun i => (sig.drop (i * n), ((2 * n + 3 : Nat) : Int), (i : Int), cat (canT n sh sig pub a t) i, (n : Int), H, D, A, K, sh, a, (n : Int), H, D, A, K, sh, tg, cK, cW, cA, cO, c1, dK, dW, dT, dS, d1, eK, eW, eT, eS, wd n t)) (2 * n + 3) (by simp [cat]) (fun i hi next hnx => ?_) (fun next => ?_) (by omega)
 ·have hb1 := hbd i (by omega)
  have hl1 := hlen i hi
  obtain ⟨e1, e2⟩ := dgt_eq hn3 t lt i
  have ld : (sig.drop (i * n)).length = sig.length - i * n := List.length_drop
  simp only [P.wots_Candidate_r6, toNat_cast]
  rw [br_pos (by omega), br_pos (by omega), br_pos (by omega), u64n _ (by omega), wots_Put la 4 _ (by omega), br_pos (by omega), br_pos (by omega), List.drop_zero, e1, show (15 : Int) = ((dgt n t i + (15 - dgt n t i) : Nat) : Int) by omega,
   along hs hn hp (by omega) (putS_len la 4 i) (putS_in ha 4 i) ((hsig.drop _).take _) (by rw [List.length_take]; omega) H D A K _ _ (by omega)]
  have e := hT i hi
  unfold canT at e
  rw [br_pos (by omega), br_pos (by omega), br_pos (by omega), br_pos (by omega), i64w (by omega) (by omega), List.take_length, List.drop_drop]
  rw [Nat.succ_mul] at hnx
  exact hnx
 ·simp only [P.wots_Candidate_r6]
  rw [br_neg (by omega), key' hs hn hp (by omega) la ha (cat_in hTi _) (by have := hbd (2 * n + 3) (by omega); omega)]
theorem cat_congr {T U : Nat → List Int} : ∀ m, (∀ i, i < m → T i = U i) → cat T m = cat U m
 | 0, _ => rfl
 | m + 1, h => by rw [cat, cat, cat_congr m (fun i hi => h i (by omega)), h m (by omega)]
theorem cat_part {T : Nat → List Int} {d : Nat} (h : ∀ i, (T i).length = d) (i : Nat) : ∀ m, i < m → ((cat T m).drop (i * d)).take d = T i
 | 0, hi => by omega
 | m + 1, hi => by
  have hl := cat_len h m
  rw [cat]
  by_cases e : i = m
  ·subst e
   rw [List.drop_append, List.drop_eq_nil_of_le (by omega), hl, Nat.sub_self, List.drop_zero, List.nil_append, List.take_of_length_le (by rw [h]; omega)]
  ·have : i * d + d ≤ m * d := by rw [← Nat.succ_mul]; exact Nat.mul_le_mul (by omega) (Nat.le_refl _)
   rw [List.drop_append_of_le_length (by omega), List.take_append_of_le_length (by rw [List.length_drop]; omega), cat_part h i m (by omega)]
theorem can_sig {n : Nat} (hn : N3 n) (sh : Bool) (pub sec a t : List Int) (lt : t.length = n) : cat (canT n sh (cat (sigT n sh pub sec a t) (2 * n + 3)) pub a t) (2 * n + 3) = cat (endT n sh pub sec a) (2 * n + 3) := by
 have hn2 : n ≤ 32 := by rcases hn with rfl | rfl | rfl <;> omega
 refine cat_congr _ (fun i hi => ?_)
 have hd := (dgt_eq hn t lt i).2
 unfold canT endT
 rw [cat_part (sigT_len hn2 sh pub sec a t) i _ hi]
 unfold sigT
 have := chn_add n sh pub (putS a 4 i) 0 (dgt n t i) (fsW n sh pub sec a i) (15 - dgt n t i)
 rw [Nat.zero_add, show dgt n t i + (15 - dgt n t i) = 15 by omega] at this
 exact this
end Q
end

section
/- xmss: knots, signatures, tops, by the program. -/
namespace Q
open QK
open Go Go.Abs
set_option linter.unusedVariables false
set_option linter.unusedSimpArgs false
def Kd (n : Nat) (H D A K : Int) (h : Nat) : Prop := FitP n H D A K ∧ IntKind.i64.wrap (H.tdiv D) = (h : Int)
theorem Kd.n {n : Nat} {H D A K : Int} {h : Nat} (k : Kd n H D A K h) : n ≤ 32 := by have := k.1; unfold FitP at this; omega
theorem Kd.h {n : Nat} {H D A K : Int} {h : Nat} (k : Kd n H D A K h) : h ≤ 9 := by have := k.1; have e := k.2; unfold FitP at this; omega
theorem xmss_high {n : Nat} {H D A K : Int} {h : Nat} (kd : Kd n H D A K h) (sh : Bool) {ρ : Type} (k : Int → Option ρ) : P.xmss_high n H D A K sh k = k (h : Int) := by
 have hf := kd.1
 unfold FitP at hf
 rw [P.xmss_high_eq]; unfold P.xmss_high_raw
 rw [br_neg (by omega), kd.2]
theorem such_ok {n : Nat} {H D A K : Int} {h : Nat} (kd : Kd n H D A K h) (sh : Bool) (l : List (List Int)) (hl : l.length ≤ 100) (hn : ∀ i, i < l.length → (l.getD i []).length = n) {ρ : Type} (k : Bool → Option ρ) : P.xmss_such n H D A K sh l k = k true := by
 rw [P.xmss_such_eq]; unfold P.xmss_such_raw
 rw [P.xmss_such_l2_eq]; unfold P.xmss_such_L2
 refine lp_go (fun i => (l, (l.length : Int), (i : Int), (n : Int), H, D, A, K, sh)) l.length rfl (fun i hi next hnx => ?_) (fun next => ?_) (by omega)
 ·have := hn i hi
  simp only [P.xmss_such_r2, toNat_cast, Sum.elim_inl, Sum.elim_inr]
  rw [br_pos (by omega), br_pos (by omega), br_pos (by omega), br_bne_neg (by omega), i64w (by omega) (by omega)]
  exact hnx
 ·simp only [P.xmss_such_r2, toNat_cast, Sum.elim_inl, Sum.elim_inr]
  rw [br_neg (by omega), wots_Fit, decide_eq_true kd.1]
theorem mulN (n m : Nat) (hn : n ≤ 32) (hm : m ≤ 1000) : IntKind.i64.wrap ((n : Int) * (m : Int)) = ((n * m : Nat) : Int) := by
 have : n * m ≤ 32 * 1000 := Nat.mul_le_mul hn hm
 rw [show (n : Int) * (m : Int) = ((n * m : Nat) : Int) by rw [Int.natCast_mul], i64w (by omega) (by omega)]
theorem xmss_Size {n : Nat} {H D A K : Int} {h : Nat} (kd : Kd n H D A K h) (sh : Bool) {ρ : Type} (k : Int → Option ρ) : P.xmss_Size n H D A K sh k = k ((n * (2 * n + 3 + h) : Nat) : Int) := by
 have h1 := kd.n
 have h2 := kd.h
 rw [P.xmss_Size_eq]; unfold P.xmss_Size_raw
 rw [wots_Fit, decide_eq_true kd.1, br_not, br_tt, xmss_high kd, i64w (x := (2 : Int) * (n : Int)) (by omega) (by omega), i64w (x := (2 : Int) * (n : Int) + 3) (by omega) (by omega), i64w (x := (2 : Int) * (n : Int) + 3 + (h : Int)) (by omega) (by omega), show (2 : Int) * (n : Int) + 3 + (h : Int) = ((2 * n + 3 + h : Nat) : Int) by omega, mulN _ _ h1 (by omega)]
def lfA (at' : List Int) (i : Nat) : List Int := putS (putS at' 2 0) 3 i
theorem lfA_len {a : List Int} (la : a.length = 32) (i : Nat) : (lfA a i).length = 32 := putS_len (putS_len la _ _) _ _
theorem lfA_in {a : List Int} (ha : In 256 a) (i : Nat) : In 256 (lfA a i) := putS_in (putS_in ha _ _) _ _
theorem xmss_leaf {a : List Int} (la : a.length = 32) (N H D A K : Int) (sh : Bool) (sec pub : List Int) (i : Nat) (hi : i < 18446744073709551616) {ρ : Type} (k : List Int → Option ρ) :
    P.xmss_tree_leaf N H D A K sh sec pub a (i : Int) k = k (lfA a i) := by
 rw [P.xmss_tree_leaf_eq]; unfold P.xmss_tree_leaf_raw
 rw [show P.wots_Put (ρ := ρ) a 2 0 = P.wots_Put a 2 ((0 : Nat) : Int) from rfl, wots_Put la 2 0 (by omega), wots_Put (putS_len la _ _) 3 i hi]
 rfl
def ovW (n : Nat) (sh : Bool) (pub at' : List Int) (z i : Nat) (l r : List Int) : List Int := sumW n sh pub (putS (putS (putS at' 2 2) 4 z) 5 i) (l ++ r)
theorem xmss_over {n : Nat} {H D A K : Int} (hf : FitP n H D A K) (sh : Bool) (sec pub a l r : List Int) (hp : In 256 pub) (np : pub.length = n) (la : a.length = 32) (ha : In 256 a) (hl : In 256 l) (hr : In 256 r) (nl : l.length ≤ 1000) (nr : r.length ≤ 1000) (z i : Nat) (hz : z < 1000) (hi : i < 18446744073709551616) {ρ : Type} (k : List Int → Option ρ) :
    P.xmss_tree_over n H D A K sh sec pub a (z : Int) (i : Int) l r k = k (ovW n sh pub a z i l r) := by
 have e : [l, r].flatten = l ++ r := by simp
 have hlr : (l ++ r).length ≤ 2000 := by rw [List.length_append]; omega
 rw [P.xmss_tree_over_eq]; unfold P.xmss_tree_over_raw
 rw [show P.wots_Put (ρ := ρ) a 2 2 = P.wots_Put a 2 ((2 : Nat) : Int) from rfl, wots_Put la 2 2 (by omega), u64n _ (by omega), wots_Put (putS_len la _ _) 4 z (by omega), wots_Put (putS_len (putS_len la _ _) _ _) 5 i hi, bits_Join _ (by simp) (by rw [e]; omega), e,
  wots_Sum hf sh pub hp np _ _ (putS_len (putS_len (putS_len la _ _) _ _) _ _) (putS_in (putS_in (putS_in ha _ _) _ _) _ _) (hl.app hr) (by omega)]
 rfl
def pbW (n : Nat) (sh : Bool) (pub sec a : List Int) : List Int := kyW n sh pub a (cat (endT n sh pub sec a) (2 * n + 3))
def knW (n : Nat) (sh : Bool) (pub sec at' : List Int) : Nat → Nat → List Int
 | 0, i => pbW n sh pub sec (lfA at' i)
 | z + 1, i => ovW n sh pub at' (z + 1) i (knW n sh pub sec at' z (2 * i)) (knW n sh pub sec at' z (2 * i + 1))
theorem knW_len {n : Nat} (hn : n ≤ 32) (sh : Bool) (pub sec at' : List Int) : ∀ z i, (knW n sh pub sec at' z i).length = n
 | 0, i => sumW_len hn _ _ _ _
 | z + 1, i => sumW_len hn _ _ _ _
theorem knW_in (n : Nat) (sh : Bool) (pub sec at' : List Int) : ∀ z i, In 256 (knW n sh pub sec at' z i)
 | 0, i => sumW_in _ _ _ _ _
 | z + 1, i => sumW_in _ _ _ _ _
theorem xmss_knot {n : Nat} {H D A K : Int} (hf : FitP n H D A K) (sh : Bool) (sec pub a : List Int) (hsec : In 256 sec) (lsec : sec.length = n) (hp : In 256 pub) (np : pub.length = n) (la : a.length = 32) (ha : In 256 a) :
    ∀ (z i m : Nat), z < m → z < 1000 → (i + 1) * 2 ^ z ≤ 9223372036854775808 → ∀ {ρ : Type} (k : List Int → Option ρ), P.xmss_tree_knot m n H D A K sh sec pub a (z : Int) (i : Int) k = k (knW n sh pub sec a z i)
 | z, i, 0, hm, hz, hi, ρ, k => by omega
 | 0, i, m + 1, hm, hz, hi, ρ, k => by
  rw [P.xmss_tree_knot_eq]; unfold P.xmss_tree_knot_raw
  rw [br_beq_pos (show ((0 : Nat) : Int) = 0 from rfl), xmss_leaf la _ _ _ _ _ _ _ _ i (by omega), wots_Public hf sh sec pub _ hsec lsec hp np (lfA_len la i) (lfA_in ha i)]
  rfl
 | z + 1, i, m + 1, hm, hz, hi, ρ, k => by
  have hn : n ≤ 32 := by unfold FitP at hf; omega
  have hpow : (i + 1) * 2 ^ (z + 1) = (2 * i + 2) * 2 ^ z := by rw [Nat.pow_succ, Nat.mul_comm (2 ^ z) 2, ← Nat.mul_assoc]; congr 1; omega
  have h1 : (2 * i + 2) ≤ (2 * i + 2) * 2 ^ z := Nat.le_mul_of_pos_right _ (Nat.two_pow_pos z)
  have h2 : (2 * i + 1) * 2 ^ z ≤ (2 * i + 2) * 2 ^ z := Nat.mul_le_mul (by omega) (Nat.le_refl _)
  have h3 : (2 * i + 1 + 1) * 2 ^ z = (2 * i + 2) * 2 ^ z := rfl
  rw [P.xmss_tree_knot_eq]; unfold P.xmss_tree_knot_raw
  rw [br_beq_neg (by omega), i64w (by omega) (by omega), show ((z + 1 : Nat) : Int) - 1 = (z : Int) by omega, show (2 : Int) * (i : Int) = ((2 * i : Nat) : Int) by omega, u64n _ (by omega), show ((2 * i : Nat) : Int) + 1 = ((2 * i + 1 : Nat) : Int) by omega, u64n _ (by omega),
   xmss_knot hf sh sec pub a hsec lsec hp np la ha z (2 * i) m (by omega) (by omega) (by omega), xmss_knot hf sh sec pub a hsec lsec hp np la ha z (2 * i + 1) m (by omega) (by omega) (by omega),
   xmss_over hf sh sec pub a _ _ hp np la ha (knW_in _ _ _ _ _ _ _) (knW_in _ _ _ _ _ _ _) (by rw [knW_len hn]; omega) (by rw [knW_len hn]; omega) (z + 1) i hz (by omega)]
  rfl
theorem sh0 (i h : Nat) (hh : h ≤ 64) (hi : i < 2 ^ h) : (i : Int).fdiv ((2 : Int) ^ min h 64) = 0 := by
 rw [fdiv_pow _ _ _ hh, Nat.div_eq_of_lt hi]
 rfl
theorem xmss_Node {n : Nat} {H D A K : Int} {h : Nat} (kd : Kd n H D A K h) (sh : Bool) (sec pub a : List Int) (hsec : In 256 sec) (lsec : sec.length = n) (hp : In 256 pub) (np : pub.length = n) (la : a.length = 32) (ha : In 256 a) (z i : Nat) (hz : z ≤ h) (hi : i < 2 ^ (h - z)) {ρ : Type} (k : List Int → Option ρ) :
    P.xmss_Node n H D A K sh sec pub a (z : Int) (i : Int) k = k (knW n sh pub sec a z i) := by
 have h2 := kd.h
 have hb : (i + 1) * 2 ^ z ≤ 2 ^ h := by
  have : (i + 1) * 2 ^ z ≤ 2 ^ (h - z) * 2 ^ z := Nat.mul_le_mul hi (Nat.le_refl _)
  rw [← Nat.pow_add, Nat.sub_add_cancel hz] at this
  exact this
 have h9 : 2 ^ h ≤ 2 ^ 9 := Nat.pow_le_pow_right (by omega) h2
 rw [P.xmss_Node_eq]; unfold P.xmss_Node_raw
 rw [such_ok kd sh _ (by simp) (fun j hj => by
  match j with
  | 0 => exact lsec
  | 1 => exact np
  | j + 2 => simp at hj; omega), br_not, br_tt, br_neg (by omega), xmss_high kd, br_neg (by omega), xmss_high kd, i64w (by omega) (by omega), br_neg (by omega), show ((h : Int) - (z : Int)).toNat = h - z by omega, sh0 i (h - z) (by omega) hi, br_bne_neg rfl, toNat_cast,
  xmss_knot kd.1 sh sec pub a hsec lsec hp np la ha z i (z + 1) (by omega) (by omega) (by omega)]
theorem xor1 (x : Nat) : x ^^^ 1 = if x % 2 = 0 then x + 1 else x - 1 := by
 have h1 : (x ^^^ 1) / 2 = x / 2 := by rw [Nat.xor_div_two]; simp
 have h2 : (x ^^^ 1) % 2 = (x + 1) % 2 := by
  have := Nat.xor_mod_two_pow (a := x) (b := 1) (n := 1)
  rw [Nat.pow_one] at this
  rw [this]
  rcases Nat.mod_two_eq_zero_or_one x with e | e <;> rw [e]
  ·show 0 ^^^ 1 = _
   simp; omega
  ·show 1 ^^^ 1 = _
   simp; omega
 split <;> omega
def auT (n : Nat) (sh : Bool) (pub sec a : List Int) (leaf z : Nat) : List Int := knW n sh pub sec a z ((leaf / 2 ^ z) ^^^ 1)
def sgW (n : Nat) (sh : Bool) (pub sec a t : List Int) (leaf h : Nat) : List Int := cat (sigT n sh pub sec (lfA a leaf) t) (2 * n + 3) ++ cat (auT n sh pub sec a leaf) h
theorem au_bd {leaf h z : Nat} (hl : leaf < 2 ^ h) (hz : z < h) (hh : h ≤ 9) : ((leaf / 2 ^ z) ^^^ 1) + 1 ≤ 2 ^ h ∧ (((leaf / 2 ^ z) ^^^ 1) + 1) * 2 ^ z ≤ 9223372036854775808 := by
 have h9 : 2 ^ h ≤ 2 ^ 9 := Nat.pow_le_pow_right (by omega) hh
 have hz9 : 2 ^ z ≤ 2 ^ 9 := Nat.pow_le_pow_right (by omega) (by omega)
 have hd := Nat.div_le_self leaf (2 ^ z)
 have hx : ((leaf / 2 ^ z) ^^^ 1) < 2 ^ h := Nat.xor_lt_two_pow (by omega) (Nat.one_lt_two_pow (by omega))
 refine ⟨hx, ?_⟩
 have := Nat.mul_le_mul (show ((leaf / 2 ^ z) ^^^ 1) + 1 ≤ 2 ^ 9 by omega) hz9
 omega
theorem sgW_len {n : Nat} (hn : n ≤ 32) (sh : Bool) (pub sec a t : List Int) (leaf h : Nat) : (sgW n sh pub sec a t leaf h).length = n * (2 * n + 3 + h) := by
 unfold sgW
 rw [List.length_append, cat_len (sigT_len hn _ _ _ _ _), cat_len (T := auT n sh pub sec a leaf) (fun z => knW_len hn _ _ _ _ _ _), ← Nat.add_mul, Nat.mul_comm]
theorem sgW_in (n : Nat) (sh : Bool) (pub sec a t : List Int) (leaf h : Nat) : In 256 (sgW n sh pub sec a t leaf h) := (cat_in (sigT_in n sh _ _ _ _) _).app (cat_in (fun z => knW_in _ _ _ _ _ _ _) _)
theorem xmss_Sign {n : Nat} {H D A K : Int} {h : Nat} (kd : Kd n H D A K h) (sh : Bool) (t sec pub a : List Int) (ht : In 256 t) (lt : t.length = n) (hsec : In 256 sec) (lsec : sec.length = n) (hp : In 256 pub) (np : pub.length = n) (la : a.length = 32) (ha : In 256 a) (leaf : Nat) (hleaf : leaf < 2 ^ h) {ρ : Type} (k : List Int → Option ρ) :
    P.xmss_Sign n H D A K sh t sec pub a (leaf : Int) k = k (sgW n sh pub sec a t leaf h) := by
 have hn := kd.n
 have h2 := kd.h
 have h9 : 2 ^ h ≤ 2 ^ 9 := Nat.pow_le_pow_right (by omega) h2
 have l1 := cat_len (sigT_len hn sh pub sec (lfA a leaf) t) (2 * n + 3)
 have hmul : (2 * n + 3) * n ≤ 67 * 32 := Nat.mul_le_mul (by omega) hn
 rw [P.xmss_Sign_eq]; unfold P.xmss_Sign_raw
 rw [such_ok kd sh _ (by simp) (fun j hj => by
  match j with
  | 0 => exact lsec
  | 1 => exact np
  | 2 => exact lt
  | j + 3 => simp at hj; omega), br_not, br_tt, xmss_high kd, br_neg (by omega), toNat_cast, sh0 leaf h (by omega) hleaf, br_bne_neg rfl, xmss_leaf la _ _ _ _ _ _ _ _ leaf (by omega),
  wots_Sign kd.1 sh t sec pub _ ht lt hsec lsec hp np (lfA_len la _) (lfA_in ha _), xmss_high kd, P.xmss_Sign_l6_eq]
 unfold P.xmss_Sign_L6
 refine lp_go (fun z => ((leaf : Int), (h : Int), (z : Int), cat (sigT n sh pub sec (lfA a leaf) t) (2 * n + 3) ++ cat (auT n sh pub sec a leaf) z, (n : Int), H, D, A, K, sh, sec, pub, a)) h (by simp [cat]) (fun z hz next hnx => ?_) (fun next => ?_) (by omega)
 ·have l2 := cat_len (T := auT n sh pub sec a leaf) (fun z => knW_len hn _ _ _ _ _ _) z
  have hb := au_bd hleaf hz h2
  have hd := Nat.div_le_self leaf (2 ^ z)
  have hm2 : z * n ≤ 9 * 32 := Nat.mul_le_mul (by omega) hn
  simp only [P.xmss_Sign_r6, toNat_cast]
  rw [br_pos (by omega), br_neg (by omega), fdiv_pow _ _ _ (by omega), show (1 : Int) = ((1 : Nat) : Int) from rfl, xor_u64 _ _ (by omega) (by omega),
   xmss_knot kd.1 sh sec pub a hsec lsec hp np la ha z _ (z + 1) (by omega) (by omega) hb.2, br_pos (by rw [knW_len hn, List.length_append]; omega), i64w (by omega) (by omega), List.append_assoc]
  exact hnx
 ·simp only [P.xmss_Sign_r6]
  rw [br_neg (by omega)]
  rfl
def cnW (n : Nat) (sh : Bool) (pub a k0 path : List Int) (leaf : Nat) : Nat → List Int
 | 0 => k0
 | z + 1 => if leaf / 2 ^ z % 2 = 1 then ovW n sh pub a (z + 1) (leaf / 2 ^ (z + 1)) ((path.drop (z * n)).take n) (cnW n sh pub a k0 path leaf z)
  else ovW n sh pub a (z + 1) (leaf / 2 ^ (z + 1)) (cnW n sh pub a k0 path leaf z) ((path.drop (z * n)).take n)
theorem cnW_len {n : Nat} (hn : n ≤ 32) (sh : Bool) (pub a k0 path : List Int) (hk : k0.length = n) (leaf : Nat) : ∀ z, (cnW n sh pub a k0 path leaf z).length = n
 | 0 => hk
 | z + 1 => by rw [cnW]; split <;> exact sumW_len hn _ _ _ _
theorem cnW_in (n : Nat) (sh : Bool) (pub a k0 path : List Int) (hk : In 256 k0) (leaf : Nat) : ∀ z, In 256 (cnW n sh pub a k0 path leaf z)
 | 0 => hk
 | z + 1 => by rw [cnW]; split <;> exact sumW_in _ _ _ _ _
def tpW (n : Nat) (sh : Bool) (pub a sig t : List Int) (leaf h : Nat) : List Int :=
 cnW n sh pub a (kyW n sh pub (lfA a leaf) (cat (canT n sh (sig.take ((2 * n + 3) * n)) pub (lfA a leaf) t) (2 * n + 3))) (sig.drop ((2 * n + 3) * n)) leaf h
theorem tpW_len {n : Nat} (hn : n ≤ 32) (sh : Bool) (pub a sig t : List Int) (leaf h : Nat) : (tpW n sh pub a sig t leaf h).length = n := cnW_len hn _ _ _ _ _ (sumW_len hn _ _ _ _) _ _
theorem tpW_in (n : Nat) (sh : Bool) (pub a sig t : List Int) (leaf h : Nat) : In 256 (tpW n sh pub a sig t leaf h) := cnW_in _ _ _ _ _ _ (sumW_in _ _ _ _ _) _ _
theorem xmss_Candidate {n : Nat} {H D A K : Int} {h : Nat} (kd : Kd n H D A K h) (sh : Bool) (sig t pub a : List Int) (hsig : In 256 sig) (lsig : sig.length = n * (2 * n + 3 + h)) (ht : In 256 t) (lt : t.length = n) (hp : In 256 pub) (np : pub.length = n) (la : a.length = 32) (ha : In 256 a) (leaf : Nat) (hleaf : leaf < 2 ^ h) {ρ : Type} (k : List Int → Option ρ) :
    P.xmss_Candidate n H D A K sh sig t pub a (leaf : Int) k = k (tpW n sh pub a sig t leaf h) := by
 have hn := kd.n
 have h2 := kd.h
 have h9 : 2 ^ h ≤ 2 ^ 9 := Nat.pow_le_pow_right (by omega) h2
 have hmul : (2 * n + 3) * n ≤ 67 * 32 := Nat.mul_le_mul (by omega) hn
 have hm2 : n * h ≤ 32 * 9 := Nat.mul_le_mul hn h2
 have hsz : n * (2 * n + 3 + h) = (2 * n + 3) * n + n * h := by rw [Nat.mul_add, Nat.mul_comm n (2 * n + 3)]
 have e1 : IntKind.i64.wrap ((sig.length : Int) - ((n * h : Nat) : Int)) = (((2 * n + 3) * n : Nat) : Int) := by
  rw [i64w (by omega) (by omega)]; omega
 have lt1 : (sig.take ((2 * n + 3) * n)).length = (2 * n + 3) * n := by rw [List.length_take]; omega
 have ld : (sig.drop ((2 * n + 3) * n)).length = n * h := by rw [List.length_drop]; omega
 have hpath : In 256 (sig.drop ((2 * n + 3) * n)) := hsig.drop _
 have hk0 := sumW_len hn sh pub (putS (putS (lfA a leaf) 2 1) 3 (prn (lfA a leaf))) (cat (canT n sh (sig.take ((2 * n + 3) * n)) pub (lfA a leaf) t) (2 * n + 3))
 rw [P.xmss_Candidate_eq]; unfold P.xmss_Candidate_raw
 rw [such_ok kd sh _ (by simp) (fun j hj => by
  match j with
  | 0 => exact np
  | 1 => exact lt
  | j + 2 => simp at hj; omega), br_not, br_tt, xmss_Size kd, br_bne_neg (by rw [lsig]), xmss_high kd, br_neg (by omega), toNat_cast, sh0 leaf h (by omega) hleaf, br_bne_neg rfl, xmss_high kd, mulN _ _ hn (by omega), e1, br_pos (by omega), br_pos (by omega), xmss_leaf la _ _ _ _ _ _ _ _ leaf (by omega), List.drop_zero, toNat_cast,
  wots_Candidate kd.1 sh _ t pub _ (hsig.take _) lt1 ht lt hp np (lfA_len la _) (lfA_in ha _), br_pos (by omega), br_pos (by omega), br_pos (by omega), xmss_high kd, toNat_cast, List.take_length, P.xmss_Candidate_l7_eq]
 unfold P.xmss_Candidate_L7 tpW
 have hk1 := sumW_in n sh pub (putS (putS (lfA a leaf) 2 1) 3 (prn (lfA a leaf))) (cat (canT n sh (sig.take ((2 * n + 3) * n)) pub (lfA a leaf) t) (2 * n + 3))
 generalize sig.drop ((2 * n + 3) * n) = path at ld hpath
 unfold kyW
 generalize sumW n sh pub (putS (putS (lfA a leaf) 2 1) 3 (prn (lfA a leaf))) (cat (canT n sh (sig.take ((2 * n + 3) * n)) pub (lfA a leaf) t) (2 * n + 3)) = k0 at hk0 hk1
 refine lp_go (fun z => ((leaf : Int), cnW n sh pub a k0 path leaf z, path.drop (z * n), (h : Int), (z : Int), (n : Int), H, D, A, K, sh, (n : Int), H, D, A, K, sh, pub, a)) h (by simp [cnW]) (fun z hz next hnx => ?_) (fun next => ?_) (by omega)
 ·have hd := Nat.div_le_self leaf (2 ^ z)
  have hd1 := Nat.div_le_self leaf (2 ^ (z + 1))
  have hzn : z * n + n ≤ n * h := by rw [← Nat.succ_mul, Nat.mul_comm n h]; exact Nat.mul_le_mul hz (Nat.le_refl _)
  have lp2 : (path.drop (z * n)).length = n * h - z * n := by rw [List.length_drop]; omega
  have lc := cnW_len hn sh pub a k0 path hk0 leaf z
  have ic := cnW_in n sh pub a k0 path hk1 leaf z
  have lq : ((path.drop (z * n)).take n).length = n := by rw [List.length_take]; omega
  have iq : In 256 ((path.drop (z * n)).take n) := (hpath.drop _).take _
  rw [Nat.succ_mul, ← List.drop_drop] at hnx
  simp only [P.xmss_Candidate_r7, toNat_cast]
  rw [br_pos (by omega), br_pos (by omega), br_pos (by omega), br_neg (by omega), fdiv_pow _ _ _ (by omega), show bits BinOp.and IntKind.u64 ((leaf / 2 ^ z : Nat) : Int) 1 = ((leaf / 2 ^ z % 2 : Nat) : Int) by
   rw [show (1 : Int) = ((1 : Nat) : Int) from rfl, and_u64 _ _ (by omega) (by omega), Nat.and_one_is_mod]]
  have ez : IntKind.i64.wrap ((z : Int) + 1) = ((z + 1 : Nat) : Int) := by rw [i64w (by omega) (by omega)]; omega
  rw [ez, toNat_cast, fdiv_pow _ _ _ (by omega), List.drop_zero, List.take_length]
  by_cases hb : leaf / 2 ^ z % 2 = 1
  ·rw [cnW, if_pos hb] at hnx
   rw [br_beq_pos (by omega), br_neg (by omega), xmss_over kd.1 sh _ pub a _ _ hp np la ha iq ic (by omega) (by omega) (z + 1) _ (by omega) (by omega), br_pos (by omega), br_pos (by omega), br_pos (by omega)]
   exact hnx
  ·rw [cnW, if_neg hb] at hnx
   rw [br_beq_neg (by omega), br_neg (by omega), xmss_over kd.1 sh _ pub a _ _ hp np la ha ic iq (by omega) (by omega) (z + 1) _ (by omega) (by omega), br_pos (by omega), br_pos (by omega), br_pos (by omega)]
   exact hnx
 ·simp only [P.xmss_Candidate_r7]
  rw [br_neg (by omega)]
theorem cn_au {n : Nat} (hn : n ≤ 32) (sh : Bool) (pub sec a : List Int) (leaf h : Nat) : ∀ z, z ≤ h → cnW n sh pub a (knW n sh pub sec a 0 leaf) (cat (auT n sh pub sec a leaf) h) leaf z = knW n sh pub sec a z (leaf / 2 ^ z)
 | 0, _ => by rw [Nat.pow_zero, Nat.div_one]; rfl
 | z + 1, hz => by
  have hx := xor1 (leaf / 2 ^ z)
  rw [cnW, cn_au hn sh pub sec a leaf h z (by omega), cat_part (T := auT n sh pub sec a leaf) (fun z => knW_len hn _ _ _ _ _ _) z h (by omega)]
  have hp : leaf / 2 ^ (z + 1) = leaf / 2 ^ z / 2 := by rw [Nat.pow_succ, Nat.div_div_eq_div_mul]
  unfold auT
  rw [hx, hp]
  generalize leaf / 2 ^ z = m
  split
  ·rw [if_neg (by omega), show m - 1 = 2 * (m / 2) by omega]
   conv => lhs; rw [show m = 2 * (m / 2) + 1 by omega]
   rw [show (2 * (m / 2) + 1) / 2 = m / 2 by omega]
   rfl
  ·rw [if_pos (by omega), show m + 1 = 2 * (m / 2) + 1 by omega]
   conv => lhs; rw [show m = 2 * (m / 2) by omega]
   rw [show (2 * (m / 2)) / 2 = m / 2 by omega]
   rfl
theorem tp_sg {n : Nat} (hn3 : N3 n) (sh : Bool) (pub sec a t : List Int) (lt : t.length = n) (leaf h : Nat) (hl : leaf < 2 ^ h) : tpW n sh pub a (sgW n sh pub sec a t leaf h) t leaf h = knW n sh pub sec a h 0 := by
 have hn : n ≤ 32 := by rcases hn3 with rfl | rfl | rfl <;> omega
 have l1 := cat_len (sigT_len hn sh pub sec (lfA a leaf) t) (2 * n + 3)
 unfold tpW sgW
 rw [List.take_append_of_le_length (by omega), List.take_of_length_le (by omega), List.drop_append, List.drop_eq_nil_of_le (by omega), l1, Nat.sub_self, List.drop_zero, List.nil_append, can_sig hn3 sh pub sec (lfA a leaf) t lt]
 have := cn_au hn sh pub sec a leaf h h (Nat.le_refl _)
 rw [Nat.div_eq_of_lt hl] at this
 exact this
end Q
end

section
/- xmss: trees in trees, by the program. -/
namespace Q
open QK
open Go Go.Abs
set_option linter.unusedVariables false
set_option linter.unusedSimpArgs false
abbrev Z32 : List Int := [0, 0, 0, 0, 0, 0, 0, 0, 0, 0, 0, 0, 0, 0, 0, 0, 0, 0, 0, 0, 0, 0, 0, 0, 0, 0, 0, 0, 0, 0, 0, 0]
theorem Z32_in : In 256 Z32 := fun x hx => by
 have : x = 0 := by simpa [Z32] using hx
 omega
def plA (d num : Nat) : List Int := putS (putS Z32 0 d) 1 num
theorem plA_len (d num : Nat) : (plA d num).length = 32 := putS_len (putS_len rfl _ _) _ _
theorem plA_in (d num : Nat) : In 256 (plA d num) := putS_in (putS_in Z32_in _ _) _ _
def nmb (h num d : Nat) : Nat := num / 2 ^ (h * d)
theorem nmb_le (h num d : Nat) : nmb h num d ≤ num := Nat.div_le_self _ _
theorem nmb_succ (h num d : Nat) : nmb h num (d + 1) = nmb h num d / 2 ^ h := by
 unfold nmb
 rw [Nat.div_div_eq_div_mul, ← Nat.pow_add, Nat.mul_succ]
def lfN (h num leaf : Nat) : Nat → Nat
 | 0 => leaf
 | d + 1 => nmb h num d % 2 ^ h
theorem lfN_lt {h leaf : Nat} (num : Nat) (hl : leaf < 2 ^ h) : ∀ d, lfN h num leaf d < 2 ^ h
 | 0 => hl
 | d + 1 => Nat.mod_lt _ (Nat.two_pow_pos h)
def vrT (n : Nat) (sh : Bool) (pub sig t : List Int) (num leaf h sz : Nat) : Nat → List Int
 | 0 => t
 | d + 1 => tpW n sh pub (plA d (nmb h num d)) ((sig.drop (d * sz)).take sz) (vrT n sh pub sig t num leaf h sz d) (lfN h num leaf d) h
theorem vrT_len {n : Nat} (hn : n ≤ 32) (sh : Bool) (pub sig t : List Int) (lt : t.length = n) (num leaf h sz : Nat) : ∀ d, (vrT n sh pub sig t num leaf h sz d).length = n
 | 0 => lt
 | d + 1 => tpW_len hn _ _ _ _ _ _ _
theorem vrT_in (n : Nat) (sh : Bool) (pub sig t : List Int) (ht : In 256 t) (num leaf h sz : Nat) : ∀ d, In 256 (vrT n sh pub sig t num leaf h sz d)
 | 0 => ht
 | d + 1 => tpW_in _ _ _ _ _ _ _ _
theorem step_num (num h : Nat) (hn : num < 18446744073709551616) (hh : h ≤ 9) : (num : Int).fdiv ((2 : Int) ^ min h 64) = ((num / 2 ^ h : Nat) : Int) ∧
    bits .and .u64 (num : Int) (IntKind.u64.wrap (IntKind.u64.wrap ((1 : Int) * (2 : Int) ^ min h 64) - (1 : Int))) = ((num % 2 ^ h : Nat) : Int) := by
 have h9 : 2 ^ h ≤ 2 ^ 9 := Nat.pow_le_pow_right (by omega) hh
 refine ⟨fdiv_pow _ _ _ (by omega), ?_⟩
 rw [mask64 h (by omega), and_u64 _ _ hn (by omega), Nat.and_two_pow_sub_one_eq_mod]
theorem xmss_placed {n : Nat} {H D A K : Int} {h : Nat} (kd : Kd n H D A K h) (sh : Bool) (r : Nat) (hr : H - (h : Int) = (r : Int)) (r64 : r ≤ 64) (num leaf : Nat) (hnum : num < 2 ^ r) (hleaf : leaf < 2 ^ h) {ρ : Type} (k : Bool → Option ρ) :
    P.xmss_placed n H D A K sh (num : Int) (leaf : Int) k = k true := by
 have h2 := kd.h
 rw [P.xmss_placed_eq]; unfold P.xmss_placed_raw
 rw [xmss_high kd, hr, i64w (by omega) (by omega), br_neg (by omega), toNat_cast, sh0 num r r64 hnum, br_beq_pos rfl, xmss_high kd, br_neg (by omega), toNat_cast, sh0 leaf h (by omega) hleaf]
 rfl
theorem xmss_Verify {n : Nat} {H A K : Int} {h D : Nat} (kd : Kd n H D A K h) (hD : D ≤ 68) (sh : Bool) (t sig pub top : List Int) (ht : In 256 t) (lt : t.length = n) (hsig : In 256 sig) (lsig : sig.length = D * (n * (2 * n + 3 + h))) (hp : In 256 pub) (np : pub.length = n) (ltop : top.length = n) (itop : In 256 top) (r : Nat) (hr : H - (h : Int) = (r : Int)) (r64 : r ≤ 64) (num leaf : Nat) (hnum : num < 2 ^ r) (hleaf : leaf < 2 ^ h) {ρ : Type} (k : Bool → Option ρ) :
    P.xmss_Verify n H D A K sh t sig pub top (num : Int) (leaf : Int) k = k (decide (vrT n sh pub sig t num leaf h (n * (2 * n + 3 + h)) D = top)) := by
 have hn := kd.n
 have h2 := kd.h
 have hsz : n * (2 * n + 3 + h) ≤ 32 * 76 := Nat.mul_le_mul hn (by omega)
 have hDs : D * (n * (2 * n + 3 + h)) ≤ 68 * (32 * 76) := Nat.mul_le_mul hD hsz
 have h64 : num < 18446744073709551616 := Nat.lt_of_lt_of_le hnum (Nat.pow_le_pow_right (n := 2) (by omega) r64)
 generalize hz : n * (2 * n + 3 + h) = sz at lsig hsz hDs
 have eD : IntKind.i64.wrap ((D : Int) * (sz : Int)) = ((D * sz : Nat) : Int) := by
  rw [show (D : Int) * (sz : Int) = ((D * sz : Nat) : Int) by rw [Int.natCast_mul], i64w (by omega) (by omega)]
 rw [P.xmss_Verify_eq]; unfold P.xmss_Verify_raw
 rw [such_ok kd sh _ (by simp) (fun j hj => by
  match j with
  | 0 => exact lt
  | 1 => exact np
  | 2 => exact ltop
  | j + 3 => simp at hj; omega), br_not, br_tt, xmss_Size kd, hz, eD, br_bne_neg (by rw [lsig]), xmss_placed kd sh r hr r64 num leaf hnum hleaf, br_not, br_tt, P.xmss_Verify_l2_1_eq]
 unfold P.xmss_Verify_L2_1
 refine lp_go (fun d => (top, (D : Int), (d : Int), (n : Int), H, (D : Int), A, K, sh, vrT n sh pub sig t num leaf h sz d, sig.drop (d * sz), pub, (n : Int), H, (D : Int), A, K, sh, ((nmb h num d : Nat) : Int), ((lfN h num leaf d : Nat) : Int))) D (by simp [nmb, lfN, vrT]) (fun d hd next hnx => ?_) (fun next => ?_) (by omega)
 ·have hle := nmb_le h num d
  have hs := step_num (nmb h num d) h (by omega) h2
  have hds : d * sz + sz ≤ D * sz := by rw [← Nat.succ_mul]; exact Nat.mul_le_mul hd (Nat.le_refl _)
  have ld : (sig.drop (d * sz)).length = D * sz - d * sz := by rw [List.length_drop]; omega
  have lq : ((sig.drop (d * sz)).take sz).length = sz := by rw [List.length_take]; omega
  rw [Nat.succ_mul, ← List.drop_drop, nmb_succ] at hnx
  simp only [P.xmss_Verify_r2_1, toNat_cast]
  rw [br_pos (by omega), show P.wots_Put (ρ := ρ) [0, 0, 0, 0, 0, 0, 0, 0, 0, 0, 0, 0, 0, 0, 0, 0, 0, 0, 0, 0, 0, 0, 0, 0, 0, 0, 0, 0, 0, 0, 0, 0] = P.wots_Put Z32 from rfl, u64n _ (by omega), wots_Put rfl 0 d (by omega), wots_Put (putS_len rfl _ _) 1 _ (by omega), xmss_Size kd, hz, br_pos (by omega), br_pos (by omega), List.drop_zero, toNat_cast]
  rw [show P.xmss_Candidate (ρ := ρ) (n : Int) H (D : Int) A K sh ((sig.drop (d * sz)).take sz) (vrT n sh pub sig t num leaf h sz d) pub (putS (putS Z32 0 d) 1 (nmb h num d)) = P.xmss_Candidate (n : Int) H (D : Int) A K sh ((sig.drop (d * sz)).take sz) (vrT n sh pub sig t num leaf h sz d) pub (plA d (nmb h num d)) from rfl,
   xmss_Candidate kd sh _ _ pub _ ((hsig.drop _).take _) (by rw [hz, lq]) (vrT_in n sh pub sig t ht _ _ _ _ _) (vrT_len hn sh pub sig t lt _ _ _ _ _) hp np (plA_len _ _) (plA_in _ _) _ (lfN_lt num hleaf d), xmss_Size kd, hz, br_pos (by omega), br_pos (by omega), br_pos (by omega), xmss_high kd, br_neg (by omega), xmss_high kd, br_neg (by omega), toNat_cast, toNat_cast, List.take_length, hs.1, hs.2, i64w (by omega) (by omega)]
  exact hnx
 ·simp only [P.xmss_Verify_r2_1]
  rw [br_neg (by omega), bits_Same _ _ (vrT_in n sh pub sig t ht _ _ _ _ _) itop (by rw [vrT_len hn sh pub sig t lt]; omega)]
end Q
end

section
/- xmss: what trees in trees sign leads to the top of all. -/
namespace Q
open QK
open Go Go.Abs
set_option linter.unusedVariables false
set_option linter.unusedSimpArgs false
def hyT (n : Nat) (sh : Bool) (pub sec t : List Int) (num leaf h : Nat) : Nat → List Int
 | 0 => t
 | d + 1 => tpW n sh pub (plA d (nmb h num d)) (sgW n sh pub sec (plA d (nmb h num d)) (hyT n sh pub sec t num leaf h d) (lfN h num leaf d) h) (hyT n sh pub sec t num leaf h d) (lfN h num leaf d) h
def hyS (n : Nat) (sh : Bool) (pub sec t : List Int) (num leaf h : Nat) (d : Nat) : List Int := sgW n sh pub sec (plA d (nmb h num d)) (hyT n sh pub sec t num leaf h d) (lfN h num leaf d) h
theorem hyT_len {n : Nat} (hn : n ≤ 32) (sh : Bool) (pub sec t : List Int) (lt : t.length = n) (num leaf h : Nat) : ∀ d, (hyT n sh pub sec t num leaf h d).length = n
 | 0 => lt
 | d + 1 => tpW_len hn _ _ _ _ _ _ _
theorem hyT_in (n : Nat) (sh : Bool) (pub sec t : List Int) (ht : In 256 t) (num leaf h : Nat) : ∀ d, In 256 (hyT n sh pub sec t num leaf h d)
 | 0 => ht
 | d + 1 => tpW_in _ _ _ _ _ _ _ _
theorem hyS_len {n : Nat} (hn : n ≤ 32) (sh : Bool) (pub sec t : List Int) (num leaf h d : Nat) : (hyS n sh pub sec t num leaf h d).length = n * (2 * n + 3 + h) := sgW_len hn _ _ _ _ _ _ _
theorem hyS_in (n : Nat) (sh : Bool) (pub sec t : List Int) (num leaf h d : Nat) : In 256 (hyS n sh pub sec t num leaf h d) := sgW_in _ _ _ _ _ _ _ _
theorem hy_vr {n : Nat} (hn : n ≤ 32) (sh : Bool) (pub sec t : List Int) (num leaf h D : Nat) : ∀ d, d ≤ D → vrT n sh pub (cat (hyS n sh pub sec t num leaf h) D) t num leaf h (n * (2 * n + 3 + h)) d = hyT n sh pub sec t num leaf h d
 | 0, _ => rfl
 | d + 1, hd => by
  rw [vrT, hy_vr hn sh pub sec t num leaf h D d (by omega), cat_part (hyS_len hn sh pub sec t num leaf h) d D (by omega)]
  rfl
theorem hy_top {n : Nat} (hn3 : N3 n) (sh : Bool) (pub sec t : List Int) (lt : t.length = n) (num leaf h d : Nat) (hl : leaf < 2 ^ h) : hyT n sh pub sec t num leaf h (d + 1) = knW n sh pub sec (plA d (nmb h num d)) h 0 := by
 have hn : n ≤ 32 := by rcases hn3 with rfl | rfl | rfl <;> omega
 exact tp_sg hn3 sh pub sec _ _ (hyT_len hn sh pub sec t lt num leaf h d) _ h (lfN_lt num hl d)
theorem plA_0 : plA 0 0 = Z32 := by decide +kernel
theorem plA_1 : plA 1 0 = [0, 0, 0, 1, 0, 0, 0, 0, 0, 0, 0, 0, 0, 0, 0, 0, 0, 0, 0, 0, 0, 0, 0, 0, 0, 0, 0, 0, 0, 0, 0, 0] := by decide +kernel
end Q
end

section
/- xmss: the chapter's examples. -/
namespace Q
open QK
open Go Go.Abs
set_option linter.unusedVariables false
set_option linter.unusedSimpArgs false
theorem kd16 : Kd 16 2 1 1 1 2 := ⟨by decide, rfl⟩
theorem L18_awake {ρ : Type} (k : Bool → Option ρ) : P.L18_awake k = k true := by
 rw [P.L18_awake_eq]; unfold P.L18_awake_raw
 rw [show P.xmss_Size (ρ := ρ) 16 2 1 1 1 false = P.xmss_Size ((16 : Nat) : Int) 2 1 1 1 false from rfl, xmss_Size kd16, br_beq_pos (show ((16 * (2 * 16 + 3 + 2) : Nat) : Int) = 592 from rfl), P.xmss_Node_eq]
 unfold P.xmss_Node_raw
 rw [show P.xmss_such (ρ := ρ) 16 2 1 1 1 false = P.xmss_such ((16 : Nat) : Int) 2 1 1 1 false from rfl, such_ok kd16 false _ (by simp) (fun j hj => by
  match j with
  | 0 => rfl
  | 1 => rfl
  | j + 2 => simp at hj; omega), br_not, br_tt, br_neg (by omega), show P.xmss_high (ρ := ρ) 16 2 1 1 1 false = P.xmss_high ((16 : Nat) : Int) 2 1 1 1 false from rfl, xmss_high kd16, br_pos (by omega)]
 rfl
end Q
end

section
/- xmss: trees in trees sign, by the program. -/
namespace Q
open QK
open Go Go.Abs
set_option linter.unusedVariables false
set_option linter.unusedSimpArgs false
theorem xmss_Hyper {n : Nat} {H A K : Int} {h D : Nat} (kd : Kd n H D A K h) (hD : D ≤ 68) (sh : Bool) (t sec pub : List Int) (ht : In 256 t) (lt : t.length = n) (hsec : In 256 sec) (lsec : sec.length = n) (hp : In 256 pub) (np : pub.length = n) (r : Nat) (hr : H - (h : Int) = (r : Int)) (r64 : r ≤ 64) (num leaf : Nat) (hnum : num < 2 ^ r) (hleaf : leaf < 2 ^ h) {ρ : Type} (k : List Int → Option ρ) :
    P.xmss_Hyper n H D A K sh t sec pub (num : Int) (leaf : Int) k = k (cat (hyS n sh pub sec t num leaf h) D) := by
 have hn := kd.n
 have h2 := kd.h
 have hsz : n * (2 * n + 3 + h) ≤ 32 * 76 := Nat.mul_le_mul hn (by omega)
 have hDs : D * (n * (2 * n + 3 + h)) ≤ 68 * (32 * 76) := Nat.mul_le_mul hD hsz
 have h64 : num < 18446744073709551616 := Nat.lt_of_lt_of_le hnum (Nat.pow_le_pow_right (n := 2) (by omega) r64)
 have hl := cat_len (hyS_len hn sh pub sec t num leaf h)
 rw [P.xmss_Hyper_eq]; unfold P.xmss_Hyper_raw
 rw [such_ok kd sh _ (by simp) (fun j hj => by
  match j with
  | 0 => exact lt
  | 1 => exact lsec
  | 2 => exact np
  | j + 3 => simp at hj; omega), br_not, br_tt, xmss_placed kd sh r hr r64 num leaf hnum hleaf, br_not, br_tt, P.xmss_Hyper_l2_1_eq]
 unfold P.xmss_Hyper_L2_1
 refine lp_go (fun d => ((D : Int), (d : Int), cat (hyS n sh pub sec t num leaf h) d, (n : Int), H, (D : Int), A, K, sh, hyT n sh pub sec t num leaf h d, sec, pub, (n : Int), H, (D : Int), A, K, sh, ((nmb h num d : Nat) : Int), ((lfN h num leaf d : Nat) : Int))) D (by simp [nmb, lfN, hyT, cat]) (fun d hd next hnx => ?_) (fun next => ?_) (by omega)
 ·have hle := nmb_le h num d
  have hs := step_num (nmb h num d) h (by omega) h2
  have hlt := lfN_lt num hleaf d
  have hd1 : d * (n * (2 * n + 3 + h)) ≤ 68 * (32 * 76) := Nat.mul_le_mul (by omega) hsz
  have hT := hyT_len hn sh pub sec t lt num leaf h d
  have hTi := hyT_in n sh pub sec t ht num leaf h d
  have hc := hl d
  have hsl := sgW_len hn sh pub sec (plA d (nmb h num d)) (hyT n sh pub sec t num leaf h d) (lfN h num leaf d) h
  rw [nmb_succ] at hnx
  simp only [P.xmss_Hyper_r2_1]
  rw [br_pos (by omega), show P.wots_Put (ρ := ρ) [0, 0, 0, 0, 0, 0, 0, 0, 0, 0, 0, 0, 0, 0, 0, 0, 0, 0, 0, 0, 0, 0, 0, 0, 0, 0, 0, 0, 0, 0, 0, 0] = P.wots_Put Z32 from rfl, u64n _ (by omega), wots_Put rfl 0 d (by omega), wots_Put (putS_len rfl _ _) 1 _ (by omega), show putS (putS Z32 0 d) 1 (nmb h num d) = plA d (nmb h num d) from rfl,
   xmss_Sign kd sh _ sec pub _ hTi hT hsec lsec hp np (plA_len _ _) (plA_in _ _) _ hlt, br_pos (by omega),
   xmss_Candidate kd sh _ _ pub _ (sgW_in _ _ _ _ _ _ _ _) hsl hTi hT hp np (plA_len _ _) (plA_in _ _) _ hlt, xmss_high kd, br_neg (by omega), xmss_high kd, br_neg (by omega), toNat_cast, hs.1, hs.2, i64w (by omega) (by omega)]
  exact hnx
 ·simp only [P.xmss_Hyper_r2_1]
  rw [br_neg (by omega)]
end Q
end

section
open Go Go.Abs
set_option linter.unusedVariables false
namespace P
end P
end

section
/- The plain law of WotsRight. -/
namespace Q
open QK
open Go Go.Abs
set_option linter.unusedVariables false
set_option linter.unusedSimpArgs false
theorem size3 (x0 : Int) (h : 0 ≤ x0) : ∃ n : Nat, IntKind.i64.wrap ((16 : Int) + IntKind.i64.wrap ((8 : Int) * IntKind.i64.wrap (x0.tmod (3 : Int)))) = (n : Int) ∧ N3 n := by
 rw [Int.tmod_eq_emod_of_nonneg h]
 have : x0 % 3 = 0 ∨ x0 % 3 = 1 ∨ x0 % 3 = 2 := by omega
 rcases this with e | e | e <;> rw [e]
 ·exact ⟨16, rfl, .inl rfl⟩
 ·exact ⟨24, rfl, .inr (.inl rfl)⟩
 ·exact ⟨32, rfl, .inr (.inr rfl)⟩
end Q
end
