/-
  MacTells, part P: an interpreter of my own over abstract values, the pure functions, the walks and the plain law.
-/

import Derived.Test.YtjhnljhjpnjieaaDoorMacTellsO
import Derived.Test.YtjhnljhjpnjieaaDoorMacTellsF
import Derived.Test.YtjhnljhjpnjieaaDoorMacTellsG
import Derived.Test.YtjhnljhjpnjieaaDoorMacTellsH
import Derived.Test.YtjhnljhjpnjieaaDoorMacTellsI

section
/- SHA-2: the document's block of words of 64 bits. -/
namespace Q
open Go Go.Abs
set_option linter.unusedVariables false
set_option linter.unusedSimpArgs false
theorem r64_right (x : BitVec 64) (m : Int) (n : Nat) (hm : m = (n : Int)) (hn : n ≤ 64) {ρ : Type} (k : Int → Option ρ) : P.R07_right (x.toNat : Int) m true k = k ((rr x n).toNat : Int) := by
 subst hm
 rw [P.R07_right_eq]
 unfold P.R07_right_raw
 rw [br_tt, br_neg (by omega), i64w (by omega) (by omega), br_neg (by omega), show (64 : Int) - (n : Int) = ((64 - n : Nat) : Int) by omega]
 simp only [toNat_cast]
 rw [shr64 _ _ hn, shl64 _ _ (by omega), or64]
 rfl
theorem r64_hi (x : BitVec 64) (t : Nat × Nat × Nat) (a b c : Int) (ha : a = (t.1 : Int)) (hb : b = (t.2.1 : Int)) (hc : c = (t.2.2 : Int)) (h1 : t.1 ≤ 64) (h2 : t.2.1 ≤ 64) (h3 : t.2.2 ≤ 64) {ρ : Type} (k : Int → Option ρ) :
    P.R07_mix (x.toNat : Int) a b c false true k = k ((hi t x).toNat : Int) := by
 rw [P.R07_mix_eq]
 unfold P.R07_mix_raw
 rw [br_neg (by omega), br_not, br_ff, r64_right _ _ _ hc h3, r64_right _ _ _ ha h1, r64_right _ _ _ hb h2, xor64, xor64]
 rfl
theorem r64_lo (x : BitVec 64) (t : Nat × Nat × Nat) (a b c : Int) (ha : a = (t.1 : Int)) (hb : b = (t.2.1 : Int)) (hc : c = (t.2.2 : Int)) (h1 : t.1 ≤ 64) (h2 : t.2.1 ≤ 64) (h3 : t.2.2 ≤ 64) {ρ : Type} (k : Int → Option ρ) :
    P.R07_mix (x.toNat : Int) a b c true true k = k ((lo t x).toNat : Int) := by
 rw [P.R07_mix_eq]
 unfold P.R07_mix_raw
 rw [br_neg (by omega), br_not, br_tt, r64_right _ _ _ ha h1, r64_right _ _ _ hb h2, xor64, hc]
 simp only [toNat_cast]
 rw [shr64 _ _ h3, xor64]
 rfl
theorem s4_64 (a b c d : BitVec 64) : bits .and .u64 (IntKind.u64.wrap (IntKind.u64.wrap (IntKind.u64.wrap ((a.toNat : Int) + (b.toNat : Int)) + (c.toNat : Int)) + (d.toNat : Int))) 18446744073709551615 = ((a + b + c + d).toNat : Int) := by
 rw [add64, add64, add64, wmask _ (lt64 _)]
theorem s2_64 (a b : BitVec 64) : bits .and .u64 (IntKind.u64.wrap ((a.toNat : Int) + (b.toNat : Int))) 18446744073709551615 = ((a + b).toNat : Int) := by
 rw [add64, wmask _ (lt64 _)]
theorem s6_64 (d a b c e f : BitVec 64) : bits .and .u64 (IntKind.u64.wrap ((d.toNat : Int) + IntKind.u64.wrap (IntKind.u64.wrap (IntKind.u64.wrap (IntKind.u64.wrap ((a.toNat : Int) + (b.toNat : Int)) + (c.toNat : Int)) + (e.toNat : Int)) + (f.toNat : Int)))) 18446744073709551615 = ((d + (a + b + c + e + f)).toNat : Int) := by
 rw [add64, add64, add64, add64, add64, wmask _ (lt64 _)]
theorem s7_64 (a b c e f g h : BitVec 64) : bits .and .u64 (IntKind.u64.wrap (IntKind.u64.wrap (IntKind.u64.wrap (IntKind.u64.wrap (IntKind.u64.wrap ((a.toNat : Int) + (b.toNat : Int)) + (c.toNat : Int)) + (e.toNat : Int)) + (f.toNat : Int)) + IntKind.u64.wrap ((g.toNat : Int) + (h.toNat : Int)))) 18446744073709551615 = (((a + b + c + e + f) + (g + h)).toNat : Int) := by
 rw [add64, add64, add64, add64, add64, add64, wmask _ (lt64 _)]
theorem ch_64 (e f g : BitVec 64) : bits .xor .u64 (bits .and .u64 (e.toNat : Int) (f.toNat : Int)) (bits .and .u64 (bits .xor .u64 18446744073709551615 (e.toNat : Int)) (g.toNat : Int)) = ((g ^^^ (e &&& (f ^^^ g))).toNat : Int) := by
 rw [show (18446744073709551615 : Int) = ((BitVec.allOnes 64).toNat : Int) from rfl, and64, xor64, and64, xor64, ch_eq]
theorem maj_64 (a b c : BitVec 64) : bits .xor .u64 (bits .xor .u64 (bits .and .u64 (a.toNat : Int) (b.toNat : Int)) (bits .and .u64 (a.toNat : Int) (c.toNat : Int))) (bits .and .u64 (b.toNat : Int) (c.toNat : Int)) = (((a &&& b) ||| (c &&& (a ||| b))).toNat : Int) := by
 rw [and64, and64, and64, xor64, xor64, maj_eq]
def pre64 (b : List Int) (t : Nat) : List (BitVec 64) := (List.range t).map (W p64 (wordsB 64 b 16))
theorem pre64_succ (b : List Int) (t : Nat) : pre64 b (t + 1) = pre64 b t ++ [W p64 (wordsB 64 b 16) t] := by simp [pre64, List.range_succ]
theorem pre64_len (b : List Int) (t : Nat) : (pre64 b t).length = t := by simp [pre64]
theorem pre64_at (b : List Int) (t i : Nat) (h : i < t) : (pre64 b t).getD i 0 = W p64 (wordsB 64 b 16) i := by
 unfold pre64
 rw [getD_lt (by simpa using h)]; simp
theorem W64_low (b : List Int) (t : Nat) (h : t < 16) : W p64 (wordsB 64 b 16) t = BitVec.ofNat 64 (T 8 ((b.take ((t + 1) * 8)).drop (t * 8)).reverse) := by
 rw [← W_eq p64 _ (by rw [wordsB_len]; omega) 0 t (by rw [wordsB_len]; omega), show sched p64 (wordsB 64 b 16) 0 = wordsB 64 b 16 from rfl, getD_lt (by rw [wordsB_len]; exact h)]
 simp [wordsB]
theorem r64_words (b : List Int) (hb : In 256 b) (hl : b.length = 16 * 8) {ρ : Type} (k : List Int → Option ρ) : P.R07_words b true 80 18446744073709551615 k = k (cv (pre64 b 80)) := by
 rw [P.R07_words_eq]
 unfold P.R07_words_raw
 rw [br_tt, P.R07_words_l6_eq]
 unfold P.R07_words_L6
 refine lp_go (fun t => (b, true, 80, 18446744073709551615, 8, (t : Int), cv (pre64 b t))) 80 rfl (fun t ht next hn' => ?_) (fun next => ?_) (by omega)
 ·simp only [P.R07_words_r6, toNat_cast]
  have e1 : IntKind.i64.wrap ((t : Int) + 1) = ((t + 1 : Nat) : Int) := by rw [i64w (by omega) (by omega)]; omega
  rw [br_pos (by omega)]
  have hlen := pre64_len b t
  by_cases h16 : t < 16
  ·have e2 : IntKind.i64.wrap ((t : Int) * 8) = ((t * 8 : Nat) : Int) := by rw [i64w (by omega) (by omega)]; omega
   have e3 : IntKind.i64.wrap (IntKind.i64.wrap ((t : Int) * 8) + 8) = (((t + 1) * 8 : Nat) : Int) := by rw [e2, i64w (by omega) (by omega)]; omega
   have hl2 : ((b.take ((t + 1) * 8)).drop (t * 8)).length = 8 := by simp; omega
   rw [br_pos (by omega), e3, e2, br_pos (by omega), br_pos (by omega), br_pos (by omega)]
   simp only [toNat_cast]
   have hT := T_lt 8 ((b.take ((t + 1) * 8)).drop (t * 8)).reverse
   rw [List.length_reverse, hl2] at hT
   have e4 : ((T 8 ((b.take ((t + 1) * 8)).drop (t * 8)).reverse % 2 ^ 64 : Nat) : Int) = ((W p64 (wordsB 64 b 16) t).toNat : Int) := by
    rw [W64_low b t h16, BitVec.toNat_ofNat]
   rw [R01_Num _ ((hb.take _).drop _) (by omega), br_pos (by rw [cv_length]; omega), e4, e1, show [((W p64 (wordsB 64 b 16) t).toNat : Int)] = cv [W p64 (wordsB 64 b 16) t] from rfl, cv_append, ← pre64_succ]
   exact hn'
  ·have e15 : IntKind.i64.wrap ((t : Int) - 15) = ((t - 15 : Nat) : Int) := by rw [i64w (by omega) (by omega)]; omega
   have e2 : IntKind.i64.wrap ((t : Int) - 2) = ((t - 2 : Nat) : Int) := by rw [i64w (by omega) (by omega)]; omega
   have e7 : IntKind.i64.wrap ((t : Int) - 7) = ((t - 7 : Nat) : Int) := by rw [i64w (by omega) (by omega)]; omega
   have e16 : IntKind.i64.wrap ((t : Int) - 16) = ((t - 16 : Nat) : Int) := by rw [i64w (by omega) (by omega)]; omega
   simp only [e15, e2, e7, e16, toNat_cast, cv_getD, cv_length, hlen]
   rw [pre64_at b t _ (by omega), pre64_at b t _ (by omega), pre64_at b t _ (by omega), pre64_at b t _ (by omega)]
   obtain ⟨q1, m1⟩ := mix_any' ((W p64 (wordsB 64 b 16) (t - 15)).toNat : Int) 7 18 3 7 18 3 rfl rfl rfl (by omega) (by omega) (by omega)
   obtain ⟨q2, m2⟩ := mix_any' ((W p64 (wordsB 64 b 16) (t - 2)).toNat : Int) 17 19 10 17 19 10 rfl rfl rfl (by omega) (by omega) (by omega)
   rw [br_neg (by omega), br_pos (by omega), br_pos (by omega), m1, br_pos (by omega), br_pos (by omega), m2, br_tt, br_pos (by omega), br_pos (by omega), r64_lo _ p64.a _ _ _ (by rfl) (by rfl) (by rfl) (by decide) (by decide) (by decide), br_pos (by omega), br_pos (by omega), r64_lo _ p64.b _ _ _ (by rfl) (by rfl) (by rfl) (by decide) (by decide) (by decide)]
   have hW := W_next p64 (wordsB 64 b 16) (wordsB_len b 16) (t - 16)
   rw [show t - 16 + 16 = t by omega, show t - 16 + 1 = t - 15 by omega, show t - 16 + 9 = t - 7 by omega, show t - 16 + 14 = t - 2 by omega] at hW
   have hW2 : lo p64.b (W p64 (wordsB 64 b 16) (t - 2)) + W p64 (wordsB 64 b 16) (t - 7) + lo p64.a (W p64 (wordsB 64 b 16) (t - 15)) + W p64 (wordsB 64 b 16) (t - 16) = W p64 (wordsB 64 b 16) t := by rw [hW]; ac_rfl
   rw [br_pos (by omega), br_pos (by omega), br_pos (by omega), br_pos (by omega), br_pos (by omega), s4_64, hW2, e1, show [((W p64 (wordsB 64 b 16) t).toNat : Int)] = cv [W p64 (wordsB 64 b 16) t] from rfl, cv_append, ← pre64_succ]
   exact hn'
 ·simp only [P.R07_words_r6]
  rw [br_neg (by omega)]
theorem r64_l11 (b : List Int) (v : List (BitVec 64)) (hv : v.length = 8) (h0 h1 : List Int) {ρ : Type} (k0 : Bool → Int → Int → Int → List Int → List Int → List Int → List Int → List Int → List Int → Option ρ) :
    P.R07_block_l11 true 80 18446744073709551615 0 h0 h1 P.roots256 P.roots512 (cv (pre64 b 80)) (cv v) k0 = k0 true 80 18446744073709551615 80 h0 h1 P.roots256 P.roots512 (cv (pre64 b 80)) (cv (runs p64 (wordsB 64 b 16) v 80)) := by
 rw [P.R07_block_l11_eq]
 unfold P.R07_block_L11
 refine lp_go (fun t => (true, 80, 18446744073709551615, (t : Int), h0, h1, P.roots256, P.roots512, cv (pre64 b 80), cv (runs p64 (wordsB 64 b 16) v t))) 80 rfl (fun t ht next hn' => ?_) (fun next => ?_) (by omega)
 ·simp only [P.R07_block_r11]
  have e1 : IntKind.i64.wrap ((t : Int) + 1) = ((t + 1 : Nat) : Int) := by rw [i64w (by omega) (by omega)]; omega
  have hlen := pre64_len b 80
  simp only [e1, toNat_cast, cv_getD, cv_length, hlen]
  rw [pre64_at b 80 t ht, K64]
  obtain ⟨q1, m1⟩ := mix_any (((runs p64 (wordsB 64 b 16) v t).getD 0 0).toNat : Int) 2 13 22 2 13 22 rfl rfl rfl (by omega) (by omega) (by omega)
  obtain ⟨q2, m2⟩ := mix_any (((runs p64 (wordsB 64 b 16) v t).getD 4 0).toNat : Int) 6 11 25 6 11 25 rfl rfl rfl (by omega) (by omega) (by omega)
  rw [br_pos (by omega), m1, m2, br_tt, r64_hi _ p64.c _ _ _ (by rfl) (by rfl) (by rfl) (by decide) (by decide) (by decide), r64_hi _ p64.d _ _ _ (by rfl) (by rfl) (by rfl) (by decide) (by decide) (by decide)]
  rw [br_pos (by omega), br_pos (by omega), br_pos (by omega), br_pos (by omega), ch_64, maj_64, s7_64, s6_64]
  exact hn'
 ·simp only [P.R07_block_r11]
  rw [br_neg (by omega)]
  rfl
theorem r64_l25 (v u : List (BitVec 64)) (hv : v.length = 8) (hu : u.length = 8) (h1 : List Int) {ρ : Type} (k0 : Int → Int → List Int → List Int → List Int → Option ρ) :
    P.R07_block_l25 18446744073709551615 0 (cv v) h1 (cv u) k0 = k0 18446744073709551615 8 (cv v) h1 (cv ((List.range 8).map fun i => u.getD i 0 + v.getD i 0)) := by
 rw [P.R07_block_l25_eq]
 unfold P.R07_block_L25
 refine lp_go (fun i => (18446744073709551615, (i : Int), cv v, h1, cv (((List.range i).map fun i => u.getD i 0 + v.getD i 0) ++ u.drop i))) 8 (by simp) (fun i hi next hn' => ?_) (fun next => ?_) (by omega)
 ·simp only [P.R07_block_r25, toNat_cast, cv_getD]
  have e1 : IntKind.i64.wrap ((i : Int) + 1) = ((i + 1 : Nat) : Int) := by rw [i64w (by omega) (by omega)]; omega
  have e2 : (((List.range i).map fun i => u.getD i 0 + v.getD i 0) ++ u.drop i).getD i 0 = u.getD i 0 := by
   rw [List.getD_eq_getElem?_getD, List.getElem?_append_right (by simp), List.getElem?_drop, List.length_map, List.length_range, List.getD_eq_getElem?_getD]
   congr 2
   omega
  rw [e1, e2, s2_64, cv_set]
  have e3 : (((List.range i).map fun i => u.getD i 0 + v.getD i 0) ++ u.drop i).set i (u.getD i 0 + v.getD i 0) = ((List.range (i + 1)).map fun i => u.getD i 0 + v.getD i 0) ++ u.drop (i + 1) := by
   rw [List.set_append_right _ _ (by simp), List.length_map, List.length_range, Nat.sub_self, List.range_succ, List.map_append, List.append_assoc, List.drop_eq_getElem_cons (by omega), List.set_cons_zero]
   rfl
  rw [e3]
  simp (disch := omega) only [br_pos, br_neg, br_bne_pos, br_bne_neg, br_beq_pos, br_beq_neg, br_not, br_tt, br_ff, i64w]
  exact hn'
 ·simp only [P.R07_block_r25]
  rw [br_neg (by omega), List.drop_eq_nil_of_le (by omega), List.append_nil]
  rfl
theorem r64_block (v : List (BitVec 64)) (hv : v.length = 8) (b : List Int) (hb : In 256 b) (hl : b.length = 16 * 8) {ρ : Type} (k : List Int → Option ρ) : P.R07_block (cv v) b true k = k (cv (blockB p64 v b)) := by
 rw [P.R07_block_eq]
 unfold P.R07_block_raw
 have hr1 : ∀ (k : List Int → Option ρ), P.R07_roots256 k = k P.roots256 := fun k => by rw [P.R07_roots256_eq]; kernel_rfl
 have hr2 : ∀ (k : List Int → Option ρ), P.R07_roots512 k = k P.roots512 := fun k => by rw [P.R07_roots512_eq]; kernel_rfl
 rw [hr1, hr2, br_tt, r64_words b hb hl, r64_l11 b v hv, r64_l25 v _ hv (runs_len _ _ _ hv _)]
 rfl
end Q
end

section
open Go Go.Abs
set_option linter.unusedVariables false
namespace P
end P
end

section
open Go Go.Abs
set_option linter.unusedVariables false
namespace P
end P
end

section
open Go Go.Abs
set_option linter.unusedVariables false
namespace P
end P
end

section
open Go Go.Abs
set_option linter.unusedVariables false
namespace P
end P
end

section
/- bits, the first part: texts. -/
namespace Q
open Go Go.Abs
set_option linter.unusedVariables false
set_option linter.unusedSimpArgs false
theorem same_loop {a b : List Int} (hl : a.length = b.length) (hs : a.length ≤ 140737488355328) {ρ : Type} (k0 : List Int → List Int → Int → Option ρ) (k1 : Bool → Option ρ) :
    ∀ (m i : Nat), i + m = a.length → ∀ {stp : (List Int × List Int × Int) → ((List Int × List Int × Int) → Option ρ) → ((List Int × List Int × Int) ⊕ Bool → Option ρ) → Option ρ} {K : (List Int × List Int × Int) ⊕ Bool → Option ρ},
     (∀ (j : Nat) next, stp (a, b, (j : Int)) next K = br (decide ((j : Int) < (a.length : Int))) (br (a.getD j 0 != b.getD j 0) (k1 false) (next (a, b, ((j + 1 : Nat) : Int)))) (k0 a b (j : Int))) →
     lp stp (a, b, (i : Int)) K = if a.drop i = b.drop i then k0 a b (a.length : Int) else k1 false := by
 intro m i hm stp K hst
 refine lp_eq (P := fun x => ∃ j : Nat, x = (a, b, (j : Int)) ∧ j ≤ a.length ∧ (if a.drop j = b.drop j then k0 a b (a.length : Int) else k1 false) = (if a.drop i = b.drop i then k0 a b (a.length : Int) else k1 false)) (μ := fun x => ((a.length : Int) - x.2.2).toNat) ?_ ⟨i, rfl, by omega, rfl⟩ (by simp only; omega)
 rintro _ ⟨j, rfl, hj, he⟩ next hn
 rw [hst, ← he]
 by_cases hji : j < a.length
 ·rw [br_pos (by omega), drop_step a 0 j hji, drop_step b 0 j (by omega)]
  by_cases hab : a.getD j 0 = b.getD j 0
  ·rw [br_bne_neg hab, hn _ ⟨j + 1, rfl, by omega, ?_⟩ (by simp only; omega), ← he, drop_step a 0 j hji, drop_step b 0 j (by omega)]
   ·rw [← he, drop_step a 0 j hji, drop_step b 0 j (by omega)]
    simp only [hab, List.cons.injEq, true_and]
  ·rw [br_bne_pos hab, if_neg (by simp only [List.cons.injEq]; exact fun h => hab h.1)]
 ·have : j = a.length := by omega
  subst this
  rw [br_neg (by omega), if_pos (by rw [List.drop_eq_nil_of_le (Nat.le_refl _), List.drop_eq_nil_of_le (by omega)])]
theorem R01_Same (a b : List Int) (h : a.length ≤ 140737488355328) {ρ : Type} (k : Bool → Option ρ) : P.R01_Same a b k = k (decide (a = b)) := by
 rw [P.R01_Same_eq]
 unfold P.R01_Same_raw
 by_cases hl : a.length = b.length
 ·rw [br_bne_neg (by omega), P.R01_Same_l4_eq]
  unfold P.R01_Same_L4
  have := same_loop hl h (fun _ _ _ => k true) k a.length 0 (by omega) (stp := (fun x next ex => P.R01_Same_r4 x.1 x.2.1 x.2.2 (fun v0 v1 v5 => next (v0, v1, v5)) (fun v0 v1 v5 => ex (.inl (v0, v1, v5))) (fun v4 => ex (.inr v4)))) (K := Sum.elim (fun _ => k true) k) (by
   intro j next
   simp only [P.R01_Same_r4, Sum.elim_inl, Sum.elim_inr]
   by_cases hj : (j : Int) < (a.length : Int)
   ·simp only [br_pos hj]
    simp (disch := omega) only [br_pos, br_neg, br_bne_pos, br_bne_neg, br_beq_pos, br_beq_neg, br_not, br_tt, br_ff, i64w, toNat_cast]
    rfl
   ·simp only [br_neg hj])
  simp only [List.drop_zero] at this
  refine this.trans ?_
  by_cases hab : a = b
  ·rw [if_pos hab, decide_eq_true hab]
  ·rw [if_neg hab, decide_eq_false hab]
 ·rw [br_bne_pos (by omega), decide_eq_false (fun e => hl (by rw [e]))]
end Q
end

section
open Go Go.Abs
set_option linter.unusedVariables false
namespace P
end P
end

section
open Go Go.Abs
set_option linter.unusedVariables false
namespace P
end P
end

section
/- bits: the law's own test. -/
namespace Q
open Go Go.Abs
set_option linter.unusedVariables false
set_option linter.unusedSimpArgs false
end Q
end

section
/- bits: Same, Join. -/
namespace Q
open Go Go.Abs
set_option linter.unusedVariables false
set_option linter.unusedSimpArgs false
def joined (l : List (List Int)) (i : Nat) : List Int := (l.take i).flatten
theorem joined_succ (l : List (List Int)) (i : Nat) (h : i < l.length) : joined l (i + 1) = joined l i ++ l.getD i [] := by
 unfold joined
 rw [← take_step l [] i h, List.flatten_append]; simp
theorem joined_all (l : List (List Int)) : joined l l.length = l.flatten := by unfold joined; rw [List.take_length]
theorem joined_le (l : List (List Int)) (i : Nat) : (joined l i).length ≤ l.flatten.length := by
 unfold joined
 have : l.flatten = (l.take i).flatten ++ (l.drop i).flatten := by rw [← List.flatten_append, List.take_append_drop]
 rw [this, List.length_append]; omega
theorem R01_Join (l : List (List Int)) (h : l.length ≤ 140737488355328) (h2 : l.flatten.length ≤ 140737488355328) {ρ : Type} (k : List Int → Option ρ) : P.R01_Join l k = k l.flatten := by
 rw [P.R01_Join_eq]
 unfold P.R01_Join_raw
 rw [P.R01_Join_l3_eq]
 unfold P.R01_Join_L3
 refine lp_up (fun i => (l, (i : Int), joined l i)) l.length (fun i hi next hn => ?_) (fun next => ?_) (Nat.zero_le _) (by omega)
 ·have e := joined_succ l i hi
  have h3 := joined_le l (i + 1)
  rw [e, List.length_append] at h3
  simp only [P.R01_Join_r3, toNat_cast]
  simp (disch := omega) only [br_pos, br_neg, br_bne_pos, br_bne_neg, br_beq_pos, br_beq_neg, br_not, br_tt, br_ff, i64w]
  rw [← e]
  exact hn
 ·simp only [P.R01_Join_r3]
  rw [br_neg (by omega), joined_all]
theorem slices_Grow_byte (n : Nat) (h : n ≤ 140737488355328) {ρ : Type} (k : List Int → Option ρ) : P.slices_Grow_byte (n : Int) k = k [] := by
 rw [P.slices_Grow_byte_eq]
 unfold P.slices_Grow_byte_raw
 rw [br_neg (by omega), show IntKind.i64.wrap ((0 : Int) - (0 : Int)) = 0 by decide]
 rw [i64w (by omega) (by omega)]
 by_cases h0 : n = 0
 ·subst h0; rw [br_neg (by omega)]
 ·rw [br_pos (by omega), br_pos (by omega), br_pos (by omega)]; rfl
theorem slices_Concat_byte (l : List (List Int)) (h : l.length ≤ 140737488355328) (h2 : l.flatten.length ≤ 140737488355328) {ρ : Type} (k : List Int → Option ρ) : P.slices_Concat_byte l k = k l.flatten := by
 rw [P.slices_Concat_byte_eq]
 unfold P.slices_Concat_byte_raw
 rw [P.slices_Concat_byte_l3_eq]
 unfold P.slices_Concat_byte_L3
 refine lp_up (fun i => (l, ((joined l i).length : Int), l, (l.length : Int), (i : Int))) l.length (fun i hi next hn => ?_) (fun next => ?_) (Nat.zero_le _) (by omega)
 ·have e := joined_succ l i hi
  have h3 := joined_le l (i + 1)
  have e2 : ((joined l i).length : Int) + ((l.getD i []).length : Int) = ((joined l (i + 1)).length : Int) := by rw [e, List.length_append]; omega
  simp only [P.slices_Concat_byte_r3, toNat_cast, e2]
  simp (disch := omega) only [br_pos, br_neg, br_bne_pos, br_bne_neg, br_beq_pos, br_beq_neg, br_not, br_tt, br_ff, i64w]
  exact hn
 ·simp only [P.slices_Concat_byte_r3]
  rw [br_neg (by omega), joined_all, slices_Grow_byte _ h2, P.slices_Concat_byte_l11_eq]
  unfold P.slices_Concat_byte_L11
  refine lp_up (fun i => (l, (l.length : Int), (i : Int), joined l i)) l.length (fun i hi next hn => ?_) (fun next => ?_) (Nat.zero_le _) (by omega)
  ·have e := joined_succ l i hi
   have h3 := joined_le l (i + 1)
   rw [e, List.length_append] at h3
   simp only [P.slices_Concat_byte_r11, toNat_cast]
   simp (disch := omega) only [br_pos, br_neg, br_bne_pos, br_bne_neg, br_beq_pos, br_beq_neg, br_not, br_tt, br_ff, i64w]
   rw [← e]
   exact hn
  ·simp only [P.slices_Concat_byte_r11]
   rw [br_neg (by omega), joined_all]
theorem bits_Join (l : List (List Int)) (h : l.length ≤ 140737488355328) (h2 : l.flatten.length ≤ 140737488355328) {ρ : Type} (k : List Int → Option ρ) : P.bits_Join l k = k l.flatten := by
 rw [P.bits_Join_eq]
 unfold P.bits_Join_raw
 exact slices_Concat_byte l h h2 k
end Q
end

section
open Go Go.Abs
set_option linter.unusedVariables false
namespace P
end P
end

section
open Go Go.Abs
set_option linter.unusedVariables false
namespace P
end P
end

section
open Go Go.Abs
set_option linter.unusedVariables false
namespace P
end P
end

section
open Go Go.Abs
set_option linter.unusedVariables false
namespace P
end P
end

section
open Go Go.Abs
set_option linter.unusedVariables false
namespace P
end P
end

section
open Go Go.Abs
set_option linter.unusedVariables false
namespace P
end P
end

section
open Go Go.Abs
set_option linter.unusedVariables false
namespace P
end P
end

section
open Go Go.Abs
set_option linter.unusedVariables false
namespace P
end P
end

section
/- lmots: digits. -/
namespace Q
open Go Go.Abs
set_option linter.unusedVariables false
set_option linter.unusedSimpArgs false
theorem R01_Be (N s : Nat) (hN : N < 18446744073709551616) (hs : s ≤ 65536) {ρ : Type} (k : List Int → Option ρ) : P.R01_Be (N : Int) (s : Int) k = k (bsw 8 s N).reverse := by
 rw [P.R01_Be_eq]
 unfold P.R01_Be_raw
 simp only [toNat_cast]
 simp (disch := omega) only [br_pos, br_neg, br_bne_pos, br_bne_neg, br_beq_pos, br_beq_neg, br_not, br_tt, br_ff, i64w]
 rw [P.R01_Be_l5_eq]
 unfold P.R01_Be_L5
 refine lp_go (fun j => (((N / 2 ^ (8 * j) : Nat) : Int), (s : Int) - 1 - (j : Int), List.replicate (s - j) 0 ++ (bsw 8 j N).reverse)) s (by simp [bsw]) (fun j hj next hn' => ?_) (fun next => ?_) (by omega)
 ·simp only [P.R01_Be_r5, List.length_append, List.length_replicate, List.length_reverse, bsw_length]
  rw [show (s : Int) - 1 - (j : Int) = ((s - 1 - j : Nat) : Int) by omega]
  simp only [toNat_cast]
  have hd := Nat.div_le_self N (2 ^ (8 * j))
  have hb : bits .and .u64 ((N / 2 ^ (8 * j) : Nat) : Int) 255 = ((N / 2 ^ (8 * j) % 2 ^ 8 : Nat) : Int) := by
   rw [show (255 : Int) = ((2 ^ 8 - 1 : Nat) : Int) from rfl, and_u64 _ _ (by omega) (by omega), Nat.and_two_pow_sub_one_eq_mod]
  have hd2 : (((N / 2 ^ (8 * j) : Nat) : Int)).fdiv ((2 : Int) ^ 8) = ((N / 2 ^ (8 * (j + 1)) : Nat) : Int) := by
   rw [show ((2 : Int) ^ 8) = (2 : Int) ^ min 8 8 from rfl, fdiv_pow _ 8 8 (by omega), Nat.div_div_eq_div_mul, ← Nat.pow_add, Nat.mul_succ]
  rw [hb, hd2, u8n _ (by omega)]
  rw [bsw_succ, List.reverse_append, List.reverse_singleton, List.singleton_append] at hn'
  have hset : (List.replicate (s - j) (0 : Int) ++ (bsw 8 j N).reverse).set (s - 1 - j) ((N / 2 ^ (8 * j) % 2 ^ 8 : Nat) : Int) = List.replicate (s - (j + 1)) 0 ++ ((N / 2 ^ (8 * j) % 2 ^ 8 : Nat) : Int) :: (bsw 8 j N).reverse := by
   rw [show s - j = (s - (j + 1)) + 1 by omega, List.replicate_succ', List.append_assoc, List.set_append_right _ _ (by simp; omega), List.length_replicate, show s - 1 - j - (s - (j + 1)) = 0 by omega]
   rfl
  rw [hset]
  simp (disch := omega) only [br_pos, br_neg, br_bne_pos, br_bne_neg, br_beq_pos, br_beq_neg, br_not, br_tt, br_ff, i64w]
  rw [show ((s - 1 - j : Nat) : Int) - 1 = (s : Int) - 1 - ((j + 1 : Nat) : Int) by omega]
  exact hn'
 ·simp only [P.R01_Be_r5]
  rw [br_neg (by omega), Nat.sub_self]; rfl
def sumTo (D : List Int) : Nat → Nat
 | 0 => 0
 | i + 1 => sumTo D i + (D.getD i 0).toNat
def left (w s : Nat) (b : List Int) : Nat := ((256 / w) * (2 ^ w - 1) - sumTo (digitsS b w ((256 / w : Nat) : Int)) (256 / w)) * 2 ^ s
end Q
end

section
/- SHA-2: blocks one behind the other, words of 32 bits. -/
namespace Q
open Go Go.Abs
set_option linter.unusedVariables false
set_option linter.unusedSimpArgs false
def thr {w : Nat} (p : Par w) (v : List (BitVec w)) (b : List Int) : Nat → List (BitVec w)
 | 0 => v
 | i + 1 => blockB p (thr p v b i) ((b.drop ((2 * w) * i)).take (2 * w))
theorem thr_len {w : Nat} (p : Par w) (v : List (BitVec w)) (hv : v.length = 8) (b : List Int) : ∀ i, (thr p v b i).length = 8
 | 0 => hv
 | i + 1 => blockB_len _ _ _
def toV (w : Nat) (l : List Int) : List (BitVec w) := (List.range 8).map fun i => BitVec.ofInt w (l.getD i 0)
theorem toV_len (w : Nat) (l : List Int) : (toV w l).length = 8 := by simp [toV]
theorem cv_toV (w : Nat) (l : List Int) (hl : l.length = 8) (hi : In (2 ^ w) l) : cv (toV w l) = l := by
 unfold cv toV
 rw [List.map_map]
 refine List.ext_getElem (by simp [hl]) (fun i h1 h2 => ?_)
 have hp : ((2 : Int) ^ w) = ((2 ^ w : Nat) : Int) := by simp
 have := hi.getD i (by rw [hp]; have := p2 w; omega)
 rw [getD_lt h2] at this
 simp only [List.getElem_map, List.getElem_range, Function.comp, getD_lt h2, BitVec.toNat_ofInt]
 rw [hp] at this
 rw [Int.emod_eq_of_lt this.1 this.2]
 omega
theorem cv_in {w : Nat} (l : List (BitVec w)) : In (2 ^ w) (cv l) := by
 intro x hx
 obtain ⟨y, _, rfl⟩ := List.mem_map.1 hx
 have := y.isLt
 have hp : ((2 : Int) ^ w) = ((2 ^ w : Nat) : Int) := by simp
 rw [hp]
 omega
theorem ofInt_toNat32 (x : Int) : IntKind.u32.wrap x = ((BitVec.ofInt 32 x).toNat : Int) := by
 rw [u32m, BitVec.toNat_ofInt]; omega
def rest (n : Nat) (b : List Int) : List Int := b.drop (n * (b.length / n))
theorem t32_l3 (words b : List Int) (rd : Int) (t0 t1 t2 t3 h1 h2 : List Int) (hi : In 18446744073709551616 words) {ρ : Type} (k0 : List Int → List Int → Int → Int → Int → List Int → List Int → List Int → List Int → List Int → List Int → List Int → Option ρ) :
    P.sha_through_uint32_l3 b words 0 32 rd t0 t1 t2 t3 h1 h2 (List.replicate 8 0) k0 = k0 b words 8 32 rd t0 t1 t2 t3 h1 h2 (cv (toV 32 words)) := by
 rw [P.sha_through_uint32_l3_eq]
 unfold P.sha_through_uint32_L3
 refine lp_go (fun i => (b, words, (i : Int), 32, rd, t0, t1, t2, t3, h1, h2, cv ((List.range i).map fun i => BitVec.ofInt 32 (words.getD i 0)) ++ List.replicate (8 - i) 0)) 8 (by simp [cv]) (fun i hi' next hn' => ?_) (fun next => ?_) (by omega)
 ·simp only [P.sha_through_uint32_r3, toNat_cast]
  have e4 : IntKind.i64.wrap ((i : Int) + 1) = ((i + 1 : Nat) : Int) := by rw [i64w (by omega) (by omega)]; omega
  have e5 : (cv ((List.range i).map fun i => BitVec.ofInt 32 (words.getD i 0)) ++ List.replicate (8 - i) (0 : Int)).set i ((BitVec.ofInt 32 (words.getD i 0)).toNat : Int) = cv ((List.range (i + 1)).map fun i => BitVec.ofInt 32 (words.getD i 0)) ++ List.replicate (8 - (i + 1)) 0 := by
   rw [List.set_append_right _ _ (by simp), cv_length, List.length_map, List.length_range, Nat.sub_self, show 8 - i = (8 - (i + 1)) + 1 by omega, List.replicate_succ, List.set_cons_zero, List.range_succ, List.map_append, ← cv_append, List.append_assoc]
   rfl
  rw [br_pos (by omega), br_pos (by omega), br_pos (by omega), br_pos (by omega), br_pos (by omega), ofInt_toNat32, e5, e4]
  exact hn'
 ·simp only [P.sha_through_uint32_r3]
  rw [br_neg (by omega)]
  simp [toV]
theorem t32_l8 (v : List (BitVec 32)) (hv : v.length = 8) (b : List Int) (hb : In 256 b) (hn : b.length ≤ 1000000) (h1 h2 : List Int) {ρ : Type} (k0 : List Int → Int → List Int → List Int → List Int → Int → Int → List Int → List Int → List Int → List Int → Option ρ) :
    P.sha_through_uint32_l8 b 64 (cv v) h2 h1 32 64 [7, 18, 3] [17, 19, 10] [2, 13, 22] [6, 11, 25] k0 =
     k0 (rest 64 b) 64 (cv (thr p32 v b (b.length / 64))) h2 h1 32 64 [7, 18, 3] [17, 19, 10] [2, 13, 22] [6, 11, 25] := by
 rw [P.sha_through_uint32_l8_eq]
 unfold P.sha_through_uint32_L8
 refine lp_go (fun i => (b.drop (64 * i), 64, cv (thr p32 v b i), h2, h1, 32, 64, [7, 18, 3], [17, 19, 10], [2, 13, 22], [6, 11, 25])) (b.length / 64) (by simp [thr]) (fun i hi next hn' => ?_) (fun next => ?_) (by omega)
 ·simp only [P.sha_through_uint32_r8]
  have hlen : (b.drop (64 * i)).length = b.length - 64 * i := by simp
  have hge : 64 ≤ b.length - 64 * i := by omega
  simp only [hlen, show (64 : Int).toNat = 64 from rfl, toNat_cast, List.drop_zero]
  have hbl : ((b.drop (64 * i)).take 64).length = 16 * 4 := by rw [List.length_take, hlen]; omega
  rw [br_pos (by omega), br_pos (by omega), br_pos (by omega), e32_block _ (thr_len _ _ hv _ _) _ ((hb.drop _).take _) hbl, br_pos (by omega), br_pos (by omega), br_pos (by omega),
   List.take_of_length_le (by rw [hlen]; omega), List.drop_drop, show 64 * i + 64 = 64 * (i + 1) by omega]
  exact hn'
 ·simp only [P.sha_through_uint32_r8]
  have hlen : (b.drop (64 * (b.length / 64))).length = b.length - 64 * (b.length / 64) := by simp
  rw [br_neg (by rw [hlen]; omega)]
  rfl
theorem t32_l12 (v : List (BitVec 32)) (hv : v.length = 8) (b : List Int) (words h2 : List Int) (hl : words.length = 8) {ρ : Type} (k0 : List Int → List Int → Int → List Int → List Int → Option ρ) :
    P.sha_through_uint32_l12 b (cv v) 0 words h2 k0 = k0 b (cv v) 8 (cv v) h2 := by
 rw [P.sha_through_uint32_l12_eq]
 unfold P.sha_through_uint32_L12
 refine lp_go (fun i => (b, cv v, (i : Int), (cv v).take i ++ words.drop i, h2)) 8 (by simp) (fun i hi next hn' => ?_) (fun next => ?_) (by omega)
 ·simp only [P.sha_through_uint32_r12, toNat_cast]
  have e4 : IntKind.i64.wrap ((i : Int) + 1) = ((i + 1 : Nat) : Int) := by rw [i64w (by omega) (by omega)]; omega
  have e5 : ((cv v).take i ++ words.drop i).set i ((cv v).getD i 0) = (cv v).take (i + 1) ++ words.drop (i + 1) := by
   rw [List.set_append_right _ _ (by rw [List.length_take]; omega), List.length_take, cv_length, hv, Nat.min_eq_left (by omega), Nat.sub_self, List.drop_eq_getElem_cons (by omega), List.set_cons_zero, ← take_step (cv v) 0 i (by rw [cv_length]; omega), List.append_assoc]
   rfl
  have e6 : IntKind.u64.wrap ((cv v).getD i 0) = (cv v).getD i 0 := by
   rw [cv_getD]; exact u64n _ (nlt _)
  rw [br_pos (by omega), br_pos (by omega), br_pos (by omega), br_pos (by omega), br_pos (by omega), e6, e5, e4]
  exact hn'
 ·simp only [P.sha_through_uint32_r12]
  rw [br_neg (by omega), List.drop_eq_nil_of_le (by omega), List.append_nil, List.take_of_length_le (by rw [cv_length]; omega)]
  rfl
theorem t32_through (words b : List Int) (hl : words.length = 8) (hi : In 18446744073709551616 words) (hb : In 256 b) (hn : b.length ≤ 1000000) {ρ : Type} (k : List Int → List Int → Option ρ) :
    P.sha_through_uint32 32 64 [7, 18, 3] [17, 19, 10] [2, 13, 22] [6, 11, 25] words b k = k (cv (thr p32 (toV 32 words) b (b.length / 64))) (rest 64 b) := by
 rw [P.sha_through_uint32_eq]
 unfold P.sha_through_uint32_raw
 refine (t32_l3 words b 64 [7, 18, 3] [17, 19, 10] [2, 13, 22] [6, 11, 25] words (List.replicate 8 0) hi _).trans ?_
 rw [show IntKind.i64.wrap ((32 : Int) * 2) = 64 from rfl, t32_l8 _ (toV_len _ _) b hb hn, t32_l12 _ (thr_len _ _ (toV_len _ _) _ _) _ _ _ hl]
theorem r32_l4 (v : List (BitVec 32)) (hv : v.length = 8) (b : List Int) (hb : In 256 b) (hn : b.length ≤ 1000000) (kd : Int) (tl : List Int) (sz : Int) (a1 : Int) (a2 : List Int) (a3 : Int) {ρ : Type} (k0 : Int → List Int → Int → List Int → List Int → Int → Int → List Int → Int → Option ρ) :
    P.R07_Add_l4 64 b kd (cv v) tl sz a1 a2 a3 k0 = k0 64 (rest 64 b) kd (cv (thr p32 v b (b.length / 64))) tl sz a1 a2 a3 := by
 rw [P.R07_Add_l4_eq]
 unfold P.R07_Add_L4
 refine lp_go (fun i => (64, b.drop (64 * i), kd, cv (thr p32 v b i), tl, sz, a1, a2, a3)) (b.length / 64) (by simp [thr]) (fun i hi next hn' => ?_) (fun next => ?_) (by omega)
 ·simp only [P.R07_Add_r4]
  have hlen : (b.drop (64 * i)).length = b.length - 64 * i := by simp
  have hge : 64 ≤ b.length - 64 * i := by omega
  simp only [hlen, show (64 : Int).toNat = 64 from rfl, toNat_cast, List.drop_zero]
  have hbl : ((b.drop (64 * i)).take 64).length = 16 * 4 := by rw [List.length_take, hlen]; omega
  rw [br_pos (by omega), br_pos (by omega), br_pos (by omega), show ((64 : Int) == 128) = false from rfl, r32_block _ (thr_len _ _ hv _ _) _ ((hb.drop _).take _) hbl, br_pos (by omega), br_pos (by omega), br_pos (by omega),
   List.take_of_length_le (by rw [hlen]; omega), List.drop_drop, show 64 * i + 64 = 64 * (i + 1) by omega]
  exact hn'
 ·simp only [P.R07_Add_r4]
  have hlen : (b.drop (64 * (b.length / 64))).length = b.length - 64 * (b.length / 64) := by simp
  rw [br_neg (by rw [hlen]; omega)]
  rfl
end Q
end

section
/- SHA-2: blocks one behind the other, words of 64 bits. -/
namespace Q
open Go Go.Abs
set_option linter.unusedVariables false
set_option linter.unusedSimpArgs false
theorem t64_l3 (words b : List Int) (rd : Int) (t0 t1 t2 t3 h1 h2 : List Int) (hi : In 18446744073709551616 words) {ρ : Type} (k0 : List Int → List Int → Int → Int → Int → List Int → List Int → List Int → List Int → List Int → List Int → List Int → Option ρ) :
    P.sha_through_uint64_l3 b words 0 64 rd t0 t1 t2 t3 h1 h2 (List.replicate 8 0) k0 = k0 b words 8 64 rd t0 t1 t2 t3 h1 h2 (cv (toV 64 words)) := by
 rw [P.sha_through_uint64_l3_eq]
 unfold P.sha_through_uint64_L3
 refine lp_go (fun i => (b, words, (i : Int), 64, rd, t0, t1, t2, t3, h1, h2, cv ((List.range i).map fun i => BitVec.ofInt 64 (words.getD i 0)) ++ List.replicate (8 - i) 0)) 8 (by simp [cv]) (fun i hi' next hn' => ?_) (fun next => ?_) (by omega)
 ·simp only [P.sha_through_uint64_r3, toNat_cast]
  have e4 : IntKind.i64.wrap ((i : Int) + 1) = ((i + 1 : Nat) : Int) := by rw [i64w (by omega) (by omega)]; omega
  have e6 : words.getD i 0 = ((BitVec.ofInt 64 (words.getD i 0)).toNat : Int) := by
   have := hi.getD i (by omega)
   rw [BitVec.toNat_ofInt]
   omega
  have e5 : (cv ((List.range i).map fun i => BitVec.ofInt 64 (words.getD i 0)) ++ List.replicate (8 - i) (0 : Int)).set i ((BitVec.ofInt 64 (words.getD i 0)).toNat : Int) = cv ((List.range (i + 1)).map fun i => BitVec.ofInt 64 (words.getD i 0)) ++ List.replicate (8 - (i + 1)) 0 := by
   rw [List.set_append_right _ _ (by simp), cv_length, List.length_map, List.length_range, Nat.sub_self, show 8 - i = (8 - (i + 1)) + 1 by omega, List.replicate_succ, List.set_cons_zero, List.range_succ, List.map_append, ← cv_append, List.append_assoc]
   rfl
  rw [br_pos (by omega), br_pos (by omega), br_pos (by omega), br_pos (by omega), br_pos (by omega), e6, e5, e4]
  exact hn'
 ·simp only [P.sha_through_uint64_r3]
  rw [br_neg (by omega)]
  simp [toV]
theorem t64_l8 (v : List (BitVec 64)) (hv : v.length = 8) (b : List Int) (hb : In 256 b) (hn : b.length ≤ 1000000) (h1 h2 : List Int) {ρ : Type} (k0 : List Int → Int → List Int → List Int → List Int → Int → Int → List Int → List Int → List Int → List Int → Option ρ) :
    P.sha_through_uint64_l8 b 128 (cv v) h2 h1 64 80 [1, 8, 7] [19, 61, 6] [28, 34, 39] [14, 18, 41] k0 =
     k0 (rest 128 b) 128 (cv (thr p64 v b (b.length / 128))) h2 h1 64 80 [1, 8, 7] [19, 61, 6] [28, 34, 39] [14, 18, 41] := by
 rw [P.sha_through_uint64_l8_eq]
 unfold P.sha_through_uint64_L8
 refine lp_go (fun i => (b.drop (128 * i), 128, cv (thr p64 v b i), h2, h1, 64, 80, [1, 8, 7], [19, 61, 6], [28, 34, 39], [14, 18, 41])) (b.length / 128) (by simp [thr]) (fun i hi next hn' => ?_) (fun next => ?_) (by omega)
 ·simp only [P.sha_through_uint64_r8]
  have hlen : (b.drop (128 * i)).length = b.length - 128 * i := by simp
  have hge : 128 ≤ b.length - 128 * i := by omega
  simp only [hlen, show (128 : Int).toNat = 128 from rfl, toNat_cast, List.drop_zero]
  have hbl : ((b.drop (128 * i)).take 128).length = 16 * 8 := by rw [List.length_take, hlen]; omega
  rw [br_pos (by omega), br_pos (by omega), br_pos (by omega), e64_block _ (thr_len _ _ hv _ _) _ ((hb.drop _).take _) hbl, br_pos (by omega), br_pos (by omega), br_pos (by omega),
   List.take_of_length_le (by rw [hlen]; omega), List.drop_drop, show 128 * i + 128 = 128 * (i + 1) by omega]
  exact hn'
 ·simp only [P.sha_through_uint64_r8]
  have hlen : (b.drop (128 * (b.length / 128))).length = b.length - 128 * (b.length / 128) := by simp
  rw [br_neg (by rw [hlen]; omega)]
  rfl
theorem t64_l12 (v : List (BitVec 64)) (hv : v.length = 8) (b : List Int) (words h2 : List Int) (hl : words.length = 8) {ρ : Type} (k0 : List Int → List Int → Int → List Int → List Int → Option ρ) :
    P.sha_through_uint64_l12 b (cv v) 0 words h2 k0 = k0 b (cv v) 8 (cv v) h2 := by
 rw [P.sha_through_uint64_l12_eq]
 unfold P.sha_through_uint64_L12
 refine lp_go (fun i => (b, cv v, (i : Int), (cv v).take i ++ words.drop i, h2)) 8 (by simp) (fun i hi next hn' => ?_) (fun next => ?_) (by omega)
 ·simp only [P.sha_through_uint64_r12, toNat_cast]
  have e4 : IntKind.i64.wrap ((i : Int) + 1) = ((i + 1 : Nat) : Int) := by rw [i64w (by omega) (by omega)]; omega
  have e5 : ((cv v).take i ++ words.drop i).set i ((cv v).getD i 0) = (cv v).take (i + 1) ++ words.drop (i + 1) := by
   rw [List.set_append_right _ _ (by rw [List.length_take]; omega), List.length_take, cv_length, hv, Nat.min_eq_left (by omega), Nat.sub_self, List.drop_eq_getElem_cons (by omega), List.set_cons_zero, ← take_step (cv v) 0 i (by rw [cv_length]; omega), List.append_assoc]
   rfl
  rw [br_pos (by omega), br_pos (by omega), br_pos (by omega), br_pos (by omega), br_pos (by omega), e5, e4]
  exact hn'
 ·simp only [P.sha_through_uint64_r12]
  rw [br_neg (by omega), List.drop_eq_nil_of_le (by omega), List.append_nil, List.take_of_length_le (by rw [cv_length]; omega)]
  rfl
theorem t64_through (words b : List Int) (hl : words.length = 8) (hi : In 18446744073709551616 words) (hb : In 256 b) (hn : b.length ≤ 1000000) {ρ : Type} (k : List Int → List Int → Option ρ) :
    P.sha_through_uint64 64 80 [1, 8, 7] [19, 61, 6] [28, 34, 39] [14, 18, 41] words b k = k (cv (thr p64 (toV 64 words) b (b.length / 128))) (rest 128 b) := by
 rw [P.sha_through_uint64_eq]
 unfold P.sha_through_uint64_raw
 refine (t64_l3 words b 80 [1, 8, 7] [19, 61, 6] [28, 34, 39] [14, 18, 41] words (List.replicate 8 0) hi _).trans ?_
 rw [show IntKind.i64.wrap ((64 : Int) * 2) = 128 from rfl, t64_l8 _ (toV_len _ _) b hb hn, t64_l12 _ (thr_len _ _ (toV_len _ _) _ _) _ _ _ hl]
theorem r64_l4 (v : List (BitVec 64)) (hv : v.length = 8) (b : List Int) (hb : In 256 b) (hn : b.length ≤ 1000000) (kd : Int) (tl : List Int) (sz : Int) (a1 : Int) (a2 : List Int) (a3 : Int) {ρ : Type} (k0 : Int → List Int → Int → List Int → List Int → Int → Int → List Int → Int → Option ρ) :
    P.R07_Add_l4 128 b kd (cv v) tl sz a1 a2 a3 k0 = k0 128 (rest 128 b) kd (cv (thr p64 v b (b.length / 128))) tl sz a1 a2 a3 := by
 rw [P.R07_Add_l4_eq]
 unfold P.R07_Add_L4
 refine lp_go (fun i => (128, b.drop (128 * i), kd, cv (thr p64 v b i), tl, sz, a1, a2, a3)) (b.length / 128) (by simp [thr]) (fun i hi next hn' => ?_) (fun next => ?_) (by omega)
 ·simp only [P.R07_Add_r4]
  have hlen : (b.drop (128 * i)).length = b.length - 128 * i := by simp
  have hge : 128 ≤ b.length - 128 * i := by omega
  simp only [hlen, show (128 : Int).toNat = 128 from rfl, toNat_cast, List.drop_zero]
  have hbl : ((b.drop (128 * i)).take 128).length = 16 * 8 := by rw [List.length_take, hlen]; omega
  rw [br_pos (by omega), br_pos (by omega), br_pos (by omega), show ((128 : Int) == 128) = true from rfl, r64_block _ (thr_len _ _ hv _ _) _ ((hb.drop _).take _) hbl, br_pos (by omega), br_pos (by omega), br_pos (by omega),
   List.take_of_length_le (by rw [hlen]; omega), List.drop_drop, show 128 * i + 128 = 128 * (i + 1) by omega]
  exact hn'
 ·simp only [P.R07_Add_r4]
  have hlen : (b.drop (128 * (b.length / 128))).length = b.length - 128 * (b.length / 128) := by simp
  rw [br_neg (by rw [hlen]; omega)]
  rfl
end Q
end

section
open Go Go.Abs
set_option linter.unusedVariables false
namespace P
end P
end

section
/- Are two rows of bytes the same. -/
namespace Q
open Go Go.Abs
set_option linter.unusedVariables false
set_option linter.unusedSimpArgs false
end Q
end

section
open Go Go.Abs
set_option linter.unusedVariables false
namespace P
end P
end

section
open Go Go.Abs
set_option linter.unusedVariables false
namespace P
end P
end

section
open Go Go.Abs
set_option linter.unusedVariables false
namespace P
end P
end

section
open Go Go.Abs
set_option linter.unusedVariables false
namespace P
end P
end

section
open Go Go.Abs
set_option linter.unusedVariables false
namespace P
end P
end

section
/- SHA-2: sums that go on, and their ends. -/
namespace Q
open Go Go.Abs
set_option linter.unusedVariables false
set_option linter.unusedSimpArgs false
def bsz (kind : Int) : Nat := if kind = 1 then 64 else 128
theorem bsz_or (kind : Int) : (kind = 1 ∧ bsz kind = 64) ∨ (kind ≠ 1 ∧ bsz kind = 128) := by
 unfold bsz
 by_cases h : kind = 1
 ·exact .inl ⟨h, if_pos h⟩
 ·exact .inr ⟨h, if_neg h⟩
theorem sha_blockSize (kind : Int) {ρ : Type} (k : Int → Option ρ) : P.sha_blockSize kind k = k ((bsz kind : Nat) : Int) := by
 rw [P.sha_blockSize_eq]; unfold P.sha_blockSize_raw
 rcases bsz_or kind with ⟨h, e⟩ | ⟨h, e⟩
 ·rw [br_beq_pos h, e]; rfl
 ·rw [br_beq_neg h, e]; rfl
theorem R07_Block (kind : Int) {ρ : Type} (k : Int → Option ρ) : P.R07_Block kind k = k ((bsz kind : Nat) : Int) := by
 rw [P.R07_Block_eq]; unfold P.R07_Block_raw
 rcases bsz_or kind with ⟨h, e⟩ | ⟨h, e⟩
 ·rw [br_beq_pos h, e]; rfl
 ·rw [br_beq_neg h, e]; rfl
def addW (kind : Int) (words all : List Int) : List Int :=
 if kind = 1 then cv (thr p32 (toV 32 words) all (all.length / 64)) else cv (thr p64 (toV 64 words) all (all.length / 128))
theorem addW_len (kind : Int) (words all : List Int) : (addW kind words all).length = 8 := by
 unfold addW
 split <;> rw [cv_length, thr_len _ _ (toV_len _ _)]
def Wok (kind : Int) (words : List Int) : Prop := words.length = 8 ∧ In 18446744073709551616 words ∧ (kind = 1 → In 4294967296 words)
theorem addW_ok (kind : Int) (words all : List Int) : Wok kind (addW kind words all) := by
 refine ⟨addW_len _ _ _, ?_, fun h => ?_⟩
 ·unfold addW
  split
  ·intro x hx
   have := cv_in _ x hx
   omega
  ·intro x hx
   have := cv_in _ x hx
   omega
 ·unfold addW
  rw [if_pos h]
  intro x hx
  have := cv_in _ x hx
  omega
theorem rest_len (n : Nat) (hn : 0 < n) (b : List Int) : (rest n b).length = b.length % n := by
 unfold rest
 rw [List.length_drop]
 have := Nat.div_add_mod b.length n
 omega
theorem rest_in {n : Nat} {b : List Int} (h : In 256 b) : In 256 (rest n b) := h.drop _
theorem sha_small {ρ : Type} (k : Int → Int → List Int → List Int → List Int → List Int → Option ρ) : P.sha_small k = k 32 64 [7, 18, 3] [17, 19, 10] [2, 13, 22] [6, 11, 25] := by rw [P.sha_small_eq]; rfl
theorem sha_great {ρ : Type} (k : Int → Int → List Int → List Int → List Int → List Int → Option ρ) : P.sha_great k = k 64 80 [1, 8, 7] [19, 61, 6] [28, 34, 39] [14, 18, 41] := by rw [P.sha_great_eq]; rfl
theorem sha_Add (kind : Int) (words tail : List Int) (size : Int) (b : List Int) (hl : words.length = 8) (hi : In 18446744073709551616 words) (ht : In 256 tail) (hb : In 256 b) (hn : tail.length + b.length ≤ 1000000) {ρ : Type} (k : Int → List Int → List Int → Int → Option ρ) :
    P.sha_Add kind words tail size b k = k kind (addW kind words (tail ++ b)) (rest (bsz kind) (tail ++ b)) (IntKind.u64.wrap (size + IntKind.u64.wrap (b.length : Int))) := by
 rw [P.sha_Add_eq]; unfold P.sha_Add_raw
 have hf : [tail, b].flatten = tail ++ b := by simp
 have hall : (tail ++ b).length ≤ 1000000 := by rw [List.length_append]; exact hn
 have hin : In 256 (tail ++ b) := ht.app hb
 have hr : ∀ n, (rest n (tail ++ b)).length ≤ 1000000 := fun n => by unfold rest; rw [List.length_drop]; omega
 rw [slices_Concat_byte _ (by simp) (by rw [hf]; omega), hf]
 rcases bsz_or kind with ⟨h, e⟩ | ⟨h, e⟩
 ·rw [br_beq_pos h, sha_small, e]
  rw [t32_through words _ hl hi hin hall]
  unfold P.slices_Clone_byte addW
  have := hr 64
  rw [br_pos (by omega), if_pos h]
 ·rw [br_beq_neg h, sha_great, e]
  rw [t64_through words _ hl hi hin hall]
  unfold P.slices_Clone_byte addW
  have := hr 128
  rw [br_pos (by omega), if_neg h]
theorem R07_Add (kind : Int) (words tail : List Int) (size : Int) (b : List Int) (hw : Wok kind words) (ht : In 256 tail) (hb : In 256 b) (hn : tail.length + b.length ≤ 1000000) {ρ : Type} (k : Int → List Int → List Int → Int → Option ρ) :
    P.R07_Add kind words tail size b k = k kind (addW kind words (tail ++ b)) (rest (bsz kind) (tail ++ b)) (IntKind.u64.wrap (size + IntKind.u64.wrap (b.length : Int))) := by
 rw [P.R07_Add_eq]; unfold P.R07_Add_raw
 obtain ⟨hl, hi, h1⟩ := hw
 have hf : [tail, b].flatten = tail ++ b := by simp
 have hall : (tail ++ b).length ≤ 1000000 := by rw [List.length_append]; exact hn
 have hin : In 256 (tail ++ b) := ht.app hb
 rw [R07_Block, R01_Join _ (by simp) (by rw [hf]; omega), hf]
 rcases bsz_or kind with ⟨h, e⟩ | ⟨h, e⟩
 ·have hv := cv_toV 32 words hl (h1 h)
  rw [e]
  conv => lhs; rw [← hv]
  rw [show ((64 : Nat) : Int) = 64 from rfl, r32_l4 _ (toV_len _ _) _ hin hall]
  unfold addW
  rw [if_pos h]
 ·have hv := cv_toV 64 words hl hi
  rw [e]
  conv => lhs; rw [← hv]
  rw [show ((128 : Nat) : Int) = 128 from rfl, r64_l4 _ (toV_len _ _) _ hin hall]
  unfold addW
  rw [if_neg h]
def padZ (kind : Int) (tl : Nat) : Nat := if kind = 1 then (119 - tl) % 64 else (239 - tl) % 128 + 8
def pad (kind : Int) (tl : Nat) (size : Nat) : List Int := 128 :: List.replicate (padZ kind tl) 0 ++ (bsw 8 8 (size * 8 % 2 ^ 64)).reverse
def outI (n : Nat) (words : List Int) (i : Nat) : List Int := ((List.range i).map fun j => (bsw 8 n (words.getD j 0).toNat).reverse).flatten
theorem outI_succ (n : Nat) (words : List Int) (i : Nat) : outI n words (i + 1) = outI n words i ++ (bsw 8 n (words.getD i 0).toNat).reverse := by simp [outI, List.range_succ]
theorem outI_len (n : Nat) (words : List Int) : ∀ i, (outI n words i).length = n * i
 | 0 => by simp [outI]
 | i + 1 => by rw [outI_succ, List.length_append, outI_len n words i, List.length_reverse, bsw_length, Nat.mul_succ]
theorem outI_in (n : Nat) (words : List Int) : ∀ i, In 256 (outI n words i)
 | 0 => by simp [outI, In]
 | i + 1 => by rw [outI_succ]; exact (outI_in n words i).app (bsw_in 8 n _).rev
def endS (kind : Int) (words tail : List Int) (size : Nat) : List Int :=
 let o := outI (bsz kind / 16) (addW kind words (tail ++ pad kind tail.length size)) 8
 if kind = 2 then o.take 48 else o
theorem endS_in (kind : Int) (words tail : List Int) (size : Nat) : In 256 (endS kind words tail size) := by
 unfold endS
 simp only
 split
 ·exact (outI_in _ _ _).take _
 ·exact outI_in _ _ _
theorem endS_len (kind : Int) (words tail : List Int) (size : Nat) : (endS kind words tail size).length = if kind = 1 then 32 else if kind = 2 then 48 else 64 := by
 unfold endS
 simp only
 rcases bsz_or kind with ⟨h, e⟩ | ⟨h, e⟩
 ·rw [if_neg (by omega), if_pos h, outI_len, e]
 ·rw [if_neg h, e]
  split
  ·rw [List.length_take, outI_len]; decide
  ·rw [outI_len]
theorem tmN (a b : Nat) : ((a : Nat) : Int).tmod (b : Int) = ((a % b : Nat) : Int) := by
 rw [Int.tmod_eq_emod_of_nonneg (by omega)]; rfl
theorem pad_in (kind : Int) (tl size : Nat) : In 256 (pad kind tl size) := by
 unfold pad
 refine In.app ?_ (bsw_in 8 8 _).rev
 intro x hx
 rcases List.mem_cons.1 hx with rfl | hx
 ·omega
 ·rw [List.mem_replicate] at hx; omega
theorem pad_len (kind : Int) (tl size : Nat) : (pad kind tl size).length = padZ kind tl + 9 := by
 unfold pad; simp
theorem padZ_le (kind : Int) (tl : Nat) : padZ kind tl ≤ 200 := by
 unfold padZ; split <;> omega
theorem sha_outs (n : Nat) (hn : n = 64 ∨ n = 128) (words : List Int) (hw : In 18446744073709551616 words) (a : Int) (b : List Int) (c : Int) (d : List Int) {ρ : Type} (k0 : Int → List Int → Int → List Int → Int → List Int → Int → List Int → Option ρ) :
    P.sha_End_l10 (n : Int) words 0 [] a b c d k0 = k0 (n : Int) words 8 (outI (n / 16) words 8) a b c d := by
 rw [P.sha_End_l10_eq]
 unfold P.sha_End_L10
 have e16 : IntKind.i64.wrap ((n : Int).tdiv 16) = ((n / 16 : Nat) : Int) := by rcases hn with rfl | rfl <;> rfl
 refine lp_go (fun i => ((n : Int), words, (i : Int), outI (n / 16) words i, a, b, c, d)) 8 rfl (fun i hi next hn' => ?_) (fun next => ?_) (by omega)
 ·simp only [P.sha_End_r10, toNat_cast]
  have h1 := hw.getD i (by omega)
  have e4 : IntKind.i64.wrap ((i : Int) + 1) = ((i + 1 : Nat) : Int) := by rw [i64w (by omega) (by omega)]; omega
  have e5 : words.getD i 0 = (((words.getD i 0).toNat : Nat) : Int) := by omega
  rw [outI_succ] at hn'
  rw [br_pos (by omega), br_pos (by omega), br_pos (by omega), e16, e5, bits_Be _ _ (by omega) (by omega), e4]
  rw [br_pos (by rw [outI_len, List.length_reverse, bsw_length]; rcases hn with rfl | rfl <;> omega)]
  exact hn'
 ·simp only [P.sha_End_r10]
  rw [br_neg (by omega)]
  rfl
theorem shl3 (size : Nat) : IntKind.u64.wrap ((size : Int) * (2 : Int) ^ 3) = ((size * 8 % 2 ^ 64 : Nat) : Int) := by
 rw [u64m]; omega
theorem sha_End (kind : Int) (words tail : List Int) (size : Nat) (hl : words.length = 8) (hi : In 18446744073709551616 words) (ht : In 256 tail) (hn : tail.length < bsz kind) {ρ : Type} (k : List Int → Option ρ) :
    P.sha_End kind words tail (size : Int) k = k (endS kind words tail size) := by
 rw [P.sha_End_eq]; unfold P.sha_End_raw
 rw [sha_blockSize]
 have hz : IntKind.i64.wrap (IntKind.i64.wrap ((IntKind.i64.wrap (IntKind.i64.wrap (IntKind.i64.wrap (IntKind.i64.wrap ((2 : Int) * ((bsz kind : Nat) : Int)) - (1 : Int)) - IntKind.i64.wrap (((bsz kind : Nat) : Int).tdiv (8 : Int))) - (tail.length : Int))).tmod ((bsz kind : Nat) : Int) + IntKind.i64.wrap (((bsz kind : Nat) : Int).tdiv (8 : Int))) - (8 : Int)) = ((padZ kind tail.length : Nat) : Int) := by
  unfold padZ
  rcases bsz_or kind with ⟨h, e⟩ | ⟨h, e⟩
  ·rw [e] at hn ⊢
   rw [if_pos h, show IntKind.i64.wrap (IntKind.i64.wrap (IntKind.i64.wrap ((2 : Int) * ((64 : Nat) : Int)) - (1 : Int)) - IntKind.i64.wrap (((64 : Nat) : Int).tdiv (8 : Int))) = 119 from rfl, i64w (x := (119 : Int) - (tail.length : Int)) (by omega) (by omega),
    show (119 : Int) - (tail.length : Int) = ((119 - tail.length : Nat) : Int) by omega, tmN, show IntKind.i64.wrap (((64 : Nat) : Int).tdiv (8 : Int)) = 8 from rfl, i64w (x := ((((119 - tail.length) % 64 : Nat) : Int)) + 8) (by omega) (by omega), i64w (by omega) (by omega)]
   omega
  ·rw [e] at hn ⊢
   rw [if_neg h, show IntKind.i64.wrap (IntKind.i64.wrap (IntKind.i64.wrap ((2 : Int) * ((128 : Nat) : Int)) - (1 : Int)) - IntKind.i64.wrap (((128 : Nat) : Int).tdiv (8 : Int))) = 239 from rfl, i64w (x := (239 : Int) - (tail.length : Int)) (by omega) (by omega),
    show (239 : Int) - (tail.length : Int) = ((239 - tail.length : Nat) : Int) by omega, tmN, show IntKind.i64.wrap (((128 : Nat) : Int).tdiv (8 : Int)) = 16 from rfl, i64w (x := ((((239 - tail.length) % 128 : Nat) : Int)) + 16) (by omega) (by omega), i64w (by omega) (by omega)]
   omega
 have hb : bsz kind = 64 ∨ bsz kind = 128 := by rcases bsz_or kind with ⟨h, e⟩ | ⟨h, e⟩ <;> omega
 have hz2 := padZ_le kind tail.length
 rw [hz]
 simp only [toNat_cast]
 rw [br_pos (by omega), br_pos (by omega), br_neg (by omega), br_pos (by omega), br_pos (by omega), shl3, show (8 : Int) = ((8 : Nat) : Int) from rfl, bits_Be _ 8 (by omega) (by omega)]
 have hp : (List.replicate 1 (0 : Int)).set 0 (128 : Int) ++ List.replicate (padZ kind tail.length) (0 : Int) ++ (bsw 8 8 (size * 8 % 2 ^ 64)).reverse = pad kind tail.length size := rfl
 rw [br_pos (by
  show ((List.replicate (padZ kind tail.length) (0 : Int)).length + 0 + 1 + _) * 1 ≤ _
  rw [List.length_replicate, List.length_reverse, bsw_length]; omega), hp]
 have hpl := pad_len kind tail.length size
 rw [sha_Add kind words tail _ _ hl hi ht (pad_in _ _ _) (by omega), sha_outs _ hb _ (addW_ok _ _ _).2.1]
 unfold endS
 simp only
 by_cases h2 : kind = 2
 ·have e : bsz kind = 128 := by unfold bsz; rw [if_neg (by omega)]
  rw [br_beq_pos h2, br_pos (by rw [outI_len, e]; omega), if_pos h2]
  rfl
 ·rw [br_beq_neg h2, if_neg h2]
theorem pads (n : Nat) (hn : n = 64 ∨ n = 128) (tl : Nat) (ht : tl < 200) (z m : Nat) (hm : m < n) (h1 : ∀ i, i < z → (tl + (1 + i)) % n ≠ m) (h2 : (tl + (1 + z)) % n = m) (hz : z ≤ 200) (c : Int) (kd : Int) (words tail : List Int) (size : Int) (hl : tail.length = tl) (d : Int) (hd : IntKind.i64.wrap ((n : Int) - d) = (m : Int)) :
    (d = 8 → ∀ {ρ : Type} (k0 : Int → Int → List Int → Int → List Int → List Int → Int → Option ρ), P.R07_End_l4 (n : Int) c [128] kd words tail size k0 = k0 (n : Int) c (128 :: List.replicate z 0) kd words tail size) ∧
    (d = 16 → ∀ {ρ : Type} (k0 : Int → Int → List Int → Int → List Int → List Int → Int → Option ρ), P.R07_End_l8 (n : Int) c [128] kd words tail size k0 = k0 (n : Int) c (128 :: List.replicate z 0) kd words tail size) := by
 have hlen : ∀ i : Nat, ((128 : Int) :: List.replicate i 0).length = 1 + i := fun i => by simp; omega
 have hc : ∀ i : Nat, i ≤ z → IntKind.i64.wrap (((tail.length : Nat) : Int) + ((((128 : Int) :: List.replicate i 0).length : Nat) : Int)) = ((tl + (1 + i) : Nat) : Int) := fun i hi => by
  rw [hlen, hl, i64w (by omega) (by omega)]; omega
 have hs : ∀ i : Nat, ((128 : Int) :: List.replicate i 0) ++ [(0 : Int)] = 128 :: List.replicate (i + 1) 0 := fun i => by
  rw [List.replicate_succ']; rfl
 constructor
 ·rintro rfl ρ k0
  rw [P.R07_End_l4_eq]
  unfold P.R07_End_L4
  refine lp_go (fun i => ((n : Int), c, 128 :: List.replicate i 0, kd, words, tail, size)) z rfl (fun i hi next hn' => ?_) (fun next => ?_) (by omega)
  ·simp only [P.R07_End_r4]
   have := h1 i hi
   rw [hc i (by omega), tmN, hd, br_neg (by omega), br_bne_pos (by omega), br_pos (by rw [hlen]; omega), hs]
   exact hn'
  ·simp only [P.R07_End_r4]
   rw [hc z (by omega), tmN, hd, br_neg (by omega), h2, br_bne_neg (by rfl)]
 ·rintro rfl ρ k0
  rw [P.R07_End_l8_eq]
  unfold P.R07_End_L8
  refine lp_go (fun i => ((n : Int), c, 128 :: List.replicate i 0, kd, words, tail, size)) z rfl (fun i hi next hn' => ?_) (fun next => ?_) (by omega)
  ·simp only [P.R07_End_r8]
   have := h1 i hi
   rw [hc i (by omega), tmN, hd, br_neg (by omega), br_bne_pos (by omega), br_pos (by rw [hlen]; omega), hs]
   exact hn'
  ·simp only [P.R07_End_r8]
   rw [hc z (by omega), tmN, hd, br_neg (by omega), h2, br_bne_neg (by rfl)]
theorem R07_outs (n : Nat) (hn : n = 64 ∨ n = 128) (words : List Int) (hw : In 18446744073709551616 words) (a : Int) (b : List Int) (c : Int) {ρ : Type} (k0 : Int → Int → List Int → Int → List Int → List Int → Int → Option ρ) :
    P.R07_End_l14 (n : Int) 0 [] a words b c k0 = k0 (n : Int) 8 (outI (n / 16) words 8) a words b c := by
 rw [P.R07_End_l14_eq]
 unfold P.R07_End_L14
 have e16 : IntKind.i64.wrap ((n : Int).tdiv 16) = ((n / 16 : Nat) : Int) := by rcases hn with rfl | rfl <;> rfl
 refine lp_go (fun i => ((n : Int), (i : Int), outI (n / 16) words i, a, words, b, c)) 8 rfl (fun i hi next hn' => ?_) (fun next => ?_) (by omega)
 ·simp only [P.R07_End_r14, toNat_cast]
  have h1 := hw.getD i (by omega)
  have e4 : IntKind.i64.wrap ((i : Int) + 1) = ((i + 1 : Nat) : Int) := by rw [i64w (by omega) (by omega)]; omega
  have e5 : words.getD i 0 = (((words.getD i 0).toNat : Nat) : Int) := by omega
  rw [outI_succ] at hn'
  rw [br_pos (by omega), br_pos (by omega), br_pos (by omega), e16, e5, R01_Be _ _ (by omega) (by omega), e4]
  rw [br_pos (by rw [outI_len, List.length_reverse, bsw_length]; rcases hn with rfl | rfl <;> omega)]
  exact hn'
 ·simp only [P.R07_End_r14]
  rw [br_neg (by omega)]
  rfl
theorem R07_tail (kind : Int) (words tail : List Int) (size : Nat) {ρ : Type} (k : List Int → Option ρ) :
    (br (kind == (2 : Int)) (br (decide ((48 : Int) ≤ ((outI (bsz kind / 16) (addW kind words (tail ++ pad kind tail.length size)) 8).length : Int))) (k (List.take ((48 : Int) - (0 : Int)).toNat (outI (bsz kind / 16) (addW kind words (tail ++ pad kind tail.length size)) 8))) none)
     (k (outI (bsz kind / 16) (addW kind words (tail ++ pad kind tail.length size)) 8))) = k (endS kind words tail size) := by
 unfold endS
 simp only
 by_cases h2 : kind = 2
 ·have e : bsz kind = 128 := by unfold bsz; rw [if_neg (by omega)]
  rw [br_beq_pos h2, br_pos (by rw [outI_len, e]; omega), if_pos h2]
  rfl
 ·rw [br_beq_neg h2, if_neg h2]
theorem R07_End (kind : Int) (words tail : List Int) (size : Nat) (hw : Wok kind words) (ht : In 256 tail) (hn : tail.length < bsz kind) (hs : size < 2305843009213693952) {ρ : Type} (k : List Int → Option ρ) :
    P.R07_End kind words tail (size : Int) k = k (endS kind words tail size) := by
 rw [P.R07_End_eq]; unfold P.R07_End_raw
 have h8 : IntKind.u64.wrap ((size : Int) * 8) = ((size * 8 % 2 ^ 64 : Nat) : Int) := by rw [u64m]; omega
 have hpl := pad_len kind tail.length size
 have hz2 := padZ_le kind tail.length
 rw [R07_Block, h8]
 rcases bsz_or kind with ⟨h, e⟩ | ⟨h, e⟩
 ·rw [e] at hn ⊢
  have hp := (pads 64 (.inl rfl) tail.length (by omega) (padZ kind tail.length) 56 (by omega) (fun i hi => by unfold padZ at hi; rw [if_pos h] at hi; omega) (by unfold padZ; rw [if_pos h]; omega) hz2 ((size * 8 % 2 ^ 64 : Nat) : Int) kind words tail (size : Int) rfl 8 rfl).1
  rw [hp rfl, br_beq_neg (by decide), show (8 : Int) = ((8 : Nat) : Int) from rfl, R01_Be _ 8 (by omega) (by omega), br_pos (by simp; omega)]
  have hpad : (128 : Int) :: List.replicate (padZ kind tail.length) 0 ++ (bsw 8 8 (size * 8 % 2 ^ 64)).reverse = pad kind tail.length size := rfl
  rw [hpad, R07_Add kind words tail _ _ hw ht (pad_in _ _ _) (by omega), R07_outs _ (.inl rfl) _ (addW_ok _ _ _).2.1]
  have := R07_tail kind words tail size k
  rw [e] at this
  exact this
 ·rw [e] at hn ⊢
  have hp1 := (pads 128 (.inr rfl) tail.length (by omega) ((247 - tail.length) % 128) 120 (by omega) (fun i hi => by omega) (by omega) (by omega) ((size * 8 % 2 ^ 64 : Nat) : Int) kind words tail (size : Int) rfl 8 rfl).1
  have hp2 := (pads 128 (.inr rfl) tail.length (by omega) ((239 - tail.length) % 128) 112 (by omega) (fun i hi => by omega) (by omega) (by omega) ((size * 8 % 2 ^ 64 : Nat) : Int) kind words tail (size : Int) rfl 16 rfl).2
  have h61 : ((size : Nat) : Int).fdiv ((2 : Int) ^ 61) = ((0 : Nat) : Int) := by
   have := fdiv_pow size 61 61 (by omega)
   rw [Nat.div_eq_of_lt (by omega)] at this
   exact this
  rw [hp1 rfl, br_beq_pos (by rfl), hp2 rfl, h61, show (8 : Int) = ((8 : Nat) : Int) from rfl, R01_Be _ 8 (by omega) (by omega), br_pos (by simp; omega), R01_Be _ 8 (by omega) (by omega), br_pos (by simp; omega)]
  have hpad : (128 : Int) :: List.replicate ((239 - tail.length) % 128) 0 ++ (bsw 8 8 0).reverse ++ (bsw 8 8 (size * 8 % 2 ^ 64)).reverse = pad kind tail.length size := by
   unfold pad padZ
   rw [if_neg h, ← List.replicate_append_replicate]
   rfl
  rw [hpad, R07_Add kind words tail _ _ hw ht (pad_in _ _ _) (by omega), R07_outs _ (.inr rfl) _ (addW_ok _ _ _).2.1]
  have := R07_tail kind words tail size k
  rw [e] at this
  exact this
def newW (kind : Int) : List Int :=
 if kind = 1 then [1779033703, 3144134277, 1013904242, 2773480762, 1359893119, 2600822924, 528734635, 1541459225]
 else if kind = 2 then [14680500436340154072, 7105036623409894663, 10473403895298186519, 1526699215303891257, 7436329637833083697, 10282925794625328401, 15784041429090275239, 5167115440072839076]
 else [7640891576956012808, 13503953896175478587, 4354685564936845355, 11912009170470909681, 5840696475078001361, 11170449401992604703, 2270897969802886507, 6620516959819538809]
theorem newW_ok (kind : Int) : Wok kind (newW kind) := by
 unfold newW Wok
 by_cases h1 : kind = 1
 ·simp only [if_pos h1]
  refine ⟨rfl, ?_, fun _ => ?_⟩
  ·unfold In; decide
  ·unfold In; decide
 ·by_cases h2 : kind = 2
  ·simp only [if_neg h1, if_pos h2]
   refine ⟨rfl, ?_, fun h => absurd h h1⟩
   unfold In; decide
  ·simp only [if_neg h1, if_neg h2]
   refine ⟨rfl, ?_, fun h => absurd h h1⟩
   unfold In; decide
def K3 (kind : Int) : Prop := kind = 1 ∨ kind = 2 ∨ kind = 3
theorem sha_begin_k {kind : Int} (h : K3 kind) {ρ : Type} (k : List Int → Bool → Option ρ) : P.sha_begin kind k = k (newW kind) true := by
 rw [P.sha_begin_eq]
 rcases h with rfl | rfl | rfl <;> kernel_rfl
theorem sha_New {kind : Int} (h : K3 kind) {ρ : Type} (k : Int → List Int → List Int → Int → Int → Option ρ) : P.sha_New kind k = k kind (newW kind) [] 0 0 := by
 rw [P.sha_New_eq]; unfold P.sha_New_raw
 rw [sha_begin_k h, br_not, br_tt]
theorem R07_New {kind : Int} (h : K3 kind) {ρ : Type} (k : Int → List Int → List Int → Int → Int → Option ρ) : P.R07_New kind k = k kind (newW kind) [] 0 0 := by
 rw [P.R07_New_eq]; unfold P.R07_New_raw newW
 rcases h with rfl | rfl | rfl
 ·rw [br_beq_pos (by rfl)]; rfl
 ·rw [br_beq_neg (by decide), br_beq_pos (by rfl)]; rfl
 ·rw [br_beq_neg (by decide), br_beq_neg (by decide), br_beq_pos (by rfl)]; rfl
theorem bsz_pos (kind : Int) : 0 < bsz kind := by rcases bsz_or kind with ⟨h, e⟩ | ⟨h, e⟩ <;> omega
def sumS (kind : Int) (b : List Int) : List Int := endS kind (addW kind (newW kind) b) (rest (bsz kind) b) b.length
theorem size_add (b : List Int) (hn : b.length ≤ 1000000) : IntKind.u64.wrap ((0 : Int) + IntKind.u64.wrap (b.length : Int)) = ((b.length : Nat) : Int) := by
 rw [u64n _ (by omega), Int.zero_add, u64n _ (by omega)]
theorem sha_Sum {kind : Int} (h : K3 kind) (b : List Int) (hb : In 256 b) (hn : b.length ≤ 1000000) {ρ : Type} (k : List Int → Int → Option ρ) : P.sha_Sum kind b k = k (sumS kind b) 0 := by
 rw [P.sha_Sum_eq]; unfold P.sha_Sum_raw
 have hw := newW_ok kind
 have hr := rest_len _ (bsz_pos kind) b
 have hlt := Nat.mod_lt b.length (bsz_pos kind)
 rw [sha_New h, br_bne_neg (by rfl), sha_Add kind _ [] _ b hw.1 hw.2.1 In.nil hb (by simpa using hn), List.nil_append, size_add b hn, sha_End kind _ _ _ (addW_len _ _ _) (addW_ok _ _ _).2.1 (rest_in hb) (by omega)]
 rfl
theorem R07_Sum {kind : Int} (h : K3 kind) (b : List Int) (hb : In 256 b) (hn : b.length ≤ 1000000) {ρ : Type} (k : List Int → Int → Option ρ) : P.R07_Sum kind b k = k (sumS kind b) 0 := by
 rw [P.R07_Sum_eq]; unfold P.R07_Sum_raw
 have hw := newW_ok kind
 have hr := rest_len _ (bsz_pos kind) b
 have hlt := Nat.mod_lt b.length (bsz_pos kind)
 rw [R07_New h, br_bne_neg (by rfl), R07_Add kind _ [] _ b hw In.nil hb (by simpa using hn), List.nil_append, size_add b hn, R07_End kind _ _ _ (addW_ok _ _ _) (rest_in hb) (by omega) (by omega)]
 rfl
theorem sumS_in (kind : Int) (b : List Int) : In 256 (sumS kind b) := endS_in _ _ _ _
theorem sumS_len (kind : Int) (b : List Int) : (sumS kind b).length = if kind = 1 then 32 else if kind = 2 then 48 else 64 := endS_len _ _ _ _
end Q
end

section
open Go Go.Abs
set_option linter.unusedVariables false
namespace P
end P
end

section
/- SHA-2: which sums can be, which are the same; the examples. -/
namespace Q
open Go Go.Abs
set_option linter.unusedVariables false
set_option linter.unusedSimpArgs false
theorem first (p : Nat → Bool) : ∀ n, ∃ m, m ≤ n ∧ (∀ i, i < m → p i = true) ∧ (m = n ∨ (m < n ∧ p m = false))
 | 0 => ⟨0, by omega, by omega, .inl rfl⟩
 | n + 1 => by
  obtain ⟨m, h1, h2, h3⟩ := first p n
  rcases h3 with h3 | ⟨h3, h4⟩
  ·subst h3
   cases hp : p m with
   | true => exact ⟨m + 1, by omega, fun i hi => by
       by_cases e : i = m
       ·rw [e]; exact hp
       ·exact h2 i (by omega), .inl rfl⟩
   | false => exact ⟨m, by omega, h2, .inr ⟨by omega, hp⟩⟩
  ·exact ⟨m, by omega, h2, .inr ⟨by omega, h4⟩⟩
end Q
end

section
/- mac: digests, with keys and without. -/
namespace Q
open QK
open Go Go.Abs
set_option linter.unusedVariables false
set_option linter.unusedSimpArgs false
def K7 (kd : Int) : Prop := kd = 1 ∨ kd = 2 ∨ kd = 3 ∨ kd = 4 ∨ kd = 5 ∨ kd = 6 ∨ kd = 7
theorem K7.of {kd : Int} (h : 1 ≤ kd ∧ kd ≤ 7) : K7 kd := by unfold K7; omega
def dl (kd : Int) : Nat := if kd = 1 ∨ kd = 4 ∨ kd = 6 then 32 else if kd = 2 then 48 else if kd = 3 ∨ kd = 5 ∨ kd = 7 then 64 else 0
theorem dl_pos {kd : Int} (h : K7 kd) : 32 ≤ dl kd ∧ dl kd ≤ 64 := by
 rcases h with rfl | rfl | rfl | rfl | rfl | rfl | rfl <;> decide
theorem dl_no {kd : Int} (h : ¬ K7 kd) : dl kd = 0 := by
 unfold K7 at h
 unfold dl
 rw [if_neg (by omega), if_neg (by omega), if_neg (by omega)]
theorem mac_Size (kd : Int) {ρ : Type} (k : Int → Option ρ) : P.mac_Size kd k = k ((dl kd : Nat) : Int) := by
 rw [P.mac_Size_eq]; unfold P.mac_Size_raw
 by_cases h0 : kd < 0
 ·rw [br_pos h0, dl_no (by unfold K7; omega)]; rfl
 by_cases h8 : kd ≥ 8
 ·rw [br_neg h0, br_pos h8, dl_no (by unfold K7; omega)]; rfl
 have : kd = 0 ∨ kd = 1 ∨ kd = 2 ∨ kd = 3 ∨ kd = 4 ∨ kd = 5 ∨ kd = 6 ∨ kd = 7 := by omega
 rcases this with rfl | rfl | rfl | rfl | rfl | rfl | rfl | rfl <;> simp [dl]
theorem R09_Size (kd : Int) {ρ : Type} (k : Int → Option ρ) : P.R09_Size kd k = k ((dl kd : Nat) : Int) := by
 rw [P.R09_Size_eq]; unfold P.R09_Size_raw
 by_cases h0 : kd < 0
 ·rw [br_pos h0, dl_no (by unfold K7; omega)]; rfl
 by_cases h8 : kd > 7
 ·rw [br_neg h0, br_pos h8, dl_no (by unfold K7; omega)]; rfl
 have : kd = 0 ∨ kd = 1 ∨ kd = 2 ∨ kd = 3 ∨ kd = 4 ∨ kd = 5 ∨ kd = 6 ∨ kd = 7 := by omega
 rcases this with rfl | rfl | rfl | rfl | rfl | rfl | rfl | rfl <;> simp [dl]
def dig (kd : Int) (b : List Int) : List Int := if kd ≤ 3 then sumS kd b else ksum kd b (dl kd)
theorem dig_in (kd : Int) (b : List Int) : In 256 (dig kd b) := by
 unfold dig; split
 ·exact sumS_in _ _
 ·exact ksum_in _ _ _
theorem dig_len {kd : Int} (h : K7 kd) (b : List Int) : (dig kd b).length = dl kd := by
 unfold dig
 rcases h with rfl | rfl | rfl | rfl | rfl | rfl | rfl
 ·rw [if_pos (by omega), sumS_len]; rfl
 ·rw [if_pos (by omega), sumS_len]; rfl
 ·rw [if_pos (by omega), sumS_len]; rfl
 all_goals rw [if_neg (by omega), ksum_len]
theorem mac_Digest {kd : Int} (h : K7 kd) (b : List Int) (hb : In 256 b) (hn : b.length ≤ 1000000) {ρ : Type} (k : List Int → Int → Option ρ) : P.mac_Digest kd b k = k (dig kd b) 0 := by
 have hd := dl_pos h
 rw [P.mac_Digest_eq]; unfold P.mac_Digest_raw
 rw [mac_Size, br_beq_neg (by omega)]
 unfold dig
 by_cases h3 : kd ≤ 3
 ·rw [br_pos h3, if_pos h3, sha_Sum (by unfold K7 at h; unfold K3; omega) b hb hn]
 ·rw [br_neg h3, if_neg h3, mac_Size, keccak_Sum (by unfold K7 at h; omega) b (by omega) _ (by omega)]
theorem R09_Digest {kd : Int} (h : K7 kd) (b : List Int) (hb : In 256 b) (hn : b.length ≤ 1000000) {ρ : Type} (k : List Int → Int → Option ρ) : P.R09_Digest kd b k = k (dig kd b) 0 := by
 have hd := dl_pos h
 rw [P.R09_Digest_eq]; unfold P.R09_Digest_raw
 rw [R09_Size, br_beq_neg (by omega)]
 unfold dig
 by_cases h3 : kd ≤ 3
 ·rw [br_pos h3, if_pos h3, R07_Sum (by unfold K7 at h; unfold K3; omega) b hb hn]
 ·rw [br_neg h3, if_neg h3, R09_Size, R08_Sum (by unfold K7 at h; omega) b (by omega) _ (by omega)]
theorem mac_Digest_no {kd : Int} (h : ¬ K7 kd) (b : List Int) {ρ : Type} (k : List Int → Int → Option ρ) : P.mac_Digest kd b k = k [] 9 := by
 rw [P.mac_Digest_eq]; unfold P.mac_Digest_raw
 rw [mac_Size, dl_no h, br_beq_pos (by omega)]
theorem R09_Digest_no {kd : Int} (h : ¬ K7 kd) (b : List Int) {ρ : Type} (k : List Int → Int → Option ρ) : P.R09_Digest kd b k = k [] 9 := by
 rw [P.R09_Digest_eq]; unfold P.R09_Digest_raw
 rw [R09_Size, dl_no h, br_beq_pos (by omega)]
theorem digests_f1 {kd : Int} (h : K7 kd) (l : List (List Int)) (hl : l.length ≤ 1000) (hb : In 256 l.flatten) (hn : l.flatten.length ≤ 1000000) {ρ : Type} (k : List Int → Option ρ) : P.mac_digests_f1 l kd k = k (dig kd l.flatten) := by
 rw [P.mac_digests_f1_eq]; unfold P.mac_digests_f1_raw
 rw [bits_Join l (by omega) (by omega), mac_Digest h _ hb hn]
theorem digests_ok (kd : Int) {ρ : Type} (k : Int → Option ρ) : P.mac_digests kd k = k kd := by
 rw [P.mac_digests_eq]; rfl
def stir (key : List Int) (n : Nat) (c : Int) : List Int := (List.range n).map fun i => bits .xor .u8 (key.getD i 0) c
theorem stir_len (key : List Int) (n : Nat) (c : Int) : (stir key n c).length = n := by simp [stir]
theorem xor8_in (x c : Int) : 0 ≤ bits .xor .u8 x c ∧ bits .xor .u8 x c < 256 := by
 have e : bits .xor .u8 x c = IntKind.u8.wrap ((BitVec.ofInt 8 x ^^^ BitVec.ofInt 8 c).toNat : Int) := rfl
 rw [e, u8m]
 exact ⟨Int.emod_nonneg _ (by omega), Int.emod_lt_of_pos _ (by omega)⟩
theorem stir_in (key : List Int) (n : Nat) (c : Int) : In 256 (stir key n c) := fun x hx => by
 simp only [stir, List.mem_map] at hx
 obtain ⟨i, _, rfl⟩ := hx
 exact xor8_in _ _
theorem stir_step (key : List Int) (i : Nat) (c : Int) : stir key i c ++ [bits .xor .u8 (key.getD i 0) c] = stir key (i + 1) c := range_map_step (fun i => bits .xor .u8 (key.getD i 0) c) i
theorem set_at {α : Type} (a b : List α) (x y : α) (i : Nat) (h : a.length = i) : (a ++ x :: b).set i y = a ++ y :: b := by
 subst h
 rw [List.set_append_right _ _ (Nat.le_refl _), Nat.sub_self]
 rfl
theorem mac_stirred (key : List Int) (n : Nat) (c : Int) (hk : key.length ≤ n) (hn : n ≤ 1000) {ρ : Type} (k : List Int → Option ρ) : P.mac_stirred key (n : Int) c k = k (stir key n c) := by
 rw [P.mac_stirred_eq]; unfold P.mac_stirred_raw
 rw [br_pos (by omega), br_pos (by omega), br_pos (by omega), toNat_cast, List.length_replicate]
 have e0 : (List.take n key).append (List.drop (0 + min n key.length) (List.replicate n 0)) = key ++ List.replicate (n - key.length) 0 := by
  show List.take n key ++ _ = _
  rw [List.take_of_length_le hk, Nat.zero_add, Nat.min_eq_right hk, List.drop_replicate]
 rw [e0]
 generalize hl0 : key ++ List.replicate (n - key.length) 0 = l0
 have hlen : l0.length = n := by rw [← hl0]; simp; omega
 have hget : ∀ i, l0.getD i 0 = key.getD i 0 := by
  intro i
  rw [← hl0]
  by_cases hi : i < key.length
  ·rw [getD_lt (by simp; omega), getD_lt hi, List.getElem_append_left hi]
  ·rw [getD_ge (l := key) (by omega), List.getD_eq_getElem?_getD, List.getElem?_append_right (by omega), List.getElem?_replicate]
   split <;> rfl
 rw [P.mac_stirred_l4_eq, hlen]; unfold P.mac_stirred_L4
 refine lp_go (fun i => (c, (n : Int), (i : Int), stir key i c ++ l0.drop i)) n (by simp [stir]) (fun i hi next hnx => ?_) (fun next => ?_) (by omega)
 ·have hsl := stir_len key i c
  have hd := drop_step l0 0 i (by omega)
  have hL : (stir key i c ++ l0.drop i).length = n := by simp [hsl]; omega
  have hG : (stir key i c ++ l0.drop i).getD i 0 = key.getD i 0 := by
   rw [List.getD_eq_getElem?_getD, List.getElem?_append_right (by omega), hsl, Nat.sub_self, hd, hget]
   rfl
  have hS : (stir key i c ++ l0.drop i).set i (bits .xor .u8 (key.getD i 0) c) = stir key (i + 1) c ++ l0.drop (i + 1) := by
   rw [hd, set_at _ _ _ _ i hsl, ← stir_step, List.append_assoc]
   rfl
  simp only [P.mac_stirred_r4, toNat_cast]
  rw [hL, hG, hS]
  simp (disch := omega) only [br_pos, br_neg, br_bne_pos, br_bne_neg, br_beq_pos, br_beq_neg, br_not, br_tt, br_ff, i64w]
  exact hnx
 ·simp only [P.mac_stirred_r4]
  rw [br_neg (by omega), List.drop_of_length_le (by omega), List.append_nil]
def bk (kd : Int) : Nat := if kd ≤ 3 then bsz kd else rOf kd
theorem bk_ok {kd : Int} (h : K7 kd) : 64 ≤ bk kd ∧ bk kd ≤ 168 := by
 rcases h with rfl | rfl | rfl | rfl | rfl | rfl | rfl <;> decide
theorem R09_block {kd : Int} (h : K7 kd) {ρ : Type} (k : Int → Option ρ) : P.R09_block kd k = k ((bk kd : Nat) : Int) := by
 rw [P.R09_block_eq]; unfold P.R09_block_raw bk
 by_cases h3 : kd ≤ 3
 ·rw [br_pos h3, if_pos h3, R07_Block]
 ·rw [br_neg h3, if_neg h3, rate_r (rOf_ok (by unfold K7 at h; omega))]
def kfit (kd : Int) (key : List Int) : List Int := if bk kd < key.length then dig kd key else key
def hmc (kd : Int) (key b : List Int) : List Int := dig kd (stir (kfit kd key) (bk kd) 92 ++ dig kd (stir (kfit kd key) (bk kd) 54 ++ b))
theorem hmc_in (kd : Int) (key b : List Int) : In 256 (hmc kd key b) := dig_in _ _
theorem hmc_len {kd : Int} (h : K7 kd) (key b : List Int) : (hmc kd key b).length = dl kd := dig_len h _
theorem R09_Hmac {kd : Int} (h : 1 ≤ kd ∧ kd ≤ 5) (key b : List Int) (hk : In 256 key) (hb : In 256 b) (nk : key.length ≤ 100000) (nb : b.length ≤ 900000) {ρ : Type} (k : List Int → Int → Option ρ) : P.R09_Hmac kd key b k = k (hmc kd key b) 0 := by
 have hK : K7 kd := K7.of (by omega)
 have h1 := dl_pos hK
 have h2 := bk_ok hK
 have lp : ∀ (key' : List Int), In 256 key' → key'.length ≤ bk kd → (P.R09_Hmac_l10 kd b ((bk kd : Nat) : Int) key' 0 [] []
     fun (q3 : Int) (q4 : List Int) (q5 : Int) (q6 : List Int) (q7 : Int) (q8 q9 : List Int) =>
     br (decide ((q8.length + q4.length) * 1 ≤ 140737488355328))
      (P.R09_Digest q3 (q8 ++ q4) fun (q10 : List Int) (q11 : Int) =>
       br (decide ((q9.length + q10.length) * 1 ≤ 140737488355328))
        (P.R09_Digest q3 (q9 ++ q10) fun (q12 : List Int) (q13 : Int) => k q12 q13) none) none) =
     k (dig kd (stir key' (bk kd) 92 ++ dig kd (stir key' (bk kd) 54 ++ b))) 0 := by
  intro key' hk' hl'
  rw [P.R09_Hmac_l10_eq]; unfold P.R09_Hmac_L10
  refine lp_go (fun i => (kd, b, ((bk kd : Nat) : Int), key', (i : Int), stir key' i 54, stir key' i 92)) (bk kd) (by simp [stir]) (fun i hi next hnx => ?_) (fun next => ?_) (by omega)
  ·have l1 := stir_len key' i 54
   have l2 := stir_len key' i 92
   rw [← stir_step, ← stir_step] at hnx
   simp only [P.R09_Hmac_r10, toNat_cast]
   rw [i64w (x := (i : Int) + 1) (by omega) (by omega)]
   by_cases hi2 : i < key'.length
   ·simp (disch := omega) only [br_pos, br_neg, br_bne_pos, br_bne_neg, br_beq_pos, br_beq_neg, br_not, br_tt, br_ff, i64w]
    exact hnx
   ·rw [getD_ge (l := key') (by omega)] at hnx
    simp (disch := omega) only [br_pos, br_neg, br_bne_pos, br_bne_neg, br_beq_pos, br_beq_neg, br_not, br_tt, br_ff, i64w]
    exact hnx
  ·simp only [P.R09_Hmac_r10]
   have l1 := stir_len key' (bk kd) 54
   have l2 := stir_len key' (bk kd) 92
   have l3 := dig_len hK (stir key' (bk kd) 54 ++ b)
   rw [br_neg (by omega), br_pos (by omega), R09_Digest hK _ ((stir_in _ _ _).app hb) (by rw [List.length_append]; omega), br_pos (by omega), R09_Digest hK _ ((stir_in _ _ _).app (dig_in _ _)) (by rw [List.length_append]; omega)]
 rw [P.R09_Hmac_eq]; unfold P.R09_Hmac_raw
 rw [br_neg (by omega), br_neg (by omega), R09_block hK]
 unfold hmc kfit
 by_cases hg : bk kd < key.length
 ·rw [br_pos (by omega), if_pos hg, R09_Digest hK key hk (by omega)]
  exact lp _ (dig_in _ _) (by rw [dig_len hK]; omega)
 ·rw [br_neg (by omega), if_neg hg]
  exact lp _ hk (by omega)
theorem R09_Hmac_no {kd : Int} (h : ¬ (1 ≤ kd ∧ kd ≤ 5)) (key b : List Int) {ρ : Type} (k : List Int → Int → Option ρ) : P.R09_Hmac kd key b k = k [] 9 := by
 rw [P.R09_Hmac_eq]; unfold P.R09_Hmac_raw
 by_cases h1 : kd < 1
 ·rw [br_pos h1]
 ·rw [br_neg h1, br_pos (by omega)]
theorem with_f1 {kd : Int} (h : K7 kd) (l : List (List Int)) (hl : l.length ≤ 1000) (hb : In 256 l.flatten) (hn : l.flatten.length ≤ 900000) (i o : List Int) (hi : In 256 i) (ho : In 256 o) (ni : i.length ≤ 1000) (no : o.length ≤ 1000) {ρ : Type} (k : List Int → Option ρ) :
    P.mac_with_f1 l kd o i k = k (dig kd (o ++ dig kd (i ++ l.flatten))) := by
 have hd := dl_pos h
 have hdl := dig_len h (i ++ l.flatten)
 have two : ∀ (x y : List Int), In 256 x → In 256 y → x.length + y.length ≤ 1000000 → ∀ (k : List Int → Option ρ), P.mac_digests_f1 [x, y] kd k = k (dig kd (x ++ y)) := by
  intro x y hx hy hl k
  have e : [x, y].flatten = x ++ y := by simp
  rw [digests_f1 h [x, y] (by simp) (by rw [e]; exact hx.app hy) (by rw [e, List.length_append]; exact hl), e]
 rw [P.mac_with_f1_eq]; unfold P.mac_with_f1_raw
 rw [bits_Join l (by omega) (by omega), two _ _ hi hb (by omega), two _ _ ho (dig_in _ _) (by omega)]
end Q
end

section
open Go Go.Abs
set_option linter.unusedVariables false
namespace P
end P
end

section
open Go Go.Abs
set_option linter.unusedVariables false
namespace P
end P
end

section
open Go Go.Abs
set_option linter.unusedVariables false
namespace P
end P
end

section
/- mac: bytes of keys and of seeds. -/
namespace Q
open QK
open Go Go.Abs
set_option linter.unusedVariables false
set_option linter.unusedSimpArgs false
def cat (T : Nat → List Int) : Nat → List Int
 | 0 => []
 | j + 1 => cat T j ++ T j
theorem cat_len {T : Nat → List Int} {d : Nat} (h : ∀ i, (T i).length = d) : ∀ j, (cat T j).length = j * d
 | 0 => by simp [cat]
 | j + 1 => by rw [cat, List.length_append, cat_len h j, h, Nat.succ_mul]
def cnt (d n : Nat) : Nat := (n + d - 1) / d
theorem cnt_lt {d n i : Nat} (hd : 0 < d) : i < cnt d n ↔ i * d < n := by
 unfold cnt
 have := Nat.le_div_iff_mul_le (x := i + 1) (y := n + d - 1) hd
 rw [Nat.succ_mul] at this
 omega
theorem cnt_mul {d n : Nat} (hd : 0 < d) : n ≤ cnt d n * d := by
 have := cnt_lt (i := cnt d n) (n := n) hd
 omega
theorem cnt_le {d n m : Nat} (h : n ≤ m * d) (hd : 0 < d) : cnt d n ≤ m := by
 have := cnt_lt (i := m) (n := n) hd
 omega
def grow (T : Nat → List Int) (d n : Nat) : List Int := (cat T (cnt d n)).take n
theorem grow_len {T : Nat → List Int} {d : Nat} (h : ∀ i, (T i).length = d) (hd : 0 < d) (n : Nat) : (grow T d n).length = n := by
 unfold grow
 have := cnt_mul (n := n) hd
 rw [List.length_take, cat_len h]
 omega
def exT (kd : Int) (key info : List Int) : Nat → List Int
 | 0 => hmc kd key ([] ++ info ++ [1])
 | i + 1 => hmc kd key (exT kd key info i ++ info ++ [((i + 2 : Nat) : Int) % 256])
theorem exT_len {kd : Int} (h : K7 kd) (key info : List Int) : ∀ i, (exT kd key info i).length = dl kd
 | 0 => hmc_len h _ _
 | i + 1 => hmc_len h _ _
theorem exT_in (kd : Int) (key info : List Int) : ∀ i, In 256 (exT kd key info i)
 | 0 => hmc_in _ _ _
 | i + 1 => hmc_in _ _ _
def exL (kd : Int) (key info : List Int) : Nat → List Int
 | 0 => []
 | i + 1 => exT kd key info i
theorem exT_step (kd : Int) (key info : List Int) (i : Nat) : hmc kd key (exL kd key info i ++ info ++ [((i + 1 : Nat) : Int) % 256]) = exT kd key info i := by
 cases i with
 | zero => rfl
 | succ i => rfl
theorem exL_in (kd : Int) (key info : List Int) : ∀ i, In 256 (exL kd key info i)
 | 0 => In.nil
 | i + 1 => exT_in _ _ _ i
theorem exL_len {kd : Int} (h : K7 kd) (key info : List Int) : ∀ i, (exL kd key info i).length ≤ dl kd
 | 0 => Nat.zero_le _
 | i + 1 => by rw [exL, exT_len h]; exact Nat.le_refl _
end Q
end

section
/- mac: digests with keys, and keys that grow, by the program. -/
namespace Q
open QK
open Go Go.Abs
set_option linter.unusedVariables false
set_option linter.unusedSimpArgs false
theorem bk_tab {kd : Int} (h : 1 ≤ kd ∧ kd ≤ 5) : (([0, 0, 32, 64, 48, 128, 64, 128, 32, 136, 64, 72, 32, 168, 64, 136] : List Int).getD (kd.toNat * 2 + 1) 0) = ((bk kd : Nat) : Int) := by
 have : kd = 1 ∨ kd = 2 ∨ kd = 3 ∨ kd = 4 ∨ kd = 5 := by omega
 rcases this with rfl | rfl | rfl | rfl | rfl <;> decide
theorem mac_with {kd : Int} (h : 1 ≤ kd ∧ kd ≤ 5) (key : List Int) (hk : In 256 key) (nk : key.length ≤ 100000) {ρ : Type} (k : Int → List Int → List Int → Option ρ) : P.mac_with kd key k = k kd (stir (kfit kd key) (bk kd) 92) (stir (kfit kd key) (bk kd) 54) := by
 have hK : K7 kd := K7.of (by omega)
 have h2 := bk_ok hK
 have hd := dl_pos hK
 rw [P.mac_with_eq]; unfold P.mac_with_raw
 rw [digests_ok, br_pos (by omega), br_pos (by omega), br_pos (by omega), bk_tab h]
 unfold kfit
 by_cases hg : bk kd < key.length
 ·rw [br_pos (by omega), if_pos hg, digests_f1 hK [key] (by simp) (by simpa using hk) (by simp; omega)]
  have e : [key].flatten = key := by simp
  rw [e, mac_stirred _ _ _ (by rw [dig_len hK]; omega) (by omega), mac_stirred _ _ _ (by rw [dig_len hK]; omega) (by omega)]
 ·rw [br_neg (by omega), if_neg hg, mac_stirred _ _ _ (by omega) (by omega), mac_stirred _ _ _ (by omega) (by omega)]
theorem keyed {kd : Int} {ρ : Type} (k : Bool → Option ρ) : P.mac_keyed kd k = k (decide (1 ≤ kd ∧ kd ≤ 5)) := by
 rw [P.mac_keyed_eq]; unfold P.mac_keyed_raw
 by_cases h1 : kd ≥ 1
 ·rw [br_pos h1]
  congr 1
  exact decide_eq_decide.2 ⟨fun h => ⟨h1, h⟩, fun h => h.2⟩
 ·rw [br_neg h1, decide_eq_false (fun h => h1 h.1)]
theorem mac_Hmac {kd : Int} (h : 1 ≤ kd ∧ kd ≤ 5) (key b : List Int) (hk : In 256 key) (hb : In 256 b) (nk : key.length ≤ 100000) (nb : b.length ≤ 900000) {ρ : Type} (k : List Int → Int → Option ρ) : P.mac_Hmac kd key b k = k (hmc kd key b) 0 := by
 have hK : K7 kd := K7.of (by omega)
 have h2 := bk_ok hK
 rw [P.mac_Hmac_eq]; unfold P.mac_Hmac_raw
 rw [keyed, decide_eq_true h, br_not, br_tt, mac_with h key hk nk, with_f1 hK [b] (by simp) (by simpa using hb) (by simp; omega) _ _ (stir_in _ _ _) (stir_in _ _ _) (by rw [stir_len]; omega) (by rw [stir_len]; omega)]
 simp [hmc]
theorem mac_Hmac_no {kd : Int} (h : ¬ (1 ≤ kd ∧ kd ≤ 5)) (key b : List Int) {ρ : Type} (k : List Int → Int → Option ρ) : P.mac_Hmac kd key b k = k [] 9 := by
 rw [P.mac_Hmac_eq]; unfold P.mac_Hmac_raw
 rw [keyed, decide_eq_false h, br_not, br_ff]
theorem mac_Extract (kd : Int) (key b : List Int) {ρ : Type} (k : List Int → Int → Option ρ) : P.mac_Extract kd key b k = P.mac_Hmac kd key b k := by
 rw [P.mac_Extract_eq]; rfl
theorem mac_Expand {kd : Int} (h : 1 ≤ kd ∧ kd ≤ 5) (key info : List Int) (hk : In 256 key) (hi : In 256 info) (nk : key.length ≤ 100000) (ni : info.length ≤ 100000) (n : Nat) (hn : n ≤ 255 * dl kd) {ρ : Type} (k : List Int → Int → Option ρ) :
    P.mac_Expand kd key info (n : Int) k = k (grow (exT kd key info) (dl kd) n) 0 := by
 have hK : K7 kd := K7.of (by omega)
 have hd := dl_pos hK
 have h2 := bk_ok hK
 have hc : cnt (dl kd) n ≤ 255 := cnt_le hn (by omega)
 have hcm := cnt_mul (n := n) (d := dl kd) (by omega)
 have hl := cat_len (exT_len hK key info)
 rw [P.mac_Expand_eq]; unfold P.mac_Expand_raw
 rw [keyed, decide_eq_true h, br_not, br_tt, br_neg (by omega), mac_Size, i64w (by omega) (by omega), br_neg (by omega), mac_with h key hk nk, P.mac_Expand_l8_eq]
 unfold P.mac_Expand_L8
 refine lp_go (fun i => (info, (n : Int), kd, stir (kfit kd key) (bk kd) 92, stir (kfit kd key) (bk kd) 54, exL kd key info i, ((i + 1 : Nat) : Int) % 256, cat (exT kd key info) i)) (cnt (dl kd) n) rfl (fun i hi' next hnx => ?_) (fun next => ?_) (by omega)
 ·have hlt := (cnt_lt (n := n) (d := dl kd) (i := i) (by omega)).1 hi'
  have hli := hl i
  have hL := exL_len hK key info i
  have hlen : ([exL kd key info i, info, [((i + 1 : Nat) : Int) % 256]] : List (List Int)).flatten = exL kd key info i ++ info ++ [((i + 1 : Nat) : Int) % 256] := by simp
  have hin : In 256 (exL kd key info i ++ info ++ [((i + 1 : Nat) : Int) % 256]) := ((exL_in _ _ _ i).app hi).app (fun x hx => by
   have : x = ((i + 1 : Nat) : Int) % 256 := by simpa using hx
   omega)
  have hle : (exL kd key info i ++ info ++ [((i + 1 : Nat) : Int) % 256]).length ≤ 200000 := by simp; omega
  have hb : i * dl kd ≤ 255 * 64 := Nat.mul_le_mul (by omega) (by omega)
  have hst := exT_step kd key info i
  unfold hmc at hst
  simp only [P.mac_Expand_r8]
  rw [br_pos (by omega), with_f1 hK _ (by simp) (by rw [hlen]; exact hin) (by rw [hlen]; omega) _ _ (stir_in _ _ _) (stir_in _ _ _) (by rw [stir_len]; omega) (by rw [stir_len]; omega), hlen, hst, br_pos (by rw [exT_len hK]; omega), u8m,
   show (((i + 1 : Nat) : Int) % 256 + 1) % 256 = ((i + 1 + 1 : Nat) : Int) % 256 by omega]
  exact hnx
 ·have hlc := hl (cnt (dl kd) n)
  simp only [P.mac_Expand_r8]
  rw [br_neg (by omega), br_pos (by omega), br_pos (by omega), br_pos (by omega), br_pos (by omega), List.drop_zero, toNat_cast]
  rfl
theorem hm1 : (hmc 1 [] []).take 4 = [182, 19, 103, 154] := by decide +kernel
theorem L09_awake {ρ : Type} (k : Bool → Option ρ) : P.L09_awake k = k true := by
 have hl : (hmc 1 [] []).length = 32 := hmc_len (.inl rfl) _ _
 rw [P.L09_awake_eq]; unfold P.L09_awake_raw
 rw [mac_Hmac (by decide) [] [] In.nil In.nil (by simp) (by simp)]
 have he := mac_Expand (kd := 1) (by decide) [] [] In.nil In.nil (by simp) (by simp) 0 (by omega) (ρ := ρ)
 have e0 : ((0 : Nat) : Int) = 0 := rfl
 rw [e0] at he
 rw [he, br_beq_pos rfl, hl, br_beq_pos (by rfl), br_pos (by decide), List.drop_zero, show ((4 : Int) - 0).toNat = 4 from rfl, hm1, R01_Same _ _ (by decide), decide_eq_true rfl, br_tt, br_beq_pos rfl, grow_len (exT_len (.inl rfl) [] []) (by decide), br_beq_pos (by rfl), mac_Size, show dl 9 = 0 from rfl]
 rfl
end Q
end

section
namespace Q
open Go Go.Abs
set_option linter.unusedVariables false
set_option linter.unusedSimpArgs false
theorem MacTells (x0 : Int) (x1 : List Int) (x2 : List Int) (wx0 : wfI .i64 x0) (nx1 : x1.length ≤ 140737488355328) (wx1 : ∀ x, x ∈ x1 → wfI .u8 x) (nx2 : x2.length ≤ 140737488355328) (wx2 : ∀ x, x ∈ x2 → wfI .u8 x) {ρ : Type} (k : Bool → Option ρ) : P.L09_MacTells x0 x1 x2 k = k true := by
 have h1 := in_u8 wx1
 have h2 := in_u8 wx2
 rw [P.L09_MacTells_eq]; unfold P.L09_MacTells_raw
 by_cases n1 : (x1.length : Int) > 600
 ·rw [br_pos n1, L09_awake]
 rw [br_neg n1]
 by_cases n2 : (x2.length : Int) > 600
 ·rw [br_pos n2, L09_awake]
 rw [br_neg n2]
 have dg : ∃ d e, (∀ k : List Int → Int → Option ρ, P.mac_Digest x0 x2 k = k d e) ∧ (∀ k : List Int → Int → Option ρ, P.R09_Digest x0 x2 k = k d e) ∧ d.length ≤ 1000 := by
  by_cases hK : K7 x0
  ·exact ⟨_, _, fun k => mac_Digest hK x2 h2 (by omega) k, fun k => R09_Digest hK x2 h2 (by omega) k, by have := dl_pos hK; rw [dig_len hK]; omega⟩
  ·exact ⟨_, _, fun k => mac_Digest_no hK x2 k, fun k => R09_Digest_no hK x2 k, by simp⟩
 have hm : ∃ d e, (∀ k : List Int → Int → Option ρ, P.mac_Hmac x0 x1 x2 k = k d e) ∧ (∀ k : List Int → Int → Option ρ, P.R09_Hmac x0 x1 x2 k = k d e) ∧ d.length ≤ 1000 := by
  by_cases h5 : 1 ≤ x0 ∧ x0 ≤ 5
  ·have hK : K7 x0 := K7.of (by omega)
   exact ⟨_, _, fun k => mac_Hmac h5 x1 x2 h1 h2 (by omega) (by omega) k, fun k => R09_Hmac h5 x1 x2 h1 h2 (by omega) (by omega) k, by have := dl_pos hK; rw [hmc_len hK]; omega⟩
  ·exact ⟨_, _, fun k => mac_Hmac_no h5 x1 x2 k, fun k => R09_Hmac_no h5 x1 x2 k, by simp⟩
 obtain ⟨d, e, d1, d2, dn⟩ := dg
 obtain ⟨m, f, m1, m2, mn⟩ := hm
 rw [d1, d2, m1, m2, mac_Extract, m1, mac_Size, R09_Size, br_beq_pos rfl, R01_Same _ _ (by omega), decide_eq_true rfl, br_tt, br_beq_pos rfl, R01_Same _ _ (by omega), decide_eq_true rfl, br_tt, br_beq_pos rfl, R01_Same _ _ (by omega), decide_eq_true rfl, br_tt, br_beq_pos rfl, L09_awake]
end Q
end
