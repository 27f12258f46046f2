/-
  WotsTells, part X: an interpreter of my own over abstract values, the pure functions, the walks and the plain law.
-/

import Derived.Test.YtjhnljhjpnjieaaDoorWotsTellsW
import Derived.Test.YtjhnljhjpnjieaaDoorWotsTellsH
import Derived.Test.YtjhnljhjpnjieaaDoorWotsTellsF
import Derived.Test.YtjhnljhjpnjieaaDoorWotsTellsG
import Derived.Test.YtjhnljhjpnjieaaDoorWotsTellsI

section
/- SHA-2: the program's engine of 64 bits. -/
namespace Q
open Go Go.Abs
set_option linter.unusedVariables false
set_option linter.unusedSimpArgs false
theorem e64_rot (rd : Int) (t0 t1 t2 t3 : List Int) (x : BitVec 64) (m : Int) (n : Nat) (hm : m = (n : Int)) (hn : n ≤ 64) {ρ : Type} (k : Int → Option ρ) :
    P.sha_engine_uint64_rotated 64 rd t0 t1 t2 t3 (x.toNat : Int) m k = k ((rr x n).toNat : Int) := by
 subst hm
 rw [P.sha_engine_uint64_rotated_eq]
 unfold P.sha_engine_uint64_rotated_raw
 rw [br_neg (by omega), i64w (by omega) (by omega), br_neg (by omega), show (64 : Int) - (n : Int) = ((64 - n : Nat) : Int) by omega]
 simp only [toNat_cast]
 rw [shr64 _ _ hn, shl64 _ _ (by omega), or64]
 rfl
theorem e64_high3 (rd : Int) (x : BitVec 64) {ρ : Type} (k : Int → Option ρ) : P.sha_engine_uint64_high 64 rd [1, 8, 7] [19, 61, 6] [28, 34, 39] [14, 18, 41] (x.toNat : Int) 3 k = k ((hi p64.d x).toNat : Int) := by
 rw [P.sha_engine_uint64_high_eq]
 unfold P.sha_engine_uint64_high_raw
 simp only [List.getD_cons_zero, List.getD_cons_succ]
 rw [br_neg (by decide), br_neg (by decide), br_neg (by decide), br_pos (by decide), e64_rot _ _ _ _ _ _ _ 14 (by rfl) (by omega), e64_rot _ _ _ _ _ _ _ 18 (by rfl) (by omega), e64_rot _ _ _ _ _ _ _ 41 (by rfl) (by omega), xor64, xor64]
 rfl
theorem e64_high2 (rd : Int) (x : BitVec 64) {ρ : Type} (k : Int → Option ρ) : P.sha_engine_uint64_high 64 rd [1, 8, 7] [19, 61, 6] [28, 34, 39] [14, 18, 41] (x.toNat : Int) 2 k = k ((hi p64.c x).toNat : Int) := by
 rw [P.sha_engine_uint64_high_eq]
 unfold P.sha_engine_uint64_high_raw
 simp only [List.getD_cons_zero, List.getD_cons_succ]
 rw [br_neg (by decide), br_neg (by decide), br_pos (by decide), e64_rot _ _ _ _ _ _ _ 28 (by rfl) (by omega), e64_rot _ _ _ _ _ _ _ 34 (by rfl) (by omega), e64_rot _ _ _ _ _ _ _ 39 (by rfl) (by omega), xor64, xor64]
 rfl
theorem e64_low0 (rd : Int) (x : BitVec 64) {ρ : Type} (k : Int → Option ρ) : P.sha_engine_uint64_low 64 rd [1, 8, 7] [19, 61, 6] [28, 34, 39] [14, 18, 41] (x.toNat : Int) 0 k = k ((lo p64.a x).toNat : Int) := by
 rw [P.sha_engine_uint64_low_eq]
 unfold P.sha_engine_uint64_low_raw
 simp only [List.getD_cons_zero, List.getD_cons_succ]
 rw [br_pos (by decide), e64_rot _ _ _ _ _ _ _ 1 (by rfl) (by omega), e64_rot _ _ _ _ _ _ _ 8 (by rfl) (by omega), br_neg (by decide), xor64, show (7 : Int).toNat = 7 from rfl, shr64 _ _ (by omega), xor64]
 rfl
theorem e64_low1 (rd : Int) (x : BitVec 64) {ρ : Type} (k : Int → Option ρ) : P.sha_engine_uint64_low 64 rd [1, 8, 7] [19, 61, 6] [28, 34, 39] [14, 18, 41] (x.toNat : Int) 1 k = k ((lo p64.b x).toNat : Int) := by
 rw [P.sha_engine_uint64_low_eq]
 unfold P.sha_engine_uint64_low_raw
 simp only [List.getD_cons_zero, List.getD_cons_succ]
 rw [br_neg (by decide), br_pos (by decide), e64_rot _ _ _ _ _ _ _ 19 (by rfl) (by omega), e64_rot _ _ _ _ _ _ _ 61 (by rfl) (by omega), br_neg (by decide), xor64, show (6 : Int).toNat = 6 from rfl, shr64 _ _ (by omega), xor64]
 rfl
theorem e64_root (t : Nat) (h : t < 80) {ρ : Type} (k : Int → Option ρ) : P.sha_root512 (t : Int) k = k ((p64.K t).toNat : Int) := by
 rw [P.sha_root512_eq]
 unfold P.sha_root512_raw
 rw [br_pos (by omega), br_pos (by omega), toNat_cast, K64]
theorem e64_l4 (b : List Int) (hb : In 256 b) (hl : b.length = 16 * 8) (rd : Int) (t0 t1 t2 t3 h1 h2 : List Int) {ρ : Type} (k0 : List Int → Int → Int → Int → Int → List Int → List Int → List Int → List Int → List Int → List Int → List Int → Option ρ) :
    P.sha_engine_uint64_block_l4 b 8 0 64 rd t0 t1 t2 t3 h1 h2 (List.replicate 16 0) k0 = k0 b 8 16 64 rd t0 t1 t2 t3 h1 h2 (cv (wordsB 64 b 16)) := by
 rw [P.sha_engine_uint64_block_l4_eq]
 unfold P.sha_engine_uint64_block_L4
 refine lp_go (fun i => (b, 8, (i : Int), 64, rd, t0, t1, t2, t3, h1, h2, cv (wordsB 64 b i) ++ List.replicate (16 - i) 0)) 16 (by simp [wordsB, cv]) (fun i hi next hn' => ?_) (fun next => ?_) (by omega)
 ·simp only [P.sha_engine_uint64_block_r4, toNat_cast]
  have e1 : IntKind.i64.wrap ((i : Int) * 8) = ((i * 8 : Nat) : Int) := by rw [i64w (by omega) (by omega)]; omega
  have e2 : IntKind.i64.wrap (IntKind.i64.wrap ((i : Int) + 1) * 8) = (((i + 1) * 8 : Nat) : Int) := by rw [i64w (x := (i : Int) + 1) (by omega) (by omega), i64w (by omega) (by omega)]; omega
  rw [e1, e2]
  simp only [toNat_cast]
  have hlen : ((b.take ((i + 1) * 8)).drop (i * 8)).length = 8 := by simp; omega
  rw [br_pos (by omega), br_pos (by omega), br_pos (by omega), br_pos (by omega), bits_Num _ ((hb.take _).drop _) (by omega), br_pos (by omega), br_pos (by omega)]
  have e3 : ((T 8 ((b.take ((i + 1) * 8)).drop (i * 8)).reverse % 2 ^ 64 : Nat) : Int) = (((BitVec.ofNat 64 (T 8 ((b.take ((i + 1) * 8)).drop (i * 8)).reverse)).toNat : Nat) : Int) := by
   rw [BitVec.toNat_ofNat]
  have e4 : IntKind.i64.wrap ((i : Int) + 1) = ((i + 1 : Nat) : Int) := by rw [i64w (by omega) (by omega)]; omega
  rw [e3, e4]
  have e5 : (cv (wordsB 64 b i) ++ List.replicate (16 - i) (0 : Int)).set i (((BitVec.ofNat 64 (T 8 ((b.take ((i + 1) * 8)).drop (i * 8)).reverse)).toNat : Nat) : Int) = cv (wordsB 64 b (i + 1)) ++ List.replicate (16 - (i + 1)) 0 := by
   rw [List.set_append_right _ _ (by simp [wordsB_len]), cv_length, wordsB_len, Nat.sub_self, show 16 - i = (16 - (i + 1)) + 1 by omega, List.replicate_succ, List.set_cons_zero, wordsB_succ, ← cv_append, List.append_assoc]
   rfl
  rw [e5]
  exact hn'
 ·simp only [P.sha_engine_uint64_block_r4]
  rw [br_neg (by omega)]
  simp
theorem e64_l10 (l v : List (BitVec 64)) (hv : v.length = 8) (h2 h1 : List Int) {ρ : Type} (k0 : Int → Int → List Int → List Int → List Int → Int → Int → List Int → List Int → List Int → List Int → List Int → Option ρ) (hl : l.length = 16) :
    P.sha_engine_uint64_block_l10 80 0 (cv (win p64 l 0)) h2 h1 64 80 [1, 8, 7] [19, 61, 6] [28, 34, 39] [14, 18, 41] (cv v) k0 =
     k0 80 80 (cv (win p64 l 80)) h2 h1 64 80 [1, 8, 7] [19, 61, 6] [28, 34, 39] [14, 18, 41] (cv (runs p64 l v 80)) := by
 rw [P.sha_engine_uint64_block_l10_eq]
 unfold P.sha_engine_uint64_block_L10
 refine lp_go (fun t => (80, (t : Int), cv (win p64 l t), h2, h1, 64, 80, [1, 8, 7], [19, 61, 6], [28, 34, 39], [14, 18, 41], cv (runs p64 l v t))) 80 rfl (fun t ht next hn' => ?_) (fun next => ?_) (by omega)
 ·simp only [P.sha_engine_uint64_block_r10]
  have e1 : IntKind.i64.wrap ((t : Int) + 1) = ((t + 1 : Nat) : Int) := by rw [i64w (by omega) (by omega)]; omega
  have e9 : IntKind.i64.wrap ((t : Int) + 9) = ((t + 9 : Nat) : Int) := by rw [i64w (by omega) (by omega)]; omega
  have e14 : IntKind.i64.wrap ((t : Int) + 14) = ((t + 14 : Nat) : Int) := by rw [i64w (by omega) (by omega)]; omega
  simp only [e1, e9, e14, tm16, toNat_cast, cv_getD]
  have g0 := win_at p64 l t 0 (by omega)
  rw [Nat.add_zero] at g0
  rw [g0, win_at p64 l t 1 (by omega), win_at p64 l t 9 (by omega), win_at p64 l t 14 (by omega)]
  have hV := v8 _ (runs_len p64 l v hv t)
  rw [br_pos (by omega), br_pos (by omega), br_pos (by omega), e64_high3, e64_root t ht, e64_high2, br_pos (by omega), br_pos (by omega), e64_low0, br_pos (by omega), br_pos (by omega), br_pos (by omega), br_pos (by omega), e64_low1, br_pos (by omega), br_pos (by omega)]
  simp only [add64, xor64, and64, or64]
  rw [← W_next p64 l hl t, cv_set, win_next]
  have hr : cv (runs p64 l v (t + 1)) = (((List.take 1 (cv (runs p64 l v t))).append (List.take 7 (List.take 7 (List.drop 0 (cv (runs p64 l v t)))) ++ List.drop (1 + min 7 (List.take 7 (List.drop 0 (cv (runs p64 l v t)))).length) (cv (runs p64 l v t)))).set 4
      (((runs p64 l v t).getD 3 0 + rnd1 p64 t (W p64 l t) (runs p64 l v t)).toNat : Int)).set 0 ((rnd1 p64 t (W p64 l t) (runs p64 l v t) + rnd2 p64 (runs p64 l v t)).toNat : Int) := by
   rw [hV]
   rfl
  have h3 : ((List.take 1 (cv (runs p64 l v t))).append (List.take 7 (List.take 7 (List.drop 0 (cv (runs p64 l v t)))) ++ List.drop (1 + min 7 (List.take 7 (List.drop 0 (cv (runs p64 l v t)))).length) (cv (runs p64 l v t)))).getD 4 0 = (((runs p64 l v t).getD 3 0).toNat : Int) := by
   rw [hV]
   rfl
  rw [h3, add64]
  rw [hr] at hn'
  exact hn'
 ·simp only [P.sha_engine_uint64_block_r10]
  rw [br_neg (by omega)]
  rfl
theorem e64_l21 (v u : List (BitVec 64)) (hv : v.length = 8) (hu : u.length = 8) (h2 : List Int) {ρ : Type} (k0 : Int → List Int → List Int → List Int → Option ρ) :
    P.sha_engine_uint64_block_l21 0 (cv v) h2 (cv u) k0 = k0 8 (cv v) h2 (cv ((List.range 8).map fun i => u.getD i 0 + v.getD i 0)) := by
 rw [P.sha_engine_uint64_block_l21_eq]
 unfold P.sha_engine_uint64_block_L21
 have hs : ∀ i, i ≤ 8 → (((List.range i).map fun i => u.getD i 0 + v.getD i 0) ++ u.drop i).length = 8 := fun i hi => by simp; omega
 refine lp_go (fun i => ((i : Int), cv v, h2, cv (((List.range i).map fun i => u.getD i 0 + v.getD i 0) ++ u.drop i))) 8 (by simp) (fun i hi next hn' => ?_) (fun next => ?_) (by omega)
 ·simp only [P.sha_engine_uint64_block_r21, toNat_cast, cv_getD]
  have e1 : IntKind.i64.wrap ((i : Int) + 1) = ((i + 1 : Nat) : Int) := by rw [i64w (by omega) (by omega)]; omega
  have e2 : (((List.range i).map fun i => u.getD i 0 + v.getD i 0) ++ u.drop i).getD i 0 = u.getD i 0 := by
   rw [List.getD_eq_getElem?_getD, List.getElem?_append_right (by simp), List.getElem?_drop, List.length_map, List.length_range, List.getD_eq_getElem?_getD]
   congr 2
   omega
  rw [e1, e2, add64, cv_set]
  have e3 : (((List.range i).map fun i => u.getD i 0 + v.getD i 0) ++ u.drop i).set i (u.getD i 0 + v.getD i 0) = ((List.range (i + 1)).map fun i => u.getD i 0 + v.getD i 0) ++ u.drop (i + 1) := by
   rw [List.set_append_right _ _ (by simp), List.length_map, List.length_range, Nat.sub_self, List.range_succ, List.map_append, List.append_assoc, List.drop_eq_getElem_cons (by omega), List.set_cons_zero]
   rfl
  rw [e3]
  simp (disch := omega) only [br_pos, br_neg, br_bne_pos, br_bne_neg, br_beq_pos, br_beq_neg, br_not, br_tt, br_ff, i64w]
  exact hn'
 ·simp only [P.sha_engine_uint64_block_r21]
  rw [br_neg (by omega), List.drop_eq_nil_of_le (by omega), List.append_nil]
  rfl
theorem e64_block (v : List (BitVec 64)) (hv : v.length = 8) (b : List Int) (hb : In 256 b) (hl : b.length = 16 * 8) {ρ : Type} (k : List Int → Option ρ) :
    P.sha_engine_uint64_block 64 80 [1, 8, 7] [19, 61, 6] [28, 34, 39] [14, 18, 41] (cv v) b k = k (cv (blockB p64 v b)) := by
 rw [P.sha_engine_uint64_block_eq]
 unfold P.sha_engine_uint64_block_raw
 rw [show IntKind.i64.wrap ((64 : Int).tdiv 8) = 8 from rfl]
 have := e64_l4 b hb hl 80 [1, 8, 7] [19, 61, 6] [28, 34, 39] [14, 18, 41] (cv v) (List.replicate 8 0) (fun (q0 : List Int) (q1 q2 q3 q4 : Int) (q5 q6 q7 q8 q9 q10 q11 : List Int) =>
  P.sha_engine_uint64_block_l10 q4 (0 : Int) q11 q10 q9 q3 q4 q5 q6 q7 q8 q9
   fun (q12 q13 : Int) (q14 q15 q16 : List Int) (q17 q18 : Int) (q19 q20 q21 q22 q23 : List Int) =>
   P.sha_engine_uint64_block_l21 (0 : Int) q16 q15 q23 fun (q24 : Int) (q25 q26 q27 : List Int) => k q27)
 refine this.trans ?_
 rw [← win_zero p64, e64_l10 _ v hv _ _ _ (wordsB_len b 16), e64_l21 v _ hv (runs_len _ _ _ hv _)]
 rfl
end Q
end

section
/- SHA-2: the document's block of words of 64 bits. -/
namespace Q
open Go Go.Abs
set_option linter.unusedVariables false
set_option linter.unusedSimpArgs false
theorem r64_right (x : BitVec 64) (m : Int) (n : Nat) (hm : m = (n : Int)) (hn : n ≤ 64) {ρ : Type} (k : Int → Option ρ) : P.R07_right (x.toNat : Int) m true k = k ((rr x n).toNat : Int) := by
 subst hm
 rw [P.R07_right_eq]
 unfold P.R07_right_raw
 rw [br_tt, br_neg (by omega), i64w (by omega) (by omega), br_neg (by omega), show (64 : Int) - (n : Int) = ((64 - n : Nat) : Int) by omega]
 simp only [toNat_cast]
 rw [shr64 _ _ hn, shl64 _ _ (by omega), or64]
 rfl
theorem r64_hi (x : BitVec 64) (t : Nat × Nat × Nat) (a b c : Int) (ha : a = (t.1 : Int)) (hb : b = (t.2.1 : Int)) (hc : c = (t.2.2 : Int)) (h1 : t.1 ≤ 64) (h2 : t.2.1 ≤ 64) (h3 : t.2.2 ≤ 64) {ρ : Type} (k : Int → Option ρ) :
    P.R07_mix (x.toNat : Int) a b c false true k = k ((hi t x).toNat : Int) := by
 rw [P.R07_mix_eq]
 unfold P.R07_mix_raw
 rw [br_neg (by omega), br_not, br_ff, r64_right _ _ _ hc h3, r64_right _ _ _ ha h1, r64_right _ _ _ hb h2, xor64, xor64]
 rfl
theorem r64_lo (x : BitVec 64) (t : Nat × Nat × Nat) (a b c : Int) (ha : a = (t.1 : Int)) (hb : b = (t.2.1 : Int)) (hc : c = (t.2.2 : Int)) (h1 : t.1 ≤ 64) (h2 : t.2.1 ≤ 64) (h3 : t.2.2 ≤ 64) {ρ : Type} (k : Int → Option ρ) :
    P.R07_mix (x.toNat : Int) a b c true true k = k ((lo t x).toNat : Int) := by
 rw [P.R07_mix_eq]
 unfold P.R07_mix_raw
 rw [br_neg (by omega), br_not, br_tt, r64_right _ _ _ ha h1, r64_right _ _ _ hb h2, xor64, hc]
 simp only [toNat_cast]
 rw [shr64 _ _ h3, xor64]
 rfl
theorem s4_64 (a b c d : BitVec 64) : bits .and .u64 (IntKind.u64.wrap (IntKind.u64.wrap (IntKind.u64.wrap ((a.toNat : Int) + (b.toNat : Int)) + (c.toNat : Int)) + (d.toNat : Int))) 18446744073709551615 = ((a + b + c + d).toNat : Int) := by
 rw [add64, add64, add64, wmask _ (lt64 _)]
theorem s2_64 (a b : BitVec 64) : bits .and .u64 (IntKind.u64.wrap ((a.toNat : Int) + (b.toNat : Int))) 18446744073709551615 = ((a + b).toNat : Int) := by
 rw [add64, wmask _ (lt64 _)]
theorem s6_64 (d a b c e f : BitVec 64) : bits .and .u64 (IntKind.u64.wrap ((d.toNat : Int) + IntKind.u64.wrap (IntKind.u64.wrap (IntKind.u64.wrap (IntKind.u64.wrap ((a.toNat : Int) + (b.toNat : Int)) + (c.toNat : Int)) + (e.toNat : Int)) + (f.toNat : Int)))) 18446744073709551615 = ((d + (a + b + c + e + f)).toNat : Int) := by
 rw [add64, add64, add64, add64, add64, wmask _ (lt64 _)]
theorem s7_64 (a b c e f g h : BitVec 64) : bits .and .u64 (IntKind.u64.wrap (IntKind.u64.wrap (IntKind.u64.wrap (IntKind.u64.wrap (IntKind.u64.wrap ((a.toNat : Int) + (b.toNat : Int)) + (c.toNat : Int)) + (e.toNat : Int)) + (f.toNat : Int)) + IntKind.u64.wrap ((g.toNat : Int) + (h.toNat : Int)))) 18446744073709551615 = (((a + b + c + e + f) + (g + h)).toNat : Int) := by
 rw [add64, add64, add64, add64, add64, add64, wmask _ (lt64 _)]
theorem ch_64 (e f g : BitVec 64) : bits .xor .u64 (bits .and .u64 (e.toNat : Int) (f.toNat : Int)) (bits .and .u64 (bits .xor .u64 18446744073709551615 (e.toNat : Int)) (g.toNat : Int)) = ((g ^^^ (e &&& (f ^^^ g))).toNat : Int) := by
 rw [show (18446744073709551615 : Int) = ((BitVec.allOnes 64).toNat : Int) from rfl, and64, xor64, and64, xor64, ch_eq]
theorem maj_64 (a b c : BitVec 64) : bits .xor .u64 (bits .xor .u64 (bits .and .u64 (a.toNat : Int) (b.toNat : Int)) (bits .and .u64 (a.toNat : Int) (c.toNat : Int))) (bits .and .u64 (b.toNat : Int) (c.toNat : Int)) = (((a &&& b) ||| (c &&& (a ||| b))).toNat : Int) := by
 rw [and64, and64, and64, xor64, xor64, maj_eq]
def pre64 (b : List Int) (t : Nat) : List (BitVec 64) := (List.range t).map (W p64 (wordsB 64 b 16))
theorem pre64_succ (b : List Int) (t : Nat) : pre64 b (t + 1) = pre64 b t ++ [W p64 (wordsB 64 b 16) t] := by simp [pre64, List.range_succ]
theorem pre64_len (b : List Int) (t : Nat) : (pre64 b t).length = t := by simp [pre64]
theorem pre64_at (b : List Int) (t i : Nat) (h : i < t) : (pre64 b t).getD i 0 = W p64 (wordsB 64 b 16) i := by
 unfold pre64
 rw [getD_lt (by simpa using h)]; simp
theorem W64_low (b : List Int) (t : Nat) (h : t < 16) : W p64 (wordsB 64 b 16) t = BitVec.ofNat 64 (T 8 ((b.take ((t + 1) * 8)).drop (t * 8)).reverse) := by
 rw [← W_eq p64 _ (by rw [wordsB_len]; omega) 0 t (by rw [wordsB_len]; omega), show sched p64 (wordsB 64 b 16) 0 = wordsB 64 b 16 from rfl, getD_lt (by rw [wordsB_len]; exact h)]
 simp [wordsB]
theorem r64_words (b : List Int) (hb : In 256 b) (hl : b.length = 16 * 8) {ρ : Type} (k : List Int → Option ρ) : P.R07_words b true 80 18446744073709551615 k = k (cv (pre64 b 80)) := by
 rw [P.R07_words_eq]
 unfold P.R07_words_raw
 rw [br_tt, P.R07_words_l6_eq]
 unfold P.R07_words_L6
 refine lp_go (fun t => (b, true, 80, 18446744073709551615, 8, (t : Int), cv (pre64 b t))) 80 rfl (fun t ht next hn' => ?_) (fun next => ?_) (by omega)
 ·simp only [P.R07_words_r6, toNat_cast]
  have e1 : IntKind.i64.wrap ((t : Int) + 1) = ((t + 1 : Nat) : Int) := by rw [i64w (by omega) (by omega)]; omega
  rw [br_pos (by omega)]
  have hlen := pre64_len b t
  by_cases h16 : t < 16
  ·have e2 : IntKind.i64.wrap ((t : Int) * 8) = ((t * 8 : Nat) : Int) := by rw [i64w (by omega) (by omega)]; omega
   have e3 : IntKind.i64.wrap (IntKind.i64.wrap ((t : Int) * 8) + 8) = (((t + 1) * 8 : Nat) : Int) := by rw [e2, i64w (by omega) (by omega)]; omega
   have hl2 : ((b.take ((t + 1) * 8)).drop (t * 8)).length = 8 := by simp; omega
   rw [br_pos (by omega), e3, e2, br_pos (by omega), br_pos (by omega), br_pos (by omega)]
   simp only [toNat_cast]
   have hT := T_lt 8 ((b.take ((t + 1) * 8)).drop (t * 8)).reverse
   rw [List.length_reverse, hl2] at hT
   have e4 : ((T 8 ((b.take ((t + 1) * 8)).drop (t * 8)).reverse % 2 ^ 64 : Nat) : Int) = ((W p64 (wordsB 64 b 16) t).toNat : Int) := by
    rw [W64_low b t h16, BitVec.toNat_ofNat]
   rw [R01_Num _ ((hb.take _).drop _) (by omega), br_pos (by rw [cv_length]; omega), e4, e1, show [((W p64 (wordsB 64 b 16) t).toNat : Int)] = cv [W p64 (wordsB 64 b 16) t] from rfl, cv_append, ← pre64_succ]
   exact hn'
  ·have e15 : IntKind.i64.wrap ((t : Int) - 15) = ((t - 15 : Nat) : Int) := by rw [i64w (by omega) (by omega)]; omega
   have e2 : IntKind.i64.wrap ((t : Int) - 2) = ((t - 2 : Nat) : Int) := by rw [i64w (by omega) (by omega)]; omega
   have e7 : IntKind.i64.wrap ((t : Int) - 7) = ((t - 7 : Nat) : Int) := by rw [i64w (by omega) (by omega)]; omega
   have e16 : IntKind.i64.wrap ((t : Int) - 16) = ((t - 16 : Nat) : Int) := by rw [i64w (by omega) (by omega)]; omega
   simp only [e15, e2, e7, e16, toNat_cast, cv_getD, cv_length, hlen]
   rw [pre64_at b t _ (by omega), pre64_at b t _ (by omega), pre64_at b t _ (by omega), pre64_at b t _ (by omega)]
   obtain ⟨q1, m1⟩ := mix_any' ((W p64 (wordsB 64 b 16) (t - 15)).toNat : Int) 7 18 3 7 18 3 rfl rfl rfl (by omega) (by omega) (by omega)
   obtain ⟨q2, m2⟩ := mix_any' ((W p64 (wordsB 64 b 16) (t - 2)).toNat : Int) 17 19 10 17 19 10 rfl rfl rfl (by omega) (by omega) (by omega)
   rw [br_neg (by omega), br_pos (by omega), br_pos (by omega), m1, br_pos (by omega), br_pos (by omega), m2, br_tt, br_pos (by omega), br_pos (by omega), r64_lo _ p64.a _ _ _ (by rfl) (by rfl) (by rfl) (by decide) (by decide) (by decide), br_pos (by omega), br_pos (by omega), r64_lo _ p64.b _ _ _ (by rfl) (by rfl) (by rfl) (by decide) (by decide) (by decide)]
   have hW := W_next p64 (wordsB 64 b 16) (wordsB_len b 16) (t - 16)
   rw [show t - 16 + 16 = t by omega, show t - 16 + 1 = t - 15 by omega, show t - 16 + 9 = t - 7 by omega, show t - 16 + 14 = t - 2 by omega] at hW
   have hW2 : lo p64.b (W p64 (wordsB 64 b 16) (t - 2)) + W p64 (wordsB 64 b 16) (t - 7) + lo p64.a (W p64 (wordsB 64 b 16) (t - 15)) + W p64 (wordsB 64 b 16) (t - 16) = W p64 (wordsB 64 b 16) t := by rw [hW]; ac_rfl
   rw [br_pos (by omega), br_pos (by omega), br_pos (by omega), br_pos (by omega), br_pos (by omega), s4_64, hW2, e1, show [((W p64 (wordsB 64 b 16) t).toNat : Int)] = cv [W p64 (wordsB 64 b 16) t] from rfl, cv_append, ← pre64_succ]
   exact hn'
 ·simp only [P.R07_words_r6]
  rw [br_neg (by omega)]
theorem r64_l11 (b : List Int) (v : List (BitVec 64)) (hv : v.length = 8) (h0 h1 : List Int) {ρ : Type} (k0 : Bool → Int → Int → Int → List Int → List Int → List Int → List Int → List Int → List Int → Option ρ) :
    P.R07_block_l11 true 80 18446744073709551615 0 h0 h1 P.roots256 P.roots512 (cv (pre64 b 80)) (cv v) k0 = k0 true 80 18446744073709551615 80 h0 h1 P.roots256 P.roots512 (cv (pre64 b 80)) (cv (runs p64 (wordsB 64 b 16) v 80)) := by
 rw [P.R07_block_l11_eq]
 unfold P.R07_block_L11
 refine lp_go (fun t => (true, 80, 18446744073709551615, (t : Int), h0, h1, P.roots256, P.roots512, cv (pre64 b 80), cv (runs p64 (wordsB 64 b 16) v t))) 80 rfl (fun t ht next hn' => ?_) (fun next => ?_) (by omega)
 ·simp only [P.R07_block_r11]
  have e1 : IntKind.i64.wrap ((t : Int) + 1) = ((t + 1 : Nat) : Int) := by rw [i64w (by omega) (by omega)]; omega
  have hlen := pre64_len b 80
  simp only [e1, toNat_cast, cv_getD, cv_length, hlen]
  rw [pre64_at b 80 t ht, K64]
  obtain ⟨q1, m1⟩ := mix_any (((runs p64 (wordsB 64 b 16) v t).getD 0 0).toNat : Int) 2 13 22 2 13 22 rfl rfl rfl (by omega) (by omega) (by omega)
  obtain ⟨q2, m2⟩ := mix_any (((runs p64 (wordsB 64 b 16) v t).getD 4 0).toNat : Int) 6 11 25 6 11 25 rfl rfl rfl (by omega) (by omega) (by omega)
  rw [br_pos (by omega), m1, m2, br_tt, r64_hi _ p64.c _ _ _ (by rfl) (by rfl) (by rfl) (by decide) (by decide) (by decide), r64_hi _ p64.d _ _ _ (by rfl) (by rfl) (by rfl) (by decide) (by decide) (by decide)]
  rw [br_pos (by omega), br_pos (by omega), br_pos (by omega), br_pos (by omega), ch_64, maj_64, s7_64, s6_64]
  exact hn'
 ·simp only [P.R07_block_r11]
  rw [br_neg (by omega)]
  rfl
theorem r64_l25 (v u : List (BitVec 64)) (hv : v.length = 8) (hu : u.length = 8) (h1 : List Int) {ρ : Type} (k0 : Int → Int → List Int → List Int → List Int → Option ρ) :
    P.R07_block_l25 18446744073709551615 0 (cv v) h1 (cv u) k0 = k0 18446744073709551615 8 (cv v) h1 (cv ((List.range 8).map fun i => u.getD i 0 + v.getD i 0)) := by
 rw [P.R07_block_l25_eq]
 unfold P.R07_block_L25
 refine lp_go (fun i => (18446744073709551615, (i : Int), cv v, h1, cv (((List.range i).map fun i => u.getD i 0 + v.getD i 0) ++ u.drop i))) 8 (by simp) (fun i hi next hn' => ?_) (fun next => ?_) (by omega)
 ·simp only [P.R07_block_r25, toNat_cast, cv_getD]
  have e1 : IntKind.i64.wrap ((i : Int) + 1) = ((i + 1 : Nat) : Int) := by rw [i64w (by omega) (by omega)]; omega
  have e2 : (((List.range i).map fun i => u.getD i 0 + v.getD i 0) ++ u.drop i).getD i 0 = u.getD i 0 := by
   rw [List.getD_eq_getElem?_getD, List.getElem?_append_right (by simp), List.getElem?_drop, List.length_map, List.length_range, List.getD_eq_getElem?_getD]
   congr 2
   omega
  rw [e1, e2, s2_64, cv_set]
  have e3 : (((List.range i).map fun i => u.getD i 0 + v.getD i 0) ++ u.drop i).set i (u.getD i 0 + v.getD i 0) = ((List.range (i + 1)).map fun i => u.getD i 0 + v.getD i 0) ++ u.drop (i + 1) := by
   rw [List.set_append_right _ _ (by simp), List.length_map, List.length_range, Nat.sub_self, List.range_succ, List.map_append, List.append_assoc, List.drop_eq_getElem_cons (by omega), List.set_cons_zero]
   rfl
  rw [e3]
  simp (disch := omega) only [br_pos, br_neg, br_bne_pos, br_bne_neg, br_beq_pos, br_beq_neg, br_not, br_tt, br_ff, i64w]
  exact hn'
 ·simp only [P.R07_block_r25]
  rw [br_neg (by omega), List.drop_eq_nil_of_le (by omega), List.append_nil]
  rfl
theorem r64_block (v : List (BitVec 64)) (hv : v.length = 8) (b : List Int) (hb : In 256 b) (hl : b.length = 16 * 8) {ρ : Type} (k : List Int → Option ρ) : P.R07_block (cv v) b true k = k (cv (blockB p64 v b)) := by
 rw [P.R07_block_eq]
 unfold P.R07_block_raw
 have hr1 : ∀ (k : List Int → Option ρ), P.R07_roots256 k = k P.roots256 := fun k => by rw [P.R07_roots256_eq]; kernel_rfl
 have hr2 : ∀ (k : List Int → Option ρ), P.R07_roots512 k = k P.roots512 := fun k => by rw [P.R07_roots512_eq]; kernel_rfl
 rw [hr1, hr2, br_tt, r64_words b hb hl, r64_l11 b v hv, r64_l25 v _ hv (runs_len _ _ _ hv _)]
 rfl
end Q
end

section
open Go Go.Abs
set_option linter.unusedVariables false
namespace P
end P
end

section
open Go Go.Abs
set_option linter.unusedVariables false
namespace P
end P
end

section
open Go Go.Abs
set_option linter.unusedVariables false
namespace P
end P
end

section
open Go Go.Abs
set_option linter.unusedVariables false
namespace P
end P
end

section
/- bits, the first part: texts. -/
namespace Q
open Go Go.Abs
set_option linter.unusedVariables false
set_option linter.unusedSimpArgs false
theorem same_loop {a b : List Int} (hl : a.length = b.length) (hs : a.length ≤ 140737488355328) {ρ : Type} (k0 : List Int → List Int → Int → Option ρ) (k1 : Bool → Option ρ) :
    ∀ (m i : Nat), i + m = a.length → ∀ {stp : (List Int × List Int × Int) → ((List Int × List Int × Int) → Option ρ) → ((List Int × List Int × Int) ⊕ Bool → Option ρ) → Option ρ} {K : (List Int × List Int × Int) ⊕ Bool → Option ρ},
     (∀ (j : Nat) next, stp (a, b, (j : Int)) next K = br (decide ((j : Int) < (a.length : Int))) (br (a.getD j 0 != b.getD j 0) (k1 false) (next (a, b, ((j + 1 : Nat) : Int)))) (k0 a b (j : Int))) →
     lp stp (a, b, (i : Int)) K = if a.drop i = b.drop i then k0 a b (a.length : Int) else k1 false := by
 intro m i hm stp K hst
 refine lp_eq (P := fun x => ∃ j : Nat, x = (a, b, (j : Int)) ∧ j ≤ a.length ∧ (if a.drop j = b.drop j then k0 a b (a.length : Int) else k1 false) = (if a.drop i = b.drop i then k0 a b (a.length : Int) else k1 false)) (μ := fun x => ((a.length : Int) - x.2.2).toNat) ?_ ⟨i, rfl, by omega, rfl⟩ (by simp only; omega)
 rintro _ ⟨j, rfl, hj, he⟩ next hn
 rw [hst, ← he]
 by_cases hji : j < a.length
 ·rw [br_pos (by omega), drop_step a 0 j hji, drop_step b 0 j (by omega)]
  by_cases hab : a.getD j 0 = b.getD j 0
  ·rw [br_bne_neg hab, hn _ ⟨j + 1, rfl, by omega, ?_⟩ (by simp only; omega), ← he, drop_step a 0 j hji, drop_step b 0 j (by omega)]
   ·rw [← he, drop_step a 0 j hji, drop_step b 0 j (by omega)]
    simp only [hab, List.cons.injEq, true_and]
  ·rw [br_bne_pos hab, if_neg (by simp only [List.cons.injEq]; exact fun h => hab h.1)]
 ·have : j = a.length := by omega
  subst this
  rw [br_neg (by omega), if_pos (by rw [List.drop_eq_nil_of_le (Nat.le_refl _), List.drop_eq_nil_of_le (by omega)])]
theorem R01_Same (a b : List Int) (h : a.length ≤ 140737488355328) {ρ : Type} (k : Bool → Option ρ) : P.R01_Same a b k = k (decide (a = b)) := by
 rw [P.R01_Same_eq]
 unfold P.R01_Same_raw
 by_cases hl : a.length = b.length
 ·rw [br_bne_neg (by omega), P.R01_Same_l4_eq]
  unfold P.R01_Same_L4
  have := same_loop hl h (fun _ _ _ => k true) k a.length 0 (by omega) (stp := (fun x next ex => P.R01_Same_r4 x.1 x.2.1 x.2.2 (fun v0 v1 v5 => next (v0, v1, v5)) (fun v0 v1 v5 => ex (.inl (v0, v1, v5))) (fun v4 => ex (.inr v4)))) (K := Sum.elim (fun _ => k true) k) (by
   intro j next
   simp only [P.R01_Same_r4, Sum.elim_inl, Sum.elim_inr]
   by_cases hj : (j : Int) < (a.length : Int)
   ·simp only [br_pos hj]
    simp (disch := omega) only [br_pos, br_neg, br_bne_pos, br_bne_neg, br_beq_pos, br_beq_neg, br_not, br_tt, br_ff, i64w, toNat_cast]
    rfl
   ·simp only [br_neg hj])
  simp only [List.drop_zero] at this
  refine this.trans ?_
  by_cases hab : a = b
  ·rw [if_pos hab, decide_eq_true hab]
  ·rw [if_neg hab, decide_eq_false hab]
 ·rw [br_bne_pos (by omega), decide_eq_false (fun e => hl (by rw [e]))]
theorem R01_SameNums (a b : List Int) (h : a.length ≤ 140737488355328) {ρ : Type} (k : Bool → Option ρ) : P.R01_SameNums a b k = k (decide (a = b)) := by
 rw [P.R01_SameNums_eq]
 unfold P.R01_SameNums_raw
 by_cases hl : a.length = b.length
 ·rw [br_bne_neg (by omega), P.R01_SameNums_l4_eq]
  unfold P.R01_SameNums_L4
  have := same_loop hl h (fun _ _ _ => k true) k a.length 0 (by omega) (stp := (fun x next ex => P.R01_SameNums_r4 x.1 x.2.1 x.2.2 (fun v0 v1 v5 => next (v0, v1, v5)) (fun v0 v1 v5 => ex (.inl (v0, v1, v5))) (fun v4 => ex (.inr v4)))) (K := Sum.elim (fun _ => k true) k) (by
   intro j next
   simp only [P.R01_SameNums_r4, Sum.elim_inl, Sum.elim_inr]
   by_cases hj : (j : Int) < (a.length : Int)
   ·simp only [br_pos hj]
    simp (disch := omega) only [br_pos, br_neg, br_bne_pos, br_bne_neg, br_beq_pos, br_beq_neg, br_not, br_tt, br_ff, i64w, toNat_cast]
    rfl
   ·simp only [br_neg hj])
  simp only [List.drop_zero] at this
  refine this.trans ?_
  by_cases hab : a = b
  ·rw [if_pos hab, decide_eq_true hab]
  ·rw [if_neg hab, decide_eq_false hab]
 ·rw [br_bne_pos (by omega), decide_eq_false (fun e => hl (by rw [e]))]
end Q
end

section
open Go Go.Abs
set_option linter.unusedVariables false
namespace P
end P
end

section
open Go Go.Abs
set_option linter.unusedVariables false
namespace P
end P
end

section
/- bits: the law's own test. -/
namespace Q
open Go Go.Abs
set_option linter.unusedVariables false
set_option linter.unusedSimpArgs false
end Q
end

section
/- bits: Same, Join. -/
namespace Q
open Go Go.Abs
set_option linter.unusedVariables false
set_option linter.unusedSimpArgs false
def joined (l : List (List Int)) (i : Nat) : List Int := (l.take i).flatten
theorem joined_succ (l : List (List Int)) (i : Nat) (h : i < l.length) : joined l (i + 1) = joined l i ++ l.getD i [] := by
 unfold joined
 rw [← take_step l [] i h, List.flatten_append]; simp
theorem joined_all (l : List (List Int)) : joined l l.length = l.flatten := by unfold joined; rw [List.take_length]
theorem joined_le (l : List (List Int)) (i : Nat) : (joined l i).length ≤ l.flatten.length := by
 unfold joined
 have : l.flatten = (l.take i).flatten ++ (l.drop i).flatten := by rw [← List.flatten_append, List.take_append_drop]
 rw [this, List.length_append]; omega
theorem R01_Join (l : List (List Int)) (h : l.length ≤ 140737488355328) (h2 : l.flatten.length ≤ 140737488355328) {ρ : Type} (k : List Int → Option ρ) : P.R01_Join l k = k l.flatten := by
 rw [P.R01_Join_eq]
 unfold P.R01_Join_raw
 rw [P.R01_Join_l3_eq]
 unfold P.R01_Join_L3
 refine lp_up (fun i => (l, (i : Int), joined l i)) l.length (fun i hi next hn => ?_) (fun next => ?_) (Nat.zero_le _) (by omega)
 ·have e := joined_succ l i hi
  have h3 := joined_le l (i + 1)
  rw [e, List.length_append] at h3
  simp only [P.R01_Join_r3, toNat_cast]
  simp (disch := omega) only [br_pos, br_neg, br_bne_pos, br_bne_neg, br_beq_pos, br_beq_neg, br_not, br_tt, br_ff, i64w]
  rw [← e]
  exact hn
 ·simp only [P.R01_Join_r3]
  rw [br_neg (by omega), joined_all]
theorem slices_Grow_byte (n : Nat) (h : n ≤ 140737488355328) {ρ : Type} (k : List Int → Option ρ) : P.slices_Grow_byte (n : Int) k = k [] := by
 rw [P.slices_Grow_byte_eq]
 unfold P.slices_Grow_byte_raw
 rw [br_neg (by omega), show IntKind.i64.wrap ((0 : Int) - (0 : Int)) = 0 by decide]
 rw [i64w (by omega) (by omega)]
 by_cases h0 : n = 0
 ·subst h0; rw [br_neg (by omega)]
 ·rw [br_pos (by omega), br_pos (by omega), br_pos (by omega)]; rfl
theorem slices_Concat_byte (l : List (List Int)) (h : l.length ≤ 140737488355328) (h2 : l.flatten.length ≤ 140737488355328) {ρ : Type} (k : List Int → Option ρ) : P.slices_Concat_byte l k = k l.flatten := by
 rw [P.slices_Concat_byte_eq]
 unfold P.slices_Concat_byte_raw
 rw [P.slices_Concat_byte_l3_eq]
 unfold P.slices_Concat_byte_L3
 refine lp_up (fun i => (l, ((joined l i).length : Int), l, (l.length : Int), (i : Int))) l.length (fun i hi next hn => ?_) (fun next => ?_) (Nat.zero_le _) (by omega)
 ·have e := joined_succ l i hi
  have h3 := joined_le l (i + 1)
  have e2 : ((joined l i).length : Int) + ((l.getD i []).length : Int) = ((joined l (i + 1)).length : Int) := by rw [e, List.length_append]; omega
  simp only [P.slices_Concat_byte_r3, toNat_cast, e2]
  simp (disch := omega) only [br_pos, br_neg, br_bne_pos, br_bne_neg, br_beq_pos, br_beq_neg, br_not, br_tt, br_ff, i64w]
  exact hn
 ·simp only [P.slices_Concat_byte_r3]
  rw [br_neg (by omega), joined_all, slices_Grow_byte _ h2, P.slices_Concat_byte_l11_eq]
  unfold P.slices_Concat_byte_L11
  refine lp_up (fun i => (l, (l.length : Int), (i : Int), joined l i)) l.length (fun i hi next hn => ?_) (fun next => ?_) (Nat.zero_le _) (by omega)
  ·have e := joined_succ l i hi
   have h3 := joined_le l (i + 1)
   rw [e, List.length_append] at h3
   simp only [P.slices_Concat_byte_r11, toNat_cast]
   simp (disch := omega) only [br_pos, br_neg, br_bne_pos, br_bne_neg, br_beq_pos, br_beq_neg, br_not, br_tt, br_ff, i64w]
   rw [← e]
   exact hn
  ·simp only [P.slices_Concat_byte_r11]
   rw [br_neg (by omega), joined_all]
theorem bits_Join (l : List (List Int)) (h : l.length ≤ 140737488355328) (h2 : l.flatten.length ≤ 140737488355328) {ρ : Type} (k : List Int → Option ρ) : P.bits_Join l k = k l.flatten := by
 rw [P.bits_Join_eq]
 unfold P.bits_Join_raw
 exact slices_Concat_byte l h h2 k
end Q
end

section
open Go Go.Abs
set_option linter.unusedVariables false
namespace P
end P
end

section
open Go Go.Abs
set_option linter.unusedVariables false
namespace P
end P
end

section
open Go Go.Abs
set_option linter.unusedVariables false
namespace P
end P
end

section
open Go Go.Abs
set_option linter.unusedVariables false
namespace P
end P
end

section
open Go Go.Abs
set_option linter.unusedVariables false
namespace P
end P
end

section
open Go Go.Abs
set_option linter.unusedVariables false
namespace P
end P
end

section
open Go Go.Abs
set_option linter.unusedVariables false
namespace P
end P
end

section
open Go Go.Abs
set_option linter.unusedVariables false
namespace P
end P
end

section
/- lmots: digits. -/
namespace Q
open Go Go.Abs
set_option linter.unusedVariables false
set_option linter.unusedSimpArgs false
theorem R01_Be (N s : Nat) (hN : N < 18446744073709551616) (hs : s ≤ 65536) {ρ : Type} (k : List Int → Option ρ) : P.R01_Be (N : Int) (s : Int) k = k (bsw 8 s N).reverse := by
 rw [P.R01_Be_eq]
 unfold P.R01_Be_raw
 simp only [toNat_cast]
 simp (disch := omega) only [br_pos, br_neg, br_bne_pos, br_bne_neg, br_beq_pos, br_beq_neg, br_not, br_tt, br_ff, i64w]
 rw [P.R01_Be_l5_eq]
 unfold P.R01_Be_L5
 refine lp_go (fun j => (((N / 2 ^ (8 * j) : Nat) : Int), (s : Int) - 1 - (j : Int), List.replicate (s - j) 0 ++ (bsw 8 j N).reverse)) s (by simp [bsw]) (fun j hj next hn' => ?_) (fun next => ?_) (by omega)
 ·simp only [P.R01_Be_r5, List.length_append, List.length_replicate, List.length_reverse, bsw_length]
  rw [show (s : Int) - 1 - (j : Int) = ((s - 1 - j : Nat) : Int) by omega]
  simp only [toNat_cast]
  have hd := Nat.div_le_self N (2 ^ (8 * j))
  have hb : bits .and .u64 ((N / 2 ^ (8 * j) : Nat) : Int) 255 = ((N / 2 ^ (8 * j) % 2 ^ 8 : Nat) : Int) := by
   rw [show (255 : Int) = ((2 ^ 8 - 1 : Nat) : Int) from rfl, and_u64 _ _ (by omega) (by omega), Nat.and_two_pow_sub_one_eq_mod]
  have hd2 : (((N / 2 ^ (8 * j) : Nat) : Int)).fdiv ((2 : Int) ^ 8) = ((N / 2 ^ (8 * (j + 1)) : Nat) : Int) := by
   rw [show ((2 : Int) ^ 8) = (2 : Int) ^ min 8 8 from rfl, fdiv_pow _ 8 8 (by omega), Nat.div_div_eq_div_mul, ← Nat.pow_add, Nat.mul_succ]
  rw [hb, hd2, u8n _ (by omega)]
  rw [bsw_succ, List.reverse_append, List.reverse_singleton, List.singleton_append] at hn'
  have hset : (List.replicate (s - j) (0 : Int) ++ (bsw 8 j N).reverse).set (s - 1 - j) ((N / 2 ^ (8 * j) % 2 ^ 8 : Nat) : Int) = List.replicate (s - (j + 1)) 0 ++ ((N / 2 ^ (8 * j) % 2 ^ 8 : Nat) : Int) :: (bsw 8 j N).reverse := by
   rw [show s - j = (s - (j + 1)) + 1 by omega, List.replicate_succ', List.append_assoc, List.set_append_right _ _ (by simp; omega), List.length_replicate, show s - 1 - j - (s - (j + 1)) = 0 by omega]
   rfl
  rw [hset]
  simp (disch := omega) only [br_pos, br_neg, br_bne_pos, br_bne_neg, br_beq_pos, br_beq_neg, br_not, br_tt, br_ff, i64w]
  rw [show ((s - 1 - j : Nat) : Int) - 1 = (s : Int) - 1 - ((j + 1 : Nat) : Int) by omega]
  exact hn'
 ·simp only [P.R01_Be_r5]
  rw [br_neg (by omega), Nat.sub_self]; rfl
def sumTo (D : List Int) : Nat → Nat
 | 0 => 0
 | i + 1 => sumTo D i + (D.getD i 0).toNat
theorem sumTo_le (D : List Int) (w : Nat) (h : In (2 ^ w) D) : ∀ i, sumTo D i ≤ i * (2 ^ w - 1)
 | 0 => by simp [sumTo]
 | i + 1 => by
  have ih := sumTo_le D w h i
  have hp : ((2 : Int) ^ w) = ((2 ^ w : Nat) : Int) := by simp
  have := h.getD i (by rw [hp]; have := p2 w; omega)
  rw [hp] at this
  rw [Nat.succ_mul]; simp only [sumTo]; omega
theorem digits_in (b : List Int) (w c : Int) : In (2 ^ w.toNat) (digitsS b w c) := by
 unfold digitsS
 split
 ·refine In.map (fun i _ => ⟨Int.natCast_nonneg _, ?_⟩)
  have := Nat.mod_lt (T 8 b.reverse / 2 ^ (8 * b.length - w.toNat * (i + 1))) (p2 w.toNat)
  have hp : ((2 : Int) ^ w.toNat) = ((2 ^ w.toNat : Nat) : Int) := by simp
  rw [hp]; unfold dg; omega
 ·exact In.nil
def left (w s : Nat) (b : List Int) : Nat := ((256 / w) * (2 ^ w - 1) - sumTo (digitsS b w ((256 / w : Nat) : Int)) (256 / w)) * 2 ^ s
theorem digits_map (b : List Int) (w c : Nat) (h1 : 1 ≤ w) (h2 : w ≤ 24) (h : c * w ≤ b.length * 8) : digitsS b (w : Int) (c : Int) = (List.range c).map (dg w b.length (T 8 b.reverse)) := by
 unfold digitsS
 rw [if_pos (by refine ⟨by omega, by omega, by omega, ?_⟩; rw [← Int.natCast_mul]; omega)]
 simp only [toNat_cast]
end Q
end

section
/- SHA-2: blocks one behind the other, words of 32 bits. -/
namespace Q
open Go Go.Abs
set_option linter.unusedVariables false
set_option linter.unusedSimpArgs false
def thr {w : Nat} (p : Par w) (v : List (BitVec w)) (b : List Int) : Nat → List (BitVec w)
 | 0 => v
 | i + 1 => blockB p (thr p v b i) ((b.drop ((2 * w) * i)).take (2 * w))
theorem thr_len {w : Nat} (p : Par w) (v : List (BitVec w)) (hv : v.length = 8) (b : List Int) : ∀ i, (thr p v b i).length = 8
 | 0 => hv
 | i + 1 => blockB_len _ _ _
def toV (w : Nat) (l : List Int) : List (BitVec w) := (List.range 8).map fun i => BitVec.ofInt w (l.getD i 0)
theorem toV_len (w : Nat) (l : List Int) : (toV w l).length = 8 := by simp [toV]
theorem cv_toV (w : Nat) (l : List Int) (hl : l.length = 8) (hi : In (2 ^ w) l) : cv (toV w l) = l := by
 unfold cv toV
 rw [List.map_map]
 refine List.ext_getElem (by simp [hl]) (fun i h1 h2 => ?_)
 have hp : ((2 : Int) ^ w) = ((2 ^ w : Nat) : Int) := by simp
 have := hi.getD i (by rw [hp]; have := p2 w; omega)
 rw [getD_lt h2] at this
 simp only [List.getElem_map, List.getElem_range, Function.comp, getD_lt h2, BitVec.toNat_ofInt]
 rw [hp] at this
 rw [Int.emod_eq_of_lt this.1 this.2]
 omega
theorem cv_in {w : Nat} (l : List (BitVec w)) : In (2 ^ w) (cv l) := by
 intro x hx
 obtain ⟨y, _, rfl⟩ := List.mem_map.1 hx
 have := y.isLt
 have hp : ((2 : Int) ^ w) = ((2 ^ w : Nat) : Int) := by simp
 rw [hp]
 omega
theorem toV_cv {w : Nat} (l : List (BitVec w)) (hl : l.length = 8) : toV w (cv l) = l := by
 unfold toV
 refine List.ext_getElem (by simp [hl]) (fun i h1 h2 => ?_)
 simp only [List.getElem_map, List.getElem_range, cv_getD, ofI, getD_lt h2]
theorem ofInt_toNat32 (x : Int) : IntKind.u32.wrap x = ((BitVec.ofInt 32 x).toNat : Int) := by
 rw [u32m, BitVec.toNat_ofInt]; omega
def rest (n : Nat) (b : List Int) : List Int := b.drop (n * (b.length / n))
theorem t32_l3 (words b : List Int) (rd : Int) (t0 t1 t2 t3 h1 h2 : List Int) (hi : In 18446744073709551616 words) {ρ : Type} (k0 : List Int → List Int → Int → Int → Int → List Int → List Int → List Int → List Int → List Int → List Int → List Int → Option ρ) :
    P.sha_through_uint32_l3 b words 0 32 rd t0 t1 t2 t3 h1 h2 (List.replicate 8 0) k0 = k0 b words 8 32 rd t0 t1 t2 t3 h1 h2 (cv (toV 32 words)) := by
 rw [P.sha_through_uint32_l3_eq]
 unfold P.sha_through_uint32_L3
 refine lp_go (fun i => (b, words, (i : Int), 32, rd, t0, t1, t2, t3, h1, h2, cv ((List.range i).map fun i => BitVec.ofInt 32 (words.getD i 0)) ++ List.replicate (8 - i) 0)) 8 (by simp [cv]) (fun i hi' next hn' => ?_) (fun next => ?_) (by omega)
 ·simp only [P.sha_through_uint32_r3, toNat_cast]
  have e4 : IntKind.i64.wrap ((i : Int) + 1) = ((i + 1 : Nat) : Int) := by rw [i64w (by omega) (by omega)]; omega
  have e5 : (cv ((List.range i).map fun i => BitVec.ofInt 32 (words.getD i 0)) ++ List.replicate (8 - i) (0 : Int)).set i ((BitVec.ofInt 32 (words.getD i 0)).toNat : Int) = cv ((List.range (i + 1)).map fun i => BitVec.ofInt 32 (words.getD i 0)) ++ List.replicate (8 - (i + 1)) 0 := by
   rw [List.set_append_right _ _ (by simp), cv_length, List.length_map, List.length_range, Nat.sub_self, show 8 - i = (8 - (i + 1)) + 1 by omega, List.replicate_succ, List.set_cons_zero, List.range_succ, List.map_append, ← cv_append, List.append_assoc]
   rfl
  rw [br_pos (by omega), br_pos (by omega), br_pos (by omega), br_pos (by omega), br_pos (by omega), ofInt_toNat32, e5, e4]
  exact hn'
 ·simp only [P.sha_through_uint32_r3]
  rw [br_neg (by omega)]
  simp [toV]
theorem t32_l8 (v : List (BitVec 32)) (hv : v.length = 8) (b : List Int) (hb : In 256 b) (hn : b.length ≤ 1000000) (h1 h2 : List Int) {ρ : Type} (k0 : List Int → Int → List Int → List Int → List Int → Int → Int → List Int → List Int → List Int → List Int → Option ρ) :
    P.sha_through_uint32_l8 b 64 (cv v) h2 h1 32 64 [7, 18, 3] [17, 19, 10] [2, 13, 22] [6, 11, 25] k0 =
     k0 (rest 64 b) 64 (cv (thr p32 v b (b.length / 64))) h2 h1 32 64 [7, 18, 3] [17, 19, 10] [2, 13, 22] [6, 11, 25] := by
 rw [P.sha_through_uint32_l8_eq]
 unfold P.sha_through_uint32_L8
 refine lp_go (fun i => (b.drop (64 * i), 64, cv (thr p32 v b i), h2, h1, 32, 64, [7, 18, 3], [17, 19, 10], [2, 13, 22], [6, 11, 25])) (b.length / 64) (by simp [thr]) (fun i hi next hn' => ?_) (fun next => ?_) (by omega)
 ·simp only [P.sha_through_uint32_r8]
  have hlen : (b.drop (64 * i)).length = b.length - 64 * i := by simp
  have hge : 64 ≤ b.length - 64 * i := by omega
  simp only [hlen, show (64 : Int).toNat = 64 from rfl, toNat_cast, List.drop_zero]
  have hbl : ((b.drop (64 * i)).take 64).length = 16 * 4 := by rw [List.length_take, hlen]; omega
  rw [br_pos (by omega), br_pos (by omega), br_pos (by omega), e32_block _ (thr_len _ _ hv _ _) _ ((hb.drop _).take _) hbl, br_pos (by omega), br_pos (by omega), br_pos (by omega),
   List.take_of_length_le (by rw [hlen]; omega), List.drop_drop, show 64 * i + 64 = 64 * (i + 1) by omega]
  exact hn'
 ·simp only [P.sha_through_uint32_r8]
  have hlen : (b.drop (64 * (b.length / 64))).length = b.length - 64 * (b.length / 64) := by simp
  rw [br_neg (by rw [hlen]; omega)]
  rfl
theorem t32_l12 (v : List (BitVec 32)) (hv : v.length = 8) (b : List Int) (words h2 : List Int) (hl : words.length = 8) {ρ : Type} (k0 : List Int → List Int → Int → List Int → List Int → Option ρ) :
    P.sha_through_uint32_l12 b (cv v) 0 words h2 k0 = k0 b (cv v) 8 (cv v) h2 := by
 rw [P.sha_through_uint32_l12_eq]
 unfold P.sha_through_uint32_L12
 refine lp_go (fun i => (b, cv v, (i : Int), (cv v).take i ++ words.drop i, h2)) 8 (by simp) (fun i hi next hn' => ?_) (fun next => ?_) (by omega)
 ·simp only [P.sha_through_uint32_r12, toNat_cast]
  have e4 : IntKind.i64.wrap ((i : Int) + 1) = ((i + 1 : Nat) : Int) := by rw [i64w (by omega) (by omega)]; omega
  have e5 : ((cv v).take i ++ words.drop i).set i ((cv v).getD i 0) = (cv v).take (i + 1) ++ words.drop (i + 1) := by
   rw [List.set_append_right _ _ (by rw [List.length_take]; omega), List.length_take, cv_length, hv, Nat.min_eq_left (by omega), Nat.sub_self, List.drop_eq_getElem_cons (by omega), List.set_cons_zero, ← take_step (cv v) 0 i (by rw [cv_length]; omega), List.append_assoc]
   rfl
  have e6 : IntKind.u64.wrap ((cv v).getD i 0) = (cv v).getD i 0 := by
   rw [cv_getD]; exact u64n _ (nlt _)
  rw [br_pos (by omega), br_pos (by omega), br_pos (by omega), br_pos (by omega), br_pos (by omega), e6, e5, e4]
  exact hn'
 ·simp only [P.sha_through_uint32_r12]
  rw [br_neg (by omega), List.drop_eq_nil_of_le (by omega), List.append_nil, List.take_of_length_le (by rw [cv_length]; omega)]
  rfl
theorem t32_through (words b : List Int) (hl : words.length = 8) (hi : In 18446744073709551616 words) (hb : In 256 b) (hn : b.length ≤ 1000000) {ρ : Type} (k : List Int → List Int → Option ρ) :
    P.sha_through_uint32 32 64 [7, 18, 3] [17, 19, 10] [2, 13, 22] [6, 11, 25] words b k = k (cv (thr p32 (toV 32 words) b (b.length / 64))) (rest 64 b) := by
 rw [P.sha_through_uint32_eq]
 unfold P.sha_through_uint32_raw
 refine (t32_l3 words b 64 [7, 18, 3] [17, 19, 10] [2, 13, 22] [6, 11, 25] words (List.replicate 8 0) hi _).trans ?_
 rw [show IntKind.i64.wrap ((32 : Int) * 2) = 64 from rfl, t32_l8 _ (toV_len _ _) b hb hn, t32_l12 _ (thr_len _ _ (toV_len _ _) _ _) _ _ _ hl]
theorem r32_l4 (v : List (BitVec 32)) (hv : v.length = 8) (b : List Int) (hb : In 256 b) (hn : b.length ≤ 1000000) (kd : Int) (tl : List Int) (sz : Int) (a1 : Int) (a2 : List Int) (a3 : Int) {ρ : Type} (k0 : Int → List Int → Int → List Int → List Int → Int → Int → List Int → Int → Option ρ) :
    P.R07_Add_l4 64 b kd (cv v) tl sz a1 a2 a3 k0 = k0 64 (rest 64 b) kd (cv (thr p32 v b (b.length / 64))) tl sz a1 a2 a3 := by
 rw [P.R07_Add_l4_eq]
 unfold P.R07_Add_L4
 refine lp_go (fun i => (64, b.drop (64 * i), kd, cv (thr p32 v b i), tl, sz, a1, a2, a3)) (b.length / 64) (by simp [thr]) (fun i hi next hn' => ?_) (fun next => ?_) (by omega)
 ·simp only [P.R07_Add_r4]
  have hlen : (b.drop (64 * i)).length = b.length - 64 * i := by simp
  have hge : 64 ≤ b.length - 64 * i := by omega
  simp only [hlen, show (64 : Int).toNat = 64 from rfl, toNat_cast, List.drop_zero]
  have hbl : ((b.drop (64 * i)).take 64).length = 16 * 4 := by rw [List.length_take, hlen]; omega
  rw [br_pos (by omega), br_pos (by omega), br_pos (by omega), show ((64 : Int) == 128) = false from rfl, r32_block _ (thr_len _ _ hv _ _) _ ((hb.drop _).take _) hbl, br_pos (by omega), br_pos (by omega), br_pos (by omega),
   List.take_of_length_le (by rw [hlen]; omega), List.drop_drop, show 64 * i + 64 = 64 * (i + 1) by omega]
  exact hn'
 ·simp only [P.R07_Add_r4]
  have hlen : (b.drop (64 * (b.length / 64))).length = b.length - 64 * (b.length / 64) := by simp
  rw [br_neg (by rw [hlen]; omega)]
  rfl
end Q
end

section
/- SHA-2: blocks one behind the other, words of 64 bits. -/
namespace Q
open Go Go.Abs
set_option linter.unusedVariables false
set_option linter.unusedSimpArgs false
theorem t64_l3 (words b : List Int) (rd : Int) (t0 t1 t2 t3 h1 h2 : List Int) (hi : In 18446744073709551616 words) {ρ : Type} (k0 : List Int → List Int → Int → Int → Int → List Int → List Int → List Int → List Int → List Int → List Int → List Int → Option ρ) :
    P.sha_through_uint64_l3 b words 0 64 rd t0 t1 t2 t3 h1 h2 (List.replicate 8 0) k0 = k0 b words 8 64 rd t0 t1 t2 t3 h1 h2 (cv (toV 64 words)) := by
 rw [P.sha_through_uint64_l3_eq]
 unfold P.sha_through_uint64_L3
 refine lp_go (fun i => (b, words, (i : Int), 64, rd, t0, t1, t2, t3, h1, h2, cv ((List.range i).map fun i => BitVec.ofInt 64 (words.getD i 0)) ++ List.replicate (8 - i) 0)) 8 (by simp [cv]) (fun i hi' next hn' => ?_) (fun next => ?_) (by omega)
 ·simp only [P.sha_through_uint64_r3, toNat_cast]
  have e4 : IntKind.i64.wrap ((i : Int) + 1) = ((i + 1 : Nat) : Int) := by rw [i64w (by omega) (by omega)]; omega
  have e6 : words.getD i 0 = ((BitVec.ofInt 64 (words.getD i 0)).toNat : Int) := by
   have := hi.getD i (by omega)
   rw [BitVec.toNat_ofInt]
   omega
  have e5 : (cv ((List.range i).map fun i => BitVec.ofInt 64 (words.getD i 0)) ++ List.replicate (8 - i) (0 : Int)).set i ((BitVec.ofInt 64 (words.getD i 0)).toNat : Int) = cv ((List.range (i + 1)).map fun i => BitVec.ofInt 64 (words.getD i 0)) ++ List.replicate (8 - (i + 1)) 0 := by
   rw [List.set_append_right _ _ (by simp), cv_length, List.length_map, List.length_range, Nat.sub_self, show 8 - i = (8 - (i + 1)) + 1 by omega, List.replicate_succ, List.set_cons_zero, List.range_succ, List.map_append, ← cv_append, List.append_assoc]
   rfl
  rw [br_pos (by omega), br_pos (by omega), br_pos (by omega), br_pos (by omega), br_pos (by omega), e6, e5, e4]
  exact hn'
 ·simp only [P.sha_through_uint64_r3]
  rw [br_neg (by omega)]
  simp [toV]
theorem t64_l8 (v : List (BitVec 64)) (hv : v.length = 8) (b : List Int) (hb : In 256 b) (hn : b.length ≤ 1000000) (h1 h2 : List Int) {ρ : Type} (k0 : List Int → Int → List Int → List Int → List Int → Int → Int → List Int → List Int → List Int → List Int → Option ρ) :
    P.sha_through_uint64_l8 b 128 (cv v) h2 h1 64 80 [1, 8, 7] [19, 61, 6] [28, 34, 39] [14, 18, 41] k0 =
     k0 (rest 128 b) 128 (cv (thr p64 v b (b.length / 128))) h2 h1 64 80 [1, 8, 7] [19, 61, 6] [28, 34, 39] [14, 18, 41] := by
 rw [P.sha_through_uint64_l8_eq]
 unfold P.sha_through_uint64_L8
 refine lp_go (fun i => (b.drop (128 * i), 128, cv (thr p64 v b i), h2, h1, 64, 80, [1, 8, 7], [19, 61, 6], [28, 34, 39], [14, 18, 41])) (b.length / 128) (by simp [thr]) (fun i hi next hn' => ?_) (fun next => ?_) (by omega)
 ·simp only [P.sha_through_uint64_r8]
  have hlen : (b.drop (128 * i)).length = b.length - 128 * i := by simp
  have hge : 128 ≤ b.length - 128 * i := by omega
  simp only [hlen, show (128 : Int).toNat = 128 from rfl, toNat_cast, List.drop_zero]
  have hbl : ((b.drop (128 * i)).take 128).length = 16 * 8 := by rw [List.length_take, hlen]; omega
  rw [br_pos (by omega), br_pos (by omega), br_pos (by omega), e64_block _ (thr_len _ _ hv _ _) _ ((hb.drop _).take _) hbl, br_pos (by omega), br_pos (by omega), br_pos (by omega),
   List.take_of_length_le (by rw [hlen]; omega), List.drop_drop, show 128 * i + 128 = 128 * (i + 1) by omega]
  exact hn'
 ·simp only [P.sha_through_uint64_r8]
  have hlen : (b.drop (128 * (b.length / 128))).length = b.length - 128 * (b.length / 128) := by simp
  rw [br_neg (by rw [hlen]; omega)]
  rfl
theorem t64_l12 (v : List (BitVec 64)) (hv : v.length = 8) (b : List Int) (words h2 : List Int) (hl : words.length = 8) {ρ : Type} (k0 : List Int → List Int → Int → List Int → List Int → Option ρ) :
    P.sha_through_uint64_l12 b (cv v) 0 words h2 k0 = k0 b (cv v) 8 (cv v) h2 := by
 rw [P.sha_through_uint64_l12_eq]
 unfold P.sha_through_uint64_L12
 refine lp_go (fun i => (b, cv v, (i : Int), (cv v).take i ++ words.drop i, h2)) 8 (by simp) (fun i hi next hn' => ?_) (fun next => ?_) (by omega)
 ·simp only [P.sha_through_uint64_r12, toNat_cast]
  have e4 : IntKind.i64.wrap ((i : Int) + 1) = ((i + 1 : Nat) : Int) := by rw [i64w (by omega) (by omega)]; omega
  have e5 : ((cv v).take i ++ words.drop i).set i ((cv v).getD i 0) = (cv v).take (i + 1) ++ words.drop (i + 1) := by
   rw [List.set_append_right _ _ (by rw [List.length_take]; omega), List.length_take, cv_length, hv, Nat.min_eq_left (by omega), Nat.sub_self, List.drop_eq_getElem_cons (by omega), List.set_cons_zero, ← take_step (cv v) 0 i (by rw [cv_length]; omega), List.append_assoc]
   rfl
  rw [br_pos (by omega), br_pos (by omega), br_pos (by omega), br_pos (by omega), br_pos (by omega), e5, e4]
  exact hn'
 ·simp only [P.sha_through_uint64_r12]
  rw [br_neg (by omega), List.drop_eq_nil_of_le (by omega), List.append_nil, List.take_of_length_le (by rw [cv_length]; omega)]
  rfl
theorem t64_through (words b : List Int) (hl : words.length = 8) (hi : In 18446744073709551616 words) (hb : In 256 b) (hn : b.length ≤ 1000000) {ρ : Type} (k : List Int → List Int → Option ρ) :
    P.sha_through_uint64 64 80 [1, 8, 7] [19, 61, 6] [28, 34, 39] [14, 18, 41] words b k = k (cv (thr p64 (toV 64 words) b (b.length / 128))) (rest 128 b) := by
 rw [P.sha_through_uint64_eq]
 unfold P.sha_through_uint64_raw
 refine (t64_l3 words b 80 [1, 8, 7] [19, 61, 6] [28, 34, 39] [14, 18, 41] words (List.replicate 8 0) hi _).trans ?_
 rw [show IntKind.i64.wrap ((64 : Int) * 2) = 128 from rfl, t64_l8 _ (toV_len _ _) b hb hn, t64_l12 _ (thr_len _ _ (toV_len _ _) _ _) _ _ _ hl]
theorem r64_l4 (v : List (BitVec 64)) (hv : v.length = 8) (b : List Int) (hb : In 256 b) (hn : b.length ≤ 1000000) (kd : Int) (tl : List Int) (sz : Int) (a1 : Int) (a2 : List Int) (a3 : Int) {ρ : Type} (k0 : Int → List Int → Int → List Int → List Int → Int → Int → List Int → Int → Option ρ) :
    P.R07_Add_l4 128 b kd (cv v) tl sz a1 a2 a3 k0 = k0 128 (rest 128 b) kd (cv (thr p64 v b (b.length / 128))) tl sz a1 a2 a3 := by
 rw [P.R07_Add_l4_eq]
 unfold P.R07_Add_L4
 refine lp_go (fun i => (128, b.drop (128 * i), kd, cv (thr p64 v b i), tl, sz, a1, a2, a3)) (b.length / 128) (by simp [thr]) (fun i hi next hn' => ?_) (fun next => ?_) (by omega)
 ·simp only [P.R07_Add_r4]
  have hlen : (b.drop (128 * i)).length = b.length - 128 * i := by simp
  have hge : 128 ≤ b.length - 128 * i := by omega
  simp only [hlen, show (128 : Int).toNat = 128 from rfl, toNat_cast, List.drop_zero]
  have hbl : ((b.drop (128 * i)).take 128).length = 16 * 8 := by rw [List.length_take, hlen]; omega
  rw [br_pos (by omega), br_pos (by omega), br_pos (by omega), show ((128 : Int) == 128) = true from rfl, r64_block _ (thr_len _ _ hv _ _) _ ((hb.drop _).take _) hbl, br_pos (by omega), br_pos (by omega), br_pos (by omega),
   List.take_of_length_le (by rw [hlen]; omega), List.drop_drop, show 128 * i + 128 = 128 * (i + 1) by omega]
  exact hn'
 ·simp only [P.R07_Add_r4]
  have hlen : (b.drop (128 * (b.length / 128))).length = b.length - 128 * (b.length / 128) := by simp
  rw [br_neg (by rw [hlen]; omega)]
  rfl
end Q
end

section
open Go Go.Abs
set_option linter.unusedVariables false
namespace P
end P
end

section
/- Are two rows of bytes the same. -/
namespace Q
open Go Go.Abs
set_option linter.unusedVariables false
set_option linter.unusedSimpArgs false
end Q
end

section
open Go Go.Abs
set_option linter.unusedVariables false
namespace P
end P
end

section
open Go Go.Abs
set_option linter.unusedVariables false
namespace P
end P
end

section
open Go Go.Abs
set_option linter.unusedVariables false
namespace P
end P
end

section
open Go Go.Abs
set_option linter.unusedVariables false
namespace P
end P
end

section
open Go Go.Abs
set_option linter.unusedVariables false
namespace P
end P
end

section
/- SHA-2: sums that go on, and their ends. -/
namespace Q
open Go Go.Abs
set_option linter.unusedVariables false
set_option linter.unusedSimpArgs false
def bsz (kind : Int) : Nat := if kind = 1 then 64 else 128
theorem bsz_or (kind : Int) : (kind = 1 ∧ bsz kind = 64) ∨ (kind ≠ 1 ∧ bsz kind = 128) := by
 unfold bsz
 by_cases h : kind = 1
 ·exact .inl ⟨h, if_pos h⟩
 ·exact .inr ⟨h, if_neg h⟩
theorem sha_blockSize (kind : Int) {ρ : Type} (k : Int → Option ρ) : P.sha_blockSize kind k = k ((bsz kind : Nat) : Int) := by
 rw [P.sha_blockSize_eq]; unfold P.sha_blockSize_raw
 rcases bsz_or kind with ⟨h, e⟩ | ⟨h, e⟩
 ·rw [br_beq_pos h, e]; rfl
 ·rw [br_beq_neg h, e]; rfl
theorem R07_Block (kind : Int) {ρ : Type} (k : Int → Option ρ) : P.R07_Block kind k = k ((bsz kind : Nat) : Int) := by
 rw [P.R07_Block_eq]; unfold P.R07_Block_raw
 rcases bsz_or kind with ⟨h, e⟩ | ⟨h, e⟩
 ·rw [br_beq_pos h, e]; rfl
 ·rw [br_beq_neg h, e]; rfl
def addW (kind : Int) (words all : List Int) : List Int :=
 if kind = 1 then cv (thr p32 (toV 32 words) all (all.length / 64)) else cv (thr p64 (toV 64 words) all (all.length / 128))
theorem addW_len (kind : Int) (words all : List Int) : (addW kind words all).length = 8 := by
 unfold addW
 split <;> rw [cv_length, thr_len _ _ (toV_len _ _)]
def Wok (kind : Int) (words : List Int) : Prop := words.length = 8 ∧ In 18446744073709551616 words ∧ (kind = 1 → In 4294967296 words)
theorem addW_ok (kind : Int) (words all : List Int) : Wok kind (addW kind words all) := by
 refine ⟨addW_len _ _ _, ?_, fun h => ?_⟩
 ·unfold addW
  split
  ·intro x hx
   have := cv_in _ x hx
   omega
  ·intro x hx
   have := cv_in _ x hx
   omega
 ·unfold addW
  rw [if_pos h]
  intro x hx
  have := cv_in _ x hx
  omega
theorem rest_len (n : Nat) (hn : 0 < n) (b : List Int) : (rest n b).length = b.length % n := by
 unfold rest
 rw [List.length_drop]
 have := Nat.div_add_mod b.length n
 omega
theorem rest_in {n : Nat} {b : List Int} (h : In 256 b) : In 256 (rest n b) := h.drop _
theorem sha_small {ρ : Type} (k : Int → Int → List Int → List Int → List Int → List Int → Option ρ) : P.sha_small k = k 32 64 [7, 18, 3] [17, 19, 10] [2, 13, 22] [6, 11, 25] := by rw [P.sha_small_eq]; rfl
theorem sha_great {ρ : Type} (k : Int → Int → List Int → List Int → List Int → List Int → Option ρ) : P.sha_great k = k 64 80 [1, 8, 7] [19, 61, 6] [28, 34, 39] [14, 18, 41] := by rw [P.sha_great_eq]; rfl
theorem sha_Add (kind : Int) (words tail : List Int) (size : Int) (b : List Int) (hl : words.length = 8) (hi : In 18446744073709551616 words) (ht : In 256 tail) (hb : In 256 b) (hn : tail.length + b.length ≤ 1000000) {ρ : Type} (k : Int → List Int → List Int → Int → Option ρ) :
    P.sha_Add kind words tail size b k = k kind (addW kind words (tail ++ b)) (rest (bsz kind) (tail ++ b)) (IntKind.u64.wrap (size + IntKind.u64.wrap (b.length : Int))) := by
 rw [P.sha_Add_eq]; unfold P.sha_Add_raw
 have hf : [tail, b].flatten = tail ++ b := by simp
 have hall : (tail ++ b).length ≤ 1000000 := by rw [List.length_append]; exact hn
 have hin : In 256 (tail ++ b) := ht.app hb
 have hr : ∀ n, (rest n (tail ++ b)).length ≤ 1000000 := fun n => by unfold rest; rw [List.length_drop]; omega
 rw [slices_Concat_byte _ (by simp) (by rw [hf]; omega), hf]
 rcases bsz_or kind with ⟨h, e⟩ | ⟨h, e⟩
 ·rw [br_beq_pos h, sha_small, e]
  rw [t32_through words _ hl hi hin hall]
  unfold P.slices_Clone_byte addW
  have := hr 64
  rw [br_pos (by omega), if_pos h]
 ·rw [br_beq_neg h, sha_great, e]
  rw [t64_through words _ hl hi hin hall]
  unfold P.slices_Clone_byte addW
  have := hr 128
  rw [br_pos (by omega), if_neg h]
theorem R07_Add (kind : Int) (words tail : List Int) (size : Int) (b : List Int) (hw : Wok kind words) (ht : In 256 tail) (hb : In 256 b) (hn : tail.length + b.length ≤ 1000000) {ρ : Type} (k : Int → List Int → List Int → Int → Option ρ) :
    P.R07_Add kind words tail size b k = k kind (addW kind words (tail ++ b)) (rest (bsz kind) (tail ++ b)) (IntKind.u64.wrap (size + IntKind.u64.wrap (b.length : Int))) := by
 rw [P.R07_Add_eq]; unfold P.R07_Add_raw
 obtain ⟨hl, hi, h1⟩ := hw
 have hf : [tail, b].flatten = tail ++ b := by simp
 have hall : (tail ++ b).length ≤ 1000000 := by rw [List.length_append]; exact hn
 have hin : In 256 (tail ++ b) := ht.app hb
 rw [R07_Block, R01_Join _ (by simp) (by rw [hf]; omega), hf]
 rcases bsz_or kind with ⟨h, e⟩ | ⟨h, e⟩
 ·have hv := cv_toV 32 words hl (h1 h)
  rw [e]
  conv => lhs; rw [← hv]
  rw [show ((64 : Nat) : Int) = 64 from rfl, r32_l4 _ (toV_len _ _) _ hin hall]
  unfold addW
  rw [if_pos h]
 ·have hv := cv_toV 64 words hl hi
  rw [e]
  conv => lhs; rw [← hv]
  rw [show ((128 : Nat) : Int) = 128 from rfl, r64_l4 _ (toV_len _ _) _ hin hall]
  unfold addW
  rw [if_neg h]
def padZ (kind : Int) (tl : Nat) : Nat := if kind = 1 then (119 - tl) % 64 else (239 - tl) % 128 + 8
def pad (kind : Int) (tl : Nat) (size : Nat) : List Int := 128 :: List.replicate (padZ kind tl) 0 ++ (bsw 8 8 (size * 8 % 2 ^ 64)).reverse
def outI (n : Nat) (words : List Int) (i : Nat) : List Int := ((List.range i).map fun j => (bsw 8 n (words.getD j 0).toNat).reverse).flatten
theorem outI_succ (n : Nat) (words : List Int) (i : Nat) : outI n words (i + 1) = outI n words i ++ (bsw 8 n (words.getD i 0).toNat).reverse := by simp [outI, List.range_succ]
theorem outI_len (n : Nat) (words : List Int) : ∀ i, (outI n words i).length = n * i
 | 0 => by simp [outI]
 | i + 1 => by rw [outI_succ, List.length_append, outI_len n words i, List.length_reverse, bsw_length, Nat.mul_succ]
def endS (kind : Int) (words tail : List Int) (size : Nat) : List Int :=
 let o := outI (bsz kind / 16) (addW kind words (tail ++ pad kind tail.length size)) 8
 if kind = 2 then o.take 48 else o
theorem endS_len (kind : Int) (words tail : List Int) (size : Nat) : (endS kind words tail size).length = if kind = 1 then 32 else if kind = 2 then 48 else 64 := by
 unfold endS
 simp only
 rcases bsz_or kind with ⟨h, e⟩ | ⟨h, e⟩
 ·rw [if_neg (by omega), if_pos h, outI_len, e]
 ·rw [if_neg h, e]
  split
  ·rw [List.length_take, outI_len]; decide
  ·rw [outI_len]
theorem tmN (a b : Nat) : ((a : Nat) : Int).tmod (b : Int) = ((a % b : Nat) : Int) := by
 rw [Int.tmod_eq_emod_of_nonneg (by omega)]; rfl
theorem pad_in (kind : Int) (tl size : Nat) : In 256 (pad kind tl size) := by
 unfold pad
 refine In.app ?_ (bsw_in 8 8 _).rev
 intro x hx
 rcases List.mem_cons.1 hx with rfl | hx
 ·omega
 ·rw [List.mem_replicate] at hx; omega
theorem pad_len (kind : Int) (tl size : Nat) : (pad kind tl size).length = padZ kind tl + 9 := by
 unfold pad; simp
theorem padZ_le (kind : Int) (tl : Nat) : padZ kind tl ≤ 200 := by
 unfold padZ; split <;> omega
theorem sha_outs (n : Nat) (hn : n = 64 ∨ n = 128) (words : List Int) (hw : In 18446744073709551616 words) (a : Int) (b : List Int) (c : Int) (d : List Int) {ρ : Type} (k0 : Int → List Int → Int → List Int → Int → List Int → Int → List Int → Option ρ) :
    P.sha_End_l10 (n : Int) words 0 [] a b c d k0 = k0 (n : Int) words 8 (outI (n / 16) words 8) a b c d := by
 rw [P.sha_End_l10_eq]
 unfold P.sha_End_L10
 have e16 : IntKind.i64.wrap ((n : Int).tdiv 16) = ((n / 16 : Nat) : Int) := by rcases hn with rfl | rfl <;> rfl
 refine lp_go (fun i => ((n : Int), words, (i : Int), outI (n / 16) words i, a, b, c, d)) 8 rfl (fun i hi next hn' => ?_) (fun next => ?_) (by omega)
 ·simp only [P.sha_End_r10, toNat_cast]
  have h1 := hw.getD i (by omega)
  have e4 : IntKind.i64.wrap ((i : Int) + 1) = ((i + 1 : Nat) : Int) := by rw [i64w (by omega) (by omega)]; omega
  have e5 : words.getD i 0 = (((words.getD i 0).toNat : Nat) : Int) := by omega
  rw [outI_succ] at hn'
  rw [br_pos (by omega), br_pos (by omega), br_pos (by omega), e16, e5, bits_Be _ _ (by omega) (by omega), e4]
  rw [br_pos (by rw [outI_len, List.length_reverse, bsw_length]; rcases hn with rfl | rfl <;> omega)]
  exact hn'
 ·simp only [P.sha_End_r10]
  rw [br_neg (by omega)]
  rfl
theorem shl3 (size : Nat) : IntKind.u64.wrap ((size : Int) * (2 : Int) ^ 3) = ((size * 8 % 2 ^ 64 : Nat) : Int) := by
 rw [u64m]; omega
theorem sha_End (kind : Int) (words tail : List Int) (size : Nat) (hl : words.length = 8) (hi : In 18446744073709551616 words) (ht : In 256 tail) (hn : tail.length < bsz kind) {ρ : Type} (k : List Int → Option ρ) :
    P.sha_End kind words tail (size : Int) k = k (endS kind words tail size) := by
 rw [P.sha_End_eq]; unfold P.sha_End_raw
 rw [sha_blockSize]
 have hz : IntKind.i64.wrap (IntKind.i64.wrap ((IntKind.i64.wrap (IntKind.i64.wrap (IntKind.i64.wrap (IntKind.i64.wrap ((2 : Int) * ((bsz kind : Nat) : Int)) - (1 : Int)) - IntKind.i64.wrap (((bsz kind : Nat) : Int).tdiv (8 : Int))) - (tail.length : Int))).tmod ((bsz kind : Nat) : Int) + IntKind.i64.wrap (((bsz kind : Nat) : Int).tdiv (8 : Int))) - (8 : Int)) = ((padZ kind tail.length : Nat) : Int) := by
  unfold padZ
  rcases bsz_or kind with ⟨h, e⟩ | ⟨h, e⟩
  ·rw [e] at hn ⊢
   rw [if_pos h, show IntKind.i64.wrap (IntKind.i64.wrap (IntKind.i64.wrap ((2 : Int) * ((64 : Nat) : Int)) - (1 : Int)) - IntKind.i64.wrap (((64 : Nat) : Int).tdiv (8 : Int))) = 119 from rfl, i64w (x := (119 : Int) - (tail.length : Int)) (by omega) (by omega),
    show (119 : Int) - (tail.length : Int) = ((119 - tail.length : Nat) : Int) by omega, tmN, show IntKind.i64.wrap (((64 : Nat) : Int).tdiv (8 : Int)) = 8 from rfl, i64w (x := ((((119 - tail.length) % 64 : Nat) : Int)) + 8) (by omega) (by omega), i64w (by omega) (by omega)]
   omega
  ·rw [e] at hn ⊢
   rw [if_neg h, show IntKind.i64.wrap (IntKind.i64.wrap (IntKind.i64.wrap ((2 : Int) * ((128 : Nat) : Int)) - (1 : Int)) - IntKind.i64.wrap (((128 : Nat) : Int).tdiv (8 : Int))) = 239 from rfl, i64w (x := (239 : Int) - (tail.length : Int)) (by omega) (by omega),
    show (239 : Int) - (tail.length : Int) = ((239 - tail.length : Nat) : Int) by omega, tmN, show IntKind.i64.wrap (((128 : Nat) : Int).tdiv (8 : Int)) = 16 from rfl, i64w (x := ((((239 - tail.length) % 128 : Nat) : Int)) + 16) (by omega) (by omega), i64w (by omega) (by omega)]
   omega
 have hb : bsz kind = 64 ∨ bsz kind = 128 := by rcases bsz_or kind with ⟨h, e⟩ | ⟨h, e⟩ <;> omega
 have hz2 := padZ_le kind tail.length
 rw [hz]
 simp only [toNat_cast]
 rw [br_pos (by omega), br_pos (by omega), br_neg (by omega), br_pos (by omega), br_pos (by omega), shl3, show (8 : Int) = ((8 : Nat) : Int) from rfl, bits_Be _ 8 (by omega) (by omega)]
 have hp : (List.replicate 1 (0 : Int)).set 0 (128 : Int) ++ List.replicate (padZ kind tail.length) (0 : Int) ++ (bsw 8 8 (size * 8 % 2 ^ 64)).reverse = pad kind tail.length size := rfl
 rw [br_pos (by
  show ((List.replicate (padZ kind tail.length) (0 : Int)).length + 0 + 1 + _) * 1 ≤ _
  rw [List.length_replicate, List.length_reverse, bsw_length]; omega), hp]
 have hpl := pad_len kind tail.length size
 rw [sha_Add kind words tail _ _ hl hi ht (pad_in _ _ _) (by omega), sha_outs _ hb _ (addW_ok _ _ _).2.1]
 unfold endS
 simp only
 by_cases h2 : kind = 2
 ·have e : bsz kind = 128 := by unfold bsz; rw [if_neg (by omega)]
  rw [br_beq_pos h2, br_pos (by rw [outI_len, e]; omega), if_pos h2]
  rfl
 ·rw [br_beq_neg h2, if_neg h2]
theorem pads (n : Nat) (hn : n = 64 ∨ n = 128) (tl : Nat) (ht : tl < 200) (z m : Nat) (hm : m < n) (h1 : ∀ i, i < z → (tl + (1 + i)) % n ≠ m) (h2 : (tl + (1 + z)) % n = m) (hz : z ≤ 200) (c : Int) (kd : Int) (words tail : List Int) (size : Int) (hl : tail.length = tl) (d : Int) (hd : IntKind.i64.wrap ((n : Int) - d) = (m : Int)) :
    (d = 8 → ∀ {ρ : Type} (k0 : Int → Int → List Int → Int → List Int → List Int → Int → Option ρ), P.R07_End_l4 (n : Int) c [128] kd words tail size k0 = k0 (n : Int) c (128 :: List.replicate z 0) kd words tail size) ∧
    (d = 16 → ∀ {ρ : Type} (k0 : Int → Int → List Int → Int → List Int → List Int → Int → Option ρ), P.R07_End_l8 (n : Int) c [128] kd words tail size k0 = k0 (n : Int) c (128 :: List.replicate z 0) kd words tail size) := by
 have hlen : ∀ i : Nat, ((128 : Int) :: List.replicate i 0).length = 1 + i := fun i => by simp; omega
 have hc : ∀ i : Nat, i ≤ z → IntKind.i64.wrap (((tail.length : Nat) : Int) + ((((128 : Int) :: List.replicate i 0).length : Nat) : Int)) = ((tl + (1 + i) : Nat) : Int) := fun i hi => by
  rw [hlen, hl, i64w (by omega) (by omega)]; omega
 have hs : ∀ i : Nat, ((128 : Int) :: List.replicate i 0) ++ [(0 : Int)] = 128 :: List.replicate (i + 1) 0 := fun i => by
  rw [List.replicate_succ']; rfl
 constructor
 ·rintro rfl ρ k0
  rw [P.R07_End_l4_eq]
  unfold P.R07_End_L4
  refine lp_go (fun i => ((n : Int), c, 128 :: List.replicate i 0, kd, words, tail, size)) z rfl (fun i hi next hn' => ?_) (fun next => ?_) (by omega)
  ·simp only [P.R07_End_r4]
   have := h1 i hi
   rw [hc i (by omega), tmN, hd, br_neg (by omega), br_bne_pos (by omega), br_pos (by rw [hlen]; omega), hs]
   exact hn'
  ·simp only [P.R07_End_r4]
   rw [hc z (by omega), tmN, hd, br_neg (by omega), h2, br_bne_neg (by rfl)]
 ·rintro rfl ρ k0
  rw [P.R07_End_l8_eq]
  unfold P.R07_End_L8
  refine lp_go (fun i => ((n : Int), c, 128 :: List.replicate i 0, kd, words, tail, size)) z rfl (fun i hi next hn' => ?_) (fun next => ?_) (by omega)
  ·simp only [P.R07_End_r8]
   have := h1 i hi
   rw [hc i (by omega), tmN, hd, br_neg (by omega), br_bne_pos (by omega), br_pos (by rw [hlen]; omega), hs]
   exact hn'
  ·simp only [P.R07_End_r8]
   rw [hc z (by omega), tmN, hd, br_neg (by omega), h2, br_bne_neg (by rfl)]
theorem R07_outs (n : Nat) (hn : n = 64 ∨ n = 128) (words : List Int) (hw : In 18446744073709551616 words) (a : Int) (b : List Int) (c : Int) {ρ : Type} (k0 : Int → Int → List Int → Int → List Int → List Int → Int → Option ρ) :
    P.R07_End_l14 (n : Int) 0 [] a words b c k0 = k0 (n : Int) 8 (outI (n / 16) words 8) a words b c := by
 rw [P.R07_End_l14_eq]
 unfold P.R07_End_L14
 have e16 : IntKind.i64.wrap ((n : Int).tdiv 16) = ((n / 16 : Nat) : Int) := by rcases hn with rfl | rfl <;> rfl
 refine lp_go (fun i => ((n : Int), (i : Int), outI (n / 16) words i, a, words, b, c)) 8 rfl (fun i hi next hn' => ?_) (fun next => ?_) (by omega)
 ·simp only [P.R07_End_r14, toNat_cast]
  have h1 := hw.getD i (by omega)
  have e4 : IntKind.i64.wrap ((i : Int) + 1) = ((i + 1 : Nat) : Int) := by rw [i64w (by omega) (by omega)]; omega
  have e5 : words.getD i 0 = (((words.getD i 0).toNat : Nat) : Int) := by omega
  rw [outI_succ] at hn'
  rw [br_pos (by omega), br_pos (by omega), br_pos (by omega), e16, e5, R01_Be _ _ (by omega) (by omega), e4]
  rw [br_pos (by rw [outI_len, List.length_reverse, bsw_length]; rcases hn with rfl | rfl <;> omega)]
  exact hn'
 ·simp only [P.R07_End_r14]
  rw [br_neg (by omega)]
  rfl
theorem R07_tail (kind : Int) (words tail : List Int) (size : Nat) {ρ : Type} (k : List Int → Option ρ) :
    (br (kind == (2 : Int)) (br (decide ((48 : Int) ≤ ((outI (bsz kind / 16) (addW kind words (tail ++ pad kind tail.length size)) 8).length : Int))) (k (List.take ((48 : Int) - (0 : Int)).toNat (outI (bsz kind / 16) (addW kind words (tail ++ pad kind tail.length size)) 8))) none)
     (k (outI (bsz kind / 16) (addW kind words (tail ++ pad kind tail.length size)) 8))) = k (endS kind words tail size) := by
 unfold endS
 simp only
 by_cases h2 : kind = 2
 ·have e : bsz kind = 128 := by unfold bsz; rw [if_neg (by omega)]
  rw [br_beq_pos h2, br_pos (by rw [outI_len, e]; omega), if_pos h2]
  rfl
 ·rw [br_beq_neg h2, if_neg h2]
theorem R07_End (kind : Int) (words tail : List Int) (size : Nat) (hw : Wok kind words) (ht : In 256 tail) (hn : tail.length < bsz kind) (hs : size < 2305843009213693952) {ρ : Type} (k : List Int → Option ρ) :
    P.R07_End kind words tail (size : Int) k = k (endS kind words tail size) := by
 rw [P.R07_End_eq]; unfold P.R07_End_raw
 have h8 : IntKind.u64.wrap ((size : Int) * 8) = ((size * 8 % 2 ^ 64 : Nat) : Int) := by rw [u64m]; omega
 have hpl := pad_len kind tail.length size
 have hz2 := padZ_le kind tail.length
 rw [R07_Block, h8]
 rcases bsz_or kind with ⟨h, e⟩ | ⟨h, e⟩
 ·rw [e] at hn ⊢
  have hp := (pads 64 (.inl rfl) tail.length (by omega) (padZ kind tail.length) 56 (by omega) (fun i hi => by unfold padZ at hi; rw [if_pos h] at hi; omega) (by unfold padZ; rw [if_pos h]; omega) hz2 ((size * 8 % 2 ^ 64 : Nat) : Int) kind words tail (size : Int) rfl 8 rfl).1
  rw [hp rfl, br_beq_neg (by decide), show (8 : Int) = ((8 : Nat) : Int) from rfl, R01_Be _ 8 (by omega) (by omega), br_pos (by simp; omega)]
  have hpad : (128 : Int) :: List.replicate (padZ kind tail.length) 0 ++ (bsw 8 8 (size * 8 % 2 ^ 64)).reverse = pad kind tail.length size := rfl
  rw [hpad, R07_Add kind words tail _ _ hw ht (pad_in _ _ _) (by omega), R07_outs _ (.inl rfl) _ (addW_ok _ _ _).2.1]
  have := R07_tail kind words tail size k
  rw [e] at this
  exact this
 ·rw [e] at hn ⊢
  have hp1 := (pads 128 (.inr rfl) tail.length (by omega) ((247 - tail.length) % 128) 120 (by omega) (fun i hi => by omega) (by omega) (by omega) ((size * 8 % 2 ^ 64 : Nat) : Int) kind words tail (size : Int) rfl 8 rfl).1
  have hp2 := (pads 128 (.inr rfl) tail.length (by omega) ((239 - tail.length) % 128) 112 (by omega) (fun i hi => by omega) (by omega) (by omega) ((size * 8 % 2 ^ 64 : Nat) : Int) kind words tail (size : Int) rfl 16 rfl).2
  have h61 : ((size : Nat) : Int).fdiv ((2 : Int) ^ 61) = ((0 : Nat) : Int) := by
   have := fdiv_pow size 61 61 (by omega)
   rw [Nat.div_eq_of_lt (by omega)] at this
   exact this
  rw [hp1 rfl, br_beq_pos (by rfl), hp2 rfl, h61, show (8 : Int) = ((8 : Nat) : Int) from rfl, R01_Be _ 8 (by omega) (by omega), br_pos (by simp; omega), R01_Be _ 8 (by omega) (by omega), br_pos (by simp; omega)]
  have hpad : (128 : Int) :: List.replicate ((239 - tail.length) % 128) 0 ++ (bsw 8 8 0).reverse ++ (bsw 8 8 (size * 8 % 2 ^ 64)).reverse = pad kind tail.length size := by
   unfold pad padZ
   rw [if_neg h, ← List.replicate_append_replicate]
   rfl
  rw [hpad, R07_Add kind words tail _ _ hw ht (pad_in _ _ _) (by omega), R07_outs _ (.inr rfl) _ (addW_ok _ _ _).2.1]
  have := R07_tail kind words tail size k
  rw [e] at this
  exact this
def newW (kind : Int) : List Int :=
 if kind = 1 then [1779033703, 3144134277, 1013904242, 2773480762, 1359893119, 2600822924, 528734635, 1541459225]
 else if kind = 2 then [14680500436340154072, 7105036623409894663, 10473403895298186519, 1526699215303891257, 7436329637833083697, 10282925794625328401, 15784041429090275239, 5167115440072839076]
 else [7640891576956012808, 13503953896175478587, 4354685564936845355, 11912009170470909681, 5840696475078001361, 11170449401992604703, 2270897969802886507, 6620516959819538809]
theorem newW_ok (kind : Int) : Wok kind (newW kind) := by
 unfold newW Wok
 by_cases h1 : kind = 1
 ·simp only [if_pos h1]
  refine ⟨rfl, ?_, fun _ => ?_⟩
  ·unfold In; decide
  ·unfold In; decide
 ·by_cases h2 : kind = 2
  ·simp only [if_neg h1, if_pos h2]
   refine ⟨rfl, ?_, fun h => absurd h h1⟩
   unfold In; decide
  ·simp only [if_neg h1, if_neg h2]
   refine ⟨rfl, ?_, fun h => absurd h h1⟩
   unfold In; decide
def K3 (kind : Int) : Prop := kind = 1 ∨ kind = 2 ∨ kind = 3
theorem sha_begin_k {kind : Int} (h : K3 kind) {ρ : Type} (k : List Int → Bool → Option ρ) : P.sha_begin kind k = k (newW kind) true := by
 rw [P.sha_begin_eq]
 rcases h with rfl | rfl | rfl <;> kernel_rfl
theorem sha_New {kind : Int} (h : K3 kind) {ρ : Type} (k : Int → List Int → List Int → Int → Int → Option ρ) : P.sha_New kind k = k kind (newW kind) [] 0 0 := by
 rw [P.sha_New_eq]; unfold P.sha_New_raw
 rw [sha_begin_k h, br_not, br_tt]
theorem R07_New {kind : Int} (h : K3 kind) {ρ : Type} (k : Int → List Int → List Int → Int → Int → Option ρ) : P.R07_New kind k = k kind (newW kind) [] 0 0 := by
 rw [P.R07_New_eq]; unfold P.R07_New_raw newW
 rcases h with rfl | rfl | rfl
 ·rw [br_beq_pos (by rfl)]; rfl
 ·rw [br_beq_neg (by decide), br_beq_pos (by rfl)]; rfl
 ·rw [br_beq_neg (by decide), br_beq_neg (by decide), br_beq_pos (by rfl)]; rfl
theorem bsz_pos (kind : Int) : 0 < bsz kind := by rcases bsz_or kind with ⟨h, e⟩ | ⟨h, e⟩ <;> omega
def sumS (kind : Int) (b : List Int) : List Int := endS kind (addW kind (newW kind) b) (rest (bsz kind) b) b.length
theorem size_add (b : List Int) (hn : b.length ≤ 1000000) : IntKind.u64.wrap ((0 : Int) + IntKind.u64.wrap (b.length : Int)) = ((b.length : Nat) : Int) := by
 rw [u64n _ (by omega), Int.zero_add, u64n _ (by omega)]
theorem R07_Sum {kind : Int} (h : K3 kind) (b : List Int) (hb : In 256 b) (hn : b.length ≤ 1000000) {ρ : Type} (k : List Int → Int → Option ρ) : P.R07_Sum kind b k = k (sumS kind b) 0 := by
 rw [P.R07_Sum_eq]; unfold P.R07_Sum_raw
 have hw := newW_ok kind
 have hr := rest_len _ (bsz_pos kind) b
 have hlt := Nat.mod_lt b.length (bsz_pos kind)
 rw [R07_New h, br_bne_neg (by rfl), R07_Add kind _ [] _ b hw In.nil hb (by simpa using hn), List.nil_append, size_add b hn, R07_End kind _ _ _ (addW_ok _ _ _) (rest_in hb) (by omega) (by omega)]
 rfl
theorem sumS_len (kind : Int) (b : List Int) : (sumS kind b).length = if kind = 1 then 32 else if kind = 2 then 48 else 64 := endS_len _ _ _ _
end Q
end

section
open Go Go.Abs
set_option linter.unusedVariables false
namespace P
end P
end

section
/- SHA-2: which sums can be, which are the same; the examples. -/
namespace Q
open Go Go.Abs
set_option linter.unusedVariables false
set_option linter.unusedSimpArgs false
theorem first (p : Nat → Bool) : ∀ n, ∃ m, m ≤ n ∧ (∀ i, i < m → p i = true) ∧ (m = n ∨ (m < n ∧ p m = false))
 | 0 => ⟨0, by omega, by omega, .inl rfl⟩
 | n + 1 => by
  obtain ⟨m, h1, h2, h3⟩ := first p n
  rcases h3 with h3 | ⟨h3, h4⟩
  ·subst h3
   cases hp : p m with
   | true => exact ⟨m + 1, by omega, fun i hi => by
       by_cases e : i = m
       ·rw [e]; exact hp
       ·exact h2 i (by omega), .inl rfl⟩
   | false => exact ⟨m, by omega, h2, .inr ⟨by omega, hp⟩⟩
  ·exact ⟨m, by omega, h2, .inr ⟨by omega, h4⟩⟩
end Q
end

section
open Go Go.Abs
set_option linter.unusedVariables false
namespace P
end P
end

section
open Go Go.Abs
set_option linter.unusedVariables false
namespace P
end P
end

section
open Go Go.Abs
set_option linter.unusedVariables false
namespace P
end P
end

section
open Go Go.Abs
set_option linter.unusedVariables false
namespace P
end P
end

section
open Go Go.Abs
set_option linter.unusedVariables false
namespace P
end P
end

section
open Go Go.Abs
set_option linter.unusedVariables false
namespace P
end P
end

section
open Go Go.Abs
set_option linter.unusedVariables false
namespace P
end P
end

section
open Go Go.Abs
set_option linter.unusedVariables false
namespace P
end P
end

section
open Go Go.Abs
set_option linter.unusedVariables false
namespace P
end P
end

section
open Go Go.Abs
set_option linter.unusedVariables false
namespace P
end P
end

section
open Go Go.Abs
set_option linter.unusedVariables false
namespace P
end P
end

section
/- mac: digests, with keys and without. -/
namespace Q
open QK
open Go Go.Abs
set_option linter.unusedVariables false
set_option linter.unusedSimpArgs false
def K7 (kd : Int) : Prop := kd = 1 ∨ kd = 2 ∨ kd = 3 ∨ kd = 4 ∨ kd = 5 ∨ kd = 6 ∨ kd = 7
theorem K7.of {kd : Int} (h : 1 ≤ kd ∧ kd ≤ 7) : K7 kd := by unfold K7; omega
theorem set_at {α : Type} (a b : List α) (x y : α) (i : Nat) (h : a.length = i) : (a ++ x :: b).set i y = a ++ y :: b := by
 subst h
 rw [List.set_append_right _ _ (Nat.le_refl _), Nat.sub_self]
 rfl
def bk (kd : Int) : Nat := if kd ≤ 3 then bsz kd else rOf kd
end Q
end

section
open Go Go.Abs
set_option linter.unusedVariables false
namespace P
end P
end

section
open Go Go.Abs
set_option linter.unusedVariables false
namespace P
end P
end

section
open Go Go.Abs
set_option linter.unusedVariables false
namespace P
end P
end

section
/- mac: bytes of keys and of seeds. -/
namespace Q
open QK
open Go Go.Abs
set_option linter.unusedVariables false
set_option linter.unusedSimpArgs false
end Q
end

section
/- SHA-2: bytes that are added one behind the other. -/
namespace Q
open Go Go.Abs
set_option linter.unusedVariables false
set_option linter.unusedSimpArgs false
theorem thr_append {w : Nat} (p : Par w) (v : List (BitVec w)) (a b : List Int) (m : Nat) (hm : (2 * w) * m = a.length) : ∀ i, thr p v (a ++ b) (m + i) = thr p (thr p v a m) b i ∧ thr p v (a ++ b) m = thr p v a m := by
 have key : ∀ i, i ≤ m → thr p v (a ++ b) i = thr p v a i := by
  intro i
  induction i with
  | zero => intro _; rfl
  | succ i ih =>
   intro hi
   have h1 : (2 * w) * i + 2 * w ≤ a.length := by
    rw [← hm, ← Nat.mul_succ]
    exact Nat.mul_le_mul (Nat.le_refl _) hi
   simp only [thr]
   rw [ih (by omega), List.drop_append_of_le_length (by omega), List.take_append_of_le_length (by rw [List.length_drop]; omega)]
 intro i
 refine ⟨?_, key m (Nat.le_refl _)⟩
 induction i with
 | zero => exact key m (Nat.le_refl _)
 | succ i ih =>
  rw [← Nat.add_assoc]
  simp only [thr]
  rw [ih, Nat.mul_add, hm, List.drop_append, List.drop_eq_nil_of_le (by omega), List.nil_append, Nat.add_sub_cancel_left]
end Q
end

section
/- lmots: the digits as the program and as the document count them. -/
namespace Q
open Go Go.Abs
set_option linter.unusedVariables false
set_option linter.unusedSimpArgs false
theorem num_at' {w : Nat} {b : List Int} (hb : In (2 ^ w) b) (t : Nat) : ∃ x : Nat, b.getD t 0 = (x : Int) ∧ x < 2 ^ w := by
 have hp : ((2 : Int) ^ w) = ((2 ^ w : Nat) : Int) := by simp
 have := hb.getD t (by rw [hp]; have := p2 w; omega)
 rw [hp] at this
 exact ⟨(b.getD t 0).toNat, by omega, by omega⟩
end Q
end

section
/- wots: the digits of a text. -/
namespace Q
open Go Go.Abs
set_option linter.unusedVariables false
set_option linter.unusedSimpArgs false
def N3 (n : Nat) : Prop := n = 16 ∨ n = 24 ∨ n = 32
def wl (n : Nat) (x : List Int) : Nat := 15 * (2 * n) - sumTo (digitsS x 4 ((2 * n : Nat) : Int)) (2 * n)
def wd (n : Nat) (x : List Int) : List Int := digitsS x 4 ((2 * n : Nat) : Int) ++ [((wl n x / 2 ^ 8 : Nat) : Int), ((wl n x / 2 ^ 4 % 2 ^ 4 : Nat) : Int), ((wl n x % 2 ^ 4 : Nat) : Int)]
theorem wd4_len (n : Nat) (x : List Int) (hl : x.length = n) : (digitsS x 4 ((2 * n : Nat) : Int)).length = 2 * n := by
 rw [show (4 : Int) = ((4 : Nat) : Int) from rfl, digits_map x 4 (2 * n) (by omega) (by omega) (by omega)]; simp
theorem wd_in (n : Nat) (x : List Int) : In (2 ^ 4) (digitsS x 4 ((2 * n : Nat) : Int)) := digits_in x 4 _
theorem wd_len (n : Nat) (x : List Int) (hl : x.length = n) : (wd n x).length = 2 * n + 3 := by
 unfold wd; rw [List.length_append, wd4_len n x hl]; rfl
theorem wl_lt {n : Nat} (h : N3 n) (x : List Int) : wl n x < 961 := by
 unfold wl; rcases h with rfl | rfl | rfl <;> omega
theorem wots_l6 {n : Nat} (hn : N3 n) (x : List Int) (hl : x.length = n) {ρ : Type} (k0 : Int → Int → Int → List Int → Option ρ) :
    P.wots_Digits_l6 ((15 * (2 * n) : Nat) : Int) ((2 * n : Nat) : Int) 0 (digitsS x 4 ((2 * n : Nat) : Int)) k0 = k0 ((wl n x : Nat) : Int) ((2 * n : Nat) : Int) ((2 * n : Nat) : Int) (digitsS x 4 ((2 * n : Nat) : Int)) := by
 have hn2 : n ≤ 32 := by rcases hn with rfl | rfl | rfl <;> omega
 have hlen := wd4_len n x hl
 rw [P.wots_Digits_l6_eq]
 unfold P.wots_Digits_L6
 refine lp_go (fun i => (((15 * (2 * n) - sumTo (digitsS x 4 ((2 * n : Nat) : Int)) i : Nat) : Int), ((2 * n : Nat) : Int), (i : Int), digitsS x 4 ((2 * n : Nat) : Int))) (2 * n) (by simp [sumTo]) (fun i hi next hn' => ?_) (fun next => ?_) (by omega)
 ·obtain ⟨d, hd, hd2⟩ := num_at' (w := 4) (wd_in n x) i
  have hle := sumTo_le (digitsS x 4 ((2 * n : Nat) : Int)) 4 (wd_in n x) (i + 1)
  simp only [sumTo, hd, Int.toNat_natCast] at hn' hle
  simp only [P.wots_Digits_r6, toNat_cast]
  rw [hd, show ((15 * (2 * n) - sumTo (digitsS x 4 ((2 * n : Nat) : Int)) i : Nat) : Int) - (d : Int) = ((15 * (2 * n) - (sumTo (digitsS x 4 ((2 * n : Nat) : Int)) i + d) : Nat) : Int) by omega, u32n _ (by omega)]
  simp (disch := omega) only [br_pos, br_neg, br_bne_pos, br_bne_neg, br_beq_pos, br_beq_neg, br_not, br_tt, br_ff, i64w, hlen]
  exact hn'
 ·simp only [P.wots_Digits_r6]
  rw [br_neg (by omega)]
  rfl
theorem and15 (a : Nat) (h : a < 4294967296) : bits .and .u32 (a : Int) 15 = ((a % 2 ^ 4 : Nat) : Int) := by
 rw [show (15 : Int) = ((2 ^ 4 - 1 : Nat) : Int) from rfl, and_u32 _ _ h (by omega), Nat.and_two_pow_sub_one_eq_mod]
theorem wots_tail {n : Nat} (hn : N3 n) (x : List Int) (hx : In 256 x) (hl : x.length = n) {ρ : Type} (k : List Int → Option ρ) :
    (P.bits_Digits x (4 : Int) (IntKind.i64.wrap ((2 : Int) * ((n : Nat) : Int))) fun (q0 : List Int) =>
            P.wots_Digits_l6 (IntKind.u32.wrap (IntKind.i64.wrap ((15 : Int) * (↑q0.length : Int)))) (↑q0.length : Int)
             (0 : Int) q0 fun (q1 q2 q3 : Int) (q4 : List Int) =>
             br
              (decide
               ((q4.length +
                     ([bits BinOp.and IntKind.u32 (q1.fdiv ((2 : Int) ^ 4)) (15 : Int),
                               bits BinOp.and IntKind.u32 q1 (15 : Int)].length.add
                         0).succ) *
                   4 ≤
                140737488355328))
              (k
               (q4 ++
                [q1.fdiv ((2 : Int) ^ 8),
                 bits BinOp.and IntKind.u32 (q1.fdiv ((2 : Int) ^ 4)) (15 : Int),
                 bits BinOp.and IntKind.u32 q1 (15 : Int)]))
              none) = k (wd n x) := by
 have hn2 : n ≤ 32 := by rcases hn with rfl | rfl | rfl <;> omega
 have hlen := wd4_len n x hl
 have hlt := wl_lt hn x
 rw [i64w (by omega) (by omega), show (2 : Int) * (n : Int) = ((2 * n : Nat) : Int) by omega, bits_Digits _ _ _ hx (by omega), hlen, i64w (x := (15 : Int) * ((2 * n : Nat) : Int)) (by omega) (by omega), show (15 : Int) * ((2 * n : Nat) : Int) = ((15 * (2 * n) : Nat) : Int) by omega, u32n _ (by omega), wots_l6 hn x hl, hlen]
 have e8 : ((wl n x : Nat) : Int).fdiv ((2 : Int) ^ 8) = ((wl n x / 2 ^ 8 : Nat) : Int) := fdiv_pow _ 8 8 (by omega)
 have e4 : ((wl n x : Nat) : Int).fdiv ((2 : Int) ^ 4) = ((wl n x / 2 ^ 4 : Nat) : Int) := fdiv_pow _ 4 4 (by omega)
 have hd := Nat.div_le_self (wl n x) (2 ^ 4)
 rw [e8, e4, and15 _ (by omega), and15 _ (by omega), br_pos (by show (2 * n + 3) * 4 ≤ _; omega)]
 rfl
theorem wots_Digits {n : Nat} (hn : N3 n) (x : List Int) (hx : In 256 x) (hl : x.length = n) {ρ : Type} (k : List Int → Option ρ) : P.wots_Digits (n : Int) x k = k (wd n x) := by
 rw [P.wots_Digits_eq]
 unfold P.wots_Digits_raw
 have ht := wots_tail hn x hx hl k
 rcases hn with rfl | rfl | rfl
 ·rw [br_bne_neg (by rfl), br_bne_neg (by rw [hl])]
  exact ht
 ·rw [br_bne_pos (by decide), br_bne_neg (by rfl), br_bne_neg (by rw [hl])]
  exact ht
 ·rw [br_bne_pos (by decide), br_bne_pos (by decide), br_bne_neg (by rfl), br_bne_neg (by rw [hl])]
  exact ht
theorem wots_Put_4 (a : List Int) (v : Nat) (hv : v < 18446744073709551616) {ρ : Type} (k : List Int → Option ρ) : P.wots_Put a 4 (v : Int) k = k (a.take 24 ++ ((bsw 8 4 v).reverse.take 8 ++ a.drop (24 + min 8 (bsw 8 4 v).reverse.length))) := by
 rw [P.wots_Put_eq]
 unfold P.wots_Put_raw
 rw [br_beq_neg (by decide), br_beq_neg (by decide), br_beq_neg (by decide), br_beq_neg (by decide), br_beq_pos (by rfl), br_beq_pos (by rfl), br_pos (by decide), br_pos (by decide), show (4 : Int) = ((4 : Nat) : Int) from rfl, bits_Be _ 4 hv (by omega)]
 rfl
theorem wots_Put_2 (a : List Int) (v : Nat) (hv : v < 18446744073709551616) {ρ : Type} (k : List Int → Option ρ) : P.wots_Put a 2 (v : Int) k = k (a.take 16 ++ (([(bsw 8 4 v).reverse, List.replicate 12 (0 : Int)].flatten).take 16 ++ a.drop (16 + min 16 ([(bsw 8 4 v).reverse, List.replicate 12 (0 : Int)].flatten).length))) := by
 rw [P.wots_Put_eq]
 unfold P.wots_Put_raw
 rw [br_beq_neg (by decide), br_beq_neg (by decide), br_beq_pos (by rfl), show (4 : Int) = ((4 : Nat) : Int) from rfl, bits_Be _ 4 hv (by omega), bits_Join _ (by simp) (by simp)]
 rfl
theorem L17_awake {ρ : Type} (k : Bool → Option ρ) : P.L17_awake k = k true := by
 rw [P.L17_awake_eq]
 unfold P.L17_awake_raw
 rw [show (16 : Int) = ((16 : Nat) : Int) from rfl, wots_Digits (.inl rfl) _ (fun x hx => by rw [List.mem_replicate] at hx; omega) (by simp)]
 rw [show (7 : Int) = ((7 : Nat) : Int) from rfl, wots_Put_4 _ 7 (by omega), show P.wots_Put (ρ := ρ) _ 2 2 = P.wots_Put _ 2 ((2 : Nat) : Int) from rfl, wots_Put_2 _ 2 (by omega), wots_Put_4 _ 7 (by omega)]
 kernel_rfl
end Q
end

section
/- wots: kinds, places, digits, by the program and by the document. -/
namespace Q
open QK
open Go Go.Abs
set_option linter.unusedVariables false
set_option linter.unusedSimpArgs false
def FitP (N H D A K : Int) : Prop := (N = 16 ∨ N = 24 ∨ N = 32) ∧ 1 ≤ D ∧ H ≤ 68 ∧ D ≤ H ∧ H.tmod D = 0 ∧ IntKind.i64.wrap (H.tdiv D) ≤ 9 ∧ 1 ≤ A ∧ A ≤ 14 ∧ 1 ≤ K ∧ K ≤ 40
instance (N H D A K : Int) : Decidable (FitP N H D A K) := by unfold FitP; infer_instance
theorem fit_tail (N H D A K : Int) (hN : N = 16 ∨ N = 24 ∨ N = 32) {ρ : Type} (k : Bool → Option ρ) :
    (br (decide (D < (1 : Int))) (k false) (br (decide (H < D)) (k false) (br (decide (H > (68 : Int))) (k false)
     (br (decide (D = (0 : Int))) none (br (H.tmod D != (0 : Int)) (k false) (br (decide (D = (0 : Int))) none
      (br (decide (IntKind.i64.wrap (H.tdiv D) > (9 : Int))) (k false) (br (decide (A ≥ (1 : Int)))
       (br (decide (A ≤ (14 : Int))) (br (decide (K ≥ (1 : Int))) (k (decide (K ≤ (40 : Int)))) (k false)) (k false)) (k false))))))))) = k (decide (FitP N H D A K)) := by
 by_cases h1 : D < 1
 ·rw [br_pos h1, decide_eq_false (by unfold FitP; omega)]
 rw [br_neg h1]
 by_cases h2 : H < D
 ·rw [br_pos h2, decide_eq_false (by unfold FitP; omega)]
 rw [br_neg h2]
 by_cases h3 : H > 68
 ·rw [br_pos h3, decide_eq_false (by unfold FitP; omega)]
 rw [br_neg h3, br_neg (by omega)]
 by_cases h4 : H.tmod D = 0
 ·rw [br_bne_neg h4, br_neg (by omega)]
  by_cases h5 : IntKind.i64.wrap (H.tdiv D) > 9
  ·rw [br_pos h5, decide_eq_false (by unfold FitP; omega)]
  rw [br_neg h5]
  by_cases h6 : A ≥ 1
  ·rw [br_pos h6]
   by_cases h7 : A ≤ 14
   ·rw [br_pos h7]
    by_cases h8 : K ≥ 1
    ·rw [br_pos h8]
     congr 1
     apply decide_eq_decide.2
     unfold FitP
     omega
    ·rw [br_neg h8, decide_eq_false (by unfold FitP; omega)]
   ·rw [br_neg h7, decide_eq_false (by unfold FitP; omega)]
  ·rw [br_neg h6, decide_eq_false (by unfold FitP; omega)]
 ·rw [br_bne_pos h4, decide_eq_false (by unfold FitP; omega)]
theorem wots_Fit (N H D A K : Int) (z : Bool) {ρ : Type} (k : Bool → Option ρ) : P.wots_Fit N H D A K z k = k (decide (FitP N H D A K)) := by
 rw [P.wots_Fit_eq]; unfold P.wots_Fit_raw
 by_cases h1 : N = 16
 ·rw [br_bne_neg h1]; exact fit_tail N H D A K (.inl h1) k
 rw [br_bne_pos h1]
 by_cases h2 : N = 24
 ·rw [br_bne_neg h2]; exact fit_tail N H D A K (.inr (.inl h2)) k
 rw [br_bne_pos h2]
 by_cases h3 : N = 32
 ·rw [br_bne_neg h3]; exact fit_tail N H D A K (.inr (.inr h3)) k
 rw [br_bne_pos h3, decide_eq_false (by unfold FitP; omega)]
theorem fitr_tail (N H D A K : Int) (hN : N = 16 ∨ N = 24 ∨ N = 32) {ρ : Type} (k : Bool → Option ρ) :
    (br (decide (D ≥ (1 : Int))) (br (decide (H ≤ (68 : Int))) (br (decide (H ≥ D)) (br (decide (D = (0 : Int))) none
       (br (H.tmod D == (0 : Int)) (br (decide (D = (0 : Int))) none (br (decide (IntKind.i64.wrap (H.tdiv D) ≤ (9 : Int)))
          (br (decide (A ≥ (1 : Int))) (br (decide (A ≤ (14 : Int))) (br (decide (K ≥ (1 : Int))) (k (decide (K ≤ (40 : Int)))) (k false)) (k false))
          (k false)) (k false))) (k false))) (k false)) (k false)) (k false)) = k (decide (FitP N H D A K)) := by
 by_cases h1 : D ≥ 1
 ·rw [br_pos h1]
  by_cases h3 : H ≤ 68
  ·rw [br_pos h3]
   by_cases h2 : H ≥ D
   ·rw [br_pos h2, br_neg (by omega)]
    by_cases h4 : H.tmod D = 0
    ·rw [br_beq_pos h4, br_neg (by omega)]
     by_cases h5 : IntKind.i64.wrap (H.tdiv D) ≤ 9
     ·rw [br_pos h5]
      by_cases h6 : A ≥ 1
      ·rw [br_pos h6]
       by_cases h7 : A ≤ 14
       ·rw [br_pos h7]
        by_cases h8 : K ≥ 1
        ·rw [br_pos h8]
         congr 1
         apply decide_eq_decide.2
         unfold FitP
         omega
        ·rw [br_neg h8, decide_eq_false (by unfold FitP; omega)]
       ·rw [br_neg h7, decide_eq_false (by unfold FitP; omega)]
      ·rw [br_neg h6, decide_eq_false (by unfold FitP; omega)]
     ·rw [br_neg h5, decide_eq_false (by unfold FitP; omega)]
    ·rw [br_beq_neg h4, decide_eq_false (by unfold FitP; omega)]
   ·rw [br_neg h2, decide_eq_false (by unfold FitP; omega)]
  ·rw [br_neg h3, decide_eq_false (by unfold FitP; omega)]
 ·rw [br_neg h1, decide_eq_false (by unfold FitP; omega)]
theorem R17_Fit (N H D A K : Int) (z : Bool) {ρ : Type} (k : Bool → Option ρ) : P.R17_Fit N H D A K z k = k (decide (FitP N H D A K)) := by
 rw [P.R17_Fit_eq]; unfold P.R17_Fit_raw
 by_cases h1 : N = 16
 ·rw [br_bne_neg h1]; exact fitr_tail N H D A K (.inl h1) k
 rw [br_bne_pos h1]
 by_cases h2 : N = 24
 ·rw [br_bne_neg h2]; exact fitr_tail N H D A K (.inr (.inl h2)) k
 rw [br_bne_pos h2]
 by_cases h3 : N = 32
 ·rw [br_bne_neg h3]; exact fitr_tail N H D A K (.inr (.inr h3)) k
 rw [br_bne_pos h3, decide_eq_false (by unfold FitP; omega)]
def setA (a : List Int) (i : Nat) (b : List Int) : List Int := a.take i ++ b ++ a.drop (i + b.length)
theorem setA_len (a : List Int) (i : Nat) (b : List Int) (h : i + b.length ≤ a.length) : (setA a i b).length = a.length := by
 unfold setA; simp; omega
def be4 (n v : Nat) : List Int := (bsw 8 n v).reverse
theorem be4_len (n v : Nat) : (be4 n v).length = n := by simp [be4]
def putS (a : List Int) (part : Int) (v : Nat) : List Int :=
 if part = 0 then setA a 0 (be4 4 v) else if part = 1 then setA a 4 (be4 12 v) else if part = 2 then setA a 16 (be4 4 v ++ List.replicate 12 0)
 else if part = 3 ∨ part = 4 ∨ part = 5 then setA a (8 + 4 * part.toNat) (be4 4 v) else a
theorem cpy (a : List Int) (i m : Nat) (b : List Int) (hb : b.length ≤ m) : (a.take i).append (b.take m ++ a.drop (i + min m b.length)) = setA a i b := by
 rw [List.take_of_length_le hb, Nat.min_eq_right hb]
 show a.take i ++ (b ++ _) = _
 rw [← List.append_assoc]
 rfl
theorem wots_Put {a : List Int} (h : a.length = 32) (part : Int) (v : Nat) (hv : v < 18446744073709551616) {ρ : Type} (k : List Int → Option ρ) : P.wots_Put a part (v : Int) k = k (putS a part v) := by
 rw [P.wots_Put_eq]; unfold P.wots_Put_raw putS
 have h4 : (bsw 8 4 v).reverse.length = 4 := by simp
 have h12 : (bsw 8 12 v).reverse.length = 12 := by simp
 have be : ∀ (k' : List Int → Option ρ), P.bits_Be (v : Int) 4 k' = k' (be4 4 v) := fun k' => bits_Be v 4 hv (by omega) k'
 have be' : ∀ (k' : List Int → Option ρ), P.bits_Be (v : Int) 12 k' = k' (be4 12 v) := fun k' => bits_Be v 12 hv (by omega) k'
 by_cases h0 : part = 0
 ·rw [br_beq_pos h0, if_pos h0, be]
  exact congrArg k (by rw [← cpy a 0 4 (be4 4 v) (by rw [be4_len]; omega)]; rfl)
 rw [br_beq_neg h0, if_neg h0]
 by_cases h1 : part = 1
 ·rw [br_beq_pos h1, if_pos h1, be']
  exact congrArg k (cpy a 4 12 _ (by rw [be4_len]; omega))
 rw [br_beq_neg h1, if_neg h1]
 by_cases h2 : part = 2
 ·have e : [be4 4 v, List.replicate 12 (0 : Int)].flatten = be4 4 v ++ List.replicate 12 0 := by simp
  rw [br_beq_pos h2, if_pos h2, be, bits_Join _ (by simp) (by rw [e]; simp [be4_len]), e]
  exact congrArg k (cpy a 16 16 _ (by rw [List.length_append, be4_len, List.length_replicate]; omega))
 rw [br_beq_neg h2, if_neg h2]
 have fin : ∀ (p : Nat), part = (p : Int) → 3 ≤ p → p ≤ 5 → (br (decide ((0 : Int) ≤ IntKind.i64.wrap ((8 : Int) + IntKind.i64.wrap ((4 : Int) * part))))
     (br (decide (IntKind.i64.wrap ((8 : Int) + IntKind.i64.wrap ((4 : Int) * part)) ≤ ((32 : Nat) : Int)))
      (P.bits_Be (v : Int) (4 : Int) fun (q4 : List Int) =>
       k ((List.take (IntKind.i64.wrap ((8 : Int) + IntKind.i64.wrap ((4 : Int) * part))).toNat a).append
        (List.take (((32 : Nat) : Int) - IntKind.i64.wrap ((8 : Int) + IntKind.i64.wrap ((4 : Int) * part))).toNat q4 ++
         List.drop ((IntKind.i64.wrap ((8 : Int) + IntKind.i64.wrap ((4 : Int) * part))).toNat +
          min (((32 : Nat) : Int) - IntKind.i64.wrap ((8 : Int) + IntKind.i64.wrap ((4 : Int) * part))).toNat q4.length) a))) none) none) = k (setA a (8 + 4 * part.toNat) (be4 4 v)) := by
  intro p hp h3 h5
  subst hp
  have e : IntKind.i64.wrap ((8 : Int) + IntKind.i64.wrap ((4 : Int) * (p : Int))) = ((8 + 4 * p : Nat) : Int) := by
   rw [i64w (x := 4 * (p : Int)) (by omega) (by omega), i64w (by omega) (by omega)]; omega
  rw [e, br_pos (by omega), br_pos (by omega), be, show (((32 : Nat) : Int) - ((8 + 4 * p : Nat) : Int)).toNat = 24 - 4 * p by omega, toNat_cast, toNat_cast]
  exact congrArg k (cpy a _ _ _ (by rw [be4_len]; omega))
 by_cases h3 : part = 3
 ·rw [br_beq_pos h3, br_beq_pos h3, if_pos (.inl h3)]
  exact fin 3 h3 (by omega) (by omega)
 rw [br_beq_neg h3]
 by_cases h4' : part = 4
 ·rw [br_beq_pos h4', br_beq_pos h4', if_pos (.inr (.inl h4'))]
  exact fin 4 h4' (by omega) (by omega)
 rw [br_beq_neg h4']
 by_cases h5 : part = 5
 ·rw [br_beq_pos h5, if_pos (.inr (.inr h5))]
  exact fin 5 h5 (by omega) (by omega)
 rw [br_beq_neg h5, if_neg (by omega)]
theorem R17_lay {a : List Int} (h : a.length = 32) (i : Nat) (b : List Int) (hb : i + b.length ≤ 32) {ρ : Type} (k : List Int → Option ρ) : P.R17_lay a (i : Int) b k = k (setA a i b) := by
 rw [P.R17_lay_eq]; unfold P.R17_lay_raw
 rw [P.R17_lay_l2_eq]; unfold P.R17_lay_L2
 refine lp_go (fun j => ((i : Int), b, (j : Int), setA a i (b.take j), ([0, 0, 0, 0, 0, 0, 0, 0, 0, 0, 0, 0, 0, 0, 0, 0, 0, 0, 0, 0, 0, 0, 0, 0, 0, 0, 0, 0, 0, 0, 0, 0] : List Int))) b.length (by simp [setA]) (fun j hj next hn => ?_) (fun next => ?_) (by omega)
 ·have e1 : (setA a i (b.take j)).set (i + j) (b.getD j 0) = setA a i (b.take (j + 1)) := by
    unfold setA
    rw [List.length_take, List.length_take, Nat.min_eq_left (by omega), Nat.min_eq_left (by omega), drop_step a 0 (i + j) (by omega), set_at _ _ _ _ (i + j) (by simp; omega), List.take_succ_eq_append_getElem hj, getD_lt hj]
    simp only [Nat.add_assoc, List.append_assoc, List.singleton_append, List.length_append, List.length_singleton]
    done
  simp only [P.R17_lay_r2, toNat_cast]
  rw [br_pos (by omega), br_pos (by omega), br_pos (by omega), i64w (x := (i : Int) + (j : Int)) (by omega) (by omega), br_pos (by omega), br_pos (by omega), i64w (by omega) (by omega), show ((i : Int) + (j : Int)).toNat = i + j by omega, e1]
  exact hn
 ·simp only [P.R17_lay_r2]
  rw [br_neg (by omega), List.take_length]
theorem R17_Put {a : List Int} (h : a.length = 32) (part : Int) (v : Nat) (hv : v < 18446744073709551616) {ρ : Type} (k : List Int → Option ρ) : P.R17_Put a part (v : Int) k = k (putS a part v) := by
 rw [P.R17_Put_eq]; unfold P.R17_Put_raw putS
 have be : ∀ (k' : List Int → Option ρ), P.R01_Be (v : Int) 4 k' = k' (be4 4 v) := fun k' => R01_Be v 4 hv (by omega) k'
 have be' : ∀ (k' : List Int → Option ρ), P.R01_Be (v : Int) 12 k' = k' (be4 12 v) := fun k' => R01_Be v 12 hv (by omega) k'
 by_cases h0 : part = 0
 ·rw [br_beq_pos h0, if_pos h0, be]
  exact R17_lay h 0 _ (by rw [be4_len]; omega) _
 rw [br_beq_neg h0, if_neg h0]
 by_cases h1 : part = 1
 ·rw [br_beq_pos h1, if_pos h1, be']
  exact R17_lay h 4 _ (by rw [be4_len]; omega) _
 rw [br_beq_neg h1, if_neg h1]
 by_cases h2 : part = 2
 ·have hl := setA_len a 16 (be4 4 v) (by rw [be4_len]; omega)
  rw [br_beq_pos h2, if_pos h2, be]
  refine (R17_lay h 16 _ (by rw [be4_len]; omega) _).trans ((R17_lay (by rw [hl, h]) 20 _ (by simp) _).trans (congrArg k ?_))
  unfold setA
  have e1 : (a.take 16 ++ be4 4 v).length = 20 := by rw [List.length_append, List.length_take, be4_len]; omega
  rw [be4_len, List.length_append, be4_len, List.length_replicate, List.take_append_of_le_length (by omega), List.take_of_length_le (by omega), List.drop_append, List.drop_eq_nil_of_le (by omega), e1, List.drop_drop, List.append_assoc (a.take 16)]
  rfl
 rw [br_beq_neg h2, if_neg h2]
 have fin : ∀ (p : Nat), part = (p : Int) → 3 ≤ p → p ≤ 5 → (P.R01_Be (v : Int) (4 : Int) fun (q7 : List Int) => P.R17_lay a (IntKind.i64.wrap ((8 : Int) + IntKind.i64.wrap ((4 : Int) * part))) q7 fun (q8 : List Int) => k q8) = k (setA a (8 + 4 * part.toNat) (be4 4 v)) := by
  intro p hp h3 h5
  subst hp
  have e : IntKind.i64.wrap ((8 : Int) + IntKind.i64.wrap ((4 : Int) * (p : Int))) = ((8 + 4 * p : Nat) : Int) := by
   rw [i64w (x := 4 * (p : Int)) (by omega) (by omega), i64w (by omega) (by omega)]; omega
  rw [e, be, R17_lay h _ _ (by rw [be4_len]; omega), toNat_cast]
 by_cases h3 : part = 3
 ·rw [br_beq_pos h3, br_beq_pos h3, if_pos (.inl h3)]
  exact fin 3 h3 (by omega) (by omega)
 rw [br_beq_neg h3]
 by_cases h4' : part = 4
 ·rw [br_beq_pos h4', br_beq_pos h4', if_pos (.inr (.inl h4'))]
  exact fin 4 h4' (by omega) (by omega)
 rw [br_beq_neg h4']
 by_cases h5 : part = 5
 ·rw [br_beq_pos h5, if_pos (.inr (.inr h5))]
  exact fin 5 h5 (by omega) (by omega)
 rw [br_beq_neg h5, if_neg (by omega)]
theorem R17_l6 {n : Nat} (hn : N3 n) (x : List Int) (hl : x.length = n) {ρ : Type} (k0 : Int → Int → List Int → Option ρ) :
    P.R17_Digits_l6 0 0 (digitsS x 4 ((2 * n : Nat) : Int)) k0 = k0 ((wl n x : Nat) : Int) ((2 * n : Nat) : Int) (digitsS x 4 ((2 * n : Nat) : Int)) := by
 have hn2 : n ≤ 32 := by rcases hn with rfl | rfl | rfl <;> omega
 have hlen := wd4_len n x hl
 rw [P.R17_Digits_l6_eq]
 unfold P.R17_Digits_L6
 refine lp_go (fun i => (((15 * i - sumTo (digitsS x 4 ((2 * n : Nat) : Int)) i : Nat) : Int), (i : Int), digitsS x 4 ((2 * n : Nat) : Int))) (2 * n) (by simp [sumTo]) (fun i hi next hn' => ?_) (fun next => ?_) (by omega)
 ·obtain ⟨d, hd, hd2⟩ := num_at' (w := 4) (wd_in n x) i
  have hle := sumTo_le (digitsS x 4 ((2 * n : Nat) : Int)) 4 (wd_in n x) i
  simp only [sumTo, hd, Int.toNat_natCast] at hn'
  simp only [P.R17_Digits_r6, toNat_cast]
  rw [hd, br_pos (by omega), br_pos (by omega), br_pos (by omega), u64n _ (by omega), i64w (by omega) (by omega), show ((15 * i - sumTo (digitsS x 4 ((2 * n : Nat) : Int)) i : Nat) : Int) + (15 : Int) = ((15 * i - sumTo (digitsS x 4 ((2 * n : Nat) : Int)) i + 15 : Nat) : Int) by omega, u64n _ (by omega),
   show ((15 * i - sumTo (digitsS x 4 ((2 * n : Nat) : Int)) i + 15 : Nat) : Int) - (d : Int) = ((15 * (i + 1) - (sumTo (digitsS x 4 ((2 * n : Nat) : Int)) i + d) : Nat) : Int) by omega, u64n _ (by omega)]
  exact hn'
 ·simp only [P.R17_Digits_r6]
  rw [br_neg (by omega)]
  rfl
theorem be_digits (s : Nat) (h : s < 961) : digitsS (bsw 8 2 (16 * s)).reverse 4 3 = [((s / 2 ^ 8 : Nat) : Int), ((s / 2 ^ 4 % 2 ^ 4 : Nat) : Int), ((s % 2 ^ 4 : Nat) : Int)] := by
 rw [show (4 : Int) = ((4 : Nat) : Int) from rfl, show (3 : Int) = ((3 : Nat) : Int) from rfl, digits_map _ 4 3 (by omega) (by omega) (by simp), List.reverse_reverse, T_bsw]
 simp only [List.length_reverse, bsw_length, dg, List.range_succ, List.range_zero, List.nil_append, List.map_append, List.map_cons, List.map_nil, List.cons_append]
 refine congr (congrArg _ ?_) (congr (congrArg _ ?_) (congrArg (· :: []) ?_)) <;> omega
theorem R17_tail {n : Nat} (hn : N3 n) (x : List Int) (hx : In 256 x) (hl : x.length = n) {ρ : Type} (k : List Int → Option ρ) :
    (P.R01_Digits x (4 : Int) (IntKind.i64.wrap ((2 : Int) * (n : Int))) fun (q0 : List Int) =>
     P.R17_Digits_l6 (0 : Int) (0 : Int) q0 fun (q1 q2 : Int) (q3 : List Int) =>
      P.R01_Be (IntKind.u64.wrap ((16 : Int) * q1)) (2 : Int) fun (q4 : List Int) =>
       P.R01_Digits q4 (4 : Int) (3 : Int) fun (q5 : List Int) =>
        br (decide ((q3.length + q5.length) * 4 ≤ 140737488355328)) (k (q3 ++ q5)) none) = k (wd n x) := by
 have hn2 : n ≤ 32 := by rcases hn with rfl | rfl | rfl <;> omega
 have hlen := wd4_len n x hl
 have hlt := wl_lt hn x
 rw [i64w (by omega) (by omega), show (2 : Int) * (n : Int) = ((2 * n : Nat) : Int) by omega, R01_Digits _ _ _ hx (by omega), R17_l6 hn x hl, show (16 : Int) * ((wl n x : Nat) : Int) = ((16 * wl n x : Nat) : Int) by omega, u64n _ (by omega), show (2 : Int) = ((2 : Nat) : Int) from rfl, R01_Be _ 2 (by omega) (by omega), R01_Digits _ _ _ (bsw_in 8 2 _).rev (by simp), be_digits _ hlt, br_pos (by rw [hlen]; simp only [List.length_cons, List.length_nil]; omega)]
 rfl
theorem R17_Digits {n : Nat} (hn : N3 n) (x : List Int) (hx : In 256 x) (hl : x.length = n) {ρ : Type} (k : List Int → Option ρ) : P.R17_Digits (n : Int) x k = k (wd n x) := by
 rw [P.R17_Digits_eq]
 unfold P.R17_Digits_raw
 have ht := R17_tail hn x hx hl k
 rcases hn with rfl | rfl | rfl
 ·rw [br_bne_neg (by rfl), br_bne_neg (by rw [hl])]
  exact ht
 ·rw [br_bne_pos (by decide), br_bne_neg (by rfl), br_bne_neg (by rw [hl])]
  exact ht
 ·rw [br_bne_pos (by decide), br_bne_pos (by decide), br_bne_neg (by rfl), br_bne_neg (by rw [hl])]
  exact ht
theorem digits_no (N : Int) (x : List Int) (h : ¬ ((N = 16 ∨ N = 24 ∨ N = 32) ∧ (x.length : Int) = N)) {ρ : Type} (k : List Int → Option ρ) : P.wots_Digits N x k = k [] ∧ P.R17_Digits N x k = k [] := by
 rw [P.wots_Digits_eq, P.R17_Digits_eq]; unfold P.R17_Digits_raw P.wots_Digits_raw
 by_cases h1 : N = 16
 ·rw [br_bne_neg h1, br_bne_neg h1, br_bne_pos (by omega), br_bne_pos (by omega)]; exact ⟨rfl, rfl⟩
 rw [br_bne_pos h1, br_bne_pos h1]
 by_cases h2 : N = 24
 ·rw [br_bne_neg h2, br_bne_neg h2, br_bne_pos (by omega), br_bne_pos (by omega)]; exact ⟨rfl, rfl⟩
 rw [br_bne_pos h2, br_bne_pos h2]
 by_cases h3 : N = 32
 ·rw [br_bne_neg h3, br_bne_neg h3, br_bne_pos (by omega), br_bne_pos (by omega)]; exact ⟨rfl, rfl⟩
 rw [br_bne_pos h3, br_bne_pos h3]; exact ⟨rfl, rfl⟩
end Q
end
