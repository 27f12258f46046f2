/-
  SectorWrites, part O: an interpreter of my own over abstract values, the pure functions, the walks and the plain law.
-/

import Derived.Test.YtknjpkgnideplaaDoorSectorWritesN
import Derived.Test.YtknjpkgnideplaaDoorSectorWritesH
import Derived.Test.YtknjpkgnideplaaDoorSectorWritesG
import Derived.Test.YtknjpkgnideplaaDoorSectorWritesF

section
/- SHA-2: the document's block of words of 32 bits. -/
namespace Q
open Go Go.Abs
set_option linter.unusedVariables false
set_option linter.unusedSimpArgs false
theorem R01_Num (b : List Int) (hb : In 256 b) (hn : b.length ≤ 1000000) {ρ : Type} (k : Int → Option ρ) : P.R01_Num b k = k ((T 8 b.reverse % 2 ^ 64 : Nat) : Int) := by
  rw [P.R01_Num_eq]
  unfold P.R01_Num_raw
  rw [P.R01_Num_l3_eq]
  unfold P.R01_Num_L3
  refine lp_go (fun i => (b, ((T 8 (b.take i).reverse % 2 ^ 64 : Nat) : Int), (i : Int))) b.length (by simp [T]) (fun i hi next hn' => ?_) (fun next => ?_) (by omega)
  · obtain ⟨x, hx, hx2, hx3⟩ := byte_at hb i
    have est := rev_step b i hi
    rw [← hx3] at est
    simp only [P.R01_Num_r3, toNat_cast]
    have e1 : IntKind.u64.wrap (IntKind.u64.wrap (((T 8 (b.take i).reverse % 2 ^ 64 : Nat) : Int) * 256) + IntKind.u64.wrap (x : Int)) = ((T 8 (b.take (i + 1)).reverse % 2 ^ 64 : Nat) : Int) := by
      rw [u64m, u64m, u64m, est]; omega
    rw [hx, e1]
    simp (disch := omega) only [br_pos, br_neg, br_bne_pos, br_bne_neg, br_beq_pos, br_beq_neg, br_not, br_tt, br_ff, i64w]
    exact hn'
  · simp only [P.R01_Num_r3]
    rw [br_neg (by omega), List.take_length]
theorem right_any (x m : Int) (n : Nat) (hm : m = (n : Int)) (hn : n ≤ 32) : ∃ q, ∀ {ρ : Type} (k : Int → Option ρ), P.R07_right x m false k = k q := by
  subst hm
  refine ⟨bits .or .u64 (x.fdiv ((2 : Int) ^ min ((n : Int)).toNat 64)) (bits .and .u64 (IntKind.u64.wrap (x * (2 : Int) ^ min ((32 : Int) - (n : Int)).toNat 64)) 4294967295), fun k => ?_⟩
  rw [P.R07_right_eq]
  unfold P.R07_right_raw
  rw [br_ff, br_neg (by omega), i64w (by omega) (by omega), br_neg (by omega)]
theorem mix_any (x a b c : Int) (l m n : Nat) (ha : a = (l : Int)) (hb : b = (m : Int)) (hc : c = (n : Int)) (h1 : l ≤ 32) (h2 : m ≤ 32) (h3 : n ≤ 32) : ∃ q, ∀ {ρ : Type} (k : Int → Option ρ), P.R07_mix x a b c false false k = k q := by
  obtain ⟨q1, e1⟩ := right_any x a l ha h1
  obtain ⟨q2, e2⟩ := right_any x b m hb h2
  obtain ⟨q3, e3⟩ := right_any x c n hc h3
  refine ⟨bits .xor .u64 (bits .xor .u64 q1 q2) q3, fun k => ?_⟩
  rw [P.R07_mix_eq]
  unfold P.R07_mix_raw
  rw [br_neg (by omega), br_not, br_ff, e3, e1, e2]
theorem mix_any' (x a b c : Int) (l m n : Nat) (ha : a = (l : Int)) (hb : b = (m : Int)) (hc : c = (n : Int)) (h1 : l ≤ 32) (h2 : m ≤ 32) (h3 : n ≤ 32) : ∃ q, ∀ {ρ : Type} (k : Int → Option ρ), P.R07_mix x a b c true false k = k q := by
  obtain ⟨q1, e1⟩ := right_any x a l ha h1
  obtain ⟨q2, e2⟩ := right_any x b m hb h2
  refine ⟨bits .xor .u64 (bits .xor .u64 q1 q2) (x.fdiv ((2 : Int) ^ min c.toNat 64)), fun k => ?_⟩
  rw [P.R07_mix_eq]
  unfold P.R07_mix_raw
  rw [br_neg (by omega), br_not, br_tt, e1, e2]
theorem r32_right (x : BitVec 32) (m : Int) (n : Nat) (hm : m = (n : Int)) (hn : n ≤ 32) {ρ : Type} (k : Int → Option ρ) : P.R07_right (x.toNat : Int) m false k = k ((rr x n).toNat : Int) := by
  subst hm
  rw [P.R07_right_eq]
  unfold P.R07_right_raw
  rw [br_ff, br_neg (by omega), i64w (by omega) (by omega), br_neg (by omega), show (32 : Int) - (n : Int) = ((32 - n : Nat) : Int) by omega]
  simp only [toNat_cast]
  rw [nshr _ _ (by omega), nshl _ _ (by omega), nor]
  rfl
theorem r32_hi (x : BitVec 32) (t : Nat × Nat × Nat) (a b c : Int) (ha : a = (t.1 : Int)) (hb : b = (t.2.1 : Int)) (hc : c = (t.2.2 : Int)) (h1 : t.1 ≤ 32) (h2 : t.2.1 ≤ 32) (h3 : t.2.2 ≤ 32) {ρ : Type} (k : Int → Option ρ) :
    P.R07_mix (x.toNat : Int) a b c false false k = k ((hi t x).toNat : Int) := by
  rw [P.R07_mix_eq]
  unfold P.R07_mix_raw
  rw [br_neg (by omega), br_not, br_ff, r32_right _ _ _ hc h3, r32_right _ _ _ ha h1, r32_right _ _ _ hb h2, nxor, nxor]
  rfl
theorem r32_lo (x : BitVec 32) (t : Nat × Nat × Nat) (a b c : Int) (ha : a = (t.1 : Int)) (hb : b = (t.2.1 : Int)) (hc : c = (t.2.2 : Int)) (h1 : t.1 ≤ 32) (h2 : t.2.1 ≤ 32) (h3 : t.2.2 ≤ 32) {ρ : Type} (k : Int → Option ρ) :
    P.R07_mix (x.toNat : Int) a b c true false k = k ((lo t x).toNat : Int) := by
  rw [P.R07_mix_eq]
  unfold P.R07_mix_raw
  rw [br_neg (by omega), br_not, br_tt, r32_right _ _ _ ha h1, r32_right _ _ _ hb h2, nxor, hc]
  simp only [toNat_cast]
  rw [nshr _ _ (by omega), nxor]
  rfl
theorem s4_32 (a b c d : BitVec 32) : bits .and .u64 (IntKind.u64.wrap (IntKind.u64.wrap (IntKind.u64.wrap ((a.toNat : Int) + (b.toNat : Int)) + (c.toNat : Int)) + (d.toNat : Int))) 4294967295 = ((a + b + c + d).toNat : Int) := by
  have ha := lt32 a
  have hb := lt32 b
  have hc := lt32 c
  have hd := lt32 d
  rw [← Int.natCast_add, u64n _ (by omega), ← Int.natCast_add, u64n _ (by omega), ← Int.natCast_add, u64n _ (by omega), nmask _ (by omega), BitVec.toNat_add, BitVec.toNat_add, BitVec.toNat_add]
  omega
theorem s2_32 (a b : BitVec 32) : bits .and .u64 (IntKind.u64.wrap ((a.toNat : Int) + (b.toNat : Int))) 4294967295 = ((a + b).toNat : Int) := by
  have ha := lt32 a
  have hb := lt32 b
  rw [← Int.natCast_add, u64n _ (by omega), nmask _ (by omega), BitVec.toNat_add]
theorem s6_32 (d a b c e f : BitVec 32) : bits .and .u64 (IntKind.u64.wrap ((d.toNat : Int) + IntKind.u64.wrap (IntKind.u64.wrap (IntKind.u64.wrap (IntKind.u64.wrap ((a.toNat : Int) + (b.toNat : Int)) + (c.toNat : Int)) + (e.toNat : Int)) + (f.toNat : Int)))) 4294967295 = ((d + (a + b + c + e + f)).toNat : Int) := by
  have hd := lt32 d
  have ha := lt32 a
  have hb := lt32 b
  have hc := lt32 c
  have he := lt32 e
  have hf := lt32 f
  rw [← Int.natCast_add, u64n _ (by omega), ← Int.natCast_add, u64n _ (by omega), ← Int.natCast_add, u64n _ (by omega), ← Int.natCast_add, u64n _ (by omega), ← Int.natCast_add, u64n _ (by omega), nmask _ (by omega), BitVec.toNat_add, BitVec.toNat_add, BitVec.toNat_add, BitVec.toNat_add, BitVec.toNat_add]
  omega
theorem s7_32 (a b c e f g h : BitVec 32) : bits .and .u64 (IntKind.u64.wrap (IntKind.u64.wrap (IntKind.u64.wrap (IntKind.u64.wrap (IntKind.u64.wrap ((a.toNat : Int) + (b.toNat : Int)) + (c.toNat : Int)) + (e.toNat : Int)) + (f.toNat : Int)) + IntKind.u64.wrap ((g.toNat : Int) + (h.toNat : Int)))) 4294967295 = (((a + b + c + e + f) + (g + h)).toNat : Int) := by
  have ha := lt32 a
  have hb := lt32 b
  have hc := lt32 c
  have he := lt32 e
  have hf := lt32 f
  have hg := lt32 g
  have hh := lt32 h
  rw [← Int.natCast_add, u64n _ (by omega), ← Int.natCast_add, u64n _ (by omega), ← Int.natCast_add, u64n _ (by omega), ← Int.natCast_add, u64n _ (by omega), ← Int.natCast_add (g.toNat), u64n _ (by omega), ← Int.natCast_add, u64n _ (by omega), nmask _ (by omega), BitVec.toNat_add, BitVec.toNat_add, BitVec.toNat_add, BitVec.toNat_add, BitVec.toNat_add, BitVec.toNat_add]
  omega
theorem ch_32 (e f g : BitVec 32) : bits .xor .u64 (bits .and .u64 (e.toNat : Int) (f.toNat : Int)) (bits .and .u64 (bits .xor .u64 4294967295 (e.toNat : Int)) (g.toNat : Int)) = ((g ^^^ (e &&& (f ^^^ g))).toNat : Int) := by
  rw [show (4294967295 : Int) = ((BitVec.allOnes 32).toNat : Int) from rfl, nand, nxor, nand, nxor, ch_eq]
theorem maj_32 (a b c : BitVec 32) : bits .xor .u64 (bits .xor .u64 (bits .and .u64 (a.toNat : Int) (b.toNat : Int)) (bits .and .u64 (a.toNat : Int) (c.toNat : Int))) (bits .and .u64 (b.toNat : Int) (c.toNat : Int)) = (((a &&& b) ||| (c &&& (a ||| b))).toNat : Int) := by
  rw [nand, nand, nand, nxor, nxor, maj_eq]
def pre32 (b : List Int) (t : Nat) : List (BitVec 32) := (List.range t).map (W p32 (wordsB 32 b 16))
theorem pre32_succ (b : List Int) (t : Nat) : pre32 b (t + 1) = pre32 b t ++ [W p32 (wordsB 32 b 16) t] := by simp [pre32, List.range_succ]
theorem pre32_len (b : List Int) (t : Nat) : (pre32 b t).length = t := by simp [pre32]
theorem pre32_at (b : List Int) (t i : Nat) (h : i < t) : (pre32 b t).getD i 0 = W p32 (wordsB 32 b 16) i := by
  unfold pre32
  rw [getD_lt (by simpa using h)]; simp
theorem W32_low (b : List Int) (t : Nat) (h : t < 16) : W p32 (wordsB 32 b 16) t = BitVec.ofNat 32 (T 8 ((b.take ((t + 1) * 4)).drop (t * 4)).reverse) := by
  rw [← W_eq p32 _ (by rw [wordsB_len]; omega) 0 t (by rw [wordsB_len]; omega), show sched p32 (wordsB 32 b 16) 0 = wordsB 32 b 16 from rfl, getD_lt (by rw [wordsB_len]; exact h)]
  simp [wordsB]
theorem r32_words (b : List Int) (hb : In 256 b) (hl : b.length = 16 * 4) {ρ : Type} (k : List Int → Option ρ) : P.R07_words b false 64 4294967295 k = k (cv (pre32 b 64)) := by
  rw [P.R07_words_eq]
  unfold P.R07_words_raw
  rw [br_ff, P.R07_words_l6_eq]
  unfold P.R07_words_L6
  refine lp_go (fun t => (b, false, 64, 4294967295, 4, (t : Int), cv (pre32 b t))) 64 rfl (fun t ht next hn' => ?_) (fun next => ?_) (by omega)
  · simp only [P.R07_words_r6, toNat_cast]
    have e1 : IntKind.i64.wrap ((t : Int) + 1) = ((t + 1 : Nat) : Int) := by rw [i64w (by omega) (by omega)]; omega
    rw [br_pos (by omega)]
    have hlen := pre32_len b t
    by_cases h16 : t < 16
    · have e2 : IntKind.i64.wrap ((t : Int) * 4) = ((t * 4 : Nat) : Int) := by rw [i64w (by omega) (by omega)]; omega
      have e3 : IntKind.i64.wrap (IntKind.i64.wrap ((t : Int) * 4) + 4) = (((t + 1) * 4 : Nat) : Int) := by rw [e2, i64w (by omega) (by omega)]; omega
      have hl2 : ((b.take ((t + 1) * 4)).drop (t * 4)).length = 4 := by simp; omega
      rw [br_pos (by omega), e3, e2, br_pos (by omega), br_pos (by omega), br_pos (by omega)]
      simp only [toNat_cast]
      have hT := T_lt 8 ((b.take ((t + 1) * 4)).drop (t * 4)).reverse
      rw [List.length_reverse, hl2] at hT
      have e4 : ((T 8 ((b.take ((t + 1) * 4)).drop (t * 4)).reverse % 2 ^ 64 : Nat) : Int) = ((W p32 (wordsB 32 b 16) t).toNat : Int) := by
        rw [W32_low b t h16, BitVec.toNat_ofNat, Nat.mod_eq_of_lt (by omega), Nat.mod_eq_of_lt (by omega)]
      rw [R01_Num _ ((hb.take _).drop _) (by omega), br_pos (by rw [cv_length]; omega), e4, e1, show [((W p32 (wordsB 32 b 16) t).toNat : Int)] = cv [W p32 (wordsB 32 b 16) t] from rfl, cv_append, ← pre32_succ]
      exact hn'
    · have e15 : IntKind.i64.wrap ((t : Int) - 15) = ((t - 15 : Nat) : Int) := by rw [i64w (by omega) (by omega)]; omega
      have e2 : IntKind.i64.wrap ((t : Int) - 2) = ((t - 2 : Nat) : Int) := by rw [i64w (by omega) (by omega)]; omega
      have e7 : IntKind.i64.wrap ((t : Int) - 7) = ((t - 7 : Nat) : Int) := by rw [i64w (by omega) (by omega)]; omega
      have e16 : IntKind.i64.wrap ((t : Int) - 16) = ((t - 16 : Nat) : Int) := by rw [i64w (by omega) (by omega)]; omega
      simp only [e15, e2, e7, e16, toNat_cast, cv_getD, cv_length, hlen]
      rw [pre32_at b t _ (by omega), pre32_at b t _ (by omega), pre32_at b t _ (by omega), pre32_at b t _ (by omega)]
      rw [br_neg (by omega), br_pos (by omega), br_pos (by omega), r32_lo _ p32.a _ _ _ (by rfl) (by rfl) (by rfl) (by decide) (by decide) (by decide), br_pos (by omega), br_pos (by omega), r32_lo _ p32.b _ _ _ (by rfl) (by rfl) (by rfl) (by decide) (by decide) (by decide), br_ff]
      have hW := W_next p32 (wordsB 32 b 16) (wordsB_len b 16) (t - 16)
      rw [show t - 16 + 16 = t by omega, show t - 16 + 1 = t - 15 by omega, show t - 16 + 9 = t - 7 by omega, show t - 16 + 14 = t - 2 by omega] at hW
      have hW2 : lo p32.b (W p32 (wordsB 32 b 16) (t - 2)) + W p32 (wordsB 32 b 16) (t - 7) + lo p32.a (W p32 (wordsB 32 b 16) (t - 15)) + W p32 (wordsB 32 b 16) (t - 16) = W p32 (wordsB 32 b 16) t := by rw [hW]; ac_rfl
      rw [br_pos (by omega), br_pos (by omega), br_pos (by omega), br_pos (by omega), br_pos (by omega), s4_32, hW2, e1, show [((W p32 (wordsB 32 b 16) t).toNat : Int)] = cv [W p32 (wordsB 32 b 16) t] from rfl, cv_append, ← pre32_succ]
      exact hn'
  · simp only [P.R07_words_r6]
    rw [br_neg (by omega)]
theorem r32_l11 (b : List Int) (v : List (BitVec 32)) (hv : v.length = 8) (h0 h1 : List Int) {ρ : Type} (k0 : Bool → Int → Int → Int → List Int → List Int → List Int → List Int → List Int → List Int → Option ρ) :
    P.R07_block_l11 false 64 4294967295 0 h0 h1 P.roots256 P.roots512 (cv (pre32 b 64)) (cv v) k0 = k0 false 64 4294967295 64 h0 h1 P.roots256 P.roots512 (cv (pre32 b 64)) (cv (runs p32 (wordsB 32 b 16) v 64)) := by
  rw [P.R07_block_l11_eq]
  unfold P.R07_block_L11
  refine lp_go (fun t => (false, 64, 4294967295, (t : Int), h0, h1, P.roots256, P.roots512, cv (pre32 b 64), cv (runs p32 (wordsB 32 b 16) v t))) 64 rfl (fun t ht next hn' => ?_) (fun next => ?_) (by omega)
  · simp only [P.R07_block_r11]
    have e1 : IntKind.i64.wrap ((t : Int) + 1) = ((t + 1 : Nat) : Int) := by rw [i64w (by omega) (by omega)]; omega
    have hlen := pre32_len b 64
    simp only [e1, toNat_cast, cv_getD, cv_length, hlen]
    rw [pre32_at b 64 t ht, K32]
    rw [br_pos (by omega), r32_hi _ p32.c _ _ _ (by rfl) (by rfl) (by rfl) (by decide) (by decide) (by decide), r32_hi _ p32.d _ _ _ (by rfl) (by rfl) (by rfl) (by decide) (by decide) (by decide), br_ff]
    rw [br_pos (by omega), br_pos (by omega), br_pos (by omega), br_pos (by omega), ch_32, maj_32, s7_32, s6_32]
    exact hn'
  · simp only [P.R07_block_r11]
    rw [br_neg (by omega)]
    rfl
theorem r32_l25 (v u : List (BitVec 32)) (hv : v.length = 8) (hu : u.length = 8) (h1 : List Int) {ρ : Type} (k0 : Int → Int → List Int → List Int → List Int → Option ρ) :
    P.R07_block_l25 4294967295 0 (cv v) h1 (cv u) k0 = k0 4294967295 8 (cv v) h1 (cv ((List.range 8).map fun i => u.getD i 0 + v.getD i 0)) := by
  rw [P.R07_block_l25_eq]
  unfold P.R07_block_L25
  refine lp_go (fun i => (4294967295, (i : Int), cv v, h1, cv (((List.range i).map fun i => u.getD i 0 + v.getD i 0) ++ u.drop i))) 8 (by simp) (fun i hi next hn' => ?_) (fun next => ?_) (by omega)
  · simp only [P.R07_block_r25, toNat_cast, cv_getD]
    have e1 : IntKind.i64.wrap ((i : Int) + 1) = ((i + 1 : Nat) : Int) := by rw [i64w (by omega) (by omega)]; omega
    have e2 : (((List.range i).map fun i => u.getD i 0 + v.getD i 0) ++ u.drop i).getD i 0 = u.getD i 0 := by
      rw [List.getD_eq_getElem?_getD, List.getElem?_append_right (by simp), List.getElem?_drop, List.length_map, List.length_range, List.getD_eq_getElem?_getD]
      congr 2
      omega
    rw [e1, e2, s2_32, cv_set]
    have e3 : (((List.range i).map fun i => u.getD i 0 + v.getD i 0) ++ u.drop i).set i (u.getD i 0 + v.getD i 0) = ((List.range (i + 1)).map fun i => u.getD i 0 + v.getD i 0) ++ u.drop (i + 1) := by
      rw [List.set_append_right _ _ (by simp), List.length_map, List.length_range, Nat.sub_self, List.range_succ, List.map_append, List.append_assoc, List.drop_eq_getElem_cons (by omega), List.set_cons_zero]
      rfl
    rw [e3]
    simp (disch := omega) only [br_pos, br_neg, br_bne_pos, br_bne_neg, br_beq_pos, br_beq_neg, br_not, br_tt, br_ff, i64w]
    exact hn'
  · simp only [P.R07_block_r25]
    rw [br_neg (by omega), List.drop_eq_nil_of_le (by omega), List.append_nil]
    rfl
theorem r32_block (v : List (BitVec 32)) (hv : v.length = 8) (b : List Int) (hb : In 256 b) (hl : b.length = 16 * 4) {ρ : Type} (k : List Int → Option ρ) : P.R07_block (cv v) b false k = k (cv (blockB p32 v b)) := by
  rw [P.R07_block_eq]
  unfold P.R07_block_raw
  have hr1 : ∀ (k : List Int → Option ρ), P.R07_roots256 k = k P.roots256 := fun k => by rw [P.R07_roots256_eq]; kernel_rfl
  have hr2 : ∀ (k : List Int → Option ρ), P.R07_roots512 k = k P.roots512 := fun k => by rw [P.R07_roots512_eq]; kernel_rfl
  rw [hr1, hr2, br_ff, r32_words b hb hl, r32_l11 b v hv, r32_l25 v _ hv (runs_len _ _ _ hv _)]
  rfl
end Q
end

section
/- SHA-2: the program's engine of 64 bits. -/
namespace Q
open Go Go.Abs
set_option linter.unusedVariables false
set_option linter.unusedSimpArgs false
theorem e64_rot (rd : Int) (t0 t1 t2 t3 : List Int) (x : BitVec 64) (m : Int) (n : Nat) (hm : m = (n : Int)) (hn : n ≤ 64) {ρ : Type} (k : Int → Option ρ) :
    P.sha_engine_uint64_rotated 64 rd t0 t1 t2 t3 (x.toNat : Int) m k = k ((rr x n).toNat : Int) := by
  subst hm
  rw [P.sha_engine_uint64_rotated_eq]
  unfold P.sha_engine_uint64_rotated_raw
  rw [br_neg (by omega), i64w (by omega) (by omega), br_neg (by omega), show (64 : Int) - (n : Int) = ((64 - n : Nat) : Int) by omega]
  simp only [toNat_cast]
  rw [shr64 _ _ hn, shl64 _ _ (by omega), or64]
  rfl
theorem e64_high3 (rd : Int) (x : BitVec 64) {ρ : Type} (k : Int → Option ρ) : P.sha_engine_uint64_high 64 rd [1, 8, 7] [19, 61, 6] [28, 34, 39] [14, 18, 41] (x.toNat : Int) 3 k = k ((hi p64.d x).toNat : Int) := by
  rw [P.sha_engine_uint64_high_eq]
  unfold P.sha_engine_uint64_high_raw
  simp only [List.getD_cons_zero, List.getD_cons_succ]
  rw [br_neg (by decide), br_neg (by decide), br_neg (by decide), br_pos (by decide), e64_rot _ _ _ _ _ _ _ 14 (by rfl) (by omega), e64_rot _ _ _ _ _ _ _ 18 (by rfl) (by omega), e64_rot _ _ _ _ _ _ _ 41 (by rfl) (by omega), xor64, xor64]
  rfl
theorem e64_high2 (rd : Int) (x : BitVec 64) {ρ : Type} (k : Int → Option ρ) : P.sha_engine_uint64_high 64 rd [1, 8, 7] [19, 61, 6] [28, 34, 39] [14, 18, 41] (x.toNat : Int) 2 k = k ((hi p64.c x).toNat : Int) := by
  rw [P.sha_engine_uint64_high_eq]
  unfold P.sha_engine_uint64_high_raw
  simp only [List.getD_cons_zero, List.getD_cons_succ]
  rw [br_neg (by decide), br_neg (by decide), br_pos (by decide), e64_rot _ _ _ _ _ _ _ 28 (by rfl) (by omega), e64_rot _ _ _ _ _ _ _ 34 (by rfl) (by omega), e64_rot _ _ _ _ _ _ _ 39 (by rfl) (by omega), xor64, xor64]
  rfl
theorem e64_low0 (rd : Int) (x : BitVec 64) {ρ : Type} (k : Int → Option ρ) : P.sha_engine_uint64_low 64 rd [1, 8, 7] [19, 61, 6] [28, 34, 39] [14, 18, 41] (x.toNat : Int) 0 k = k ((lo p64.a x).toNat : Int) := by
  rw [P.sha_engine_uint64_low_eq]
  unfold P.sha_engine_uint64_low_raw
  simp only [List.getD_cons_zero, List.getD_cons_succ]
  rw [br_pos (by decide), e64_rot _ _ _ _ _ _ _ 1 (by rfl) (by omega), e64_rot _ _ _ _ _ _ _ 8 (by rfl) (by omega), br_neg (by decide), xor64, show (7 : Int).toNat = 7 from rfl, shr64 _ _ (by omega), xor64]
  rfl
theorem e64_low1 (rd : Int) (x : BitVec 64) {ρ : Type} (k : Int → Option ρ) : P.sha_engine_uint64_low 64 rd [1, 8, 7] [19, 61, 6] [28, 34, 39] [14, 18, 41] (x.toNat : Int) 1 k = k ((lo p64.b x).toNat : Int) := by
  rw [P.sha_engine_uint64_low_eq]
  unfold P.sha_engine_uint64_low_raw
  simp only [List.getD_cons_zero, List.getD_cons_succ]
  rw [br_neg (by decide), br_pos (by decide), e64_rot _ _ _ _ _ _ _ 19 (by rfl) (by omega), e64_rot _ _ _ _ _ _ _ 61 (by rfl) (by omega), br_neg (by decide), xor64, show (6 : Int).toNat = 6 from rfl, shr64 _ _ (by omega), xor64]
  rfl
theorem e64_root (t : Nat) (h : t < 80) {ρ : Type} (k : Int → Option ρ) : P.sha_root512 (t : Int) k = k ((p64.K t).toNat : Int) := by
  rw [P.sha_root512_eq]
  unfold P.sha_root512_raw
  rw [br_pos (by omega), br_pos (by omega), toNat_cast, K64]
theorem e64_l4 (b : List Int) (hb : In 256 b) (hl : b.length = 16 * 8) (rd : Int) (t0 t1 t2 t3 h1 h2 : List Int) {ρ : Type} (k0 : List Int → Int → Int → Int → Int → List Int → List Int → List Int → List Int → List Int → List Int → List Int → Option ρ) :
    P.sha_engine_uint64_block_l4 b 8 0 64 rd t0 t1 t2 t3 h1 h2 (List.replicate 16 0) k0 = k0 b 8 16 64 rd t0 t1 t2 t3 h1 h2 (cv (wordsB 64 b 16)) := by
  rw [P.sha_engine_uint64_block_l4_eq]
  unfold P.sha_engine_uint64_block_L4
  refine lp_go (fun i => (b, 8, (i : Int), 64, rd, t0, t1, t2, t3, h1, h2, cv (wordsB 64 b i) ++ List.replicate (16 - i) 0)) 16 (by simp [wordsB, cv]) (fun i hi next hn' => ?_) (fun next => ?_) (by omega)
  · simp only [P.sha_engine_uint64_block_r4, toNat_cast]
    have e1 : IntKind.i64.wrap ((i : Int) * 8) = ((i * 8 : Nat) : Int) := by rw [i64w (by omega) (by omega)]; omega
    have e2 : IntKind.i64.wrap (IntKind.i64.wrap ((i : Int) + 1) * 8) = (((i + 1) * 8 : Nat) : Int) := by rw [i64w (x := (i : Int) + 1) (by omega) (by omega), i64w (by omega) (by omega)]; omega
    rw [e1, e2]
    simp only [toNat_cast]
    have hlen : ((b.take ((i + 1) * 8)).drop (i * 8)).length = 8 := by simp; omega
    rw [br_pos (by omega), br_pos (by omega), br_pos (by omega), br_pos (by omega), bits_Num _ ((hb.take _).drop _) (by omega), br_pos (by omega), br_pos (by omega)]
    have e3 : ((T 8 ((b.take ((i + 1) * 8)).drop (i * 8)).reverse % 2 ^ 64 : Nat) : Int) = (((BitVec.ofNat 64 (T 8 ((b.take ((i + 1) * 8)).drop (i * 8)).reverse)).toNat : Nat) : Int) := by
      rw [BitVec.toNat_ofNat]
    have e4 : IntKind.i64.wrap ((i : Int) + 1) = ((i + 1 : Nat) : Int) := by rw [i64w (by omega) (by omega)]; omega
    rw [e3, e4]
    have e5 : (cv (wordsB 64 b i) ++ List.replicate (16 - i) (0 : Int)).set i (((BitVec.ofNat 64 (T 8 ((b.take ((i + 1) * 8)).drop (i * 8)).reverse)).toNat : Nat) : Int) = cv (wordsB 64 b (i + 1)) ++ List.replicate (16 - (i + 1)) 0 := by
      rw [List.set_append_right _ _ (by simp [wordsB_len]), cv_length, wordsB_len, Nat.sub_self, show 16 - i = (16 - (i + 1)) + 1 by omega, List.replicate_succ, List.set_cons_zero, wordsB_succ, ← cv_append, List.append_assoc]
      rfl
    rw [e5]
    exact hn'
  · simp only [P.sha_engine_uint64_block_r4]
    rw [br_neg (by omega)]
    simp
theorem e64_l10 (l v : List (BitVec 64)) (hv : v.length = 8) (h2 h1 : List Int) {ρ : Type} (k0 : Int → Int → List Int → List Int → List Int → Int → Int → List Int → List Int → List Int → List Int → List Int → Option ρ) (hl : l.length = 16) :
    P.sha_engine_uint64_block_l10 80 0 (cv (win p64 l 0)) h2 h1 64 80 [1, 8, 7] [19, 61, 6] [28, 34, 39] [14, 18, 41] (cv v) k0 =
      k0 80 80 (cv (win p64 l 80)) h2 h1 64 80 [1, 8, 7] [19, 61, 6] [28, 34, 39] [14, 18, 41] (cv (runs p64 l v 80)) := by
  rw [P.sha_engine_uint64_block_l10_eq]
  unfold P.sha_engine_uint64_block_L10
  refine lp_go (fun t => (80, (t : Int), cv (win p64 l t), h2, h1, 64, 80, [1, 8, 7], [19, 61, 6], [28, 34, 39], [14, 18, 41], cv (runs p64 l v t))) 80 rfl (fun t ht next hn' => ?_) (fun next => ?_) (by omega)
  · simp only [P.sha_engine_uint64_block_r10]
    have e1 : IntKind.i64.wrap ((t : Int) + 1) = ((t + 1 : Nat) : Int) := by rw [i64w (by omega) (by omega)]; omega
    have e9 : IntKind.i64.wrap ((t : Int) + 9) = ((t + 9 : Nat) : Int) := by rw [i64w (by omega) (by omega)]; omega
    have e14 : IntKind.i64.wrap ((t : Int) + 14) = ((t + 14 : Nat) : Int) := by rw [i64w (by omega) (by omega)]; omega
    simp only [e1, e9, e14, tm16, toNat_cast, cv_getD]
    have g0 := win_at p64 l t 0 (by omega)
    rw [Nat.add_zero] at g0
    rw [g0, win_at p64 l t 1 (by omega), win_at p64 l t 9 (by omega), win_at p64 l t 14 (by omega)]
    have hV := v8 _ (runs_len p64 l v hv t)
    rw [br_pos (by omega), br_pos (by omega), br_pos (by omega), e64_high3, e64_root t ht, e64_high2, br_pos (by omega), br_pos (by omega), e64_low0, br_pos (by omega), br_pos (by omega), br_pos (by omega), br_pos (by omega), e64_low1, br_pos (by omega), br_pos (by omega)]
    simp only [add64, xor64, and64, or64]
    rw [← W_next p64 l hl t, cv_set, win_next]
    have hr : cv (runs p64 l v (t + 1)) = (((List.take 1 (cv (runs p64 l v t))).append (List.take 7 (List.take 7 (List.drop 0 (cv (runs p64 l v t)))) ++ List.drop (1 + min 7 (List.take 7 (List.drop 0 (cv (runs p64 l v t)))).length) (cv (runs p64 l v t)))).set 4
        (((runs p64 l v t).getD 3 0 + rnd1 p64 t (W p64 l t) (runs p64 l v t)).toNat : Int)).set 0 ((rnd1 p64 t (W p64 l t) (runs p64 l v t) + rnd2 p64 (runs p64 l v t)).toNat : Int) := by
      rw [hV]
      rfl
    have h3 : ((List.take 1 (cv (runs p64 l v t))).append (List.take 7 (List.take 7 (List.drop 0 (cv (runs p64 l v t)))) ++ List.drop (1 + min 7 (List.take 7 (List.drop 0 (cv (runs p64 l v t)))).length) (cv (runs p64 l v t)))).getD 4 0 = (((runs p64 l v t).getD 3 0).toNat : Int) := by
      rw [hV]
      rfl
    rw [h3, add64]
    rw [hr] at hn'
    exact hn'
  · simp only [P.sha_engine_uint64_block_r10]
    rw [br_neg (by omega)]
    rfl
theorem e64_l21 (v u : List (BitVec 64)) (hv : v.length = 8) (hu : u.length = 8) (h2 : List Int) {ρ : Type} (k0 : Int → List Int → List Int → List Int → Option ρ) :
    P.sha_engine_uint64_block_l21 0 (cv v) h2 (cv u) k0 = k0 8 (cv v) h2 (cv ((List.range 8).map fun i => u.getD i 0 + v.getD i 0)) := by
  rw [P.sha_engine_uint64_block_l21_eq]
  unfold P.sha_engine_uint64_block_L21
  have hs : ∀ i, i ≤ 8 → (((List.range i).map fun i => u.getD i 0 + v.getD i 0) ++ u.drop i).length = 8 := fun i hi => by simp; omega
  refine lp_go (fun i => ((i : Int), cv v, h2, cv (((List.range i).map fun i => u.getD i 0 + v.getD i 0) ++ u.drop i))) 8 (by simp) (fun i hi next hn' => ?_) (fun next => ?_) (by omega)
  · simp only [P.sha_engine_uint64_block_r21, toNat_cast, cv_getD]
    have e1 : IntKind.i64.wrap ((i : Int) + 1) = ((i + 1 : Nat) : Int) := by rw [i64w (by omega) (by omega)]; omega
    have e2 : (((List.range i).map fun i => u.getD i 0 + v.getD i 0) ++ u.drop i).getD i 0 = u.getD i 0 := by
      rw [List.getD_eq_getElem?_getD, List.getElem?_append_right (by simp), List.getElem?_drop, List.length_map, List.length_range, List.getD_eq_getElem?_getD]
      congr 2
      omega
    rw [e1, e2, add64, cv_set]
    have e3 : (((List.range i).map fun i => u.getD i 0 + v.getD i 0) ++ u.drop i).set i (u.getD i 0 + v.getD i 0) = ((List.range (i + 1)).map fun i => u.getD i 0 + v.getD i 0) ++ u.drop (i + 1) := by
      rw [List.set_append_right _ _ (by simp), List.length_map, List.length_range, Nat.sub_self, List.range_succ, List.map_append, List.append_assoc, List.drop_eq_getElem_cons (by omega), List.set_cons_zero]
      rfl
    rw [e3]
    simp (disch := omega) only [br_pos, br_neg, br_bne_pos, br_bne_neg, br_beq_pos, br_beq_neg, br_not, br_tt, br_ff, i64w]
    exact hn'
  · simp only [P.sha_engine_uint64_block_r21]
    rw [br_neg (by omega), List.drop_eq_nil_of_le (by omega), List.append_nil]
    rfl
theorem e64_block (v : List (BitVec 64)) (hv : v.length = 8) (b : List Int) (hb : In 256 b) (hl : b.length = 16 * 8) {ρ : Type} (k : List Int → Option ρ) :
    P.sha_engine_uint64_block 64 80 [1, 8, 7] [19, 61, 6] [28, 34, 39] [14, 18, 41] (cv v) b k = k (cv (blockB p64 v b)) := by
  rw [P.sha_engine_uint64_block_eq]
  unfold P.sha_engine_uint64_block_raw
  rw [show IntKind.i64.wrap ((64 : Int).tdiv 8) = 8 from rfl]
  have := e64_l4 b hb hl 80 [1, 8, 7] [19, 61, 6] [28, 34, 39] [14, 18, 41] (cv v) (List.replicate 8 0) (fun (q0 : List Int) (q1 q2 q3 q4 : Int) (q5 q6 q7 q8 q9 q10 q11 : List Int) =>
    P.sha_engine_uint64_block_l10 q4 (0 : Int) q11 q10 q9 q3 q4 q5 q6 q7 q8 q9
      fun (q12 q13 : Int) (q14 q15 q16 : List Int) (q17 q18 : Int) (q19 q20 q21 q22 q23 : List Int) =>
      P.sha_engine_uint64_block_l21 (0 : Int) q16 q15 q23 fun (q24 : Int) (q25 q26 q27 : List Int) => k q27)
  refine this.trans ?_
  rw [← win_zero p64, e64_l10 _ v hv _ _ _ (wordsB_len b 16), e64_l21 v _ hv (runs_len _ _ _ hv _)]
  rfl
end Q
end

section
/- SHA-2: the document's block of words of 64 bits. -/
namespace Q
open Go Go.Abs
set_option linter.unusedVariables false
set_option linter.unusedSimpArgs false
theorem r64_right (x : BitVec 64) (m : Int) (n : Nat) (hm : m = (n : Int)) (hn : n ≤ 64) {ρ : Type} (k : Int → Option ρ) : P.R07_right (x.toNat : Int) m true k = k ((rr x n).toNat : Int) := by
  subst hm
  rw [P.R07_right_eq]
  unfold P.R07_right_raw
  rw [br_tt, br_neg (by omega), i64w (by omega) (by omega), br_neg (by omega), show (64 : Int) - (n : Int) = ((64 - n : Nat) : Int) by omega]
  simp only [toNat_cast]
  rw [shr64 _ _ hn, shl64 _ _ (by omega), or64]
  rfl
theorem r64_hi (x : BitVec 64) (t : Nat × Nat × Nat) (a b c : Int) (ha : a = (t.1 : Int)) (hb : b = (t.2.1 : Int)) (hc : c = (t.2.2 : Int)) (h1 : t.1 ≤ 64) (h2 : t.2.1 ≤ 64) (h3 : t.2.2 ≤ 64) {ρ : Type} (k : Int → Option ρ) :
    P.R07_mix (x.toNat : Int) a b c false true k = k ((hi t x).toNat : Int) := by
  rw [P.R07_mix_eq]
  unfold P.R07_mix_raw
  rw [br_neg (by omega), br_not, br_ff, r64_right _ _ _ hc h3, r64_right _ _ _ ha h1, r64_right _ _ _ hb h2, xor64, xor64]
  rfl
theorem r64_lo (x : BitVec 64) (t : Nat × Nat × Nat) (a b c : Int) (ha : a = (t.1 : Int)) (hb : b = (t.2.1 : Int)) (hc : c = (t.2.2 : Int)) (h1 : t.1 ≤ 64) (h2 : t.2.1 ≤ 64) (h3 : t.2.2 ≤ 64) {ρ : Type} (k : Int → Option ρ) :
    P.R07_mix (x.toNat : Int) a b c true true k = k ((lo t x).toNat : Int) := by
  rw [P.R07_mix_eq]
  unfold P.R07_mix_raw
  rw [br_neg (by omega), br_not, br_tt, r64_right _ _ _ ha h1, r64_right _ _ _ hb h2, xor64, hc]
  simp only [toNat_cast]
  rw [shr64 _ _ h3, xor64]
  rfl
theorem s4_64 (a b c d : BitVec 64) : bits .and .u64 (IntKind.u64.wrap (IntKind.u64.wrap (IntKind.u64.wrap ((a.toNat : Int) + (b.toNat : Int)) + (c.toNat : Int)) + (d.toNat : Int))) 18446744073709551615 = ((a + b + c + d).toNat : Int) := by
  rw [add64, add64, add64, wmask _ (lt64 _)]
theorem s2_64 (a b : BitVec 64) : bits .and .u64 (IntKind.u64.wrap ((a.toNat : Int) + (b.toNat : Int))) 18446744073709551615 = ((a + b).toNat : Int) := by
  rw [add64, wmask _ (lt64 _)]
theorem s6_64 (d a b c e f : BitVec 64) : bits .and .u64 (IntKind.u64.wrap ((d.toNat : Int) + IntKind.u64.wrap (IntKind.u64.wrap (IntKind.u64.wrap (IntKind.u64.wrap ((a.toNat : Int) + (b.toNat : Int)) + (c.toNat : Int)) + (e.toNat : Int)) + (f.toNat : Int)))) 18446744073709551615 = ((d + (a + b + c + e + f)).toNat : Int) := by
  rw [add64, add64, add64, add64, add64, wmask _ (lt64 _)]
theorem s7_64 (a b c e f g h : BitVec 64) : bits .and .u64 (IntKind.u64.wrap (IntKind.u64.wrap (IntKind.u64.wrap (IntKind.u64.wrap (IntKind.u64.wrap ((a.toNat : Int) + (b.toNat : Int)) + (c.toNat : Int)) + (e.toNat : Int)) + (f.toNat : Int)) + IntKind.u64.wrap ((g.toNat : Int) + (h.toNat : Int)))) 18446744073709551615 = (((a + b + c + e + f) + (g + h)).toNat : Int) := by
  rw [add64, add64, add64, add64, add64, add64, wmask _ (lt64 _)]
theorem ch_64 (e f g : BitVec 64) : bits .xor .u64 (bits .and .u64 (e.toNat : Int) (f.toNat : Int)) (bits .and .u64 (bits .xor .u64 18446744073709551615 (e.toNat : Int)) (g.toNat : Int)) = ((g ^^^ (e &&& (f ^^^ g))).toNat : Int) := by
  rw [show (18446744073709551615 : Int) = ((BitVec.allOnes 64).toNat : Int) from rfl, and64, xor64, and64, xor64, ch_eq]
theorem maj_64 (a b c : BitVec 64) : bits .xor .u64 (bits .xor .u64 (bits .and .u64 (a.toNat : Int) (b.toNat : Int)) (bits .and .u64 (a.toNat : Int) (c.toNat : Int))) (bits .and .u64 (b.toNat : Int) (c.toNat : Int)) = (((a &&& b) ||| (c &&& (a ||| b))).toNat : Int) := by
  rw [and64, and64, and64, xor64, xor64, maj_eq]
def pre64 (b : List Int) (t : Nat) : List (BitVec 64) := (List.range t).map (W p64 (wordsB 64 b 16))
theorem pre64_succ (b : List Int) (t : Nat) : pre64 b (t + 1) = pre64 b t ++ [W p64 (wordsB 64 b 16) t] := by simp [pre64, List.range_succ]
theorem pre64_len (b : List Int) (t : Nat) : (pre64 b t).length = t := by simp [pre64]
theorem pre64_at (b : List Int) (t i : Nat) (h : i < t) : (pre64 b t).getD i 0 = W p64 (wordsB 64 b 16) i := by
  unfold pre64
  rw [getD_lt (by simpa using h)]; simp
theorem W64_low (b : List Int) (t : Nat) (h : t < 16) : W p64 (wordsB 64 b 16) t = BitVec.ofNat 64 (T 8 ((b.take ((t + 1) * 8)).drop (t * 8)).reverse) := by
  rw [← W_eq p64 _ (by rw [wordsB_len]; omega) 0 t (by rw [wordsB_len]; omega), show sched p64 (wordsB 64 b 16) 0 = wordsB 64 b 16 from rfl, getD_lt (by rw [wordsB_len]; exact h)]
  simp [wordsB]
theorem r64_words (b : List Int) (hb : In 256 b) (hl : b.length = 16 * 8) {ρ : Type} (k : List Int → Option ρ) : P.R07_words b true 80 18446744073709551615 k = k (cv (pre64 b 80)) := by
  rw [P.R07_words_eq]
  unfold P.R07_words_raw
  rw [br_tt, P.R07_words_l6_eq]
  unfold P.R07_words_L6
  refine lp_go (fun t => (b, true, 80, 18446744073709551615, 8, (t : Int), cv (pre64 b t))) 80 rfl (fun t ht next hn' => ?_) (fun next => ?_) (by omega)
  · simp only [P.R07_words_r6, toNat_cast]
    have e1 : IntKind.i64.wrap ((t : Int) + 1) = ((t + 1 : Nat) : Int) := by rw [i64w (by omega) (by omega)]; omega
    rw [br_pos (by omega)]
    have hlen := pre64_len b t
    by_cases h16 : t < 16
    · have e2 : IntKind.i64.wrap ((t : Int) * 8) = ((t * 8 : Nat) : Int) := by rw [i64w (by omega) (by omega)]; omega
      have e3 : IntKind.i64.wrap (IntKind.i64.wrap ((t : Int) * 8) + 8) = (((t + 1) * 8 : Nat) : Int) := by rw [e2, i64w (by omega) (by omega)]; omega
      have hl2 : ((b.take ((t + 1) * 8)).drop (t * 8)).length = 8 := by simp; omega
      rw [br_pos (by omega), e3, e2, br_pos (by omega), br_pos (by omega), br_pos (by omega)]
      simp only [toNat_cast]
      have hT := T_lt 8 ((b.take ((t + 1) * 8)).drop (t * 8)).reverse
      rw [List.length_reverse, hl2] at hT
      have e4 : ((T 8 ((b.take ((t + 1) * 8)).drop (t * 8)).reverse % 2 ^ 64 : Nat) : Int) = ((W p64 (wordsB 64 b 16) t).toNat : Int) := by
        rw [W64_low b t h16, BitVec.toNat_ofNat]
      rw [R01_Num _ ((hb.take _).drop _) (by omega), br_pos (by rw [cv_length]; omega), e4, e1, show [((W p64 (wordsB 64 b 16) t).toNat : Int)] = cv [W p64 (wordsB 64 b 16) t] from rfl, cv_append, ← pre64_succ]
      exact hn'
    · have e15 : IntKind.i64.wrap ((t : Int) - 15) = ((t - 15 : Nat) : Int) := by rw [i64w (by omega) (by omega)]; omega
      have e2 : IntKind.i64.wrap ((t : Int) - 2) = ((t - 2 : Nat) : Int) := by rw [i64w (by omega) (by omega)]; omega
      have e7 : IntKind.i64.wrap ((t : Int) - 7) = ((t - 7 : Nat) : Int) := by rw [i64w (by omega) (by omega)]; omega
      have e16 : IntKind.i64.wrap ((t : Int) - 16) = ((t - 16 : Nat) : Int) := by rw [i64w (by omega) (by omega)]; omega
      simp only [e15, e2, e7, e16, toNat_cast, cv_getD, cv_length, hlen]
      rw [pre64_at b t _ (by omega), pre64_at b t _ (by omega), pre64_at b t _ (by omega), pre64_at b t _ (by omega)]
      obtain ⟨q1, m1⟩ := mix_any' ((W p64 (wordsB 64 b 16) (t - 15)).toNat : Int) 7 18 3 7 18 3 rfl rfl rfl (by omega) (by omega) (by omega)
      obtain ⟨q2, m2⟩ := mix_any' ((W p64 (wordsB 64 b 16) (t - 2)).toNat : Int) 17 19 10 17 19 10 rfl rfl rfl (by omega) (by omega) (by omega)
      rw [br_neg (by omega), br_pos (by omega), br_pos (by omega), m1, br_pos (by omega), br_pos (by omega), m2, br_tt, br_pos (by omega), br_pos (by omega), r64_lo _ p64.a _ _ _ (by rfl) (by rfl) (by rfl) (by decide) (by decide) (by decide), br_pos (by omega), br_pos (by omega), r64_lo _ p64.b _ _ _ (by rfl) (by rfl) (by rfl) (by decide) (by decide) (by decide)]
      have hW := W_next p64 (wordsB 64 b 16) (wordsB_len b 16) (t - 16)
      rw [show t - 16 + 16 = t by omega, show t - 16 + 1 = t - 15 by omega, show t - 16 + 9 = t - 7 by omega, show t - 16 + 14 = t - 2 by omega] at hW
      have hW2 : lo p64.b (W p64 (wordsB 64 b 16) (t - 2)) + W p64 (wordsB 64 b 16) (t - 7) + lo p64.a (W p64 (wordsB 64 b 16) (t - 15)) + W p64 (wordsB 64 b 16) (t - 16) = W p64 (wordsB 64 b 16) t := by rw [hW]; ac_rfl
      rw [br_pos (by omega), br_pos (by omega), br_pos (by omega), br_pos (by omega), br_pos (by omega), s4_64, hW2, e1, show [((W p64 (wordsB 64 b 16) t).toNat : Int)] = cv [W p64 (wordsB 64 b 16) t] from rfl, cv_append, ← pre64_succ]
      exact hn'
  · simp only [P.R07_words_r6]
    rw [br_neg (by omega)]
theorem r64_l11 (b : List Int) (v : List (BitVec 64)) (hv : v.length = 8) (h0 h1 : List Int) {ρ : Type} (k0 : Bool → Int → Int → Int → List Int → List Int → List Int → List Int → List Int → List Int → Option ρ) :
    P.R07_block_l11 true 80 18446744073709551615 0 h0 h1 P.roots256 P.roots512 (cv (pre64 b 80)) (cv v) k0 = k0 true 80 18446744073709551615 80 h0 h1 P.roots256 P.roots512 (cv (pre64 b 80)) (cv (runs p64 (wordsB 64 b 16) v 80)) := by
  rw [P.R07_block_l11_eq]
  unfold P.R07_block_L11
  refine lp_go (fun t => (true, 80, 18446744073709551615, (t : Int), h0, h1, P.roots256, P.roots512, cv (pre64 b 80), cv (runs p64 (wordsB 64 b 16) v t))) 80 rfl (fun t ht next hn' => ?_) (fun next => ?_) (by omega)
  · simp only [P.R07_block_r11]
    have e1 : IntKind.i64.wrap ((t : Int) + 1) = ((t + 1 : Nat) : Int) := by rw [i64w (by omega) (by omega)]; omega
    have hlen := pre64_len b 80
    simp only [e1, toNat_cast, cv_getD, cv_length, hlen]
    rw [pre64_at b 80 t ht, K64]
    obtain ⟨q1, m1⟩ := mix_any (((runs p64 (wordsB 64 b 16) v t).getD 0 0).toNat : Int) 2 13 22 2 13 22 rfl rfl rfl (by omega) (by omega) (by omega)
    obtain ⟨q2, m2⟩ := mix_any (((runs p64 (wordsB 64 b 16) v t).getD 4 0).toNat : Int) 6 11 25 6 11 25 rfl rfl rfl (by omega) (by omega) (by omega)
    rw [br_pos (by omega), m1, m2, br_tt, r64_hi _ p64.c _ _ _ (by rfl) (by rfl) (by rfl) (by decide) (by decide) (by decide), r64_hi _ p64.d _ _ _ (by rfl) (by rfl) (by rfl) (by decide) (by decide) (by decide)]
    rw [br_pos (by omega), br_pos (by omega), br_pos (by omega), br_pos (by omega), ch_64, maj_64, s7_64, s6_64]
    exact hn'
  · simp only [P.R07_block_r11]
    rw [br_neg (by omega)]
    rfl
theorem r64_l25 (v u : List (BitVec 64)) (hv : v.length = 8) (hu : u.length = 8) (h1 : List Int) {ρ : Type} (k0 : Int → Int → List Int → List Int → List Int → Option ρ) :
    P.R07_block_l25 18446744073709551615 0 (cv v) h1 (cv u) k0 = k0 18446744073709551615 8 (cv v) h1 (cv ((List.range 8).map fun i => u.getD i 0 + v.getD i 0)) := by
  rw [P.R07_block_l25_eq]
  unfold P.R07_block_L25
  refine lp_go (fun i => (18446744073709551615, (i : Int), cv v, h1, cv (((List.range i).map fun i => u.getD i 0 + v.getD i 0) ++ u.drop i))) 8 (by simp) (fun i hi next hn' => ?_) (fun next => ?_) (by omega)
  · simp only [P.R07_block_r25, toNat_cast, cv_getD]
    have e1 : IntKind.i64.wrap ((i : Int) + 1) = ((i + 1 : Nat) : Int) := by rw [i64w (by omega) (by omega)]; omega
    have e2 : (((List.range i).map fun i => u.getD i 0 + v.getD i 0) ++ u.drop i).getD i 0 = u.getD i 0 := by
      rw [List.getD_eq_getElem?_getD, List.getElem?_append_right (by simp), List.getElem?_drop, List.length_map, List.length_range, List.getD_eq_getElem?_getD]
      congr 2
      omega
    rw [e1, e2, s2_64, cv_set]
    have e3 : (((List.range i).map fun i => u.getD i 0 + v.getD i 0) ++ u.drop i).set i (u.getD i 0 + v.getD i 0) = ((List.range (i + 1)).map fun i => u.getD i 0 + v.getD i 0) ++ u.drop (i + 1) := by
      rw [List.set_append_right _ _ (by simp), List.length_map, List.length_range, Nat.sub_self, List.range_succ, List.map_append, List.append_assoc, List.drop_eq_getElem_cons (by omega), List.set_cons_zero]
      rfl
    rw [e3]
    simp (disch := omega) only [br_pos, br_neg, br_bne_pos, br_bne_neg, br_beq_pos, br_beq_neg, br_not, br_tt, br_ff, i64w]
    exact hn'
  · simp only [P.R07_block_r25]
    rw [br_neg (by omega), List.drop_eq_nil_of_le (by omega), List.append_nil]
    rfl
theorem r64_block (v : List (BitVec 64)) (hv : v.length = 8) (b : List Int) (hb : In 256 b) (hl : b.length = 16 * 8) {ρ : Type} (k : List Int → Option ρ) : P.R07_block (cv v) b true k = k (cv (blockB p64 v b)) := by
  rw [P.R07_block_eq]
  unfold P.R07_block_raw
  have hr1 : ∀ (k : List Int → Option ρ), P.R07_roots256 k = k P.roots256 := fun k => by rw [P.R07_roots256_eq]; kernel_rfl
  have hr2 : ∀ (k : List Int → Option ρ), P.R07_roots512 k = k P.roots512 := fun k => by rw [P.R07_roots512_eq]; kernel_rfl
  rw [hr1, hr2, br_tt, r64_words b hb hl, r64_l11 b v hv, r64_l25 v _ hv (runs_len _ _ _ hv _)]
  rfl
end Q
end

section
open Go Go.Abs
set_option linter.unusedVariables false
namespace P
noncomputable def R01_SameNums_r4 {ρ : Type} (v0 : List Int) (v1 : List Int) (v5 : Int) (nx : (List Int) → (List Int) → Int → Option ρ) (k0 : (List Int) → (List Int) → Int → Option ρ) (k1 : Bool → Option ρ) : Option ρ :=
  br (decide (v5 < (↑v0.length : Int)))
    (br (decide ((0 : Int) ≤ v5))
      (br (decide (v5 < (↑v0.length : Int)))
        (br (decide ((0 : Int) ≤ v5))
          (br (decide (v5 < (↑v1.length : Int)))
            (br (v0.getD v5.toNat (0 : Int) != v1.getD v5.toNat (0 : Int)) (k1 false)
              (nx v0 v1 (IntKind.i64.wrap (v5 + (1 : Int)))))
            none)
          none)
        none)
      none)
    (k0 v0 v1 v5)
noncomputable def R01_SameNums_L4 {ρ : Type} (v0 : List Int) (v1 : List Int) (v5 : Int) (k0 : (List Int) → (List Int) → Int → Option ρ) (k1 : Bool → Option ρ) : Option ρ :=
  lp (fun (x : (List Int) × (List Int) × Int) (next : ((List Int) × (List Int) × Int) → Option ρ) (ex : (((List Int) × (List Int) × Int) ⊕ ((Bool))) → Option ρ) => R01_SameNums_r4 x.1 x.2.1 x.2.2 (fun v0 v1 v5 => next (v0, v1, v5)) (fun v0 v1 v5 => ex (.inl (v0, v1, v5))) (fun v4 => ex (.inr v4))) (v0, v1, v5) (Sum.elim (fun x => k0 x.1 x.2.1 x.2.2) (fun x => k1 x))
noncomputable def R01_SameNums_l4 {ρ : Type} (v0 : List Int) (v1 : List Int) (v5 : Int) (k0 : (List Int) → (List Int) → Int → Option ρ) (k1 : Bool → Option ρ) : Option ρ := shut (R01_SameNums_L4 (ρ := ρ)) v0 v1 v5 k0 k1
theorem R01_SameNums_l4_eq {ρ : Type} (v0 : List Int) (v1 : List Int) (v5 : Int) (k0 : (List Int) → (List Int) → Int → Option ρ) (k1 : Bool → Option ρ) : R01_SameNums_l4 v0 v1 v5 k0 k1 = R01_SameNums_L4 v0 v1 v5 k0 k1 := by unfold R01_SameNums_l4; rw [shut_eq]
noncomputable def R01_SameNums_raw {ρ : Type} (a0 : List Int) (a1 : List Int) (k : Bool → Option ρ) : Option ρ :=
  br ((↑a0.length : Int) != (↑a1.length : Int)) (k false)
    (R01_SameNums_l4 a0 a1 (0 : Int) (fun (q0 q1 : List Int) (q2 : Int) => k true) fun (q3 : Bool) => k q3)
noncomputable def R01_SameNums {ρ : Type} (a0 : List Int) (a1 : List Int) (k : Bool → Option ρ) : Option ρ := shut (R01_SameNums_raw (ρ := ρ)) a0 a1 k
theorem R01_SameNums_eq {ρ : Type} (a0 : List Int) (a1 : List Int) (k : Bool → Option ρ) : R01_SameNums a0 a1 k = R01_SameNums_raw a0 a1 k := by unfold R01_SameNums; rw [shut_eq]
end P
end

section
open Go Go.Abs
set_option linter.unusedVariables false
namespace P
noncomputable def R01_Xor_r3 {ρ : Type} (v0 : List Int) (v1 : List Int) (v6 : Int) (h0 : List Int) (nx : (List Int) → (List Int) → Int → (List Int) → Option ρ) (k0 : (List Int) → (List Int) → Int → (List Int) → Option ρ) : Option ρ :=
  br (decide (v6 < (↑v0.length : Int)))
    (br (decide (v6 < (↑v1.length : Int)))
      (br (decide ((0 : Int) ≤ v6))
        (br (decide (v6 < (↑v0.length : Int)))
          (br (decide ((0 : Int) ≤ v6))
            (br (decide (v6 < (↑v1.length : Int)))
              (br
                (decide
                  ((h0.length + 1) * 1 ≤
                    140737488355328))
                (nx v0 v1 (IntKind.i64.wrap (v6 + (1 : Int)))
                  (h0 ++ [bits BinOp.xor IntKind.u8 (v0.getD v6.toNat (0 : Int)) (v1.getD v6.toNat (0 : Int))]))
                none)
              none)
            none)
          none)
        none)
      (k0 v0 v1 v6 h0))
    (k0 v0 v1 v6 h0)
noncomputable def R01_Xor_L3 {ρ : Type} (v0 : List Int) (v1 : List Int) (v6 : Int) (h0 : List Int) (k0 : (List Int) → (List Int) → Int → (List Int) → Option ρ) : Option ρ :=
  lp (fun (x : (List Int) × (List Int) × Int × (List Int)) (next : ((List Int) × (List Int) × Int × (List Int)) → Option ρ) (ex : (((List Int) × (List Int) × Int × (List Int))) → Option ρ) => R01_Xor_r3 x.1 x.2.1 x.2.2.1 x.2.2.2 (fun v0 v1 v6 h0 => next (v0, v1, v6, h0)) (fun v0 v1 v6 h0 => ex ((v0, v1, v6, h0)))) (v0, v1, v6, h0) (fun x => k0 x.1 x.2.1 x.2.2.1 x.2.2.2)
noncomputable def R01_Xor_l3 {ρ : Type} (v0 : List Int) (v1 : List Int) (v6 : Int) (h0 : List Int) (k0 : (List Int) → (List Int) → Int → (List Int) → Option ρ) : Option ρ := shut (R01_Xor_L3 (ρ := ρ)) v0 v1 v6 h0 k0
theorem R01_Xor_l3_eq {ρ : Type} (v0 : List Int) (v1 : List Int) (v6 : Int) (h0 : List Int) (k0 : (List Int) → (List Int) → Int → (List Int) → Option ρ) : R01_Xor_l3 v0 v1 v6 h0 k0 = R01_Xor_L3 v0 v1 v6 h0 k0 := by unfold R01_Xor_l3; rw [shut_eq]
noncomputable def R01_Xor_raw {ρ : Type} (a0 : List Int) (a1 : List Int) (k : (List Int) → Option ρ) : Option ρ :=
  R01_Xor_l3 a0 a1 (0 : Int) [] fun (q0 q1 : List Int) (q2 : Int) (q3 : List Int) => k q3
noncomputable def R01_Xor {ρ : Type} (a0 : List Int) (a1 : List Int) (k : (List Int) → Option ρ) : Option ρ := shut (R01_Xor_raw (ρ := ρ)) a0 a1 k
theorem R01_Xor_eq {ρ : Type} (a0 : List Int) (a1 : List Int) (k : (List Int) → Option ρ) : R01_Xor a0 a1 k = R01_Xor_raw a0 a1 k := by unfold R01_Xor; rw [shut_eq]
end P
end

section
open Go Go.Abs
set_option linter.unusedVariables false
namespace P
noncomputable def bits_Xor_r3 {ρ : Type} (v1 : List Int) (v16 : Int) (v17 : Int) (h0 : List Int) (nx : (List Int) → Int → Int → (List Int) → Option ρ) (k0 : (List Int) → Int → Int → (List Int) → Option ρ) : Option ρ :=
  br (decide (v17 < v16))
    (br (decide ((0 : Int) ≤ v17))
      (br (decide (v17 < (↑h0.length : Int)))
        (br (decide ((0 : Int) ≤ v17))
          (br (decide (v17 < (↑v1.length : Int)))
            (br (decide ((0 : Int) ≤ v17))
              (br (decide (v17 < (↑h0.length : Int)))
                (nx v1 v16 (IntKind.i64.wrap (v17 + (1 : Int)))
                  (h0.set v17.toNat
                    (bits BinOp.xor IntKind.u8 (h0.getD v17.toNat (0 : Int)) (v1.getD v17.toNat (0 : Int)))))
                none)
              none)
            none)
          none)
        none)
      none)
    (k0 v1 v16 v17 h0)
noncomputable def bits_Xor_L3 {ρ : Type} (v1 : List Int) (v16 : Int) (v17 : Int) (h0 : List Int) (k0 : (List Int) → Int → Int → (List Int) → Option ρ) : Option ρ :=
  lp (fun (x : (List Int) × Int × Int × (List Int)) (next : ((List Int) × Int × Int × (List Int)) → Option ρ) (ex : (((List Int) × Int × Int × (List Int))) → Option ρ) => bits_Xor_r3 x.1 x.2.1 x.2.2.1 x.2.2.2 (fun v1 v16 v17 h0 => next (v1, v16, v17, h0)) (fun v1 v16 v17 h0 => ex ((v1, v16, v17, h0)))) (v1, v16, v17, h0) (fun x => k0 x.1 x.2.1 x.2.2.1 x.2.2.2)
noncomputable def bits_Xor_l3 {ρ : Type} (v1 : List Int) (v16 : Int) (v17 : Int) (h0 : List Int) (k0 : (List Int) → Int → Int → (List Int) → Option ρ) : Option ρ := shut (bits_Xor_L3 (ρ := ρ)) v1 v16 v17 h0 k0
theorem bits_Xor_l3_eq {ρ : Type} (v1 : List Int) (v16 : Int) (v17 : Int) (h0 : List Int) (k0 : (List Int) → Int → Int → (List Int) → Option ρ) : bits_Xor_l3 v1 v16 v17 h0 k0 = bits_Xor_L3 v1 v16 v17 h0 k0 := by unfold bits_Xor_l3; rw [shut_eq]
noncomputable def bits_Xor_raw {ρ : Type} (a0 : List Int) (a1 : List Int) (k : (List Int) → Option ρ) : Option ρ :=
  br
    (decide
      ((0 : Int) ≤ bif decide ((↑a1.length : Int) < (↑a0.length : Int)) then (↑a1.length : Int) else (↑a0.length : Int)))
    (br
      (decide
        ((bif decide ((↑a1.length : Int) < (↑a0.length : Int)) then (↑a1.length : Int) else (↑a0.length : Int)) ≤
          (↑a0.length : Int)))
      (slices_Clone_byte
        (List.drop 0
          (List.take
            (bif decide ((↑a1.length : Int) < (↑a0.length : Int)) then (↑a1.length : Int) else (↑a0.length : Int)).toNat
            a0))
        fun (q0 : List Int) =>
        bits_Xor_l3 a1 (↑q0.length : Int) (0 : Int) q0 fun (q1 : List Int) (q2 q3 : Int) (q4 : List Int) => k q4)
      none)
    none
noncomputable def bits_Xor {ρ : Type} (a0 : List Int) (a1 : List Int) (k : (List Int) → Option ρ) : Option ρ := shut (bits_Xor_raw (ρ := ρ)) a0 a1 k
theorem bits_Xor_eq {ρ : Type} (a0 : List Int) (a1 : List Int) (k : (List Int) → Option ρ) : bits_Xor a0 a1 k = bits_Xor_raw a0 a1 k := by unfold bits_Xor; rw [shut_eq]
end P
end

section
/- bits, the first part: texts. -/
namespace Q
open Go Go.Abs
set_option linter.unusedVariables false
set_option linter.unusedSimpArgs false
theorem same_loop {a b : List Int} (hl : a.length = b.length) (hs : a.length ≤ 140737488355328) {ρ : Type} (k0 : List Int → List Int → Int → Option ρ) (k1 : Bool → Option ρ) :
    ∀ (m i : Nat), i + m = a.length → ∀ {stp : (List Int × List Int × Int) → ((List Int × List Int × Int) → Option ρ) → ((List Int × List Int × Int) ⊕ Bool → Option ρ) → Option ρ} {K : (List Int × List Int × Int) ⊕ Bool → Option ρ},
      (∀ (j : Nat) next, stp (a, b, (j : Int)) next K = br (decide ((j : Int) < (a.length : Int))) (br (a.getD j 0 != b.getD j 0) (k1 false) (next (a, b, ((j + 1 : Nat) : Int)))) (k0 a b (j : Int))) →
      lp stp (a, b, (i : Int)) K = if a.drop i = b.drop i then k0 a b (a.length : Int) else k1 false := by
  intro m i hm stp K hst
  refine lp_eq (P := fun x => ∃ j : Nat, x = (a, b, (j : Int)) ∧ j ≤ a.length ∧ (if a.drop j = b.drop j then k0 a b (a.length : Int) else k1 false) = (if a.drop i = b.drop i then k0 a b (a.length : Int) else k1 false)) (μ := fun x => ((a.length : Int) - x.2.2).toNat) ?_ ⟨i, rfl, by omega, rfl⟩ (by simp only; omega)
  rintro _ ⟨j, rfl, hj, he⟩ next hn
  rw [hst, ← he]
  by_cases hji : j < a.length
  · rw [br_pos (by omega), drop_step a 0 j hji, drop_step b 0 j (by omega)]
    by_cases hab : a.getD j 0 = b.getD j 0
    · rw [br_bne_neg hab, hn _ ⟨j + 1, rfl, by omega, ?_⟩ (by simp only; omega), ← he, drop_step a 0 j hji, drop_step b 0 j (by omega)]
      · rw [← he, drop_step a 0 j hji, drop_step b 0 j (by omega)]
        simp only [hab, List.cons.injEq, true_and]
    · rw [br_bne_pos hab, if_neg (by simp only [List.cons.injEq]; exact fun h => hab h.1)]
  · have : j = a.length := by omega
    subst this
    rw [br_neg (by omega), if_pos (by rw [List.drop_eq_nil_of_le (Nat.le_refl _), List.drop_eq_nil_of_le (by omega)])]
theorem R01_Same (a b : List Int) (h : a.length ≤ 140737488355328) {ρ : Type} (k : Bool → Option ρ) : P.R01_Same a b k = k (decide (a = b)) := by
  rw [P.R01_Same_eq]
  unfold P.R01_Same_raw
  by_cases hl : a.length = b.length
  · rw [br_bne_neg (by omega), P.R01_Same_l4_eq]
    unfold P.R01_Same_L4
    have := same_loop hl h (fun _ _ _ => k true) k a.length 0 (by omega) (stp := (fun x next ex => P.R01_Same_r4 x.1 x.2.1 x.2.2 (fun v0 v1 v5 => next (v0, v1, v5)) (fun v0 v1 v5 => ex (.inl (v0, v1, v5))) (fun v4 => ex (.inr v4)))) (K := Sum.elim (fun _ => k true) k) (by
      intro j next
      simp only [P.R01_Same_r4, Sum.elim_inl, Sum.elim_inr]
      by_cases hj : (j : Int) < (a.length : Int)
      · simp only [br_pos hj]
        simp (disch := omega) only [br_pos, br_neg, br_bne_pos, br_bne_neg, br_beq_pos, br_beq_neg, br_not, br_tt, br_ff, i64w, toNat_cast]
        rfl
      · simp only [br_neg hj])
    simp only [List.drop_zero] at this
    refine this.trans ?_
    by_cases hab : a = b
    · rw [if_pos hab, decide_eq_true hab]
    · rw [if_neg hab, decide_eq_false hab]
  · rw [br_bne_pos (by omega), decide_eq_false (fun e => hl (by rw [e]))]
theorem R01_SameNums (a b : List Int) (h : a.length ≤ 140737488355328) {ρ : Type} (k : Bool → Option ρ) : P.R01_SameNums a b k = k (decide (a = b)) := by
  rw [P.R01_SameNums_eq]
  unfold P.R01_SameNums_raw
  by_cases hl : a.length = b.length
  · rw [br_bne_neg (by omega), P.R01_SameNums_l4_eq]
    unfold P.R01_SameNums_L4
    have := same_loop hl h (fun _ _ _ => k true) k a.length 0 (by omega) (stp := (fun x next ex => P.R01_SameNums_r4 x.1 x.2.1 x.2.2 (fun v0 v1 v5 => next (v0, v1, v5)) (fun v0 v1 v5 => ex (.inl (v0, v1, v5))) (fun v4 => ex (.inr v4)))) (K := Sum.elim (fun _ => k true) k) (by
      intro j next
      simp only [P.R01_SameNums_r4, Sum.elim_inl, Sum.elim_inr]
      by_cases hj : (j : Int) < (a.length : Int)
      · simp only [br_pos hj]
        simp (disch := omega) only [br_pos, br_neg, br_bne_pos, br_bne_neg, br_beq_pos, br_beq_neg, br_not, br_tt, br_ff, i64w, toNat_cast]
        rfl
      · simp only [br_neg hj])
    simp only [List.drop_zero] at this
    refine this.trans ?_
    by_cases hab : a = b
    · rw [if_pos hab, decide_eq_true hab]
    · rw [if_neg hab, decide_eq_false hab]
  · rw [br_bne_pos (by omega), decide_eq_false (fun e => hl (by rw [e]))]
def xorS (a b : List Int) : List Int := (List.range (min a.length b.length)).map fun i => bits .xor .u8 (a.getD i 0) (b.getD i 0)
theorem R01_Xor (a b : List Int) (h : a.length ≤ 140737488355327) (h2 : b.length ≤ 140737488355327) {ρ : Type} (k : List Int → Option ρ) : P.R01_Xor a b k = k (xorS a b) := by
  rw [P.R01_Xor_eq]
  unfold P.R01_Xor_raw
  rw [P.R01_Xor_l3_eq]
  unfold P.R01_Xor_L3
  refine lp_up (fun i => (a, b, (i : Int), (List.range i).map fun i => bits .xor .u8 (a.getD i 0) (b.getD i 0))) (min a.length b.length) (fun i hi next hn => ?_) (fun next => ?_) (Nat.zero_le _) (by omega)
  · simp only [P.R01_Xor_r3, List.length_map, List.length_range, toNat_cast]
    simp (disch := omega) only [br_pos, br_neg, br_bne_pos, br_bne_neg, br_beq_pos, br_beq_neg, br_not, br_tt, br_ff, i64w]
    rw [range_map_step (fun i => bits .xor .u8 (a.getD i 0) (b.getD i 0))]
    exact hn
  · simp only [P.R01_Xor_r3, List.length_map, List.length_range, toNat_cast]
    by_cases hm : a.length ≤ b.length
    · rw [br_neg (by omega)]; rfl
    · rw [br_pos (by omega), br_neg (by omega)]; rfl
theorem bits_Xor (a b : List Int) (h : a.length ≤ 140737488355327) (h2 : b.length ≤ 140737488355327) {ρ : Type} (k : List Int → Option ρ) : P.bits_Xor a b k = k (xorS a b) := by
  rw [P.bits_Xor_eq]
  unfold P.bits_Xor_raw
  have e : (bif decide ((↑b.length : Int) < (↑a.length : Int)) then (↑b.length : Int) else (↑a.length : Int)) = ((min a.length b.length : Nat) : Int) := by
    by_cases hl : (b.length : Int) < (a.length : Int)
    · rw [decide_eq_true hl]; simp only [cond_true]; omega
    · rw [decide_eq_false hl]; simp only [cond_false]; omega
  rw [e, br_pos (by omega), br_pos (by omega), toNat_cast]
  unfold P.slices_Clone_byte
  simp only [List.drop_zero, List.length_take]
  rw [br_pos (by omega), P.bits_Xor_l3_eq]
  unfold P.bits_Xor_L3
  have hl0 : (a.take (min a.length b.length)).length = min a.length b.length := by simp
  have key : ∀ i, (fun i : Nat => (b, ((min a.length b.length : Nat) : Int), (i : Int), ((List.range i).map fun i => bits .xor .u8 (a.getD i 0) (b.getD i 0)) ++ (a.take (min a.length b.length)).drop i)) i = (b, ((min a.length b.length : Nat) : Int), (i : Int), ((List.range i).map fun i => bits .xor .u8 (a.getD i 0) (b.getD i 0)) ++ (a.take (min a.length b.length)).drop i) := fun _ => rfl
  have hrun := lp_up (ρ := ρ) (stp := (fun (x : (List Int) × Int × Int × (List Int)) (next : ((List Int) × Int × Int × (List Int)) → Option ρ) (ex : (((List Int) × Int × Int × (List Int))) → Option ρ) => P.bits_Xor_r3 x.1 x.2.1 x.2.2.1 x.2.2.2 (fun v1 v16 v17 h0 => next (v1, v16, v17, h0)) (fun v1 v16 v17 h0 => ex ((v1, v16, v17, h0))))) (K := fun x => k x.2.2.2) (r := k (xorS a b))
    (fun i : Nat => (b, ((min a.length b.length : Nat) : Int), (i : Int), ((List.range i).map fun i => bits .xor .u8 (a.getD i 0) (b.getD i 0)) ++ (a.take (min a.length b.length)).drop i)) (min a.length b.length) (fun i hi next hn => ?_) (fun next => ?_) (i := 0) (Nat.zero_le _) (by omega)
  · simp only [List.range_zero, List.map_nil, List.nil_append, List.drop_zero] at hrun
    rw [show min (min a.length b.length) a.length = min a.length b.length by omega]
    exact hrun
  · have hlen : (((List.range i).map fun i => bits .xor .u8 (a.getD i 0) (b.getD i 0)) ++ (a.take (min a.length b.length)).drop i).length = min a.length b.length := by
      simp; omega
    have hget : (((List.range i).map fun i => bits .xor .u8 (a.getD i 0) (b.getD i 0)) ++ (a.take (min a.length b.length)).drop i).getD i 0 = a.getD i 0 := by
      rw [List.getD_eq_getElem?_getD, List.getElem?_append_right (by simp)]
      simp only [List.length_map, List.length_range, Nat.sub_self, List.getElem?_drop, Nat.add_zero]
      rw [List.getElem?_take_of_lt hi, ← List.getD_eq_getElem?_getD]
    simp only [P.bits_Xor_r3, hlen, toNat_cast]
    simp (disch := omega) only [br_pos, br_neg, br_bne_pos, br_bne_neg, br_beq_pos, br_beq_neg, br_not, br_tt, br_ff, i64w, hget]
    rw [List.set_append_right _ _ (by simp)]
    simp only [List.length_map, List.length_range, Nat.sub_self]
    rw [List.drop_eq_getElem_cons (by rw [hl0]; exact hi), List.set_cons_zero]
    have e2 := range_map_step (fun i => bits .xor .u8 (a.getD i 0) (b.getD i 0)) i
    rw [← e2, List.append_assoc, List.singleton_append] at hn
    exact hn
  · simp only [P.bits_Xor_r3]
    rw [br_neg (by omega), List.drop_eq_nil_of_le (by rw [hl0]; exact Nat.le_refl _), List.append_nil]
    rfl
end Q
end

section
open Go Go.Abs
set_option linter.unusedVariables false
namespace P
noncomputable def bits_Pack_r10 {ρ : Type} (v1 : Int) (v6 : Int) (v7 : Int) (v23 : List Int) (v24 : Int) (v25 : Int) (h2 : List Int) (nx : Int → Int → Int → (List Int) → Int → Int → (List Int) → Option ρ) (k0 : Int → Int → Int → (List Int) → Int → Int → (List Int) → Option ρ) : Option ρ :=
  br (decide (v7 ≥ (8 : Int)))
    (br
      (decide
        ((h2.length + 1) * 1 ≤
          140737488355328))
      (nx v1 (v6.fdiv ((2 : Int) ^ 8)) (IntKind.i64.wrap (v7 - (8 : Int))) v23 v24 v25
        (h2 ++ [IntKind.u8.wrap v6]))
      none)
    (k0 v1 v6 v7 v23 v24 v25 h2)
noncomputable def bits_Pack_L10 {ρ : Type} (v1 : Int) (v6 : Int) (v7 : Int) (v23 : List Int) (v24 : Int) (v25 : Int) (h2 : List Int) (k0 : Int → Int → Int → (List Int) → Int → Int → (List Int) → Option ρ) : Option ρ :=
  lp (fun (x : Int × Int × Int × (List Int) × Int × Int × (List Int)) (next : (Int × Int × Int × (List Int) × Int × Int × (List Int)) → Option ρ) (ex : ((Int × Int × Int × (List Int) × Int × Int × (List Int))) → Option ρ) => bits_Pack_r10 x.1 x.2.1 x.2.2.1 x.2.2.2.1 x.2.2.2.2.1 x.2.2.2.2.2.1 x.2.2.2.2.2.2 (fun v1 v6 v7 v23 v24 v25 h2 => next (v1, v6, v7, v23, v24, v25, h2)) (fun v1 v6 v7 v23 v24 v25 h2 => ex ((v1, v6, v7, v23, v24, v25, h2)))) (v1, v6, v7, v23, v24, v25, h2) (fun x => k0 x.1 x.2.1 x.2.2.1 x.2.2.2.1 x.2.2.2.2.1 x.2.2.2.2.2.1 x.2.2.2.2.2.2)
noncomputable def bits_Pack_l10 {ρ : Type} (v1 : Int) (v6 : Int) (v7 : Int) (v23 : List Int) (v24 : Int) (v25 : Int) (h2 : List Int) (k0 : Int → Int → Int → (List Int) → Int → Int → (List Int) → Option ρ) : Option ρ := shut (bits_Pack_L10 (ρ := ρ)) v1 v6 v7 v23 v24 v25 h2 k0
theorem bits_Pack_l10_eq {ρ : Type} (v1 : Int) (v6 : Int) (v7 : Int) (v23 : List Int) (v24 : Int) (v25 : Int) (h2 : List Int) (k0 : Int → Int → Int → (List Int) → Int → Int → (List Int) → Option ρ) : bits_Pack_l10 v1 v6 v7 v23 v24 v25 h2 k0 = bits_Pack_L10 v1 v6 v7 v23 v24 v25 h2 k0 := by unfold bits_Pack_l10; rw [shut_eq]
noncomputable def bits_Pack_r6 {ρ : Type} (v1 : Int) (v6 : Int) (v7 : Int) (v23 : List Int) (v24 : Int) (v25 : Int) (h1 : List Int) (nx : Int → Int → Int → (List Int) → Int → Int → (List Int) → Option ρ) (k0 : Int → Int → Int → (List Int) → Int → Int → (List Int) → Option ρ) : Option ρ :=
  br (decide (v25 < v24))
    (br (decide ((0 : Int) ≤ v25))
      (br (decide (v25 < (↑v23.length : Int)))
        (br (decide (v1 < (0 : Int))) none
          (br (decide (v7 < (0 : Int))) none
            (bits_Pack_l10 v1
              (bits BinOp.or IntKind.u64 v6
                (IntKind.u64.wrap
                  (IntKind.u64.wrap
                      (bits BinOp.and IntKind.u32 (v23.getD v25.toNat (0 : Int))
                        (IntKind.u32.wrap
                          (IntKind.u32.wrap ((1 : Int) * (2 : Int) ^ min v1.toNat 32) - (1 : Int)))) *
                    (2 : Int) ^ min v7.toNat 64)))
              (IntKind.i64.wrap (v7 + v1)) v23 v24 v25 h1
              fun (q0 q1 q2 : Int) (q3 : List Int) (q4 q5 : Int) (q6 : List Int) =>
              nx q0 q1 q2 q3 q4 (IntKind.i64.wrap (q5 + (1 : Int))) q6)))
        none)
      none)
    (k0 v1 v6 v7 v23 v24 v25 h1)
noncomputable def bits_Pack_L6 {ρ : Type} (v1 : Int) (v6 : Int) (v7 : Int) (v23 : List Int) (v24 : Int) (v25 : Int) (h1 : List Int) (k0 : Int → Int → Int → (List Int) → Int → Int → (List Int) → Option ρ) : Option ρ :=
  lp (fun (x : Int × Int × Int × (List Int) × Int × Int × (List Int)) (next : (Int × Int × Int × (List Int) × Int × Int × (List Int)) → Option ρ) (ex : ((Int × Int × Int × (List Int) × Int × Int × (List Int))) → Option ρ) => bits_Pack_r6 x.1 x.2.1 x.2.2.1 x.2.2.2.1 x.2.2.2.2.1 x.2.2.2.2.2.1 x.2.2.2.2.2.2 (fun v1 v6 v7 v23 v24 v25 h1 => next (v1, v6, v7, v23, v24, v25, h1)) (fun v1 v6 v7 v23 v24 v25 h1 => ex ((v1, v6, v7, v23, v24, v25, h1)))) (v1, v6, v7, v23, v24, v25, h1) (fun x => k0 x.1 x.2.1 x.2.2.1 x.2.2.2.1 x.2.2.2.2.1 x.2.2.2.2.2.1 x.2.2.2.2.2.2)
noncomputable def bits_Pack_l6 {ρ : Type} (v1 : Int) (v6 : Int) (v7 : Int) (v23 : List Int) (v24 : Int) (v25 : Int) (h1 : List Int) (k0 : Int → Int → Int → (List Int) → Int → Int → (List Int) → Option ρ) : Option ρ := shut (bits_Pack_L6 (ρ := ρ)) v1 v6 v7 v23 v24 v25 h1 k0
theorem bits_Pack_l6_eq {ρ : Type} (v1 : Int) (v6 : Int) (v7 : Int) (v23 : List Int) (v24 : Int) (v25 : Int) (h1 : List Int) (k0 : Int → Int → Int → (List Int) → Int → Int → (List Int) → Option ρ) : bits_Pack_l6 v1 v6 v7 v23 v24 v25 h1 k0 = bits_Pack_L6 v1 v6 v7 v23 v24 v25 h1 k0 := by unfold bits_Pack_l6; rw [shut_eq]
noncomputable def bits_Pack_raw {ρ : Type} (a0 : List Int) (a1 : Int) (k : (List Int) → Option ρ) : Option ρ :=
  br (decide (a1 < (1 : Int))) (k [])
    (br (decide (a1 > (24 : Int))) (k [])
      (br
        (decide
          ((0 : Int) ≤
            IntKind.i64.wrap
              ((IntKind.i64.wrap (IntKind.i64.wrap ((↑a0.length : Int) * a1) + (7 : Int))).tdiv (8 : Int))))
        (br
          (decide
            (IntKind.i64.wrap
                  ((IntKind.i64.wrap (IntKind.i64.wrap ((↑a0.length : Int) * a1) + (7 : Int))).tdiv (8 : Int)) *
                (↑1 : Int) ≤
              (↑140737488355328 : Int)))
          (bits_Pack_l6 a1 (0 : Int) (0 : Int) a0 (↑a0.length : Int) (0 : Int) (List.replicate 0 (0 : Int))
            fun (q0 q1 q2 : Int) (q3 : List Int) (q4 q5 : Int) (q6 : List Int) =>
            br (decide (q2 > (0 : Int)))
              (br
                (decide
                  ((q6.length + 1) * 1 ≤
                    140737488355328))
                (k (q6 ++ [IntKind.u8.wrap q1])) none)
              (k q6))
          none)
        none))
noncomputable def bits_Pack {ρ : Type} (a0 : List Int) (a1 : Int) (k : (List Int) → Option ρ) : Option ρ := shut (bits_Pack_raw (ρ := ρ)) a0 a1 k
theorem bits_Pack_eq {ρ : Type} (a0 : List Int) (a1 : Int) (k : (List Int) → Option ρ) : bits_Pack a0 a1 k = bits_Pack_raw a0 a1 k := by unfold bits_Pack; rw [shut_eq]
end P
end

section
open Go Go.Abs
set_option linter.unusedVariables false
namespace P
noncomputable def L01_awake_raw {ρ : Type}  (k : Bool → Option ρ) : Option ρ :=
  bits_Digits [(165 : Int)] (4 : Int) (2 : Int) fun (q0 : List Int) =>
    bits_Be (258 : Int) (3 : Int) fun (q1 : List Int) =>
      R01_Same q1 [(0 : Int), (1 : Int), (2 : Int)] fun (q2 : Bool) =>
        br q2
          (bits_Le (258 : Int) (3 : Int) fun (q3 : List Int) =>
            R01_Same q3 [(2 : Int), (1 : Int), (0 : Int)] fun (q4 : Bool) =>
              br q4
                (br ((↑q0.length : Int) == (2 : Int))
                  (br (decide ((0 : Int) < (↑q0.length : Int)))
                    (br (q0.getD 0 (0 : Int) == (10 : Int))
                      (br (decide ((1 : Int) < (↑q0.length : Int)))
                        (br (q0.getD 1 (0 : Int) == (5 : Int))
                          (bits_Pack [(5 : Int), (10 : Int)] (4 : Int) fun (q5 : List Int) =>
                            R01_Same q5 [(165 : Int)] fun (q6 : Bool) => k q6)
                          (k false))
                        none)
                      (k false))
                    none)
                  (k false))
                (k false))
          (k false)
noncomputable def L01_awake {ρ : Type}  (k : Bool → Option ρ) : Option ρ := shut (L01_awake_raw (ρ := ρ))  k
theorem L01_awake_eq {ρ : Type}  (k : Bool → Option ρ) : L01_awake  k = L01_awake_raw  k := by unfold L01_awake; rw [shut_eq]
end P
end

section
/- bits: the law's own test. -/
namespace Q
open Go Go.Abs
set_option linter.unusedVariables false
set_option linter.unusedSimpArgs false
theorem FU_ge (n : Nat) (h : n ≤ 18446744073709551616) : ∃ m, FU = m + n := ⟨18446744073709551616 - n, by rw [FU_eq]; omega⟩
theorem L01_awake {ρ : Type} (k : Bool → Option ρ) : P.L01_awake k = k true := by
  obtain ⟨m, hm⟩ := FU_ge 20 (by omega)
  simp only [P.L01_awake_eq, P.L01_awake_raw, P.bits_Digits_eq, P.bits_Digits_raw, P.bits_Digits_l6_eq, P.bits_Digits_L6, P.bits_Digits_r6, P.bits_Digits_l8_eq, P.bits_Digits_L8, P.bits_Digits_r8,
    P.bits_Be_eq, P.bits_Be_raw, P.bits_Be_l1_1_eq, P.bits_Be_L1_1, P.bits_Be_r1_1, P.bits_Le_eq, P.bits_Le_raw, P.bits_Le_l5_eq, P.bits_Le_L5, P.bits_Le_r5,
    P.bits_Pack_eq, P.bits_Pack_raw, P.bits_Pack_l6_eq, P.bits_Pack_L6, P.bits_Pack_r6, P.bits_Pack_l10_eq, P.bits_Pack_L10, P.bits_Pack_r10, P.bits_such_eq, P.bits_such_raw,
    P.R01_Same_eq, P.R01_Same_raw, P.R01_Same_l4_eq, P.R01_Same_L4, P.R01_Same_r4, lp, hm]
  kernel_rfl
end Q
end

section
/- bits: Same, Join. -/
namespace Q
open Go Go.Abs
set_option linter.unusedVariables false
set_option linter.unusedSimpArgs false
def diff (a b : List Int) (i : Nat) : Int := (List.range i).foldl (fun acc j => bits .or .u8 acc (bits .xor .u8 (a.getD j 0) (b.getD j 0))) 0
theorem diff_succ (a b : List Int) (i : Nat) : diff a b (i + 1) = bits .or .u8 (diff a b i) (bits .xor .u8 (a.getD i 0) (b.getD i 0)) := by
  simp [diff, List.range_succ]
theorem diff_fact (a b : List Int) (ha : In 256 a) (hb : In 256 b) : ∀ i, (0 ≤ diff a b i ∧ diff a b i < 256) ∧ (diff a b i = 0 ↔ ∀ j, j < i → a.getD j 0 = b.getD j 0)
  | 0 => ⟨⟨by simp [diff], by simp [diff]⟩, by simp [diff]⟩
  | i + 1 => by
    obtain ⟨h1, h2⟩ := diff_fact a b ha hb i
    rw [diff_succ]
    have hx := ha.getD i (by omega)
    have hy := hb.getD i (by omega)
    obtain ⟨d, hd⟩ := Int.eq_ofNat_of_zero_le h1.1
    obtain ⟨x, hx'⟩ := Int.eq_ofNat_of_zero_le hx.1
    obtain ⟨y, hy'⟩ := Int.eq_ofNat_of_zero_le hy.1
    rw [hd, hx', hy', xor_u8 x y (by omega) (by omega), or_u8 d _ (by omega) (Nat.xor_lt_two_pow (n := 8) (show x < 2 ^ 8 by omega) (show y < 2 ^ 8 by omega))]
    have hb : d ||| (x ^^^ y) < 256 := Nat.or_lt_two_pow (n := 8) (show d < 2 ^ 8 by omega) (Nat.xor_lt_two_pow (n := 8) (show x < 2 ^ 8 by omega) (show y < 2 ^ 8 by omega))
    refine ⟨⟨by omega, by omega⟩, ?_⟩
    rw [show (((d ||| (x ^^^ y) : Nat) : Int) = 0 ↔ (d ||| (x ^^^ y)) = 0) by omega, Nat.or_eq_zero_iff, xor_zero]
    constructor
    · rintro ⟨h0, hxy⟩ j hj
      by_cases hji : j = i
      · subst hji; rw [hx', hy', hxy]
      · exact h2.1 (by omega) j (by omega)
    · intro h
      refine ⟨?_, ?_⟩
      · have := h2.2 (fun j hj => h j (by omega)); omega
      · have := h i (by omega); rw [hx', hy'] at this; omega
theorem bits_Same (a b : List Int) (ha : In 256 a) (hb : In 256 b) (h : a.length ≤ 140737488355328) {ρ : Type} (k : Bool → Option ρ) : P.bits_Same a b k = k (decide (a = b)) := by
  rw [P.bits_Same_eq]
  unfold P.bits_Same_raw
  by_cases hl : a.length = b.length
  · rw [br_bne_neg (by omega), P.bits_Same_l5_eq]
    unfold P.bits_Same_L5
    refine lp_up (fun i => (a, b, diff a b i, (a.length : Int), (i : Int))) a.length (fun i hi next hn => ?_) (fun next => ?_) (Nat.zero_le _) (by omega)
    · simp only [P.bits_Same_r5, toNat_cast]
      simp (disch := omega) only [br_pos, br_neg, br_bne_pos, br_bne_neg, br_beq_pos, br_beq_neg, br_not, br_tt, br_ff, i64w]
      rw [← diff_succ]
      exact hn
    · simp only [P.bits_Same_r5]
      rw [br_neg (by omega)]
      congr 1
      have := (diff_fact a b ha hb a.length).2
      by_cases hab : a = b
      · rw [decide_eq_true hab, beq_iff_eq, this]
        subst hab; exact fun _ _ => rfl
      · rw [decide_eq_false hab, beq_eq_false_iff_ne]
        intro h0
        refine hab (List.ext_getElem hl (fun i h1 h2 => ?_))
        have := this.1 h0 i h1
        rw [getD_lt h1, getD_lt h2] at this
        exact this
  · rw [br_bne_pos (by omega), decide_eq_false (fun e => hl (by rw [e]))]
def joined (l : List (List Int)) (i : Nat) : List Int := (l.take i).flatten
theorem joined_succ (l : List (List Int)) (i : Nat) (h : i < l.length) : joined l (i + 1) = joined l i ++ l.getD i [] := by
  unfold joined
  rw [← take_step l [] i h, List.flatten_append]; simp
theorem joined_all (l : List (List Int)) : joined l l.length = l.flatten := by unfold joined; rw [List.take_length]
theorem joined_le (l : List (List Int)) (i : Nat) : (joined l i).length ≤ l.flatten.length := by
  unfold joined
  have : l.flatten = (l.take i).flatten ++ (l.drop i).flatten := by rw [← List.flatten_append, List.take_append_drop]
  rw [this, List.length_append]; omega
theorem R01_Join (l : List (List Int)) (h : l.length ≤ 140737488355328) (h2 : l.flatten.length ≤ 140737488355328) {ρ : Type} (k : List Int → Option ρ) : P.R01_Join l k = k l.flatten := by
  rw [P.R01_Join_eq]
  unfold P.R01_Join_raw
  rw [P.R01_Join_l3_eq]
  unfold P.R01_Join_L3
  refine lp_up (fun i => (l, (i : Int), joined l i)) l.length (fun i hi next hn => ?_) (fun next => ?_) (Nat.zero_le _) (by omega)
  · have e := joined_succ l i hi
    have h3 := joined_le l (i + 1)
    rw [e, List.length_append] at h3
    simp only [P.R01_Join_r3, toNat_cast]
    simp (disch := omega) only [br_pos, br_neg, br_bne_pos, br_bne_neg, br_beq_pos, br_beq_neg, br_not, br_tt, br_ff, i64w]
    rw [← e]
    exact hn
  · simp only [P.R01_Join_r3]
    rw [br_neg (by omega), joined_all]
theorem slices_Grow_byte (n : Nat) (h : n ≤ 140737488355328) {ρ : Type} (k : List Int → Option ρ) : P.slices_Grow_byte (n : Int) k = k [] := by
  rw [P.slices_Grow_byte_eq]
  unfold P.slices_Grow_byte_raw
  rw [br_neg (by omega), show IntKind.i64.wrap ((0 : Int) - (0 : Int)) = 0 by decide]
  rw [i64w (by omega) (by omega)]
  by_cases h0 : n = 0
  · subst h0; rw [br_neg (by omega)]
  · rw [br_pos (by omega), br_pos (by omega), br_pos (by omega)]; rfl
theorem slices_Concat_byte (l : List (List Int)) (h : l.length ≤ 140737488355328) (h2 : l.flatten.length ≤ 140737488355328) {ρ : Type} (k : List Int → Option ρ) : P.slices_Concat_byte l k = k l.flatten := by
  rw [P.slices_Concat_byte_eq]
  unfold P.slices_Concat_byte_raw
  rw [P.slices_Concat_byte_l3_eq]
  unfold P.slices_Concat_byte_L3
  refine lp_up (fun i => (l, ((joined l i).length : Int), l, (l.length : Int), (i : Int))) l.length (fun i hi next hn => ?_) (fun next => ?_) (Nat.zero_le _) (by omega)
  · have e := joined_succ l i hi
    have h3 := joined_le l (i + 1)
    have e2 : ((joined l i).length : Int) + ((l.getD i []).length : Int) = ((joined l (i + 1)).length : Int) := by rw [e, List.length_append]; omega
    simp only [P.slices_Concat_byte_r3, toNat_cast, e2]
    simp (disch := omega) only [br_pos, br_neg, br_bne_pos, br_bne_neg, br_beq_pos, br_beq_neg, br_not, br_tt, br_ff, i64w]
    exact hn
  · simp only [P.slices_Concat_byte_r3]
    rw [br_neg (by omega), joined_all, slices_Grow_byte _ h2, P.slices_Concat_byte_l11_eq]
    unfold P.slices_Concat_byte_L11
    refine lp_up (fun i => (l, (l.length : Int), (i : Int), joined l i)) l.length (fun i hi next hn => ?_) (fun next => ?_) (Nat.zero_le _) (by omega)
    · have e := joined_succ l i hi
      have h3 := joined_le l (i + 1)
      rw [e, List.length_append] at h3
      simp only [P.slices_Concat_byte_r11, toNat_cast]
      simp (disch := omega) only [br_pos, br_neg, br_bne_pos, br_bne_neg, br_beq_pos, br_beq_neg, br_not, br_tt, br_ff, i64w]
      rw [← e]
      exact hn
    · simp only [P.slices_Concat_byte_r11]
      rw [br_neg (by omega), joined_all]
theorem bits_Join (l : List (List Int)) (h : l.length ≤ 140737488355328) (h2 : l.flatten.length ≤ 140737488355328) {ρ : Type} (k : List Int → Option ρ) : P.bits_Join l k = k l.flatten := by
  rw [P.bits_Join_eq]
  unfold P.bits_Join_raw
  exact slices_Concat_byte l h h2 k
end Q
end

section
open Go Go.Abs
set_option linter.unusedVariables false
namespace P
noncomputable def lmots_known_raw {ρ : Type} (a0 : Int) (k : Int → Int → Int → Bool → Option ρ) : Option ρ :=
  br (a0 == (1 : Int)) (k (265 : Int) (7 : Int) (1 : Int) true)
    (br (a0 == (2 : Int)) (k (133 : Int) (6 : Int) (2 : Int) true)
      (br (a0 == (4 : Int)) (k (67 : Int) (4 : Int) (3 : Int) true)
        (br (a0 == (8 : Int)) (k (34 : Int) (0 : Int) (4 : Int) true) (k (0 : Int) (0 : Int) (0 : Int) false))))
noncomputable def lmots_known {ρ : Type} (a0 : Int) (k : Int → Int → Int → Bool → Option ρ) : Option ρ := shut (lmots_known_raw (ρ := ρ)) a0 k
theorem lmots_known_eq {ρ : Type} (a0 : Int) (k : Int → Int → Int → Bool → Option ρ) : lmots_known a0 k = lmots_known_raw a0 k := by unfold lmots_known; rw [shut_eq]
end P
end

section
open Go Go.Abs
set_option linter.unusedVariables false
namespace P
noncomputable def lmots_Digits_r9 {ρ : Type} (v0 : Int) (v9 : Int) (v37 : Int) (v38 : Int) (h0_0 : Int) (h0_1 : Int) (h0_2 : Int) (h1 : List Int) (nx : Int → Int → Int → Int → Int → Int → Int → (List Int) → Option ρ) (k0 : Int → Int → Int → Int → Int → Int → Int → (List Int) → Option ρ) : Option ρ :=
  br (decide (v38 < v37))
    (br (decide ((0 : Int) ≤ v38))
      (br (decide (v38 < (↑h1.length : Int)))
        (nx v0 (IntKind.u64.wrap (v9 - IntKind.u64.wrap (h1.getD v38.toNat (0 : Int)))) v37
          (IntKind.i64.wrap (v38 + (1 : Int))) h0_0 h0_1 h0_2 h1)
        none)
      none)
    (k0 v0 v9 v37 v38 h0_0 h0_1 h0_2 h1)
noncomputable def lmots_Digits_L9 {ρ : Type} (v0 : Int) (v9 : Int) (v37 : Int) (v38 : Int) (h0_0 : Int) (h0_1 : Int) (h0_2 : Int) (h1 : List Int) (k0 : Int → Int → Int → Int → Int → Int → Int → (List Int) → Option ρ) : Option ρ :=
  lp (fun (x : Int × Int × Int × Int × Int × Int × Int × (List Int)) (next : (Int × Int × Int × Int × Int × Int × Int × (List Int)) → Option ρ) (ex : ((Int × Int × Int × Int × Int × Int × Int × (List Int))) → Option ρ) => lmots_Digits_r9 x.1 x.2.1 x.2.2.1 x.2.2.2.1 x.2.2.2.2.1 x.2.2.2.2.2.1 x.2.2.2.2.2.2.1 x.2.2.2.2.2.2.2 (fun v0 v9 v37 v38 h0_0 h0_1 h0_2 h1 => next (v0, v9, v37, v38, h0_0, h0_1, h0_2, h1)) (fun v0 v9 v37 v38 h0_0 h0_1 h0_2 h1 => ex ((v0, v9, v37, v38, h0_0, h0_1, h0_2, h1)))) (v0, v9, v37, v38, h0_0, h0_1, h0_2, h1) (fun x => k0 x.1 x.2.1 x.2.2.1 x.2.2.2.1 x.2.2.2.2.1 x.2.2.2.2.2.1 x.2.2.2.2.2.2.1 x.2.2.2.2.2.2.2)
noncomputable def lmots_Digits_l9 {ρ : Type} (v0 : Int) (v9 : Int) (v37 : Int) (v38 : Int) (h0_0 : Int) (h0_1 : Int) (h0_2 : Int) (h1 : List Int) (k0 : Int → Int → Int → Int → Int → Int → Int → (List Int) → Option ρ) : Option ρ := shut (lmots_Digits_L9 (ρ := ρ)) v0 v9 v37 v38 h0_0 h0_1 h0_2 h1 k0
theorem lmots_Digits_l9_eq {ρ : Type} (v0 : Int) (v9 : Int) (v37 : Int) (v38 : Int) (h0_0 : Int) (h0_1 : Int) (h0_2 : Int) (h1 : List Int) (k0 : Int → Int → Int → Int → Int → Int → Int → (List Int) → Option ρ) : lmots_Digits_l9 v0 v9 v37 v38 h0_0 h0_1 h0_2 h1 k0 = lmots_Digits_L9 v0 v9 v37 v38 h0_0 h0_1 h0_2 h1 k0 := by unfold lmots_Digits_l9; rw [shut_eq]
noncomputable def lmots_Digits_raw {ρ : Type} (a0 : Int) (a1 : List Int) (k : (List Int) → Int → Option ρ) : Option ρ :=
  lmots_known a0 fun (q0 q1 q2 : Int) (q3 : Bool) =>
    br (!q3) (k [] (9 : Int))
      (br ((↑a1.length : Int) != (32 : Int)) (k [] (14 : Int))
        (br (decide (a0 = (0 : Int))) none
          (bits_Digits a1 a0 (IntKind.i64.wrap (Int.tdiv (256 : Int) a0)) fun (q4 : List Int) =>
            br (decide (a0 < (0 : Int))) none
              (lmots_Digits_l9 a0
                (IntKind.u64.wrap
                  (IntKind.u64.wrap (↑q4.length : Int) *
                    IntKind.u64.wrap (IntKind.u64.wrap ((1 : Int) * (2 : Int) ^ min a0.toNat 64) - (1 : Int))))
                (↑q4.length : Int) (0 : Int) q0 q1 q2 q4 fun (q5 q6 q7 q8 q9 q10 q11 : Int) (q12 : List Int) =>
                br (decide (q10 < (0 : Int))) none
                  (bits_Be (IntKind.u64.wrap (q6 * (2 : Int) ^ min q10.toNat 64)) (2 : Int)
                    fun (q13 : List Int) =>
                    bits_Digits q13 q5 (IntKind.i64.wrap (q9 - (↑q12.length : Int))) fun (q14 : List Int) =>
                      br
                        (decide
                          ((q12.length + q14.length) *
                              4 ≤
                            140737488355328))
                        (k (q12 ++ q14) (0 : Int)) none)))))
noncomputable def lmots_Digits {ρ : Type} (a0 : Int) (a1 : List Int) (k : (List Int) → Int → Option ρ) : Option ρ := shut (lmots_Digits_raw (ρ := ρ)) a0 a1 k
theorem lmots_Digits_eq {ρ : Type} (a0 : Int) (a1 : List Int) (k : (List Int) → Int → Option ρ) : lmots_Digits a0 a1 k = lmots_Digits_raw a0 a1 k := by unfold lmots_Digits; rw [shut_eq]
end P
end

section
open Go Go.Abs
set_option linter.unusedVariables false
namespace P
noncomputable def R14_Kind_raw {ρ : Type} (a0 : Int) (k : Int → Int → Int → Option ρ) : Option ρ :=
  br (a0 == (1 : Int)) (k (265 : Int) (7 : Int) (1 : Int))
    (br (a0 == (2 : Int)) (k (133 : Int) (6 : Int) (2 : Int))
      (br (a0 == (4 : Int)) (k (67 : Int) (4 : Int) (3 : Int))
        (br (a0 == (8 : Int)) (k (34 : Int) (0 : Int) (4 : Int)) (k (0 : Int) (0 : Int) (0 : Int)))))
noncomputable def R14_Kind {ρ : Type} (a0 : Int) (k : Int → Int → Int → Option ρ) : Option ρ := shut (R14_Kind_raw (ρ := ρ)) a0 k
theorem R14_Kind_eq {ρ : Type} (a0 : Int) (k : Int → Int → Int → Option ρ) : R14_Kind a0 k = R14_Kind_raw a0 k := by unfold R14_Kind; rw [shut_eq]
end P
end

section
open Go Go.Abs
set_option linter.unusedVariables false
namespace P
noncomputable def R14_Digits_r9 {ρ : Type} (v0 : Int) (v1 : List Int) (v6 : Int) (v7 : Int) (v10 : Int) (v11 : Int) (h0 : List Int) (nx : Int → (List Int) → Int → Int → Int → Int → (List Int) → Option ρ) (k0 : Int → (List Int) → Int → Int → Int → Int → (List Int) → Option ρ) : Option ρ :=
  br (decide (v11 < (↑h0.length : Int)))
    (br (decide (v0 < (0 : Int))) none
      (br (decide ((0 : Int) ≤ v11))
        (br (decide (v11 < (↑h0.length : Int)))
          (nx v0 v1 v6 v7
            (IntKind.u64.wrap
              (IntKind.u64.wrap
                  (v10 +
                    IntKind.u64.wrap (IntKind.u64.wrap ((1 : Int) * (2 : Int) ^ min v0.toNat 64) - (1 : Int))) -
                IntKind.u64.wrap (h0.getD v11.toNat (0 : Int))))
            (IntKind.i64.wrap (v11 + (1 : Int))) h0)
          none)
        none))
    (k0 v0 v1 v6 v7 v10 v11 h0)
noncomputable def R14_Digits_L9 {ρ : Type} (v0 : Int) (v1 : List Int) (v6 : Int) (v7 : Int) (v10 : Int) (v11 : Int) (h0 : List Int) (k0 : Int → (List Int) → Int → Int → Int → Int → (List Int) → Option ρ) : Option ρ :=
  lp (fun (x : Int × (List Int) × Int × Int × Int × Int × (List Int)) (next : (Int × (List Int) × Int × Int × Int × Int × (List Int)) → Option ρ) (ex : ((Int × (List Int) × Int × Int × Int × Int × (List Int))) → Option ρ) => R14_Digits_r9 x.1 x.2.1 x.2.2.1 x.2.2.2.1 x.2.2.2.2.1 x.2.2.2.2.2.1 x.2.2.2.2.2.2 (fun v0 v1 v6 v7 v10 v11 h0 => next (v0, v1, v6, v7, v10, v11, h0)) (fun v0 v1 v6 v7 v10 v11 h0 => ex ((v0, v1, v6, v7, v10, v11, h0)))) (v0, v1, v6, v7, v10, v11, h0) (fun x => k0 x.1 x.2.1 x.2.2.1 x.2.2.2.1 x.2.2.2.2.1 x.2.2.2.2.2.1 x.2.2.2.2.2.2)
noncomputable def R14_Digits_l9 {ρ : Type} (v0 : Int) (v1 : List Int) (v6 : Int) (v7 : Int) (v10 : Int) (v11 : Int) (h0 : List Int) (k0 : Int → (List Int) → Int → Int → Int → Int → (List Int) → Option ρ) : Option ρ := shut (R14_Digits_L9 (ρ := ρ)) v0 v1 v6 v7 v10 v11 h0 k0
theorem R14_Digits_l9_eq {ρ : Type} (v0 : Int) (v1 : List Int) (v6 : Int) (v7 : Int) (v10 : Int) (v11 : Int) (h0 : List Int) (k0 : Int → (List Int) → Int → Int → Int → Int → (List Int) → Option ρ) : R14_Digits_l9 v0 v1 v6 v7 v10 v11 h0 k0 = R14_Digits_L9 v0 v1 v6 v7 v10 v11 h0 k0 := by unfold R14_Digits_l9; rw [shut_eq]
noncomputable def R14_Digits_raw {ρ : Type} (a0 : Int) (a1 : List Int) (k : (List Int) → Int → Option ρ) : Option ρ :=
  R14_Kind a0 fun (q0 q1 q2 : Int) =>
    br (q0 == (0 : Int)) (k [] (9 : Int))
      (br ((↑a1.length : Int) != (32 : Int)) (k [] (14 : Int))
        (br (decide (a0 = (0 : Int))) none
          (R01_Digits a1 a0 (IntKind.i64.wrap (Int.tdiv (256 : Int) a0)) fun (q3 : List Int) =>
            R14_Digits_l9 a0 a1 q0 q1 (0 : Int) (0 : Int) q3
              fun (q4 : Int) (q5 : List Int) (q6 q7 q8 q9 : Int) (q10 : List Int) =>
              br (decide (q7 < (0 : Int))) none
                (R01_Be (IntKind.u64.wrap (q8 * (2 : Int) ^ min q7.toNat 64)) (2 : Int)
                  fun (q11 : List Int) =>
                  R01_Join [q5, q11] fun (q12 : List Int) =>
                    R01_Digits q12 q4 q6 fun (q13 : List Int) => k q13 (0 : Int)))))
noncomputable def R14_Digits {ρ : Type} (a0 : Int) (a1 : List Int) (k : (List Int) → Int → Option ρ) : Option ρ := shut (R14_Digits_raw (ρ := ρ)) a0 a1 k
theorem R14_Digits_eq {ρ : Type} (a0 : Int) (a1 : List Int) (k : (List Int) → Int → Option ρ) : R14_Digits a0 a1 k = R14_Digits_raw a0 a1 k := by unfold R14_Digits; rw [shut_eq]
end P
end

section
open Go Go.Abs
set_option linter.unusedVariables false
namespace P
noncomputable def lmots_Size_raw {ρ : Type} (a0 : Int) (k : Int → Option ρ) : Option ρ :=
  lmots_known a0 fun (q0 q1 q2 : Int) (q3 : Bool) =>
    br (!q3) (k (0 : Int)) (k (IntKind.i64.wrap ((36 : Int) + IntKind.i64.wrap ((32 : Int) * q0))))
noncomputable def lmots_Size {ρ : Type} (a0 : Int) (k : Int → Option ρ) : Option ρ := shut (lmots_Size_raw (ρ := ρ)) a0 k
theorem lmots_Size_eq {ρ : Type} (a0 : Int) (k : Int → Option ρ) : lmots_Size a0 k = lmots_Size_raw a0 k := by unfold lmots_Size; rw [shut_eq]
end P
end

section
open Go Go.Abs
set_option linter.unusedVariables false
namespace P
noncomputable def R14_Size_raw {ρ : Type} (a0 : Int) (k : Int → Option ρ) : Option ρ :=
  R14_Kind a0 fun (q0 q1 q2 : Int) =>
    br (q0 == (0 : Int)) (k (0 : Int)) (k (IntKind.i64.wrap ((36 : Int) + IntKind.i64.wrap ((32 : Int) * q0))))
noncomputable def R14_Size {ρ : Type} (a0 : Int) (k : Int → Option ρ) : Option ρ := shut (R14_Size_raw (ρ := ρ)) a0 k
theorem R14_Size_eq {ρ : Type} (a0 : Int) (k : Int → Option ρ) : R14_Size a0 k = R14_Size_raw a0 k := by unfold R14_Size; rw [shut_eq]
end P
end

section
open Go Go.Abs
set_option linter.unusedVariables false
namespace P
noncomputable def L14_few_r2 {ρ : Type} (v5 : List (List Int)) (v6 : Int) (v7 : Int) (nx : (List (List Int)) → Int → Int → Option ρ) (k0 : (List (List Int)) → Int → Int → Option ρ) (k1 : Bool → Option ρ) : Option ρ :=
  br (decide (v7 < v6))
    (br (decide ((0 : Int) ≤ v7))
      (br (decide (v7 < (↑v5.length : Int)))
        (br (decide ((↑(v5.getD v7.toNat []).length : Int) > (300 : Int))) (k1 false)
          (nx v5 v6 (IntKind.i64.wrap (v7 + (1 : Int)))))
        none)
      none)
    (k0 v5 v6 v7)
noncomputable def L14_few_L2 {ρ : Type} (v5 : List (List Int)) (v6 : Int) (v7 : Int) (k0 : (List (List Int)) → Int → Int → Option ρ) (k1 : Bool → Option ρ) : Option ρ :=
  lp (fun (x : (List (List Int)) × Int × Int) (next : ((List (List Int)) × Int × Int) → Option ρ) (ex : (((List (List Int)) × Int × Int) ⊕ ((Bool))) → Option ρ) => L14_few_r2 x.1 x.2.1 x.2.2 (fun v5 v6 v7 => next (v5, v6, v7)) (fun v5 v6 v7 => ex (.inl (v5, v6, v7))) (fun v2 => ex (.inr v2))) (v5, v6, v7) (Sum.elim (fun x => k0 x.1 x.2.1 x.2.2) (fun x => k1 x))
noncomputable def L14_few_l2 {ρ : Type} (v5 : List (List Int)) (v6 : Int) (v7 : Int) (k0 : (List (List Int)) → Int → Int → Option ρ) (k1 : Bool → Option ρ) : Option ρ := shut (L14_few_L2 (ρ := ρ)) v5 v6 v7 k0 k1
theorem L14_few_l2_eq {ρ : Type} (v5 : List (List Int)) (v6 : Int) (v7 : Int) (k0 : (List (List Int)) → Int → Int → Option ρ) (k1 : Bool → Option ρ) : L14_few_l2 v5 v6 v7 k0 k1 = L14_few_L2 v5 v6 v7 k0 k1 := by unfold L14_few_l2; rw [shut_eq]
noncomputable def L14_few_raw {ρ : Type} (a0 : List (List Int)) (k : Bool → Option ρ) : Option ρ :=
  L14_few_l2 a0 (↑a0.length : Int) (0 : Int) (fun (q0 : List (List Int)) (q1 q2 : Int) => k true) fun (q3 : Bool) =>
    k q3
noncomputable def L14_few {ρ : Type} (a0 : List (List Int)) (k : Bool → Option ρ) : Option ρ := shut (L14_few_raw (ρ := ρ)) a0 k
theorem L14_few_eq {ρ : Type} (a0 : List (List Int)) (k : Bool → Option ρ) : L14_few a0 k = L14_few_raw a0 k := by unfold L14_few; rw [shut_eq]
end P
end

section
open Go Go.Abs
set_option linter.unusedVariables false
namespace P
noncomputable def L14_awake_r3 {ρ : Type} (v9 : Int) (v10 : Int) (h0 : List Int) (nx : Int → Int → (List Int) → Option ρ) (k0 : Int → Int → (List Int) → Option ρ) : Option ρ :=
  br (decide (v10 < v9))
    (br (decide ((0 : Int) ≤ v10))
      (br (decide (v10 < (↑h0.length : Int))) (nx v9 (IntKind.i64.wrap (v10 + (1 : Int))) (h0.set v10.toNat (255 : Int)))
        none)
      none)
    (k0 v9 v10 h0)
noncomputable def L14_awake_L3 {ρ : Type} (v9 : Int) (v10 : Int) (h0 : List Int) (k0 : Int → Int → (List Int) → Option ρ) : Option ρ :=
  lp (fun (x : Int × Int × (List Int)) (next : (Int × Int × (List Int)) → Option ρ) (ex : ((Int × Int × (List Int))) → Option ρ) => L14_awake_r3 x.1 x.2.1 x.2.2 (fun v9 v10 h0 => next (v9, v10, h0)) (fun v9 v10 h0 => ex ((v9, v10, h0)))) (v9, v10, h0) (fun x => k0 x.1 x.2.1 x.2.2)
noncomputable def L14_awake_l3 {ρ : Type} (v9 : Int) (v10 : Int) (h0 : List Int) (k0 : Int → Int → (List Int) → Option ρ) : Option ρ := shut (L14_awake_L3 (ρ := ρ)) v9 v10 h0 k0
theorem L14_awake_l3_eq {ρ : Type} (v9 : Int) (v10 : Int) (h0 : List Int) (k0 : Int → Int → (List Int) → Option ρ) : L14_awake_l3 v9 v10 h0 k0 = L14_awake_L3 v9 v10 h0 k0 := by unfold L14_awake_l3; rw [shut_eq]
noncomputable def L14_awake_raw {ρ : Type}  (k : Bool → Option ρ) : Option ρ :=
  L14_awake_l3 (↑32 : Int) (0 : Int) (List.replicate 32 (0 : Int))
    fun (q0 q1 : Int) (q2 : List Int) =>
    lmots_Digits (8 : Int) q2 fun (q3 : List Int) (q4 : Int) =>
      lmots_Digits (3 : Int) q2 fun (q5 : List Int) (q6 : Int) =>
        lmots_Size (4 : Int) fun (q7 : Int) =>
          br (q7 == (2180 : Int))
            (br (q4 == (0 : Int))
              (br ((↑q3.length : Int) == (34 : Int))
                (br (decide ((31 : Int) < (↑q3.length : Int)))
                  (br (q3.getD 31 (0 : Int) == (255 : Int))
                    (br (decide ((32 : Int) < (↑q3.length : Int)))
                      (br (q3.getD 32 (0 : Int) == (0 : Int))
                        (br (decide ((33 : Int) < (↑q3.length : Int)))
                          (br (q3.getD 33 (0 : Int) == (0 : Int)) (k (q6 == (9 : Int))) (k false)) none)
                        (k false))
                      none)
                    (k false))
                  none)
                (k false))
              (k false))
            (k false)
noncomputable def L14_awake {ρ : Type}  (k : Bool → Option ρ) : Option ρ := shut (L14_awake_raw (ρ := ρ))  k
theorem L14_awake_eq {ρ : Type}  (k : Bool → Option ρ) : L14_awake  k = L14_awake_raw  k := by unfold L14_awake; rw [shut_eq]
end P
end

section
/- lmots: digits. -/
namespace Q
open Go Go.Abs
set_option linter.unusedVariables false
set_option linter.unusedSimpArgs false
theorem R01_Be (N s : Nat) (hN : N < 18446744073709551616) (hs : s ≤ 65536) {ρ : Type} (k : List Int → Option ρ) : P.R01_Be (N : Int) (s : Int) k = k (bsw 8 s N).reverse := by
  rw [P.R01_Be_eq]
  unfold P.R01_Be_raw
  simp only [toNat_cast]
  simp (disch := omega) only [br_pos, br_neg, br_bne_pos, br_bne_neg, br_beq_pos, br_beq_neg, br_not, br_tt, br_ff, i64w]
  rw [P.R01_Be_l5_eq]
  unfold P.R01_Be_L5
  refine lp_go (fun j => (((N / 2 ^ (8 * j) : Nat) : Int), (s : Int) - 1 - (j : Int), List.replicate (s - j) 0 ++ (bsw 8 j N).reverse)) s (by simp [bsw]) (fun j hj next hn' => ?_) (fun next => ?_) (by omega)
  · simp only [P.R01_Be_r5, List.length_append, List.length_replicate, List.length_reverse, bsw_length]
    rw [show (s : Int) - 1 - (j : Int) = ((s - 1 - j : Nat) : Int) by omega]
    simp only [toNat_cast]
    have hd := Nat.div_le_self N (2 ^ (8 * j))
    have hb : bits .and .u64 ((N / 2 ^ (8 * j) : Nat) : Int) 255 = ((N / 2 ^ (8 * j) % 2 ^ 8 : Nat) : Int) := by
      rw [show (255 : Int) = ((2 ^ 8 - 1 : Nat) : Int) from rfl, and_u64 _ _ (by omega) (by omega), Nat.and_two_pow_sub_one_eq_mod]
    have hd2 : (((N / 2 ^ (8 * j) : Nat) : Int)).fdiv ((2 : Int) ^ 8) = ((N / 2 ^ (8 * (j + 1)) : Nat) : Int) := by
      rw [show ((2 : Int) ^ 8) = (2 : Int) ^ min 8 8 from rfl, fdiv_pow _ 8 8 (by omega), Nat.div_div_eq_div_mul, ← Nat.pow_add, Nat.mul_succ]
    rw [hb, hd2, u8n _ (by omega)]
    rw [bsw_succ, List.reverse_append, List.reverse_singleton, List.singleton_append] at hn'
    have hset : (List.replicate (s - j) (0 : Int) ++ (bsw 8 j N).reverse).set (s - 1 - j) ((N / 2 ^ (8 * j) % 2 ^ 8 : Nat) : Int) = List.replicate (s - (j + 1)) 0 ++ ((N / 2 ^ (8 * j) % 2 ^ 8 : Nat) : Int) :: (bsw 8 j N).reverse := by
      rw [show s - j = (s - (j + 1)) + 1 by omega, List.replicate_succ', List.append_assoc, List.set_append_right _ _ (by simp; omega), List.length_replicate, show s - 1 - j - (s - (j + 1)) = 0 by omega]
      rfl
    rw [hset]
    simp (disch := omega) only [br_pos, br_neg, br_bne_pos, br_bne_neg, br_beq_pos, br_beq_neg, br_not, br_tt, br_ff, i64w]
    rw [show ((s - 1 - j : Nat) : Int) - 1 = (s : Int) - 1 - ((j + 1 : Nat) : Int) by omega]
    exact hn'
  · simp only [P.R01_Be_r5]
    rw [br_neg (by omega), Nat.sub_self]; rfl
def Kind (w p s : Nat) : Prop := (w = 1 ∧ p = 265 ∧ s = 7) ∨ (w = 2 ∧ p = 133 ∧ s = 6) ∨ (w = 4 ∧ p = 67 ∧ s = 4) ∨ (w = 8 ∧ p = 34 ∧ s = 0)
def sumTo (D : List Int) : Nat → Nat
  | 0 => 0
  | i + 1 => sumTo D i + (D.getD i 0).toNat
theorem sumTo_le (D : List Int) (w : Nat) (h : In (2 ^ w) D) : ∀ i, sumTo D i ≤ i * (2 ^ w - 1)
  | 0 => by simp [sumTo]
  | i + 1 => by
    have ih := sumTo_le D w h i
    have hp : ((2 : Int) ^ w) = ((2 ^ w : Nat) : Int) := by simp
    have := h.getD i (by rw [hp]; have := p2 w; omega)
    rw [hp] at this
    rw [Nat.succ_mul]; simp only [sumTo]; omega
theorem digits_in (b : List Int) (w c : Int) : In (2 ^ w.toNat) (digitsS b w c) := by
  unfold digitsS
  split
  · refine In.map (fun i _ => ⟨Int.natCast_nonneg _, ?_⟩)
    have := Nat.mod_lt (T 8 b.reverse / 2 ^ (8 * b.length - w.toNat * (i + 1))) (p2 w.toNat)
    have hp : ((2 : Int) ^ w.toNat) = ((2 ^ w.toNat : Nat) : Int) := by simp
    rw [hp]; unfold dg; omega
  · exact In.nil
def left (w s : Nat) (b : List Int) : Nat := ((256 / w) * (2 ^ w - 1) - sumTo (digitsS b w ((256 / w : Nat) : Int)) (256 / w)) * 2 ^ s
def allD (w p s : Nat) (b : List Int) : List Int := digitsS (b ++ (bsw 8 2 (left w s b)).reverse) w p
theorem kind_facts {w p s : Nat} (h : Kind w p s) : 1 ≤ w ∧ w ≤ 8 ∧ (256 / w) * w = 256 ∧ 256 / w ≤ p ∧ w * p = 272 - s ∧ s ≤ 7 ∧ (256 / w) * (2 ^ w - 1) * 2 ^ s < 65536 ∧ p ≤ 265 ∧ 2 ^ w ≤ 256 ∧ 2 ^ s ≤ 128 ∧ (256 / w) * (2 ^ w - 1) < 65536 := by
  rcases h with ⟨rfl, rfl, rfl⟩ | ⟨rfl, rfl, rfl⟩ | ⟨rfl, rfl, rfl⟩ | ⟨rfl, rfl, rfl⟩ <;> decide
theorem left_lt {w p s : Nat} (h : Kind w p s) (b : List Int) : left w s b < 65536 := by
  have f := kind_facts h
  unfold left
  have : ((256 / w) * (2 ^ w - 1) - sumTo (digitsS b w ((256 / w : Nat) : Int)) (256 / w)) * 2 ^ s ≤ (256 / w) * (2 ^ w - 1) * 2 ^ s := Nat.mul_le_mul (by omega) (Nat.le_refl _)
  omega
theorem digits_map (b : List Int) (w c : Nat) (h1 : 1 ≤ w) (h2 : w ≤ 24) (h : c * w ≤ b.length * 8) : digitsS b (w : Int) (c : Int) = (List.range c).map (dg w b.length (T 8 b.reverse)) := by
  unfold digitsS
  rw [if_pos (by refine ⟨by omega, by omega, by omega, ?_⟩; rw [← Int.natCast_mul]; omega)]
  simp only [toNat_cast]
theorem digits_app {w p s : Nat} (hk : Kind w p s) (b e : List Int) (hb : b.length = 32) (he : e.length = 2) :
    digitsS (b ++ e) w p = digitsS b w ((256 / w : Nat) : Int) ++ digitsS e w ((p - 256 / w : Nat) : Int) := by
  obtain ⟨f1, f2, f3, f4, f5, f6, f7, f8, f9, f10, f11⟩ := kind_facts hk
  have hpw : p * w = 272 - s := by rw [Nat.mul_comm]; exact f5
  rw [digits_map _ w p f1 (by omega) (by rw [List.length_append]; omega), digits_map _ w _ f1 (by omega) (by omega), digits_map _ w _ f1 (by omega) (by rw [Nat.sub_mul]; omega)]
  rw [show p = 256 / w + (p - 256 / w) by omega, List.range_add, List.map_append, List.map_map, show 256 / w + (p - 256 / w) - 256 / w = p - 256 / w by omega]
  have hT : T 8 (b ++ e).reverse = T 8 e.reverse + 2 ^ 16 * T 8 b.reverse := by
    rw [List.reverse_append, T_append, List.length_reverse, he]
  have hlt := T_lt 8 e.reverse
  rw [List.length_reverse, he] at hlt
  congr 1
  · refine List.map_congr_left (fun i hi => ?_)
    have hi := List.mem_range.1 hi
    have : w * (i + 1) ≤ w * (256 / w) := Nat.mul_le_mul (Nat.le_refl _) hi
    rw [Nat.mul_comm w (256 / w), f3] at this
    unfold dg
    rw [hT, List.length_append, hb, he, show 8 * (32 + 2) - w * (i + 1) = 16 + (8 * 32 - w * (i + 1)) by omega, Nat.pow_add, ← Nat.div_div_eq_div_mul, Nat.add_mul_div_left _ _ (p2 _), Nat.div_eq_of_lt hlt, Nat.zero_add]
  · refine List.map_congr_left (fun j hj => ?_)
    have hj := List.mem_range.1 hj
    have h3 : w * (256 / w + (j + 1)) ≤ w * p := Nat.mul_le_mul (Nat.le_refl _) (by omega)
    rw [Nat.mul_add, Nat.mul_comm w (256 / w), f3] at h3
    simp only [Function.comp]
    unfold dg
    rw [hT, List.length_append, hb, he, Nat.add_assoc, Nat.mul_add w (256 / w) (j + 1), Nat.mul_comm w (256 / w), f3, show 8 * (32 + 2) - (256 + w * (j + 1)) = 8 * 2 - w * (j + 1) by omega]
    congr 1
    rw [← piece_mod (T 8 e.reverse + 2 ^ 16 * T 8 b.reverse) (8 * 2 - w * (j + 1)) w 16 (by have h4 : w * (j + 1) = w * j + w := Nat.mul_succ w j; omega), Nat.add_mul_mod_self_left, Nat.mod_eq_of_lt hlt]
end Q
end

section
/- SHA-2: blocks one behind the other, words of 32 bits. -/
namespace Q
open Go Go.Abs
set_option linter.unusedVariables false
set_option linter.unusedSimpArgs false
def thr {w : Nat} (p : Par w) (v : List (BitVec w)) (b : List Int) : Nat → List (BitVec w)
  | 0 => v
  | i + 1 => blockB p (thr p v b i) ((b.drop ((2 * w) * i)).take (2 * w))
theorem thr_len {w : Nat} (p : Par w) (v : List (BitVec w)) (hv : v.length = 8) (b : List Int) : ∀ i, (thr p v b i).length = 8
  | 0 => hv
  | i + 1 => blockB_len _ _ _
def toV (w : Nat) (l : List Int) : List (BitVec w) := (List.range 8).map fun i => BitVec.ofInt w (l.getD i 0)
theorem toV_len (w : Nat) (l : List Int) : (toV w l).length = 8 := by simp [toV]
theorem cv_toV (w : Nat) (l : List Int) (hl : l.length = 8) (hi : In (2 ^ w) l) : cv (toV w l) = l := by
  unfold cv toV
  rw [List.map_map]
  refine List.ext_getElem (by simp [hl]) (fun i h1 h2 => ?_)
  have hp : ((2 : Int) ^ w) = ((2 ^ w : Nat) : Int) := by simp
  have := hi.getD i (by rw [hp]; have := p2 w; omega)
  rw [getD_lt h2] at this
  simp only [List.getElem_map, List.getElem_range, Function.comp, getD_lt h2, BitVec.toNat_ofInt]
  rw [hp] at this
  rw [Int.emod_eq_of_lt this.1 this.2]
  omega
theorem cv_in {w : Nat} (l : List (BitVec w)) : In (2 ^ w) (cv l) := by
  intro x hx
  obtain ⟨y, _, rfl⟩ := List.mem_map.1 hx
  have := y.isLt
  have hp : ((2 : Int) ^ w) = ((2 ^ w : Nat) : Int) := by simp
  rw [hp]
  omega
theorem toV_cv {w : Nat} (l : List (BitVec w)) (hl : l.length = 8) : toV w (cv l) = l := by
  unfold toV
  refine List.ext_getElem (by simp [hl]) (fun i h1 h2 => ?_)
  simp only [List.getElem_map, List.getElem_range, cv_getD, ofI, getD_lt h2]
theorem ofInt_toNat32 (x : Int) : IntKind.u32.wrap x = ((BitVec.ofInt 32 x).toNat : Int) := by
  rw [u32m, BitVec.toNat_ofInt]; omega
theorem ofInt_toNat64 (x : Int) : IntKind.u64.wrap x = ((BitVec.ofInt 64 x).toNat : Int) := by
  rw [u64m, BitVec.toNat_ofInt]; omega
theorem wrapN (n : Nat) (h : n < 18446744073709551616) : IntKind.u64.wrap (n : Int) = (n : Int) := u64n n h
def rest (n : Nat) (b : List Int) : List Int := b.drop (n * (b.length / n))
theorem t32_l3 (words b : List Int) (rd : Int) (t0 t1 t2 t3 h1 h2 : List Int) (hi : In 18446744073709551616 words) {ρ : Type} (k0 : List Int → List Int → Int → Int → Int → List Int → List Int → List Int → List Int → List Int → List Int → List Int → Option ρ) :
    P.sha_through_uint32_l3 b words 0 32 rd t0 t1 t2 t3 h1 h2 (List.replicate 8 0) k0 = k0 b words 8 32 rd t0 t1 t2 t3 h1 h2 (cv (toV 32 words)) := by
  rw [P.sha_through_uint32_l3_eq]
  unfold P.sha_through_uint32_L3
  refine lp_go (fun i => (b, words, (i : Int), 32, rd, t0, t1, t2, t3, h1, h2, cv ((List.range i).map fun i => BitVec.ofInt 32 (words.getD i 0)) ++ List.replicate (8 - i) 0)) 8 (by simp [cv]) (fun i hi' next hn' => ?_) (fun next => ?_) (by omega)
  · simp only [P.sha_through_uint32_r3, toNat_cast]
    have e4 : IntKind.i64.wrap ((i : Int) + 1) = ((i + 1 : Nat) : Int) := by rw [i64w (by omega) (by omega)]; omega
    have e5 : (cv ((List.range i).map fun i => BitVec.ofInt 32 (words.getD i 0)) ++ List.replicate (8 - i) (0 : Int)).set i ((BitVec.ofInt 32 (words.getD i 0)).toNat : Int) = cv ((List.range (i + 1)).map fun i => BitVec.ofInt 32 (words.getD i 0)) ++ List.replicate (8 - (i + 1)) 0 := by
      rw [List.set_append_right _ _ (by simp), cv_length, List.length_map, List.length_range, Nat.sub_self, show 8 - i = (8 - (i + 1)) + 1 by omega, List.replicate_succ, List.set_cons_zero, List.range_succ, List.map_append, ← cv_append, List.append_assoc]
      rfl
    rw [br_pos (by omega), br_pos (by omega), br_pos (by omega), br_pos (by omega), br_pos (by omega), ofInt_toNat32, e5, e4]
    exact hn'
  · simp only [P.sha_through_uint32_r3]
    rw [br_neg (by omega)]
    simp [toV]
theorem t32_l8 (v : List (BitVec 32)) (hv : v.length = 8) (b : List Int) (hb : In 256 b) (hn : b.length ≤ 1000000) (h1 h2 : List Int) {ρ : Type} (k0 : List Int → Int → List Int → List Int → List Int → Int → Int → List Int → List Int → List Int → List Int → Option ρ) :
    P.sha_through_uint32_l8 b 64 (cv v) h2 h1 32 64 [7, 18, 3] [17, 19, 10] [2, 13, 22] [6, 11, 25] k0 =
      k0 (rest 64 b) 64 (cv (thr p32 v b (b.length / 64))) h2 h1 32 64 [7, 18, 3] [17, 19, 10] [2, 13, 22] [6, 11, 25] := by
  rw [P.sha_through_uint32_l8_eq]
  unfold P.sha_through_uint32_L8
  refine lp_go (fun i => (b.drop (64 * i), 64, cv (thr p32 v b i), h2, h1, 32, 64, [7, 18, 3], [17, 19, 10], [2, 13, 22], [6, 11, 25])) (b.length / 64) (by simp [thr]) (fun i hi next hn' => ?_) (fun next => ?_) (by omega)
  · simp only [P.sha_through_uint32_r8]
    have hlen : (b.drop (64 * i)).length = b.length - 64 * i := by simp
    have hge : 64 ≤ b.length - 64 * i := by omega
    simp only [hlen, show (64 : Int).toNat = 64 from rfl, toNat_cast, List.drop_zero]
    have hbl : ((b.drop (64 * i)).take 64).length = 16 * 4 := by rw [List.length_take, hlen]; omega
    rw [br_pos (by omega), br_pos (by omega), br_pos (by omega), e32_block _ (thr_len _ _ hv _ _) _ ((hb.drop _).take _) hbl, br_pos (by omega), br_pos (by omega), br_pos (by omega),
      List.take_of_length_le (by rw [hlen]; omega), List.drop_drop, show 64 * i + 64 = 64 * (i + 1) by omega]
    exact hn'
  · simp only [P.sha_through_uint32_r8]
    have hlen : (b.drop (64 * (b.length / 64))).length = b.length - 64 * (b.length / 64) := by simp
    rw [br_neg (by rw [hlen]; omega)]
    rfl
theorem t32_l12 (v : List (BitVec 32)) (hv : v.length = 8) (b : List Int) (words h2 : List Int) (hl : words.length = 8) {ρ : Type} (k0 : List Int → List Int → Int → List Int → List Int → Option ρ) :
    P.sha_through_uint32_l12 b (cv v) 0 words h2 k0 = k0 b (cv v) 8 (cv v) h2 := by
  rw [P.sha_through_uint32_l12_eq]
  unfold P.sha_through_uint32_L12
  refine lp_go (fun i => (b, cv v, (i : Int), (cv v).take i ++ words.drop i, h2)) 8 (by simp) (fun i hi next hn' => ?_) (fun next => ?_) (by omega)
  · simp only [P.sha_through_uint32_r12, toNat_cast]
    have e4 : IntKind.i64.wrap ((i : Int) + 1) = ((i + 1 : Nat) : Int) := by rw [i64w (by omega) (by omega)]; omega
    have e5 : ((cv v).take i ++ words.drop i).set i ((cv v).getD i 0) = (cv v).take (i + 1) ++ words.drop (i + 1) := by
      rw [List.set_append_right _ _ (by rw [List.length_take]; omega), List.length_take, cv_length, hv, Nat.min_eq_left (by omega), Nat.sub_self, List.drop_eq_getElem_cons (by omega), List.set_cons_zero, ← take_step (cv v) 0 i (by rw [cv_length]; omega), List.append_assoc]
      rfl
    have e6 : IntKind.u64.wrap ((cv v).getD i 0) = (cv v).getD i 0 := by
      rw [cv_getD]; exact u64n _ (nlt _)
    rw [br_pos (by omega), br_pos (by omega), br_pos (by omega), br_pos (by omega), br_pos (by omega), e6, e5, e4]
    exact hn'
  · simp only [P.sha_through_uint32_r12]
    rw [br_neg (by omega), List.drop_eq_nil_of_le (by omega), List.append_nil, List.take_of_length_le (by rw [cv_length]; omega)]
    rfl
theorem t32_through (words b : List Int) (hl : words.length = 8) (hi : In 18446744073709551616 words) (hb : In 256 b) (hn : b.length ≤ 1000000) {ρ : Type} (k : List Int → List Int → Option ρ) :
    P.sha_through_uint32 32 64 [7, 18, 3] [17, 19, 10] [2, 13, 22] [6, 11, 25] words b k = k (cv (thr p32 (toV 32 words) b (b.length / 64))) (rest 64 b) := by
  rw [P.sha_through_uint32_eq]
  unfold P.sha_through_uint32_raw
  refine (t32_l3 words b 64 [7, 18, 3] [17, 19, 10] [2, 13, 22] [6, 11, 25] words (List.replicate 8 0) hi _).trans ?_
  rw [show IntKind.i64.wrap ((32 : Int) * 2) = 64 from rfl, t32_l8 _ (toV_len _ _) b hb hn, t32_l12 _ (thr_len _ _ (toV_len _ _) _ _) _ _ _ hl]
theorem r32_l4 (v : List (BitVec 32)) (hv : v.length = 8) (b : List Int) (hb : In 256 b) (hn : b.length ≤ 1000000) (kd : Int) (tl : List Int) (sz : Int) (a1 : Int) (a2 : List Int) (a3 : Int) {ρ : Type} (k0 : Int → List Int → Int → List Int → List Int → Int → Int → List Int → Int → Option ρ) :
    P.R07_Add_l4 64 b kd (cv v) tl sz a1 a2 a3 k0 = k0 64 (rest 64 b) kd (cv (thr p32 v b (b.length / 64))) tl sz a1 a2 a3 := by
  rw [P.R07_Add_l4_eq]
  unfold P.R07_Add_L4
  refine lp_go (fun i => (64, b.drop (64 * i), kd, cv (thr p32 v b i), tl, sz, a1, a2, a3)) (b.length / 64) (by simp [thr]) (fun i hi next hn' => ?_) (fun next => ?_) (by omega)
  · simp only [P.R07_Add_r4]
    have hlen : (b.drop (64 * i)).length = b.length - 64 * i := by simp
    have hge : 64 ≤ b.length - 64 * i := by omega
    simp only [hlen, show (64 : Int).toNat = 64 from rfl, toNat_cast, List.drop_zero]
    have hbl : ((b.drop (64 * i)).take 64).length = 16 * 4 := by rw [List.length_take, hlen]; omega
    rw [br_pos (by omega), br_pos (by omega), br_pos (by omega), show ((64 : Int) == 128) = false from rfl, r32_block _ (thr_len _ _ hv _ _) _ ((hb.drop _).take _) hbl, br_pos (by omega), br_pos (by omega), br_pos (by omega),
      List.take_of_length_le (by rw [hlen]; omega), List.drop_drop, show 64 * i + 64 = 64 * (i + 1) by omega]
    exact hn'
  · simp only [P.R07_Add_r4]
    have hlen : (b.drop (64 * (b.length / 64))).length = b.length - 64 * (b.length / 64) := by simp
    rw [br_neg (by rw [hlen]; omega)]
    rfl
end Q
end
