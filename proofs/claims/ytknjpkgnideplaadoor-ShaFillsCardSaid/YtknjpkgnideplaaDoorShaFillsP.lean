/-
  ShaFills, part P: an interpreter of my own over abstract values, the pure functions, the walks and the plain law.
-/

import Derived.Test.YtknjpkgnideplaaDoorShaFillsO
import Derived.Test.YtknjpkgnideplaaDoorShaFillsH

/- The plain law of ShaFills. -/
namespace Q
open Go Go.Abs
set_option linter.unusedVariables false
set_option linter.unusedSimpArgs false

theorem fills (b : List Int) (hn : b.length ≤ 600) (c : Int) (kd : Int) (w : List Int) (sz : Int) (t : List Int) {ρ : Type} (k0 : List Int → Int → List Int → List Int → Int → List Int → Int → Option ρ) :
    P.L07_ShaFills_l5 b c [128] t kd w sz k0 = k0 b c (128 :: List.replicate ((119 - b.length % 64) % 64) 0) t kd w sz := by
  rw [P.L07_ShaFills_l5_eq]
  unfold P.L07_ShaFills_L5
  have hlen : ∀ i : Nat, ((128 : Int) :: List.replicate i 0).length = 1 + i := fun i => by simp; omega
  have hs : ∀ i : Nat, ((128 : Int) :: List.replicate i 0) ++ [(0 : Int)] = 128 :: List.replicate (i + 1) 0 := fun i => by
    rw [List.replicate_succ']; rfl
  have hc : ∀ i : Nat, i ≤ 200 → IntKind.i64.wrap (((b.length : Nat) : Int) + ((((128 : Int) :: List.replicate i 0).length : Nat) : Int)) = ((b.length + (1 + i) : Nat) : Int) := fun i hi => by
    rw [hlen, i64w (by omega) (by omega)]; omega
  refine lp_go (fun i => (b, c, 128 :: List.replicate i 0, t, kd, w, sz)) ((119 - b.length % 64) % 64) rfl (fun i hi next hn' => ?_) (fun next => ?_) (by omega)
  · simp only [P.L07_ShaFills_r5]
    rw [hc i (by omega), show (64 : Int) = ((64 : Nat) : Int) from rfl, tmN, br_bne_pos (by omega), br_pos (by rw [hlen]; omega), hs]
    exact hn'
  · simp only [P.L07_ShaFills_r5]
    rw [hc _ (by omega), show (64 : Int) = ((64 : Nat) : Int) from rfl, tmN, br_bne_neg (by omega)]

theorem out_piece (words : List Int) : ∀ n i, i < n → ((outI 4 words n).drop (4 * i)).take 4 = (bsw 8 4 (words.getD i 0).toNat).reverse
  | 0, i, h => by omega
  | n + 1, i, h => by
    rw [outI_succ]
    have hl := outI_len 4 words n
    by_cases e : i = n
    · subst e
      rw [List.drop_append, List.drop_eq_nil_of_le (by omega), List.nil_append, hl, Nat.sub_self, List.drop_zero, List.take_of_length_le (by simp)]
    · rw [List.drop_append_of_le_length (by omega), List.take_append_of_le_length (by rw [List.length_drop]; omega), out_piece words n i (by omega)]

theorem ShaFills (x0 : List Int) (nx0 : x0.length ≤ 140737488355328) (wx0 : ∀ x, x ∈ x0 → wfI .u8 x) {ρ : Type} (k : Bool → Option ρ) : P.L07_ShaFills x0 k = k true := by
  rw [P.L07_ShaFills_eq]; unfold P.L07_ShaFills_raw
  have h1 := in_u8 wx0
  by_cases g1 : ((x0.length : Nat) : Int) > 600
  · rw [br_pos g1, L07_awake]
  have hw := newW_ok 1
  have e8 : IntKind.u64.wrap (IntKind.u64.wrap ((x0.length : Nat) : Int) * 8) = ((x0.length * 8 : Nat) : Int) := by
    rw [u64n _ (by omega), show ((x0.length : Nat) : Int) * 8 = ((x0.length * 8 : Nat) : Int) by omega, u64n _ (by omega)]
  have hr := rest_len 64 (by omega) x0
  have hpad : (128 : Int) :: List.replicate ((119 - x0.length % 64) % 64) 0 ++ (bsw 8 8 (x0.length * 8)).reverse = pad 1 (rest 64 x0).length x0.length := by
    unfold pad padZ
    rw [if_pos rfl, hr, Nat.mod_eq_of_lt (show x0.length * 8 < 2 ^ 64 by omega)]
  have hpl := pad_len 1 (rest 64 x0).length x0.length
  have hpz := padZ_le 1 (rest 64 x0).length
  rw [br_neg g1, sha_New (.inl rfl), fills x0 (by omega), e8, show (8 : Int) = ((8 : Nat) : Int) from rfl, R01_Be _ 8 (by omega) (by omega), br_pos (by simp; omega), hpad,
    sha_Add 1 _ [] _ x0 hw.1 hw.2.1 In.nil h1 (by simp; omega), List.nil_append, size_add x0 (by omega), show bsz 1 = 64 from rfl,
    sha_Add 1 _ _ _ _ (addW_len _ _ _) (addW_ok _ _ _).2.1 (rest_in h1) (pad_in _ _ _) (by omega), sha_Sum (.inl rfl) _ h1 (by omega)]
  have hl := sumS_len 1 x0
  rw [if_pos rfl] at hl
  have hpz2 : padZ 1 (rest 64 x0).length = (119 - x0.length % 64) % 64 := by unfold padZ; rw [if_pos rfl, hr]
  have hrl : (rest 64 (rest 64 x0 ++ pad 1 (rest 64 x0).length x0.length)).length = 0 := by
    rw [rest_len 64 (by decide), List.length_append, hpl, hpz2, hr]; omega
  have hs : sumS 1 x0 = outI 4 (addW 1 (addW 1 (newW 1) x0) (rest 64 x0 ++ pad 1 (rest 64 x0).length x0.length)) 8 := by
    unfold sumS endS
    simp only
    rw [if_neg (by decide)]
    rfl
  have hW := addW_ok 1 (addW 1 (newW 1) x0) (rest 64 x0 ++ pad 1 (rest 64 x0).length x0.length)
  rw [br_bne_neg (by rfl), br_bne_neg (by rfl), br_bne_neg (by rw [show bsz 1 = 64 from rfl, hrl]; rfl), br_bne_neg (by rw [hl]; rfl), P.L07_ShaFills_l13_eq]
  unfold P.L07_ShaFills_L13
  refine lp_go (fun i => ((i : Int), _, _, _, _, _)) 8 rfl (fun i hi next hn' => ?_) (fun next => ?_) (by omega)
  · simp only [P.L07_ShaFills_r13, toNat_cast, Sum.elim_inl, Sum.elim_inr]
    have e1 : IntKind.i64.wrap ((4 : Int) * (i : Int)) = ((4 * i : Nat) : Int) := by rw [i64w (by omega) (by omega)]; omega
    have e2 : IntKind.i64.wrap (IntKind.i64.wrap ((4 : Int) * (i : Int)) + 4) = ((4 * i + 4 : Nat) : Int) := by rw [e1, i64w (by omega) (by omega)]; omega
    have e3 : IntKind.i64.wrap ((i : Int) + 1) = ((i + 1 : Nat) : Int) := by rw [i64w (by omega) (by omega)]; omega
    have hg := (hW.2.2 rfl).getD i (by omega)
    rw [e2, e1, e3, show (((4 * i + 4 : Nat) : Int) - ((4 * i : Nat) : Int)).toNat = 4 by omega]
    simp only [toNat_cast]
    rw [br_pos (by omega), br_pos (by omega), br_pos (by omega), br_pos (by rw [hl]; omega), hs, out_piece _ 8 i hi, R01_Num _ (bsw_in 8 4 _).rev (by simp), List.reverse_reverse, T_bsw, br_pos (by omega), br_pos (by omega), br_bne_neg (by omega)]
    rw [hs] at hn'
    exact hn'
  · simp only [P.L07_ShaFills_r13, Sum.elim_inl, Sum.elim_inr]
    rw [br_neg (by omega), L07_awake]
end Q
