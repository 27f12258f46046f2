/-
  LmsVerifies, part Q: an interpreter of my own over abstract values, the pure functions, the walks and the plain law.
-/

import Derived.Test.YtknjpkgnideplaaDoorLmsVerifiesP
import Derived.Test.YtknjpkgnideplaaDoorLmsVerifiesH

section
/- lms: signatures, and what verifies them. -/
namespace Q
open Go Go.Abs
set_option linter.unusedVariables false
set_option linter.unusedSimpArgs false
def nm (b : List Int) (i j : Nat) : Nat := T 8 ((b.take j).drop i).reverse
theorem nm_lt (b : List Int) (i j : Nat) (h : j - i ≤ 4) : nm b i j < 4294967296 := by
 unfold nm
 have h1 := T_lt 8 ((b.take j).drop i).reverse
 have h2 : 8 * ((b.take j).drop i).reverse.length ≤ 32 := by simp only [List.length_reverse, List.length_drop, List.length_take]; omega
 have h3 : 2 ^ (8 * ((b.take j).drop i).reverse.length) ≤ 2 ^ 32 := Nat.pow_le_pow_right (by omega) h2
 omega
theorem num_nm (b : List Int) (hb : In 256 b) (i j : Nat) (hj : j - i ≤ 4) {ρ : Type} (k : Int → Option ρ) : P.bits_Num (((b.take j).drop i)) k = k ((nm b i j : Nat) : Int) := by
 have := nm_lt b i j hj
 rw [bits_Num _ ((hb.take j).drop i) (by simp only [List.length_drop, List.length_take]; omega)]
 unfold nm at this ⊢
 rw [Nat.mod_eq_of_lt (by omega)]
theorem num_nm' (b : List Int) (hb : In 256 b) (i j : Nat) (hj : j - i ≤ 4) {ρ : Type} (k : Int → Option ρ) : P.R01_Num (((b.take j).drop i)) k = k ((nm b i j : Nat) : Int) := by
 have := nm_lt b i j hj
 rw [R01_Num _ ((hb.take j).drop i) (by simp only [List.length_drop, List.length_take]; omega)]
 unfold nm at this ⊢
 rw [Nat.mod_eq_of_lt (by omega)]
def pOf (w : Nat) : Nat := if w = 1 then 265 else if w = 2 then 133 else if w = 4 then 67 else 34
def sOf (w : Nat) : Nat := if w = 1 then 7 else if w = 2 then 6 else if w = 4 then 4 else 0
theorem wOf_kind {c : Nat} (h : wOf c ≠ 0) : Kind (wOf c) (pOf (wOf c)) (sOf (wOf c)) ∧ codeW (wOf c) = c ∧ wOf c ≤ 8 ∧ pOf (wOf c) ≤ 265 := by
 have hc : c = 1 ∨ c = 2 ∨ c = 3 ∨ c = 4 := by
  revert h
  unfold wOf
  split
  ·omega
  ·split
   ·omega
   ·split
    ·omega
    ·split <;> omega
 rcases hc with rfl | rfl | rfl | rfl <;> simp [wOf, pOf, sOf, Kind, codeW]
theorem leafCode_ok {w p s : Nat} (h : Kind w p s) {ρ : Type} (k : Int → Option ρ) : P.lms_leafCode (w : Int) k = k ((codeW w : Nat) : Int) := by
 rw [P.lms_leafCode_eq]; unfold P.lms_leafCode_raw
 rcases h with ⟨rfl, _, _⟩ | ⟨rfl, _, _⟩ | ⟨rfl, _, _⟩ | ⟨rfl, _, _⟩ <;> simp [codeW]
theorem codeH_none (h : Nat) (h1 : ¬ (1 ≤ h ∧ h ≤ 4)) (h2 : h ≠ 5) (h3 : h ≠ 10) (h4 : h ≠ 15) (h5 : h ≠ 20) (h6 : h ≠ 25) : codeH h = 0 := by
 unfold codeH
 rw [if_neg h1, if_neg (by omega)]
theorem lms_code (h : Nat) (hh : h ≤ 1000) {ρ : Type} (k : Int → Option ρ) : P.lms_code (h : Int) k = k ((codeH h : Nat) : Int) := by
 rw [P.lms_code_eq]; unfold P.lms_code_raw
 by_cases a1 : h = 1
 ·subst a1; rw [br_beq_pos (by decide), br_beq_pos (by decide)]; rfl
 by_cases a2 : h = 2
 ·subst a2; rw [br_beq_neg (by decide), br_beq_pos (by decide), br_beq_pos (by decide)]; rfl
 by_cases a3 : h = 3
 ·subst a3; rw [br_beq_neg (by decide), br_beq_neg (by decide), br_beq_pos (by decide), br_beq_pos (by decide)]; rfl
 by_cases a4 : h = 4
 ·subst a4; rw [br_beq_neg (by decide), br_beq_neg (by decide), br_beq_neg (by decide), br_beq_pos (by decide)]; rfl
 rw [br_beq_neg (by omega), br_beq_neg (by omega), br_beq_neg (by omega), br_beq_neg (by omega)]
 by_cases b1 : h = 5
 ·subst b1; rw [br_beq_pos (by decide), br_beq_pos (by decide)]; rfl
 by_cases b2 : h = 10
 ·subst b2; rw [br_beq_neg (by decide), br_beq_pos (by decide), br_beq_pos (by decide)]; rfl
 by_cases b3 : h = 15
 ·subst b3; rw [br_beq_neg (by decide), br_beq_neg (by decide), br_beq_pos (by decide), br_beq_pos (by decide)]; rfl
 by_cases b4 : h = 20
 ·subst b4; rw [br_beq_neg (by decide), br_beq_neg (by decide), br_beq_neg (by decide), br_beq_pos (by decide), br_beq_pos (by decide)]; rfl
 by_cases b5 : h = 25
 ·subst b5; rw [br_beq_neg (by decide), br_beq_neg (by decide), br_beq_neg (by decide), br_beq_neg (by decide), br_beq_pos (by decide)]; rfl
 rw [br_beq_neg (by omega), br_beq_neg (by omega), br_beq_neg (by omega), br_beq_neg (by omega), br_beq_neg (by omega), codeH_none h (by omega) b1 b2 b3 b4 b5]
 rfl
theorem lms_Size_ok {w p s h : Nat} (hk : Kind w p s) (hp : p ≤ 265) (hh : codeH h ≠ 0) (h25 : h ≤ 25) {ρ : Type} (k : Int → Option ρ) : P.lms_Size (h : Int) (w : Int) k = k ((4 + (36 + 32 * p) + 4 + 32 * h : Nat) : Int) := by
 rw [P.lms_Size_eq]; unfold P.lms_Size_raw
 have hcw : codeW w ≠ 0 := by unfold codeW; split <;> (try split) <;> (try split) <;> omega
 rw [P.lms_Fit_eq]; unfold P.lms_Fit_raw
 rw [lms_code h (by omega), br_bne_pos (by omega), leafCode_ok hk, show (((codeW w : Nat) : Int) != 0) = true by rw [bne_iff_ne]; omega]
 dsimp only
 rw [br_not, br_tt, lmots_Size hk,
  i64w (x := (4 : Int) + ((36 + 32 * p : Nat) : Int)) (by omega) (by omega), i64w (x := (4 : Int) + ((36 + 32 * p : Nat) : Int) + 4) (by omega) (by omega), i64w (x := (32 : Int) * (h : Int)) (by omega) (by omega), i64w (by omega) (by omega)]
 congr 1
def cutK {ρ : Type} (b : List Int) (k : List Int → Int → Int → List Int → Int → Option ρ) : Option ρ :=
 if b.length < 8 then k [] 0 0 [] 1 else
 if wOf (nm b 4 8) = 0 then k [] 0 0 [] 9 else
 if b.length < 4 + (36 + 32 * pOf (wOf (nm b 4 8))) + 4 then k [] 0 0 [] 1 else
 if hOf (nm b (4 + (36 + 32 * pOf (wOf (nm b 4 8)))) (4 + (36 + 32 * pOf (wOf (nm b 4 8))) + 4)) = 0 then k [] 0 0 [] 9 else
 if b.length < 4 + (36 + 32 * pOf (wOf (nm b 4 8))) + 4 + 32 * hOf (nm b (4 + (36 + 32 * pOf (wOf (nm b 4 8)))) (4 + (36 + 32 * pOf (wOf (nm b 4 8))) + 4)) then k [] 0 0 [] 1 else
 k (b.take (4 + (36 + 32 * pOf (wOf (nm b 4 8))) + 4 + 32 * hOf (nm b (4 + (36 + 32 * pOf (wOf (nm b 4 8)))) (4 + (36 + 32 * pOf (wOf (nm b 4 8))) + 4))))
  ((hOf (nm b (4 + (36 + 32 * pOf (wOf (nm b 4 8)))) (4 + (36 + 32 * pOf (wOf (nm b 4 8))) + 4)) : Nat) : Int) ((wOf (nm b 4 8) : Nat) : Int)
  (b.drop (4 + (36 + 32 * pOf (wOf (nm b 4 8))) + 4 + 32 * hOf (nm b (4 + (36 + 32 * pOf (wOf (nm b 4 8)))) (4 + (36 + 32 * pOf (wOf (nm b 4 8))) + 4)))) 0
theorem lms_Cut (b : List Int) (hb : In 256 b) (hn : b.length ≤ 1000000) {ρ : Type} (k : List Int → Int → Int → List Int → Int → Option ρ) : P.lms_Cut b k = cutK b k := by
 rw [P.lms_Cut_eq]; unfold P.lms_Cut_raw cutK
 by_cases h8 : b.length < 8
 ·rw [br_pos (by omega), if_pos h8]
 ·rw [br_neg (by omega), if_neg h8, br_pos (by omega), show Int.toNat (8 : Int) = 8 from rfl, num_nm b hb 4 8 (by omega), lms_digit _ (by have := nm_lt b 4 8 (by omega); omega)]
  generalize hc : nm b 4 8 = c
  by_cases hw : wOf c = 0
  ·rw [hw, br_beq_pos (by omega), if_pos rfl]
  ·obtain ⟨hk, hcw, hw8, hp⟩ := wOf_kind hw
   rw [br_beq_neg (by omega), if_neg hw, lmots_Size hk]
   generalize hpp : pOf (wOf c) = p at hk hp ⊢
   generalize hww : wOf c = w at hk hw hw8 hcw ⊢
   rw [i64w (x := (4 : Int) + ((36 + 32 * p : Nat) : Int)) (by omega) (by omega), i64w (x := (4 : Int) + ((36 + 32 * p : Nat) : Int) + 4) (by omega) (by omega)]
   by_cases hl : b.length < 4 + (36 + 32 * p) + 4
   ·rw [br_pos (by omega), if_pos hl]
   ·rw [br_neg (by omega), if_neg hl, br_pos (by omega), br_pos (by omega), br_pos (by omega), show ((4 : Int) + ((36 + 32 * p : Nat) : Int)).toNat = 4 + (36 + 32 * p) by omega, show ((4 : Int) + ((36 + 32 * p : Nat) : Int) + 4).toNat = 4 + (36 + 32 * p) + 4 by omega,
      num_nm b hb _ _ (by omega), lms_height _ (by have := nm_lt b (4 + (36 + 32 * p)) (4 + (36 + 32 * p) + 4) (by omega); omega)]
    generalize nm b (4 + (36 + 32 * p)) (4 + (36 + 32 * p) + 4) = ch
    by_cases hh : hOf ch = 0
    ·rw [hh, br_beq_pos (by omega), if_pos rfl]
    ·obtain ⟨g1, g2, g3⟩ := codeH_hOf ch hh
     have hch : codeH (hOf ch) ≠ 0 := by
      rw [g1]
      rintro rfl
      exact hh rfl
     rw [br_beq_neg (by omega), if_neg hh, lms_Size_ok hk hp hch g3]
     by_cases hl2 : b.length < 4 + (36 + 32 * p) + 4 + 32 * hOf ch
     ·rw [br_pos (by omega), if_pos hl2]
     ·rw [br_neg (by omega), if_neg hl2, br_pos (by omega), br_pos (by omega), toNat_cast, List.drop_zero, bits_Join _ (by simp) (by simp; omega), br_pos (by omega), br_pos (by omega), br_pos (by omega), toNat_cast, List.take_length, bits_Join _ (by simp) (by simp; omega)]
      simp only [List.flatten_cons, List.flatten_nil, List.append_nil]
theorem R15_Cut (b : List Int) (hb : In 256 b) (hn : b.length ≤ 1000000) {ρ : Type} (k : List Int → Int → Int → List Int → Int → Option ρ) : P.R15_Cut b k = cutK b k := by
 rw [P.R15_Cut_eq]; unfold P.R15_Cut_raw cutK
 by_cases h8 : b.length < 8
 ·rw [br_pos (by omega), if_pos h8]
 ·rw [br_neg (by omega), if_neg h8, br_pos (by omega), show Int.toNat (8 : Int) = 8 from rfl, num_nm' b hb 4 8 (by omega), R15_digit _ (by have := nm_lt b 4 8 (by omega); omega)]
  generalize hc : nm b 4 8 = c
  by_cases hw : wOf c = 0
  ·rw [hw, br_beq_pos (by omega), if_pos rfl]
  ·obtain ⟨hk, hcw, hw8, hp⟩ := wOf_kind hw
   rw [br_beq_neg (by omega), if_neg hw, R14_Size hk]
   generalize hpp : pOf (wOf c) = p at hk hp ⊢
   generalize hww : wOf c = w at hk hw hw8 hcw ⊢
   rw [i64w (x := (4 : Int) + ((36 + 32 * p : Nat) : Int)) (by omega) (by omega), i64w (x := (4 : Int) + ((36 + 32 * p : Nat) : Int) + 4) (by omega) (by omega)]
   by_cases hl : b.length < 4 + (36 + 32 * p) + 4
   ·rw [br_pos (by omega), if_pos hl]
   ·rw [br_neg (by omega), if_neg hl, br_pos (by omega), br_pos (by omega), br_pos (by omega), show ((4 : Int) + ((36 + 32 * p : Nat) : Int)).toNat = 4 + (36 + 32 * p) by omega, show ((4 : Int) + ((36 + 32 * p : Nat) : Int) + 4).toNat = 4 + (36 + 32 * p) + 4 by omega,
      num_nm' b hb _ _ (by omega), R15_height _ (by have := nm_lt b (4 + (36 + 32 * p)) (4 + (36 + 32 * p) + 4) (by omega); omega)]
    generalize nm b (4 + (36 + 32 * p)) (4 + (36 + 32 * p) + 4) = ch
    by_cases hh : hOf ch = 0
    ·rw [hh, br_beq_pos (by omega), if_pos rfl]
    ·obtain ⟨g1, g2, g3⟩ := codeH_hOf ch hh
     rw [br_beq_neg (by omega), if_neg hh, i64w (x := (32 : Int) * ((hOf ch : Nat) : Int)) (by omega) (by omega), i64w (x := (4 : Int) + ((36 + 32 * p : Nat) : Int) + 4 + 32 * ((hOf ch : Nat) : Int)) (by omega) (by omega)]
     by_cases hl2 : b.length < 4 + (36 + 32 * p) + 4 + 32 * hOf ch
     ·rw [br_pos (by omega), if_pos hl2]
     ·rw [br_neg (by omega), if_neg hl2, br_pos (by omega), br_pos (by omega), br_pos (by omega), br_pos (by omega), br_pos (by omega), toNat_cast, List.drop_zero, List.take_length, show ((4 : Int) + ((36 + 32 * p : Nat) : Int) + 4 + 32 * ((hOf ch : Nat) : Int)).toNat = 4 + (36 + 32 * p) + 4 + 32 * hOf ch by omega]
theorem head_ok {w p s h : Nat} (hk : Kind w p s) (h25 : h ≤ 25) {ρ : Type} (k : List Int → Option ρ) : P.lms_head (h : Int) (w : Int) k = k (beN (codeH h) 4 ++ beN (codeW w) 4) := by
 rw [P.lms_head_eq]; unfold P.lms_head_raw
 have h1 := codeH_lt h
 have h2 := codeW_lt w
 rw [lms_code h (by omega), show (4 : Int) = ((4 : Nat) : Int) from rfl, bits_Be _ 4 (by omega) (by omega), leafCode_ok hk, bits_Be _ 4 (by omega) (by omega), bits_Join _ (by simp) (by simp)]
 simp only [List.flatten_cons, List.flatten_nil, List.append_nil]
 rfl
theorem head15_ok {w p s h : Nat} (hk : Kind w p s) (h25 : h ≤ 25) {ρ : Type} (k : List Int → Option ρ) : P.R15_head (h : Int) (w : Int) k = k (beN (codeH h) 4 ++ beN (codeW w) 4) := by
 rw [P.R15_head_eq]; unfold P.R15_head_raw
 have h1 := codeH_lt h
 have h2 := codeW_lt w
 rw [Kind_c hk, R15_Code h (by omega), show (4 : Int) = ((4 : Nat) : Int) from rfl, R01_Be _ 4 (by omega) (by omega), R01_Be _ 4 (by omega) (by omega), br_pos (by simp)]
 rfl
end Q
end

section
namespace Q
open Go Go.Abs
set_option linter.unusedVariables false
set_option linter.unusedSimpArgs false
theorem L15_few (l : List (List Int)) (hl : l.length ≤ 100) {ρ : Type} (k : Bool → Option ρ) : (P.L15_few l k = k true ∧ ∀ i, i < l.length → (l.getD i []).length ≤ 300) ∨ P.L15_few l k = k false := by
 rw [P.L15_few_eq]
 unfold P.L15_few_raw
 rw [P.L15_few_l2_eq]
 unfold P.L15_few_L2
 by_cases h : ∀ i, i < l.length → (l.getD i []).length ≤ 300
 ·refine .inl ⟨lp_go (fun i => (l, (l.length : Int), (i : Int))) l.length rfl (fun i hi next hn' => ?_) (fun next => ?_) (by omega), h⟩
  ·have := h i hi
   simp only [P.L15_few_r2, toNat_cast, Sum.elim_inl, Sum.elim_inr]
   simp (disch := omega) only [br_pos, br_neg, br_bne_pos, br_bne_neg, br_beq_pos, br_beq_neg, br_not, br_tt, br_ff, i64w]
   exact hn'
  ·simp only [P.L15_few_r2, toNat_cast, Sum.elim_inl, Sum.elim_inr]
   rw [br_neg (by omega)]
 ·refine .inr (lp_eq (P := fun x => ∃ j : Nat, x = (l, (l.length : Int), (j : Int)) ∧ ∃ i, j ≤ i ∧ i < l.length ∧ ¬ (l.getD i []).length ≤ 300) (μ := fun x => ((l.length : Int) - x.2.2).toNat) ?_ ⟨0, rfl, ?_⟩ (by simp only; omega))
  ·rintro _ ⟨j, rfl, i, hji, hi, hb⟩ next hn
   simp only [P.L15_few_r2, toNat_cast, Sum.elim_inl, Sum.elim_inr]
   by_cases hj : ((l.getD j []).length : Int) > 300
   ·simp (disch := omega) only [br_pos, br_neg, br_bne_pos, br_bne_neg, br_beq_pos, br_beq_neg, br_not, br_tt, br_ff, i64w]
   ·simp (disch := omega) only [br_pos, br_neg, br_bne_pos, br_bne_neg, br_beq_pos, br_beq_neg, br_not, br_tt, br_ff, i64w]
    exact hn _ ⟨j + 1, rfl, i, by by_cases e : j = i <;> (try subst e) <;> omega, hi, hb⟩ (by simp only; omega)
  ·have : ∃ i, ¬ (i < l.length → (l.getD i []).length ≤ 300) := Classical.not_forall.1 h
   obtain ⟨i, hi⟩ := this
   exact ⟨i, Nat.zero_le _, by by_cases e : i < l.length <;> simp_all, fun e => hi (fun _ => e)⟩
theorem cut_cases (b : List Int) : (∃ e : Int, e ≠ 0 ∧ ∀ {ρ : Type} (k : List Int → Int → Int → List Int → Int → Option ρ), cutK b k = k [] 0 0 [] e) ∨
    (∃ w h : Nat, w = wOf (nm b 4 8) ∧ w ≠ 0 ∧ 1 ≤ h ∧ h ≤ 25 ∧ codeH h ≠ 0 ∧ 4 + (36 + 32 * pOf w) + 4 + 32 * h ≤ b.length ∧ ∀ {ρ : Type} (k : List Int → Int → Int → List Int → Int → Option ρ),
     cutK b k = k (b.take (4 + (36 + 32 * pOf w) + 4 + 32 * h)) (h : Int) (w : Int) (b.drop (4 + (36 + 32 * pOf w) + 4 + 32 * h)) 0) := by
 unfold cutK
 by_cases h8 : b.length < 8
 ·exact .inl ⟨1, by decide, fun k => by rw [if_pos h8]⟩
 by_cases hw : wOf (nm b 4 8) = 0
 ·exact .inl ⟨9, by decide, fun k => by rw [if_neg h8, if_pos hw]⟩
 generalize hww : wOf (nm b 4 8) = w at hw
 by_cases hl : b.length < 4 + (36 + 32 * pOf w) + 4
 ·exact .inl ⟨1, by decide, fun k => by rw [if_neg h8, if_neg hw, if_pos hl]⟩
 generalize hcc : nm b (4 + (36 + 32 * pOf w)) (4 + (36 + 32 * pOf w) + 4) = ch
 by_cases hh : hOf ch = 0
 ·exact .inl ⟨9, by decide, fun k => by rw [if_neg h8, if_neg hw, if_neg hl, if_pos hh]⟩
 by_cases hl2 : b.length < 4 + (36 + 32 * pOf w) + 4 + 32 * hOf ch
 ·exact .inl ⟨1, by decide, fun k => by rw [if_neg h8, if_neg hw, if_neg hl, if_neg hh, if_pos hl2]⟩
 obtain ⟨g1, g2, g3⟩ := codeH_hOf ch hh
 refine .inr ⟨w, hOf ch, rfl, hw, g2, g3, ?_, by omega, fun k => by rw [if_neg h8, if_neg hw, if_neg hl, if_neg hh, if_neg hl2]⟩
 rw [g1]
 rintro rfl
 exact hh rfl
theorem shr_h (q h : Nat) : ((q : Int).fdiv ((2 : Int) ^ min ((h : Nat) : Int).toNat 64) != (0 : Int)) = decide (¬ q < 2 ^ min h 64) := by
 rw [toNat_cast, Int.fdiv_eq_ediv_of_nonneg _ (by exact Int.le_of_lt (Int.pow_pos (by omega))), show ((2 : Int) ^ min h 64) = ((2 ^ min h 64 : Nat) : Int) by simp, ← Int.natCast_ediv]
 by_cases hq : q < 2 ^ min h 64
 ·rw [decide_eq_false (by omega), Nat.div_eq_of_lt hq]; rfl
 ·rw [decide_eq_true hq, bne_iff_ne]
  have := (Nat.le_div_iff_mul_le (Nat.two_pow_pos (min h 64))).2 (show 1 * 2 ^ min h 64 ≤ q by omega)
  omega
theorem verify_same (a0 a1 a2 : List Int) (h0 : In 256 a0) (h1 : In 256 a1) (h2 : In 256 a2) (n0 : a0.length ≤ 300) (n1 : a1.length ≤ 300) (n2 : a2.length ≤ 12000) :
    ∃ e : Int, (∀ {ρ : Type} (k : Int → Option ρ), P.lms_Verify a0 a1 a2 k = k e) ∧ (∀ {ρ : Type} (k : Int → Option ρ), P.R15_Verify a0 a1 a2 k = k e) := by
 have e4 : Int.toNat (4 : Int) = 4 := rfl
 have e8 : Int.toNat (8 : Int) = 8 := rfl
 have e24 : Int.toNat (24 : Int) = 24 := rfl
 have pre : ∀ {ρ : Type} (k : Int → Option ρ), P.lms_Verify a0 a1 a2 k = P.lms_Verify_raw a0 a1 a2 k ∧ P.R15_Verify a0 a1 a2 k = P.R15_Verify_raw a0 a1 a2 k := fun k => ⟨P.lms_Verify_eq .., P.R15_Verify_eq ..⟩
 by_cases hl : a0.length = 56
 ·have m1 := nm_lt a0 0 4 (by omega)
  have m2 := nm_lt a0 4 8 (by omega)
  by_cases hh : hOf (nm a0 0 4) = 0
  ·refine ⟨10, fun k => ?_, fun k => ?_⟩
   ·rw [(pre k).1]; unfold P.lms_Verify_raw
    rw [br_bne_neg (by omega), br_pos (by omega), e4, num_nm a0 h0 0 4 (by omega), lms_height _ (by omega), hh, br_beq_pos (by omega)]
   ·rw [(pre k).2]; unfold P.R15_Verify_raw
    rw [br_bne_neg (by omega), br_pos (by omega), e4, num_nm' a0 h0 0 4 (by omega), R15_height _ (by omega), hh, br_beq_pos (by omega)]
  by_cases hw : wOf (nm a0 4 8) = 0
  ·refine ⟨10, fun k => ?_, fun k => ?_⟩
   ·rw [(pre k).1]; unfold P.lms_Verify_raw
    rw [br_bne_neg (by omega), br_pos (by omega), e4, num_nm a0 h0 0 4 (by omega), lms_height _ (by omega), br_beq_neg (by omega), br_pos (by omega), e8, num_nm a0 h0 4 8 (by omega), lms_digit _ (by omega), hw, br_beq_pos (by omega)]
   ·rw [(pre k).2]; unfold P.R15_Verify_raw
    rw [br_bne_neg (by omega), br_pos (by omega), e4, num_nm' a0 h0 0 4 (by omega), R15_height _ (by omega), br_beq_neg (by omega), br_pos (by omega), e8, num_nm' a0 h0 4 8 (by omega), R15_digit _ (by omega), hw, br_beq_pos (by omega)]
  rcases cut_cases a2 with ⟨e, he, hc⟩ | ⟨w, h, hww, hw0, g1, g2, g3, hn, hc⟩
  ·refine ⟨e, fun k => ?_, fun k => ?_⟩
   ·rw [(pre k).1]; unfold P.lms_Verify_raw
    rw [br_bne_neg (by omega), br_pos (by omega), e4, num_nm a0 h0 0 4 (by omega), lms_height _ (by omega), br_beq_neg (by omega), br_pos (by omega), e8, num_nm a0 h0 4 8 (by omega), lms_digit _ (by omega), br_beq_neg (by omega), lms_Cut a2 h2 (by omega), hc, br_bne_pos he]
   ·rw [(pre k).2]; unfold P.R15_Verify_raw
    rw [br_bne_neg (by omega), br_pos (by omega), e4, num_nm' a0 h0 0 4 (by omega), R15_height _ (by omega), br_beq_neg (by omega), br_pos (by omega), e8, num_nm' a0 h0 4 8 (by omega), R15_digit _ (by omega), br_beq_neg (by omega), R15_Cut a2 h2 (by omega), hc, br_bne_pos he]
  ·obtain ⟨hk, hcw, hw8, hp⟩ := wOf_kind (c := nm a2 4 8) (by rw [← hww]; exact hw0)
   rw [← hww] at hk hcw hw8 hp
   generalize hpp : pOf w = p at hk hp hn hc
   generalize hss : sOf w = s at hk
   by_cases hr : a2.length = 4 + (36 + 32 * p) + 4 + 32 * h
   ·have hd0 : a2.drop (4 + (36 + 32 * p) + 4 + 32 * h) = [] := List.drop_eq_nil_of_le (by omega)
    have hhl : (beN (codeH h) 4 ++ beN (codeW w) 4).length = 8 := by simp [beN_len]
    by_cases hhd : beN (codeH h) 4 ++ beN (codeW w) 4 = (a0.take 8).drop 0
    ·generalize hq : nm a2 0 4 = q
     have hq32 : q < 4294967296 := by rw [← hq]; exact nm_lt a2 0 4 (by omega)
     have hmin : min h 64 = h := by omega
     have h25 : 2 ^ h ≤ 2 ^ 25 := Nat.pow_le_pow_right (by omega) g2
     by_cases hqh : q < 2 ^ h
     ·have hid : In 256 ((a0.take 24).drop 8) := (h0.take 24).drop 8
      have hidl : ((a0.take 24).drop 8).length = 16 := by simp; omega
      have hsg : In 256 ((a2.take (4 + (36 + 32 * p))).drop 4) := (h2.take _).drop 4
      have hsgl : ((a2.take (4 + (36 + 32 * p))).drop 4).length = 36 + 32 * p := by simp; omega
      have hcode : T 8 (((a2.take (4 + (36 + 32 * p))).drop 4).take 4).reverse = codeW w := by
       rw [hcw]
       unfold nm
       congr 2
       rw [List.take_drop, List.take_take]
       congr 2
       omega
      have hpt : In 256 (a2.drop (4 + (36 + 32 * p) + 4)) := h2.drop _
      have hptl : (a2.drop (4 + (36 + 32 * p) + 4)).length = 32 * h := by simp; omega
      have w1 : IntKind.u64.wrap ((1 : Int) * (2 : Int) ^ min ((h : Nat) : Int).toNat 64) = ((2 ^ h : Nat) : Int) := by
       rw [toNat_cast, hmin, Int.one_mul, show ((2 : Int) ^ h) = ((2 ^ h : Nat) : Int) by simp, u64n _ (by omega)]
      have hup2 : 2 ^ h + q < 2 ^ (h + 1) := by rw [Nat.pow_succ]; omega
      have ha0d : ((a0.take a0.length).drop 24).length = 32 := by simp; omega
      generalize hcs : candS w p s ((a0.take 24).drop 8) q a1 ((a2.take (4 + (36 + 32 * p))).drop 4) = cs
      have hcsl : cs.length = 32 := by rw [← hcs]; exact lsum_len _ _ _ _
      have hcsi : In 256 cs := by rw [← hcs]; exact lsum_in _ _ _ _
      generalize hlf : lsum ((a0.take 24).drop 8) (2 ^ h + q) 33410 [cs] = lf
      have hlfl : lf.length = 32 := by rw [← hlf]; exact lsum_len _ _ _ _
      have hlfi : In 256 lf := by rw [← hlf]; exact lsum_in _ _ _ _
      generalize htp : curS ((a0.take 24).drop 8) (2 ^ h + q) (a2.drop (4 + (36 + 32 * p) + 4)) lf h = tp
      have htpl : tp.length = 32 := by rw [← htp]; exact curS_len _ _ _ _ hlfl _
      have htpi : In 256 tp := by rw [← htp]; exact curS_in _ _ _ _ hlfi _
      have hroot : ∀ {ρ : Type} (k : List Int → Option ρ), P.lms_root (h : Int) (w : Int) ((a0.take 24).drop 8) a1 a2 k = k tp := by
       intro ρ k
       rw [P.lms_root_eq]; unfold P.lms_root_raw
       rw [br_pos (by omega), e4, num_nm a2 h2 0 4 (by omega), hq, lmots_Size hk, i64w (x := (4 : Int) + ((36 + 32 * p : Nat) : Int)) (by omega) (by omega), i64w (x := (4 : Int) + ((36 + 32 * p : Nat) : Int) + 4) (by omega) (by omega), br_pos (by omega), br_pos (by omega), u32n q hq32, show ((4 : Int) + ((36 + 32 * p : Nat) : Int)).toNat = 4 + (36 + 32 * p) by omega,
        Candidate_ok hk _ q a1 _ hid hq32 hidl h1 n1 hsg hsgl hcode, hcs, br_neg (by omega), w1, u64n q (by omega), show ((2 ^ h : Nat) : Int) + (q : Int) = ((2 ^ h + q : Nat) : Int) by omega, u64n (2 ^ h + q) (by omega), show (33410 : Int) = ((33410 : Nat) : Int) from rfl,
        lms_sum _ _ 33410 [cs] hid (by omega) (by omega) (by omega) (by simpa using hcsi) (by simp) (by simp; omega), hlf, br_pos (by omega), br_pos (by omega), br_pos (by omega), br_neg (by omega), show ((4 : Int) + ((36 + 32 * p : Nat) : Int) + 4).toNat = 4 + (36 + 32 * p) + 4 by omega, toNat_cast, List.take_length,
        root_loop _ _ _ _ (2 ^ h + q) h hid (by omega) hlfi hlfl hpt hptl (by omega) (by omega) hup2 (by omega), htp]
      by_cases htop : tp = (a0.take a0.length).drop 24
      ·refine ⟨0, fun k => ?_, fun k => ?_⟩
       ·rw [(pre k).1]; unfold P.lms_Verify_raw
        rw [br_bne_neg (by omega), br_pos (by omega), e4, num_nm a0 h0 0 4 (by omega), lms_height _ (by omega), br_beq_neg (by omega), br_pos (by omega), e8, num_nm a0 h0 4 8 (by omega), lms_digit _ (by omega), br_beq_neg (by omega), lms_Cut a2 h2 (by omega), hc, br_bne_neg rfl, hd0, br_neg (by simp), head_ok hk g2, br_pos (by omega),
         bits_Same _ _ ((beN_in _ _).app (beN_in _ _)) ((h0.take _).drop _) (by omega), decide_eq_true hhd, br_not, br_tt, br_pos (by omega), num_nm a2 h2 0 4 (by omega), hq, br_neg (by omega), shr_h, hmin, br_neg (by omega), br_pos (by omega), e24, hroot, br_pos (by omega), br_pos (by omega), toNat_cast,
         bits_Same _ _ htpi ((h0.take _).drop _) (by omega), decide_eq_true htop, br_not, br_tt]
       ·rw [(pre k).2]; unfold P.R15_Verify_raw
        rw [br_bne_neg (by omega), br_pos (by omega), e4, num_nm' a0 h0 0 4 (by omega), R15_height _ (by omega), br_beq_neg (by omega), br_pos (by omega), e8, num_nm' a0 h0 4 8 (by omega), R15_digit _ (by omega), br_beq_neg (by omega), R15_Cut a2 h2 (by omega), hc, br_bne_neg rfl, hd0, br_neg (by simp), head15_ok hk g2, br_pos (by omega),
         R01_Same _ _ (by omega), decide_eq_true hhd, br_not, br_tt, br_pos (by omega), num_nm' a2 h2 0 4 (by omega), hq, br_neg (by omega), w1, br_neg (by omega), br_pos (by omega), R14_Size hk, i64w (x := (4 : Int) + ((36 + 32 * p : Nat) : Int)) (by omega) (by omega), br_pos (by omega), br_pos (by omega), e24, u32n q hq32, show ((4 : Int) + ((36 + 32 * p : Nat) : Int)).toNat = 4 + (36 + 32 * p) by omega,
         R14_Candidate_ok hk _ q a1 _ hid hq32 hidl h1 n1 hsg hsgl hcode, hcs, br_neg (by omega), show ((2 ^ h : Nat) : Int) + (q : Int) = ((2 ^ h + q : Nat) : Int) by omega, u64n (2 ^ h + q) (by omega), R15_leafSum _ _ cs hid (by omega) (by omega) hcsi (by omega), hlf, i64w (x := (8 : Int) + ((36 + 32 * p : Nat) : Int)) (by omega) (by omega), br_pos (by omega), br_pos (by omega), br_pos (by omega),
         show ((8 : Int) + ((36 + 32 * p : Nat) : Int)).toNat = 4 + (36 + 32 * p) + 4 by omega, toNat_cast, List.take_length, ref_loop _ _ _ _ (2 ^ h + q) h hid (by omega) hlfi hlfl hpt hptl (by omega) (by omega) hup2 (by omega), htp, br_pos (by omega), br_pos (by omega), toNat_cast, R01_Same _ _ (by omega), decide_eq_true htop, br_not, br_tt]
      ·refine ⟨11, fun k => ?_, fun k => ?_⟩
       ·rw [(pre k).1]; unfold P.lms_Verify_raw
        rw [br_bne_neg (by omega), br_pos (by omega), e4, num_nm a0 h0 0 4 (by omega), lms_height _ (by omega), br_beq_neg (by omega), br_pos (by omega), e8, num_nm a0 h0 4 8 (by omega), lms_digit _ (by omega), br_beq_neg (by omega), lms_Cut a2 h2 (by omega), hc, br_bne_neg rfl, hd0, br_neg (by simp), head_ok hk g2, br_pos (by omega),
         bits_Same _ _ ((beN_in _ _).app (beN_in _ _)) ((h0.take _).drop _) (by omega), decide_eq_true hhd, br_not, br_tt, br_pos (by omega), num_nm a2 h2 0 4 (by omega), hq, br_neg (by omega), shr_h, hmin, br_neg (by omega), br_pos (by omega), e24, hroot, br_pos (by omega), br_pos (by omega), toNat_cast,
         bits_Same _ _ htpi ((h0.take _).drop _) (by omega), decide_eq_false htop, br_not, br_ff]
       ·rw [(pre k).2]; unfold P.R15_Verify_raw
        rw [br_bne_neg (by omega), br_pos (by omega), e4, num_nm' a0 h0 0 4 (by omega), R15_height _ (by omega), br_beq_neg (by omega), br_pos (by omega), e8, num_nm' a0 h0 4 8 (by omega), R15_digit _ (by omega), br_beq_neg (by omega), R15_Cut a2 h2 (by omega), hc, br_bne_neg rfl, hd0, br_neg (by simp), head15_ok hk g2, br_pos (by omega),
         R01_Same _ _ (by omega), decide_eq_true hhd, br_not, br_tt, br_pos (by omega), num_nm' a2 h2 0 4 (by omega), hq, br_neg (by omega), w1, br_neg (by omega), br_pos (by omega), R14_Size hk, i64w (x := (4 : Int) + ((36 + 32 * p : Nat) : Int)) (by omega) (by omega), br_pos (by omega), br_pos (by omega), e24, u32n q hq32, show ((4 : Int) + ((36 + 32 * p : Nat) : Int)).toNat = 4 + (36 + 32 * p) by omega,
         R14_Candidate_ok hk _ q a1 _ hid hq32 hidl h1 n1 hsg hsgl hcode, hcs, br_neg (by omega), show ((2 ^ h : Nat) : Int) + (q : Int) = ((2 ^ h + q : Nat) : Int) by omega, u64n (2 ^ h + q) (by omega), R15_leafSum _ _ cs hid (by omega) (by omega) hcsi (by omega), hlf, i64w (x := (8 : Int) + ((36 + 32 * p : Nat) : Int)) (by omega) (by omega), br_pos (by omega), br_pos (by omega), br_pos (by omega),
         show ((8 : Int) + ((36 + 32 * p : Nat) : Int)).toNat = 4 + (36 + 32 * p) + 4 by omega, toNat_cast, List.take_length, ref_loop _ _ _ _ (2 ^ h + q) h hid (by omega) hlfi hlfl hpt hptl (by omega) (by omega) hup2 (by omega), htp, br_pos (by omega), br_pos (by omega), toNat_cast, R01_Same _ _ (by omega), decide_eq_false htop, br_not, br_ff]
     ·have w1 : IntKind.u64.wrap ((1 : Int) * (2 : Int) ^ min ((h : Nat) : Int).toNat 64) = ((2 ^ h : Nat) : Int) := by
        rw [toNat_cast, hmin, Int.one_mul, show ((2 : Int) ^ h) = ((2 ^ h : Nat) : Int) by simp, u64n _ (by omega)]
      refine ⟨13, fun k => ?_, fun k => ?_⟩
      ·rw [(pre k).1]; unfold P.lms_Verify_raw
       rw [br_bne_neg (by omega), br_pos (by omega), e4, num_nm a0 h0 0 4 (by omega), lms_height _ (by omega), br_beq_neg (by omega), br_pos (by omega), e8, num_nm a0 h0 4 8 (by omega), lms_digit _ (by omega), br_beq_neg (by omega), lms_Cut a2 h2 (by omega), hc, br_bne_neg rfl, hd0, br_neg (by simp), head_ok hk g2, br_pos (by omega),
        bits_Same _ _ ((beN_in _ _).app (beN_in _ _)) ((h0.take _).drop _) (by omega), decide_eq_true hhd, br_not, br_tt, br_pos (by omega), num_nm a2 h2 0 4 (by omega), hq, br_neg (by omega), shr_h, hmin, br_pos (by omega)]
      ·rw [(pre k).2]; unfold P.R15_Verify_raw
       rw [br_bne_neg (by omega), br_pos (by omega), e4, num_nm' a0 h0 0 4 (by omega), R15_height _ (by omega), br_beq_neg (by omega), br_pos (by omega), e8, num_nm' a0 h0 4 8 (by omega), R15_digit _ (by omega), br_beq_neg (by omega), R15_Cut a2 h2 (by omega), hc, br_bne_neg rfl, hd0, br_neg (by simp), head15_ok hk g2, br_pos (by omega),
        R01_Same _ _ (by omega), decide_eq_true hhd, br_not, br_tt, br_pos (by omega), num_nm' a2 h2 0 4 (by omega), hq, br_neg (by omega), w1, br_pos (by omega)]
    ·refine ⟨1, fun k => ?_, fun k => ?_⟩
     ·rw [(pre k).1]; unfold P.lms_Verify_raw
      rw [br_bne_neg (by omega), br_pos (by omega), e4, num_nm a0 h0 0 4 (by omega), lms_height _ (by omega), br_beq_neg (by omega), br_pos (by omega), e8, num_nm a0 h0 4 8 (by omega), lms_digit _ (by omega), br_beq_neg (by omega), lms_Cut a2 h2 (by omega), hc, br_bne_neg rfl, hd0, br_neg (by simp), head_ok hk g2, br_pos (by omega),
       bits_Same _ _ ((beN_in _ _).app (beN_in _ _)) ((h0.take _).drop _) (by omega), decide_eq_false hhd, br_not, br_ff]
     ·rw [(pre k).2]; unfold P.R15_Verify_raw
      rw [br_bne_neg (by omega), br_pos (by omega), e4, num_nm' a0 h0 0 4 (by omega), R15_height _ (by omega), br_beq_neg (by omega), br_pos (by omega), e8, num_nm' a0 h0 4 8 (by omega), R15_digit _ (by omega), br_beq_neg (by omega), R15_Cut a2 h2 (by omega), hc, br_bne_neg rfl, hd0, br_neg (by simp), head15_ok hk g2, br_pos (by omega),
       R01_Same _ _ (by omega), decide_eq_false hhd, br_not, br_ff]
   ·have hd1 : ((a2.drop (4 + (36 + 32 * p) + 4 + 32 * h)).length : Int) > 0 := by rw [List.length_drop]; omega
    refine ⟨1, fun k => ?_, fun k => ?_⟩
    ·rw [(pre k).1]; unfold P.lms_Verify_raw
     rw [br_bne_neg (by omega), br_pos (by omega), e4, num_nm a0 h0 0 4 (by omega), lms_height _ (by omega), br_beq_neg (by omega), br_pos (by omega), e8, num_nm a0 h0 4 8 (by omega), lms_digit _ (by omega), br_beq_neg (by omega), lms_Cut a2 h2 (by omega), hc, br_bne_neg rfl, br_pos hd1]
    ·rw [(pre k).2]; unfold P.R15_Verify_raw
     rw [br_bne_neg (by omega), br_pos (by omega), e4, num_nm' a0 h0 0 4 (by omega), R15_height _ (by omega), br_beq_neg (by omega), br_pos (by omega), e8, num_nm' a0 h0 4 8 (by omega), R15_digit _ (by omega), br_beq_neg (by omega), R15_Cut a2 h2 (by omega), hc, br_bne_neg rfl, br_pos hd1]
 ·refine ⟨10, fun k => ?_, fun k => ?_⟩
  ·rw [(pre k).1]; unfold P.lms_Verify_raw
   rw [br_bne_pos (by omega)]
  ·rw [(pre k).2]; unfold P.R15_Verify_raw
   rw [br_bne_pos (by omega)]
theorem L15_awake {ρ : Type} (k : Bool → Option ρ) : P.L15_awake k = k true := by
 rw [P.L15_awake_eq]; unfold P.L15_awake_raw
 have hk : Kind 8 34 0 := by simp [Kind]
 have hs := lms_Size_ok (ρ := ρ) hk (by omega) (h := 5) (by decide) (by omega)
 have hv : ∀ (k : Int → Option ρ), P.lms_Verify [] [] [] k = k 10 := fun k => by
  rw [P.lms_Verify_eq]; unfold P.lms_Verify_raw
  rw [br_bne_pos (by simp)]
 have f6 : ∀ (k : Bool → Option ρ), P.lms_Fit 6 8 k = k false := fun k => by
  rw [P.lms_Fit_eq]; unfold P.lms_Fit_raw
  rw [show (6 : Int) = ((6 : Nat) : Int) from rfl, lms_code 6 (by omega), br_bne_neg (by decide)]
 have f5 : ∀ (k : Bool → Option ρ), P.lms_Fit 5 8 k = k true := fun k => by
  rw [P.lms_Fit_eq]; unfold P.lms_Fit_raw
  rw [show (5 : Int) = ((5 : Nat) : Int) from rfl, lms_code 5 (by omega), br_bne_pos (by decide), show (8 : Int) = ((8 : Nat) : Int) from rfl, leafCode_ok hk]
  rfl
 rw [show (5 : Int) = ((5 : Nat) : Int) from rfl, show (8 : Int) = ((8 : Nat) : Int) from rfl, hs, br_beq_pos (by decide), hv, br_beq_pos rfl]
 show P.lms_Fit 6 8 _ = _
 rw [f6, br_not, br_ff]
 exact f5 k
theorem LmsVerifies (x0 : List Int) (x1 : List Int) (x2 : List Int) (nx0 : x0.length ≤ 140737488355328) (wx0 : ∀ x, x ∈ x0 → wfI .u8 x) (nx1 : x1.length ≤ 140737488355328) (wx1 : ∀ x, x ∈ x1 → wfI .u8 x) (nx2 : x2.length ≤ 140737488355328) (wx2 : ∀ x, x ∈ x2 → wfI .u8 x) {ρ : Type} (k : Bool → Option ρ) : P.L15_LmsVerifies x0 x1 x2 k = k true := by
 rw [P.L15_LmsVerifies_eq]; unfold P.L15_LmsVerifies_raw
 rcases L15_few [x0, x1] (by simp) (fun (q0 : Bool) => _) with ⟨hf, hl⟩ | hf
 ·rw [hf, br_not, br_tt]
  have l0 : x0.length ≤ 300 := hl 0 (by simp)
  have l1 : x1.length ≤ 300 := hl 1 (by simp)
  by_cases h2 : x2.length > 12000
  ·rw [br_pos (by omega), L15_awake]
  ·rw [br_neg (by omega)]
   have key : (P.lms_Cut x2 fun (q4 : List Int) (q5 q6 : Int) (q7 : List Int) (q8 : Int) => P.R15_Cut x2 fun (q9 : List Int) (q10 q11 : Int) (q12 : List Int) (q13 : Int) => P.R01_Same q4 q9 fun (q14 : Bool) => br q14 (br (q5 == q10 && (q6 == q11 && true)) (P.R01_Same q7 q12 fun (q15 : Bool) => br q15 (br (q8 == q13)
       (P.lms_Verify x0 x1 x2 fun (q16 : Int) => P.R15_Verify x0 x1 x2 fun (q17 : Int) => br (q16 == q17) (P.L15_awake fun (q18 : Bool) => k q18) (k false)) (k false)) (k false)) (k false)) (k false)) = k true := by
    have hcut : ∃ (a : List Int) (b c : Int) (d : List Int) (e : Int), a.length ≤ 12000 ∧ d.length ≤ 12000 ∧ ∀ {σ : Type} (k : List Int → Int → Int → List Int → Int → Option σ), cutK x2 k = k a b c d e := by
     rcases cut_cases x2 with ⟨e, he, hc⟩ | ⟨w, h, _, _, _, _, _, hn, hc⟩
     ·exact ⟨[], 0, 0, [], e, by simp, by simp, hc⟩
     ·exact ⟨_, _, _, _, 0, by rw [List.length_take]; omega, by rw [List.length_drop]; omega, hc⟩
    obtain ⟨a, b, c, d, e, la, ld, hc⟩ := hcut
    obtain ⟨v, v1, v2⟩ := verify_same x0 x1 x2 (in_u8 wx0) (in_u8 wx1) (in_u8 wx2) l0 l1 (by omega)
    rw [lms_Cut x2 (in_u8 wx2) (by omega), hc, R15_Cut x2 (in_u8 wx2) (by omega), hc, R01_Same _ _ (by omega), br_pos rfl]
    simp only [beq_self_eq_true, Bool.and_true, br_tt]
    rw [R01_Same _ _ (by omega), br_pos rfl, v1, v2]
    simp only [beq_self_eq_true, br_tt]
    rw [L15_awake]
   by_cases h8 : x2.length ≥ 8
   ·rw [br_pos (by omega), br_pos (by omega)]
    by_cases h7 : x2.getD 7 0 = 4
    ·rw [br_beq_pos h7, L15_awake]
    ·rw [br_beq_neg h7]
     exact key
   ·rw [br_neg (by omega)]
    exact key
 ·rw [hf, br_not, br_ff, L15_awake]
end Q
end
