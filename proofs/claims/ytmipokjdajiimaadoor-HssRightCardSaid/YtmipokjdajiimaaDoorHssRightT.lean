/-
  HssRight, part 20: an interpreter of my own over abstract values, the pure functions, the walks and the plain law.
-/

import Derived.Test.YtmipokjdajiimaaDoorHssRightS
import Derived.Test.YtmipokjdajiimaaDoorHssRightL
import Derived.Test.YtmipokjdajiimaaDoorHssRightR
import Derived.Test.YtmipokjdajiimaaDoorHssRightI
import Derived.Test.YtmipokjdajiimaaDoorHssRightK

section
/- lms: signatures, and what verifies them. -/
namespace Q
open Go Go.Abs
set_option linter.unusedVariables false
set_option linter.unusedSimpArgs false
def nm (b : List Int) (i j : Nat) : Nat := T 8 ((b.take j).drop i).reverse
theorem ayf (b : List Int) (i j : Nat) (h : j - i ≤ 4) : nm b i j < 4294967296 := by
 unfold nm
 have h1 := bs1 8 ((b.take j).drop i).reverse
 have h2 : 8 * ((b.take j).drop i).reverse.length ≤ 32 := by simp only [List.length_reverse, List.length_drop, List.length_take]; omega
 have h3 : 2 ^ (8 * ((b.take j).drop i).reverse.length) ≤ 2 ^ 32 := Nat.pow_le_pow_right (by omega) h2
 omega
theorem z8 (b : List Int) (hb : In 256 b) (i j : Nat) (hj : j - i ≤ 4) {ρ : Type} (k : Int → Option ρ) : P.jh (((b.take j).drop i)) k = k ((nm b i j : Nat) : Int) := by
 have := ayf b i j hj
 rw [jh _ ((hb.take j).drop i) (by simp only [List.length_drop, List.length_take]; omega)]
 unfold nm at this ⊢
 rw [Nat.mod_eq_of_lt (by omega)]
theorem aac (b : List Int) (hb : In 256 b) (i j : Nat) (hj : j - i ≤ 4) {ρ : Type} (k : Int → Option ρ) : P.acf (((b.take j).drop i)) k = k ((nm b i j : Nat) : Int) := by
 have := ayf b i j hj
 rw [acf _ ((hb.take j).drop i) (by simp only [List.length_drop, List.length_take]; omega)]
 unfold nm at this ⊢
 rw [Nat.mod_eq_of_lt (by omega)]
def pOf (w : Nat) : Nat := if w = 1 then 265 else if w = 2 then 133 else if w = 4 then 67 else 34
def sOf (w : Nat) : Nat := if w = 1 then 7 else if w = 2 then 6 else if w = 4 then 4 else 0
theorem auz {c : Nat} (h : wOf c ≠ 0) : Kind (wOf c) (pOf (wOf c)) (sOf (wOf c)) ∧ u7 (wOf c) = c ∧ wOf c ≤ 8 ∧ pOf (wOf c) ≤ 265 := by
 have hc : c = 1 ∨ c = 2 ∨ c = 3 ∨ c = 4 := by
  revert h
  unfold wOf
  split
  ·omega
  ·split
   ·omega
   ·split
    ·omega
    ·split <;> omega
 rcases hc with rfl | rfl | rfl | rfl <;> simp [wOf, pOf, sOf, Kind, u7]
theorem aoi {w p s : Nat} (h : Kind w p s) {ρ : Type} (k : Int → Option ρ) : P.qm (w : Int) k = k ((u7 w : Nat) : Int) := by
 rw [P.af9]; unfold P.acp
 rcases h with ⟨rfl, _, _⟩ | ⟨rfl, _, _⟩ | ⟨rfl, _, _⟩ | ⟨rfl, _, _⟩ <;> simp [u7]
theorem bku (h : Nat) (h1 : ¬ (1 ≤ h ∧ h ≤ 4)) (h2 : h ≠ 5) (h3 : h ≠ 10) (h4 : h ≠ 15) (h5 : h ≠ 20) (h6 : h ≠ 25) : o7 h = 0 := by
 unfold o7
 rw [if_neg h1, if_neg (by omega)]
theorem pz (h : Nat) (hh : h ≤ 1000) {ρ : Type} (k : Int → Option ρ) : P.pz (h : Int) k = k ((o7 h : Nat) : Int) := by
 rw [P.aok]; unfold P.ahg
 by_cases a1 : h = 1
 ·subst a1; rw [bq (by decide), bq (by decide)]; rfl
 by_cases a2 : h = 2
 ·subst a2; rw [ak (by decide), bq (by decide), bq (by decide)]; rfl
 by_cases a3 : h = 3
 ·subst a3; rw [ak (by decide), ak (by decide), bq (by decide), bq (by decide)]; rfl
 by_cases a4 : h = 4
 ·subst a4; rw [ak (by decide), ak (by decide), ak (by decide), bq (by decide)]; rfl
 rw [ak (by omega), ak (by omega), ak (by omega), ak (by omega)]
 by_cases b1 : h = 5
 ·subst b1; rw [bq (by decide), bq (by decide)]; rfl
 by_cases b2 : h = 10
 ·subst b2; rw [ak (by decide), bq (by decide), bq (by decide)]; rfl
 by_cases b3 : h = 15
 ·subst b3; rw [ak (by decide), ak (by decide), bq (by decide), bq (by decide)]; rfl
 by_cases b4 : h = 20
 ·subst b4; rw [ak (by decide), ak (by decide), ak (by decide), bq (by decide), bq (by decide)]; rfl
 by_cases b5 : h = 25
 ·subst b5; rw [ak (by decide), ak (by decide), ak (by decide), ak (by decide), bq (by decide)]; rfl
 rw [ak (by omega), ak (by omega), ak (by omega), ak (by omega), ak (by omega), bku h (by omega) b1 b2 b3 b4 b5]
 rfl
theorem bf8 {w p s h : Nat} (hk : Kind w p s) (hp : p ≤ 265) (hh : o7 h ≠ 0) (h25 : h ≤ 25) {ρ : Type} (k : Int → Option ρ) : P.afw (h : Int) (w : Int) k = k ((4 + (36 + 32 * p) + 4 + 32 * h : Nat) : Int) := by
 rw [P.avj]; unfold P.alv
 have hcw : u7 w ≠ 0 := by unfold u7; split <;> (try split) <;> (try split) <;> omega
 rw [P.aq3]; unfold P.ajn
 rw [pz h (by omega), d9 (by omega), aoi hk, show (((u7 w : Nat) : Int) != 0) = true by rw [bne_iff_ne]; omega]
 dsimp only
 rw [ji, o9, jk hk,
  nu (x := (4 : Int) + ((36 + 32 * p : Nat) : Int)) (by omega) (by omega), nu (x := (4 : Int) + ((36 + 32 * p : Nat) : Int) + 4) (by omega) (by omega), nu (x := (32 : Int) * (h : Int)) (by omega) (by omega), nu (by omega) (by omega)]
 congr 1
def bkn {ρ : Type} (b : List Int) (k : List Int → Int → Int → List Int → Int → Option ρ) : Option ρ :=
 if b.length < 8 then k [] 0 0 [] 1 else
 if wOf (nm b 4 8) = 0 then k [] 0 0 [] 9 else
 if b.length < 4 + (36 + 32 * pOf (wOf (nm b 4 8))) + 4 then k [] 0 0 [] 1 else
 if hOf (nm b (4 + (36 + 32 * pOf (wOf (nm b 4 8)))) (4 + (36 + 32 * pOf (wOf (nm b 4 8))) + 4)) = 0 then k [] 0 0 [] 9 else
 if b.length < 4 + (36 + 32 * pOf (wOf (nm b 4 8))) + 4 + 32 * hOf (nm b (4 + (36 + 32 * pOf (wOf (nm b 4 8)))) (4 + (36 + 32 * pOf (wOf (nm b 4 8))) + 4)) then k [] 0 0 [] 1 else
 k (b.take (4 + (36 + 32 * pOf (wOf (nm b 4 8))) + 4 + 32 * hOf (nm b (4 + (36 + 32 * pOf (wOf (nm b 4 8)))) (4 + (36 + 32 * pOf (wOf (nm b 4 8))) + 4))))
  ((hOf (nm b (4 + (36 + 32 * pOf (wOf (nm b 4 8)))) (4 + (36 + 32 * pOf (wOf (nm b 4 8))) + 4)) : Nat) : Int) ((wOf (nm b 4 8) : Nat) : Int)
  (b.drop (4 + (36 + 32 * pOf (wOf (nm b 4 8))) + 4 + 32 * hOf (nm b (4 + (36 + 32 * pOf (wOf (nm b 4 8)))) (4 + (36 + 32 * pOf (wOf (nm b 4 8))) + 4)))) 0
theorem zi (b : List Int) (hb : In 256 b) (hn : b.length ≤ 1000000) {ρ : Type} (k : List Int → Int → Int → List Int → Int → Option ρ) : P.zi b k = bkn b k := by
 rw [P.az2]; unfold P.ane bkn
 by_cases h8 : b.length < 8
 ·rw [ah (by omega), if_pos h8]
 ·rw [bg (by omega), if_neg h8, ah (by omega), show Int.toNat (8 : Int) = 8 from rfl, z8 b hb 4 8 (by omega), p8 _ (by have := ayf b 4 8 (by omega); omega)]
  generalize hc : nm b 4 8 = c
  by_cases hw : wOf c = 0
  ·rw [hw, bq (by omega), if_pos rfl]
  ·obtain ⟨hk, hcw, hw8, hp⟩ := auz hw
   rw [ak (by omega), if_neg hw, jk hk]
   generalize hpp : pOf (wOf c) = p at hk hp ⊢
   generalize hww : wOf c = w at hk hw hw8 hcw ⊢
   rw [nu (x := (4 : Int) + ((36 + 32 * p : Nat) : Int)) (by omega) (by omega), nu (x := (4 : Int) + ((36 + 32 * p : Nat) : Int) + 4) (by omega) (by omega)]
   by_cases hl : b.length < 4 + (36 + 32 * p) + 4
   ·rw [ah (by omega), if_pos hl]
   ·rw [bg (by omega), if_neg hl, ah (by omega), ah (by omega), ah (by omega), show ((4 : Int) + ((36 + 32 * p : Nat) : Int)).toNat = 4 + (36 + 32 * p) by omega, show ((4 : Int) + ((36 + 32 * p : Nat) : Int) + 4).toNat = 4 + (36 + 32 * p) + 4 by omega,
      z8 b hb _ _ (by omega), mg _ (by have := ayf b (4 + (36 + 32 * p)) (4 + (36 + 32 * p) + 4) (by omega); omega)]
    generalize nm b (4 + (36 + 32 * p)) (4 + (36 + 32 * p) + 4) = ch
    by_cases hh : hOf ch = 0
    ·rw [hh, bq (by omega), if_pos rfl]
    ·obtain ⟨g1, g2, g3⟩ := aov ch hh
     have hch : o7 (hOf ch) ≠ 0 := by
      rw [g1]
      rintro rfl
      exact hh rfl
     rw [ak (by omega), if_neg hh, bf8 hk hp hch g3]
     by_cases hl2 : b.length < 4 + (36 + 32 * p) + 4 + 32 * hOf ch
     ·rw [ah (by omega), if_pos hl2]
     ·rw [bg (by omega), if_neg hl2, ah (by omega), ah (by omega), toNat_cast, List.drop_zero, eu _ (by simp) (by simp; omega), ah (by omega), ah (by omega), ah (by omega), toNat_cast, List.take_length, eu _ (by simp) (by simp; omega)]
      simp only [List.flatten_cons, List.flatten_nil, List.append_nil]
theorem agc (b : List Int) (hb : In 256 b) (hn : b.length ≤ 1000000) {ρ : Type} (k : List Int → Int → Int → List Int → Int → Option ρ) : P.agc b k = bkn b k := by
 rw [P.bkg]; unfold P.aoa bkn
 by_cases h8 : b.length < 8
 ·rw [ah (by omega), if_pos h8]
 ·rw [bg (by omega), if_neg h8, ah (by omega), show Int.toNat (8 : Int) = 8 from rfl, aac b hb 4 8 (by omega), y5 _ (by have := ayf b 4 8 (by omega); omega)]
  generalize hc : nm b 4 8 = c
  by_cases hw : wOf c = 0
  ·rw [hw, bq (by omega), if_pos rfl]
  ·obtain ⟨hk, hcw, hw8, hp⟩ := auz hw
   rw [ak (by omega), if_neg hw, aa8 hk]
   generalize hpp : pOf (wOf c) = p at hk hp ⊢
   generalize hww : wOf c = w at hk hw hw8 hcw ⊢
   rw [nu (x := (4 : Int) + ((36 + 32 * p : Nat) : Int)) (by omega) (by omega), nu (x := (4 : Int) + ((36 + 32 * p : Nat) : Int) + 4) (by omega) (by omega)]
   by_cases hl : b.length < 4 + (36 + 32 * p) + 4
   ·rw [ah (by omega), if_pos hl]
   ·rw [bg (by omega), if_neg hl, ah (by omega), ah (by omega), ah (by omega), show ((4 : Int) + ((36 + 32 * p : Nat) : Int)).toNat = 4 + (36 + 32 * p) by omega, show ((4 : Int) + ((36 + 32 * p : Nat) : Int) + 4).toNat = 4 + (36 + 32 * p) + 4 by omega,
      aac b hb _ _ (by omega), uq _ (by have := ayf b (4 + (36 + 32 * p)) (4 + (36 + 32 * p) + 4) (by omega); omega)]
    generalize nm b (4 + (36 + 32 * p)) (4 + (36 + 32 * p) + 4) = ch
    by_cases hh : hOf ch = 0
    ·rw [hh, bq (by omega), if_pos rfl]
    ·obtain ⟨g1, g2, g3⟩ := aov ch hh
     rw [ak (by omega), if_neg hh, nu (x := (32 : Int) * ((hOf ch : Nat) : Int)) (by omega) (by omega), nu (x := (4 : Int) + ((36 + 32 * p : Nat) : Int) + 4 + 32 * ((hOf ch : Nat) : Int)) (by omega) (by omega)]
     by_cases hl2 : b.length < 4 + (36 + 32 * p) + 4 + 32 * hOf ch
     ·rw [ah (by omega), if_pos hl2]
     ·rw [bg (by omega), if_neg hl2, ah (by omega), ah (by omega), ah (by omega), ah (by omega), ah (by omega), toNat_cast, List.drop_zero, List.take_length, show ((4 : Int) + ((36 + 32 * p : Nat) : Int) + 4 + 32 * ((hOf ch : Nat) : Int)).toNat = 4 + (36 + 32 * p) + 4 + 32 * hOf ch by omega]
theorem ar7 {w p s h : Nat} (hk : Kind w p s) (h25 : h ≤ 25) {ρ : Type} (k : List Int → Option ρ) : P.aco (h : Int) (w : Int) k = k (beN (o7 h) 4 ++ beN (u7 w) 4) := by
 rw [P.au9]; unfold P.akq
 have h1 := amc h
 have h2 := ag4 w
 rw [pz h (by omega), show (4 : Int) = ((4 : Nat) : Int) from rfl, gq _ 4 (by omega) (by omega), aoi hk, gq _ 4 (by omega) (by omega), eu _ (by simp) (by simp)]
 simp only [List.flatten_cons, List.flatten_nil, List.append_nil]
 rfl
theorem als {w p s h : Nat} (hk : Kind w p s) (h25 : h ≤ 25) {ρ : Type} (k : List Int → Option ρ) : P.aqk (h : Int) (w : Int) k = k (beN (o7 h) 4 ++ beN (u7 w) 4) := by
 rw [P.bhi]; unfold P.ak4
 have h1 := amc h
 have h2 := ag4 w
 rw [bc5 hk, aan h (by omega), show (4 : Int) = ((4 : Nat) : Int) from rfl, oz _ 4 (by omega) (by omega), oz _ 4 (by omega) (by omega), ah (by simp)]
 rfl
end Q
end

section
namespace Q
open Go Go.Abs
set_option linter.unusedVariables false
set_option linter.unusedSimpArgs false
theorem bdg (b : List Int) : (∃ e : Int, e ≠ 0 ∧ ∀ {ρ : Type} (k : List Int → Int → Int → List Int → Int → Option ρ), bkn b k = k [] 0 0 [] e) ∨
    (∃ w h : Nat, w = wOf (nm b 4 8) ∧ w ≠ 0 ∧ 1 ≤ h ∧ h ≤ 25 ∧ o7 h ≠ 0 ∧ 4 + (36 + 32 * pOf w) + 4 + 32 * h ≤ b.length ∧ ∀ {ρ : Type} (k : List Int → Int → Int → List Int → Int → Option ρ),
     bkn b k = k (b.take (4 + (36 + 32 * pOf w) + 4 + 32 * h)) (h : Int) (w : Int) (b.drop (4 + (36 + 32 * pOf w) + 4 + 32 * h)) 0) := by
 unfold bkn
 by_cases h8 : b.length < 8
 ·exact .inl ⟨1, by decide, fun k => by rw [if_pos h8]⟩
 by_cases hw : wOf (nm b 4 8) = 0
 ·exact .inl ⟨9, by decide, fun k => by rw [if_neg h8, if_pos hw]⟩
 generalize hww : wOf (nm b 4 8) = w at hw
 by_cases hl : b.length < 4 + (36 + 32 * pOf w) + 4
 ·exact .inl ⟨1, by decide, fun k => by rw [if_neg h8, if_neg hw, if_pos hl]⟩
 generalize hcc : nm b (4 + (36 + 32 * pOf w)) (4 + (36 + 32 * pOf w) + 4) = ch
 by_cases hh : hOf ch = 0
 ·exact .inl ⟨9, by decide, fun k => by rw [if_neg h8, if_neg hw, if_neg hl, if_pos hh]⟩
 by_cases hl2 : b.length < 4 + (36 + 32 * pOf w) + 4 + 32 * hOf ch
 ·exact .inl ⟨1, by decide, fun k => by rw [if_neg h8, if_neg hw, if_neg hl, if_neg hh, if_pos hl2]⟩
 obtain ⟨g1, g2, g3⟩ := aov ch hh
 refine .inr ⟨w, hOf ch, rfl, hw, g2, g3, ?_, by omega, fun k => by rw [if_neg h8, if_neg hw, if_neg hl, if_neg hh, if_neg hl2]⟩
 rw [g1]
 rintro rfl
 exact hh rfl
theorem bmt (q h : Nat) : ((q : Int).fdiv ((2 : Int) ^ min ((h : Nat) : Int).toNat 64) != (0 : Int)) = decide (¬ q < 2 ^ min h 64) := by
 rw [toNat_cast, Int.fdiv_eq_ediv_of_nonneg _ (by exact Int.le_of_lt (Int.pow_pos (by omega))), show ((2 : Int) ^ min h 64) = ((2 ^ min h 64 : Nat) : Int) by simp, ← Int.natCast_ediv]
 by_cases hq : q < 2 ^ min h 64
 ·rw [decide_eq_false (by omega), Nat.div_eq_of_lt hq]; rfl
 ·rw [decide_eq_true hq, bne_iff_ne]
  have := (Nat.le_div_iff_mul_le (Nat.two_pow_pos (min h 64))).2 (show 1 * 2 ^ min h 64 ≤ q by omega)
  omega
theorem bf2 (a0 a1 a2 : List Int) (h0 : In 256 a0) (h1 : In 256 a1) (h2 : In 256 a2) (n0 : a0.length ≤ 300) (n1 : a1.length ≤ 300) (n2 : a2.length ≤ 12000) :
    ∃ e : Int, (∀ {ρ : Type} (k : Int → Option ρ), P.oq a0 a1 a2 k = k e) ∧ (∀ {ρ : Type} (k : Int → Option ρ), P.ail a0 a1 a2 k = k e) := by
 have e4 : Int.toNat (4 : Int) = 4 := rfl
 have e8 : Int.toNat (8 : Int) = 8 := rfl
 have e24 : Int.toNat (24 : Int) = 24 := rfl
 have pre : ∀ {ρ : Type} (k : Int → Option ρ), P.oq a0 a1 a2 k = P.mh a0 a1 a2 k ∧ P.ail a0 a1 a2 k = P.o8 a0 a1 a2 k := fun k => ⟨P.ajh .., P.bbm ..⟩
 by_cases hl : a0.length = 56
 ·have m1 := ayf a0 0 4 (by omega)
  have m2 := ayf a0 4 8 (by omega)
  by_cases hh : hOf (nm a0 0 4) = 0
  ·refine ⟨10, fun k => ?_, fun k => ?_⟩
   ·rw [(pre k).1]; unfold P.mh
    rw [au (by omega), ah (by omega), e4, z8 a0 h0 0 4 (by omega), mg _ (by omega), hh, bq (by omega)]
   ·rw [(pre k).2]; unfold P.o8
    rw [au (by omega), ah (by omega), e4, aac a0 h0 0 4 (by omega), uq _ (by omega), hh, bq (by omega)]
  by_cases hw : wOf (nm a0 4 8) = 0
  ·refine ⟨10, fun k => ?_, fun k => ?_⟩
   ·rw [(pre k).1]; unfold P.mh
    rw [au (by omega), ah (by omega), e4, z8 a0 h0 0 4 (by omega), mg _ (by omega), ak (by omega), ah (by omega), e8, z8 a0 h0 4 8 (by omega), p8 _ (by omega), hw, bq (by omega)]
   ·rw [(pre k).2]; unfold P.o8
    rw [au (by omega), ah (by omega), e4, aac a0 h0 0 4 (by omega), uq _ (by omega), ak (by omega), ah (by omega), e8, aac a0 h0 4 8 (by omega), y5 _ (by omega), hw, bq (by omega)]
  rcases bdg a2 with ⟨e, he, hc⟩ | ⟨w, h, hww, hw0, g1, g2, g3, hn, hc⟩
  ·refine ⟨e, fun k => ?_, fun k => ?_⟩
   ·rw [(pre k).1]; unfold P.mh
    rw [au (by omega), ah (by omega), e4, z8 a0 h0 0 4 (by omega), mg _ (by omega), ak (by omega), ah (by omega), e8, z8 a0 h0 4 8 (by omega), p8 _ (by omega), ak (by omega), zi a2 h2 (by omega), hc, d9 he]
   ·rw [(pre k).2]; unfold P.o8
    rw [au (by omega), ah (by omega), e4, aac a0 h0 0 4 (by omega), uq _ (by omega), ak (by omega), ah (by omega), e8, aac a0 h0 4 8 (by omega), y5 _ (by omega), ak (by omega), agc a2 h2 (by omega), hc, d9 he]
  ·obtain ⟨hk, hcw, hw8, hp⟩ := auz (c := nm a2 4 8) (by rw [← hww]; exact hw0)
   rw [← hww] at hk hcw hw8 hp
   generalize hpp : pOf w = p at hk hp hn hc
   generalize hss : sOf w = s at hk
   by_cases hr : a2.length = 4 + (36 + 32 * p) + 4 + 32 * h
   ·have hd0 : a2.drop (4 + (36 + 32 * p) + 4 + 32 * h) = [] := List.drop_eq_nil_of_le (by omega)
    have hhl : (beN (o7 h) 4 ++ beN (u7 w) 4).length = 8 := by simp [kr]
    by_cases hhd : beN (o7 h) 4 ++ beN (u7 w) 4 = (a0.take 8).drop 0
    ·generalize hq : nm a2 0 4 = q
     have hq32 : q < 4294967296 := by rw [← hq]; exact ayf a2 0 4 (by omega)
     have hmin : min h 64 = h := by omega
     have h25 : 2 ^ h ≤ 2 ^ 25 := Nat.pow_le_pow_right (by omega) g2
     by_cases hqh : q < 2 ^ h
     ·have hid : In 256 ((a0.take 24).drop 8) := (h0.take 24).drop 8
      have hidl : ((a0.take 24).drop 8).length = 16 := by simp; omega
      have hsg : In 256 ((a2.take (4 + (36 + 32 * p))).drop 4) := (h2.take _).drop 4
      have hsgl : ((a2.take (4 + (36 + 32 * p))).drop 4).length = 36 + 32 * p := by simp; omega
      have hcode : T 8 (((a2.take (4 + (36 + 32 * p))).drop 4).take 4).reverse = u7 w := by
       rw [hcw]
       unfold nm
       congr 2
       rw [List.take_drop, List.take_take]
       congr 2
       omega
      have hpt : In 256 (a2.drop (4 + (36 + 32 * p) + 4)) := h2.drop _
      have hptl : (a2.drop (4 + (36 + 32 * p) + 4)).length = 32 * h := by simp; omega
      have w1 : IntKind.u64.wrap ((1 : Int) * (2 : Int) ^ min ((h : Nat) : Int).toNat 64) = ((2 ^ h : Nat) : Int) := by
       rw [toNat_cast, hmin, Int.one_mul, show ((2 : Int) ^ h) = ((2 ^ h : Nat) : Int) by simp, aag _ (by omega)]
      have hup2 : 2 ^ h + q < 2 ^ (h + 1) := by rw [Nat.pow_succ]; omega
      have ha0d : ((a0.take a0.length).drop 24).length = 32 := by simp; omega
      generalize hcs : bhe w p s ((a0.take 24).drop 8) q a1 ((a2.take (4 + (36 + 32 * p))).drop 4) = cs
      have hcsl : cs.length = 32 := by rw [← hcs]; exact uj _ _ _ _
      have hcsi : In 256 cs := by rw [← hcs]; exact acz _ _ _ _
      generalize hlf : atu ((a0.take 24).drop 8) (2 ^ h + q) 33410 [cs] = lf
      have hlfl : lf.length = 32 := by rw [← hlf]; exact uj _ _ _ _
      have hlfi : In 256 lf := by rw [← hlf]; exact acz _ _ _ _
      generalize htp : ax9 ((a0.take 24).drop 8) (2 ^ h + q) (a2.drop (4 + (36 + 32 * p) + 4)) lf h = tp
      have htpl : tp.length = 32 := by rw [← htp]; exact bbl _ _ _ _ hlfl _
      have htpi : In 256 tp := by rw [← htp]; exact bfy _ _ _ _ hlfi _
      have hroot : ∀ {ρ : Type} (k : List Int → Option ρ), P.ada (h : Int) (w : Int) ((a0.take 24).drop 8) a1 a2 k = k tp := by
       intro ρ k
       rw [P.anw]; unfold P.ahd
       rw [ah (by omega), e4, z8 a2 h2 0 4 (by omega), hq, jk hk, nu (x := (4 : Int) + ((36 + 32 * p : Nat) : Int)) (by omega) (by omega), nu (x := (4 : Int) + ((36 + 32 * p : Nat) : Int) + 4) (by omega) (by omega), ah (by omega), ah (by omega), bcw q hq32, show ((4 : Int) + ((36 + 32 * p : Nat) : Int)).toNat = 4 + (36 + 32 * p) by omega,
        as2 hk _ q a1 _ hid hq32 hidl h1 n1 hsg hsgl hcode, hcs, bg (by omega), w1, aag q (by omega), show ((2 ^ h : Nat) : Int) + (q : Int) = ((2 ^ h + q : Nat) : Int) by omega, aag (2 ^ h + q) (by omega), show (33410 : Int) = ((33410 : Nat) : Int) from rfl,
        ug _ _ 33410 [cs] hid (by omega) (by omega) (by omega) (by simpa using hcsi) (by simp) (by simp; omega), hlf, ah (by omega), ah (by omega), ah (by omega), bg (by omega), show ((4 : Int) + ((36 + 32 * p : Nat) : Int) + 4).toNat = 4 + (36 + 32 * p) + 4 by omega, toNat_cast, List.take_length,
        be4 _ _ _ _ (2 ^ h + q) h hid (by omega) hlfi hlfl hpt hptl (by omega) (by omega) hup2 (by omega), htp]
      by_cases htop : tp = (a0.take a0.length).drop 24
      ·refine ⟨0, fun k => ?_, fun k => ?_⟩
       ·rw [(pre k).1]; unfold P.mh
        rw [au (by omega), ah (by omega), e4, z8 a0 h0 0 4 (by omega), mg _ (by omega), ak (by omega), ah (by omega), e8, z8 a0 h0 4 8 (by omega), p8 _ (by omega), ak (by omega), zi a2 h2 (by omega), hc, au rfl, hd0, bg (by simp), ar7 hk g2, ah (by omega),
         qj _ _ ((zf _ _).app (zf _ _)) ((h0.take _).drop _) (by omega), decide_eq_true hhd, ji, o9, ah (by omega), z8 a2 h2 0 4 (by omega), hq, bg (by omega), bmt, hmin, bg (by omega), ah (by omega), e24, hroot, ah (by omega), ah (by omega), toNat_cast,
         qj _ _ htpi ((h0.take _).drop _) (by omega), decide_eq_true htop, ji, o9]
       ·rw [(pre k).2]; unfold P.o8
        rw [au (by omega), ah (by omega), e4, aac a0 h0 0 4 (by omega), uq _ (by omega), ak (by omega), ah (by omega), e8, aac a0 h0 4 8 (by omega), y5 _ (by omega), ak (by omega), agc a2 h2 (by omega), hc, au rfl, hd0, bg (by simp), als hk g2, ah (by omega),
         acn _ _ (by omega), decide_eq_true hhd, ji, o9, ah (by omega), aac a2 h2 0 4 (by omega), hq, bg (by omega), w1, bg (by omega), ah (by omega), aa8 hk, nu (x := (4 : Int) + ((36 + 32 * p : Nat) : Int)) (by omega) (by omega), ah (by omega), ah (by omega), e24, bcw q hq32, show ((4 : Int) + ((36 + 32 * p : Nat) : Int)).toNat = 4 + (36 + 32 * p) by omega,
         aj8 hk _ q a1 _ hid hq32 hidl h1 n1 hsg hsgl hcode, hcs, bg (by omega), show ((2 ^ h : Nat) : Int) + (q : Int) = ((2 ^ h + q : Nat) : Int) by omega, aag (2 ^ h + q) (by omega), aak _ _ cs hid (by omega) (by omega) hcsi (by omega), hlf, nu (x := (8 : Int) + ((36 + 32 * p : Nat) : Int)) (by omega) (by omega), ah (by omega), ah (by omega), ah (by omega),
         show ((8 : Int) + ((36 + 32 * p : Nat) : Int)).toNat = 4 + (36 + 32 * p) + 4 by omega, toNat_cast, List.take_length, bi7 _ _ _ _ (2 ^ h + q) h hid (by omega) hlfi hlfl hpt hptl (by omega) (by omega) hup2 (by omega), htp, ah (by omega), ah (by omega), toNat_cast, acn _ _ (by omega), decide_eq_true htop, ji, o9]
      ·refine ⟨11, fun k => ?_, fun k => ?_⟩
       ·rw [(pre k).1]; unfold P.mh
        rw [au (by omega), ah (by omega), e4, z8 a0 h0 0 4 (by omega), mg _ (by omega), ak (by omega), ah (by omega), e8, z8 a0 h0 4 8 (by omega), p8 _ (by omega), ak (by omega), zi a2 h2 (by omega), hc, au rfl, hd0, bg (by simp), ar7 hk g2, ah (by omega),
         qj _ _ ((zf _ _).app (zf _ _)) ((h0.take _).drop _) (by omega), decide_eq_true hhd, ji, o9, ah (by omega), z8 a2 h2 0 4 (by omega), hq, bg (by omega), bmt, hmin, bg (by omega), ah (by omega), e24, hroot, ah (by omega), ah (by omega), toNat_cast,
         qj _ _ htpi ((h0.take _).drop _) (by omega), decide_eq_false htop, ji, vo]
       ·rw [(pre k).2]; unfold P.o8
        rw [au (by omega), ah (by omega), e4, aac a0 h0 0 4 (by omega), uq _ (by omega), ak (by omega), ah (by omega), e8, aac a0 h0 4 8 (by omega), y5 _ (by omega), ak (by omega), agc a2 h2 (by omega), hc, au rfl, hd0, bg (by simp), als hk g2, ah (by omega),
         acn _ _ (by omega), decide_eq_true hhd, ji, o9, ah (by omega), aac a2 h2 0 4 (by omega), hq, bg (by omega), w1, bg (by omega), ah (by omega), aa8 hk, nu (x := (4 : Int) + ((36 + 32 * p : Nat) : Int)) (by omega) (by omega), ah (by omega), ah (by omega), e24, bcw q hq32, show ((4 : Int) + ((36 + 32 * p : Nat) : Int)).toNat = 4 + (36 + 32 * p) by omega,
         aj8 hk _ q a1 _ hid hq32 hidl h1 n1 hsg hsgl hcode, hcs, bg (by omega), show ((2 ^ h : Nat) : Int) + (q : Int) = ((2 ^ h + q : Nat) : Int) by omega, aag (2 ^ h + q) (by omega), aak _ _ cs hid (by omega) (by omega) hcsi (by omega), hlf, nu (x := (8 : Int) + ((36 + 32 * p : Nat) : Int)) (by omega) (by omega), ah (by omega), ah (by omega), ah (by omega),
         show ((8 : Int) + ((36 + 32 * p : Nat) : Int)).toNat = 4 + (36 + 32 * p) + 4 by omega, toNat_cast, List.take_length, bi7 _ _ _ _ (2 ^ h + q) h hid (by omega) hlfi hlfl hpt hptl (by omega) (by omega) hup2 (by omega), htp, ah (by omega), ah (by omega), toNat_cast, acn _ _ (by omega), decide_eq_false htop, ji, vo]
     ·have w1 : IntKind.u64.wrap ((1 : Int) * (2 : Int) ^ min ((h : Nat) : Int).toNat 64) = ((2 ^ h : Nat) : Int) := by
        rw [toNat_cast, hmin, Int.one_mul, show ((2 : Int) ^ h) = ((2 ^ h : Nat) : Int) by simp, aag _ (by omega)]
      refine ⟨13, fun k => ?_, fun k => ?_⟩
      ·rw [(pre k).1]; unfold P.mh
       rw [au (by omega), ah (by omega), e4, z8 a0 h0 0 4 (by omega), mg _ (by omega), ak (by omega), ah (by omega), e8, z8 a0 h0 4 8 (by omega), p8 _ (by omega), ak (by omega), zi a2 h2 (by omega), hc, au rfl, hd0, bg (by simp), ar7 hk g2, ah (by omega),
        qj _ _ ((zf _ _).app (zf _ _)) ((h0.take _).drop _) (by omega), decide_eq_true hhd, ji, o9, ah (by omega), z8 a2 h2 0 4 (by omega), hq, bg (by omega), bmt, hmin, ah (by omega)]
      ·rw [(pre k).2]; unfold P.o8
       rw [au (by omega), ah (by omega), e4, aac a0 h0 0 4 (by omega), uq _ (by omega), ak (by omega), ah (by omega), e8, aac a0 h0 4 8 (by omega), y5 _ (by omega), ak (by omega), agc a2 h2 (by omega), hc, au rfl, hd0, bg (by simp), als hk g2, ah (by omega),
        acn _ _ (by omega), decide_eq_true hhd, ji, o9, ah (by omega), aac a2 h2 0 4 (by omega), hq, bg (by omega), w1, ah (by omega)]
    ·refine ⟨1, fun k => ?_, fun k => ?_⟩
     ·rw [(pre k).1]; unfold P.mh
      rw [au (by omega), ah (by omega), e4, z8 a0 h0 0 4 (by omega), mg _ (by omega), ak (by omega), ah (by omega), e8, z8 a0 h0 4 8 (by omega), p8 _ (by omega), ak (by omega), zi a2 h2 (by omega), hc, au rfl, hd0, bg (by simp), ar7 hk g2, ah (by omega),
       qj _ _ ((zf _ _).app (zf _ _)) ((h0.take _).drop _) (by omega), decide_eq_false hhd, ji, vo]
     ·rw [(pre k).2]; unfold P.o8
      rw [au (by omega), ah (by omega), e4, aac a0 h0 0 4 (by omega), uq _ (by omega), ak (by omega), ah (by omega), e8, aac a0 h0 4 8 (by omega), y5 _ (by omega), ak (by omega), agc a2 h2 (by omega), hc, au rfl, hd0, bg (by simp), als hk g2, ah (by omega),
       acn _ _ (by omega), decide_eq_false hhd, ji, vo]
   ·have hd1 : ((a2.drop (4 + (36 + 32 * p) + 4 + 32 * h)).length : Int) > 0 := by rw [List.length_drop]; omega
    refine ⟨1, fun k => ?_, fun k => ?_⟩
    ·rw [(pre k).1]; unfold P.mh
     rw [au (by omega), ah (by omega), e4, z8 a0 h0 0 4 (by omega), mg _ (by omega), ak (by omega), ah (by omega), e8, z8 a0 h0 4 8 (by omega), p8 _ (by omega), ak (by omega), zi a2 h2 (by omega), hc, au rfl, ah hd1]
    ·rw [(pre k).2]; unfold P.o8
     rw [au (by omega), ah (by omega), e4, aac a0 h0 0 4 (by omega), uq _ (by omega), ak (by omega), ah (by omega), e8, aac a0 h0 4 8 (by omega), y5 _ (by omega), ak (by omega), agc a2 h2 (by omega), hc, au rfl, ah hd1]
 ·refine ⟨10, fun k => ?_, fun k => ?_⟩
  ·rw [(pre k).1]; unfold P.mh
   rw [d9 (by omega)]
  ·rw [(pre k).2]; unfold P.o8
   rw [d9 (by omega)]
end Q
end

section
/- hss: which keys can be, how many leaves, and the leaves of a number. -/
namespace Q
open Go Go.Abs
set_option linter.unusedVariables false
set_option linter.unusedSimpArgs false
theorem bnv (h : Int) {ρ : Type} (k : Int → Option ρ) : P.pz h k = k ((o7 h.toNat : Nat) : Int) := by
 by_cases hh : 0 ≤ h ∧ h ≤ 1000
 ·obtain ⟨n, rfl⟩ : ∃ n : Nat, h = (n : Int) := ⟨h.toNat, by omega⟩
  rw [pz n (by omega), toNat_cast]
 ·rw [P.aok]; unfold P.ahg
  have h0 : o7 h.toNat = 0 := by unfold o7; rw [if_neg (by omega), if_neg (by omega)]
  simp (disch := omega) only [ak]
  rw [h0]; rfl
theorem blo (h : Int) {ρ : Type} (k : Int → Option ρ) : P.aan h k = k ((o7 h.toNat : Nat) : Int) := by
 by_cases hh : 0 ≤ h ∧ h ≤ 100
 ·obtain ⟨n, rfl⟩ : ∃ n : Nat, h = (n : Int) := ⟨h.toNat, by omega⟩
  rw [aan n (by omega), toNat_cast]
 ·rw [P.av7]; unfold P.ag2
  have h0 : o7 h.toNat = 0 := by unfold o7; rw [if_neg (by omega), if_neg (by omega)]
  rw [h0]
  by_cases h1 : h < 0
  ·simp (disch := omega) only [ah, bg]; rfl
  ·simp (disch := omega) only [ah, bg]; rfl
theorem bhr {w : Int} (h : w ≠ 1 ∧ w ≠ 2 ∧ w ≠ 4 ∧ w ≠ 8) {ρ : Type} (k : Int → Option ρ) : P.qm w k = k 0 := by
 obtain ⟨h1, h2, h3, h4⟩ := h
 rw [P.af9]; unfold P.acp
 simp (disch := omega) only [ak]
def be8 (h w : Int) : Prop := o7 h.toNat ≠ 0 ∧ (w = 1 ∨ w = 2 ∨ w = 4 ∨ w = 8)
theorem awd {h w : Int} (f : be8 h w) : 1 ≤ h ∧ h ≤ 25 := by
 have h0 := f.1
 unfold o7 at h0
 split at h0
 ·omega
 ·split at h0
  ·omega
  ·exact absurd rfl h0
theorem afs (h w : Int) {ρ : Type} (k : Bool → Option ρ) : (be8 h w → P.acg h w k = k true) ∧ (¬ be8 h w → P.acg h w k = k false) := by
 rw [P.aq3]; unfold P.ajn
 rw [bnv]
 constructor
 ·intro f
  rw [d9 (by have := f.1; omega)]
  rcases baw w with ⟨n, p, s, rfl, h2⟩ | hn
  ·rw [aoi h2, show (((u7 n : Nat) : Int) != 0) = true by rw [bne_iff_ne]; have : u7 n ≠ 0 := by { unfold u7; split <;> (try split) <;> (try split) <;> omega }; omega]
  ·have := f.2; omega
 ·intro f
  by_cases h0 : o7 h.toNat = 0
  ·rw [au (by omega)]
  ·rw [d9 (by omega)]
   rcases baw w with ⟨n, p, s, rfl, h2⟩ | hn
   ·exact absurd ⟨h0, by rcases h2 with ⟨rfl, _⟩ | ⟨rfl, _⟩ | ⟨rfl, _⟩ | ⟨rfl, _⟩ <;> simp⟩ f
   ·rw [bhr hn]; rfl
theorem ag5 (h w : Int) {ρ : Type} (k : Bool → Option ρ) : (be8 h w → P.aq1 h w k = k true) ∧ (¬ be8 h w → P.aq1 h w k = k false) := by
 rw [P.bkm]; unfold P.an1
 rw [blo]
 constructor
 ·intro f
  rw [d9 (by have := f.1; omega)]
  rcases baw w with ⟨n, p, s, rfl, h2⟩ | hn
  ·rw [aa8 h2, show (((36 + 32 * p : Nat) : Int) != 0) = true by rw [bne_iff_ne]; omega]
  ·have := f.2; omega
 ·intro f
  by_cases h0 : o7 h.toNat = 0
  ·rw [au (by omega)]
  ·rw [d9 (by omega)]
   rcases baw w with ⟨n, p, s, rfl, h2⟩ | hn
   ·exact absurd ⟨h0, by rcases h2 with ⟨rfl, _⟩ | ⟨rfl, _⟩ | ⟨rfl, _⟩ | ⟨rfl, _⟩ <;> simp⟩ f
   ·rw [bhg hn]; rfl
def hts (H : List Int) : List Nat := H.map Int.toNat
theorem bnf (H : List Int) (j : Nat) : (hts H).getD j 0 = (H.getD j 0).toNat := by
 unfold hts
 rw [List.getD_eq_getElem?_getD, List.getD_eq_getElem?_getD, List.getElem?_map]
 cases H[j]? <;> rfl
theorem ajc (H : List Int) (i : Nat) (hi : i < H.length) : sm (hts (H.take (i + 1))) = sm (hts (H.take i)) + (H.getD i 0).toNat := by
 have : H.take (i + 1) = H.take i ++ [H.getD i 0] := (ais H 0 i hi).symm
 rw [this]
 unfold hts
 rw [List.map_append, blz]
 simp [sm]
def OkT (H W : List Int) (j : Nat) : Prop := be8 (H.getD j 0) (W.getD j 0) ∧ H.getD j 0 ≤ 10
structure FitK (n : Nat) (H W id seed : List Int) : Prop where
 n1 : 1 ≤ n
 n8 : n ≤ 8
 t : ∀ j, j < n → OkT H W j
 s : sm (hts H) ≤ 60
 i : id.length = 16
 d : seed.length = 32
theorem bou {n : Nat} (H W : List Int) (hH : H.length = n) : ∀ i, i ≤ n → (∀ j, j < i → OkT H W j) → sm (hts (H.take i)) ≤ 10 * i
 | 0, _, _ => by simp [hts, sm]
 | i + 1, hi, h => by
  have h1 := bou H W hH i (by omega) (fun j hj => h j (by omega))
  have h2 := h i (by omega)
  rw [ajc H i (by omega)]
  have := h2.2
  omega
theorem bi0 (n : Nat) (H W id seed : List Int) (hH : H.length = n) (i : Nat) (hi : i < n) (h8 : i < 8) (hall : ∀ j, j ≤ i → OkT H W j) {ρ : Type} (nx k0 : Int → Int → Nat → (List Int) → (List Int) → (List Int) → (List Int) → Option ρ) (k1 : Bool → Int → Int → Int → Int → Nat → (List Int) → (List Int) → (List Int) → (List Int) → Option ρ) :
    P.af2 ((sm (hts (H.take i)) : Nat) : Int) (i : Int) n H W id seed nx k0 k1 = nx ((sm (hts (H.take (i + 1))) : Nat) : Int) ((i + 1 : Nat) : Int) n H W id seed := by
 have h1 := bou H W hH i (by omega) (fun j hj => hall j (by omega))
 have h2 := hall i (by omega)
 have h3 := awd h2.1
 have h4 := h2.2
 unfold P.af2
 rw [ah (by omega), ah (by omega), ah (by omega), bg (by omega), toNat_cast, (ag5 _ _ _).1 h2.1, ji, o9, bg (by omega), nu (by omega) (by omega), nu (by omega) (by omega), ajc H i (by omega)]
 congr 1
 omega
theorem bs5 (n : Nat) (H W id seed : List Int) (s : Int) (i : Nat) (hi : i < n) (hb : 8 ≤ i ∨ ¬ OkT H W i) {ρ : Type} (nx k0 : Int → Int → Nat → (List Int) → (List Int) → (List Int) → (List Int) → Option ρ) (k1 : Bool → Int → Int → Int → Int → Nat → (List Int) → (List Int) → (List Int) → (List Int) → Option ρ) :
    P.af2 s (i : Int) n H W id seed nx k0 k1 = k1 false (H.getD i 0) (W.getD i 0) 0 0 n H W id seed := by
 unfold P.af2
 rw [ah (by omega), ah (by omega), ah (by omega), toNat_cast]
 by_cases h8 : 8 ≤ i
 ·rw [ah (by omega)]
 ·rw [bg (by omega)]
  have hb : ¬ OkT H W i := hb.resolve_left h8
  by_cases hf : be8 (H.getD i 0) (W.getD i 0)
  ·rw [(ag5 _ _ _).1 hf, ji, o9, ah]
   have : ¬ H.getD i 0 ≤ 10 := fun h => hb ⟨hf, h⟩
   omega
  ·rw [(ag5 _ _ _).2 hf, ji, vo]
theorem bh8 (n : Nat) (H W id seed : List Int) (hH : H.length = n) (i : Nat) (hi : i < n) (h8 : n ≤ 8) (hall : ∀ j, j ≤ i → OkT H W j) {ρ : Type} (nx k0 : Int → Nat → (List Int) → (List Int) → Int → Int → Nat → (List Int) → (List Int) → (List Int) → (List Int) → Option ρ) (k1 : Bool → Int → Int → Int → Int → Nat → (List Int) → (List Int) → (List Int) → (List Int) → Option ρ) :
    P.af3 ((sm (hts (H.take i)) : Nat) : Int) n H W (n : Int) (i : Int) n H W id seed nx k0 k1 = nx ((sm (hts (H.take (i + 1))) : Nat) : Int) n H W (n : Int) ((i + 1 : Nat) : Int) n H W id seed := by
 have h1 := bou H W hH i (by omega) (fun j hj => hall j (by omega))
 have h2 := hall i (by omega)
 have h3 := awd h2.1
 have h4 := h2.2
 unfold P.af3
 rw [ah (by omega), ah (by omega), ah (by omega), toNat_cast, (afs _ _ _).1 h2.1, ji, o9, bg (by omega), nu (by omega) (by omega), nu (by omega) (by omega), ajc H i (by omega)]
 congr 1
 omega
theorem bt4 (n : Nat) (H W id seed : List Int) (s : Int) (i : Nat) (hi : i < n) (hb : ¬ OkT H W i) {ρ : Type} (nx k0 : Int → Nat → (List Int) → (List Int) → Int → Int → Nat → (List Int) → (List Int) → (List Int) → (List Int) → Option ρ) (k1 : Bool → Int → Int → Int → Int → Nat → (List Int) → (List Int) → (List Int) → (List Int) → Option ρ) :
    P.af3 s n H W (n : Int) (i : Int) n H W id seed nx k0 k1 = k1 false (H.getD i 0) (W.getD i 0) 0 0 n H W id seed := by
 unfold P.af3
 rw [ah (by omega), ah (by omega), ah (by omega), toNat_cast]
 by_cases hf : be8 (H.getD i 0) (W.getD i 0)
 ·rw [(afs _ _ _).1 hf, ji, o9, ah]
  have : ¬ H.getD i 0 ≤ 10 := fun h => hb ⟨hf, h⟩
  omega
 ·rw [(afs _ _ _).2 hf, ji, vo]
theorem an5 (n : Nat) (H W id seed : List Int) (m : Nat) (hm : m < n) (hb : 8 ≤ m ∨ ¬ OkT H W m) (hall : ∀ j, j < m → OkT H W j) (h8 : m ≤ 8) (hH : H.length = n) {ρ : Type} (k : Bool → Option ρ) : P.bah n H W id seed k = k false := by
 rw [P.ayr]; unfold P.ai8
 rw [P.ap7]; unfold P.aqz P.bvd P.bve P.b4v
 refine qo (fun i => (((sm (hts (H.take i)) : Nat) : Int), (i : Int), n, H, W, id, seed)) m rfl (fun i hi next hnx => ?_) (fun next => ?_) (by omega)
 ·refine Eq.trans (bi0 n H W id seed hH i (by omega) (by omega) (fun j hj => hall j (by omega)) _ _ _) hnx
 ·exact bs5 n H W id seed _ m hm hb _ _ _
theorem baj {n : Nat} (H : List Int) (hH : H.length = n) : H.take n = H := by rw [← hH, List.take_length]
theorem arf (n : Nat) (H W id seed : List Int) (hH : H.length = n) : ∃ b : Bool, (b = true ↔ FitK n H W id seed) ∧ (∀ {ρ : Type} (k : Bool → Option ρ), P.acv n H W id seed k = k b) ∧ ∀ {ρ : Type} (k : Bool → Option ρ), P.bah n H W id seed k = k b := by
 by_cases h8 : n > 8
 ·refine ⟨false, ⟨fun h => (by cases h), fun h => absurd h.n8 (by omega)⟩, fun k => ?_, fun k => ?_⟩
  ·rw [P.amo]; unfold P.agf
   rw [ah (by omega)]
  ·rcases aow (OkT H W) 8 with h | ⟨m, m1, m2, m3⟩
   ·exact an5 n H W id seed 8 (by omega) (.inl (by omega)) h (by omega) hH k
   ·exact an5 n H W id seed m (by omega) (.inr m2) m3 (by omega) hH k
 ·rcases aow (OkT H W) n with h | ⟨m, m1, m2, m3⟩
  ·have hs := bou H W hH n (by omega) h
   rw [baj H hH] at hs
   refine ⟨decide (n ≥ 1) && (decide (sm (hts H) ≤ 60) && (decide (id.length = 16) && decide (seed.length = 32))), ?_, fun k => ?_, fun k => ?_⟩
   ·simp only [Bool.and_eq_true, decide_eq_true_eq]
    exact ⟨fun ⟨a, b, c, d⟩ => ⟨a, by omega, h, b, c, d⟩, fun f => ⟨f.n1, f.s, f.i, f.d⟩⟩
   ·rw [P.amo]; unfold P.agf
    rw [bg (by omega), P.apx]; unfold P.aq4 P.zk2 P.zs2 P.zu2
    refine qo (fun i => (((sm (hts (H.take i)) : Nat) : Int), n, H, W, (n : Int), (i : Int), n, H, W, id, seed)) n rfl (fun i hi next hnx => ?_) (fun next => ?_) (by omega)
    ·refine Eq.trans (bh8 n H W id seed hH i hi (by omega) (fun j hj => h j (by omega)) _ _ _) hnx
    ·simp only [P.af3]
     rw [bg (by omega)]
     simp only [Sum.elim_inl]
     rw [baj H hH]
     by_cases a1 : n ≥ 1
     ·rw [ah (by omega)]
      by_cases a2 : sm (hts H) ≤ 60
      ·rw [ah (by omega)]
       by_cases a3 : id.length = 16
       ·rw [bq (by omega), decide_eq_true a1, decide_eq_true a2, decide_eq_true a3, Bool.true_and, Bool.true_and, Bool.true_and]
        by_cases a4 : seed.length = 32
        ·rw [a4]; rfl
        ·rw [decide_eq_false a4, show (((seed.length : Nat) : Int) == 32) = false by rw [beq_eq_false_iff_ne]; omega]
       ·rw [ak (by omega), decide_eq_true a1, decide_eq_true a2, decide_eq_false a3]; rfl
      ·rw [bg (by omega), decide_eq_true a1, decide_eq_false a2]; rfl
     ·rw [bg (by omega), decide_eq_false a1]; rfl
   ·rw [P.ayr]; unfold P.ai8
    rw [P.ap7]; unfold P.aqz P.bvd P.bve P.b4v
    refine qo (fun i => (((sm (hts (H.take i)) : Nat) : Int), (i : Int), n, H, W, id, seed)) n rfl (fun i hi next hnx => ?_) (fun next => ?_) (by omega)
    ·refine Eq.trans (bi0 n H W id seed hH i hi (by omega) (fun j hj => h j (by omega)) _ _ _) hnx
    ·simp only [P.af2]
     rw [bg (by omega)]
     simp only [Sum.elim_inl]
     rw [baj H hH]
     by_cases a1 : n ≥ 1
     ·rw [ah (by omega)]
      by_cases a2 : sm (hts H) ≤ 60
      ·rw [ah (by omega)]
       by_cases a3 : id.length = 16
       ·rw [bq (by omega), decide_eq_true a1, decide_eq_true a2, decide_eq_true a3, Bool.true_and, Bool.true_and, Bool.true_and]
        by_cases a4 : seed.length = 32
        ·rw [a4]; rfl
        ·rw [decide_eq_false a4, show (((seed.length : Nat) : Int) == 32) = false by rw [beq_eq_false_iff_ne]; omega]
       ·rw [ak (by omega), decide_eq_true a1, decide_eq_true a2, decide_eq_false a3]; rfl
      ·rw [bg (by omega), decide_eq_true a1, decide_eq_false a2]; rfl
     ·rw [bg (by omega), decide_eq_false a1]; rfl
  ·refine ⟨false, ⟨fun h => (by cases h), fun h => absurd (h.t m m1) m2⟩, fun k => ?_, fun k => an5 n H W id seed m m1 (.inr m2) m3 (by omega) hH k⟩
   rw [P.amo]; unfold P.agf
   rw [bg (by omega), P.apx]; unfold P.aq4 P.zk2 P.zs2 P.zu2
   refine qo (fun i => (((sm (hts (H.take i)) : Nat) : Int), n, H, W, (n : Int), (i : Int), n, H, W, id, seed)) m rfl (fun i hi next hnx => ?_) (fun next => ?_) (by omega)
   ·refine Eq.trans (bh8 n H W id seed hH i (by omega) (by omega) (fun j hj => m3 j (by omega)) _ _ _) hnx
   ·exact bt4 n H W id seed _ m m1 m2 _ _ _
theorem anz {n : Nat} {H W id seed : List Int} (hH : H.length = n) (f : FitK n H W id seed) {ρ : Type} (k : Int → Option ρ) : P.ab0 n H W id seed k = k ((sm (hts H) : Nat) : Int) := by
 rw [P.axh]; unfold P.akv
 rw [P.aym]; unfold P.awo P.zk3 P.zs3 P.zu3
 have n8 := f.n8
 refine qo (fun i => (((sm (hts (H.take i)) : Nat) : Int), n, H, W, (n : Int), (i : Int))) n rfl (fun i hi next hnx => ?_) (fun next => ?_) (by omega)
 ·simp only [P.anf]
  have h1 := bou H W hH i (by omega) (fun j hj => f.t j (by omega))
  have h2 := f.t i hi
  have h3 := awd h2.1
  have h4 := h2.2
  rw [ah (by omega), ah (by omega), ah (by omega), toNat_cast, nu (by omega) (by omega), nu (by omega) (by omega)]
  refine Eq.trans ?_ hnx
  rw [ajc H i (by omega)]
  congr 2
  omega
 ·simp only [P.anf]
  rw [bg (by omega), baj H hH]
theorem axq {s : Nat} (h : s ≤ 60) : IntKind.u64.wrap ((1 : Int) * (2 : Int) ^ min ((s : Nat) : Int).toNat 64) = ((2 ^ s : Nat) : Int) := by
 have h2 : 2 ^ s ≤ 2 ^ 60 := Nat.pow_le_pow_right (by omega) h
 rw [toNat_cast, Nat.min_eq_left (by omega), Int.one_mul, show ((2 : Int) ^ s) = ((2 ^ s : Nat) : Int) by simp, aag _ (by omega)]
theorem apm {n : Nat} {H W id seed : List Int} (hH : H.length = n) (f : FitK n H W id seed) {ρ : Type} (k : Int → Option ρ) : P.yw n H W id seed k = k ((2 ^ sm (hts H) : Nat) : Int) := by
 obtain ⟨b, hb, h1, _⟩ := arf n H W id seed hH
 have : b = true := hb.2 f
 subst this
 rw [P.aot]; unfold P.ahu
 rw [h1, ji, o9, anz hH f, bg (by omega), axq f.s]
end Q
end

section
/- bits: Pack. -/
namespace Q
open Go Go.Abs
set_option linter.unusedVariables false
set_option linter.unusedSimpArgs false
theorem bkw (x w : Nat) (hx : x < 4294967296) (h : w ≤ 24) : bits .and .u32 (x : Int) (IntKind.u32.wrap (IntKind.u32.wrap ((1 : Int) * (2 : Int) ^ min w 32) - (1 : Int))) = ((x % 2 ^ w : Nat) : Int) := by
 have h1 := p2 w
 have h2 : 2 ^ w ≤ 2 ^ 24 := bhd h
 rw [show (1 : Int) = ((1 : Nat) : Int) from rfl, mul_pow 1 w 32 (by omega), bcw _ (by omega), show ((1 * 2 ^ w : Nat) : Int) - ((1 : Nat) : Int) = ((2 ^ w - 1 : Nat) : Int) by omega, bcw _ (by omega), btp _ _ hx (by omega), Nat.and_two_pow_sub_one_eq_mod]
end Q
end

section
/- hss: the leaves of a number. -/
namespace Q
open Go Go.Abs
set_option linter.unusedVariables false
set_option linter.unusedSimpArgs false
def ax2 (H : List Int) (N : Nat) : List Int := (vec (hts H) N).map (fun (x : Nat) => (x : Int))
theorem bbp (H : List Int) (N : Nat) : (ax2 H N).length = H.length := by simp [ax2, vec_len, hts]
theorem bg1 (H : List Int) : (hts H).length = H.length := by simp [hts]
theorem auj (H : List Int) (i : Nat) : (hts H).drop i = hts (H.drop i) := by unfold hts; rw [List.map_drop]
theorem bjw (H : List Int) (N i : Nat) (hi : i < H.length) : (ax2 H N).getD i 0 = ((N / 2 ^ sm (hts (H.drop (i + 1))) % 2 ^ (H.getD i 0).toNat : Nat) : Int) := by
 have h := boe (hts H) N i (by rw [bg1]; exact hi)
 rw [auj, bnf] at h
 unfold ax2
 rw [List.getD_eq_getElem?_getD, List.getElem?_map]
 rw [List.getD_eq_getElem?_getD] at h
 cases hq : (vec (hts H) N)[i]? with
 | none =>
  rw [List.getElem?_eq_none_iff, vec_len, bg1] at hq
  omega
 | some x =>
  rw [hq] at h
  simp only [Option.getD_some] at h
  simp only [Option.map_some, Option.getD_some]
  rw [h]
theorem bc4 {n : Nat} {H W id seed : List Int} (hH : H.length = n) (f : FitK n H W id seed) (i : Nat) (hi : i < n) : sm (hts (H.drop i)) = (H.getD i 0).toNat + sm (hts (H.drop (i + 1))) ∧ 1 ≤ H.getD i 0 ∧ H.getD i 0 ≤ 10 ∧ sm (hts (H.drop i)) ≤ 60 := by
 have h2 := f.t i hi
 have h3 := awd h2.1
 have h4 := blm (hts H) i (by rw [bg1]; omega)
 rw [auj, auj, bnf] at h4
 have h5 := bsf (hts H) i
 rw [auj] at h5
 have := f.s
 exact ⟨h4, h3.1, h2.2, by omega⟩
theorem bco (N s : Nat) (hs : s ≤ 64) : (N : Int).fdiv ((2 : Int) ^ min ((s : Nat) : Int).toNat 64) = ((N / 2 ^ s : Nat) : Int) := by
 rw [toNat_cast, fdiv_pow N s 64 hs]
theorem aqg {n : Nat} {H W id seed : List Int} (hH : H.length = n) (f : FitK n H W id seed) (N : Nat) (hN : N < 2 ^ sm (hts H)) {ρ : Type} (k : List Int → Int → Option ρ) : P.qg n H W id seed (N : Int) k = k (ax2 H N) 0 := by
 obtain ⟨b, hb, h1, _⟩ := arf n H W id seed hH
 have : b = true := hb.2 f
 subst this
 have hs := f.s
 have h60 : 2 ^ sm (hts H) ≤ 2 ^ 60 := Nat.pow_le_pow_right (by omega) hs
 rw [P.aqm]; unfold P.aia
 rw [h1, ji, o9, anz hH f, bg (by omega), bco _ _ (by omega), Nat.div_eq_of_lt hN, au (by omega), anz hH f, P.aug]
 unfold P.apt P.zk4 P.zs4 P.zu4
 have n8 := f.n8
 refine qo (fun i => ((N : Int), ((sm (hts (H.drop i)) : Nat) : Int), n, H, W, (n : Int), (i : Int), (ax2 H N).take i)) n rfl (fun i hi next hnx => ?_) (fun next => ?_) (by omega)
 ·simp only [P.ai4]
  obtain ⟨e1, e2, e3, e4⟩ := bc4 hH f i hi
  have hsub : ((sm (hts (H.drop i)) : Nat) : Int) - H.getD i 0 = ((sm (hts (H.drop (i + 1))) : Nat) : Int) := by omega
  have htl : ((ax2 H N).take i).length ≤ 8 := by rw [List.length_take]; omega
  have hlt : N / 2 ^ sm (hts (H.drop (i + 1))) < 18446744073709551616 := Nat.lt_of_le_of_lt (Nat.div_le_self _ _) (by omega)
  have key : bits BinOp.and IntKind.u32 (IntKind.u32.wrap ((N / 2 ^ sm (hts (H.drop (i + 1))) : Nat) : Int)) (IntKind.u32.wrap (IntKind.u32.wrap ((1 : Int) * (2 : Int) ^ min (H.getD i 0).toNat 32) - (1 : Int))) = (ax2 H N).getD i 0 := by
   rw [bjw H N i (by omega), bua, show (((N / 2 ^ sm (hts (H.drop (i + 1))) : Nat) : Int) % 4294967296) = ((N / 2 ^ sm (hts (H.drop (i + 1))) % 4294967296 : Nat) : Int) by omega, bkw _ (H.getD i 0).toNat (by omega) (by omega)]
   congr 1
   have : (4294967296 : Nat) = 2 ^ (H.getD i 0).toNat * 2 ^ (32 - (H.getD i 0).toNat) := by
    rw [← Nat.pow_add, show (H.getD i 0).toNat + (32 - (H.getD i 0).toNat) = 32 by omega]
   rw [this, Nat.mod_mul_right_mod]
  rw [ah (by omega), ah (by omega), ah (by omega), toNat_cast, hsub, nu (x := ((sm (hts (H.drop (i + 1))) : Nat) : Int)) (by omega) (by omega), bg (by omega), bg (by omega), ah (by omega), bco _ _ (by omega), key, nu (by omega) (by omega), ais _ _ _ (by rw [bbp]; omega)]
  exact hnx
 ·simp only [P.ai4]
  rw [bg (by omega), List.take_of_length_le (by rw [bbp]; omega)]
theorem ayl {ρ : Type} (k : Int → Option ρ) : P.tq [] [] [] k = k 10 := by
 rw [P.ajd]; unfold P.aek
 rw [d9 (by simp)]
theorem bcy : FitK 2 [(2 : Int), (3 : Int)] [(1 : Int), (1 : Int)] (List.replicate 16 (0 : Int)) (List.replicate 32 (0 : Int)) where
 n1 := by omega
 n8 := by omega
 t := fun j hj => by
  have : j = 0 ∨ j = 1 := by omega
  rcases this with rfl | rfl <;> (unfold OkT be8; decide)
 s := by decide
 i := by simp
 d := by simp
theorem zx {ρ : Type} (k : Bool → Option ρ) : P.zx k = k true := by
 rw [P.asu]; unfold P.ajy
 have hv := aqg (by rfl) bcy 9 (by decide) (ρ := ρ)
 have hl := apm (by rfl) bcy (ρ := ρ)
 rw [show (9 : Int) = ((9 : Nat) : Int) from rfl, hv, hl, show ax2 [2, 3] 9 = [1, 1] by decide, bq (by decide), bq rfl, bq (by decide), ah (by decide), bq (by decide), ah (by decide), bq (by decide), ayl]
 rfl
theorem afl (l : List (List Int)) (hl : l.length ≤ 100) {ρ : Type} (k : Bool → Option ρ) : (P.afl l k = k true ∧ ∀ i, i < l.length → (l.getD i []).length ≤ 300) ∨ P.afl l k = k false := by
 rw [P.baf]
 unfold P.aoc
 rw [P.bby]
 unfold P.ay3 P.zk1 P.zs1 P.zu1
 rcases aow (fun i => (l.getD i []).length ≤ 300) l.length with h | ⟨m, m1, m2, m3⟩
 ·refine .inl ⟨qo (fun i => (l, (l.length : Int), (i : Int))) l.length rfl (fun i hi next hn' => ?_) (fun next => ?_) (by omega), h⟩
  ·have := h i hi
   simp only [P.aix, toNat_cast]
   rw [ah (by omega), ah (by omega), ah (by omega), bg (by omega), nu (by omega) (by omega)]
   exact hn'
  ·simp only [P.aix]
   rw [bg (by omega)]
   rfl
 ·refine .inr (qo (fun i => (l, (l.length : Int), (i : Int))) m rfl (fun i hi next hn' => ?_) (fun next => ?_) (by omega))
  ·have := m3 i hi
   simp only [P.aix, toNat_cast]
   rw [ah (by omega), ah (by omega), ah (by omega), bg (by omega), nu (by omega) (by omega)]
   exact hn'
  ·simp only [P.aix, toNat_cast]
   rw [ah (by omega), ah (by omega), ah (by omega), ah (by omega)]
   rfl
end Q
end

section
/- The plain law of LmotsRight. -/
namespace Q
open Go Go.Abs
set_option linter.unusedVariables false
set_option linter.unusedSimpArgs false
end Q
end

section
/- lms: a tree's knots, its key, its signatures. -/
namespace Q
open Go Go.Abs
set_option linter.unusedVariables false
set_option linter.unusedSimpArgs false
def kn (w p : Nat) (id seed : List Int) (h : Nat) : Nat → Nat → List Int
 | 0, n => atu id n 33410 [bp8 w p id (n - 2 ^ h) seed]
 | j + 1, n => atu id n 33667 [kn w p id seed h j (2 * n), kn w p id seed h j (2 * n + 1)]
theorem aj3 (w p : Nat) (id seed : List Int) (h j n : Nat) : (kn w p id seed h j n).length = 32 := by
 cases j <;> exact uj _ _ _ _
theorem bhc (w p : Nat) (id seed : List Int) (h j n : Nat) : In 256 (kn w p id seed h j n) := by
 cases j <;> exact acz _ _ _ _
theorem bjn (w p : Nat) (id : List Int) (q : Nat) (seed : List Int) : (bp8 w p id q seed).length = 32 := uj _ _ _ _
theorem bmx (w p : Nat) (id : List Int) (q : Nat) (seed : List Int) : In 256 (bp8 w p id q seed) := acz _ _ _ _
theorem ajq {h : Nat} (h10 : h ≤ 10) : 2 ^ h ≤ 1024 := by
 have : 2 ^ h ≤ 2 ^ 10 := Nat.pow_le_pow_right (by omega) h10
 omega
theorem bbx {w p s : Nat} (hk : Kind w p s) (id seed : List Int) (hid : In 256 id) (h16 : id.length = 16) (hsd : In 256 seed) (h32 : seed.length = 32) (h : Nat) (h10 : h ≤ 10) :
    ∀ (j n f : Nat), j ≤ h → 2 ^ (h - j) ≤ n → n < 2 ^ (h - j + 1) → j < f → ∀ {ρ : Type} (k : List Int → Option ρ), P.gu f (h : Int) (w : Int) id seed (n : Int) k = k (kn w p id seed h j n)
 | 0, n, f + 1, hj, h1, h2, hf, ρ, k => by
  have hp := ajq h10
  rw [Nat.sub_zero] at h1 h2
  rw [Nat.pow_succ] at h2
  rw [P.adk]; unfold P.aaj
  rw [bg (by omega), axq (by omega), ah (by omega), show (n : Int) - ((2 ^ h : Nat) : Int) = ((n - 2 ^ h : Nat) : Int) by omega, aag _ (by omega), bcw _ (by omega),
   blj hk id _ seed hid (by omega) hsd h16 h32, show (33410 : Int) = ((33410 : Nat) : Int) from rfl, ug id n 33410 _ hid (by omega) (by omega) (by omega) (by simpa using bmx _ _ _ _ _) (by simp) (by simp [bjn])]
  rfl
 | j + 1, n, f + 1, hj, h1, h2, hf, ρ, k => by
  have hp := ajq h10
  obtain ⟨m, hm⟩ : ∃ m, h - (j + 1) = m := ⟨_, rfl⟩
  have hm1 : h - j = m + 1 := by omega
  rw [hm] at h1 h2
  have hle : 2 ^ (m + 1) ≤ 2 ^ h := Nat.pow_le_pow_right (by omega) (by omega)
  have e1 : 2 ^ (m + 1) = 2 ^ m * 2 := Nat.pow_succ ..
  have e2 : 2 ^ (m + 1 + 1) = 2 ^ (m + 1) * 2 := Nat.pow_succ ..
  rw [P.adk]; unfold P.aaj
  rw [bg (by omega), axq (by omega), bg (by omega), show (2 : Int) * (n : Int) = ((2 * n : Nat) : Int) by omega, aag _ (by omega), show ((2 * n : Nat) : Int) + 1 = ((2 * n + 1 : Nat) : Int) by omega, aag _ (by omega),
   bbx hk id seed hid h16 hsd h32 h h10 j (2 * n) f (by omega) (by rw [hm1]; omega) (by rw [hm1]; omega) (by omega),
   bbx hk id seed hid h16 hsd h32 h h10 j (2 * n + 1) f (by omega) (by rw [hm1]; omega) (by rw [hm1]; omega) (by omega),
   show (33667 : Int) = ((33667 : Nat) : Int) from rfl, ug id n 33667 _ hid (by omega) (by omega) (by omega) (by simpa using (bhc _ _ _ _ _ _ _).app (bhc _ _ _ _ _ _ _)) (by simp) (by simp [aj3])]
  rfl
 | j, n, 0, hj, h1, h2, hf, ρ, k => by omega
theorem aw6 {h w : Int} (f : be8 h w) (id seed : List Int) (h16 : id.length = 16) (h32 : seed.length = 32) (h10 : h ≤ 10) {ρ : Type} (k : Int → Option ρ) : P.ql h w id seed k = k 0 := by
 rw [P.ak1]; unfold P.wz
 rw [(afs h w _).1 f, ji, o9, au (by omega), au (by omega), bg (by omega)]
def bqx (w p : Nat) (id seed : List Int) (h : Nat) : List Int := (beN (o7 h) 4 ++ beN (u7 w) 4) ++ (id ++ kn w p id seed h h 1)
theorem bp5 (w p : Nat) (id seed : List Int) (h : Nat) (h16 : id.length = 16) : (bqx w p id seed h).length = 56 := by
 simp [bqx, kr, aj3, h16]
theorem bts (w p : Nat) (id seed : List Int) (h : Nat) (hid : In 256 id) : In 256 (bqx w p id seed h) := ((zf _ _).app (zf _ _)).app (hid.app (bhc _ _ _ _ _ _ _))
theorem ba9 {w p s : Nat} (hk : Kind w p s) (h : Nat) (hh : o7 h ≠ 0) (id seed : List Int) (hid : In 256 id) (h16 : id.length = 16) (hsd : In 256 seed) (h32 : seed.length = 32) (h10 : h ≤ 10) (f : be8 (h : Int) (w : Int)) {ρ : Type} (k : List Int → Int → Option ρ) :
    P.aaw (h : Int) (w : Int) id seed k = k (bqx w p id seed h) 0 := by
 rw [P.aoq]; unfold P.ah1
 rw [aw6 f id seed h16 h32 (by omega), au rfl, ar7 hk (by omega), toNat_cast, show (1 : Int) = ((1 : Nat) : Int) from rfl,
  bbx hk id seed hid h16 hsd h32 h h10 h 1 (h + 2) (by omega) (by rw [Nat.sub_self]; omega) (by rw [Nat.sub_self]; omega) (by omega), eu _ (by simp) (by simp [kr, aj3, h16])]
 simp only [List.flatten_cons, List.flatten_nil, List.append_nil]
 rfl
def ayq (w p : Nat) (id seed : List Int) (h n i : Nat) : List Int := kn w p id seed h i ((n / 2 ^ i) ^^^ 1)
theorem bvx (x : Nat) : x ^^^ 1 = if x % 2 = 0 then x + 1 else x - 1 := by
 have h1 : (x ^^^ 1) / 2 = x / 2 := by rw [Nat.xor_div_two]; simp
 have h2 : (x ^^^ 1) % 2 = (x + 1) % 2 := by
  have := Nat.xor_mod_two_pow (a := x) (b := 1) (n := 1)
  rw [Nat.pow_one] at this
  rw [this]
  rcases Nat.mod_two_eq_zero_or_one x with e | e <;> rw [e]
  ·show 0 ^^^ 1 = _
   simp; omega
  ·show 1 ^^^ 1 = _
   simp; omega
 split <;> omega
theorem bmm {a m : Nat} (h1 : 2 ^ (m + 1) ≤ a) (h2 : a < 2 ^ (m + 1 + 1)) : 2 ^ (m + 1) ≤ a ^^^ 1 ∧ a ^^^ 1 < 2 ^ (m + 1 + 1) := by
 rw [bvx]
 have e1 : 2 ^ (m + 1) = 2 ^ m * 2 := Nat.pow_succ ..
 have e2 : 2 ^ (m + 1 + 1) = 2 ^ (m + 1) * 2 := Nat.pow_succ ..
 split <;> omega
theorem bnk {n h i : Nat} (h1 : 2 ^ h ≤ n) (h2 : n < 2 ^ (h + 1)) (hi : i ≤ h) : 2 ^ (h - i) ≤ n / 2 ^ i ∧ n / 2 ^ i < 2 ^ (h - i + 1) := by
 have e : 2 ^ h = 2 ^ (h - i) * 2 ^ i := by rw [← Nat.pow_add]; congr 1; omega
 have e' : 2 ^ (h + 1) = 2 ^ (h - i + 1) * 2 ^ i := by rw [← Nat.pow_add]; congr 1; omega
 exact ⟨(Nat.le_div_iff_mul_le (Nat.two_pow_pos i)).2 (by omega), (Nat.div_lt_iff_lt_mul (Nat.two_pow_pos i)).2 (by omega)⟩
def at0 (w p s : Nat) (id seed : List Int) (h q : Nat) (text : List Int) : List Int :=
 (beN q 4 ++ (aru w p s id q seed text ++ beN (o7 h) 4)) ++ aas (ayq w p id seed h (2 ^ h + q)) h
theorem auw (w p s : Nat) (id seed : List Int) (h q : Nat) (text : List Int) : (at0 w p s id seed h q text).length = 4 + (36 + 32 * p) + 4 + 32 * h := by
 unfold at0
 rw [List.length_append, List.length_append, List.length_append, kr, kr, aul, acj (ayq w p id seed h (2 ^ h + q)) (fun i => aj3 _ _ _ _ _ _ _)]
 omega
theorem bgx (w p s : Nat) (id seed : List Int) (h q : Nat) (text : List Int) : In 256 (at0 w p s id seed h q text) :=
 ((zf _ _).app ((br6 _ _ _ _ _ _ _).app (zf _ _))).app (amq _ (fun i => bhc _ _ _ _ _ _ _) _)
theorem bhh {w p s : Nat} (hk : Kind w p s) (h : Nat) (hh : o7 h ≠ 0) (id seed : List Int) (hid : In 256 id) (h16 : id.length = 16) (hsd : In 256 seed) (h32 : seed.length = 32) (h10 : h ≤ 10) (f : be8 (h : Int) (w : Int)) (q : Nat) (hq : q < 2 ^ h) (text : List Int) (ht : In 256 text) (htl : text.length ≤ 300) {ρ : Type} (k : List Int → Int → Option ρ) :
    P.ael (h : Int) (w : Int) id seed (q : Int) text k = k (at0 w p s id seed h q text) 0 := by
 have hp := ajq h10
 have hpp := (pw hk).2.2.1
 have hc := amc h
 rw [P.av2]; unfold P.ak6
 rw [aw6 f id seed h16 h32 (by omega), au rfl, bg (by omega), aag q (by omega), bco q h (by omega), Nat.div_eq_of_lt hq, au (by omega), btn hk id q seed text hid (by omega) hsd h16 h32 ht htl, show (4 : Int) = ((4 : Nat) : Int) from rfl, gq q 4 (by omega) (by omega), pz h (by omega), gq _ 4 (by omega) (by omega)]
 have hfl : [(bsw 8 4 q).reverse, aru w p s id q seed text, (bsw 8 4 (o7 h)).reverse].flatten = beN q 4 ++ (aru w p s id q seed text ++ beN (o7 h) 4) := by simp [beN]
 have hfll : (beN q 4 ++ (aru w p s id q seed text ++ beN (o7 h) 4)).length = 44 + 32 * p := by simp [kr, aul]; omega
 rw [eu _ (by simp) (by rw [hfl]; omega), hfl, bg (by omega), axq (by omega), show ((2 ^ h : Nat) : Int) + (q : Int) = ((2 ^ h + q : Nat) : Int) by omega, aag (2 ^ h + q) (by omega), P.aue]
 unfold P.ao5 P.by9 P.bvw P.b3j
 have hup : 2 ^ h + q < 2 ^ (h + 1) := by rw [Nat.pow_succ]; omega
 refine qo (fun i => ((((2 ^ h + q) / 2 ^ i : Nat) : Int), (beN q 4 ++ (aru w p s id q seed text ++ beN (o7 h) 4)) ++ aas (ayq w p id seed h (2 ^ h + q)) i, (h : Int), (w : Int), id, seed)) h (by simp [aas]) (fun i hi next hnx => ?_) (fun next => ?_) (by omega)
 ·simp only [P.aju]
  have hw := biw (n := 2 ^ h + q) (by omega) hup hi
  have hlt : (2 ^ h + q) / 2 ^ i ≤ 2 ^ h + q := Nat.div_le_self _ _
  obtain ⟨r1, r2⟩ := bnk (n := 2 ^ h + q) (by omega) hup (show i ≤ h by omega)
  obtain ⟨m, hm⟩ : ∃ m, h - i = m + 1 := ⟨h - i - 1, by omega⟩
  rw [hm] at r1 r2
  obtain ⟨x1, x2⟩ := bmm r1 r2
  rw [← hm] at x1 x2
  have hnxt : (2 ^ h + q) / 2 ^ (i + 1) = (2 ^ h + q) / 2 ^ i / 2 := by rw [Nat.pow_succ, Nat.div_div_eq_div_mul]
  have hel := acj (ayq w p id seed h (2 ^ h + q)) (fun i => aj3 _ _ _ _ _ _ _) i
  have hpl : (ayq w p id seed h (2 ^ h + q) i).length = 32 := aj3 _ _ _ _ _ _ _
  rw [ah (by omega), toNat_cast, show (1 : Int) = ((1 : Nat) : Int) from rfl, bns _ _ (by omega) (by omega), bbx hk id seed hid h16 hsd h32 h h10 i _ (h + 2) (by omega) x1 x2 (by omega), half _ (by omega)]
  rw [show kn w p id seed h i (((2 ^ h + q) / 2 ^ i) ^^^ 1) = ayq w p id seed h (2 ^ h + q) i from rfl, ah (by rw [List.length_append, hfll, hel, hpl]; omega), List.append_assoc, ← vw, ← hnxt]
  exact hnx
 ·simp only [P.aju]
  rw [axa (by omega) hup, bg (by omega)]
  rfl
end Q
end

section
/- lms: what a tree signs is right by its key. -/
namespace Q
open Go Go.Abs
set_option linter.unusedVariables false
set_option linter.unusedSimpArgs false
theorem bdd {w p s : Nat} (h : Kind w p s) : wOf (u7 w) = w ∧ pOf w = p := by
 rcases h with ⟨rfl, rfl, _⟩ | ⟨rfl, rfl, _⟩ | ⟨rfl, rfl, _⟩ | ⟨rfl, rfl, _⟩ <;> decide
theorem bhu {h : Nat} (hh : o7 h ≠ 0) : hOf (o7 h) = h := avk h hh
theorem bh3 {w p s : Nat} (hk : Kind w p s) (h : Nat) (hh : o7 h ≠ 0) (b : List Int) (h1 : nm b 4 8 = u7 w) (h2 : nm b (4 + (36 + 32 * p)) (4 + (36 + 32 * p) + 4) = o7 h) (hl : 4 + (36 + 32 * p) + 4 + 32 * h ≤ b.length) {ρ : Type} (k : List Int → Int → Int → List Int → Int → Option ρ) :
    bkn b k = k (b.take (4 + (36 + 32 * p) + 4 + 32 * h)) (h : Int) (w : Int) (b.drop (4 + (36 + 32 * p) + 4 + 32 * h)) 0 := by
 obtain ⟨e1, e2⟩ := bdd hk
 have hw0 : w ≠ 0 := by rcases hk with ⟨rfl, _⟩ | ⟨rfl, _⟩ | ⟨rfl, _⟩ | ⟨rfl, _⟩ <;> omega
 have hh0 : h ≠ 0 := by
  rintro rfl
  exact hh rfl
 unfold bkn
 rw [h1, e1, e2, h2, bhu hh, if_neg (by omega), if_neg hw0, if_neg (by omega), if_neg hh0, if_neg (by omega)]
theorem avm (c : Nat) (hc : c < 4294967296) (b : List Int) (i : Nat) (h : (b.take (i + 4)).drop i = beN c 4) : nm b i (i + 4) = c := by
 unfold nm
 rw [h]
 unfold beN
 rw [List.reverse_reverse, bvj]
 omega
theorem bq1 (w p : Nat) (id seed : List Int) (h q : Nat) (hq : q < 2 ^ h) (path : List Int) (hp : ∀ i, i < h → (path.drop (32 * i)).take 32 = ayq w p id seed h (2 ^ h + q) i) :
    ∀ i, i ≤ h → ax9 id (2 ^ h + q) path (atu id (2 ^ h + q) 33410 [bp8 w p id q seed]) i = kn w p id seed h i ((2 ^ h + q) / 2 ^ i)
 | 0, _ => by
  rw [ax9, Nat.pow_zero, Nat.div_one, kn, show 2 ^ h + q - 2 ^ h = q by omega]
 | i + 1, hi => by
  have ih := bq1 w p id seed h q hq path hp i (by omega)
  rw [ax9, ih, hp i (by omega), Nat.pow_succ, ← Nat.div_div_eq_div_mul]
  unfold ayq
  generalize (2 ^ h + q) / 2 ^ i = a
  rw [kn, bvx]
  by_cases ha : a % 2 = 1
  ·rw [if_pos ha, if_neg (by omega), show 2 * (a / 2) = a - 1 by omega, show a - 1 + 1 = a by omega]
  ·rw [if_neg ha, if_pos (by omega), show 2 * (a / 2) = a by omega]
theorem aws {w p s : Nat} (hk : Kind w p s) (h : Nat) (hh : o7 h ≠ 0) (h25 : h ≤ 25) (id top text sig : List Int) (hid : In 256 id) (h16 : id.length = 16) (htop : In 256 top) (htopl : top.length = 32) (ht : In 256 text) (htl : text.length ≤ 300) (hs : In 256 sig) (hsl : sig.length ≤ 12000)
    (h1 : nm sig 4 8 = u7 w) (h2 : nm sig (4 + (36 + 32 * p)) (4 + (36 + 32 * p) + 4) = o7 h) (hl : 4 + (36 + 32 * p) + 4 + 32 * h ≤ sig.length) {ρ : Type} (k : Int → Option ρ) :
    (4 + (36 + 32 * p) + 4 + 32 * h < sig.length → P.oq ((beN (o7 h) 4 ++ beN (u7 w) 4) ++ (id ++ top)) text sig k = k 1) ∧
    (4 + (36 + 32 * p) + 4 + 32 * h = sig.length → ¬ nm sig 0 4 < 2 ^ h → P.oq ((beN (o7 h) 4 ++ beN (u7 w) 4) ++ (id ++ top)) text sig k = k 13) ∧
    (4 + (36 + 32 * p) + 4 + 32 * h = sig.length → nm sig 0 4 < 2 ^ h → ax9 id (2 ^ h + nm sig 0 4) (sig.drop (4 + (36 + 32 * p) + 4)) (atu id (2 ^ h + nm sig 0 4) 33410 [bhe w p s id (nm sig 0 4) text ((sig.take (4 + (36 + 32 * p))).drop 4)]) h = top → P.oq ((beN (o7 h) 4 ++ beN (u7 w) 4) ++ (id ++ top)) text sig k = k 0) := by
 have e4 : Int.toNat (4 : Int) = 4 := rfl
 have e8 : Int.toNat (8 : Int) = 8 := rfl
 have e24 : Int.toNat (24 : Int) = 24 := rfl
 obtain ⟨w1, w2⟩ := bdd hk
 have hw0 : w ≠ 0 := by rcases hk with ⟨rfl, _⟩ | ⟨rfl, _⟩ | ⟨rfl, _⟩ | ⟨rfl, _⟩ <;> omega
 have hh0 : h ≠ 0 := by
  rintro rfl
  exact hh rfl
 have hp := (pw hk).2.2.1
 have hch := amc h
 have hcw := ag4 w
 have h25' : 2 ^ h ≤ 2 ^ 25 := Nat.pow_le_pow_right (by omega) h25
 generalize hkey : (beN (o7 h) 4 ++ beN (u7 w) 4) ++ (id ++ top) = a0
 have hl0 : a0.length = 56 := by rw [← hkey]; simp [kr, h16, htopl]
 have h0 : In 256 a0 := by rw [← hkey]; exact ((zf _ _).app (zf _ _)).app (hid.app htop)
 have t4 : (a0.take 4).drop 0 = beN (o7 h) 4 := by
  rw [← hkey, List.append_assoc, List.drop_zero, List.take_append_of_le_length (by simp [kr]), List.take_of_length_le (by simp [kr])]
 have t8 : (a0.take 8).drop 0 = beN (o7 h) 4 ++ beN (u7 w) 4 := by
  rw [← hkey, List.drop_zero, List.take_append_of_le_length (by simp [kr]), List.take_of_length_le (by simp [kr])]
 have t48 : (a0.take 8).drop 4 = beN (u7 w) 4 := by
  have : a0.take 8 = beN (o7 h) 4 ++ beN (u7 w) 4 := by simpa using t8
  rw [this, List.drop_append_of_le_length (by simp [kr]), List.drop_of_length_le (by simp [kr]), List.nil_append]
 have d8 : a0.drop 8 = id ++ top := by
  rw [← hkey, show 8 = (beN (o7 h) 4 ++ beN (u7 w) 4).length by simp [kr], List.drop_left]
 have t24 : (a0.take 24).drop 8 = id := by
  rw [List.drop_take, d8, show 24 - 8 = id.length by omega, List.take_left]
 have d24 : (a0.take a0.length).drop 24 = top := by
  rw [List.take_length, show 24 = 8 + 16 by rfl, ← List.drop_drop, d8, ← h16, List.drop_left]
 have m1 : nm a0 0 4 = o7 h := avm _ hch a0 0 t4
 have m2 : nm a0 4 8 = u7 w := avm _ (by omega) a0 4 t48
 have hcut := bh3 hk h hh sig h1 h2 hl (ρ := ρ)
 have hd0 : ∀ x : Nat, x < 1 + 25 → True := fun _ _ => trivial
 have pre : P.oq a0 text sig k = P.mh a0 text sig k := P.ajh ..
 have hhl : (beN (o7 h) 4 ++ beN (u7 w) 4).length = 8 := by simp [kr]
 generalize hq : nm sig 0 4 = q
 have hq32 : q < 4294967296 := by rw [← hq]; exact ayf sig 0 4 (by omega)
 have hmin : min h 64 = h := by omega
 have start : ∀ (r : Option ρ), (br (decide (((sig.drop (4 + (36 + 32 * p) + 4 + 32 * h)).length : Int) > 0)) (k 1) (br (((q : Int)).fdiv ((2 : Int) ^ min ((h : Nat) : Int).toNat 64) != (0 : Int)) (k 13) (P.ada (h : Int) (w : Int) id text sig fun q12 => P.qj q12 top fun (q13 : Bool) => br (!q13) (k 11) (k 0)))) = r → P.oq a0 text sig k = r := by
  intro r hr
  rw [pre]; unfold P.mh
  rw [au (by omega), ah (by omega), e4, z8 a0 h0 0 4 (by omega), m1, mg _ (by omega), bhu hh, ak (by omega), ah (by omega), e8, z8 a0 h0 4 8 (by omega), m2, p8 _ (by omega), w1, ak (by omega), zi sig hs (by omega), hcut, au rfl, ← hr]
  congr 1
  rw [ar7 hk h25, ah (by omega), t8, qj _ _ ((zf _ _).app (zf _ _)) ((zf _ _).app (zf _ _)) (by omega), decide_eq_true rfl, ji, o9, ah (by omega), z8 sig hs 0 4 (by omega), hq, bg (by omega), ah (by omega), e24, t24]
  congr 2
  funext q12
  rw [ah (by omega), ah (by omega), toNat_cast, d24]
 refine ⟨fun hlt => start _ ?_, fun heq hnq => start _ ?_, fun heq hq2 hcur => start _ ?_⟩
 ·rw [ah (by rw [List.length_drop]; omega)]
 ·rw [bg (by rw [List.length_drop]; omega), bmt, hmin, ah hnq]
 ·rw [bg (by rw [List.length_drop]; omega), bmt, hmin, bg (by omega)]
  have hsg : In 256 ((sig.take (4 + (36 + 32 * p))).drop 4) := (hs.take _).drop 4
  have hsgl : ((sig.take (4 + (36 + 32 * p))).drop 4).length = 36 + 32 * p := by simp; omega
  have hcode : T 8 (((sig.take (4 + (36 + 32 * p))).drop 4).take 4).reverse = u7 w := by
   rw [← h1]
   unfold nm
   congr 2
   rw [List.take_drop, List.take_take]
   congr 2
   omega
  have hpt : In 256 (sig.drop (4 + (36 + 32 * p) + 4)) := hs.drop _
  have hptl : (sig.drop (4 + (36 + 32 * p) + 4)).length = 32 * h := by simp; omega
  have w1' : IntKind.u64.wrap ((1 : Int) * (2 : Int) ^ min ((h : Nat) : Int).toNat 64) = ((2 ^ h : Nat) : Int) := by
   rw [toNat_cast, hmin, Int.one_mul, show ((2 : Int) ^ h) = ((2 ^ h : Nat) : Int) by simp, aag _ (by omega)]
  have hup2 : 2 ^ h + q < 2 ^ (h + 1) := by rw [Nat.pow_succ]; omega
  generalize hcs : bhe w p s id q text ((sig.take (4 + (36 + 32 * p))).drop 4) = cs at hcur
  have hcsl : cs.length = 32 := by rw [← hcs]; exact uj _ _ _ _
  have hcsi : In 256 cs := by rw [← hcs]; exact acz _ _ _ _
  generalize hlf : atu id (2 ^ h + q) 33410 [cs] = lf at hcur
  have hlfl : lf.length = 32 := by rw [← hlf]; exact uj _ _ _ _
  have hlfi : In 256 lf := by rw [← hlf]; exact acz _ _ _ _
  have hroot : ∀ {ρ : Type} (k : List Int → Option ρ), P.ada (h : Int) (w : Int) id text sig k = k top := by
   intro ρ k
   rw [P.anw]; unfold P.ahd
   rw [ah (by omega), e4, z8 sig hs 0 4 (by omega), hq, jk hk, nu (x := (4 : Int) + ((36 + 32 * p : Nat) : Int)) (by omega) (by omega), nu (x := (4 : Int) + ((36 + 32 * p : Nat) : Int) + 4) (by omega) (by omega), ah (by omega), ah (by omega), bcw q hq32, show ((4 : Int) + ((36 + 32 * p : Nat) : Int)).toNat = 4 + (36 + 32 * p) by omega,
    as2 hk _ q text _ hid hq32 h16 ht htl hsg hsgl hcode, hcs, bg (by omega), w1', aag q (by omega), show ((2 ^ h : Nat) : Int) + (q : Int) = ((2 ^ h + q : Nat) : Int) by omega, aag (2 ^ h + q) (by omega), show (33410 : Int) = ((33410 : Nat) : Int) from rfl,
    ug _ _ 33410 [cs] hid (by omega) (by omega) (by omega) (by simpa using hcsi) (by simp) (by simp; omega), hlf, ah (by omega), ah (by omega), ah (by omega), bg (by omega), show ((4 : Int) + ((36 + 32 * p : Nat) : Int) + 4).toNat = 4 + (36 + 32 * p) + 4 by omega, toNat_cast, List.take_length,
    be4 _ _ _ _ (2 ^ h + q) h hid (by omega) hlfi hlfl hpt hptl (by omega) (by omega) hup2 (by omega), hcur]
  rw [hroot, qj _ _ htop htop (by omega), decide_eq_true rfl, ji, o9]
theorem arh {w p s : Nat} (hk : Kind w p s) (id seed : List Int) (h q : Nat) (text more : List Int) (hh : o7 h ≠ 0) :
    nm (at0 w p s id seed h q text ++ more) 4 8 = u7 w ∧ nm (at0 w p s id seed h q text ++ more) (4 + (36 + 32 * p)) (4 + (36 + 32 * p) + 4) = o7 h ∧
    ((at0 w p s id seed h q text ++ more).take (4 + (36 + 32 * p))).drop 4 = aru w p s id q seed text ∧ ((at0 w p s id seed h q text ++ more).take 4).drop 0 = beN q 4 ∧
    (at0 w p s id seed h q text).drop (4 + (36 + 32 * p) + 4) = aas (ayq w p id seed h (2 ^ h + q)) h := by
 have hcw := ag4 w
 have hch := amc h
 have ls := aul w p s id q seed text
 have e : at0 w p s id seed h q text ++ more = beN q 4 ++ (aru w p s id q seed text ++ (beN (o7 h) 4 ++ (aas (ayq w p id seed h (2 ^ h + q)) h ++ more))) := by
  unfold at0; simp only [List.append_assoc]
 have d4 : (at0 w p s id seed h q text ++ more).drop 4 = aru w p s id q seed text ++ (beN (o7 h) 4 ++ (aas (ayq w p id seed h (2 ^ h + q)) h ++ more)) := by
  rw [e]
  have := List.drop_left (l₁ := beN q 4) (l₂ := aru w p s id q seed text ++ (beN (o7 h) 4 ++ (aas (ayq w p id seed h (2 ^ h + q)) h ++ more)))
  rwa [kr] at this
 have c4 : (aru w p s id q seed text).take 4 = beN (u7 w) 4 := by
  unfold aru
  rw [List.append_assoc, List.take_append_of_le_length (by rw [kr]; omega), List.take_of_length_le (by rw [kr]; omega)]
 have d40 : (at0 w p s id seed h q text ++ more).drop (4 + (36 + 32 * p)) = beN (o7 h) 4 ++ (aas (ayq w p id seed h (2 ^ h + q)) h ++ more) := by
  rw [← List.drop_drop, d4, ← ls, List.drop_left]
 refine ⟨avm _ (by omega) _ 4 ?_, avm _ hch _ _ ?_, ?_, ?_, ?_⟩
 ·rw [List.drop_take, d4, Nat.add_sub_cancel_left, List.take_append_of_le_length (by omega), c4]
 ·rw [List.drop_take, d40, Nat.add_sub_cancel_left, List.take_append_of_le_length (by simp [kr]), List.take_of_length_le (by simp [kr])]
 ·rw [List.drop_take, d4, Nat.add_sub_cancel_left, ← ls, List.take_left]
 ·rw [e, List.drop_zero, List.take_append_of_le_length (by simp [kr]), List.take_of_length_le (by simp [kr])]
 ·unfold at0
  have : 4 + (36 + 32 * p) + 4 = (beN q 4 ++ (aru w p s id q seed text ++ beN (o7 h) 4)).length := by simp [kr, ls]; omega
  rw [this, List.drop_left]
end Q
end

section
/- lms: the document's trees. -/
namespace Q
open Go Go.Abs
set_option linter.unusedVariables false
set_option linter.unusedSimpArgs false
theorem brt (x y : Nat) (hx : x < 9223372036854775808) (hy : y < 9223372036854775808) : bits .xor .i64 (x : Int) (y : Int) = ((x ^^^ y : Nat) : Int) := by
 have h1 : x ^^^ y < 9223372036854775808 := Nat.xor_lt_two_pow (n := 63) hx hy
 have e : bits .xor .i64 (x : Int) (y : Int) = IntKind.i64.wrap ((BitVec.ofInt 64 (x : Int) ^^^ BitVec.ofInt 64 (y : Int)).toNat : Int) := rfl
 have e2 : (BitVec.ofInt 64 (x : Int) ^^^ BitVec.ofInt 64 (y : Int)).toNat = x ^^^ y := by
  rw [BitVec.toNat_xor, BitVec.toNat_ofInt, BitVec.toNat_ofInt]; congr 1 <;> omega
 rw [e, e2]; exact nu (by omega) (by omega)
theorem axu (h w : Int) (id seed : List Int) : ∃ e : Int, (e = 0 ↔ be8 h w ∧ id.length = 16 ∧ seed.length = 32 ∧ h ≤ 10) ∧ (∀ {ρ : Type} (k : Int → Option ρ), P.ql h w id seed k = k e) ∧ ∀ {ρ : Type} (k : Int → Option ρ), P.afd h w id seed k = k e := by
 have pre : ∀ {ρ : Type} (k : Int → Option ρ), P.ql h w id seed k = P.wz h w id seed k ∧ P.afd h w id seed k = P.ze h w id seed k := fun k => ⟨by rw [P.ak1], by rw [P.bd7]⟩
 by_cases f : be8 h w
 ·by_cases h16 : id.length = 16
  ·by_cases h32 : seed.length = 32
   ·by_cases h10 : h > 10
    ·refine ⟨8, ⟨fun e => by omega, fun e => by omega⟩, fun k => ?_, fun k => ?_⟩
     ·rw [(pre k).1]; unfold P.wz
      rw [(afs h w _).1 f, ji, o9, au (by omega), au (by omega), ah (by omega)]
     ·rw [(pre k).2]; unfold P.ze
      rw [(ag5 h w _).1 f, ji, o9, au (by omega), au (by omega), ah (by omega)]
    ·refine ⟨0, ⟨fun e => ⟨f, h16, h32, by omega⟩, fun e => rfl⟩, fun k => ?_, fun k => ?_⟩
     ·rw [(pre k).1]; unfold P.wz
      rw [(afs h w _).1 f, ji, o9, au (by omega), au (by omega), bg (by omega)]
     ·rw [(pre k).2]; unfold P.ze
      rw [(ag5 h w _).1 f, ji, o9, au (by omega), au (by omega), bg (by omega)]
   ·refine ⟨14, ⟨fun e => by omega, fun e => by omega⟩, fun k => ?_, fun k => ?_⟩
    ·rw [(pre k).1]; unfold P.wz
     rw [(afs h w _).1 f, ji, o9, au (by omega), d9 (by omega)]
    ·rw [(pre k).2]; unfold P.ze
     rw [(ag5 h w _).1 f, ji, o9, au (by omega), d9 (by omega)]
  ·refine ⟨14, ⟨fun e => by omega, fun e => by omega⟩, fun k => ?_, fun k => ?_⟩
   ·rw [(pre k).1]; unfold P.wz
    rw [(afs h w _).1 f, ji, o9, d9 (by omega)]
   ·rw [(pre k).2]; unfold P.ze
    rw [(ag5 h w _).1 f, ji, o9, d9 (by omega)]
 ·refine ⟨9, ⟨fun e => by omega, fun e => absurd e.1 f⟩, fun k => ?_, fun k => ?_⟩
  ·rw [(pre k).1]; unfold P.wz
   rw [(afs h w _).2 f, ji, vo]
  ·rw [(pre k).2]; unfold P.ze
   rw [(ag5 h w _).2 f, ji, vo]
def knI (w p : Nat) (id seed : List Int) (h i : Nat) : List Int := kn w p id seed h (h - i.log2) i
def bkq (w p : Nat) (id seed : List Int) (h : Nat) : List (List Int) := (List.range (2 * 2 ^ h)).map (fun i => knI w p id seed h i)
theorem bbj (w p : Nat) (id seed : List Int) (h : Nat) : (bkq w p id seed h).length = 2 * 2 ^ h := by simp [bkq]
theorem aum (w p : Nat) (id seed : List Int) (h i : Nat) (hi : i < 2 * 2 ^ h) : (bkq w p id seed h).getD i [] = knI w p id seed h i := by
 rw [getD_lt (by rw [bbj]; exact hi)]; simp [bkq]
theorem bag {i m : Nat} (h1 : 2 ^ m ≤ i) (h2 : i < 2 ^ (m + 1)) : i.log2 = m := (Nat.log2_eq_iff (by have := Nat.two_pow_pos m; omega)).2 ⟨h1, h2⟩
theorem aza (l : List (List Int)) (m : Nat) (h : m < l.length) : (List.replicate (m + 1) [] ++ l.drop (m + 1)).set m (l.getD m []) = List.replicate m [] ++ l.drop m := by
 rw [List.replicate_succ', List.append_assoc, List.set_append_right _ _ (by simp), ado l [] m h]
 simp
theorem bbr (l : List (List Int)) (m i : Nat) (h : m ≤ i) : (List.replicate m [] ++ l.drop m).getD i [] = l.getD i [] := by
 rw [List.getD_eq_getElem?_getD, List.getD_eq_getElem?_getD, List.getElem?_append_right (by simpa using h)]
 simp only [List.length_replicate, List.getElem?_drop]
 rw [show m + (i - m) = i by omega]
theorem bn8 {s : Nat} (h : s ≤ 60) : IntKind.i64.wrap ((1 : Int) * (2 : Int) ^ min ((s : Nat) : Int).toNat 64) = ((2 ^ s : Nat) : Int) := by
 have h2 : 2 ^ s ≤ 2 ^ 60 := Nat.pow_le_pow_right (by omega) h
 rw [toNat_cast, Nat.min_eq_left (by omega), Int.one_mul, show ((2 : Int) ^ s) = ((2 ^ s : Nat) : Int) by simp]
 have key : ∀ x : Nat, x ≤ 2 ^ 60 → IntKind.i64.wrap (x : Int) = (x : Int) := fun x hx => nu (by omega) (by omega)
 exact key _ h2
theorem bnm (w p : Nat) (id seed : List Int) (h i : Nat) : (knI w p id seed h i).length = 32 := aj3 _ _ _ _ _ _ _
theorem brn (w p : Nat) (id seed : List Int) (h i : Nat) : In 256 (knI w p id seed h i) := bhc _ _ _ _ _ _ _
theorem as5 {w p s : Nat} (hk : Kind w p s) (h : Nat) (id seed : List Int) (hid : In 256 id) (h16 : id.length = 16) (hsd : In 256 seed) (h32 : seed.length = 32) (h10 : h ≤ 10) {ρ : Type} (k : List (List Int) → Option ρ) :
    P.ak3 (h : Int) (w : Int) id seed k = k ([] :: (bkq w p id seed h).drop 1) := by
 have hp := ajq h10
 have hp0 := Nat.two_pow_pos h
 have hal := bbj w p id seed h
 rw [P.bc6]; unfold P.ajl
 have e1 : IntKind.i64.wrap ((2 : Int) * ((2 ^ h : Nat) : Int)) = ((2 * 2 ^ h : Nat) : Int) := by rw [nu (by omega) (by omega)]; omega
 rw [bg (by omega), bn8 (by omega), e1, ah (by omega), ah (by omega), ah (by omega), nu (x := ((2 * 2 ^ h : Nat) : Int) - 1) (by omega) (by omega), P.au2, toNat_cast]
 unfold P.as1 P.by8 P.bys P.b4b
 generalize hN : 2 * 2 ^ h = N at *
 refine qo (fun j => (id, seed, ((2 ^ h : Nat) : Int), ((N - 1 - j : Nat) : Int), (h : Int), (w : Int), List.replicate (N - j) [] ++ (bkq w p id seed h).drop (N - j))) (N - 1) ?_ (fun j hj next hnx => ?_) (fun next => ?_) (by omega)
 ·rw [Nat.sub_zero, Nat.sub_zero, List.drop_eq_nil_of_le (by omega), List.append_nil, show ((N : Nat) : Int) - 1 = ((N - 1 : Nat) : Int) by omega]
 ·simp only [P.alk]
  obtain ⟨i, hi⟩ : ∃ i, N - 1 - j = i := ⟨_, rfl⟩
  have hi1 : N - j = i + 1 := by omega
  have hi2 : N - (j + 1) = i := by omega
  have hi3 : N - 1 - (j + 1) = i - 1 := by omega
  rw [hi2, hi3] at hnx
  rw [hi, hi1]
  have i0 : i ≠ 0 := by omega
  have lg1 := Nat.log2_self_le i0
  have lg2 := Nat.lt_log2_self (n := i)
  have hll : (List.replicate (i + 1) ([] : List Int) ++ (bkq w p id seed h).drop (i + 1)).length = N := by
   rw [List.length_append, List.length_replicate, List.length_drop]; omega
  have hg := aum w p id seed h i (by omega)
  have ew : IntKind.i64.wrap (((i : Nat) : Int) - 1) = ((i - 1 : Nat) : Int) := by rw [nu (by omega) (by omega)]; omega
  rw [ah (by omega)]
  by_cases hge : 2 ^ h ≤ i
  ·have lg : i.log2 = h := bag hge (by rw [Nat.pow_succ]; omega)
   rw [ah (by omega), show ((i : Nat) : Int) - ((2 ^ h : Nat) : Int) = ((i - 2 ^ h : Nat) : Int) by omega, nu (x := ((i - 2 ^ h : Nat) : Int)) (by omega) (by omega), bcw _ (by omega), bbq hk id _ seed hid (by omega) hsd h16 h32, aag i (by omega), aak id i _ hid (by omega) (by omega) (bmx _ _ _ _ _) (by rw [bjn]; omega), ah (by omega), ah (by omega), toNat_cast, ew]
   have hv : atu id i 33410 [bp8 w p id (i - 2 ^ h) seed] = (bkq w p id seed h).getD i [] := by
    rw [hg, knI, lg, Nat.sub_self, kn]
   rw [hv, aza _ _ (by omega)]
   exact hnx
  ·have lgh : i.log2 < h := by
     have : ¬ h ≤ i.log2 := fun hle => hge (Nat.le_trans (Nat.pow_le_pow_right (by omega) hle) lg1)
     omega
   have a1 : 2 ^ (i.log2 + 1) = 2 ^ i.log2 * 2 := Nat.pow_succ ..
   have a2 : 2 ^ (i.log2 + 1 + 1) = 2 ^ (i.log2 + 1) * 2 := Nat.pow_succ ..
   have lg3 : (2 * i).log2 = i.log2 + 1 := bag (by omega) (by omega)
   have lg4 : (2 * i + 1).log2 = i.log2 + 1 := bag (by omega) (by omega)
   have e2 : IntKind.i64.wrap ((2 : Int) * ((i : Nat) : Int)) = ((2 * i : Nat) : Int) := by rw [nu (by omega) (by omega)]; omega
   have e3 : IntKind.i64.wrap (((2 * i : Nat) : Int) + 1) = ((2 * i + 1 : Nat) : Int) := by rw [nu (by omega) (by omega)]; omega
   rw [bg (by omega), e2, e3, ah (by omega), ah (by omega), ah (by omega), ah (by omega), aag i (by omega), toNat_cast, toNat_cast, bbr _ _ _ (by omega), bbr _ _ _ (by omega), aum _ _ _ _ _ _ (by omega), aum _ _ _ _ _ _ (by omega)]
   rw [aes id i _ _ hid (by omega) (by omega) (brn _ _ _ _ _ _) (by rw [bnm]; omega) (brn _ _ _ _ _ _) (by rw [bnm]; omega), ah (by omega), ah (by omega), toNat_cast, ew]
   have hv : atu id i 33667 [knI w p id seed h (2 * i), knI w p id seed h (2 * i + 1)] = (bkq w p id seed h).getD i [] := by
    rw [hg, knI, knI, knI, lg3, lg4]
    rw [show h - i.log2 = (h - (i.log2 + 1)) + 1 by omega, kn]
   rw [hv, aza _ _ (by omega)]
   exact hnx
 ·simp only [P.alk]
  rw [Nat.sub_self, bg (by omega), show N - (N - 1) = 1 by omega]
  rfl
theorem bed (w p : Nat) (id seed : List Int) (h i : Nat) (h0 : i ≠ 0) (hi : i < 2 * 2 ^ h) : ([] :: (bkq w p id seed h).drop 1).getD i [] = knI w p id seed h i := by
 have := bbr (bkq w p id seed h) 1 i (by omega)
 rw [aum _ _ _ _ _ _ hi] at this
 exact this
theorem bc7 (w p : Nat) (id seed : List Int) (h : Nat) : ([] :: (bkq w p id seed h).drop 1).length = 2 * 2 ^ h := by
 have := Nat.two_pow_pos h
 rw [List.length_cons, List.length_drop, bbj]; omega
theorem bci {w p s : Nat} (hk : Kind w p s) (h : Nat) (id seed : List Int) (hid : In 256 id) (h16 : id.length = 16) (hsd : In 256 seed) (h32 : seed.length = 32) (h10 : h ≤ 10) {ρ : Type} (hw : ∀ (k : Int → Option ρ), P.afd (h : Int) (w : Int) id seed k = k 0) (k : List Int → Int → Option ρ) :
    P.amt (h : Int) (w : Int) id seed k = k (bqx w p id seed h) 0 := by
 have hp0 := Nat.two_pow_pos h
 rw [P.bbv]; unfold P.ahm
 rw [hw, au rfl, als hk (by omega), as5 hk h id seed hid h16 hsd h32 h10, ah (by rw [bc7]; omega), bed _ _ _ _ _ _ (by omega) (by omega), show knI w p id seed h 1 = kn w p id seed h h 1 by unfold knI; rw [show Nat.log2 1 = 0 by decide, Nat.sub_zero],
  yg _ (by simp) (by simp [kr, aj3, h16])]
 simp only [List.flatten_cons, List.flatten_nil, List.append_nil]
 rfl
theorem bgl {w p s : Nat} (hk : Kind w p s) (h : Nat) (id seed : List Int) (hid : In 256 id) (h16 : id.length = 16) (hsd : In 256 seed) (h32 : seed.length = 32) (h10 : h ≤ 10) {ρ : Type} (hw : ∀ (k : Int → Option ρ), P.afd (h : Int) (w : Int) id seed k = k 0) (q : Nat) (hq : q < 2 ^ h) (text : List Int) (ht : In 256 text) (htl : text.length ≤ 300) (k : List Int → Int → Option ρ) :
    P.aup (h : Int) (w : Int) id seed (q : Int) text k = k (at0 w p s id seed h q text) 0 := by
 have hp := ajq h10
 have hpp := (pw hk).2.2.1
 have hc := amc h
 have hup : 2 ^ h + q < 2 ^ (h + 1) := by rw [Nat.pow_succ]; omega
 rw [P.bgp]; unfold P.al7
 rw [hw, au rfl, bg (by omega), aag q (by omega), axq (by omega), bg (by omega), bgt hk id q seed text hid (by omega) hsd h16 h32 ht htl, show (4 : Int) = ((4 : Nat) : Int) from rfl, oz q 4 (by omega) (by omega), aan h (by omega), oz _ 4 (by omega) (by omega), as5 hk h id seed hid h16 hsd h32 h10, bg (by omega), bn8 (by omega), nu (x := (q : Int)) (by omega) (by omega), nu (x := ((2 ^ h : Nat) : Int) + (q : Int)) (by omega) (by omega), P.axp]
 unfold P.asv P.byt P.bxh P.b4n
 refine qo (fun i => ((((2 ^ h + q) / 2 ^ i : Nat) : Int), [(bsw 8 4 q).reverse, aru w p s id q seed text, (bsw 8 4 (o7 h)).reverse] ++ (List.range i).map (ayq w p id seed h (2 ^ h + q)), [] :: (bkq w p id seed h).drop 1)) h (by simp) (fun i hi next hnx => ?_) (fun next => ?_) (by omega)
 ·simp only [P.al5]
  have hwy := biw (n := 2 ^ h + q) (by omega) hup hi
  have hlt : (2 ^ h + q) / 2 ^ i ≤ 2 ^ h + q := Nat.div_le_self _ _
  obtain ⟨r1, r2⟩ := bnk (n := 2 ^ h + q) (by omega) hup (show i ≤ h by omega)
  obtain ⟨m, hm⟩ : ∃ m, h - i = m + 1 := ⟨h - i - 1, by omega⟩
  rw [hm] at r1 r2
  obtain ⟨x1, x2⟩ := bmm r1 r2
  have hxl : ((2 ^ h + q) / 2 ^ i) ^^^ 1 < 2 * 2 ^ h := by
   have : 2 ^ (m + 1 + 1) ≤ 2 ^ (h + 1) := Nat.pow_le_pow_right (by omega) (by omega)
   rw [Nat.pow_succ 2 h] at this
   omega
  have hx0 : ((2 ^ h + q) / 2 ^ i) ^^^ 1 ≠ 0 := by
   have := Nat.two_pow_pos (m + 1)
   omega
  have hnxt : (2 ^ h + q) / 2 ^ (i + 1) = (2 ^ h + q) / 2 ^ i / 2 := by rw [Nat.pow_succ, Nat.div_div_eq_div_mul]
  have hkl := bc7 w p id seed h
  have hv : knI w p id seed h (((2 ^ h + q) / 2 ^ i) ^^^ 1) = ayq w p id seed h (2 ^ h + q) i := by
   unfold knI ayq
   rw [bag x1 x2, show h - (m + 1) = i by omega]
  have hlen : ([(bsw 8 4 q).reverse, aru w p s id q seed text, (bsw 8 4 (o7 h)).reverse] ++ (List.range i).map (ayq w p id seed h (2 ^ h + q))).length = 3 + i := by simp; omega
  have hhalf : IntKind.i64.wrap ((((2 ^ h + q) / 2 ^ i : Nat) : Int).tdiv 2) = (((2 ^ h + q) / 2 ^ i / 2 : Nat) : Int) := by
   rw [Int.tdiv_eq_ediv_of_nonneg (by omega), nu (by omega) (by omega)]
   omega
  rw [ah (by omega), show (1 : Int) = ((1 : Nat) : Int) from rfl, brt _ _ (by omega) (by omega), ah (by omega), ah (by omega), ah (by omega), toNat_cast, bed _ _ _ _ _ _ hx0 hxl, hv, hhalf, ← hnxt, List.append_assoc, amz]
  exact hnx
 ·simp only [P.al5]
  have hel := acj (ayq w p id seed h (2 ^ h + q)) (fun i => aj3 _ _ _ _ _ _ _) h
  have hfl : ([(bsw 8 4 q).reverse, aru w p s id q seed text, (bsw 8 4 (o7 h)).reverse] ++ (List.range h).map (ayq w p id seed h (2 ^ h + q))).flatten = at0 w p s id seed h q text := by
   unfold at0 aas beN
   simp
  rw [axa (by omega) hup, bg (by omega), yg _ (by simp; omega) (by rw [hfl, auw]; omega), hfl]
end Q
end

section
/- hss: what verifies. -/
namespace Q
open Go Go.Abs
set_option linter.unusedVariables false
set_option linter.unusedSimpArgs false
noncomputable def cutV (b : List Int) : List Int × Int × Int × List Int × Int := (bkn b (fun a b c d e => some (a, b, c, d, e))).getD ([], 0, 0, [], 0)
theorem ayt (b : List Int) : (∃ e : Int, e ≠ 0 ∧ cutV b = ([], 0, 0, [], e) ∧ ∀ {ρ : Type} (k : List Int → Int → Int → List Int → Int → Option ρ), bkn b k = k [] 0 0 [] e) ∨
    (∃ n : Nat, ∃ x y : Int, n ≤ 9400 ∧ n ≤ b.length ∧ cutV b = (b.take n, x, y, b.drop n, 0) ∧ ∀ {ρ : Type} (k : List Int → Int → Int → List Int → Int → Option ρ), bkn b k = k (b.take n) x y (b.drop n) 0) := by
 rcases bdg b with ⟨e, he, h⟩ | ⟨w, h, h1, h2, h3, h4, h5, h6, hk⟩
 ·exact .inl ⟨e, he, by unfold cutV; rw [h]; rfl, h⟩
 ·have hp : pOf w ≤ 265 := by rw [h1]; exact (auz (by rw [← h1]; exact h2)).2.2.2
  exact .inr ⟨_, _, _, by omega, h6, by unfold cutV; rw [hk]; rfl, hk⟩
theorem bsh (b : List Int) {ρ : Type} (k : List Int → Int → Int → List Int → Int → Option ρ) : bkn b k = k (cutV b).1 (cutV b).2.1 (cutV b).2.2.1 (cutV b).2.2.2.1 (cutV b).2.2.2.2 := by
 rcases ayt b with ⟨e, _, h, hk⟩ | ⟨n, x, y, _, _, h, hk⟩ <;> rw [h, hk]
theorem bsa (b : List Int) (hb : In 256 b) : In 256 (cutV b).1 ∧ In 256 (cutV b).2.2.2.1 ∧ (cutV b).1.length ≤ 9400 ∧ (cutV b).2.2.2.1.length ≤ b.length := by
 rcases ayt b with ⟨e, _, h, hk⟩ | ⟨n, x, y, h1, h2, h, hk⟩ <;> rw [h]
 ·exact ⟨In.nil, In.nil, by simp, by simp⟩
 ·exact ⟨hb.take _, hb.drop _, by rw [List.length_take]; omega, by rw [List.length_drop]; omega⟩
noncomputable def bir (key text sig : List Int) : Int := (P.oq key text sig (fun v => some v)).getD 0
theorem bn0 (key text sig : List Int) (h0 : In 256 key) (h1 : In 256 text) (h2 : In 256 sig) (n0 : key.length ≤ 300) (n1 : text.length ≤ 300) (n2 : sig.length ≤ 9400) :
    (∀ {ρ : Type} (k : Int → Option ρ), P.oq key text sig k = k (bir key text sig)) ∧ (∀ {ρ : Type} (k : Int → Option ρ), P.ail key text sig k = k (bir key text sig)) := by
 obtain ⟨e, e1, e2⟩ := bf2 key text sig h0 h1 h2 n0 n1 (by omega)
 have : bir key text sig = e := by unfold bir; rw [e1]; rfl
 rw [this]
 exact ⟨e1, e2⟩
noncomputable def hv (text : List Int) : Nat → List Int → List Int → Int
 | 0, _, _ => 0
 | n + 1, key, rest =>
  if (cutV rest).2.2.2.2 ≠ 0 then (cutV rest).2.2.2.2 else
  if n = 0 then (if (cutV rest).2.2.2.1.length > 0 then 1 else bir key text (cutV rest).1) else
  if (cutV rest).2.2.2.1.length < 56 then 1 else
  if bir key ((cutV rest).2.2.2.1.take 56) (cutV rest).1 ≠ 0 then bir key ((cutV rest).2.2.2.1.take 56) (cutV rest).1 else
  hv text n ((cutV rest).2.2.2.1.take 56) ((cutV rest).2.2.2.1.drop 56)
theorem bb9 (text : List Int) (n : Nat) (key rest : List Int) : hv text (n + 1) key rest =
    if (cutV rest).2.2.2.2 ≠ 0 then (cutV rest).2.2.2.2 else
    if n = 0 then (if (cutV rest).2.2.2.1.length > 0 then 1 else bir key text (cutV rest).1) else
    if (cutV rest).2.2.2.1.length < 56 then 1 else
    if bir key ((cutV rest).2.2.2.1.take 56) (cutV rest).1 ≠ 0 then bir key ((cutV rest).2.2.2.1.take 56) (cutV rest).1 else
    hv text n ((cutV rest).2.2.2.1.take 56) ((cutV rest).2.2.2.1.drop 56) := by rw [hv]
theorem bp4 (text : List Int) (ht : In 256 text) (htl : text.length ≤ 300) (n : Nat) (hn : n ≤ 8) (key rest : List Int) (hk : In 256 key) (hkl : key.length ≤ 300) (hr : In 256 rest) (hrl : rest.length ≤ 100000) {ρ : Type} (k : Int → Option ρ) :
    P.ajr text (n : Int) key rest (fun _ _ _ _ => k 0) (fun q => k q) = k (hv text n key rest) := by
 rw [P.aua]; unfold P.aqd P.bzu P.bwk P.b5t
 refine bue (P := fun x => ∃ (m : Nat) (key' rest' : List Int), x = (text, (m : Int), key', rest') ∧ m ≤ 8 ∧ In 256 key' ∧ key'.length ≤ 300 ∧ In 256 rest' ∧ rest'.length ≤ 100000 ∧ hv text m key' rest' = hv text n key rest) (μ := fun x => x.2.1.toNat) ?_ ⟨n, key, rest, rfl, hn, hk, hkl, hr, hrl, rfl⟩ (by simp only; omega)
 rintro _ ⟨m, key', rest', rfl, h1, h2, h3, h4, h5, h6⟩ next hnx
 simp only [P.apy]
 rw [← h6]
 cases m with
 | zero =>
  rw [bg (by omega)]
  rfl
 | succ m =>
  obtain ⟨c1, c2, c3, c4⟩ := bsa rest' h4
  rw [ah (by omega), P.axi]; unfold P.akt
  rw [zi rest' h4 (by omega), bsh]
  rw [bb9] at h6 ⊢
  by_cases e0 : (cutV rest').2.2.2.2 = 0
  ·rw [e0] at h6 ⊢
   rw [au rfl, if_neg (by decide)]
   rw [if_neg (by decide)] at h6
   by_cases hm : m = 0
   ·subst hm
    rw [if_pos rfl] at h6 ⊢
    rw [show (((0 + 1 : Nat) : Int) == 1) = true by decide, o9]
    by_cases hl : (cutV rest').2.2.2.1.length > 0
    ·rw [ah (by omega), if_pos hl]
     dsimp only
     rw [d9 (by decide)]
     rfl
    ·rw [if_neg hl] at h6 ⊢
     rw [bg (by omega), (bn0 _ _ _ h2 ht c1 h3 htl c3).1]
     dsimp only
     by_cases hv0 : bir key' text (cutV rest').1 = 0
     ·rw [hv0] at h6 ⊢
      rw [au rfl]
      have := hnx (text, ((0 : Nat) : Int), [], []) ⟨0, [], [], rfl, by omega, In.nil, by simp, In.nil, by simp, h6⟩ (by simp only; omega)
      rw [h6]
      exact this
     ·rw [d9 hv0]
      rfl
   ·rw [if_neg hm] at h6 ⊢
    rw [show (((m + 1 : Nat) : Int) == 1) = false by rw [beq_eq_false_iff_ne]; omega, vo]
    by_cases hl : (cutV rest').2.2.2.1.length < 56
    ·rw [ah (by omega), if_pos hl]
     dsimp only
     rw [d9 (by decide)]
     rfl
    ·rw [if_neg hl] at h6 ⊢
     have e56 : ((56 : Int) - (0 : Int)).toNat = 56 := rfl
     have e57 : (((cutV rest').2.2.2.1.length : Int) - (56 : Int)).toNat = (cutV rest').2.2.2.1.length - 56 := by omega
     have e58 : List.take ((cutV rest').2.2.2.1.length - 56) (List.drop 56 (cutV rest').2.2.2.1) = List.drop 56 (cutV rest').2.2.2.1 := List.take_of_length_le (by rw [List.length_drop]; omega)
     have htk : ((cutV rest').2.2.2.1.take 56).length ≤ 300 := by rw [List.length_take]; omega
     rw [bg (by omega), ah (by omega), ah (by omega), ah (by omega), e56, e57, e58, List.drop_zero, (bn0 _ _ _ h2 (c2.take _) c1 h3 htk c3).1]
     dsimp only
     by_cases hv0 : bir key' ((cutV rest').2.2.2.1.take 56) (cutV rest').1 = 0
     ·rw [if_neg (by rw [hv0]; decide)] at h6 ⊢
      rw [au hv0, show ((m + 1 : Nat) : Int) - 1 = (m : Int) by omega, aag _ (by omega), h6]
      exact hnx _ ⟨m, _, _, rfl, by omega, c2.take _, htk, c2.drop _, by rw [List.length_drop]; omega, h6⟩ (by simp only; omega)
     ·rw [d9 hv0, if_pos hv0]
      rfl
  ·rw [d9 e0, if_pos e0]
   dsimp only
   rw [d9 e0]
   rfl
end Q
end

section
/- hss: keys and signatures of trees in trees. -/
namespace Q
open Go Go.Abs
set_option linter.unusedVariables false
set_option linter.unusedSimpArgs false
def hN (H : List Int) (i : Nat) : Nat := (H.getD i 0).toNat
def wN (W : List Int) (i : Nat) : Nat := (W.getD i 0).toNat
def qN (H : List Int) (N i : Nat) : Nat := ((ax2 H N).getD i 0).toNat
structure Lev (H W : List Int) (i : Nat) : Prop where
 h : H.getD i 0 = (hN H i : Int)
 w : W.getD i 0 = (wN W i : Int)
 k : Kind (wN W i) (pOf (wN W i)) (sOf (wN W i))
 c : o7 (hN H i) ≠ 0
 l : hN H i ≤ 10
 f : be8 (hN H i : Int) (wN W i : Int)
 p : pOf (wN W i) ≤ 265
theorem axt {n : Nat} {H W id seed : List Int} (f : FitK n H W id seed) (i : Nat) (hi : i < n) : Lev H W i := by
 obtain ⟨g, hl⟩ := f.t i hi
 have hle := awd g
 have hw := g.2
 have e1 : H.getD i 0 = (hN H i : Int) := by unfold hN; omega
 have e2 : W.getD i 0 = (wN W i : Int) := by unfold wN; omega
 have g' := g
 rw [e1, e2] at g
 rw [e2] at hw
 have hk : Kind (wN W i) (pOf (wN W i)) (sOf (wN W i)) := by
  have : wN W i = 1 ∨ wN W i = 2 ∨ wN W i = 4 ∨ wN W i = 8 := by omega
  rcases this with e | e | e | e <;> rw [e] <;> simp [Kind, pOf, sOf]
 refine ⟨e1, e2, hk, ?_, by omega, g, (pw hk).2.2.1⟩
 have := g.1
 rwa [toNat_cast] at this
theorem btl {n : Nat} {H W id seed : List Int} (hH : H.length = n) (f : FitK n H W id seed) (N i : Nat) (hi : i < n) : (ax2 H N).getD i 0 = (qN H N i : Int) ∧ qN H N i < 2 ^ hN H i := by
 have h := bjw H N i (by omega)
 have hp := Nat.mod_lt (N / 2 ^ sm (hts (H.drop (i + 1)))) (Nat.two_pow_pos (H.getD i 0).toNat)
 unfold qN hN
 rw [h, toNat_cast]
 exact ⟨rfl, hp⟩
def dn (H id seed : List Int) (N : Nat) : Nat → List Int × List Int
 | 0 => (id, seed)
 | i + 1 => ((og (dn H id seed N i).1 (qN H N i) 65535 (dn H id seed N i).2).take 16, og (dn H id seed N i).1 (qN H N i) 65534 (dn H id seed N i).2)
theorem bgw (H id seed : List Int) (N : Nat) (hid : In 256 id) (h16 : id.length = 16) (hsd : In 256 seed) (h32 : seed.length = 32) (i : Nat) : In 256 (dn H id seed N i).1 ∧ (dn H id seed N i).1.length = 16 ∧ In 256 (dn H id seed N i).2 ∧ (dn H id seed N i).2.length = 32 := by
 cases i with
 | zero => exact ⟨hid, h16, hsd, h32⟩
 | succ i => exact ⟨(ac4 _ _ _ _).take _, by rw [dn, List.length_take, ai7]; rfl, ac4 _ _ _ _, ai7 _ _ _ _⟩
def adf (H W id seed : List Int) (N i : Nat) : List Int := bqx (wN W i) (pOf (wN W i)) (dn H id seed N i).1 (dn H id seed N i).2 (hN H i)
def akd (H W id seed : List Int) (N i : Nat) (text : List Int) : List Int := at0 (wN W i) (pOf (wN W i)) (sOf (wN W i)) (dn H id seed N i).1 (dn H id seed N i).2 (hN H i) (qN H N i) text
def ay9 (H W id seed : List Int) (N j : Nat) : List Int := akd H W id seed N j (adf H W id seed N (j + 1)) ++ adf H W id seed N (j + 1)
def bjb (n : Nat) (H W id seed : List Int) (N i : Nat) : List Int := beN (n - 1) 4 ++ aas (ay9 H W id seed N) i
section
variable {n : Nat} {H W id seed : List Int}
theorem akj (hid : In 256 id) (hsd : In 256 seed) (f : FitK n H W id seed) (N i : Nat) : (adf H W id seed N i).length = 56 := bp5 _ _ _ _ _ (bgw H id seed N hid f.i hsd f.d i).2.1
theorem auo (hid : In 256 id) (hsd : In 256 seed) (f : FitK n H W id seed) (N i : Nat) : In 256 (adf H W id seed N i) := bts _ _ _ _ _ (bgw H id seed N hid f.i hsd f.d i).1
theorem akk (f : FitK n H W id seed) (N i : Nat) (hi : i < n) (text : List Int) : (akd H W id seed N i text).length = 4 + (36 + 32 * pOf (wN W i)) + 4 + 32 * hN H i ∧ (akd H W id seed N i text).length ≤ 9000 := by
 have L := axt f i hi
 have := L.p
 have := L.l
 unfold akd
 rw [auw]
 omega
theorem bjz (N i : Nat) (text : List Int) : In 256 (akd H W id seed N i text) := bgx _ _ _ _ _ _ _ _
theorem bjl (hid : In 256 id) (hsd : In 256 seed) (f : FitK n H W id seed) (N : Nat) : ∀ i, i < n → (aas (ay9 H W id seed N) i).length ≤ 9100 * i
 | 0, _ => by simp [aas]
 | i + 1, hi => by
  have h1 := bjl hid hsd f N i (by omega)
  have h2 := (akk f N i (by omega) (adf H W id seed N (i + 1))).2
  have h3 := akj hid hsd f N (i + 1)
  rw [vw, List.length_append]
  have : (ay9 H W id seed N i).length ≤ 9100 := by unfold ay9; rw [List.length_append]; omega
  omega
theorem bbt (hid : In 256 id) (hsd : In 256 seed) (f : FitK n H W id seed) (N i : Nat) (hi : i < n) : (bjb n H W id seed N i).length ≤ 80000 := by
 have h1 := bjl hid hsd f N i hi
 have := f.n8
 unfold bjb
 rw [List.length_append, kr]
 omega
theorem bsu (hid : In 256 id) (hsd : In 256 seed) (f : FitK n H W id seed) (N i : Nat) : In 256 (bjb n H W id seed N i) :=
 (zf _ _).app (amq _ (fun j => (bjz _ _ _).app (auo hid hsd f _ _)) _)
theorem brj (hid : In 256 id) (hsd : In 256 seed) (f : FitK n H W id seed) (N i : Nat) (hi : i < n) {ρ : Type} : (∀ (k : List Int → Int → Option ρ), P.aaw (H.getD i 0) (W.getD i 0) (dn H id seed N i).1 (dn H id seed N i).2 k = k (adf H W id seed N i) 0) ∧ ∀ (k : List Int → Int → Option ρ), P.amt (H.getD i 0) (W.getD i 0) (dn H id seed N i).1 (dn H id seed N i).2 k = k (adf H W id seed N i) 0 := by
 have L := axt f i hi
 obtain ⟨d1, d2, d3, d4⟩ := bgw H id seed N hid f.i hsd f.d i
 have hl := L.l
 rw [L.h, L.w]
 obtain ⟨e, he, w1, w2⟩ := axu (hN H i : Int) (wN W i : Int) (dn H id seed N i).1 (dn H id seed N i).2
 have e0 : e = 0 := he.2 ⟨L.f, d2, d4, by omega⟩
 subst e0
 exact ⟨fun k => ba9 L.k _ L.c _ _ d1 d2 d3 d4 hl L.f k, fun k => bci L.k _ _ _ d1 d2 d3 d4 hl (fun k => w2 k) k⟩
theorem bmd (hH : H.length = n) (hid : In 256 id) (hsd : In 256 seed) (f : FitK n H W id seed) (N i : Nat) (hi : i < n) (text : List Int) (ht : In 256 text) (htl : text.length ≤ 300) {ρ : Type} : (∀ (k : List Int → Int → Option ρ), P.ael (H.getD i 0) (W.getD i 0) (dn H id seed N i).1 (dn H id seed N i).2 ((ax2 H N).getD i 0) text k = k (akd H W id seed N i text) 0) ∧
    ∀ (k : List Int → Int → Option ρ), P.aup (H.getD i 0) (W.getD i 0) (dn H id seed N i).1 (dn H id seed N i).2 ((ax2 H N).getD i 0) text k = k (akd H W id seed N i text) 0 := by
 have L := axt f i hi
 obtain ⟨d1, d2, d3, d4⟩ := bgw H id seed N hid f.i hsd f.d i
 obtain ⟨q1, q2⟩ := btl hH f N i hi
 have hl := L.l
 rw [L.h, L.w, q1]
 obtain ⟨e, he, w1, w2⟩ := axu (hN H i : Int) (wN W i : Int) (dn H id seed N i).1 (dn H id seed N i).2
 have e0 : e = 0 := he.2 ⟨L.f, d2, d4, by omega⟩
 subst e0
 exact ⟨fun k => bhh L.k _ L.c _ _ d1 d2 d3 d4 hl L.f _ q2 text ht htl k, fun k => bgl L.k _ _ _ d1 d2 d3 d4 hl (fun k => w2 k) _ q2 text ht htl k⟩
theorem au0 (hH : H.length = n) (hid : In 256 id) (hsd : In 256 seed) (f : FitK n H W id seed) (N i : Nat) (hi : i < n) (h w : Int) (m : Nat) (hm : m < 65536) {ρ : Type} (k : List Int → Option ρ) :
    P.jc h w (dn H id seed N i).1 (dn H id seed N i).2 ((ax2 H N).getD i 0) (m : Int) k = k (og (dn H id seed N i).1 (qN H N i) m (dn H id seed N i).2) := by
 have L := axt f i hi
 have hp := ajq L.l
 obtain ⟨d1, d2, d3, d4⟩ := bgw H id seed N hid f.i hsd f.d i
 obtain ⟨q1, q2⟩ := btl hH f N i hi
 rw [P.agy]; unfold P.acw
 have hfl : [(dn H id seed N i).1, (bsw 8 4 (qN H N i)).reverse, (bsw 8 2 m).reverse, [255], (dn H id seed N i).2].flatten = ((dn H id seed N i).1 ++ (beN (qN H N i) 4 ++ beN m 2)) ++ [[255], (dn H id seed N i).2].flatten := by simp [beN]
 have hin : In 256 (((dn H id seed N i).1 ++ (beN (qN H N i) 4 ++ beN m 2)) ++ [[255], (dn H id seed N i).2].flatten) := (d1.app ((zf _ _).app (zf _ _))).app (bfi (by omega) d3)
 have hln : (((dn H id seed N i).1 ++ (beN (qN H N i) 4 ++ beN m 2)) ++ [[255], (dn H id seed N i).2].flatten).length = 55 := by simp [kr, d2, d4]
 rw [q1, aag _ (by omega), show (4 : Int) = ((4 : Nat) : Int) from rfl, gq _ 4 (by omega) (by omega), show (2 : Int) = ((2 : Nat) : Int) from rfl, gq m 2 (by omega) (by omega), eu _ (by simp) (by rw [hfl, hln]; omega), hfl, af5 (.inl rfl) _ hin (by rw [hln]; omega)]
 rfl
def bo1 (n : Nat) (H W id seed : List Int) : List Int := beN n 4 ++ adf H W id seed 0 0
theorem bax (hH : H.length = n) (hid : In 256 id) (hsd : In 256 seed) (f : FitK n H W id seed) {ρ : Type} (k : List Int → Int → Option ρ) : P.abz n H W id seed k = k (bo1 n H W id seed) 0 := by
 obtain ⟨b, hb, h1, _⟩ := arf n H W id seed hH
 have : b = true := hb.2 f
 subst this
 have n8 := f.n8
 have n1 := f.n1
 have hl := akj hid hsd f 0 0
 rw [P.aox]; unfold P.ahy
 rw [h1, ji, o9, ah (by omega), aag n (by omega), show (4 : Int) = ((4 : Nat) : Int) from rfl, gq n 4 (by omega) (by omega), P.ac3]
 unfold P.zn
 have hp := (brj hid hsd f 0 0 (by omega) (ρ := ρ)).1
 simp only [dn] at hp
 rw [hp]
 dsimp only
 rw [eu _ (by simp) (by simp [hl])]
 simp only [List.flatten_cons, List.flatten_nil, List.append_nil]
 rfl
def bkv (n : Nat) (H W id seed : List Int) (N : Nat) (text : List Int) : List Int := bjb n H W id seed N (n - 1) ++ akd H W id seed N (n - 1) text
theorem bf9 (hH : H.length = n) (hW : W.length = n) (hid : In 256 id) (hsd : In 256 seed) (f : FitK n H W id seed) (N : Nat) (hN : N < 2 ^ sm (hts H)) (text : List Int) (ht : In 256 text) (htl : text.length ≤ 300) {ρ : Type} (k : List Int → Int → Option ρ) :
    P.aft n H W id seed (N : Int) text k = k (bkv n H W id seed N text) 0 := by
 have n8 := f.n8
 have n1 := f.n1
 have hvl := bbp H N
 rw [P.av6]; unfold P.alc
 have e1 : IntKind.u64.wrap (IntKind.i64.wrap (((ax2 H N).length : Int) - 1)) = ((n - 1 : Nat) : Int) := by
  rw [nu (by omega) (by omega), show ((ax2 H N).length : Int) - 1 = ((n - 1 : Nat) : Int) by omega, aag _ (by omega)]
 rw [aqg hH f N hN, au rfl, e1, show (4 : Int) = ((4 : Nat) : Int) from rfl, gq _ 4 (by omega) (by omega), P.at6]
 unfold P.aqv P.byn P.bwi P.b03
 refine qo (fun i => (text, (dn H id seed N i).1, (dn H id seed N i).2, n, H, W, (n : Int), (i : Int), bjb n H W id seed N (i - 1), ax2 H N, (if i = 0 then 0 else 1 : Nat), (if i = 0 then (0 : Int) else H.getD (i - 1) 0), (if i = 0 then (0 : Int) else W.getD (i - 1) 0), (if i = 0 then [] else (dn H id seed N (i - 1)).1), (if i = 0 then [] else (dn H id seed N (i - 1)).2), (if i = 0 then (0 : Int) else (ax2 H N).getD (i - 1) 0), ax2 H N)) n ?_ (fun i hi next hnx => ?_) (fun next => ?_) (by omega)
 ·simp [dn, bjb, aas, beN]
 ·simp only [P.aji]
  obtain ⟨d1, d2, d3, d4⟩ := bgw H id seed N hid f.i hsd f.d i
  have epl := ai7 (dn H id seed N i).1 (qN H N i) 65535 (dn H id seed N i).2
  have e16 : ((16 : Int) - (0 : Int)).toNat = 16 := rfl
  have ei : IntKind.i64.wrap ((i : Int) + 1) = ((i + 1 : Nat) : Int) := by rw [nu (by omega) (by omega)]; omega
  have hnx' : next (text, (og (dn H id seed N i).1 (qN H N i) 65535 (dn H id seed N i).2).take 16, og (dn H id seed N i).1 (qN H N i) 65534 (dn H id seed N i).2, n, H, W, (n : Int), ((i + 1 : Nat) : Int), bjb n H W id seed N i, ax2 H N, 1, H.getD i 0, W.getD i 0, (dn H id seed N i).1, (dn H id seed N i).2, (ax2 H N).getD i 0, ax2 H N) = k (bkv n H W id seed N text) 0 := hnx
  rw [ah (by omega), ah (by omega), ah (by omega), ah (by omega), ah (by omega), toNat_cast]
  cases i with
  | zero =>
   rw [if_pos rfl, show (!decide ((0 : Nat) = 0)) = false by rfl, vo, show (65535 : Int) = ((65535 : Nat) : Int) from rfl, au0 hH hid hsd f N 0 hi _ _ 65535 (by omega), ah (by omega), show (65534 : Int) = ((65534 : Nat) : Int) from rfl, au0 hH hid hsd f N 0 hi _ _ 65534 (by omega), e16, List.drop_zero, ei]
   exact hnx'
  | succ j =>
   have hkl := akj hid hsd f N (j + 1)
   have hol := bbt hid hsd f N j (by omega)
   have hsl := (akk f N j (by omega) (adf H W id seed N (j + 1))).2
   simp only [if_neg (Nat.succ_ne_zero j), Nat.add_sub_cancel]
   rw [show (!decide ((1 : Nat) = 0)) = true by rfl, o9, P.ac3]
   unfold P.zn
   rw [(brj hid hsd f N (j + 1) hi).1]
   dsimp only
   rw [ah (by trivial), ah (by trivial), P.aea]
   unfold P.aa7
   rw [(bmd hH hid hsd f N j (by omega) _ (auo hid hsd f N (j + 1)) (by omega)).1]
   dsimp only
   rw [ah (by omega), ah (by rw [List.length_append]; omega), show (65535 : Int) = ((65535 : Nat) : Int) from rfl, au0 hH hid hsd f N (j + 1) hi _ _ 65535 (by omega), ah (by omega), show (65534 : Int) = ((65534 : Nat) : Int) from rfl, au0 hH hid hsd f N (j + 1) hi _ _ 65534 (by omega), e16, List.drop_zero, ei]
   have ho : bjb n H W id seed N j ++ akd H W id seed N j (adf H W id seed N (j + 1)) ++ adf H W id seed N (j + 1) = bjb n H W id seed N (j + 1) := by
    unfold bjb
    rw [vw]
    unfold ay9
    simp only [List.append_assoc]
   rw [ho]
   exact hnx'
 ·simp only [P.aji]
  have hol := bbt hid hsd f N (n - 1) (by omega)
  have hsl := (akk f N (n - 1) (by omega) text).2
  rw [bg (by omega)]
  simp only [if_neg (show ¬ n = 0 by omega)]
  rw [ah (by trivial), ah (by trivial), P.aea]
  unfold P.aa7
  rw [(bmd hH hid hsd f N (n - 1) (by omega) text ht htl).1]
  dsimp only
  rw [ah (by omega)]
  rfl
end
end Q
end

section
namespace Q
open Go Go.Abs
set_option linter.unusedVariables false
set_option linter.unusedSimpArgs false
theorem bmy {w p s : Nat} (hk : Kind w p s) (h : Nat) (hh : o7 h ≠ 0) (h10 : h ≤ 10) (id seed text : List Int) (hid : In 256 id) (h16 : id.length = 16) (ht : In 256 text) (htl : text.length ≤ 300) (q : Nat) (hq : q < 2 ^ h) {ρ : Type} (k : Int → Option ρ) :
    P.oq (bqx w p id seed h) text (at0 w p s id seed h q text) k = k 0 ∧ (∀ more : List Int, In 256 more → 0 < more.length → more.length ≤ 400 → P.oq (bqx w p id seed h) text (at0 w p s id seed h q text ++ more) k = k 1) := by
 have hp := (pw hk).2.2.1
 have hl := auw w p s id seed h q text
 have hp10 := ajq h10
 have hpt : ∀ i, (ayq w p id seed h (2 ^ h + q) i).length = 32 := fun i => aj3 _ _ _ _ _ _ _
 constructor
 ·obtain ⟨p1, p2, p3, p4, p5⟩ := arh hk id seed h q text [] hh
  rw [List.append_nil] at p1 p2 p3 p4
  have hn : nm (at0 w p s id seed h q text) 0 4 = q := avm q (by omega) _ 0 p4
  have hv := (aws hk h hh (by omega) id (kn w p id seed h h 1) text (at0 w p s id seed h q text) hid h16 (bhc _ _ _ _ _ _ _) (aj3 _ _ _ _ _ _ _) ht htl (bgx _ _ _ _ _ _ _ _) (by omega) p1 p2 (by omega) k).2.2
  rw [hn] at hv
  refine hv (by omega) hq ?_
  rw [p3, p5, bql hk, bq1 w p id seed h q hq _ (fun i hi => ang _ hpt h i hi) h (Nat.le_refl h)]
  rw [axa (by omega) (by rw [Nat.pow_succ]; omega)]
 ·intro more hm hm0 hml
  obtain ⟨p1, p2, p3, p4, p5⟩ := arh hk id seed h q text more hh
  exact (aws hk h hh (by omega) id (kn w p id seed h h 1) text (at0 w p s id seed h q text ++ more) hid h16 (bhc _ _ _ _ _ _ _) (aj3 _ _ _ _ _ _ _) ht htl ((bgx _ _ _ _ _ _ _ _).app hm) (by rw [List.length_append]; omega) p1 p2 (by rw [List.length_append]; omega) k).1 (by rw [List.length_append]; omega)
theorem bmk (x : Int) (h : wfI .u8 x) : ∃ a : Nat, IntKind.i64.wrap ((1 : Int) + IntKind.i64.wrap (x.tmod (2 : Int))) = (a : Int) ∧ (a = 1 ∨ a = 2) := by
 have := wf_u8 h
 obtain ⟨n, rfl⟩ : ∃ n : Nat, x = (n : Int) := ⟨x.toNat, by omega⟩
 refine ⟨1 + n % 2, ?_, by omega⟩
 rw [show (2 : Int) = ((2 : Nat) : Int) from rfl, tmN, nu (x := ((n % 2 : Nat) : Int)) (by omega) (by omega), nu (by omega) (by omega)]
 omega
end Q
end
