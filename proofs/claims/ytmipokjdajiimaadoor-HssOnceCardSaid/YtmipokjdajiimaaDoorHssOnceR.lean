/-
  HssOnce, part 18: an interpreter of my own over abstract values, the pure functions, the walks and the plain law.
-/

import Derived.Test.YtmipokjdajiimaaDoorHssOnceQ
import Derived.Test.YtmipokjdajiimaaDoorHssOnceK
import Derived.Test.YtmipokjdajiimaaDoorHssOnceI

section
/- lms: signatures, and what verifies them. -/
namespace Q
open Go Go.Abs
set_option linter.unusedVariables false
set_option linter.unusedSimpArgs false
def nm (b : List Int) (i j : Nat) : Nat := T 8 ((b.take j).drop i).reverse
theorem bep (b : List Int) (i j : Nat) (h : j - i ≤ 4) : nm b i j < 4294967296 := by
 unfold nm
 have h1 := bkl 8 ((b.take j).drop i).reverse
 have h2 : 8 * ((b.take j).drop i).reverse.length ≤ 32 := by simp only [List.length_reverse, List.length_drop, List.length_take]; omega
 have h3 : 2 ^ (8 * ((b.take j).drop i).reverse.length) ≤ 2 ^ 32 := Nat.pow_le_pow_right (by omega) h2
 omega
theorem bdl (b : List Int) (hb : In 256 b) (i j : Nat) (hj : j - i ≤ 4) {ρ : Type} (k : Int → Option ρ) : P.iw (((b.take j).drop i)) k = k ((nm b i j : Nat) : Int) := by
 have := bep b i j hj
 rw [iw _ ((hb.take j).drop i) (by simp only [List.length_drop, List.length_take]; omega)]
 unfold nm at this ⊢
 rw [Nat.mod_eq_of_lt (by omega)]
def pOf (w : Nat) : Nat := if w = 1 then 265 else if w = 2 then 133 else if w = 4 then 67 else 34
def sOf (w : Nat) : Nat := if w = 1 then 7 else if w = 2 then 6 else if w = 4 then 4 else 0
theorem bch {c : Nat} (h : wOf c ≠ 0) : Kind (wOf c) (pOf (wOf c)) (sOf (wOf c)) ∧ aod (wOf c) = c ∧ wOf c ≤ 8 ∧ pOf (wOf c) ≤ 265 := by
 have hc : c = 1 ∨ c = 2 ∨ c = 3 ∨ c = 4 := by
  revert h
  unfold wOf
  split
  ·omega
  ·split
   ·omega
   ·split
    ·omega
    ·split <;> omega
 rcases hc with rfl | rfl | rfl | rfl <;> simp [wOf, pOf, sOf, Kind, aod]
theorem am9 {w p s : Nat} (h : Kind w p s) {ρ : Type} (k : Int → Option ρ) : P.mh (w : Int) k = k ((aod w : Nat) : Int) := by
 rw [P.ado]; unfold P.aat
 rcases h with ⟨rfl, _, _⟩ | ⟨rfl, _, _⟩ | ⟨rfl, _, _⟩ | ⟨rfl, _, _⟩ <;> simp [aod]
theorem axz (h : Nat) (h1 : ¬ (1 ≤ h ∧ h ≤ 4)) (h2 : h ≠ 5) (h3 : h ≠ 10) (h4 : h ≠ 15) (h5 : h ≠ 20) (h6 : h ≠ 25) : ae7 h = 0 := by
 unfold ae7
 rw [if_neg h1, if_neg (by omega)]
theorem uq (h : Nat) (hh : h ≤ 1000) {ρ : Type} (k : Int → Option ρ) : P.uq (h : Int) k = k ((ae7 h : Nat) : Int) := by
 rw [P.aht]; unfold P.ady
 by_cases a1 : h = 1
 ·subst a1; rw [dw (by decide), dw (by decide)]; rfl
 by_cases a2 : h = 2
 ·subst a2; rw [bq (by decide), dw (by decide), dw (by decide)]; rfl
 by_cases a3 : h = 3
 ·subst a3; rw [bq (by decide), bq (by decide), dw (by decide), dw (by decide)]; rfl
 by_cases a4 : h = 4
 ·subst a4; rw [bq (by decide), bq (by decide), bq (by decide), dw (by decide)]; rfl
 rw [bq (by omega), bq (by omega), bq (by omega), bq (by omega)]
 by_cases b1 : h = 5
 ·subst b1; rw [dw (by decide), dw (by decide)]; rfl
 by_cases b2 : h = 10
 ·subst b2; rw [bq (by decide), dw (by decide), dw (by decide)]; rfl
 by_cases b3 : h = 15
 ·subst b3; rw [bq (by decide), bq (by decide), dw (by decide), dw (by decide)]; rfl
 by_cases b4 : h = 20
 ·subst b4; rw [bq (by decide), bq (by decide), bq (by decide), dw (by decide), dw (by decide)]; rfl
 by_cases b5 : h = 25
 ·subst b5; rw [bq (by decide), bq (by decide), bq (by decide), bq (by decide), dw (by decide)]; rfl
 rw [bq (by omega), bq (by omega), bq (by omega), bq (by omega), bq (by omega), axz h (by omega) b1 b2 b3 b4 b5]
 rfl
theorem avi {w p s h : Nat} (hk : Kind w p s) (hp : p ≤ 265) (hh : ae7 h ≠ 0) (h25 : h ≤ 25) {ρ : Type} (k : Int → Option ρ) : P.ac3 (h : Int) (w : Int) k = k ((4 + (36 + 32 * p) + 4 + 32 * h : Nat) : Int) := by
 rw [P.amx]; unfold P.agj
 have hcw : aod w ≠ 0 := by unfold aod; split <;> (try split) <;> (try split) <;> omega
 rw [P.akq]; unfold P.afa
 rw [uq h (by omega), jo (by omega), am9 hk, show (((aod w : Nat) : Int) != 0) = true by rw [bne_iff_ne]; omega]
 dsimp only
 rw [ru, aa6, jg hk,
  yw (x := (4 : Int) + ((36 + 32 * p : Nat) : Int)) (by omega) (by omega), yw (x := (4 : Int) + ((36 + 32 * p : Nat) : Int) + 4) (by omega) (by omega), yw (x := (32 : Int) * (h : Int)) (by omega) (by omega), yw (by omega) (by omega)]
 congr 1
def bmq {ρ : Type} (b : List Int) (k : List Int → Int → Int → List Int → Int → Option ρ) : Option ρ :=
 if b.length < 8 then k [] 0 0 [] 1 else
 if wOf (nm b 4 8) = 0 then k [] 0 0 [] 9 else
 if b.length < 4 + (36 + 32 * pOf (wOf (nm b 4 8))) + 4 then k [] 0 0 [] 1 else
 if hOf (nm b (4 + (36 + 32 * pOf (wOf (nm b 4 8)))) (4 + (36 + 32 * pOf (wOf (nm b 4 8))) + 4)) = 0 then k [] 0 0 [] 9 else
 if b.length < 4 + (36 + 32 * pOf (wOf (nm b 4 8))) + 4 + 32 * hOf (nm b (4 + (36 + 32 * pOf (wOf (nm b 4 8)))) (4 + (36 + 32 * pOf (wOf (nm b 4 8))) + 4)) then k [] 0 0 [] 1 else
 k (b.take (4 + (36 + 32 * pOf (wOf (nm b 4 8))) + 4 + 32 * hOf (nm b (4 + (36 + 32 * pOf (wOf (nm b 4 8)))) (4 + (36 + 32 * pOf (wOf (nm b 4 8))) + 4))))
  ((hOf (nm b (4 + (36 + 32 * pOf (wOf (nm b 4 8)))) (4 + (36 + 32 * pOf (wOf (nm b 4 8))) + 4)) : Nat) : Int) ((wOf (nm b 4 8) : Nat) : Int)
  (b.drop (4 + (36 + 32 * pOf (wOf (nm b 4 8))) + 4 + 32 * hOf (nm b (4 + (36 + 32 * pOf (wOf (nm b 4 8)))) (4 + (36 + 32 * pOf (wOf (nm b 4 8))) + 4)))) 0
theorem abz (b : List Int) (hb : In 256 b) (hn : b.length ≤ 1000000) {ρ : Type} (k : List Int → Int → Int → List Int → Int → Option ρ) : P.abz b k = bmq b k := by
 rw [P.apl]; unfold P.ahs bmq
 by_cases h8 : b.length < 8
 ·rw [au (by omega), if_pos h8]
 ·rw [dh (by omega), if_neg h8, au (by omega), show Int.toNat (8 : Int) = 8 from rfl, bdl b hb 4 8 (by omega), uf _ (by have := bep b 4 8 (by omega); omega)]
  generalize hc : nm b 4 8 = c
  by_cases hw : wOf c = 0
  ·rw [hw, dw (by omega), if_pos rfl]
  ·obtain ⟨hk, hcw, hw8, hp⟩ := bch hw
   rw [bq (by omega), if_neg hw, jg hk]
   generalize hpp : pOf (wOf c) = p at hk hp ⊢
   generalize hww : wOf c = w at hk hw hw8 hcw ⊢
   rw [yw (x := (4 : Int) + ((36 + 32 * p : Nat) : Int)) (by omega) (by omega), yw (x := (4 : Int) + ((36 + 32 * p : Nat) : Int) + 4) (by omega) (by omega)]
   by_cases hl : b.length < 4 + (36 + 32 * p) + 4
   ·rw [au (by omega), if_pos hl]
   ·rw [dh (by omega), if_neg hl, au (by omega), au (by omega), au (by omega), show ((4 : Int) + ((36 + 32 * p : Nat) : Int)).toNat = 4 + (36 + 32 * p) by omega, show ((4 : Int) + ((36 + 32 * p : Nat) : Int) + 4).toNat = 4 + (36 + 32 * p) + 4 by omega,
      bdl b hb _ _ (by omega), qc _ (by have := bep b (4 + (36 + 32 * p)) (4 + (36 + 32 * p) + 4) (by omega); omega)]
    generalize nm b (4 + (36 + 32 * p)) (4 + (36 + 32 * p) + 4) = ch
    by_cases hh : hOf ch = 0
    ·rw [hh, dw (by omega), if_pos rfl]
    ·obtain ⟨g1, g2, g3⟩ := bae ch hh
     have hch : ae7 (hOf ch) ≠ 0 := by
      rw [g1]
      rintro rfl
      exact hh rfl
     rw [bq (by omega), if_neg hh, avi hk hp hch g3]
     by_cases hl2 : b.length < 4 + (36 + 32 * p) + 4 + 32 * hOf ch
     ·rw [au (by omega), if_pos hl2]
     ·rw [dh (by omega), if_neg hl2, au (by omega), au (by omega), toNat_cast, List.drop_zero, jv _ (by simp) (by simp; omega), au (by omega), au (by omega), au (by omega), toNat_cast, List.take_length, jv _ (by simp) (by simp; omega)]
      simp only [List.flatten_cons, List.flatten_nil, List.append_nil]
end Q
end

section
namespace Q
open Go Go.Abs
set_option linter.unusedVariables false
set_option linter.unusedSimpArgs false
end Q
end

section
/- hss: which keys can be, how many leaves, and the leaves of a number. -/
namespace Q
open Go Go.Abs
set_option linter.unusedVariables false
set_option linter.unusedSimpArgs false
theorem ayn (h : Int) {ρ : Type} (k : Int → Option ρ) : P.uq h k = k ((ae7 h.toNat : Nat) : Int) := by
 by_cases hh : 0 ≤ h ∧ h ≤ 1000
 ·obtain ⟨n, rfl⟩ : ∃ n : Nat, h = (n : Int) := ⟨h.toNat, by omega⟩
  rw [uq n (by omega), toNat_cast]
 ·rw [P.aht]; unfold P.ady
  have h0 : ae7 h.toNat = 0 := by unfold ae7; rw [if_neg (by omega), if_neg (by omega)]
  simp (disch := omega) only [bq]
  rw [h0]; rfl
theorem bax (h : Int) {ρ : Type} (k : Int → Option ρ) : P.aav h k = k ((ae7 h.toNat : Nat) : Int) := by
 by_cases hh : 0 ≤ h ∧ h ≤ 100
 ·obtain ⟨n, rfl⟩ : ∃ n : Nat, h = (n : Int) := ⟨h.toNat, by omega⟩
  rw [aav n (by omega), toNat_cast]
 ·rw [P.ahh]; unfold P.ad1
  have h0 : ae7 h.toNat = 0 := by unfold ae7; rw [if_neg (by omega), if_neg (by omega)]
  rw [h0]
  by_cases h1 : h < 0
  ·simp (disch := omega) only [au, dh]; rfl
  ·simp (disch := omega) only [au, dh]; rfl
theorem au8 {w : Int} (h : w ≠ 1 ∧ w ≠ 2 ∧ w ≠ 4 ∧ w ≠ 8) {ρ : Type} (k : Int → Option ρ) : P.mh w k = k 0 := by
 obtain ⟨h1, h2, h3, h4⟩ := h
 rw [P.ado]; unfold P.aat
 simp (disch := omega) only [bq]
def bbd (h w : Int) : Prop := ae7 h.toNat ≠ 0 ∧ (w = 1 ∨ w = 2 ∨ w = 4 ∨ w = 8)
theorem ap3 {h w : Int} (f : bbd h w) : 1 ≤ h ∧ h ≤ 25 := by
 have h0 := f.1
 unfold ae7 at h0
 split at h0
 ·omega
 ·split at h0
  ·omega
  ·exact absurd rfl h0
theorem aqf (h w : Int) {ρ : Type} (k : Bool → Option ρ) : (bbd h w → P.aby h w k = k true) ∧ (¬ bbd h w → P.aby h w k = k false) := by
 rw [P.akq]; unfold P.afa
 rw [ayn]
 constructor
 ·intro f
  rw [jo (by have := f.1; omega)]
  rcases aq9 w with ⟨n, p, s, rfl, h2⟩ | hn
  ·rw [am9 h2, show (((aod n : Nat) : Int) != 0) = true by rw [bne_iff_ne]; have : aod n ≠ 0 := by { unfold aod; split <;> (try split) <;> (try split) <;> omega }; omega]
  ·have := f.2; omega
 ·intro f
  by_cases h0 : ae7 h.toNat = 0
  ·rw [jy (by omega)]
  ·rw [jo (by omega)]
   rcases aq9 w with ⟨n, p, s, rfl, h2⟩ | hn
   ·exact absurd ⟨h0, by rcases h2 with ⟨rfl, _⟩ | ⟨rfl, _⟩ | ⟨rfl, _⟩ | ⟨rfl, _⟩ <;> simp⟩ f
   ·rw [au8 hn]; rfl
theorem aqt (h w : Int) {ρ : Type} (k : Bool → Option ρ) : (bbd h w → P.aeu h w k = k true) ∧ (¬ bbd h w → P.aeu h w k = k false) := by
 rw [P.apx]; unfold P.ah5
 rw [bax]
 constructor
 ·intro f
  rw [jo (by have := f.1; omega)]
  rcases aq9 w with ⟨n, p, s, rfl, h2⟩ | hn
  ·rw [aaw h2, show (((36 + 32 * p : Nat) : Int) != 0) = true by rw [bne_iff_ne]; omega]
  ·have := f.2; omega
 ·intro f
  by_cases h0 : ae7 h.toNat = 0
  ·rw [jy (by omega)]
  ·rw [jo (by omega)]
   rcases aq9 w with ⟨n, p, s, rfl, h2⟩ | hn
   ·exact absurd ⟨h0, by rcases h2 with ⟨rfl, _⟩ | ⟨rfl, _⟩ | ⟨rfl, _⟩ | ⟨rfl, _⟩ <;> simp⟩ f
   ·rw [au7 hn]; rfl
def hts (H : List Int) : List Nat := H.map Int.toNat
theorem azi (H : List Int) (j : Nat) : (hts H).getD j 0 = (H.getD j 0).toNat := by
 unfold hts
 rw [List.getD_eq_getElem?_getD, List.getD_eq_getElem?_getD, List.getElem?_map]
 cases H[j]? <;> rfl
theorem afl (H : List Int) (i : Nat) (hi : i < H.length) : sm (hts (H.take (i + 1))) = sm (hts (H.take i)) + (H.getD i 0).toNat := by
 have : H.take (i + 1) = H.take i ++ [H.getD i 0] := (ae1 H 0 i hi).symm
 rw [this]
 unfold hts
 rw [List.map_append, ba0]
 simp [sm]
def OkT (H W : List Int) (j : Nat) : Prop := bbd (H.getD j 0) (W.getD j 0) ∧ H.getD j 0 ≤ 10
structure FitK (n : Nat) (H W id seed : List Int) : Prop where
 n1 : 1 ≤ n
 n8 : n ≤ 8
 t : ∀ j, j < n → OkT H W j
 s : sm (hts H) ≤ 60
 i : id.length = 16
 d : seed.length = 32
theorem azd {n : Nat} (H W : List Int) (hH : H.length = n) : ∀ i, i ≤ n → (∀ j, j < i → OkT H W j) → sm (hts (H.take i)) ≤ 10 * i
 | 0, _, _ => by simp [hts, sm]
 | i + 1, hi, h => by
  have h1 := azd H W hH i (by omega) (fun j hj => h j (by omega))
  have h2 := h i (by omega)
  rw [afl H i (by omega)]
  have := h2.2
  omega
theorem awz (n : Nat) (H W id seed : List Int) (hH : H.length = n) (i : Nat) (hi : i < n) (h8 : i < 8) (hall : ∀ j, j ≤ i → OkT H W j) {ρ : Type} (nx k0 : Int → Int → Nat → (List Int) → (List Int) → (List Int) → (List Int) → Option ρ) (k1 : Bool → Int → Int → Int → Int → Nat → (List Int) → (List Int) → (List Int) → (List Int) → Option ρ) :
    P.ac6 ((sm (hts (H.take i)) : Nat) : Int) (i : Int) n H W id seed nx k0 k1 = nx ((sm (hts (H.take (i + 1))) : Nat) : Int) ((i + 1 : Nat) : Int) n H W id seed := by
 have h1 := azd H W hH i (by omega) (fun j hj => hall j (by omega))
 have h2 := hall i (by omega)
 have h3 := ap3 h2.1
 have h4 := h2.2
 unfold P.ac6
 rw [au (by omega), au (by omega), au (by omega), dh (by omega), toNat_cast, (aqt _ _ _).1 h2.1, ru, aa6, dh (by omega), yw (by omega) (by omega), yw (by omega) (by omega), afl H i (by omega)]
 congr 1
 omega
theorem beg (n : Nat) (H W id seed : List Int) (s : Int) (i : Nat) (hi : i < n) (hb : 8 ≤ i ∨ ¬ OkT H W i) {ρ : Type} (nx k0 : Int → Int → Nat → (List Int) → (List Int) → (List Int) → (List Int) → Option ρ) (k1 : Bool → Int → Int → Int → Int → Nat → (List Int) → (List Int) → (List Int) → (List Int) → Option ρ) :
    P.ac6 s (i : Int) n H W id seed nx k0 k1 = k1 false (H.getD i 0) (W.getD i 0) 0 0 n H W id seed := by
 unfold P.ac6
 rw [au (by omega), au (by omega), au (by omega), toNat_cast]
 by_cases h8 : 8 ≤ i
 ·rw [au (by omega)]
 ·rw [dh (by omega)]
  have hb : ¬ OkT H W i := hb.resolve_left h8
  by_cases hf : bbd (H.getD i 0) (W.getD i 0)
  ·rw [(aqt _ _ _).1 hf, ru, aa6, au]
   have : ¬ H.getD i 0 ≤ 10 := fun h => hb ⟨hf, h⟩
   omega
  ·rw [(aqt _ _ _).2 hf, ru, adb]
theorem aw5 (n : Nat) (H W id seed : List Int) (hH : H.length = n) (i : Nat) (hi : i < n) (h8 : n ≤ 8) (hall : ∀ j, j ≤ i → OkT H W j) {ρ : Type} (nx k0 : Int → Nat → (List Int) → (List Int) → Int → Int → Nat → (List Int) → (List Int) → (List Int) → (List Int) → Option ρ) (k1 : Bool → Int → Int → Int → Int → Nat → (List Int) → (List Int) → (List Int) → (List Int) → Option ρ) :
    P.ac7 ((sm (hts (H.take i)) : Nat) : Int) n H W (n : Int) (i : Int) n H W id seed nx k0 k1 = nx ((sm (hts (H.take (i + 1))) : Nat) : Int) n H W (n : Int) ((i + 1 : Nat) : Int) n H W id seed := by
 have h1 := azd H W hH i (by omega) (fun j hj => hall j (by omega))
 have h2 := hall i (by omega)
 have h3 := ap3 h2.1
 have h4 := h2.2
 unfold P.ac7
 rw [au (by omega), au (by omega), au (by omega), toNat_cast, (aqf _ _ _).1 h2.1, ru, aa6, dh (by omega), yw (by omega) (by omega), yw (by omega) (by omega), afl H i (by omega)]
 congr 1
 omega
theorem bfl (n : Nat) (H W id seed : List Int) (s : Int) (i : Nat) (hi : i < n) (hb : ¬ OkT H W i) {ρ : Type} (nx k0 : Int → Nat → (List Int) → (List Int) → Int → Int → Nat → (List Int) → (List Int) → (List Int) → (List Int) → Option ρ) (k1 : Bool → Int → Int → Int → Int → Nat → (List Int) → (List Int) → (List Int) → (List Int) → Option ρ) :
    P.ac7 s n H W (n : Int) (i : Int) n H W id seed nx k0 k1 = k1 false (H.getD i 0) (W.getD i 0) 0 0 n H W id seed := by
 unfold P.ac7
 rw [au (by omega), au (by omega), au (by omega), toNat_cast]
 by_cases hf : bbd (H.getD i 0) (W.getD i 0)
 ·rw [(aqf _ _ _).1 hf, ru, aa6, au]
  have : ¬ H.getD i 0 ≤ 10 := fun h => hb ⟨hf, h⟩
  omega
 ·rw [(aqf _ _ _).2 hf, ru, adb]
theorem ah0 (n : Nat) (H W id seed : List Int) (m : Nat) (hm : m < n) (hb : 8 ≤ m ∨ ¬ OkT H W m) (hall : ∀ j, j < m → OkT H W j) (h8 : m ≤ 8) (hH : H.length = n) {ρ : Type} (k : Bool → Option ρ) : P.ael n H W id seed k = k false := by
 rw [P.akg]; unfold P.afj
 rw [P.ajo]; unfold P.ajz P.bhu P.bf0 P.blz
 refine abm (fun i => (((sm (hts (H.take i)) : Nat) : Int), (i : Int), n, H, W, id, seed)) m rfl (fun i hi next hnx => ?_) (fun next => ?_) (by omega)
 ·refine Eq.trans (awz n H W id seed hH i (by omega) (by omega) (fun j hj => hall j (by omega)) _ _ _) hnx
 ·exact beg n H W id seed _ m hm hb _ _ _
theorem aq7 {n : Nat} (H : List Int) (hH : H.length = n) : H.take n = H := by rw [← hH, List.take_length]
theorem ags (n : Nat) (H W id seed : List Int) (hH : H.length = n) : ∃ b : Bool, (b = true ↔ FitK n H W id seed) ∧ (∀ {ρ : Type} (k : Bool → Option ρ), P.acp n H W id seed k = k b) ∧ ∀ {ρ : Type} (k : Bool → Option ρ), P.ael n H W id seed k = k b := by
 by_cases h8 : n > 8
 ·refine ⟨false, ⟨fun h => (by cases h), fun h => absurd h.n8 (by omega)⟩, fun k => ?_, fun k => ?_⟩
  ·rw [P.agr]; unfold P.ade
   rw [au (by omega)]
  ·rcases ajf (OkT H W) 8 with h | ⟨m, m1, m2, m3⟩
   ·exact ah0 n H W id seed 8 (by omega) (.inl (by omega)) h (by omega) hH k
   ·exact ah0 n H W id seed m (by omega) (.inr m2) m3 (by omega) hH k
 ·rcases ajf (OkT H W) n with h | ⟨m, m1, m2, m3⟩
  ·have hs := azd H W hH n (by omega) h
   rw [aq7 H hH] at hs
   refine ⟨decide (n ≥ 1) && (decide (sm (hts H) ≤ 60) && (decide (id.length = 16) && decide (seed.length = 32))), ?_, fun k => ?_, fun k => ?_⟩
   ·simp only [Bool.and_eq_true, decide_eq_true_eq]
    exact ⟨fun ⟨a, b, c, d⟩ => ⟨a, by omega, h, b, c, d⟩, fun f => ⟨f.n1, f.s, f.i, f.d⟩⟩
   ·rw [P.agr]; unfold P.ade
    rw [dh (by omega), P.ajw]; unfold P.akf P.zk2 P.zs2 P.zu2
    refine abm (fun i => (((sm (hts (H.take i)) : Nat) : Int), n, H, W, (n : Int), (i : Int), n, H, W, id, seed)) n rfl (fun i hi next hnx => ?_) (fun next => ?_) (by omega)
    ·refine Eq.trans (aw5 n H W id seed hH i hi (by omega) (fun j hj => h j (by omega)) _ _ _) hnx
    ·simp only [P.ac7]
     rw [dh (by omega)]
     simp only [Sum.elim_inl]
     rw [aq7 H hH]
     by_cases a1 : n ≥ 1
     ·rw [au (by omega)]
      by_cases a2 : sm (hts H) ≤ 60
      ·rw [au (by omega)]
       by_cases a3 : id.length = 16
       ·rw [dw (by omega), decide_eq_true a1, decide_eq_true a2, decide_eq_true a3, Bool.true_and, Bool.true_and, Bool.true_and]
        by_cases a4 : seed.length = 32
        ·rw [a4]; rfl
        ·rw [decide_eq_false a4, show (((seed.length : Nat) : Int) == 32) = false by rw [beq_eq_false_iff_ne]; omega]
       ·rw [bq (by omega), decide_eq_true a1, decide_eq_true a2, decide_eq_false a3]; rfl
      ·rw [dh (by omega), decide_eq_true a1, decide_eq_false a2]; rfl
     ·rw [dh (by omega), decide_eq_false a1]; rfl
   ·rw [P.akg]; unfold P.afj
    rw [P.ajo]; unfold P.ajz P.bhu P.bf0 P.blz
    refine abm (fun i => (((sm (hts (H.take i)) : Nat) : Int), (i : Int), n, H, W, id, seed)) n rfl (fun i hi next hnx => ?_) (fun next => ?_) (by omega)
    ·refine Eq.trans (awz n H W id seed hH i hi (by omega) (fun j hj => h j (by omega)) _ _ _) hnx
    ·simp only [P.ac6]
     rw [dh (by omega)]
     simp only [Sum.elim_inl]
     rw [aq7 H hH]
     by_cases a1 : n ≥ 1
     ·rw [au (by omega)]
      by_cases a2 : sm (hts H) ≤ 60
      ·rw [au (by omega)]
       by_cases a3 : id.length = 16
       ·rw [dw (by omega), decide_eq_true a1, decide_eq_true a2, decide_eq_true a3, Bool.true_and, Bool.true_and, Bool.true_and]
        by_cases a4 : seed.length = 32
        ·rw [a4]; rfl
        ·rw [decide_eq_false a4, show (((seed.length : Nat) : Int) == 32) = false by rw [beq_eq_false_iff_ne]; omega]
       ·rw [bq (by omega), decide_eq_true a1, decide_eq_true a2, decide_eq_false a3]; rfl
      ·rw [dh (by omega), decide_eq_true a1, decide_eq_false a2]; rfl
     ·rw [dh (by omega), decide_eq_false a1]; rfl
  ·refine ⟨false, ⟨fun h => (by cases h), fun h => absurd (h.t m m1) m2⟩, fun k => ?_, fun k => ah0 n H W id seed m m1 (.inr m2) m3 (by omega) hH k⟩
   rw [P.agr]; unfold P.ade
   rw [dh (by omega), P.ajw]; unfold P.akf P.zk2 P.zs2 P.zu2
   refine abm (fun i => (((sm (hts (H.take i)) : Nat) : Int), n, H, W, (n : Int), (i : Int), n, H, W, id, seed)) m rfl (fun i hi next hnx => ?_) (fun next => ?_) (by omega)
   ·refine Eq.trans (aw5 n H W id seed hH i (by omega) (by omega) (fun j hj => m3 j (by omega)) _ _ _) hnx
   ·exact bfl n H W id seed _ m m1 m2 _ _ _
theorem afh {n : Nat} {H W id seed : List Int} (hH : H.length = n) (f : FitK n H W id seed) {ρ : Type} (k : Int → Option ρ) : P.aag n H W id seed k = k ((sm (hts H) : Nat) : Int) := by
 rw [P.amr]; unfold P.agf
 rw [P.aoi]; unfold P.amt P.zk3 P.zs3 P.zu3
 have n8 := f.n8
 refine abm (fun i => (((sm (hts (H.take i)) : Nat) : Int), n, H, W, (n : Int), (i : Int))) n rfl (fun i hi next hnx => ?_) (fun next => ?_) (by omega)
 ·simp only [P.ah7]
  have h1 := azd H W hH i (by omega) (fun j hj => f.t j (by omega))
  have h2 := f.t i hi
  have h3 := ap3 h2.1
  have h4 := h2.2
  rw [au (by omega), au (by omega), au (by omega), toNat_cast, yw (by omega) (by omega), yw (by omega) (by omega)]
  refine Eq.trans ?_ hnx
  rw [afl H i (by omega)]
  congr 2
  omega
 ·simp only [P.ah7]
  rw [dh (by omega), aq7 H hH]
theorem bd9 {s : Nat} (h : s ≤ 60) : IntKind.u64.wrap ((1 : Int) * (2 : Int) ^ min ((s : Nat) : Int).toNat 64) = ((2 ^ s : Nat) : Int) := by
 have h2 : 2 ^ s ≤ 2 ^ 60 := Nat.pow_le_pow_right (by omega) h
 rw [toNat_cast, Nat.min_eq_left (by omega), Int.one_mul, show ((2 : Int) ^ s) = ((2 ^ s : Nat) : Int) by simp, an6 _ (by omega)]
theorem ais {n : Nat} {H W id seed : List Int} (hH : H.length = n) (f : FitK n H W id seed) {ρ : Type} (k : Int → Option ρ) : P.tq n H W id seed k = k ((2 ^ sm (hts H) : Nat) : Int) := by
 obtain ⟨b, hb, h1, _⟩ := ags n H W id seed hH
 have : b = true := hb.2 f
 subst this
 rw [P.ai0]; unfold P.aem
 rw [h1, ru, aa6, afh hH f, dh (by omega), bd9 f.s]
end Q
end

section
/- bits: Pack. -/
namespace Q
open Go Go.Abs
set_option linter.unusedVariables false
set_option linter.unusedSimpArgs false
theorem axy (x w : Nat) (hx : x < 4294967296) (h : w ≤ 24) : bits .and .u32 (x : Int) (IntKind.u32.wrap (IntKind.u32.wrap ((1 : Int) * (2 : Int) ^ min w 32) - (1 : Int))) = ((x % 2 ^ w : Nat) : Int) := by
 have h1 := p2 w
 have h2 : 2 ^ w ≤ 2 ^ 24 := baw h
 rw [show (1 : Int) = ((1 : Nat) : Int) from rfl, mul_pow 1 w 32 (by omega), bfm _ (by omega), show ((1 * 2 ^ w : Nat) : Int) - ((1 : Nat) : Int) = ((2 ^ w - 1 : Nat) : Int) by omega, bfm _ (by omega), bdx _ _ hx (by omega), Nat.and_two_pow_sub_one_eq_mod]
end Q
end

section
/- hss: the leaves of a number. -/
namespace Q
open Go Go.Abs
set_option linter.unusedVariables false
set_option linter.unusedSimpArgs false
def aud (H : List Int) (N : Nat) : List Int := (vec (hts H) N).map (fun (x : Nat) => (x : Int))
theorem aq6 (H : List Int) (N : Nat) : (aud H N).length = H.length := by simp [aud, vec_len, hts]
theorem au1 (H : List Int) : (hts H).length = H.length := by simp [hts]
theorem alz (H : List Int) (i : Nat) : (hts H).drop i = hts (H.drop i) := by unfold hts; rw [List.map_drop]
theorem awv (H : List Int) (N i : Nat) (hi : i < H.length) : (aud H N).getD i 0 = ((N / 2 ^ sm (hts (H.drop (i + 1))) % 2 ^ (H.getD i 0).toNat : Nat) : Int) := by
 have h := aza (hts H) N i (by rw [au1]; exact hi)
 rw [alz, azi] at h
 unfold aud
 rw [List.getD_eq_getElem?_getD, List.getElem?_map]
 rw [List.getD_eq_getElem?_getD] at h
 cases hq : (vec (hts H) N)[i]? with
 | none =>
  rw [List.getElem?_eq_none_iff, vec_len, au1] at hq
  omega
 | some x =>
  rw [hq] at h
  simp only [Option.getD_some] at h
  simp only [Option.map_some, Option.getD_some]
  rw [h]
theorem ak5 {n : Nat} {H W id seed : List Int} (hH : H.length = n) (f : FitK n H W id seed) (i : Nat) (hi : i < n) : sm (hts (H.drop i)) = (H.getD i 0).toNat + sm (hts (H.drop (i + 1))) ∧ 1 ≤ H.getD i 0 ∧ H.getD i 0 ≤ 10 ∧ sm (hts (H.drop i)) ≤ 60 := by
 have h2 := f.t i hi
 have h3 := ap3 h2.1
 have h4 := bat (hts H) i (by rw [au1]; omega)
 rw [alz, alz, azi] at h4
 have h5 := bfq (hts H) i
 rw [alz] at h5
 have := f.s
 exact ⟨h4, h3.1, h2.2, by omega⟩
theorem apz (N s : Nat) (hs : s ≤ 64) : (N : Int).fdiv ((2 : Int) ^ min ((s : Nat) : Int).toNat 64) = ((N / 2 ^ s : Nat) : Int) := by
 rw [toNat_cast, fdiv_pow N s 64 hs]
theorem afe {n : Nat} {H W id seed : List Int} (hH : H.length = n) (f : FitK n H W id seed) (N : Nat) (hN : N < 2 ^ sm (hts H)) {ρ : Type} (k : List Int → Int → Option ρ) : P.oz n H W id seed (N : Int) k = k (aud H N) 0 := by
 obtain ⟨b, hb, h1, _⟩ := ags n H W id seed hH
 have : b = true := hb.2 f
 subst this
 have hs := f.s
 have h60 : 2 ^ sm (hts H) ≤ 2 ^ 60 := Nat.pow_le_pow_right (by omega) hs
 rw [P.afm]; unfold P.ab3
 rw [h1, ru, aa6, afh hH f, dh (by omega), apz _ _ (by omega), Nat.div_eq_of_lt hN, jy (by omega), afh hH f, P.alv]
 unfold P.aii P.zk4 P.zs4 P.zu4
 have n8 := f.n8
 refine abm (fun i => ((N : Int), ((sm (hts (H.drop i)) : Nat) : Int), n, H, W, (n : Int), (i : Int), (aud H N).take i)) n rfl (fun i hi next hnx => ?_) (fun next => ?_) (by omega)
 ·simp only [P.ae8]
  obtain ⟨e1, e2, e3, e4⟩ := ak5 hH f i hi
  have hsub : ((sm (hts (H.drop i)) : Nat) : Int) - H.getD i 0 = ((sm (hts (H.drop (i + 1))) : Nat) : Int) := by omega
  have htl : ((aud H N).take i).length ≤ 8 := by rw [List.length_take]; omega
  have hlt : N / 2 ^ sm (hts (H.drop (i + 1))) < 18446744073709551616 := Nat.lt_of_le_of_lt (Nat.div_le_self _ _) (by omega)
  have key : bits BinOp.and IntKind.u32 (IntKind.u32.wrap ((N / 2 ^ sm (hts (H.drop (i + 1))) : Nat) : Int)) (IntKind.u32.wrap (IntKind.u32.wrap ((1 : Int) * (2 : Int) ^ min (H.getD i 0).toNat 32) - (1 : Int))) = (aud H N).getD i 0 := by
   rw [awv H N i (by omega), bfu, show (((N / 2 ^ sm (hts (H.drop (i + 1))) : Nat) : Int) % 4294967296) = ((N / 2 ^ sm (hts (H.drop (i + 1))) % 4294967296 : Nat) : Int) by omega, axy _ (H.getD i 0).toNat (by omega) (by omega)]
   congr 1
   have : (4294967296 : Nat) = 2 ^ (H.getD i 0).toNat * 2 ^ (32 - (H.getD i 0).toNat) := by
    rw [← Nat.pow_add, show (H.getD i 0).toNat + (32 - (H.getD i 0).toNat) = 32 by omega]
   rw [this, Nat.mod_mul_right_mod]
  rw [au (by omega), au (by omega), au (by omega), toNat_cast, hsub, yw (x := ((sm (hts (H.drop (i + 1))) : Nat) : Int)) (by omega) (by omega), dh (by omega), dh (by omega), au (by omega), apz _ _ (by omega), key, yw (by omega) (by omega), ae1 _ _ _ (by rw [aq6]; omega)]
  exact hnx
 ·simp only [P.ae8]
  rw [dh (by omega), List.take_of_length_le (by rw [aq6]; omega)]
theorem alr {n : Nat} {H W id seed : List Int} (hH : H.length = n) (f : FitK n H W id seed) (N : Nat) (hN : ¬ N < 2 ^ sm (hts H)) {ρ : Type} (k : List Int → Int → Option ρ) : P.oz n H W id seed (N : Int) k = k [] 13 := by
 obtain ⟨b, hb, h1, _⟩ := ags n H W id seed hH
 have : b = true := hb.2 f
 subst this
 have hs := f.s
 have h1' : 1 ≤ N / 2 ^ sm (hts H) := (Nat.le_div_iff_mul_le (Nat.two_pow_pos _)).2 (by omega)
 rw [P.afm]; unfold P.ab3
 rw [h1, ru, aa6, afh hH f, dh (by omega), apz _ _ (by omega), jo (by omega)]
theorem an9 {ρ : Type} (k : Int → Option ρ) : P.aai [] [] [] k = k 10 := by
 rw [P.ajl]; unfold P.aew
 rw [jo (by simp)]
theorem as4 : FitK 2 [(2 : Int), (3 : Int)] [(1 : Int), (1 : Int)] (List.replicate 16 (0 : Int)) (List.replicate 32 (0 : Int)) where
 n1 := by omega
 n8 := by omega
 t := fun j hj => by
  have : j = 0 ∨ j = 1 := by omega
  rcases this with rfl | rfl <;> (unfold OkT bbd; decide)
 s := by decide
 i := by simp
 d := by simp
theorem p8 {ρ : Type} (k : Bool → Option ρ) : P.p8 k = k true := by
 rw [P.alh]; unfold P.afg
 have hv := afe (by rfl) as4 9 (by decide) (ρ := ρ)
 have hl := ais (by rfl) as4 (ρ := ρ)
 rw [show (9 : Int) = ((9 : Nat) : Int) from rfl, hv, hl, show aud [2, 3] 9 = [1, 1] by decide, dw (by decide), dw rfl, dw (by decide), au (by decide), dw (by decide), au (by decide), dw (by decide), an9]
 rfl
theorem acw (l : List (List Int)) (hl : l.length ≤ 100) {ρ : Type} (k : Bool → Option ρ) : (P.acw l k = k true ∧ ∀ i, i < l.length → (l.getD i []).length ≤ 300) ∨ P.acw l k = k false := by
 rw [P.apo]
 unfold P.ah6
 rw [P.ap8]
 unfold P.aol P.zk1 P.zs1 P.zu1
 rcases ajf (fun i => (l.getD i []).length ≤ 300) l.length with h | ⟨m, m1, m2, m3⟩
 ·refine .inl ⟨abm (fun i => (l, (l.length : Int), (i : Int))) l.length rfl (fun i hi next hn' => ?_) (fun next => ?_) (by omega), h⟩
  ·have := h i hi
   simp only [P.ae6, toNat_cast]
   rw [au (by omega), au (by omega), au (by omega), dh (by omega), yw (by omega) (by omega)]
   exact hn'
  ·simp only [P.ae6]
   rw [dh (by omega)]
   rfl
 ·refine .inr (abm (fun i => (l, (l.length : Int), (i : Int))) m rfl (fun i hi next hn' => ?_) (fun next => ?_) (by omega))
  ·have := m3 i hi
   simp only [P.ae6, toNat_cast]
   rw [au (by omega), au (by omega), au (by omega), dh (by omega), yw (by omega) (by omega)]
   exact hn'
  ·simp only [P.ae6, toNat_cast]
   rw [au (by omega), au (by omega), au (by omega), au (by omega)]
   rfl
end Q
end

section
namespace Q
open Go Go.Abs
set_option linter.unusedVariables false
set_option linter.unusedSimpArgs false
theorem bc8 (H : List Int) (N M : Nat) (hN : N < 2 ^ sm (hts H)) (hM : M < 2 ^ sm (hts H)) : aud H N = aud H M ↔ N = M := by
 constructor
 ·intro h
  refine (bes (hts H) N M hN hM).1 ?_
  unfold aud at h
  exact (List.map_inj_right (f := fun (x : Nat) => (x : Int)) (fun a b e => by have e : (a : Int) = (b : Int) := e; omega)).1 h
 ·rintro rfl; rfl
theorem HssOnce (x0_Treesn : Nat) (x0_Trees0 : List Int) (x0_Trees1 : List Int) (x0_Id : List Int) (x0_Seed : List Int) (x1 : Int) (x2 : Int) (bx0_Trees : x0_Treesn ≤ 140737488355328) (mx0_Trees0 : x0_Trees0.length = x0_Treesn) (wx0_Trees0 : ∀ x, x ∈ x0_Trees0 → wfI .i64 x) (mx0_Trees1 : x0_Trees1.length = x0_Treesn) (wx0_Trees1 : ∀ x, x ∈ x0_Trees1 → wfI .i64 x) (nx0_Id : x0_Id.length ≤ 140737488355328) (wx0_Id : ∀ x, x ∈ x0_Id → wfI .u8 x) (nx0_Seed : x0_Seed.length ≤ 140737488355328) (wx0_Seed : ∀ x, x ∈ x0_Seed → wfI .u8 x) (wx1 : wfI .u64 x1) (wx2 : wfI .u64 x2) {ρ : Type} (k : Bool → Option ρ) : P.wm x0_Treesn x0_Trees0 x0_Trees1 x0_Id x0_Seed x1 x2 k = k true := by
 rw [P.ahe]; unfold P.adw
 by_cases h20 : x0_Treesn > 20
 ·rw [au (by omega), p8]
 rw [dh (by omega)]
 rcases acw [x0_Id, x0_Seed] (by simp) (fun (q1 : Bool) => _) with ⟨hf, _⟩ | hf
 ·rw [hf, ru, aa6]
  obtain ⟨N, rfl⟩ : ∃ N : Nat, x1 = (N : Int) := ⟨x1.toNat, by have := wf_u64 wx1; omega⟩
  obtain ⟨M, rfl⟩ : ∃ M : Nat, x2 = (M : Int) := ⟨x2.toNat, by have := wf_u64 wx2; omega⟩
  obtain ⟨b, hb, h1, h2⟩ := ags x0_Treesn x0_Trees0 x0_Trees1 x0_Id x0_Seed mx0_Trees0
  rw [h2]
  generalize hn : x0_Treesn = n at *
  generalize hH : x0_Trees0 = H at *
  cases b with
  | false => rw [ru, adb, p8]
  | true =>
   have f := hb.1 rfl
   have n8 := f.n8
   have hs := f.s
   have h60 : 2 ^ sm (hts H) ≤ 2 ^ 60 := Nat.pow_le_pow_right (by omega) hs
   have hp := Nat.two_pow_pos (sm (hts H))
   have lN := Nat.mod_lt N hp
   have lM := Nat.mod_lt M hp
   generalize hA : 2 ^ sm (hts H) = A at *
   have hvl := aq6 H (N % A)
   rw [ru, aa6, ais mx0_Trees0 f, hA, bq (by omega), dh (by omega), tmN, tmN, afe mx0_Trees0 f _ (by rw [hA]; exact lN), dh (by omega), afe mx0_Trees0 f _ (by rw [hA]; exact lM), alr mx0_Trees0 f _ (by rw [hA]; omega),
    jy rfl, jy rfl, jy rfl, pz _ _ (by omega), dh (by omega), dh (by omega)]
   have key : decide (aud H (N % A) = aud H (M % A)) = (((N % A : Nat) : Int) == ((M % A : Nat) : Int)) := by
    by_cases e : N % A = M % A
    ·rw [e, decide_eq_true rfl, beq_self_eq_true]
    ·rw [decide_eq_false (fun h => e ((bc8 H _ _ (by rw [hA]; exact lN) (by rw [hA]; exact lM)).1 h)), show (((N % A : Nat) : Int) == ((M % A : Nat) : Int)) = false by rw [beq_eq_false_iff_ne]; omega]
   rw [key, beq_self_eq_true, Bool.not_true, adb, P.ai8]
   unfold P.agd P.bi9 P.bgc P.bnq
   refine abm (fun i => ((N : Int), (A : Int), ((N % A / 2 ^ sm (hts (H.drop i)) : Nat) : Int), ((aud H (N % A)).length : Int), (i : Int), n, H, x0_Trees1, x0_Id, x0_Seed, aud H (N % A))) n ?_ (fun i hi next hnx => ?_) (fun next => ?_) (by omega)
   ·rw [List.drop_zero, hA, Nat.div_eq_of_lt lN]; rfl
   ·simp only [P.adp]
    obtain ⟨e1, e2, e3, e4⟩ := ak5 mx0_Trees0 f i hi
    have h10 : 2 ^ (H.getD i 0).toNat ≤ 2 ^ 10 := Nat.pow_le_pow_right (by omega) (by omega)
    have hd := Nat.mod_lt (N % A / 2 ^ sm (hts (H.drop (i + 1)))) (Nat.two_pow_pos (H.getD i 0).toNat)
    have hpw : IntKind.u32.wrap ((1 : Int) * (2 : Int) ^ min (H.getD i 0).toNat 32) = ((2 ^ (H.getD i 0).toNat : Nat) : Int) := by
     rw [Nat.min_eq_left (by omega), Int.one_mul, show ((2 : Int) ^ (H.getD i 0).toNat) = ((2 ^ (H.getD i 0).toNat : Nat) : Int) by simp, bfm _ (by omega)]
    have hlt : N % A / 2 ^ sm (hts (H.drop (i + 1))) ≤ N % A := Nat.div_le_self _ _
    have hsplit : N % A / 2 ^ sm (hts (H.drop i)) * 2 ^ (H.getD i 0).toNat + N % A / 2 ^ sm (hts (H.drop (i + 1))) % 2 ^ (H.getD i 0).toNat = N % A / 2 ^ sm (hts (H.drop (i + 1))) := by
     rw [e1, Nat.add_comm (H.getD i 0).toNat, Nat.pow_add, ← Nat.div_div_eq_div_mul, Nat.mul_comm, Nat.div_add_mod]
    have hm : ((N % A / 2 ^ sm (hts (H.drop i)) : Nat) : Int) * (2 : Int) ^ min (H.getD i 0).toNat 64 = ((N % A / 2 ^ sm (hts (H.drop i)) * 2 ^ (H.getD i 0).toNat : Nat) : Int) := by
     rw [Nat.min_eq_left (by omega)]; simp
    generalize hx : N % A / 2 ^ sm (hts (H.drop (i + 1))) = X at *
    generalize hy : N % A / 2 ^ sm (hts (H.drop i)) * 2 ^ (H.getD i 0).toNat = Y at *
    rw [au (by omega), au (by omega), au (by omega), au (by omega), au (by omega), toNat_cast, dh (by omega), hpw, awv H _ i (by omega), hx, dh (by omega), au (by omega), au (by omega), dh (by omega), hm, an6 Y (by omega), an6 _ (by omega),
     show ((Y : Nat) : Int) + ((X % 2 ^ (H.getD i 0).toNat : Nat) : Int) = ((X : Nat) : Int) by omega, an6 X (by omega), yw (by omega) (by omega)]
    exact hnx
   ·simp only [P.adp]
    rw [dh (by omega)]
    simp only [Sum.elim_inl]
    rw [dh (by omega), tmN, List.drop_eq_nil_of_le (by omega), show sm (hts []) = 0 from rfl, Nat.pow_zero, Nat.div_one, dw rfl, dw (by omega), p8]
 ·rw [hf, ru, adb, p8]
end Q
end
