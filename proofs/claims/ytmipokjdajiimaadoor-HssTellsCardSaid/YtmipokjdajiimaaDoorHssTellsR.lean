/-
  HssTells, part 18: an interpreter of my own over abstract values, the pure functions, the walks and the plain law.
-/

import Derived.Test.YtmipokjdajiimaaDoorHssTellsQ
import Derived.Test.YtmipokjdajiimaaDoorHssTellsK
import Derived.Test.YtmipokjdajiimaaDoorHssTellsI

section
/- lms: signatures, and what verifies them. -/
namespace Q
open Go Go.Abs
set_option linter.unusedVariables false
set_option linter.unusedSimpArgs false
def nm (b : List Int) (i j : Nat) : Nat := T 8 ((b.take j).drop i).reverse
theorem bfi (b : List Int) (i j : Nat) (h : j - i ≤ 4) : nm b i j < 4294967296 := by
 unfold nm
 have h1 := bmj 8 ((b.take j).drop i).reverse
 have h2 : 8 * ((b.take j).drop i).reverse.length ≤ 32 := by simp only [List.length_reverse, List.length_drop, List.length_take]; omega
 have h3 : 2 ^ (8 * ((b.take j).drop i).reverse.length) ≤ 2 ^ 32 := Nat.pow_le_pow_right (by omega) h2
 omega
theorem bdu (b : List Int) (hb : In 256 b) (i j : Nat) (hj : j - i ≤ 4) {ρ : Type} (k : Int → Option ρ) : P.iw (((b.take j).drop i)) k = k ((nm b i j : Nat) : Int) := by
 have := bfi b i j hj
 rw [iw _ ((hb.take j).drop i) (by simp only [List.length_drop, List.length_take]; omega)]
 unfold nm at this ⊢
 rw [Nat.mod_eq_of_lt (by omega)]
def pOf (w : Nat) : Nat := if w = 1 then 265 else if w = 2 then 133 else if w = 4 then 67 else 34
def sOf (w : Nat) : Nat := if w = 1 then 7 else if w = 2 then 6 else if w = 4 then 4 else 0
theorem bcl {c : Nat} (h : wOf c ≠ 0) : Kind (wOf c) (pOf (wOf c)) (sOf (wOf c)) ∧ aos (wOf c) = c ∧ wOf c ≤ 8 ∧ pOf (wOf c) ≤ 265 := by
 have hc : c = 1 ∨ c = 2 ∨ c = 3 ∨ c = 4 := by
  revert h
  unfold wOf
  split
  ·omega
  ·split
   ·omega
   ·split
    ·omega
    ·split <;> omega
 rcases hc with rfl | rfl | rfl | rfl <;> simp [wOf, pOf, sOf, Kind, aos]
theorem amv {w p s : Nat} (h : Kind w p s) {ρ : Type} (k : Int → Option ρ) : P.mo (w : Int) k = k ((aos w : Nat) : Int) := by
 rw [P.ad3]; unfold P.aa2
 rcases h with ⟨rfl, _, _⟩ | ⟨rfl, _, _⟩ | ⟨rfl, _, _⟩ | ⟨rfl, _, _⟩ <;> simp [aos]
theorem ax8 (h : Nat) (h1 : ¬ (1 ≤ h ∧ h ≤ 4)) (h2 : h ≠ 5) (h3 : h ≠ 10) (h4 : h ≠ 15) (h5 : h ≠ 20) (h6 : h ≠ 25) : afe h = 0 := by
 unfold afe
 rw [if_neg h1, if_neg (by omega)]
theorem uy (h : Nat) (hh : h ≤ 1000) {ρ : Type} (k : Int → Option ρ) : P.uy (h : Int) k = k ((afe h : Nat) : Int) := by
 rw [P.aib]; unfold P.aeb
 by_cases a1 : h = 1
 ·subst a1; rw [dx (by decide), dx (by decide)]; rfl
 by_cases a2 : h = 2
 ·subst a2; rw [cu (by decide), dx (by decide), dx (by decide)]; rfl
 by_cases a3 : h = 3
 ·subst a3; rw [cu (by decide), cu (by decide), dx (by decide), dx (by decide)]; rfl
 by_cases a4 : h = 4
 ·subst a4; rw [cu (by decide), cu (by decide), cu (by decide), dx (by decide)]; rfl
 rw [cu (by omega), cu (by omega), cu (by omega), cu (by omega)]
 by_cases b1 : h = 5
 ·subst b1; rw [dx (by decide), dx (by decide)]; rfl
 by_cases b2 : h = 10
 ·subst b2; rw [cu (by decide), dx (by decide), dx (by decide)]; rfl
 by_cases b3 : h = 15
 ·subst b3; rw [cu (by decide), cu (by decide), dx (by decide), dx (by decide)]; rfl
 by_cases b4 : h = 20
 ·subst b4; rw [cu (by decide), cu (by decide), cu (by decide), dx (by decide), dx (by decide)]; rfl
 by_cases b5 : h = 25
 ·subst b5; rw [cu (by decide), cu (by decide), cu (by decide), cu (by decide), dx (by decide)]; rfl
 rw [cu (by omega), cu (by omega), cu (by omega), cu (by omega), cu (by omega), ax8 h (by omega) b1 b2 b3 b4 b5]
 rfl
theorem ava {w p s h : Nat} (hk : Kind w p s) (hp : p ≤ 265) (hh : afe h ≠ 0) (h25 : h ≤ 25) {ρ : Type} (k : Int → Option ρ) : P.adh (h : Int) (w : Int) k = k ((4 + (36 + 32 * p) + 4 + 32 * h : Nat) : Int) := by
 rw [P.ams]; unfold P.agb
 have hcw : aos w ≠ 0 := by unfold aos; split <;> (try split) <;> (try split) <;> omega
 rw [P.akd]; unfold P.afm
 rw [uy h (by omega), jo (by omega), amv hk, show (((aos w : Nat) : Int) != 0) = true by rw [bne_iff_ne]; omega]
 dsimp only
 rw [p8, wm, jg hk,
  yg (x := (4 : Int) + ((36 + 32 * p : Nat) : Int)) (by omega) (by omega), yg (x := (4 : Int) + ((36 + 32 * p : Nat) : Int) + 4) (by omega) (by omega), yg (x := (32 : Int) * (h : Int)) (by omega) (by omega), yg (by omega) (by omega)]
 congr 1
def bnl {ρ : Type} (b : List Int) (k : List Int → Int → Int → List Int → Int → Option ρ) : Option ρ :=
 if b.length < 8 then k [] 0 0 [] 1 else
 if wOf (nm b 4 8) = 0 then k [] 0 0 [] 9 else
 if b.length < 4 + (36 + 32 * pOf (wOf (nm b 4 8))) + 4 then k [] 0 0 [] 1 else
 if hOf (nm b (4 + (36 + 32 * pOf (wOf (nm b 4 8)))) (4 + (36 + 32 * pOf (wOf (nm b 4 8))) + 4)) = 0 then k [] 0 0 [] 9 else
 if b.length < 4 + (36 + 32 * pOf (wOf (nm b 4 8))) + 4 + 32 * hOf (nm b (4 + (36 + 32 * pOf (wOf (nm b 4 8)))) (4 + (36 + 32 * pOf (wOf (nm b 4 8))) + 4)) then k [] 0 0 [] 1 else
 k (b.take (4 + (36 + 32 * pOf (wOf (nm b 4 8))) + 4 + 32 * hOf (nm b (4 + (36 + 32 * pOf (wOf (nm b 4 8)))) (4 + (36 + 32 * pOf (wOf (nm b 4 8))) + 4))))
  ((hOf (nm b (4 + (36 + 32 * pOf (wOf (nm b 4 8)))) (4 + (36 + 32 * pOf (wOf (nm b 4 8))) + 4)) : Nat) : Int) ((wOf (nm b 4 8) : Nat) : Int)
  (b.drop (4 + (36 + 32 * pOf (wOf (nm b 4 8))) + 4 + 32 * hOf (nm b (4 + (36 + 32 * pOf (wOf (nm b 4 8)))) (4 + (36 + 32 * pOf (wOf (nm b 4 8))) + 4)))) 0
theorem ab7 (b : List Int) (hb : In 256 b) (hn : b.length ≤ 1000000) {ρ : Type} (k : List Int → Int → Int → List Int → Int → Option ρ) : P.ab7 b k = bnl b k := by
 rw [P.aoz]; unfold P.ah0 bnl
 by_cases h8 : b.length < 8
 ·rw [au (by omega), if_pos h8]
 ·rw [dh (by omega), if_neg h8, au (by omega), show Int.toNat (8 : Int) = 8 from rfl, bdu b hb 4 8 (by omega), ug _ (by have := bfi b 4 8 (by omega); omega)]
  generalize hc : nm b 4 8 = c
  by_cases hw : wOf c = 0
  ·rw [hw, dx (by omega), if_pos rfl]
  ·obtain ⟨hk, hcw, hw8, hp⟩ := bcl hw
   rw [cu (by omega), if_neg hw, jg hk]
   generalize hpp : pOf (wOf c) = p at hk hp ⊢
   generalize hww : wOf c = w at hk hw hw8 hcw ⊢
   rw [yg (x := (4 : Int) + ((36 + 32 * p : Nat) : Int)) (by omega) (by omega), yg (x := (4 : Int) + ((36 + 32 * p : Nat) : Int) + 4) (by omega) (by omega)]
   by_cases hl : b.length < 4 + (36 + 32 * p) + 4
   ·rw [au (by omega), if_pos hl]
   ·rw [dh (by omega), if_neg hl, au (by omega), au (by omega), au (by omega), show ((4 : Int) + ((36 + 32 * p : Nat) : Int)).toNat = 4 + (36 + 32 * p) by omega, show ((4 : Int) + ((36 + 32 * p : Nat) : Int) + 4).toNat = 4 + (36 + 32 * p) + 4 by omega,
      bdu b hb _ _ (by omega), qd _ (by have := bfi b (4 + (36 + 32 * p)) (4 + (36 + 32 * p) + 4) (by omega); omega)]
    generalize nm b (4 + (36 + 32 * p)) (4 + (36 + 32 * p) + 4) = ch
    by_cases hh : hOf ch = 0
    ·rw [hh, dx (by omega), if_pos rfl]
    ·obtain ⟨g1, g2, g3⟩ := azg ch hh
     have hch : afe (hOf ch) ≠ 0 := by
      rw [g1]
      rintro rfl
      exact hh rfl
     rw [cu (by omega), if_neg hh, ava hk hp hch g3]
     by_cases hl2 : b.length < 4 + (36 + 32 * p) + 4 + 32 * hOf ch
     ·rw [au (by omega), if_pos hl2]
     ·rw [dh (by omega), if_neg hl2, au (by omega), au (by omega), toNat_cast, List.drop_zero, jr _ (by simp) (by simp; omega), au (by omega), au (by omega), au (by omega), toNat_cast, List.take_length, jr _ (by simp) (by simp; omega)]
      simp only [List.flatten_cons, List.flatten_nil, List.append_nil]
end Q
end

section
namespace Q
open Go Go.Abs
set_option linter.unusedVariables false
set_option linter.unusedSimpArgs false
end Q
end

section
/- hss: which keys can be, how many leaves, and the leaves of a number. -/
namespace Q
open Go Go.Abs
set_option linter.unusedVariables false
set_option linter.unusedSimpArgs false
theorem ay9 (h : Int) {ρ : Type} (k : Int → Option ρ) : P.uy h k = k ((afe h.toNat : Nat) : Int) := by
 by_cases hh : 0 ≤ h ∧ h ≤ 1000
 ·obtain ⟨n, rfl⟩ : ∃ n : Nat, h = (n : Int) := ⟨h.toNat, by omega⟩
  rw [uy n (by omega), toNat_cast]
 ·rw [P.aib]; unfold P.aeb
  have h0 : afe h.toNat = 0 := by unfold afe; rw [if_neg (by omega), if_neg (by omega)]
  simp (disch := omega) only [cu]
  rw [h0]; rfl
theorem bat (h : Int) {ρ : Type} (k : Int → Option ρ) : P.aa0 h k = k ((afe h.toNat : Nat) : Int) := by
 by_cases hh : 0 ≤ h ∧ h ≤ 100
 ·obtain ⟨n, rfl⟩ : ∃ n : Nat, h = (n : Int) := ⟨h.toNat, by omega⟩
  rw [aa0 n (by omega), toNat_cast]
 ·rw [P.ail]; unfold P.aeg
  have h0 : afe h.toNat = 0 := by unfold afe; rw [if_neg (by omega), if_neg (by omega)]
  rw [h0]
  by_cases h1 : h < 0
  ·simp (disch := omega) only [au, dh]; rfl
  ·simp (disch := omega) only [au, dh]; rfl
theorem au1 {w : Int} (h : w ≠ 1 ∧ w ≠ 2 ∧ w ≠ 4 ∧ w ≠ 8) {ρ : Type} (k : Int → Option ρ) : P.mo w k = k 0 := by
 obtain ⟨h1, h2, h3, h4⟩ := h
 rw [P.ad3]; unfold P.aa2
 simp (disch := omega) only [cu]
def bdg (h w : Int) : Prop := afe h.toNat ≠ 0 ∧ (w = 1 ∨ w = 2 ∨ w = 4 ∨ w = 8)
theorem am5 {h w : Int} (f : bdg h w) : 1 ≤ h ∧ h ≤ 25 := by
 have h0 := f.1
 unfold afe at h0
 split at h0
 ·omega
 ·split at h0
  ·omega
  ·exact absurd rfl h0
theorem aqw (h w : Int) {ρ : Type} (k : Bool → Option ρ) : (bdg h w → P.ab2 h w k = k true) ∧ (¬ bdg h w → P.ab2 h w k = k false) := by
 rw [P.akd]; unfold P.afm
 rw [ay9]
 constructor
 ·intro f
  rw [jo (by have := f.1; omega)]
  rcases arl w with ⟨n, p, s, rfl, h2⟩ | hn
  ·rw [amv h2, show (((aos n : Nat) : Int) != 0) = true by rw [bne_iff_ne]; have : aos n ≠ 0 := by { unfold aos; split <;> (try split) <;> (try split) <;> omega }; omega]
  ·have := f.2; omega
 ·intro f
  by_cases h0 : afe h.toNat = 0
  ·rw [l7 (by omega)]
  ·rw [jo (by omega)]
   rcases arl w with ⟨n, p, s, rfl, h2⟩ | hn
   ·exact absurd ⟨h0, by rcases h2 with ⟨rfl, _⟩ | ⟨rfl, _⟩ | ⟨rfl, _⟩ | ⟨rfl, _⟩ <;> simp⟩ f
   ·rw [au1 hn]; rfl
theorem aqn (h w : Int) {ρ : Type} (k : Bool → Option ρ) : (bdg h w → P.ae2 h w k = k true) ∧ (¬ bdg h w → P.ae2 h w k = k false) := by
 rw [P.ao1]; unfold P.aij
 rw [bat]
 constructor
 ·intro f
  rw [jo (by have := f.1; omega)]
  rcases arl w with ⟨n, p, s, rfl, h2⟩ | hn
  ·rw [aa1 h2, show (((36 + 32 * p : Nat) : Int) != 0) = true by rw [bne_iff_ne]; omega]
  ·have := f.2; omega
 ·intro f
  by_cases h0 : afe h.toNat = 0
  ·rw [l7 (by omega)]
  ·rw [jo (by omega)]
   rcases arl w with ⟨n, p, s, rfl, h2⟩ | hn
   ·exact absurd ⟨h0, by rcases h2 with ⟨rfl, _⟩ | ⟨rfl, _⟩ | ⟨rfl, _⟩ | ⟨rfl, _⟩ <;> simp⟩ f
   ·rw [av3 hn]; rfl
def hts (H : List Int) : List Nat := H.map Int.toNat
theorem azl (H : List Int) (j : Nat) : (hts H).getD j 0 = (H.getD j 0).toNat := by
 unfold hts
 rw [List.getD_eq_getElem?_getD, List.getD_eq_getElem?_getD, List.getElem?_map]
 cases H[j]? <;> rfl
theorem ad1 (H : List Int) (i : Nat) (hi : i < H.length) : sm (hts (H.take (i + 1))) = sm (hts (H.take i)) + (H.getD i 0).toNat := by
 have : H.take (i + 1) = H.take i ++ [H.getD i 0] := (ae8 H 0 i hi).symm
 rw [this]
 unfold hts
 rw [List.map_append, aza]
 simp [sm]
def OkT (H W : List Int) (j : Nat) : Prop := bdg (H.getD j 0) (W.getD j 0) ∧ H.getD j 0 ≤ 10
structure FitK (n : Nat) (H W id seed : List Int) : Prop where
 n1 : 1 ≤ n
 n8 : n ≤ 8
 t : ∀ j, j < n → OkT H W j
 s : sm (hts H) ≤ 60
 i : id.length = 16
 d : seed.length = 32
theorem azi {n : Nat} (H W : List Int) (hH : H.length = n) : ∀ i, i ≤ n → (∀ j, j < i → OkT H W j) → sm (hts (H.take i)) ≤ 10 * i
 | 0, _, _ => by simp [hts, sm]
 | i + 1, hi, h => by
  have h1 := azi H W hH i (by omega) (fun j hj => h j (by omega))
  have h2 := h i (by omega)
  rw [ad1 H i (by omega)]
  have := h2.2
  omega
theorem axa (n : Nat) (H W id seed : List Int) (hH : H.length = n) (i : Nat) (hi : i < n) (h8 : i < 8) (hall : ∀ j, j ≤ i → OkT H W j) {ρ : Type} (nx k0 : Int → Int → Nat → (List Int) → (List Int) → (List Int) → (List Int) → Option ρ) (k1 : Bool → Int → Int → Int → Int → Nat → (List Int) → (List Int) → (List Int) → (List Int) → Option ρ) :
    P.adl ((sm (hts (H.take i)) : Nat) : Int) (i : Int) n H W id seed nx k0 k1 = nx ((sm (hts (H.take (i + 1))) : Nat) : Int) ((i + 1 : Nat) : Int) n H W id seed := by
 have h1 := azi H W hH i (by omega) (fun j hj => hall j (by omega))
 have h2 := hall i (by omega)
 have h3 := am5 h2.1
 have h4 := h2.2
 unfold P.adl
 rw [au (by omega), au (by omega), au (by omega), dh (by omega), toNat_cast, (aqn _ _ _).1 h2.1, p8, wm, dh (by omega), yg (by omega) (by omega), yg (by omega) (by omega), ad1 H i (by omega)]
 congr 1
 omega
theorem bfd (n : Nat) (H W id seed : List Int) (s : Int) (i : Nat) (hi : i < n) (hb : 8 ≤ i ∨ ¬ OkT H W i) {ρ : Type} (nx k0 : Int → Int → Nat → (List Int) → (List Int) → (List Int) → (List Int) → Option ρ) (k1 : Bool → Int → Int → Int → Int → Nat → (List Int) → (List Int) → (List Int) → (List Int) → Option ρ) :
    P.adl s (i : Int) n H W id seed nx k0 k1 = k1 false (H.getD i 0) (W.getD i 0) 0 0 n H W id seed := by
 unfold P.adl
 rw [au (by omega), au (by omega), au (by omega), toNat_cast]
 by_cases h8 : 8 ≤ i
 ·rw [au (by omega)]
 ·rw [dh (by omega)]
  have hb : ¬ OkT H W i := hb.resolve_left h8
  by_cases hf : bdg (H.getD i 0) (W.getD i 0)
  ·rw [(aqn _ _ _).1 hf, p8, wm, au]
   have : ¬ H.getD i 0 ≤ 10 := fun h => hb ⟨hf, h⟩
   omega
  ·rw [(aqn _ _ _).2 hf, p8, ac6]
theorem aww (n : Nat) (H W id seed : List Int) (hH : H.length = n) (i : Nat) (hi : i < n) (h8 : n ≤ 8) (hall : ∀ j, j ≤ i → OkT H W j) {ρ : Type} (nx k0 : Int → Nat → (List Int) → (List Int) → Int → Int → Nat → (List Int) → (List Int) → (List Int) → (List Int) → Option ρ) (k1 : Bool → Int → Int → Int → Int → Nat → (List Int) → (List Int) → (List Int) → (List Int) → Option ρ) :
    P.adp ((sm (hts (H.take i)) : Nat) : Int) n H W (n : Int) (i : Int) n H W id seed nx k0 k1 = nx ((sm (hts (H.take (i + 1))) : Nat) : Int) n H W (n : Int) ((i + 1 : Nat) : Int) n H W id seed := by
 have h1 := azi H W hH i (by omega) (fun j hj => hall j (by omega))
 have h2 := hall i (by omega)
 have h3 := am5 h2.1
 have h4 := h2.2
 unfold P.adp
 rw [au (by omega), au (by omega), au (by omega), toNat_cast, (aqw _ _ _).1 h2.1, p8, wm, dh (by omega), yg (by omega) (by omega), yg (by omega) (by omega), ad1 H i (by omega)]
 congr 1
 omega
theorem ben (n : Nat) (H W id seed : List Int) (s : Int) (i : Nat) (hi : i < n) (hb : ¬ OkT H W i) {ρ : Type} (nx k0 : Int → Nat → (List Int) → (List Int) → Int → Int → Nat → (List Int) → (List Int) → (List Int) → (List Int) → Option ρ) (k1 : Bool → Int → Int → Int → Int → Nat → (List Int) → (List Int) → (List Int) → (List Int) → Option ρ) :
    P.adp s n H W (n : Int) (i : Int) n H W id seed nx k0 k1 = k1 false (H.getD i 0) (W.getD i 0) 0 0 n H W id seed := by
 unfold P.adp
 rw [au (by omega), au (by omega), au (by omega), toNat_cast]
 by_cases hf : bdg (H.getD i 0) (W.getD i 0)
 ·rw [(aqw _ _ _).1 hf, p8, wm, au]
  have : ¬ H.getD i 0 ≤ 10 := fun h => hb ⟨hf, h⟩
  omega
 ·rw [(aqw _ _ _).2 hf, p8, ac6]
theorem ah6 (n : Nat) (H W id seed : List Int) (m : Nat) (hm : m < n) (hb : 8 ≤ m ∨ ¬ OkT H W m) (hall : ∀ j, j < m → OkT H W j) (h8 : m ≤ 8) (hH : H.length = n) {ρ : Type} (k : Bool → Option ρ) : P.aau n H W id seed k = k false := by
 rw [P.akt]; unfold P.afh
 rw [P.ai2]; unfold P.akv P.bij P.bge P.bml
 refine abo (fun i => (((sm (hts (H.take i)) : Nat) : Int), (i : Int), n, H, W, id, seed)) m rfl (fun i hi next hnx => ?_) (fun next => ?_) (by omega)
 ·refine Eq.trans (axa n H W id seed hH i (by omega) (by omega) (fun j hj => hall j (by omega)) _ _ _) hnx
 ·exact bfd n H W id seed _ m hm hb _ _ _
theorem anw {n : Nat} (H : List Int) (hH : H.length = n) : H.take n = H := by rw [← hH, List.take_length]
theorem wh (n : Nat) (H W id seed : List Int) (hH : H.length = n) : ∃ b : Bool, (b = true ↔ FitK n H W id seed) ∧ (∀ {ρ : Type} (k : Bool → Option ρ), P.aa7 n H W id seed k = k b) ∧ ∀ {ρ : Type} (k : Bool → Option ρ), P.aau n H W id seed k = k b := by
 by_cases h8 : n > 8
 ·refine ⟨false, ⟨fun h => (by cases h), fun h => absurd h.n8 (by omega)⟩, fun k => ?_, fun k => ?_⟩
  ·rw [P.ag3]; unfold P.ad2
   rw [au (by omega)]
  ·rcases ajo (OkT H W) 8 with h | ⟨m, m1, m2, m3⟩
   ·exact ah6 n H W id seed 8 (by omega) (.inl (by omega)) h (by omega) hH k
   ·exact ah6 n H W id seed m (by omega) (.inr m2) m3 (by omega) hH k
 ·rcases ajo (OkT H W) n with h | ⟨m, m1, m2, m3⟩
  ·have hs := azi H W hH n (by omega) h
   rw [anw H hH] at hs
   refine ⟨decide (n ≥ 1) && (decide (sm (hts H) ≤ 60) && (decide (id.length = 16) && decide (seed.length = 32))), ?_, fun k => ?_, fun k => ?_⟩
   ·simp only [Bool.and_eq_true, decide_eq_true_eq]
    exact ⟨fun ⟨a, b, c, d⟩ => ⟨a, by omega, h, b, c, d⟩, fun f => ⟨f.n1, f.s, f.i, f.d⟩⟩
   ·rw [P.ag3]; unfold P.ad2
    rw [dh (by omega), P.aj1]; unfold P.akk P.zk2 P.zs2 P.zu2
    refine abo (fun i => (((sm (hts (H.take i)) : Nat) : Int), n, H, W, (n : Int), (i : Int), n, H, W, id, seed)) n rfl (fun i hi next hnx => ?_) (fun next => ?_) (by omega)
    ·refine Eq.trans (aww n H W id seed hH i hi (by omega) (fun j hj => h j (by omega)) _ _ _) hnx
    ·simp only [P.adp]
     rw [dh (by omega)]
     simp only [Sum.elim_inl]
     rw [anw H hH]
     by_cases a1 : n ≥ 1
     ·rw [au (by omega)]
      by_cases a2 : sm (hts H) ≤ 60
      ·rw [au (by omega)]
       by_cases a3 : id.length = 16
       ·rw [dx (by omega), decide_eq_true a1, decide_eq_true a2, decide_eq_true a3, Bool.true_and, Bool.true_and, Bool.true_and]
        by_cases a4 : seed.length = 32
        ·rw [a4]; rfl
        ·rw [decide_eq_false a4, show (((seed.length : Nat) : Int) == 32) = false by rw [beq_eq_false_iff_ne]; omega]
       ·rw [cu (by omega), decide_eq_true a1, decide_eq_true a2, decide_eq_false a3]; rfl
      ·rw [dh (by omega), decide_eq_true a1, decide_eq_false a2]; rfl
     ·rw [dh (by omega), decide_eq_false a1]; rfl
   ·rw [P.akt]; unfold P.afh
    rw [P.ai2]; unfold P.akv P.bij P.bge P.bml
    refine abo (fun i => (((sm (hts (H.take i)) : Nat) : Int), (i : Int), n, H, W, id, seed)) n rfl (fun i hi next hnx => ?_) (fun next => ?_) (by omega)
    ·refine Eq.trans (axa n H W id seed hH i hi (by omega) (fun j hj => h j (by omega)) _ _ _) hnx
    ·simp only [P.adl]
     rw [dh (by omega)]
     simp only [Sum.elim_inl]
     rw [anw H hH]
     by_cases a1 : n ≥ 1
     ·rw [au (by omega)]
      by_cases a2 : sm (hts H) ≤ 60
      ·rw [au (by omega)]
       by_cases a3 : id.length = 16
       ·rw [dx (by omega), decide_eq_true a1, decide_eq_true a2, decide_eq_true a3, Bool.true_and, Bool.true_and, Bool.true_and]
        by_cases a4 : seed.length = 32
        ·rw [a4]; rfl
        ·rw [decide_eq_false a4, show (((seed.length : Nat) : Int) == 32) = false by rw [beq_eq_false_iff_ne]; omega]
       ·rw [cu (by omega), decide_eq_true a1, decide_eq_true a2, decide_eq_false a3]; rfl
      ·rw [dh (by omega), decide_eq_true a1, decide_eq_false a2]; rfl
     ·rw [dh (by omega), decide_eq_false a1]; rfl
  ·refine ⟨false, ⟨fun h => (by cases h), fun h => absurd (h.t m m1) m2⟩, fun k => ?_, fun k => ah6 n H W id seed m m1 (.inr m2) m3 (by omega) hH k⟩
   rw [P.ag3]; unfold P.ad2
   rw [dh (by omega), P.aj1]; unfold P.akk P.zk2 P.zs2 P.zu2
   refine abo (fun i => (((sm (hts (H.take i)) : Nat) : Int), n, H, W, (n : Int), (i : Int), n, H, W, id, seed)) m rfl (fun i hi next hnx => ?_) (fun next => ?_) (by omega)
   ·refine Eq.trans (aww n H W id seed hH i (by omega) (by omega) (fun j hj => m3 j (by omega)) _ _ _) hnx
   ·exact ben n H W id seed _ m m1 m2 _ _ _
theorem afn {n : Nat} {H W id seed : List Int} (hH : H.length = n) (f : FitK n H W id seed) {ρ : Type} (k : Int → Option ρ) : P.aao n H W id seed k = k ((sm (hts H) : Nat) : Int) := by
 rw [P.am0]; unfold P.agc
 rw [P.aot]; unfold P.ang P.zk3 P.zs3 P.zu3
 have n8 := f.n8
 refine abo (fun i => (((sm (hts (H.take i)) : Nat) : Int), n, H, W, (n : Int), (i : Int))) n rfl (fun i hi next hnx => ?_) (fun next => ?_) (by omega)
 ·simp only [P.ahp]
  have h1 := azi H W hH i (by omega) (fun j hj => f.t j (by omega))
  have h2 := f.t i hi
  have h3 := am5 h2.1
  have h4 := h2.2
  rw [au (by omega), au (by omega), au (by omega), toNat_cast, yg (by omega) (by omega), yg (by omega) (by omega)]
  refine Eq.trans ?_ hnx
  rw [ad1 H i (by omega)]
  congr 2
  omega
 ·simp only [P.ahp]
  rw [dh (by omega), anw H hH]
theorem bbj {s : Nat} (h : s ≤ 60) : IntKind.u64.wrap ((1 : Int) * (2 : Int) ^ min ((s : Nat) : Int).toNat 64) = ((2 ^ s : Nat) : Int) := by
 have h2 : 2 ^ s ≤ 2 ^ 60 := Nat.pow_le_pow_right (by omega) h
 rw [toNat_cast, Nat.min_eq_left (by omega), Int.one_mul, show ((2 : Int) ^ s) = ((2 ^ s : Nat) : Int) by simp, aq7 _ (by omega)]
theorem afw {n : Nat} {H W id seed : List Int} (hH : H.length = n) (f : FitK n H W id seed) {ρ : Type} (k : Int → Option ρ) : P.qm n H W id seed k = k ((2 ^ sm (hts H) : Nat) : Int) := by
 obtain ⟨b, hb, h1, _⟩ := wh n H W id seed hH
 have : b = true := hb.2 f
 subst this
 rw [P.afs]; unfold P.ace
 rw [h1, p8, wm, afn hH f, dh (by omega), bbj f.s]
theorem arb {n : Nat} {H W id seed : List Int} (hH : H.length = n) (f : ¬ FitK n H W id seed) {ρ : Type} (k : Int → Option ρ) : P.qm n H W id seed k = k 0 := by
 obtain ⟨b, hb, h1, _⟩ := wh n H W id seed hH
 have : b = false := by cases b with | false => rfl | true => exact absurd (hb.1 rfl) f
 subst this
 rw [P.afs]; unfold P.ace
 rw [h1, p8, ac6]
theorem adk {n : Nat} {H W id seed : List Int} (hH : H.length = n) (f : FitK n H W id seed) {ρ : Type} (k : Int → Option ρ) : P.ql n H W id seed k = k ((2 ^ sm (hts H) : Nat) : Int) := by
 obtain ⟨b, hb, _, h1⟩ := wh n H W id seed hH
 have : b = true := hb.2 f
 subst this
 rw [P.afo]; unfold P.ab8
 rw [h1, p8, wm, P.al2]; unfold P.ajy P.bjl P.bg8 P.bkc
 have n8 := f.n8
 refine abo (fun i => (((2 ^ sm (hts (H.take i)) : Nat) : Int), (i : Int), n, H, W, id, seed)) n rfl (fun i hi next hnx => ?_) (fun next => ?_) (by omega)
 ·simp only [P.af0]
  have h2 := f.t i hi
  have h3 := am5 h2.1
  have h4 := h2.2
  have hs : sm (hts (H.take (i + 1))) ≤ 60 := by
   have := bae (hts H) (i + 1)
   have e : (hts H).take (i + 1) = hts (H.take (i + 1)) := by unfold hts; rw [List.map_take]
   rw [e] at this
   have := f.s
   omega
  have hp : 2 ^ sm (hts (H.take (i + 1))) ≤ 2 ^ 60 := Nat.pow_le_pow_right (by omega) hs
  have he : ((2 ^ sm (hts (H.take i)) : Nat) : Int) * 2 ^ (min (H.getD i 0).toNat 64) = ((2 ^ sm (hts (H.take (i + 1))) : Nat) : Int) := by
   rw [ad1 H i (by omega), Nat.min_eq_left (by omega), Nat.pow_add]
   simp
  rw [au (by omega), au (by omega), au (by omega), toNat_cast, dh (by omega), he, aq7 _ (by omega), yg (by omega) (by omega)]
  exact hnx
 ·simp only [P.af0]
  rw [dh (by omega), anw H hH]
theorem aq2 {n : Nat} {H W id seed : List Int} (hH : H.length = n) (f : ¬ FitK n H W id seed) {ρ : Type} (k : Int → Option ρ) : P.ql n H W id seed k = k 0 := by
 obtain ⟨b, hb, _, h1⟩ := wh n H W id seed hH
 have : b = false := by cases b with | false => rfl | true => exact absurd (hb.1 rfl) f
 subst this
 rw [P.afo]; unfold P.ab8
 rw [h1, p8, ac6]
end Q
end

section
/- bits: Pack. -/
namespace Q
open Go Go.Abs
set_option linter.unusedVariables false
set_option linter.unusedSimpArgs false
theorem ax7 (x w : Nat) (hx : x < 4294967296) (h : w ≤ 24) : bits .and .u32 (x : Int) (IntKind.u32.wrap (IntKind.u32.wrap ((1 : Int) * (2 : Int) ^ min w 32) - (1 : Int))) = ((x % 2 ^ w : Nat) : Int) := by
 have h1 := p2 w
 have h2 : 2 ^ w ≤ 2 ^ 24 := bbm h
 rw [show (1 : Int) = ((1 : Nat) : Int) from rfl, mul_pow 1 w 32 (by omega), bf2 _ (by omega), show ((1 * 2 ^ w : Nat) : Int) - ((1 : Nat) : Int) = ((2 ^ w - 1 : Nat) : Int) by omega, bf2 _ (by omega), bew _ _ hx (by omega), Nat.and_two_pow_sub_one_eq_mod]
end Q
end

section
/- hss: the leaves of a number. -/
namespace Q
open Go Go.Abs
set_option linter.unusedVariables false
set_option linter.unusedSimpArgs false
def ayw (H : List Int) (N : Nat) : List Int := (vec (hts H) N).map (fun (x : Nat) => (x : Int))
theorem amd (H : List Int) (N : Nat) : (ayw H N).length = H.length := by simp [ayw, vec_len, hts]
theorem avs (H : List Int) : (hts H).length = H.length := by simp [hts]
theorem ame (H : List Int) (i : Nat) : (hts H).drop i = hts (H.drop i) := by unfold hts; rw [List.map_drop]
theorem aws (H : List Int) (N i : Nat) (hi : i < H.length) : (ayw H N).getD i 0 = ((N / 2 ^ sm (hts (H.drop (i + 1))) % 2 ^ (H.getD i 0).toNat : Nat) : Int) := by
 have h := azb (hts H) N i (by rw [avs]; exact hi)
 rw [ame, azl] at h
 unfold ayw
 rw [List.getD_eq_getElem?_getD, List.getElem?_map]
 rw [List.getD_eq_getElem?_getD] at h
 cases hq : (vec (hts H) N)[i]? with
 | none =>
  rw [List.getElem?_eq_none_iff, vec_len, avs] at hq
  omega
 | some x =>
  rw [hq] at h
  simp only [Option.getD_some] at h
  simp only [Option.map_some, Option.getD_some]
  rw [h]
theorem alo {n : Nat} {H W id seed : List Int} (hH : H.length = n) (f : FitK n H W id seed) (i : Nat) (hi : i < n) : sm (hts (H.drop i)) = (H.getD i 0).toNat + sm (hts (H.drop (i + 1))) ∧ 1 ≤ H.getD i 0 ∧ H.getD i 0 ≤ 10 ∧ sm (hts (H.drop i)) ≤ 60 := by
 have h2 := f.t i hi
 have h3 := am5 h2.1
 have h4 := azq (hts H) i (by rw [avs]; omega)
 rw [ame, ame, azl] at h4
 have h5 := bae (hts H) i
 rw [ame] at h5
 have := f.s
 exact ⟨h4, h3.1, h2.2, by omega⟩
theorem aqi (N s : Nat) (hs : s ≤ 64) : (N : Int).fdiv ((2 : Int) ^ min ((s : Nat) : Int).toNat 64) = ((N / 2 ^ s : Nat) : Int) := by
 rw [toNat_cast, fdiv_pow N s 64 hs]
theorem ajm {n : Nat} {H W id seed : List Int} (hH : H.length = n) (f : FitK n H W id seed) (N : Nat) (hN : N < 2 ^ sm (hts H)) {ρ : Type} (k : List Int → Int → Option ρ) : P.qc n H W id seed (N : Int) k = k (ayw H N) 0 := by
 obtain ⟨b, hb, h1, _⟩ := wh n H W id seed hH
 have : b = true := hb.2 f
 subst this
 have hs := f.s
 have h60 : 2 ^ sm (hts H) ≤ 2 ^ 60 := Nat.pow_le_pow_right (by omega) hs
 rw [P.ade]; unfold P.aax
 rw [h1, p8, wm, afn hH f, dh (by omega), aqi _ _ (by omega), Nat.div_eq_of_lt hN, l7 (by omega), afn hH f, P.aly]
 unfold P.aji P.zk4 P.zs4 P.zu4
 have n8 := f.n8
 refine abo (fun i => ((N : Int), ((sm (hts (H.drop i)) : Nat) : Int), n, H, W, (n : Int), (i : Int), (ayw H N).take i)) n rfl (fun i hi next hnx => ?_) (fun next => ?_) (by omega)
 ·simp only [P.afp]
  obtain ⟨e1, e2, e3, e4⟩ := alo hH f i hi
  have hsub : ((sm (hts (H.drop i)) : Nat) : Int) - H.getD i 0 = ((sm (hts (H.drop (i + 1))) : Nat) : Int) := by omega
  have htl : ((ayw H N).take i).length ≤ 8 := by rw [List.length_take]; omega
  have hlt : N / 2 ^ sm (hts (H.drop (i + 1))) < 18446744073709551616 := Nat.lt_of_le_of_lt (Nat.div_le_self _ _) (by omega)
  have key : bits BinOp.and IntKind.u32 (IntKind.u32.wrap ((N / 2 ^ sm (hts (H.drop (i + 1))) : Nat) : Int)) (IntKind.u32.wrap (IntKind.u32.wrap ((1 : Int) * (2 : Int) ^ min (H.getD i 0).toNat 32) - (1 : Int))) = (ayw H N).getD i 0 := by
   rw [aws H N i (by omega), bga, show (((N / 2 ^ sm (hts (H.drop (i + 1))) : Nat) : Int) % 4294967296) = ((N / 2 ^ sm (hts (H.drop (i + 1))) % 4294967296 : Nat) : Int) by omega, ax7 _ (H.getD i 0).toNat (by omega) (by omega)]
   congr 1
   have : (4294967296 : Nat) = 2 ^ (H.getD i 0).toNat * 2 ^ (32 - (H.getD i 0).toNat) := by
    rw [← Nat.pow_add, show (H.getD i 0).toNat + (32 - (H.getD i 0).toNat) = 32 by omega]
   rw [this, Nat.mod_mul_right_mod]
  rw [au (by omega), au (by omega), au (by omega), toNat_cast, hsub, yg (x := ((sm (hts (H.drop (i + 1))) : Nat) : Int)) (by omega) (by omega), dh (by omega), dh (by omega), au (by omega), aqi _ _ (by omega), key, yg (by omega) (by omega), ae8 _ _ _ (by rw [amd]; omega)]
  exact hnx
 ·simp only [P.afp]
  rw [dh (by omega), List.take_of_length_le (by rw [amd]; omega)]
theorem alv {n : Nat} {H W id seed : List Int} (hH : H.length = n) (f : FitK n H W id seed) (N : Nat) (hN : ¬ N < 2 ^ sm (hts H)) {ρ : Type} (k : List Int → Int → Option ρ) : P.qc n H W id seed (N : Int) k = k [] 13 := by
 obtain ⟨b, hb, h1, _⟩ := wh n H W id seed hH
 have : b = true := hb.2 f
 subst this
 have hs := f.s
 have h1' : 1 ≤ N / 2 ^ sm (hts H) := (Nat.le_div_iff_mul_le (Nat.two_pow_pos _)).2 (by omega)
 rw [P.ade]; unfold P.aax
 rw [h1, p8, wm, afn hH f, dh (by omega), aqi _ _ (by omega), jo (by omega)]
theorem aqo {n : Nat} {H W id seed : List Int} (hH : H.length = n) (f : ¬ FitK n H W id seed) (N : Int) {ρ : Type} (k : List Int → Int → Option ρ) : P.qc n H W id seed N k = k [] 10 := by
 obtain ⟨b, hb, h1, _⟩ := wh n H W id seed hH
 have : b = false := by cases b with | false => rfl | true => exact absurd (hb.1 rfl) f
 subst this
 rw [P.ade]; unfold P.aax
 rw [h1, p8, ac6]
theorem ba1 (l : List Int) (m : Nat) (h : m < l.length) : (List.replicate (m + 1) 0 ++ l.drop (m + 1)).set m (l.getD m 0) = List.replicate m 0 ++ l.drop m := by
 rw [List.replicate_succ', List.append_assoc, List.set_append_right _ _ (by simp), acn l 0 m h]
 simp
theorem arp {n : Nat} {H W id seed : List Int} (hH : H.length = n) (f : FitK n H W id seed) (N : Nat) (hN : N < 2 ^ sm (hts H)) {ρ : Type} (k : List Int → Int → Option ρ) : P.vw n H W id seed (N : Int) k = k (ayw H N) 0 := by
 obtain ⟨b, hb, _, h1⟩ := wh n H W id seed hH
 have : b = true := hb.2 f
 subst this
 have hs := f.s
 have h60 : 2 ^ sm (hts H) ≤ 2 ^ 60 := Nat.pow_le_pow_right (by omega) hs
 have n8 := f.n8
 have n1 := f.n1
 have hvl := amd H N
 rw [P.adg]; unfold P.aaw
 rw [h1, p8, wm, adk hH f, dh (by omega), au (by omega), au (by omega), yg (by omega) (by omega), P.al1, toNat_cast]
 unfold P.ajc P.biv P.bhe P.bl0
 refine abo (fun j => (((N / 2 ^ sm (hts (H.drop (n - j))) : Nat) : Int), ((n - j : Nat) : Int) - 1, n, H, W, id, seed, List.replicate (n - j) 0 ++ (ayw H N).drop (n - j))) n ?_ (fun j hj next hnx => ?_) (fun next => ?_) (by omega)
 ·rw [Nat.sub_zero, List.drop_eq_nil_of_le (by omega), List.drop_eq_nil_of_le (by omega), List.append_nil]
  simp [hts, sm]
 ·simp only [P.afu]
  obtain ⟨m, hm⟩ : ∃ m, n - j = m + 1 := ⟨n - j - 1, by omega⟩
  have hm2 : n - (j + 1) = m := by omega
  rw [hm2] at hnx
  rw [hm]
  obtain ⟨e1, e2, e3, e4⟩ := alo hH f m (by omega)
  have hlt : N / 2 ^ sm (hts (H.drop (m + 1))) < 18446744073709551616 := Nat.lt_of_le_of_lt (Nat.div_le_self _ _) (by omega)
  have ei : (((m + 1 : Nat) : Int) - 1).toNat = m := by omega
  have hpw : IntKind.u64.wrap ((1 : Int) * (2 : Int) ^ min (H.getD m 0).toNat 64) = ((2 ^ (H.getD m 0).toNat : Nat) : Int) := by
   have := bbj (s := (H.getD m 0).toNat) (by omega)
   rwa [toNat_cast] at this
  have h10 : 2 ^ (H.getD m 0).toNat ≤ 2 ^ 10 := Nat.pow_le_pow_right (by omega) (by omega)
  have hp1 := Nat.two_pow_pos (H.getD m 0).toNat
  have hmd := Nat.mod_lt (N / 2 ^ sm (hts (H.drop (m + 1)))) hp1
  have hll : (List.replicate (m + 1) (0 : Int) ++ (ayw H N).drop (m + 1)).length = n := by
   rw [List.length_append, List.length_replicate, List.length_drop]; omega
  rw [au (by omega), au (by omega), au (by omega), ei, dh (by omega), hpw, dh (by omega), au (by omega), au (by omega), au (by omega), au (by omega), dh (by omega), tmN, bf2 _ (by omega), ← aws H N m (by omega), ba1 _ _ (by omega), fdiv_pow _ _ _ (by omega),
   Nat.div_div_eq_div_mul, ← Nat.pow_add, Nat.add_comm (sm _), ← e1, yg (by omega) (by omega)]
  rw [show ((m + 1 : Nat) : Int) - 1 - 1 = ((m : Nat) : Int) - 1 by omega]
  exact hnx
 ·simp only [P.afu]
  rw [dh (by omega), Nat.sub_self]
  rfl
theorem al3 {n : Nat} {H W id seed : List Int} (hH : H.length = n) (f : FitK n H W id seed) (N : Nat) (hN : ¬ N < 2 ^ sm (hts H)) {ρ : Type} (k : List Int → Int → Option ρ) : P.vw n H W id seed (N : Int) k = k [] 13 := by
 obtain ⟨b, hb, _, h1⟩ := wh n H W id seed hH
 have : b = true := hb.2 f
 subst this
 rw [P.adg]; unfold P.aaw
 rw [h1, p8, wm, adk hH f, au (by omega)]
theorem aru {n : Nat} {H W id seed : List Int} (hH : H.length = n) (f : ¬ FitK n H W id seed) (N : Int) {ρ : Type} (k : List Int → Int → Option ρ) : P.vw n H W id seed N k = k [] 10 := by
 obtain ⟨b, hb, _, h1⟩ := wh n H W id seed hH
 have : b = false := by cases b with | false => rfl | true => exact absurd (hb.1 rfl) f
 subst this
 rw [P.adg]; unfold P.aaw
 rw [h1, p8, ac6]
theorem aor {ρ : Type} (k : Int → Option ρ) : P.aap [] [] [] k = k 10 := by
 rw [P.ai4]; unfold P.aep
 rw [jo (by simp)]
theorem asi : FitK 2 [(2 : Int), (3 : Int)] [(1 : Int), (1 : Int)] (List.replicate 16 (0 : Int)) (List.replicate 32 (0 : Int)) where
 n1 := by omega
 n8 := by omega
 t := fun j hj => by
  have : j = 0 ∨ j = 1 := by omega
  rcases this with rfl | rfl <;> (unfold OkT bdg; decide)
 s := by decide
 i := by simp
 d := by simp
theorem p9 {ρ : Type} (k : Bool → Option ρ) : P.p9 k = k true := by
 rw [P.ak1]; unfold P.afg
 have hv := ajm (by rfl) asi 9 (by decide) (ρ := ρ)
 have hl := afw (by rfl) asi (ρ := ρ)
 rw [show (9 : Int) = ((9 : Nat) : Int) from rfl, hv, hl, show ayw [2, 3] 9 = [1, 1] by decide, dx (by decide), dx rfl, dx (by decide), au (by decide), dx (by decide), au (by decide), dx (by decide), aor]
 rfl
theorem ac4 (l : List (List Int)) (hl : l.length ≤ 100) {ρ : Type} (k : Bool → Option ρ) : (P.ac4 l k = k true ∧ ∀ i, i < l.length → (l.getD i []).length ≤ 300) ∨ P.ac4 l k = k false := by
 rw [P.apk]
 unfold P.aii
 rw [P.ard]
 unfold P.ap3 P.zk1 P.zs1 P.zu1
 rcases ajo (fun i => (l.getD i []).length ≤ 300) l.length with h | ⟨m, m1, m2, m3⟩
 ·refine .inl ⟨abo (fun i => (l, (l.length : Int), (i : Int))) l.length rfl (fun i hi next hn' => ?_) (fun next => ?_) (by omega), h⟩
  ·have := h i hi
   simp only [P.aff, toNat_cast]
   rw [au (by omega), au (by omega), au (by omega), dh (by omega), yg (by omega) (by omega)]
   exact hn'
  ·simp only [P.aff]
   rw [dh (by omega)]
   rfl
 ·refine .inr (abo (fun i => (l, (l.length : Int), (i : Int))) m rfl (fun i hi next hn' => ?_) (fun next => ?_) (by omega))
  ·have := m3 i hi
   simp only [P.aff, toNat_cast]
   rw [au (by omega), au (by omega), au (by omega), dh (by omega), yg (by omega) (by omega)]
   exact hn'
  ·simp only [P.aff, toNat_cast]
   rw [au (by omega), au (by omega), au (by omega), au (by omega)]
   rfl
end Q
end

section
namespace Q
open Go Go.Abs
set_option linter.unusedVariables false
set_option linter.unusedSimpArgs false
theorem HssTells (x0_Treesn : Nat) (x0_Trees0 : List Int) (x0_Trees1 : List Int) (x0_Id : List Int) (x0_Seed : List Int) (x1 : Int) (bx0_Trees : x0_Treesn ≤ 140737488355328) (mx0_Trees0 : x0_Trees0.length = x0_Treesn) (wx0_Trees0 : ∀ x, x ∈ x0_Trees0 → wfI .i64 x) (mx0_Trees1 : x0_Trees1.length = x0_Treesn) (wx0_Trees1 : ∀ x, x ∈ x0_Trees1 → wfI .i64 x) (nx0_Id : x0_Id.length ≤ 140737488355328) (wx0_Id : ∀ x, x ∈ x0_Id → wfI .u8 x) (nx0_Seed : x0_Seed.length ≤ 140737488355328) (wx0_Seed : ∀ x, x ∈ x0_Seed → wfI .u8 x) (wx1 : wfI .u64 x1) {ρ : Type} (k : Bool → Option ρ) : P.uh x0_Treesn x0_Trees0 x0_Trees1 x0_Id x0_Seed x1 k = k true := by
 rw [P.aga]; unfold P.ac3
 by_cases h20 : x0_Treesn > 20
 ·rw [au (by omega), p9]
 rw [dh (by omega)]
 rcases ac4 [x0_Id, x0_Seed] (by simp) (fun (q1 : Bool) => _) with ⟨hf, _⟩ | hf
 ·rw [hf, p8, wm]
  obtain ⟨N, rfl⟩ : ∃ N : Nat, x1 = (N : Int) := ⟨x1.toNat, by have := wf_u64 wx1; omega⟩
  obtain ⟨b, hb, h1, h2⟩ := wh x0_Treesn x0_Trees0 x0_Trees1 x0_Id x0_Seed mx0_Trees0
  by_cases f : FitK x0_Treesn x0_Trees0 x0_Trees1 x0_Id x0_Seed
  ·by_cases hN : N < 2 ^ sm (hts x0_Trees0)
   ·rw [ajm mx0_Trees0 f N hN, arp mx0_Trees0 f N hN, h1, h2]
    simp only [beq_self_eq_true, wm]
    rw [afw mx0_Trees0 f, adk mx0_Trees0 f]
    simp only [beq_self_eq_true, wm]
    rw [mh _ _ (by rw [amd]; omega), decide_eq_true rfl, wm, p9]
   ·rw [alv mx0_Trees0 f N hN, al3 mx0_Trees0 f N hN, h1, h2]
    simp only [beq_self_eq_true, wm]
    rw [afw mx0_Trees0 f, adk mx0_Trees0 f]
    simp only [beq_self_eq_true, wm]
    rw [mh _ _ (by simp), decide_eq_true rfl, wm, p9]
  ·rw [aqo mx0_Trees0 f, aru mx0_Trees0 f, h1, h2]
   simp only [beq_self_eq_true, wm]
   rw [arb mx0_Trees0 f, aq2 mx0_Trees0 f]
   simp only [beq_self_eq_true, wm]
   rw [mh _ _ (by simp), decide_eq_true rfl, wm, p9]
 ·rw [hf, p8, ac6, p9]
end Q
end
