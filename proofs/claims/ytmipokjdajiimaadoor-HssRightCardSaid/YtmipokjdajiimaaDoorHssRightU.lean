/-
  HssRight, part 21: an interpreter of my own over abstract values, the pure functions, the walks and the plain law.
-/

import Derived.Test.YtmipokjdajiimaaDoorHssRightT
import Derived.Test.YtmipokjdajiimaaDoorHssRightK

section
/- hss: the document's signatures; what is signed is right. -/
namespace Q
open Go Go.Abs
set_option linter.unusedVariables false
set_option linter.unusedSimpArgs false
section
variable {n : Nat} {H W id seed : List Int}
def tlH (n : Nat) (H W id seed : List Int) (N : Nat) (text : List Int) : Nat → List Int
 | 0 => akd H W id seed N (n - 1) text
 | m + 1 => akd H W id seed N (n - 2 - m) (adf H W id seed N (n - 2 - m + 1)) ++ (adf H W id seed N (n - 2 - m + 1) ++ tlH n H W id seed N text m)
theorem bqy (N : Nat) (text : List Int) : ∀ m, m < n → bjb n H W id seed N (n - 1 - m) ++ tlH n H W id seed N text m = bkv n H W id seed N text
 | 0, _ => rfl
 | m + 1, hm => by
  have ih := bqy N text m (by omega)
  rw [← ih, tlH, show n - 1 - m = (n - 2 - m) + 1 by omega, show n - 1 - (m + 1) = n - 2 - m by omega]
  unfold bjb
  rw [vw]
  unfold ay9
  simp only [List.append_assoc]
theorem bbf {w p s : Nat} (hk : Kind w p s) (h : Nat) (hh : o7 h ≠ 0) (id seed text more : List Int) (q : Nat) : cutV (at0 w p s id seed h q text ++ more) = (at0 w p s id seed h q text, (h : Int), (w : Int), more, 0) := by
 obtain ⟨p1, p2, _, _, _⟩ := arh hk id seed h q text more hh
 have hl := auw w p s id seed h q text
 unfold cutV
 rw [bh3 hk h hh _ p1 p2 (by rw [List.length_append]; omega), ← hl, List.take_left, List.drop_left]
 rfl
theorem bml (hH : H.length = n) (hid : In 256 id) (hsd : In 256 seed) (f : FitK n H W id seed) (N i : Nat) (hi : i < n) (text : List Int) (ht : In 256 text) (htl : text.length ≤ 300) : bir (adf H W id seed N i) text (akd H W id seed N i text) = 0 := by
 have L := axt f i hi
 obtain ⟨d1, d2, d3, d4⟩ := bgw H id seed N hid f.i hsd f.d i
 unfold bir adf akd
 rw [(bmy L.k _ L.c L.l _ _ text d1 d2 ht htl _ (btl hH f N i hi).2 (fun v => some v)).1]
 rfl
theorem bh0 (hH : H.length = n) (hid : In 256 id) (hsd : In 256 seed) (f : FitK n H W id seed) (N : Nat) (text : List Int) (ht : In 256 text) (htl : text.length ≤ 300) : ∀ m, m < n → hv text (m + 1) (adf H W id seed N (n - 1 - m)) (tlH n H W id seed N text m) = 0 ∧ hv text (m + 1) (adf H W id seed N (n - 1 - m)) (tlH n H W id seed N text m ++ [0]) = 1
 | 0, hm => by
  have L := axt f (n - 1) (by omega)
  have c1 := bbf L.k _ L.c (dn H id seed N (n - 1)).1 (dn H id seed N (n - 1)).2 text [] (qN H N (n - 1))
  have c2 := bbf L.k _ L.c (dn H id seed N (n - 1)).1 (dn H id seed N (n - 1)).2 text [0] (qN H N (n - 1))
  rw [List.append_nil] at c1
  have hv0 := bml hH hid hsd f N (n - 1) (by omega) text ht htl
  unfold akd at hv0
  constructor
  ·rw [bb9, tlH]
   unfold akd
   rw [c1]
   simp [hv0]
  ·rw [bb9, tlH]
   unfold akd
   rw [c2]
   simp
 | m + 1, hm => by
  obtain ⟨ih1, ih2⟩ := bh0 hH hid hsd f N text ht htl m (by omega)
  have L := axt f (n - 2 - m) (by omega)
  have hkl := akj hid hsd f N (n - 2 - m + 1)
  have hki := auo hid hsd f N (n - 2 - m + 1)
  have hv0 := bml hH hid hsd f N (n - 2 - m) (by omega) (adf H W id seed N (n - 2 - m + 1)) hki (by omega)
  rw [show n - 1 - m = n - 2 - m + 1 by omega] at ih1 ih2
  have one : ∀ (more : List Int) (r : Int), hv text (m + 1) (adf H W id seed N (n - 2 - m + 1)) more = r → hv text (m + 1 + 1) (adf H W id seed N (n - 2 - m)) (akd H W id seed N (n - 2 - m) (adf H W id seed N (n - 2 - m + 1)) ++ (adf H W id seed N (n - 2 - m + 1) ++ more)) = r := by
   intro more r hr
   have c1 := bbf L.k _ L.c (dn H id seed N (n - 2 - m)).1 (dn H id seed N (n - 2 - m)).2 (adf H W id seed N (n - 2 - m + 1)) (adf H W id seed N (n - 2 - m + 1) ++ more) (qN H N (n - 2 - m))
   rw [bb9]
   unfold akd at hv0 ⊢
   rw [c1]
   have e1 : (adf H W id seed N (n - 2 - m + 1) ++ more).take 56 = adf H W id seed N (n - 2 - m + 1) := by rw [← hkl, List.take_left]
   have e2 : (adf H W id seed N (n - 2 - m + 1) ++ more).drop 56 = more := by rw [← hkl, List.drop_left]
   dsimp only
   rw [if_neg (by decide), if_neg (by omega), if_neg (by rw [List.length_append]; omega), e1, e2, hv0, if_neg (by decide)]
   exact hr
  rw [show n - 1 - (m + 1) = n - 2 - m by omega, tlH]
  refine ⟨one _ _ ih1, ?_⟩
  have := one _ _ ih2
  simpa only [List.append_assoc] using this
theorem am2 (a0 a1 a2 : List Int) (h0 : In 256 a0) (h1 : In 256 a1) (h2 : In 256 a2) (n1 : a1.length ≤ 300) (n2 : a2.length ≤ 100000) (l0 : a0.length = 60) (m : Nat) (hm0 : nm a0 0 4 = m) (hm1 : 1 ≤ m) (hm8 : m ≤ 8) (l2 : 4 ≤ a2.length) (hm2 : nm a2 0 4 + 1 = m) {ρ : Type} (k : Int → Option ρ) :
    P.tq a0 a1 a2 k = k (hv a1 m (a0.drop 4) (a2.drop 4)) := by
 have e4 : Int.toNat (4 : Int) = 4 := rfl
 have w1 : IntKind.u64.wrap (((m : Nat) : Int) - 1) = ((m - 1 : Nat) : Int) := by
  rw [show ((m : Nat) : Int) - 1 = ((m - 1 : Nat) : Int) by omega, aag _ (by omega)]
 rw [P.ajd]; unfold P.aek
 rw [au (by omega), ah (by omega), e4, z8 a0 h0 0 4 (by omega), hm0, bg (by omega), bg (by omega), bg (by omega), ah (by omega), z8 a2 h2 0 4 (by omega), w1, au (by omega), ah (by omega), ah (by omega), ah (by omega), ah (by omega), toNat_cast, toNat_cast, List.take_length, List.take_length,
  bp4 a1 h1 n1 _ (by omega) _ _ (h0.drop _) (by rw [List.length_drop]; omega) (h2.drop _) (by rw [List.length_drop]; omega)]
theorem avu (hH : H.length = n) (hid : In 256 id) (hsd : In 256 seed) (f : FitK n H W id seed) (N : Nat) (text : List Int) (ht : In 256 text) (htl : text.length ≤ 300) {ρ : Type} (k : Int → Option ρ) :
    P.tq (bo1 n H W id seed) text (bkv n H W id seed N text) k = k 0 ∧ P.tq (bo1 n H W id seed) text (bkv n H W id seed N text ++ [0]) k = k 1 := by
 have n8 := f.n8
 have n1 := f.n1
 have hkl := akj hid hsd f 0 0
 have hol := bbt hid hsd f N (n - 1) (by omega)
 have hoi := bsu hid hsd f N (n - 1)
 have hsl := (akk f N (n - 1) (by omega) text).2
 have hki : In 256 (bo1 n H W id seed) := (zf _ _).app (auo hid hsd f 0 0)
 have hkhl : (bo1 n H W id seed).length = 60 := by simp [bo1, kr, hkl]
 have hsi : In 256 (bkv n H W id seed N text) := hoi.app (bjz _ _ _)
 have hshl : (bkv n H W id seed N text).length ≤ 90000 := by unfold bkv; rw [List.length_append]; omega
 have d0 : (bo1 n H W id seed).drop 4 = adf H W id seed N 0 := by
  unfold bo1
  have := List.drop_left (l₁ := beN n 4) (l₂ := adf H W id seed 0 0)
  rwa [kr] at this
 have m0 : nm (bo1 n H W id seed) 0 4 = n := avm n (by omega) _ 0 (by
  unfold bo1
  rw [List.drop_zero, List.take_append_of_le_length (by rw [kr]; omega), List.take_of_length_le (by rw [kr]; omega)])
 have hs := bqy (n := n) (H := H) (W := W) (id := id) (seed := seed) N text (n - 1) (by omega)
 rw [Nat.sub_self] at hs
 have ho0 : bjb n H W id seed N 0 = beN (n - 1) 4 := by simp [bjb, aas]
 rw [ho0] at hs
 have dd : ∀ more : List Int, (bkv n H W id seed N text ++ more).drop 4 = tlH n H W id seed N text (n - 1) ++ more := by
  intro more
  rw [← hs, List.append_assoc]
  have := List.drop_left (l₁ := beN (n - 1) 4) (l₂ := tlH n H W id seed N text (n - 1) ++ more)
  rwa [kr] at this
 have mm : ∀ more : List Int, nm (bkv n H W id seed N text ++ more) 0 4 = n - 1 := fun more => avm (n - 1) (by omega) _ 0 (by
  rw [← hs, List.append_assoc, List.drop_zero, List.take_append_of_le_length (by rw [kr]; omega), List.take_of_length_le (by rw [kr]; omega)])
 have hl4 : 4 ≤ (bkv n H W id seed N text).length := by rw [← hs, List.length_append, kr]; omega
 obtain ⟨r1, r2⟩ := bh0 hH hid hsd f N text ht htl (n - 1) (by omega)
 rw [Nat.sub_self, show n - 1 + 1 = n by omega] at r1 r2
 constructor
 ·have hd := dd []
  have hm := mm []
  rw [List.append_nil, List.append_nil] at hd
  rw [List.append_nil] at hm
  rw [am2 _ text _ hki ht hsi htl (by omega) hkhl n m0 n1 n8 hl4 (by omega), d0, hd, r1]
 ·rw [am2 _ text _ hki ht (hsi.app (fun y hy => by simp at hy; omega)) htl (by rw [List.length_append]; simp; omega) hkhl n m0 n1 n8 (by rw [List.length_append]; omega) (by rw [mm]; omega), d0, dd, r2]
end
end Q
end

section
namespace Q
open Go Go.Abs
set_option linter.unusedVariables false
set_option linter.unusedSimpArgs false
theorem HssRight (x0 : Int) (x1 : Int) (x2 : List Int) (x3 : List Int) (x4 : Int) (x5 : List Int) (wx0 : wfI .u8 x0) (wx1 : wfI .u8 x1) (nx2 : x2.length = 16) (wx2 : ∀ x, x ∈ x2 → wfI .u8 x) (nx3 : x3.length = 32) (wx3 : ∀ x, x ∈ x3 → wfI .u8 x) (wx4 : wfI .u8 x4) (nx5 : x5.length ≤ 140737488355328) (wx5 : ∀ x, x ∈ x5 → wfI .u8 x) {ρ : Type} (k : Bool → Option ρ) : P.za x0 x1 x2 x3 x4 x5 k = k true := by
 rw [P.al3]; unfold P.afg
 rcases afl [x5] (by simp) (fun (q0 : Bool) => _) with ⟨hf, hl⟩ | hf
 ·rw [hf, ji, o9]
  have l5 : x5.length ≤ 300 := hl 0 (by simp)
  obtain ⟨h, eh, ch⟩ := bmk x0 wx0
  obtain ⟨w, ew, cw⟩ := bmk x1 wx1
  obtain ⟨m, rfl⟩ : ∃ m : Nat, x4 = (m : Int) := ⟨x4.toNat, by have := wf_u8 wx4; omega⟩
  have hm := wf_u8 wx4
  have e2 : List.take 16 (List.drop 0 x2) = x2 := by rw [List.drop_zero, List.take_of_length_le (by omega)]
  have e3 : List.take 32 (List.drop 0 x3) = x3 := by rw [List.drop_zero, List.take_of_length_le (by omega)]
  rw [eh, ew, e2, e3]
  have f : FitK 2 [1, (h : Int)] [1, (w : Int)] x2 x3 := by
   refine ⟨by omega, by omega, fun j hj => ?_, ?_, nx2, nx3⟩
   ·have : j = 0 ∨ j = 1 := by omega
    rcases this with rfl | rfl
    ·rcases ch with rfl | rfl <;> rcases cw with rfl | rfl <;> (unfold OkT be8; decide)
    ·rcases ch with rfl | rfl <;> rcases cw with rfl | rfl <;> (unfold OkT be8; decide)
   ·rcases ch with rfl | rfl <;> decide
  have i2 := bs3 wx2
  have i3 := bs3 wx3
  have i5 := bs3 wx5
  have hH : ([1, (h : Int)] : List Int).length = 2 := rfl
  have hW : ([1, (w : Int)] : List Int).length = 2 := rfl
  have hp := Nat.two_pow_pos (sm (hts [1, (h : Int)]))
  have hmd := Nat.mod_lt m hp
  obtain ⟨r1, r2⟩ := avu hH i2 i3 f (m % 2 ^ sm (hts [1, (h : Int)])) x5 i5 l5 (ρ := ρ) (fun q => br (q == (0 : Int)) (k true) (k false))
  have hol := bbt i2 i3 f (m % 2 ^ sm (hts [1, (h : Int)])) (2 - 1) (by omega)
  have hsl := (akk f (m % 2 ^ sm (hts [1, (h : Int)])) (2 - 1) (by omega) x5).2
  have hshl : (bkv 2 [1, (h : Int)] [1, (w : Int)] x2 x3 (m % 2 ^ sm (hts [1, (h : Int)])) x5).length ≤ 90000 := by
   unfold bkv; rw [List.length_append]; omega
  rw [apm hH f, ak (by omega), bg (by omega), aag m (by omega), tmN, bax hH i2 i3 f, bf9 hH hW i2 i3 f _ hmd x5 i5 l5, bq rfl, bq rfl, (avu hH i2 i3 f _ x5 i5 l5 _).1, bq rfl, ah (by omega), (avu hH i2 i3 f _ x5 i5 l5 _).2, bq rfl, zx]
 ·rw [hf, ji, vo, zx]
end Q
end
