/-
  LeasePlays, part 20: an interpreter of my own over abstract values, the pure functions, the walks and the plain law.
-/

import Derived.Test.YtkfjafaabbmapaaDoorLeasePlaysS
import Derived.Test.YtkfjafaabbmapaaDoorLeasePlaysK
import Derived.Test.YtkfjafaabbmapaaDoorLeasePlaysL
import Derived.Test.YtkfjafaabbmapaaDoorLeasePlaysI

section
/- SHA-2: sums that go on, and their ends. -/
namespace Q
open Go Go.Abs
set_option linter.unusedVariables false
set_option linter.unusedSimpArgs false
def bsz (kind : Int) : Nat := if kind = 1 then 64 else 128
theorem akf (kind : Int) : (kind = 1 ∧ bsz kind = 64) ∨ (kind ≠ 1 ∧ bsz kind = 128) := by
 unfold bsz
 by_cases h : kind = 1
 ·exact .inl ⟨h, if_pos h⟩
 ·exact .inr ⟨h, if_neg h⟩
theorem ou (kind : Int) {ρ : Type} (k : Int → Option ρ) : P.ou kind k = k ((bsz kind : Nat) : Int) := by
 rw [P.ag7]; unfold P.acy
 rcases akf kind with ⟨h, e⟩ | ⟨h, e⟩
 ·rw [bn h, e]; rfl
 ·rw [dw h, e]; rfl
theorem tu (kind : Int) {ρ : Type} (k : Int → Option ρ) : P.tu kind k = k ((bsz kind : Nat) : Int) := by
 rw [P.ang]; unfold P.agb
 rcases akf kind with ⟨h, e⟩ | ⟨h, e⟩
 ·rw [bn h, e]; rfl
 ·rw [dw h, e]; rfl
def awv (kind : Int) (words all : List Int) : List Int :=
 if kind = 1 then cv (thr p32 (toV 32 words) all (all.length / 64)) else cv (thr p64 (toV 64 words) all (all.length / 128))
theorem aza (kind : Int) (words all : List Int) : (awv kind words all).length = 8 := by
 unfold awv
 split <;> rw [qp, ajz _ _ (ajv _ _)]
def Wok (kind : Int) (words : List Int) : Prop := words.length = 8 ∧ In 18446744073709551616 words ∧ (kind = 1 → In 4294967296 words)
theorem apf (kind : Int) (words all : List Int) : Wok kind (awv kind words all) := by
 refine ⟨aza _ _ _, ?_, fun h => ?_⟩
 ·unfold awv
  split
  ·intro x hx
   have := bgj _ x hx
   omega
  ·intro x hx
   have := bgj _ x hx
   omega
 ·unfold awv
  rw [if_pos h]
  intro x hx
  have := bgj _ x hx
  omega
theorem azg (n : Nat) (hn : 0 < n) (b : List Int) : (rest n b).length = b.length % n := by
 unfold rest
 rw [List.length_drop]
 have := Nat.div_add_mod b.length n
 omega
theorem bb9 {n : Nat} {b : List Int} (h : In 256 b) : In 256 (rest n b) := h.drop _
theorem aap {ρ : Type} (k : Int → Int → List Int → List Int → List Int → List Int → Option ρ) : P.aap k = k 32 64 [7, 18, 3] [17, 19, 10] [2, 13, 22] [6, 11, 25] := by rw [P.am7]; rfl
theorem aag {ρ : Type} (k : Int → Int → List Int → List Int → List Int → List Int → Option ρ) : P.aag k = k 64 80 [1, 8, 7] [19, 61, 6] [28, 34, 39] [14, 18, 41] := by rw [P.am8]; rfl
theorem abr (kind : Int) (words tail : List Int) (size : Int) (b : List Int) (hl : words.length = 8) (hi : In 18446744073709551616 words) (ht : In 256 tail) (hb : In 256 b) (hn : tail.length + b.length ≤ 1000000) {ρ : Type} (k : Int → List Int → List Int → Int → Option ρ) :
    P.abr kind words tail size b k = k kind (awv kind words (tail ++ b)) (rest (bsz kind) (tail ++ b)) (IntKind.u64.wrap (size + IntKind.u64.wrap (b.length : Int))) := by
 rw [P.asb]; unfold P.aju
 have hf : [tail, b].flatten = tail ++ b := by simp
 have hall : (tail ++ b).length ≤ 1000000 := by rw [List.length_append]; exact hn
 have hin : In 256 (tail ++ b) := ht.app hb
 have hr : ∀ n, (rest n (tail ++ b)).length ≤ 1000000 := fun n => by unfold rest; rw [List.length_drop]; omega
 rw [jd _ (by simp) (by rw [hf]; omega), hf]
 rcases akf kind with ⟨h, e⟩ | ⟨h, e⟩
 ·rw [bn h, aap, e]
  rw [aw3 words _ hl hi hin hall]
  unfold P.gy awv
  have := hr 64
  rw [av (by omega), if_pos h]
 ·rw [dw h, aag, e]
  rw [axj words _ hl hi hin hall]
  unfold P.gy awv
  have := hr 128
  rw [av (by omega), if_neg h]
theorem aax (kind : Int) (words tail : List Int) (size : Int) (b : List Int) (hw : Wok kind words) (ht : In 256 tail) (hb : In 256 b) (hn : tail.length + b.length ≤ 1000000) {ρ : Type} (k : Int → List Int → List Int → Int → Option ρ) :
    P.aax kind words tail size b k = k kind (awv kind words (tail ++ b)) (rest (bsz kind) (tail ++ b)) (IntKind.u64.wrap (size + IntKind.u64.wrap (b.length : Int))) := by
 rw [P.asa]; unfold P.aj8
 obtain ⟨hl, hi, h1⟩ := hw
 have hf : [tail, b].flatten = tail ++ b := by simp
 have hall : (tail ++ b).length ≤ 1000000 := by rw [List.length_append]; exact hn
 have hin : In 256 (tail ++ b) := ht.app hb
 rw [tu, y8 _ (by simp) (by rw [hf]; omega), hf]
 rcases akf kind with ⟨h, e⟩ | ⟨h, e⟩
 ·have hv := bfx 32 words hl (h1 h)
  rw [e]
  conv => lhs; rw [← hv]
  rw [show ((64 : Nat) : Int) = 64 from rfl, blp _ (ajv _ _) _ hin hall]
  unfold awv
  rw [if_pos h]
 ·have hv := bfx 64 words hl hi
  rw [e]
  conv => lhs; rw [← hv]
  rw [show ((128 : Nat) : Int) = 128 from rfl, bk5 _ (ajv _ _) _ hin hall]
  unfold awv
  rw [if_neg h]
def az1 (kind : Int) (tl : Nat) : Nat := if kind = 1 then (119 - tl) % 64 else (239 - tl) % 128 + 8
def pad (kind : Int) (tl : Nat) (size : Nat) : List Int := 128 :: List.replicate (az1 kind tl) 0 ++ (bsw 8 8 (size * 8 % 2 ^ 64)).reverse
def axr (n : Nat) (words : List Int) (i : Nat) : List Int := ((List.range i).map fun j => (bsw 8 n (words.getD j 0).toNat).reverse).flatten
theorem alp (n : Nat) (words : List Int) (i : Nat) : axr n words (i + 1) = axr n words i ++ (bsw 8 n (words.getD i 0).toNat).reverse := by simp [axr, List.range_succ]
theorem afc (n : Nat) (words : List Int) : ∀ i, (axr n words i).length = n * i
 | 0 => by simp [axr]
 | i + 1 => by rw [alp, List.length_append, afc n words i, List.length_reverse, zi, Nat.mul_succ]
theorem ax2 (n : Nat) (words : List Int) : ∀ i, In 256 (axr n words i)
 | 0 => by simp [axr, In]
 | i + 1 => by rw [alp]; exact (ax2 n words i).app (bbq 8 n _).rev
def bdx (kind : Int) (words tail : List Int) (size : Nat) : List Int :=
 let o := axr (bsz kind / 16) (awv kind words (tail ++ pad kind tail.length size)) 8
 if kind = 2 then o.take 48 else o
theorem bh7 (kind : Int) (words tail : List Int) (size : Nat) : In 256 (bdx kind words tail size) := by
 unfold bdx
 simp only
 split
 ·exact (ax2 _ _ _).take _
 ·exact ax2 _ _ _
theorem be3 (kind : Int) (words tail : List Int) (size : Nat) : (bdx kind words tail size).length = if kind = 1 then 32 else if kind = 2 then 48 else 64 := by
 unfold bdx
 simp only
 rcases akf kind with ⟨h, e⟩ | ⟨h, e⟩
 ·rw [if_neg (by omega), if_pos h, afc, e]
 ·rw [if_neg h, e]
  split
  ·rw [List.length_take, afc]; decide
  ·rw [afc]
theorem tmN (a b : Nat) : ((a : Nat) : Int).tmod (b : Int) = ((a % b : Nat) : Int) := by
 rw [Int.tmod_eq_emod_of_nonneg (by omega)]; rfl
theorem ba1 (kind : Int) (tl size : Nat) : In 256 (pad kind tl size) := by
 unfold pad
 refine In.app ?_ (bbq 8 8 _).rev
 intro x hx
 rcases List.mem_cons.1 hx with rfl | hx
 ·omega
 ·rw [List.mem_replicate] at hx; omega
theorem bcx (kind : Int) (tl size : Nat) : (pad kind tl size).length = az1 kind tl + 9 := by
 unfold pad; simp
theorem bcv (kind : Int) (tl : Nat) : az1 kind tl ≤ 200 := by
 unfold az1; split <;> omega
theorem bfn (n : Nat) (hn : n = 64 ∨ n = 128) (words : List Int) (hw : In 18446744073709551616 words) (a : Int) (b : List Int) (c : Int) (d : List Int) {ρ : Type} (k0 : Int → List Int → Int → List Int → Int → List Int → Int → List Int → Option ρ) :
    P.ajx (n : Int) words 0 [] a b c d k0 = k0 (n : Int) words 8 (axr (n / 16) words 8) a b c d := by
 rw [P.aqm]
 unfold P.aps P.bmj P.bj7 P.bm9
 have e16 : IntKind.i64.wrap ((n : Int).tdiv 16) = ((n / 16 : Nat) : Int) := by rcases hn with rfl | rfl <;> rfl
 refine aa8 (fun i => ((n : Int), words, (i : Int), axr (n / 16) words i, a, b, c, d)) 8 rfl (fun i hi next hn' => ?_) (fun next => ?_) (by omega)
 ·simp only [P.akb, toNat_cast]
  have h1 := hw.getD i (by omega)
  have e4 : IntKind.i64.wrap ((i : Int) + 1) = ((i + 1 : Nat) : Int) := by rw [zl (by omega) (by omega)]; omega
  have e5 : words.getD i 0 = (((words.getD i 0).toNat : Nat) : Int) := by omega
  rw [alp] at hn'
  rw [av (by omega), av (by omega), av (by omega), e16, e5, za _ _ (by omega) (by omega), e4]
  rw [av (by rw [afc, List.length_reverse, zi]; rcases hn with rfl | rfl <;> omega)]
  exact hn'
 ·simp only [P.akb]
  rw [dn (by omega)]
  rfl
theorem shl3 (size : Nat) : IntKind.u64.wrap ((size : Int) * (2 : Int) ^ 3) = ((size * 8 % 2 ^ 64 : Nat) : Int) := by
 rw [bew]; omega
theorem aei (kind : Int) (words tail : List Int) (size : Nat) (hl : words.length = 8) (hi : In 18446744073709551616 words) (ht : In 256 tail) (hn : tail.length < bsz kind) {ρ : Type} (k : List Int → Option ρ) :
    P.aei kind words tail (size : Int) k = k (bdx kind words tail size) := by
 rw [P.arq]; unfold P.ajg
 rw [ou]
 have hz : IntKind.i64.wrap (IntKind.i64.wrap ((IntKind.i64.wrap (IntKind.i64.wrap (IntKind.i64.wrap (IntKind.i64.wrap ((2 : Int) * ((bsz kind : Nat) : Int)) - (1 : Int)) - IntKind.i64.wrap (((bsz kind : Nat) : Int).tdiv (8 : Int))) - (tail.length : Int))).tmod ((bsz kind : Nat) : Int) + IntKind.i64.wrap (((bsz kind : Nat) : Int).tdiv (8 : Int))) - (8 : Int)) = ((az1 kind tail.length : Nat) : Int) := by
  unfold az1
  rcases akf kind with ⟨h, e⟩ | ⟨h, e⟩
  ·rw [e] at hn ⊢
   rw [if_pos h, show IntKind.i64.wrap (IntKind.i64.wrap (IntKind.i64.wrap ((2 : Int) * ((64 : Nat) : Int)) - (1 : Int)) - IntKind.i64.wrap (((64 : Nat) : Int).tdiv (8 : Int))) = 119 from rfl, zl (x := (119 : Int) - (tail.length : Int)) (by omega) (by omega),
    show (119 : Int) - (tail.length : Int) = ((119 - tail.length : Nat) : Int) by omega, tmN, show IntKind.i64.wrap (((64 : Nat) : Int).tdiv (8 : Int)) = 8 from rfl, zl (x := ((((119 - tail.length) % 64 : Nat) : Int)) + 8) (by omega) (by omega), zl (by omega) (by omega)]
   omega
  ·rw [e] at hn ⊢
   rw [if_neg h, show IntKind.i64.wrap (IntKind.i64.wrap (IntKind.i64.wrap ((2 : Int) * ((128 : Nat) : Int)) - (1 : Int)) - IntKind.i64.wrap (((128 : Nat) : Int).tdiv (8 : Int))) = 239 from rfl, zl (x := (239 : Int) - (tail.length : Int)) (by omega) (by omega),
    show (239 : Int) - (tail.length : Int) = ((239 - tail.length : Nat) : Int) by omega, tmN, show IntKind.i64.wrap (((128 : Nat) : Int).tdiv (8 : Int)) = 16 from rfl, zl (x := ((((239 - tail.length) % 128 : Nat) : Int)) + 16) (by omega) (by omega), zl (by omega) (by omega)]
   omega
 have hb : bsz kind = 64 ∨ bsz kind = 128 := by rcases akf kind with ⟨h, e⟩ | ⟨h, e⟩ <;> omega
 have hz2 := bcv kind tail.length
 rw [hz]
 simp only [toNat_cast]
 rw [av (by omega), av (by omega), dn (by omega), av (by omega), av (by omega), shl3, show (8 : Int) = ((8 : Nat) : Int) from rfl, za _ 8 (by omega) (by omega)]
 have hp : (List.replicate 1 (0 : Int)).set 0 (128 : Int) ++ List.replicate (az1 kind tail.length) (0 : Int) ++ (bsw 8 8 (size * 8 % 2 ^ 64)).reverse = pad kind tail.length size := rfl
 rw [av (by
  show ((List.replicate (az1 kind tail.length) (0 : Int)).length + 0 + 1 + _) * 1 ≤ _
  rw [List.length_replicate, List.length_reverse, zi]; omega), hp]
 have hpl := bcx kind tail.length size
 rw [abr kind words tail _ _ hl hi ht (ba1 _ _ _) (by omega), bfn _ hb _ (apf _ _ _).2.1]
 unfold bdx
 simp only
 by_cases h2 : kind = 2
 ·have e : bsz kind = 128 := by unfold bsz; rw [if_neg (by omega)]
  rw [bn h2, av (by rw [afc, e]; omega), if_pos h2]
  rfl
 ·rw [dw h2, if_neg h2]
theorem pads (n : Nat) (hn : n = 64 ∨ n = 128) (tl : Nat) (ht : tl < 200) (z m : Nat) (hm : m < n) (h1 : ∀ i, i < z → (tl + (1 + i)) % n ≠ m) (h2 : (tl + (1 + z)) % n = m) (hz : z ≤ 200) (c : Int) (kd : Int) (words tail : List Int) (size : Int) (hl : tail.length = tl) (d : Int) (hd : IntKind.i64.wrap ((n : Int) - d) = (m : Int)) :
    (d = 8 → ∀ {ρ : Type} (k0 : Int → Int → List Int → Int → List Int → List Int → Int → Option ρ), P.alr (n : Int) c [128] kd words tail size k0 = k0 (n : Int) c (128 :: List.replicate z 0) kd words tail size) ∧
    (d = 16 → ∀ {ρ : Type} (k0 : Int → Int → List Int → Int → List Int → List Int → Int → Option ρ), P.ame (n : Int) c [128] kd words tail size k0 = k0 (n : Int) c (128 :: List.replicate z 0) kd words tail size) := by
 have hlen : ∀ i : Nat, ((128 : Int) :: List.replicate i 0).length = 1 + i := fun i => by simp; omega
 have hc : ∀ i : Nat, i ≤ z → IntKind.i64.wrap (((tail.length : Nat) : Int) + ((((128 : Int) :: List.replicate i 0).length : Nat) : Int)) = ((tl + (1 + i) : Nat) : Int) := fun i hi => by
  rw [hlen, hl, zl (by omega) (by omega)]; omega
 have hs : ∀ i : Nat, ((128 : Int) :: List.replicate i 0) ++ [(0 : Int)] = 128 :: List.replicate (i + 1) 0 := fun i => by
  rw [List.replicate_succ']; rfl
 constructor
 ·rintro rfl ρ k0
  rw [P.atp]
  unfold P.ara P.bls P.bld P.bpy
  refine aa8 (fun i => ((n : Int), c, 128 :: List.replicate i 0, kd, words, tail, size)) z rfl (fun i hi next hn' => ?_) (fun next => ?_) (by omega)
  ·simp only [P.amo]
   have := h1 i hi
   rw [hc i (by omega), tmN, hd, dn (by omega), gq (by omega), av (by rw [hlen]; omega), hs]
   exact hn'
  ·simp only [P.amo]
   rw [hc z (by omega), tmN, hd, dn (by omega), h2, fu (by rfl)]
 ·rintro rfl ρ k0
  rw [P.atu]
  unfold P.arw P.bmf P.bk3 P.bn3
  refine aa8 (fun i => ((n : Int), c, 128 :: List.replicate i 0, kd, words, tail, size)) z rfl (fun i hi next hn' => ?_) (fun next => ?_) (by omega)
  ·simp only [P.alv]
   have := h1 i hi
   rw [hc i (by omega), tmN, hd, dn (by omega), gq (by omega), av (by rw [hlen]; omega), hs]
   exact hn'
  ·simp only [P.alv]
   rw [hc z (by omega), tmN, hd, dn (by omega), h2, fu (by rfl)]
theorem ayx (n : Nat) (hn : n = 64 ∨ n = 128) (words : List Int) (hw : In 18446744073709551616 words) (a : Int) (b : List Int) (c : Int) {ρ : Type} (k0 : Int → Int → List Int → Int → List Int → List Int → Int → Option ρ) :
    P.aga (n : Int) 0 [] a words b c k0 = k0 (n : Int) 8 (axr (n / 16) words 8) a words b c := by
 rw [P.aqy]
 unfold P.ap1 P.bmh P.bkh P.bnl
 have e16 : IntKind.i64.wrap ((n : Int).tdiv 16) = ((n / 16 : Nat) : Int) := by rcases hn with rfl | rfl <;> rfl
 refine aa8 (fun i => ((n : Int), (i : Int), axr (n / 16) words i, a, words, b, c)) 8 rfl (fun i hi next hn' => ?_) (fun next => ?_) (by omega)
 ·simp only [P.aj3, toNat_cast]
  have h1 := hw.getD i (by omega)
  have e4 : IntKind.i64.wrap ((i : Int) + 1) = ((i + 1 : Nat) : Int) := by rw [zl (by omega) (by omega)]; omega
  have e5 : words.getD i 0 = (((words.getD i 0).toNat : Nat) : Int) := by omega
  rw [alp] at hn'
  rw [av (by omega), av (by omega), av (by omega), e16, e5, aa6 _ _ (by omega) (by omega), e4]
  rw [av (by rw [afc, List.length_reverse, zi]; rcases hn with rfl | rfl <;> omega)]
  exact hn'
 ·simp only [P.aj3]
  rw [dn (by omega)]
  rfl
theorem ax8 (kind : Int) (words tail : List Int) (size : Nat) {ρ : Type} (k : List Int → Option ρ) :
    (br (kind == (2 : Int)) (br (decide ((48 : Int) ≤ ((axr (bsz kind / 16) (awv kind words (tail ++ pad kind tail.length size)) 8).length : Int))) (k (List.take ((48 : Int) - (0 : Int)).toNat (axr (bsz kind / 16) (awv kind words (tail ++ pad kind tail.length size)) 8))) none)
     (k (axr (bsz kind / 16) (awv kind words (tail ++ pad kind tail.length size)) 8))) = k (bdx kind words tail size) := by
 unfold bdx
 simp only
 by_cases h2 : kind = 2
 ·have e : bsz kind = 128 := by unfold bsz; rw [if_neg (by omega)]
  rw [bn h2, av (by rw [afc, e]; omega), if_pos h2]
  rfl
 ·rw [dw h2, if_neg h2]
theorem ae0 (kind : Int) (words tail : List Int) (size : Nat) (hw : Wok kind words) (ht : In 256 tail) (hn : tail.length < bsz kind) (hs : size < 2305843009213693952) {ρ : Type} (k : List Int → Option ρ) :
    P.ae0 kind words tail (size : Int) k = k (bdx kind words tail size) := by
 rw [P.arx]; unfold P.aje
 have h8 : IntKind.u64.wrap ((size : Int) * 8) = ((size * 8 % 2 ^ 64 : Nat) : Int) := by rw [bew]; omega
 have hpl := bcx kind tail.length size
 have hz2 := bcv kind tail.length
 rw [tu, h8]
 rcases akf kind with ⟨h, e⟩ | ⟨h, e⟩
 ·rw [e] at hn ⊢
  have hp := (pads 64 (.inl rfl) tail.length (by omega) (az1 kind tail.length) 56 (by omega) (fun i hi => by unfold az1 at hi; rw [if_pos h] at hi; omega) (by unfold az1; rw [if_pos h]; omega) hz2 ((size * 8 % 2 ^ 64 : Nat) : Int) kind words tail (size : Int) rfl 8 rfl).1
  rw [hp rfl, dw (by decide), show (8 : Int) = ((8 : Nat) : Int) from rfl, aa6 _ 8 (by omega) (by omega), av (by simp; omega)]
  have hpad : (128 : Int) :: List.replicate (az1 kind tail.length) 0 ++ (bsw 8 8 (size * 8 % 2 ^ 64)).reverse = pad kind tail.length size := rfl
  rw [hpad, aax kind words tail _ _ hw ht (ba1 _ _ _) (by omega), ayx _ (.inl rfl) _ (apf _ _ _).2.1]
  have := ax8 kind words tail size k
  rw [e] at this
  exact this
 ·rw [e] at hn ⊢
  have hp1 := (pads 128 (.inr rfl) tail.length (by omega) ((247 - tail.length) % 128) 120 (by omega) (fun i hi => by omega) (by omega) (by omega) ((size * 8 % 2 ^ 64 : Nat) : Int) kind words tail (size : Int) rfl 8 rfl).1
  have hp2 := (pads 128 (.inr rfl) tail.length (by omega) ((239 - tail.length) % 128) 112 (by omega) (fun i hi => by omega) (by omega) (by omega) ((size * 8 % 2 ^ 64 : Nat) : Int) kind words tail (size : Int) rfl 16 rfl).2
  have h61 : ((size : Nat) : Int).fdiv ((2 : Int) ^ 61) = ((0 : Nat) : Int) := by
   have := fdiv_pow size 61 61 (by omega)
   rw [Nat.div_eq_of_lt (by omega)] at this
   exact this
  rw [hp1 rfl, bn (by rfl), hp2 rfl, h61, show (8 : Int) = ((8 : Nat) : Int) from rfl, aa6 _ 8 (by omega) (by omega), av (by simp; omega), aa6 _ 8 (by omega) (by omega), av (by simp; omega)]
  have hpad : (128 : Int) :: List.replicate ((239 - tail.length) % 128) 0 ++ (bsw 8 8 0).reverse ++ (bsw 8 8 (size * 8 % 2 ^ 64)).reverse = pad kind tail.length size := by
   unfold pad az1
   rw [if_neg h, ← List.replicate_append_replicate]
   rfl
  rw [hpad, aax kind words tail _ _ hw ht (ba1 _ _ _) (by omega), ayx _ (.inr rfl) _ (apf _ _ _).2.1]
  have := ax8 kind words tail size k
  rw [e] at this
  exact this
def bhk (kind : Int) : List Int :=
 if kind = 1 then [1779033703, 3144134277, 1013904242, 2773480762, 1359893119, 2600822924, 528734635, 1541459225]
 else if kind = 2 then [14680500436340154072, 7105036623409894663, 10473403895298186519, 1526699215303891257, 7436329637833083697, 10282925794625328401, 15784041429090275239, 5167115440072839076]
 else [7640891576956012808, 13503953896175478587, 4354685564936845355, 11912009170470909681, 5840696475078001361, 11170449401992604703, 2270897969802886507, 6620516959819538809]
theorem bbo (kind : Int) : Wok kind (bhk kind) := by
 unfold bhk Wok
 by_cases h1 : kind = 1
 ·simp only [if_pos h1]
  refine ⟨rfl, ?_, fun _ => ?_⟩
  ·unfold In; decide
  ·unfold In; decide
 ·by_cases h2 : kind = 2
  ·simp only [if_neg h1, if_pos h2]
   refine ⟨rfl, ?_, fun h => absurd h h1⟩
   unfold In; decide
  ·simp only [if_neg h1, if_neg h2]
   refine ⟨rfl, ?_, fun h => absurd h h1⟩
   unfold In; decide
def K3 (kind : Int) : Prop := kind = 1 ∨ kind = 2 ∨ kind = 3
theorem axk {kind : Int} (h : K3 kind) {ρ : Type} (k : List Int → Bool → Option ρ) : P.acn kind k = k (bhk kind) true := by
 rw [P.amv]
 rcases h with rfl | rfl | rfl <;> kernel_rfl
theorem aem {kind : Int} (h : K3 kind) {ρ : Type} (k : Int → List Int → List Int → Int → Int → Option ρ) : P.aem kind k = k kind (bhk kind) [] 0 0 := by
 rw [P.arh]; unfold P.ajj
 rw [axk h, sj, ug]
theorem ae3 {kind : Int} (h : K3 kind) {ρ : Type} (k : Int → List Int → List Int → Int → Int → Option ρ) : P.ae3 kind k = k kind (bhk kind) [] 0 0 := by
 rw [P.arz]; unfold P.aj1 bhk
 rcases h with rfl | rfl | rfl
 ·rw [bn (by rfl)]; rfl
 ·rw [dw (by decide), bn (by rfl)]; rfl
 ·rw [dw (by decide), dw (by decide), bn (by rfl)]; rfl
theorem at1 (kind : Int) : 0 < bsz kind := by rcases akf kind with ⟨h, e⟩ | ⟨h, e⟩ <;> omega
def bdu (kind : Int) (b : List Int) : List Int := bdx kind (awv kind (bhk kind) b) (rest (bsz kind) b) b.length
theorem ayf (b : List Int) (hn : b.length ≤ 1000000) : IntKind.u64.wrap ((0 : Int) + IntKind.u64.wrap (b.length : Int)) = ((b.length : Nat) : Int) := by
 rw [ake _ (by omega), Int.zero_add, ake _ (by omega)]
theorem abn {kind : Int} (h : K3 kind) (b : List Int) (hb : In 256 b) (hn : b.length ≤ 1000000) {ρ : Type} (k : List Int → Int → Option ρ) : P.abn kind b k = k (bdu kind b) 0 := by
 rw [P.asf]; unfold P.ajr
 have hw := bbo kind
 have hr := azg _ (at1 kind) b
 have hlt := Nat.mod_lt b.length (at1 kind)
 rw [aem h, fu (by rfl), abr kind _ [] _ b hw.1 hw.2.1 In.nil hb (by simpa using hn), List.nil_append, ayf b hn, aei kind _ _ _ (aza _ _ _) (apf _ _ _).2.1 (bb9 hb) (by omega)]
 rfl
theorem aeg {kind : Int} (h : K3 kind) (b : List Int) (hb : In 256 b) (hn : b.length ≤ 1000000) {ρ : Type} (k : List Int → Int → Option ρ) : P.aeg kind b k = k (bdu kind b) 0 := by
 rw [P.ash]; unfold P.aj7
 have hw := bbo kind
 have hr := azg _ (at1 kind) b
 have hlt := Nat.mod_lt b.length (at1 kind)
 rw [ae3 h, fu (by rfl), aax kind _ [] _ b hw In.nil hb (by simpa using hn), List.nil_append, ayf b hn, ae0 kind _ _ _ (apf _ _ _) (bb9 hb) (by omega) (by omega)]
 rfl
theorem ba9 (kind : Int) (b : List Int) : In 256 (bdu kind b) := bh7 _ _ _ _
theorem an2 (kind : Int) (b : List Int) : (bdu kind b).length = if kind = 1 then 32 else if kind = 2 then 48 else 64 := be3 _ _ _ _
end Q
end

section
/- SHA-2: which sums can be, which are the same; the examples. -/
namespace Q
open Go Go.Abs
set_option linter.unusedVariables false
set_option linter.unusedSimpArgs false
theorem first (p : Nat → Bool) : ∀ n, ∃ m, m ≤ n ∧ (∀ i, i < m → p i = true) ∧ (m = n ∨ (m < n ∧ p m = false))
 | 0 => ⟨0, by omega, by omega, .inl rfl⟩
 | n + 1 => by
  obtain ⟨m, h1, h2, h3⟩ := first p n
  rcases h3 with h3 | ⟨h3, h4⟩
  ·subst h3
   cases hp : p m with
   | true => exact ⟨m + 1, by omega, fun i hi => by
       by_cases e : i = m
       ·rw [e]; exact hp
       ·exact h2 i (by omega), .inl rfl⟩
   | false => exact ⟨m, by omega, h2, .inr ⟨by omega, hp⟩⟩
  ·exact ⟨m, by omega, h2, .inr ⟨by omega, h4⟩⟩
end Q
end

section
/- sector: records and stores. -/
namespace Q
open Go Go.Abs
set_option linter.unusedVariables false
set_option linter.unusedSimpArgs false
def be8 (n : Nat) : List Int := (bsw 8 8 n).reverse
theorem axg (n : Nat) : (be8 n).length = 8 := by simp [be8]
theorem bft (n : Nat) : In 256 (be8 n) := (bbq 8 8 n).rev
theorem bhf (l : List Int) (h : In 256 l) (hl : l.length = 8) : be8 (T 8 l.reverse) = l := by
 have := bpe 8 l.reverse h.rev
 rw [List.length_reverse, hl] at this
 unfold be8
 rw [this, List.reverse_reverse]
theorem bgm (n : Nat) (h : n < 18446744073709551616) : T 8 (be8 n).reverse = n := by
 unfold be8
 rw [List.reverse_reverse, bi1]
 exact Nat.mod_eq_of_lt (by omega)
theorem az2 (l : List Int) (h : In 256 l) (hl : l.length = 8) : T 8 l.reverse < 18446744073709551616 := by
 have h1 := bgm (T 8 l.reverse % 18446744073709551616) (Nat.mod_lt _ (by omega))
 have h2 : be8 (T 8 l.reverse % 18446744073709551616) = be8 (T 8 l.reverse) := by
  unfold be8
  rw [show (18446744073709551616 : Nat) = 2 ^ 64 from rfl, bhu 8 8 _ 64 (by omega)]
 rw [h2, bhf l h hl] at h1
 rw [h1]
 exact Nat.mod_lt _ (by omega)
def hd (e b : Nat) : List Int := be8 e ++ be8 b
def adx (e b : Nat) : List Int := hd e b ++ bdu 1 (hd e b)
theorem akn (e b : Nat) : (hd e b).length = 16 := by simp [hd, axg]
theorem bh6 (e b : Nat) : In 256 (hd e b) := (bft e).app (bft b)
theorem w9 (e b : Nat) : (adx e b).length = 48 := by unfold adx; rw [List.length_append, akn, an2, if_pos rfl]
theorem acg (e b : Nat) : In 256 (adx e b) := (bh6 e b).app (ba9 _ _)
def rd (b : List Int) : Option (Int × Int) :=
 if b.length = 48 ∧ bdu 1 (b.take 16) = b.drop 16 then some (((T 8 (b.take 8).reverse : Nat) : Int), ((T 8 ((b.take 16).drop 8).reverse : Nat) : Int)) else none
theorem bfy (e b : Nat) (he : e < 18446744073709551616) (hb : b < 18446744073709551616) : rd (adx e b) = some ((e : Int), (b : Int)) := by
 have t16 : (adx e b).take 16 = hd e b := by unfold adx; exact List.take_left' (akn e b)
 have d16 : (adx e b).drop 16 = bdu 1 (hd e b) := by unfold adx; exact List.drop_left' (akn e b)
 have t8 : (adx e b).take 8 = be8 e := by
  unfold adx hd
  rw [List.append_assoc]
  exact List.take_left' (axg e)
 have d8 : (hd e b).drop 8 = be8 b := by unfold hd; exact List.drop_left' (axg e)
 unfold rd
 rw [t16, d16, t8, d8, if_pos ⟨w9 e b, rfl⟩, bgm e he, bgm b hb]
theorem aw6 (b : List Int) (hb : In 256 b) (hl : b.length = 48) : adx (T 8 (b.take 8).reverse) (T 8 ((b.take 16).drop 8).reverse) = b ↔ bdu 1 (b.take 16) = b.drop 16 := by
 have h8 : be8 (T 8 (b.take 8).reverse) = b.take 8 := bhf _ (hb.take 8) (by simp; omega)
 have h16 : be8 (T 8 ((b.take 16).drop 8).reverse) = (b.take 16).drop 8 := bhf _ ((hb.take 16).drop 8) (by simp; omega)
 have hh : hd (T 8 (b.take 8).reverse) (T 8 ((b.take 16).drop 8).reverse) = b.take 16 := by
  unfold hd
  rw [h8, h16]
  have := List.take_append_drop 8 (b.take 16)
  rw [List.take_take] at this
  exact this
 unfold adx
 rw [hh]
 constructor
 ·intro h
  have h1 := congrArg (List.drop 16) h
  rw [List.drop_left' (by simp; omega)] at h1
  exact h1
 ·intro h
  rw [h]
  exact List.take_append_drop 16 b
theorem bfh {b : List Int} {p : Int × Int} (hb : In 256 b) (h : rd b = some p) : ∃ x y : Nat, x < 18446744073709551616 ∧ y < 18446744073709551616 ∧ p = ((x : Int), (y : Int)) ∧ adx x y = b ∧ b.length = 48 := by
 unfold rd at h
 split at h
 ·rename_i hc
  cases h
  exact ⟨_, _, az2 _ (hb.take 8) (by simp; omega), az2 _ ((hb.take 16).drop 8) (by simp; omega), rfl, (aw6 b hb hc.1).2 hc.2, hc.1⟩
 ·cases h
theorem apv (l : List Int) (h : l.length ≤ 140737488355328) {ρ : Type} (k : List Int → Option ρ) : P.gy l k = k l := by
 unfold P.gy; rw [av (by omega)]
theorem lg (e b : Nat) (he : e < 18446744073709551616) (hb : b < 18446744073709551616) {ρ : Type} (k : List Int → Option ρ) : P.lg (e : Int) (b : Int) k = k (adx e b) := by
 rw [P.ah2]; unfold P.adu
 have hf : [(bsw 8 8 e).reverse, (bsw 8 8 b).reverse].flatten = hd e b := by simp [hd, be8]
 rw [show (8 : Int) = ((8 : Nat) : Int) from rfl, za e 8 he (by omega), za b 8 hb (by omega), aao _ (by simp) (by rw [hf, akn]; omega), hf, abn (.inl rfl) _ (bh6 e b) (by rw [akn]; omega), av (by rw [akn, an2, if_pos rfl]; omega)]
 rfl
theorem o9 (e b : Nat) (he : e < 18446744073709551616) (hb : b < 18446744073709551616) {ρ : Type} (k : List Int → Option ρ) : P.o9 (e : Int) (b : Int) k = k (adx e b) := by
 rw [P.am1]; unfold P.agj
 have hf : [(bsw 8 8 e).reverse, (bsw 8 8 b).reverse].flatten = hd e b := by simp [hd, be8]
 rw [show (8 : Int) = ((8 : Nat) : Int) from rfl, aa6 e 8 he (by omega), aa6 b 8 hb (by omega), y8 _ (by simp) (by rw [hf, akn]; omega), hf, aeg (.inl rfl) _ (bh6 e b) (by rw [akn]; omega), av (by rw [akn, an2, if_pos rfl]; omega)]
 rfl
def rdK {ρ : Type} (o : Option (Int × Int)) (k : Int → Int → Bool → Option ρ) : Option ρ :=
 match o with
 | some p => k p.1 p.2 true
 | none => k 0 0 false
theorem l7 (b : List Int) (hb : In 256 b) (hn : b.length ≤ 1000000) {ρ : Type} (k : Int → Int → Bool → Option ρ) : P.l7 b k = rdK (rd b) k := by
 rw [P.ai6]; unfold P.aey
 by_cases hl : b.length = 48
 ·have e16 : Int.toNat (16 : Int) = 16 := rfl
  have e8 : Int.toNat (8 : Int) = 8 := rfl
  rw [fu (by omega), av (by omega), e16, e8, List.drop_zero, List.drop_zero, abn (.inl rfl) _ (hb.take 16) (by simp; omega), av (by omega), av (by omega), toNat_cast, List.take_length, aa1 _ _ (ba9 _ _) (hb.drop 16) (by rw [an2, if_pos rfl]; omega)]
  by_cases hs : bdu 1 (b.take 16) = b.drop 16
  ·have hr : rd b = some (((T 8 (b.take 8).reverse : Nat) : Int), ((T 8 ((b.take 16).drop 8).reverse : Nat) : Int)) := by unfold rd; rw [if_pos ⟨hl, hs⟩]
   rw [decide_eq_true hs, sj, ug, av (by omega), qj _ (hb.take 8) (by simp; omega), av (by omega), qj _ ((hb.take 16).drop 8) (by simp; omega), hr, Nat.mod_eq_of_lt (az2 _ (hb.take 8) (by simp; omega)), Nat.mod_eq_of_lt (az2 _ ((hb.take 16).drop 8) (by simp; omega))]
   rfl
  ·have hr : rd b = none := by unfold rd; rw [if_neg (fun h => hs h.2)]
   rw [decide_eq_false hs, sj, ni, hr]
   rfl
 ·have hr : rd b = none := by unfold rd; rw [if_neg (fun h => hl h.1)]
  rw [gq (by omega), hr]
  rfl
theorem aac (b : List Int) (hb : In 256 b) (hn : b.length ≤ 1000000) {ρ : Type} (k : Int → Int → Bool → Option ρ) : P.aac b k = rdK (rd b) k := by
 rw [P.ap8]; unfold P.aio
 by_cases hl : b.length = 48
 ·have e16 : Int.toNat (16 : Int) = 16 := rfl
  have e8 : Int.toNat (8 : Int) = 8 := rfl
  have h1 := az2 _ (hb.take 8) (by simp; omega)
  have h2 := az2 _ ((hb.take 16).drop 8) (by simp; omega)
  rw [fu (by omega), av (by omega), e16, e8, List.drop_zero, zq _ (hb.take 8) (by simp; omega), av (by omega), zq _ ((hb.take 16).drop 8) (by simp; omega), Nat.mod_eq_of_lt h1, Nat.mod_eq_of_lt h2, o9 _ _ h1 h2, vw _ _ (by rw [w9]; omega)]
  by_cases hs : bdu 1 (b.take 16) = b.drop 16
  ·have hr : rd b = some (((T 8 (b.take 8).reverse : Nat) : Int), ((T 8 ((b.take 16).drop 8).reverse : Nat) : Int)) := by unfold rd; rw [if_pos ⟨hl, hs⟩]
   rw [decide_eq_true ((aw6 b hb hl).2 hs), sj, ug, hr]
   rfl
  ·have hr : rd b = none := by unfold rd; rw [if_neg (fun h => hs h.2)]
   rw [decide_eq_false (fun h => hs ((aw6 b hb hl).1 h)), sj, ni, hr]
   rfl
 ·have hr : rd b = none := by unfold rd; rw [if_neg (fun h => hl h.1)]
  rw [gq (by omega), hr]
  rfl
def upB (o : Option (Int × Int)) (i : Int) (s : Int × Int × Int × Int) : Int × Int × Int × Int :=
 match o with
 | none => s
 | some p => if s.2.2.2 ≠ 0 ∨ p.1 > s.1 then (p.1, p.2, i, 0) else s
def bst (o0 o1 : Option (Int × Int)) : Int × Int × Int × Int := upB o1 1 (upB o0 0 (0, 0, 0, 21))
theorem alq (o0 o1 : Option (Int × Int)) : (o0 = none ∧ o1 = none ∧ bst o0 o1 = (0, 0, 0, 21)) ∨ (∃ p, o0 = some p ∧ (∀ q, o1 = some q → q.1 ≤ p.1) ∧ bst o0 o1 = (p.1, p.2, 0, 0)) ∨
    (∃ q, o1 = some q ∧ (∀ p, o0 = some p → p.1 < q.1) ∧ bst o0 o1 = (q.1, q.2, 1, 0)) := by
 cases o0 with
 | none => cases o1 with
  | none => exact .inl ⟨rfl, rfl, rfl⟩
  | some q => exact .inr (.inr ⟨q, rfl, fun p h => (by cases h), by simp [bst, upB]⟩)
 | some p => cases o1 with
  | none => exact .inr (.inl ⟨p, rfl, fun q h => (by cases h), by simp [bst, upB]⟩)
  | some q =>
   by_cases h : q.1 > p.1
   ·exact .inr (.inr ⟨q, rfl, fun p' h' => (by cases h'; exact h), by simp [bst, upB, h]⟩)
   ·exact .inr (.inl ⟨p, rfl, fun q' h' => (by cases h'; omega), by simp [bst, upB, h]⟩)
theorem cu (a b : List Int) (ha : In 256 a) (hb : In 256 b) (na : a.length ≤ 1000000) (nb : b.length ≤ 1000000) {ρ : Type} (k : Int → Int → Int → Int → Option ρ) :
    P.cu a b k = k (bst (rd a) (rd b)).1 (bst (rd a) (rd b)).2.1 (bst (rd a) (rd b)).2.2.1 (bst (rd a) (rd b)).2.2.2 := by
 rw [P.ai9]; unfold P.ae5
 rw [P.aj6]
 unfold P.ag8 P.bmm P.bjq P.boh
 have one : ∀ (c : List Int) (i : Int) (s : Int × Int × Int × Int) (nx : Int → Int → Int → Int → Option ρ), In 256 c → c.length ≤ 1000000 →
     (P.l7 c fun (q0 q1 : Int) (q2 : Bool) => br q2 (br (s.2.2.2 != (0 : Int)) (nx q0 q1 i (0 : Int)) (br (decide (q0 > s.1)) (nx q0 q1 i (0 : Int)) (nx s.1 s.2.1 s.2.2.1 s.2.2.2))) (nx s.1 s.2.1 s.2.2.1 s.2.2.2)) =
     nx (upB (rd c) i s).1 (upB (rd c) i s).2.1 (upB (rd c) i s).2.2.1 (upB (rd c) i s).2.2.2 := by
  intro c i s nx hc nc
  rw [l7 c hc nc]
  cases rd c with
  | none => simp only [rdK, ni, upB]
  | some p =>
   simp only [rdK, ug, upB]
   by_cases h1 : s.2.2.2 = 0
   ·rw [fu h1]
    by_cases h2 : p.1 > s.1
    ·rw [av h2, if_pos (.inr h2)]
    ·rw [dn h2, if_neg (by omega)]
   ·rw [gq h1, if_pos (.inl h1)]
 let S : Nat → (List Int) × (List Int) × Int × Int × Int × Int × Int × Int × Int := fun i => match i with
  | 0 => (a, b, 0, 0, 0, 0, 0, 0, 21)
  | 1 => (a, b, 1, 0, 0, upB (rd a) 0 (0, 0, 0, 21))
  | _ => (a, b, 2, 0, 0, bst (rd a) (rd b))
 refine aa8 S 2 rfl (fun i hi next hn => ?_) (fun next => ?_) (by omega)
 ·match i, hi with
  | 0, _ =>
   simp only [S, P.abm]
   rw [av (by omega), av (by simp), show IntKind.i64.wrap ((0 : Int) + 1) = 1 from by decide]
   refine (one a 0 (0, 0, 0, 21) (fun w x y z => next (a, b, 1, 0, 0, w, x, y, z)) ha na).trans ?_
   exact hn
  | 1, _ =>
   simp only [S, P.abm]
   rw [av (by omega), dn (by omega), av (by simp), show IntKind.i64.wrap ((1 : Int) + 1) = 2 from by decide]
   refine (one b 1 (upB (rd a) 0 (0, 0, 0, 21)) (fun w x y z => next (a, b, 2, 0, 0, w, x, y, z)) hb nb).trans ?_
   exact hn
 ·simp only [S, P.abm]
  rw [dn (by omega)]
theorem kr (a b : List Int) (ha : In 256 a) (hb : In 256 b) (na : a.length ≤ 1000000) (nb : b.length ≤ 1000000) {ρ : Type} (k : Int → Int → Int → Int → Option ρ) :
    P.kr a b k = k (bst (rd a) (rd b)).1 (bst (rd a) (rd b)).2.1 (bst (rd a) (rd b)).2.2.1 (bst (rd a) (rd b)).2.2.2 := by
 rw [P.aoa]; unfold P.ahf
 rw [aac a ha na, ]
 cases h0 : rd a with
 | none =>
  simp only [rdK]
  rw [aac b hb nb]
  cases h1 : rd b with
  | none => simp only [rdK, ni, bst, upB]
  | some q => simp [rdK, bst, upB]
 | some p =>
  simp only [rdK]
  rw [aac b hb nb]
  cases h1 : rd b with
  | none => simp [rdK, bst, upB]
  | some q =>
   simp only [rdK, ug, sj]
   by_cases h : q.1 > p.1
   ·rw [dn (show ¬ p.1 ≥ q.1 by omega)]
    simp [bst, upB, h]
   ·rw [av (show p.1 ≥ q.1 by omega)]
    simp [bst, upB, h]
theorem ab7 (a b c d : List Int) (ha : a.length ≤ 140737488355328) (hb : b.length ≤ 140737488355328) {ρ : Type} (k : Bool → Option ρ) : P.ab7 a b c d k = k (decide (a = c ∧ b = d)) := by
 rw [P.an8]; unfold P.ah8
 rw [vw a c ha]
 by_cases h : a = c
 ·rw [av h, vw b d hb]
  congr 1
  exact decide_eq_decide.2 ⟨fun h2 => ⟨h, h2⟩, fun h2 => h2.2⟩
 ·rw [dn h, decide_eq_false (fun h2 => h h2.1)]
def als {ρ : Type} (a b c : List Int) (k : List Int → List Int → Int → Int → Option ρ) : Option ρ :=
 if (bst (rd a) (rd b)).2.2.2 = 0 then (if (bst (rd a) (rd b)).2.2.1 = 0 then k a c 1 0 else k c b 0 0) else k a b 0 (bst (rd a) (rd b)).2.2.2
theorem bbp (o0 o1 : Option (Int × Int)) : (bst o0 o1).2.2.1 = 0 ∨ (bst o0 o1).2.2.1 = 1 := by
 rcases alq o0 o1 with ⟨_, _, h⟩ | ⟨p, _, _, h⟩ | ⟨p, _, _, h⟩ <;> rw [h] <;> simp
theorem lu (a b : List Int) (ha : a.length ≤ 140737488355328) (hb : b.length ≤ 140737488355328) {ρ : Type} (k : List Int → List Int → Option ρ) : P.lu a b k = k a b := by
 rw [P.ag1]; unfold P.ac2
 rw [apv a ha, apv b hb]
theorem om (a b c : List Int) (ha : In 256 a) (hb : In 256 b) (na : a.length ≤ 1000000) (nb : b.length ≤ 1000000) (nc : c.length ≤ 1000000) {ρ : Type} (k : List Int → List Int → Int → Int → Option ρ) : P.om a b c k = als a b c k := by
 rw [P.ai5]; unfold P.aew als
 rw [lu a b (by omega) (by omega), cu a b ha hb na nb]
 by_cases h : (bst (rd a) (rd b)).2.2.2 = 0
 ·rw [fu h, if_pos h, apv c (by omega)]
  rcases bbp (rd a) (rd b) with h1 | h1
  ·rw [h1, if_pos rfl, show IntKind.i64.wrap ((1 : Int) - 0) = 1 from by decide, dn (by omega), av (by omega)]
  ·rw [h1, if_neg (by omega), show IntKind.i64.wrap ((1 : Int) - 1) = 0 from by decide, av (by omega)]
 ·rw [gq h, if_neg h]
theorem dx (a b : List Int) (e f : Nat) (he : e < 18446744073709551616) (hf : f < 18446744073709551616) (ha : In 256 a) (hb : In 256 b) (na : a.length ≤ 1000000) (nb : b.length ≤ 1000000) {ρ : Type} (k : List Int → List Int → Int → Int → Option ρ) :
    P.dx a b (e : Int) (f : Int) k = als a b (adx e f) k := by
 rw [P.ah1]; unfold P.ad2
 rw [lg e f he hf, om a b _ ha hb na nb (by rw [w9]; omega)]
theorem xg (a b c : List Int) (i : Int) {ρ : Type} (k : List Int → List Int → Option ρ) : P.xg a b i c k = if i = 0 then k c b else k a c := by
 rw [P.ap4]; unfold P.aie
 by_cases h : i = 0
 ·rw [bn h, if_pos h]
 ·rw [dw h, if_neg h]
theorem aou (a b c : List Int) (h : (bst (rd a) (rd b)).2.2.2 = 0) {ρ : Type} (k : List Int → List Int → Int → Int → Option ρ) :
    (P.xg a b (IntKind.i64.wrap ((1 : Int) - (bst (rd a) (rd b)).2.2.1)) c fun x y => k x y (IntKind.i64.wrap ((1 : Int) - (bst (rd a) (rd b)).2.2.1)) 0) = als a b c k := by
 rw [xg]; unfold als
 rw [if_pos h]
 rcases bbp (rd a) (rd b) with h1 | h1
 ·rw [h1, if_pos rfl, show IntKind.i64.wrap ((1 : Int) - 0) = 1 from by decide, if_neg (by omega)]
 ·rw [h1, if_neg (show ¬ (1 : Int) = 0 by omega), show IntKind.i64.wrap ((1 : Int) - 1) = 0 from by decide, if_pos rfl]
theorem aam (a b : List Int) (e f : Nat) (he : e < 18446744073709551616) (hf : f < 18446744073709551616) (ha : In 256 a) (hb : In 256 b) (na : a.length ≤ 1000000) (nb : b.length ≤ 1000000) {ρ : Type} (k : List Int → List Int → Int → Int → Option ρ) :
    P.aam a b (e : Int) (f : Int) k = als a b (adx e f) k := by
 rw [P.anj]; unfold P.agp
 rw [kr a b ha hb na nb]
 by_cases h : (bst (rd a) (rd b)).2.2.2 = 0
 ·rw [fu h, o9 e f he hf]
  exact aou a b _ h k
 ·rw [gq h]
  unfold als
  rw [if_neg h]
def baj {ρ : Type} (a b c : List Int) (tear : Int) (junk : List Int) (k : List Int → List Int → Int → Option ρ) : Option ρ :=
 if (bst (rd a) (rd b)).2.2.2 = 0 then
  if tear = 0 then k a b 0 else if tear = 1 then als a b c (fun x y _ e => k x y e) else if tear = 2 then als a b junk (fun x y _ e => k x y e) else k a b 8
 else k a b (bst (rd a) (rd b)).2.2.2
theorem ayi {a b c : List Int} (h : ¬ (bst (rd a) (rd b)).2.2.2 = 0) {ρ : Type} (k : List Int → List Int → Int → Int → Option ρ) : als a b c k = k a b 0 (bst (rd a) (rd b)).2.2.2 := by
 unfold als; rw [if_neg h]
theorem iq (a b : List Int) (e f : Nat) (tear : Int) (junk : List Int) (he : e < 18446744073709551616) (hf : f < 18446744073709551616) (ha : In 256 a) (hb : In 256 b) (na : a.length ≤ 1000000) (nb : b.length ≤ 1000000) (nj : junk.length ≤ 1000000) {ρ : Type} (k : List Int → List Int → Int → Option ρ) :
    P.iq a b (e : Int) (f : Int) tear junk k = baj a b (adx e f) tear junk k := by
 rw [P.ajc]; unfold P.ae1 baj
 rw [lu a b (by omega) (by omega)]
 by_cases h1 : tear = 1
 ·rw [bn h1, dx a b e f he hf ha hb na nb]
  by_cases h : (bst (rd a) (rd b)).2.2.2 = 0
  ·rw [if_pos h, if_neg (by omega), if_pos h1]
  ·rw [if_neg h, ayi h]
 ·rw [dw h1]
  by_cases h2 : tear = 2
  ·rw [bn h2, om a b junk ha hb na nb nj]
   by_cases h : (bst (rd a) (rd b)).2.2.2 = 0
   ·rw [if_pos h, if_neg (by omega), if_neg h1, if_pos h2]
   ·rw [if_neg h, ayi h]
  ·rw [dw h2, cu a b ha hb na nb]
   by_cases h : (bst (rd a) (rd b)).2.2.2 = 0
   ·rw [bn h, if_pos h]
    by_cases h0 : tear = 0
    ·rw [fu h0, if_pos h0, h]
    ·rw [gq h0, if_neg h0, if_neg h1, if_neg h2]
   ·rw [dw h, if_neg h]
theorem ab3 (a b : List Int) (e f : Nat) (tear : Int) (junk : List Int) (he : e < 18446744073709551616) (hf : f < 18446744073709551616) (ha : In 256 a) (hb : In 256 b) (na : a.length ≤ 1000000) (nb : b.length ≤ 1000000) {ρ : Type} (k : List Int → List Int → Int → Option ρ) :
    P.ab3 a b (e : Int) (f : Int) tear junk k = baj a b (adx e f) tear junk k := by
 rw [P.ao2]; unfold P.ah5 baj
 rw [kr a b ha hb na nb]
 by_cases h : (bst (rd a) (rd b)).2.2.2 = 0
 ·rw [fu h, if_pos h]
  by_cases h0 : tear = 0
  ·rw [bn h0, if_pos h0]
  ·rw [dw h0, if_neg h0]
   by_cases h1 : tear = 1
   ·rw [bn h1, if_pos h1, o9 e f he hf]
    exact aou a b _ h (fun x y _ e => k x y e)
   ·rw [dw h1, if_neg h1]
    by_cases h2 : tear = 2
    ·rw [bn h2, if_pos h2]
     exact aou a b _ h (fun x y _ e => k x y e)
    ·rw [dw h2, if_neg h2]
 ·rw [gq h, if_neg h]
end Q
end

section
namespace Q
open Go Go.Abs
set_option linter.unusedVariables false
set_option linter.unusedSimpArgs false
end Q
end

section
namespace Q
open Go Go.Abs
set_option linter.unusedVariables false
set_option linter.unusedSimpArgs false
end Q
end

section
/- lease: who gives out leaves, without a program. -/
namespace Q
open Go Go.Abs
set_option linter.unusedVariables false
set_option linter.unusedSimpArgs false
structure Ls where
 a : List Int
 b : List Int
 n : Nat
 t : Nat
 x : Nat
 d : Nat
 up : Bool
def bq (l : Ls) : Int × Int × Int × Int := bst (rd l.a) (rd l.b)
def nxt (l : Ls) : Int × Nat × Nat :=
 if l.up = false then (21, 0, 0) else if l.d = l.n then (13, 0, 0) else
 if (bq l).2.2.2 ≠ 0 then ((bq l).2.2.2, 0, 0) else if (bq l).1 ≥ 1152921504606846976 then (8, 0, 0) else (0, (bq l).1.toNat + 1, l.d + min l.t (l.n - l.d))
def lay (l : Ls) (c : List Int) : Ls := if (bq l).2.2.1 = 0 then { l with b := c } else { l with a := c }
def res (l : Ls) : Ls × Int := if (nxt l).1 ≠ 0 then (l, (nxt l).1) else ({ lay l (adx (nxt l).2.1 (nxt l).2.2) with d := (nxt l).2.2 }, 0)
def tak (l : Ls) : Ls × Nat × Int :=
 if l.up = false then (l, 0, 21) else
 if l.x = l.d then (if (res l).2 ≠ 0 then (l, 0, (res l).2) else ({ (res l).1 with x := l.x + 1 }, l.x, 0)) else ({ l with x := l.x + 1 }, l.x, 0)
def opn (a b : List Int) (n t : Nat) : Ls × Int :=
 if n > 1152921504606846976 ∨ t < 1 ∨ t > 4294967296 then (⟨[], [], 0, 0, 0, 0, false⟩, 8) else
 if (bst (rd a) (rd b)).2.2.2 ≠ 0 then (⟨[], [], 0, 0, 0, 0, false⟩, (bst (rd a) (rd b)).2.2.2) else
 if (bst (rd a) (rd b)).2.1 > (n : Int) ∨ (bst (rd a) (rd b)).1 ≥ 1152921504606846976 then (⟨[], [], 0, 0, 0, 0, false⟩, 8) else
 (⟨a, b, n, t, (bst (rd a) (rd b)).2.1.toNat, (bst (rd a) (rd b)).2.1.toNat, true⟩, 0)
def fal (l : Ls) : Ls := { l with x := 0, d := 0, up := false }
def tor (l : Ls) (tear : Int) (junk : List Int) : Ls × Int :=
 if (nxt l).1 ≠ 0 then (l, (nxt l).1) else
 if tear = 0 then (fal l, 0) else if tear = 1 then (fal (lay l (adx (nxt l).2.1 (nxt l).2.2)), 0) else if tear = 2 then (fal (lay l junk), 0) else (l, 8)
def ris (l : Ls) : Ls × Int := if l.up = true then (l, 0) else if (opn l.a l.b l.n l.t).2 ≠ 0 then (l, (opn l.a l.b l.n l.t).2) else ((opn l.a l.b l.n l.t).1, 0)
def deed (l : Ls) (kind tear : Int) (junk : List Int) : Ls × List Nat × Int :=
 if kind = 1 then (if (tak l).2.2 ≠ 0 then ((tak l).1, [], (tak l).2.2) else ((tak l).1, [(tak l).2.1], 0)) else
 if kind = 2 then ((res l).1, [], (res l).2) else
 if kind = 3 then ((tor l tear junk).1, [], (tor l tear junk).2) else
 if kind = 4 then (fal l, [], 0) else
 if kind = 5 then ((ris l).1, [], (ris l).2) else (l, [], 1)
structure Lwf (l : Ls) : Prop where
 a : In 256 l.a
 b : In 256 l.b
 na : l.a.length ≤ 1000
 nb : l.b.length ≤ 1000
 n : l.n < 18446744073709551616
 t : l.t < 18446744073709551616
 x : l.x < 18446744073709551616
 d : l.d < 18446744073709551616
structure Lfit (l : Ls) : Prop where
 n : l.n ≤ 1152921504606846976
 t : 1 ≤ l.t ∧ l.t ≤ 4294967296
 down : l.up = false → l.x = 0 ∧ l.d = 0
 ok : l.up = true → (bq l).2.2.2 = 0 ∧ (bq l).2.1 = (l.d : Int) ∧ l.x ≤ l.d ∧ l.d ≤ l.n
theorem z64 : (0 : Nat) < 18446744073709551616 := by decide
theorem bln {b : List Int} {p : Int × Int} (hb : In 256 b) (h : rd b = some p) : 0 ≤ p.1 ∧ p.1 < 18446744073709551616 ∧ 0 ≤ p.2 ∧ p.2 < 18446744073709551616 := by
 obtain ⟨x, y, hx, hy, rfl, _⟩ := bfh hb h
 simp only
 omega
theorem ayk (a b : List Int) (ha : In 256 a) (hb : In 256 b) : 0 ≤ (bst (rd a) (rd b)).1 ∧ (bst (rd a) (rd b)).1 < 18446744073709551616 ∧ 0 ≤ (bst (rd a) (rd b)).2.1 ∧ (bst (rd a) (rd b)).2.1 < 18446744073709551616 := by
 rcases alq (rd a) (rd b) with ⟨_, _, h⟩ | ⟨p, h0, _, h⟩ | ⟨p, h0, _, h⟩
 ·rw [h]; decide
 ·rw [h]; exact bln ha h0
 ·rw [h]; exact bln hb h0
theorem ay7 (l : Ls) (h0 : (bq l).2.2.2 = 0) (e d : Nat) (he : (bq l).1 < (e : Int)) (he2 : e < 18446744073709551616) (hd : d < 18446744073709551616) : (bq (lay l (adx e d))).1 = (e : Int) ∧ (bq (lay l (adx e d))).2.1 = (d : Int) ∧ (bq (lay l (adx e d))).2.2.2 = 0 := by
 have hrc := bfy e d he2 hd
 unfold lay bq at *
 rcases alq (rd l.a) (rd l.b) with ⟨_, _, h⟩ | ⟨p, h1, h2, h⟩ | ⟨p, h1, h2, h⟩
 ·rw [h] at h0; cases h0
 ·rw [h] at he ⊢
  simp only at he
  rw [if_pos rfl]
  simp only [h1, hrc]
  have : p.1 < (e : Int) := he
  simp [bst, upB, this]
 ·rw [h] at he ⊢
  simp only at he
  rw [if_neg (by simp)]
  simp only [h1, hrc]
  have : ¬ p.1 > (e : Int) := by omega
  simp [bst, upB, this]
theorem ba6 (l : Ls) (h0 : (bq l).2.2.2 = 0) (c : List Int) (hc : rd c = none) : (bq (lay l c)).1 = (bq l).1 ∧ (bq (lay l c)).2.1 = (bq l).2.1 ∧ (bq (lay l c)).2.2.2 = 0 := by
 unfold lay bq at *
 rcases alq (rd l.a) (rd l.b) with ⟨_, _, h⟩ | ⟨p, h1, h2, h⟩ | ⟨p, h1, h2, h⟩
 ·rw [h] at h0; cases h0
 ·rw [h]
  rw [if_pos rfl]
  simp only [h1, hc]
  simp [bst, upB]
 ·rw [h]
  rw [if_neg (by simp)]
  simp only [h1, hc]
  simp [bst, upB]
structure Lin (l : Ls) (e B : Nat) : Prop where
 wf : Lwf l
 n : l.n ≤ 1152921504606846976
 t : 1 ≤ l.t ∧ l.t ≤ 4294967296
 err : (bq l).2.2.2 = 0
 ee : (bq l).1 = (e : Int)
 eB : (bq l).2.1 = (B : Int)
 Bn : B ≤ l.n
 el : e ≤ 1152921504606846976
 down : l.up = false → l.x = 0 ∧ l.d = 0
 up : l.up = true → l.d = B ∧ l.x ≤ B
theorem ahv {l : Ls} (h : Lwf l) {c : List Int} (hc : In 256 c) (nc : c.length ≤ 1000) : Lwf (lay l c) ∧ (lay l c).n = l.n ∧ (lay l c).t = l.t ∧ (lay l c).x = l.x ∧ (lay l c).d = l.d ∧ (lay l c).up = l.up := by
 unfold lay
 split
 ·exact ⟨{ h with b := hc, nb := nc }, rfl, rfl, rfl, rfl, rfl⟩
 ·exact ⟨{ h with a := hc, na := nc }, rfl, rfl, rfl, rfl, rfl⟩
theorem Lin.nxt {l : Ls} {e B : Nat} (h : Lin l e B) (hu : l.up = true) : (B = l.n ∧ nxt l = (13, 0, 0)) ∨ (B < l.n ∧ e = 1152921504606846976 ∧ nxt l = (8, 0, 0)) ∨ (B < l.n ∧ e < 1152921504606846976 ∧ nxt l = (0, e + 1, B + min l.t (l.n - B))) := by
 obtain ⟨h1, h2⟩ := h.up hu
 have hBn := h.Bn
 have hel := h.el
 unfold Q.nxt
 rw [if_neg (by rw [hu]; simp), h1]
 by_cases hb : B = l.n
 ·exact .inl ⟨hb, by rw [if_pos hb]⟩
 ·rw [if_neg hb, if_neg (by rw [h.err]; simp), h.ee]
  by_cases he : e = 1152921504606846976
  ·exact .inr (.inl ⟨by omega, he, by rw [if_pos (by omega)]⟩)
  ·exact .inr (.inr ⟨by omega, by omega, by rw [if_neg (by omega), Int.toNat_natCast]⟩)
theorem Lin.res {l : Ls} {e B : Nat} (h : Lin l e B) : ((res l).1 = l ∧ (res l).2 ≠ 0 ∧ (l.up = true → (B = l.n ∧ (res l).2 = 13) ∨ e = 1152921504606846976)) ∨ (l.up = true ∧ (res l).2 = 0 ∧ B < l.n ∧ e < 1152921504606846976 ∧ Lin (res l).1 (e + 1) (B + min l.t (l.n - B)) ∧ (res l).1.up = true ∧ (res l).1.x = l.x ∧ (res l).1.n = l.n ∧ (res l).1.t = l.t) := by
 by_cases hu : l.up = true
 ·obtain ⟨h1, h2⟩ := h.up hu
  have ht := h.t
  have hn := h.n
  rcases h.nxt hu with ⟨hb, hx⟩ | ⟨hb, he, hx⟩ | ⟨hb, he, hx⟩
  ·exact .inl ⟨by unfold Q.res; rw [hx]; rfl, by unfold Q.res; rw [hx]; exact (show (13 : Int) ≠ 0 by decide), fun _ => .inl ⟨hb, by unfold Q.res; rw [hx]; rfl⟩⟩
  ·exact .inl ⟨by unfold Q.res; rw [hx]; rfl, by unfold Q.res; rw [hx]; exact (show (8 : Int) ≠ 0 by decide), fun _ => .inr he⟩
  ·have hrin := acg (e + 1) (B + min l.t (l.n - B))
   have hrl := w9 (e + 1) (B + min l.t (l.n - B))
   obtain ⟨w1, w2, w3, w4, w5, w6⟩ := ahv h.wf hrin (by omega)
   obtain ⟨b1, b2, b3⟩ := ay7 l h.err (e + 1) (B + min l.t (l.n - B)) (by rw [h.ee]; omega) (by omega) (by omega)
   have e1 : (Q.res l).1 = { lay l (adx (e + 1) (B + min l.t (l.n - B))) with d := B + min l.t (l.n - B) } := by unfold Q.res; rw [hx]; rfl
   have e2 : (Q.res l).2 = 0 := by unfold Q.res; rw [hx]; rfl
   refine .inr ⟨hu, e2, hb, he, ?_, by rw [e1]; simp only; rw [w6, hu], by rw [e1]; simp only; exact w4, by rw [e1]; simp only; exact w2, by rw [e1]; simp only; exact w3⟩
   rw [e1]
   exact { wf := { w1 with d := by simp only; omega }, n := by simp only; omega, t := by simp only; omega, err := b3, ee := by simpa [bq] using b1, eB := by simpa [bq] using b2, Bn := by simp only; omega, el := by omega,
           down := fun h => (by simp only [w6, hu] at h; cases h), up := fun _ => ⟨rfl, by simp only; omega⟩ }
 ·have hu : l.up = false := by simpa using hu
  have hx : Q.nxt l = (21, 0, 0) := by unfold Q.nxt; rw [if_pos hu]
  exact .inl ⟨by unfold Q.res; rw [hx]; rfl, by unfold Q.res; rw [hx]; exact (show (21 : Int) ≠ 0 by decide), fun h => by rw [hu] at h; cases h⟩
theorem Lin.step {l : Ls} {e B : Nat} (h : Lin l e B) (hu : l.up = true) (hx : l.x < B) : Lin { l with x := l.x + 1 } e B :=
 { h with wf := { h.wf with x := by have := h.Bn; have := h.n; simp only; omega }, down := fun h' => (by simp only [hu] at h'; cases h'), up := fun _ => ⟨(h.up hu).1, by simp only; omega⟩, err := h.err, ee := h.ee, eB := h.eB }
theorem Lin.tak {l : Ls} {e B : Nat} (h : Lin l e B) :
    ((tak l).1 = l ∧ (tak l).2.2 ≠ 0 ∧ (l.up = true → l.x = B ∧ ((B = l.n ∧ (tak l).2.2 = 13) ∨ e = 1152921504606846976))) ∨
    (l.up = true ∧ (tak l).2.2 = 0 ∧ (tak l).2.1 = l.x ∧ ∃ e' B', Lin (tak l).1 e' B' ∧ e ≤ e' ∧ e' ≤ e + 1 ∧ B ≤ B' ∧ l.x < B' ∧ (tak l).1.up = true ∧ (tak l).1.x = l.x + 1 ∧ (tak l).1.n = l.n ∧ (tak l).1.t = l.t) := by
 by_cases hu : l.up = true
 ·obtain ⟨h1, h2⟩ := h.up hu
  have e0 : Q.tak l = if l.x = l.d then (if (Q.res l).2 ≠ 0 then (l, 0, (Q.res l).2) else ({ (Q.res l).1 with x := l.x + 1 }, l.x, 0)) else ({ l with x := l.x + 1 }, l.x, 0) := by
   unfold Q.tak; rw [if_neg (by rw [hu]; simp)]
  by_cases hx : l.x = l.d
  ·rw [if_pos hx] at e0
   rcases h.res with ⟨r1, r2, r3⟩ | ⟨_, r2, r3, r4, r5, r6, r7, r8, r9⟩
   ·rw [if_pos r2] at e0
    exact .inl ⟨by rw [e0], by rw [e0]; exact r2, fun _ => ⟨by omega, by rw [e0]; exact r3 hu⟩⟩
   ·rw [if_neg (by rw [r2]; simp)] at e0
    have ht := h.t
    have := r5.step r6 (by rw [r7]; omega)
    rw [r7] at this
    exact .inr ⟨hu, by rw [e0], by rw [e0], e + 1, _, by rw [e0]; exact this, by omega, by omega, by omega, by omega, by rw [e0]; exact r6, by rw [e0], by rw [e0]; exact r8, by rw [e0]; exact r9⟩
  ·rw [if_neg hx] at e0
   exact .inr ⟨hu, by rw [e0], by rw [e0], e, B, by rw [e0]; exact h.step hu (by omega), by omega, by omega, by omega, by omega, by rw [e0]; exact hu, by rw [e0], by rw [e0], by rw [e0]⟩
 ·have hu : l.up = false := by simpa using hu
  have e0 : Q.tak l = (l, 0, 21) := by unfold Q.tak; rw [if_pos hu]
  exact .inl ⟨by rw [e0], by rw [e0]; exact (show (21 : Int) ≠ 0 by decide), fun h => by rw [hu] at h; cases h⟩
theorem Lin.fal {l : Ls} {e B : Nat} (h : Lin l e B) : Lin (fal l) e B :=
 { h with wf := { h.wf with x := z64, d := z64 }, down := fun _ => ⟨rfl, rfl⟩, up := fun h => (by cases h), err := h.err, ee := h.ee, eB := h.eB }
theorem Lin.tor {l : Ls} {e B : Nat} (h : Lin l e B) (tear : Int) (junk : List Int) (hj : In 256 junk) (nj : junk.length ≤ 1000) (hr : rd junk = none) :
    ((tor l tear junk).1 = l) ∨ (l.up = true ∧ (tor l tear junk).1.up = false ∧ (tor l tear junk).1.n = l.n ∧ (tor l tear junk).1.t = l.t ∧ ∃ e' B', Lin (tor l tear junk).1 e' B' ∧ e ≤ e' ∧ e' ≤ e + 1 ∧ B ≤ B' ∧ B' ≤ B + l.t) := by
 by_cases hu : l.up = true
 ·have ht := h.t
  have hn := h.n
  rcases h.nxt hu with ⟨hb, hx⟩ | ⟨hb, he, hx⟩ | ⟨hb, he, hx⟩
  ·exact .inl (by unfold Q.tor; rw [hx]; rfl)
  ·exact .inl (by unfold Q.tor; rw [hx]; rfl)
  ·have e0 : Q.tor l tear junk = if tear = 0 then (Q.fal l, 0) else if tear = 1 then (Q.fal (lay l (adx (e + 1) (B + min l.t (l.n - B)))), 0) else if tear = 2 then (Q.fal (lay l junk), 0) else (l, 8) := by
     unfold Q.tor; rw [hx]; rfl
   rw [e0]
   by_cases t0 : tear = 0
   ·rw [if_pos t0]
    exact .inr ⟨hu, rfl, rfl, rfl, e, B, h.fal, by omega, by omega, by omega, by omega⟩
   ·rw [if_neg t0]
    by_cases t1 : tear = 1
    ·rw [if_pos t1]
     have hrin := acg (e + 1) (B + min l.t (l.n - B))
     have hrl := w9 (e + 1) (B + min l.t (l.n - B))
     obtain ⟨w1, w2, w3, w4, w5, w6⟩ := ahv h.wf hrin (by omega)
     obtain ⟨b1, b2, b3⟩ := ay7 l h.err (e + 1) (B + min l.t (l.n - B)) (by rw [h.ee]; omega) (by omega) (by omega)
     refine .inr ⟨hu, rfl, w2, w3, e + 1, B + min l.t (l.n - B), ?_, by omega, by omega, by omega, by omega⟩
     exact { wf := { w1 with x := z64, d := z64 }, n := by show (lay l _).n ≤ _; omega, t := by show 1 ≤ (lay l _).t ∧ (lay l _).t ≤ _; omega, err := b3, ee := by simpa [bq, Q.fal] using b1, eB := by simpa [bq, Q.fal] using b2, Bn := by show _ ≤ (lay l _).n; omega, el := by omega,
             down := fun _ => ⟨rfl, rfl⟩, up := fun h => (by cases h) }
    ·rw [if_neg t1]
     by_cases t2 : tear = 2
     ·rw [if_pos t2]
      obtain ⟨w1, w2, w3, w4, w5, w6⟩ := ahv h.wf hj nj
      obtain ⟨b1, b2, b3⟩ := ba6 l h.err junk hr
      have hBn := h.Bn
      refine .inr ⟨hu, rfl, w2, w3, e, B, ?_, by omega, by omega, by omega, by omega⟩
      exact { wf := { w1 with x := z64, d := z64 }, n := by show (lay l _).n ≤ _; omega, t := by show 1 ≤ (lay l _).t ∧ (lay l _).t ≤ _; omega, err := b3, ee := b1.trans h.ee, eB := b2.trans h.eB, Bn := by show _ ≤ (lay l _).n; omega, el := h.el,
              down := fun _ => ⟨rfl, rfl⟩, up := fun h => (by cases h) }
     ·rw [if_neg t2]
      exact .inl rfl
 ·have hu : l.up = false := by simpa using hu
  have hx : Q.nxt l = (21, 0, 0) := by unfold Q.nxt; rw [if_pos hu]
  exact .inl (by unfold Q.tor; rw [hx]; rfl)
theorem Lin.ris {l : Ls} {e B : Nat} (h : Lin l e B) : ((ris l).1 = l ∧ (l.up = false → e = 1152921504606846976)) ∨ (l.up = false ∧ e < 1152921504606846976 ∧ Lin (ris l).1 e B ∧ (ris l).1.up = true ∧ (ris l).1.x = B ∧ (ris l).1.d = B ∧ (ris l).1.n = l.n ∧ (ris l).1.t = l.t) := by
 by_cases hu : l.up = true
 ·exact .inl ⟨by unfold Q.ris; rw [if_pos hu], fun h => by rw [hu] at h; cases h⟩
 ·have hu' : l.up = false := by simpa using hu
  have hBn := h.Bn
  have hn := h.n
  have ht := h.t
  have he := h.ee
  have hB := h.eB
  have her := h.err
  unfold bq at he hB her
  have e0 : opn l.a l.b l.n l.t = if e ≥ 1152921504606846976 then (⟨[], [], 0, 0, 0, 0, false⟩, 8) else (⟨l.a, l.b, l.n, l.t, B, B, true⟩, 0) := by
   unfold opn
   rw [if_neg (by omega), her, if_neg (by decide), hB, he, Int.toNat_natCast]
   by_cases h1 : e ≥ 1152921504606846976
   ·rw [if_pos (.inr (by omega)), if_pos h1]
   ·rw [if_neg (by omega), if_neg h1]
  unfold Q.ris
  rw [if_neg hu, e0]
  by_cases h1 : e ≥ 1152921504606846976
  ·rw [if_pos h1]
   exact .inl ⟨rfl, fun _ => by have := h.el; omega⟩
  ·rw [if_neg h1]
   exact .inr ⟨hu', by omega, { wf := { h.wf with x := (show B < 18446744073709551616 by omega), d := (show B < 18446744073709551616 by omega) }, n := hn, t := ht, err := her, ee := he, eB := hB, Bn := hBn, el := h.el, down := fun h => (by cases h), up := fun _ => ⟨rfl, Nat.le_refl _⟩ }, rfl, rfl, rfl, rfl, rfl⟩
end Q
end

section
/- lease: what deeds do to a lease, without a program. -/
namespace Q
open Go Go.Abs
set_option linter.unusedVariables false
set_option linter.unusedSimpArgs false
inductive Did (l l' : Ls) (out : List Nat) (B B' : Nat) : Prop where
 | same (h1 : out = []) (h2 : l'.up = l.up) (h3 : l'.x = l.x) (h4 : l.up = false → B' = B)
 | gave (h1 : out = [l.x]) (h2 : l.up = true) (h3 : l'.up = true) (h4 : l'.x = l.x + 1) (h5 : l.x < B')
 | fell (h1 : out = []) (h2 : l.up = true) (h3 : l'.up = false) (h4 : B' ≤ B + l.t)
 | rose (h1 : out = []) (h2 : l.up = false) (h3 : l'.up = true) (h4 : l'.x = B) (h5 : l'.d = B) (h6 : B' = B)
theorem Lin.deed {l : Ls} {e B : Nat} (h : Lin l e B) (kind tear : Int) (junk : List Int) (hj : In 256 junk) (nj : junk.length ≤ 1000) (hr : rd junk = none) :
    ∃ e' B', Lin (deed l kind tear junk).1 e' B' ∧ e ≤ e' ∧ e' ≤ e + 1 ∧ B ≤ B' ∧ (deed l kind tear junk).1.n = l.n ∧ (deed l kind tear junk).1.t = l.t ∧ Did l (deed l kind tear junk).1 (deed l kind tear junk).2.1 B B' := by
 have keep : ∀ er : Int, Q.deed l kind tear junk = (l, [], er) → ∃ e' B', Lin (Q.deed l kind tear junk).1 e' B' ∧ e ≤ e' ∧ e' ≤ e + 1 ∧ B ≤ B' ∧ (Q.deed l kind tear junk).1.n = l.n ∧ (Q.deed l kind tear junk).1.t = l.t ∧ Did l (Q.deed l kind tear junk).1 (Q.deed l kind tear junk).2.1 B B' := by
  intro er he
  rw [he]
  exact ⟨e, B, h, Nat.le_refl _, by omega, Nat.le_refl _, rfl, rfl, .same rfl rfl rfl (fun _ => rfl)⟩
 by_cases k1 : kind = 1
 ·have e0 : Q.deed l kind tear junk = if (Q.tak l).2.2 ≠ 0 then ((Q.tak l).1, [], (Q.tak l).2.2) else ((Q.tak l).1, [(Q.tak l).2.1], 0) := by unfold Q.deed; rw [if_pos k1]
  rcases h.tak with ⟨h1, h2, h3⟩ | ⟨h1, h2, h3, e', B', h4, h5, h6, h7, h8, h9, h10, h11, h12⟩
  ·rw [if_pos h2, h1] at e0
   exact keep _ e0
  ·rw [if_neg (by rw [h2]; simp)] at e0
   rw [e0]
   exact ⟨e', B', h4, h5, h6, h7, h11, h12, .gave (by rw [h3]) h1 h9 h10 h8⟩
 by_cases k2 : kind = 2
 ·have e0 : Q.deed l kind tear junk = ((Q.res l).1, [], (Q.res l).2) := by unfold Q.deed; rw [if_neg k1, if_pos k2]
  rcases h.res with ⟨h1, h2, h3⟩ | ⟨h1, h2, h3, h4, h5, h6, h7, h8, h9⟩
  ·rw [h1] at e0
   exact keep _ e0
  ·rw [e0]
   exact ⟨e + 1, _, h5, by omega, by omega, by omega, h8, h9, .same rfl (h6.trans h1.symm) h7 (fun hd => by rw [h1] at hd; cases hd)⟩
 by_cases k3 : kind = 3
 ·have e0 : Q.deed l kind tear junk = ((Q.tor l tear junk).1, [], (Q.tor l tear junk).2) := by unfold Q.deed; rw [if_neg k1, if_neg k2, if_pos k3]
  rcases h.tor tear junk hj nj hr with h1 | ⟨h1, h2, h3, h4, e', B', h5, h6, h7, h8, h9⟩
  ·rw [h1] at e0
   exact keep _ e0
  ·rw [e0]
   exact ⟨e', B', h5, h6, h7, h8, h3, h4, .fell rfl h1 h2 h9⟩
 by_cases k4 : kind = 4
 ·have e0 : Q.deed l kind tear junk = (Q.fal l, [], 0) := by unfold Q.deed; rw [if_neg k1, if_neg k2, if_neg k3, if_pos k4]
  rw [e0]
  by_cases hu : l.up = true
  ·exact ⟨e, B, h.fal, Nat.le_refl _, by omega, Nat.le_refl _, rfl, rfl, .fell rfl hu rfl (by omega)⟩
  ·have hu' : l.up = false := by simpa using hu
   exact ⟨e, B, h.fal, Nat.le_refl _, by omega, Nat.le_refl _, rfl, rfl, .same rfl hu'.symm (h.down hu').1.symm (fun _ => rfl)⟩
 by_cases k5 : kind = 5
 ·have e0 : Q.deed l kind tear junk = ((Q.ris l).1, [], (Q.ris l).2) := by unfold Q.deed; rw [if_neg k1, if_neg k2, if_neg k3, if_neg k4, if_pos k5]
  rcases h.ris with ⟨h1, h2⟩ | ⟨h1, h2, h3, h4, h5, h6, h7, h8⟩
  ·rw [h1] at e0
   exact keep _ e0
  ·rw [e0]
   exact ⟨e, B, h3, Nat.le_refl _, by omega, Nat.le_refl _, h7, h8, .rose rfl h1 h4 h5 h6 rfl⟩
 exact keep 1 (by unfold Q.deed; rw [if_neg k1, if_neg k2, if_neg k3, if_neg k4, if_neg k5])
def Ups (n : Nat) : Nat → List Nat → Prop
 | _, [] => True
 | m, x :: r => m ≤ x ∧ x < n ∧ Ups n (x + 1) r
theorem Ups.mono {n : Nat} : ∀ {m m' : Nat} {l : List Nat}, m' ≤ m → Ups n m l → Ups n m' l
 | m, m', [], _, _ => trivial
 | m, m', x :: r, h, ⟨h1, h2, h3⟩ => ⟨by omega, h2, h3⟩
end Q
end

section
/- lease: the program's functions and the document's are those of the pure lease. -/
namespace Q
open Go Go.Abs
set_option linter.unusedVariables false
set_option linter.unusedSimpArgs false
def lsK {ρ : Type} (l : Ls) (k : List Int → List Int → Int → Int → Int → Int → Bool → Option ρ) : Option ρ := k l.a l.b (l.n : Int) (l.t : Int) (l.x : Int) (l.d : Int) l.up
structure Lgo (l : Ls) : Prop where
 wf : Lwf l
 n : l.n ≤ 1152921504606846976
 t : l.t ≤ 4294967296
 up : l.up = true → l.x ≤ l.d ∧ l.d ≤ l.n
abbrev bb (l : Ls) : Int × Int × Int × Int := bst (rd l.a) (rd l.b)
theorem aai (l : Ls) : (l.up = false ∧ nxt l = (21, 0, 0)) ∨ (l.up = true ∧ l.d = l.n ∧ nxt l = (13, 0, 0)) ∨ (l.up = true ∧ l.d ≠ l.n ∧ (bst (rd l.a) (rd l.b)).2.2.2 ≠ 0 ∧ nxt l = ((bst (rd l.a) (rd l.b)).2.2.2, 0, 0)) ∨
    (l.up = true ∧ l.d ≠ l.n ∧ (bst (rd l.a) (rd l.b)).2.2.2 = 0 ∧ (bst (rd l.a) (rd l.b)).1 ≥ 1152921504606846976 ∧ nxt l = (8, 0, 0)) ∨
    (l.up = true ∧ l.d ≠ l.n ∧ (bst (rd l.a) (rd l.b)).2.2.2 = 0 ∧ ¬ (bst (rd l.a) (rd l.b)).1 ≥ 1152921504606846976 ∧ nxt l = (0, (bst (rd l.a) (rd l.b)).1.toNat + 1, l.d + min l.t (l.n - l.d))) := by
 unfold nxt bq
 by_cases hu : l.up = false
 ·exact .inl ⟨hu, by rw [if_pos hu]⟩
 ·have hu' : l.up = true := by simpa using hu
  by_cases h1 : l.d = l.n
  ·exact .inr (.inl ⟨hu', h1, by rw [if_neg hu, if_pos h1]⟩)
  ·by_cases h2 : (bst (rd l.a) (rd l.b)).2.2.2 = 0
   ·by_cases h3 : (bst (rd l.a) (rd l.b)).1 ≥ 1152921504606846976
    ·exact .inr (.inr (.inr (.inl ⟨hu', h1, h2, h3, by rw [if_neg hu, if_neg h1, if_neg (fun h => h h2), if_pos h3]⟩)))
    ·exact .inr (.inr (.inr (.inr ⟨hu', h1, h2, h3, by rw [if_neg hu, if_neg h1, if_neg (fun h => h h2), if_neg h3]⟩)))
   ·exact .inr (.inr (.inl ⟨hu', h1, h2, by rw [if_neg hu, if_neg h1, if_pos h2]⟩))
theorem wu {l : Ls} {e : Int} (h : nxt l = (e, 0, 0)) (he : e ≠ 0) : res l = (l, e) := by
 unfold res; rw [h]; simp only; rw [if_pos he]
theorem ahy {l : Ls} {e d : Nat} (h : nxt l = (0, e, d)) : res l = ({ lay l (adx e d) with d := d }, 0) := by
 unfold res; rw [h]; rfl
theorem ait (l : Ls) (c : List Int) (h : (bst (rd l.a) (rd l.b)).2.2.2 = 0) {ρ : Type} (k : List Int → List Int → Int → Int → Option ρ) : als l.a l.b c k = k (lay l c).a (lay l c).b (if (bst (rd l.a) (rd l.b)).2.2.1 = 0 then 1 else 0) 0 := by
 unfold als lay bq
 rw [if_pos h]
 split <;> rfl
theorem as0 {n d t : Nat} (h : d ≤ n) (hn : n < 18446744073709551616) (ht : t < 18446744073709551616) : IntKind.u64.wrap ((d : Int) + bif decide (IntKind.u64.wrap ((n : Int) - (d : Int)) < (t : Int)) then IntKind.u64.wrap ((n : Int) - (d : Int)) else (t : Int)) = ((d + min t (n - d) : Nat) : Int) := by
 rw [show (n : Int) - (d : Int) = ((n - d : Nat) : Int) by omega, ake (n - d) (by omega)]
 by_cases hh : n - d < t
 ·rw [decide_eq_true (show ((n - d : Nat) : Int) < (t : Int) by omega), cond_true, show (d : Int) + ((n - d : Nat) : Int) = ((d + min t (n - d) : Nat) : Int) by omega, ake _ (by omega)]
 ·rw [decide_eq_false (show ¬ ((n - d : Nat) : Int) < (t : Int) by omega), cond_false, show (d : Int) + (t : Int) = ((d + min t (n - d) : Nat) : Int) by omega, ake _ (by omega)]
theorem bhe {n d t : Nat} (h : d ≤ n) (hn : n ≤ 1152921504606846976) (ht : t ≤ 4294967296) : (bif decide ((n : Int) < IntKind.u64.wrap ((d : Int) + (t : Int))) then (n : Int) else IntKind.u64.wrap ((d : Int) + (t : Int))) = ((d + min t (n - d) : Nat) : Int) := by
 rw [show (d : Int) + (t : Int) = ((d + t : Nat) : Int) by omega, ake (d + t) (by omega)]
 by_cases hh : n < d + t
 ·rw [decide_eq_true (show (n : Int) < ((d + t : Nat) : Int) by omega), cond_true]; omega
 ·rw [decide_eq_false (show ¬ (n : Int) < ((d + t : Nat) : Int) by omega), cond_false]; omega
theorem aoj {l : Ls} (h : Lwf l) (he : ¬ (bst (rd l.a) (rd l.b)).1 ≥ 1152921504606846976) : IntKind.u64.wrap ((bst (rd l.a) (rd l.b)).1 + 1) = (((bst (rd l.a) (rd l.b)).1.toNat + 1 : Nat) : Int) := by
 have := ayk l.a l.b h.a h.b
 rw [show (bst (rd l.a) (rd l.b)).1 + 1 = (((bst (rd l.a) (rd l.b)).1.toNat + 1 : Nat) : Int) by omega, ake _ (by omega)]
theorem ais {l : Ls} (he : ¬ (bst (rd l.a) (rd l.b)).1 ≥ 1152921504606846976) : (bst (rd l.a) (rd l.b)).1.toNat + 1 < 18446744073709551616 := by omega
theorem aks (a b : List Int) (n t : Nat) : (n > 1152921504606846976 ∧ opn a b n t = (⟨[], [], 0, 0, 0, 0, false⟩, 8)) ∨ (¬ n > 1152921504606846976 ∧ t < 1 ∧ opn a b n t = (⟨[], [], 0, 0, 0, 0, false⟩, 8)) ∨ (¬ n > 1152921504606846976 ∧ ¬ t < 1 ∧ t > 4294967296 ∧ opn a b n t = (⟨[], [], 0, 0, 0, 0, false⟩, 8)) ∨
    (¬ n > 1152921504606846976 ∧ ¬ t < 1 ∧ ¬ t > 4294967296 ∧ (((bst (rd a) (rd b)).2.2.2 ≠ 0 ∧ opn a b n t = (⟨[], [], 0, 0, 0, 0, false⟩, (bst (rd a) (rd b)).2.2.2)) ∨ ((bst (rd a) (rd b)).2.2.2 = 0 ∧ (bst (rd a) (rd b)).2.1 > (n : Int) ∧ opn a b n t = (⟨[], [], 0, 0, 0, 0, false⟩, 8)) ∨
     ((bst (rd a) (rd b)).2.2.2 = 0 ∧ ¬ (bst (rd a) (rd b)).2.1 > (n : Int) ∧ (bst (rd a) (rd b)).1 ≥ 1152921504606846976 ∧ opn a b n t = (⟨[], [], 0, 0, 0, 0, false⟩, 8)) ∨
     ((bst (rd a) (rd b)).2.2.2 = 0 ∧ ¬ (bst (rd a) (rd b)).2.1 > (n : Int) ∧ ¬ (bst (rd a) (rd b)).1 ≥ 1152921504606846976 ∧ opn a b n t = (⟨a, b, n, t, (bst (rd a) (rd b)).2.1.toNat, (bst (rd a) (rd b)).2.1.toNat, true⟩, 0)))) := by
 unfold opn
 by_cases h1 : n > 1152921504606846976
 ·exact .inl ⟨h1, by rw [if_pos (.inl h1)]⟩
 by_cases h2 : t < 1
 ·exact .inr (.inl ⟨h1, h2, by rw [if_pos (.inr (.inl h2))]⟩)
 by_cases h3 : t > 4294967296
 ·exact .inr (.inr (.inl ⟨h1, h2, h3, by rw [if_pos (.inr (.inr h3))]⟩))
 refine .inr (.inr (.inr ⟨h1, h2, h3, ?_⟩))
 have h0 : ¬ (n > 1152921504606846976 ∨ t < 1 ∨ t > 4294967296) := by omega
 rw [if_neg h0]
 by_cases h4 : (bst (rd a) (rd b)).2.2.2 = 0
 ·rw [if_neg (fun h => h h4)]
  by_cases h5 : (bst (rd a) (rd b)).2.1 > (n : Int)
  ·exact .inr (.inl ⟨h4, h5, by rw [if_pos (.inl h5)]⟩)
  ·by_cases h6 : (bst (rd a) (rd b)).1 ≥ 1152921504606846976
   ·exact .inr (.inr (.inl ⟨h4, h5, h6, by rw [if_pos (.inr h6)]⟩))
   ·exact .inr (.inr (.inr ⟨h4, h5, h6, by rw [if_neg (by omega)]⟩))
 ·exact .inl ⟨h4, by rw [if_pos h4]⟩
theorem iy (a b : List Int) (n t : Nat) (ha : In 256 a) (hb : In 256 b) (na : a.length ≤ 1000000) (nb : b.length ≤ 1000000) {ρ : Type} (k : List Int → List Int → Int → Int → Int → Int → Bool → Int → Option ρ) : P.iy a b (n : Int) (t : Int) k = lsK (opn a b n t).1 (fun a1 b1 n1 t1 x1 d1 u1 => k a1 b1 n1 t1 x1 d1 u1 (opn a b n t).2) := by
 have hl := ayk a b ha hb
 rw [P.akk]; unfold P.afw
 rcases aks a b n t with ⟨h1, h⟩ | ⟨h1, h2, h⟩ | ⟨h1, h2, h3, h⟩ | ⟨h1, h2, h3, h⟩
 ·rw [h, av (by omega)]; rfl
 ·rw [h, dn (by omega), av (by omega)]; rfl
 ·rw [h, dn (by omega), dn (by omega), av (by omega)]; rfl
 ·rw [dn (by omega), dn (by omega), dn (by omega), cu a b ha hb na nb]
  rcases h with ⟨h4, h⟩ | ⟨h4, h5, h⟩ | ⟨h4, h5, h6, h⟩ | ⟨h4, h5, h6, h⟩
  ·rw [h, gq h4]; rfl
  ·rw [h, fu h4, av h5]; rfl
  ·rw [h, fu h4, dn h5, av h6]; rfl
  ·rw [h, fu h4, dn h5, dn h6, apv a (by omega), apv b (by omega)]
   simp only [lsK]
   rw [Int.toNat_of_nonneg hl.2.2.1]
theorem aby (a b : List Int) (n t : Nat) (ha : In 256 a) (hb : In 256 b) (na : a.length ≤ 1000000) (nb : b.length ≤ 1000000) {ρ : Type} (k : List Int → List Int → Int → Int → Int → Int → Bool → Int → Option ρ) : P.aby a b (n : Int) (t : Int) k = lsK (opn a b n t).1 (fun a1 b1 n1 t1 x1 d1 u1 => k a1 b1 n1 t1 x1 d1 u1 (opn a b n t).2) := by
 have hl := ayk a b ha hb
 rw [P.an9]; unfold P.aii
 rcases aks a b n t with ⟨h1, h⟩ | ⟨h1, h2, h⟩ | ⟨h1, h2, h3, h⟩ | ⟨h1, h2, h3, h⟩
 ·rw [h, av (by omega)]; rfl
 ·rw [h, dn (by omega), av (by omega)]; rfl
 ·rw [h, dn (by omega), dn (by omega), av (by omega)]; rfl
 ·rw [dn (by omega), dn (by omega), dn (by omega), kr a b ha hb na nb]
  rcases h with ⟨h4, h⟩ | ⟨h4, h5, h⟩ | ⟨h4, h5, h6, h⟩ | ⟨h4, h5, h6, h⟩
  ·rw [h, gq h4]; rfl
  ·rw [h, fu h4, av h5]; rfl
  ·rw [h, fu h4, dn h5, av h6]; rfl
  ·rw [h, fu h4, dn h5, dn h6]
   simp only [lsK]
   rw [Int.toNat_of_nonneg hl.2.2.1]
theorem aci (l : Ls) (h : Lgo l) {ρ : Type} (k : List Int → List Int → Int → Int → Int → Int → Bool → Int → Option ρ) : P.aci l.a l.b (l.n : Int) (l.t : Int) (l.x : Int) (l.d : Int) l.up k = lsK (res l).1 (fun a1 b1 n1 t1 x1 d1 u1 => k a1 b1 n1 t1 x1 d1 u1 (res l).2) := by
 obtain ⟨w, hn, ht, hp⟩ := h
 rw [P.ag5]; unfold P.aa9
 rcases aai l with ⟨hu, hx⟩ | ⟨hu, h1, hx⟩ | ⟨hu, h1, h2, hx⟩ | ⟨hu, h1, h2, h3, hx⟩ | ⟨hu, h1, h2, h3, hx⟩
 ·rw [wu hx (by omega)]; simp only [lsK, hu, Bool.not_false, ug]
 ·rw [wu hx (by omega)]; simp only [lsK, hu, Bool.not_true, ni]; rw [bn (by omega)]
 ·rw [wu hx h2]; simp only [lsK, hu, Bool.not_true, ni]; rw [dw (by omega), cu l.a l.b w.a w.b (by have := w.na; omega) (by have := w.nb; omega), gq h2, gq h2]
 ·rw [wu hx (by omega)]; simp only [lsK, hu, Bool.not_true, ni]; rw [dw (by omega), cu l.a l.b w.a w.b (by have := w.na; omega) (by have := w.nb; omega), fu h2, av h3]
 ·obtain ⟨p1, p2⟩ := hp hu
  obtain ⟨w1, w2, w3, w4, w5, w6⟩ := ahv w (acg ((bst (rd l.a) (rd l.b)).1.toNat + 1) (l.d + min l.t (l.n - l.d))) (by rw [w9]; omega)
  rw [ahy hx]; simp only [lsK, hu, Bool.not_true, ni, w2, w3, w4, w6]; rw [dw (by omega), cu l.a l.b w.a w.b (by have := w.na; omega) (by have := w.nb; omega), fu h2, dn h3, aoj w h3, as0 p2 (by omega) (by omega), dx l.a l.b _ _ (ais h3) (by omega) w.a w.b (by have := w.na; omega) (by have := w.nb; omega), ait l _ h2, bn rfl]
theorem y9 (l : Ls) (h : Lgo l) {ρ : Type} (k : Int → Int → Int → Option ρ) : P.y9 l.a l.b (l.n : Int) (l.t : Int) (l.x : Int) (l.d : Int) l.up k = k ((nxt l).2.1 : Nat) ((nxt l).2.2 : Nat) (nxt l).1 := by
 obtain ⟨w, hn, ht, hp⟩ := h
 rw [P.aod]; unfold P.ahp
 rcases aai l with ⟨hu, hx⟩ | ⟨hu, h1, hx⟩ | ⟨hu, h1, h2, hx⟩ | ⟨hu, h1, h2, h3, hx⟩ | ⟨hu, h1, h2, h3, hx⟩
 ·rw [hx]; simp only [hu, Bool.not_false, ug]; rfl
 ·rw [hx]; simp only [hu, Bool.not_true, ni]; rw [bn (by omega)]; rfl
 ·rw [hx]; simp only [hu, Bool.not_true, ni]; rw [dw (by omega), kr l.a l.b w.a w.b (by have := w.na; omega) (by have := w.nb; omega), gq h2]; rfl
 ·rw [hx]; simp only [hu, Bool.not_true, ni]; rw [dw (by omega), kr l.a l.b w.a w.b (by have := w.na; omega) (by have := w.nb; omega), fu h2, av h3]; rfl
 ·obtain ⟨p1, p2⟩ := hp hu
  rw [hx]; simp only [hu, Bool.not_true, ni]; rw [dw (by omega), kr l.a l.b w.a w.b (by have := w.na; omega) (by have := w.nb; omega), fu h2, dn h3, aoj w h3, bhe p2 hn ht]
theorem oo (l : Ls) (h : Lgo l) {ρ : Type} (k : List Int → List Int → Int → Int → Int → Int → Bool → Int → Option ρ) : P.oo l.a l.b (l.n : Int) (l.t : Int) (l.x : Int) (l.d : Int) l.up k = lsK (res l).1 (fun a1 b1 n1 t1 x1 d1 u1 => k a1 b1 n1 t1 x1 d1 u1 (res l).2) := by
 have h' := h
 obtain ⟨w, hn, ht, hp⟩ := h
 rw [P.aja]; unfold P.aeh
 rw [y9 l h']
 rcases aai l with ⟨hu, hx⟩ | ⟨hu, h1, hx⟩ | ⟨hu, h1, h2, hx⟩ | ⟨hu, h1, h2, h3, hx⟩ | ⟨hu, h1, h2, h3, hx⟩
 ·rw [wu hx (by omega), hx, gq (show ¬ (21 : Int) = 0 by omega)]; rfl
 ·rw [wu hx (by omega), hx, gq (show ¬ (13 : Int) = 0 by omega)]; rfl
 ·rw [wu hx h2, hx, gq h2]; rfl
 ·rw [wu hx (by omega), hx, gq (show ¬ (8 : Int) = 0 by omega)]; rfl
 ·obtain ⟨p1, p2⟩ := hp hu
  obtain ⟨w1, w2, w3, w4, w5, w6⟩ := ahv w (acg ((bst (rd l.a) (rd l.b)).1.toNat + 1) (l.d + min l.t (l.n - l.d))) (by rw [w9]; omega)
  rw [ahy hx, hx]; simp only [lsK, w2, w3, w4, w6]; rw [fu rfl, aam l.a l.b _ _ (ais h3) (by omega) w.a w.b (by have := w.na; omega) (by have := w.nb; omega), ait l _ h2, fu rfl]
end Q
end

section
/- lease: leaves taken, deeds. -/
namespace Q
open Go Go.Abs
set_option linter.unusedVariables false
set_option linter.unusedSimpArgs false
theorem bqc {x : Nat} (h : x + 1 < 18446744073709551616) : IntKind.u64.wrap ((x : Int) + 1) = ((x + 1 : Nat) : Int) := by rw [show (x : Int) + 1 = ((x + 1 : Nat) : Int) by omega, ake _ h]
theorem brh {x : Nat} (h : x + 1 < 18446744073709551616) : IntKind.u64.wrap (((x + 1 : Nat) : Int) - 1) = (x : Int) := by rw [show ((x + 1 : Nat) : Int) - 1 = (x : Int) by omega, ake _ (by omega)]
theorem an3 {l : Ls} (h : l.up = false) : tak l = (l, 0, 21) := by unfold tak; rw [if_pos h]
theorem akm {l : Ls} (h : l.up = true) (hx : ¬ l.x = l.d) : tak l = ({ l with x := l.x + 1 }, l.x, 0) := by unfold tak; rw [if_neg (by rw [h]; simp), if_neg hx]
theorem af2 {l : Ls} (h : l.up = true) (hx : l.x = l.d) {e : Int} (hr : res l = (l, e)) (he : e ≠ 0) : tak l = (l, 0, e) := by unfold tak; rw [if_neg (by rw [h]; simp), if_pos hx, hr]; simp only; rw [if_pos he]
theorem as1 {l l' : Ls} (h : l.up = true) (hx : l.x = l.d) (hr : res l = (l', 0)) : tak l = ({ l' with x := l.x + 1 }, l.x, 0) := by unfold tak; rw [if_neg (by rw [h]; simp), if_pos hx, hr]; rfl
theorem x9 (l : Ls) (h : Lgo l) {ρ : Type} (k : List Int → List Int → Int → Int → Int → Int → Bool → Int → Int → Option ρ) : P.x9 l.a l.b (l.n : Int) (l.t : Int) (l.x : Int) (l.d : Int) l.up k = lsK (tak l).1 (fun a1 b1 n1 t1 x1 d1 u1 => k a1 b1 n1 t1 x1 d1 u1 ((tak l).2.1 : Nat) (tak l).2.2) := by
 obtain ⟨w, hn, ht, hp⟩ := h
 rw [P.alh]; unfold P.afl
 by_cases hu : l.up = true
 ·obtain ⟨p1, p2⟩ := hp hu
  have hx1 : l.x + 1 < 18446744073709551616 := by omega
  have e1 := bqc hx1
  have e2 := brh hx1
  by_cases hx : l.x = l.d
  ·rcases aai l with ⟨hu', hq⟩ | ⟨_, h1, hq⟩ | ⟨_, h1, h2, hq⟩ | ⟨_, h1, h2, h3, hq⟩ | ⟨_, h1, h2, h3, hq⟩
   ·rw [hu] at hu'; cases hu'
   ·rw [af2 hu hx (wu hq (by omega)) (by omega)]; simp only [lsK, hu, Bool.not_true, ni]; rw [bn (by omega), bn (by omega)]; rfl
   ·rw [af2 hu hx (wu hq h2) h2]; simp only [lsK, hu, Bool.not_true, ni]; rw [bn (by omega), dw (by omega), cu l.a l.b w.a w.b (by have := w.na; omega) (by have := w.nb; omega), gq h2, gq h2, gq h2]; rfl
   ·rw [af2 hu hx (wu hq (by omega)) (by omega)]; simp only [lsK, hu, Bool.not_true, ni]; rw [bn (by omega), dw (by omega), cu l.a l.b w.a w.b (by have := w.na; omega) (by have := w.nb; omega), fu h2, av h3]; rfl
   ·obtain ⟨w1, w2, w3, w4, w5, w6⟩ := ahv w (acg ((bst (rd l.a) (rd l.b)).1.toNat + 1) (l.d + min l.t (l.n - l.d))) (by rw [w9]; omega)
    rw [as1 hu hx (ahy hq)]; simp only [lsK, hu, Bool.not_true, ni, w2, w3, w4, w6]; rw [bn (by omega), dw (by omega), cu l.a l.b w.a w.b (by have := w.na; omega) (by have := w.nb; omega), fu h2, dn h3, aoj w h3, as0 p2 (by omega) (by omega), dx l.a l.b _ _ (ais h3) (by omega) w.a w.b (by have := w.na; omega) (by have := w.nb; omega), ait l _ h2, bn rfl, fu rfl, e1, e2]
  ·rw [akm hu hx]; simp only [lsK, hu, Bool.not_true, ni]; rw [dw (by omega), e1, e2]
 ·have hu' : l.up = false := by simpa using hu
  rw [an3 hu']; simp only [lsK, hu', Bool.not_false, ug]; rfl
theorem ach (l : Ls) (h : Lgo l) {ρ : Type} (k : List Int → List Int → Int → Int → Int → Int → Bool → Int → Int → Option ρ) : P.ach l.a l.b (l.n : Int) (l.t : Int) (l.x : Int) (l.d : Int) l.up k = lsK (tak l).1 (fun a1 b1 n1 t1 x1 d1 u1 => k a1 b1 n1 t1 x1 d1 u1 ((tak l).2.1 : Nat) (tak l).2.2) := by
 have h' := h
 obtain ⟨w, hn, ht, hp⟩ := h
 rw [P.apu]; unfold P.ahq
 by_cases hu : l.up = true
 ·obtain ⟨p1, p2⟩ := hp hu
  have hx1 : l.x + 1 < 18446744073709551616 := by omega
  have e1 := bqc hx1
  by_cases hx : l.x = l.d
  ·rw [oo l h']
   rcases aai l with ⟨hu', hq⟩ | ⟨_, h1, hq⟩ | ⟨_, h1, h2, hq⟩ | ⟨_, h1, h2, h3, hq⟩ | ⟨_, h1, h2, h3, hq⟩
   ·rw [hu] at hu'; cases hu'
   ·rw [af2 hu hx (wu hq (by omega)) (by omega), wu hq (by omega)]; simp only [lsK, hu, Bool.not_true, ni]; rw [bn (by omega), gq (by omega)]; rfl
   ·rw [af2 hu hx (wu hq h2) h2, wu hq h2]; simp only [lsK, hu, Bool.not_true, ni]; rw [bn (by omega), gq h2]; rfl
   ·rw [af2 hu hx (wu hq (by omega)) (by omega), wu hq (by omega)]; simp only [lsK, hu, Bool.not_true, ni]; rw [bn (by omega), gq (by omega)]; rfl
   ·obtain ⟨w1, w2, w3, w4, w5, w6⟩ := ahv w (acg ((bst (rd l.a) (rd l.b)).1.toNat + 1) (l.d + min l.t (l.n - l.d))) (by rw [w9]; omega)
    rw [as1 hu hx (ahy hq), ahy hq]; simp only [lsK, hu, Bool.not_true, ni, w2, w3, w4, w6]; rw [bn (by omega), fu rfl, e1]
  ·rw [akm hu hx]; simp only [lsK, hu, Bool.not_true, ni]; rw [dw (by omega), e1]
 ·have hu' : l.up = false := by simpa using hu
  rw [an3 hu']; simp only [lsK, hu', Bool.not_false, ug]; rfl
def nI (l : List Nat) : List Int := l.map fun (x : Nat) => (x : Int)
theorem ag2 {l : Ls} {e : Int} (tear : Int) (junk : List Int) (h : nxt l = (e, 0, 0)) (he : e ≠ 0) : tor l tear junk = (l, e) := by
 unfold tor; rw [h]; simp only; rw [if_pos he]
theorem awx {l : Ls} {e d : Nat} (tear : Int) (junk : List Int) (h : nxt l = (0, e, d)) : tor l tear junk = if tear = 0 then (fal l, 0) else if tear = 1 then (fal (lay l (adx e d)), 0) else if tear = 2 then (fal (lay l junk), 0) else (l, 8) := by
 unfold tor; rw [h]; rfl
theorem bcj {l : Ls} {e d : Nat} (tear : Int) (junk : List Int) (h0 : (bst (rd l.a) (rd l.b)).2.2.2 = 0) {ρ : Type} (k : List Int → List Int → Int → Option ρ) : baj l.a l.b (adx e d) tear junk k = if tear = 0 then k l.a l.b 0 else if tear = 1 then k (lay l (adx e d)).a (lay l (adx e d)).b 0 else if tear = 2 then k (lay l junk).a (lay l junk).b 0 else k l.a l.b 8 := by
 unfold baj; rw [if_pos h0, ait l _ h0, ait l _ h0]
theorem afp (l : Ls) (c : List Int) : (lay l c).n = l.n ∧ (lay l c).t = l.t := by unfold lay; split <;> exact ⟨rfl, rfl⟩
theorem aco (l : Ls) (h : Lgo l) (kind tear : Int) (junk : List Int) (nj : junk.length ≤ 1000000) {ρ : Type} (k : List Int → List Int → Int → Int → Int → Int → Bool → List Int → Int → Option ρ) : P.aco l.a l.b (l.n : Int) (l.t : Int) (l.x : Int) (l.d : Int) l.up kind tear junk k = lsK (deed l kind tear junk).1 (fun a1 b1 n1 t1 x1 d1 u1 => k a1 b1 n1 t1 x1 d1 u1 (nI (deed l kind tear junk).2.1) (deed l kind tear junk).2.2) := by
 obtain ⟨w, hn, ht, hp⟩ := h
 have hna : l.a.length ≤ 1000000 := by have := w.na; omega
 have hnb : l.b.length ≤ 1000000 := by have := w.nb; omega
 rw [P.ao6]; unfold P.ahl deed
 by_cases k1 : kind = 1
 ·rw [bn k1, if_pos k1]
  by_cases hu : l.up = true
  ·obtain ⟨p1, p2⟩ := hp hu
   have hx1 : l.x + 1 < 18446744073709551616 := by omega
   have e1 := bqc hx1
   have e2 := brh hx1
   by_cases hx : l.x = l.d
   ·rcases aai l with ⟨hu', hq⟩ | ⟨_, h1, hq⟩ | ⟨_, h1, h2, hq⟩ | ⟨_, h1, h2, h3, hq⟩ | ⟨_, h1, h2, h3, hq⟩
    ·rw [hu] at hu'; cases hu'
    ·rw [af2 hu hx (wu hq (by omega)) (by omega), if_pos (show ((13 : Int) ≠ 0) by omega)]; simp only [lsK, hu, Bool.not_true, ni]; rw [bn (by omega), bn (by omega)]; rfl
    ·rw [af2 hu hx (wu hq h2) h2, if_pos h2]; simp only [lsK, hu, Bool.not_true, ni]; rw [bn (by omega), dw (by omega), cu l.a l.b w.a w.b hna hnb, gq h2, gq h2, gq h2, gq h2]; rfl
    ·rw [af2 hu hx (wu hq (by omega)) (by omega), if_pos (show ((8 : Int) ≠ 0) by omega)]; simp only [lsK, hu, Bool.not_true, ni]; rw [bn (by omega), dw (by omega), cu l.a l.b w.a w.b hna hnb, fu h2, av h3]; rfl
    ·obtain ⟨w1, w2, w3, w4, w5, w6⟩ := ahv w (acg ((bst (rd l.a) (rd l.b)).1.toNat + 1) (l.d + min l.t (l.n - l.d))) (by rw [w9]; omega)
     rw [as1 hu hx (ahy hq), if_neg (by simp)]; simp only [lsK, hu, Bool.not_true, ni, w2, w3, w4, w6]; rw [bn (by omega), dw (by omega), cu l.a l.b w.a w.b hna hnb, fu h2, dn h3, aoj w h3, as0 p2 (by omega) (by omega), dx l.a l.b _ _ (ais h3) (by omega) w.a w.b hna hnb, ait l _ h2, bn rfl, fu rfl, e1, e2]; rfl
   ·rw [akm hu hx, if_neg (by simp)]; simp only [lsK, hu, Bool.not_true, ni]; rw [dw (by omega), e1, e2]; rfl
  ·have hu' : l.up = false := by simpa using hu
   rw [an3 hu', if_pos (show ((21 : Int) ≠ 0) by omega)]; simp only [lsK, hu', Bool.not_false, ug]; rfl
 rw [dw k1, if_neg k1]
 by_cases k3 : kind = 3
 ·rw [bn k3, if_neg (by omega), if_pos k3]
  rcases aai l with ⟨hu, hx⟩ | ⟨hu, h1, hx⟩ | ⟨hu, h1, h2, hx⟩ | ⟨hu, h1, h2, h3, hx⟩ | ⟨hu, h1, h2, h3, hx⟩
  ·rw [ag2 tear junk hx (by omega)]; simp only [lsK, hu, Bool.not_false, ug]; rfl
  ·rw [ag2 tear junk hx (by omega)]; simp only [lsK, hu, Bool.not_true, ni]; rw [bn (by omega)]; rfl
  ·rw [ag2 tear junk hx h2]; simp only [lsK, hu, Bool.not_true, ni]; rw [dw (by omega), cu l.a l.b w.a w.b hna hnb, gq h2, gq h2]; rfl
  ·rw [ag2 tear junk hx (by omega)]; simp only [lsK, hu, Bool.not_true, ni]; rw [dw (by omega), cu l.a l.b w.a w.b hna hnb, fu h2, av h3]; rfl
  ·obtain ⟨p1, p2⟩ := hp hu
   rw [awx tear junk hx]; simp only [hu, Bool.not_true, ni]; rw [dw (by omega), cu l.a l.b w.a w.b hna hnb, fu h2, dn h3, aoj w h3, as0 p2 (by omega) (by omega), iq l.a l.b _ _ tear junk (ais h3) (by omega) w.a w.b hna hnb nj, bcj tear junk h2]
   by_cases t0 : tear = 0
   ·rw [if_pos t0, if_pos t0, bn rfl]; rfl
   ·rw [if_neg t0, if_neg t0]
    by_cases t1 : tear = 1
    ·rw [if_pos t1, if_pos t1, bn rfl]; simp only [lsK, fal, (afp l _).1, (afp l _).2]; rfl
    ·rw [if_neg t1, if_neg t1]
     by_cases t2 : tear = 2
     ·rw [if_pos t2, if_pos t2, bn rfl]; simp only [lsK, fal, (afp l _).1, (afp l _).2]; rfl
     ·rw [if_neg t2, if_neg t2, dw (by omega)]; simp only [lsK, hu]; rfl
 rw [dw k3]
 by_cases k4 : kind = 4
 ·rw [bn k4, if_neg (by omega), if_neg k3, if_pos k4]; rfl
 rw [dw k4]
 by_cases k2 : kind = 2
 ·rw [bn k2, if_pos k2]
  have hq := aci l ⟨w, hn, ht, hp⟩ (fun a1 b1 n1 t1 x1 d1 u1 e => k a1 b1 n1 t1 x1 d1 u1 [] e)
  rw [P.ag5] at hq; unfold P.aa9 at hq
  exact hq
 rw [dw k2, if_neg k2, if_neg k3, if_neg k4]
 by_cases k5 : kind = 5
 ·rw [bn k5, if_pos k5]
  unfold ris
  by_cases hu : l.up = true
  ·rw [if_pos hu]; simp only [lsK, hu, ug]; rfl
  ·have hu' : l.up = false := by simpa using hu
   rw [if_neg hu]; simp only [hu', ni]
   rw [iy l.a l.b l.n l.t w.a w.b hna hnb]
   by_cases ho : (opn l.a l.b l.n l.t).2 = 0
   ·rw [if_neg (fun h => h ho)]; simp only [lsK, ho]; rw [bn rfl]; rfl
   ·rw [if_pos ho]; simp only [lsK, hu']; rw [dw ho]; rfl
 ·rw [dw k5, if_neg k5]; rfl
theorem aho (l : Ls) (h : Lgo l) (kind tear : Int) (junk : List Int) (nj : junk.length ≤ 1000000) {ρ : Type} (k : List Int → List Int → Int → Int → Int → Int → Bool → List Int → Int → Option ρ) : P.aho l.a l.b (l.n : Int) (l.t : Int) (l.x : Int) (l.d : Int) l.up kind tear junk k = lsK (deed l kind tear junk).1 (fun a1 b1 n1 t1 x1 d1 u1 => k a1 b1 n1 t1 x1 d1 u1 (nI (deed l kind tear junk).2.1) (deed l kind tear junk).2.2) := by
 have h' := h
 obtain ⟨w, hn, ht, hp⟩ := h
 have hna : l.a.length ≤ 1000000 := by have := w.na; omega
 have hnb : l.b.length ≤ 1000000 := by have := w.nb; omega
 rw [P.awh]; unfold P.alx deed
 by_cases k1 : kind = 1
 ·rw [bn k1, if_pos k1, ach l h']
  by_cases he : (tak l).2.2 = 0
  ·rw [if_neg (fun h => h he)]; simp only [lsK]; rw [fu he]; rfl
  ·rw [if_pos he]; simp only [lsK]; rw [gq he]; rfl
 rw [dw k1, if_neg k1]
 by_cases k2 : kind = 2
 ·rw [bn k2, if_pos k2, oo l h']; rfl
 rw [dw k2, if_neg k2]
 by_cases k3 : kind = 3
 ·rw [bn k3, if_pos k3, y9 l h']
  rcases aai l with ⟨hu, hx⟩ | ⟨hu, h1, hx⟩ | ⟨hu, h1, h2, hx⟩ | ⟨hu, h1, h2, h3, hx⟩ | ⟨hu, h1, h2, h3, hx⟩
  ·rw [ag2 tear junk hx (by omega), hx, gq (show ¬ (21 : Int) = 0 by omega)]; rfl
  ·rw [ag2 tear junk hx (by omega), hx, gq (show ¬ (13 : Int) = 0 by omega)]; rfl
  ·rw [ag2 tear junk hx h2, hx, gq h2]; rfl
  ·rw [ag2 tear junk hx (by omega), hx, gq (show ¬ (8 : Int) = 0 by omega)]; rfl
  ·obtain ⟨p1, p2⟩ := hp hu
   rw [awx tear junk hx, hx, fu rfl]; dsimp only; rw [ab3 l.a l.b _ _ tear junk (ais h3) (by omega) w.a w.b hna hnb, bcj tear junk h2]
   by_cases t0 : tear = 0
   ·rw [if_pos t0, if_pos t0, fu rfl, P.aek]; rfl
   ·rw [if_neg t0, if_neg t0]
    by_cases t1 : tear = 1
    ·rw [if_pos t1, if_pos t1, fu rfl, P.aek]; simp only [lsK, fal, (afp l _).1, (afp l _).2]; rfl
    ·rw [if_neg t1, if_neg t1]
     by_cases t2 : tear = 2
     ·rw [if_pos t2, if_pos t2, fu rfl, P.aek]; simp only [lsK, fal, (afp l _).1, (afp l _).2]; rfl
     ·rw [if_neg t2, if_neg t2, gq (by omega)]; rfl
 rw [dw k3, if_neg k3]
 by_cases k4 : kind = 4
 ·rw [bn k4, if_pos k4, P.aek]; rfl
 rw [dw k4, if_neg k4]
 by_cases k5 : kind = 5
 ·rw [bn k5, if_pos k5]
  unfold ris
  by_cases hu : l.up = true
  ·rw [if_pos hu]; simp only [lsK, hu, ug]; rfl
  ·have hu' : l.up = false := by simpa using hu
   rw [if_neg hu]; simp only [hu', ni]
   rw [aby l.a l.b l.n l.t w.a w.b hna hnb]
   by_cases ho : (opn l.a l.b l.n l.t).2 = 0
   ·rw [if_neg (fun h => h ho)]; simp only [lsK, ho]; rw [fu rfl]; rfl
   ·rw [if_pos ho]; simp only [lsK, hu']; rw [gq ho]; rfl
 ·rw [dw k5, if_neg k5]; rfl
end Q
end

section
/- lease: deeds played; what is the same; few; the example. -/
namespace Q
open Go Go.Abs
set_option linter.unusedVariables false
set_option linter.unusedSimpArgs false
theorem bkp {l : Ls} (w : Lwf l) (ht : 1 ≤ l.t) (h : (opn l.a l.b l.n l.t).2 = 0) : Lgo (opn l.a l.b l.n l.t).1 ∧ 1 ≤ (opn l.a l.b l.n l.t).1.t := by
 have hl := ayk l.a l.b w.a w.b
 rcases aks l.a l.b l.n l.t with ⟨h1, e⟩ | ⟨h1, h2, e⟩ | ⟨h1, h2, h3, e⟩ | ⟨h1, h2, h3, ⟨h4, e⟩ | ⟨h4, h5, e⟩ | ⟨h4, h5, h6, e⟩ | ⟨h4, h5, h6, e⟩⟩
 ·rw [e] at h; simp at h
 ·rw [e] at h; simp at h
 ·rw [e] at h; simp at h
 ·rw [e] at h; exact absurd h h4
 ·rw [e] at h; simp at h
 ·rw [e] at h; simp at h
 ·rw [e]
  exact ⟨⟨{ a := w.a, b := w.b, na := w.na, nb := w.nb, n := w.n, t := w.t, x := by simp only; omega, d := by simp only; omega }, by simp only; omega, by simp only; omega, fun _ => ⟨Nat.le_refl _, by simp only; omega⟩⟩, ht⟩
theorem bj3 {l : Ls} (h : Lgo l) : Lgo (res l).1 ∧ (res l).1.t = l.t ∧ (res l).1.x = l.x ∧ (res l).1.n = l.n := by
 have h' := h
 obtain ⟨w, hn, ht, hp⟩ := h
 rcases aai l with ⟨hu, hx⟩ | ⟨hu, h1, hx⟩ | ⟨hu, h1, h2, hx⟩ | ⟨hu, h1, h2, h3, hx⟩ | ⟨hu, h1, h2, h3, hx⟩
 ·rw [wu hx (by omega)]; exact ⟨h', rfl, rfl, rfl⟩
 ·rw [wu hx (by omega)]; exact ⟨h', rfl, rfl, rfl⟩
 ·rw [wu hx h2]; exact ⟨h', rfl, rfl, rfl⟩
 ·rw [wu hx (by omega)]; exact ⟨h', rfl, rfl, rfl⟩
 ·obtain ⟨p1, p2⟩ := hp hu
  obtain ⟨w1, w2, w3, w4, w5, w6⟩ := ahv w (acg ((bst (rd l.a) (rd l.b)).1.toNat + 1) (l.d + min l.t (l.n - l.d))) (by rw [w9]; omega)
  rw [ahy hx]
  exact ⟨⟨{ w1 with d := by simp only; omega }, by simp only; omega, by simp only; omega, fun _ => by simp only; omega⟩, w3, w4, w2⟩
theorem bi0 {l : Ls} (h : Lgo l) (h0 : 1 ≤ l.t) : Lgo (tak l).1 ∧ (tak l).1.t = l.t := by
 have h' := h
 obtain ⟨w, hn, ht, hp⟩ := h
 by_cases hu : l.up = true
 ·obtain ⟨p1, p2⟩ := hp hu
  by_cases hx : l.x = l.d
  ·rcases aai l with ⟨hu', hq⟩ | ⟨_, h1, hq⟩ | ⟨_, h1, h2, hq⟩ | ⟨_, h1, h2, h3, hq⟩ | ⟨_, h1, h2, h3, hq⟩
   ·rw [hu] at hu'; cases hu'
   ·rw [af2 hu hx (wu hq (by omega)) (by omega)]; exact ⟨h', rfl⟩
   ·rw [af2 hu hx (wu hq h2) h2]; exact ⟨h', rfl⟩
   ·rw [af2 hu hx (wu hq (by omega)) (by omega)]; exact ⟨h', rfl⟩
   ·obtain ⟨w1, w2, w3, w4, w5, w6⟩ := ahv w (acg ((bst (rd l.a) (rd l.b)).1.toNat + 1) (l.d + min l.t (l.n - l.d))) (by rw [w9]; omega)
    rw [as1 hu hx (ahy hq)]
    exact ⟨⟨{ w1 with d := by simp only; omega, x := by simp only; omega }, by simp only; omega, by simp only; omega, fun _ => by simp only; omega⟩, w3⟩
  ·rw [akm hu hx]
   exact ⟨⟨{ w with x := by simp only; omega }, hn, ht, fun _ => by simp only; omega⟩, rfl⟩
 ·rw [an3 (by simpa using hu)]; exact ⟨h', rfl⟩
theorem aym {l : Ls} (h : Lgo l) : Lgo (fal l) := ⟨{ h.wf with x := z64, d := z64 }, h.n, h.t, fun h => (by cases h)⟩
theorem bfr {l : Ls} (h : Lgo l) {c : List Int} (hc : In 256 c) (nc : c.length ≤ 1000) : Lgo (lay l c) := by
 obtain ⟨w1, w2, w3, w4, w5, w6⟩ := ahv h.wf hc nc
 exact ⟨w1, by rw [w2]; exact h.n, by rw [w3]; exact h.t, fun hu => by rw [w4, w5, w2]; exact h.up (by rw [← w6]; exact hu)⟩
theorem bj9 {l : Ls} (h : Lgo l) (tear : Int) (junk : List Int) (hj : In 256 junk) (nj : junk.length ≤ 1000) : Lgo (tor l tear junk).1 ∧ (tor l tear junk).1.t = l.t := by
 rcases aai l with ⟨hu, hx⟩ | ⟨hu, h1, hx⟩ | ⟨hu, h1, h2, hx⟩ | ⟨hu, h1, h2, h3, hx⟩ | ⟨hu, h1, h2, h3, hx⟩
 ·rw [ag2 tear junk hx (by omega)]; exact ⟨h, rfl⟩
 ·rw [ag2 tear junk hx (by omega)]; exact ⟨h, rfl⟩
 ·rw [ag2 tear junk hx h2]; exact ⟨h, rfl⟩
 ·rw [ag2 tear junk hx (by omega)]; exact ⟨h, rfl⟩
 ·rw [awx tear junk hx]
  by_cases t0 : tear = 0
  ·rw [if_pos t0]; exact ⟨aym h, rfl⟩
  ·rw [if_neg t0]
   by_cases t1 : tear = 1
   ·rw [if_pos t1]; exact ⟨aym (bfr h (acg _ _) (by rw [w9]; omega)), (afp l _).2⟩
   ·rw [if_neg t1]
    by_cases t2 : tear = 2
    ·rw [if_pos t2]; exact ⟨aym (bfr h hj nj), (afp l _).2⟩
    ·rw [if_neg t2]; exact ⟨h, rfl⟩
theorem bny {l : Ls} (h : (opn l.a l.b l.n l.t).2 = 0) : (opn l.a l.b l.n l.t).1.t = l.t := by
 rcases aks l.a l.b l.n l.t with ⟨h1, e⟩ | ⟨h1, h2, e⟩ | ⟨h1, h2, h3, e⟩ | ⟨h1, h2, h3, ⟨h4, e⟩ | ⟨h4, h5, e⟩ | ⟨h4, h5, h6, e⟩ | ⟨h4, h5, h6, e⟩⟩
 ·rw [e] at h; simp at h
 ·rw [e] at h; simp at h
 ·rw [e] at h; simp at h
 ·rw [e] at h; exact absurd h h4
 ·rw [e] at h; simp at h
 ·rw [e] at h; simp at h
 ·rw [e]
theorem bjv {l : Ls} (h : Lgo l) (h0 : 1 ≤ l.t) : Lgo (ris l).1 ∧ (ris l).1.t = l.t := by
 unfold ris
 by_cases hu : l.up = true
 ·rw [if_pos hu]; exact ⟨h, rfl⟩
 ·rw [if_neg hu]
  by_cases ho : (opn l.a l.b l.n l.t).2 = 0
  ·rw [if_neg (fun h => h ho)]; exact ⟨(bkp h.wf h0 ho).1, bny ho⟩
  ·rw [if_pos ho]; exact ⟨h, rfl⟩
theorem bh3 {l : Ls} (h : Lgo l) (h0 : 1 ≤ l.t) (kind tear : Int) (junk : List Int) (hj : In 256 junk) (nj : junk.length ≤ 1000) : Lgo (deed l kind tear junk).1 ∧ 1 ≤ (deed l kind tear junk).1.t ∧ (deed l kind tear junk).2.1.length ≤ 1 := by
 unfold deed
 by_cases k1 : kind = 1
 ·rw [if_pos k1]
  have := bi0 h h0
  by_cases he : (tak l).2.2 = 0
  ·rw [if_neg (fun h => h he)]; exact ⟨this.1, by rw [this.2]; exact h0, by simp⟩
  ·rw [if_pos he]; exact ⟨this.1, by rw [this.2]; exact h0, by simp⟩
 rw [if_neg k1]
 by_cases k2 : kind = 2
 ·rw [if_pos k2]; have := bj3 h; exact ⟨this.1, by rw [this.2.1]; exact h0, by simp⟩
 rw [if_neg k2]
 by_cases k3 : kind = 3
 ·rw [if_pos k3]; have := bj9 h tear junk hj nj; exact ⟨this.1, by rw [this.2]; exact h0, by simp⟩
 rw [if_neg k3]
 by_cases k4 : kind = 4
 ·rw [if_pos k4]; exact ⟨aym h, h0, by simp⟩
 rw [if_neg k4]
 by_cases k5 : kind = 5
 ·rw [if_pos k5]; have := bjv h h0; exact ⟨this.1, by rw [this.2]; exact h0, by simp⟩
 ·rw [if_neg k5]; exact ⟨h, h0, by simp⟩
def pst (l : Ls) (ks ts : List Int) (js : List (List Int)) : Nat → Ls × List Int
 | 0 => (l, [])
 | i + 1 => ((deed (pst l ks ts js i).1 (ks.getD i 0) (ts.getD i 0) (js.getD i [])).1, (pst l ks ts js i).2 ++ nI (deed (pst l ks ts js i).1 (ks.getD i 0) (ts.getD i 0) (js.getD i [])).2.1)
theorem awi {l : Ls} (h : Lgo l) (h0 : 1 ≤ l.t) (ks ts : List Int) {js : List (List Int)} {N : Nat} (hj : ∀ i, i < N → In 256 (js.getD i []) ∧ (js.getD i []).length ≤ 1000) : ∀ i, i ≤ N → Lgo (pst l ks ts js i).1 ∧ 1 ≤ (pst l ks ts js i).1.t ∧ (pst l ks ts js i).2.length ≤ i
 | 0, _ => ⟨h, h0, by simp [pst]⟩
 | i + 1, hi => by
  obtain ⟨a1, a2, a3⟩ := awi h h0 ks ts hj i (by omega)
  obtain ⟨b1, b2, b3⟩ := bh3 a1 a2 (ks.getD i 0) (ts.getD i 0) _ (hj i (by omega)).1 (hj i (by omega)).2
  exact ⟨b1, b2, by simp only [pst, nI, List.length_append, List.length_map]; omega⟩
theorem qd (l : Ls) (h : Lgo l) (h0 : 1 ≤ l.t) (N : Nat) (hN : N ≤ 60) (ks ts : List Int) (js : List (List Int)) (hj : ∀ i, i < N → In 256 (js.getD i []) ∧ (js.getD i []).length ≤ 1000) {ρ : Type} (k : List Int → List Int → Int → Int → Int → Int → Bool → List Int → Option ρ) : P.qd l.a l.b (l.n : Int) (l.t : Int) (l.x : Int) (l.d : Int) l.up N ks ts js k = lsK (pst l ks ts js N).1 (fun a1 b1 n1 t1 x1 d1 u1 => k a1 b1 n1 t1 x1 d1 u1 (pst l ks ts js N).2) := by
 have hg := awi h h0 ks ts hj
 rw [P.ala]; unfold P.afv
 rw [P.anq]; unfold P.akx P.bl0 P.bkg P.bp7
 refine aa8 (fun i => (N, ks, ts, js, (N : Int), (i : Int), (pst l ks ts js i).2, (pst l ks ts js i).1.a, (pst l ks ts js i).1.b, ((pst l ks ts js i).1.n : Int), ((pst l ks ts js i).1.t : Int), ((pst l ks ts js i).1.x : Int), ((pst l ks ts js i).1.d : Int), (pst l ks ts js i).1.up, 0, 0, 0, 0, false)) N rfl (fun i hi next hnx => ?_) (fun next => ?_) (by omega)
 ·obtain ⟨a1, a2, a3⟩ := hg i (by omega)
  obtain ⟨b1, b2, b3⟩ := hg (i + 1) (by omega)
  simp only [P.agi]
  rw [av (by omega), av (by omega), av (by omega), toNat_cast, aco _ a1 _ _ _ (by have := (hj i hi).2; omega)]
  simp only [lsK]
  rw [av (by have : (pst l ks ts js (i + 1)).2.length ≤ i + 1 := b3; simp only [pst, List.length_append] at this; omega), zl (by omega) (by omega)]
  exact hnx
 ·simp only [P.agi]
  rw [dn (by omega)]
  rfl
theorem ab9 (l : Ls) (h : Lgo l) (h0 : 1 ≤ l.t) (N : Nat) (hN : N ≤ 60) (ks ts : List Int) (js : List (List Int)) (hj : ∀ i, i < N → In 256 (js.getD i []) ∧ (js.getD i []).length ≤ 1000) {ρ : Type} (k : List Int → List Int → Int → Int → Int → Int → Bool → List Int → Option ρ) : P.ab9 l.a l.b (l.n : Int) (l.t : Int) (l.x : Int) (l.d : Int) l.up N ks ts js k = lsK (pst l ks ts js N).1 (fun a1 b1 n1 t1 x1 d1 u1 => k a1 b1 n1 t1 x1 d1 u1 (pst l ks ts js N).2) := by
 have hg := awi h h0 ks ts hj
 rw [P.apx]; unfold P.ahw
 rw [P.aqp]; unfold P.aoz P.blq P.bkz P.bpf
 refine aa8 (fun i => (N, ks, ts, js, (i : Int), (pst l ks ts js i).2, (pst l ks ts js i).1.a, (pst l ks ts js i).1.b, ((pst l ks ts js i).1.n : Int), ((pst l ks ts js i).1.t : Int), ((pst l ks ts js i).1.x : Int), ((pst l ks ts js i).1.d : Int), (pst l ks ts js i).1.up, 0, 0, 0, 0, false)) N rfl (fun i hi next hnx => ?_) (fun next => ?_) (by omega)
 ·obtain ⟨a1, a2, a3⟩ := hg i (by omega)
  obtain ⟨b1, b2, b3⟩ := hg (i + 1) (by omega)
  simp only [P.ajd]
  rw [av (by omega), av (by omega), av (by omega), toNat_cast, aho _ a1 _ _ _ (by have := (hj i hi).2; omega)]
  simp only [lsK]
  rw [av (by have : (pst l ks ts js (i + 1)).2.length ≤ i + 1 := b3; simp only [pst, List.length_append] at this; omega), zl (by omega) (by omega)]
  exact hnx
 ·simp only [P.ajd]
  rw [dn (by omega)]
  rfl
theorem qw (a b : List Int) (h : a.length ≤ 140737488355328) {ρ : Type} (k : Bool → Option ρ) : P.qw a b k = k (decide (a = b)) := by
 rw [P.ail]
 unfold P.adw
 by_cases hl : a.length = b.length
 ·rw [fu (by omega), P.aky]
  unfold P.ah9 P.bmb P.bjz P.bqy
  have := awp hl h (fun _ _ _ => k true) k a.length 0 (by omega) (stp := (fun x next ex => P.ae4 x.1 x.2.1 x.2.2 (fun v0 v1 v5 => next (v0, v1, v5)) (fun v0 v1 v5 => ex (.inl (v0, v1, v5))) (fun v4 => ex (.inr v4)))) (K := Sum.elim (fun _ => k true) k) (by
   intro j next
   simp only [P.ae4, Sum.elim_inl, Sum.elim_inr]
   by_cases hj : (j : Int) < (a.length : Int)
   ·simp only [av hj]
    simp (disch := omega) only [av, dn, gq, fu, bn, dw, sj, ug, ni, zl, toNat_cast]
    rfl
   ·simp only [dn hj])
  simp only [List.drop_zero] at this
  refine this.trans ?_
  by_cases hab : a = b
  ·rw [if_pos hab, decide_eq_true hab]
  ·rw [if_neg hab, decide_eq_false hab]
 ·rw [gq (by omega), decide_eq_false (fun e => hl (by rw [e]))]
theorem ab8 (l : Ls) (ha : l.a.length ≤ 140737488355328) (hb : l.b.length ≤ 140737488355328) {ρ : Type} (k : Bool → Option ρ) : P.ab8 l.a l.b (l.n : Int) (l.t : Int) (l.x : Int) (l.d : Int) l.up l.a l.b (l.n : Int) (l.t : Int) (l.x : Int) (l.d : Int) l.up k = k true := by
 rw [P.ap6]; unfold P.ahu
 rw [ab7 _ _ _ _ ha hb, decide_eq_true ⟨rfl, rfl⟩, ug, bn rfl, bn rfl, bn rfl, bn rfl]
 simp
theorem az3 (l : Ls) (w : Lwf l) : ∃ v : Bool, (v = true → Lgo l ∧ 1 ≤ l.t) ∧ ∀ {ρ : Type} (k : Bool → Option ρ), P.agq l.a l.b (l.n : Int) (l.t : Int) (l.x : Int) (l.d : Int) l.up k = k v := by
 have hna : l.a.length ≤ 1000000 := by have := w.na; omega
 have hnb : l.b.length ≤ 1000000 := by have := w.nb; omega
 have fl : ∀ {v : Bool}, v = false → (v = true → Lgo l ∧ 1 ≤ l.t) := fun h h' => (by rw [h] at h'; cases h')
 by_cases h1 : l.t < 1
 ·exact ⟨false, fl rfl, fun k => by rw [P.yc]; unfold P.qz; rw [av (by omega)]⟩
 by_cases h2 : l.t > 4294967296
 ·exact ⟨false, fl rfl, fun k => by rw [P.yc]; unfold P.qz; rw [dn (by omega), av (by omega)]⟩
 by_cases h3 : l.n > 1152921504606846976
 ·exact ⟨false, fl rfl, fun k => by rw [P.yc]; unfold P.qz; rw [dn (by omega), dn (by omega), av (by omega)]⟩
 by_cases hu : l.up = true
 ·by_cases h4 : (bst (rd l.a) (rd l.b)).2.2.2 = 0
  ·by_cases h5 : (bst (rd l.a) (rd l.b)).2.1 = (l.d : Int)
   ·by_cases h6 : l.x ≤ l.d
    ·by_cases h7 : l.d ≤ l.n
     ·exact ⟨true, fun _ => ⟨⟨w, by omega, by omega, fun _ => ⟨h6, h7⟩⟩, by omega⟩, fun k => by
        rw [P.yc]; unfold P.qz; rw [dn (by omega), dn (by omega), dn (by omega), hu]; simp only [Bool.not_true, ni]; rw [kr l.a l.b w.a w.b hna hnb, bn h4, bn h5, av (by omega), decide_eq_true (by omega)]⟩
     ·exact ⟨false, fl rfl, fun k => by
        rw [P.yc]; unfold P.qz; rw [dn (by omega), dn (by omega), dn (by omega), hu]; simp only [Bool.not_true, ni]; rw [kr l.a l.b w.a w.b hna hnb, bn h4, bn h5, av (by omega), decide_eq_false (by omega)]⟩
    ·exact ⟨false, fl rfl, fun k => by
       rw [P.yc]; unfold P.qz; rw [dn (by omega), dn (by omega), dn (by omega), hu]; simp only [Bool.not_true, ni]; rw [kr l.a l.b w.a w.b hna hnb, bn h4, bn h5, dn (by omega)]⟩
   ·exact ⟨false, fl rfl, fun k => by
      rw [P.yc]; unfold P.qz; rw [dn (by omega), dn (by omega), dn (by omega), hu]; simp only [Bool.not_true, ni]; rw [kr l.a l.b w.a w.b hna hnb, bn h4, dw h5]⟩
  ·exact ⟨false, fl rfl, fun k => by
     rw [P.yc]; unfold P.qz; rw [dn (by omega), dn (by omega), dn (by omega), hu]; simp only [Bool.not_true, ni]; rw [kr l.a l.b w.a w.b hna hnb, dw h4]⟩
 ·have hu' : l.up = false := by simpa using hu
  by_cases h4 : l.x = 0
  ·exact ⟨((l.d : Int) == 0), fun _ => ⟨⟨w, by omega, by omega, fun h => (by rw [hu'] at h; cases h)⟩, by omega⟩, fun k => by
     rw [P.yc]; unfold P.qz; rw [dn (by omega), dn (by omega), dn (by omega), hu']; simp only [Bool.not_false, ug]; rw [bn (by omega)]⟩
  ·exact ⟨false, fl rfl, fun k => by
     rw [P.yc]; unfold P.qz; rw [dn (by omega), dn (by omega), dn (by omega), hu']; simp only [Bool.not_false, ug]; rw [dw (by omega)]⟩
theorem awt (p : Nat → Prop) : ∀ N, (∀ i, i < N → p i) ∨ ∃ i, i < N ∧ ¬ p i ∧ ∀ j, j < i → p j
 | 0 => .inl (fun i h => by omega)
 | N + 1 => by
  rcases awt p N with h | ⟨i, h1, h2, h3⟩
  ·by_cases hp : p N
   ·exact .inl (fun i hi => by
      by_cases e : i = N
      ·rw [e]; exact hp
      ·exact h i (by omega))
   ·exact .inr ⟨N, by omega, hp, h⟩
  ·exact .inr ⟨i, by omega, h2, h3⟩
theorem azu (a b : List Int) (N : Nat) (ks ts : List Int) (js : List (List Int)) : ∃ v : Bool, (v = true → N ≤ 60 ∧ a.length ≤ 300 ∧ b.length ≤ 300 ∧ ∀ i, i < N → (js.getD i []).length ≤ 300) ∧ ∀ {ρ : Type} (k : Bool → Option ρ), P.agr a b N ks ts js k = k v := by
 by_cases h1 : N > 60
 ·exact ⟨false, fun h => (by cases h), fun k => by rw [P.aec]; unfold P.abq; rw [av (by omega)]⟩
 by_cases h2 : a.length > 300
 ·exact ⟨false, fun h => (by cases h), fun k => by rw [P.aec]; unfold P.abq; rw [dn (by omega), av (by omega)]⟩
 by_cases h3 : b.length > 300
 ·exact ⟨false, fun h => (by cases h), fun k => by rw [P.aec]; unfold P.abq; rw [dn (by omega), dn (by omega), av (by omega)]⟩
 rcases awt (fun i => (js.getD i []).length ≤ 300) N with h | ⟨m, m1, m2, m3⟩
 ·refine ⟨true, fun _ => ⟨by omega, by omega, by omega, h⟩, fun k => ?_⟩
  rw [P.aec]; unfold P.abq
  rw [dn (by omega), dn (by omega), dn (by omega), P.ak5]; unfold P.amg P.zk1 P.zs1 P.zu1
  refine aa8 (fun i => (N, ks, ts, js, (N : Int), (i : Int))) N rfl (fun i hi next hnx => ?_) (fun next => ?_) (by omega)
  ·have := h i hi
   simp only [P.af7]
   rw [av (by omega), av (by omega), av (by omega), toNat_cast, dn (by omega), zl (by omega) (by omega)]
   exact hnx
  ·simp only [P.af7]
   rw [dn (by omega)]
   rfl
 ·refine ⟨false, fun h => (by cases h), fun k => ?_⟩
  rw [P.aec]; unfold P.abq
  rw [dn (by omega), dn (by omega), dn (by omega), P.ak5]; unfold P.amg P.zk1 P.zs1 P.zu1
  refine aa8 (fun i => (N, ks, ts, js, (N : Int), (i : Int))) m rfl (fun i hi next hnx => ?_) (fun next => ?_) (by omega)
  ·have := m3 i hi
   simp only [P.af7]
   rw [av (by omega), av (by omega), av (by omega), toNat_cast, dn (by omega), zl (by omega) (by omega)]
   exact hnx
  ·simp only [P.af7]
   rw [av (by omega), av (by omega), av (by omega), toNat_cast, av (by omega)]
   rfl
end Q
end

section
/- lease: a new one; chapter 29's example. -/
namespace Q
open Go Go.Abs
set_option linter.unusedVariables false
set_option linter.unusedSimpArgs false
theorem xw {ρ : Type} (k : List Int → List Int → Option ρ) : P.xw k = k (adx 0 0) (adx 0 0) := by
 rw [P.akr]; unfold P.afk
 rw [show (0 : Int) = ((0 : Nat) : Int) from rfl, lg 0 0 (by omega) (by omega), lg 0 0 (by omega) (by omega)]
theorem aay (n t : Nat) {ρ : Type} (k : List Int → List Int → Int → Int → Int → Int → Bool → Int → Option ρ) : P.aay (n : Int) (t : Int) k = lsK (opn (adx 0 0) (adx 0 0) n t).1 (fun a1 b1 n1 t1 x1 d1 u1 => k a1 b1 n1 t1 x1 d1 u1 (opn (adx 0 0) (adx 0 0) n t).2) := by
 rw [P.am0]; unfold P.agv
 rw [xw, iy _ _ n t (acg 0 0) (acg 0 0) (by rw [w9]; omega) (by rw [w9]; omega)]
theorem blr : bst (rd (adx 0 0)) (rd (adx 0 0)) = (0, 0, 0, 0) := by
 rw [bfy 0 0 (by omega) (by omega)]
 simp [bst, upB]
theorem bka {n t : Nat} (hn : n ≤ 1152921504606846976) (ht : 1 ≤ t ∧ t ≤ 4294967296) : opn (adx 0 0) (adx 0 0) n t = (⟨adx 0 0, adx 0 0, n, t, 0, 0, true⟩, 0) ∧ Lin ⟨adx 0 0, adx 0 0, n, t, 0, 0, true⟩ 0 0 := by
 have hl := w9 0 0
 constructor
 ·unfold opn
  rw [blr, if_neg (by omega), if_neg (by simp), if_neg (by simp only; omega)]
  rfl
 ·exact { wf := { a := acg 0 0, b := acg 0 0, na := by simp only; omega, nb := by simp only; omega, n := by simp only; omega, t := by simp only; omega, x := by simp only; omega, d := by simp only; omega }, n := hn, t := ht, err := by unfold bq; simp only [blr], ee := by unfold bq; simp only [blr]; rfl, eB := by unfold bq; simp only [blr]; rfl, Bn := Nat.zero_le _, el := Nat.zero_le _, down := fun h => (by cases h), up := fun _ => ⟨rfl, Nat.le_refl _⟩ }
theorem Lin.go {l : Ls} {e B : Nat} (h : Lin l e B) : Lgo l := ⟨h.wf, h.n, h.t.2, fun hu => by have := h.up hu; have := h.Bn; omega⟩
theorem bgu {l : Ls} {e B : Nat} (h : Lin l e B) (hu : l.up = true) (hx : l.x = B) (hB : B < l.n) (he : e < 1152921504606846976) : ∃ l', tak l = (l', l.x, 0) ∧ Lin l' (e + 1) (B + min l.t (l.n - B)) ∧ l'.up = true ∧ l'.x = l.x + 1 ∧ l'.n = l.n ∧ l'.t = l.t := by
 obtain ⟨h1, h2⟩ := h.up hu
 have ht := h.t
 rcases h.res with ⟨r1, r2, r3⟩ | ⟨_, r2, r3, r4, r5, r6, r7, r8, r9⟩
 ·rcases r3 hu with ⟨a, _⟩ | a <;> omega
 ·refine ⟨{ (res l).1 with x := l.x + 1 }, ?_, ?_, r6, rfl, r8, r9⟩
  ·unfold tak
   rw [if_neg (by rw [hu]; simp), if_pos (by omega), if_neg (by rw [r2]; simp)]
  ·have := r5.step r6 (by rw [r7]; omega)
   rw [r7] at this
   exact this
theorem bms {l : Ls} {e B : Nat} (h : Lin l e B) (hu : l.up = true) (hx : l.x < B) : ∃ l', tak l = (l', l.x, 0) ∧ Lin l' e B ∧ l'.up = true ∧ l'.x = l.x + 1 ∧ l'.n = l.n ∧ l'.t = l.t := by
 obtain ⟨h1, h2⟩ := h.up hu
 exact ⟨{ l with x := l.x + 1 }, akm hu (by omega), h.step hu hx, hu, rfl, rfl, rfl⟩
theorem boy {l : Ls} {e B : Nat} (h : Lin l e B) (hu : l.up = true) (hx : l.x = B) (hB : B = l.n) : tak l = (l, 0, 13) := by
 obtain ⟨h1, h2⟩ := h.up hu
 rcases h.nxt hu with ⟨_, q⟩ | ⟨q, _⟩ | ⟨q, _⟩
 ·exact af2 hu (by omega) (wu q (by omega)) (by omega)
 ·omega
 ·omega
theorem ay0 {l l' : Ls} {x : Nat} (h : tak l = (l', x, 0)) (tear : Int) (junk : List Int) : deed l 1 tear junk = (l', [x], 0) := by
 unfold deed; rw [if_pos rfl, h]; rfl
theorem blm (l : Ls) (tear : Int) (junk : List Int) : deed l 4 tear junk = (fal l, [], 0) := by
 unfold deed; rw [if_neg (by omega), if_neg (by omega), if_neg (by omega), if_pos rfl]
theorem bj6 (l : Ls) (tear : Int) (junk : List Int) : deed l 5 tear junk = ((ris l).1, [], (ris l).2) := by
 unfold deed; rw [if_neg (by omega), if_neg (by omega), if_neg (by omega), if_neg (by omega), if_pos rfl]
theorem bak {l m m' : Ls} {ks ts : List Int} {js : List (List Int)} {i : Nat} {o : List Int} {o' : List Nat} {e : Int} (h : pst l ks ts js i = (m, o)) (hd : deed m (ks.getD i 0) (ts.getD i 0) (js.getD i []) = (m', o', e)) : pst l ks ts js (i + 1) = (m', o ++ nI o') := by
 rw [pst, h]; simp only; rw [hd]
theorem uz {ρ : Type} (k : Bool → Option ρ) : P.uz k = k true := by
 obtain ⟨n1, n2⟩ := bka (n := 5) (t := 2) (by omega) (by omega)
 rw [P.anb]; unfold P.agu
 refine (aay 5 2 _).trans ?_
 rw [n1]
 simp only [lsK]
 have hj : ∀ i, i < 6 → In 256 (([[], [], [], [], [], []] : List (List Int)).getD i []) ∧ (([[], [], [], [], [], []] : List (List Int)).getD i []).length ≤ 1000 := by
  intro i hi
  have : (([[], [], [], [], [], []] : List (List Int)).getD i []) = [] := by
   match i, hi with
   | 0, _ => rfl
   | 1, _ => rfl
   | 2, _ => rfl
   | 3, _ => rfl
   | 4, _ => rfl
   | 5, _ => rfl
  rw [this]
  exact ⟨In.nil, by simp⟩
 have hp := fun (k : List Int → List Int → Int → Int → Int → Int → Bool → List Int → Option ρ) => qd ⟨adx 0 0, adx 0 0, 5, 2, 0, 0, true⟩ n2.go (by simp only; omega) 6 (by omega) [1, 1, 1, 4, 5, 1] [0, 0, 0, 0, 0, 0] [[], [], [], [], [], []] hj k
 simp only at hp
 have hg := awi n2.go (show 1 ≤ 2 by omega) [1, 1, 1, 4, 5, 1] [0, 0, 0, 0, 0, 0] hj 6 (Nat.le_refl _)
 obtain ⟨l1, t1, i1, u1, x1, m1, b1⟩ := bgu n2 rfl rfl (by simp only; omega) (by omega)
 simp only [Nat.reduceAdd, Nat.reduceSub, Nat.reduceLeDiff, Nat.min_def, Nat.zero_add, Nat.sub_zero, ite_true] at i1 t1 x1 m1 b1
 obtain ⟨l2, t2, i2, u2, x2, m2, b2⟩ := bms i1 u1 (by omega)
 obtain ⟨l3, t3, i3, u3, x3, m3, b3⟩ := bgu i2 u2 (by omega) (by omega) (by omega)
 rw [show 2 + min l2.t (l2.n - 2) = 4 by omega] at i3
 have i4 := i3.fal
 rcases i4.ris with ⟨r1, r2⟩ | ⟨_, _, i5, u5, x5, d5, m5, b5⟩
 ·have := r2 rfl; omega
 have m5' : (ris (fal l3)).1.n = 5 := by rw [m5]; show l3.n = 5; omega
 have b5' : (ris (fal l3)).1.t = 2 := by rw [b5]; show l3.t = 2; omega
 obtain ⟨l6, t6, i6, u6, x6, m6, b6⟩ := bgu i5 u5 x5 (by omega) (by omega)
 rw [b5', m5', show 4 + min 2 (5 - 4) = 5 by omega] at i6
 have t7 := boy i6 u6 (by omega) (by omega)
 have s0 : pst ⟨adx 0 0, adx 0 0, 5, 2, 0, 0, true⟩ [1, 1, 1, 4, 5, 1] [0, 0, 0, 0, 0, 0] [[], [], [], [], [], []] 0 = (⟨adx 0 0, adx 0 0, 5, 2, 0, 0, true⟩, []) := rfl
 have s1 := bak s0 (ay0 t1 _ _)
 have s2 := bak s1 (ay0 t2 _ _)
 have s3 := bak s2 (ay0 t3 _ _)
 have s4 := bak s3 (blm l3 _ _)
 have s5 := bak s4 (bj6 (fal l3) _ _)
 have s6 := bak s5 (ay0 t6 _ _)
 simp only [Nat.reduceAdd] at s6
 rw [hp, s6]
 rw [s6] at hg
 simp only [lsK]
 rw [x9 l6 hg.1, t7]
 rw [x5, show l2.x = 2 by omega, x1]
 simp only [lsK, nI, List.map_cons, List.map_nil, List.nil_append, List.cons_append]
 simp [List.getD]
end Q
end

section
/- lease: a lease and deeds as they are given. -/
namespace Q
open Go Go.Abs
set_option linter.unusedVariables false
set_option linter.unusedSimpArgs false
theorem at6 {x : Int} (h : wfI .u64 x) : ∃ n : Nat, n < 18446744073709551616 ∧ x = (n : Int) := by
 have := wf_u64 h
 exact ⟨x.toNat, by omega, by omega⟩
theorem bfk {js : List (List Int)} {N : Nat} (hN : js.length = N) (hw : ∀ y, y ∈ js → y.length ≤ 140737488355328 ∧ ∀ x, x ∈ y → wfI .u8 x) (hl : ∀ i, i < N → (js.getD i []).length ≤ 300) : ∀ i, i < N → In 256 (js.getD i []) ∧ (js.getD i []).length ≤ 1000 := by
 intro i hi
 have hm : js.getD i [] ∈ js := by
  rw [List.getD_eq_getElem?_getD, List.getElem?_eq_getElem (by omega)]
  exact List.getElem_mem _
 exact ⟨bg4 (hw _ hm).2, by have := hl i hi; omega⟩
end Q
end
