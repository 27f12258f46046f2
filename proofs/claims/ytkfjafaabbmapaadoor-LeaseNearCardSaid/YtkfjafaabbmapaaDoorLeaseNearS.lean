/-
  LeaseNear, part 19: an interpreter of my own over abstract values, the pure functions, the walks and the plain law.
-/

import Derived.Test.YtkfjafaabbmapaaDoorLeaseNearR
import Derived.Test.YtkfjafaabbmapaaDoorLeaseNearL
import Derived.Test.YtkfjafaabbmapaaDoorLeaseNearK
import Derived.Test.YtkfjafaabbmapaaDoorLeaseNearI

section
/- SHA-2: sums that go on, and their ends. -/
namespace Q
open Go Go.Abs
set_option linter.unusedVariables false
set_option linter.unusedSimpArgs false
def bsz (kind : Int) : Nat := if kind = 1 then 64 else 128
theorem aj7 (kind : Int) : (kind = 1 ∧ bsz kind = 64) ∨ (kind ≠ 1 ∧ bsz kind = 128) := by
 unfold bsz
 by_cases h : kind = 1
 ·exact .inl ⟨h, if_pos h⟩
 ·exact .inr ⟨h, if_neg h⟩
theorem om (kind : Int) {ρ : Type} (k : Int → Option ρ) : P.om kind k = k ((bsz kind : Nat) : Int) := by
 rw [P.agn]; unfold P.ab9
 rcases aj7 kind with ⟨h, e⟩ | ⟨h, e⟩
 ·rw [d9 h, e]; rfl
 ·rw [fq h, e]; rfl
theorem qz (kind : Int) {ρ : Type} (k : Int → Option ρ) : P.qz kind k = k ((bsz kind : Nat) : Int) := by
 rw [P.al6]; unfold P.agd
 rcases aj7 kind with ⟨h, e⟩ | ⟨h, e⟩
 ·rw [d9 h, e]; rfl
 ·rw [fq h, e]; rfl
def avr (kind : Int) (words all : List Int) : List Int :=
 if kind = 1 then cv (thr p32 (toV 32 words) all (all.length / 64)) else cv (thr p64 (toV 64 words) all (all.length / 128))
theorem axp (kind : Int) (words all : List Int) : (avr kind words all).length = 8 := by
 unfold avr
 split <;> rw [qg, aik _ _ (aiq _ _)]
def Wok (kind : Int) (words : List Int) : Prop := words.length = 8 ∧ In 18446744073709551616 words ∧ (kind = 1 → In 4294967296 words)
theorem aod (kind : Int) (words all : List Int) : Wok kind (avr kind words all) := by
 refine ⟨axp _ _ _, ?_, fun h => ?_⟩
 ·unfold avr
  split
  ·intro x hx
   have := bga _ x hx
   omega
  ·intro x hx
   have := bga _ x hx
   omega
 ·unfold avr
  rw [if_pos h]
  intro x hx
  have := bga _ x hx
  omega
theorem ax3 (n : Nat) (hn : 0 < n) (b : List Int) : (rest n b).length = b.length % n := by
 unfold rest
 rw [List.length_drop]
 have := Nat.div_add_mod b.length n
 omega
theorem bbu {n : Nat} {b : List Int} (h : In 256 b) : In 256 (rest n b) := h.drop _
theorem aaf {ρ : Type} (k : Int → Int → List Int → List Int → List Int → List Int → Option ρ) : P.aaf k = k 32 64 [7, 18, 3] [17, 19, 10] [2, 13, 22] [6, 11, 25] := by rw [P.amb]; rfl
theorem zy {ρ : Type} (k : Int → Int → List Int → List Int → List Int → List Int → Option ρ) : P.zy k = k 64 80 [1, 8, 7] [19, 61, 6] [28, 34, 39] [14, 18, 41] := by rw [P.aml]; rfl
theorem abe (kind : Int) (words tail : List Int) (size : Int) (b : List Int) (hl : words.length = 8) (hi : In 18446744073709551616 words) (ht : In 256 tail) (hb : In 256 b) (hn : tail.length + b.length ≤ 1000000) {ρ : Type} (k : Int → List Int → List Int → Int → Option ρ) :
    P.abe kind words tail size b k = k kind (avr kind words (tail ++ b)) (rest (bsz kind) (tail ++ b)) (IntKind.u64.wrap (size + IntKind.u64.wrap (b.length : Int))) := by
 rw [P.aq8]; unfold P.ain
 have hf : [tail, b].flatten = tail ++ b := by simp
 have hall : (tail ++ b).length ≤ 1000000 := by rw [List.length_append]; exact hn
 have hin : In 256 (tail ++ b) := ht.app hb
 have hr : ∀ n, (rest n (tail ++ b)).length ≤ 1000000 := fun n => by unfold rest; rw [List.length_drop]; omega
 rw [jd _ (by simp) (by rw [hf]; omega), hf]
 rcases aj7 kind with ⟨h, e⟩ | ⟨h, e⟩
 ·rw [d9 h, aaf, e]
  rw [aws words _ hl hi hin hall]
  unfold P.fu avr
  have := hr 64
  rw [av (by omega), if_pos h]
 ·rw [fq h, zy, e]
  rw [awj words _ hl hi hin hall]
  unfold P.fu avr
  have := hr 128
  rw [av (by omega), if_neg h]
theorem aal (kind : Int) (words tail : List Int) (size : Int) (b : List Int) (hw : Wok kind words) (ht : In 256 tail) (hb : In 256 b) (hn : tail.length + b.length ≤ 1000000) {ρ : Type} (k : Int → List Int → List Int → Int → Option ρ) :
    P.aal kind words tail size b k = k kind (avr kind words (tail ++ b)) (rest (bsz kind) (tail ++ b)) (IntKind.u64.wrap (size + IntKind.u64.wrap (b.length : Int))) := by
 rw [P.aqn]; unfold P.ai7
 obtain ⟨hl, hi, h1⟩ := hw
 have hf : [tail, b].flatten = tail ++ b := by simp
 have hall : (tail ++ b).length ≤ 1000000 := by rw [List.length_append]; exact hn
 have hin : In 256 (tail ++ b) := ht.app hb
 rw [qz, yt _ (by simp) (by rw [hf]; omega), hf]
 rcases aj7 kind with ⟨h, e⟩ | ⟨h, e⟩
 ·have hv := be1 32 words hl (h1 h)
  rw [e]
  conv => lhs; rw [← hv]
  rw [show ((64 : Nat) : Int) = 64 from rfl, bki _ (aiq _ _) _ hin hall]
  unfold avr
  rw [if_pos h]
 ·have hv := be1 64 words hl hi
  rw [e]
  conv => lhs; rw [← hv]
  rw [show ((128 : Nat) : Int) = 128 from rfl, bjc _ (aiq _ _) _ hin hall]
  unfold avr
  rw [if_neg h]
def ayq (kind : Int) (tl : Nat) : Nat := if kind = 1 then (119 - tl) % 64 else (239 - tl) % 128 + 8
def pad (kind : Int) (tl : Nat) (size : Nat) : List Int := 128 :: List.replicate (ayq kind tl) 0 ++ (bsw 8 8 (size * 8 % 2 ^ 64)).reverse
def awp (n : Nat) (words : List Int) (i : Nat) : List Int := ((List.range i).map fun j => (bsw 8 n (words.getD j 0).toNat).reverse).flatten
theorem ajq (n : Nat) (words : List Int) (i : Nat) : awp n words (i + 1) = awp n words i ++ (bsw 8 n (words.getD i 0).toNat).reverse := by simp [awp, List.range_succ]
theorem aev (n : Nat) (words : List Int) : ∀ i, (awp n words i).length = n * i
 | 0 => by simp [awp]
 | i + 1 => by rw [ajq, List.length_append, aev n words i, List.length_reverse, y8, Nat.mul_succ]
theorem awy (n : Nat) (words : List Int) : ∀ i, In 256 (awp n words i)
 | 0 => by simp [awp, In]
 | i + 1 => by rw [ajq]; exact (awy n words i).app (azn 8 n _).rev
def bcr (kind : Int) (words tail : List Int) (size : Nat) : List Int :=
 let o := awp (bsz kind / 16) (avr kind words (tail ++ pad kind tail.length size)) 8
 if kind = 2 then o.take 48 else o
theorem bf2 (kind : Int) (words tail : List Int) (size : Nat) : In 256 (bcr kind words tail size) := by
 unfold bcr
 simp only
 split
 ·exact (awy _ _ _).take _
 ·exact awy _ _ _
theorem bdw (kind : Int) (words tail : List Int) (size : Nat) : (bcr kind words tail size).length = if kind = 1 then 32 else if kind = 2 then 48 else 64 := by
 unfold bcr
 simp only
 rcases aj7 kind with ⟨h, e⟩ | ⟨h, e⟩
 ·rw [if_neg (by omega), if_pos h, aev, e]
 ·rw [if_neg h, e]
  split
  ·rw [List.length_take, aev]; decide
  ·rw [aev]
theorem tmN (a b : Nat) : ((a : Nat) : Int).tmod (b : Int) = ((a % b : Nat) : Int) := by
 rw [Int.tmod_eq_emod_of_nonneg (by omega)]; rfl
theorem ba7 (kind : Int) (tl size : Nat) : In 256 (pad kind tl size) := by
 unfold pad
 refine In.app ?_ (azn 8 8 _).rev
 intro x hx
 rcases List.mem_cons.1 hx with rfl | hx
 ·omega
 ·rw [List.mem_replicate] at hx; omega
theorem bca (kind : Int) (tl size : Nat) : (pad kind tl size).length = ayq kind tl + 9 := by
 unfold pad; simp
theorem bbf (kind : Int) (tl : Nat) : ayq kind tl ≤ 200 := by
 unfold ayq; split <;> omega
theorem bc4 (n : Nat) (hn : n = 64 ∨ n = 128) (words : List Int) (hw : In 18446744073709551616 words) (a : Int) (b : List Int) (c : Int) (d : List Int) {ρ : Type} (k0 : Int → List Int → Int → List Int → Int → List Int → Int → List Int → Option ρ) :
    P.ai4 (n : Int) words 0 [] a b c d k0 = k0 (n : Int) words 8 (awp (n / 16) words 8) a b c d := by
 rw [P.aps]
 unfold P.anv P.bkw P.bh7 P.boc
 have e16 : IntKind.i64.wrap ((n : Int).tdiv 16) = ((n / 16 : Nat) : Int) := by rcases hn with rfl | rfl <;> rfl
 refine y5 (fun i => ((n : Int), words, (i : Int), awp (n / 16) words i, a, b, c, d)) 8 rfl (fun i hi next hn' => ?_) (fun next => ?_) (by omega)
 ·simp only [P.ai0, toNat_cast]
  have h1 := hw.getD i (by omega)
  have e4 : IntKind.i64.wrap ((i : Int) + 1) = ((i + 1 : Nat) : Int) := by rw [yu (by omega) (by omega)]; omega
  have e5 : words.getD i 0 = (((words.getD i 0).toNat : Nat) : Int) := by omega
  rw [ajq] at hn'
  rw [av (by omega), av (by omega), av (by omega), e16, e5, yc _ _ (by omega) (by omega), e4]
  rw [av (by rw [aev, List.length_reverse, y8]; rcases hn with rfl | rfl <;> omega)]
  exact hn'
 ·simp only [P.ai0]
  rw [dx (by omega)]
  rfl
theorem shl3 (size : Nat) : IntKind.u64.wrap ((size : Int) * (2 : Int) ^ 3) = ((size * 8 % 2 ^ 64 : Nat) : Int) := by
 rw [bdv]; omega
theorem aeg (kind : Int) (words tail : List Int) (size : Nat) (hl : words.length = 8) (hi : In 18446744073709551616 words) (ht : In 256 tail) (hn : tail.length < bsz kind) {ρ : Type} (k : List Int → Option ρ) :
    P.aeg kind words tail (size : Int) k = k (bcr kind words tail size) := by
 rw [P.aq3]; unfold P.ai1
 rw [om]
 have hz : IntKind.i64.wrap (IntKind.i64.wrap ((IntKind.i64.wrap (IntKind.i64.wrap (IntKind.i64.wrap (IntKind.i64.wrap ((2 : Int) * ((bsz kind : Nat) : Int)) - (1 : Int)) - IntKind.i64.wrap (((bsz kind : Nat) : Int).tdiv (8 : Int))) - (tail.length : Int))).tmod ((bsz kind : Nat) : Int) + IntKind.i64.wrap (((bsz kind : Nat) : Int).tdiv (8 : Int))) - (8 : Int)) = ((ayq kind tail.length : Nat) : Int) := by
  unfold ayq
  rcases aj7 kind with ⟨h, e⟩ | ⟨h, e⟩
  ·rw [e] at hn ⊢
   rw [if_pos h, show IntKind.i64.wrap (IntKind.i64.wrap (IntKind.i64.wrap ((2 : Int) * ((64 : Nat) : Int)) - (1 : Int)) - IntKind.i64.wrap (((64 : Nat) : Int).tdiv (8 : Int))) = 119 from rfl, yu (x := (119 : Int) - (tail.length : Int)) (by omega) (by omega),
    show (119 : Int) - (tail.length : Int) = ((119 - tail.length : Nat) : Int) by omega, tmN, show IntKind.i64.wrap (((64 : Nat) : Int).tdiv (8 : Int)) = 8 from rfl, yu (x := ((((119 - tail.length) % 64 : Nat) : Int)) + 8) (by omega) (by omega), yu (by omega) (by omega)]
   omega
  ·rw [e] at hn ⊢
   rw [if_neg h, show IntKind.i64.wrap (IntKind.i64.wrap (IntKind.i64.wrap ((2 : Int) * ((128 : Nat) : Int)) - (1 : Int)) - IntKind.i64.wrap (((128 : Nat) : Int).tdiv (8 : Int))) = 239 from rfl, yu (x := (239 : Int) - (tail.length : Int)) (by omega) (by omega),
    show (239 : Int) - (tail.length : Int) = ((239 - tail.length : Nat) : Int) by omega, tmN, show IntKind.i64.wrap (((128 : Nat) : Int).tdiv (8 : Int)) = 16 from rfl, yu (x := ((((239 - tail.length) % 128 : Nat) : Int)) + 16) (by omega) (by omega), yu (by omega) (by omega)]
   omega
 have hb : bsz kind = 64 ∨ bsz kind = 128 := by rcases aj7 kind with ⟨h, e⟩ | ⟨h, e⟩ <;> omega
 have hz2 := bbf kind tail.length
 rw [hz]
 simp only [toNat_cast]
 rw [av (by omega), av (by omega), dx (by omega), av (by omega), av (by omega), shl3, show (8 : Int) = ((8 : Nat) : Int) from rfl, yc _ 8 (by omega) (by omega)]
 have hp : (List.replicate 1 (0 : Int)).set 0 (128 : Int) ++ List.replicate (ayq kind tail.length) (0 : Int) ++ (bsw 8 8 (size * 8 % 2 ^ 64)).reverse = pad kind tail.length size := rfl
 rw [av (by
  show ((List.replicate (ayq kind tail.length) (0 : Int)).length + 0 + 1 + _) * 1 ≤ _
  rw [List.length_replicate, List.length_reverse, y8]; omega), hp]
 have hpl := bca kind tail.length size
 rw [abe kind words tail _ _ hl hi ht (ba7 _ _ _) (by omega), bc4 _ hb _ (aod _ _ _).2.1]
 unfold bcr
 simp only
 by_cases h2 : kind = 2
 ·have e : bsz kind = 128 := by unfold bsz; rw [if_neg (by omega)]
  rw [d9 h2, av (by rw [aev, e]; omega), if_pos h2]
  rfl
 ·rw [fq h2, if_neg h2]
theorem pads (n : Nat) (hn : n = 64 ∨ n = 128) (tl : Nat) (ht : tl < 200) (z m : Nat) (hm : m < n) (h1 : ∀ i, i < z → (tl + (1 + i)) % n ≠ m) (h2 : (tl + (1 + z)) % n = m) (hz : z ≤ 200) (c : Int) (kd : Int) (words tail : List Int) (size : Int) (hl : tail.length = tl) (d : Int) (hd : IntKind.i64.wrap ((n : Int) - d) = (m : Int)) :
    (d = 8 → ∀ {ρ : Type} (k0 : Int → Int → List Int → Int → List Int → List Int → Int → Option ρ), P.ak7 (n : Int) c [128] kd words tail size k0 = k0 (n : Int) c (128 :: List.replicate z 0) kd words tail size) ∧
    (d = 16 → ∀ {ρ : Type} (k0 : Int → Int → List Int → Int → List Int → List Int → Int → Option ρ), P.ala (n : Int) c [128] kd words tail size k0 = k0 (n : Int) c (128 :: List.replicate z 0) kd words tail size) := by
 have hlen : ∀ i : Nat, ((128 : Int) :: List.replicate i 0).length = 1 + i := fun i => by simp; omega
 have hc : ∀ i : Nat, i ≤ z → IntKind.i64.wrap (((tail.length : Nat) : Int) + ((((128 : Int) :: List.replicate i 0).length : Nat) : Int)) = ((tl + (1 + i) : Nat) : Int) := fun i hi => by
  rw [hlen, hl, yu (by omega) (by omega)]; omega
 have hs : ∀ i : Nat, ((128 : Int) :: List.replicate i 0) ++ [(0 : Int)] = 128 :: List.replicate (i + 1) 0 := fun i => by
  rw [List.replicate_succ']; rfl
 constructor
 ·rintro rfl ρ k0
  rw [P.arn]
  unfold P.aqz P.bkq P.bi0 P.bmd
  refine y5 (fun i => ((n : Int), c, 128 :: List.replicate i 0, kd, words, tail, size)) z rfl (fun i hi next hn' => ?_) (fun next => ?_) (by omega)
  ·simp only [P.ak2]
   have := h1 i hi
   rw [hc i (by omega), tmN, hd, dx (by omega), iw (by omega), av (by rw [hlen]; omega), hs]
   exact hn'
  ·simp only [P.ak2]
   rw [hc z (by omega), tmN, hd, dx (by omega), h2, ig (by rfl)]
 ·rintro rfl ρ k0
  rw [P.asj]
  unfold P.aqx P.bk9 P.bkj P.bnu
  refine y5 (fun i => ((n : Int), c, 128 :: List.replicate i 0, kd, words, tail, size)) z rfl (fun i hi next hn' => ?_) (fun next => ?_) (by omega)
  ·simp only [P.als]
   have := h1 i hi
   rw [hc i (by omega), tmN, hd, dx (by omega), iw (by omega), av (by rw [hlen]; omega), hs]
   exact hn'
  ·simp only [P.als]
   rw [hc z (by omega), tmN, hd, dx (by omega), h2, ig (by rfl)]
theorem aw2 (n : Nat) (hn : n = 64 ∨ n = 128) (words : List Int) (hw : In 18446744073709551616 words) (a : Int) (b : List Int) (c : Int) {ρ : Type} (k0 : Int → Int → List Int → Int → List Int → List Int → Int → Option ρ) :
    P.afv (n : Int) 0 [] a words b c k0 = k0 (n : Int) 8 (awp (n / 16) words 8) a words b c := by
 rw [P.apo]
 unfold P.anm P.bli P.bkg P.bni
 have e16 : IntKind.i64.wrap ((n : Int).tdiv 16) = ((n / 16 : Nat) : Int) := by rcases hn with rfl | rfl <;> rfl
 refine y5 (fun i => ((n : Int), (i : Int), awp (n / 16) words i, a, words, b, c)) 8 rfl (fun i hi next hn' => ?_) (fun next => ?_) (by omega)
 ·simp only [P.ajf, toNat_cast]
  have h1 := hw.getD i (by omega)
  have e4 : IntKind.i64.wrap ((i : Int) + 1) = ((i + 1 : Nat) : Int) := by rw [yu (by omega) (by omega)]; omega
  have e5 : words.getD i 0 = (((words.getD i 0).toNat : Nat) : Int) := by omega
  rw [ajq] at hn'
  rw [av (by omega), av (by omega), av (by omega), e16, e5, aaw _ _ (by omega) (by omega), e4]
  rw [av (by rw [aev, List.length_reverse, y8]; rcases hn with rfl | rfl <;> omega)]
  exact hn'
 ·simp only [P.ajf]
  rw [dx (by omega)]
  rfl
theorem ayi (kind : Int) (words tail : List Int) (size : Nat) {ρ : Type} (k : List Int → Option ρ) :
    (br (kind == (2 : Int)) (br (decide ((48 : Int) ≤ ((awp (bsz kind / 16) (avr kind words (tail ++ pad kind tail.length size)) 8).length : Int))) (k (List.take ((48 : Int) - (0 : Int)).toNat (awp (bsz kind / 16) (avr kind words (tail ++ pad kind tail.length size)) 8))) none)
     (k (awp (bsz kind / 16) (avr kind words (tail ++ pad kind tail.length size)) 8))) = k (bcr kind words tail size) := by
 unfold bcr
 simp only
 by_cases h2 : kind = 2
 ·have e : bsz kind = 128 := by unfold bsz; rw [if_neg (by omega)]
  rw [d9 h2, av (by rw [aev, e]; omega), if_pos h2]
  rfl
 ·rw [fq h2, if_neg h2]
theorem aed (kind : Int) (words tail : List Int) (size : Nat) (hw : Wok kind words) (ht : In 256 tail) (hn : tail.length < bsz kind) (hs : size < 2305843009213693952) {ρ : Type} (k : List Int → Option ρ) :
    P.aed kind words tail (size : Int) k = k (bcr kind words tail size) := by
 rw [P.aq5]; unfold P.aiy
 have h8 : IntKind.u64.wrap ((size : Int) * 8) = ((size * 8 % 2 ^ 64 : Nat) : Int) := by rw [bdv]; omega
 have hpl := bca kind tail.length size
 have hz2 := bbf kind tail.length
 rw [qz, h8]
 rcases aj7 kind with ⟨h, e⟩ | ⟨h, e⟩
 ·rw [e] at hn ⊢
  have hp := (pads 64 (.inl rfl) tail.length (by omega) (ayq kind tail.length) 56 (by omega) (fun i hi => by unfold ayq at hi; rw [if_pos h] at hi; omega) (by unfold ayq; rw [if_pos h]; omega) hz2 ((size * 8 % 2 ^ 64 : Nat) : Int) kind words tail (size : Int) rfl 8 rfl).1
  rw [hp rfl, fq (by decide), show (8 : Int) = ((8 : Nat) : Int) from rfl, aaw _ 8 (by omega) (by omega), av (by simp; omega)]
  have hpad : (128 : Int) :: List.replicate (ayq kind tail.length) 0 ++ (bsw 8 8 (size * 8 % 2 ^ 64)).reverse = pad kind tail.length size := rfl
  rw [hpad, aal kind words tail _ _ hw ht (ba7 _ _ _) (by omega), aw2 _ (.inl rfl) _ (aod _ _ _).2.1]
  have := ayi kind words tail size k
  rw [e] at this
  exact this
 ·rw [e] at hn ⊢
  have hp1 := (pads 128 (.inr rfl) tail.length (by omega) ((247 - tail.length) % 128) 120 (by omega) (fun i hi => by omega) (by omega) (by omega) ((size * 8 % 2 ^ 64 : Nat) : Int) kind words tail (size : Int) rfl 8 rfl).1
  have hp2 := (pads 128 (.inr rfl) tail.length (by omega) ((239 - tail.length) % 128) 112 (by omega) (fun i hi => by omega) (by omega) (by omega) ((size * 8 % 2 ^ 64 : Nat) : Int) kind words tail (size : Int) rfl 16 rfl).2
  have h61 : ((size : Nat) : Int).fdiv ((2 : Int) ^ 61) = ((0 : Nat) : Int) := by
   have := fdiv_pow size 61 61 (by omega)
   rw [Nat.div_eq_of_lt (by omega)] at this
   exact this
  rw [hp1 rfl, d9 (by rfl), hp2 rfl, h61, show (8 : Int) = ((8 : Nat) : Int) from rfl, aaw _ 8 (by omega) (by omega), av (by simp; omega), aaw _ 8 (by omega) (by omega), av (by simp; omega)]
  have hpad : (128 : Int) :: List.replicate ((239 - tail.length) % 128) 0 ++ (bsw 8 8 0).reverse ++ (bsw 8 8 (size * 8 % 2 ^ 64)).reverse = pad kind tail.length size := by
   unfold pad ayq
   rw [if_neg h, ← List.replicate_append_replicate]
   rfl
  rw [hpad, aal kind words tail _ _ hw ht (ba7 _ _ _) (by omega), aw2 _ (.inr rfl) _ (aod _ _ _).2.1]
  have := ayi kind words tail size k
  rw [e] at this
  exact this
def bf8 (kind : Int) : List Int :=
 if kind = 1 then [1779033703, 3144134277, 1013904242, 2773480762, 1359893119, 2600822924, 528734635, 1541459225]
 else if kind = 2 then [14680500436340154072, 7105036623409894663, 10473403895298186519, 1526699215303891257, 7436329637833083697, 10282925794625328401, 15784041429090275239, 5167115440072839076]
 else [7640891576956012808, 13503953896175478587, 4354685564936845355, 11912009170470909681, 5840696475078001361, 11170449401992604703, 2270897969802886507, 6620516959819538809]
theorem az0 (kind : Int) : Wok kind (bf8 kind) := by
 unfold bf8 Wok
 by_cases h1 : kind = 1
 ·simp only [if_pos h1]
  refine ⟨rfl, ?_, fun _ => ?_⟩
  ·unfold In; decide
  ·unfold In; decide
 ·by_cases h2 : kind = 2
  ·simp only [if_neg h1, if_pos h2]
   refine ⟨rfl, ?_, fun h => absurd h h1⟩
   unfold In; decide
  ·simp only [if_neg h1, if_neg h2]
   refine ⟨rfl, ?_, fun h => absurd h h1⟩
   unfold In; decide
def K3 (kind : Int) : Prop := kind = 1 ∨ kind = 2 ∨ kind = 3
theorem avx {kind : Int} (h : K3 kind) {ρ : Type} (k : List Int → Bool → Option ρ) : P.abr kind k = k (bf8 kind) true := by
 rw [P.al5]
 rcases h with rfl | rfl | rfl <;> kernel_rfl
theorem aei {kind : Int} (h : K3 kind) {ρ : Type} (k : Int → List Int → List Int → Int → Int → Option ρ) : P.aei kind k = k kind (bf8 kind) [] 0 0 := by
 rw [P.aql]; unfold P.aiu
 rw [avx h, tu, vk]
theorem aee {kind : Int} (h : K3 kind) {ρ : Type} (k : Int → List Int → List Int → Int → Int → Option ρ) : P.aee kind k = k kind (bf8 kind) [] 0 0 := by
 rw [P.aqu]; unfold P.ais bf8
 rcases h with rfl | rfl | rfl
 ·rw [d9 (by rfl)]; rfl
 ·rw [fq (by decide), d9 (by rfl)]; rfl
 ·rw [fq (by decide), fq (by decide), d9 (by rfl)]; rfl
theorem arh (kind : Int) : 0 < bsz kind := by rcases aj7 kind with ⟨h, e⟩ | ⟨h, e⟩ <;> omega
def bcp (kind : Int) (b : List Int) : List Int := bcr kind (avr kind (bf8 kind) b) (rest (bsz kind) b) b.length
theorem ax4 (b : List Int) (hn : b.length ≤ 1000000) : IntKind.u64.wrap ((0 : Int) + IntKind.u64.wrap (b.length : Int)) = ((b.length : Nat) : Int) := by
 rw [ajj _ (by omega), Int.zero_add, ajj _ (by omega)]
theorem abf {kind : Int} (h : K3 kind) (b : List Int) (hb : In 256 b) (hn : b.length ≤ 1000000) {ρ : Type} (k : List Int → Int → Option ρ) : P.abf kind b k = k (bcp kind b) 0 := by
 rw [P.ap5]; unfold P.ajh
 have hw := az0 kind
 have hr := ax3 _ (arh kind) b
 have hlt := Nat.mod_lt b.length (arh kind)
 rw [aei h, ig (by rfl), abe kind _ [] _ b hw.1 hw.2.1 In.nil hb (by simpa using hn), List.nil_append, ax4 b hn, aeg kind _ _ _ (axp _ _ _) (aod _ _ _).2.1 (bbu hb) (by omega)]
 rfl
theorem ael {kind : Int} (h : K3 kind) (b : List Int) (hb : In 256 b) (hn : b.length ≤ 1000000) {ρ : Type} (k : List Int → Int → Option ρ) : P.ael kind b k = k (bcp kind b) 0 := by
 rw [P.aqd]; unfold P.aja
 have hw := az0 kind
 have hr := ax3 _ (arh kind) b
 have hlt := Nat.mod_lt b.length (arh kind)
 rw [aee h, ig (by rfl), aal kind _ [] _ b hw In.nil hb (by simpa using hn), List.nil_append, ax4 b hn, aed kind _ _ _ (aod _ _ _) (bbu hb) (by omega) (by omega)]
 rfl
theorem bcn (kind : Int) (b : List Int) : In 256 (bcp kind b) := bf2 _ _ _ _
theorem amy (kind : Int) (b : List Int) : (bcp kind b).length = if kind = 1 then 32 else if kind = 2 then 48 else 64 := bdw _ _ _ _
end Q
end

section
/- SHA-2: which sums can be, which are the same; the examples. -/
namespace Q
open Go Go.Abs
set_option linter.unusedVariables false
set_option linter.unusedSimpArgs false
theorem first (p : Nat → Bool) : ∀ n, ∃ m, m ≤ n ∧ (∀ i, i < m → p i = true) ∧ (m = n ∨ (m < n ∧ p m = false))
 | 0 => ⟨0, by omega, by omega, .inl rfl⟩
 | n + 1 => by
  obtain ⟨m, h1, h2, h3⟩ := first p n
  rcases h3 with h3 | ⟨h3, h4⟩
  ·subst h3
   cases hp : p m with
   | true => exact ⟨m + 1, by omega, fun i hi => by
       by_cases e : i = m
       ·rw [e]; exact hp
       ·exact h2 i (by omega), .inl rfl⟩
   | false => exact ⟨m, by omega, h2, .inr ⟨by omega, hp⟩⟩
  ·exact ⟨m, by omega, h2, .inr ⟨by omega, h4⟩⟩
end Q
end

section
/- sector: records and stores. -/
namespace Q
open Go Go.Abs
set_option linter.unusedVariables false
set_option linter.unusedSimpArgs false
def be8 (n : Nat) : List Int := (bsw 8 8 n).reverse
theorem avt (n : Nat) : (be8 n).length = 8 := by simp [be8]
theorem bev (n : Nat) : In 256 (be8 n) := (azn 8 8 n).rev
theorem bfl (l : List Int) (h : In 256 l) (hl : l.length = 8) : be8 (T 8 l.reverse) = l := by
 have := bmx 8 l.reverse h.rev
 rw [List.length_reverse, hl] at this
 unfold be8
 rw [this, List.reverse_reverse]
theorem bgg (n : Nat) (h : n < 18446744073709551616) : T 8 (be8 n).reverse = n := by
 unfold be8
 rw [List.reverse_reverse, bjp]
 exact Nat.mod_eq_of_lt (by omega)
theorem azh (l : List Int) (h : In 256 l) (hl : l.length = 8) : T 8 l.reverse < 18446744073709551616 := by
 have h1 := bgg (T 8 l.reverse % 18446744073709551616) (Nat.mod_lt _ (by omega))
 have h2 : be8 (T 8 l.reverse % 18446744073709551616) = be8 (T 8 l.reverse) := by
  unfold be8
  rw [show (18446744073709551616 : Nat) = 2 ^ 64 from rfl, bgp 8 8 _ 64 (by omega)]
 rw [h2, bfl l h hl] at h1
 rw [h1]
 exact Nat.mod_lt _ (by omega)
def hd (e b : Nat) : List Int := be8 e ++ be8 b
def acj (e b : Nat) : List Int := hd e b ++ bcp 1 (hd e b)
theorem akj (e b : Nat) : (hd e b).length = 16 := by simp [hd, avt]
theorem bf4 (e b : Nat) : In 256 (hd e b) := (bev e).app (bev b)
theorem zq (e b : Nat) : (acj e b).length = 48 := by unfold acj; rw [List.length_append, akj, amy, if_pos rfl]
theorem adn (e b : Nat) : In 256 (acj e b) := (bf4 e b).app (bcn _ _)
def rd (b : List Int) : Option (Int × Int) :=
 if b.length = 48 ∧ bcp 1 (b.take 16) = b.drop 16 then some (((T 8 (b.take 8).reverse : Nat) : Int), ((T 8 ((b.take 16).drop 8).reverse : Nat) : Int)) else none
theorem bfc (e b : Nat) (he : e < 18446744073709551616) (hb : b < 18446744073709551616) : rd (acj e b) = some ((e : Int), (b : Int)) := by
 have t16 : (acj e b).take 16 = hd e b := by unfold acj; exact List.take_left' (akj e b)
 have d16 : (acj e b).drop 16 = bcp 1 (hd e b) := by unfold acj; exact List.drop_left' (akj e b)
 have t8 : (acj e b).take 8 = be8 e := by
  unfold acj hd
  rw [List.append_assoc]
  exact List.take_left' (avt e)
 have d8 : (hd e b).drop 8 = be8 b := by unfold hd; exact List.drop_left' (avt e)
 unfold rd
 rw [t16, d16, t8, d8, if_pos ⟨zq e b, rfl⟩, bgg e he, bgg b hb]
theorem awf (b : List Int) (hb : In 256 b) (hl : b.length = 48) : acj (T 8 (b.take 8).reverse) (T 8 ((b.take 16).drop 8).reverse) = b ↔ bcp 1 (b.take 16) = b.drop 16 := by
 have h8 : be8 (T 8 (b.take 8).reverse) = b.take 8 := bfl _ (hb.take 8) (by simp; omega)
 have h16 : be8 (T 8 ((b.take 16).drop 8).reverse) = (b.take 16).drop 8 := bfl _ ((hb.take 16).drop 8) (by simp; omega)
 have hh : hd (T 8 (b.take 8).reverse) (T 8 ((b.take 16).drop 8).reverse) = b.take 16 := by
  unfold hd
  rw [h8, h16]
  have := List.take_append_drop 8 (b.take 16)
  rw [List.take_take] at this
  exact this
 unfold acj
 rw [hh]
 constructor
 ·intro h
  have h1 := congrArg (List.drop 16) h
  rw [List.drop_left' (by simp; omega)] at h1
  exact h1
 ·intro h
  rw [h]
  exact List.take_append_drop 16 b
theorem bdi {b : List Int} {p : Int × Int} (hb : In 256 b) (h : rd b = some p) : ∃ x y : Nat, x < 18446744073709551616 ∧ y < 18446744073709551616 ∧ p = ((x : Int), (y : Int)) ∧ acj x y = b ∧ b.length = 48 := by
 unfold rd at h
 split at h
 ·rename_i hc
  cases h
  exact ⟨_, _, azh _ (hb.take 8) (by simp; omega), azh _ ((hb.take 16).drop 8) (by simp; omega), rfl, (awf b hb hc.1).2 hc.2, hc.1⟩
 ·cases h
theorem aom (l : List Int) (h : l.length ≤ 140737488355328) {ρ : Type} (k : List Int → Option ρ) : P.fu l k = k l := by
 unfold P.fu; rw [av (by omega)]
theorem ku (e b : Nat) (he : e < 18446744073709551616) (hb : b < 18446744073709551616) {ρ : Type} (k : List Int → Option ρ) : P.ku (e : Int) (b : Int) k = k (acj e b) := by
 rw [P.aha]; unfold P.adk
 have hf : [(bsw 8 8 e).reverse, (bsw 8 8 b).reverse].flatten = hd e b := by simp [hd, be8]
 rw [show (8 : Int) = ((8 : Nat) : Int) from rfl, yc e 8 he (by omega), yc b 8 hb (by omega), aad _ (by simp) (by rw [hf, akj]; omega), hf, abf (.inl rfl) _ (bf4 e b) (by rw [akj]; omega), av (by rw [akj, amy, if_pos rfl]; omega)]
 rfl
theorem aam (e b : Nat) (he : e < 18446744073709551616) (hb : b < 18446744073709551616) {ρ : Type} (k : List Int → Option ρ) : P.aam (e : Int) (b : Int) k = k (acj e b) := by
 rw [P.al8]; unfold P.af8
 have hf : [(bsw 8 8 e).reverse, (bsw 8 8 b).reverse].flatten = hd e b := by simp [hd, be8]
 rw [show (8 : Int) = ((8 : Nat) : Int) from rfl, aaw e 8 he (by omega), aaw b 8 hb (by omega), yt _ (by simp) (by rw [hf, akj]; omega), hf, ael (.inl rfl) _ (bf4 e b) (by rw [akj]; omega), av (by rw [akj, amy, if_pos rfl]; omega)]
 rfl
def rdK {ρ : Type} (o : Option (Int × Int)) (k : Int → Int → Bool → Option ρ) : Option ρ :=
 match o with
 | some p => k p.1 p.2 true
 | none => k 0 0 false
theorem lq (b : List Int) (hb : In 256 b) (hn : b.length ≤ 1000000) {ρ : Type} (k : Int → Int → Bool → Option ρ) : P.lq b k = rdK (rd b) k := by
 rw [P.aif]; unfold P.ad5
 by_cases hl : b.length = 48
 ·have e16 : Int.toNat (16 : Int) = 16 := rfl
  have e8 : Int.toNat (8 : Int) = 8 := rfl
  rw [ig (by omega), av (by omega), e16, e8, List.drop_zero, List.drop_zero, abf (.inl rfl) _ (hb.take 16) (by simp; omega), av (by omega), av (by omega), toNat_cast, List.take_length, z8 _ _ (bcn _ _) (hb.drop 16) (by rw [amy, if_pos rfl]; omega)]
  by_cases hs : bcp 1 (b.take 16) = b.drop 16
  ·have hr : rd b = some (((T 8 (b.take 8).reverse : Nat) : Int), ((T 8 ((b.take 16).drop 8).reverse : Nat) : Int)) := by unfold rd; rw [if_pos ⟨hl, hs⟩]
   rw [decide_eq_true hs, tu, vk, av (by omega), qd _ (hb.take 8) (by simp; omega), av (by omega), qd _ ((hb.take 16).drop 8) (by simp; omega), hr, Nat.mod_eq_of_lt (azh _ (hb.take 8) (by simp; omega)), Nat.mod_eq_of_lt (azh _ ((hb.take 16).drop 8) (by simp; omega))]
   rfl
  ·have hr : rd b = none := by unfold rd; rw [if_neg (fun h => hs h.2)]
   rw [decide_eq_false hs, tu, o8, hr]
   rfl
 ·have hr : rd b = none := by unfold rd; rw [if_neg (fun h => hl h.1)]
  rw [iw (by omega), hr]
  rfl
theorem aa2 (b : List Int) (hb : In 256 b) (hn : b.length ≤ 1000000) {ρ : Type} (k : Int → Int → Bool → Option ρ) : P.aa2 b k = rdK (rd b) k := by
 rw [P.aoz]; unfold P.ahj
 by_cases hl : b.length = 48
 ·have e16 : Int.toNat (16 : Int) = 16 := rfl
  have e8 : Int.toNat (8 : Int) = 8 := rfl
  have h1 := azh _ (hb.take 8) (by simp; omega)
  have h2 := azh _ ((hb.take 16).drop 8) (by simp; omega)
  rw [ig (by omega), av (by omega), e16, e8, List.drop_zero, ze _ (hb.take 8) (by simp; omega), av (by omega), ze _ ((hb.take 16).drop 8) (by simp; omega), Nat.mod_eq_of_lt h1, Nat.mod_eq_of_lt h2, aam _ _ h1 h2, ab1 _ _ (by rw [zq]; omega)]
  by_cases hs : bcp 1 (b.take 16) = b.drop 16
  ·have hr : rd b = some (((T 8 (b.take 8).reverse : Nat) : Int), ((T 8 ((b.take 16).drop 8).reverse : Nat) : Int)) := by unfold rd; rw [if_pos ⟨hl, hs⟩]
   rw [decide_eq_true ((awf b hb hl).2 hs), tu, vk, hr]
   rfl
  ·have hr : rd b = none := by unfold rd; rw [if_neg (fun h => hs h.2)]
   rw [decide_eq_false (fun h => hs ((awf b hb hl).1 h)), tu, o8, hr]
   rfl
 ·have hr : rd b = none := by unfold rd; rw [if_neg (fun h => hl h.1)]
  rw [iw (by omega), hr]
  rfl
def upB (o : Option (Int × Int)) (i : Int) (s : Int × Int × Int × Int) : Int × Int × Int × Int :=
 match o with
 | none => s
 | some p => if s.2.2.2 ≠ 0 ∨ p.1 > s.1 then (p.1, p.2, i, 0) else s
def bst (o0 o1 : Option (Int × Int)) : Int × Int × Int × Int := upB o1 1 (upB o0 0 (0, 0, 0, 21))
theorem akr (o0 o1 : Option (Int × Int)) : (o0 = none ∧ o1 = none ∧ bst o0 o1 = (0, 0, 0, 21)) ∨ (∃ p, o0 = some p ∧ (∀ q, o1 = some q → q.1 ≤ p.1) ∧ bst o0 o1 = (p.1, p.2, 0, 0)) ∨
    (∃ q, o1 = some q ∧ (∀ p, o0 = some p → p.1 < q.1) ∧ bst o0 o1 = (q.1, q.2, 1, 0)) := by
 cases o0 with
 | none => cases o1 with
  | none => exact .inl ⟨rfl, rfl, rfl⟩
  | some q => exact .inr (.inr ⟨q, rfl, fun p h => (by cases h), by simp [bst, upB]⟩)
 | some p => cases o1 with
  | none => exact .inr (.inl ⟨p, rfl, fun q h => (by cases h), by simp [bst, upB]⟩)
  | some q =>
   by_cases h : q.1 > p.1
   ·exact .inr (.inr ⟨q, rfl, fun p' h' => (by cases h'; exact h), by simp [bst, upB, h]⟩)
   ·exact .inr (.inl ⟨p, rfl, fun q' h' => (by cases h'; omega), by simp [bst, upB, h]⟩)
theorem bg (a b : List Int) (ha : In 256 a) (hb : In 256 b) (na : a.length ≤ 1000000) (nb : b.length ≤ 1000000) {ρ : Type} (k : Int → Int → Int → Int → Option ρ) :
    P.bg a b k = k (bst (rd a) (rd b)).1 (bst (rd a) (rd b)).2.1 (bst (rd a) (rd b)).2.2.1 (bst (rd a) (rd b)).2.2.2 := by
 rw [P.aic]; unfold P.aeh
 rw [P.ai2]
 unfold P.agu P.bk4 P.bh2 P.bpm
 have one : ∀ (c : List Int) (i : Int) (s : Int × Int × Int × Int) (nx : Int → Int → Int → Int → Option ρ), In 256 c → c.length ≤ 1000000 →
     (P.lq c fun (q0 q1 : Int) (q2 : Bool) => br q2 (br (s.2.2.2 != (0 : Int)) (nx q0 q1 i (0 : Int)) (br (decide (q0 > s.1)) (nx q0 q1 i (0 : Int)) (nx s.1 s.2.1 s.2.2.1 s.2.2.2))) (nx s.1 s.2.1 s.2.2.1 s.2.2.2)) =
     nx (upB (rd c) i s).1 (upB (rd c) i s).2.1 (upB (rd c) i s).2.2.1 (upB (rd c) i s).2.2.2 := by
  intro c i s nx hc nc
  rw [lq c hc nc]
  cases rd c with
  | none => simp only [rdK, o8, upB]
  | some p =>
   simp only [rdK, vk, upB]
   by_cases h1 : s.2.2.2 = 0
   ·rw [ig h1]
    by_cases h2 : p.1 > s.1
    ·rw [av h2, if_pos (.inr h2)]
    ·rw [dx h2, if_neg (by omega)]
   ·rw [iw h1, if_pos (.inl h1)]
 let S : Nat → (List Int) × (List Int) × Int × Int × Int × Int × Int × Int × Int := fun i => match i with
  | 0 => (a, b, 0, 0, 0, 0, 0, 0, 21)
  | 1 => (a, b, 1, 0, 0, upB (rd a) 0 (0, 0, 0, 21))
  | _ => (a, b, 2, 0, 0, bst (rd a) (rd b))
 refine y5 S 2 rfl (fun i hi next hn => ?_) (fun next => ?_) (by omega)
 ·match i, hi with
  | 0, _ =>
   simp only [S, P.abd]
   rw [av (by omega), av (by simp), show IntKind.i64.wrap ((0 : Int) + 1) = 1 from by decide]
   refine (one a 0 (0, 0, 0, 21) (fun w x y z => next (a, b, 1, 0, 0, w, x, y, z)) ha na).trans ?_
   exact hn
  | 1, _ =>
   simp only [S, P.abd]
   rw [av (by omega), dx (by omega), av (by simp), show IntKind.i64.wrap ((1 : Int) + 1) = 2 from by decide]
   refine (one b 1 (upB (rd a) 0 (0, 0, 0, 21)) (fun w x y z => next (a, b, 2, 0, 0, w, x, y, z)) hb nb).trans ?_
   exact hn
 ·simp only [S, P.abd]
  rw [dx (by omega)]
def ar4 {ρ : Type} (a b c : List Int) (k : List Int → List Int → Int → Int → Option ρ) : Option ρ :=
 if (bst (rd a) (rd b)).2.2.2 = 0 then (if (bst (rd a) (rd b)).2.2.1 = 0 then k a c 1 0 else k c b 0 0) else k a b 0 (bst (rd a) (rd b)).2.2.2
theorem bhc (o0 o1 : Option (Int × Int)) : (bst o0 o1).2.2.1 = 0 ∨ (bst o0 o1).2.2.1 = 1 := by
 rcases akr o0 o1 with ⟨_, _, h⟩ | ⟨p, _, _, h⟩ | ⟨p, _, _, h⟩ <;> rw [h] <;> simp
theorem lu (a b : List Int) (ha : a.length ≤ 140737488355328) (hb : b.length ≤ 140737488355328) {ρ : Type} (k : List Int → List Int → Option ρ) : P.lu a b k = k a b := by
 rw [P.agr]; unfold P.acf
 rw [aom a ha, aom b hb]
theorem ny (a b c : List Int) (ha : In 256 a) (hb : In 256 b) (na : a.length ≤ 1000000) (nb : b.length ≤ 1000000) (nc : c.length ≤ 1000000) {ρ : Type} (k : List Int → List Int → Int → Int → Option ρ) : P.ny a b c k = ar4 a b c k := by
 rw [P.aia]; unfold P.aen ar4
 rw [lu a b (by omega) (by omega), bg a b ha hb na nb]
 by_cases h : (bst (rd a) (rd b)).2.2.2 = 0
 ·rw [ig h, if_pos h, aom c (by omega)]
  rcases bhc (rd a) (rd b) with h1 | h1
  ·rw [h1, if_pos rfl, show IntKind.i64.wrap ((1 : Int) - 0) = 1 from by decide, dx (by omega), av (by omega)]
  ·rw [h1, if_neg (by omega), show IntKind.i64.wrap ((1 : Int) - 1) = 0 from by decide, av (by omega)]
 ·rw [iw h, if_neg h]
theorem cu (a b : List Int) (e f : Nat) (he : e < 18446744073709551616) (hf : f < 18446744073709551616) (ha : In 256 a) (hb : In 256 b) (na : a.length ≤ 1000000) (nb : b.length ≤ 1000000) {ρ : Type} (k : List Int → List Int → Int → Int → Option ρ) :
    P.cu a b (e : Int) (f : Int) k = ar4 a b (acj e f) k := by
 rw [P.ag6]; unfold P.adq
 rw [ku e f he hf, ny a b _ ha hb na nb (by rw [zq]; omega)]
def bcw {ρ : Type} (a b c : List Int) (tear : Int) (junk : List Int) (k : List Int → List Int → Int → Option ρ) : Option ρ :=
 if (bst (rd a) (rd b)).2.2.2 = 0 then
  if tear = 0 then k a b 0 else if tear = 1 then ar4 a b c (fun x y _ e => k x y e) else if tear = 2 then ar4 a b junk (fun x y _ e => k x y e) else k a b 8
 else k a b (bst (rd a) (rd b)).2.2.2
theorem ayb {a b c : List Int} (h : ¬ (bst (rd a) (rd b)).2.2.2 = 0) {ρ : Type} (k : List Int → List Int → Int → Int → Option ρ) : ar4 a b c k = k a b 0 (bst (rd a) (rd b)).2.2.2 := by
 unfold ar4; rw [if_neg h]
theorem gy (a b : List Int) (e f : Nat) (tear : Int) (junk : List Int) (he : e < 18446744073709551616) (hf : f < 18446744073709551616) (ha : In 256 a) (hb : In 256 b) (na : a.length ≤ 1000000) (nb : b.length ≤ 1000000) (nj : junk.length ≤ 1000000) {ρ : Type} (k : List Int → List Int → Int → Option ρ) :
    P.gy a b (e : Int) (f : Int) tear junk k = bcw a b (acj e f) tear junk k := by
 rw [P.aie]; unfold P.aea bcw
 rw [lu a b (by omega) (by omega)]
 by_cases h1 : tear = 1
 ·rw [d9 h1, cu a b e f he hf ha hb na nb]
  by_cases h : (bst (rd a) (rd b)).2.2.2 = 0
  ·rw [if_pos h, if_neg (by omega), if_pos h1]
  ·rw [if_neg h, ayb h]
 ·rw [fq h1]
  by_cases h2 : tear = 2
  ·rw [d9 h2, ny a b junk ha hb na nb nj]
   by_cases h : (bst (rd a) (rd b)).2.2.2 = 0
   ·rw [if_pos h, if_neg (by omega), if_neg h1, if_pos h2]
   ·rw [if_neg h, ayb h]
  ·rw [fq h2, bg a b ha hb na nb]
   by_cases h : (bst (rd a) (rd b)).2.2.2 = 0
   ·rw [d9 h, if_pos h]
    by_cases h0 : tear = 0
    ·rw [ig h0, if_pos h0, h]
    ·rw [iw h0, if_neg h0, if_neg h1, if_neg h2]
   ·rw [fq h, if_neg h]
end Q
end

section
namespace Q
open Go Go.Abs
set_option linter.unusedVariables false
set_option linter.unusedSimpArgs false
end Q
end

section
namespace Q
open Go Go.Abs
set_option linter.unusedVariables false
set_option linter.unusedSimpArgs false
end Q
end

section
/- lease: who gives out leaves, without a program. -/
namespace Q
open Go Go.Abs
set_option linter.unusedVariables false
set_option linter.unusedSimpArgs false
structure Ls where
 a : List Int
 b : List Int
 n : Nat
 t : Nat
 x : Nat
 d : Nat
 up : Bool
def bq (l : Ls) : Int × Int × Int × Int := bst (rd l.a) (rd l.b)
def nxt (l : Ls) : Int × Nat × Nat :=
 if l.up = false then (21, 0, 0) else if l.d = l.n then (13, 0, 0) else
 if (bq l).2.2.2 ≠ 0 then ((bq l).2.2.2, 0, 0) else if (bq l).1 ≥ 1152921504606846976 then (8, 0, 0) else (0, (bq l).1.toNat + 1, l.d + min l.t (l.n - l.d))
def lay (l : Ls) (c : List Int) : Ls := if (bq l).2.2.1 = 0 then { l with b := c } else { l with a := c }
def res (l : Ls) : Ls × Int := if (nxt l).1 ≠ 0 then (l, (nxt l).1) else ({ lay l (acj (nxt l).2.1 (nxt l).2.2) with d := (nxt l).2.2 }, 0)
def tak (l : Ls) : Ls × Nat × Int :=
 if l.up = false then (l, 0, 21) else
 if l.x = l.d then (if (res l).2 ≠ 0 then (l, 0, (res l).2) else ({ (res l).1 with x := l.x + 1 }, l.x, 0)) else ({ l with x := l.x + 1 }, l.x, 0)
def opn (a b : List Int) (n t : Nat) : Ls × Int :=
 if n > 1152921504606846976 ∨ t < 1 ∨ t > 4294967296 then (⟨[], [], 0, 0, 0, 0, false⟩, 8) else
 if (bst (rd a) (rd b)).2.2.2 ≠ 0 then (⟨[], [], 0, 0, 0, 0, false⟩, (bst (rd a) (rd b)).2.2.2) else
 if (bst (rd a) (rd b)).2.1 > (n : Int) ∨ (bst (rd a) (rd b)).1 ≥ 1152921504606846976 then (⟨[], [], 0, 0, 0, 0, false⟩, 8) else
 (⟨a, b, n, t, (bst (rd a) (rd b)).2.1.toNat, (bst (rd a) (rd b)).2.1.toNat, true⟩, 0)
def fal (l : Ls) : Ls := { l with x := 0, d := 0, up := false }
def tor (l : Ls) (tear : Int) (junk : List Int) : Ls × Int :=
 if (nxt l).1 ≠ 0 then (l, (nxt l).1) else
 if tear = 0 then (fal l, 0) else if tear = 1 then (fal (lay l (acj (nxt l).2.1 (nxt l).2.2)), 0) else if tear = 2 then (fal (lay l junk), 0) else (l, 8)
def ris (l : Ls) : Ls × Int := if l.up = true then (l, 0) else if (opn l.a l.b l.n l.t).2 ≠ 0 then (l, (opn l.a l.b l.n l.t).2) else ((opn l.a l.b l.n l.t).1, 0)
def deed (l : Ls) (kind tear : Int) (junk : List Int) : Ls × List Nat × Int :=
 if kind = 1 then (if (tak l).2.2 ≠ 0 then ((tak l).1, [], (tak l).2.2) else ((tak l).1, [(tak l).2.1], 0)) else
 if kind = 2 then ((res l).1, [], (res l).2) else
 if kind = 3 then ((tor l tear junk).1, [], (tor l tear junk).2) else
 if kind = 4 then (fal l, [], 0) else
 if kind = 5 then ((ris l).1, [], (ris l).2) else (l, [], 1)
structure Lwf (l : Ls) : Prop where
 a : In 256 l.a
 b : In 256 l.b
 na : l.a.length ≤ 1000
 nb : l.b.length ≤ 1000
 n : l.n < 18446744073709551616
 t : l.t < 18446744073709551616
 x : l.x < 18446744073709551616
 d : l.d < 18446744073709551616
structure Lfit (l : Ls) : Prop where
 n : l.n ≤ 1152921504606846976
 t : 1 ≤ l.t ∧ l.t ≤ 4294967296
 down : l.up = false → l.x = 0 ∧ l.d = 0
 ok : l.up = true → (bq l).2.2.2 = 0 ∧ (bq l).2.1 = (l.d : Int) ∧ l.x ≤ l.d ∧ l.d ≤ l.n
theorem z64 : (0 : Nat) < 18446744073709551616 := by decide
theorem bht {b : List Int} {p : Int × Int} (hb : In 256 b) (h : rd b = some p) : 0 ≤ p.1 ∧ p.1 < 18446744073709551616 ∧ 0 ≤ p.2 ∧ p.2 < 18446744073709551616 := by
 obtain ⟨x, y, hx, hy, rfl, _⟩ := bdi hb h
 simp only
 omega
theorem bbo (a b : List Int) (ha : In 256 a) (hb : In 256 b) : 0 ≤ (bst (rd a) (rd b)).1 ∧ (bst (rd a) (rd b)).1 < 18446744073709551616 ∧ 0 ≤ (bst (rd a) (rd b)).2.1 ∧ (bst (rd a) (rd b)).2.1 < 18446744073709551616 := by
 rcases akr (rd a) (rd b) with ⟨_, _, h⟩ | ⟨p, h0, _, h⟩ | ⟨p, h0, _, h⟩
 ·rw [h]; decide
 ·rw [h]; exact bht ha h0
 ·rw [h]; exact bht hb h0
theorem axz (l : Ls) (h0 : (bq l).2.2.2 = 0) (e d : Nat) (he : (bq l).1 < (e : Int)) (he2 : e < 18446744073709551616) (hd : d < 18446744073709551616) : (bq (lay l (acj e d))).1 = (e : Int) ∧ (bq (lay l (acj e d))).2.1 = (d : Int) ∧ (bq (lay l (acj e d))).2.2.2 = 0 := by
 have hrc := bfc e d he2 hd
 unfold lay bq at *
 rcases akr (rd l.a) (rd l.b) with ⟨_, _, h⟩ | ⟨p, h1, h2, h⟩ | ⟨p, h1, h2, h⟩
 ·rw [h] at h0; cases h0
 ·rw [h] at he ⊢
  simp only at he
  rw [if_pos rfl]
  simp only [h1, hrc]
  have : p.1 < (e : Int) := he
  simp [bst, upB, this]
 ·rw [h] at he ⊢
  simp only at he
  rw [if_neg (by simp)]
  simp only [h1, hrc]
  have : ¬ p.1 > (e : Int) := by omega
  simp [bst, upB, this]
theorem bbg (l : Ls) (h0 : (bq l).2.2.2 = 0) (c : List Int) (hc : rd c = none) : (bq (lay l c)).1 = (bq l).1 ∧ (bq (lay l c)).2.1 = (bq l).2.1 ∧ (bq (lay l c)).2.2.2 = 0 := by
 unfold lay bq at *
 rcases akr (rd l.a) (rd l.b) with ⟨_, _, h⟩ | ⟨p, h1, h2, h⟩ | ⟨p, h1, h2, h⟩
 ·rw [h] at h0; cases h0
 ·rw [h]
  rw [if_pos rfl]
  simp only [h1, hc]
  simp [bst, upB]
 ·rw [h]
  rw [if_neg (by simp)]
  simp only [h1, hc]
  simp [bst, upB]
structure Lin (l : Ls) (e B : Nat) : Prop where
 wf : Lwf l
 n : l.n ≤ 1152921504606846976
 t : 1 ≤ l.t ∧ l.t ≤ 4294967296
 err : (bq l).2.2.2 = 0
 ee : (bq l).1 = (e : Int)
 eB : (bq l).2.1 = (B : Int)
 Bn : B ≤ l.n
 el : e ≤ 1152921504606846976
 down : l.up = false → l.x = 0 ∧ l.d = 0
 up : l.up = true → l.d = B ∧ l.x ≤ B
theorem aks {l : Ls} (h : Lwf l) {c : List Int} (hc : In 256 c) (nc : c.length ≤ 1000) : Lwf (lay l c) ∧ (lay l c).n = l.n ∧ (lay l c).t = l.t ∧ (lay l c).x = l.x ∧ (lay l c).d = l.d ∧ (lay l c).up = l.up := by
 unfold lay
 split
 ·exact ⟨{ h with b := hc, nb := nc }, rfl, rfl, rfl, rfl, rfl⟩
 ·exact ⟨{ h with a := hc, na := nc }, rfl, rfl, rfl, rfl, rfl⟩
theorem Lin.nxt {l : Ls} {e B : Nat} (h : Lin l e B) (hu : l.up = true) : (B = l.n ∧ nxt l = (13, 0, 0)) ∨ (B < l.n ∧ e = 1152921504606846976 ∧ nxt l = (8, 0, 0)) ∨ (B < l.n ∧ e < 1152921504606846976 ∧ nxt l = (0, e + 1, B + min l.t (l.n - B))) := by
 obtain ⟨h1, h2⟩ := h.up hu
 have hBn := h.Bn
 have hel := h.el
 unfold Q.nxt
 rw [if_neg (by rw [hu]; simp), h1]
 by_cases hb : B = l.n
 ·exact .inl ⟨hb, by rw [if_pos hb]⟩
 ·rw [if_neg hb, if_neg (by rw [h.err]; simp), h.ee]
  by_cases he : e = 1152921504606846976
  ·exact .inr (.inl ⟨by omega, he, by rw [if_pos (by omega)]⟩)
  ·exact .inr (.inr ⟨by omega, by omega, by rw [if_neg (by omega), Int.toNat_natCast]⟩)
theorem Lin.res {l : Ls} {e B : Nat} (h : Lin l e B) : ((res l).1 = l ∧ (res l).2 ≠ 0 ∧ (l.up = true → (B = l.n ∧ (res l).2 = 13) ∨ e = 1152921504606846976)) ∨ (l.up = true ∧ (res l).2 = 0 ∧ B < l.n ∧ e < 1152921504606846976 ∧ Lin (res l).1 (e + 1) (B + min l.t (l.n - B)) ∧ (res l).1.up = true ∧ (res l).1.x = l.x ∧ (res l).1.n = l.n ∧ (res l).1.t = l.t) := by
 by_cases hu : l.up = true
 ·obtain ⟨h1, h2⟩ := h.up hu
  have ht := h.t
  have hn := h.n
  rcases h.nxt hu with ⟨hb, hx⟩ | ⟨hb, he, hx⟩ | ⟨hb, he, hx⟩
  ·exact .inl ⟨by unfold Q.res; rw [hx]; rfl, by unfold Q.res; rw [hx]; exact (show (13 : Int) ≠ 0 by decide), fun _ => .inl ⟨hb, by unfold Q.res; rw [hx]; rfl⟩⟩
  ·exact .inl ⟨by unfold Q.res; rw [hx]; rfl, by unfold Q.res; rw [hx]; exact (show (8 : Int) ≠ 0 by decide), fun _ => .inr he⟩
  ·have hrin := adn (e + 1) (B + min l.t (l.n - B))
   have hrl := zq (e + 1) (B + min l.t (l.n - B))
   obtain ⟨w1, w2, w3, w4, w5, w6⟩ := aks h.wf hrin (by omega)
   obtain ⟨b1, b2, b3⟩ := axz l h.err (e + 1) (B + min l.t (l.n - B)) (by rw [h.ee]; omega) (by omega) (by omega)
   have e1 : (Q.res l).1 = { lay l (acj (e + 1) (B + min l.t (l.n - B))) with d := B + min l.t (l.n - B) } := by unfold Q.res; rw [hx]; rfl
   have e2 : (Q.res l).2 = 0 := by unfold Q.res; rw [hx]; rfl
   refine .inr ⟨hu, e2, hb, he, ?_, by rw [e1]; simp only; rw [w6, hu], by rw [e1]; simp only; exact w4, by rw [e1]; simp only; exact w2, by rw [e1]; simp only; exact w3⟩
   rw [e1]
   exact { wf := { w1 with d := by simp only; omega }, n := by simp only; omega, t := by simp only; omega, err := b3, ee := by simpa [bq] using b1, eB := by simpa [bq] using b2, Bn := by simp only; omega, el := by omega,
           down := fun h => (by simp only [w6, hu] at h; cases h), up := fun _ => ⟨rfl, by simp only; omega⟩ }
 ·have hu : l.up = false := by simpa using hu
  have hx : Q.nxt l = (21, 0, 0) := by unfold Q.nxt; rw [if_pos hu]
  exact .inl ⟨by unfold Q.res; rw [hx]; rfl, by unfold Q.res; rw [hx]; exact (show (21 : Int) ≠ 0 by decide), fun h => by rw [hu] at h; cases h⟩
theorem Lin.step {l : Ls} {e B : Nat} (h : Lin l e B) (hu : l.up = true) (hx : l.x < B) : Lin { l with x := l.x + 1 } e B :=
 { h with wf := { h.wf with x := by have := h.Bn; have := h.n; simp only; omega }, down := fun h' => (by simp only [hu] at h'; cases h'), up := fun _ => ⟨(h.up hu).1, by simp only; omega⟩, err := h.err, ee := h.ee, eB := h.eB }
theorem Lin.tak {l : Ls} {e B : Nat} (h : Lin l e B) :
    ((tak l).1 = l ∧ (tak l).2.2 ≠ 0 ∧ (l.up = true → l.x = B ∧ ((B = l.n ∧ (tak l).2.2 = 13) ∨ e = 1152921504606846976))) ∨
    (l.up = true ∧ (tak l).2.2 = 0 ∧ (tak l).2.1 = l.x ∧ ∃ e' B', Lin (tak l).1 e' B' ∧ e ≤ e' ∧ e' ≤ e + 1 ∧ B ≤ B' ∧ l.x < B' ∧ (tak l).1.up = true ∧ (tak l).1.x = l.x + 1 ∧ (tak l).1.n = l.n ∧ (tak l).1.t = l.t) := by
 by_cases hu : l.up = true
 ·obtain ⟨h1, h2⟩ := h.up hu
  have e0 : Q.tak l = if l.x = l.d then (if (Q.res l).2 ≠ 0 then (l, 0, (Q.res l).2) else ({ (Q.res l).1 with x := l.x + 1 }, l.x, 0)) else ({ l with x := l.x + 1 }, l.x, 0) := by
   unfold Q.tak; rw [if_neg (by rw [hu]; simp)]
  by_cases hx : l.x = l.d
  ·rw [if_pos hx] at e0
   rcases h.res with ⟨r1, r2, r3⟩ | ⟨_, r2, r3, r4, r5, r6, r7, r8, r9⟩
   ·rw [if_pos r2] at e0
    exact .inl ⟨by rw [e0], by rw [e0]; exact r2, fun _ => ⟨by omega, by rw [e0]; exact r3 hu⟩⟩
   ·rw [if_neg (by rw [r2]; simp)] at e0
    have ht := h.t
    have := r5.step r6 (by rw [r7]; omega)
    rw [r7] at this
    exact .inr ⟨hu, by rw [e0], by rw [e0], e + 1, _, by rw [e0]; exact this, by omega, by omega, by omega, by omega, by rw [e0]; exact r6, by rw [e0], by rw [e0]; exact r8, by rw [e0]; exact r9⟩
  ·rw [if_neg hx] at e0
   exact .inr ⟨hu, by rw [e0], by rw [e0], e, B, by rw [e0]; exact h.step hu (by omega), by omega, by omega, by omega, by omega, by rw [e0]; exact hu, by rw [e0], by rw [e0], by rw [e0]⟩
 ·have hu : l.up = false := by simpa using hu
  have e0 : Q.tak l = (l, 0, 21) := by unfold Q.tak; rw [if_pos hu]
  exact .inl ⟨by rw [e0], by rw [e0]; exact (show (21 : Int) ≠ 0 by decide), fun h => by rw [hu] at h; cases h⟩
theorem Lin.fal {l : Ls} {e B : Nat} (h : Lin l e B) : Lin (fal l) e B :=
 { h with wf := { h.wf with x := z64, d := z64 }, down := fun _ => ⟨rfl, rfl⟩, up := fun h => (by cases h), err := h.err, ee := h.ee, eB := h.eB }
theorem Lin.tor {l : Ls} {e B : Nat} (h : Lin l e B) (tear : Int) (junk : List Int) (hj : In 256 junk) (nj : junk.length ≤ 1000) (hr : rd junk = none) :
    ((tor l tear junk).1 = l) ∨ (l.up = true ∧ (tor l tear junk).1.up = false ∧ (tor l tear junk).1.n = l.n ∧ (tor l tear junk).1.t = l.t ∧ ∃ e' B', Lin (tor l tear junk).1 e' B' ∧ e ≤ e' ∧ e' ≤ e + 1 ∧ B ≤ B' ∧ B' ≤ B + l.t) := by
 by_cases hu : l.up = true
 ·have ht := h.t
  have hn := h.n
  rcases h.nxt hu with ⟨hb, hx⟩ | ⟨hb, he, hx⟩ | ⟨hb, he, hx⟩
  ·exact .inl (by unfold Q.tor; rw [hx]; rfl)
  ·exact .inl (by unfold Q.tor; rw [hx]; rfl)
  ·have e0 : Q.tor l tear junk = if tear = 0 then (Q.fal l, 0) else if tear = 1 then (Q.fal (lay l (acj (e + 1) (B + min l.t (l.n - B)))), 0) else if tear = 2 then (Q.fal (lay l junk), 0) else (l, 8) := by
     unfold Q.tor; rw [hx]; rfl
   rw [e0]
   by_cases t0 : tear = 0
   ·rw [if_pos t0]
    exact .inr ⟨hu, rfl, rfl, rfl, e, B, h.fal, by omega, by omega, by omega, by omega⟩
   ·rw [if_neg t0]
    by_cases t1 : tear = 1
    ·rw [if_pos t1]
     have hrin := adn (e + 1) (B + min l.t (l.n - B))
     have hrl := zq (e + 1) (B + min l.t (l.n - B))
     obtain ⟨w1, w2, w3, w4, w5, w6⟩ := aks h.wf hrin (by omega)
     obtain ⟨b1, b2, b3⟩ := axz l h.err (e + 1) (B + min l.t (l.n - B)) (by rw [h.ee]; omega) (by omega) (by omega)
     refine .inr ⟨hu, rfl, w2, w3, e + 1, B + min l.t (l.n - B), ?_, by omega, by omega, by omega, by omega⟩
     exact { wf := { w1 with x := z64, d := z64 }, n := by show (lay l _).n ≤ _; omega, t := by show 1 ≤ (lay l _).t ∧ (lay l _).t ≤ _; omega, err := b3, ee := by simpa [bq, Q.fal] using b1, eB := by simpa [bq, Q.fal] using b2, Bn := by show _ ≤ (lay l _).n; omega, el := by omega,
             down := fun _ => ⟨rfl, rfl⟩, up := fun h => (by cases h) }
    ·rw [if_neg t1]
     by_cases t2 : tear = 2
     ·rw [if_pos t2]
      obtain ⟨w1, w2, w3, w4, w5, w6⟩ := aks h.wf hj nj
      obtain ⟨b1, b2, b3⟩ := bbg l h.err junk hr
      have hBn := h.Bn
      refine .inr ⟨hu, rfl, w2, w3, e, B, ?_, by omega, by omega, by omega, by omega⟩
      exact { wf := { w1 with x := z64, d := z64 }, n := by show (lay l _).n ≤ _; omega, t := by show 1 ≤ (lay l _).t ∧ (lay l _).t ≤ _; omega, err := b3, ee := b1.trans h.ee, eB := b2.trans h.eB, Bn := by show _ ≤ (lay l _).n; omega, el := h.el,
              down := fun _ => ⟨rfl, rfl⟩, up := fun h => (by cases h) }
     ·rw [if_neg t2]
      exact .inl rfl
 ·have hu : l.up = false := by simpa using hu
  have hx : Q.nxt l = (21, 0, 0) := by unfold Q.nxt; rw [if_pos hu]
  exact .inl (by unfold Q.tor; rw [hx]; rfl)
theorem Lin.ris {l : Ls} {e B : Nat} (h : Lin l e B) : ((ris l).1 = l ∧ (l.up = false → e = 1152921504606846976)) ∨ (l.up = false ∧ e < 1152921504606846976 ∧ Lin (ris l).1 e B ∧ (ris l).1.up = true ∧ (ris l).1.x = B ∧ (ris l).1.d = B ∧ (ris l).1.n = l.n ∧ (ris l).1.t = l.t) := by
 by_cases hu : l.up = true
 ·exact .inl ⟨by unfold Q.ris; rw [if_pos hu], fun h => by rw [hu] at h; cases h⟩
 ·have hu' : l.up = false := by simpa using hu
  have hBn := h.Bn
  have hn := h.n
  have ht := h.t
  have he := h.ee
  have hB := h.eB
  have her := h.err
  unfold bq at he hB her
  have e0 : opn l.a l.b l.n l.t = if e ≥ 1152921504606846976 then (⟨[], [], 0, 0, 0, 0, false⟩, 8) else (⟨l.a, l.b, l.n, l.t, B, B, true⟩, 0) := by
   unfold opn
   rw [if_neg (by omega), her, if_neg (by decide), hB, he, Int.toNat_natCast]
   by_cases h1 : e ≥ 1152921504606846976
   ·rw [if_pos (.inr (by omega)), if_pos h1]
   ·rw [if_neg (by omega), if_neg h1]
  unfold Q.ris
  rw [if_neg hu, e0]
  by_cases h1 : e ≥ 1152921504606846976
  ·rw [if_pos h1]
   exact .inl ⟨rfl, fun _ => by have := h.el; omega⟩
  ·rw [if_neg h1]
   exact .inr ⟨hu', by omega, { wf := { h.wf with x := (show B < 18446744073709551616 by omega), d := (show B < 18446744073709551616 by omega) }, n := hn, t := ht, err := her, ee := he, eB := hB, Bn := hBn, el := h.el, down := fun h => (by cases h), up := fun _ => ⟨rfl, Nat.le_refl _⟩ }, rfl, rfl, rfl, rfl, rfl⟩
end Q
end

section
/- lease: what deeds do to a lease, without a program. -/
namespace Q
open Go Go.Abs
set_option linter.unusedVariables false
set_option linter.unusedSimpArgs false
inductive Did (l l' : Ls) (out : List Nat) (B B' : Nat) : Prop where
 | same (h1 : out = []) (h2 : l'.up = l.up) (h3 : l'.x = l.x) (h4 : l.up = false → B' = B)
 | gave (h1 : out = [l.x]) (h2 : l.up = true) (h3 : l'.up = true) (h4 : l'.x = l.x + 1) (h5 : l.x < B')
 | fell (h1 : out = []) (h2 : l.up = true) (h3 : l'.up = false) (h4 : B' ≤ B + l.t)
 | rose (h1 : out = []) (h2 : l.up = false) (h3 : l'.up = true) (h4 : l'.x = B) (h5 : l'.d = B) (h6 : B' = B)
theorem Lin.deed {l : Ls} {e B : Nat} (h : Lin l e B) (kind tear : Int) (junk : List Int) (hj : In 256 junk) (nj : junk.length ≤ 1000) (hr : rd junk = none) :
    ∃ e' B', Lin (deed l kind tear junk).1 e' B' ∧ e ≤ e' ∧ e' ≤ e + 1 ∧ B ≤ B' ∧ (deed l kind tear junk).1.n = l.n ∧ (deed l kind tear junk).1.t = l.t ∧ Did l (deed l kind tear junk).1 (deed l kind tear junk).2.1 B B' := by
 have keep : ∀ er : Int, Q.deed l kind tear junk = (l, [], er) → ∃ e' B', Lin (Q.deed l kind tear junk).1 e' B' ∧ e ≤ e' ∧ e' ≤ e + 1 ∧ B ≤ B' ∧ (Q.deed l kind tear junk).1.n = l.n ∧ (Q.deed l kind tear junk).1.t = l.t ∧ Did l (Q.deed l kind tear junk).1 (Q.deed l kind tear junk).2.1 B B' := by
  intro er he
  rw [he]
  exact ⟨e, B, h, Nat.le_refl _, by omega, Nat.le_refl _, rfl, rfl, .same rfl rfl rfl (fun _ => rfl)⟩
 by_cases k1 : kind = 1
 ·have e0 : Q.deed l kind tear junk = if (Q.tak l).2.2 ≠ 0 then ((Q.tak l).1, [], (Q.tak l).2.2) else ((Q.tak l).1, [(Q.tak l).2.1], 0) := by unfold Q.deed; rw [if_pos k1]
  rcases h.tak with ⟨h1, h2, h3⟩ | ⟨h1, h2, h3, e', B', h4, h5, h6, h7, h8, h9, h10, h11, h12⟩
  ·rw [if_pos h2, h1] at e0
   exact keep _ e0
  ·rw [if_neg (by rw [h2]; simp)] at e0
   rw [e0]
   exact ⟨e', B', h4, h5, h6, h7, h11, h12, .gave (by rw [h3]) h1 h9 h10 h8⟩
 by_cases k2 : kind = 2
 ·have e0 : Q.deed l kind tear junk = ((Q.res l).1, [], (Q.res l).2) := by unfold Q.deed; rw [if_neg k1, if_pos k2]
  rcases h.res with ⟨h1, h2, h3⟩ | ⟨h1, h2, h3, h4, h5, h6, h7, h8, h9⟩
  ·rw [h1] at e0
   exact keep _ e0
  ·rw [e0]
   exact ⟨e + 1, _, h5, by omega, by omega, by omega, h8, h9, .same rfl (h6.trans h1.symm) h7 (fun hd => by rw [h1] at hd; cases hd)⟩
 by_cases k3 : kind = 3
 ·have e0 : Q.deed l kind tear junk = ((Q.tor l tear junk).1, [], (Q.tor l tear junk).2) := by unfold Q.deed; rw [if_neg k1, if_neg k2, if_pos k3]
  rcases h.tor tear junk hj nj hr with h1 | ⟨h1, h2, h3, h4, e', B', h5, h6, h7, h8, h9⟩
  ·rw [h1] at e0
   exact keep _ e0
  ·rw [e0]
   exact ⟨e', B', h5, h6, h7, h8, h3, h4, .fell rfl h1 h2 h9⟩
 by_cases k4 : kind = 4
 ·have e0 : Q.deed l kind tear junk = (Q.fal l, [], 0) := by unfold Q.deed; rw [if_neg k1, if_neg k2, if_neg k3, if_pos k4]
  rw [e0]
  by_cases hu : l.up = true
  ·exact ⟨e, B, h.fal, Nat.le_refl _, by omega, Nat.le_refl _, rfl, rfl, .fell rfl hu rfl (by omega)⟩
  ·have hu' : l.up = false := by simpa using hu
   exact ⟨e, B, h.fal, Nat.le_refl _, by omega, Nat.le_refl _, rfl, rfl, .same rfl hu'.symm (h.down hu').1.symm (fun _ => rfl)⟩
 by_cases k5 : kind = 5
 ·have e0 : Q.deed l kind tear junk = ((Q.ris l).1, [], (Q.ris l).2) := by unfold Q.deed; rw [if_neg k1, if_neg k2, if_neg k3, if_neg k4, if_pos k5]
  rcases h.ris with ⟨h1, h2⟩ | ⟨h1, h2, h3, h4, h5, h6, h7, h8⟩
  ·rw [h1] at e0
   exact keep _ e0
  ·rw [e0]
   exact ⟨e, B, h3, Nat.le_refl _, by omega, Nat.le_refl _, h7, h8, .rose rfl h1 h4 h5 h6 rfl⟩
 exact keep 1 (by unfold Q.deed; rw [if_neg k1, if_neg k2, if_neg k3, if_neg k4, if_neg k5])
def Ups (n : Nat) : Nat → List Nat → Prop
 | _, [] => True
 | m, x :: r => m ≤ x ∧ x < n ∧ Ups n (x + 1) r
theorem Ups.mono {n : Nat} : ∀ {m m' : Nat} {l : List Nat}, m' ≤ m → Ups n m l → Ups n m' l
 | m, m', [], _, _ => trivial
 | m, m', x :: r, h, ⟨h1, h2, h3⟩ => ⟨by omega, h2, h3⟩
end Q
end

section
/- lease: the program's functions and the document's are those of the pure lease. -/
namespace Q
open Go Go.Abs
set_option linter.unusedVariables false
set_option linter.unusedSimpArgs false
def lsK {ρ : Type} (l : Ls) (k : List Int → List Int → Int → Int → Int → Int → Bool → Option ρ) : Option ρ := k l.a l.b (l.n : Int) (l.t : Int) (l.x : Int) (l.d : Int) l.up
structure Lgo (l : Ls) : Prop where
 wf : Lwf l
 n : l.n ≤ 1152921504606846976
 t : l.t ≤ 4294967296
 up : l.up = true → l.x ≤ l.d ∧ l.d ≤ l.n
abbrev bb (l : Ls) : Int × Int × Int × Int := bst (rd l.a) (rd l.b)
theorem aes (l : Ls) : (l.up = false ∧ nxt l = (21, 0, 0)) ∨ (l.up = true ∧ l.d = l.n ∧ nxt l = (13, 0, 0)) ∨ (l.up = true ∧ l.d ≠ l.n ∧ (bst (rd l.a) (rd l.b)).2.2.2 ≠ 0 ∧ nxt l = ((bst (rd l.a) (rd l.b)).2.2.2, 0, 0)) ∨
    (l.up = true ∧ l.d ≠ l.n ∧ (bst (rd l.a) (rd l.b)).2.2.2 = 0 ∧ (bst (rd l.a) (rd l.b)).1 ≥ 1152921504606846976 ∧ nxt l = (8, 0, 0)) ∨
    (l.up = true ∧ l.d ≠ l.n ∧ (bst (rd l.a) (rd l.b)).2.2.2 = 0 ∧ ¬ (bst (rd l.a) (rd l.b)).1 ≥ 1152921504606846976 ∧ nxt l = (0, (bst (rd l.a) (rd l.b)).1.toNat + 1, l.d + min l.t (l.n - l.d))) := by
 unfold nxt bq
 by_cases hu : l.up = false
 ·exact .inl ⟨hu, by rw [if_pos hu]⟩
 ·have hu' : l.up = true := by simpa using hu
  by_cases h1 : l.d = l.n
  ·exact .inr (.inl ⟨hu', h1, by rw [if_neg hu, if_pos h1]⟩)
  ·by_cases h2 : (bst (rd l.a) (rd l.b)).2.2.2 = 0
   ·by_cases h3 : (bst (rd l.a) (rd l.b)).1 ≥ 1152921504606846976
    ·exact .inr (.inr (.inr (.inl ⟨hu', h1, h2, h3, by rw [if_neg hu, if_neg h1, if_neg (fun h => h h2), if_pos h3]⟩)))
    ·exact .inr (.inr (.inr (.inr ⟨hu', h1, h2, h3, by rw [if_neg hu, if_neg h1, if_neg (fun h => h h2), if_neg h3]⟩)))
   ·exact .inr (.inr (.inl ⟨hu', h1, h2, by rw [if_neg hu, if_neg h1, if_pos h2]⟩))
theorem ab7 {l : Ls} {e : Int} (h : nxt l = (e, 0, 0)) (he : e ≠ 0) : res l = (l, e) := by
 unfold res; rw [h]; simp only; rw [if_pos he]
theorem aor {l : Ls} {e d : Nat} (h : nxt l = (0, e, d)) : res l = ({ lay l (acj e d) with d := d }, 0) := by
 unfold res; rw [h]; rfl
theorem ajv (l : Ls) (c : List Int) (h : (bst (rd l.a) (rd l.b)).2.2.2 = 0) {ρ : Type} (k : List Int → List Int → Int → Int → Option ρ) : ar4 l.a l.b c k = k (lay l c).a (lay l c).b (if (bst (rd l.a) (rd l.b)).2.2.1 = 0 then 1 else 0) 0 := by
 unfold ar4 lay bq
 rw [if_pos h]
 split <;> rfl
theorem arl {n d t : Nat} (h : d ≤ n) (hn : n < 18446744073709551616) (ht : t < 18446744073709551616) : IntKind.u64.wrap ((d : Int) + bif decide (IntKind.u64.wrap ((n : Int) - (d : Int)) < (t : Int)) then IntKind.u64.wrap ((n : Int) - (d : Int)) else (t : Int)) = ((d + min t (n - d) : Nat) : Int) := by
 rw [show (n : Int) - (d : Int) = ((n - d : Nat) : Int) by omega, ajj (n - d) (by omega)]
 by_cases hh : n - d < t
 ·rw [decide_eq_true (show ((n - d : Nat) : Int) < (t : Int) by omega), cond_true, show (d : Int) + ((n - d : Nat) : Int) = ((d + min t (n - d) : Nat) : Int) by omega, ajj _ (by omega)]
 ·rw [decide_eq_false (show ¬ ((n - d : Nat) : Int) < (t : Int) by omega), cond_false, show (d : Int) + (t : Int) = ((d + min t (n - d) : Nat) : Int) by omega, ajj _ (by omega)]
theorem asl {l : Ls} (h : Lwf l) (he : ¬ (bst (rd l.a) (rd l.b)).1 ≥ 1152921504606846976) : IntKind.u64.wrap ((bst (rd l.a) (rd l.b)).1 + 1) = (((bst (rd l.a) (rd l.b)).1.toNat + 1 : Nat) : Int) := by
 have := bbo l.a l.b h.a h.b
 rw [show (bst (rd l.a) (rd l.b)).1 + 1 = (((bst (rd l.a) (rd l.b)).1.toNat + 1 : Nat) : Int) by omega, ajj _ (by omega)]
theorem am0 {l : Ls} (he : ¬ (bst (rd l.a) (rd l.b)).1 ≥ 1152921504606846976) : (bst (rd l.a) (rd l.b)).1.toNat + 1 < 18446744073709551616 := by omega
theorem anh (a b : List Int) (n t : Nat) : (n > 1152921504606846976 ∧ opn a b n t = (⟨[], [], 0, 0, 0, 0, false⟩, 8)) ∨ (¬ n > 1152921504606846976 ∧ t < 1 ∧ opn a b n t = (⟨[], [], 0, 0, 0, 0, false⟩, 8)) ∨ (¬ n > 1152921504606846976 ∧ ¬ t < 1 ∧ t > 4294967296 ∧ opn a b n t = (⟨[], [], 0, 0, 0, 0, false⟩, 8)) ∨
    (¬ n > 1152921504606846976 ∧ ¬ t < 1 ∧ ¬ t > 4294967296 ∧ (((bst (rd a) (rd b)).2.2.2 ≠ 0 ∧ opn a b n t = (⟨[], [], 0, 0, 0, 0, false⟩, (bst (rd a) (rd b)).2.2.2)) ∨ ((bst (rd a) (rd b)).2.2.2 = 0 ∧ (bst (rd a) (rd b)).2.1 > (n : Int) ∧ opn a b n t = (⟨[], [], 0, 0, 0, 0, false⟩, 8)) ∨
     ((bst (rd a) (rd b)).2.2.2 = 0 ∧ ¬ (bst (rd a) (rd b)).2.1 > (n : Int) ∧ (bst (rd a) (rd b)).1 ≥ 1152921504606846976 ∧ opn a b n t = (⟨[], [], 0, 0, 0, 0, false⟩, 8)) ∨
     ((bst (rd a) (rd b)).2.2.2 = 0 ∧ ¬ (bst (rd a) (rd b)).2.1 > (n : Int) ∧ ¬ (bst (rd a) (rd b)).1 ≥ 1152921504606846976 ∧ opn a b n t = (⟨a, b, n, t, (bst (rd a) (rd b)).2.1.toNat, (bst (rd a) (rd b)).2.1.toNat, true⟩, 0)))) := by
 unfold opn
 by_cases h1 : n > 1152921504606846976
 ·exact .inl ⟨h1, by rw [if_pos (.inl h1)]⟩
 by_cases h2 : t < 1
 ·exact .inr (.inl ⟨h1, h2, by rw [if_pos (.inr (.inl h2))]⟩)
 by_cases h3 : t > 4294967296
 ·exact .inr (.inr (.inl ⟨h1, h2, h3, by rw [if_pos (.inr (.inr h3))]⟩))
 refine .inr (.inr (.inr ⟨h1, h2, h3, ?_⟩))
 have h0 : ¬ (n > 1152921504606846976 ∨ t < 1 ∨ t > 4294967296) := by omega
 rw [if_neg h0]
 by_cases h4 : (bst (rd a) (rd b)).2.2.2 = 0
 ·rw [if_neg (fun h => h h4)]
  by_cases h5 : (bst (rd a) (rd b)).2.1 > (n : Int)
  ·exact .inr (.inl ⟨h4, h5, by rw [if_pos (.inl h5)]⟩)
  ·by_cases h6 : (bst (rd a) (rd b)).1 ≥ 1152921504606846976
   ·exact .inr (.inr (.inl ⟨h4, h5, h6, by rw [if_pos (.inr h6)]⟩))
   ·exact .inr (.inr (.inr ⟨h4, h5, h6, by rw [if_neg (by omega)]⟩))
 ·exact .inl ⟨h4, by rw [if_pos h4]⟩
theorem iq (a b : List Int) (n t : Nat) (ha : In 256 a) (hb : In 256 b) (na : a.length ≤ 1000000) (nb : b.length ≤ 1000000) {ρ : Type} (k : List Int → List Int → Int → Int → Int → Int → Bool → Int → Option ρ) : P.iq a b (n : Int) (t : Int) k = lsK (opn a b n t).1 (fun a1 b1 n1 t1 x1 d1 u1 => k a1 b1 n1 t1 x1 d1 u1 (opn a b n t).2) := by
 have hl := bbo a b ha hb
 rw [P.akb]; unfold P.afc
 rcases anh a b n t with ⟨h1, h⟩ | ⟨h1, h2, h⟩ | ⟨h1, h2, h3, h⟩ | ⟨h1, h2, h3, h⟩
 ·rw [h, av (by omega)]; rfl
 ·rw [h, dx (by omega), av (by omega)]; rfl
 ·rw [h, dx (by omega), dx (by omega), av (by omega)]; rfl
 ·rw [dx (by omega), dx (by omega), dx (by omega), bg a b ha hb na nb]
  rcases h with ⟨h4, h⟩ | ⟨h4, h5, h⟩ | ⟨h4, h5, h6, h⟩ | ⟨h4, h5, h6, h⟩
  ·rw [h, iw h4]; rfl
  ·rw [h, ig h4, av h5]; rfl
  ·rw [h, ig h4, dx h5, av h6]; rfl
  ·rw [h, ig h4, dx h5, dx h6, aom a (by omega), aom b (by omega)]
   simp only [lsK]
   rw [Int.toNat_of_nonneg hl.2.2.1]
theorem abw (l : Ls) (h : Lgo l) {ρ : Type} (k : List Int → List Int → Int → Int → Int → Int → Bool → Int → Option ρ) : P.abw l.a l.b (l.n : Int) (l.t : Int) (l.x : Int) (l.d : Int) l.up k = lsK (res l).1 (fun a1 b1 n1 t1 x1 d1 u1 => k a1 b1 n1 t1 x1 d1 u1 (res l).2) := by
 obtain ⟨w, hn, ht, hp⟩ := h
 rw [P.agl]; unfold P.aay
 rcases aes l with ⟨hu, hx⟩ | ⟨hu, h1, hx⟩ | ⟨hu, h1, h2, hx⟩ | ⟨hu, h1, h2, h3, hx⟩ | ⟨hu, h1, h2, h3, hx⟩
 ·rw [ab7 hx (by omega)]; simp only [lsK, hu, Bool.not_false, vk]
 ·rw [ab7 hx (by omega)]; simp only [lsK, hu, Bool.not_true, o8]; rw [d9 (by omega)]
 ·rw [ab7 hx h2]; simp only [lsK, hu, Bool.not_true, o8]; rw [fq (by omega), bg l.a l.b w.a w.b (by have := w.na; omega) (by have := w.nb; omega), iw h2, iw h2]
 ·rw [ab7 hx (by omega)]; simp only [lsK, hu, Bool.not_true, o8]; rw [fq (by omega), bg l.a l.b w.a w.b (by have := w.na; omega) (by have := w.nb; omega), ig h2, av h3]
 ·obtain ⟨p1, p2⟩ := hp hu
  obtain ⟨w1, w2, w3, w4, w5, w6⟩ := aks w (adn ((bst (rd l.a) (rd l.b)).1.toNat + 1) (l.d + min l.t (l.n - l.d))) (by rw [zq]; omega)
  rw [aor hx]; simp only [lsK, hu, Bool.not_true, o8, w2, w3, w4, w6]; rw [fq (by omega), bg l.a l.b w.a w.b (by have := w.na; omega) (by have := w.nb; omega), ig h2, dx h3, asl w h3, arl p2 (by omega) (by omega), cu l.a l.b _ _ (am0 h3) (by omega) w.a w.b (by have := w.na; omega) (by have := w.nb; omega), ajv l _ h2, d9 rfl]
end Q
end

section
/- lease: leaves taken, deeds. -/
namespace Q
open Go Go.Abs
set_option linter.unusedVariables false
set_option linter.unusedSimpArgs false
theorem boa {x : Nat} (h : x + 1 < 18446744073709551616) : IntKind.u64.wrap ((x : Int) + 1) = ((x + 1 : Nat) : Int) := by rw [show (x : Int) + 1 = ((x + 1 : Nat) : Int) by omega, ajj _ h]
theorem bp0 {x : Nat} (h : x + 1 < 18446744073709551616) : IntKind.u64.wrap (((x + 1 : Nat) : Int) - 1) = (x : Int) := by rw [show ((x + 1 : Nat) : Int) - 1 = (x : Int) by omega, ajj _ (by omega)]
theorem arx {l : Ls} (h : l.up = false) : tak l = (l, 0, 21) := by unfold tak; rw [if_pos h]
theorem am5 {l : Ls} (h : l.up = true) (hx : ¬ l.x = l.d) : tak l = ({ l with x := l.x + 1 }, l.x, 0) := by unfold tak; rw [if_neg (by rw [h]; simp), if_neg hx]
theorem aii {l : Ls} (h : l.up = true) (hx : l.x = l.d) {e : Int} (hr : res l = (l, e)) (he : e ≠ 0) : tak l = (l, 0, e) := by unfold tak; rw [if_neg (by rw [h]; simp), if_pos hx, hr]; simp only; rw [if_pos he]
theorem avs {l l' : Ls} (h : l.up = true) (hx : l.x = l.d) (hr : res l = (l', 0)) : tak l = ({ l' with x := l.x + 1 }, l.x, 0) := by unfold tak; rw [if_neg (by rw [h]; simp), if_pos hx, hr]; rfl
theorem w9 (l : Ls) (h : Lgo l) {ρ : Type} (k : List Int → List Int → Int → Int → Int → Int → Bool → Int → Int → Option ρ) : P.w9 l.a l.b (l.n : Int) (l.t : Int) (l.x : Int) (l.d : Int) l.up k = lsK (tak l).1 (fun a1 b1 n1 t1 x1 d1 u1 => k a1 b1 n1 t1 x1 d1 u1 ((tak l).2.1 : Nat) (tak l).2.2) := by
 obtain ⟨w, hn, ht, hp⟩ := h
 rw [P.ajs]; unfold P.afd
 by_cases hu : l.up = true
 ·obtain ⟨p1, p2⟩ := hp hu
  have hx1 : l.x + 1 < 18446744073709551616 := by omega
  have e1 := boa hx1
  have e2 := bp0 hx1
  by_cases hx : l.x = l.d
  ·rcases aes l with ⟨hu', hq⟩ | ⟨_, h1, hq⟩ | ⟨_, h1, h2, hq⟩ | ⟨_, h1, h2, h3, hq⟩ | ⟨_, h1, h2, h3, hq⟩
   ·rw [hu] at hu'; cases hu'
   ·rw [aii hu hx (ab7 hq (by omega)) (by omega)]; simp only [lsK, hu, Bool.not_true, o8]; rw [d9 (by omega), d9 (by omega)]; rfl
   ·rw [aii hu hx (ab7 hq h2) h2]; simp only [lsK, hu, Bool.not_true, o8]; rw [d9 (by omega), fq (by omega), bg l.a l.b w.a w.b (by have := w.na; omega) (by have := w.nb; omega), iw h2, iw h2, iw h2]; rfl
   ·rw [aii hu hx (ab7 hq (by omega)) (by omega)]; simp only [lsK, hu, Bool.not_true, o8]; rw [d9 (by omega), fq (by omega), bg l.a l.b w.a w.b (by have := w.na; omega) (by have := w.nb; omega), ig h2, av h3]; rfl
   ·obtain ⟨w1, w2, w3, w4, w5, w6⟩ := aks w (adn ((bst (rd l.a) (rd l.b)).1.toNat + 1) (l.d + min l.t (l.n - l.d))) (by rw [zq]; omega)
    rw [avs hu hx (aor hq)]; simp only [lsK, hu, Bool.not_true, o8, w2, w3, w4, w6]; rw [d9 (by omega), fq (by omega), bg l.a l.b w.a w.b (by have := w.na; omega) (by have := w.nb; omega), ig h2, dx h3, asl w h3, arl p2 (by omega) (by omega), cu l.a l.b _ _ (am0 h3) (by omega) w.a w.b (by have := w.na; omega) (by have := w.nb; omega), ajv l _ h2, d9 rfl, ig rfl, e1, e2]
  ·rw [am5 hu hx]; simp only [lsK, hu, Bool.not_true, o8]; rw [fq (by omega), e1, e2]
 ·have hu' : l.up = false := by simpa using hu
  rw [arx hu']; simp only [lsK, hu', Bool.not_false, vk]; rfl
def nI (l : List Nat) : List Int := l.map fun (x : Nat) => (x : Int)
theorem al1 {l : Ls} {e : Int} (tear : Int) (junk : List Int) (h : nxt l = (e, 0, 0)) (he : e ≠ 0) : tor l tear junk = (l, e) := by
 unfold tor; rw [h]; simp only; rw [if_pos he]
theorem azl {l : Ls} {e d : Nat} (tear : Int) (junk : List Int) (h : nxt l = (0, e, d)) : tor l tear junk = if tear = 0 then (fal l, 0) else if tear = 1 then (fal (lay l (acj e d)), 0) else if tear = 2 then (fal (lay l junk), 0) else (l, 8) := by
 unfold tor; rw [h]; rfl
theorem bg0 {l : Ls} {e d : Nat} (tear : Int) (junk : List Int) (h0 : (bst (rd l.a) (rd l.b)).2.2.2 = 0) {ρ : Type} (k : List Int → List Int → Int → Option ρ) : bcw l.a l.b (acj e d) tear junk k = if tear = 0 then k l.a l.b 0 else if tear = 1 then k (lay l (acj e d)).a (lay l (acj e d)).b 0 else if tear = 2 then k (lay l junk).a (lay l junk).b 0 else k l.a l.b 8 := by
 unfold bcw; rw [if_pos h0, ajv l _ h0, ajv l _ h0]
theorem ak8 (l : Ls) (c : List Int) : (lay l c).n = l.n ∧ (lay l c).t = l.t := by unfold lay; split <;> exact ⟨rfl, rfl⟩
theorem yh (l : Ls) (h : Lgo l) (kind tear : Int) (junk : List Int) (nj : junk.length ≤ 1000000) {ρ : Type} (k : List Int → List Int → Int → Int → Int → Int → Bool → List Int → Int → Option ρ) : P.yh l.a l.b (l.n : Int) (l.t : Int) (l.x : Int) (l.d : Int) l.up kind tear junk k = lsK (deed l kind tear junk).1 (fun a1 b1 n1 t1 x1 d1 u1 => k a1 b1 n1 t1 x1 d1 u1 (nI (deed l kind tear junk).2.1) (deed l kind tear junk).2.2) := by
 obtain ⟨w, hn, ht, hp⟩ := h
 have hna : l.a.length ≤ 1000000 := by have := w.na; omega
 have hnb : l.b.length ≤ 1000000 := by have := w.nb; omega
 rw [P.anu]; unfold P.ahn deed
 by_cases k1 : kind = 1
 ·rw [d9 k1, if_pos k1]
  by_cases hu : l.up = true
  ·obtain ⟨p1, p2⟩ := hp hu
   have hx1 : l.x + 1 < 18446744073709551616 := by omega
   have e1 := boa hx1
   have e2 := bp0 hx1
   by_cases hx : l.x = l.d
   ·rcases aes l with ⟨hu', hq⟩ | ⟨_, h1, hq⟩ | ⟨_, h1, h2, hq⟩ | ⟨_, h1, h2, h3, hq⟩ | ⟨_, h1, h2, h3, hq⟩
    ·rw [hu] at hu'; cases hu'
    ·rw [aii hu hx (ab7 hq (by omega)) (by omega), if_pos (show ((13 : Int) ≠ 0) by omega)]; simp only [lsK, hu, Bool.not_true, o8]; rw [d9 (by omega), d9 (by omega)]; rfl
    ·rw [aii hu hx (ab7 hq h2) h2, if_pos h2]; simp only [lsK, hu, Bool.not_true, o8]; rw [d9 (by omega), fq (by omega), bg l.a l.b w.a w.b hna hnb, iw h2, iw h2, iw h2, iw h2]; rfl
    ·rw [aii hu hx (ab7 hq (by omega)) (by omega), if_pos (show ((8 : Int) ≠ 0) by omega)]; simp only [lsK, hu, Bool.not_true, o8]; rw [d9 (by omega), fq (by omega), bg l.a l.b w.a w.b hna hnb, ig h2, av h3]; rfl
    ·obtain ⟨w1, w2, w3, w4, w5, w6⟩ := aks w (adn ((bst (rd l.a) (rd l.b)).1.toNat + 1) (l.d + min l.t (l.n - l.d))) (by rw [zq]; omega)
     rw [avs hu hx (aor hq), if_neg (by simp)]; simp only [lsK, hu, Bool.not_true, o8, w2, w3, w4, w6]; rw [d9 (by omega), fq (by omega), bg l.a l.b w.a w.b hna hnb, ig h2, dx h3, asl w h3, arl p2 (by omega) (by omega), cu l.a l.b _ _ (am0 h3) (by omega) w.a w.b hna hnb, ajv l _ h2, d9 rfl, ig rfl, e1, e2]; rfl
   ·rw [am5 hu hx, if_neg (by simp)]; simp only [lsK, hu, Bool.not_true, o8]; rw [fq (by omega), e1, e2]; rfl
  ·have hu' : l.up = false := by simpa using hu
   rw [arx hu', if_pos (show ((21 : Int) ≠ 0) by omega)]; simp only [lsK, hu', Bool.not_false, vk]; rfl
 rw [fq k1, if_neg k1]
 by_cases k3 : kind = 3
 ·rw [d9 k3, if_neg (by omega), if_pos k3]
  rcases aes l with ⟨hu, hx⟩ | ⟨hu, h1, hx⟩ | ⟨hu, h1, h2, hx⟩ | ⟨hu, h1, h2, h3, hx⟩ | ⟨hu, h1, h2, h3, hx⟩
  ·rw [al1 tear junk hx (by omega)]; simp only [lsK, hu, Bool.not_false, vk]; rfl
  ·rw [al1 tear junk hx (by omega)]; simp only [lsK, hu, Bool.not_true, o8]; rw [d9 (by omega)]; rfl
  ·rw [al1 tear junk hx h2]; simp only [lsK, hu, Bool.not_true, o8]; rw [fq (by omega), bg l.a l.b w.a w.b hna hnb, iw h2, iw h2]; rfl
  ·rw [al1 tear junk hx (by omega)]; simp only [lsK, hu, Bool.not_true, o8]; rw [fq (by omega), bg l.a l.b w.a w.b hna hnb, ig h2, av h3]; rfl
  ·obtain ⟨p1, p2⟩ := hp hu
   rw [azl tear junk hx]; simp only [hu, Bool.not_true, o8]; rw [fq (by omega), bg l.a l.b w.a w.b hna hnb, ig h2, dx h3, asl w h3, arl p2 (by omega) (by omega), gy l.a l.b _ _ tear junk (am0 h3) (by omega) w.a w.b hna hnb nj, bg0 tear junk h2]
   by_cases t0 : tear = 0
   ·rw [if_pos t0, if_pos t0, d9 rfl]; rfl
   ·rw [if_neg t0, if_neg t0]
    by_cases t1 : tear = 1
    ·rw [if_pos t1, if_pos t1, d9 rfl]; simp only [lsK, fal, (ak8 l _).1, (ak8 l _).2]; rfl
    ·rw [if_neg t1, if_neg t1]
     by_cases t2 : tear = 2
     ·rw [if_pos t2, if_pos t2, d9 rfl]; simp only [lsK, fal, (ak8 l _).1, (ak8 l _).2]; rfl
     ·rw [if_neg t2, if_neg t2, fq (by omega)]; simp only [lsK, hu]; rfl
 rw [fq k3]
 by_cases k4 : kind = 4
 ·rw [d9 k4, if_neg (by omega), if_neg k3, if_pos k4]; rfl
 rw [fq k4]
 by_cases k2 : kind = 2
 ·rw [d9 k2, if_pos k2]
  have hq := abw l ⟨w, hn, ht, hp⟩ (fun a1 b1 n1 t1 x1 d1 u1 e => k a1 b1 n1 t1 x1 d1 u1 [] e)
  rw [P.agl] at hq; unfold P.aay at hq
  exact hq
 rw [fq k2, if_neg k2, if_neg k3, if_neg k4]
 by_cases k5 : kind = 5
 ·rw [d9 k5, if_pos k5]
  unfold ris
  by_cases hu : l.up = true
  ·rw [if_pos hu]; simp only [lsK, hu, vk]; rfl
  ·have hu' : l.up = false := by simpa using hu
   rw [if_neg hu]; simp only [hu', o8]
   rw [iq l.a l.b l.n l.t w.a w.b hna hnb]
   by_cases ho : (opn l.a l.b l.n l.t).2 = 0
   ·rw [if_neg (fun h => h ho)]; simp only [lsK, ho]; rw [d9 rfl]; rfl
   ·rw [if_pos ho]; simp only [lsK, hu']; rw [fq ho]; rfl
 ·rw [fq k5, if_neg k5]; rfl
end Q
end

section
/- lease: deeds played; what is the same; few; the example. -/
namespace Q
open Go Go.Abs
set_option linter.unusedVariables false
set_option linter.unusedSimpArgs false
theorem bjx {l : Ls} (w : Lwf l) (ht : 1 ≤ l.t) (h : (opn l.a l.b l.n l.t).2 = 0) : Lgo (opn l.a l.b l.n l.t).1 ∧ 1 ≤ (opn l.a l.b l.n l.t).1.t := by
 have hl := bbo l.a l.b w.a w.b
 rcases anh l.a l.b l.n l.t with ⟨h1, e⟩ | ⟨h1, h2, e⟩ | ⟨h1, h2, h3, e⟩ | ⟨h1, h2, h3, ⟨h4, e⟩ | ⟨h4, h5, e⟩ | ⟨h4, h5, h6, e⟩ | ⟨h4, h5, h6, e⟩⟩
 ·rw [e] at h; simp at h
 ·rw [e] at h; simp at h
 ·rw [e] at h; simp at h
 ·rw [e] at h; exact absurd h h4
 ·rw [e] at h; simp at h
 ·rw [e] at h; simp at h
 ·rw [e]
  exact ⟨⟨{ a := w.a, b := w.b, na := w.na, nb := w.nb, n := w.n, t := w.t, x := by simp only; omega, d := by simp only; omega }, by simp only; omega, by simp only; omega, fun _ => ⟨Nat.le_refl _, by simp only; omega⟩⟩, ht⟩
theorem bhv {l : Ls} (h : Lgo l) : Lgo (res l).1 ∧ (res l).1.t = l.t ∧ (res l).1.x = l.x ∧ (res l).1.n = l.n := by
 have h' := h
 obtain ⟨w, hn, ht, hp⟩ := h
 rcases aes l with ⟨hu, hx⟩ | ⟨hu, h1, hx⟩ | ⟨hu, h1, h2, hx⟩ | ⟨hu, h1, h2, h3, hx⟩ | ⟨hu, h1, h2, h3, hx⟩
 ·rw [ab7 hx (by omega)]; exact ⟨h', rfl, rfl, rfl⟩
 ·rw [ab7 hx (by omega)]; exact ⟨h', rfl, rfl, rfl⟩
 ·rw [ab7 hx h2]; exact ⟨h', rfl, rfl, rfl⟩
 ·rw [ab7 hx (by omega)]; exact ⟨h', rfl, rfl, rfl⟩
 ·obtain ⟨p1, p2⟩ := hp hu
  obtain ⟨w1, w2, w3, w4, w5, w6⟩ := aks w (adn ((bst (rd l.a) (rd l.b)).1.toNat + 1) (l.d + min l.t (l.n - l.d))) (by rw [zq]; omega)
  rw [aor hx]
  exact ⟨⟨{ w1 with d := by simp only; omega }, by simp only; omega, by simp only; omega, fun _ => by simp only; omega⟩, w3, w4, w2⟩
theorem bh3 {l : Ls} (h : Lgo l) (h0 : 1 ≤ l.t) : Lgo (tak l).1 ∧ (tak l).1.t = l.t := by
 have h' := h
 obtain ⟨w, hn, ht, hp⟩ := h
 by_cases hu : l.up = true
 ·obtain ⟨p1, p2⟩ := hp hu
  by_cases hx : l.x = l.d
  ·rcases aes l with ⟨hu', hq⟩ | ⟨_, h1, hq⟩ | ⟨_, h1, h2, hq⟩ | ⟨_, h1, h2, h3, hq⟩ | ⟨_, h1, h2, h3, hq⟩
   ·rw [hu] at hu'; cases hu'
   ·rw [aii hu hx (ab7 hq (by omega)) (by omega)]; exact ⟨h', rfl⟩
   ·rw [aii hu hx (ab7 hq h2) h2]; exact ⟨h', rfl⟩
   ·rw [aii hu hx (ab7 hq (by omega)) (by omega)]; exact ⟨h', rfl⟩
   ·obtain ⟨w1, w2, w3, w4, w5, w6⟩ := aks w (adn ((bst (rd l.a) (rd l.b)).1.toNat + 1) (l.d + min l.t (l.n - l.d))) (by rw [zq]; omega)
    rw [avs hu hx (aor hq)]
    exact ⟨⟨{ w1 with d := by simp only; omega, x := by simp only; omega }, by simp only; omega, by simp only; omega, fun _ => by simp only; omega⟩, w3⟩
  ·rw [am5 hu hx]
   exact ⟨⟨{ w with x := by simp only; omega }, hn, ht, fun _ => by simp only; omega⟩, rfl⟩
 ·rw [arx (by simpa using hu)]; exact ⟨h', rfl⟩
theorem axy {l : Ls} (h : Lgo l) : Lgo (fal l) := ⟨{ h.wf with x := z64, d := z64 }, h.n, h.t, fun h => (by cases h)⟩
theorem be6 {l : Ls} (h : Lgo l) {c : List Int} (hc : In 256 c) (nc : c.length ≤ 1000) : Lgo (lay l c) := by
 obtain ⟨w1, w2, w3, w4, w5, w6⟩ := aks h.wf hc nc
 exact ⟨w1, by rw [w2]; exact h.n, by rw [w3]; exact h.t, fun hu => by rw [w4, w5, w2]; exact h.up (by rw [← w6]; exact hu)⟩
theorem bkd {l : Ls} (h : Lgo l) (tear : Int) (junk : List Int) (hj : In 256 junk) (nj : junk.length ≤ 1000) : Lgo (tor l tear junk).1 ∧ (tor l tear junk).1.t = l.t := by
 rcases aes l with ⟨hu, hx⟩ | ⟨hu, h1, hx⟩ | ⟨hu, h1, h2, hx⟩ | ⟨hu, h1, h2, h3, hx⟩ | ⟨hu, h1, h2, h3, hx⟩
 ·rw [al1 tear junk hx (by omega)]; exact ⟨h, rfl⟩
 ·rw [al1 tear junk hx (by omega)]; exact ⟨h, rfl⟩
 ·rw [al1 tear junk hx h2]; exact ⟨h, rfl⟩
 ·rw [al1 tear junk hx (by omega)]; exact ⟨h, rfl⟩
 ·rw [azl tear junk hx]
  by_cases t0 : tear = 0
  ·rw [if_pos t0]; exact ⟨axy h, rfl⟩
  ·rw [if_neg t0]
   by_cases t1 : tear = 1
   ·rw [if_pos t1]; exact ⟨axy (be6 h (adn _ _) (by rw [zq]; omega)), (ak8 l _).2⟩
   ·rw [if_neg t1]
    by_cases t2 : tear = 2
    ·rw [if_pos t2]; exact ⟨axy (be6 h hj nj), (ak8 l _).2⟩
    ·rw [if_neg t2]; exact ⟨h, rfl⟩
theorem boe {l : Ls} (h : (opn l.a l.b l.n l.t).2 = 0) : (opn l.a l.b l.n l.t).1.t = l.t := by
 rcases anh l.a l.b l.n l.t with ⟨h1, e⟩ | ⟨h1, h2, e⟩ | ⟨h1, h2, h3, e⟩ | ⟨h1, h2, h3, ⟨h4, e⟩ | ⟨h4, h5, e⟩ | ⟨h4, h5, h6, e⟩ | ⟨h4, h5, h6, e⟩⟩
 ·rw [e] at h; simp at h
 ·rw [e] at h; simp at h
 ·rw [e] at h; simp at h
 ·rw [e] at h; exact absurd h h4
 ·rw [e] at h; simp at h
 ·rw [e] at h; simp at h
 ·rw [e]
theorem bh6 {l : Ls} (h : Lgo l) (h0 : 1 ≤ l.t) : Lgo (ris l).1 ∧ (ris l).1.t = l.t := by
 unfold ris
 by_cases hu : l.up = true
 ·rw [if_pos hu]; exact ⟨h, rfl⟩
 ·rw [if_neg hu]
  by_cases ho : (opn l.a l.b l.n l.t).2 = 0
  ·rw [if_neg (fun h => h ho)]; exact ⟨(bjx h.wf h0 ho).1, boe ho⟩
  ·rw [if_pos ho]; exact ⟨h, rfl⟩
theorem bgm {l : Ls} (h : Lgo l) (h0 : 1 ≤ l.t) (kind tear : Int) (junk : List Int) (hj : In 256 junk) (nj : junk.length ≤ 1000) : Lgo (deed l kind tear junk).1 ∧ 1 ≤ (deed l kind tear junk).1.t ∧ (deed l kind tear junk).2.1.length ≤ 1 := by
 unfold deed
 by_cases k1 : kind = 1
 ·rw [if_pos k1]
  have := bh3 h h0
  by_cases he : (tak l).2.2 = 0
  ·rw [if_neg (fun h => h he)]; exact ⟨this.1, by rw [this.2]; exact h0, by simp⟩
  ·rw [if_pos he]; exact ⟨this.1, by rw [this.2]; exact h0, by simp⟩
 rw [if_neg k1]
 by_cases k2 : kind = 2
 ·rw [if_pos k2]; have := bhv h; exact ⟨this.1, by rw [this.2.1]; exact h0, by simp⟩
 rw [if_neg k2]
 by_cases k3 : kind = 3
 ·rw [if_pos k3]; have := bkd h tear junk hj nj; exact ⟨this.1, by rw [this.2]; exact h0, by simp⟩
 rw [if_neg k3]
 by_cases k4 : kind = 4
 ·rw [if_pos k4]; exact ⟨axy h, h0, by simp⟩
 rw [if_neg k4]
 by_cases k5 : kind = 5
 ·rw [if_pos k5]; have := bh6 h h0; exact ⟨this.1, by rw [this.2]; exact h0, by simp⟩
 ·rw [if_neg k5]; exact ⟨h, h0, by simp⟩
def pst (l : Ls) (ks ts : List Int) (js : List (List Int)) : Nat → Ls × List Int
 | 0 => (l, [])
 | i + 1 => ((deed (pst l ks ts js i).1 (ks.getD i 0) (ts.getD i 0) (js.getD i [])).1, (pst l ks ts js i).2 ++ nI (deed (pst l ks ts js i).1 (ks.getD i 0) (ts.getD i 0) (js.getD i [])).2.1)
theorem bb4 {l : Ls} (h : Lgo l) (h0 : 1 ≤ l.t) (ks ts : List Int) {js : List (List Int)} {N : Nat} (hj : ∀ i, i < N → In 256 (js.getD i []) ∧ (js.getD i []).length ≤ 1000) : ∀ i, i ≤ N → Lgo (pst l ks ts js i).1 ∧ 1 ≤ (pst l ks ts js i).1.t ∧ (pst l ks ts js i).2.length ≤ i
 | 0, _ => ⟨h, h0, by simp [pst]⟩
 | i + 1, hi => by
  obtain ⟨a1, a2, a3⟩ := bb4 h h0 ks ts hj i (by omega)
  obtain ⟨b1, b2, b3⟩ := bgm a1 a2 (ks.getD i 0) (ts.getD i 0) _ (hj i (by omega)).1 (hj i (by omega)).2
  exact ⟨b1, b2, by simp only [pst, nI, List.length_append, List.length_map]; omega⟩
theorem vw (l : Ls) (h : Lgo l) (h0 : 1 ≤ l.t) (N : Nat) (hN : N ≤ 60) (ks ts : List Int) (js : List (List Int)) (hj : ∀ i, i < N → In 256 (js.getD i []) ∧ (js.getD i []).length ≤ 1000) {ρ : Type} (k : List Int → List Int → Int → Int → Int → Int → Bool → List Int → Option ρ) : P.vw l.a l.b (l.n : Int) (l.t : Int) (l.x : Int) (l.d : Int) l.up N ks ts js k = lsK (pst l ks ts js N).1 (fun a1 b1 n1 t1 x1 d1 u1 => k a1 b1 n1 t1 x1 d1 u1 (pst l ks ts js N).2) := by
 have hg := bb4 h h0 ks ts hj
 rw [P.aki]; unfold P.ae7
 rw [P.amu]; unfold P.aj6 P.blp P.bjh P.bpf
 refine y5 (fun i => (N, ks, ts, js, (N : Int), (i : Int), (pst l ks ts js i).2, (pst l ks ts js i).1.a, (pst l ks ts js i).1.b, ((pst l ks ts js i).1.n : Int), ((pst l ks ts js i).1.t : Int), ((pst l ks ts js i).1.x : Int), ((pst l ks ts js i).1.d : Int), (pst l ks ts js i).1.up, 0, 0, 0, 0, false)) N rfl (fun i hi next hnx => ?_) (fun next => ?_) (by omega)
 ·obtain ⟨a1, a2, a3⟩ := hg i (by omega)
  obtain ⟨b1, b2, b3⟩ := hg (i + 1) (by omega)
  simp only [P.af6]
  rw [av (by omega), av (by omega), av (by omega), toNat_cast, yh _ a1 _ _ _ (by have := (hj i hi).2; omega)]
  simp only [lsK]
  rw [av (by have : (pst l ks ts js (i + 1)).2.length ≤ i + 1 := b3; simp only [pst, List.length_append] at this; omega), yu (by omega) (by omega)]
  exact hnx
 ·simp only [P.af6]
  rw [dx (by omega)]
  rfl
theorem aok (p : Nat → Prop) : ∀ N, (∀ i, i < N → p i) ∨ ∃ i, i < N ∧ ¬ p i ∧ ∀ j, j < i → p j
 | 0 => .inl (fun i h => by omega)
 | N + 1 => by
  rcases aok p N with h | ⟨i, h1, h2, h3⟩
  ·by_cases hp : p N
   ·exact .inl (fun i hi => by
      by_cases e : i = N
      ·rw [e]; exact hp
      ·exact h i (by omega))
   ·exact .inr ⟨N, by omega, hp, h⟩
  ·exact .inr ⟨i, by omega, h2, h3⟩
theorem aze (a b : List Int) (N : Nat) (ks ts : List Int) (js : List (List Int)) : ∃ v : Bool, (v = true → N ≤ 60 ∧ a.length ≤ 300 ∧ b.length ≤ 300 ∧ ∀ i, i < N → (js.getD i []).length ≤ 300) ∧ ∀ {ρ : Type} (k : Bool → Option ρ), P.afy a b N ks ts js k = k v := by
 by_cases h1 : N > 60
 ·exact ⟨false, fun h => (by cases h), fun k => by rw [P.adz]; unfold P.abg; rw [av (by omega)]⟩
 by_cases h2 : a.length > 300
 ·exact ⟨false, fun h => (by cases h), fun k => by rw [P.adz]; unfold P.abg; rw [dx (by omega), av (by omega)]⟩
 by_cases h3 : b.length > 300
 ·exact ⟨false, fun h => (by cases h), fun k => by rw [P.adz]; unfold P.abg; rw [dx (by omega), dx (by omega), av (by omega)]⟩
 rcases aok (fun i => (js.getD i []).length ≤ 300) N with h | ⟨m, m1, m2, m3⟩
 ·refine ⟨true, fun _ => ⟨by omega, by omega, by omega, h⟩, fun k => ?_⟩
  rw [P.adz]; unfold P.abg
  rw [dx (by omega), dx (by omega), dx (by omega), P.ajx]; unfold P.ak1 P.zk1 P.zs1 P.zu1
  refine y5 (fun i => (N, ks, ts, js, (N : Int), (i : Int))) N rfl (fun i hi next hnx => ?_) (fun next => ?_) (by omega)
  ·have := h i hi
   simp only [P.afl]
   rw [av (by omega), av (by omega), av (by omega), toNat_cast, dx (by omega), yu (by omega) (by omega)]
   exact hnx
  ·simp only [P.afl]
   rw [dx (by omega)]
   rfl
 ·refine ⟨false, fun h => (by cases h), fun k => ?_⟩
  rw [P.adz]; unfold P.abg
  rw [dx (by omega), dx (by omega), dx (by omega), P.ajx]; unfold P.ak1 P.zk1 P.zs1 P.zu1
  refine y5 (fun i => (N, ks, ts, js, (N : Int), (i : Int))) m rfl (fun i hi next hnx => ?_) (fun next => ?_) (by omega)
  ·have := m3 i hi
   simp only [P.afl]
   rw [av (by omega), av (by omega), av (by omega), toNat_cast, dx (by omega), yu (by omega) (by omega)]
   exact hnx
  ·simp only [P.afl]
   rw [av (by omega), av (by omega), av (by omega), toNat_cast, av (by omega)]
   rfl
theorem asw (N : Nat) (hN : N ≤ 60) (ks ts : List Int) (js : List (List Int)) (hj : ∀ i, i < N → In 256 (js.getD i []) ∧ (js.getD i []).length ≤ 1000) : ∃ v : Bool, (v = true → ∀ i, i < N → rd (js.getD i []) = none) ∧ ∀ {ρ : Type} (k : Bool → Option ρ), P.aaz N ks ts js k = k v := by
 rcases aok (fun i => rd (js.getD i []) = none) N with h | ⟨m, m1, m2, m3⟩
 ·refine ⟨true, fun _ => h, fun k => ?_⟩
  rw [P.aga]; unfold P.acw
  rw [P.agt]; unfold P.af3 P.biz P.bho P.bnw
  refine y5 (fun i => (N, ks, ts, js, (N : Int), (i : Int))) N rfl (fun i hi next hnx => ?_) (fun next => ?_) (by omega)
  ·have hr := h i hi
   simp only [P.abx]
   rw [av (by omega), av (by omega), av (by omega), toNat_cast, aa2 _ (hj i hi).1 (by have := (hj i hi).2; omega), hr]
   simp only [rdK, o8]
   rw [yu (by omega) (by omega)]
   exact hnx
  ·simp only [P.abx]
   rw [dx (by omega)]
   rfl
 ·refine ⟨false, fun h => (by cases h), fun k => ?_⟩
  rw [P.aga]; unfold P.acw
  rw [P.agt]; unfold P.af3 P.biz P.bho P.bnw
  refine y5 (fun i => (N, ks, ts, js, (N : Int), (i : Int))) m rfl (fun i hi next hnx => ?_) (fun next => ?_) (by omega)
  ·have hr := m3 i hi
   simp only [P.abx]
   rw [av (by omega), av (by omega), av (by omega), toNat_cast, aa2 _ (hj i (by omega)).1 (by have := (hj i (by omega)).2; omega), hr]
   simp only [rdK, o8]
   rw [yu (by omega) (by omega)]
   exact hnx
  ·simp only [P.abx]
   rw [av (by omega), av (by omega), av (by omega), toNat_cast, aa2 _ (hj m m1).1 (by have := (hj m m1).2; omega)]
   cases hr : rd (js.getD m []) with
   | none => exact absurd hr m2
   | some p => simp only [rdK, vk]; rfl
end Q
end

section
/- lease: a new one; chapter 29's example. -/
namespace Q
open Go Go.Abs
set_option linter.unusedVariables false
set_option linter.unusedSimpArgs false
theorem vv {ρ : Type} (k : List Int → List Int → Option ρ) : P.vv k = k (acj 0 0) (acj 0 0) := by
 rw [P.akt]; unfold P.aff
 rw [show (0 : Int) = ((0 : Nat) : Int) from rfl, ku 0 0 (by omega) (by omega), ku 0 0 (by omega) (by omega)]
theorem su (n t : Nat) {ρ : Type} (k : List Int → List Int → Int → Int → Int → Int → Bool → Int → Option ρ) : P.su (n : Int) (t : Int) k = lsK (opn (acj 0 0) (acj 0 0) n t).1 (fun a1 b1 n1 t1 x1 d1 u1 => k a1 b1 n1 t1 x1 d1 u1 (opn (acj 0 0) (acj 0 0) n t).2) := by
 rw [P.ami]; unfold P.afx
 rw [vv, iq _ _ n t (adn 0 0) (adn 0 0) (by rw [zq]; omega) (by rw [zq]; omega)]
theorem bk7 : bst (rd (acj 0 0)) (rd (acj 0 0)) = (0, 0, 0, 0) := by
 rw [bfc 0 0 (by omega) (by omega)]
 simp [bst, upB]
theorem bex {n t : Nat} (hn : n ≤ 1152921504606846976) (ht : 1 ≤ t ∧ t ≤ 4294967296) : opn (acj 0 0) (acj 0 0) n t = (⟨acj 0 0, acj 0 0, n, t, 0, 0, true⟩, 0) ∧ Lin ⟨acj 0 0, acj 0 0, n, t, 0, 0, true⟩ 0 0 := by
 have hl := zq 0 0
 constructor
 ·unfold opn
  rw [bk7, if_neg (by omega), if_neg (by simp), if_neg (by simp only; omega)]
  rfl
 ·exact { wf := { a := adn 0 0, b := adn 0 0, na := by simp only; omega, nb := by simp only; omega, n := by simp only; omega, t := by simp only; omega, x := by simp only; omega, d := by simp only; omega }, n := hn, t := ht, err := by unfold bq; simp only [bk7], ee := by unfold bq; simp only [bk7]; rfl, eB := by unfold bq; simp only [bk7]; rfl, Bn := Nat.zero_le _, el := Nat.zero_le _, down := fun h => (by cases h), up := fun _ => ⟨rfl, Nat.le_refl _⟩ }
theorem bag (n t : Nat) : (n ≤ 1152921504606846976 ∧ 1 ≤ t ∧ t ≤ 4294967296) ∨ (opn (acj 0 0) (acj 0 0) n t).2 = 8 := by
 by_cases h : n > 1152921504606846976 ∨ t < 1 ∨ t > 4294967296
 ·right; unfold opn; rw [if_pos h]
 ·left; omega
theorem Lin.go {l : Ls} {e B : Nat} (h : Lin l e B) : Lgo l := ⟨h.wf, h.n, h.t.2, fun hu => by have := h.up hu; have := h.Bn; omega⟩
theorem bfs {l : Ls} {e B : Nat} (h : Lin l e B) (hu : l.up = true) (hx : l.x = B) (hB : B < l.n) (he : e < 1152921504606846976) : ∃ l', tak l = (l', l.x, 0) ∧ Lin l' (e + 1) (B + min l.t (l.n - B)) ∧ l'.up = true ∧ l'.x = l.x + 1 ∧ l'.n = l.n ∧ l'.t = l.t := by
 obtain ⟨h1, h2⟩ := h.up hu
 have ht := h.t
 rcases h.res with ⟨r1, r2, r3⟩ | ⟨_, r2, r3, r4, r5, r6, r7, r8, r9⟩
 ·rcases r3 hu with ⟨a, _⟩ | a <;> omega
 ·refine ⟨{ (res l).1 with x := l.x + 1 }, ?_, ?_, r6, rfl, r8, r9⟩
  ·unfold tak
   rw [if_neg (by rw [hu]; simp), if_pos (by omega), if_neg (by rw [r2]; simp)]
  ·have := r5.step r6 (by rw [r7]; omega)
   rw [r7] at this
   exact this
theorem bmc {l : Ls} {e B : Nat} (h : Lin l e B) (hu : l.up = true) (hx : l.x < B) : ∃ l', tak l = (l', l.x, 0) ∧ Lin l' e B ∧ l'.up = true ∧ l'.x = l.x + 1 ∧ l'.n = l.n ∧ l'.t = l.t := by
 obtain ⟨h1, h2⟩ := h.up hu
 exact ⟨{ l with x := l.x + 1 }, am5 hu (by omega), h.step hu hx, hu, rfl, rfl, rfl⟩
theorem bn0 {l : Ls} {e B : Nat} (h : Lin l e B) (hu : l.up = true) (hx : l.x = B) (hB : B = l.n) : tak l = (l, 0, 13) := by
 obtain ⟨h1, h2⟩ := h.up hu
 rcases h.nxt hu with ⟨_, q⟩ | ⟨q, _⟩ | ⟨q, _⟩
 ·exact aii hu (by omega) (ab7 q (by omega)) (by omega)
 ·omega
 ·omega
theorem aw7 {l l' : Ls} {x : Nat} (h : tak l = (l', x, 0)) (tear : Int) (junk : List Int) : deed l 1 tear junk = (l', [x], 0) := by
 unfold deed; rw [if_pos rfl, h]; rfl
theorem bj7 (l : Ls) (tear : Int) (junk : List Int) : deed l 4 tear junk = (fal l, [], 0) := by
 unfold deed; rw [if_neg (by omega), if_neg (by omega), if_neg (by omega), if_pos rfl]
theorem bij (l : Ls) (tear : Int) (junk : List Int) : deed l 5 tear junk = ((ris l).1, [], (ris l).2) := by
 unfold deed; rw [if_neg (by omega), if_neg (by omega), if_neg (by omega), if_neg (by omega), if_pos rfl]
theorem ayv {l m m' : Ls} {ks ts : List Int} {js : List (List Int)} {i : Nat} {o : List Int} {o' : List Nat} {e : Int} (h : pst l ks ts js i = (m, o)) (hd : deed m (ks.getD i 0) (ts.getD i 0) (js.getD i []) = (m', o', e)) : pst l ks ts js (i + 1) = (m', o ++ nI o') := by
 rw [pst, h]; simp only; rw [hd]
theorem qj {ρ : Type} (k : Bool → Option ρ) : P.qj k = k true := by
 obtain ⟨n1, n2⟩ := bex (n := 5) (t := 2) (by omega) (by omega)
 rw [P.al4]; unfold P.afw
 refine (su 5 2 _).trans ?_
 rw [n1]
 simp only [lsK]
 have hj : ∀ i, i < 6 → In 256 (([[], [], [], [], [], []] : List (List Int)).getD i []) ∧ (([[], [], [], [], [], []] : List (List Int)).getD i []).length ≤ 1000 := by
  intro i hi
  have : (([[], [], [], [], [], []] : List (List Int)).getD i []) = [] := by
   match i, hi with
   | 0, _ => rfl
   | 1, _ => rfl
   | 2, _ => rfl
   | 3, _ => rfl
   | 4, _ => rfl
   | 5, _ => rfl
  rw [this]
  exact ⟨In.nil, by simp⟩
 have hp := fun (k : List Int → List Int → Int → Int → Int → Int → Bool → List Int → Option ρ) => vw ⟨acj 0 0, acj 0 0, 5, 2, 0, 0, true⟩ n2.go (by simp only; omega) 6 (by omega) [1, 1, 1, 4, 5, 1] [0, 0, 0, 0, 0, 0] [[], [], [], [], [], []] hj k
 simp only at hp
 have hg := bb4 n2.go (show 1 ≤ 2 by omega) [1, 1, 1, 4, 5, 1] [0, 0, 0, 0, 0, 0] hj 6 (Nat.le_refl _)
 obtain ⟨l1, t1, i1, u1, x1, m1, b1⟩ := bfs n2 rfl rfl (by simp only; omega) (by omega)
 simp only [Nat.reduceAdd, Nat.reduceSub, Nat.reduceLeDiff, Nat.min_def, Nat.zero_add, Nat.sub_zero, ite_true] at i1 t1 x1 m1 b1
 obtain ⟨l2, t2, i2, u2, x2, m2, b2⟩ := bmc i1 u1 (by omega)
 obtain ⟨l3, t3, i3, u3, x3, m3, b3⟩ := bfs i2 u2 (by omega) (by omega) (by omega)
 rw [show 2 + min l2.t (l2.n - 2) = 4 by omega] at i3
 have i4 := i3.fal
 rcases i4.ris with ⟨r1, r2⟩ | ⟨_, _, i5, u5, x5, d5, m5, b5⟩
 ·have := r2 rfl; omega
 have m5' : (ris (fal l3)).1.n = 5 := by rw [m5]; show l3.n = 5; omega
 have b5' : (ris (fal l3)).1.t = 2 := by rw [b5]; show l3.t = 2; omega
 obtain ⟨l6, t6, i6, u6, x6, m6, b6⟩ := bfs i5 u5 x5 (by omega) (by omega)
 rw [b5', m5', show 4 + min 2 (5 - 4) = 5 by omega] at i6
 have t7 := bn0 i6 u6 (by omega) (by omega)
 have s0 : pst ⟨acj 0 0, acj 0 0, 5, 2, 0, 0, true⟩ [1, 1, 1, 4, 5, 1] [0, 0, 0, 0, 0, 0] [[], [], [], [], [], []] 0 = (⟨acj 0 0, acj 0 0, 5, 2, 0, 0, true⟩, []) := rfl
 have s1 := ayv s0 (aw7 t1 _ _)
 have s2 := ayv s1 (aw7 t2 _ _)
 have s3 := ayv s2 (aw7 t3 _ _)
 have s4 := ayv s3 (bj7 l3 _ _)
 have s5 := ayv s4 (bij (fal l3) _ _)
 have s6 := ayv s5 (aw7 t6 _ _)
 simp only [Nat.reduceAdd] at s6
 rw [hp, s6]
 rw [s6] at hg
 simp only [lsK]
 rw [w9 l6 hg.1, t7]
 rw [x5, show l2.x = 2 by omega, x1]
 simp only [lsK, nI, List.map_cons, List.map_nil, List.nil_append, List.cons_append]
 simp [List.getD]
end Q
end

section
/- lease: a lease and deeds as they are given. -/
namespace Q
open Go Go.Abs
set_option linter.unusedVariables false
set_option linter.unusedSimpArgs false
theorem azx {x : Int} (h : wfI .u64 x) : ∃ n : Nat, n < 18446744073709551616 ∧ x = (n : Int) := by
 have := wf_u64 h
 exact ⟨x.toNat, by omega, by omega⟩
theorem beg {js : List (List Int)} {N : Nat} (hN : js.length = N) (hw : ∀ y, y ∈ js → y.length ≤ 140737488355328 ∧ ∀ x, x ∈ y → wfI .u8 x) (hl : ∀ i, i < N → (js.getD i []).length ≤ 300) : ∀ i, i < N → In 256 (js.getD i []) ∧ (js.getD i []).length ≤ 1000 := by
 intro i hi
 have hm : js.getD i [] ∈ js := by
  rw [List.getD_eq_getElem?_getD, List.getElem?_eq_getElem (by omega)]
  exact List.getElem_mem _
 exact ⟨bnj (hw _ hm).2, by have := hl i hi; omega⟩
end Q
end

section
namespace Q
open Go Go.Abs
set_option linter.unusedVariables false
set_option linter.unusedSimpArgs false
theorem bha (l : List Nat) (i : Nat) : (nI l).getD i 0 = ((l.getD i 0 : Nat) : Int) := by
 unfold nI
 rw [List.getD_eq_getElem?_getD, List.getD_eq_getElem?_getD, List.getElem?_map]
 cases l[i]? <;> rfl
def Asc (m : Nat) (o : List Nat) : Prop := (∀ j, j < o.length → o.getD j 0 < m) ∧ ∀ j, 0 < j → j < o.length → o.getD (j - 1) 0 < o.getD j 0
theorem ax7 {o p : List Nat} {j : Nat} (h : j < o.length) : (o ++ p).getD j 0 = o.getD j 0 := by
 rw [List.getD_eq_getElem?_getD, List.getD_eq_getElem?_getD, List.getElem?_append_left h]
theorem bfd {o : List Nat} {x : Nat} : (o ++ [x]).getD o.length 0 = x := by
 rw [List.getD_eq_getElem?_getD, List.getElem?_append_right (Nat.le_refl _)]; simp
theorem Asc.more {m x : Nat} {o : List Nat} (h : Asc m o) (hx : m ≤ x) : Asc (x + 1) (o ++ [x]) := by
 obtain ⟨h1, h2⟩ := h
 constructor
 ·intro j hj
  rw [List.length_append, List.length_singleton] at hj
  by_cases hl : j < o.length
  ·rw [ax7 hl]; have := h1 j hl; omega
  ·rw [show j = o.length by omega, bfd]; omega
 ·intro j h0 hj
  rw [List.length_append, List.length_singleton] at hj
  by_cases hl : j < o.length
  ·rw [ax7 hl, ax7 (by omega)]; exact h2 j h0 hl
  ·rw [show j = o.length by omega, bfd, ax7 (by omega)]
   have := h1 (o.length - 1) (by omega); omega
end Q
end

section
namespace Q
open Go Go.Abs
set_option linter.unusedVariables false
set_option linter.unusedSimpArgs false
def o9 (v : Nat) : List Nat → Nat
 | [] => v
 | x :: _ => x + 1
theorem bgc (n t v d : Nat) (u0 : Bool) (N : Nat) (ks ts : List Int) (js : List (List Int)) (w0 w1 : Int) (l m : Ls) (os : List Nat) (ho : os = [] ∨ ∃ x, os = [x] ∧ x + 1 < 18446744073709551616) {ρ : Type}
    (k : Int → Int → Int → Int → Bool → Nat → (List Int) → (List Int) → (List (List Int)) → Int → Int → Int → Int → (List Int) → (List Int) → Int → Int → Int → Int → Bool → (List Int) → (List Int) → (List Int) → Int → Int → Int → Int → Bool → Option ρ) :
    P.acg (n : Int) (t : Int) (v : Int) (d : Int) u0 N ks ts js w0 w1 (((nI os).length : Nat) : Int) 0 l.a l.b (l.n : Int) (l.t : Int) (l.x : Int) (l.d : Int) l.up (nI os) m.a m.b (m.n : Int) (m.t : Int) (m.x : Int) (m.d : Int) m.up k =
    k n t (o9 v os : Nat) d u0 N ks ts js w0 w1 (((nI os).length : Nat) : Int) (((nI os).length : Nat) : Int) l.a l.b l.n l.t l.x l.d l.up (nI os) m.a m.b m.n m.t m.x m.d m.up := by
 rw [P.ah6]; unfold P.afm P.bk3 P.bix P.bmg
 rcases ho with rfl | ⟨x, rfl, hx⟩
 ·refine y5 (fun i => ((n : Int), (t : Int), (v : Int), (d : Int), u0, N, ks, ts, js, w0, w1, (((nI []).length : Nat) : Int), 0, l.a, l.b, (l.n : Int), (l.t : Int), (l.x : Int), (l.d : Int), l.up, nI [], m.a, m.b, (m.n : Int), (m.t : Int), (m.x : Int), (m.d : Int), m.up)) 0 rfl (fun i hi next hnx => by omega) (fun next => ?_) (by omega)
  simp only [P.aa3]
  rw [dx (by simp [nI])]
  rfl
 ·refine y5 (fun i => ((n : Int), (t : Int), (((if i = 0 then v else x + 1 : Nat)) : Int), (d : Int), u0, N, ks, ts, js, w0, w1, (((nI [x]).length : Nat) : Int), (i : Int), l.a, l.b, (l.n : Int), (l.t : Int), (l.x : Int), (l.d : Int), l.up, nI [x], m.a, m.b, (m.n : Int), (m.t : Int), (m.x : Int), (m.d : Int), m.up)) 1 rfl (fun i hi next hnx => ?_) (fun next => ?_) (by omega)
  ·obtain rfl : i = 0 := by omega
   simp only [P.aa3]
   rw [av (by simp [nI]), av (by omega), av (by simp [nI]), toNat_cast, bha, show ([x].getD 0 0 : Nat) = x from rfl, boa hx, yu (by omega) (by omega)]
   exact hnx
  ·simp only [P.aa3]
   rw [dx (by simp [nI])]
   rfl
def nst (l : Ls) (ks ts : List Int) (js : List (List Int)) : Nat → Ls × Nat × Nat
 | 0 => (l, 0, 0)
 | i + 1 => ((deed (nst l ks ts js i).1 (ks.getD i 0) (ts.getD i 0) (js.getD i [])).1, o9 (nst l ks ts js i).2.1 (deed (nst l ks ts js i).1 (ks.getD i 0) (ts.getD i 0) (js.getD i [])).2.1, if (deed (nst l ks ts js i).1 (ks.getD i 0) (ts.getD i 0) (js.getD i [])).1.up = true then (deed (nst l ks ts js i).1 (ks.getD i 0) (ts.getD i 0) (js.getD i [])).1.d else (nst l ks ts js i).2.2)
def NI (l : Ls) (v d B : Nat) : Prop := (l.up = true → v ≤ l.x ∧ d = l.d) ∧ (l.up = false → v ≤ B ∧ d ≤ B ∧ B ≤ d + l.t)
theorem aup {l : Ls} {e B v d : Nat} (h : Lin l e B) (hi : NI l v d B) (kind tear : Int) (junk : List Int) (hj : In 256 junk) (nj : junk.length ≤ 1000) (hr : rd junk = none) :
    ∃ e' B', Lin (deed l kind tear junk).1 e' B' ∧ (deed l kind tear junk).1.n = l.n ∧ (deed l kind tear junk).1.t = l.t ∧
     NI (deed l kind tear junk).1 (o9 v (deed l kind tear junk).2.1) (if (deed l kind tear junk).1.up = true then (deed l kind tear junk).1.d else d) B' ∧
     ((deed l kind tear junk).2.1 = [] ∨ ∃ x, (deed l kind tear junk).2.1 = [x] ∧ x + 1 < 18446744073709551616) ∧
     ((deed l kind tear junk).1.up = true → l.up = false → o9 v (deed l kind tear junk).2.1 ≤ (deed l kind tear junk).1.x ∧ d ≤ (deed l kind tear junk).1.x ∧ (deed l kind tear junk).1.x ≤ d + l.t ∧ (deed l kind tear junk).1.x = (deed l kind tear junk).1.d) ∧
     ((deed l kind tear junk).1.up = true → (deed l kind tear junk).1.x ≤ (deed l kind tear junk).1.d ∧ (deed l kind tear junk).1.d ≤ l.n) := by
 obtain ⟨e', B', b1, b2, b3, b4, b5, b6, b7⟩ := h.deed kind tear junk hj nj hr
 have hBn := b1.Bn
 have hup := b1.up
 have hup0 := h.up
 have hn := h.n
 obtain ⟨i1, i2⟩ := hi
 generalize deed l kind tear junk = q at *
 refine ⟨e', B', b1, b5, b6, ?_, ?_, ?_, fun hu => ?_⟩
 ·cases b7 with
  | same h1 h2 h3 h4 =>
   rw [h1]
   constructor
   ·intro hu; rw [if_pos hu]; exact ⟨by rw [h3]; exact (i1 (by rw [← h2]; exact hu)).1, rfl⟩
   ·intro hu
    have hl : l.up = false := by rw [← h2]; exact hu
    have := i2 hl
    have hb := h4 hl
    rw [if_neg (by rw [hu]; simp)]
    simp only [o9]
    omega
  | gave h1 h2 h3 h4 h5 =>
   rw [h1]
   constructor
   ·intro hu; rw [if_pos hu]; exact ⟨by simp only [o9]; omega, rfl⟩
   ·intro hu; rw [h3] at hu; cases hu
  | fell h1 h2 h3 h4 =>
   rw [h1]
   constructor
   ·intro hu; rw [h3] at hu; cases hu
   ·intro hu
    have := i1 h2
    have := hup0 h2
    rw [if_neg (by rw [hu]; simp)]
    simp only [o9]
    omega
  | rose h1 h2 h3 h4 h5 h6 =>
   rw [h1]
   constructor
   ·intro hu; rw [if_pos hu]; have := i2 h2; exact ⟨by simp only [o9]; omega, rfl⟩
   ·intro hu; rw [h3] at hu; cases hu
 ·cases b7 with
  | same h1 h2 h3 h4 => exact .inl h1
  | gave h1 h2 h3 h4 h5 => exact .inr ⟨_, h1, by rw [b5] at hBn; omega⟩
  | fell h1 h2 h3 h4 => exact .inl h1
  | rose h1 h2 h3 h4 h5 h6 => exact .inl h1
 ·intro hu hl
  cases b7 with
  | same h1 h2 h3 h4 => rw [h2, hl] at hu; cases hu
  | gave h1 h2 h3 h4 h5 => rw [hl] at h2; cases h2
  | fell h1 h2 h3 h4 => rw [h3] at hu; cases hu
  | rose h1 h2 h3 h4 h5 h6 =>
   have := i2 hl
   rw [h1]
   simp only [o9]
   omega
 ·have := hup hu
  rw [b5] at hBn
  omega
theorem bff {l : Ls} (h : Lin l 0 0) (hd0 : l.d = 0) (ks ts : List Int) {js : List (List Int)} {N : Nat} (hj : ∀ i, i < N → In 256 (js.getD i []) ∧ (js.getD i []).length ≤ 1000) (hr : ∀ i, i < N → rd (js.getD i []) = none) (hu : l.up = true) : ∀ i, i ≤ N →
    ∃ e B, Lin (nst l ks ts js i).1 e B ∧ (nst l ks ts js i).1.n = l.n ∧ (nst l ks ts js i).1.t = l.t ∧ NI (nst l ks ts js i).1 (nst l ks ts js i).2.1 (nst l ks ts js i).2.2 B
 | 0, _ => ⟨0, 0, h, rfl, rfl, fun _ => ⟨Nat.zero_le _, hd0.symm⟩, fun hf => by
     have hf' : l.up = false := hf
     rw [hu] at hf'; cases hf'⟩
 | i + 1, hi => by
  obtain ⟨e, B, a1, a2, a3, a4⟩ := bff h hd0 ks ts hj hr hu i (by omega)
  obtain ⟨e', B', b1, b2, b3, b4, _⟩ := aup a1 a4 (ks.getD i 0) (ts.getD i 0) (js.getD i []) (hj i (by omega)).1 (hj i (by omega)).2 (hr i (by omega))
  exact ⟨e', B', b1, b2.trans a2, b3.trans a3, b4⟩
theorem LeaseNear (x0 : Int) (x1 : Int) (x2n : Nat) (x20 : List Int) (x21 : List Int) (x22 : List (List Int)) (wx0 : wfI .u64 x0) (wx1 : wfI .u64 x1) (bx2 : x2n ≤ 140737488355328) (mx20 : x20.length = x2n) (wx20 : ∀ x, x ∈ x20 → wfI .i64 x) (mx21 : x21.length = x2n) (wx21 : ∀ x, x ∈ x21 → wfI .i64 x) (mx22 : x22.length = x2n) (wx22 : ∀ y, y ∈ x22 → y.length ≤ 140737488355328 ∧ ∀ x, x ∈ y → wfI .u8 x) {ρ : Type} (k : Bool → Option ρ) : P.qw x0 x1 x2n x20 x21 x22 k = k true := by
 rw [P.agh]; unfold P.acr
 obtain ⟨n, hn, rfl⟩ := azx wx0
 obtain ⟨t, ht, rfl⟩ := azx wx1
 obtain ⟨v, hv, hf⟩ := aze [] [] x2n x20 x21 x22
 rw [su]
 simp only [lsK]
 rw [hf]
 by_cases h1 : v = true
 ·obtain ⟨f1, f2, f3, f4⟩ := hv h1
  have hj := beg mx22 wx22 f4
  rw [h1, tu, vk]
  rcases bag n t with ⟨c1, c2⟩ | c
  ·obtain ⟨n1, n2⟩ := bex c1 c2
   obtain ⟨u, hu, hg⟩ := asw x2n f1 x20 x21 x22 hj
   rw [n1]
   simp only
   rw [ig rfl, hg]
   by_cases h2 : u = true
   ·have hr := hu h2
    have hok := bff n2 rfl x20 x21 hj hr rfl
    rw [h2, tu, vk, P.ajc]; unfold P.agq P.bkx P.bh5 P.bqa
    generalize hS : nst ⟨acj 0 0, acj 0 0, n, t, 0, 0, true⟩ x20 x21 x22 = S at hok
    have hS0 : S 0 = (⟨acj 0 0, acj 0 0, n, t, 0, 0, true⟩, 0, 0) := by rw [← hS]; rfl
    have hSs : ∀ i, S (i + 1) = ((deed (S i).1 (x20.getD i 0) (x21.getD i 0) (x22.getD i [])).1, o9 (S i).2.1 (deed (S i).1 (x20.getD i 0) (x21.getD i 0) (x22.getD i [])).2.1, if (deed (S i).1 (x20.getD i 0) (x21.getD i 0) (x22.getD i [])).1.up = true then (deed (S i).1 (x20.getD i 0) (x21.getD i 0) (x22.getD i [])).1.d else (S i).2.2) := fun i => by rw [← hS]; rfl
    refine y5 (fun i => ((n : Int), (t : Int), ((S i).2.1 : Int), ((S i).2.2 : Int), x2n, x20, x21, x22, (x2n : Int), (i : Int), (S i).1.a, (S i).1.b, ((S i).1.n : Int), ((S i).1.t : Int), ((S i).1.x : Int), ((S i).1.d : Int), (S i).1.up)) x2n (by rw [hS0]; rfl) (fun i hi next hnx => ?_) (fun next => ?_) (by omega)
    ·obtain ⟨e, B, a1, a2, a3, a4⟩ := hok i (by omega)
     obtain ⟨e', B', b1, b2, b3, b4, b5, b6, b7⟩ := aup a1 a4 (x20.getD i 0) (x21.getD i 0) (x22.getD i []) (hj i hi).1 (hj i hi).2 (hr i hi)
     rw [hSs i] at hnx
     simp only [P.adp]
     rw [av (by omega), av (by omega), av (by omega), toNat_cast, yh _ a1.go _ _ _ (by have := (hj i hi).2; omega)]
     simp only [lsK]
     simp only at a2 a3
     generalize (S i).1 = l at *
     generalize (S i).2.1 = v9 at *
     generalize (S i).2.2 = v10 at *
     generalize deed l (x20.getD i 0) (x21.getD i 0) (x22.getD i []) = q at *
     rw [bgc n t v9 v10 l.up x2n x20 x21 x22 _ _ l q.1 q.2.1 b5]
     rw [yu (x := (i : Int) + 1) (by omega) (by omega)]
     simp only at hnx
     by_cases hq : q.1.up = true
     ·obtain ⟨d1, d2⟩ := b7 hq
      rw [a2] at d2
      by_cases hl : l.up = true
      ·simp only [hq, hl, Bool.not_true, Bool.not_false, vk, o8]
       rw [dx (by omega), dx (by omega)]
       rw [if_pos hq, hq] at hnx
       exact hnx
      ·have hl' : l.up = false := by simpa using hl
       obtain ⟨g1, g2, g3, g4⟩ := b6 hq hl'
       rw [a3] at g3
       simp only [hq, hl', Bool.not_true, Bool.not_false, vk, o8]
       rw [dx (by omega), dx (by omega)]
       rw [if_pos hq, hq] at hnx
       by_cases hx : (q.1.x : Int) > (v10 : Int)
       ·rw [av hx, show (q.1.x : Int) - (v10 : Int) = ((q.1.x - v10 : Nat) : Int) by omega, ajj _ (by omega), dx (by omega), ig (by omega), dx (by omega), dx (by omega)]
        exact hnx
       ·rw [dx hx, ig (by omega), dx (by omega), dx (by omega)]
        exact hnx
     ·have hq' : q.1.up = false := by simpa using hq
      rw [if_neg hq, hq'] at hnx
      simp only [hq', Bool.not_true, Bool.not_false, vk, o8]
      exact hnx
    ·simp only [P.adp]
     rw [dx (by omega)]
     exact qj k
   ·rw [show u = false by simpa using h2, tu, o8, qj]
  ·rw [c, iw (by omega), qj]
 ·rw [show v = false by simpa using h1, tu, o8, qj]
end Q
end
