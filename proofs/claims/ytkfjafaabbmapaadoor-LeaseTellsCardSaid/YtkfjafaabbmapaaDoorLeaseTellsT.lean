/-
  LeaseTells, part 20: an interpreter of my own over abstract values, the pure functions, the walks and the plain law.
-/

import Derived.Test.YtkfjafaabbmapaaDoorLeaseTellsS
import Derived.Test.YtkfjafaabbmapaaDoorLeaseTellsL
import Derived.Test.YtkfjafaabbmapaaDoorLeaseTellsK
import Derived.Test.YtkfjafaabbmapaaDoorLeaseTellsI

section
/- SHA-2: sums that go on, and their ends. -/
namespace Q
open Go Go.Abs
set_option linter.unusedVariables false
set_option linter.unusedSimpArgs false
def bsz (kind : Int) : Nat := if kind = 1 then 64 else 128
theorem ak9 (kind : Int) : (kind = 1 ∧ bsz kind = 64) ∨ (kind ≠ 1 ∧ bsz kind = 128) := by
 unfold bsz
 by_cases h : kind = 1
 ·exact .inl ⟨h, if_pos h⟩
 ·exact .inr ⟨h, if_neg h⟩
theorem qg (kind : Int) {ρ : Type} (k : Int → Option ρ) : P.qg kind k = k ((bsz kind : Nat) : Int) := by
 rw [P.ahq]; unfold P.adl
 rcases ak9 kind with ⟨h, e⟩ | ⟨h, e⟩
 ·rw [d9 h, e]; rfl
 ·rw [gq h, e]; rfl
theorem vk (kind : Int) {ρ : Type} (k : Int → Option ρ) : P.vk kind k = k ((bsz kind : Nat) : Int) := by
 rw [P.anl]; unfold P.ahg
 rcases ak9 kind with ⟨h, e⟩ | ⟨h, e⟩
 ·rw [d9 h, e]; rfl
 ·rw [gq h, e]; rfl
def axh (kind : Int) (words all : List Int) : List Int :=
 if kind = 1 then cv (thr p32 (toV 32 words) all (all.length / 64)) else cv (thr p64 (toV 64 words) all (all.length / 128))
theorem azx (kind : Int) (words all : List Int) : (axh kind words all).length = 8 := by
 unfold axh
 split <;> rw [uf, ajz _ _ (ajy _ _)]
def Wok (kind : Int) (words : List Int) : Prop := words.length = 8 ∧ In 18446744073709551616 words ∧ (kind = 1 → In 4294967296 words)
theorem aq1 (kind : Int) (words all : List Int) : Wok kind (axh kind words all) := by
 refine ⟨azx _ _ _, ?_, fun h => ?_⟩
 ·unfold axh
  split
  ·intro x hx
   have := bhd _ x hx
   omega
  ·intro x hx
   have := bhd _ x hx
   omega
 ·unfold axh
  rw [if_pos h]
  intro x hx
  have := bhd _ x hx
  omega
theorem azt (n : Nat) (hn : 0 < n) (b : List Int) : (rest n b).length = b.length % n := by
 unfold rest
 rw [List.length_drop]
 have := Nat.div_add_mod b.length n
 omega
theorem bcj {n : Nat} {b : List Int} (h : In 256 b) : In 256 (rest n b) := h.drop _
theorem aa0 {ρ : Type} (k : Int → Int → List Int → List Int → List Int → List Int → Option ρ) : P.aa0 k = k 32 64 [7, 18, 3] [17, 19, 10] [2, 13, 22] [6, 11, 25] := by rw [P.an7]; rfl
theorem abn {ρ : Type} (k : Int → Int → List Int → List Int → List Int → List Int → Option ρ) : P.abn k = k 64 80 [1, 8, 7] [19, 61, 6] [28, 34, 39] [14, 18, 41] := by rw [P.ano]; rfl
theorem ab9 (kind : Int) (words tail : List Int) (size : Int) (b : List Int) (hl : words.length = 8) (hi : In 18446744073709551616 words) (ht : In 256 tail) (hb : In 256 b) (hn : tail.length + b.length ≤ 1000000) {ρ : Type} (k : Int → List Int → List Int → Int → Option ρ) :
    P.ab9 kind words tail size b k = k kind (axh kind words (tail ++ b)) (rest (bsz kind) (tail ++ b)) (IntKind.u64.wrap (size + IntKind.u64.wrap (b.length : Int))) := by
 rw [P.as5]; unfold P.aky
 have hf : [tail, b].flatten = tail ++ b := by simp
 have hall : (tail ++ b).length ≤ 1000000 := by rw [List.length_append]; exact hn
 have hin : In 256 (tail ++ b) := ht.app hb
 have hr : ∀ n, (rest n (tail ++ b)).length ≤ 1000000 := fun n => by unfold rest; rw [List.length_drop]; omega
 rw [jk _ (by simp) (by rw [hf]; omega), hf]
 rcases ak9 kind with ⟨h, e⟩ | ⟨h, e⟩
 ·rw [d9 h, aa0, e]
  rw [axl words _ hl hi hin hall]
  unfold P.jf axh
  have := hr 64
  rw [dh (by omega), if_pos h]
 ·rw [gq h, abn, e]
  rw [axx words _ hl hi hin hall]
  unfold P.jf axh
  have := hr 128
  rw [dh (by omega), if_neg h]
theorem abe (kind : Int) (words tail : List Int) (size : Int) (b : List Int) (hw : Wok kind words) (ht : In 256 tail) (hb : In 256 b) (hn : tail.length + b.length ≤ 1000000) {ρ : Type} (k : Int → List Int → List Int → Int → Option ρ) :
    P.abe kind words tail size b k = k kind (axh kind words (tail ++ b)) (rest (bsz kind) (tail ++ b)) (IntKind.u64.wrap (size + IntKind.u64.wrap (b.length : Int))) := by
 rw [P.ash]; unfold P.aj6
 obtain ⟨hl, hi, h1⟩ := hw
 have hf : [tail, b].flatten = tail ++ b := by simp
 have hall : (tail ++ b).length ≤ 1000000 := by rw [List.length_append]; exact hn
 have hin : In 256 (tail ++ b) := ht.app hb
 rw [vk, z8 _ (by simp) (by rw [hf]; omega), hf]
 rcases ak9 kind with ⟨h, e⟩ | ⟨h, e⟩
 ·have hv := bgx 32 words hl (h1 h)
  rw [e]
  conv => lhs; rw [← hv]
  rw [show ((64 : Nat) : Int) = 64 from rfl, bjw _ (ajy _ _) _ hin hall]
  unfold axh
  rw [if_pos h]
 ·have hv := bgx 64 words hl hi
  rw [e]
  conv => lhs; rw [← hv]
  rw [show ((128 : Nat) : Int) = 128 from rfl, bjr _ (ajy _ _) _ hin hall]
  unfold axh
  rw [if_neg h]
def ba6 (kind : Int) (tl : Nat) : Nat := if kind = 1 then (119 - tl) % 64 else (239 - tl) % 128 + 8
def pad (kind : Int) (tl : Nat) (size : Nat) : List Int := 128 :: List.replicate (ba6 kind tl) 0 ++ (bsw 8 8 (size * 8 % 2 ^ 64)).reverse
def axv (n : Nat) (words : List Int) (i : Nat) : List Int := ((List.range i).map fun j => (bsw 8 n (words.getD j 0).toNat).reverse).flatten
theorem alf (n : Nat) (words : List Int) (i : Nat) : axv n words (i + 1) = axv n words i ++ (bsw 8 n (words.getD i 0).toNat).reverse := by simp [axv, List.range_succ]
theorem afu (n : Nat) (words : List Int) : ∀ i, (axv n words i).length = n * i
 | 0 => by simp [axv]
 | i + 1 => by rw [alf, List.length_append, afu n words i, List.length_reverse, aaj, Nat.mul_succ]
theorem axw (n : Nat) (words : List Int) : ∀ i, In 256 (axv n words i)
 | 0 => by simp [axv, In]
 | i + 1 => by rw [alf]; exact (axw n words i).app (bcy 8 n _).rev
def bek (kind : Int) (words tail : List Int) (size : Nat) : List Int :=
 let o := axv (bsz kind / 16) (axh kind words (tail ++ pad kind tail.length size)) 8
 if kind = 2 then o.take 48 else o
theorem bhf (kind : Int) (words tail : List Int) (size : Nat) : In 256 (bek kind words tail size) := by
 unfold bek
 simp only
 split
 ·exact (axw _ _ _).take _
 ·exact axw _ _ _
theorem bfy (kind : Int) (words tail : List Int) (size : Nat) : (bek kind words tail size).length = if kind = 1 then 32 else if kind = 2 then 48 else 64 := by
 unfold bek
 simp only
 rcases ak9 kind with ⟨h, e⟩ | ⟨h, e⟩
 ·rw [if_neg (by omega), if_pos h, afu, e]
 ·rw [if_neg h, e]
  split
  ·rw [List.length_take, afu]; decide
  ·rw [afu]
theorem tmN (a b : Nat) : ((a : Nat) : Int).tmod (b : Int) = ((a % b : Nat) : Int) := by
 rw [Int.tmod_eq_emod_of_nonneg (by omega)]; rfl
theorem bci (kind : Int) (tl size : Nat) : In 256 (pad kind tl size) := by
 unfold pad
 refine In.app ?_ (bcy 8 8 _).rev
 intro x hx
 rcases List.mem_cons.1 hx with rfl | hx
 ·omega
 ·rw [List.mem_replicate] at hx; omega
theorem bdj (kind : Int) (tl size : Nat) : (pad kind tl size).length = ba6 kind tl + 9 := by
 unfold pad; simp
theorem bbn (kind : Int) (tl : Nat) : ba6 kind tl ≤ 200 := by
 unfold ba6; split <;> omega
theorem bev (n : Nat) (hn : n = 64 ∨ n = 128) (words : List Int) (hw : In 18446744073709551616 words) (a : Int) (b : List Int) (c : Int) (d : List Int) {ρ : Type} (k0 : Int → List Int → Int → List Int → Int → List Int → Int → List Int → Option ρ) :
    P.akd (n : Int) words 0 [] a b c d k0 = k0 (n : Int) words 8 (axv (n / 16) words 8) a b c d := by
 rw [P.ara]
 unfold P.aql P.bmj P.blg P.bqi
 have e16 : IntKind.i64.wrap ((n : Int).tdiv 16) = ((n / 16 : Nat) : Int) := by rcases hn with rfl | rfl <;> rfl
 refine ab1 (fun i => ((n : Int), words, (i : Int), axv (n / 16) words i, a, b, c, d)) 8 rfl (fun i hi next hn' => ?_) (fun next => ?_) (by omega)
 ·simp only [P.akm, toNat_cast]
  have h1 := hw.getD i (by omega)
  have e4 : IntKind.i64.wrap ((i : Int) + 1) = ((i + 1 : Nat) : Int) := by rw [aah (by omega) (by omega)]; omega
  have e5 : words.getD i 0 = (((words.getD i 0).toNat : Nat) : Int) := by omega
  rw [alf] at hn'
  rw [dh (by omega), dh (by omega), dh (by omega), e16, e5, aad _ _ (by omega) (by omega), e4]
  rw [dh (by rw [afu, List.length_reverse, aaj]; rcases hn with rfl | rfl <;> omega)]
  exact hn'
 ·simp only [P.akm]
  rw [fu (by omega)]
  rfl
theorem shl3 (size : Nat) : IntKind.u64.wrap ((size : Int) * (2 : Int) ^ 3) = ((size * 8 % 2 ^ 64 : Nat) : Int) := by
 rw [bfr]; omega
theorem ae6 (kind : Int) (words tail : List Int) (size : Nat) (hl : words.length = 8) (hi : In 18446744073709551616 words) (ht : In 256 tail) (hn : tail.length < bsz kind) {ρ : Type} (k : List Int → Option ρ) :
    P.ae6 kind words tail (size : Int) k = k (bek kind words tail size) := by
 rw [P.as3]; unfold P.akx
 rw [qg]
 have hz : IntKind.i64.wrap (IntKind.i64.wrap ((IntKind.i64.wrap (IntKind.i64.wrap (IntKind.i64.wrap (IntKind.i64.wrap ((2 : Int) * ((bsz kind : Nat) : Int)) - (1 : Int)) - IntKind.i64.wrap (((bsz kind : Nat) : Int).tdiv (8 : Int))) - (tail.length : Int))).tmod ((bsz kind : Nat) : Int) + IntKind.i64.wrap (((bsz kind : Nat) : Int).tdiv (8 : Int))) - (8 : Int)) = ((ba6 kind tail.length : Nat) : Int) := by
  unfold ba6
  rcases ak9 kind with ⟨h, e⟩ | ⟨h, e⟩
  ·rw [e] at hn ⊢
   rw [if_pos h, show IntKind.i64.wrap (IntKind.i64.wrap (IntKind.i64.wrap ((2 : Int) * ((64 : Nat) : Int)) - (1 : Int)) - IntKind.i64.wrap (((64 : Nat) : Int).tdiv (8 : Int))) = 119 from rfl, aah (x := (119 : Int) - (tail.length : Int)) (by omega) (by omega),
    show (119 : Int) - (tail.length : Int) = ((119 - tail.length : Nat) : Int) by omega, tmN, show IntKind.i64.wrap (((64 : Nat) : Int).tdiv (8 : Int)) = 8 from rfl, aah (x := ((((119 - tail.length) % 64 : Nat) : Int)) + 8) (by omega) (by omega), aah (by omega) (by omega)]
   omega
  ·rw [e] at hn ⊢
   rw [if_neg h, show IntKind.i64.wrap (IntKind.i64.wrap (IntKind.i64.wrap ((2 : Int) * ((128 : Nat) : Int)) - (1 : Int)) - IntKind.i64.wrap (((128 : Nat) : Int).tdiv (8 : Int))) = 239 from rfl, aah (x := (239 : Int) - (tail.length : Int)) (by omega) (by omega),
    show (239 : Int) - (tail.length : Int) = ((239 - tail.length : Nat) : Int) by omega, tmN, show IntKind.i64.wrap (((128 : Nat) : Int).tdiv (8 : Int)) = 16 from rfl, aah (x := ((((239 - tail.length) % 128 : Nat) : Int)) + 16) (by omega) (by omega), aah (by omega) (by omega)]
   omega
 have hb : bsz kind = 64 ∨ bsz kind = 128 := by rcases ak9 kind with ⟨h, e⟩ | ⟨h, e⟩ <;> omega
 have hz2 := bbn kind tail.length
 rw [hz]
 simp only [toNat_cast]
 rw [dh (by omega), dh (by omega), fu (by omega), dh (by omega), dh (by omega), shl3, show (8 : Int) = ((8 : Nat) : Int) from rfl, aad _ 8 (by omega) (by omega)]
 have hp : (List.replicate 1 (0 : Int)).set 0 (128 : Int) ++ List.replicate (ba6 kind tail.length) (0 : Int) ++ (bsw 8 8 (size * 8 % 2 ^ 64)).reverse = pad kind tail.length size := rfl
 rw [dh (by
  show ((List.replicate (ba6 kind tail.length) (0 : Int)).length + 0 + 1 + _) * 1 ≤ _
  rw [List.length_replicate, List.length_reverse, aaj]; omega), hp]
 have hpl := bdj kind tail.length size
 rw [ab9 kind words tail _ _ hl hi ht (bci _ _ _) (by omega), bev _ hb _ (aq1 _ _ _).2.1]
 unfold bek
 simp only
 by_cases h2 : kind = 2
 ·have e : bsz kind = 128 := by unfold bsz; rw [if_neg (by omega)]
  rw [d9 h2, dh (by rw [afu, e]; omega), if_pos h2]
  rfl
 ·rw [gq h2, if_neg h2]
theorem pads (n : Nat) (hn : n = 64 ∨ n = 128) (tl : Nat) (ht : tl < 200) (z m : Nat) (hm : m < n) (h1 : ∀ i, i < z → (tl + (1 + i)) % n ≠ m) (h2 : (tl + (1 + z)) % n = m) (hz : z ≤ 200) (c : Int) (kd : Int) (words tail : List Int) (size : Int) (hl : tail.length = tl) (d : Int) (hd : IntKind.i64.wrap ((n : Int) - d) = (m : Int)) :
    (d = 8 → ∀ {ρ : Type} (k0 : Int → Int → List Int → Int → List Int → List Int → Int → Option ρ), P.am2 (n : Int) c [128] kd words tail size k0 = k0 (n : Int) c (128 :: List.replicate z 0) kd words tail size) ∧
    (d = 16 → ∀ {ρ : Type} (k0 : Int → Int → List Int → Int → List Int → List Int → Int → Option ρ), P.ane (n : Int) c [128] kd words tail size k0 = k0 (n : Int) c (128 :: List.replicate z 0) kd words tail size) := by
 have hlen : ∀ i : Nat, ((128 : Int) :: List.replicate i 0).length = 1 + i := fun i => by simp; omega
 have hc : ∀ i : Nat, i ≤ z → IntKind.i64.wrap (((tail.length : Nat) : Int) + ((((128 : Int) :: List.replicate i 0).length : Nat) : Int)) = ((tl + (1 + i) : Nat) : Int) := fun i hi => by
  rw [hlen, hl, aah (by omega) (by omega)]; omega
 have hs : ∀ i : Nat, ((128 : Int) :: List.replicate i 0) ++ [(0 : Int)] = 128 :: List.replicate (i + 1) 0 := fun i => by
  rw [List.replicate_succ']; rfl
 constructor
 ·rintro rfl ρ k0
  rw [P.aud]
  unfold P.asq P.bmo P.bkl P.bp7
  refine ab1 (fun i => ((n : Int), c, 128 :: List.replicate i 0, kd, words, tail, size)) z rfl (fun i hi next hn' => ?_) (fun next => ?_) (by omega)
  ·simp only [P.ana]
   have := h1 i hi
   rw [hc i (by omega), tmN, hd, fu (by omega), iy (by omega), dh (by rw [hlen]; omega), hs]
   exact hn'
  ·simp only [P.ana]
   rw [hc z (by omega), tmN, hd, fu (by omega), h2, iq (by rfl)]
 ·rintro rfl ρ k0
  rw [P.at1]
  unfold P.atc P.bmb P.bjh P.bqj
  refine ab1 (fun i => ((n : Int), c, 128 :: List.replicate i 0, kd, words, tail, size)) z rfl (fun i hi next hn' => ?_) (fun next => ?_) (by omega)
  ·simp only [P.ang]
   have := h1 i hi
   rw [hc i (by omega), tmN, hd, fu (by omega), iy (by omega), dh (by rw [hlen]; omega), hs]
   exact hn'
  ·simp only [P.ang]
   rw [hc z (by omega), tmN, hd, fu (by omega), h2, iq (by rfl)]
theorem azy (n : Nat) (hn : n = 64 ∨ n = 128) (words : List Int) (hw : In 18446744073709551616 words) (a : Int) (b : List Int) (c : Int) {ρ : Type} (k0 : Int → Int → List Int → Int → List Int → List Int → Int → Option ρ) :
    P.aha (n : Int) 0 [] a words b c k0 = k0 (n : Int) 8 (axv (n / 16) words 8) a words b c := by
 rw [P.arh]
 unfold P.aqi P.bm0 P.bkn P.bos
 have e16 : IntKind.i64.wrap ((n : Int).tdiv 16) = ((n / 16 : Nat) : Int) := by rcases hn with rfl | rfl <;> rfl
 refine ab1 (fun i => ((n : Int), (i : Int), axv (n / 16) words i, a, words, b, c)) 8 rfl (fun i hi next hn' => ?_) (fun next => ?_) (by omega)
 ·simp only [P.aj3, toNat_cast]
  have h1 := hw.getD i (by omega)
  have e4 : IntKind.i64.wrap ((i : Int) + 1) = ((i + 1 : Nat) : Int) := by rw [aah (by omega) (by omega)]; omega
  have e5 : words.getD i 0 = (((words.getD i 0).toNat : Nat) : Int) := by omega
  rw [alf] at hn'
  rw [dh (by omega), dh (by omega), dh (by omega), e16, e5, abm _ _ (by omega) (by omega), e4]
  rw [dh (by rw [afu, List.length_reverse, aaj]; rcases hn with rfl | rfl <;> omega)]
  exact hn'
 ·simp only [P.aj3]
  rw [fu (by omega)]
  rfl
theorem azj (kind : Int) (words tail : List Int) (size : Nat) {ρ : Type} (k : List Int → Option ρ) :
    (br (kind == (2 : Int)) (br (decide ((48 : Int) ≤ ((axv (bsz kind / 16) (axh kind words (tail ++ pad kind tail.length size)) 8).length : Int))) (k (List.take ((48 : Int) - (0 : Int)).toNat (axv (bsz kind / 16) (axh kind words (tail ++ pad kind tail.length size)) 8))) none)
     (k (axv (bsz kind / 16) (axh kind words (tail ++ pad kind tail.length size)) 8))) = k (bek kind words tail size) := by
 unfold bek
 simp only
 by_cases h2 : kind = 2
 ·have e : bsz kind = 128 := by unfold bsz; rw [if_neg (by omega)]
  rw [d9 h2, dh (by rw [afu, e]; omega), if_pos h2]
  rfl
 ·rw [gq h2, if_neg h2]
theorem afd (kind : Int) (words tail : List Int) (size : Nat) (hw : Wok kind words) (ht : In 256 tail) (hn : tail.length < bsz kind) (hs : size < 2305843009213693952) {ρ : Type} (k : List Int → Option ρ) :
    P.afd kind words tail (size : Int) k = k (bek kind words tail size) := by
 rw [P.asx]; unfold P.aku
 have h8 : IntKind.u64.wrap ((size : Int) * 8) = ((size * 8 % 2 ^ 64 : Nat) : Int) := by rw [bfr]; omega
 have hpl := bdj kind tail.length size
 have hz2 := bbn kind tail.length
 rw [vk, h8]
 rcases ak9 kind with ⟨h, e⟩ | ⟨h, e⟩
 ·rw [e] at hn ⊢
  have hp := (pads 64 (.inl rfl) tail.length (by omega) (ba6 kind tail.length) 56 (by omega) (fun i hi => by unfold ba6 at hi; rw [if_pos h] at hi; omega) (by unfold ba6; rw [if_pos h]; omega) hz2 ((size * 8 % 2 ^ 64 : Nat) : Int) kind words tail (size : Int) rfl 8 rfl).1
  rw [hp rfl, gq (by decide), show (8 : Int) = ((8 : Nat) : Int) from rfl, abm _ 8 (by omega) (by omega), dh (by simp; omega)]
  have hpad : (128 : Int) :: List.replicate (ba6 kind tail.length) 0 ++ (bsw 8 8 (size * 8 % 2 ^ 64)).reverse = pad kind tail.length size := rfl
  rw [hpad, abe kind words tail _ _ hw ht (bci _ _ _) (by omega), azy _ (.inl rfl) _ (aq1 _ _ _).2.1]
  have := azj kind words tail size k
  rw [e] at this
  exact this
 ·rw [e] at hn ⊢
  have hp1 := (pads 128 (.inr rfl) tail.length (by omega) ((247 - tail.length) % 128) 120 (by omega) (fun i hi => by omega) (by omega) (by omega) ((size * 8 % 2 ^ 64 : Nat) : Int) kind words tail (size : Int) rfl 8 rfl).1
  have hp2 := (pads 128 (.inr rfl) tail.length (by omega) ((239 - tail.length) % 128) 112 (by omega) (fun i hi => by omega) (by omega) (by omega) ((size * 8 % 2 ^ 64 : Nat) : Int) kind words tail (size : Int) rfl 16 rfl).2
  have h61 : ((size : Nat) : Int).fdiv ((2 : Int) ^ 61) = ((0 : Nat) : Int) := by
   have := fdiv_pow size 61 61 (by omega)
   rw [Nat.div_eq_of_lt (by omega)] at this
   exact this
  rw [hp1 rfl, d9 (by rfl), hp2 rfl, h61, show (8 : Int) = ((8 : Nat) : Int) from rfl, abm _ 8 (by omega) (by omega), dh (by simp; omega), abm _ 8 (by omega) (by omega), dh (by simp; omega)]
  have hpad : (128 : Int) :: List.replicate ((239 - tail.length) % 128) 0 ++ (bsw 8 8 0).reverse ++ (bsw 8 8 (size * 8 % 2 ^ 64)).reverse = pad kind tail.length size := by
   unfold pad ba6
   rw [if_neg h, ← List.replicate_append_replicate]
   rfl
  rw [hpad, abe kind words tail _ _ hw ht (bci _ _ _) (by omega), azy _ (.inr rfl) _ (aq1 _ _ _).2.1]
  have := azj kind words tail size k
  rw [e] at this
  exact this
def bh9 (kind : Int) : List Int :=
 if kind = 1 then [1779033703, 3144134277, 1013904242, 2773480762, 1359893119, 2600822924, 528734635, 1541459225]
 else if kind = 2 then [14680500436340154072, 7105036623409894663, 10473403895298186519, 1526699215303891257, 7436329637833083697, 10282925794625328401, 15784041429090275239, 5167115440072839076]
 else [7640891576956012808, 13503953896175478587, 4354685564936845355, 11912009170470909681, 5840696475078001361, 11170449401992604703, 2270897969802886507, 6620516959819538809]
theorem bb8 (kind : Int) : Wok kind (bh9 kind) := by
 unfold bh9 Wok
 by_cases h1 : kind = 1
 ·simp only [if_pos h1]
  refine ⟨rfl, ?_, fun _ => ?_⟩
  ·unfold In; decide
  ·unfold In; decide
 ·by_cases h2 : kind = 2
  ·simp only [if_neg h1, if_pos h2]
   refine ⟨rfl, ?_, fun h => absurd h h1⟩
   unfold In; decide
  ·simp only [if_neg h1, if_neg h2]
   refine ⟨rfl, ?_, fun h => absurd h h1⟩
   unfold In; decide
def K3 (kind : Int) : Prop := kind = 1 ∨ kind = 2 ∨ kind = 3
theorem axk {kind : Int} (h : K3 kind) {ρ : Type} (k : List Int → Bool → Option ρ) : P.acn kind k = k (bh9 kind) true := by
 rw [P.aoa]
 rcases h with rfl | rfl | rfl <;> kernel_rfl
theorem aex {kind : Int} (h : K3 kind) {ρ : Type} (k : Int → List Int → List Int → Int → Int → Option ρ) : P.aex kind k = k kind (bh9 kind) [] 0 0 := by
 rw [P.ata]; unfold P.akh
 rw [axk h, qp, qz]
theorem ae9 {kind : Int} (h : K3 kind) {ρ : Type} (k : Int → List Int → List Int → Int → Int → Option ρ) : P.ae9 kind k = k kind (bh9 kind) [] 0 0 := by
 rw [P.asv]; unfold P.akr bh9
 rcases h with rfl | rfl | rfl
 ·rw [d9 (by rfl)]; rfl
 ·rw [gq (by decide), d9 (by rfl)]; rfl
 ·rw [gq (by decide), gq (by decide), d9 (by rfl)]; rfl
theorem auh (kind : Int) : 0 < bsz kind := by rcases ak9 kind with ⟨h, e⟩ | ⟨h, e⟩ <;> omega
def beh (kind : Int) (b : List Int) : List Int := bek kind (axh kind (bh9 kind) b) (rest (bsz kind) b) b.length
theorem azu (b : List Int) (hn : b.length ≤ 1000000) : IntKind.u64.wrap ((0 : Int) + IntKind.u64.wrap (b.length : Int)) = ((b.length : Nat) : Int) := by
 rw [ak1 _ (by omega), Int.zero_add, ak1 _ (by omega)]
theorem acf {kind : Int} (h : K3 kind) (b : List Int) (hb : In 256 b) (hn : b.length ≤ 1000000) {ρ : Type} (k : List Int → Int → Option ρ) : P.acf kind b k = k (beh kind b) 0 := by
 rw [P.asb]; unfold P.akp
 have hw := bb8 kind
 have hr := azt _ (auh kind) b
 have hlt := Nat.mod_lt b.length (auh kind)
 rw [aex h, iq (by rfl), ab9 kind _ [] _ b hw.1 hw.2.1 In.nil hb (by simpa using hn), List.nil_append, azu b hn, ae6 kind _ _ _ (azx _ _ _) (aq1 _ _ _).2.1 (bcj hb) (by omega)]
 rfl
theorem aez {kind : Int} (h : K3 kind) (b : List Int) (hb : In 256 b) (hn : b.length ≤ 1000000) {ρ : Type} (k : List Int → Int → Option ρ) : P.aez kind b k = k (beh kind b) 0 := by
 rw [P.asl]; unfold P.akn
 have hw := bb8 kind
 have hr := azt _ (auh kind) b
 have hlt := Nat.mod_lt b.length (auh kind)
 rw [ae9 h, iq (by rfl), abe kind _ [] _ b hw In.nil hb (by simpa using hn), List.nil_append, azu b hn, afd kind _ _ _ (aq1 _ _ _) (bcj hb) (by omega) (by omega)]
 rfl
theorem bb4 (kind : Int) (b : List Int) : In 256 (beh kind b) := bhf _ _ _ _
theorem aoq (kind : Int) (b : List Int) : (beh kind b).length = if kind = 1 then 32 else if kind = 2 then 48 else 64 := bfy _ _ _ _
end Q
end

section
/- SHA-2: which sums can be, which are the same; the examples. -/
namespace Q
open Go Go.Abs
set_option linter.unusedVariables false
set_option linter.unusedSimpArgs false
theorem first (p : Nat → Bool) : ∀ n, ∃ m, m ≤ n ∧ (∀ i, i < m → p i = true) ∧ (m = n ∨ (m < n ∧ p m = false))
 | 0 => ⟨0, by omega, by omega, .inl rfl⟩
 | n + 1 => by
  obtain ⟨m, h1, h2, h3⟩ := first p n
  rcases h3 with h3 | ⟨h3, h4⟩
  ·subst h3
   cases hp : p m with
   | true => exact ⟨m + 1, by omega, fun i hi => by
       by_cases e : i = m
       ·rw [e]; exact hp
       ·exact h2 i (by omega), .inl rfl⟩
   | false => exact ⟨m, by omega, h2, .inr ⟨by omega, hp⟩⟩
  ·exact ⟨m, by omega, h2, .inr ⟨by omega, h4⟩⟩
end Q
end

section
/- sector: records and stores. -/
namespace Q
open Go Go.Abs
set_option linter.unusedVariables false
set_option linter.unusedSimpArgs false
def be8 (n : Nat) : List Int := (bsw 8 8 n).reverse
theorem ax3 (n : Nat) : (be8 n).length = 8 := by simp [be8]
theorem bgc (n : Nat) : In 256 (be8 n) := (bcy 8 8 n).rev
theorem bg7 (l : List Int) (h : In 256 l) (hl : l.length = 8) : be8 (T 8 l.reverse) = l := by
 have := bpb 8 l.reverse h.rev
 rw [List.length_reverse, hl] at this
 unfold be8
 rw [this, List.reverse_reverse]
theorem bip (n : Nat) (h : n < 18446744073709551616) : T 8 (be8 n).reverse = n := by
 unfold be8
 rw [List.reverse_reverse, bls]
 exact Nat.mod_eq_of_lt (by omega)
theorem bbd (l : List Int) (h : In 256 l) (hl : l.length = 8) : T 8 l.reverse < 18446744073709551616 := by
 have h1 := bip (T 8 l.reverse % 18446744073709551616) (Nat.mod_lt _ (by omega))
 have h2 : be8 (T 8 l.reverse % 18446744073709551616) = be8 (T 8 l.reverse) := by
  unfold be8
  rw [show (18446744073709551616 : Nat) = 2 ^ 64 from rfl, bhn 8 8 _ 64 (by omega)]
 rw [h2, bg7 l h hl] at h1
 rw [h1]
 exact Nat.mod_lt _ (by omega)
def hd (e b : Nat) : List Int := be8 e ++ be8 b
def ac2 (e b : Nat) : List Int := hd e b ++ beh 1 (hd e b)
theorem al0 (e b : Nat) : (hd e b).length = 16 := by simp [hd, ax3]
theorem bi4 (e b : Nat) : In 256 (hd e b) := (bgc e).app (bgc b)
theorem um (e b : Nat) : (ac2 e b).length = 48 := by unfold ac2; rw [List.length_append, al0, aoq, if_pos rfl]
theorem ab2 (e b : Nat) : In 256 (ac2 e b) := (bi4 e b).app (bb4 _ _)
def rd (b : List Int) : Option (Int × Int) :=
 if b.length = 48 ∧ beh 1 (b.take 16) = b.drop 16 then some (((T 8 (b.take 8).reverse : Nat) : Int), ((T 8 ((b.take 16).drop 8).reverse : Nat) : Int)) else none
theorem bgp (e b : Nat) (he : e < 18446744073709551616) (hb : b < 18446744073709551616) : rd (ac2 e b) = some ((e : Int), (b : Int)) := by
 have t16 : (ac2 e b).take 16 = hd e b := by unfold ac2; exact List.take_left' (al0 e b)
 have d16 : (ac2 e b).drop 16 = beh 1 (hd e b) := by unfold ac2; exact List.drop_left' (al0 e b)
 have t8 : (ac2 e b).take 8 = be8 e := by
  unfold ac2 hd
  rw [List.append_assoc]
  exact List.take_left' (ax3 e)
 have d8 : (hd e b).drop 8 = be8 b := by unfold hd; exact List.drop_left' (ax3 e)
 unfold rd
 rw [t16, d16, t8, d8, if_pos ⟨um e b, rfl⟩, bip e he, bip b hb]
theorem ayf (b : List Int) (hb : In 256 b) (hl : b.length = 48) : ac2 (T 8 (b.take 8).reverse) (T 8 ((b.take 16).drop 8).reverse) = b ↔ beh 1 (b.take 16) = b.drop 16 := by
 have h8 : be8 (T 8 (b.take 8).reverse) = b.take 8 := bg7 _ (hb.take 8) (by simp; omega)
 have h16 : be8 (T 8 ((b.take 16).drop 8).reverse) = (b.take 16).drop 8 := bg7 _ ((hb.take 16).drop 8) (by simp; omega)
 have hh : hd (T 8 (b.take 8).reverse) (T 8 ((b.take 16).drop 8).reverse) = b.take 16 := by
  unfold hd
  rw [h8, h16]
  have := List.take_append_drop 8 (b.take 16)
  rw [List.take_take] at this
  exact this
 unfold ac2
 rw [hh]
 constructor
 ·intro h
  have h1 := congrArg (List.drop 16) h
  rw [List.drop_left' (by simp; omega)] at h1
  exact h1
 ·intro h
  rw [h]
  exact List.take_append_drop 16 b
theorem bfk {b : List Int} {p : Int × Int} (hb : In 256 b) (h : rd b = some p) : ∃ x y : Nat, x < 18446744073709551616 ∧ y < 18446744073709551616 ∧ p = ((x : Int), (y : Int)) ∧ ac2 x y = b ∧ b.length = 48 := by
 unfold rd at h
 split at h
 ·rename_i hc
  cases h
  exact ⟨_, _, bbd _ (hb.take 8) (by simp; omega), bbd _ ((hb.take 16).drop 8) (by simp; omega), rfl, (ayf b hb hc.1).2 hc.2, hc.1⟩
 ·cases h
theorem aqg (l : List Int) (h : l.length ≤ 140737488355328) {ρ : Type} (k : List Int → Option ρ) : P.jf l k = k l := by
 unfold P.jf; rw [dh (by omega)]
theorem l9 (e b : Nat) (he : e < 18446744073709551616) (hb : b < 18446744073709551616) {ρ : Type} (k : List Int → Option ρ) : P.l9 (e : Int) (b : Int) k = k (ac2 e b) := by
 rw [P.ai4]; unfold P.ad8
 have hf : [(bsw 8 8 e).reverse, (bsw 8 8 b).reverse].flatten = hd e b := by simp [hd, be8]
 rw [show (8 : Int) = ((8 : Nat) : Int) from rfl, aad e 8 he (by omega), aad b 8 hb (by omega), abd _ (by simp) (by rw [hf, al0]; omega), hf, acf (.inl rfl) _ (bi4 e b) (by rw [al0]; omega), dh (by rw [al0, aoq, if_pos rfl]; omega)]
 rfl
theorem nk (e b : Nat) (he : e < 18446744073709551616) (hb : b < 18446744073709551616) {ρ : Type} (k : List Int → Option ρ) : P.nk (e : Int) (b : Int) k = k (ac2 e b) := by
 rw [P.an4]; unfold P.agz
 have hf : [(bsw 8 8 e).reverse, (bsw 8 8 b).reverse].flatten = hd e b := by simp [hd, be8]
 rw [show (8 : Int) = ((8 : Nat) : Int) from rfl, abm e 8 he (by omega), abm b 8 hb (by omega), z8 _ (by simp) (by rw [hf, al0]; omega), hf, aez (.inl rfl) _ (bi4 e b) (by rw [al0]; omega), dh (by rw [al0, aoq, if_pos rfl]; omega)]
 rfl
def rdK {ρ : Type} (o : Option (Int × Int)) (k : Int → Int → Bool → Option ρ) : Option ρ :=
 match o with
 | some p => k p.1 p.2 true
 | none => k 0 0 false
theorem mh (b : List Int) (hb : In 256 b) (hn : b.length ≤ 1000000) {ρ : Type} (k : Int → Int → Bool → Option ρ) : P.mh b k = rdK (rd b) k := by
 rw [P.ajr]; unfold P.ae8
 by_cases hl : b.length = 48
 ·have e16 : Int.toNat (16 : Int) = 16 := rfl
  have e8 : Int.toNat (8 : Int) = 8 := rfl
  rw [iq (by omega), dh (by omega), e16, e8, List.drop_zero, List.drop_zero, acf (.inl rfl) _ (hb.take 16) (by simp; omega), dh (by omega), dh (by omega), toNat_cast, List.take_length, aa3 _ _ (bb4 _ _) (hb.drop 16) (by rw [aoq, if_pos rfl]; omega)]
  by_cases hs : beh 1 (b.take 16) = b.drop 16
  ·have hr : rd b = some (((T 8 (b.take 8).reverse : Nat) : Int), ((T 8 ((b.take 16).drop 8).reverse : Nat) : Int)) := by unfold rd; rw [if_pos ⟨hl, hs⟩]
   rw [decide_eq_true hs, qp, qz, dh (by omega), rz _ (hb.take 8) (by simp; omega), dh (by omega), rz _ ((hb.take 16).drop 8) (by simp; omega), hr, Nat.mod_eq_of_lt (bbd _ (hb.take 8) (by simp; omega)), Nat.mod_eq_of_lt (bbd _ ((hb.take 16).drop 8) (by simp; omega))]
   rfl
  ·have hr : rd b = none := by unfold rd; rw [if_neg (fun h => hs h.2)]
   rw [decide_eq_false hs, qp, om, hr]
   rfl
 ·have hr : rd b = none := by unfold rd; rw [if_neg (fun h => hl h.1)]
  rw [iy (by omega), hr]
  rfl
theorem aau (b : List Int) (hb : In 256 b) (hn : b.length ≤ 1000000) {ρ : Type} (k : Int → Int → Bool → Option ρ) : P.aau b k = rdK (rd b) k := by
 rw [P.aqj]; unfold P.aie
 by_cases hl : b.length = 48
 ·have e16 : Int.toNat (16 : Int) = 16 := rfl
  have e8 : Int.toNat (8 : Int) = 8 := rfl
  have h1 := bbd _ (hb.take 8) (by simp; omega)
  have h2 := bbd _ ((hb.take 16).drop 8) (by simp; omega)
  rw [iq (by omega), dh (by omega), e16, e8, List.drop_zero, aao _ (hb.take 8) (by simp; omega), dh (by omega), aao _ ((hb.take 16).drop 8) (by simp; omega), Nat.mod_eq_of_lt h1, Nat.mod_eq_of_lt h2, nk _ _ h1 h2, yh _ _ (by rw [um]; omega)]
  by_cases hs : beh 1 (b.take 16) = b.drop 16
  ·have hr : rd b = some (((T 8 (b.take 8).reverse : Nat) : Int), ((T 8 ((b.take 16).drop 8).reverse : Nat) : Int)) := by unfold rd; rw [if_pos ⟨hl, hs⟩]
   rw [decide_eq_true ((ayf b hb hl).2 hs), qp, qz, hr]
   rfl
  ·have hr : rd b = none := by unfold rd; rw [if_neg (fun h => hs h.2)]
   rw [decide_eq_false (fun h => hs ((ayf b hb hl).1 h)), qp, om, hr]
   rfl
 ·have hr : rd b = none := by unfold rd; rw [if_neg (fun h => hl h.1)]
  rw [iy (by omega), hr]
  rfl
def upB (o : Option (Int × Int)) (i : Int) (s : Int × Int × Int × Int) : Int × Int × Int × Int :=
 match o with
 | none => s
 | some p => if s.2.2.2 ≠ 0 ∨ p.1 > s.1 then (p.1, p.2, i, 0) else s
def bst (o0 o1 : Option (Int × Int)) : Int × Int × Int × Int := upB o1 1 (upB o0 0 (0, 0, 0, 21))
theorem al5 (o0 o1 : Option (Int × Int)) : (o0 = none ∧ o1 = none ∧ bst o0 o1 = (0, 0, 0, 21)) ∨ (∃ p, o0 = some p ∧ (∀ q, o1 = some q → q.1 ≤ p.1) ∧ bst o0 o1 = (p.1, p.2, 0, 0)) ∨
    (∃ q, o1 = some q ∧ (∀ p, o0 = some p → p.1 < q.1) ∧ bst o0 o1 = (q.1, q.2, 1, 0)) := by
 cases o0 with
 | none => cases o1 with
  | none => exact .inl ⟨rfl, rfl, rfl⟩
  | some q => exact .inr (.inr ⟨q, rfl, fun p h => (by cases h), by simp [bst, upB]⟩)
 | some p => cases o1 with
  | none => exact .inr (.inl ⟨p, rfl, fun q h => (by cases h), by simp [bst, upB]⟩)
  | some q =>
   by_cases h : q.1 > p.1
   ·exact .inr (.inr ⟨q, rfl, fun p' h' => (by cases h'; exact h), by simp [bst, upB, h]⟩)
   ·exact .inr (.inl ⟨p, rfl, fun q' h' => (by cases h'; omega), by simp [bst, upB, h]⟩)
theorem dz (a b : List Int) (ha : In 256 a) (hb : In 256 b) (na : a.length ≤ 1000000) (nb : b.length ≤ 1000000) {ρ : Type} (k : Int → Int → Int → Int → Option ρ) :
    P.dz a b k = k (bst (rd a) (rd b)).1 (bst (rd a) (rd b)).2.1 (bst (rd a) (rd b)).2.2.1 (bst (rd a) (rd b)).2.2.2 := by
 rw [P.aju]; unfold P.ae5
 rw [P.akg]
 unfold P.ahj P.bmf P.bkx P.bql
 have one : ∀ (c : List Int) (i : Int) (s : Int × Int × Int × Int) (nx : Int → Int → Int → Int → Option ρ), In 256 c → c.length ≤ 1000000 →
     (P.mh c fun (q0 q1 : Int) (q2 : Bool) => br q2 (br (s.2.2.2 != (0 : Int)) (nx q0 q1 i (0 : Int)) (br (decide (q0 > s.1)) (nx q0 q1 i (0 : Int)) (nx s.1 s.2.1 s.2.2.1 s.2.2.2))) (nx s.1 s.2.1 s.2.2.1 s.2.2.2)) =
     nx (upB (rd c) i s).1 (upB (rd c) i s).2.1 (upB (rd c) i s).2.2.1 (upB (rd c) i s).2.2.2 := by
  intro c i s nx hc nc
  rw [mh c hc nc]
  cases rd c with
  | none => simp only [rdK, om, upB]
  | some p =>
   simp only [rdK, qz, upB]
   by_cases h1 : s.2.2.2 = 0
   ·rw [iq h1]
    by_cases h2 : p.1 > s.1
    ·rw [dh h2, if_pos (.inr h2)]
    ·rw [fu h2, if_neg (by omega)]
   ·rw [iy h1, if_pos (.inl h1)]
 let S : Nat → (List Int) × (List Int) × Int × Int × Int × Int × Int × Int × Int := fun i => match i with
  | 0 => (a, b, 0, 0, 0, 0, 0, 0, 21)
  | 1 => (a, b, 1, 0, 0, upB (rd a) 0 (0, 0, 0, 21))
  | _ => (a, b, 2, 0, 0, bst (rd a) (rd b))
 refine ab1 S 2 rfl (fun i hi next hn => ?_) (fun next => ?_) (by omega)
 ·match i, hi with
  | 0, _ =>
   simp only [S, P.ab5]
   rw [dh (by omega), dh (by simp), show IntKind.i64.wrap ((0 : Int) + 1) = 1 from by decide]
   refine (one a 0 (0, 0, 0, 21) (fun w x y z => next (a, b, 1, 0, 0, w, x, y, z)) ha na).trans ?_
   exact hn
  | 1, _ =>
   simp only [S, P.ab5]
   rw [dh (by omega), fu (by omega), dh (by simp), show IntKind.i64.wrap ((1 : Int) + 1) = 2 from by decide]
   refine (one b 1 (upB (rd a) 0 (0, 0, 0, 21)) (fun w x y z => next (a, b, 2, 0, 0, w, x, y, z)) hb nb).trans ?_
   exact hn
 ·simp only [S, P.ab5]
  rw [fu (by omega)]
theorem l8 (a b : List Int) (ha : In 256 a) (hb : In 256 b) (na : a.length ≤ 1000000) (nb : b.length ≤ 1000000) {ρ : Type} (k : Int → Int → Int → Int → Option ρ) :
    P.l8 a b k = k (bst (rd a) (rd b)).1 (bst (rd a) (rd b)).2.1 (bst (rd a) (rd b)).2.2.1 (bst (rd a) (rd b)).2.2.2 := by
 rw [P.ao0]; unfold P.aiq
 rw [aau a ha na, ]
 cases h0 : rd a with
 | none =>
  simp only [rdK]
  rw [aau b hb nb]
  cases h1 : rd b with
  | none => simp only [rdK, om, bst, upB]
  | some q => simp [rdK, bst, upB]
 | some p =>
  simp only [rdK]
  rw [aau b hb nb]
  cases h1 : rd b with
  | none => simp [rdK, bst, upB]
  | some q =>
   simp only [rdK, qz, qp]
   by_cases h : q.1 > p.1
   ·rw [fu (show ¬ p.1 ≥ q.1 by omega)]
    simp [bst, upB, h]
   ·rw [dh (show p.1 ≥ q.1 by omega)]
    simp [bst, upB, h]
theorem ab6 (a b c d : List Int) (ha : a.length ≤ 140737488355328) (hb : b.length ≤ 140737488355328) {ρ : Type} (k : Bool → Option ρ) : P.ab6 a b c d k = k (decide (a = c ∧ b = d)) := by
 rw [P.ao1]; unfold P.aiy
 rw [yh a c ha]
 by_cases h : a = c
 ·rw [dh h, yh b d hb]
  congr 1
  exact decide_eq_decide.2 ⟨fun h2 => ⟨h, h2⟩, fun h2 => h2.2⟩
 ·rw [fu h, decide_eq_false (fun h2 => h h2.1)]
theorem w9 (a b c d : List Int) (ha : a.length ≤ 140737488355328) (hb : b.length ≤ 140737488355328) {ρ : Type} (k : Bool → Option ρ) : P.w9 a b c d k = k (decide (a = c ∧ b = d)) := by
 rw [P.ajx]; unfold P.afo
 rw [lg a c ha]
 by_cases h : a = c
 ·rw [dh h, lg b d hb]
  congr 1
  exact decide_eq_decide.2 ⟨fun h2 => ⟨h, h2⟩, fun h2 => h2.2⟩
 ·rw [fu h, decide_eq_false (fun h2 => h h2.1)]
def anf {ρ : Type} (a b c : List Int) (k : List Int → List Int → Int → Int → Option ρ) : Option ρ :=
 if (bst (rd a) (rd b)).2.2.2 = 0 then (if (bst (rd a) (rd b)).2.2.1 = 0 then k a c 1 0 else k c b 0 0) else k a b 0 (bst (rd a) (rd b)).2.2.2
theorem bc6 (o0 o1 : Option (Int × Int)) : (bst o0 o1).2.2.1 = 0 ∨ (bst o0 o1).2.2.1 = 1 := by
 rcases al5 o0 o1 with ⟨_, _, h⟩ | ⟨p, _, _, h⟩ | ⟨p, _, _, h⟩ <;> rw [h] <;> simp
theorem ng (a b : List Int) (ha : a.length ≤ 140737488355328) (hb : b.length ≤ 140737488355328) {ρ : Type} (k : List Int → List Int → Option ρ) : P.ng a b k = k a b := by
 rw [P.aho]; unfold P.ade
 rw [aqg a ha, aqg b hb]
theorem pz (a b c : List Int) (ha : In 256 a) (hb : In 256 b) (na : a.length ≤ 1000000) (nb : b.length ≤ 1000000) (nc : c.length ≤ 1000000) {ρ : Type} (k : List Int → List Int → Int → Int → Option ρ) : P.pz a b c k = anf a b c k := by
 rw [P.ajq]; unfold P.afh anf
 rw [ng a b (by omega) (by omega), dz a b ha hb na nb]
 by_cases h : (bst (rd a) (rd b)).2.2.2 = 0
 ·rw [iq h, if_pos h, aqg c (by omega)]
  rcases bc6 (rd a) (rd b) with h1 | h1
  ·rw [h1, if_pos rfl, show IntKind.i64.wrap ((1 : Int) - 0) = 1 from by decide, fu (by omega), dh (by omega)]
  ·rw [h1, if_neg (by omega), show IntKind.i64.wrap ((1 : Int) - 1) = 0 from by decide, dh (by omega)]
 ·rw [iy h, if_neg h]
theorem eu (a b : List Int) (e f : Nat) (he : e < 18446744073709551616) (hf : f < 18446744073709551616) (ha : In 256 a) (hb : In 256 b) (na : a.length ≤ 1000000) (nb : b.length ≤ 1000000) {ρ : Type} (k : List Int → List Int → Int → Int → Option ρ) :
    P.eu a b (e : Int) (f : Int) k = anf a b (ac2 e f) k := by
 rw [P.aix]; unfold P.aef
 rw [l9 e f he hf, pz a b _ ha hb na nb (by rw [um]; omega)]
theorem yx (a b c : List Int) (i : Int) {ρ : Type} (k : List Int → List Int → Option ρ) : P.yx a b i c k = if i = 0 then k c b else k a c := by
 rw [P.apk]; unfold P.aiz
 by_cases h : i = 0
 ·rw [d9 h, if_pos h]
 ·rw [gq h, if_neg h]
theorem apn (a b c : List Int) (h : (bst (rd a) (rd b)).2.2.2 = 0) {ρ : Type} (k : List Int → List Int → Int → Int → Option ρ) :
    (P.yx a b (IntKind.i64.wrap ((1 : Int) - (bst (rd a) (rd b)).2.2.1)) c fun x y => k x y (IntKind.i64.wrap ((1 : Int) - (bst (rd a) (rd b)).2.2.1)) 0) = anf a b c k := by
 rw [yx]; unfold anf
 rw [if_pos h]
 rcases bc6 (rd a) (rd b) with h1 | h1
 ·rw [h1, if_pos rfl, show IntKind.i64.wrap ((1 : Int) - 0) = 1 from by decide, if_neg (by omega)]
 ·rw [h1, if_neg (show ¬ (1 : Int) = 0 by omega), show IntKind.i64.wrap ((1 : Int) - 1) = 0 from by decide, if_pos rfl]
theorem abf (a b : List Int) (e f : Nat) (he : e < 18446744073709551616) (hf : f < 18446744073709551616) (ha : In 256 a) (hb : In 256 b) (na : a.length ≤ 1000000) (nb : b.length ≤ 1000000) {ρ : Type} (k : List Int → List Int → Int → Int → Option ρ) :
    P.abf a b (e : Int) (f : Int) k = anf a b (ac2 e f) k := by
 rw [P.an0]; unfold P.ahd
 rw [l8 a b ha hb na nb]
 by_cases h : (bst (rd a) (rd b)).2.2.2 = 0
 ·rw [iq h, nk e f he hf]
  exact apn a b _ h k
 ·rw [iy h]
  unfold anf
  rw [if_neg h]
def bah {ρ : Type} (a b c : List Int) (tear : Int) (junk : List Int) (k : List Int → List Int → Int → Option ρ) : Option ρ :=
 if (bst (rd a) (rd b)).2.2.2 = 0 then
  if tear = 0 then k a b 0 else if tear = 1 then anf a b c (fun x y _ e => k x y e) else if tear = 2 then anf a b junk (fun x y _ e => k x y e) else k a b 8
 else k a b (bst (rd a) (rd b)).2.2.2
theorem azw {a b c : List Int} (h : ¬ (bst (rd a) (rd b)).2.2.2 = 0) {ρ : Type} (k : List Int → List Int → Int → Int → Option ρ) : anf a b c k = k a b 0 (bst (rd a) (rd b)).2.2.2 := by
 unfold anf; rw [if_neg h]
theorem jd (a b : List Int) (e f : Nat) (tear : Int) (junk : List Int) (he : e < 18446744073709551616) (hf : f < 18446744073709551616) (ha : In 256 a) (hb : In 256 b) (na : a.length ≤ 1000000) (nb : b.length ≤ 1000000) (nj : junk.length ≤ 1000000) {ρ : Type} (k : List Int → List Int → Int → Option ρ) :
    P.jd a b (e : Int) (f : Int) tear junk k = bah a b (ac2 e f) tear junk k := by
 rw [P.ajw]; unfold P.afe bah
 rw [ng a b (by omega) (by omega)]
 by_cases h1 : tear = 1
 ·rw [d9 h1, eu a b e f he hf ha hb na nb]
  by_cases h : (bst (rd a) (rd b)).2.2.2 = 0
  ·rw [if_pos h, if_neg (by omega), if_pos h1]
  ·rw [if_neg h, azw h]
 ·rw [gq h1]
  by_cases h2 : tear = 2
  ·rw [d9 h2, pz a b junk ha hb na nb nj]
   by_cases h : (bst (rd a) (rd b)).2.2.2 = 0
   ·rw [if_pos h, if_neg (by omega), if_neg h1, if_pos h2]
   ·rw [if_neg h, azw h]
  ·rw [gq h2, dz a b ha hb na nb]
   by_cases h : (bst (rd a) (rd b)).2.2.2 = 0
   ·rw [d9 h, if_pos h]
    by_cases h0 : tear = 0
    ·rw [iq h0, if_pos h0, h]
    ·rw [iy h0, if_neg h0, if_neg h1, if_neg h2]
   ·rw [gq h, if_neg h]
theorem aco (a b : List Int) (e f : Nat) (tear : Int) (junk : List Int) (he : e < 18446744073709551616) (hf : f < 18446744073709551616) (ha : In 256 a) (hb : In 256 b) (na : a.length ≤ 1000000) (nb : b.length ≤ 1000000) {ρ : Type} (k : List Int → List Int → Int → Option ρ) :
    P.aco a b (e : Int) (f : Int) tear junk k = bah a b (ac2 e f) tear junk k := by
 rw [P.apd]; unfold P.ahz bah
 rw [l8 a b ha hb na nb]
 by_cases h : (bst (rd a) (rd b)).2.2.2 = 0
 ·rw [iq h, if_pos h]
  by_cases h0 : tear = 0
  ·rw [d9 h0, if_pos h0]
  ·rw [gq h0, if_neg h0]
   by_cases h1 : tear = 1
   ·rw [d9 h1, if_pos h1, nk e f he hf]
    exact apn a b _ h (fun x y _ e => k x y e)
   ·rw [gq h1, if_neg h1]
    by_cases h2 : tear = 2
    ·rw [d9 h2, if_pos h2]
     exact apn a b _ h (fun x y _ e => k x y e)
    ·rw [gq h2, if_neg h2]
 ·rw [iy h, if_neg h]
end Q
end

section
namespace Q
open Go Go.Abs
set_option linter.unusedVariables false
set_option linter.unusedSimpArgs false
end Q
end

section
namespace Q
open Go Go.Abs
set_option linter.unusedVariables false
set_option linter.unusedSimpArgs false
end Q
end

section
/- lease: who gives out leaves, without a program. -/
namespace Q
open Go Go.Abs
set_option linter.unusedVariables false
set_option linter.unusedSimpArgs false
structure Ls where
 a : List Int
 b : List Int
 n : Nat
 t : Nat
 x : Nat
 d : Nat
 up : Bool
def bq (l : Ls) : Int × Int × Int × Int := bst (rd l.a) (rd l.b)
def nxt (l : Ls) : Int × Nat × Nat :=
 if l.up = false then (21, 0, 0) else if l.d = l.n then (13, 0, 0) else
 if (bq l).2.2.2 ≠ 0 then ((bq l).2.2.2, 0, 0) else if (bq l).1 ≥ 1152921504606846976 then (8, 0, 0) else (0, (bq l).1.toNat + 1, l.d + min l.t (l.n - l.d))
def lay (l : Ls) (c : List Int) : Ls := if (bq l).2.2.1 = 0 then { l with b := c } else { l with a := c }
def res (l : Ls) : Ls × Int := if (nxt l).1 ≠ 0 then (l, (nxt l).1) else ({ lay l (ac2 (nxt l).2.1 (nxt l).2.2) with d := (nxt l).2.2 }, 0)
def tak (l : Ls) : Ls × Nat × Int :=
 if l.up = false then (l, 0, 21) else
 if l.x = l.d then (if (res l).2 ≠ 0 then (l, 0, (res l).2) else ({ (res l).1 with x := l.x + 1 }, l.x, 0)) else ({ l with x := l.x + 1 }, l.x, 0)
def opn (a b : List Int) (n t : Nat) : Ls × Int :=
 if n > 1152921504606846976 ∨ t < 1 ∨ t > 4294967296 then (⟨[], [], 0, 0, 0, 0, false⟩, 8) else
 if (bst (rd a) (rd b)).2.2.2 ≠ 0 then (⟨[], [], 0, 0, 0, 0, false⟩, (bst (rd a) (rd b)).2.2.2) else
 if (bst (rd a) (rd b)).2.1 > (n : Int) ∨ (bst (rd a) (rd b)).1 ≥ 1152921504606846976 then (⟨[], [], 0, 0, 0, 0, false⟩, 8) else
 (⟨a, b, n, t, (bst (rd a) (rd b)).2.1.toNat, (bst (rd a) (rd b)).2.1.toNat, true⟩, 0)
def fal (l : Ls) : Ls := { l with x := 0, d := 0, up := false }
def tor (l : Ls) (tear : Int) (junk : List Int) : Ls × Int :=
 if (nxt l).1 ≠ 0 then (l, (nxt l).1) else
 if tear = 0 then (fal l, 0) else if tear = 1 then (fal (lay l (ac2 (nxt l).2.1 (nxt l).2.2)), 0) else if tear = 2 then (fal (lay l junk), 0) else (l, 8)
def ris (l : Ls) : Ls × Int := if l.up = true then (l, 0) else if (opn l.a l.b l.n l.t).2 ≠ 0 then (l, (opn l.a l.b l.n l.t).2) else ((opn l.a l.b l.n l.t).1, 0)
def deed (l : Ls) (kind tear : Int) (junk : List Int) : Ls × List Nat × Int :=
 if kind = 1 then (if (tak l).2.2 ≠ 0 then ((tak l).1, [], (tak l).2.2) else ((tak l).1, [(tak l).2.1], 0)) else
 if kind = 2 then ((res l).1, [], (res l).2) else
 if kind = 3 then ((tor l tear junk).1, [], (tor l tear junk).2) else
 if kind = 4 then (fal l, [], 0) else
 if kind = 5 then ((ris l).1, [], (ris l).2) else (l, [], 1)
structure Lwf (l : Ls) : Prop where
 a : In 256 l.a
 b : In 256 l.b
 na : l.a.length ≤ 1000
 nb : l.b.length ≤ 1000
 n : l.n < 18446744073709551616
 t : l.t < 18446744073709551616
 x : l.x < 18446744073709551616
 d : l.d < 18446744073709551616
structure Lfit (l : Ls) : Prop where
 n : l.n ≤ 1152921504606846976
 t : 1 ≤ l.t ∧ l.t ≤ 4294967296
 down : l.up = false → l.x = 0 ∧ l.d = 0
 ok : l.up = true → (bq l).2.2.2 = 0 ∧ (bq l).2.1 = (l.d : Int) ∧ l.x ≤ l.d ∧ l.d ≤ l.n
theorem z64 : (0 : Nat) < 18446744073709551616 := by decide
theorem bka {b : List Int} {p : Int × Int} (hb : In 256 b) (h : rd b = some p) : 0 ≤ p.1 ∧ p.1 < 18446744073709551616 ∧ 0 ≤ p.2 ∧ p.2 < 18446744073709551616 := by
 obtain ⟨x, y, hx, hy, rfl, _⟩ := bfk hb h
 simp only
 omega
theorem ayu (a b : List Int) (ha : In 256 a) (hb : In 256 b) : 0 ≤ (bst (rd a) (rd b)).1 ∧ (bst (rd a) (rd b)).1 < 18446744073709551616 ∧ 0 ≤ (bst (rd a) (rd b)).2.1 ∧ (bst (rd a) (rd b)).2.1 < 18446744073709551616 := by
 rcases al5 (rd a) (rd b) with ⟨_, _, h⟩ | ⟨p, h0, _, h⟩ | ⟨p, h0, _, h⟩
 ·rw [h]; decide
 ·rw [h]; exact bka ha h0
 ·rw [h]; exact bka hb h0
theorem azs (l : Ls) (h0 : (bq l).2.2.2 = 0) (e d : Nat) (he : (bq l).1 < (e : Int)) (he2 : e < 18446744073709551616) (hd : d < 18446744073709551616) : (bq (lay l (ac2 e d))).1 = (e : Int) ∧ (bq (lay l (ac2 e d))).2.1 = (d : Int) ∧ (bq (lay l (ac2 e d))).2.2.2 = 0 := by
 have hrc := bgp e d he2 hd
 unfold lay bq at *
 rcases al5 (rd l.a) (rd l.b) with ⟨_, _, h⟩ | ⟨p, h1, h2, h⟩ | ⟨p, h1, h2, h⟩
 ·rw [h] at h0; cases h0
 ·rw [h] at he ⊢
  simp only at he
  rw [if_pos rfl]
  simp only [h1, hrc]
  have : p.1 < (e : Int) := he
  simp [bst, upB, this]
 ·rw [h] at he ⊢
  simp only at he
  rw [if_neg (by simp)]
  simp only [h1, hrc]
  have : ¬ p.1 > (e : Int) := by omega
  simp [bst, upB, this]
theorem bdy (l : Ls) (h0 : (bq l).2.2.2 = 0) (c : List Int) (hc : rd c = none) : (bq (lay l c)).1 = (bq l).1 ∧ (bq (lay l c)).2.1 = (bq l).2.1 ∧ (bq (lay l c)).2.2.2 = 0 := by
 unfold lay bq at *
 rcases al5 (rd l.a) (rd l.b) with ⟨_, _, h⟩ | ⟨p, h1, h2, h⟩ | ⟨p, h1, h2, h⟩
 ·rw [h] at h0; cases h0
 ·rw [h]
  rw [if_pos rfl]
  simp only [h1, hc]
  simp [bst, upB]
 ·rw [h]
  rw [if_neg (by simp)]
  simp only [h1, hc]
  simp [bst, upB]
structure Lin (l : Ls) (e B : Nat) : Prop where
 wf : Lwf l
 n : l.n ≤ 1152921504606846976
 t : 1 ≤ l.t ∧ l.t ≤ 4294967296
 err : (bq l).2.2.2 = 0
 ee : (bq l).1 = (e : Int)
 eB : (bq l).2.1 = (B : Int)
 Bn : B ≤ l.n
 el : e ≤ 1152921504606846976
 down : l.up = false → l.x = 0 ∧ l.d = 0
 up : l.up = true → l.d = B ∧ l.x ≤ B
theorem ah3 {l : Ls} (h : Lwf l) {c : List Int} (hc : In 256 c) (nc : c.length ≤ 1000) : Lwf (lay l c) ∧ (lay l c).n = l.n ∧ (lay l c).t = l.t ∧ (lay l c).x = l.x ∧ (lay l c).d = l.d ∧ (lay l c).up = l.up := by
 unfold lay
 split
 ·exact ⟨{ h with b := hc, nb := nc }, rfl, rfl, rfl, rfl, rfl⟩
 ·exact ⟨{ h with a := hc, na := nc }, rfl, rfl, rfl, rfl, rfl⟩
theorem Lin.nxt {l : Ls} {e B : Nat} (h : Lin l e B) (hu : l.up = true) : (B = l.n ∧ nxt l = (13, 0, 0)) ∨ (B < l.n ∧ e = 1152921504606846976 ∧ nxt l = (8, 0, 0)) ∨ (B < l.n ∧ e < 1152921504606846976 ∧ nxt l = (0, e + 1, B + min l.t (l.n - B))) := by
 obtain ⟨h1, h2⟩ := h.up hu
 have hBn := h.Bn
 have hel := h.el
 unfold Q.nxt
 rw [if_neg (by rw [hu]; simp), h1]
 by_cases hb : B = l.n
 ·exact .inl ⟨hb, by rw [if_pos hb]⟩
 ·rw [if_neg hb, if_neg (by rw [h.err]; simp), h.ee]
  by_cases he : e = 1152921504606846976
  ·exact .inr (.inl ⟨by omega, he, by rw [if_pos (by omega)]⟩)
  ·exact .inr (.inr ⟨by omega, by omega, by rw [if_neg (by omega), Int.toNat_natCast]⟩)
theorem Lin.res {l : Ls} {e B : Nat} (h : Lin l e B) : ((res l).1 = l ∧ (res l).2 ≠ 0 ∧ (l.up = true → (B = l.n ∧ (res l).2 = 13) ∨ e = 1152921504606846976)) ∨ (l.up = true ∧ (res l).2 = 0 ∧ B < l.n ∧ e < 1152921504606846976 ∧ Lin (res l).1 (e + 1) (B + min l.t (l.n - B)) ∧ (res l).1.up = true ∧ (res l).1.x = l.x ∧ (res l).1.n = l.n ∧ (res l).1.t = l.t) := by
 by_cases hu : l.up = true
 ·obtain ⟨h1, h2⟩ := h.up hu
  have ht := h.t
  have hn := h.n
  rcases h.nxt hu with ⟨hb, hx⟩ | ⟨hb, he, hx⟩ | ⟨hb, he, hx⟩
  ·exact .inl ⟨by unfold Q.res; rw [hx]; rfl, by unfold Q.res; rw [hx]; exact (show (13 : Int) ≠ 0 by decide), fun _ => .inl ⟨hb, by unfold Q.res; rw [hx]; rfl⟩⟩
  ·exact .inl ⟨by unfold Q.res; rw [hx]; rfl, by unfold Q.res; rw [hx]; exact (show (8 : Int) ≠ 0 by decide), fun _ => .inr he⟩
  ·have hrin := ab2 (e + 1) (B + min l.t (l.n - B))
   have hrl := um (e + 1) (B + min l.t (l.n - B))
   obtain ⟨w1, w2, w3, w4, w5, w6⟩ := ah3 h.wf hrin (by omega)
   obtain ⟨b1, b2, b3⟩ := azs l h.err (e + 1) (B + min l.t (l.n - B)) (by rw [h.ee]; omega) (by omega) (by omega)
   have e1 : (Q.res l).1 = { lay l (ac2 (e + 1) (B + min l.t (l.n - B))) with d := B + min l.t (l.n - B) } := by unfold Q.res; rw [hx]; rfl
   have e2 : (Q.res l).2 = 0 := by unfold Q.res; rw [hx]; rfl
   refine .inr ⟨hu, e2, hb, he, ?_, by rw [e1]; simp only; rw [w6, hu], by rw [e1]; simp only; exact w4, by rw [e1]; simp only; exact w2, by rw [e1]; simp only; exact w3⟩
   rw [e1]
   exact { wf := { w1 with d := by simp only; omega }, n := by simp only; omega, t := by simp only; omega, err := b3, ee := by simpa [bq] using b1, eB := by simpa [bq] using b2, Bn := by simp only; omega, el := by omega,
           down := fun h => (by simp only [w6, hu] at h; cases h), up := fun _ => ⟨rfl, by simp only; omega⟩ }
 ·have hu : l.up = false := by simpa using hu
  have hx : Q.nxt l = (21, 0, 0) := by unfold Q.nxt; rw [if_pos hu]
  exact .inl ⟨by unfold Q.res; rw [hx]; rfl, by unfold Q.res; rw [hx]; exact (show (21 : Int) ≠ 0 by decide), fun h => by rw [hu] at h; cases h⟩
theorem Lin.step {l : Ls} {e B : Nat} (h : Lin l e B) (hu : l.up = true) (hx : l.x < B) : Lin { l with x := l.x + 1 } e B :=
 { h with wf := { h.wf with x := by have := h.Bn; have := h.n; simp only; omega }, down := fun h' => (by simp only [hu] at h'; cases h'), up := fun _ => ⟨(h.up hu).1, by simp only; omega⟩, err := h.err, ee := h.ee, eB := h.eB }
theorem Lin.tak {l : Ls} {e B : Nat} (h : Lin l e B) :
    ((tak l).1 = l ∧ (tak l).2.2 ≠ 0 ∧ (l.up = true → l.x = B ∧ ((B = l.n ∧ (tak l).2.2 = 13) ∨ e = 1152921504606846976))) ∨
    (l.up = true ∧ (tak l).2.2 = 0 ∧ (tak l).2.1 = l.x ∧ ∃ e' B', Lin (tak l).1 e' B' ∧ e ≤ e' ∧ e' ≤ e + 1 ∧ B ≤ B' ∧ l.x < B' ∧ (tak l).1.up = true ∧ (tak l).1.x = l.x + 1 ∧ (tak l).1.n = l.n ∧ (tak l).1.t = l.t) := by
 by_cases hu : l.up = true
 ·obtain ⟨h1, h2⟩ := h.up hu
  have e0 : Q.tak l = if l.x = l.d then (if (Q.res l).2 ≠ 0 then (l, 0, (Q.res l).2) else ({ (Q.res l).1 with x := l.x + 1 }, l.x, 0)) else ({ l with x := l.x + 1 }, l.x, 0) := by
   unfold Q.tak; rw [if_neg (by rw [hu]; simp)]
  by_cases hx : l.x = l.d
  ·rw [if_pos hx] at e0
   rcases h.res with ⟨r1, r2, r3⟩ | ⟨_, r2, r3, r4, r5, r6, r7, r8, r9⟩
   ·rw [if_pos r2] at e0
    exact .inl ⟨by rw [e0], by rw [e0]; exact r2, fun _ => ⟨by omega, by rw [e0]; exact r3 hu⟩⟩
   ·rw [if_neg (by rw [r2]; simp)] at e0
    have ht := h.t
    have := r5.step r6 (by rw [r7]; omega)
    rw [r7] at this
    exact .inr ⟨hu, by rw [e0], by rw [e0], e + 1, _, by rw [e0]; exact this, by omega, by omega, by omega, by omega, by rw [e0]; exact r6, by rw [e0], by rw [e0]; exact r8, by rw [e0]; exact r9⟩
  ·rw [if_neg hx] at e0
   exact .inr ⟨hu, by rw [e0], by rw [e0], e, B, by rw [e0]; exact h.step hu (by omega), by omega, by omega, by omega, by omega, by rw [e0]; exact hu, by rw [e0], by rw [e0], by rw [e0]⟩
 ·have hu : l.up = false := by simpa using hu
  have e0 : Q.tak l = (l, 0, 21) := by unfold Q.tak; rw [if_pos hu]
  exact .inl ⟨by rw [e0], by rw [e0]; exact (show (21 : Int) ≠ 0 by decide), fun h => by rw [hu] at h; cases h⟩
theorem Lin.fal {l : Ls} {e B : Nat} (h : Lin l e B) : Lin (fal l) e B :=
 { h with wf := { h.wf with x := z64, d := z64 }, down := fun _ => ⟨rfl, rfl⟩, up := fun h => (by cases h), err := h.err, ee := h.ee, eB := h.eB }
theorem Lin.tor {l : Ls} {e B : Nat} (h : Lin l e B) (tear : Int) (junk : List Int) (hj : In 256 junk) (nj : junk.length ≤ 1000) (hr : rd junk = none) :
    ((tor l tear junk).1 = l) ∨ (l.up = true ∧ (tor l tear junk).1.up = false ∧ (tor l tear junk).1.n = l.n ∧ (tor l tear junk).1.t = l.t ∧ ∃ e' B', Lin (tor l tear junk).1 e' B' ∧ e ≤ e' ∧ e' ≤ e + 1 ∧ B ≤ B' ∧ B' ≤ B + l.t) := by
 by_cases hu : l.up = true
 ·have ht := h.t
  have hn := h.n
  rcases h.nxt hu with ⟨hb, hx⟩ | ⟨hb, he, hx⟩ | ⟨hb, he, hx⟩
  ·exact .inl (by unfold Q.tor; rw [hx]; rfl)
  ·exact .inl (by unfold Q.tor; rw [hx]; rfl)
  ·have e0 : Q.tor l tear junk = if tear = 0 then (Q.fal l, 0) else if tear = 1 then (Q.fal (lay l (ac2 (e + 1) (B + min l.t (l.n - B)))), 0) else if tear = 2 then (Q.fal (lay l junk), 0) else (l, 8) := by
     unfold Q.tor; rw [hx]; rfl
   rw [e0]
   by_cases t0 : tear = 0
   ·rw [if_pos t0]
    exact .inr ⟨hu, rfl, rfl, rfl, e, B, h.fal, by omega, by omega, by omega, by omega⟩
   ·rw [if_neg t0]
    by_cases t1 : tear = 1
    ·rw [if_pos t1]
     have hrin := ab2 (e + 1) (B + min l.t (l.n - B))
     have hrl := um (e + 1) (B + min l.t (l.n - B))
     obtain ⟨w1, w2, w3, w4, w5, w6⟩ := ah3 h.wf hrin (by omega)
     obtain ⟨b1, b2, b3⟩ := azs l h.err (e + 1) (B + min l.t (l.n - B)) (by rw [h.ee]; omega) (by omega) (by omega)
     refine .inr ⟨hu, rfl, w2, w3, e + 1, B + min l.t (l.n - B), ?_, by omega, by omega, by omega, by omega⟩
     exact { wf := { w1 with x := z64, d := z64 }, n := by show (lay l _).n ≤ _; omega, t := by show 1 ≤ (lay l _).t ∧ (lay l _).t ≤ _; omega, err := b3, ee := by simpa [bq, Q.fal] using b1, eB := by simpa [bq, Q.fal] using b2, Bn := by show _ ≤ (lay l _).n; omega, el := by omega,
             down := fun _ => ⟨rfl, rfl⟩, up := fun h => (by cases h) }
    ·rw [if_neg t1]
     by_cases t2 : tear = 2
     ·rw [if_pos t2]
      obtain ⟨w1, w2, w3, w4, w5, w6⟩ := ah3 h.wf hj nj
      obtain ⟨b1, b2, b3⟩ := bdy l h.err junk hr
      have hBn := h.Bn
      refine .inr ⟨hu, rfl, w2, w3, e, B, ?_, by omega, by omega, by omega, by omega⟩
      exact { wf := { w1 with x := z64, d := z64 }, n := by show (lay l _).n ≤ _; omega, t := by show 1 ≤ (lay l _).t ∧ (lay l _).t ≤ _; omega, err := b3, ee := b1.trans h.ee, eB := b2.trans h.eB, Bn := by show _ ≤ (lay l _).n; omega, el := h.el,
              down := fun _ => ⟨rfl, rfl⟩, up := fun h => (by cases h) }
     ·rw [if_neg t2]
      exact .inl rfl
 ·have hu : l.up = false := by simpa using hu
  have hx : Q.nxt l = (21, 0, 0) := by unfold Q.nxt; rw [if_pos hu]
  exact .inl (by unfold Q.tor; rw [hx]; rfl)
theorem Lin.ris {l : Ls} {e B : Nat} (h : Lin l e B) : ((ris l).1 = l ∧ (l.up = false → e = 1152921504606846976)) ∨ (l.up = false ∧ e < 1152921504606846976 ∧ Lin (ris l).1 e B ∧ (ris l).1.up = true ∧ (ris l).1.x = B ∧ (ris l).1.d = B ∧ (ris l).1.n = l.n ∧ (ris l).1.t = l.t) := by
 by_cases hu : l.up = true
 ·exact .inl ⟨by unfold Q.ris; rw [if_pos hu], fun h => by rw [hu] at h; cases h⟩
 ·have hu' : l.up = false := by simpa using hu
  have hBn := h.Bn
  have hn := h.n
  have ht := h.t
  have he := h.ee
  have hB := h.eB
  have her := h.err
  unfold bq at he hB her
  have e0 : opn l.a l.b l.n l.t = if e ≥ 1152921504606846976 then (⟨[], [], 0, 0, 0, 0, false⟩, 8) else (⟨l.a, l.b, l.n, l.t, B, B, true⟩, 0) := by
   unfold opn
   rw [if_neg (by omega), her, if_neg (by decide), hB, he, Int.toNat_natCast]
   by_cases h1 : e ≥ 1152921504606846976
   ·rw [if_pos (.inr (by omega)), if_pos h1]
   ·rw [if_neg (by omega), if_neg h1]
  unfold Q.ris
  rw [if_neg hu, e0]
  by_cases h1 : e ≥ 1152921504606846976
  ·rw [if_pos h1]
   exact .inl ⟨rfl, fun _ => by have := h.el; omega⟩
  ·rw [if_neg h1]
   exact .inr ⟨hu', by omega, { wf := { h.wf with x := (show B < 18446744073709551616 by omega), d := (show B < 18446744073709551616 by omega) }, n := hn, t := ht, err := her, ee := he, eB := hB, Bn := hBn, el := h.el, down := fun h => (by cases h), up := fun _ => ⟨rfl, Nat.le_refl _⟩ }, rfl, rfl, rfl, rfl, rfl⟩
end Q
end

section
/- lease: what deeds do to a lease, without a program. -/
namespace Q
open Go Go.Abs
set_option linter.unusedVariables false
set_option linter.unusedSimpArgs false
inductive Did (l l' : Ls) (out : List Nat) (B B' : Nat) : Prop where
 | same (h1 : out = []) (h2 : l'.up = l.up) (h3 : l'.x = l.x) (h4 : l.up = false → B' = B)
 | gave (h1 : out = [l.x]) (h2 : l.up = true) (h3 : l'.up = true) (h4 : l'.x = l.x + 1) (h5 : l.x < B')
 | fell (h1 : out = []) (h2 : l.up = true) (h3 : l'.up = false) (h4 : B' ≤ B + l.t)
 | rose (h1 : out = []) (h2 : l.up = false) (h3 : l'.up = true) (h4 : l'.x = B) (h5 : l'.d = B) (h6 : B' = B)
theorem Lin.deed {l : Ls} {e B : Nat} (h : Lin l e B) (kind tear : Int) (junk : List Int) (hj : In 256 junk) (nj : junk.length ≤ 1000) (hr : rd junk = none) :
    ∃ e' B', Lin (deed l kind tear junk).1 e' B' ∧ e ≤ e' ∧ e' ≤ e + 1 ∧ B ≤ B' ∧ (deed l kind tear junk).1.n = l.n ∧ (deed l kind tear junk).1.t = l.t ∧ Did l (deed l kind tear junk).1 (deed l kind tear junk).2.1 B B' := by
 have keep : ∀ er : Int, Q.deed l kind tear junk = (l, [], er) → ∃ e' B', Lin (Q.deed l kind tear junk).1 e' B' ∧ e ≤ e' ∧ e' ≤ e + 1 ∧ B ≤ B' ∧ (Q.deed l kind tear junk).1.n = l.n ∧ (Q.deed l kind tear junk).1.t = l.t ∧ Did l (Q.deed l kind tear junk).1 (Q.deed l kind tear junk).2.1 B B' := by
  intro er he
  rw [he]
  exact ⟨e, B, h, Nat.le_refl _, by omega, Nat.le_refl _, rfl, rfl, .same rfl rfl rfl (fun _ => rfl)⟩
 by_cases k1 : kind = 1
 ·have e0 : Q.deed l kind tear junk = if (Q.tak l).2.2 ≠ 0 then ((Q.tak l).1, [], (Q.tak l).2.2) else ((Q.tak l).1, [(Q.tak l).2.1], 0) := by unfold Q.deed; rw [if_pos k1]
  rcases h.tak with ⟨h1, h2, h3⟩ | ⟨h1, h2, h3, e', B', h4, h5, h6, h7, h8, h9, h10, h11, h12⟩
  ·rw [if_pos h2, h1] at e0
   exact keep _ e0
  ·rw [if_neg (by rw [h2]; simp)] at e0
   rw [e0]
   exact ⟨e', B', h4, h5, h6, h7, h11, h12, .gave (by rw [h3]) h1 h9 h10 h8⟩
 by_cases k2 : kind = 2
 ·have e0 : Q.deed l kind tear junk = ((Q.res l).1, [], (Q.res l).2) := by unfold Q.deed; rw [if_neg k1, if_pos k2]
  rcases h.res with ⟨h1, h2, h3⟩ | ⟨h1, h2, h3, h4, h5, h6, h7, h8, h9⟩
  ·rw [h1] at e0
   exact keep _ e0
  ·rw [e0]
   exact ⟨e + 1, _, h5, by omega, by omega, by omega, h8, h9, .same rfl (h6.trans h1.symm) h7 (fun hd => by rw [h1] at hd; cases hd)⟩
 by_cases k3 : kind = 3
 ·have e0 : Q.deed l kind tear junk = ((Q.tor l tear junk).1, [], (Q.tor l tear junk).2) := by unfold Q.deed; rw [if_neg k1, if_neg k2, if_pos k3]
  rcases h.tor tear junk hj nj hr with h1 | ⟨h1, h2, h3, h4, e', B', h5, h6, h7, h8, h9⟩
  ·rw [h1] at e0
   exact keep _ e0
  ·rw [e0]
   exact ⟨e', B', h5, h6, h7, h8, h3, h4, .fell rfl h1 h2 h9⟩
 by_cases k4 : kind = 4
 ·have e0 : Q.deed l kind tear junk = (Q.fal l, [], 0) := by unfold Q.deed; rw [if_neg k1, if_neg k2, if_neg k3, if_pos k4]
  rw [e0]
  by_cases hu : l.up = true
  ·exact ⟨e, B, h.fal, Nat.le_refl _, by omega, Nat.le_refl _, rfl, rfl, .fell rfl hu rfl (by omega)⟩
  ·have hu' : l.up = false := by simpa using hu
   exact ⟨e, B, h.fal, Nat.le_refl _, by omega, Nat.le_refl _, rfl, rfl, .same rfl hu'.symm (h.down hu').1.symm (fun _ => rfl)⟩
 by_cases k5 : kind = 5
 ·have e0 : Q.deed l kind tear junk = ((Q.ris l).1, [], (Q.ris l).2) := by unfold Q.deed; rw [if_neg k1, if_neg k2, if_neg k3, if_neg k4, if_pos k5]
  rcases h.ris with ⟨h1, h2⟩ | ⟨h1, h2, h3, h4, h5, h6, h7, h8⟩
  ·rw [h1] at e0
   exact keep _ e0
  ·rw [e0]
   exact ⟨e, B, h3, Nat.le_refl _, by omega, Nat.le_refl _, h7, h8, .rose rfl h1 h4 h5 h6 rfl⟩
 exact keep 1 (by unfold Q.deed; rw [if_neg k1, if_neg k2, if_neg k3, if_neg k4, if_neg k5])
def Ups (n : Nat) : Nat → List Nat → Prop
 | _, [] => True
 | m, x :: r => m ≤ x ∧ x < n ∧ Ups n (x + 1) r
theorem Ups.mono {n : Nat} : ∀ {m m' : Nat} {l : List Nat}, m' ≤ m → Ups n m l → Ups n m' l
 | m, m', [], _, _ => trivial
 | m, m', x :: r, h, ⟨h1, h2, h3⟩ => ⟨by omega, h2, h3⟩
end Q
end

section
/- lease: the program's functions and the document's are those of the pure lease. -/
namespace Q
open Go Go.Abs
set_option linter.unusedVariables false
set_option linter.unusedSimpArgs false
def lsK {ρ : Type} (l : Ls) (k : List Int → List Int → Int → Int → Int → Int → Bool → Option ρ) : Option ρ := k l.a l.b (l.n : Int) (l.t : Int) (l.x : Int) (l.d : Int) l.up
structure Lgo (l : Ls) : Prop where
 wf : Lwf l
 n : l.n ≤ 1152921504606846976
 t : l.t ≤ 4294967296
 up : l.up = true → l.x ≤ l.d ∧ l.d ≤ l.n
abbrev bb (l : Ls) : Int × Int × Int × Int := bst (rd l.a) (rd l.b)
theorem abb (l : Ls) : (l.up = false ∧ nxt l = (21, 0, 0)) ∨ (l.up = true ∧ l.d = l.n ∧ nxt l = (13, 0, 0)) ∨ (l.up = true ∧ l.d ≠ l.n ∧ (bst (rd l.a) (rd l.b)).2.2.2 ≠ 0 ∧ nxt l = ((bst (rd l.a) (rd l.b)).2.2.2, 0, 0)) ∨
    (l.up = true ∧ l.d ≠ l.n ∧ (bst (rd l.a) (rd l.b)).2.2.2 = 0 ∧ (bst (rd l.a) (rd l.b)).1 ≥ 1152921504606846976 ∧ nxt l = (8, 0, 0)) ∨
    (l.up = true ∧ l.d ≠ l.n ∧ (bst (rd l.a) (rd l.b)).2.2.2 = 0 ∧ ¬ (bst (rd l.a) (rd l.b)).1 ≥ 1152921504606846976 ∧ nxt l = (0, (bst (rd l.a) (rd l.b)).1.toNat + 1, l.d + min l.t (l.n - l.d))) := by
 unfold nxt bq
 by_cases hu : l.up = false
 ·exact .inl ⟨hu, by rw [if_pos hu]⟩
 ·have hu' : l.up = true := by simpa using hu
  by_cases h1 : l.d = l.n
  ·exact .inr (.inl ⟨hu', h1, by rw [if_neg hu, if_pos h1]⟩)
  ·by_cases h2 : (bst (rd l.a) (rd l.b)).2.2.2 = 0
   ·by_cases h3 : (bst (rd l.a) (rd l.b)).1 ≥ 1152921504606846976
    ·exact .inr (.inr (.inr (.inl ⟨hu', h1, h2, h3, by rw [if_neg hu, if_neg h1, if_neg (fun h => h h2), if_pos h3]⟩)))
    ·exact .inr (.inr (.inr (.inr ⟨hu', h1, h2, h3, by rw [if_neg hu, if_neg h1, if_neg (fun h => h h2), if_neg h3]⟩)))
   ·exact .inr (.inr (.inl ⟨hu', h1, h2, by rw [if_neg hu, if_neg h1, if_pos h2]⟩))
theorem yu {l : Ls} {e : Int} (h : nxt l = (e, 0, 0)) (he : e ≠ 0) : res l = (l, e) := by
 unfold res; rw [h]; simp only; rw [if_pos he]
theorem aib {l : Ls} {e d : Nat} (h : nxt l = (0, e, d)) : res l = ({ lay l (ac2 e d) with d := d }, 0) := by
 unfold res; rw [h]; rfl
theorem ajf (l : Ls) (c : List Int) (h : (bst (rd l.a) (rd l.b)).2.2.2 = 0) {ρ : Type} (k : List Int → List Int → Int → Int → Option ρ) : anf l.a l.b c k = k (lay l c).a (lay l c).b (if (bst (rd l.a) (rd l.b)).2.2.1 = 0 then 1 else 0) 0 := by
 unfold anf lay bq
 rw [if_pos h]
 split <;> rfl
theorem auq {n d t : Nat} (h : d ≤ n) (hn : n < 18446744073709551616) (ht : t < 18446744073709551616) : IntKind.u64.wrap ((d : Int) + bif decide (IntKind.u64.wrap ((n : Int) - (d : Int)) < (t : Int)) then IntKind.u64.wrap ((n : Int) - (d : Int)) else (t : Int)) = ((d + min t (n - d) : Nat) : Int) := by
 rw [show (n : Int) - (d : Int) = ((n - d : Nat) : Int) by omega, ak1 (n - d) (by omega)]
 by_cases hh : n - d < t
 ·rw [decide_eq_true (show ((n - d : Nat) : Int) < (t : Int) by omega), cond_true, show (d : Int) + ((n - d : Nat) : Int) = ((d + min t (n - d) : Nat) : Int) by omega, ak1 _ (by omega)]
 ·rw [decide_eq_false (show ¬ ((n - d : Nat) : Int) < (t : Int) by omega), cond_false, show (d : Int) + (t : Int) = ((d + min t (n - d) : Nat) : Int) by omega, ak1 _ (by omega)]
theorem bhm {n d t : Nat} (h : d ≤ n) (hn : n ≤ 1152921504606846976) (ht : t ≤ 4294967296) : (bif decide ((n : Int) < IntKind.u64.wrap ((d : Int) + (t : Int))) then (n : Int) else IntKind.u64.wrap ((d : Int) + (t : Int))) = ((d + min t (n - d) : Nat) : Int) := by
 rw [show (d : Int) + (t : Int) = ((d + t : Nat) : Int) by omega, ak1 (d + t) (by omega)]
 by_cases hh : n < d + t
 ·rw [decide_eq_true (show (n : Int) < ((d + t : Nat) : Int) by omega), cond_true]; omega
 ·rw [decide_eq_false (show ¬ (n : Int) < ((d + t : Nat) : Int) by omega), cond_false]; omega
theorem aqn {l : Ls} (h : Lwf l) (he : ¬ (bst (rd l.a) (rd l.b)).1 ≥ 1152921504606846976) : IntKind.u64.wrap ((bst (rd l.a) (rd l.b)).1 + 1) = (((bst (rd l.a) (rd l.b)).1.toNat + 1 : Nat) : Int) := by
 have := ayu l.a l.b h.a h.b
 rw [show (bst (rd l.a) (rd l.b)).1 + 1 = (((bst (rd l.a) (rd l.b)).1.toNat + 1 : Nat) : Int) by omega, ak1 _ (by omega)]
theorem ajk {l : Ls} (he : ¬ (bst (rd l.a) (rd l.b)).1 ≥ 1152921504606846976) : (bst (rd l.a) (rd l.b)).1.toNat + 1 < 18446744073709551616 := by omega
theorem ais (a b : List Int) (n t : Nat) : (n > 1152921504606846976 ∧ opn a b n t = (⟨[], [], 0, 0, 0, 0, false⟩, 8)) ∨ (¬ n > 1152921504606846976 ∧ t < 1 ∧ opn a b n t = (⟨[], [], 0, 0, 0, 0, false⟩, 8)) ∨ (¬ n > 1152921504606846976 ∧ ¬ t < 1 ∧ t > 4294967296 ∧ opn a b n t = (⟨[], [], 0, 0, 0, 0, false⟩, 8)) ∨
    (¬ n > 1152921504606846976 ∧ ¬ t < 1 ∧ ¬ t > 4294967296 ∧ (((bst (rd a) (rd b)).2.2.2 ≠ 0 ∧ opn a b n t = (⟨[], [], 0, 0, 0, 0, false⟩, (bst (rd a) (rd b)).2.2.2)) ∨ ((bst (rd a) (rd b)).2.2.2 = 0 ∧ (bst (rd a) (rd b)).2.1 > (n : Int) ∧ opn a b n t = (⟨[], [], 0, 0, 0, 0, false⟩, 8)) ∨
     ((bst (rd a) (rd b)).2.2.2 = 0 ∧ ¬ (bst (rd a) (rd b)).2.1 > (n : Int) ∧ (bst (rd a) (rd b)).1 ≥ 1152921504606846976 ∧ opn a b n t = (⟨[], [], 0, 0, 0, 0, false⟩, 8)) ∨
     ((bst (rd a) (rd b)).2.2.2 = 0 ∧ ¬ (bst (rd a) (rd b)).2.1 > (n : Int) ∧ ¬ (bst (rd a) (rd b)).1 ≥ 1152921504606846976 ∧ opn a b n t = (⟨a, b, n, t, (bst (rd a) (rd b)).2.1.toNat, (bst (rd a) (rd b)).2.1.toNat, true⟩, 0)))) := by
 unfold opn
 by_cases h1 : n > 1152921504606846976
 ·exact .inl ⟨h1, by rw [if_pos (.inl h1)]⟩
 by_cases h2 : t < 1
 ·exact .inr (.inl ⟨h1, h2, by rw [if_pos (.inr (.inl h2))]⟩)
 by_cases h3 : t > 4294967296
 ·exact .inr (.inr (.inl ⟨h1, h2, h3, by rw [if_pos (.inr (.inr h3))]⟩))
 refine .inr (.inr (.inr ⟨h1, h2, h3, ?_⟩))
 have h0 : ¬ (n > 1152921504606846976 ∨ t < 1 ∨ t > 4294967296) := by omega
 rw [if_neg h0]
 by_cases h4 : (bst (rd a) (rd b)).2.2.2 = 0
 ·rw [if_neg (fun h => h h4)]
  by_cases h5 : (bst (rd a) (rd b)).2.1 > (n : Int)
  ·exact .inr (.inl ⟨h4, h5, by rw [if_pos (.inl h5)]⟩)
  ·by_cases h6 : (bst (rd a) (rd b)).1 ≥ 1152921504606846976
   ·exact .inr (.inr (.inl ⟨h4, h5, h6, by rw [if_pos (.inr h6)]⟩))
   ·exact .inr (.inr (.inr ⟨h4, h5, h6, by rw [if_neg (by omega)]⟩))
 ·exact .inl ⟨h4, by rw [if_pos h4]⟩
theorem je (a b : List Int) (n t : Nat) (ha : In 256 a) (hb : In 256 b) (na : a.length ≤ 1000000) (nb : b.length ≤ 1000000) {ρ : Type} (k : List Int → List Int → Int → Int → Int → Int → Bool → Int → Option ρ) : P.je a b (n : Int) (t : Int) k = lsK (opn a b n t).1 (fun a1 b1 n1 t1 x1 d1 u1 => k a1 b1 n1 t1 x1 d1 u1 (opn a b n t).2) := by
 have hl := ayu a b ha hb
 rw [P.amf]; unfold P.af6
 rcases ais a b n t with ⟨h1, h⟩ | ⟨h1, h2, h⟩ | ⟨h1, h2, h3, h⟩ | ⟨h1, h2, h3, h⟩
 ·rw [h, dh (by omega)]; rfl
 ·rw [h, fu (by omega), dh (by omega)]; rfl
 ·rw [h, fu (by omega), fu (by omega), dh (by omega)]; rfl
 ·rw [fu (by omega), fu (by omega), fu (by omega), dz a b ha hb na nb]
  rcases h with ⟨h4, h⟩ | ⟨h4, h5, h⟩ | ⟨h4, h5, h6, h⟩ | ⟨h4, h5, h6, h⟩
  ·rw [h, iy h4]; rfl
  ·rw [h, iq h4, dh h5]; rfl
  ·rw [h, iq h4, fu h5, dh h6]; rfl
  ·rw [h, iq h4, fu h5, fu h6, aqg a (by omega), aqg b (by omega)]
   simp only [lsK]
   rw [Int.toNat_of_nonneg hl.2.2.1]
theorem uz (a b : List Int) (n t : Nat) (ha : In 256 a) (hb : In 256 b) (na : a.length ≤ 1000000) (nb : b.length ≤ 1000000) {ρ : Type} (k : List Int → List Int → Int → Int → Int → Int → Bool → Int → Option ρ) : P.uz a b (n : Int) (t : Int) k = lsK (opn a b n t).1 (fun a1 b1 n1 t1 x1 d1 u1 => k a1 b1 n1 t1 x1 d1 u1 (opn a b n t).2) := by
 have hl := ayu a b ha hb
 rw [P.ap2]; unfold P.ah5
 rcases ais a b n t with ⟨h1, h⟩ | ⟨h1, h2, h⟩ | ⟨h1, h2, h3, h⟩ | ⟨h1, h2, h3, h⟩
 ·rw [h, dh (by omega)]; rfl
 ·rw [h, fu (by omega), dh (by omega)]; rfl
 ·rw [h, fu (by omega), fu (by omega), dh (by omega)]; rfl
 ·rw [fu (by omega), fu (by omega), fu (by omega), l8 a b ha hb na nb]
  rcases h with ⟨h4, h⟩ | ⟨h4, h5, h⟩ | ⟨h4, h5, h6, h⟩ | ⟨h4, h5, h6, h⟩
  ·rw [h, iy h4]; rfl
  ·rw [h, iq h4, dh h5]; rfl
  ·rw [h, iq h4, fu h5, dh h6]; rfl
  ·rw [h, iq h4, fu h5, fu h6]
   simp only [lsK]
   rw [Int.toNat_of_nonneg hl.2.2.1]
theorem o9 (l : Ls) (h : Lgo l) {ρ : Type} (k : List Int → List Int → Int → Int → Int → Int → Bool → Int → Option ρ) : P.o9 l.a l.b (l.n : Int) (l.t : Int) (l.x : Int) (l.d : Int) l.up k = lsK (res l).1 (fun a1 b1 n1 t1 x1 d1 u1 => k a1 b1 n1 t1 x1 d1 u1 (res l).2) := by
 obtain ⟨w, hn, ht, hp⟩ := h
 rw [P.aee]; unfold P.abu
 rcases abb l with ⟨hu, hx⟩ | ⟨hu, h1, hx⟩ | ⟨hu, h1, h2, hx⟩ | ⟨hu, h1, h2, h3, hx⟩ | ⟨hu, h1, h2, h3, hx⟩
 ·rw [yu hx (by omega)]; simp only [lsK, hu, Bool.not_false, qz]
 ·rw [yu hx (by omega)]; simp only [lsK, hu, Bool.not_true, om]; rw [d9 (by omega)]
 ·rw [yu hx h2]; simp only [lsK, hu, Bool.not_true, om]; rw [gq (by omega), dz l.a l.b w.a w.b (by have := w.na; omega) (by have := w.nb; omega), iy h2, iy h2]
 ·rw [yu hx (by omega)]; simp only [lsK, hu, Bool.not_true, om]; rw [gq (by omega), dz l.a l.b w.a w.b (by have := w.na; omega) (by have := w.nb; omega), iq h2, dh h3]
 ·obtain ⟨p1, p2⟩ := hp hu
  obtain ⟨w1, w2, w3, w4, w5, w6⟩ := ah3 w (ab2 ((bst (rd l.a) (rd l.b)).1.toNat + 1) (l.d + min l.t (l.n - l.d))) (by rw [um]; omega)
  rw [aib hx]; simp only [lsK, hu, Bool.not_true, om, w2, w3, w4, w6]; rw [gq (by omega), dz l.a l.b w.a w.b (by have := w.na; omega) (by have := w.nb; omega), iq h2, fu h3, aqn w h3, auq p2 (by omega) (by omega), eu l.a l.b _ _ (ajk h3) (by omega) w.a w.b (by have := w.na; omega) (by have := w.nb; omega), ajf l _ h2, d9 rfl]
theorem aae (l : Ls) (h : Lgo l) {ρ : Type} (k : Int → Int → Int → Option ρ) : P.aae l.a l.b (l.n : Int) (l.t : Int) (l.x : Int) (l.d : Int) l.up k = k ((nxt l).2.1 : Nat) ((nxt l).2.2 : Nat) (nxt l).1 := by
 obtain ⟨w, hn, ht, hp⟩ := h
 rw [P.ao7]; unfold P.ahy
 rcases abb l with ⟨hu, hx⟩ | ⟨hu, h1, hx⟩ | ⟨hu, h1, h2, hx⟩ | ⟨hu, h1, h2, h3, hx⟩ | ⟨hu, h1, h2, h3, hx⟩
 ·rw [hx]; simp only [hu, Bool.not_false, qz]; rfl
 ·rw [hx]; simp only [hu, Bool.not_true, om]; rw [d9 (by omega)]; rfl
 ·rw [hx]; simp only [hu, Bool.not_true, om]; rw [gq (by omega), l8 l.a l.b w.a w.b (by have := w.na; omega) (by have := w.nb; omega), iy h2]; rfl
 ·rw [hx]; simp only [hu, Bool.not_true, om]; rw [gq (by omega), l8 l.a l.b w.a w.b (by have := w.na; omega) (by have := w.nb; omega), iq h2, dh h3]; rfl
 ·obtain ⟨p1, p2⟩ := hp hu
  rw [hx]; simp only [hu, Bool.not_true, om]; rw [gq (by omega), l8 l.a l.b w.a w.b (by have := w.na; omega) (by have := w.nb; omega), iq h2, fu h3, aqn w h3, bhm p2 hn ht]
theorem mq (l : Ls) (h : Lgo l) {ρ : Type} (k : List Int → List Int → Int → Int → Int → Int → Bool → Int → Option ρ) : P.mq l.a l.b (l.n : Int) (l.t : Int) (l.x : Int) (l.d : Int) l.up k = lsK (res l).1 (fun a1 b1 n1 t1 x1 d1 u1 => k a1 b1 n1 t1 x1 d1 u1 (res l).2) := by
 have h' := h
 obtain ⟨w, hn, ht, hp⟩ := h
 rw [P.ajp]; unfold P.ae7
 rw [aae l h']
 rcases abb l with ⟨hu, hx⟩ | ⟨hu, h1, hx⟩ | ⟨hu, h1, h2, hx⟩ | ⟨hu, h1, h2, h3, hx⟩ | ⟨hu, h1, h2, h3, hx⟩
 ·rw [yu hx (by omega), hx, iy (show ¬ (21 : Int) = 0 by omega)]; rfl
 ·rw [yu hx (by omega), hx, iy (show ¬ (13 : Int) = 0 by omega)]; rfl
 ·rw [yu hx h2, hx, iy h2]; rfl
 ·rw [yu hx (by omega), hx, iy (show ¬ (8 : Int) = 0 by omega)]; rfl
 ·obtain ⟨p1, p2⟩ := hp hu
  obtain ⟨w1, w2, w3, w4, w5, w6⟩ := ah3 w (ab2 ((bst (rd l.a) (rd l.b)).1.toNat + 1) (l.d + min l.t (l.n - l.d))) (by rw [um]; omega)
  rw [aib hx, hx]; simp only [lsK, w2, w3, w4, w6]; rw [iq rfl, abf l.a l.b _ _ (ajk h3) (by omega) w.a w.b (by have := w.na; omega) (by have := w.nb; omega), ajf l _ h2, iq rfl]
end Q
end

section
/- lease: leaves taken, deeds. -/
namespace Q
open Go Go.Abs
set_option linter.unusedVariables false
set_option linter.unusedSimpArgs false
theorem bno {x : Nat} (h : x + 1 < 18446744073709551616) : IntKind.u64.wrap ((x : Int) + 1) = ((x + 1 : Nat) : Int) := by rw [show (x : Int) + 1 = ((x + 1 : Nat) : Int) by omega, ak1 _ h]
theorem br0 {x : Nat} (h : x + 1 < 18446744073709551616) : IntKind.u64.wrap (((x + 1 : Nat) : Int) - 1) = (x : Int) := by rw [show ((x + 1 : Nat) : Int) - 1 = (x : Int) by omega, ak1 _ (by omega)]
theorem aop {l : Ls} (h : l.up = false) : tak l = (l, 0, 21) := by unfold tak; rw [if_pos h]
theorem ame {l : Ls} (h : l.up = true) (hx : ¬ l.x = l.d) : tak l = ({ l with x := l.x + 1 }, l.x, 0) := by unfold tak; rw [if_neg (by rw [h]; simp), if_neg hx]
theorem agn {l : Ls} (h : l.up = true) (hx : l.x = l.d) {e : Int} (hr : res l = (l, e)) (he : e ≠ 0) : tak l = (l, 0, e) := by unfold tak; rw [if_neg (by rw [h]; simp), if_pos hx, hr]; simp only; rw [if_pos he]
theorem atq {l l' : Ls} (h : l.up = true) (hx : l.x = l.d) (hr : res l = (l', 0)) : tak l = ({ l' with x := l.x + 1 }, l.x, 0) := by unfold tak; rw [if_neg (by rw [h]; simp), if_pos hx, hr]; rfl
theorem qy (l : Ls) (h : Lgo l) {ρ : Type} (k : List Int → List Int → Int → Int → Int → Int → Bool → Int → Int → Option ρ) : P.qy l.a l.b (l.n : Int) (l.t : Int) (l.x : Int) (l.d : Int) l.up k = lsK (tak l).1 (fun a1 b1 n1 t1 x1 d1 u1 => k a1 b1 n1 t1 x1 d1 u1 ((tak l).2.1 : Nat) (tak l).2.2) := by
 obtain ⟨w, hn, ht, hp⟩ := h
 rw [P.alu]; unfold P.agd
 by_cases hu : l.up = true
 ·obtain ⟨p1, p2⟩ := hp hu
  have hx1 : l.x + 1 < 18446744073709551616 := by omega
  have e1 := bno hx1
  have e2 := br0 hx1
  by_cases hx : l.x = l.d
  ·rcases abb l with ⟨hu', hq⟩ | ⟨_, h1, hq⟩ | ⟨_, h1, h2, hq⟩ | ⟨_, h1, h2, h3, hq⟩ | ⟨_, h1, h2, h3, hq⟩
   ·rw [hu] at hu'; cases hu'
   ·rw [agn hu hx (yu hq (by omega)) (by omega)]; simp only [lsK, hu, Bool.not_true, om]; rw [d9 (by omega), d9 (by omega)]; rfl
   ·rw [agn hu hx (yu hq h2) h2]; simp only [lsK, hu, Bool.not_true, om]; rw [d9 (by omega), gq (by omega), dz l.a l.b w.a w.b (by have := w.na; omega) (by have := w.nb; omega), iy h2, iy h2, iy h2]; rfl
   ·rw [agn hu hx (yu hq (by omega)) (by omega)]; simp only [lsK, hu, Bool.not_true, om]; rw [d9 (by omega), gq (by omega), dz l.a l.b w.a w.b (by have := w.na; omega) (by have := w.nb; omega), iq h2, dh h3]; rfl
   ·obtain ⟨w1, w2, w3, w4, w5, w6⟩ := ah3 w (ab2 ((bst (rd l.a) (rd l.b)).1.toNat + 1) (l.d + min l.t (l.n - l.d))) (by rw [um]; omega)
    rw [atq hu hx (aib hq)]; simp only [lsK, hu, Bool.not_true, om, w2, w3, w4, w6]; rw [d9 (by omega), gq (by omega), dz l.a l.b w.a w.b (by have := w.na; omega) (by have := w.nb; omega), iq h2, fu h3, aqn w h3, auq p2 (by omega) (by omega), eu l.a l.b _ _ (ajk h3) (by omega) w.a w.b (by have := w.na; omega) (by have := w.nb; omega), ajf l _ h2, d9 rfl, iq rfl, e1, e2]
  ·rw [ame hu hx]; simp only [lsK, hu, Bool.not_true, om]; rw [gq (by omega), e1, e2]
 ·have hu' : l.up = false := by simpa using hu
  rw [aop hu']; simp only [lsK, hu', Bool.not_false, qz]; rfl
theorem zw (l : Ls) (h : Lgo l) {ρ : Type} (k : List Int → List Int → Int → Int → Int → Int → Bool → Int → Int → Option ρ) : P.zw l.a l.b (l.n : Int) (l.t : Int) (l.x : Int) (l.d : Int) l.up k = lsK (tak l).1 (fun a1 b1 n1 t1 x1 d1 u1 => k a1 b1 n1 t1 x1 d1 u1 ((tak l).2.1 : Nat) (tak l).2.2) := by
 have h' := h
 obtain ⟨w, hn, ht, hp⟩ := h
 rw [P.aq5]; unfold P.ain
 by_cases hu : l.up = true
 ·obtain ⟨p1, p2⟩ := hp hu
  have hx1 : l.x + 1 < 18446744073709551616 := by omega
  have e1 := bno hx1
  by_cases hx : l.x = l.d
  ·rw [mq l h']
   rcases abb l with ⟨hu', hq⟩ | ⟨_, h1, hq⟩ | ⟨_, h1, h2, hq⟩ | ⟨_, h1, h2, h3, hq⟩ | ⟨_, h1, h2, h3, hq⟩
   ·rw [hu] at hu'; cases hu'
   ·rw [agn hu hx (yu hq (by omega)) (by omega), yu hq (by omega)]; simp only [lsK, hu, Bool.not_true, om]; rw [d9 (by omega), iy (by omega)]; rfl
   ·rw [agn hu hx (yu hq h2) h2, yu hq h2]; simp only [lsK, hu, Bool.not_true, om]; rw [d9 (by omega), iy h2]; rfl
   ·rw [agn hu hx (yu hq (by omega)) (by omega), yu hq (by omega)]; simp only [lsK, hu, Bool.not_true, om]; rw [d9 (by omega), iy (by omega)]; rfl
   ·obtain ⟨w1, w2, w3, w4, w5, w6⟩ := ah3 w (ab2 ((bst (rd l.a) (rd l.b)).1.toNat + 1) (l.d + min l.t (l.n - l.d))) (by rw [um]; omega)
    rw [atq hu hx (aib hq), aib hq]; simp only [lsK, hu, Bool.not_true, om, w2, w3, w4, w6]; rw [d9 (by omega), iq rfl, e1]
  ·rw [ame hu hx]; simp only [lsK, hu, Bool.not_true, om]; rw [gq (by omega), e1]
 ·have hu' : l.up = false := by simpa using hu
  rw [aop hu']; simp only [lsK, hu', Bool.not_false, qz]; rfl
def nI (l : List Nat) : List Int := l.map fun (x : Nat) => (x : Int)
theorem ahr {l : Ls} {e : Int} (tear : Int) (junk : List Int) (h : nxt l = (e, 0, 0)) (he : e ≠ 0) : tor l tear junk = (l, e) := by
 unfold tor; rw [h]; simp only; rw [if_pos he]
theorem axm {l : Ls} {e d : Nat} (tear : Int) (junk : List Int) (h : nxt l = (0, e, d)) : tor l tear junk = if tear = 0 then (fal l, 0) else if tear = 1 then (fal (lay l (ac2 e d)), 0) else if tear = 2 then (fal (lay l junk), 0) else (l, 8) := by
 unfold tor; rw [h]; rfl
theorem bdb {l : Ls} {e d : Nat} (tear : Int) (junk : List Int) (h0 : (bst (rd l.a) (rd l.b)).2.2.2 = 0) {ρ : Type} (k : List Int → List Int → Int → Option ρ) : bah l.a l.b (ac2 e d) tear junk k = if tear = 0 then k l.a l.b 0 else if tear = 1 then k (lay l (ac2 e d)).a (lay l (ac2 e d)).b 0 else if tear = 2 then k (lay l junk).a (lay l junk).b 0 else k l.a l.b 8 := by
 unfold bah; rw [if_pos h0, ajf l _ h0, ajf l _ h0]
theorem af4 (l : Ls) (c : List Int) : (lay l c).n = l.n ∧ (lay l c).t = l.t := by unfold lay; split <;> exact ⟨rfl, rfl⟩
theorem zq (l : Ls) (h : Lgo l) (kind tear : Int) (junk : List Int) (nj : junk.length ≤ 1000000) {ρ : Type} (k : List Int → List Int → Int → Int → Int → Int → Bool → List Int → Int → Option ρ) : P.zq l.a l.b (l.n : Int) (l.t : Int) (l.x : Int) (l.d : Int) l.up kind tear junk k = lsK (deed l kind tear junk).1 (fun a1 b1 n1 t1 x1 d1 u1 => k a1 b1 n1 t1 x1 d1 u1 (nI (deed l kind tear junk).2.1) (deed l kind tear junk).2.2) := by
 obtain ⟨w, hn, ht, hp⟩ := h
 have hna : l.a.length ≤ 1000000 := by have := w.na; omega
 have hnb : l.b.length ≤ 1000000 := by have := w.nb; omega
 rw [P.aq3]; unfold P.ah0 deed
 by_cases k1 : kind = 1
 ·rw [d9 k1, if_pos k1]
  by_cases hu : l.up = true
  ·obtain ⟨p1, p2⟩ := hp hu
   have hx1 : l.x + 1 < 18446744073709551616 := by omega
   have e1 := bno hx1
   have e2 := br0 hx1
   by_cases hx : l.x = l.d
   ·rcases abb l with ⟨hu', hq⟩ | ⟨_, h1, hq⟩ | ⟨_, h1, h2, hq⟩ | ⟨_, h1, h2, h3, hq⟩ | ⟨_, h1, h2, h3, hq⟩
    ·rw [hu] at hu'; cases hu'
    ·rw [agn hu hx (yu hq (by omega)) (by omega), if_pos (show ((13 : Int) ≠ 0) by omega)]; simp only [lsK, hu, Bool.not_true, om]; rw [d9 (by omega), d9 (by omega)]; rfl
    ·rw [agn hu hx (yu hq h2) h2, if_pos h2]; simp only [lsK, hu, Bool.not_true, om]; rw [d9 (by omega), gq (by omega), dz l.a l.b w.a w.b hna hnb, iy h2, iy h2, iy h2, iy h2]; rfl
    ·rw [agn hu hx (yu hq (by omega)) (by omega), if_pos (show ((8 : Int) ≠ 0) by omega)]; simp only [lsK, hu, Bool.not_true, om]; rw [d9 (by omega), gq (by omega), dz l.a l.b w.a w.b hna hnb, iq h2, dh h3]; rfl
    ·obtain ⟨w1, w2, w3, w4, w5, w6⟩ := ah3 w (ab2 ((bst (rd l.a) (rd l.b)).1.toNat + 1) (l.d + min l.t (l.n - l.d))) (by rw [um]; omega)
     rw [atq hu hx (aib hq), if_neg (by simp)]; simp only [lsK, hu, Bool.not_true, om, w2, w3, w4, w6]; rw [d9 (by omega), gq (by omega), dz l.a l.b w.a w.b hna hnb, iq h2, fu h3, aqn w h3, auq p2 (by omega) (by omega), eu l.a l.b _ _ (ajk h3) (by omega) w.a w.b hna hnb, ajf l _ h2, d9 rfl, iq rfl, e1, e2]; rfl
   ·rw [ame hu hx, if_neg (by simp)]; simp only [lsK, hu, Bool.not_true, om]; rw [gq (by omega), e1, e2]; rfl
  ·have hu' : l.up = false := by simpa using hu
   rw [aop hu', if_pos (show ((21 : Int) ≠ 0) by omega)]; simp only [lsK, hu', Bool.not_false, qz]; rfl
 rw [gq k1, if_neg k1]
 by_cases k3 : kind = 3
 ·rw [d9 k3, if_neg (by omega), if_pos k3]
  rcases abb l with ⟨hu, hx⟩ | ⟨hu, h1, hx⟩ | ⟨hu, h1, h2, hx⟩ | ⟨hu, h1, h2, h3, hx⟩ | ⟨hu, h1, h2, h3, hx⟩
  ·rw [ahr tear junk hx (by omega)]; simp only [lsK, hu, Bool.not_false, qz]; rfl
  ·rw [ahr tear junk hx (by omega)]; simp only [lsK, hu, Bool.not_true, om]; rw [d9 (by omega)]; rfl
  ·rw [ahr tear junk hx h2]; simp only [lsK, hu, Bool.not_true, om]; rw [gq (by omega), dz l.a l.b w.a w.b hna hnb, iy h2, iy h2]; rfl
  ·rw [ahr tear junk hx (by omega)]; simp only [lsK, hu, Bool.not_true, om]; rw [gq (by omega), dz l.a l.b w.a w.b hna hnb, iq h2, dh h3]; rfl
  ·obtain ⟨p1, p2⟩ := hp hu
   rw [axm tear junk hx]; simp only [hu, Bool.not_true, om]; rw [gq (by omega), dz l.a l.b w.a w.b hna hnb, iq h2, fu h3, aqn w h3, auq p2 (by omega) (by omega), jd l.a l.b _ _ tear junk (ajk h3) (by omega) w.a w.b hna hnb nj, bdb tear junk h2]
   by_cases t0 : tear = 0
   ·rw [if_pos t0, if_pos t0, d9 rfl]; rfl
   ·rw [if_neg t0, if_neg t0]
    by_cases t1 : tear = 1
    ·rw [if_pos t1, if_pos t1, d9 rfl]; simp only [lsK, fal, (af4 l _).1, (af4 l _).2]; rfl
    ·rw [if_neg t1, if_neg t1]
     by_cases t2 : tear = 2
     ·rw [if_pos t2, if_pos t2, d9 rfl]; simp only [lsK, fal, (af4 l _).1, (af4 l _).2]; rfl
     ·rw [if_neg t2, if_neg t2, gq (by omega)]; simp only [lsK, hu]; rfl
 rw [gq k3]
 by_cases k4 : kind = 4
 ·rw [d9 k4, if_neg (by omega), if_neg k3, if_pos k4]; rfl
 rw [gq k4]
 by_cases k2 : kind = 2
 ·rw [d9 k2, if_pos k2]
  have hq := o9 l ⟨w, hn, ht, hp⟩ (fun a1 b1 n1 t1 x1 d1 u1 e => k a1 b1 n1 t1 x1 d1 u1 [] e)
  rw [P.aee] at hq; unfold P.abu at hq
  exact hq
 rw [gq k2, if_neg k2, if_neg k3, if_neg k4]
 by_cases k5 : kind = 5
 ·rw [d9 k5, if_pos k5]
  unfold ris
  by_cases hu : l.up = true
  ·rw [if_pos hu]; simp only [lsK, hu, qz]; rfl
  ·have hu' : l.up = false := by simpa using hu
   rw [if_neg hu]; simp only [hu', om]
   rw [je l.a l.b l.n l.t w.a w.b hna hnb]
   by_cases ho : (opn l.a l.b l.n l.t).2 = 0
   ·rw [if_neg (fun h => h ho)]; simp only [lsK, ho]; rw [d9 rfl]; rfl
   ·rw [if_pos ho]; simp only [lsK, hu']; rw [gq ho]; rfl
 ·rw [gq k5, if_neg k5]; rfl
theorem aip (l : Ls) (h : Lgo l) (kind tear : Int) (junk : List Int) (nj : junk.length ≤ 1000000) {ρ : Type} (k : List Int → List Int → Int → Int → Int → Int → Bool → List Int → Int → Option ρ) : P.aip l.a l.b (l.n : Int) (l.t : Int) (l.x : Int) (l.d : Int) l.up kind tear junk k = lsK (deed l kind tear junk).1 (fun a1 b1 n1 t1 x1 d1 u1 => k a1 b1 n1 t1 x1 d1 u1 (nI (deed l kind tear junk).2.1) (deed l kind tear junk).2.2) := by
 have h' := h
 obtain ⟨w, hn, ht, hp⟩ := h
 have hna : l.a.length ≤ 1000000 := by have := w.na; omega
 have hnb : l.b.length ≤ 1000000 := by have := w.nb; omega
 rw [P.au7]; unfold P.amq deed
 by_cases k1 : kind = 1
 ·rw [d9 k1, if_pos k1, zw l h']
  by_cases he : (tak l).2.2 = 0
  ·rw [if_neg (fun h => h he)]; simp only [lsK]; rw [iq he]; rfl
  ·rw [if_pos he]; simp only [lsK]; rw [iy he]; rfl
 rw [gq k1, if_neg k1]
 by_cases k2 : kind = 2
 ·rw [d9 k2, if_pos k2, mq l h']; rfl
 rw [gq k2, if_neg k2]
 by_cases k3 : kind = 3
 ·rw [d9 k3, if_pos k3, aae l h']
  rcases abb l with ⟨hu, hx⟩ | ⟨hu, h1, hx⟩ | ⟨hu, h1, h2, hx⟩ | ⟨hu, h1, h2, h3, hx⟩ | ⟨hu, h1, h2, h3, hx⟩
  ·rw [ahr tear junk hx (by omega), hx, iy (show ¬ (21 : Int) = 0 by omega)]; rfl
  ·rw [ahr tear junk hx (by omega), hx, iy (show ¬ (13 : Int) = 0 by omega)]; rfl
  ·rw [ahr tear junk hx h2, hx, iy h2]; rfl
  ·rw [ahr tear junk hx (by omega), hx, iy (show ¬ (8 : Int) = 0 by omega)]; rfl
  ·obtain ⟨p1, p2⟩ := hp hu
   rw [axm tear junk hx, hx, iq rfl]; dsimp only; rw [aco l.a l.b _ _ tear junk (ajk h3) (by omega) w.a w.b hna hnb, bdb tear junk h2]
   by_cases t0 : tear = 0
   ·rw [if_pos t0, if_pos t0, iq rfl, P.afl]; rfl
   ·rw [if_neg t0, if_neg t0]
    by_cases t1 : tear = 1
    ·rw [if_pos t1, if_pos t1, iq rfl, P.afl]; simp only [lsK, fal, (af4 l _).1, (af4 l _).2]; rfl
    ·rw [if_neg t1, if_neg t1]
     by_cases t2 : tear = 2
     ·rw [if_pos t2, if_pos t2, iq rfl, P.afl]; simp only [lsK, fal, (af4 l _).1, (af4 l _).2]; rfl
     ·rw [if_neg t2, if_neg t2, iy (by omega)]; rfl
 rw [gq k3, if_neg k3]
 by_cases k4 : kind = 4
 ·rw [d9 k4, if_pos k4, P.afl]; rfl
 rw [gq k4, if_neg k4]
 by_cases k5 : kind = 5
 ·rw [d9 k5, if_pos k5]
  unfold ris
  by_cases hu : l.up = true
  ·rw [if_pos hu]; simp only [lsK, hu, qz]; rfl
  ·have hu' : l.up = false := by simpa using hu
   rw [if_neg hu]; simp only [hu', om]
   rw [uz l.a l.b l.n l.t w.a w.b hna hnb]
   by_cases ho : (opn l.a l.b l.n l.t).2 = 0
   ·rw [if_neg (fun h => h ho)]; simp only [lsK, ho]; rw [iq rfl]; rfl
   ·rw [if_pos ho]; simp only [lsK, hu']; rw [iy ho]; rfl
 ·rw [gq k5, if_neg k5]; rfl
end Q
end

section
/- lease: deeds played; what is the same; few; the example. -/
namespace Q
open Go Go.Abs
set_option linter.unusedVariables false
set_option linter.unusedSimpArgs false
theorem bju {l : Ls} (w : Lwf l) (ht : 1 ≤ l.t) (h : (opn l.a l.b l.n l.t).2 = 0) : Lgo (opn l.a l.b l.n l.t).1 ∧ 1 ≤ (opn l.a l.b l.n l.t).1.t := by
 have hl := ayu l.a l.b w.a w.b
 rcases ais l.a l.b l.n l.t with ⟨h1, e⟩ | ⟨h1, h2, e⟩ | ⟨h1, h2, h3, e⟩ | ⟨h1, h2, h3, ⟨h4, e⟩ | ⟨h4, h5, e⟩ | ⟨h4, h5, h6, e⟩ | ⟨h4, h5, h6, e⟩⟩
 ·rw [e] at h; simp at h
 ·rw [e] at h; simp at h
 ·rw [e] at h; simp at h
 ·rw [e] at h; exact absurd h h4
 ·rw [e] at h; simp at h
 ·rw [e] at h; simp at h
 ·rw [e]
  exact ⟨⟨{ a := w.a, b := w.b, na := w.na, nb := w.nb, n := w.n, t := w.t, x := by simp only; omega, d := by simp only; omega }, by simp only; omega, by simp only; omega, fun _ => ⟨Nat.le_refl _, by simp only; omega⟩⟩, ht⟩
theorem bgo {l : Ls} (h : Lgo l) : Lgo (res l).1 ∧ (res l).1.t = l.t ∧ (res l).1.x = l.x ∧ (res l).1.n = l.n := by
 have h' := h
 obtain ⟨w, hn, ht, hp⟩ := h
 rcases abb l with ⟨hu, hx⟩ | ⟨hu, h1, hx⟩ | ⟨hu, h1, h2, hx⟩ | ⟨hu, h1, h2, h3, hx⟩ | ⟨hu, h1, h2, h3, hx⟩
 ·rw [yu hx (by omega)]; exact ⟨h', rfl, rfl, rfl⟩
 ·rw [yu hx (by omega)]; exact ⟨h', rfl, rfl, rfl⟩
 ·rw [yu hx h2]; exact ⟨h', rfl, rfl, rfl⟩
 ·rw [yu hx (by omega)]; exact ⟨h', rfl, rfl, rfl⟩
 ·obtain ⟨p1, p2⟩ := hp hu
  obtain ⟨w1, w2, w3, w4, w5, w6⟩ := ah3 w (ab2 ((bst (rd l.a) (rd l.b)).1.toNat + 1) (l.d + min l.t (l.n - l.d))) (by rw [um]; omega)
  rw [aib hx]
  exact ⟨⟨{ w1 with d := by simp only; omega }, by simp only; omega, by simp only; omega, fun _ => by simp only; omega⟩, w3, w4, w2⟩
theorem bgh {l : Ls} (h : Lgo l) (h0 : 1 ≤ l.t) : Lgo (tak l).1 ∧ (tak l).1.t = l.t := by
 have h' := h
 obtain ⟨w, hn, ht, hp⟩ := h
 by_cases hu : l.up = true
 ·obtain ⟨p1, p2⟩ := hp hu
  by_cases hx : l.x = l.d
  ·rcases abb l with ⟨hu', hq⟩ | ⟨_, h1, hq⟩ | ⟨_, h1, h2, hq⟩ | ⟨_, h1, h2, h3, hq⟩ | ⟨_, h1, h2, h3, hq⟩
   ·rw [hu] at hu'; cases hu'
   ·rw [agn hu hx (yu hq (by omega)) (by omega)]; exact ⟨h', rfl⟩
   ·rw [agn hu hx (yu hq h2) h2]; exact ⟨h', rfl⟩
   ·rw [agn hu hx (yu hq (by omega)) (by omega)]; exact ⟨h', rfl⟩
   ·obtain ⟨w1, w2, w3, w4, w5, w6⟩ := ah3 w (ab2 ((bst (rd l.a) (rd l.b)).1.toNat + 1) (l.d + min l.t (l.n - l.d))) (by rw [um]; omega)
    rw [atq hu hx (aib hq)]
    exact ⟨⟨{ w1 with d := by simp only; omega, x := by simp only; omega }, by simp only; omega, by simp only; omega, fun _ => by simp only; omega⟩, w3⟩
  ·rw [ame hu hx]
   exact ⟨⟨{ w with x := by simp only; omega }, hn, ht, fun _ => by simp only; omega⟩, rfl⟩
 ·rw [aop (by simpa using hu)]; exact ⟨h', rfl⟩
theorem ayy {l : Ls} (h : Lgo l) : Lgo (fal l) := ⟨{ h.wf with x := z64, d := z64 }, h.n, h.t, fun h => (by cases h)⟩
theorem bgu {l : Ls} (h : Lgo l) {c : List Int} (hc : In 256 c) (nc : c.length ≤ 1000) : Lgo (lay l c) := by
 obtain ⟨w1, w2, w3, w4, w5, w6⟩ := ah3 h.wf hc nc
 exact ⟨w1, by rw [w2]; exact h.n, by rw [w3]; exact h.t, fun hu => by rw [w4, w5, w2]; exact h.up (by rw [← w6]; exact hu)⟩
theorem bjj {l : Ls} (h : Lgo l) (tear : Int) (junk : List Int) (hj : In 256 junk) (nj : junk.length ≤ 1000) : Lgo (tor l tear junk).1 ∧ (tor l tear junk).1.t = l.t := by
 rcases abb l with ⟨hu, hx⟩ | ⟨hu, h1, hx⟩ | ⟨hu, h1, h2, hx⟩ | ⟨hu, h1, h2, h3, hx⟩ | ⟨hu, h1, h2, h3, hx⟩
 ·rw [ahr tear junk hx (by omega)]; exact ⟨h, rfl⟩
 ·rw [ahr tear junk hx (by omega)]; exact ⟨h, rfl⟩
 ·rw [ahr tear junk hx h2]; exact ⟨h, rfl⟩
 ·rw [ahr tear junk hx (by omega)]; exact ⟨h, rfl⟩
 ·rw [axm tear junk hx]
  by_cases t0 : tear = 0
  ·rw [if_pos t0]; exact ⟨ayy h, rfl⟩
  ·rw [if_neg t0]
   by_cases t1 : tear = 1
   ·rw [if_pos t1]; exact ⟨ayy (bgu h (ab2 _ _) (by rw [um]; omega)), (af4 l _).2⟩
   ·rw [if_neg t1]
    by_cases t2 : tear = 2
    ·rw [if_pos t2]; exact ⟨ayy (bgu h hj nj), (af4 l _).2⟩
    ·rw [if_neg t2]; exact ⟨h, rfl⟩
theorem bnw {l : Ls} (h : (opn l.a l.b l.n l.t).2 = 0) : (opn l.a l.b l.n l.t).1.t = l.t := by
 rcases ais l.a l.b l.n l.t with ⟨h1, e⟩ | ⟨h1, h2, e⟩ | ⟨h1, h2, h3, e⟩ | ⟨h1, h2, h3, ⟨h4, e⟩ | ⟨h4, h5, e⟩ | ⟨h4, h5, h6, e⟩ | ⟨h4, h5, h6, e⟩⟩
 ·rw [e] at h; simp at h
 ·rw [e] at h; simp at h
 ·rw [e] at h; simp at h
 ·rw [e] at h; exact absurd h h4
 ·rw [e] at h; simp at h
 ·rw [e] at h; simp at h
 ·rw [e]
theorem bkg {l : Ls} (h : Lgo l) (h0 : 1 ≤ l.t) : Lgo (ris l).1 ∧ (ris l).1.t = l.t := by
 unfold ris
 by_cases hu : l.up = true
 ·rw [if_pos hu]; exact ⟨h, rfl⟩
 ·rw [if_neg hu]
  by_cases ho : (opn l.a l.b l.n l.t).2 = 0
  ·rw [if_neg (fun h => h ho)]; exact ⟨(bju h.wf h0 ho).1, bnw ho⟩
  ·rw [if_pos ho]; exact ⟨h, rfl⟩
theorem bd7 {l : Ls} (h : Lgo l) (h0 : 1 ≤ l.t) (kind tear : Int) (junk : List Int) (hj : In 256 junk) (nj : junk.length ≤ 1000) : Lgo (deed l kind tear junk).1 ∧ 1 ≤ (deed l kind tear junk).1.t ∧ (deed l kind tear junk).2.1.length ≤ 1 := by
 unfold deed
 by_cases k1 : kind = 1
 ·rw [if_pos k1]
  have := bgh h h0
  by_cases he : (tak l).2.2 = 0
  ·rw [if_neg (fun h => h he)]; exact ⟨this.1, by rw [this.2]; exact h0, by simp⟩
  ·rw [if_pos he]; exact ⟨this.1, by rw [this.2]; exact h0, by simp⟩
 rw [if_neg k1]
 by_cases k2 : kind = 2
 ·rw [if_pos k2]; have := bgo h; exact ⟨this.1, by rw [this.2.1]; exact h0, by simp⟩
 rw [if_neg k2]
 by_cases k3 : kind = 3
 ·rw [if_pos k3]; have := bjj h tear junk hj nj; exact ⟨this.1, by rw [this.2]; exact h0, by simp⟩
 rw [if_neg k3]
 by_cases k4 : kind = 4
 ·rw [if_pos k4]; exact ⟨ayy h, h0, by simp⟩
 rw [if_neg k4]
 by_cases k5 : kind = 5
 ·rw [if_pos k5]; have := bkg h h0; exact ⟨this.1, by rw [this.2]; exact h0, by simp⟩
 ·rw [if_neg k5]; exact ⟨h, h0, by simp⟩
def pst (l : Ls) (ks ts : List Int) (js : List (List Int)) : Nat → Ls × List Int
 | 0 => (l, [])
 | i + 1 => ((deed (pst l ks ts js i).1 (ks.getD i 0) (ts.getD i 0) (js.getD i [])).1, (pst l ks ts js i).2 ++ nI (deed (pst l ks ts js i).1 (ks.getD i 0) (ts.getD i 0) (js.getD i [])).2.1)
theorem bcu {l : Ls} (h : Lgo l) (h0 : 1 ≤ l.t) (ks ts : List Int) {js : List (List Int)} {N : Nat} (hj : ∀ i, i < N → In 256 (js.getD i []) ∧ (js.getD i []).length ≤ 1000) : ∀ i, i ≤ N → Lgo (pst l ks ts js i).1 ∧ 1 ≤ (pst l ks ts js i).1.t ∧ (pst l ks ts js i).2.length ≤ i
 | 0, _ => ⟨h, h0, by simp [pst]⟩
 | i + 1, hi => by
  obtain ⟨a1, a2, a3⟩ := bcu h h0 ks ts hj i (by omega)
  obtain ⟨b1, b2, b3⟩ := bd7 a1 a2 (ks.getD i 0) (ts.getD i 0) _ (hj i (by omega)).1 (hj i (by omega)).2
  exact ⟨b1, b2, by simp only [pst, nI, List.length_append, List.length_map]; omega⟩
theorem zk (l : Ls) (h : Lgo l) (h0 : 1 ≤ l.t) (N : Nat) (hN : N ≤ 60) (ks ts : List Int) (js : List (List Int)) (hj : ∀ i, i < N → In 256 (js.getD i []) ∧ (js.getD i []).length ≤ 1000) {ρ : Type} (k : List Int → List Int → Int → Int → Int → Int → Bool → List Int → Option ρ) : P.zk l.a l.b (l.n : Int) (l.t : Int) (l.x : Int) (l.d : Int) l.up N ks ts js k = lsK (pst l ks ts js N).1 (fun a1 b1 n1 t1 x1 d1 u1 => k a1 b1 n1 t1 x1 d1 u1 (pst l ks ts js N).2) := by
 have hg := bcu h h0 ks ts hj
 rw [P.alm]; unfold P.af7
 rw [P.aoe]; unfold P.al4 P.bm7 P.bk7 P.bqv
 refine ab1 (fun i => (N, ks, ts, js, (N : Int), (i : Int), (pst l ks ts js i).2, (pst l ks ts js i).1.a, (pst l ks ts js i).1.b, ((pst l ks ts js i).1.n : Int), ((pst l ks ts js i).1.t : Int), ((pst l ks ts js i).1.x : Int), ((pst l ks ts js i).1.d : Int), (pst l ks ts js i).1.up, 0, 0, 0, 0, false)) N rfl (fun i hi next hnx => ?_) (fun next => ?_) (by omega)
 ·obtain ⟨a1, a2, a3⟩ := hg i (by omega)
  obtain ⟨b1, b2, b3⟩ := hg (i + 1) (by omega)
  simp only [P.ag7]
  rw [dh (by omega), dh (by omega), dh (by omega), toNat_cast, zq _ a1 _ _ _ (by have := (hj i hi).2; omega)]
  simp only [lsK]
  rw [dh (by have : (pst l ks ts js (i + 1)).2.length ≤ i + 1 := b3; simp only [pst, List.length_append] at this; omega), aah (by omega) (by omega)]
  exact hnx
 ·simp only [P.ag7]
  rw [fu (by omega)]
  rfl
theorem tu (a b : List Int) (h : a.length ≤ 140737488355328) {ρ : Type} (k : Bool → Option ρ) : P.tu a b k = k (decide (a = b)) := by
 rw [P.aif]
 unfold P.aea
 by_cases hl : a.length = b.length
 ·rw [iq (by omega), P.aly]
  unfold P.ai5 P.bms P.bj2 P.brs
  have := ave hl h (fun _ _ _ => k true) k a.length 0 (by omega) (stp := (fun x next ex => P.afk x.1 x.2.1 x.2.2 (fun v0 v1 v5 => next (v0, v1, v5)) (fun v0 v1 v5 => ex (.inl (v0, v1, v5))) (fun v4 => ex (.inr v4)))) (K := Sum.elim (fun _ => k true) k) (by
   intro j next
   simp only [P.afk, Sum.elim_inl, Sum.elim_inr]
   by_cases hj : (j : Int) < (a.length : Int)
   ·simp only [dh hj]
    simp (disch := omega) only [dh, fu, iy, iq, d9, gq, qp, qz, om, aah, toNat_cast]
    rfl
   ·simp only [fu hj])
  simp only [List.drop_zero] at this
  refine this.trans ?_
  by_cases hab : a = b
  ·rw [if_pos hab, decide_eq_true hab]
  ·rw [if_neg hab, decide_eq_false hab]
 ·rw [iy (by omega), decide_eq_false (fun e => hl (by rw [e]))]
theorem su (l : Ls) (ha : l.a.length ≤ 140737488355328) (hb : l.b.length ≤ 140737488355328) {ρ : Type} (k : Bool → Option ρ) : P.su l.a l.b (l.n : Int) (l.t : Int) (l.x : Int) (l.d : Int) l.up l.a l.b (l.n : Int) (l.t : Int) (l.x : Int) (l.d : Int) l.up k = k true := by
 rw [P.aj1]; unfold P.af2
 rw [ab6 _ _ _ _ ha hb, decide_eq_true ⟨rfl, rfl⟩, qz, d9 rfl, d9 rfl, d9 rfl, d9 rfl]
 simp
theorem ba2 (l : Ls) (w : Lwf l) : ∃ v : Bool, (v = true → Lgo l ∧ 1 ≤ l.t) ∧ ∀ {ρ : Type} (k : Bool → Option ρ), P.ag9 l.a l.b (l.n : Int) (l.t : Int) (l.x : Int) (l.d : Int) l.up k = k v := by
 have hna : l.a.length ≤ 1000000 := by have := w.na; omega
 have hnb : l.b.length ≤ 1000000 := by have := w.nb; omega
 have fl : ∀ {v : Bool}, v = false → (v = true → Lgo l ∧ 1 ≤ l.t) := fun h h' => (by rw [h] at h'; cases h')
 by_cases h1 : l.t < 1
 ·exact ⟨false, fl rfl, fun k => by rw [P.y7]; unfold P.uq; rw [dh (by omega)]⟩
 by_cases h2 : l.t > 4294967296
 ·exact ⟨false, fl rfl, fun k => by rw [P.y7]; unfold P.uq; rw [fu (by omega), dh (by omega)]⟩
 by_cases h3 : l.n > 1152921504606846976
 ·exact ⟨false, fl rfl, fun k => by rw [P.y7]; unfold P.uq; rw [fu (by omega), fu (by omega), dh (by omega)]⟩
 by_cases hu : l.up = true
 ·by_cases h4 : (bst (rd l.a) (rd l.b)).2.2.2 = 0
  ·by_cases h5 : (bst (rd l.a) (rd l.b)).2.1 = (l.d : Int)
   ·by_cases h6 : l.x ≤ l.d
    ·by_cases h7 : l.d ≤ l.n
     ·exact ⟨true, fun _ => ⟨⟨w, by omega, by omega, fun _ => ⟨h6, h7⟩⟩, by omega⟩, fun k => by
        rw [P.y7]; unfold P.uq; rw [fu (by omega), fu (by omega), fu (by omega), hu]; simp only [Bool.not_true, om]; rw [l8 l.a l.b w.a w.b hna hnb, d9 h4, d9 h5, dh (by omega), decide_eq_true (by omega)]⟩
     ·exact ⟨false, fl rfl, fun k => by
        rw [P.y7]; unfold P.uq; rw [fu (by omega), fu (by omega), fu (by omega), hu]; simp only [Bool.not_true, om]; rw [l8 l.a l.b w.a w.b hna hnb, d9 h4, d9 h5, dh (by omega), decide_eq_false (by omega)]⟩
    ·exact ⟨false, fl rfl, fun k => by
       rw [P.y7]; unfold P.uq; rw [fu (by omega), fu (by omega), fu (by omega), hu]; simp only [Bool.not_true, om]; rw [l8 l.a l.b w.a w.b hna hnb, d9 h4, d9 h5, fu (by omega)]⟩
   ·exact ⟨false, fl rfl, fun k => by
      rw [P.y7]; unfold P.uq; rw [fu (by omega), fu (by omega), fu (by omega), hu]; simp only [Bool.not_true, om]; rw [l8 l.a l.b w.a w.b hna hnb, d9 h4, gq h5]⟩
  ·exact ⟨false, fl rfl, fun k => by
     rw [P.y7]; unfold P.uq; rw [fu (by omega), fu (by omega), fu (by omega), hu]; simp only [Bool.not_true, om]; rw [l8 l.a l.b w.a w.b hna hnb, gq h4]⟩
 ·have hu' : l.up = false := by simpa using hu
  by_cases h4 : l.x = 0
  ·exact ⟨((l.d : Int) == 0), fun _ => ⟨⟨w, by omega, by omega, fun h => (by rw [hu'] at h; cases h)⟩, by omega⟩, fun k => by
     rw [P.y7]; unfold P.uq; rw [fu (by omega), fu (by omega), fu (by omega), hu']; simp only [Bool.not_false, qz]; rw [d9 (by omega)]⟩
  ·exact ⟨false, fl rfl, fun k => by
     rw [P.y7]; unfold P.uq; rw [fu (by omega), fu (by omega), fu (by omega), hu']; simp only [Bool.not_false, qz]; rw [gq (by omega)]⟩
theorem awf (p : Nat → Prop) : ∀ N, (∀ i, i < N → p i) ∨ ∃ i, i < N ∧ ¬ p i ∧ ∀ j, j < i → p j
 | 0 => .inl (fun i h => by omega)
 | N + 1 => by
  rcases awf p N with h | ⟨i, h1, h2, h3⟩
  ·by_cases hp : p N
   ·exact .inl (fun i hi => by
      by_cases e : i = N
      ·rw [e]; exact hp
      ·exact h i (by omega))
   ·exact .inr ⟨N, by omega, hp, h⟩
  ·exact .inr ⟨i, by omega, h2, h3⟩
theorem asu (a b : List Int) (N : Nat) (ks ts : List Int) (js : List (List Int)) : ∃ v : Bool, (v = true → N ≤ 60 ∧ a.length ≤ 300 ∧ b.length ≤ 300 ∧ ∀ i, i < N → (js.getD i []).length ≤ 300) ∧ ∀ {ρ : Type} (k : Bool → Option ρ), P.agi a b N ks ts js k = k v := by
 by_cases h1 : N > 60
 ·exact ⟨false, fun h => (by cases h), fun k => by rw [P.aes]; unfold P.ace; rw [dh (by omega)]⟩
 by_cases h2 : a.length > 300
 ·exact ⟨false, fun h => (by cases h), fun k => by rw [P.aes]; unfold P.ace; rw [fu (by omega), dh (by omega)]⟩
 by_cases h3 : b.length > 300
 ·exact ⟨false, fun h => (by cases h), fun k => by rw [P.aes]; unfold P.ace; rw [fu (by omega), fu (by omega), dh (by omega)]⟩
 rcases awf (fun i => (js.getD i []).length ≤ 300) N with h | ⟨m, m1, m2, m3⟩
 ·refine ⟨true, fun _ => ⟨by omega, by omega, by omega, h⟩, fun k => ?_⟩
  rw [P.aes]; unfold P.ace
  rw [fu (by omega), fu (by omega), fu (by omega), P.ak8]; unfold P.am3 P.zk1 P.zs1 P.zu1
  refine ab1 (fun i => (N, ks, ts, js, (N : Int), (i : Int))) N rfl (fun i hi next hnx => ?_) (fun next => ?_) (by omega)
  ·have := h i hi
   simp only [P.agm]
   rw [dh (by omega), dh (by omega), dh (by omega), toNat_cast, fu (by omega), aah (by omega) (by omega)]
   exact hnx
  ·simp only [P.agm]
   rw [fu (by omega)]
   rfl
 ·refine ⟨false, fun h => (by cases h), fun k => ?_⟩
  rw [P.aes]; unfold P.ace
  rw [fu (by omega), fu (by omega), fu (by omega), P.ak8]; unfold P.am3 P.zk1 P.zs1 P.zu1
  refine ab1 (fun i => (N, ks, ts, js, (N : Int), (i : Int))) m rfl (fun i hi next hnx => ?_) (fun next => ?_) (by omega)
  ·have := m3 i hi
   simp only [P.agm]
   rw [dh (by omega), dh (by omega), dh (by omega), toNat_cast, fu (by omega), aah (by omega) (by omega)]
   exact hnx
  ·simp only [P.agm]
   rw [dh (by omega), dh (by omega), dh (by omega), toNat_cast, dh (by omega)]
   rfl
end Q
end

section
/- lease: a new one; chapter 29's example. -/
namespace Q
open Go Go.Abs
set_option linter.unusedVariables false
set_option linter.unusedSimpArgs false
theorem zl {ρ : Type} (k : List Int → List Int → Option ρ) : P.zl k = k (ac2 0 0) (ac2 0 0) := by
 rw [P.alc]; unfold P.af8
 rw [show (0 : Int) = ((0 : Nat) : Int) from rfl, l9 0 0 (by omega) (by omega), l9 0 0 (by omega) (by omega)]
theorem afg {ρ : Type} (k : List Int → List Int → Option ρ) : P.afg k = k (ac2 0 0) (ac2 0 0) := by
 rw [P.as8]; unfold P.aki
 rw [show (0 : Int) = ((0 : Nat) : Int) from rfl, nk 0 0 (by omega) (by omega), nk 0 0 (by omega) (by omega)]
theorem xq (n t : Nat) {ρ : Type} (k : List Int → List Int → Int → Int → Int → Int → Bool → Int → Option ρ) : P.xq (n : Int) (t : Int) k = lsK (opn (ac2 0 0) (ac2 0 0) n t).1 (fun a1 b1 n1 t1 x1 d1 u1 => k a1 b1 n1 t1 x1 d1 u1 (opn (ac2 0 0) (ac2 0 0) n t).2) := by
 rw [P.anp]; unfold P.ag5
 rw [zl, je _ _ n t (ab2 0 0) (ab2 0 0) (by rw [um]; omega) (by rw [um]; omega)]
theorem afp (n t : Nat) {ρ : Type} (k : List Int → List Int → Int → Int → Int → Int → Bool → Int → Option ρ) : P.afp (n : Int) (t : Int) k = lsK (opn (ac2 0 0) (ac2 0 0) n t).1 (fun a1 b1 n1 t1 x1 d1 u1 => k a1 b1 n1 t1 x1 d1 u1 (opn (ac2 0 0) (ac2 0 0) n t).2) := by
 rw [P.aso]; unfold P.ake
 rw [afg, uz _ _ n t (ab2 0 0) (ab2 0 0) (by rw [um]; omega) (by rw [um]; omega)]
theorem bmc : bst (rd (ac2 0 0)) (rd (ac2 0 0)) = (0, 0, 0, 0) := by
 rw [bgp 0 0 (by omega) (by omega)]
 simp [bst, upB]
theorem bje {n t : Nat} (hn : n ≤ 1152921504606846976) (ht : 1 ≤ t ∧ t ≤ 4294967296) : opn (ac2 0 0) (ac2 0 0) n t = (⟨ac2 0 0, ac2 0 0, n, t, 0, 0, true⟩, 0) ∧ Lin ⟨ac2 0 0, ac2 0 0, n, t, 0, 0, true⟩ 0 0 := by
 have hl := um 0 0
 constructor
 ·unfold opn
  rw [bmc, if_neg (by omega), if_neg (by simp), if_neg (by simp only; omega)]
  rfl
 ·exact { wf := { a := ab2 0 0, b := ab2 0 0, na := by simp only; omega, nb := by simp only; omega, n := by simp only; omega, t := by simp only; omega, x := by simp only; omega, d := by simp only; omega }, n := hn, t := ht, err := by unfold bq; simp only [bmc], ee := by unfold bq; simp only [bmc]; rfl, eB := by unfold bq; simp only [bmc]; rfl, Bn := Nat.zero_le _, el := Nat.zero_le _, down := fun h => (by cases h), up := fun _ => ⟨rfl, Nat.le_refl _⟩ }
theorem Lin.go {l : Ls} {e B : Nat} (h : Lin l e B) : Lgo l := ⟨h.wf, h.n, h.t.2, fun hu => by have := h.up hu; have := h.Bn; omega⟩
theorem bhh {l : Ls} {e B : Nat} (h : Lin l e B) (hu : l.up = true) (hx : l.x = B) (hB : B < l.n) (he : e < 1152921504606846976) : ∃ l', tak l = (l', l.x, 0) ∧ Lin l' (e + 1) (B + min l.t (l.n - B)) ∧ l'.up = true ∧ l'.x = l.x + 1 ∧ l'.n = l.n ∧ l'.t = l.t := by
 obtain ⟨h1, h2⟩ := h.up hu
 have ht := h.t
 rcases h.res with ⟨r1, r2, r3⟩ | ⟨_, r2, r3, r4, r5, r6, r7, r8, r9⟩
 ·rcases r3 hu with ⟨a, _⟩ | a <;> omega
 ·refine ⟨{ (res l).1 with x := l.x + 1 }, ?_, ?_, r6, rfl, r8, r9⟩
  ·unfold tak
   rw [if_neg (by rw [hu]; simp), if_pos (by omega), if_neg (by rw [r2]; simp)]
  ·have := r5.step r6 (by rw [r7]; omega)
   rw [r7] at this
   exact this
theorem bp1 {l : Ls} {e B : Nat} (h : Lin l e B) (hu : l.up = true) (hx : l.x < B) : ∃ l', tak l = (l', l.x, 0) ∧ Lin l' e B ∧ l'.up = true ∧ l'.x = l.x + 1 ∧ l'.n = l.n ∧ l'.t = l.t := by
 obtain ⟨h1, h2⟩ := h.up hu
 exact ⟨{ l with x := l.x + 1 }, ame hu (by omega), h.step hu hx, hu, rfl, rfl, rfl⟩
theorem bn0 {l : Ls} {e B : Nat} (h : Lin l e B) (hu : l.up = true) (hx : l.x = B) (hB : B = l.n) : tak l = (l, 0, 13) := by
 obtain ⟨h1, h2⟩ := h.up hu
 rcases h.nxt hu with ⟨_, q⟩ | ⟨q, _⟩ | ⟨q, _⟩
 ·exact agn hu (by omega) (yu q (by omega)) (by omega)
 ·omega
 ·omega
theorem azm {l l' : Ls} {x : Nat} (h : tak l = (l', x, 0)) (tear : Int) (junk : List Int) : deed l 1 tear junk = (l', [x], 0) := by
 unfold deed; rw [if_pos rfl, h]; rfl
theorem bln (l : Ls) (tear : Int) (junk : List Int) : deed l 4 tear junk = (fal l, [], 0) := by
 unfold deed; rw [if_neg (by omega), if_neg (by omega), if_neg (by omega), if_pos rfl]
theorem bkm (l : Ls) (tear : Int) (junk : List Int) : deed l 5 tear junk = ((ris l).1, [], (ris l).2) := by
 unfold deed; rw [if_neg (by omega), if_neg (by omega), if_neg (by omega), if_neg (by omega), if_pos rfl]
theorem bag {l m m' : Ls} {ks ts : List Int} {js : List (List Int)} {i : Nat} {o : List Int} {o' : List Nat} {e : Int} (h : pst l ks ts js i = (m, o)) (hd : deed m (ks.getD i 0) (ts.getD i 0) (js.getD i []) = (m', o', e)) : pst l ks ts js (i + 1) = (m', o ++ nI o') := by
 rw [pst, h]; simp only; rw [hd]
theorem uh {ρ : Type} (k : Bool → Option ρ) : P.uh k = k true := by
 obtain ⟨n1, n2⟩ := bje (n := 5) (t := 2) (by omega) (by omega)
 rw [P.an3]; unfold P.agy
 refine (xq 5 2 _).trans ?_
 rw [n1]
 simp only [lsK]
 have hj : ∀ i, i < 6 → In 256 (([[], [], [], [], [], []] : List (List Int)).getD i []) ∧ (([[], [], [], [], [], []] : List (List Int)).getD i []).length ≤ 1000 := by
  intro i hi
  have : (([[], [], [], [], [], []] : List (List Int)).getD i []) = [] := by
   match i, hi with
   | 0, _ => rfl
   | 1, _ => rfl
   | 2, _ => rfl
   | 3, _ => rfl
   | 4, _ => rfl
   | 5, _ => rfl
  rw [this]
  exact ⟨In.nil, by simp⟩
 have hp := fun (k : List Int → List Int → Int → Int → Int → Int → Bool → List Int → Option ρ) => zk ⟨ac2 0 0, ac2 0 0, 5, 2, 0, 0, true⟩ n2.go (by simp only; omega) 6 (by omega) [1, 1, 1, 4, 5, 1] [0, 0, 0, 0, 0, 0] [[], [], [], [], [], []] hj k
 simp only at hp
 have hg := bcu n2.go (show 1 ≤ 2 by omega) [1, 1, 1, 4, 5, 1] [0, 0, 0, 0, 0, 0] hj 6 (Nat.le_refl _)
 obtain ⟨l1, t1, i1, u1, x1, m1, b1⟩ := bhh n2 rfl rfl (by simp only; omega) (by omega)
 simp only [Nat.reduceAdd, Nat.reduceSub, Nat.reduceLeDiff, Nat.min_def, Nat.zero_add, Nat.sub_zero, ite_true] at i1 t1 x1 m1 b1
 obtain ⟨l2, t2, i2, u2, x2, m2, b2⟩ := bp1 i1 u1 (by omega)
 obtain ⟨l3, t3, i3, u3, x3, m3, b3⟩ := bhh i2 u2 (by omega) (by omega) (by omega)
 rw [show 2 + min l2.t (l2.n - 2) = 4 by omega] at i3
 have i4 := i3.fal
 rcases i4.ris with ⟨r1, r2⟩ | ⟨_, _, i5, u5, x5, d5, m5, b5⟩
 ·have := r2 rfl; omega
 have m5' : (ris (fal l3)).1.n = 5 := by rw [m5]; show l3.n = 5; omega
 have b5' : (ris (fal l3)).1.t = 2 := by rw [b5]; show l3.t = 2; omega
 obtain ⟨l6, t6, i6, u6, x6, m6, b6⟩ := bhh i5 u5 x5 (by omega) (by omega)
 rw [b5', m5', show 4 + min 2 (5 - 4) = 5 by omega] at i6
 have t7 := bn0 i6 u6 (by omega) (by omega)
 have s0 : pst ⟨ac2 0 0, ac2 0 0, 5, 2, 0, 0, true⟩ [1, 1, 1, 4, 5, 1] [0, 0, 0, 0, 0, 0] [[], [], [], [], [], []] 0 = (⟨ac2 0 0, ac2 0 0, 5, 2, 0, 0, true⟩, []) := rfl
 have s1 := bag s0 (azm t1 _ _)
 have s2 := bag s1 (azm t2 _ _)
 have s3 := bag s2 (azm t3 _ _)
 have s4 := bag s3 (bln l3 _ _)
 have s5 := bag s4 (bkm (fal l3) _ _)
 have s6 := bag s5 (azm t6 _ _)
 simp only [Nat.reduceAdd] at s6
 rw [hp, s6]
 rw [s6] at hg
 simp only [lsK]
 rw [qy l6 hg.1, t7]
 rw [x5, show l2.x = 2 by omega, x1]
 simp only [lsK, nI, List.map_cons, List.map_nil, List.nil_append, List.cons_append]
 simp [List.getD]
end Q
end

section
/- lease: a lease and deeds as they are given. -/
namespace Q
open Go Go.Abs
set_option linter.unusedVariables false
set_option linter.unusedSimpArgs false
theorem anb {x : Int} (h : wfI .u64 x) : ∃ n : Nat, n < 18446744073709551616 ∧ x = (n : Int) := by
 have := wf_u64 h
 exact ⟨x.toNat, by omega, by omega⟩
theorem bjl (l : List Nat) : (nI l).length = l.length := by simp [nI]
end Q
end
