/-
  ForsGrows, part 23: an interpreter of my own over abstract values, the pure functions, the walks and the plain law.
-/

import Derived.Test.YtjhnljhjpnjieaaGreatDoorForsGrowsV
import Derived.Test.YtjhnljhjpnjieaaGreatDoorForsGrowsK
import Derived.Test.YtjhnljhjpnjieaaGreatDoorForsGrowsL
import Derived.Test.YtjhnljhjpnjieaaGreatDoorForsGrowsI

section
/- fors: a bmp by a stack. -/
namespace Q
open QK
open Go Go.Abs
set_option linter.unusedVariables false
set_option linter.unusedSimpArgs false
def hs (T : List (Nat × List Int)) : List Int := T.map fun x => (x.1 : Int)
def ns (T : List (Nat × List Int)) : List (List Int) := T.map fun x => x.2
theorem ber (T : List (Nat × List Int)) : (hs T).length = T.length := by simp [hs]
theorem bg3 (T : List (Nat × List Int)) : (ns T).length = T.length := by simp [ns]
theorem bh7 (T U : List (Nat × List Int)) : hs (T ++ U) = hs T ++ hs U := by simp [hs]
theorem bmr (T U : List (Nat × List Int)) : ns (T ++ U) = ns T ++ ns U := by simp [ns]
theorem bh5 {α : Type} (l : List α) (d : α) {m : Nat} (h : l.length = m) : bgf m l d = l := by
 subst h
 simp [bgf]
theorem aua {α : Type} (l : List α) (x d : α) {m : Nat} (h : l.length = m) : (l ++ [x]).getD m d = x := by
 subst h
 simp [List.getD_eq_getElem?_getD]
theorem bnr {n : Nat} {H D A K : Int} (hf : aax n H D A K) (sh : Bool) {sec pub a : List Int} (hsec : In 256 sec) (lsec : sec.length = n) (hp : In 256 pub) (np : pub.length = n) (la : a.length = 32) (ha : In 256 a) (z i m : Nat) (hz : z ≤ 14) (hb : (i + 1) * 2 ^ z ≤ 9223372036854775808) (hm : m < 2 ^ z) {ρ : Type} (r : Option ρ)
    (k0 : Int → Int → Int → Int → Nat → (List Int) → (List (List Int)) → Int → Int → Int → Int → Int → Bool → (List Int) → (List Int) → (List Int) → Int → (List Int) → Option ρ)
    (hk : ∀ (T : List (Nat × List Int)) (b : Nat) (y : List Int), T ++ [(b, y)] = stk (fkW n sh pub sec a) (i * 2 ^ z) 64 0 (m + 1) → k0 (z : Int) (i : Int) ((i * 2 ^ z + m : Nat) : Int) (T.length : Int) T.length (hs T) (ns T) n H D A K sh sec pub a (b : Int) y = r) :
    P.adl (z : Int) (i : Int) ((i * 2 ^ z + m : Nat) : Int) ((stk (fkW n sh pub sec a) (i * 2 ^ z) 64 0 m).length : Int) (stk (fkW n sh pub sec a) (i * 2 ^ z) 64 0 m).length (hs (stk (fkW n sh pub sec a) (i * 2 ^ z) 64 0 m)) (ns (stk (fkW n sh pub sec a) (i * 2 ^ z) 64 0 m)) n H D A K sh sec pub a 0 (fkW n sh pub sec a 0 (i * 2 ^ z + m)) k0 = r := by
 have hn : n ≤ 32 := by unfold aax at hf; omega
 have e1 : (i + 1) * 2 ^ z = i * 2 ^ z + 2 ^ z := by rw [Nat.add_mul, Nat.one_mul]
 rw [P.als]; unfold P.ah8 P.bvc P.bq2 P.bxx
 refine bpo (P := fun x => ∃ f b q, f + b = 64 ∧ stk (fkW n sh pub sec a) (i * 2 ^ z) 64 0 (m + 1) = stk (fkW n sh pub sec a) (i * 2 ^ z) f b (q + 1) ∧ (i * 2 ^ z + m) / 2 ^ b = i * 2 ^ z / 2 ^ b + q ∧ (q + 1) * 2 ^ b ≤ 2 ^ z ∧
     x = ((z : Int), (i : Int), ((i * 2 ^ z + m : Nat) : Int), ((stk (fkW n sh pub sec a) (i * 2 ^ z) f b q).length : Int), (stk (fkW n sh pub sec a) (i * 2 ^ z) f b q).length, hs (stk (fkW n sh pub sec a) (i * 2 ^ z) f b q), ns (stk (fkW n sh pub sec a) (i * 2 ^ z) f b q), (n : Int), H, D, A, K, sh, sec, pub, a, (b : Int), fkW n sh pub sec a b (i * 2 ^ z / 2 ^ b + q)))
  (μ := fun x => x.2.2.2.2.1) ?_ ⟨64, 0, m, rfl, rfl, by rw [Nat.pow_zero, Nat.div_one, Nat.div_one], by omega, by rw [Nat.pow_zero, Nat.div_one]; rfl⟩ (by have := axu (fkW n sh pub sec a) (i * 2 ^ z) 64 0 m; simp only; omega)
 rintro _ ⟨f, b, q, hfb, hst, hdv, hle, rfl⟩ next hnx
 have hbz : b ≤ z := by
  have h1 : 2 ^ b ≤ (q + 1) * 2 ^ b := Nat.le_mul_of_pos_left _ (by omega)
  exact (Nat.pow_le_pow_iff_right (by omega)).1 (Nat.le_trans h1 hle)
 obtain ⟨f, rfl⟩ : ∃ g, f = g + 1 := ⟨f - 1, by omega⟩
 have hlen := axu (fkW n sh pub sec a) (i * 2 ^ z) f (b + 1) (q / 2)
 by_cases hq : q % 2 = 1
 ·-- two of one height
  have hb1 : b + 1 ≤ z := by
   have h1 : 2 ^ (b + 1) ≤ (q + 1) * 2 ^ b := by rw [Nat.pow_succ, Nat.mul_comm]; exact Nat.mul_le_mul (by omega) (Nat.le_refl _)
   exact (Nat.pow_le_pow_iff_right (by omega)).1 (Nat.le_trans h1 hle)
  have hev : i * 2 ^ z / 2 ^ b = 2 * (i * 2 ^ z / 2 ^ (b + 1)) := by
   have e2 : i * 2 ^ z = i * 2 ^ (z - (b + 1)) * 2 ^ (b + 1) := by rw [Nat.mul_assoc, ← Nat.pow_add, Nat.sub_add_cancel hb1]
   have e3 : i * 2 ^ z = 2 * (i * 2 ^ (z - (b + 1))) * 2 ^ b := by rw [e2, Nat.pow_succ]; ac_rfl
   rw [e2, Nat.mul_div_cancel _ (Nat.two_pow_pos _), ← e2, e3, Nat.mul_div_cancel _ (Nat.two_pow_pos _)]
  have hidx : (i * 2 ^ z + m) / 2 ^ (b + 1) = i * 2 ^ z / 2 ^ (b + 1) + q / 2 := by
   rw [Nat.pow_succ, ← Nat.div_div_eq_div_mul, hdv, hev]
   rw [Nat.pow_succ]; omega
  have hsm := Nat.div_le_self (i * 2 ^ z + m) (2 ^ (b + 1))
  have hT := bda (fkW n sh pub sec a) (i * 2 ^ z) f b q hq
  generalize hS : stk (fkW n sh pub sec a) (i * 2 ^ z) f (b + 1) (q / 2) = T0 at hT hlen
  have hl1 : (stk (fkW n sh pub sec a) (i * 2 ^ z) (f + 1) b q).length = T0.length + 1 := by rw [hT]; simp
  have hhs : hs (stk (fkW n sh pub sec a) (i * 2 ^ z) (f + 1) b q) = hs T0 ++ [(b : Int)] := by rw [hT, bh7]; rfl
  have hns : ns (stk (fkW n sh pub sec a) (i * 2 ^ z) (f + 1) b q) = ns T0 ++ [fkW n sh pub sec a b (i * 2 ^ z / 2 ^ b + (q - 1))] := by rw [hT, bmr]; rfl
  simp only [P.ad8, hl1, hhs, hns]
  rw [show ((T0.length + 1 : Nat) : Int) - 1 = (T0.length : Int) by omega, qb (x := (T0.length : Int)) (by omega) (by omega), toNat_cast, aua _ _ _ (ber T0), aua _ _ _ (bg3 T0), show (b : Int) + 1 = ((b + 1 : Nat) : Int) by omega, qb (x := ((b + 1 : Nat) : Int)) (by omega) (by omega), toNat_cast, fdiv_pow _ _ _ (by omega), hidx]
  rw [av (by omega), av (by omega), av (by omega), dw rfl, dh (by omega), av (by omega), av (by omega)]
  have hfl : [fkW n sh pub sec a b (i * 2 ^ z / 2 ^ b + (q - 1)), fkW n sh pub sec a b (i * 2 ^ z / 2 ^ b + q)].flatten = fkW n sh pub sec a b (2 * (i * 2 ^ z / 2 ^ (b + 1) + q / 2)) ++ fkW n sh pub sec a b (2 * (i * 2 ^ z / 2 ^ (b + 1) + q / 2) + 1) := by
   rw [hev, show 2 * (i * 2 ^ z / 2 ^ (b + 1)) + (q - 1) = 2 * (i * 2 ^ z / 2 ^ (b + 1) + q / 2) by omega, show 2 * (i * 2 ^ z / 2 ^ (b + 1)) + q = 2 * (i * 2 ^ z / 2 ^ (b + 1) + q / 2) + 1 by omega]
   simp
  rw [aza hf sh hp np la ha (b + 1) _ (by omega) (by omega) _ (by simp) (by rw [hfl]; exact (awp _ _ _ _ _ _ _).app (awp _ _ _ _ _ _ _)) (by rw [hfl, List.length_append, aiw hn, aiw hn]; omega), hfl, av (by omega), av (by omega), Nat.min_eq_left (by omega), List.take_left' (ber T0), List.take_left' (bg3 T0)]
  refine hnx _ ⟨f, b + 1, q / 2, by omega, by rw [hst, bqm _ _ _ _ _ hq], hidx, ?_, ?_⟩ (by simp only [hl1]; omega)
  ·have : (q / 2 + 1) * 2 ^ (b + 1) = (2 * (q / 2) + 2) * 2 ^ b := by rw [Nat.pow_succ, Nat.mul_comm (2 ^ b) 2, ← Nat.mul_assoc]; congr 1; omega
   rw [this, show 2 * (q / 2) + 2 = q + 1 by omega]
   exact hle
  ·rw [hS]
   rfl
 ·-- nothing of this height
  have hT := ayi (fkW n sh pub sec a) (i * 2 ^ z) f b q (by omega)
  have hP := bny (fkW n sh pub sec a) (i * 2 ^ z) f b q (by omega)
  have hge := bmk (fkW n sh pub sec a) (i * 2 ^ z) f (b + 1) (q / 2)
  rw [hT]
  generalize hS : stk (fkW n sh pub sec a) (i * 2 ^ z) f (b + 1) (q / 2) = T0 at hP hge hlen
  have hfin := hk T0 b (fkW n sh pub sec a b (i * 2 ^ z / 2 ^ b + q)) (by rw [hst, hP])
  simp only [P.ad8]
  by_cases h0 : T0.length = 0
  ·rw [dh (by omega)]
   exact hfin
  ·have hlast : ∃ T1 x, T0 = T1 ++ [x] := by
     have hne : T0 ≠ [] := by intro e; rw [e] at h0; exact h0 rfl
     exact ⟨T0.dropLast, T0.getLast hne, (List.dropLast_concat_getLast hne).symm⟩
   obtain ⟨T1, x, rfl⟩ := hlast
   have hx := hge x (by simp)
   have hl1 : (T1 ++ [x]).length = T1.length + 1 := by simp
   have hlk : (hs (T1 ++ [x])).getD T1.length 0 = (x.1 : Int) := by rw [bh7]; exact aua _ _ _ (ber T1)
   rw [hl1] at hfin ⊢
   rw [show ((T1.length + 1 : Nat) : Int) - 1 = (T1.length : Int) by omega, qb (x := (T1.length : Int)) (by omega) (by omega), toNat_cast, hlk, av (by omega), av (by omega), av (by omega), dz (by omega)]
   exact hfin
theorem bat {n : Nat} {H D A K : Int} (hf : aax n H D A K) (sh : Bool) {sec pub a : List Int} (hsec : In 256 sec) (lsec : sec.length = n) (hp : In 256 pub) (np : pub.length = n) (la : a.length = 32) (ha : In 256 a) (z i : Nat) (hz : z ≤ 14) (hb : (i + 1) * 2 ^ z ≤ 9223372036854775808) {ρ : Type} (k : List Int → Option ρ) : P.iw (n : Int) H D A K sh sec pub a (z : Int) (i : Int) k = k (fkW n sh pub sec a z i) := by
 have hn : n ≤ 32 := by unfold aax at hf; omega
 have e1 : (i + 1) * 2 ^ z = i * 2 ^ z + 2 ^ z := by rw [Nat.add_mul, Nat.one_mul]
 have h1 : 1 ≤ 2 ^ z := Nat.two_pow_pos z
 have h2 : i + 1 ≤ (i + 1) * 2 ^ z := Nat.le_mul_of_pos_right _ h1
 rw [P.ah3]; unfold P.acz
 rw [dh (by omega), toNat_cast, arp i z (by omega) (by omega), P.alo]; unfold P.ah1 P.bvk P.buk P.b1x
 refine zo (fun j => ((z : Int), (i : Int), ((i * 2 ^ z + j : Nat) : Int), (stk (fkW n sh pub sec a) (i * 2 ^ z) 64 0 j).length, hs (stk (fkW n sh pub sec a) (i * 2 ^ z) 64 0 j), ns (stk (fkW n sh pub sec a) (i * 2 ^ z) 64 0 j), (n : Int), H, D, A, K, sh, sec, pub, a)) (2 ^ z) (by rw [bls]; rfl) (fun j hj next hnx => ?_) (fun next => ?_) (by have : 2 ^ z ≤ 2 ^ 14 := Nat.pow_le_pow_right (by omega) hz; omega)
 ·simp only [P.adp, toNat_cast]
  rw [dh (by omega), show (i : Int) + 1 = ((i + 1 : Nat) : Int) by omega, ahp (i + 1) (by omega), arp (i + 1) z (by omega) (by omega), av (by omega), bjf hf sh hp np la ha hsec lsec _ (by omega)]
  have hfl : [lfF n sh pub sec a (i * 2 ^ z + j)].flatten = lfF n sh pub sec a (i * 2 ^ z + j) := by simp
  rw [show ∀ (x : Int) (l : List (List Int)) (kk : List Int → Option ρ), P.nk (n : Int) H D A K sh sec pub a 0 x l kk = P.nk (n : Int) H D A K sh sec pub a ((0 : Nat) : Int) x l kk from fun _ _ _ => rfl,
   aza hf sh hp np la ha 0 _ (by omega) (by omega) _ (by simp) (by rw [hfl]; exact bms _ _ _ _ _ _) (by rw [hfl, bh2 hn]; omega), hfl]
  refine bnr hf sh hsec lsec hp np la ha z i j hz hb hj _ _ (fun T b y hT => ?_)
  have hl := axu (fkW n sh pub sec a) (i * 2 ^ z) 64 0 (j + 1)
  rw [← hT] at hl
  have hl1 : (T ++ [(b, y)]).length = T.length + 1 := by simp
  rw [av (by omega), bh5 _ _ (ber T), bh5 _ _ (bg3 T), show ((i * 2 ^ z + j : Nat) : Int) + 1 = ((i * 2 ^ z + (j + 1) : Nat) : Int) by omega, ahp _ (by omega)]
  rw [← hT, hl1, bh7, bmr] at hnx
  exact hnx
 ·simp only [P.adp, toNat_cast]
  rw [dh (by omega), show (i : Int) + 1 = ((i + 1 : Nat) : Int) by omega, ahp (i + 1) (by omega), arp (i + 1) z (by omega) (by omega), dh (by omega), bev _ _ _ _ _ (by omega), Nat.zero_add, Nat.mul_div_cancel _ h1, av (by simp)]
  rfl
end Q
end

section
/- fors: knots and keys, by the program and by the document. -/
namespace Q
open QK
open Go Go.Abs
set_option linter.unusedVariables false
set_option linter.unusedSimpArgs false
theorem bjt {n : Nat} {H D A K : Int} (hf : aax n H D A K) : ∃ A' K' : Nat, A = (A' : Int) ∧ K = (K' : Int) ∧ 1 ≤ A' ∧ A' ≤ 14 ∧ 1 ≤ K' ∧ K' ≤ 40 := by
 unfold aax at hf
 exact ⟨A.toNat, K.toNat, by omega, by omega, by omega, by omega, by omega, by omega⟩
theorem pz {n : Nat} {H D A K : Int} (hf : aax n H D A K) (sh : Bool) (sec pub : List Int) {ρ : Type} (k : Bool → Option ρ) : P.pz (n : Int) H D A K sh sec pub k = k (!decide (sec.length = n ∧ pub.length = n)) := by
 rw [P.arx]; unfold P.aj6
 rw [vk, decide_eq_true hf, ku, p8]
 by_cases h1 : sec.length = n
 ·rw [fq (by omega)]
  by_cases h2 : pub.length = n
  ·rw [decide_eq_true ⟨h1, h2⟩, h2]; simp
  ·rw [decide_eq_false (fun h => h2 h.2)]
   congr 1
   have : (pub.length : Int) ≠ (n : Int) := by omega
   simpa using this
 ·rw [gu (by omega), decide_eq_false (fun h => h1 h.1)]
  rfl
theorem gy {n : Nat} {H D A K : Int} (hf : aax n H D A K) (sh : Bool) (sec pub a : List Int) {ρ : Type} (k : Int → Int → Int → Int → Int → Bool → List Int → List Int → List Int → Bool → Option ρ) : P.gy (n : Int) H D A K sh sec pub a k = k n H D A K sh sec pub a (decide (sec.length = n ∧ pub.length = n)) := by
 rw [P.ali]; unfold P.afw
 rw [uf, decide_eq_true hf, p8]
 by_cases h1 : sec.length = n
 ·rw [dw (by omega)]
  by_cases h2 : pub.length = n
  ·rw [decide_eq_true ⟨h1, h2⟩, h2]; simp
  ·rw [decide_eq_false (fun h => h2 h.2)]
   congr 1
   have : (pub.length : Int) ≠ (n : Int) := by omega
   simpa using this
 ·rw [dz (by omega), decide_eq_false (fun h => h1 h.1)]
def szF (n A K : Nat) : Nat := K * (n * (A + 1))
def txF (A K : Nat) : Nat := (K * A + 7) / 8
theorem aw4 {n A K : Nat} (hn : n ≤ 32) (hA : A ≤ 14) (hK : K ≤ 40) : IntKind.i64.wrap (IntKind.i64.wrap ((n : Int) * (K : Int)) * IntKind.i64.wrap ((A : Int) + (1 : Int))) = ((szF n A K : Nat) : Int) ∧ IntKind.i64.wrap ((IntKind.i64.wrap (IntKind.i64.wrap ((K : Int) * (A : Int)) + (7 : Int))).tdiv (8 : Int)) = ((txF A K : Nat) : Int) := by
 have h1 : n * K ≤ 32 * 40 := Nat.mul_le_mul hn hK
 have h2 : n * K * (A + 1) ≤ 32 * 40 * 15 := Nat.mul_le_mul h1 (by omega)
 have h3 : K * A ≤ 40 * 14 := Nat.mul_le_mul hK hA
 constructor
 ·rw [show (n : Int) * (K : Int) = ((n * K : Nat) : Int) by rw [Int.natCast_mul], qb (x := ((n * K : Nat) : Int)) (by omega) (by omega), qb (x := (A : Int) + 1) (by omega) (by omega), show (A : Int) + 1 = ((A + 1 : Nat) : Int) by omega, ← Int.natCast_mul, qb (by omega) (by omega)]
  congr 1
  unfold szF
  rw [Nat.mul_comm n K, Nat.mul_assoc]
 ·rw [show (K : Int) * (A : Int) = ((K * A : Nat) : Int) by rw [Int.natCast_mul], qb (x := ((K * A : Nat) : Int)) (by omega) (by omega), qb (x := ((K * A : Nat) : Int) + 7) (by omega) (by omega), Int.tdiv_eq_ediv_of_nonneg (by omega), qb (by omega) (by omega)]
  unfold txF
  omega
theorem ko {n A K : Nat} {H D : Int} (hf : aax n H D A K) (sh : Bool) {ρ : Type} (k : Int → Int → Option ρ) : P.ko (n : Int) H D A K sh k = k (szF n A K : Nat) (txF A K : Nat) := by
 have hq := hf
 unfold aax at hq
 obtain ⟨e1, e2⟩ := aw4 (n := n) (A := A) (K := K) (by omega) (by omega) (by omega)
 rw [P.alg]; unfold P.agl
 rw [uf, decide_eq_true hf, ku, p8, e1, e2]
theorem acv {n A K : Nat} {H D : Int} (hf : aax n H D A K) (sh : Bool) {ρ : Type} (k : Int → Int → Option ρ) : P.acv (n : Int) H D A K sh k = k (szF n A K : Nat) (txF A K : Nat) := by
 have hq := hf
 unfold aax at hq
 obtain ⟨e1, e2⟩ := aw4 (n := n) (A := A) (K := K) (by omega) (by omega) (by omega)
 rw [P.anq]; unfold P.ah2
 rw [vk, decide_eq_true hf, ku, p8, e1, e2]
theorem b0n {A K z : Nat} (hA : A ≤ 14) (hK : K ≤ 40) : K * 2 ^ (A - z) ≤ 655360 := by
 have h1 : 2 ^ (A - z) ≤ 2 ^ 14 := Nat.pow_le_pow_right (by omega) (by omega)
 have := Nat.mul_le_mul hK h1
 omega
theorem bmu {A K z i : Nat} (hA : A ≤ 14) (hK : K ≤ 40) (hz : z ≤ A) (hi : i < K * 2 ^ (A - z)) : (i + 1) * 2 ^ z ≤ 655360 := by
 have h1 : (i + 1) * 2 ^ z ≤ K * 2 ^ (A - z) * 2 ^ z := Nat.mul_le_mul hi (Nat.le_refl _)
 rw [Nat.mul_assoc, ← Nat.pow_add, Nat.sub_add_cancel hz] at h1
 have h2 : 2 ^ A ≤ 2 ^ 14 := Nat.pow_le_pow_right (by omega) hA
 have := Nat.mul_le_mul hK h2
 omega
theorem uo {n A K : Nat} {H D : Int} (hf : aax n H D A K) (sh : Bool) {sec pub a : List Int} (hsec : In 256 sec) (lsec : sec.length = n) (hp : In 256 pub) (np : pub.length = n) (la : a.length = 32) (ha : In 256 a) : ∀ (z i m : Nat), z < m → z ≤ A → i < K * 2 ^ (A - z) → ∀ {ρ : Type} (k : List Int → Option ρ), P.uo m (n : Int) H D A K sh sec pub a (z : Int) (i : Int) k = k (fkW n sh pub sec a z i)
 | z, i, 0, hm, hz, hi, ρ, k => by omega
 | 0, i, m + 1, hm, hz, hi, ρ, k => by
  have hq := hf
  unfold aax at hq
  have hk := b0n (A := A) (K := K) (z := 0) (by omega) (by omega)
  rw [P.ac9]; unfold P.aaj
  rw [pz hf, decide_eq_true ⟨lsec, np⟩, show (!true) = false from rfl, qd, dh (by omega), dh (by omega), qb (x := (A : Int) - ((0 : Nat) : Int)) (by omega) (by omega), dh (by omega), show ((A : Int) - ((0 : Nat) : Int)).toNat = A - 0 by omega, ahp K (by omega), arp K (A - 0) (by omega) (by omega), dh (by omega), dw (show ((0 : Nat) : Int) = 0 from rfl),
   show P.abj (ρ := ρ) a 3 0 (i : Int) = P.abj a ((3 : Nat) : Int) ((0 : Nat) : Int) (i : Int) from rfl, abj hf hp np la ha 3 0 i (by omega) (by omega) (by omega), show asl (asl (ofA a 3) 4 0) 5 i = ktA a 0 i from rfl, adk hf sh hp np la ha hsec lsec i (by omega), zi hf sh pub hp np _ _ (bca la 0 i) (bir ha 0 i) (bms _ _ _ _ _ _) (by rw [bh2 (by omega)]; omega)]
  rfl
 | z + 1, i, m + 1, hm, hz, hi, ρ, k => by
  have hq := hf
  unfold aax at hq
  have hn : n ≤ 32 := by omega
  have hk := b0n (A := A) (K := K) (z := z + 1) (by omega) (by omega)
  have e2 : K * 2 ^ (A - z) = 2 * (K * 2 ^ (A - (z + 1))) := by rw [show A - z = A - (z + 1) + 1 by omega, Nat.pow_succ, ← Nat.mul_assoc, Nat.mul_comm]
  rw [P.ac9]; unfold P.aaj
  have hfl : [fkW n sh pub sec a z (2 * i), fkW n sh pub sec a z (2 * i + 1)].flatten = fkW n sh pub sec a z (2 * i) ++ fkW n sh pub sec a z (2 * i + 1) := by simp
  rw [pz hf, decide_eq_true ⟨lsec, np⟩, show (!true) = false from rfl, qd, dh (by omega), dh (by omega), qb (x := (A : Int) - ((z + 1 : Nat) : Int)) (by omega) (by omega), dh (by omega), show ((A : Int) - ((z + 1 : Nat) : Int)).toNat = A - (z + 1) by omega, ahp K (by omega), arp K (A - (z + 1)) (by omega) (by omega), dh (by omega), dz (by omega),
   show ((z + 1 : Nat) : Int) - 1 = (z : Int) by omega, qb (by omega) (by omega), show (2 : Int) * (i : Int) = ((2 * i : Nat) : Int) by omega, ahp (2 * i) (by omega), show ((2 * i : Nat) : Int) + 1 = ((2 * i + 1 : Nat) : Int) by omega, ahp (2 * i + 1) (by omega),
   uo hf sh hsec lsec hp np la ha z (2 * i) m (by omega) (by omega) (by omega), uo hf sh hsec lsec hp np la ha z (2 * i + 1) m (by omega) (by omega) (by omega),
   show P.abj (ρ := ρ) a 3 ((z + 1 : Nat) : Int) (i : Int) = P.abj a ((3 : Nat) : Int) ((z + 1 : Nat) : Int) (i : Int) from rfl, abj hf hp np la ha 3 (z + 1) i (by omega) (by omega) (by omega), show asl (asl (ofA a 3) 4 (z + 1)) 5 i = ktA a (z + 1) i from rfl, l8 _ (by simp) (by rw [hfl, List.length_append, aiw hn, aiw hn]; omega), hfl,
   zi hf sh pub hp np _ _ (bca la (z + 1) i) (bir ha (z + 1) i) ((awp _ _ _ _ _ _ _).app (awp _ _ _ _ _ _ _)) (by rw [List.length_append, aiw hn, aiw hn]; omega)]
  rfl
theorem uq {n A K : Nat} {H D : Int} (hf : aax n H D A K) (sh : Bool) {sec pub a : List Int} (hsec : In 256 sec) (lsec : sec.length = n) (hp : In 256 pub) (np : pub.length = n) (la : a.length = 32) (ha : In 256 a) {ρ : Type} (k : List Int → Option ρ) : P.uq (n : Int) H D A K sh sec pub a k = k (kyF n sh pub a (cat (fkW n sh pub sec a A) K)) := by
 have hq := hf
 unfold aax at hq
 have hn : n ≤ 32 := by omega
 have hl := bcz (T := fkW n sh pub sec a A) (fun i => aiw hn sh pub sec a A i)
 rw [P.ais]; unfold P.adu
 rw [gy hf, decide_eq_true ⟨lsec, np⟩, ku, p8, P.aqp]; unfold P.amw P.buu P.bte P.bxl
 refine zo (fun j => ((K : Int), (j : Int), cat (fkW n sh pub sec a A) j, (n : Int), H, D, (A : Int), (K : Int), sh, (n : Int), H, D, (A : Int), (K : Int), sh, sec, pub, a)) K rfl (fun j hj next hnx => ?_) (fun next => ?_) (by omega)
 ·have hb := bmu (A := A) (K := K) (z := A) (i := j) (by omega) (by omega) (Nat.le_refl _) (by rw [Nat.sub_self]; omega)
  have hm : j * n ≤ 40 * 32 := Nat.mul_le_mul (by omega) hn
  simp only [P.ail]
  rw [av (by omega), ahp j (by omega), bat hf sh hsec lsec hp np la ha A j (by omega) (by omega), av (by rw [hl, aiw hn]; omega), qb (by omega) (by omega)]
  exact hnx
 ·have hm : K * n ≤ 40 * 32 := Nat.mul_le_mul (by omega) hn
  simp only [P.ail]
  rw [dh (by omega), bkv hf sh hp np la ha _ (biu (fun i => awp _ _ _ _ _ _ _) _) (by rw [hl]; omega)]
theorem y9 {n A K : Nat} {H D : Int} (hf : aax n H D A K) (sh : Bool) {sec pub a : List Int} (hsec : In 256 sec) (lsec : sec.length = n) (hp : In 256 pub) (np : pub.length = n) (la : a.length = 32) (ha : In 256 a) {ρ : Type} (k : List Int → Option ρ) : P.y9 (n : Int) H D A K sh sec pub a k = k (kyF n sh pub a (cat (fkW n sh pub sec a A) K)) := by
 have hq := hf
 unfold aax at hq
 have hn : n ≤ 32 := by omega
 have hl := bcz (T := fkW n sh pub sec a A) (fun i => aiw hn sh pub sec a A i)
 rw [P.ajr]; unfold P.ae5
 rw [pz hf, decide_eq_true ⟨lsec, np⟩, show (!true) = false from rfl, qd, P.ar7]; unfold P.apf P.bvj P.br1 P.byx
 refine zo (fun j => (sec, pub, (j : Int), (List.range j).map (fkW n sh pub sec a A), (n : Int), H, D, (A : Int), (K : Int), sh, a)) K rfl (fun j hj next hnx => ?_) (fun next => ?_) (by omega)
 ·simp only [P.ajx, toNat_cast]
  rw [av (by omega), ahp j (by omega), uo hf sh hsec lsec hp np la ha A j (A + 1) (by omega) (Nat.le_refl _) (by rw [Nat.sub_self]; omega), av (by simp; omega), qb (by omega) (by omega)]
  rw [← am2] at hnx
  exact hnx
 ·have hm : K * n ≤ 40 * 32 := Nat.mul_le_mul (by omega) hn
  simp only [P.ajx]
  rw [dh (by omega), ahk hf sh hp np la ha _ (by simp; omega) (by rw [asf]; exact biu (fun i => awp _ _ _ _ _ _ _) _) (by rw [asf, hl]; omega), asf]
theorem bnq {n A K : Nat} {H D : Int} (hf : aax n H D A K) (sh : Bool) (sec pub a : List Int) (hsec : In 256 sec) (hp : In 256 pub) (la : a.length = 32) (ha : In 256 a) (z : Int) (wz : -9223372036854775808 ≤ z ∧ z ≤ 9223372036854775807) (i : Nat) : ∃ v : List Int, v.length ≤ 1000 ∧ (∀ {ρ : Type} (k : List Int → Option ρ), P.adr n H D A K sh sec pub a z (i : Int) k = k v) ∧ ∀ {ρ : Type} (k : List Int → Option ρ), P.uo (z.toNat + 1) n H D A K sh sec pub a z (i : Int) k = k v := by
 have hq := hf
 unfold aax at hq
 have hn : n ≤ 32 := by omega
 by_cases hg : sec.length = n ∧ pub.length = n
 ·by_cases z0 : z < 0
  ·refine ⟨[], by simp, fun k => ?_, fun k => ?_⟩
   ·rw [P.adg]; unfold P.aal
    rw [gy hf, decide_eq_true hg, ku, p8, av z0]
   ·rw [P.ac9]; unfold P.aaj
    rw [pz hf, decide_eq_true hg, show (!true) = false from rfl, qd, av z0]
  ·obtain ⟨z, rfl⟩ : ∃ z' : Nat, z = (z' : Int) := ⟨z.toNat, by omega⟩
   by_cases zA : z ≤ A
   ·have hk := b0n (A := A) (K := K) (z := z) (by omega) (by omega)
    by_cases hi : i < K * 2 ^ (A - z)
    ·have hb := bmu (A := A) (K := K) (z := z) (i := i) (by omega) (by omega) zA hi
     refine ⟨fkW n sh pub sec a z i, by rw [aiw hn]; omega, fun k => ?_, fun k => ?_⟩
     ·rw [P.adg]; unfold P.aal
      rw [gy hf, decide_eq_true hg, ku, p8, dh z0, dh (by omega), qb (by omega) (by omega), dh (by omega), show ((A : Int) - (z : Int)).toNat = A - z by omega, ahp K (by omega), arp K (A - z) (by omega) (by omega), dh (by omega), bat hf sh hsec hg.1 hp hg.2 la ha z i (by omega) (by omega)]
     ·rw [toNat_cast, uo hf sh hsec hg.1 hp hg.2 la ha z i (z + 1) (by omega) zA hi]
    ·refine ⟨[], by simp, fun k => ?_, fun k => ?_⟩
     ·rw [P.adg]; unfold P.aal
      rw [gy hf, decide_eq_true hg, ku, p8, dh z0, dh (by omega), qb (by omega) (by omega), dh (by omega), show ((A : Int) - (z : Int)).toNat = A - z by omega, ahp K (by omega), arp K (A - z) (by omega) (by omega), av (by omega)]
     ·rw [P.ac9]; unfold P.aaj
      rw [pz hf, decide_eq_true hg, show (!true) = false from rfl, qd, dh z0, dh (by omega), qb (by omega) (by omega), dh (by omega), show ((A : Int) - (z : Int)).toNat = A - z by omega, ahp K (by omega), arp K (A - z) (by omega) (by omega), av (by omega)]
   ·refine ⟨[], by simp, fun k => ?_, fun k => ?_⟩
    ·rw [P.adg]; unfold P.aal
     rw [gy hf, decide_eq_true hg, ku, p8, dh z0, av (by omega)]
    ·rw [P.ac9]; unfold P.aaj
     rw [pz hf, decide_eq_true hg, show (!true) = false from rfl, qd, dh z0, av (by omega)]
 ·refine ⟨[], by simp, fun k => ?_, fun k => ?_⟩
  ·rw [P.adg]; unfold P.aal
   rw [gy hf, decide_eq_false hg, ku, qd]
  ·rw [P.ac9]; unfold P.aaj
   rw [pz hf, decide_eq_false hg, show (!false) = true from rfl, p8]
theorem bnn {n A K : Nat} {H D : Int} (hf : aax n H D A K) (sh : Bool) (sec pub a : List Int) (hsec : In 256 sec) (hp : In 256 pub) (la : a.length = 32) (ha : In 256 a) : ∃ v : List Int, v.length ≤ 1000 ∧ (∀ {ρ : Type} (k : List Int → Option ρ), P.uq n H D A K sh sec pub a k = k v) ∧ ∀ {ρ : Type} (k : List Int → Option ρ), P.y9 n H D A K sh sec pub a k = k v := by
 have hq := hf
 unfold aax at hq
 have hn : n ≤ 32 := by omega
 by_cases hg : sec.length = n ∧ pub.length = n
 ·exact ⟨_, by rw [bo5 hn]; omega, fun k => uq hf sh hsec hg.1 hp hg.2 la ha k, fun k => y9 hf sh hsec hg.1 hp hg.2 la ha k⟩
 ·refine ⟨[], by simp, fun k => ?_, fun k => ?_⟩
  ·rw [P.ais]; unfold P.adu
   rw [gy hf, decide_eq_false hg, ku, qd]
  ·rw [P.ajr]; unfold P.ae5
   rw [pz hf, decide_eq_false hg, show (!false) = true from rfl, p8]
end Q
end

section
/- fors: the chapter's examples; what is few and light. -/
namespace Q
open QK
open Go Go.Abs
set_option linter.unusedVariables false
set_option linter.unusedSimpArgs false
theorem avs (N H D A K : Int) (sh : Bool) : ∃ x y : Int, (∀ {ρ : Type} (k : Int → Int → Option ρ), P.ko N H D A K sh k = k x y) ∧ ∀ {ρ : Type} (k : Int → Int → Option ρ), P.acv N H D A K sh k = k x y := by
 by_cases hf : aax N H D A K
 ·obtain ⟨n, rfl⟩ : ∃ n : Nat, N = (n : Int) := ⟨N.toNat, by unfold aax at hf; omega⟩
  obtain ⟨A, K, rfl, rfl, _⟩ := bjt hf
  exact ⟨_, _, fun k => ko hf sh k, fun k => acv hf sh k⟩
 ·refine ⟨0, 0, fun k => ?_, fun k => ?_⟩
  ·rw [P.alg]; unfold P.agl
   rw [uf, decide_eq_false hf, ku, qd]
  ·rw [P.anq]; unfold P.ah2
   rw [vk, decide_eq_false hf, ku, qd]
theorem b0v : aax ((16 : Nat) : Int) 2 1 ((2 : Nat) : Int) ((3 : Nat) : Int) := by decide
theorem ze {ρ : Type} (k : Bool → Option ρ) : P.ze k = k true := by
 rw [P.aq3]; unfold P.aj1
 rw [show P.ko (ρ := ρ) 16 2 1 2 3 false = P.ko ((16 : Nat) : Int) 2 1 ((2 : Nat) : Int) ((3 : Nat) : Int) false from rfl, ko b0v, dw (show ((szF 16 2 3 : Nat) : Int) = 144 from rfl), dw (show ((txF 2 3 : Nat) : Int) = 1 from rfl), P.arj]
 unfold P.ajh
 rw [show P.gy (ρ := ρ) 16 2 1 2 3 false = P.gy ((16 : Nat) : Int) 2 1 ((2 : Nat) : Int) ((3 : Nat) : Int) false from rfl, gy b0v, show P.ko (ρ := ρ) 16 2 1 2 3 false = P.ko ((16 : Nat) : Int) 2 1 ((2 : Nat) : Int) ((3 : Nat) : Int) false from rfl, ko b0v, decide_eq_true (by simp), ku, p8, gu (by decide)]
 rfl
theorem afy (l : List (List Int)) (hl : l.length ≤ 100) {ρ : Type} (k : Bool → Option ρ) : (P.afy l k = k true ∧ ∀ i, i < l.length → (l.getD i []).length ≤ 300) ∨ P.afy l k = k false := by
 rw [P.avu]
 unfold P.an5
 rw [P.aya]
 unfold P.axd P.zk1 P.zs1 P.zu1
 by_cases h : ∀ i, i < l.length → (l.getD i []).length ≤ 300
 ·refine .inl ⟨zo (fun i => (l, (l.length : Int), (i : Int))) l.length rfl (fun i hi next hn' => ?_) (fun next => ?_) (by omega), h⟩
  ·have := h i hi
   simp only [P.al2, toNat_cast, Sum.elim_inl, Sum.elim_inr]
   simp (disch := omega) only [av, dh, gu, fq, dw, dz, ku, p8, qd, qb]
   exact hn'
  ·simp only [P.al2, toNat_cast, Sum.elim_inl, Sum.elim_inr]
   rw [dh (by omega)]
 ·refine .inr (bpo (P := fun x => ∃ j : Nat, x = (l, (l.length : Int), (j : Int)) ∧ ∃ i, j ≤ i ∧ i < l.length ∧ ¬ (l.getD i []).length ≤ 300) (μ := fun x => ((l.length : Int) - x.2.2).toNat) ?_ ⟨0, rfl, ?_⟩ (by simp only; omega))
  ·rintro _ ⟨j, rfl, i, hji, hi, hb⟩ next hn
   simp only [P.al2, toNat_cast, Sum.elim_inl, Sum.elim_inr]
   by_cases hj : ((l.getD j []).length : Int) > 300
   ·simp (disch := omega) only [av, dh, gu, fq, dw, dz, ku, p8, qd, qb]
   ·simp (disch := omega) only [av, dh, gu, fq, dw, dz, ku, p8, qd, qb]
    exact hn _ ⟨j + 1, rfl, i, by by_cases e : j = i <;> (try subst e) <;> omega, hi, hb⟩ (by simp only; omega)
  ·have : ∃ i, ¬ (i < l.length → (l.getD i []).length ≤ 300) := Classical.not_forall.1 h
   obtain ⟨i, hi⟩ := this
   exact ⟨i, Nat.zero_le _, by by_cases e : i < l.length <;> simp_all, fun e => hi (fun _ => e)⟩
theorem zx (N H D A K : Int) (sh : Bool) {ρ : Type} (k : Bool → Option ρ) : P.zx N H D A K sh k = k false ∨ (∃ n A' K' : Nat, N = (n : Int) ∧ A = (A' : Int) ∧ K = (K' : Int) ∧ aax n H D A' K' ∧ A' ≤ 4 ∧ K' ≤ 6 ∧ P.zx N H D A K sh k = k true) := by
 have e : P.zx N H D A K sh k = P.agn N H D A K sh k := P.aq6 ..
 rw [e]; unfold P.agn
 rw [vk]
 by_cases hf : aax N H D A K
 ·obtain ⟨n, rfl⟩ : ∃ n : Nat, N = (n : Int) := ⟨N.toNat, by unfold aax at hf; omega⟩
  obtain ⟨A, K, rfl, rfl, _⟩ := bjt hf
  rw [decide_eq_true hf, p8, bqk]
  by_cases h4 : (A : Int) ≤ 4
  ·rw [if_pos h4]
   by_cases hh : (K : Int) ≤ 6
   ·exact .inr ⟨n, A, K, rfl, rfl, rfl, hf, by omega, by omega, by rw [decide_eq_true hh]⟩
   ·exact .inl (by rw [decide_eq_false hh])
  ·rw [if_neg h4]; exact .inl rfl
 ·rw [decide_eq_false hf, qd]; exact .inl rfl
end Q
end

section
/- The plain law of ForsGrows. -/
namespace Q
open QK
open Go Go.Abs
set_option linter.unusedVariables false
set_option linter.unusedSimpArgs false
theorem ForsGrows (x0_N : Int) (x0_H : Int) (x0_D : Int) (x0_A : Int) (x0_K : Int) (x0_Shake : Bool) (x1 : List Int) (x2 : List Int) (x3 : List Int) (x4 : Int) (x5 : Int) (wx0_N : wfI .i64 x0_N) (wx0_H : wfI .i64 x0_H) (wx0_D : wfI .i64 x0_D) (wx0_A : wfI .i64 x0_A) (wx0_K : wfI .i64 x0_K) (nx1 : x1.length = 32) (wx1 : ∀ x, x ∈ x1 → wfI .u8 x) (nx2 : x2.length ≤ 140737488355328) (wx2 : ∀ x, x ∈ x2 → wfI .u8 x) (nx3 : x3.length ≤ 140737488355328) (wx3 : ∀ x, x ∈ x3 → wfI .u8 x) (wx4 : wfI .i64 x4) (wx5 : wfI .u64 x5) {ρ : Type} (k : Bool → Option ρ) : P.vw x0_N x0_H x0_D x0_A x0_K x0_Shake x1 x2 x3 x4 x5 k = k true := by
 have w4 := wf_i64 wx4
 have w5 := wf_u64 wx5
 obtain ⟨i, rfl⟩ : ∃ i : Nat, x5 = (i : Int) := ⟨x5.toNat, by omega⟩
 rw [P.akl]; unfold P.aex
 generalize hK : (fun (q0 : Bool) => br (!q0) (P.ze fun (q1 : Bool) => k q1) _) = K
 rcases afy [x2, x3] (by simp) K with ⟨e, hl⟩ | e
 ·rw [e, ← hK]
  dsimp only
  rw [ku, p8]
  obtain ⟨s, t, s1, s2⟩ := avs x0_N x0_H x0_D x0_A x0_K x0_Shake
  rw [s1, s2, fq rfl, fq rfl]
  generalize hK2 : (fun (q6 : Bool) => br (!q6) (k true) _) = K2
  rcases zx x0_N x0_H x0_D x0_A x0_K x0_Shake K2 with e2 | ⟨n, A, K', rfl, rfl, rfl, hf, hA, hK', e2⟩
  ·rw [e2, ← hK2]
   dsimp only
   rw [ku, qd]
  ·rw [e2, ← hK2]
   dsimp only
   rw [ku, p8]
   obtain ⟨a, la, a1, a2⟩ := bnq hf x0_Shake x2 x3 x1 (bf4 wx2) (bf4 wx3) nx1 (bf4 wx1) x4 (by omega) i
   obtain ⟨b, lb, b1, b2⟩ := bnn hf x0_Shake x2 x3 x1 (bf4 wx2) (bf4 wx3) nx1 (bf4 wx1)
   rw [a1, a2, acf _ _ (by omega), decide_eq_true rfl, p8, b1, b2, acf _ _ (by omega), decide_eq_true rfl, p8, ze]
 ·rw [e, ← hK]
  dsimp only
  rw [ku, qd, ze]
end Q
end
