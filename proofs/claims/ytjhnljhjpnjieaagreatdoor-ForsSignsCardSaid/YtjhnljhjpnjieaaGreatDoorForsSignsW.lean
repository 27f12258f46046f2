/-
  ForsSigns, part 23: an interpreter of my own over abstract values, the pure functions, the walks and the plain law.
-/

import Derived.Test.YtjhnljhjpnjieaaGreatDoorForsSignsV
import Derived.Test.YtjhnljhjpnjieaaGreatDoorForsSignsK
import Derived.Test.YtjhnljhjpnjieaaGreatDoorForsSignsL
import Derived.Test.YtjhnljhjpnjieaaGreatDoorForsSignsI

section
/- fors: a bn3 by a stack. -/
namespace Q
open QK
open Go Go.Abs
set_option linter.unusedVariables false
set_option linter.unusedSimpArgs false
def hs (T : List (Nat × List Int)) : List Int := T.map fun x => (x.1 : Int)
def ns (T : List (Nat × List Int)) : List (List Int) := T.map fun x => x.2
theorem bgj (T : List (Nat × List Int)) : (hs T).length = T.length := by simp [hs]
theorem bjl (T : List (Nat × List Int)) : (ns T).length = T.length := by simp [ns]
theorem bjb (T U : List (Nat × List Int)) : hs (T ++ U) = hs T ++ hs U := by simp [hs]
theorem bog (T U : List (Nat × List Int)) : ns (T ++ U) = ns T ++ ns U := by simp [ns]
theorem bjn {α : Type} (l : List α) (d : α) {m : Nat} (h : l.length = m) : bhw m l d = l := by
 subst h
 simp [bhw]
theorem aua {α : Type} (l : List α) (x d : α) {m : Nat} (h : l.length = m) : (l ++ [x]).getD m d = x := by
 subst h
 simp [List.getD_eq_getElem?_getD]
theorem bqr {n : Nat} {H D A K : Int} (hf : aar n H D A K) (sh : Bool) {sec pub a : List Int} (hsec : In 256 sec) (lsec : sec.length = n) (hp : In 256 pub) (np : pub.length = n) (la : a.length = 32) (ha : In 256 a) (z i m : Nat) (hz : z ≤ 14) (hb : (i + 1) * 2 ^ z ≤ 9223372036854775808) (hm : m < 2 ^ z) {ρ : Type} (r : Option ρ)
    (k0 : Int → Int → Int → Int → Nat → (List Int) → (List (List Int)) → Int → Int → Int → Int → Int → Bool → (List Int) → (List Int) → (List Int) → Int → (List Int) → Option ρ)
    (hk : ∀ (T : List (Nat × List Int)) (b : Nat) (y : List Int), T ++ [(b, y)] = stk (fkW n sh pub sec a) (i * 2 ^ z) 64 0 (m + 1) → k0 (z : Int) (i : Int) ((i * 2 ^ z + m : Nat) : Int) (T.length : Int) T.length (hs T) (ns T) n H D A K sh sec pub a (b : Int) y = r) :
    P.ad6 (z : Int) (i : Int) ((i * 2 ^ z + m : Nat) : Int) ((stk (fkW n sh pub sec a) (i * 2 ^ z) 64 0 m).length : Int) (stk (fkW n sh pub sec a) (i * 2 ^ z) 64 0 m).length (hs (stk (fkW n sh pub sec a) (i * 2 ^ z) 64 0 m)) (ns (stk (fkW n sh pub sec a) (i * 2 ^ z) 64 0 m)) n H D A K sh sec pub a 0 (fkW n sh pub sec a 0 (i * 2 ^ z + m)) k0 = r := by
 have hn : n ≤ 32 := by unfold aar at hf; omega
 have e1 : (i + 1) * 2 ^ z = i * 2 ^ z + 2 ^ z := by rw [Nat.add_mul, Nat.one_mul]
 rw [P.alv]; unfold P.aia P.bye P.bul P.b4t
 refine bq0 (P := fun x => ∃ f b q, f + b = 64 ∧ stk (fkW n sh pub sec a) (i * 2 ^ z) 64 0 (m + 1) = stk (fkW n sh pub sec a) (i * 2 ^ z) f b (q + 1) ∧ (i * 2 ^ z + m) / 2 ^ b = i * 2 ^ z / 2 ^ b + q ∧ (q + 1) * 2 ^ b ≤ 2 ^ z ∧
     x = ((z : Int), (i : Int), ((i * 2 ^ z + m : Nat) : Int), ((stk (fkW n sh pub sec a) (i * 2 ^ z) f b q).length : Int), (stk (fkW n sh pub sec a) (i * 2 ^ z) f b q).length, hs (stk (fkW n sh pub sec a) (i * 2 ^ z) f b q), ns (stk (fkW n sh pub sec a) (i * 2 ^ z) f b q), (n : Int), H, D, A, K, sh, sec, pub, a, (b : Int), fkW n sh pub sec a b (i * 2 ^ z / 2 ^ b + q)))
  (μ := fun x => x.2.2.2.2.1) ?_ ⟨64, 0, m, rfl, rfl, by rw [Nat.pow_zero, Nat.div_one, Nat.div_one], by omega, by rw [Nat.pow_zero, Nat.div_one]; rfl⟩ (by have := baj (fkW n sh pub sec a) (i * 2 ^ z) 64 0 m; simp only; omega)
 rintro _ ⟨f, b, q, hfb, hst, hdv, hle, rfl⟩ next hnx
 have hbz : b ≤ z := by
  have h1 : 2 ^ b ≤ (q + 1) * 2 ^ b := Nat.le_mul_of_pos_left _ (by omega)
  exact (Nat.pow_le_pow_iff_right (by omega)).1 (Nat.le_trans h1 hle)
 obtain ⟨f, rfl⟩ : ∃ g, f = g + 1 := ⟨f - 1, by omega⟩
 have hlen := baj (fkW n sh pub sec a) (i * 2 ^ z) f (b + 1) (q / 2)
 by_cases hq : q % 2 = 1
 ·-- two of one height
  have hb1 : b + 1 ≤ z := by
   have h1 : 2 ^ (b + 1) ≤ (q + 1) * 2 ^ b := by rw [Nat.pow_succ, Nat.mul_comm]; exact Nat.mul_le_mul (by omega) (Nat.le_refl _)
   exact (Nat.pow_le_pow_iff_right (by omega)).1 (Nat.le_trans h1 hle)
  have hev : i * 2 ^ z / 2 ^ b = 2 * (i * 2 ^ z / 2 ^ (b + 1)) := by
   have e2 : i * 2 ^ z = i * 2 ^ (z - (b + 1)) * 2 ^ (b + 1) := by rw [Nat.mul_assoc, ← Nat.pow_add, Nat.sub_add_cancel hb1]
   have e3 : i * 2 ^ z = 2 * (i * 2 ^ (z - (b + 1))) * 2 ^ b := by rw [e2, Nat.pow_succ]; ac_rfl
   rw [e2, Nat.mul_div_cancel _ (Nat.two_pow_pos _), ← e2, e3, Nat.mul_div_cancel _ (Nat.two_pow_pos _)]
  have hidx : (i * 2 ^ z + m) / 2 ^ (b + 1) = i * 2 ^ z / 2 ^ (b + 1) + q / 2 := by
   rw [Nat.pow_succ, ← Nat.div_div_eq_div_mul, hdv, hev]
   rw [Nat.pow_succ]; omega
  have hsm := Nat.div_le_self (i * 2 ^ z + m) (2 ^ (b + 1))
  have hT := bdz (fkW n sh pub sec a) (i * 2 ^ z) f b q hq
  generalize hS : stk (fkW n sh pub sec a) (i * 2 ^ z) f (b + 1) (q / 2) = T0 at hT hlen
  have hl1 : (stk (fkW n sh pub sec a) (i * 2 ^ z) (f + 1) b q).length = T0.length + 1 := by rw [hT]; simp
  have hhs : hs (stk (fkW n sh pub sec a) (i * 2 ^ z) (f + 1) b q) = hs T0 ++ [(b : Int)] := by rw [hT, bjb]; rfl
  have hns : ns (stk (fkW n sh pub sec a) (i * 2 ^ z) (f + 1) b q) = ns T0 ++ [fkW n sh pub sec a b (i * 2 ^ z / 2 ^ b + (q - 1))] := by rw [hT, bog]; rfl
  simp only [P.aec, hl1, hhs, hns]
  rw [show ((T0.length + 1 : Nat) : Int) - 1 = (T0.length : Int) by omega, o8 (x := (T0.length : Int)) (by omega) (by omega), toNat_cast, aua _ _ _ (bgj T0), aua _ _ _ (bjl T0), show (b : Int) + 1 = ((b + 1 : Nat) : Int) by omega, o8 (x := ((b + 1 : Nat) : Int)) (by omega) (by omega), toNat_cast, fdiv_pow _ _ _ (by omega), hidx]
  rw [av (by omega), av (by omega), av (by omega), dw rfl, dn (by omega), av (by omega), av (by omega)]
  have hfl : [fkW n sh pub sec a b (i * 2 ^ z / 2 ^ b + (q - 1)), fkW n sh pub sec a b (i * 2 ^ z / 2 ^ b + q)].flatten = fkW n sh pub sec a b (2 * (i * 2 ^ z / 2 ^ (b + 1) + q / 2)) ++ fkW n sh pub sec a b (2 * (i * 2 ^ z / 2 ^ (b + 1) + q / 2) + 1) := by
   rw [hev, show 2 * (i * 2 ^ z / 2 ^ (b + 1)) + (q - 1) = 2 * (i * 2 ^ z / 2 ^ (b + 1) + q / 2) by omega, show 2 * (i * 2 ^ z / 2 ^ (b + 1)) + q = 2 * (i * 2 ^ z / 2 ^ (b + 1) + q / 2) + 1 by omega]
   simp
  rw [ams hf sh hp np la ha (b + 1) _ (by omega) (by omega) _ (by simp) (by rw [hfl]; exact (bfv _ _ _ _ _ _ _).app (bfv _ _ _ _ _ _ _)) (by rw [hfl, List.length_append, alu hn, alu hn]; omega), hfl, av (by omega), av (by omega), Nat.min_eq_left (by omega), List.take_left' (bgj T0), List.take_left' (bjl T0)]
  refine hnx _ ⟨f, b + 1, q / 2, by omega, by rw [hst, bvk _ _ _ _ _ hq], hidx, ?_, ?_⟩ (by simp only [hl1]; omega)
  ·have : (q / 2 + 1) * 2 ^ (b + 1) = (2 * (q / 2) + 2) * 2 ^ b := by rw [Nat.pow_succ, Nat.mul_comm (2 ^ b) 2, ← Nat.mul_assoc]; congr 1; omega
   rw [this, show 2 * (q / 2) + 2 = q + 1 by omega]
   exact hle
  ·rw [hS]
   rfl
 ·-- nothing of this height
  have hT := bab (fkW n sh pub sec a) (i * 2 ^ z) f b q (by omega)
  have hP := bps (fkW n sh pub sec a) (i * 2 ^ z) f b q (by omega)
  have hge := bn9 (fkW n sh pub sec a) (i * 2 ^ z) f (b + 1) (q / 2)
  rw [hT]
  generalize hS : stk (fkW n sh pub sec a) (i * 2 ^ z) f (b + 1) (q / 2) = T0 at hP hge hlen
  have hfin := hk T0 b (fkW n sh pub sec a b (i * 2 ^ z / 2 ^ b + q)) (by rw [hst, hP])
  simp only [P.aec]
  by_cases h0 : T0.length = 0
  ·rw [dn (by omega)]
   exact hfin
  ·have hlast : ∃ T1 x, T0 = T1 ++ [x] := by
     have hne : T0 ≠ [] := by intro e; rw [e] at h0; exact h0 rfl
     exact ⟨T0.dropLast, T0.getLast hne, (List.dropLast_concat_getLast hne).symm⟩
   obtain ⟨T1, x, rfl⟩ := hlast
   have hx := hge x (by simp)
   have hl1 : (T1 ++ [x]).length = T1.length + 1 := by simp
   have hlk : (hs (T1 ++ [x])).getD T1.length 0 = (x.1 : Int) := by rw [bjb]; exact aua _ _ _ (bgj T1)
   rw [hl1] at hfin ⊢
   rw [show ((T1.length + 1 : Nat) : Int) - 1 = (T1.length : Int) by omega, o8 (x := (T1.length : Int)) (by omega) (by omega), toNat_cast, hlk, av (by omega), av (by omega), av (by omega), dx (by omega)]
   exact hfin
theorem bid {n : Nat} {H D A K : Int} (hf : aar n H D A K) (sh : Bool) {sec pub a : List Int} (hsec : In 256 sec) (lsec : sec.length = n) (hp : In 256 pub) (np : pub.length = n) (la : a.length = 32) (ha : In 256 a) (z i : Nat) (hz : z ≤ 14) (hb : (i + 1) * 2 ^ z ≤ 9223372036854775808) {ρ : Type} (k : List Int → Option ρ) : P.l6 (n : Int) H D A K sh sec pub a (z : Int) (i : Int) k = k (fkW n sh pub sec a z i) := by
 have hn : n ≤ 32 := by unfold aar at hf; omega
 have e1 : (i + 1) * 2 ^ z = i * 2 ^ z + 2 ^ z := by rw [Nat.add_mul, Nat.one_mul]
 have h1 : 1 ≤ 2 ^ z := Nat.two_pow_pos z
 have h2 : i + 1 ≤ (i + 1) * 2 ^ z := Nat.le_mul_of_pos_right _ h1
 rw [P.ail]; unfold P.adj
 rw [dn (by omega), toNat_cast, auk i z (by omega) (by omega), P.amq]; unfold P.aiq P.bxm P.btp P.b31
 refine wu (fun j => ((z : Int), (i : Int), ((i * 2 ^ z + j : Nat) : Int), (stk (fkW n sh pub sec a) (i * 2 ^ z) 64 0 j).length, hs (stk (fkW n sh pub sec a) (i * 2 ^ z) 64 0 j), ns (stk (fkW n sh pub sec a) (i * 2 ^ z) 64 0 j), (n : Int), H, D, A, K, sh, sec, pub, a)) (2 ^ z) (by rw [bll]; rfl) (fun j hj next hnx => ?_) (fun next => ?_) (by have : 2 ^ z ≤ 2 ^ 14 := Nat.pow_le_pow_right (by omega) hz; omega)
 ·simp only [P.aef, toNat_cast]
  rw [dn (by omega), show (i : Int) + 1 = ((i + 1 : Nat) : Int) by omega, ah5 (i + 1) (by omega), auk (i + 1) z (by omega) (by omega), av (by omega), bc5 hf sh hp np la ha hsec lsec _ (by omega)]
  have hfl : [lfF n sh pub sec a (i * 2 ^ z + j)].flatten = lfF n sh pub sec a (i * 2 ^ z + j) := by simp
  rw [show ∀ (x : Int) (l : List (List Int)) (kk : List Int → Option ρ), P.jc (n : Int) H D A K sh sec pub a 0 x l kk = P.jc (n : Int) H D A K sh sec pub a ((0 : Nat) : Int) x l kk from fun _ _ _ => rfl,
   ams hf sh hp np la ha 0 _ (by omega) (by omega) _ (by simp) (by rw [hfl]; exact bou _ _ _ _ _ _) (by rw [hfl, avn hn]; omega), hfl]
  refine bqr hf sh hsec lsec hp np la ha z i j hz hb hj _ _ (fun T b y hT => ?_)
  have hl := baj (fkW n sh pub sec a) (i * 2 ^ z) 64 0 (j + 1)
  rw [← hT] at hl
  have hl1 : (T ++ [(b, y)]).length = T.length + 1 := by simp
  rw [av (by omega), bjn _ _ (bgj T), bjn _ _ (bjl T), show ((i * 2 ^ z + j : Nat) : Int) + 1 = ((i * 2 ^ z + (j + 1) : Nat) : Int) by omega, ah5 _ (by omega)]
  rw [← hT, hl1, bjb, bog] at hnx
  exact hnx
 ·simp only [P.aef, toNat_cast]
  rw [dn (by omega), show (i : Int) + 1 = ((i + 1 : Nat) : Int) by omega, ah5 (i + 1) (by omega), auk (i + 1) z (by omega) (by omega), dn (by omega), bgs _ _ _ _ _ (by omega), Nat.zero_add, Nat.mul_div_cancel _ h1, av (by simp)]
  rfl
end Q
end

section
/- fors: knots and keys, by the program and by the document. -/
namespace Q
open QK
open Go Go.Abs
set_option linter.unusedVariables false
set_option linter.unusedSimpArgs false
theorem bpo {n : Nat} {H D A K : Int} (hf : aar n H D A K) : ∃ A' K' : Nat, A = (A' : Int) ∧ K = (K' : Int) ∧ 1 ≤ A' ∧ A' ≤ 14 ∧ 1 ≤ K' ∧ K' ≤ 40 := by
 unfold aar at hf
 exact ⟨A.toNat, K.toNat, by omega, by omega, by omega, by omega, by omega, by omega⟩
theorem uo {n : Nat} {H D A K : Int} (hf : aar n H D A K) (sh : Bool) (sec pub : List Int) {ρ : Type} (k : Bool → Option ρ) : P.uo (n : Int) H D A K sh sec pub k = k (!decide (sec.length = n ∧ pub.length = n)) := by
 rw [P.as9]; unfold P.akp
 rw [qo, decide_eq_true hf, lq, o9]
 by_cases h1 : sec.length = n
 ·rw [dz (by omega)]
  by_cases h2 : pub.length = n
  ·rw [decide_eq_true ⟨h1, h2⟩, h2]; simp
  ·rw [decide_eq_false (fun h => h2 h.2)]
   congr 1
   have : (pub.length : Int) ≠ (n : Int) := by omega
   simpa using this
 ·rw [gq (by omega), decide_eq_false (fun h => h1 h.1)]
  rfl
theorem jy {n : Nat} {H D A K : Int} (hf : aar n H D A K) (sh : Bool) (sec pub a : List Int) {ρ : Type} (k : Int → Int → Int → Int → Int → Bool → List Int → List Int → List Int → Bool → Option ρ) : P.jy (n : Int) H D A K sh sec pub a k = k n H D A K sh sec pub a (decide (sec.length = n ∧ pub.length = n)) := by
 rw [P.amg]; unfold P.agb
 rw [mq, decide_eq_true hf, o9]
 by_cases h1 : sec.length = n
 ·rw [dw (by omega)]
  by_cases h2 : pub.length = n
  ·rw [decide_eq_true ⟨h1, h2⟩, h2]; simp
  ·rw [decide_eq_false (fun h => h2 h.2)]
   congr 1
   have : (pub.length : Int) ≠ (n : Int) := by omega
   simpa using this
 ·rw [dx (by omega), decide_eq_false (fun h => h1 h.1)]
def szF (n A K : Nat) : Nat := K * (n * (A + 1))
def txF (A K : Nat) : Nat := (K * A + 7) / 8
theorem ax6 {n A K : Nat} (hn : n ≤ 32) (hA : A ≤ 14) (hK : K ≤ 40) : IntKind.i64.wrap (IntKind.i64.wrap ((n : Int) * (K : Int)) * IntKind.i64.wrap ((A : Int) + (1 : Int))) = ((szF n A K : Nat) : Int) ∧ IntKind.i64.wrap ((IntKind.i64.wrap (IntKind.i64.wrap ((K : Int) * (A : Int)) + (7 : Int))).tdiv (8 : Int)) = ((txF A K : Nat) : Int) := by
 have h1 : n * K ≤ 32 * 40 := Nat.mul_le_mul hn hK
 have h2 : n * K * (A + 1) ≤ 32 * 40 * 15 := Nat.mul_le_mul h1 (by omega)
 have h3 : K * A ≤ 40 * 14 := Nat.mul_le_mul hK hA
 constructor
 ·rw [show (n : Int) * (K : Int) = ((n * K : Nat) : Int) by rw [Int.natCast_mul], o8 (x := ((n * K : Nat) : Int)) (by omega) (by omega), o8 (x := (A : Int) + 1) (by omega) (by omega), show (A : Int) + 1 = ((A + 1 : Nat) : Int) by omega, ← Int.natCast_mul, o8 (by omega) (by omega)]
  congr 1
  unfold szF
  rw [Nat.mul_comm n K, Nat.mul_assoc]
 ·rw [show (K : Int) * (A : Int) = ((K * A : Nat) : Int) by rw [Int.natCast_mul], o8 (x := ((K * A : Nat) : Int)) (by omega) (by omega), o8 (x := ((K * A : Nat) : Int) + 7) (by omega) (by omega), Int.tdiv_eq_ediv_of_nonneg (by omega), o8 (by omega) (by omega)]
  unfold txF
  omega
theorem iq {n A K : Nat} {H D : Int} (hf : aar n H D A K) (sh : Bool) {ρ : Type} (k : Int → Int → Option ρ) : P.iq (n : Int) H D A K sh k = k (szF n A K : Nat) (txF A K : Nat) := by
 have hq := hf
 unfold aar at hq
 obtain ⟨e1, e2⟩ := ax6 (n := n) (A := A) (K := K) (by omega) (by omega) (by omega)
 rw [P.as5]; unfold P.aj0
 rw [mq, decide_eq_true hf, lq, o9, e1, e2]
theorem vw {n A K : Nat} {H D : Int} (hf : aar n H D A K) (sh : Bool) {ρ : Type} (k : Int → Int → Option ρ) : P.vw (n : Int) H D A K sh k = k (szF n A K : Nat) (txF A K : Nat) := by
 have hq := hf
 unfold aar at hq
 obtain ⟨e1, e2⟩ := ax6 (n := n) (A := A) (K := K) (by omega) (by omega) (by omega)
 rw [P.avc]; unfold P.al9
 rw [qo, decide_eq_true hf, lq, o9, e1, e2]
theorem b5v {A K z : Nat} (hA : A ≤ 14) (hK : K ≤ 40) : K * 2 ^ (A - z) ≤ 655360 := by
 have h1 : 2 ^ (A - z) ≤ 2 ^ 14 := Nat.pow_le_pow_right (by omega) (by omega)
 have := Nat.mul_le_mul hK h1
 omega
theorem bsy {A K z i : Nat} (hA : A ≤ 14) (hK : K ≤ 40) (hz : z ≤ A) (hi : i < K * 2 ^ (A - z)) : (i + 1) * 2 ^ z ≤ 655360 := by
 have h1 : (i + 1) * 2 ^ z ≤ K * 2 ^ (A - z) * 2 ^ z := Nat.mul_le_mul hi (Nat.le_refl _)
 rw [Nat.mul_assoc, ← Nat.pow_add, Nat.sub_add_cancel hz] at h1
 have h2 : 2 ^ A ≤ 2 ^ 14 := Nat.pow_le_pow_right (by omega) hA
 have := Nat.mul_le_mul hK h2
 omega
theorem aaz {n A K : Nat} {H D : Int} (hf : aar n H D A K) (sh : Bool) {sec pub a : List Int} (hsec : In 256 sec) (lsec : sec.length = n) (hp : In 256 pub) (np : pub.length = n) (la : a.length = 32) (ha : In 256 a) : ∀ (z i m : Nat), z < m → z ≤ A → i < K * 2 ^ (A - z) → ∀ {ρ : Type} (k : List Int → Option ρ), P.aaz m (n : Int) H D A K sh sec pub a (z : Int) (i : Int) k = k (fkW n sh pub sec a z i)
 | z, i, 0, hm, hz, hi, ρ, k => by omega
 | 0, i, m + 1, hm, hz, hi, ρ, k => by
  have hq := hf
  unfold aar at hq
  have hk := b5v (A := A) (K := K) (z := 0) (by omega) (by omega)
  rw [P.ao4]; unfold P.aie
  rw [uo hf, decide_eq_true ⟨lsec, np⟩, show (!true) = false from rfl, su, dn (by omega), dn (by omega), o8 (x := (A : Int) - ((0 : Nat) : Int)) (by omega) (by omega), dn (by omega), show ((A : Int) - ((0 : Nat) : Int)).toNat = A - 0 by omega, ah5 K (by omega), auk K (A - 0) (by omega) (by omega), dn (by omega), dw (show ((0 : Nat) : Int) = 0 from rfl),
   show P.uq (ρ := ρ) a 3 0 (i : Int) = P.uq a ((3 : Nat) : Int) ((0 : Nat) : Int) (i : Int) from rfl, uq hf hp np la ha 3 0 i (by omega) (by omega) (by omega), show apf (apf (ofA a 3) 4 0) 5 i = ktA a 0 i from rfl, aax hf sh hp np la ha hsec lsec i (by omega), sw hf sh pub hp np _ _ (arz la 0 i) (axw ha 0 i) (bou _ _ _ _ _ _) (by rw [avn (by omega)]; omega)]
  rfl
 | z + 1, i, m + 1, hm, hz, hi, ρ, k => by
  have hq := hf
  unfold aar at hq
  have hn : n ≤ 32 := by omega
  have hk := b5v (A := A) (K := K) (z := z + 1) (by omega) (by omega)
  have e2 : K * 2 ^ (A - z) = 2 * (K * 2 ^ (A - (z + 1))) := by rw [show A - z = A - (z + 1) + 1 by omega, Nat.pow_succ, ← Nat.mul_assoc, Nat.mul_comm]
  rw [P.ao4]; unfold P.aie
  have hfl : [fkW n sh pub sec a z (2 * i), fkW n sh pub sec a z (2 * i + 1)].flatten = fkW n sh pub sec a z (2 * i) ++ fkW n sh pub sec a z (2 * i + 1) := by simp
  rw [uo hf, decide_eq_true ⟨lsec, np⟩, show (!true) = false from rfl, su, dn (by omega), dn (by omega), o8 (x := (A : Int) - ((z + 1 : Nat) : Int)) (by omega) (by omega), dn (by omega), show ((A : Int) - ((z + 1 : Nat) : Int)).toNat = A - (z + 1) by omega, ah5 K (by omega), auk K (A - (z + 1)) (by omega) (by omega), dn (by omega), dx (by omega),
   show ((z + 1 : Nat) : Int) - 1 = (z : Int) by omega, o8 (by omega) (by omega), show (2 : Int) * (i : Int) = ((2 * i : Nat) : Int) by omega, ah5 (2 * i) (by omega), show ((2 * i : Nat) : Int) + 1 = ((2 * i + 1 : Nat) : Int) by omega, ah5 (2 * i + 1) (by omega),
   aaz hf sh hsec lsec hp np la ha z (2 * i) m (by omega) (by omega) (by omega), aaz hf sh hsec lsec hp np la ha z (2 * i + 1) m (by omega) (by omega) (by omega),
   show P.uq (ρ := ρ) a 3 ((z + 1 : Nat) : Int) (i : Int) = P.uq a ((3 : Nat) : Int) ((z + 1 : Nat) : Int) (i : Int) from rfl, uq hf hp np la ha 3 (z + 1) i (by omega) (by omega) (by omega), show apf (apf (ofA a 3) 4 (z + 1)) 5 i = ktA a (z + 1) i from rfl, jv _ (by simp) (by rw [hfl, List.length_append, alu hn, alu hn]; omega), hfl,
   sw hf sh pub hp np _ _ (arz la (z + 1) i) (axw ha (z + 1) i) ((bfv _ _ _ _ _ _ _).app (bfv _ _ _ _ _ _ _)) (by rw [List.length_append, alu hn, alu hn]; omega)]
  rfl
end Q
end

section
/- fors: the chapter's examples; what is few and light. -/
namespace Q
open QK
open Go Go.Abs
set_option linter.unusedVariables false
set_option linter.unusedSimpArgs false
theorem b3d : aar ((16 : Nat) : Int) 2 1 ((2 : Nat) : Int) ((3 : Nat) : Int) := by decide
theorem tu {ρ : Type} (k : Bool → Option ρ) : P.tu k = k true := by
 rw [P.atf]; unfold P.ajy
 rw [show P.iq (ρ := ρ) 16 2 1 2 3 false = P.iq ((16 : Nat) : Int) 2 1 ((2 : Nat) : Int) ((3 : Nat) : Int) false from rfl, iq b3d, dw (show ((szF 16 2 3 : Nat) : Int) = 144 from rfl), dw (show ((txF 2 3 : Nat) : Int) = 1 from rfl), P.afv]
 unfold P.acs
 rw [show P.jy (ρ := ρ) 16 2 1 2 3 false = P.jy ((16 : Nat) : Int) 2 1 ((2 : Nat) : Int) ((3 : Nat) : Int) false from rfl, jy b3d, show P.iq (ρ := ρ) 16 2 1 2 3 false = P.iq ((16 : Nat) : Int) 2 1 ((2 : Nat) : Int) ((3 : Nat) : Int) false from rfl, iq b3d, decide_eq_true (by simp), lq, o9, gq (by decide)]
 rfl
theorem agh (l : List (List Int)) (hl : l.length ≤ 100) {ρ : Type} (k : Bool → Option ρ) : (P.agh l k = k true ∧ ∀ i, i < l.length → (l.getD i []).length ≤ 300) ∨ P.agh l k = k false := by
 rw [P.axf]
 unfold P.aog
 rw [P.bai]
 unfold P.axm P.zk1 P.zs1 P.zu1
 by_cases h : ∀ i, i < l.length → (l.getD i []).length ≤ 300
 ·refine .inl ⟨wu (fun i => (l, (l.length : Int), (i : Int))) l.length rfl (fun i hi next hn' => ?_) (fun next => ?_) (by omega), h⟩
  ·have := h i hi
   simp only [P.ana, toNat_cast, Sum.elim_inl, Sum.elim_inr]
   simp (disch := omega) only [av, dn, gq, dz, dw, dx, lq, o9, su, o8]
   exact hn'
  ·simp only [P.ana, toNat_cast, Sum.elim_inl, Sum.elim_inr]
   rw [dn (by omega)]
 ·refine .inr (bq0 (P := fun x => ∃ j : Nat, x = (l, (l.length : Int), (j : Int)) ∧ ∃ i, j ≤ i ∧ i < l.length ∧ ¬ (l.getD i []).length ≤ 300) (μ := fun x => ((l.length : Int) - x.2.2).toNat) ?_ ⟨0, rfl, ?_⟩ (by simp only; omega))
  ·rintro _ ⟨j, rfl, i, hji, hi, hb⟩ next hn
   simp only [P.ana, toNat_cast, Sum.elim_inl, Sum.elim_inr]
   by_cases hj : ((l.getD j []).length : Int) > 300
   ·simp (disch := omega) only [av, dn, gq, dz, dw, dx, lq, o9, su, o8]
   ·simp (disch := omega) only [av, dn, gq, dz, dw, dx, lq, o9, su, o8]
    exact hn _ ⟨j + 1, rfl, i, by by_cases e : j = i <;> (try subst e) <;> omega, hi, hb⟩ (by simp only; omega)
  ·have : ∃ i, ¬ (i < l.length → (l.getD i []).length ≤ 300) := Classical.not_forall.1 h
   obtain ⟨i, hi⟩ := this
   exact ⟨i, Nat.zero_le _, by by_cases e : i < l.length <;> simp_all, fun e => hi (fun _ => e)⟩
theorem aam (N H D A K : Int) (sh : Bool) {ρ : Type} (k : Bool → Option ρ) : P.aam N H D A K sh k = k false ∨ (∃ n A' K' : Nat, N = (n : Int) ∧ A = (A' : Int) ∧ K = (K' : Int) ∧ aar n H D A' K' ∧ A' ≤ 4 ∧ K' ≤ 6 ∧ P.aam N H D A K sh k = k true) := by
 have e : P.aam N H D A K sh k = P.ag0 N H D A K sh k := P.asj ..
 rw [e]; unfold P.ag0
 rw [qo]
 by_cases hf : aar N H D A K
 ·obtain ⟨n, rfl⟩ : ∃ n : Nat, N = (n : Int) := ⟨N.toNat, by unfold aar at hf; omega⟩
  obtain ⟨A, K, rfl, rfl, _⟩ := bpo hf
  rw [decide_eq_true hf, o9, br4]
  by_cases h4 : (A : Int) ≤ 4
  ·rw [if_pos h4]
   by_cases hh : (K : Int) ≤ 6
   ·exact .inr ⟨n, A, K, rfl, rfl, rfl, hf, by omega, by omega, by rw [decide_eq_true hh]⟩
   ·exact .inl (by rw [decide_eq_false hh])
  ·rw [if_neg h4]; exact .inl rfl
 ·rw [decide_eq_false hf, su]; exact .inl rfl
end Q
end

section
/- fors: signatures and what they lead to, by the program and by the document. -/
namespace Q
open QK
open Go Go.Abs
set_option linter.unusedVariables false
set_option linter.unusedSimpArgs false
def dF (A : Nat) (t : List Int) (k : Nat) : Nat := T 8 t.reverse / 2 ^ (8 * t.length - A * (k + 1)) % 2 ^ A
def ixF (A : Nat) (t : List Int) (k : Nat) : Nat := k * 2 ^ A + dF A t k
theorem btb (A : Nat) (t : List Int) (k : Nat) : dF A t k < 2 ^ A := Nat.mod_lt _ (Nat.two_pow_pos A)
theorem bfi {A K k : Nat} (t : List Int) (hk : k < K) : ixF A t k < K * 2 ^ A := by
 have h1 := btb A t k
 have h2 : (k + 1) * 2 ^ A ≤ K * 2 ^ A := Nat.mul_le_mul hk (Nat.le_refl _)
 rw [Nat.add_mul, Nat.one_mul] at h2
 unfold ixF; omega
theorem aty {A K : Nat} (t : List Int) (h1 : 1 ≤ A) (h2 : A ≤ 14) (ht : t.length = txF A K) : (abv t (A : Int) (K : Int)).length = K ∧ ∀ k, k < K → (abv t (A : Int) (K : Int)).getD k 0 = ((dF A t k : Nat) : Int) := by
 rw [bg8 t A K h1 (by omega) (by unfold txF at ht; omega)]
 refine ⟨by simp, fun k hk => ?_⟩
 rw [List.getD_eq_getElem?_getD, List.getElem?_map, List.getElem?_range hk]
 rfl
theorem bwg {A : Nat} (t : List Int) (k : Nat) (hb : ixF A t k < 18446744073709551616) (hA : A ≤ 64) : bits .or .u64 (IntKind.u64.wrap (IntKind.u64.wrap (k : Int) * (2 : Int) ^ min A 64)) (IntKind.u64.wrap ((dF A t k : Nat) : Int)) = ((ixF A t k : Nat) : Int) := by
 have h1 : k * 2 ^ A ≤ ixF A t k := Nat.le_add_right _ _
 have h2 : k ≤ k * 2 ^ A := Nat.le_mul_of_pos_right _ (Nat.two_pow_pos A)
 have h3 : dF A t k ≤ ixF A t k := Nat.le_add_left _ _
 rw [ah5 k (by omega), auk k A hA (by omega), ah5 _ (by omega), bfg _ _ (by omega) (by omega)]
 congr 1
 unfold ixF
 rw [Nat.mul_comm k (2 ^ A), Nat.two_pow_add_eq_or_of_lt (btb A t k)]
theorem bon {A : Nat} (t : List Int) (k : Nat) (hb : ixF A t k < 18446744073709551616) (hA : A ≤ 64) : IntKind.u64.wrap (IntKind.u64.wrap (IntKind.u64.wrap (k : Int) * (2 : Int) ^ min A 64) + IntKind.u64.wrap ((dF A t k : Nat) : Int)) = ((ixF A t k : Nat) : Int) := by
 have h1 : k * 2 ^ A ≤ ixF A t k := Nat.le_add_right _ _
 have h2 : k ≤ k * 2 ^ A := Nat.le_mul_of_pos_right _ (Nat.two_pow_pos A)
 have h3 : dF A t k ≤ ixF A t k := Nat.le_add_left _ _
 rw [ah5 k (by omega), auk k A hA (by omega), ah5 _ (by omega), show ((k * 2 ^ A : Nat) : Int) + ((dF A t k : Nat) : Int) = ((ixF A t k : Nat) : Int) by unfold ixF; omega, ah5 _ hb]
def auF (n : Nat) (sh : Bool) (pub sec a : List Int) (i z : Nat) : List Int := fkW n sh pub sec a z ((i / 2 ^ z) ^^^ 1)
def sgF (n : Nat) (sh : Bool) (pub sec a : List Int) (A : Nat) (t : List Int) (k : Nat) : List Int := lfF n sh pub sec a (ixF A t k) ++ cat (auF n sh pub sec a (ixF A t k)) A
theorem bld {n : Nat} (hn : n ≤ 32) (sh : Bool) (pub sec a : List Int) (i z : Nat) : (auF n sh pub sec a i z).length = n := alu hn _ _ _ _ _ _
theorem bd3 {n : Nat} (hn : n ≤ 32) (sh : Bool) (pub sec a : List Int) (A : Nat) (t : List Int) (k : Nat) : (sgF n sh pub sec a A t k).length = n * (A + 1) := by
 unfold sgF
 rw [List.length_append, avn hn, al0 (bld hn sh pub sec a _), Nat.mul_add, Nat.mul_one, Nat.mul_comm A n, Nat.add_comm]
theorem bsb {A K i z : Nat} (hi : i < K * 2 ^ A) (hz : z < A) : (i / 2 ^ z) ^^^ 1 < K * 2 ^ (A - z) := by
 have h1 : i / 2 ^ z < K * 2 ^ (A - z) := by
  rw [Nat.div_lt_iff_lt_mul (Nat.two_pow_pos z), Nat.mul_assoc, ← Nat.pow_add, Nat.sub_add_cancel (by omega)]
  exact hi
 have h2 : K * 2 ^ (A - z) = 2 * (K * 2 ^ (A - (z + 1))) := by rw [show A - z = A - (z + 1) + 1 by omega, Nat.pow_succ, ← Nat.mul_assoc, Nat.mul_comm]
 rw [xor1]
 generalize i / 2 ^ z = x at h1 ⊢
 generalize K * 2 ^ (A - (z + 1)) = e at h2
 split <;> omega
def upF (n : Nat) (sh : Bool) (pub a : List Int) (i : Nat) (part : List Int) : Nat → List Int
 | 0 => ovF n sh pub a 0 i (part.take n)
 | z + 1 => ovF n sh pub a (z + 1) (i / 2 ^ (z + 1)) (if i / 2 ^ z % 2 = 1 then (part.drop ((z + 1) * n)).take n ++ upF n sh pub a i part z else upF n sh pub a i part z ++ (part.drop ((z + 1) * n)).take n)
theorem auy {n : Nat} (hn : n ≤ 32) (sh : Bool) (pub a : List Int) (i : Nat) (part : List Int) : ∀ z, (upF n sh pub a i part z).length = n
 | 0 => amx hn _ _ _ _
 | z + 1 => amx hn _ _ _ _
theorem bf3 (n : Nat) (sh : Bool) (pub a : List Int) (i : Nat) (part : List Int) : ∀ z, In 256 (upF n sh pub a i part z)
 | 0 => av6 _ _ _ _ _
 | z + 1 => av6 _ _ _ _ _
def ptF (n A : Nat) (sig : List Int) (k : Nat) : List Int := sig.drop (k * (n * (A + 1)))
def cdF (n : Nat) (sh : Bool) (pub a : List Int) (A : Nat) (t sig : List Int) (k : Nat) : List Int := upF n sh pub a (ixF A t k) (ptF n A sig k) A
theorem yw {n A K : Nat} {H D : Int} (hf : aar n H D A K) (sh : Bool) {sec pub a : List Int} (hsec : In 256 sec) (lsec : sec.length = n) (hp : In 256 pub) (np : pub.length = n) (la : a.length = 32) (ha : In 256 a) (t : List Int) (ht : In 256 t) (lt : t.length = txF A K) {ρ : Type} (k : List Int → Option ρ) : P.yw (n : Int) H D A K sh t sec pub a k = k (cat (sgF n sh pub sec a A t) K) := by
 have hq := hf
 unfold aar at hq
 have hn : n ≤ 32 := by omega
 have hA : A ≤ 14 := by omega
 have hK : K ≤ 40 := by omega
 have h3 : K * A ≤ 40 * 14 := Nat.mul_le_mul hK hA
 have hpw : K * 2 ^ A ≤ 655360 := by
  have h1 : 2 ^ A ≤ 2 ^ 14 := Nat.pow_le_pow_right (by omega) hA
  have := Nat.mul_le_mul hK h1
  omega
 have htx : txF A K ≤ 100 := by unfold txF; omega
 obtain ⟨d1, d2⟩ := aty (A := A) (K := K) t (by omega) hA lt
 have hl := al0 (bd3 hn sh pub sec a A t)
 have hsz : n * (A + 1) ≤ 32 * 15 := Nat.mul_le_mul hn (by omega)
 rw [P.afv]; unfold P.acs
 rw [jy hf, iq hf, decide_eq_true ⟨lsec, np⟩, lq, o9, dz (by omega), jk t A K ht (by omega), d1, P.asb]; unfold P.anz P.bw6 P.bva P.bzd
 refine wu (fun j => ((K : Int), (j : Int), cat (sgF n sh pub sec a A t) j, (n : Int), H, D, (A : Int), (K : Int), sh, (n : Int), H, D, (A : Int), (K : Int), sh, sec, pub, a, (n : Int), H, D, (A : Int), (K : Int), sh, sec, pub, a, abv t (A : Int) (K : Int))) K rfl (fun j hj next hnx => ?_) (fun next => ?_) (by omega)
 ·have hix := bfi (A := A) t hj
  have hm : j * (n * (A + 1)) ≤ 40 * (32 * 15) := Nat.mul_le_mul (by omega) hsz
  simp only [P.aiw, d1, toNat_cast]
  rw [av (by omega), av (by omega), av (by omega), dn (by omega), d2 j hj, bwg t j (by omega) (by omega), bc5 hf sh hp np la ha hsec lsec _ (by omega), av (by rw [hl, avn hn]; omega), P.apr]
  unfold P.alx P.bxa P.bty P.b3l
  refine wu (fun z => (((ixF A t j : Nat) : Int), (A : Int), (z : Int), cat (sgF n sh pub sec a A t) j ++ lfF n sh pub sec a (ixF A t j) ++ cat (auF n sh pub sec a (ixF A t j)) z, (n : Int), H, D, (A : Int), (K : Int), sh, (n : Int), H, D, (A : Int), (K : Int), sh, sec, pub, a, (n : Int), H, D, (A : Int), (K : Int), sh, sec, pub, a, abv t (A : Int) (K : Int))) A (by simp [cat]) (fun z hz next2 hnx2 => ?_) (fun next2 => ?_) (by omega)
  ·have hau := bsb hix hz
   have hkb := bsy (A := A) (K := K) (z := z) hA hK (by omega) hau
   have hdl := Nat.div_le_self (ixF A t j) (2 ^ z)
   have l2 := al0 (bld hn sh pub sec a (ixF A t j)) z
   have hm2 : z * n ≤ 14 * 32 := Nat.mul_le_mul (by omega) hn
   simp only [P.ahx, toNat_cast]
   rw [av (by omega), dn (by omega), fdiv_pow _ _ _ (by omega), show (1 : Int) = ((1 : Nat) : Int) from rfl, bea _ _ (by omega) (by omega), bid hf sh hsec lsec hp np la ha z _ (by omega) (by omega), av (by rw [List.length_append, List.length_append, hl, avn hn, l2, alu hn]; omega), o8 (by omega) (by omega), List.append_assoc _ (cat _ z)]
   exact hnx2
  ·simp only [P.ahx]
   rw [dn (by omega), o8 (by omega) (by omega)]
   rw [cat, sgF, ← List.append_assoc] at hnx
   exact hnx
 ·simp only [P.aiw]
  rw [dn (by omega)]
def rwF (n : Nat) (sh : Bool) (pub sec a : List Int) (A : Nat) (t : List Int) : Nat → List (List Int)
 | 0 => []
 | j + 1 => rwF n sh pub sec a A t j ++ [lfF n sh pub sec a (ixF A t j)] ++ (List.range A).map (auF n sh pub sec a (ixF A t j))
theorem bk8 {n A : Nat} (sh : Bool) {sec pub a : List Int} (t : List Int) : ∀ j, (rwF n sh pub sec a A t j).length = j * (A + 1)
 | 0 => by simp [rwF]
 | j + 1 => by rw [rwF, List.length_append, List.length_append, bk8 sh t j, Nat.add_mul]; simp; omega
theorem bfk {n A : Nat} (sh : Bool) {sec pub a : List Int} (t : List Int) : ∀ j, (rwF n sh pub sec a A t j).flatten = cat (sgF n sh pub sec a A t) j
 | 0 => rfl
 | j + 1 => by rw [rwF, List.flatten_append, List.flatten_append, bfk sh t j, aps, cat, sgF, ← List.append_assoc]; simp
theorem ac9 {n A K : Nat} {H D : Int} (hf : aar n H D A K) (sh : Bool) {sec pub a : List Int} (hsec : In 256 sec) (lsec : sec.length = n) (hp : In 256 pub) (np : pub.length = n) (la : a.length = 32) (ha : In 256 a) (t : List Int) (ht : In 256 t) (lt : t.length = txF A K) {ρ : Type} (k : List Int → Option ρ) : P.ac9 (n : Int) H D A K sh t sec pub a k = k (cat (sgF n sh pub sec a A t) K) := by
 have hq := hf
 unfold aar at hq
 have hn : n ≤ 32 := by omega
 have hA : A ≤ 14 := by omega
 have hK : K ≤ 40 := by omega
 have h3 : K * A ≤ 40 * 14 := Nat.mul_le_mul hK hA
 have hpw : K * 2 ^ A ≤ 655360 := by
  have h1 : 2 ^ A ≤ 2 ^ 14 := Nat.pow_le_pow_right (by omega) hA
  have := Nat.mul_le_mul hK h1
  omega
 have htx : txF A K ≤ 100 := by unfold txF; omega
 obtain ⟨d1, d2⟩ := aty (A := A) (K := K) t (by omega) hA lt
 have hl := al0 (bd3 hn sh pub sec a A t)
 have hsz : n * (A + 1) ≤ 32 * 15 := Nat.mul_le_mul hn (by omega)
 have hrl := bk8 (n := n) (A := A) sh (sec := sec) (pub := pub) (a := a) t
 have hrf := bfk (n := n) (A := A) sh (sec := sec) (pub := pub) (a := a) t
 rw [P.aj3]; unfold P.af0
 rw [vw hf, uo hf, decide_eq_true ⟨lsec, np⟩, show (!true) = false from rfl, su, dz (by omega), uz t A K ht (by omega), P.aw5]; unfold P.awh P.bxh P.br2 P.b2y
 refine wu (fun j => (sec, pub, (j : Int), rwF n sh pub sec a A t j, (n : Int), H, D, (A : Int), (K : Int), sh, a, abv t (A : Int) (K : Int))) K rfl (fun j hj next hnx => ?_) (fun next => ?_) (by omega)
 ·have hix := bfi (A := A) t hj
  have hm : j * (A + 1) ≤ 40 * 15 := Nat.mul_le_mul (by omega) (by omega)
  simp only [P.aom, d1, toNat_cast]
  rw [av (by omega), dn (by omega), av (by omega), av (by omega), d2 j hj, bon t j (by omega) (by omega), aax hf sh hp np la ha hsec lsec _ (by omega), av (by rw [hrl]; omega), P.at5]
  unfold P.as8 P.byd P.bur P.b3u
  refine wu (fun z => (sec, pub, (j : Int), ((ixF A t j : Nat) : Int), (z : Int), rwF n sh pub sec a A t j ++ [lfF n sh pub sec a (ixF A t j)] ++ (List.range z).map (auF n sh pub sec a (ixF A t j)), (n : Int), H, D, (A : Int), (K : Int), sh, a, abv t (A : Int) (K : Int))) A (by simp) (fun z hz next2 hnx2 => ?_) (fun next2 => ?_) (by omega)
  ·have hau := bsb hix hz
   have hdl := Nat.div_le_self (ixF A t j) (2 ^ z)
   simp only [P.aml, toNat_cast]
   rw [av (by omega), dn (by omega), fdiv_pow _ _ _ (by omega), show (1 : Int) = ((1 : Nat) : Int) from rfl, bea _ _ (by omega) (by omega), aaz hf sh hsec lsec hp np la ha z _ (z + 1) (by omega) (by omega) hau, av (by simp [hrl]; omega), o8 (by omega) (by omega), List.append_assoc _ (List.map _ _)]
   rw [← afi] at hnx2
   exact hnx2
  ·simp only [P.aml]
   rw [dn (by omega), o8 (by omega) (by omega)]
   exact hnx
 ·have hm : K * (A + 1) ≤ 40 * 15 := Nat.mul_le_mul (by omega) (by omega)
  have hm2 : K * (n * (A + 1)) ≤ 40 * (32 * 15) := Nat.mul_le_mul (by omega) hsz
  simp only [P.aom]
  rw [dn (by omega), jv _ (by rw [hrl]; omega) (by rw [hrf, hl]; omega), hrf]
theorem bp9 {n A K : Nat} {H D : Int} (hf : aar n H D A K) (sh : Bool) {pub a : List Int} (hp : In 256 pub) (np : pub.length = n) (la : a.length = 32) (ha : In 256 a) (sec : List Int) (i : Nat) (hi : i < 18446744073709551616) (part : List Int) (ip : In 256 part) (lp' : (A + 1) * n ≤ part.length) (lb : part.length ≤ 1000000) {ρ : Type} (k : List Int → Option ρ) : P.oh (n : Int) H D A K sh sec pub a (i : Int) part k = k (upF n sh pub a i part A) := by
 have hq := hf
 unfold aar at hq
 have hn : n ≤ 32 := by omega
 have hA : A ≤ 14 := by omega
 have hsp : n ≤ (A + 1) * n := Nat.le_mul_of_pos_left _ (by omega)
 have hf1 : [part.take n].flatten = part.take n := by simp
 have ht1 : (part.take n).length = n := by rw [List.length_take]; omega
 rw [P.akx]; unfold P.aes
 rw [av (by omega), av (by omega), toNat_cast, List.drop_zero, show ∀ (x : Int) (l : List (List Int)) (kk : List Int → Option ρ), P.jc (n : Int) H D A K sh sec pub a 0 x l kk = P.jc (n : Int) H D A K sh sec pub a ((0 : Nat) : Int) x l kk from fun _ _ _ => rfl,
  ams hf sh hp np la ha 0 i (by omega) hi _ (by simp) (by rw [hf1]; exact ip.take n) (by rw [hf1]; omega), hf1, P.apa]
 unfold P.akz P.bx4 P.bt4 P.b2d
 refine wu (fun z => ((i : Int), part.drop (z * n), upF n sh pub a i part z, (A : Int), (z : Int), (n : Int), H, D, (A : Int), (K : Int), sh, sec, pub, a)) A (by simp [upF]) (fun z hz next hnx => ?_) (fun next => ?_) (by omega)
 ·have hd := Nat.div_le_self i (2 ^ z)
  have hd2 := Nat.div_le_self i (2 ^ (z + 1))
  have hz2 : (z + 2) * n ≤ (A + 1) * n := Nat.mul_le_mul (by omega) (Nat.le_refl _)
  have e2 : (z + 2) * n = z * n + n + n := by rw [Nat.add_mul]; omega
  have e1 : (z + 1) * n = z * n + n := by rw [Nat.add_mul, Nat.one_mul]
  have hl0 : (part.drop (z * n)).length = part.length - z * n := List.length_drop
  have hdd : (part.drop (z * n)).drop n = part.drop ((z + 1) * n) := by rw [List.drop_drop, e1]
  have hl1 : (part.drop ((z + 1) * n)).length = part.length - (z + 1) * n := List.length_drop
  have lu := auy hn sh pub a i part z
  have iu := bf3 n sh pub a i part z
  have is' : In 256 ((part.drop ((z + 1) * n)).take n) := (ip.drop _).take _
  have ls' : ((part.drop ((z + 1) * n)).take n).length ≤ n := by rw [List.length_take]; omega
  simp only [P.af4, toNat_cast, List.take_length, List.drop_zero, hdd]
  rw [av (by omega), av (by omega), av (by omega), av (by omega), av (by omega), av (by omega), dn (by omega), o8 (x := (z : Int) + 1) (by omega) (by omega), show (z : Int) + 1 = ((z + 1 : Nat) : Int) by omega, dn (by omega), toNat_cast, fdiv_pow _ _ _ (by omega), fdiv_pow _ _ _ (by omega), show (1 : Int) = ((1 : Nat) : Int) from rfl, asa _ _ (by omega) (by omega), Nat.and_one_is_mod]
  rw [upF] at hnx
  by_cases hb : i / 2 ^ z % 2 = 1
  ·rw [if_pos hb] at hnx
   have hfl : [(part.drop ((z + 1) * n)).take n, upF n sh pub a i part z].flatten = (part.drop ((z + 1) * n)).take n ++ upF n sh pub a i part z := by simp
   rw [hb, dw rfl, ams hf sh hp np la ha (z + 1) _ (by omega) (by omega) _ (by simp) (by rw [hfl]; exact is'.app iu) (by rw [hfl, List.length_append]; omega), hfl]
   exact hnx
  ·rw [if_neg hb] at hnx
   have hfl : [upF n sh pub a i part z, (part.drop ((z + 1) * n)).take n].flatten = upF n sh pub a i part z ++ (part.drop ((z + 1) * n)).take n := by simp
   rw [show i / 2 ^ z % 2 = 0 by omega, dx (by omega), dn (by omega), ams hf sh hp np la ha (z + 1) _ (by omega) (by omega) _ (by simp) (by rw [hfl]; exact iu.app is') (by rw [hfl, List.length_append]; omega), hfl]
   exact hnx
 ·simp only [P.af4]
  rw [dn (by omega)]
theorem pq {n A K : Nat} {H D : Int} (hf : aar n H D A K) (sh : Bool) {pub a : List Int} (hp : In 256 pub) (np : pub.length = n) (la : a.length = 32) (ha : In 256 a) (t sig : List Int) (ht : In 256 t) (lt : t.length = txF A K) (hsig : In 256 sig) (lsig : sig.length = szF n A K) {ρ : Type} (k : List Int → Option ρ) : P.pq (n : Int) H D A K sh sig t pub a k = k (kyF n sh pub a (cat (cdF n sh pub a A t sig) K)) := by
 have hq := hf
 unfold aar at hq
 have hn : n ≤ 32 := by omega
 have hA : A ≤ 14 := by omega
 have hK : K ≤ 40 := by omega
 have h3 : K * A ≤ 40 * 14 := Nat.mul_le_mul hK hA
 have hpw : K * 2 ^ A ≤ 655360 := by
  have h1 : 2 ^ A ≤ 2 ^ 14 := Nat.pow_le_pow_right (by omega) hA
  have := Nat.mul_le_mul hK h1
  omega
 have htx : txF A K ≤ 100 := by unfold txF; omega
 obtain ⟨d1, d2⟩ := aty (A := A) (K := K) t (by omega) hA lt
 have hl := al0 (T := cdF n sh pub a A t sig) (fun i => auy hn sh pub a _ _ _)
 have hsz : n * (A + 1) ≤ 32 * 15 := Nat.mul_le_mul hn (by omega)
 have eN : IntKind.i64.wrap ((n : Int) * IntKind.i64.wrap ((A : Int) + 1)) = ((n * (A + 1) : Nat) : Int) := by
  rw [o8 (x := (A : Int) + 1) (by omega) (by omega), show (A : Int) + 1 = ((A + 1 : Nat) : Int) by omega, ← Int.natCast_mul, o8 (by omega) (by omega)]
 unfold szF at lsig
 rw [P.aaj]; unfold P.vv
 rw [iq hf, mq, decide_eq_true hf, lq, o9, dz (by omega), dz (by omega), dz (by unfold szF; omega), jk t A K ht (by omega), d1, P.ald]; unfold P.ah0 P.bxg P.bth P.b1e
 refine wu (fun j => ((K : Int), (j : Int), cat (cdF n sh pub a A t sig) j, (n : Int), H, D, (A : Int), (K : Int), sh, ptF n A sig j, (n : Int), H, D, (A : Int), (K : Int), sh, pub, a, (n : Int), H, D, (A : Int), (K : Int), sh, pub, a, abv t (A : Int) (K : Int))) K (by simp [cat, ptF]) (fun j hj next hnx => ?_) (fun next => ?_) (by omega)
 ·have hix := bfi (A := A) t hj
  have hm : j * n ≤ 40 * 32 := Nat.mul_le_mul (by omega) hn
  have hj1 : (j + 1) * (n * (A + 1)) ≤ K * (n * (A + 1)) := Nat.mul_le_mul hj (Nat.le_refl _)
  have e1 : (j + 1) * (n * (A + 1)) = j * (n * (A + 1)) + n * (A + 1) := by rw [Nat.add_mul, Nat.one_mul]
  have hKs : K * (n * (A + 1)) ≤ 40 * (32 * 15) := Nat.mul_le_mul hK hsz
  have hpl : (ptF n A sig j).length = sig.length - j * (n * (A + 1)) := List.length_drop
  have hpn : (ptF n A sig j).drop (n * (A + 1)) = ptF n A sig (j + 1) := by unfold ptF; rw [List.drop_drop, e1]
  simp only [P.adb, d1, toNat_cast, eN, List.take_length, hpn]
  rw [av (by omega), av (by omega), av (by omega), dn (by omega), d2 j hj, bwg t j (by omega) (by omega), bp9 hf sh hp np la ha [] _ (by omega) _ (show In 256 (ptF n A sig j) from hsig.drop _) (by rw [hpl, Nat.mul_comm]; omega) (by rw [hpl]; omega), av (by rw [hl, auy hn]; omega), av (by omega), av (by omega), av (by omega), o8 (by omega) (by omega)]
  exact hnx
 ·have hm : K * n ≤ 40 * 32 := Nat.mul_le_mul (by omega) hn
  simp only [P.adb]
  rw [dn (by omega), bmu hf sh hp np la ha _ (bj6 (T := cdF n sh pub a A t sig) (fun i => bf3 _ _ _ _ _ _ _) _) (by rw [hl]; omega)]
theorem ql {n A K : Nat} {H D : Int} (hf : aar n H D A K) (sh : Bool) {pub a : List Int} (hp : In 256 pub) (np : pub.length = n) (la : a.length = 32) (ha : In 256 a) (t sig : List Int) (ht : In 256 t) (lt : t.length = txF A K) (hsig : In 256 sig) (lsig : sig.length = szF n A K) {ρ : Type} (k : List Int → Option ρ) : P.ql (n : Int) H D A K sh sig t pub a k = k (kyF n sh pub a (cat (cdF n sh pub a A t sig) K)) := by
 have hq := hf
 unfold aar at hq
 have hn : n ≤ 32 := by omega
 have hA : A ≤ 14 := by omega
 have hK : K ≤ 40 := by omega
 have h3 : K * A ≤ 40 * 14 := Nat.mul_le_mul hK hA
 have hpw : K * 2 ^ A ≤ 655360 := by
  have h1 : 2 ^ A ≤ 2 ^ 14 := Nat.pow_le_pow_right (by omega) hA
  have := Nat.mul_le_mul hK h1
  omega
 have htx : txF A K ≤ 100 := by unfold txF; omega
 obtain ⟨d1, d2⟩ := aty (A := A) (K := K) t (by omega) hA lt
 have hl := al0 (T := cdF n sh pub a A t sig) (fun i => auy hn sh pub a _ _ _)
 have hsz : n * (A + 1) ≤ 32 * 15 := Nat.mul_le_mul hn (by omega)
 unfold szF at lsig
 rw [P.aa4]; unfold P.yc
 rw [vw hf, qo, decide_eq_true hf, lq, o9, dz (by omega), dz (by omega), dz (by unfold szF; omega), uz t A K ht (by omega), P.aod]; unfold P.alc P.bxs P.btf P.b3g
 refine wu (fun j => (sig, pub, (j : Int), (List.range j).map (cdF n sh pub a A t sig), (n : Int), H, D, (A : Int), (K : Int), sh, a, abv t (A : Int) (K : Int))) K rfl (fun j hj next hnx => ?_) (fun next => ?_) (by omega)
 ·have hix := bfi (A := A) t hj
  have hj1 : (j + 1) * (n * (A + 1)) ≤ K * (n * (A + 1)) := Nat.mul_le_mul hj (Nat.le_refl _)
  have e1 : (j + 1) * (n * (A + 1)) = j * (n * (A + 1)) + n * (A + 1) := by rw [Nat.add_mul, Nat.one_mul]
  have hKs : K * (n * (A + 1)) ≤ 40 * (32 * 15) := Nat.mul_le_mul hK hsz
  have hjn : j * n ≤ 40 * 32 := Nat.mul_le_mul (by omega) hn
  have hnA : n ≤ n * (A + 1) := Nat.le_mul_of_pos_right _ (by omega)
  have hpl : (ptF n A sig j).length = sig.length - j * (n * (A + 1)) := List.length_drop
  have eJ : IntKind.i64.wrap (IntKind.i64.wrap ((j : Int) * (n : Int)) * IntKind.i64.wrap ((A : Int) + 1)) = ((j * (n * (A + 1)) : Nat) : Int) := by
   rw [← Int.natCast_mul, o8 (x := ((j * n : Nat) : Int)) (by omega) (by omega), o8 (x := (A : Int) + 1) (by omega) (by omega), show (A : Int) + 1 = ((A + 1 : Nat) : Int) by omega, ← Int.natCast_mul, Nat.mul_assoc, o8 (by omega) (by omega)]
  simp only [P.af6, d1, toNat_cast, eJ, List.take_length, List.drop_zero]
  rw [show sig.drop (j * (n * (A + 1))) = ptF n A sig j from rfl, av (by omega), dn (by omega), av (by omega), av (by omega), av (by omega), av (by omega), av (by omega), d2 j hj, bon t j (by omega) (by omega)]
  rw [show P.uq (ρ := ρ) a 3 0 ((ixF A t j : Nat) : Int) = P.uq a ((3 : Nat) : Int) ((0 : Nat) : Int) ((ixF A t j : Nat) : Int) from rfl, uq hf hp np la ha 3 0 _ (by omega) (by omega) (by omega), show apf (apf (ofA a 3) 4 0) 5 (ixF A t j) = ktA a 0 (ixF A t j) from rfl, av (by omega), av (by omega),
   sw hf sh pub hp np _ _ (arz la _ _) (axw ha _ _) (show In 256 ((ptF n A sig j).take n) from (hsig.drop _).take _) (by rw [List.length_take]; omega), P.anj]
  unfold P.ajt P.bxc P.bsi P.b1g
  refine wu (fun z => (sig, pub, (j : Int), ((ixF A t j : Nat) : Int), ptF n A sig j, upF n sh pub a (ixF A t j) (ptF n A sig j) z, (z : Int), abv t (A : Int) (K : Int), a, (n : Int), H, D, (A : Int), (K : Int), sh, (List.range j).map (cdF n sh pub a A t sig))) A rfl (fun z hz next2 hnx2 => ?_) (fun next2 => ?_) (by omega)
  ·generalize hpt : ptF n A sig j = part at hpl hnx2
   have ip : In 256 part := by rw [← hpt]; exact hsig.drop _
   generalize hi0 : ixF A t j = i at hix hnx2
   have hd := Nat.div_le_self i (2 ^ z)
   have hd2 := Nat.div_le_self i (2 ^ (z + 1))
   have hz2 : n * (z + 2) ≤ n * (A + 1) := Nat.mul_le_mul (Nat.le_refl _) (by omega)
   have hz1 : n * (z + 1) ≤ n * (A + 1) := Nat.mul_le_mul (Nat.le_refl _) (by omega)
   have e2 : n * (z + 2) = n * (z + 1) + n := by rw [Nat.mul_add n (z + 1) 1, Nat.mul_one]
   have eA : IntKind.i64.wrap ((n : Int) * IntKind.i64.wrap ((z : Int) + 1)) = ((n * (z + 1) : Nat) : Int) := by
    rw [o8 (x := (z : Int) + 1) (by omega) (by omega), show (z : Int) + 1 = ((z + 1 : Nat) : Int) by omega, ← Int.natCast_mul, o8 (by omega) (by omega)]
   have eB : IntKind.i64.wrap ((n : Int) * IntKind.i64.wrap ((z : Int) + 2)) = ((n * (z + 2) : Nat) : Int) := by
    rw [o8 (x := (z : Int) + 2) (by omega) (by omega), show (z : Int) + 2 = ((z + 2 : Nat) : Int) by omega, ← Int.natCast_mul, o8 (by omega) (by omega)]
   have es : List.drop (n * (z + 1)) (List.take (n * (z + 2)) part) = (part.drop ((z + 1) * n)).take n := by rw [List.drop_take, e2, Nat.add_sub_cancel_left, Nat.mul_comm]
   have lu := auy hn sh pub a i part z
   have iu := bf3 n sh pub a i part z
   have is' : In 256 ((part.drop ((z + 1) * n)).take n) := (ip.drop _).take _
   have ls' : ((part.drop ((z + 1) * n)).take n).length ≤ n := by rw [List.length_take]; omega
   have em : ((i / 2 ^ z : Nat) : Int).tmod 2 = ((i / 2 ^ z % 2 : Nat) : Int) := by rw [Int.tmod_eq_emod_of_nonneg (Int.natCast_nonneg _)]; rfl
   have f1 : [upF n sh pub a i part z, (part.drop ((z + 1) * n)).take n].flatten = upF n sh pub a i part z ++ (part.drop ((z + 1) * n)).take n := by simp
   have f2 : [(part.drop ((z + 1) * n)).take n, upF n sh pub a i part z].flatten = (part.drop ((z + 1) * n)).take n ++ upF n sh pub a i part z := by simp
   simp only [P.ae0, eA, eB, toNat_cast, es]
   rw [av (by omega), av (by omega), av (by omega), av (by omega), jv _ (by simp) (by rw [f1, List.length_append]; omega), f1, dn (by omega), fdiv_pow _ _ _ (by omega), em]
   rw [upF] at hnx2
   by_cases hb : i / 2 ^ z % 2 = 1
   ·rw [if_pos hb] at hnx2
    rw [hb, dw (by omega), jv _ (by simp) (by rw [f2, List.length_append]; omega), f2, o8 (x := (z : Int) + 1) (by omega) (by omega), show (z : Int) + 1 = ((z + 1 : Nat) : Int) by omega, dn (by omega), toNat_cast, fdiv_pow _ _ _ (by omega), show P.uq (ρ := ρ) a 3 ((z + 1 : Nat) : Int) ((i / 2 ^ (z + 1) : Nat) : Int) = P.uq a ((3 : Nat) : Int) ((z + 1 : Nat) : Int) ((i / 2 ^ (z + 1) : Nat) : Int) from rfl, uq hf hp np la ha 3 (z + 1) _ (by omega) (by omega) (by omega), show apf (apf (ofA a 3) 4 (z + 1)) 5 (i / 2 ^ (z + 1)) = ktA a (z + 1) (i / 2 ^ (z + 1)) from rfl,
     sw hf sh pub hp np _ _ (arz la _ _) (axw ha _ _) (is'.app iu) (by rw [List.length_append]; omega)]
    exact hnx2
   ·rw [if_neg hb] at hnx2
    rw [show i / 2 ^ z % 2 = 0 by omega, dx (by omega), o8 (x := (z : Int) + 1) (by omega) (by omega), show (z : Int) + 1 = ((z + 1 : Nat) : Int) by omega, dn (by omega), toNat_cast, fdiv_pow _ _ _ (by omega), show P.uq (ρ := ρ) a 3 ((z + 1 : Nat) : Int) ((i / 2 ^ (z + 1) : Nat) : Int) = P.uq a ((3 : Nat) : Int) ((z + 1 : Nat) : Int) ((i / 2 ^ (z + 1) : Nat) : Int) from rfl, uq hf hp np la ha 3 (z + 1) _ (by omega) (by omega) (by omega), show apf (apf (ofA a 3) 4 (z + 1)) 5 (i / 2 ^ (z + 1)) = ktA a (z + 1) (i / 2 ^ (z + 1)) from rfl,
     sw hf sh pub hp np _ _ (arz la _ _) (axw ha _ _) (iu.app is') (by rw [List.length_append]; omega)]
    exact hnx2
  ·simp only [P.ae0]
   rw [dn (by omega), av (by simp; omega), o8 (by omega) (by omega)]
   rw [← afi] at hnx
   exact hnx
 ·have hm : K * n ≤ 40 * 32 := Nat.mul_le_mul (by omega) hn
  simp only [P.af6]
  rw [dn (by omega), ahl hf sh hp np la ha _ (by simp; omega) (by rw [aps]; exact bj6 (T := cdF n sh pub a A t sig) (fun i => bf3 _ _ _ _ _ _ _) _) (by rw [aps, hl]; omega), aps]
end Q
end

section
/- fors: what any signature is; what is signed leads to the tops. -/
namespace Q
open QK
open Go Go.Abs
set_option linter.unusedVariables false
set_option linter.unusedSimpArgs false
theorem bpx {n A K : Nat} {H D : Int} (hf : aar n H D A K) (sh : Bool) (t sec pub a : List Int) (ht : In 256 t) (hsec : In 256 sec) (hp : In 256 pub) (la : a.length = 32) (ha : In 256 a) : ∃ v : List Int, v.length ≤ 100000 ∧ (∀ {ρ : Type} (k : List Int → Option ρ), P.yw n H D A K sh t sec pub a k = k v) ∧ ∀ {ρ : Type} (k : List Int → Option ρ), P.ac9 n H D A K sh t sec pub a k = k v := by
 have hq := hf
 unfold aar at hq
 have hn : n ≤ 32 := by omega
 by_cases hg : sec.length = n ∧ pub.length = n
 ·by_cases hl : t.length = txF A K
  ·have hsz : n * (A + 1) ≤ 32 * 15 := Nat.mul_le_mul hn (by omega)
   have hm2 : K * (n * (A + 1)) ≤ 40 * (32 * 15) := Nat.mul_le_mul (by omega) hsz
   exact ⟨_, by rw [al0 (bd3 hn sh pub sec a A t)]; omega, fun k => yw hf sh hsec hg.1 hp hg.2 la ha t ht hl k, fun k => ac9 hf sh hsec hg.1 hp hg.2 la ha t ht hl k⟩
  ·refine ⟨[], by simp, fun k => ?_, fun k => ?_⟩
   ·rw [P.afv]; unfold P.acs
    rw [jy hf, iq hf, decide_eq_true hg, lq, o9, gq (by omega)]
   ·rw [P.aj3]; unfold P.af0
    rw [vw hf, uo hf, decide_eq_true hg, show (!true) = false from rfl, su, gq (by omega)]
 ·refine ⟨[], by simp, fun k => ?_, fun k => ?_⟩
  ·rw [P.afv]; unfold P.acs
   rw [jy hf, iq hf, decide_eq_false hg, lq, su]
  ·rw [P.aj3]; unfold P.af0
   rw [vw hf, uo hf, decide_eq_false hg, show (!false) = true from rfl, o9]
theorem bqs {n A K : Nat} {H D : Int} (hf : aar n H D A K) (sh : Bool) (sig t pub a : List Int) (hsig : In 256 sig) (ht : In 256 t) (hp : In 256 pub) (la : a.length = 32) (ha : In 256 a) : ∃ v : List Int, v.length ≤ 1000 ∧ (∀ {ρ : Type} (k : List Int → Option ρ), P.pq n H D A K sh sig t pub a k = k v) ∧ ∀ {ρ : Type} (k : List Int → Option ρ), P.ql n H D A K sh sig t pub a k = k v := by
 have hq := hf
 unfold aar at hq
 have hn : n ≤ 32 := by omega
 by_cases h1 : pub.length = n
 ·by_cases h2 : t.length = txF A K
  ·by_cases h3 : sig.length = szF n A K
   ·exact ⟨_, by rw [bqt hn]; omega, fun k => pq hf sh hp h1 la ha t sig ht h2 hsig h3 k, fun k => ql hf sh hp h1 la ha t sig ht h2 hsig h3 k⟩
   ·refine ⟨[], by simp, fun k => ?_, fun k => ?_⟩
    ·rw [P.aaj]; unfold P.vv
     rw [iq hf, mq, decide_eq_true hf, lq, o9, dz (by omega), dz (by omega), gq (by omega)]
    ·rw [P.aa4]; unfold P.yc
     rw [vw hf, qo, decide_eq_true hf, lq, o9, dz (by omega), dz (by omega), gq (by omega)]
  ·refine ⟨[], by simp, fun k => ?_, fun k => ?_⟩
   ·rw [P.aaj]; unfold P.vv
    rw [iq hf, mq, decide_eq_true hf, lq, o9, dz (by omega), gq (by omega)]
   ·rw [P.aa4]; unfold P.yc
    rw [vw hf, qo, decide_eq_true hf, lq, o9, dz (by omega), gq (by omega)]
 ·refine ⟨[], by simp, fun k => ?_, fun k => ?_⟩
  ·rw [P.aaj]; unfold P.vv
   rw [iq hf, mq, decide_eq_true hf, lq, o9, gq (by omega)]
  ·rw [P.aa4]; unfold P.yc
   rw [vw hf, qo, decide_eq_true hf, lq, o9, gq (by omega)]
end Q
end

section
/- The plain law of ForsSigns. -/
namespace Q
open QK
open Go Go.Abs
set_option linter.unusedVariables false
set_option linter.unusedSimpArgs false
theorem ForsSigns (x0_N : Int) (x0_H : Int) (x0_D : Int) (x0_A : Int) (x0_K : Int) (x0_Shake : Bool) (x1 : List Int) (x2 : List Int) (x3 : List Int) (x4 : List Int) (x5 : List Int) (wx0_N : wfI .i64 x0_N) (wx0_H : wfI .i64 x0_H) (wx0_D : wfI .i64 x0_D) (wx0_A : wfI .i64 x0_A) (wx0_K : wfI .i64 x0_K) (nx1 : x1.length = 32) (wx1 : ∀ x, x ∈ x1 → wfI .u8 x) (nx2 : x2.length ≤ 140737488355328) (wx2 : ∀ x, x ∈ x2 → wfI .u8 x) (nx3 : x3.length ≤ 140737488355328) (wx3 : ∀ x, x ∈ x3 → wfI .u8 x) (nx4 : x4.length ≤ 140737488355328) (wx4 : ∀ x, x ∈ x4 → wfI .u8 x) (nx5 : x5.length ≤ 140737488355328) (wx5 : ∀ x, x ∈ x5 → wfI .u8 x) {ρ : Type} (k : Bool → Option ρ) : P.xq x0_N x0_H x0_D x0_A x0_K x0_Shake x1 x2 x3 x4 x5 k = k true := by
 rw [P.aky]; unfold P.afb
 generalize hK : (fun (q0 : Bool) => br (!q0) (P.tu fun (q1 : Bool) => k q1) _) = K
 rcases aam x0_N x0_H x0_D x0_A x0_K x0_Shake K with e | ⟨n, A, K', rfl, rfl, rfl, hf, hA, hK', e⟩
 ·rw [e, ← hK]
  dsimp only
  rw [lq, su, tu]
 rw [e, ← hK]
 dsimp only
 rw [lq, o9]
 generalize hK2 : (fun (q0 : Bool) => br (!q0) (P.tu fun (q1 : Bool) => k q1) _) = K2
 rcases agh [x2, x3, x4] (by simp) K2 with ⟨e2, hl⟩ | e2
 ·rw [e2, ← hK2]
  dsimp only
  rw [lq, o9]
  by_cases h5 : (x5.length : Int) > 2000
  ·rw [av h5, tu]
  ·obtain ⟨a, la, a1, a2⟩ := bpx hf x0_Shake x4 x2 x3 x1 (bcu wx4) (bcu wx2) (bcu wx3) nx1 (bcu wx1)
   obtain ⟨b, lb, b1, b2⟩ := bqs hf x0_Shake x5 x4 x3 x1 (bcu wx5) (bcu wx4) (bcu wx3) nx1 (bcu wx1)
   rw [dn h5, a1, a2, aci _ _ (by omega), decide_eq_true rfl, o9, b1, b2, aci _ _ (by omega), decide_eq_true rfl, o9, tu]
 ·rw [e2, ← hK2]
  dsimp only
  rw [lq, su, tu]
end Q
end
