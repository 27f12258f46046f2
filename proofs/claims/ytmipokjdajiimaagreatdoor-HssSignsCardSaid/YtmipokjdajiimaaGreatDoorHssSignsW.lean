/-
  HssSigns, part 23: an interpreter of my own over abstract values, the pure functions, the walks and the plain law.
-/

import Derived.Test.YtmipokjdajiimaaGreatDoorHssSignsV
import Derived.Test.YtmipokjdajiimaaGreatDoorHssSignsI
import Derived.Test.YtmipokjdajiimaaGreatDoorHssSignsK
import Derived.Test.YtmipokjdajiimaaGreatDoorHssSignsL

section
/- hss: the leaves of a number. -/
namespace Q
open Go Go.Abs
set_option linter.unusedVariables false
set_option linter.unusedSimpArgs false
def arw (H : List Int) (N : Nat) : List Int := (vec (hts H) N).map (fun (x : Nat) => (x : Int))
theorem aqj (H : List Int) (N : Nat) : (arw H N).length = H.length := by simp [arw, vec_len, hts]
theorem bf7 (H : List Int) : (hts H).length = H.length := by simp [hts]
theorem aur (H : List Int) (i : Nat) : (hts H).drop i = hts (H.drop i) := by unfold hts; rw [List.map_drop]
theorem bcx (H : List Int) (N i : Nat) (hi : i < H.length) : (arw H N).getD i 0 = ((N / 2 ^ sm (hts (H.drop (i + 1))) % 2 ^ (H.getD i 0).toNat : Nat) : Int) := by
 have h := bnt (hts H) N i (by rw [bf7]; exact hi)
 rw [aur, blr] at h
 unfold arw
 rw [List.getD_eq_getElem?_getD, List.getElem?_map]
 rw [List.getD_eq_getElem?_getD] at h
 cases hq : (vec (hts H) N)[i]? with
 | none =>
  rw [List.getElem?_eq_none_iff, vec_len, bf7] at hq
  omega
 | some x =>
  rw [hq] at h
  simp only [Option.getD_some] at h
  simp only [Option.map_some, Option.getD_some]
  rw [h]
theorem atp {n : Nat} {H W id seed : List Int} (hH : H.length = n) (f : FitK n H W id seed) (i : Nat) (hi : i < n) : sm (hts (H.drop i)) = (H.getD i 0).toNat + sm (hts (H.drop (i + 1))) ∧ 1 ≤ H.getD i 0 ∧ H.getD i 0 ≤ 10 ∧ sm (hts (H.drop i)) ≤ 60 := by
 have h2 := f.t i hi
 have h3 := ar5 h2.1
 have h4 := blz (hts H) i (by rw [bf7]; omega)
 rw [aur, aur, blr] at h4
 have h5 := bnw (hts H) i
 rw [aur] at h5
 have := f.s
 exact ⟨h4, h3.1, h2.2, by omega⟩
theorem au4 (N s : Nat) (hs : s ≤ 64) : (N : Int).fdiv ((2 : Int) ^ min ((s : Nat) : Int).toNat 64) = ((N / 2 ^ s : Nat) : Int) := by
 rw [toNat_cast, fdiv_pow N s 64 hs]
theorem apq {n : Nat} {H W id seed : List Int} (hH : H.length = n) (f : FitK n H W id seed) (N : Nat) (hN : N < 2 ^ sm (hts H)) {ρ : Type} (k : List Int → Int → Option ρ) : P.ow n H W id seed (N : Int) k = k (arw H N) 0 := by
 obtain ⟨b, hb, h1, _⟩ := zq n H W id seed hH
 have : b = true := hb.2 f
 subst this
 have hs := f.s
 have h60 : 2 ^ sm (hts H) ≤ 2 ^ 60 := Nat.pow_le_pow_right (by omega) hs
 rw [P.af5]; unfold P.acy
 rw [h1, jk, ny, ajv hH f, bq (by omega), au4 _ _ (by omega), Nat.div_eq_of_lt hN, dz (by omega), ajv hH f, P.atz]
 unfold P.apm P.zk6 P.zs6 P.zu6
 have n8 := f.n8
 refine qy (fun i => ((N : Int), ((sm (hts (H.drop i)) : Nat) : Int), n, H, W, (n : Int), (i : Int), (arw H N).take i)) n rfl (fun i hi next hnx => ?_) (fun next => ?_) (by omega)
 ·simp only [P.ajk]
  obtain ⟨e1, e2, e3, e4⟩ := atp hH f i hi
  have hsub : ((sm (hts (H.drop i)) : Nat) : Int) - H.getD i 0 = ((sm (hts (H.drop (i + 1))) : Nat) : Int) := by omega
  have htl : ((arw H N).take i).length ≤ 8 := by rw [List.length_take]; omega
  have hlt : N / 2 ^ sm (hts (H.drop (i + 1))) < 18446744073709551616 := Nat.lt_of_le_of_lt (Nat.div_le_self _ _) (by omega)
  have key : bits BinOp.and IntKind.u32 (IntKind.u32.wrap ((N / 2 ^ sm (hts (H.drop (i + 1))) : Nat) : Int)) (IntKind.u32.wrap (IntKind.u32.wrap ((1 : Int) * (2 : Int) ^ min (H.getD i 0).toNat 32) - (1 : Int))) = (arw H N).getD i 0 := by
   rw [bcx H N i (by omega), btk, show (((N / 2 ^ sm (hts (H.drop (i + 1))) : Nat) : Int) % 4294967296) = ((N / 2 ^ sm (hts (H.drop (i + 1))) % 4294967296 : Nat) : Int) by omega, bj8 _ (H.getD i 0).toNat (by omega) (by omega)]
   congr 1
   have : (4294967296 : Nat) = 2 ^ (H.getD i 0).toNat * 2 ^ (32 - (H.getD i 0).toNat) := by
    rw [← Nat.pow_add, show (H.getD i 0).toNat + (32 - (H.getD i 0).toNat) = 32 by omega]
   rw [this, Nat.mod_mul_right_mod]
  rw [aj (by omega), aj (by omega), aj (by omega), toNat_cast, hsub, o9 (x := ((sm (hts (H.drop (i + 1))) : Nat) : Int)) (by omega) (by omega), bq (by omega), bq (by omega), aj (by omega), au4 _ _ (by omega), key, o9 (by omega) (by omega), ai2 _ _ _ (by rw [aqj]; omega)]
  exact hnx
 ·simp only [P.ajk]
  rw [bq (by omega), List.take_of_length_le (by rw [aqj]; omega)]
theorem aup {n : Nat} {H W id seed : List Int} (hH : H.length = n) (f : FitK n H W id seed) (N : Nat) (hN : ¬ N < 2 ^ sm (hts H)) {ρ : Type} (k : List Int → Int → Option ρ) : P.ow n H W id seed (N : Int) k = k [] 13 := by
 obtain ⟨b, hb, h1, _⟩ := zq n H W id seed hH
 have : b = true := hb.2 f
 subst this
 have hs := f.s
 have h1' : 1 ≤ N / 2 ^ sm (hts H) := (Nat.le_div_iff_mul_le (Nat.two_pow_pos _)).2 (by omega)
 rw [P.af5]; unfold P.acy
 rw [h1, jk, ny, ajv hH f, bq (by omega), au4 _ _ (by omega), gq (by omega)]
theorem bat {n : Nat} {H W id seed : List Int} (hH : H.length = n) (f : ¬ FitK n H W id seed) (N : Int) {ρ : Type} (k : List Int → Int → Option ρ) : P.ow n H W id seed N k = k [] 10 := by
 obtain ⟨b, hb, h1, _⟩ := zq n H W id seed hH
 have : b = false := by cases b with | false => rfl | true => exact absurd (hb.1 rfl) f
 subst this
 rw [P.af5]; unfold P.acy
 rw [h1, jk, um]
theorem bnm (l : List Int) (m : Nat) (h : m < l.length) : (List.replicate (m + 1) 0 ++ l.drop (m + 1)).set m (l.getD m 0) = List.replicate m 0 ++ l.drop m := by
 rw [List.replicate_succ', List.append_assoc, List.set_append_right _ _ (by simp), acw l 0 m h]
 simp
theorem bcy {n : Nat} {H W id seed : List Int} (hH : H.length = n) (f : FitK n H W id seed) (N : Nat) (hN : N < 2 ^ sm (hts H)) {ρ : Type} (k : List Int → Int → Option ρ) : P.z8 n H W id seed (N : Int) k = k (arw H N) 0 := by
 obtain ⟨b, hb, _, h1⟩ := zq n H W id seed hH
 have : b = true := hb.2 f
 subst this
 have hs := f.s
 have h60 : 2 ^ sm (hts H) ≤ 2 ^ 60 := Nat.pow_le_pow_right (by omega) hs
 have n8 := f.n8
 have n1 := f.n1
 have hvl := aqj H N
 rw [P.af4]; unfold P.acv
 rw [h1, jk, ny, apy hH f, bq (by omega), aj (by omega), aj (by omega), o9 (by omega) (by omega), P.auh, toNat_cast]
 unfold P.aqc P.bxz P.bu2 P.b0i
 refine qy (fun j => (((N / 2 ^ sm (hts (H.drop (n - j))) : Nat) : Int), ((n - j : Nat) : Int) - 1, n, H, W, id, seed, List.replicate (n - j) 0 ++ (arw H N).drop (n - j))) n ?_ (fun j hj next hnx => ?_) (fun next => ?_) (by omega)
 ·rw [Nat.sub_zero, List.drop_eq_nil_of_le (by omega), List.drop_eq_nil_of_le (by omega), List.append_nil]
  simp [hts, sm]
 ·simp only [P.ajw]
  obtain ⟨m, hm⟩ : ∃ m, n - j = m + 1 := ⟨n - j - 1, by omega⟩
  have hm2 : n - (j + 1) = m := by omega
  rw [hm2] at hnx
  rw [hm]
  obtain ⟨e1, e2, e3, e4⟩ := atp hH f m (by omega)
  have hlt : N / 2 ^ sm (hts (H.drop (m + 1))) < 18446744073709551616 := Nat.lt_of_le_of_lt (Nat.div_le_self _ _) (by omega)
  have ei : (((m + 1 : Nat) : Int) - 1).toNat = m := by omega
  have hpw : IntKind.u64.wrap ((1 : Int) * (2 : Int) ^ min (H.getD m 0).toNat 64) = ((2 ^ (H.getD m 0).toNat : Nat) : Int) := by
   have := arj (s := (H.getD m 0).toNat) (by omega)
   rwa [toNat_cast] at this
  have h10 : 2 ^ (H.getD m 0).toNat ≤ 2 ^ 10 := Nat.pow_le_pow_right (by omega) (by omega)
  have hp1 := Nat.two_pow_pos (H.getD m 0).toNat
  have hmd := Nat.mod_lt (N / 2 ^ sm (hts (H.drop (m + 1)))) hp1
  have hll : (List.replicate (m + 1) (0 : Int) ++ (arw H N).drop (m + 1)).length = n := by
   rw [List.length_append, List.length_replicate, List.length_drop]; omega
  rw [aj (by omega), aj (by omega), aj (by omega), ei, bq (by omega), hpw, bq (by omega), aj (by omega), aj (by omega), aj (by omega), aj (by omega), bq (by omega), tmN, bjf _ (by omega), ← bcx H N m (by omega), bnm _ _ (by omega), fdiv_pow _ _ _ (by omega),
   Nat.div_div_eq_div_mul, ← Nat.pow_add, Nat.add_comm (sm _), ← e1, o9 (by omega) (by omega)]
  rw [show ((m + 1 : Nat) : Int) - 1 - 1 = ((m : Nat) : Int) - 1 by omega]
  exact hnx
 ·simp only [P.ajw]
  rw [bq (by omega), Nat.sub_self]
  rfl
theorem aub {n : Nat} {H W id seed : List Int} (hH : H.length = n) (f : FitK n H W id seed) (N : Nat) (hN : ¬ N < 2 ^ sm (hts H)) {ρ : Type} (k : List Int → Int → Option ρ) : P.z8 n H W id seed (N : Int) k = k [] 13 := by
 obtain ⟨b, hb, _, h1⟩ := zq n H W id seed hH
 have : b = true := hb.2 f
 subst this
 rw [P.af4]; unfold P.acv
 rw [h1, jk, ny, apy hH f, aj (by omega)]
theorem bcl {n : Nat} {H W id seed : List Int} (hH : H.length = n) (f : ¬ FitK n H W id seed) (N : Int) {ρ : Type} (k : List Int → Int → Option ρ) : P.z8 n H W id seed N k = k [] 10 := by
 obtain ⟨b, hb, _, h1⟩ := zq n H W id seed hH
 have : b = false := by cases b with | false => rfl | true => exact absurd (hb.1 rfl) f
 subst this
 rw [P.af4]; unfold P.acv
 rw [h1, jk, um]
theorem ayf {ρ : Type} (k : Int → Option ρ) : P.ab4 [] [] [] k = k 10 := by
 rw [P.ao1]; unfold P.ain
 rw [gq (by simp)]
theorem bfc : FitK 2 [(2 : Int), (3 : Int)] [(1 : Int), (1 : Int)] (List.replicate 16 (0 : Int)) (List.replicate 32 (0 : Int)) where
 n1 := by omega
 n8 := by omega
 t := fun j hj => by
  have : j = 0 ∨ j = 1 := by omega
  rcases this with rfl | rfl <;> (unfold OkT bgo; decide)
 s := by decide
 i := by simp
 d := by simp
theorem ug {ρ : Type} (k : Bool → Option ρ) : P.ug k = k true := by
 rw [P.asw]; unfold P.aj2
 have hv := apq (by rfl) bfc 9 (by decide) (ρ := ρ)
 have hl := bbx (by rfl) bfc (ρ := ρ)
 rw [show (9 : Int) = ((9 : Nat) : Int) from rfl, hv, hl, show arw [2, 3] 9 = [1, 1] by decide, d9 (by decide), d9 rfl, d9 (by decide), aj (by decide), d9 (by decide), aj (by decide), d9 (by decide), ayf]
 rfl
theorem af2 (l : List (List Int)) (hl : l.length ≤ 100) {ρ : Type} (k : Bool → Option ρ) : (P.af2 l k = k true ∧ ∀ i, i < l.length → (l.getD i []).length ≤ 300) ∨ P.af2 l k = k false := by
 rw [P.az9]
 unfold P.an0
 rw [P.bcb]
 unfold P.azw P.zk3 P.zs3 P.zu3
 rcases akw (fun i => (l.getD i []).length ≤ 300) l.length with h | ⟨m, m1, m2, m3⟩
 ·refine .inl ⟨qy (fun i => (l, (l.length : Int), (i : Int))) l.length rfl (fun i hi next hn' => ?_) (fun next => ?_) (by omega), h⟩
  ·have := h i hi
   simp only [P.ai8, toNat_cast]
   rw [aj (by omega), aj (by omega), aj (by omega), bq (by omega), o9 (by omega) (by omega)]
   exact hn'
  ·simp only [P.ai8]
   rw [bq (by omega)]
   rfl
 ·refine .inr (qy (fun i => (l, (l.length : Int), (i : Int))) m rfl (fun i hi next hn' => ?_) (fun next => ?_) (by omega))
  ·have := m3 i hi
   simp only [P.ai8, toNat_cast]
   rw [aj (by omega), aj (by omega), aj (by omega), bq (by omega), o9 (by omega) (by omega)]
   exact hn'
  ·simp only [P.ai8, toNat_cast]
   rw [aj (by omega), aj (by omega), aj (by omega), aj (by omega)]
   rfl
end Q
end

section
/- The plain law of LmotsRight. -/
namespace Q
open Go Go.Abs
set_option linter.unusedVariables false
set_option linter.unusedSimpArgs false
end Q
end

section
/- lms: a tree's knots, its key, its signatures. -/
namespace Q
open Go Go.Abs
set_option linter.unusedVariables false
set_option linter.unusedSimpArgs false
def kn (w p : Nat) (id seed : List Int) (h : Nat) : Nat → Nat → List Int
 | 0, n => bao id n 33410 [btg w p id (n - 2 ^ h) seed]
 | j + 1, n => bao id n 33667 [kn w p id seed h j (2 * n), kn w p id seed h j (2 * n + 1)]
theorem aqk (w p : Nat) (id seed : List Int) (h j n : Nat) : (kn w p id seed h j n).length = 32 := by
 cases j <;> exact zi _ _ _ _
theorem bp2 (w p : Nat) (id seed : List Int) (h j n : Nat) : In 256 (kn w p id seed h j n) := by
 cases j <;> exact aod _ _ _ _
theorem biw (w p : Nat) (id : List Int) (q : Nat) (seed : List Int) : (btg w p id q seed).length = 32 := zi _ _ _ _
theorem bmh (w p : Nat) (id : List Int) (q : Nat) (seed : List Int) : In 256 (btg w p id q seed) := aod _ _ _ _
theorem aj4 {h : Nat} (h10 : h ≤ 10) : 2 ^ h ≤ 1024 := by
 have : 2 ^ h ≤ 2 ^ 10 := Nat.pow_le_pow_right (by omega) h10
 omega
theorem bb8 {w p s : Nat} (hk : Kind w p s) (id seed : List Int) (hid : In 256 id) (h16 : id.length = 16) (hsd : In 256 seed) (h32 : seed.length = 32) (h : Nat) (h10 : h ≤ 10) :
    ∀ (j n f : Nat), j ≤ h → 2 ^ (h - j) ≤ n → n < 2 ^ (h - j + 1) → j < f → ∀ {ρ : Type} (k : List Int → Option ρ), P.ig f (h : Int) (w : Int) id seed (n : Int) k = k (kn w p id seed h j n)
 | 0, n, f + 1, hj, h1, h2, hf, ρ, k => by
  have hp := aj4 h10
  rw [Nat.sub_zero] at h1 h2
  rw [Nat.pow_succ] at h2
  rw [P.ady]; unfold P.aag
  rw [bq (by omega), arj (by omega), aj (by omega), show (n : Int) - ((2 ^ h : Nat) : Int) = ((n - 2 ^ h : Nat) : Int) by omega, ab0 _ (by omega), bjf _ (by omega),
   blx hk id _ seed hid (by omega) hsd h16 h32, show (33410 : Int) = ((33410 : Nat) : Int) from rfl, vg id n 33410 _ hid (by omega) (by omega) (by omega) (by simpa using bmh _ _ _ _ _) (by simp) (by simp [biw])]
  rfl
 | j + 1, n, f + 1, hj, h1, h2, hf, ρ, k => by
  have hp := aj4 h10
  obtain ⟨m, hm⟩ : ∃ m, h - (j + 1) = m := ⟨_, rfl⟩
  have hm1 : h - j = m + 1 := by omega
  rw [hm] at h1 h2
  have hle : 2 ^ (m + 1) ≤ 2 ^ h := Nat.pow_le_pow_right (by omega) (by omega)
  have e1 : 2 ^ (m + 1) = 2 ^ m * 2 := Nat.pow_succ ..
  have e2 : 2 ^ (m + 1 + 1) = 2 ^ (m + 1) * 2 := Nat.pow_succ ..
  rw [P.ady]; unfold P.aag
  rw [bq (by omega), arj (by omega), bq (by omega), show (2 : Int) * (n : Int) = ((2 * n : Nat) : Int) by omega, ab0 _ (by omega), show ((2 * n : Nat) : Int) + 1 = ((2 * n + 1 : Nat) : Int) by omega, ab0 _ (by omega),
   bb8 hk id seed hid h16 hsd h32 h h10 j (2 * n) f (by omega) (by rw [hm1]; omega) (by rw [hm1]; omega) (by omega),
   bb8 hk id seed hid h16 hsd h32 h h10 j (2 * n + 1) f (by omega) (by rw [hm1]; omega) (by rw [hm1]; omega) (by omega),
   show (33667 : Int) = ((33667 : Nat) : Int) from rfl, vg id n 33667 _ hid (by omega) (by omega) (by omega) (by simpa using (bp2 _ _ _ _ _ _ _).app (bp2 _ _ _ _ _ _ _)) (by simp) (by simp [aqk])]
  rfl
 | j, n, 0, hj, h1, h2, hf, ρ, k => by omega
theorem avg {h w : Int} (f : bgo h w) (id seed : List Int) (h16 : id.length = 16) (h32 : seed.length = 32) (h10 : h ≤ 10) {ρ : Type} (k : Int → Option ρ) : P.qd h w id seed k = k 0 := by
 rw [P.alq]; unfold P.vk
 rw [(aga h w _).1 f, jk, ny, dz (by omega), dz (by omega), bq (by omega)]
def bth (w p : Nat) (id seed : List Int) (h : Nat) : List Int := (beN (aa8 h) 4 ++ beN (adi w) 4) ++ (id ++ kn w p id seed h h 1)
theorem bpj (w p : Nat) (id seed : List Int) (h : Nat) (h16 : id.length = 16) : (bth w p id seed h).length = 56 := by
 simp [bth, adt, aqk, h16]
theorem bsu (w p : Nat) (id seed : List Int) (h : Nat) (hid : In 256 id) : In 256 (bth w p id seed h) := ((am4 _ _).app (am4 _ _)).app (hid.app (bp2 _ _ _ _ _ _ _))
theorem bav {w p s : Nat} (hk : Kind w p s) (h : Nat) (hh : aa8 h ≠ 0) (id seed : List Int) (hid : In 256 id) (h16 : id.length = 16) (hsd : In 256 seed) (h32 : seed.length = 32) (h10 : h ≤ 10) (f : bgo (h : Int) (w : Int)) {ρ : Type} (k : List Int → Int → Option ρ) :
    P.aat (h : Int) (w : Int) id seed k = k (bth w p id seed h) 0 := by
 rw [P.aou]; unfold P.aik
 rw [avg f id seed h16 h32 (by omega), dz rfl, bsq hk (by omega), toNat_cast, show (1 : Int) = ((1 : Nat) : Int) from rfl,
  bb8 hk id seed hid h16 hsd h32 h h10 h 1 (h + 2) (by omega) (by rw [Nat.sub_self]; omega) (by rw [Nat.sub_self]; omega) (by omega), fq _ (by simp) (by simp [adt, aqk, h16])]
 simp only [List.flatten_cons, List.flatten_nil, List.append_nil]
 rfl
def bkl (w p : Nat) (id seed : List Int) (h n i : Nat) : List Int := kn w p id seed h i ((n / 2 ^ i) ^^^ 1)
theorem b1l (x : Nat) : x ^^^ 1 = if x % 2 = 0 then x + 1 else x - 1 := by
 have h1 : (x ^^^ 1) / 2 = x / 2 := by rw [Nat.xor_div_two]; simp
 have h2 : (x ^^^ 1) % 2 = (x + 1) % 2 := by
  have := Nat.xor_mod_two_pow (a := x) (b := 1) (n := 1)
  rw [Nat.pow_one] at this
  rw [this]
  rcases Nat.mod_two_eq_zero_or_one x with e | e <;> rw [e]
  ·show 0 ^^^ 1 = _
   simp; omega
  ·show 1 ^^^ 1 = _
   simp; omega
 split <;> omega
theorem bl0 {a m : Nat} (h1 : 2 ^ (m + 1) ≤ a) (h2 : a < 2 ^ (m + 1 + 1)) : 2 ^ (m + 1) ≤ a ^^^ 1 ∧ a ^^^ 1 < 2 ^ (m + 1 + 1) := by
 rw [b1l]
 have e1 : 2 ^ (m + 1) = 2 ^ m * 2 := Nat.pow_succ ..
 have e2 : 2 ^ (m + 1 + 1) = 2 ^ (m + 1) * 2 := Nat.pow_succ ..
 split <;> omega
theorem bld {n h i : Nat} (h1 : 2 ^ h ≤ n) (h2 : n < 2 ^ (h + 1)) (hi : i ≤ h) : 2 ^ (h - i) ≤ n / 2 ^ i ∧ n / 2 ^ i < 2 ^ (h - i + 1) := by
 have e : 2 ^ h = 2 ^ (h - i) * 2 ^ i := by rw [← Nat.pow_add]; congr 1; omega
 have e' : 2 ^ (h + 1) = 2 ^ (h - i + 1) * 2 ^ i := by rw [← Nat.pow_add]; congr 1; omega
 exact ⟨(Nat.le_div_iff_mul_le (Nat.two_pow_pos i)).2 (by omega), (Nat.div_lt_iff_lt_mul (Nat.two_pow_pos i)).2 (by omega)⟩
def bsj (w p s : Nat) (id seed : List Int) (h q : Nat) (text : List Int) : List Int :=
 (beN q 4 ++ (bhy w p s id q seed text ++ beN (aa8 h) 4)) ++ agu (bkl w p id seed h (2 ^ h + q)) h
theorem bio (w p s : Nat) (id seed : List Int) (h q : Nat) (text : List Int) : (bsj w p s id seed h q text).length = 4 + (36 + 32 * p) + 4 + 32 * h := by
 unfold bsj
 rw [List.length_append, List.length_append, List.length_append, adt, adt, ba6, aea (bkl w p id seed h (2 ^ h + q)) (fun i => aqk _ _ _ _ _ _ _)]
 omega
theorem bgu {w p s : Nat} (hk : Kind w p s) (h : Nat) (hh : aa8 h ≠ 0) (id seed : List Int) (hid : In 256 id) (h16 : id.length = 16) (hsd : In 256 seed) (h32 : seed.length = 32) (h10 : h ≤ 10) (f : bgo (h : Int) (w : Int)) (q : Nat) (hq : q < 2 ^ h) (text : List Int) (ht : In 256 text) (htl : text.length ≤ 300) {ρ : Type} (k : List Int → Int → Option ρ) :
    P.ae1 (h : Int) (w : Int) id seed (q : Int) text k = k (bsj w p s id seed h q text) 0 := by
 have hp := aj4 h10
 have hpp := (pw hk).2.2.1
 have hc := aut h
 rw [P.avo]; unfold P.al3
 rw [avg f id seed h16 h32 (by omega), dz rfl, bq (by omega), ab0 q (by omega), au4 q h (by omega), Nat.div_eq_of_lt hq, dz (by omega), bri hk id q seed text hid (by omega) hsd h16 h32 ht htl, show (4 : Int) = ((4 : Nat) : Int) from rfl, gu q 4 (by omega) (by omega), o8 h (by omega), gu _ 4 (by omega) (by omega)]
 have hfl : [(bsw 8 4 q).reverse, bhy w p s id q seed text, (bsw 8 4 (aa8 h)).reverse].flatten = beN q 4 ++ (bhy w p s id q seed text ++ beN (aa8 h) 4) := by simp [beN]
 have hfll : (beN q 4 ++ (bhy w p s id q seed text ++ beN (aa8 h) 4)).length = 44 + 32 * p := by simp [adt, ba6]; omega
 rw [fq _ (by simp) (by rw [hfl]; omega), hfl, bq (by omega), arj (by omega), show ((2 ^ h : Nat) : Int) + (q : Int) = ((2 ^ h + q : Nat) : Int) by omega, ab0 (2 ^ h + q) (by omega), P.aue]
 unfold P.apb P.bxy P.bw9 P.b4o
 have hup : 2 ^ h + q < 2 ^ (h + 1) := by rw [Nat.pow_succ]; omega
 refine qy (fun i => ((((2 ^ h + q) / 2 ^ i : Nat) : Int), (beN q 4 ++ (bhy w p s id q seed text ++ beN (aa8 h) 4)) ++ agu (bkl w p id seed h (2 ^ h + q)) i, (h : Int), (w : Int), id, seed)) h (by simp [agu]) (fun i hi next hnx => ?_) (fun next => ?_) (by omega)
 ·simp only [P.aj7]
  have hw := bq2 (n := 2 ^ h + q) (by omega) hup hi
  have hlt : (2 ^ h + q) / 2 ^ i ≤ 2 ^ h + q := Nat.div_le_self _ _
  obtain ⟨r1, r2⟩ := bld (n := 2 ^ h + q) (by omega) hup (show i ≤ h by omega)
  obtain ⟨m, hm⟩ : ∃ m, h - i = m + 1 := ⟨h - i - 1, by omega⟩
  rw [hm] at r1 r2
  obtain ⟨x1, x2⟩ := bl0 r1 r2
  rw [← hm] at x1 x2
  have hnxt : (2 ^ h + q) / 2 ^ (i + 1) = (2 ^ h + q) / 2 ^ i / 2 := by rw [Nat.pow_succ, Nat.div_div_eq_div_mul]
  have hel := aea (bkl w p id seed h (2 ^ h + q)) (fun i => aqk _ _ _ _ _ _ _) i
  have hpl : (bkl w p id seed h (2 ^ h + q) i).length = 32 := aqk _ _ _ _ _ _ _
  rw [aj (by omega), toNat_cast, show (1 : Int) = ((1 : Nat) : Int) from rfl, bk7 _ _ (by omega) (by omega), bb8 hk id seed hid h16 hsd h32 h h10 i _ (h + 2) (by omega) x1 x2 (by omega), half _ (by omega)]
  rw [show kn w p id seed h i (((2 ^ h + q) / 2 ^ i) ^^^ 1) = bkl w p id seed h (2 ^ h + q) i from rfl, aj (by rw [List.length_append, hfll, hel, hpl]; omega), List.append_assoc, ← adh, ← hnxt]
  exact hnx
 ·simp only [P.aj7]
  rw [bmr (by omega) hup, bq (by omega)]
  rfl
end Q
end

section
/- lms: what a tree signs is right by its key. -/
namespace Q
open Go Go.Abs
set_option linter.unusedVariables false
set_option linter.unusedSimpArgs false
end Q
end

section
/- lms: the document's trees. -/
namespace Q
open Go Go.Abs
set_option linter.unusedVariables false
set_option linter.unusedSimpArgs false
theorem bry (x y : Nat) (hx : x < 9223372036854775808) (hy : y < 9223372036854775808) : bits .xor .i64 (x : Int) (y : Int) = ((x ^^^ y : Nat) : Int) := by
 have h1 : x ^^^ y < 9223372036854775808 := Nat.xor_lt_two_pow (n := 63) hx hy
 have e : bits .xor .i64 (x : Int) (y : Int) = IntKind.i64.wrap ((BitVec.ofInt 64 (x : Int) ^^^ BitVec.ofInt 64 (y : Int)).toNat : Int) := rfl
 have e2 : (BitVec.ofInt 64 (x : Int) ^^^ BitVec.ofInt 64 (y : Int)).toNat = x ^^^ y := by
  rw [BitVec.toNat_xor, BitVec.toNat_ofInt, BitVec.toNat_ofInt]; congr 1 <;> omega
 rw [e, e2]; exact o9 (by omega) (by omega)
theorem avf (h w : Int) (id seed : List Int) : ∃ e : Int, (e = 0 ↔ bgo h w ∧ id.length = 16 ∧ seed.length = 32 ∧ h ≤ 10) ∧ (∀ {ρ : Type} (k : Int → Option ρ), P.qd h w id seed k = k e) ∧ ∀ {ρ : Type} (k : Int → Option ρ), P.wm h w id seed k = k e := by
 have pre : ∀ {ρ : Type} (k : Int → Option ρ), P.qd h w id seed k = P.vk h w id seed k ∧ P.wm h w id seed k = P.za h w id seed k := fun k => ⟨by rw [P.alq], by rw [P.atc]⟩
 by_cases f : bgo h w
 ·by_cases h16 : id.length = 16
  ·by_cases h32 : seed.length = 32
   ·by_cases h10 : h > 10
    ·refine ⟨8, ⟨fun e => by omega, fun e => by omega⟩, fun k => ?_, fun k => ?_⟩
     ·rw [(pre k).1]; unfold P.vk
      rw [(aga h w _).1 f, jk, ny, dz (by omega), dz (by omega), aj (by omega)]
     ·rw [(pre k).2]; unfold P.za
      rw [(ahq h w _).1 f, jk, ny, dz (by omega), dz (by omega), aj (by omega)]
    ·refine ⟨0, ⟨fun e => ⟨f, h16, h32, by omega⟩, fun e => rfl⟩, fun k => ?_, fun k => ?_⟩
     ·rw [(pre k).1]; unfold P.vk
      rw [(aga h w _).1 f, jk, ny, dz (by omega), dz (by omega), bq (by omega)]
     ·rw [(pre k).2]; unfold P.za
      rw [(ahq h w _).1 f, jk, ny, dz (by omega), dz (by omega), bq (by omega)]
   ·refine ⟨14, ⟨fun e => by omega, fun e => by omega⟩, fun k => ?_, fun k => ?_⟩
    ·rw [(pre k).1]; unfold P.vk
     rw [(aga h w _).1 f, jk, ny, dz (by omega), gq (by omega)]
    ·rw [(pre k).2]; unfold P.za
     rw [(ahq h w _).1 f, jk, ny, dz (by omega), gq (by omega)]
  ·refine ⟨14, ⟨fun e => by omega, fun e => by omega⟩, fun k => ?_, fun k => ?_⟩
   ·rw [(pre k).1]; unfold P.vk
    rw [(aga h w _).1 f, jk, ny, gq (by omega)]
   ·rw [(pre k).2]; unfold P.za
    rw [(ahq h w _).1 f, jk, ny, gq (by omega)]
 ·refine ⟨9, ⟨fun e => by omega, fun e => absurd e.1 f⟩, fun k => ?_, fun k => ?_⟩
  ·rw [(pre k).1]; unfold P.vk
   rw [(aga h w _).2 f, jk, um]
  ·rw [(pre k).2]; unfold P.za
   rw [(ahq h w _).2 f, jk, um]
def knI (w p : Nat) (id seed : List Int) (h i : Nat) : List Int := kn w p id seed h (h - i.log2) i
def bj9 (w p : Nat) (id seed : List Int) (h : Nat) : List (List Int) := (List.range (2 * 2 ^ h)).map (fun i => knI w p id seed h i)
theorem bbw (w p : Nat) (id seed : List Int) (h : Nat) : (bj9 w p id seed h).length = 2 * 2 ^ h := by simp [bj9]
theorem au1 (w p : Nat) (id seed : List Int) (h i : Nat) (hi : i < 2 * 2 ^ h) : (bj9 w p id seed h).getD i [] = knI w p id seed h i := by
 rw [getD_lt (by rw [bbw]; exact hi)]; simp [bj9]
theorem ba4 {i m : Nat} (h1 : 2 ^ m ≤ i) (h2 : i < 2 ^ (m + 1)) : i.log2 = m := (Nat.log2_eq_iff (by have := Nat.two_pow_pos m; omega)).2 ⟨h1, h2⟩
theorem azl (l : List (List Int)) (m : Nat) (h : m < l.length) : (List.replicate (m + 1) [] ++ l.drop (m + 1)).set m (l.getD m []) = List.replicate m [] ++ l.drop m := by
 rw [List.replicate_succ', List.append_assoc, List.set_append_right _ _ (by simp), acw l [] m h]
 simp
theorem ba2 (l : List (List Int)) (m i : Nat) (h : m ≤ i) : (List.replicate m [] ++ l.drop m).getD i [] = l.getD i [] := by
 rw [List.getD_eq_getElem?_getD, List.getD_eq_getElem?_getD, List.getElem?_append_right (by simpa using h)]
 simp only [List.length_replicate, List.getElem?_drop]
 rw [show m + (i - m) = i by omega]
theorem bk9 {s : Nat} (h : s ≤ 60) : IntKind.i64.wrap ((1 : Int) * (2 : Int) ^ min ((s : Nat) : Int).toNat 64) = ((2 ^ s : Nat) : Int) := by
 have h2 : 2 ^ s ≤ 2 ^ 60 := Nat.pow_le_pow_right (by omega) h
 rw [toNat_cast, Nat.min_eq_left (by omega), Int.one_mul, show ((2 : Int) ^ s) = ((2 ^ s : Nat) : Int) by simp]
 have key : ∀ x : Nat, x ≤ 2 ^ 60 → IntKind.i64.wrap (x : Int) = (x : Int) := fun x hx => o9 (by omega) (by omega)
 exact key _ h2
theorem bma (w p : Nat) (id seed : List Int) (h i : Nat) : (knI w p id seed h i).length = 32 := aqk _ _ _ _ _ _ _
theorem bqd (w p : Nat) (id seed : List Int) (h i : Nat) : In 256 (knI w p id seed h i) := bp2 _ _ _ _ _ _ _
theorem as2 {w p s : Nat} (hk : Kind w p s) (h : Nat) (id seed : List Int) (hid : In 256 id) (h16 : id.length = 16) (hsd : In 256 seed) (h32 : seed.length = 32) (h10 : h ≤ 10) {ρ : Type} (k : List (List Int) → Option ρ) :
    P.aam (h : Int) (w : Int) id seed k = k ([] :: (bj9 w p id seed h).drop 1) := by
 have hp := aj4 h10
 have hp0 := Nat.two_pow_pos h
 have hal := bbw w p id seed h
 rw [P.atq]; unfold P.ajp
 have e1 : IntKind.i64.wrap ((2 : Int) * ((2 ^ h : Nat) : Int)) = ((2 * 2 ^ h : Nat) : Int) := by rw [o9 (by omega) (by omega)]; omega
 rw [bq (by omega), bk9 (by omega), e1, aj (by omega), aj (by omega), aj (by omega), o9 (x := ((2 * 2 ^ h : Nat) : Int) - 1) (by omega) (by omega), P.avd, toNat_cast]
 unfold P.atg P.bya P.bup P.b05
 generalize hN : 2 * 2 ^ h = N at *
 refine qy (fun j => (id, seed, ((2 ^ h : Nat) : Int), ((N - 1 - j : Nat) : Int), (h : Int), (w : Int), List.replicate (N - j) [] ++ (bj9 w p id seed h).drop (N - j))) (N - 1) ?_ (fun j hj next hnx => ?_) (fun next => ?_) (by omega)
 ·rw [Nat.sub_zero, Nat.sub_zero, List.drop_eq_nil_of_le (by omega), List.append_nil, show ((N : Nat) : Int) - 1 = ((N - 1 : Nat) : Int) by omega]
 ·simp only [P.aku]
  obtain ⟨i, hi⟩ : ∃ i, N - 1 - j = i := ⟨_, rfl⟩
  have hi1 : N - j = i + 1 := by omega
  have hi2 : N - (j + 1) = i := by omega
  have hi3 : N - 1 - (j + 1) = i - 1 := by omega
  rw [hi2, hi3] at hnx
  rw [hi, hi1]
  have i0 : i ≠ 0 := by omega
  have lg1 := Nat.log2_self_le i0
  have lg2 := Nat.lt_log2_self (n := i)
  have hll : (List.replicate (i + 1) ([] : List Int) ++ (bj9 w p id seed h).drop (i + 1)).length = N := by
   rw [List.length_append, List.length_replicate, List.length_drop]; omega
  have hg := au1 w p id seed h i (by omega)
  have ew : IntKind.i64.wrap (((i : Nat) : Int) - 1) = ((i - 1 : Nat) : Int) := by rw [o9 (by omega) (by omega)]; omega
  rw [aj (by omega)]
  by_cases hge : 2 ^ h ≤ i
  ·have lg : i.log2 = h := ba4 hge (by rw [Nat.pow_succ]; omega)
   rw [aj (by omega), show ((i : Nat) : Int) - ((2 ^ h : Nat) : Int) = ((i - 2 ^ h : Nat) : Int) by omega, o9 (x := ((i - 2 ^ h : Nat) : Int)) (by omega) (by omega), bjf _ (by omega), bbl hk id _ seed hid (by omega) hsd h16 h32, ab0 i (by omega), x9 id i _ hid (by omega) (by omega) (bmh _ _ _ _ _) (by rw [biw]; omega), aj (by omega), aj (by omega), toNat_cast, ew]
   have hv : bao id i 33410 [btg w p id (i - 2 ^ h) seed] = (bj9 w p id seed h).getD i [] := by
    rw [hg, knI, lg, Nat.sub_self, kn]
   rw [hv, azl _ _ (by omega)]
   exact hnx
  ·have lgh : i.log2 < h := by
     have : ¬ h ≤ i.log2 := fun hle => hge (Nat.le_trans (Nat.pow_le_pow_right (by omega) hle) lg1)
     omega
   have a1 : 2 ^ (i.log2 + 1) = 2 ^ i.log2 * 2 := Nat.pow_succ ..
   have a2 : 2 ^ (i.log2 + 1 + 1) = 2 ^ (i.log2 + 1) * 2 := Nat.pow_succ ..
   have lg3 : (2 * i).log2 = i.log2 + 1 := ba4 (by omega) (by omega)
   have lg4 : (2 * i + 1).log2 = i.log2 + 1 := ba4 (by omega) (by omega)
   have e2 : IntKind.i64.wrap ((2 : Int) * ((i : Nat) : Int)) = ((2 * i : Nat) : Int) := by rw [o9 (by omega) (by omega)]; omega
   have e3 : IntKind.i64.wrap (((2 * i : Nat) : Int) + 1) = ((2 * i + 1 : Nat) : Int) := by rw [o9 (by omega) (by omega)]; omega
   rw [bq (by omega), e2, e3, aj (by omega), aj (by omega), aj (by omega), aj (by omega), ab0 i (by omega), toNat_cast, toNat_cast, ba2 _ _ _ (by omega), ba2 _ _ _ (by omega), au1 _ _ _ _ _ _ (by omega), au1 _ _ _ _ _ _ (by omega)]
   rw [adv id i _ _ hid (by omega) (by omega) (bqd _ _ _ _ _ _) (by rw [bma]; omega) (bqd _ _ _ _ _ _) (by rw [bma]; omega), aj (by omega), aj (by omega), toNat_cast, ew]
   have hv : bao id i 33667 [knI w p id seed h (2 * i), knI w p id seed h (2 * i + 1)] = (bj9 w p id seed h).getD i [] := by
    rw [hg, knI, knI, knI, lg3, lg4]
    rw [show h - i.log2 = (h - (i.log2 + 1)) + 1 by omega, kn]
   rw [hv, azl _ _ (by omega)]
   exact hnx
 ·simp only [P.aku]
  rw [Nat.sub_self, bq (by omega), show N - (N - 1) = 1 by omega]
  rfl
theorem bfm (w p : Nat) (id seed : List Int) (h i : Nat) (h0 : i ≠ 0) (hi : i < 2 * 2 ^ h) : ([] :: (bj9 w p id seed h).drop 1).getD i [] = knI w p id seed h i := by
 have := ba2 (bj9 w p id seed h) 1 i (by omega)
 rw [au1 _ _ _ _ _ _ hi] at this
 exact this
theorem bdv (w p : Nat) (id seed : List Int) (h : Nat) : ([] :: (bj9 w p id seed h).drop 1).length = 2 * 2 ^ h := by
 have := Nat.two_pow_pos h
 rw [List.length_cons, List.length_drop, bbw]; omega
theorem bbn {w p s : Nat} (hk : Kind w p s) (h : Nat) (id seed : List Int) (hid : In 256 id) (h16 : id.length = 16) (hsd : In 256 seed) (h32 : seed.length = 32) (h10 : h ≤ 10) {ρ : Type} (hw : ∀ (k : Int → Option ρ), P.wm (h : Int) (w : Int) id seed k = k 0) (k : List Int → Int → Option ρ) :
    P.wh (h : Int) (w : Int) id seed k = k (bth w p id seed h) 0 := by
 have hp0 := Nat.two_pow_pos h
 rw [P.aqi]; unfold P.aij
 rw [hw, dz rfl, bkv hk (by omega), as2 hk h id seed hid h16 hsd h32 h10, aj (by rw [bdv]; omega), bfm _ _ _ _ _ _ (by omega) (by omega), show knI w p id seed h 1 = kn w p id seed h h 1 by unfold knI; rw [show Nat.log2 1 = 0 by decide, Nat.sub_zero],
  kr _ (by simp) (by simp [adt, aqk, h16])]
 simp only [List.flatten_cons, List.flatten_nil, List.append_nil]
 rfl
theorem bg3 {w p s : Nat} (hk : Kind w p s) (h : Nat) (id seed : List Int) (hid : In 256 id) (h16 : id.length = 16) (hsd : In 256 seed) (h32 : seed.length = 32) (h10 : h ≤ 10) {ρ : Type} (hw : ∀ (k : Int → Option ρ), P.wm (h : Int) (w : Int) id seed k = k 0) (q : Nat) (hq : q < 2 ^ h) (text : List Int) (ht : In 256 text) (htl : text.length ≤ 300) (k : List Int → Int → Option ρ) :
    P.adr (h : Int) (w : Int) id seed (q : Int) text k = k (bsj w p s id seed h q text) 0 := by
 have hp := aj4 h10
 have hpp := (pw hk).2.2.1
 have hc := aut h
 have hup : 2 ^ h + q < 2 ^ (h + 1) := by rw [Nat.pow_succ]; omega
 rw [P.avn]; unfold P.ald
 rw [hw, dz rfl, bq (by omega), ab0 q (by omega), arj (by omega), bq (by omega), bga hk id q seed text hid (by omega) hsd h16 h32 ht htl, show (4 : Int) = ((4 : Nat) : Int) from rfl, gy q 4 (by omega) (by omega), uw h (by omega), gy _ 4 (by omega) (by omega), as2 hk h id seed hid h16 hsd h32 h10, bq (by omega), bk9 (by omega), o9 (x := (q : Int)) (by omega) (by omega), o9 (x := ((2 ^ h : Nat) : Int) + (q : Int)) (by omega) (by omega), P.awc]
 unfold P.as6 P.bxq P.bve P.bzy
 refine qy (fun i => ((((2 ^ h + q) / 2 ^ i : Nat) : Int), [(bsw 8 4 q).reverse, bhy w p s id q seed text, (bsw 8 4 (aa8 h)).reverse] ++ (List.range i).map (bkl w p id seed h (2 ^ h + q)), [] :: (bj9 w p id seed h).drop 1)) h (by simp) (fun i hi next hnx => ?_) (fun next => ?_) (by omega)
 ·simp only [P.al0]
  have hwy := bq2 (n := 2 ^ h + q) (by omega) hup hi
  have hlt : (2 ^ h + q) / 2 ^ i ≤ 2 ^ h + q := Nat.div_le_self _ _
  obtain ⟨r1, r2⟩ := bld (n := 2 ^ h + q) (by omega) hup (show i ≤ h by omega)
  obtain ⟨m, hm⟩ : ∃ m, h - i = m + 1 := ⟨h - i - 1, by omega⟩
  rw [hm] at r1 r2
  obtain ⟨x1, x2⟩ := bl0 r1 r2
  have hxl : ((2 ^ h + q) / 2 ^ i) ^^^ 1 < 2 * 2 ^ h := by
   have : 2 ^ (m + 1 + 1) ≤ 2 ^ (h + 1) := Nat.pow_le_pow_right (by omega) (by omega)
   rw [Nat.pow_succ 2 h] at this
   omega
  have hx0 : ((2 ^ h + q) / 2 ^ i) ^^^ 1 ≠ 0 := by
   have := Nat.two_pow_pos (m + 1)
   omega
  have hnxt : (2 ^ h + q) / 2 ^ (i + 1) = (2 ^ h + q) / 2 ^ i / 2 := by rw [Nat.pow_succ, Nat.div_div_eq_div_mul]
  have hkl := bdv w p id seed h
  have hv : knI w p id seed h (((2 ^ h + q) / 2 ^ i) ^^^ 1) = bkl w p id seed h (2 ^ h + q) i := by
   unfold knI bkl
   rw [ba4 x1 x2, show h - (m + 1) = i by omega]
  have hlen : ([(bsw 8 4 q).reverse, bhy w p s id q seed text, (bsw 8 4 (aa8 h)).reverse] ++ (List.range i).map (bkl w p id seed h (2 ^ h + q))).length = 3 + i := by simp; omega
  have hhalf : IntKind.i64.wrap ((((2 ^ h + q) / 2 ^ i : Nat) : Int).tdiv 2) = (((2 ^ h + q) / 2 ^ i / 2 : Nat) : Int) := by
   rw [Int.tdiv_eq_ediv_of_nonneg (by omega), o9 (by omega) (by omega)]
   omega
  rw [aj (by omega), show (1 : Int) = ((1 : Nat) : Int) from rfl, bry _ _ (by omega) (by omega), aj (by omega), aj (by omega), aj (by omega), toNat_cast, bfm _ _ _ _ _ _ hx0 hxl, hv, hhalf, ← hnxt, List.append_assoc, amx]
  exact hnx
 ·simp only [P.al0]
  have hel := aea (bkl w p id seed h (2 ^ h + q)) (fun i => aqk _ _ _ _ _ _ _) h
  have hfl : ([(bsw 8 4 q).reverse, bhy w p s id q seed text, (bsw 8 4 (aa8 h)).reverse] ++ (List.range h).map (bkl w p id seed h (2 ^ h + q))).flatten = bsj w p s id seed h q text := by
   unfold bsj agu beN
   simp
  rw [bmr (by omega) hup, bq (by omega), kr _ (by simp; omega) (by rw [hfl, bio]; omega), hfl]
end Q
end

section
/- hss: what verifies. -/
namespace Q
open Go Go.Abs
set_option linter.unusedVariables false
set_option linter.unusedSimpArgs false
noncomputable def cutV (b : List Int) : List Int × Int × Int × List Int × Int := (b1j b (fun a b c d e => some (a, b, c, d, e))).getD ([], 0, 0, [], 0)
noncomputable def bzl (key text sig : List Int) : Int := (P.aar key text sig (fun v => some v)).getD 0
noncomputable def hv (text : List Int) : Nat → List Int → List Int → Int
 | 0, _, _ => 0
 | n + 1, key, rest =>
  if (cutV rest).2.2.2.2 ≠ 0 then (cutV rest).2.2.2.2 else
  if n = 0 then (if (cutV rest).2.2.2.1.length > 0 then 1 else bzl key text (cutV rest).1) else
  if (cutV rest).2.2.2.1.length < 56 then 1 else
  if bzl key ((cutV rest).2.2.2.1.take 56) (cutV rest).1 ≠ 0 then bzl key ((cutV rest).2.2.2.1.take 56) (cutV rest).1 else
  hv text n ((cutV rest).2.2.2.1.take 56) ((cutV rest).2.2.2.1.drop 56)
end Q
end

section
/- hss: keys and signatures of trees in trees. -/
namespace Q
open Go Go.Abs
set_option linter.unusedVariables false
set_option linter.unusedSimpArgs false
def hN (H : List Int) (i : Nat) : Nat := (H.getD i 0).toNat
def wN (W : List Int) (i : Nat) : Nat := (W.getD i 0).toNat
def qN (H : List Int) (N i : Nat) : Nat := ((arw H N).getD i 0).toNat
structure Lev (H W : List Int) (i : Nat) : Prop where
 h : H.getD i 0 = (hN H i : Int)
 w : W.getD i 0 = (wN W i : Int)
 k : Kind (wN W i) (pOf (wN W i)) (sOf (wN W i))
 c : aa8 (hN H i) ≠ 0
 l : hN H i ≤ 10
 f : bgo (hN H i : Int) (wN W i : Int)
 p : pOf (wN W i) ≤ 265
theorem bed {n : Nat} {H W id seed : List Int} (f : FitK n H W id seed) (i : Nat) (hi : i < n) : Lev H W i := by
 obtain ⟨g, hl⟩ := f.t i hi
 have hle := ar5 g
 have hw := g.2
 have e1 : H.getD i 0 = (hN H i : Int) := by unfold hN; omega
 have e2 : W.getD i 0 = (wN W i : Int) := by unfold wN; omega
 have g' := g
 rw [e1, e2] at g
 rw [e2] at hw
 have hk : Kind (wN W i) (pOf (wN W i)) (sOf (wN W i)) := by
  have : wN W i = 1 ∨ wN W i = 2 ∨ wN W i = 4 ∨ wN W i = 8 := by omega
  rcases this with e | e | e | e <;> rw [e] <;> simp [Kind, pOf, sOf]
 refine ⟨e1, e2, hk, ?_, by omega, g, (pw hk).2.2.1⟩
 have := g.1
 rwa [toNat_cast] at this
theorem brc {n : Nat} {H W id seed : List Int} (hH : H.length = n) (f : FitK n H W id seed) (N i : Nat) (hi : i < n) : (arw H N).getD i 0 = (qN H N i : Int) ∧ qN H N i < 2 ^ hN H i := by
 have h := bcx H N i (by omega)
 have hp := Nat.mod_lt (N / 2 ^ sm (hts (H.drop (i + 1)))) (Nat.two_pow_pos (H.getD i 0).toNat)
 unfold qN hN
 rw [h, toNat_cast]
 exact ⟨rfl, hp⟩
def dn (H id seed : List Int) (N : Nat) : Nat → List Int × List Int
 | 0 => (id, seed)
 | i + 1 => ((o7 (dn H id seed N i).1 (qN H N i) 65535 (dn H id seed N i).2).take 16, o7 (dn H id seed N i).1 (qN H N i) 65534 (dn H id seed N i).2)
theorem bgg (H id seed : List Int) (N : Nat) (hid : In 256 id) (h16 : id.length = 16) (hsd : In 256 seed) (h32 : seed.length = 32) (i : Nat) : In 256 (dn H id seed N i).1 ∧ (dn H id seed N i).1.length = 16 ∧ In 256 (dn H id seed N i).2 ∧ (dn H id seed N i).2.length = 32 := by
 cases i with
 | zero => exact ⟨hid, h16, hsd, h32⟩
 | succ i => exact ⟨(adg _ _ _ _).take _, by rw [dn, List.length_take, ake]; rfl, adg _ _ _ _, ake _ _ _ _⟩
def ark (H W id seed : List Int) (N i : Nat) : List Int := bth (wN W i) (pOf (wN W i)) (dn H id seed N i).1 (dn H id seed N i).2 (hN H i)
def ayj (H W id seed : List Int) (N i : Nat) (text : List Int) : List Int := bsj (wN W i) (pOf (wN W i)) (sOf (wN W i)) (dn H id seed N i).1 (dn H id seed N i).2 (hN H i) (qN H N i) text
def az4 (H W id seed : List Int) (N j : Nat) : List Int := ayj H W id seed N j (ark H W id seed N (j + 1)) ++ ark H W id seed N (j + 1)
def bkh (n : Nat) (H W id seed : List Int) (N i : Nat) : List Int := beN (n - 1) 4 ++ agu (az4 H W id seed N) i
section
variable {n : Nat} {H W id seed : List Int}
theorem ai4 (hid : In 256 id) (hsd : In 256 seed) (f : FitK n H W id seed) (N i : Nat) : (ark H W id seed N i).length = 56 := bpj _ _ _ _ _ (bgg H id seed N hid f.i hsd f.d i).2.1
theorem bir (hid : In 256 id) (hsd : In 256 seed) (f : FitK n H W id seed) (N i : Nat) : In 256 (ark H W id seed N i) := bsu _ _ _ _ _ (bgg H id seed N hid f.i hsd f.d i).1
theorem ak1 (f : FitK n H W id seed) (N i : Nat) (hi : i < n) (text : List Int) : (ayj H W id seed N i text).length = 4 + (36 + 32 * pOf (wN W i)) + 4 + 32 * hN H i ∧ (ayj H W id seed N i text).length ≤ 9000 := by
 have L := bed f i hi
 have := L.p
 have := L.l
 unfold ayj
 rw [bio]
 omega
theorem bie (hid : In 256 id) (hsd : In 256 seed) (f : FitK n H W id seed) (N : Nat) : ∀ i, i < n → (agu (az4 H W id seed N) i).length ≤ 9100 * i
 | 0, _ => by simp [agu]
 | i + 1, hi => by
  have h1 := bie hid hsd f N i (by omega)
  have h2 := (ak1 f N i (by omega) (ark H W id seed N (i + 1))).2
  have h3 := ai4 hid hsd f N (i + 1)
  rw [adh, List.length_append]
  have : (az4 H W id seed N i).length ≤ 9100 := by unfold az4; rw [List.length_append]; omega
  omega
theorem bcj (hid : In 256 id) (hsd : In 256 seed) (f : FitK n H W id seed) (N i : Nat) (hi : i < n) : (bkh n H W id seed N i).length ≤ 80000 := by
 have h1 := bie hid hsd f N i hi
 have := f.n8
 unfold bkh
 rw [List.length_append, adt]
 omega
theorem bhx (hid : In 256 id) (hsd : In 256 seed) (f : FitK n H W id seed) (N i : Nat) (hi : i < n) {ρ : Type} : (∀ (k : List Int → Int → Option ρ), P.aat (H.getD i 0) (W.getD i 0) (dn H id seed N i).1 (dn H id seed N i).2 k = k (ark H W id seed N i) 0) ∧ ∀ (k : List Int → Int → Option ρ), P.wh (H.getD i 0) (W.getD i 0) (dn H id seed N i).1 (dn H id seed N i).2 k = k (ark H W id seed N i) 0 := by
 have L := bed f i hi
 obtain ⟨d1, d2, d3, d4⟩ := bgg H id seed N hid f.i hsd f.d i
 have hl := L.l
 rw [L.h, L.w]
 obtain ⟨e, he, w1, w2⟩ := avf (hN H i : Int) (wN W i : Int) (dn H id seed N i).1 (dn H id seed N i).2
 have e0 : e = 0 := he.2 ⟨L.f, d2, d4, by omega⟩
 subst e0
 exact ⟨fun k => bav L.k _ L.c _ _ d1 d2 d3 d4 hl L.f k, fun k => bbn L.k _ _ _ d1 d2 d3 d4 hl (fun k => w2 k) k⟩
theorem bcs (hH : H.length = n) (hid : In 256 id) (hsd : In 256 seed) (f : FitK n H W id seed) (N i : Nat) (hi : i < n) (text : List Int) (ht : In 256 text) (htl : text.length ≤ 300) {ρ : Type} : (∀ (k : List Int → Int → Option ρ), P.ae1 (H.getD i 0) (W.getD i 0) (dn H id seed N i).1 (dn H id seed N i).2 ((arw H N).getD i 0) text k = k (ayj H W id seed N i text) 0) ∧
    ∀ (k : List Int → Int → Option ρ), P.adr (H.getD i 0) (W.getD i 0) (dn H id seed N i).1 (dn H id seed N i).2 ((arw H N).getD i 0) text k = k (ayj H W id seed N i text) 0 := by
 have L := bed f i hi
 obtain ⟨d1, d2, d3, d4⟩ := bgg H id seed N hid f.i hsd f.d i
 obtain ⟨q1, q2⟩ := brc hH f N i hi
 have hl := L.l
 rw [L.h, L.w, q1]
 obtain ⟨e, he, w1, w2⟩ := avf (hN H i : Int) (wN W i : Int) (dn H id seed N i).1 (dn H id seed N i).2
 have e0 : e = 0 := he.2 ⟨L.f, d2, d4, by omega⟩
 subst e0
 exact ⟨fun k => bgu L.k _ L.c _ _ d1 d2 d3 d4 hl L.f _ q2 text ht htl k, fun k => bg3 L.k _ _ _ d1 d2 d3 d4 hl (fun k => w2 k) _ q2 text ht htl k⟩
theorem au0 (hH : H.length = n) (hid : In 256 id) (hsd : In 256 seed) (f : FitK n H W id seed) (N i : Nat) (hi : i < n) (h w : Int) (m : Nat) (hm : m < 65536) {ρ : Type} (k : List Int → Option ρ) :
    P.je h w (dn H id seed N i).1 (dn H id seed N i).2 ((arw H N).getD i 0) (m : Int) k = k (o7 (dn H id seed N i).1 (qN H N i) m (dn H id seed N i).2) := by
 have L := bed f i hi
 have hp := aj4 L.l
 obtain ⟨d1, d2, d3, d4⟩ := bgg H id seed N hid f.i hsd f.d i
 obtain ⟨q1, q2⟩ := brc hH f N i hi
 rw [P.ah0]; unfold P.ac5
 have hfl : [(dn H id seed N i).1, (bsw 8 4 (qN H N i)).reverse, (bsw 8 2 m).reverse, [255], (dn H id seed N i).2].flatten = ((dn H id seed N i).1 ++ (beN (qN H N i) 4 ++ beN m 2)) ++ [[255], (dn H id seed N i).2].flatten := by simp [beN]
 have hin : In 256 (((dn H id seed N i).1 ++ (beN (qN H N i) 4 ++ beN m 2)) ++ [[255], (dn H id seed N i).2].flatten) := (d1.app ((am4 _ _).app (am4 _ _))).app (aw2 (by omega) d3)
 have hln : (((dn H id seed N i).1 ++ (beN (qN H N i) 4 ++ beN m 2)) ++ [[255], (dn H id seed N i).2].flatten).length = 55 := by simp [adt, d2, d4]
 rw [q1, ab0 _ (by omega), show (4 : Int) = ((4 : Nat) : Int) from rfl, gu _ 4 (by omega) (by omega), show (2 : Int) = ((2 : Nat) : Int) from rfl, gu m 2 (by omega) (by omega), fq _ (by simp) (by rw [hfl, hln]; omega), hfl, ag6 (.inl rfl) _ hin (by rw [hln]; omega)]
 rfl
theorem bob (hH : H.length = n) (hid : In 256 id) (hsd : In 256 seed) (f : FitK n H W id seed) (N i : Nat) (hi : i < n) {ρ : Type} (k : List Int → List Int → Option ρ) :
    P.ad6 (dn H id seed N i).1 (dn H id seed N i).2 ((arw H N).getD i 0) k = k (dn H id seed N (i + 1)).1 (dn H id seed N (i + 1)).2 := by
 have L := bed f i hi
 have hp := aj4 L.l
 obtain ⟨d1, d2, d3, d4⟩ := bgg H id seed N hid f.i hsd f.d i
 obtain ⟨q1, q2⟩ := brc hH f N i hi
 rw [P.as7]; unfold P.ajg
 have l1 : [[255], (dn H id seed N i).2].flatten.length = 33 := by simp [d4]
 have ep := ake (dn H id seed N i).1 (qN H N i) 65535 (dn H id seed N i).2
 rw [q1, ab0 _ (by omega), show (4 : Int) = ((4 : Nat) : Int) from rfl, gy _ 4 (by omega) (by omega), show (2 : Int) = ((2 : Nat) : Int) from rfl, show (65535 : Int) = ((65535 : Nat) : Int) from rfl, gy 65535 2 (by omega) (by omega), ahs _ _ _ _ d1 (by omega) (aw2 (by omega) d3) (by simp) (by omega),
  show bao (dn H id seed N i).1 (qN H N i) 65535 [[255], (dn H id seed N i).2] = o7 (dn H id seed N i).1 (qN H N i) 65535 (dn H id seed N i).2 from rfl]
 rw [gy _ 4 (by omega) (by omega), show (65534 : Int) = ((65534 : Nat) : Int) from rfl, gy 65534 2 (by omega) (by omega), ahs _ _ _ _ d1 (by omega) (aw2 (by omega) d3) (by simp) (by omega), aj (by omega)]
 rfl
def byp (n : Nat) (H W id seed : List Int) : List Int := beN n 4 ++ ark H W id seed 0 0
theorem bbg (hH : H.length = n) (hid : In 256 id) (hsd : In 256 seed) (f : FitK n H W id seed) {ρ : Type} (k : List Int → Int → Option ρ) : P.aau n H W id seed k = k (byp n H W id seed) 0 := by
 obtain ⟨b, hb, h1, _⟩ := zq n H W id seed hH
 have : b = true := hb.2 f
 subst this
 have n8 := f.n8
 have n1 := f.n1
 have hl := ai4 hid hsd f 0 0
 rw [P.ajm]; unfold P.ae5
 rw [h1, jk, ny, aj (by omega), ab0 n (by omega), show (4 : Int) = ((4 : Nat) : Int) from rfl, gu n 4 (by omega) (by omega), P.ac7]
 unfold P.zk
 have hp := (bhx hid hsd f 0 0 (by omega) (ρ := ρ)).1
 simp only [dn] at hp
 rw [hp]
 dsimp only
 rw [fq _ (by simp) (by simp [hl])]
 simp only [List.flatten_cons, List.flatten_nil, List.append_nil]
 rfl
theorem bbe (hH : H.length = n) (hid : In 256 id) (hsd : In 256 seed) (f : FitK n H W id seed) {ρ : Type} (h2 : ∀ (k : Bool → Option ρ), P.zm n H W id seed k = k true) (k : List Int → Int → Option ρ) : P.aas n H W id seed k = k (byp n H W id seed) 0 := by
 have n8 := f.n8
 have n1 := f.n1
 have hl := ai4 hid hsd f 0 0
 rw [P.aju]; unfold P.ae7
 have hp := (bhx hid hsd f 0 0 (by omega) (ρ := ρ)).2
 simp only [dn] at hp
 rw [h2, jk, ny, aj (by omega), hp, ab0 n (by omega), show (4 : Int) = ((4 : Nat) : Int) from rfl, gy n 4 (by omega) (by omega), aj (by simp [hl])]
 rfl
def bqu (n : Nat) (H W id seed : List Int) (N : Nat) (text : List Int) : List Int := bkh n H W id seed N (n - 1) ++ ayj H W id seed N (n - 1) text
theorem bhb (hH : H.length = n) (hW : W.length = n) (hid : In 256 id) (hsd : In 256 seed) (f : FitK n H W id seed) (N : Nat) (hN : N < 2 ^ sm (hts H)) (text : List Int) (ht : In 256 text) (htl : text.length ≤ 300) {ρ : Type} (k : List Int → Int → Option ρ) :
    P.adx n H W id seed (N : Int) text k = k (bqu n H W id seed N text) 0 := by
 have n8 := f.n8
 have n1 := f.n1
 have hvl := aqj H N
 rw [P.aje]; unfold P.afa
 have e1 : IntKind.u64.wrap (IntKind.i64.wrap (((arw H N).length : Int) - 1)) = ((n - 1 : Nat) : Int) := by
  rw [o9 (by omega) (by omega), show ((arw H N).length : Int) - 1 = ((n - 1 : Nat) : Int) by omega, ab0 _ (by omega)]
 rw [apq hH f N hN, dz rfl, e1, show (4 : Int) = ((4 : Nat) : Int) from rfl, gu _ 4 (by omega) (by omega), P.aui]
 unfold P.aqa P.bx9 P.bwz P.b1h
 refine qy (fun i => (text, (dn H id seed N i).1, (dn H id seed N i).2, n, H, W, (n : Int), (i : Int), bkh n H W id seed N (i - 1), arw H N, (if i = 0 then 0 else 1 : Nat), (if i = 0 then (0 : Int) else H.getD (i - 1) 0), (if i = 0 then (0 : Int) else W.getD (i - 1) 0), (if i = 0 then [] else (dn H id seed N (i - 1)).1), (if i = 0 then [] else (dn H id seed N (i - 1)).2), (if i = 0 then (0 : Int) else (arw H N).getD (i - 1) 0), arw H N)) n ?_ (fun i hi next hnx => ?_) (fun next => ?_) (by omega)
 ·simp [dn, bkh, agu, beN]
 ·simp only [P.aj1]
  obtain ⟨d1, d2, d3, d4⟩ := bgg H id seed N hid f.i hsd f.d i
  have epl := ake (dn H id seed N i).1 (qN H N i) 65535 (dn H id seed N i).2
  have e16 : ((16 : Int) - (0 : Int)).toNat = 16 := rfl
  have ei : IntKind.i64.wrap ((i : Int) + 1) = ((i + 1 : Nat) : Int) := by rw [o9 (by omega) (by omega)]; omega
  have hnx' : next (text, (o7 (dn H id seed N i).1 (qN H N i) 65535 (dn H id seed N i).2).take 16, o7 (dn H id seed N i).1 (qN H N i) 65534 (dn H id seed N i).2, n, H, W, (n : Int), ((i + 1 : Nat) : Int), bkh n H W id seed N i, arw H N, 1, H.getD i 0, W.getD i 0, (dn H id seed N i).1, (dn H id seed N i).2, (arw H N).getD i 0, arw H N) = k (bqu n H W id seed N text) 0 := hnx
  rw [aj (by omega), aj (by omega), aj (by omega), aj (by omega), aj (by omega), toNat_cast]
  cases i with
  | zero =>
   rw [if_pos rfl, show (!decide ((0 : Nat) = 0)) = false by rfl, um, show (65535 : Int) = ((65535 : Nat) : Int) from rfl, au0 hH hid hsd f N 0 hi _ _ 65535 (by omega), aj (by omega), show (65534 : Int) = ((65534 : Nat) : Int) from rfl, au0 hH hid hsd f N 0 hi _ _ 65534 (by omega), e16, List.drop_zero, ei]
   exact hnx'
  | succ j =>
   have hkl := ai4 hid hsd f N (j + 1)
   have hol := bcj hid hsd f N j (by omega)
   have hsl := (ak1 f N j (by omega) (ark H W id seed N (j + 1))).2
   simp only [if_neg (Nat.succ_ne_zero j), Nat.add_sub_cancel]
   rw [show (!decide ((1 : Nat) = 0)) = true by rfl, ny, P.ac7]
   unfold P.zk
   rw [(bhx hid hsd f N (j + 1) hi).1]
   dsimp only
   rw [aj (by trivial), aj (by trivial), P.aex]
   unfold P.aa5
   rw [(bcs hH hid hsd f N j (by omega) _ (bir hid hsd f N (j + 1)) (by omega)).1]
   dsimp only
   rw [aj (by omega), aj (by rw [List.length_append]; omega), show (65535 : Int) = ((65535 : Nat) : Int) from rfl, au0 hH hid hsd f N (j + 1) hi _ _ 65535 (by omega), aj (by omega), show (65534 : Int) = ((65534 : Nat) : Int) from rfl, au0 hH hid hsd f N (j + 1) hi _ _ 65534 (by omega), e16, List.drop_zero, ei]
   have ho : bkh n H W id seed N j ++ ayj H W id seed N j (ark H W id seed N (j + 1)) ++ ark H W id seed N (j + 1) = bkh n H W id seed N (j + 1) := by
    unfold bkh
    rw [adh]
    unfold az4
    simp only [List.append_assoc]
   rw [ho]
   exact hnx'
 ·simp only [P.aj1]
  have hol := bcj hid hsd f N (n - 1) (by omega)
  have hsl := (ak1 f N (n - 1) (by omega) text).2
  rw [bq (by omega)]
  simp only [if_neg (show ¬ n = 0 by omega)]
  rw [aj (by trivial), aj (by trivial), P.aex]
  unfold P.aa5
  rw [(bcs hH hid hsd f N (n - 1) (by omega) text ht htl).1]
  dsimp only
  rw [aj (by omega)]
  rfl
end
end Q
end

section
namespace Q
open Go Go.Abs
set_option linter.unusedVariables false
set_option linter.unusedSimpArgs false
end Q
end

section
/- hss: the document's signatures; what is signed is right. -/
namespace Q
open Go Go.Abs
set_option linter.unusedVariables false
set_option linter.unusedSimpArgs false
section
variable {n : Nat} {H W id seed : List Int}
def bew (n : Nat) (H W id seed : List Int) (N : Nat) : Nat → List (List Int)
 | 0 => [beN (n - 1) 4]
 | i + 1 => bew n H W id seed N i ++ [ayj H W id seed N i (ark H W id seed N (i + 1)), ark H W id seed N (i + 1)]
theorem awp (N : Nat) : ∀ i, (bew n H W id seed N i).length = 1 + 2 * i
 | 0 => rfl
 | i + 1 => by rw [bew, List.length_append, awp N i]; simp; omega
theorem az3 (N : Nat) : ∀ i, (bew n H W id seed N i).flatten = bkh n H W id seed N i
 | 0 => by simp [bew, bkh, agu]
 | i + 1 => by
  rw [bew, List.flatten_append, az3 N i]
  unfold bkh
  rw [adh]
  unfold az4
  simp
theorem bf6 (hH : H.length = n) (hW : W.length = n) (hid : In 256 id) (hsd : In 256 seed) (f : FitK n H W id seed) (N : Nat) (hN : N < 2 ^ sm (hts H)) (text : List Int) (ht : In 256 text) (htl : text.length ≤ 300) {ρ : Type} (k : List Int → Int → Option ρ) :
    P.adw n H W id seed (N : Int) text k = k (bqu n H W id seed N text) 0 := by
 have n8 := f.n8
 have n1 := f.n1
 have hvl := aqj H N
 rw [P.ajb]; unfold P.afm
 have e0 : IntKind.i64.wrap ((n : Int) - 1) = ((n - 1 : Nat) : Int) := by rw [o9 (by omega) (by omega)]; omega
 rw [bcy hH f N hN, dz rfl, e0, ab0 _ (by omega), show (4 : Int) = ((4 : Nat) : Int) from rfl, gy _ 4 (by omega) (by omega), P.ax6]
 unfold P.axl P.bx4 P.btx P.by7
 refine qy (fun i => (text, ((n - 1 : Nat) : Int), (dn H id seed N i).1, (dn H id seed N i).2, (i : Int), bew n H W id seed N i, n, H, W, id, seed, arw H N)) (n - 1) rfl (fun i hi next hnx => ?_) (fun next => ?_) (by omega)
 ·simp only [P.an1]
  have ei : IntKind.i64.wrap ((i : Int) + 1) = ((i + 1 : Nat) : Int) := by rw [o9 (by omega) (by omega)]; omega
  have hkl := ai4 hid hsd f N (i + 1)
  have hrl := awp (n := n) (H := H) (W := W) (id := id) (seed := seed) N i
  rw [aj (by omega), aj (by omega), aj (by omega), toNat_cast, bob hH hid hsd f N i (by omega), ei, aj (by omega), aj (by omega), toNat_cast, (bhx hid hsd f N (i + 1) (by omega)).2]
  try dsimp only
  rw [aj (by omega), aj (by omega), aj (by omega), aj (by omega), (bcs hH hid hsd f N i (by omega) _ (bir hid hsd f N (i + 1)) (by omega)).2]
  try dsimp only
  rw [aj (by rw [hrl]; simp; omega)]
  exact hnx
 ·simp only [P.an1]
  have hrl := awp (n := n) (H := H) (W := W) (id := id) (seed := seed) N (n - 1)
  have hol := bcj hid hsd f N (n - 1) (by omega)
  have hsl := (ak1 f N (n - 1) (by omega) text).2
  have hfl : (bew n H W id seed N (n - 1) ++ [ayj H W id seed N (n - 1) text]).flatten = bqu n H W id seed N text := by
   rw [List.flatten_append, az3]
   unfold bqu
   simp
  rw [bq (by omega)]
  try dsimp only
  rw [aj (by omega), aj (by omega), aj (by omega), aj (by omega), toNat_cast, (bcs hH hid hsd f N (n - 1) (by omega) text ht htl).2]
  try dsimp only
  rw [aj (by omega), kr _ (by rw [List.length_append, hrl]; simp; omega) (by rw [hfl]; unfold bqu; rw [List.length_append]; omega), hfl]
end
end Q
end

section
namespace Q
open Go Go.Abs
set_option linter.unusedVariables false
set_option linter.unusedSimpArgs false
theorem bdy (n : Nat) (H W id seed : List Int) (hH : H.length = n) : ∃ b : Bool, ∀ {ρ : Type} (k : Bool → Option ρ), P.ad7 n H W id seed k = k b := by
 by_cases h20 : n > 20
 ·exact ⟨false, fun k => by rw [P.afg]; unfold P.ab3; rw [aj (by omega)]⟩
 obtain ⟨b, hb, _, h1⟩ := zq n H W id seed hH
 cases b with
 | false => exact ⟨true, fun k => by rw [P.afg]; unfold P.ab3; rw [bq (by omega), h1, jk, um]⟩
 | true =>
  rcases akw (fun i => H.getD i 0 ≤ 2 ∧ W.getD i 0 ≤ 2) n with h | ⟨m, m1, m2, m3⟩
  ·refine ⟨decide ((n : Int) ≤ 2), fun k => ?_⟩
   rw [P.afg]; unfold P.ab3
   rw [bq (by omega), h1, jk, ny, P.alp]
   unfold P.aln P.zk2 P.zs2 P.zu2
   refine qy (fun i => (n, H, W, (n : Int), (i : Int), n, H, W, id, seed)) n rfl (fun i hi next hnx => ?_) (fun next => ?_) (by omega)
   ·have hh := h i hi
    simp only [P.afq]
    rw [aj (by omega), aj (by omega), aj (by omega), toNat_cast, bq (by omega), bq (by omega), o9 (by omega) (by omega)]
    exact hnx
   ·simp only [P.afq]
    rw [bq (by omega)]
    rfl
  ·refine ⟨false, fun k => ?_⟩
   rw [P.afg]; unfold P.ab3
   rw [bq (by omega), h1, jk, ny, P.alp]
   unfold P.aln P.zk2 P.zs2 P.zu2
   refine qy (fun i => (n, H, W, (n : Int), (i : Int), n, H, W, id, seed)) m rfl (fun i hi next hnx => ?_) (fun next => ?_) (by omega)
   ·have hh := m3 i hi
    simp only [P.afq]
    rw [aj (by omega), aj (by omega), aj (by omega), toNat_cast, bq (by omega), bq (by omega), o9 (by omega) (by omega)]
    exact hnx
   ·simp only [P.afq]
    rw [aj (by omega), aj (by omega), aj (by omega), toNat_cast]
    by_cases h2 : H.getD m 0 > 2
    ·rw [aj h2]
     rfl
    ·rw [bq h2, aj (by omega)]
     rfl
theorem HssSigns (x0_Treesn : Nat) (x0_Trees0 : List Int) (x0_Trees1 : List Int) (x0_Id : List Int) (x0_Seed : List Int) (x1 : Int) (x2 : List Int) (bx0_Trees : x0_Treesn ≤ 140737488355328) (mx0_Trees0 : x0_Trees0.length = x0_Treesn) (wx0_Trees0 : ∀ x, x ∈ x0_Trees0 → wfI .i64 x) (mx0_Trees1 : x0_Trees1.length = x0_Treesn) (wx0_Trees1 : ∀ x, x ∈ x0_Trees1 → wfI .i64 x) (nx0_Id : x0_Id.length ≤ 140737488355328) (wx0_Id : ∀ x, x ∈ x0_Id → wfI .u8 x) (nx0_Seed : x0_Seed.length ≤ 140737488355328) (wx0_Seed : ∀ x, x ∈ x0_Seed → wfI .u8 x) (wx1 : wfI .u64 x1) (nx2 : x2.length ≤ 140737488355328) (wx2 : ∀ x, x ∈ x2 → wfI .u8 x) {ρ : Type} (k : Bool → Option ρ) : P.yw x0_Treesn x0_Trees0 x0_Trees1 x0_Id x0_Seed x1 x2 k = k true := by
 rw [P.ak2]; unfold P.afw
 obtain ⟨b, hb⟩ := bdy x0_Treesn x0_Trees0 x0_Trees1 x0_Id x0_Seed mx0_Trees0
 rw [hb]
 cases b with
 | false => rw [jk, um, ug]
 | true =>
  rw [jk, ny]
  rcases af2 [x0_Id, x0_Seed, x2] (by simp) (fun (q0 : Bool) => _) with ⟨hf, hl⟩ | hf
  ·rw [hf, jk, ny]
   have l2 : x2.length ≤ 300 := hl 2 (by simp)
   obtain ⟨N, rfl⟩ : ∃ N : Nat, x1 = (N : Int) := ⟨x1.toNat, by have := wf_u64 wx1; omega⟩
   have i1 := bre wx0_Id
   have i2 := bre wx0_Seed
   have i3 := bre wx2
   obtain ⟨c, hc, h1, h2⟩ := zq x0_Treesn x0_Trees0 x0_Trees1 x0_Id x0_Seed mx0_Trees0
   by_cases f : FitK x0_Treesn x0_Trees0 x0_Trees1 x0_Id x0_Seed
   ·have hct := hc.2 f
    subst hct
    have hkl := ai4 i1 i2 f 0 0
    have hkh : (byp x0_Treesn x0_Trees0 x0_Trees1 x0_Id x0_Seed).length = 60 := by simp [byp, adt, hkl]
    rw [bbg mx0_Trees0 i1 i2 f, bbe mx0_Trees0 i1 i2 f (fun k => h2 k)]
    by_cases hN : N < 2 ^ sm (hts x0_Trees0)
    ·have n1 := f.n1
     have hol := bcj i1 i2 f N (x0_Treesn - 1) (by omega)
     have hsl := (ak1 f N (x0_Treesn - 1) (by omega) x2).2
     have hshl : (bqu x0_Treesn x0_Trees0 x0_Trees1 x0_Id x0_Seed N x2).length ≤ 90000 := by
      unfold bqu; rw [List.length_append]; omega
     rw [bhb mx0_Trees0 mx0_Trees1 i1 i2 f N hN x2 i3 l2, bf6 mx0_Trees0 mx0_Trees1 i1 i2 f N hN x2 i3 l2, y8 _ _ (by omega), decide_eq_true rfl, ny]
     simp only [beq_self_eq_true, ny]
     rw [y8 _ _ (by omega), decide_eq_true rfl, ny, ug]
    ·have s1 : ∀ (k : List Int → Int → Option ρ), P.adx x0_Treesn x0_Trees0 x0_Trees1 x0_Id x0_Seed (N : Int) x2 k = k [] 13 := fun k => by
       rw [P.aje]; unfold P.afa
       rw [aup mx0_Trees0 f N hN, gq (by decide)]
     have s2 : ∀ (k : List Int → Int → Option ρ), P.adw x0_Treesn x0_Trees0 x0_Trees1 x0_Id x0_Seed (N : Int) x2 k = k [] 13 := fun k => by
      rw [P.ajb]; unfold P.afm
      rw [aub mx0_Trees0 f N hN, gq (by decide)]
     rw [s1, s2, y8 _ _ (by omega), decide_eq_true rfl, ny]
     simp only [beq_self_eq_true, ny]
     rw [y8 _ _ (by simp), decide_eq_true rfl, ny, ug]
   ·have hcf : c = false := by cases c with | false => rfl | true => exact absurd (hc.1 rfl) f
    subst hcf
    have s1 : ∀ (k : List Int → Int → Option ρ), P.adx x0_Treesn x0_Trees0 x0_Trees1 x0_Id x0_Seed (N : Int) x2 k = k [] 10 := fun k => by
     rw [P.aje]; unfold P.afa
     rw [bat mx0_Trees0 f, gq (by decide)]
    have s2 : ∀ (k : List Int → Int → Option ρ), P.adw x0_Treesn x0_Trees0 x0_Trees1 x0_Id x0_Seed (N : Int) x2 k = k [] 10 := fun k => by
     rw [P.ajb]; unfold P.afm
     rw [bcl mx0_Trees0 f, gq (by decide)]
    have s3 : ∀ (k : List Int → Int → Option ρ), P.aau x0_Treesn x0_Trees0 x0_Trees1 x0_Id x0_Seed k = k [] 10 := fun k => by
     rw [P.ajm]; unfold P.ae5
     rw [h1, jk, um]
    have s4 : ∀ (k : List Int → Int → Option ρ), P.aas x0_Treesn x0_Trees0 x0_Trees1 x0_Id x0_Seed k = k [] 10 := fun k => by
     rw [P.aju]; unfold P.ae7
     rw [h2, jk, um]
    rw [s3, s4, s1, s2, y8 _ _ (by simp), decide_eq_true rfl, ny]
    simp only [beq_self_eq_true, ny]
    rw [y8 _ _ (by simp), decide_eq_true rfl, ny, ug]
  ·rw [hf, jk, um, ug]
end Q
end
