/-
  LmsGrows, part 22: an interpreter of my own over abstract values, the pure functions, the walks and the plain law.
-/

import Derived.Test.YtmipokjdajiimaaGreatDoorLmsGrowsU
import Derived.Test.YtmipokjdajiimaaGreatDoorLmsGrowsK
import Derived.Test.YtmipokjdajiimaaGreatDoorLmsGrowsL
import Derived.Test.YtmipokjdajiimaaGreatDoorLmsGrowsI

section
/- lms: the document's trees. -/
namespace Q
open Go Go.Abs
set_option linter.unusedVariables false
set_option linter.unusedSimpArgs false
theorem bnc (x y : Nat) (hx : x < 9223372036854775808) (hy : y < 9223372036854775808) : bits .xor .i64 (x : Int) (y : Int) = ((x ^^^ y : Nat) : Int) := by
 have h1 : x ^^^ y < 9223372036854775808 := Nat.xor_lt_two_pow (n := 63) hx hy
 have e : bits .xor .i64 (x : Int) (y : Int) = IntKind.i64.wrap ((BitVec.ofInt 64 (x : Int) ^^^ BitVec.ofInt 64 (y : Int)).toNat : Int) := rfl
 have e2 : (BitVec.ofInt 64 (x : Int) ^^^ BitVec.ofInt 64 (y : Int)).toNat = x ^^^ y := by
  rw [BitVec.toNat_xor, BitVec.toNat_ofInt, BitVec.toNat_ofInt]; congr 1 <;> omega
 rw [e, e2]; exact o9 (by omega) (by omega)
theorem bch (h w : Int) (id seed : List Int) : ∃ e : Int, (e = 0 ↔ bbn h w ∧ id.length = 16 ∧ seed.length = 32 ∧ h ≤ 10) ∧ (∀ {ρ : Type} (k : Int → Option ρ), P.o7 h w id seed k = k e) ∧ ∀ {ρ : Type} (k : Int → Option ρ), P.uj h w id seed k = k e := by
 have pre : ∀ {ρ : Type} (k : Int → Option ρ), P.o7 h w id seed k = P.uw h w id seed k ∧ P.uj h w id seed k = P.yg h w id seed k := fun k => ⟨by rw [P.ajt], by rw [P.ap5]⟩
 by_cases f : bbn h w
 ·by_cases h16 : id.length = 16
  ·by_cases h32 : seed.length = 32
   ·by_cases h10 : h > 10
    ·refine ⟨8, ⟨fun e => by omega, fun e => by omega⟩, fun k => ?_, fun k => ?_⟩
     ·rw [(pre k).1]; unfold P.uw
      rw [(afe h w _).1 f, kr, oo, dn (by omega), dn (by omega), ak (by omega)]
     ·rw [(pre k).2]; unfold P.yg
      rw [(ac2 h w _).1 f, kr, oo, dn (by omega), dn (by omega), ak (by omega)]
    ·refine ⟨0, ⟨fun e => ⟨f, h16, h32, by omega⟩, fun e => rfl⟩, fun k => ?_, fun k => ?_⟩
     ·rw [(pre k).1]; unfold P.uw
      rw [(afe h w _).1 f, kr, oo, dn (by omega), dn (by omega), cu (by omega)]
     ·rw [(pre k).2]; unfold P.yg
      rw [(ac2 h w _).1 f, kr, oo, dn (by omega), dn (by omega), cu (by omega)]
   ·refine ⟨14, ⟨fun e => by omega, fun e => by omega⟩, fun k => ?_, fun k => ?_⟩
    ·rw [(pre k).1]; unfold P.uw
     rw [(afe h w _).1 f, kr, oo, dn (by omega), d9 (by omega)]
    ·rw [(pre k).2]; unfold P.yg
     rw [(ac2 h w _).1 f, kr, oo, dn (by omega), d9 (by omega)]
  ·refine ⟨14, ⟨fun e => by omega, fun e => by omega⟩, fun k => ?_, fun k => ?_⟩
   ·rw [(pre k).1]; unfold P.uw
    rw [(afe h w _).1 f, kr, oo, d9 (by omega)]
   ·rw [(pre k).2]; unfold P.yg
    rw [(ac2 h w _).1 f, kr, oo, d9 (by omega)]
 ·refine ⟨9, ⟨fun e => by omega, fun e => absurd e.1 f⟩, fun k => ?_, fun k => ?_⟩
  ·rw [(pre k).1]; unfold P.uw
   rw [(afe h w _).2 f, kr, uo]
  ·rw [(pre k).2]; unfold P.yg
   rw [(ac2 h w _).2 f, kr, uo]
def knI (w p : Nat) (id seed : List Int) (h i : Nat) : List Int := kn w p id seed h (h - i.log2) i
def bfj (w p : Nat) (id seed : List Int) (h : Nat) : List (List Int) := (List.range (2 * 2 ^ h)).map (fun i => knI w p id seed h i)
theorem ayr (w p : Nat) (id seed : List Int) (h : Nat) : (bfj w p id seed h).length = 2 * 2 ^ h := by simp [bfj]
theorem ars (w p : Nat) (id seed : List Int) (h i : Nat) (hi : i < 2 * 2 ^ h) : (bfj w p id seed h).getD i [] = knI w p id seed h i := by
 rw [getD_lt (by rw [ayr]; exact hi)]; simp [bfj]
theorem ayj {i m : Nat} (h1 : 2 ^ m ≤ i) (h2 : i < 2 ^ (m + 1)) : i.log2 = m := (Nat.log2_eq_iff (by have := Nat.two_pow_pos m; omega)).2 ⟨h1, h2⟩
theorem awg (l : List (List Int)) (m : Nat) (h : m < l.length) : (List.replicate (m + 1) [] ++ l.drop (m + 1)).set m (l.getD m []) = List.replicate m [] ++ l.drop m := by
 rw [List.replicate_succ', List.append_assoc, List.set_append_right _ _ (by simp), adb l [] m h]
 simp
theorem axp (l : List (List Int)) (m i : Nat) (h : m ≤ i) : (List.replicate m [] ++ l.drop m).getD i [] = l.getD i [] := by
 rw [List.getD_eq_getElem?_getD, List.getD_eq_getElem?_getD, List.getElem?_append_right (by simpa using h)]
 simp only [List.length_replicate, List.getElem?_drop]
 rw [show m + (i - m) = i by omega]
theorem bhl {s : Nat} (h : s ≤ 60) : IntKind.i64.wrap ((1 : Int) * (2 : Int) ^ min ((s : Nat) : Int).toNat 64) = ((2 ^ s : Nat) : Int) := by
 have h2 : 2 ^ s ≤ 2 ^ 60 := Nat.pow_le_pow_right (by omega) h
 rw [toNat_cast, Nat.min_eq_left (by omega), Int.one_mul, show ((2 : Int) ^ s) = ((2 ^ s : Nat) : Int) by simp]
 have key : ∀ x : Nat, x ≤ 2 ^ 60 → IntKind.i64.wrap (x : Int) = (x : Int) := fun x hx => o9 (by omega) (by omega)
 exact key _ h2
theorem bgi (w p : Nat) (id seed : List Int) (h i : Nat) : (knI w p id seed h i).length = 32 := anh _ _ _ _ _ _ _
theorem bmc (w p : Nat) (id seed : List Int) (h i : Nat) : In 256 (knI w p id seed h i) := bn3 _ _ _ _ _ _ _
theorem ap7 {w p s : Nat} (hk : Kind w p s) (h : Nat) (id seed : List Int) (hid : In 256 id) (h16 : id.length = 16) (hsd : In 256 seed) (h32 : seed.length = 32) (h10 : h ≤ 10) {ρ : Type} (k : List (List Int) → Option ρ) :
    P.aae (h : Int) (w : Int) id seed k = k ([] :: (bfj w p id seed h).drop 1) := by
 have hp := anz h10
 have hp0 := Nat.two_pow_pos h
 have hal := ayr w p id seed h
 rw [P.aqm]; unfold P.aif
 have e1 : IntKind.i64.wrap ((2 : Int) * ((2 ^ h : Nat) : Int)) = ((2 * 2 ^ h : Nat) : Int) := by rw [o9 (by omega) (by omega)]; omega
 rw [cu (by omega), bhl (by omega), e1, ak (by omega), ak (by omega), ak (by omega), o9 (x := ((2 * 2 ^ h : Nat) : Int) - 1) (by omega) (by omega), P.aug, toNat_cast]
 unfold P.aqx P.bte P.bru P.bys
 generalize hN : 2 * 2 ^ h = N at *
 refine xq (fun j => (id, seed, ((2 ^ h : Nat) : Int), ((N - 1 - j : Nat) : Int), (h : Int), (w : Int), List.replicate (N - j) [] ++ (bfj w p id seed h).drop (N - j))) (N - 1) ?_ (fun j hj next hnx => ?_) (fun next => ?_) (by omega)
 ·rw [Nat.sub_zero, Nat.sub_zero, List.drop_eq_nil_of_le (by omega), List.append_nil, show ((N : Nat) : Int) - 1 = ((N - 1 : Nat) : Int) by omega]
 ·simp only [P.ajw]
  obtain ⟨i, hi⟩ : ∃ i, N - 1 - j = i := ⟨_, rfl⟩
  have hi1 : N - j = i + 1 := by omega
  have hi2 : N - (j + 1) = i := by omega
  have hi3 : N - 1 - (j + 1) = i - 1 := by omega
  rw [hi2, hi3] at hnx
  rw [hi, hi1]
  have i0 : i ≠ 0 := by omega
  have lg1 := Nat.log2_self_le i0
  have lg2 := Nat.lt_log2_self (n := i)
  have hll : (List.replicate (i + 1) ([] : List Int) ++ (bfj w p id seed h).drop (i + 1)).length = N := by
   rw [List.length_append, List.length_replicate, List.length_drop]; omega
  have hg := ars w p id seed h i (by omega)
  have ew : IntKind.i64.wrap (((i : Nat) : Int) - 1) = ((i - 1 : Nat) : Int) := by rw [o9 (by omega) (by omega)]; omega
  rw [ak (by omega)]
  by_cases hge : 2 ^ h ≤ i
  ·have lg : i.log2 = h := ayj hge (by rw [Nat.pow_succ]; omega)
   rw [ak (by omega), show ((i : Nat) : Int) - ((2 ^ h : Nat) : Int) = ((i - 2 ^ h : Nat) : Int) by omega, o9 (x := ((i - 2 ^ h : Nat) : Int)) (by omega) (by omega), bi6 _ (by omega), axw hk id _ seed hid (by omega) hsd h16 h32, ab6 i (by omega), wu id i _ hid (by omega) (by omega) (bjk _ _ _ _ _) (by rw [bds]; omega), ak (by omega), ak (by omega), toNat_cast, ew]
   have hv : ayu id i 33410 [bo9 w p id (i - 2 ^ h) seed] = (bfj w p id seed h).getD i [] := by
    rw [hg, knI, lg, Nat.sub_self, kn]
   rw [hv, awg _ _ (by omega)]
   exact hnx
  ·have lgh : i.log2 < h := by
     have : ¬ h ≤ i.log2 := fun hle => hge (Nat.le_trans (Nat.pow_le_pow_right (by omega) hle) lg1)
     omega
   have a1 : 2 ^ (i.log2 + 1) = 2 ^ i.log2 * 2 := Nat.pow_succ ..
   have a2 : 2 ^ (i.log2 + 1 + 1) = 2 ^ (i.log2 + 1) * 2 := Nat.pow_succ ..
   have lg3 : (2 * i).log2 = i.log2 + 1 := ayj (by omega) (by omega)
   have lg4 : (2 * i + 1).log2 = i.log2 + 1 := ayj (by omega) (by omega)
   have e2 : IntKind.i64.wrap ((2 : Int) * ((i : Nat) : Int)) = ((2 * i : Nat) : Int) := by rw [o9 (by omega) (by omega)]; omega
   have e3 : IntKind.i64.wrap (((2 * i : Nat) : Int) + 1) = ((2 * i + 1 : Nat) : Int) := by rw [o9 (by omega) (by omega)]; omega
   rw [cu (by omega), e2, e3, ak (by omega), ak (by omega), ak (by omega), ak (by omega), ab6 i (by omega), toNat_cast, toNat_cast, axp _ _ _ (by omega), axp _ _ _ (by omega), ars _ _ _ _ _ _ (by omega), ars _ _ _ _ _ _ (by omega)]
   rw [acv id i _ _ hid (by omega) (by omega) (bmc _ _ _ _ _ _) (by rw [bgi]; omega) (bmc _ _ _ _ _ _) (by rw [bgi]; omega), ak (by omega), ak (by omega), toNat_cast, ew]
   have hv : ayu id i 33667 [knI w p id seed h (2 * i), knI w p id seed h (2 * i + 1)] = (bfj w p id seed h).getD i [] := by
    rw [hg, knI, knI, knI, lg3, lg4]
    rw [show h - i.log2 = (h - (i.log2 + 1)) + 1 by omega, kn]
   rw [hv, awg _ _ (by omega)]
   exact hnx
 ·simp only [P.ajw]
  rw [Nat.sub_self, cu (by omega), show N - (N - 1) = 1 by omega]
  rfl
theorem ay1 (w p : Nat) (id seed : List Int) (h i : Nat) (h0 : i ≠ 0) (hi : i < 2 * 2 ^ h) : ([] :: (bfj w p id seed h).drop 1).getD i [] = knI w p id seed h i := by
 have := axp (bfj w p id seed h) 1 i (by omega)
 rw [ars _ _ _ _ _ _ hi] at this
 exact this
theorem azo (w p : Nat) (id seed : List Int) (h : Nat) : ([] :: (bfj w p id seed h).drop 1).length = 2 * 2 ^ h := by
 have := Nat.two_pow_pos h
 rw [List.length_cons, List.length_drop, ayr]; omega
theorem am8 {w p s : Nat} (hk : Kind w p s) (h : Nat) (id seed : List Int) (hid : In 256 id) (h16 : id.length = 16) (hsd : In 256 seed) (h32 : seed.length = 32) (h10 : h ≤ 10) {ρ : Type} (hw : ∀ (k : Int → Option ρ), P.uj (h : Int) (w : Int) id seed k = k 0) (k : List Int → Int → Option ρ) :
    P.aam (h : Int) (w : Int) id seed k = k (bpa w p id seed h) 0 := by
 have hp0 := Nat.two_pow_pos h
 rw [P.ah9]; unfold P.ad7
 rw [hw, dn rfl, bgd hk (by omega), ap7 hk h id seed hid h16 hsd h32 h10, ak (by rw [azo]; omega), ay1 _ _ _ _ _ _ (by omega) (by omega), show knI w p id seed h 1 = kn w p id seed h h 1 by unfold knI; rw [show Nat.log2 1 = 0 by decide, Nat.sub_zero],
  kg _ (by simp) (by simp [aft, anh, h16])]
 simp only [List.flatten_cons, List.flatten_nil, List.append_nil]
 rfl
theorem bc4 {w p s : Nat} (hk : Kind w p s) (h : Nat) (id seed : List Int) (hid : In 256 id) (h16 : id.length = 16) (hsd : In 256 seed) (h32 : seed.length = 32) (h10 : h ≤ 10) {ρ : Type} (hw : ∀ (k : Int → Option ρ), P.uj (h : Int) (w : Int) id seed k = k 0) (q : Nat) (hq : q < 2 ^ h) (text : List Int) (ht : In 256 text) (htl : text.length ≤ 300) (k : List Int → Int → Option ρ) :
    P.ac5 (h : Int) (w : Int) id seed (q : Int) text k = k (boa w p s id seed h q text) 0 := by
 have hp := anz h10
 have hpp := (pw hk).2.2.1
 have hc := arv h
 have hup : 2 ^ h + q < 2 ^ (h + 1) := by rw [Nat.pow_succ]; omega
 rw [P.aie]; unfold P.aef
 rw [hw, dn rfl, cu (by omega), ab6 q (by omega), ar4 (by omega), cu (by omega), bb8 hk id q seed text hid (by omega) hsd h16 h32 ht htl, show (4 : Int) = ((4 : Nat) : Int) from rfl, jd q 4 (by omega) (by omega), sw h (by omega), jd _ 4 (by omega) (by omega), ap7 hk h id seed hid h16 hsd h32 h10, cu (by omega), bhl (by omega), o9 (x := (q : Int)) (by omega) (by omega), o9 (x := ((2 ^ h : Nat) : Int) + (q : Int)) (by omega) (by omega), P.at6]
 unfold P.aqg P.bso P.bqq P.bt0
 refine xq (fun i => ((((2 ^ h + q) / 2 ^ i : Nat) : Int), [(bsw 8 4 q).reverse, bee w p s id q seed text, (bsw 8 4 (aax h)).reverse] ++ (List.range i).map (bgc w p id seed h (2 ^ h + q)), [] :: (bfj w p id seed h).drop 1)) h (by simp) (fun i hi next hnx => ?_) (fun next => ?_) (by omega)
 ·simp only [P.aki]
  have hwy := bmn (n := 2 ^ h + q) (by omega) hup hi
  have hlt : (2 ^ h + q) / 2 ^ i ≤ 2 ^ h + q := Nat.div_le_self _ _
  obtain ⟨r1, r2⟩ := bhp (n := 2 ^ h + q) (by omega) hup (show i ≤ h by omega)
  obtain ⟨m, hm⟩ : ∃ m, h - i = m + 1 := ⟨h - i - 1, by omega⟩
  rw [hm] at r1 r2
  obtain ⟨x1, x2⟩ := bjf r1 r2
  have hxl : ((2 ^ h + q) / 2 ^ i) ^^^ 1 < 2 * 2 ^ h := by
   have : 2 ^ (m + 1 + 1) ≤ 2 ^ (h + 1) := Nat.pow_le_pow_right (by omega) (by omega)
   rw [Nat.pow_succ 2 h] at this
   omega
  have hx0 : ((2 ^ h + q) / 2 ^ i) ^^^ 1 ≠ 0 := by
   have := Nat.two_pow_pos (m + 1)
   omega
  have hnxt : (2 ^ h + q) / 2 ^ (i + 1) = (2 ^ h + q) / 2 ^ i / 2 := by rw [Nat.pow_succ, Nat.div_div_eq_div_mul]
  have hkl := azo w p id seed h
  have hv : knI w p id seed h (((2 ^ h + q) / 2 ^ i) ^^^ 1) = bgc w p id seed h (2 ^ h + q) i := by
   unfold knI bgc
   rw [ayj x1 x2, show h - (m + 1) = i by omega]
  have hlen : ([(bsw 8 4 q).reverse, bee w p s id q seed text, (bsw 8 4 (aax h)).reverse] ++ (List.range i).map (bgc w p id seed h (2 ^ h + q))).length = 3 + i := by simp; omega
  have hhalf : IntKind.i64.wrap ((((2 ^ h + q) / 2 ^ i : Nat) : Int).tdiv 2) = (((2 ^ h + q) / 2 ^ i / 2 : Nat) : Int) := by
   rw [Int.tdiv_eq_ediv_of_nonneg (by omega), o9 (by omega) (by omega)]
   omega
  rw [ak (by omega), show (1 : Int) = ((1 : Nat) : Int) from rfl, bnc _ _ (by omega) (by omega), ak (by omega), ak (by omega), ak (by omega), toNat_cast, ay1 _ _ _ _ _ _ hx0 hxl, hv, hhalf, ← hnxt, List.append_assoc, ald]
  exact hnx
 ·simp only [P.aki]
  have hel := acz (bgc w p id seed h (2 ^ h + q)) (fun i => anh _ _ _ _ _ _ _) h
  have hfl : ([(bsw 8 4 q).reverse, bee w p s id q seed text, (bsw 8 4 (aax h)).reverse] ++ (List.range h).map (bgc w p id seed h (2 ^ h + q))).flatten = boa w p s id seed h q text := by
   unfold boa ai8 beN
   simp
  rw [bij (by omega) hup, cu (by omega), kg _ (by simp; omega) (by rw [hfl, be2]; omega), hfl]
theorem au4 {w p s : Nat} (hk : Kind w p s) (h : Nat) (id seed : List Int) (h10 : h ≤ 10) {ρ : Type} (hw : ∀ (k : Int → Option ρ), P.uj (h : Int) (w : Int) id seed k = k 0) (q : Nat) (hq : ¬ q < 2 ^ h) (hq2 : q < 4294967296) (text : List Int) (k : List Int → Int → Option ρ) :
    P.ac5 (h : Int) (w : Int) id seed (q : Int) text k = k [] 13 := by
 rw [P.aie]; unfold P.aef
 rw [hw, dn rfl, cu (by omega), ab6 q (by omega), ar4 (by omega), ak (by omega)]
end Q
end

section
namespace Q
open Go Go.Abs
set_option linter.unusedVariables false
set_option linter.unusedSimpArgs false
theorem azn (h w : Int) : ∃ b : Bool, ∀ {ρ : Type} (k : Bool → Option ρ), P.adi h w k = k b := by
 have tail : ∃ b : Bool, ∀ {ρ : Type} (k : Bool → Option ρ), br (decide (h > (10 : Int))) (k true) (P.yx h w fun (q0 : Bool) => k !q0) = k b := by
  by_cases h10 : h > 10
  ·exact ⟨true, fun k => by rw [ak h10]⟩
  ·by_cases f : bbn h w
   ·exact ⟨false, fun k => by rw [cu h10, (ac2 h w _).1 f]; rfl⟩
   ·exact ⟨true, fun k => by rw [cu h10, (ac2 h w _).2 f]; rfl⟩
 obtain ⟨b, hb⟩ := tail
 by_cases h2 : h ≤ 2
 ·by_cases h8 : w = 8
  ·exact ⟨b, fun k => by rw [P.agk]; unfold P.ac9; rw [ak h2, dn h8, hb]⟩
  ·exact ⟨true, fun k => by rw [P.agk]; unfold P.ac9; rw [ak h2, d9 h8]⟩
 ·exact ⟨b, fun k => by rw [P.agk]; unfold P.ac9; rw [cu h2, hb]⟩
theorem bny (h w : Int) : ∃ e : Int, (∀ {ρ : Type} (k : Int → Option ρ), P.ze h w k = k e) ∧ ∀ {ρ : Type} (k : Int → Option ρ), P.ae7 h w k = k e := by
 by_cases f : bbn h w
 ·obtain ⟨a, n, p, s, rfl, rfl, hk, ha, h25, _⟩ := ba5 f
  have hp := (pw hk).2.2.1
  refine ⟨((4 + (36 + 32 * p) + 4 + 32 * a : Nat) : Int), fun k => al4 hk hp ha h25 k, fun k => ?_⟩
  rw [P.amj]; unfold P.agz
  rw [(ac2 _ _ _).1 f, kr, oo, y9 hk, o9 (x := (32 : Int) * (a : Int)) (by omega) (by omega), o9 (x := (8 : Int) + (32 : Int) * (a : Int)) (by omega) (by omega), o9 (by omega) (by omega)]
  congr 1
  omega
 ·refine ⟨0, fun k => ?_, fun k => ?_⟩
  ·rw [P.amh]; unfold P.ag2
   rw [(afe _ _ _).2 f, kr, uo]
  ·rw [P.amj]; unfold P.agz
   rw [(ac2 _ _ _).2 f, kr, uo]
theorem bnl (h w : Int) (id seed : List Int) (hid : In 256 id) (hsd : In 256 seed) (q : Nat) (hq : q < 4294967296) (text : List Int) (ht : In 256 text) (htl : text.length ≤ 300) : ∃ (x : List Int) (e : Int) (y : List Int) (g : Int), x.length ≤ 100000 ∧ y.length ≤ 100000 ∧
    (∀ {ρ : Type} (k : List Int → Int → Option ρ), P.aak h w id seed k = k x e) ∧ (∀ {ρ : Type} (k : List Int → Int → Option ρ), P.aam h w id seed k = k x e) ∧
    (∀ {ρ : Type} (k : List Int → Int → Option ρ), P.acw h w id seed (q : Int) text k = k y g) ∧ (∀ {ρ : Type} (k : List Int → Int → Option ρ), P.ac5 h w id seed (q : Int) text k = k y g) := by
 obtain ⟨e, he, w1, w2⟩ := bch h w id seed
 by_cases e0 : e = 0
 ·obtain ⟨f, h16, h32, h10⟩ := he.1 e0
  subst e0
  obtain ⟨a, n, p, s, rfl, rfl, hk, ha, h25, _⟩ := ba5 f
  have hp := (pw hk).2.2.1
  have kl := bky n p id seed a h16
  have sl := be2 n p s id seed a q text
  by_cases hqa : q < 2 ^ a
  ·exact ⟨bpa n p id seed a, 0, boa n p s id seed a q text, 0, by omega, by omega, fun k => amz hk a ha id seed hid h16 hsd h32 (by omega) f k, fun k => am8 hk a id seed hid h16 hsd h32 (by omega) (fun k => w2 k) k, fun k => bbt hk a ha id seed hid h16 hsd h32 (by omega) f q hqa text ht htl k, fun k => bc4 hk a id seed hid h16 hsd h32 (by omega) (fun k => w2 k) q hqa text ht htl k⟩
  ·exact ⟨bpa n p id seed a, 0, [], 13, by omega, by simp, fun k => amz hk a ha id seed hid h16 hsd h32 (by omega) f k, fun k => am8 hk a id seed hid h16 hsd h32 (by omega) (fun k => w2 k) k, fun k => au7 hk a id seed h16 h32 (by omega) f q hqa hq text k, fun k => au4 hk a id seed (by omega) (fun k => w2 k) q hqa hq text k⟩
 ·refine ⟨[], e, [], e, by simp, by simp, fun k => ?_, fun k => ?_, fun k => ?_, fun k => ?_⟩
  ·rw [P.aib]; unfold P.ad8
   rw [w1, d9 e0]
  ·rw [P.ah9]; unfold P.ad7
   rw [w2, d9 e0]
  ·rw [P.aiv]; unfold P.aei
   rw [w1, d9 e0]
  ·rw [P.aie]; unfold P.aef
   rw [w2, d9 e0]
theorem LmsGrows (x0_H : Int) (x0_W : Int) (x1 : List Int) (x2 : List Int) (x3 : Int) (x4 : List Int) (wx0_H : wfI .i64 x0_H) (wx0_W : wfI .i64 x0_W) (nx1 : x1.length ≤ 140737488355328) (wx1 : ∀ x, x ∈ x1 → wfI .u8 x) (nx2 : x2.length ≤ 140737488355328) (wx2 : ∀ x, x ∈ x2 → wfI .u8 x) (wx3 : wfI .u32 x3) (nx4 : x4.length ≤ 140737488355328) (wx4 : ∀ x, x ∈ x4 → wfI .u8 x) {ρ : Type} (k : Bool → Option ρ) : P.yt x0_H x0_W x1 x2 x3 x4 k = k true := by
 rw [P.akh]; unfold P.ae2
 obtain ⟨b, hb⟩ := azn x0_H x0_W
 rw [hb]
 cases b with
 | false => rw [kr, uo, um]
 | true =>
  rw [kr, oo]
  rcases aes [x1, x2, x4] (by simp) (fun (q0 : Bool) => _) with ⟨hf, hl⟩ | hf
  ·rw [hf, kr, oo]
   have l4 : x4.length ≤ 300 := hl 2 (by simp)
   obtain ⟨q, rfl⟩ : ∃ q : Nat, x3 = (q : Int) := ⟨x3.toNat, by have := wf_u32 wx3; omega⟩
   obtain ⟨x, e, y, g, lx, ly, a1, a2, a3, a4⟩ := bnl x0_H x0_W x1 x2 (boe wx1) (boe wx2) q (by have := wf_u32 wx3; omega) x4 (boe wx4) l4
   obtain ⟨z, z1, z2⟩ := bny x0_H x0_W
   rw [a1, a2, a3, a4]
   by_cases f : bbn x0_H x0_W
   ·rw [(afe _ _ _).1 f, (ac2 _ _ _).1 f, beq_self_eq_true, oo, z1, z2, beq_self_eq_true, oo, z8 _ _ (by omega), decide_eq_true rfl, oo, beq_self_eq_true, oo, z8 _ _ (by omega), decide_eq_true rfl, oo, beq_self_eq_true, oo, um]
   ·rw [(afe _ _ _).2 f, (ac2 _ _ _).2 f, beq_self_eq_true, oo, z1, z2, beq_self_eq_true, oo, z8 _ _ (by omega), decide_eq_true rfl, oo, beq_self_eq_true, oo, z8 _ _ (by omega), decide_eq_true rfl, oo, beq_self_eq_true, oo, um]
  ·rw [hf, kr, uo, um]
end Q
end
