/-
  HssVerifies, part 21: an interpreter of my own over abstract values, the pure functions, the walks and the plain law.
-/

import Derived.Test.YtmipokjdajiimaaDoorHssVerifiesT
import Derived.Test.YtmipokjdajiimaaDoorHssVerifiesL
import Derived.Test.YtmipokjdajiimaaDoorHssVerifiesS
import Derived.Test.YtmipokjdajiimaaDoorHssVerifiesI
import Derived.Test.YtmipokjdajiimaaDoorHssVerifiesK

section
namespace Q
open Go Go.Abs
set_option linter.unusedVariables false
set_option linter.unusedSimpArgs false
theorem ba1 (b : List Int) : (∃ e : Int, e ≠ 0 ∧ ∀ {ρ : Type} (k : List Int → Int → Int → List Int → Int → Option ρ), biv b k = k [] 0 0 [] e) ∨
    (∃ w h : Nat, w = wOf (nm b 4 8) ∧ w ≠ 0 ∧ 1 ≤ h ∧ h ≤ 25 ∧ abr h ≠ 0 ∧ 4 + (36 + 32 * pOf w) + 4 + 32 * h ≤ b.length ∧ ∀ {ρ : Type} (k : List Int → Int → Int → List Int → Int → Option ρ),
     biv b k = k (b.take (4 + (36 + 32 * pOf w) + 4 + 32 * h)) (h : Int) (w : Int) (b.drop (4 + (36 + 32 * pOf w) + 4 + 32 * h)) 0) := by
 unfold biv
 by_cases h8 : b.length < 8
 ·exact .inl ⟨1, by decide, fun k => by rw [if_pos h8]⟩
 by_cases hw : wOf (nm b 4 8) = 0
 ·exact .inl ⟨9, by decide, fun k => by rw [if_neg h8, if_pos hw]⟩
 generalize hww : wOf (nm b 4 8) = w at hw
 by_cases hl : b.length < 4 + (36 + 32 * pOf w) + 4
 ·exact .inl ⟨1, by decide, fun k => by rw [if_neg h8, if_neg hw, if_pos hl]⟩
 generalize hcc : nm b (4 + (36 + 32 * pOf w)) (4 + (36 + 32 * pOf w) + 4) = ch
 by_cases hh : hOf ch = 0
 ·exact .inl ⟨9, by decide, fun k => by rw [if_neg h8, if_neg hw, if_neg hl, if_pos hh]⟩
 by_cases hl2 : b.length < 4 + (36 + 32 * pOf w) + 4 + 32 * hOf ch
 ·exact .inl ⟨1, by decide, fun k => by rw [if_neg h8, if_neg hw, if_neg hl, if_neg hh, if_pos hl2]⟩
 obtain ⟨g1, g2, g3⟩ := aog ch hh
 refine .inr ⟨w, hOf ch, rfl, hw, g2, g3, ?_, by omega, fun k => by rw [if_neg h8, if_neg hw, if_neg hl, if_neg hh, if_neg hl2]⟩
 rw [g1]
 rintro rfl
 exact hh rfl
theorem bnv (q h : Nat) : ((q : Int).fdiv ((2 : Int) ^ min ((h : Nat) : Int).toNat 64) != (0 : Int)) = decide (¬ q < 2 ^ min h 64) := by
 rw [toNat_cast, Int.fdiv_eq_ediv_of_nonneg _ (by exact Int.le_of_lt (Int.pow_pos (by omega))), show ((2 : Int) ^ min h 64) = ((2 ^ min h 64 : Nat) : Int) by simp, ← Int.natCast_ediv]
 by_cases hq : q < 2 ^ min h 64
 ·rw [decide_eq_false (by omega), Nat.div_eq_of_lt hq]; rfl
 ·rw [decide_eq_true hq, bne_iff_ne]
  have := (Nat.le_div_iff_mul_le (Nat.two_pow_pos (min h 64))).2 (show 1 * 2 ^ min h 64 ≤ q by omega)
  omega
theorem bby (a0 a1 a2 : List Int) (h0 : In 256 a0) (h1 : In 256 a1) (h2 : In 256 a2) (n0 : a0.length ≤ 300) (n1 : a1.length ≤ 300) (n2 : a2.length ≤ 12000) :
    ∃ e : Int, (∀ {ρ : Type} (k : Int → Option ρ), P.vo a0 a1 a2 k = k e) ∧ (∀ {ρ : Type} (k : Int → Option ρ), P.yt a0 a1 a2 k = k e) := by
 have e4 : Int.toNat (4 : Int) = 4 := rfl
 have e8 : Int.toNat (8 : Int) = 8 := rfl
 have e24 : Int.toNat (24 : Int) = 24 := rfl
 have pre : ∀ {ρ : Type} (k : Int → Option ρ), P.vo a0 a1 a2 k = P.nu a0 a1 a2 k ∧ P.yt a0 a1 a2 k = P.nk a0 a1 a2 k := fun k => ⟨P.aoi .., P.aoc ..⟩
 by_cases hl : a0.length = 56
 ·have m1 := ase a0 0 4 (by omega)
  have m2 := ase a0 4 8 (by omega)
  by_cases hh : hOf (nm a0 0 4) = 0
  ·refine ⟨10, fun k => ?_, fun k => ?_⟩
   ·rw [(pre k).1]; unfold P.nu
    rw [bg (by omega), ah (by omega), e4, za a0 h0 0 4 (by omega), lg _ (by omega), hh, bq (by omega)]
   ·rw [(pre k).2]; unfold P.nk
    rw [bg (by omega), ah (by omega), e4, og a0 h0 0 4 (by omega), ku _ (by omega), hh, bq (by omega)]
  by_cases hw : wOf (nm a0 4 8) = 0
  ·refine ⟨10, fun k => ?_, fun k => ?_⟩
   ·rw [(pre k).1]; unfold P.nu
    rw [bg (by omega), ah (by omega), e4, za a0 h0 0 4 (by omega), lg _ (by omega), ak (by omega), ah (by omega), e8, za a0 h0 4 8 (by omega), ow _ (by omega), hw, bq (by omega)]
   ·rw [(pre k).2]; unfold P.nk
    rw [bg (by omega), ah (by omega), e4, og a0 h0 0 4 (by omega), ku _ (by omega), ak (by omega), ah (by omega), e8, og a0 h0 4 8 (by omega), ou _ (by omega), hw, bq (by omega)]
  rcases ba1 a2 with ⟨e, he, hc⟩ | ⟨w, h, hww, hw0, g1, g2, g3, hn, hc⟩
  ·refine ⟨e, fun k => ?_, fun k => ?_⟩
   ·rw [(pre k).1]; unfold P.nu
    rw [bg (by omega), ah (by omega), e4, za a0 h0 0 4 (by omega), lg _ (by omega), ak (by omega), ah (by omega), e8, za a0 h0 4 8 (by omega), ow _ (by omega), ak (by omega), zq a2 h2 (by omega), hc, d9 he]
   ·rw [(pre k).2]; unfold P.nk
    rw [bg (by omega), ah (by omega), e4, og a0 h0 0 4 (by omega), ku _ (by omega), ak (by omega), ah (by omega), e8, og a0 h0 4 8 (by omega), ou _ (by omega), ak (by omega), zm a2 h2 (by omega), hc, d9 he]
  ·obtain ⟨hk, hcw, hw8, hp⟩ := aq9 (c := nm a2 4 8) (by rw [← hww]; exact hw0)
   rw [← hww] at hk hcw hw8 hp
   generalize hpp : pOf w = p at hk hp hn hc
   generalize hss : sOf w = s at hk
   by_cases hr : a2.length = 4 + (36 + 32 * p) + 4 + 32 * h
   ·have hd0 : a2.drop (4 + (36 + 32 * p) + 4 + 32 * h) = [] := List.drop_eq_nil_of_le (by omega)
    have hhl : (beN (abr h) 4 ++ beN (aem w) 4).length = 8 := by simp [ayf]
    by_cases hhd : beN (abr h) 4 ++ beN (aem w) 4 = (a0.take 8).drop 0
    ·generalize hq : nm a2 0 4 = q
     have hq32 : q < 4294967296 := by rw [← hq]; exact ase a2 0 4 (by omega)
     have hmin : min h 64 = h := by omega
     have h25 : 2 ^ h ≤ 2 ^ 25 := Nat.pow_le_pow_right (by omega) g2
     by_cases hqh : q < 2 ^ h
     ·have hid : In 256 ((a0.take 24).drop 8) := (h0.take 24).drop 8
      have hidl : ((a0.take 24).drop 8).length = 16 := by simp; omega
      have hsg : In 256 ((a2.take (4 + (36 + 32 * p))).drop 4) := (h2.take _).drop 4
      have hsgl : ((a2.take (4 + (36 + 32 * p))).drop 4).length = 36 + 32 * p := by simp; omega
      have hcode : T 8 (((a2.take (4 + (36 + 32 * p))).drop 4).take 4).reverse = aem w := by
       rw [hcw]
       unfold nm
       congr 2
       rw [List.take_drop, List.take_take]
       congr 2
       omega
      have hpt : In 256 (a2.drop (4 + (36 + 32 * p) + 4)) := h2.drop _
      have hptl : (a2.drop (4 + (36 + 32 * p) + 4)).length = 32 * h := by simp; omega
      have w1 : IntKind.u64.wrap ((1 : Int) * (2 : Int) ^ min ((h : Nat) : Int).toNat 64) = ((2 ^ h : Nat) : Int) := by
       rw [toNat_cast, hmin, Int.one_mul, show ((2 : Int) ^ h) = ((2 ^ h : Nat) : Int) by simp, acg _ (by omega)]
      have hup2 : 2 ^ h + q < 2 ^ (h + 1) := by rw [Nat.pow_succ]; omega
      have ha0d : ((a0.take a0.length).drop 24).length = 32 := by simp; omega
      generalize hcs : bn7 w p s ((a0.take 24).drop 8) q a1 ((a2.take (4 + (36 + 32 * p))).drop 4) = cs
      have hcsl : cs.length = 32 := by rw [← hcs]; exact ahy _ _ _ _
      have hcsi : In 256 cs := by rw [← hcs]; exact aoj _ _ _ _
      generalize hlf : bbc ((a0.take 24).drop 8) (2 ^ h + q) 33410 [cs] = lf
      have hlfl : lf.length = 32 := by rw [← hlf]; exact ahy _ _ _ _
      have hlfi : In 256 lf := by rw [← hlf]; exact aoj _ _ _ _
      generalize htp : baf ((a0.take 24).drop 8) (2 ^ h + q) (a2.drop (4 + (36 + 32 * p) + 4)) lf h = tp
      have htpl : tp.length = 32 := by rw [← htp]; exact aw6 _ _ _ _ hlfl _
      have htpi : In 256 tp := by rw [← htp]; exact bbt _ _ _ _ hlfi _
      have hroot : ∀ {ρ : Type} (k : List Int → Option ρ), P.aex (h : Int) (w : Int) ((a0.take 24).drop 8) a1 a2 k = k tp := by
       intro ρ k
       rw [P.as6]; unfold P.ai3
       rw [ah (by omega), e4, za a2 h2 0 4 (by omega), hq, je hk, oq (x := (4 : Int) + ((36 + 32 * p : Nat) : Int)) (by omega) (by omega), oq (x := (4 : Int) + ((36 + 32 * p : Nat) : Int) + 4) (by omega) (by omega), ah (by omega), ah (by omega), bcv q hq32, show ((4 : Int) + ((36 + 32 * p : Nat) : Int)).toNat = 4 + (36 + 32 * p) by omega,
        bab hk _ q a1 _ hid hq32 hidl h1 n1 hsg hsgl hcode, hcs, bf (by omega), w1, acg q (by omega), show ((2 ^ h : Nat) : Int) + (q : Int) = ((2 ^ h + q : Nat) : Int) by omega, acg (2 ^ h + q) (by omega), show (33410 : Int) = ((33410 : Nat) : Int) from rfl,
        y7 _ _ 33410 [cs] hid (by omega) (by omega) (by omega) (by simpa using hcsi) (by simp) (by simp; omega), hlf, ah (by omega), ah (by omega), ah (by omega), bf (by omega), show ((4 : Int) + ((36 + 32 * p : Nat) : Int) + 4).toNat = 4 + (36 + 32 * p) + 4 by omega, toNat_cast, List.take_length,
        bh6 _ _ _ _ (2 ^ h + q) h hid (by omega) hlfi hlfl hpt hptl (by omega) (by omega) hup2 (by omega), htp]
      by_cases htop : tp = (a0.take a0.length).drop 24
      ·refine ⟨0, fun k => ?_, fun k => ?_⟩
       ·rw [(pre k).1]; unfold P.nu
        rw [bg (by omega), ah (by omega), e4, za a0 h0 0 4 (by omega), lg _ (by omega), ak (by omega), ah (by omega), e8, za a0 h0 4 8 (by omega), ow _ (by omega), ak (by omega), zq a2 h2 (by omega), hc, bg rfl, hd0, bf (by simp), ax1 hk g2, ah (by omega),
         uh _ _ ((agn _ _).app (agn _ _)) ((h0.take _).drop _) (by omega), decide_eq_true hhd, jr, qx, ah (by omega), za a2 h2 0 4 (by omega), hq, bf (by omega), bnv, hmin, bf (by omega), ah (by omega), e24, hroot, ah (by omega), ah (by omega), toNat_cast,
         uh _ _ htpi ((h0.take _).drop _) (by omega), decide_eq_true htop, jr, qx]
       ·rw [(pre k).2]; unfold P.nk
        rw [bg (by omega), ah (by omega), e4, og a0 h0 0 4 (by omega), ku _ (by omega), ak (by omega), ah (by omega), e8, og a0 h0 4 8 (by omega), ou _ (by omega), ak (by omega), zm a2 h2 (by omega), hc, bg rfl, hd0, bf (by simp), amg hk g2, ah (by omega),
         yw _ _ (by omega), decide_eq_true hhd, jr, qx, ah (by omega), og a2 h2 0 4 (by omega), hq, bf (by omega), w1, bf (by omega), ah (by omega), qp hk, oq (x := (4 : Int) + ((36 + 32 * p : Nat) : Int)) (by omega) (by omega), ah (by omega), ah (by omega), e24, bcv q hq32, show ((4 : Int) + ((36 + 32 * p : Nat) : Int)).toNat = 4 + (36 + 32 * p) by omega,
         aiu hk _ q a1 _ hid hq32 hidl h1 n1 hsg hsgl hcode, hcs, bf (by omega), show ((2 ^ h : Nat) : Int) + (q : Int) = ((2 ^ h + q : Nat) : Int) by omega, acg (2 ^ h + q) (by omega), uw _ _ cs hid (by omega) (by omega) hcsi (by omega), hlf, oq (x := (8 : Int) + ((36 + 32 * p : Nat) : Int)) (by omega) (by omega), ah (by omega), ah (by omega), ah (by omega),
         show ((8 : Int) + ((36 + 32 * p : Nat) : Int)).toNat = 4 + (36 + 32 * p) + 4 by omega, toNat_cast, List.take_length, bdx _ _ _ _ (2 ^ h + q) h hid (by omega) hlfi hlfl hpt hptl (by omega) (by omega) hup2 (by omega), htp, ah (by omega), ah (by omega), toNat_cast, yw _ _ (by omega), decide_eq_true htop, jr, qx]
      ·refine ⟨11, fun k => ?_, fun k => ?_⟩
       ·rw [(pre k).1]; unfold P.nu
        rw [bg (by omega), ah (by omega), e4, za a0 h0 0 4 (by omega), lg _ (by omega), ak (by omega), ah (by omega), e8, za a0 h0 4 8 (by omega), ow _ (by omega), ak (by omega), zq a2 h2 (by omega), hc, bg rfl, hd0, bf (by simp), ax1 hk g2, ah (by omega),
         uh _ _ ((agn _ _).app (agn _ _)) ((h0.take _).drop _) (by omega), decide_eq_true hhd, jr, qx, ah (by omega), za a2 h2 0 4 (by omega), hq, bf (by omega), bnv, hmin, bf (by omega), ah (by omega), e24, hroot, ah (by omega), ah (by omega), toNat_cast,
         uh _ _ htpi ((h0.take _).drop _) (by omega), decide_eq_false htop, jr, vk]
       ·rw [(pre k).2]; unfold P.nk
        rw [bg (by omega), ah (by omega), e4, og a0 h0 0 4 (by omega), ku _ (by omega), ak (by omega), ah (by omega), e8, og a0 h0 4 8 (by omega), ou _ (by omega), ak (by omega), zm a2 h2 (by omega), hc, bg rfl, hd0, bf (by simp), amg hk g2, ah (by omega),
         yw _ _ (by omega), decide_eq_true hhd, jr, qx, ah (by omega), og a2 h2 0 4 (by omega), hq, bf (by omega), w1, bf (by omega), ah (by omega), qp hk, oq (x := (4 : Int) + ((36 + 32 * p : Nat) : Int)) (by omega) (by omega), ah (by omega), ah (by omega), e24, bcv q hq32, show ((4 : Int) + ((36 + 32 * p : Nat) : Int)).toNat = 4 + (36 + 32 * p) by omega,
         aiu hk _ q a1 _ hid hq32 hidl h1 n1 hsg hsgl hcode, hcs, bf (by omega), show ((2 ^ h : Nat) : Int) + (q : Int) = ((2 ^ h + q : Nat) : Int) by omega, acg (2 ^ h + q) (by omega), uw _ _ cs hid (by omega) (by omega) hcsi (by omega), hlf, oq (x := (8 : Int) + ((36 + 32 * p : Nat) : Int)) (by omega) (by omega), ah (by omega), ah (by omega), ah (by omega),
         show ((8 : Int) + ((36 + 32 * p : Nat) : Int)).toNat = 4 + (36 + 32 * p) + 4 by omega, toNat_cast, List.take_length, bdx _ _ _ _ (2 ^ h + q) h hid (by omega) hlfi hlfl hpt hptl (by omega) (by omega) hup2 (by omega), htp, ah (by omega), ah (by omega), toNat_cast, yw _ _ (by omega), decide_eq_false htop, jr, vk]
     ·have w1 : IntKind.u64.wrap ((1 : Int) * (2 : Int) ^ min ((h : Nat) : Int).toNat 64) = ((2 ^ h : Nat) : Int) := by
        rw [toNat_cast, hmin, Int.one_mul, show ((2 : Int) ^ h) = ((2 ^ h : Nat) : Int) by simp, acg _ (by omega)]
      refine ⟨13, fun k => ?_, fun k => ?_⟩
      ·rw [(pre k).1]; unfold P.nu
       rw [bg (by omega), ah (by omega), e4, za a0 h0 0 4 (by omega), lg _ (by omega), ak (by omega), ah (by omega), e8, za a0 h0 4 8 (by omega), ow _ (by omega), ak (by omega), zq a2 h2 (by omega), hc, bg rfl, hd0, bf (by simp), ax1 hk g2, ah (by omega),
        uh _ _ ((agn _ _).app (agn _ _)) ((h0.take _).drop _) (by omega), decide_eq_true hhd, jr, qx, ah (by omega), za a2 h2 0 4 (by omega), hq, bf (by omega), bnv, hmin, ah (by omega)]
      ·rw [(pre k).2]; unfold P.nk
       rw [bg (by omega), ah (by omega), e4, og a0 h0 0 4 (by omega), ku _ (by omega), ak (by omega), ah (by omega), e8, og a0 h0 4 8 (by omega), ou _ (by omega), ak (by omega), zm a2 h2 (by omega), hc, bg rfl, hd0, bf (by simp), amg hk g2, ah (by omega),
        yw _ _ (by omega), decide_eq_true hhd, jr, qx, ah (by omega), og a2 h2 0 4 (by omega), hq, bf (by omega), w1, ah (by omega)]
    ·refine ⟨1, fun k => ?_, fun k => ?_⟩
     ·rw [(pre k).1]; unfold P.nu
      rw [bg (by omega), ah (by omega), e4, za a0 h0 0 4 (by omega), lg _ (by omega), ak (by omega), ah (by omega), e8, za a0 h0 4 8 (by omega), ow _ (by omega), ak (by omega), zq a2 h2 (by omega), hc, bg rfl, hd0, bf (by simp), ax1 hk g2, ah (by omega),
       uh _ _ ((agn _ _).app (agn _ _)) ((h0.take _).drop _) (by omega), decide_eq_false hhd, jr, vk]
     ·rw [(pre k).2]; unfold P.nk
      rw [bg (by omega), ah (by omega), e4, og a0 h0 0 4 (by omega), ku _ (by omega), ak (by omega), ah (by omega), e8, og a0 h0 4 8 (by omega), ou _ (by omega), ak (by omega), zm a2 h2 (by omega), hc, bg rfl, hd0, bf (by simp), amg hk g2, ah (by omega),
       yw _ _ (by omega), decide_eq_false hhd, jr, vk]
   ·have hd1 : ((a2.drop (4 + (36 + 32 * p) + 4 + 32 * h)).length : Int) > 0 := by rw [List.length_drop]; omega
    refine ⟨1, fun k => ?_, fun k => ?_⟩
    ·rw [(pre k).1]; unfold P.nu
     rw [bg (by omega), ah (by omega), e4, za a0 h0 0 4 (by omega), lg _ (by omega), ak (by omega), ah (by omega), e8, za a0 h0 4 8 (by omega), ow _ (by omega), ak (by omega), zq a2 h2 (by omega), hc, bg rfl, ah hd1]
    ·rw [(pre k).2]; unfold P.nk
     rw [bg (by omega), ah (by omega), e4, og a0 h0 0 4 (by omega), ku _ (by omega), ak (by omega), ah (by omega), e8, og a0 h0 4 8 (by omega), ou _ (by omega), ak (by omega), zm a2 h2 (by omega), hc, bg rfl, ah hd1]
 ·refine ⟨10, fun k => ?_, fun k => ?_⟩
  ·rw [(pre k).1]; unfold P.nu
   rw [d9 (by omega)]
  ·rw [(pre k).2]; unfold P.nk
   rw [d9 (by omega)]
end Q
end

section
/- hss: which keys can be, how many leaves, and the leaves of a number. -/
namespace Q
open Go Go.Abs
set_option linter.unusedVariables false
set_option linter.unusedSimpArgs false
theorem bgp (h : Int) {ρ : Type} (k : Int → Option ρ) : P.y5 h k = k ((abr h.toNat : Nat) : Int) := by
 by_cases hh : 0 ≤ h ∧ h ≤ 1000
 ·obtain ⟨n, rfl⟩ : ∃ n : Nat, h = (n : Int) := ⟨h.toNat, by omega⟩
  rw [y5 n (by omega), toNat_cast]
 ·rw [P.ala]; unfold P.af6
  have h0 : abr h.toNat = 0 := by unfold abr; rw [if_neg (by omega), if_neg (by omega)]
  simp (disch := omega) only [ak]
  rw [h0]; rfl
theorem bir (h : Int) {ρ : Type} (k : Int → Option ρ) : P.uo h k = k ((abr h.toNat : Nat) : Int) := by
 by_cases hh : 0 ≤ h ∧ h ≤ 100
 ·obtain ⟨n, rfl⟩ : ∃ n : Nat, h = (n : Int) := ⟨h.toNat, by omega⟩
  rw [uo n (by omega), toNat_cast]
 ·rw [P.al4]; unfold P.agp
  have h0 : abr h.toNat = 0 := by unfold abr; rw [if_neg (by omega), if_neg (by omega)]
  rw [h0]
  by_cases h1 : h < 0
  ·simp (disch := omega) only [ah, bf]; rfl
  ·simp (disch := omega) only [ah, bf]; rfl
theorem bbs {w : Int} (h : w ≠ 1 ∧ w ≠ 2 ∧ w ≠ 4 ∧ w ≠ 8) {ρ : Type} (k : Int → Option ρ) : P.pq w k = k 0 := by
 obtain ⟨h1, h2, h3, h4⟩ := h
 rw [P.afg]; unfold P.ab3
 simp (disch := omega) only [ak]
def bj1 (h w : Int) : Prop := abr h.toNat ≠ 0 ∧ (w = 1 ∨ w = 2 ∨ w = 4 ∨ w = 8)
theorem axe {h w : Int} (f : bj1 h w) : 1 ≤ h ∧ h ≤ 25 := by
 have h0 := f.1
 unfold abr at h0
 split at h0
 ·omega
 ·split at h0
  ·omega
  ·exact absurd rfl h0
theorem axf (h w : Int) {ρ : Type} (k : Bool → Option ρ) : (bj1 h w → P.adl h w k = k true) ∧ (¬ bj1 h w → P.adl h w k = k false) := by
 rw [P.aol]; unfold P.ah0
 rw [bgp]
 constructor
 ·intro f
  rw [d9 (by have := f.1; omega)]
  rcases ayj w with ⟨n, p, s, rfl, h2⟩ | hn
  ·rw [aln h2, show (((aem n : Nat) : Int) != 0) = true by rw [bne_iff_ne]; have : aem n ≠ 0 := by { unfold aem; split <;> (try split) <;> (try split) <;> omega }; omega]
  ·have := f.2; omega
 ·intro f
  by_cases h0 : abr h.toNat = 0
  ·rw [bg (by omega)]
  ·rw [d9 (by omega)]
   rcases ayj w with ⟨n, p, s, rfl, h2⟩ | hn
   ·exact absurd ⟨h0, by rcases h2 with ⟨rfl, _⟩ | ⟨rfl, _⟩ | ⟨rfl, _⟩ | ⟨rfl, _⟩ <;> simp⟩ f
   ·rw [bbs hn]; rfl
theorem ayg (h w : Int) {ρ : Type} (k : Bool → Option ρ) : (bj1 h w → P.asg h w k = k true) ∧ (¬ bj1 h w → P.asg h w k = k false) := by
 rw [P.be2]; unfold P.al0
 rw [bir]
 constructor
 ·intro f
  rw [d9 (by have := f.1; omega)]
  rcases ayj w with ⟨n, p, s, rfl, h2⟩ | hn
  ·rw [qp h2, show (((36 + 32 * p : Nat) : Int) != 0) = true by rw [bne_iff_ne]; omega]
  ·have := f.2; omega
 ·intro f
  by_cases h0 : abr h.toNat = 0
  ·rw [bg (by omega)]
  ·rw [d9 (by omega)]
   rcases ayj w with ⟨n, p, s, rfl, h2⟩ | hn
   ·exact absurd ⟨h0, by rcases h2 with ⟨rfl, _⟩ | ⟨rfl, _⟩ | ⟨rfl, _⟩ | ⟨rfl, _⟩ <;> simp⟩ f
   ·rw [bcx hn]; rfl
def hts (H : List Int) : List Nat := H.map Int.toNat
theorem bf8 (H : List Int) (j : Nat) : (hts H).getD j 0 = (H.getD j 0).toNat := by
 unfold hts
 rw [List.getD_eq_getElem?_getD, List.getD_eq_getElem?_getD, List.getElem?_map]
 cases H[j]? <;> rfl
theorem ah6 (H : List Int) (i : Nat) (hi : i < H.length) : sm (hts (H.take (i + 1))) = sm (hts (H.take i)) + (H.getD i 0).toNat := by
 have : H.take (i + 1) = H.take i ++ [H.getD i 0] := (ahl H 0 i hi).symm
 rw [this]
 unfold hts
 rw [List.map_append, bhu]
 simp [sm]
def OkT (H W : List Int) (j : Nat) : Prop := bj1 (H.getD j 0) (W.getD j 0) ∧ H.getD j 0 ≤ 10
structure FitK (n : Nat) (H W id seed : List Int) : Prop where
 n1 : 1 ≤ n
 n8 : n ≤ 8
 t : ∀ j, j < n → OkT H W j
 s : sm (hts H) ≤ 60
 i : id.length = 16
 d : seed.length = 32
theorem bhj {n : Nat} (H W : List Int) (hH : H.length = n) : ∀ i, i ≤ n → (∀ j, j < i → OkT H W j) → sm (hts (H.take i)) ≤ 10 * i
 | 0, _, _ => by simp [hts, sm]
 | i + 1, hi, h => by
  have h1 := bhj H W hH i (by omega) (fun j hj => h j (by omega))
  have h2 := h i (by omega)
  rw [ah6 H i (by omega)]
  have := h2.2
  omega
theorem bdk (n : Nat) (H W id seed : List Int) (hH : H.length = n) (i : Nat) (hi : i < n) (h8 : i < 8) (hall : ∀ j, j ≤ i → OkT H W j) {ρ : Type} (nx k0 : Int → Int → Nat → (List Int) → (List Int) → (List Int) → (List Int) → Option ρ) (k1 : Bool → Int → Int → Int → Int → Nat → (List Int) → (List Int) → (List Int) → (List Int) → Option ρ) :
    P.ae9 ((sm (hts (H.take i)) : Nat) : Int) (i : Int) n H W id seed nx k0 k1 = nx ((sm (hts (H.take (i + 1))) : Nat) : Int) ((i + 1 : Nat) : Int) n H W id seed := by
 have h1 := bhj H W hH i (by omega) (fun j hj => hall j (by omega))
 have h2 := hall i (by omega)
 have h3 := axe h2.1
 have h4 := h2.2
 unfold P.ae9
 rw [ah (by omega), ah (by omega), ah (by omega), bf (by omega), toNat_cast, (ayg _ _ _).1 h2.1, jr, qx, bf (by omega), oq (by omega) (by omega), oq (by omega) (by omega), ah6 H i (by omega)]
 congr 1
 omega
theorem bn3 (n : Nat) (H W id seed : List Int) (s : Int) (i : Nat) (hi : i < n) (hb : 8 ≤ i ∨ ¬ OkT H W i) {ρ : Type} (nx k0 : Int → Int → Nat → (List Int) → (List Int) → (List Int) → (List Int) → Option ρ) (k1 : Bool → Int → Int → Int → Int → Nat → (List Int) → (List Int) → (List Int) → (List Int) → Option ρ) :
    P.ae9 s (i : Int) n H W id seed nx k0 k1 = k1 false (H.getD i 0) (W.getD i 0) 0 0 n H W id seed := by
 unfold P.ae9
 rw [ah (by omega), ah (by omega), ah (by omega), toNat_cast]
 by_cases h8 : 8 ≤ i
 ·rw [ah (by omega)]
 ·rw [bf (by omega)]
  have hb : ¬ OkT H W i := hb.resolve_left h8
  by_cases hf : bj1 (H.getD i 0) (W.getD i 0)
  ·rw [(ayg _ _ _).1 hf, jr, qx, ah]
   have : ¬ H.getD i 0 ≤ 10 := fun h => hb ⟨hf, h⟩
   omega
  ·rw [(ayg _ _ _).2 hf, jr, vk]
theorem bc7 (n : Nat) (H W id seed : List Int) (hH : H.length = n) (i : Nat) (hi : i < n) (h8 : n ≤ 8) (hall : ∀ j, j ≤ i → OkT H W j) {ρ : Type} (nx k0 : Int → Nat → (List Int) → (List Int) → Int → Int → Nat → (List Int) → (List Int) → (List Int) → (List Int) → Option ρ) (k1 : Bool → Int → Int → Int → Int → Nat → (List Int) → (List Int) → (List Int) → (List Int) → Option ρ) :
    P.ae7 ((sm (hts (H.take i)) : Nat) : Int) n H W (n : Int) (i : Int) n H W id seed nx k0 k1 = nx ((sm (hts (H.take (i + 1))) : Nat) : Int) n H W (n : Int) ((i + 1 : Nat) : Int) n H W id seed := by
 have h1 := bhj H W hH i (by omega) (fun j hj => hall j (by omega))
 have h2 := hall i (by omega)
 have h3 := axe h2.1
 have h4 := h2.2
 unfold P.ae7
 rw [ah (by omega), ah (by omega), ah (by omega), toNat_cast, (axf _ _ _).1 h2.1, jr, qx, bf (by omega), oq (by omega) (by omega), oq (by omega) (by omega), ah6 H i (by omega)]
 congr 1
 omega
theorem bmw (n : Nat) (H W id seed : List Int) (s : Int) (i : Nat) (hi : i < n) (hb : ¬ OkT H W i) {ρ : Type} (nx k0 : Int → Nat → (List Int) → (List Int) → Int → Int → Nat → (List Int) → (List Int) → (List Int) → (List Int) → Option ρ) (k1 : Bool → Int → Int → Int → Int → Nat → (List Int) → (List Int) → (List Int) → (List Int) → Option ρ) :
    P.ae7 s n H W (n : Int) (i : Int) n H W id seed nx k0 k1 = k1 false (H.getD i 0) (W.getD i 0) 0 0 n H W id seed := by
 unfold P.ae7
 rw [ah (by omega), ah (by omega), ah (by omega), toNat_cast]
 by_cases hf : bj1 (H.getD i 0) (W.getD i 0)
 ·rw [(axf _ _ _).1 hf, jr, qx, ah]
  have : ¬ H.getD i 0 ≤ 10 := fun h => hb ⟨hf, h⟩
  omega
 ·rw [(axf _ _ _).2 hf, jr, vk]
theorem alg (n : Nat) (H W id seed : List Int) (m : Nat) (hm : m < n) (hb : 8 ≤ m ∨ ¬ OkT H W m) (hall : ∀ j, j < m → OkT H W j) (h8 : m ≤ 8) (hH : H.length = n) {ρ : Type} (k : Bool → Option ρ) : P.axl n H W id seed k = k false := by
 rw [P.avd]; unfold P.ahq
 rw [P.amt]; unfold P.apo P.bpx P.bpu P.by1
 refine ug (fun i => (((sm (hts (H.take i)) : Nat) : Int), (i : Int), n, H, W, id, seed)) m rfl (fun i hi next hnx => ?_) (fun next => ?_) (by omega)
 ·refine Eq.trans (bdk n H W id seed hH i (by omega) (by omega) (fun j hj => hall j (by omega)) _ _ _) hnx
 ·exact bn3 n H W id seed _ m hm hb _ _ _
theorem ax4 {n : Nat} (H : List Int) (hH : H.length = n) : H.take n = H := by rw [← hH, List.take_length]
theorem awk (n : Nat) (H W id seed : List Int) (hH : H.length = n) : ∃ b : Bool, (b = true ↔ FitK n H W id seed) ∧ (∀ {ρ : Type} (k : Bool → Option ρ), P.aeo n H W id seed k = k b) ∧ ∀ {ρ : Type} (k : Bool → Option ρ), P.axl n H W id seed k = k b := by
 by_cases h8 : n > 8
 ·refine ⟨false, ⟨fun h => (by cases h), fun h => absurd h.n8 (by omega)⟩, fun k => ?_, fun k => ?_⟩
  ·rw [P.akc]; unfold P.afs
   rw [ah (by omega)]
  ·rcases amx (OkT H W) 8 with h | ⟨m, m1, m2, m3⟩
   ·exact alg n H W id seed 8 (by omega) (.inl (by omega)) h (by omega) hH k
   ·exact alg n H W id seed m (by omega) (.inr m2) m3 (by omega) hH k
 ·rcases amx (OkT H W) n with h | ⟨m, m1, m2, m3⟩
  ·have hs := bhj H W hH n (by omega) h
   rw [ax4 H hH] at hs
   refine ⟨decide (n ≥ 1) && (decide (sm (hts H) ≤ 60) && (decide (id.length = 16) && decide (seed.length = 32))), ?_, fun k => ?_, fun k => ?_⟩
   ·simp only [Bool.and_eq_true, decide_eq_true_eq]
    exact ⟨fun ⟨a, b, c, d⟩ => ⟨a, by omega, h, b, c, d⟩, fun f => ⟨f.n1, f.s, f.i, f.d⟩⟩
   ·rw [P.akc]; unfold P.afs
    rw [bf (by omega), P.ams]; unfold P.apc P.zk2 P.zs2 P.zu2
    refine ug (fun i => (((sm (hts (H.take i)) : Nat) : Int), n, H, W, (n : Int), (i : Int), n, H, W, id, seed)) n rfl (fun i hi next hnx => ?_) (fun next => ?_) (by omega)
    ·refine Eq.trans (bc7 n H W id seed hH i hi (by omega) (fun j hj => h j (by omega)) _ _ _) hnx
    ·simp only [P.ae7]
     rw [bf (by omega)]
     simp only [Sum.elim_inl]
     rw [ax4 H hH]
     by_cases a1 : n ≥ 1
     ·rw [ah (by omega)]
      by_cases a2 : sm (hts H) ≤ 60
      ·rw [ah (by omega)]
       by_cases a3 : id.length = 16
       ·rw [bq (by omega), decide_eq_true a1, decide_eq_true a2, decide_eq_true a3, Bool.true_and, Bool.true_and, Bool.true_and]
        by_cases a4 : seed.length = 32
        ·rw [a4]; rfl
        ·rw [decide_eq_false a4, show (((seed.length : Nat) : Int) == 32) = false by rw [beq_eq_false_iff_ne]; omega]
       ·rw [ak (by omega), decide_eq_true a1, decide_eq_true a2, decide_eq_false a3]; rfl
      ·rw [bf (by omega), decide_eq_true a1, decide_eq_false a2]; rfl
     ·rw [bf (by omega), decide_eq_false a1]; rfl
   ·rw [P.avd]; unfold P.ahq
    rw [P.amt]; unfold P.apo P.bpx P.bpu P.by1
    refine ug (fun i => (((sm (hts (H.take i)) : Nat) : Int), (i : Int), n, H, W, id, seed)) n rfl (fun i hi next hnx => ?_) (fun next => ?_) (by omega)
    ·refine Eq.trans (bdk n H W id seed hH i hi (by omega) (fun j hj => h j (by omega)) _ _ _) hnx
    ·simp only [P.ae9]
     rw [bf (by omega)]
     simp only [Sum.elim_inl]
     rw [ax4 H hH]
     by_cases a1 : n ≥ 1
     ·rw [ah (by omega)]
      by_cases a2 : sm (hts H) ≤ 60
      ·rw [ah (by omega)]
       by_cases a3 : id.length = 16
       ·rw [bq (by omega), decide_eq_true a1, decide_eq_true a2, decide_eq_true a3, Bool.true_and, Bool.true_and, Bool.true_and]
        by_cases a4 : seed.length = 32
        ·rw [a4]; rfl
        ·rw [decide_eq_false a4, show (((seed.length : Nat) : Int) == 32) = false by rw [beq_eq_false_iff_ne]; omega]
       ·rw [ak (by omega), decide_eq_true a1, decide_eq_true a2, decide_eq_false a3]; rfl
      ·rw [bf (by omega), decide_eq_true a1, decide_eq_false a2]; rfl
     ·rw [bf (by omega), decide_eq_false a1]; rfl
  ·refine ⟨false, ⟨fun h => (by cases h), fun h => absurd (h.t m m1) m2⟩, fun k => ?_, fun k => alg n H W id seed m m1 (.inr m2) m3 (by omega) hH k⟩
   rw [P.akc]; unfold P.afs
   rw [bf (by omega), P.ams]; unfold P.apc P.zk2 P.zs2 P.zu2
   refine ug (fun i => (((sm (hts (H.take i)) : Nat) : Int), n, H, W, (n : Int), (i : Int), n, H, W, id, seed)) m rfl (fun i hi next hnx => ?_) (fun next => ?_) (by omega)
   ·refine Eq.trans (bc7 n H W id seed hH i (by omega) (by omega) (fun j hj => m3 j (by omega)) _ _ _) hnx
   ·exact bmw n H W id seed _ m m1 m2 _ _ _
theorem alv {n : Nat} {H W id seed : List Int} (hH : H.length = n) (f : FitK n H W id seed) {ρ : Type} (k : Int → Option ρ) : P.abt n H W id seed k = k ((sm (hts H) : Nat) : Int) := by
 rw [P.ata]; unfold P.ajs
 rw [P.auk]; unfold P.atf P.zk3 P.zs3 P.zu3
 have n8 := f.n8
 refine ug (fun i => (((sm (hts (H.take i)) : Nat) : Int), n, H, W, (n : Int), (i : Int))) n rfl (fun i hi next hnx => ?_) (fun next => ?_) (by omega)
 ·simp only [P.alm]
  have h1 := bhj H W hH i (by omega) (fun j hj => f.t j (by omega))
  have h2 := f.t i hi
  have h3 := axe h2.1
  have h4 := h2.2
  rw [ah (by omega), ah (by omega), ah (by omega), toNat_cast, oq (by omega) (by omega), oq (by omega) (by omega)]
  refine Eq.trans ?_ hnx
  rw [ah6 H i (by omega)]
  congr 2
  omega
 ·simp only [P.alm]
  rw [bf (by omega), ax4 H hH]
theorem bmy {s : Nat} (h : s ≤ 60) : IntKind.u64.wrap ((1 : Int) * (2 : Int) ^ min ((s : Nat) : Int).toNat 64) = ((2 ^ s : Nat) : Int) := by
 have h2 : 2 ^ s ≤ 2 ^ 60 := Nat.pow_le_pow_right (by omega) h
 rw [toNat_cast, Nat.min_eq_left (by omega), Int.one_mul, show ((2 : Int) ^ s) = ((2 ^ s : Nat) : Int) by simp, acg _ (by omega)]
theorem ax3 {n : Nat} {H W id seed : List Int} (hH : H.length = n) (f : FitK n H W id seed) {ρ : Type} (k : Int → Option ρ) : P.abo n H W id seed k = k ((2 ^ sm (hts H) : Nat) : Int) := by
 obtain ⟨b, hb, h1, _⟩ := awk n H W id seed hH
 have : b = true := hb.2 f
 subst this
 rw [P.amz]; unfold P.ag3
 rw [h1, jr, qx, alv hH f, bf (by omega), bmy f.s]
end Q
end

section
/- bits: Pack. -/
namespace Q
open Go Go.Abs
set_option linter.unusedVariables false
set_option linter.unusedSimpArgs false
theorem bfu (x w : Nat) (hx : x < 4294967296) (h : w ≤ 24) : bits .and .u32 (x : Int) (IntKind.u32.wrap (IntKind.u32.wrap ((1 : Int) * (2 : Int) ^ min w 32) - (1 : Int))) = ((x % 2 ^ w : Nat) : Int) := by
 have h1 := p2 w
 have h2 : 2 ^ w ≤ 2 ^ 24 := bci h
 rw [show (1 : Int) = ((1 : Nat) : Int) from rfl, mul_pow 1 w 32 (by omega), bcv _ (by omega), show ((1 * 2 ^ w : Nat) : Int) - ((1 : Nat) : Int) = ((2 ^ w - 1 : Nat) : Int) by omega, bcv _ (by omega), bns _ _ hx (by omega), Nat.and_two_pow_sub_one_eq_mod]
end Q
end

section
/- hss: the leaves of a number. -/
namespace Q
open Go Go.Abs
set_option linter.unusedVariables false
set_option linter.unusedSimpArgs false
def bkl (H : List Int) (N : Nat) : List Int := (vec (hts H) N).map (fun (x : Nat) => (x : Int))
theorem bdi (H : List Int) (N : Nat) : (bkl H N).length = H.length := by simp [bkl, vec_len, hts]
theorem bcf (H : List Int) : (hts H).length = H.length := by simp [hts]
theorem ard (H : List Int) (i : Nat) : (hts H).drop i = hts (H.drop i) := by unfold hts; rw [List.map_drop]
theorem bkn (H : List Int) (N i : Nat) (hi : i < H.length) : (bkl H N).getD i 0 = ((N / 2 ^ sm (hts (H.drop (i + 1))) % 2 ^ (H.getD i 0).toNat : Nat) : Int) := by
 have h := bi6 (hts H) N i (by rw [bcf]; exact hi)
 rw [ard, bf8] at h
 unfold bkl
 rw [List.getD_eq_getElem?_getD, List.getElem?_map]
 rw [List.getD_eq_getElem?_getD] at h
 cases hq : (vec (hts H) N)[i]? with
 | none =>
  rw [List.getElem?_eq_none_iff, vec_len, bcf] at hq
  omega
 | some x =>
  rw [hq] at h
  simp only [Option.getD_some] at h
  simp only [Option.map_some, Option.getD_some]
  rw [h]
theorem bai {n : Nat} {H W id seed : List Int} (hH : H.length = n) (f : FitK n H W id seed) (i : Nat) (hi : i < n) : sm (hts (H.drop i)) = (H.getD i 0).toNat + sm (hts (H.drop (i + 1))) ∧ 1 ≤ H.getD i 0 ∧ H.getD i 0 ≤ 10 ∧ sm (hts (H.drop i)) ≤ 60 := by
 have h2 := f.t i hi
 have h3 := axe h2.1
 have h4 := bid (hts H) i (by rw [bcf]; omega)
 rw [ard, ard, bf8] at h4
 have h5 := bnu (hts H) i
 rw [ard] at h5
 have := f.s
 exact ⟨h4, h3.1, h2.2, by omega⟩
theorem bd2 (N s : Nat) (hs : s ≤ 64) : (N : Int).fdiv ((2 : Int) ^ min ((s : Nat) : Int).toNat 64) = ((N / 2 ^ s : Nat) : Int) := by
 rw [toNat_cast, fdiv_pow N s 64 hs]
theorem axo {n : Nat} {H W id seed : List Int} (hH : H.length = n) (f : FitK n H W id seed) (N : Nat) (hN : N < 2 ^ sm (hts H)) {ρ : Type} (k : List Int → Int → Option ρ) : P.abq n H W id seed (N : Int) k = k (bkl H N) 0 := by
 obtain ⟨b, hb, h1, _⟩ := awk n H W id seed hH
 have : b = true := hb.2 f
 subst this
 have hs := f.s
 have h60 : 2 ^ sm (hts H) ≤ 2 ^ 60 := Nat.pow_le_pow_right (by omega) hs
 rw [P.aob]; unfold P.ag5
 rw [h1, jr, qx, alv hH f, bf (by omega), bd2 _ _ (by omega), Nat.div_eq_of_lt hN, bg (by omega), alv hH f, P.aqo]
 unfold P.ank P.zk4 P.zs4 P.zu4
 have n8 := f.n8
 refine ug (fun i => ((N : Int), ((sm (hts (H.drop i)) : Nat) : Int), n, H, W, (n : Int), (i : Int), (bkl H N).take i)) n rfl (fun i hi next hnx => ?_) (fun next => ?_) (by omega)
 ·simp only [P.ah3]
  obtain ⟨e1, e2, e3, e4⟩ := bai hH f i hi
  have hsub : ((sm (hts (H.drop i)) : Nat) : Int) - H.getD i 0 = ((sm (hts (H.drop (i + 1))) : Nat) : Int) := by omega
  have htl : ((bkl H N).take i).length ≤ 8 := by rw [List.length_take]; omega
  have hlt : N / 2 ^ sm (hts (H.drop (i + 1))) < 18446744073709551616 := Nat.lt_of_le_of_lt (Nat.div_le_self _ _) (by omega)
  have key : bits BinOp.and IntKind.u32 (IntKind.u32.wrap ((N / 2 ^ sm (hts (H.drop (i + 1))) : Nat) : Int)) (IntKind.u32.wrap (IntKind.u32.wrap ((1 : Int) * (2 : Int) ^ min (H.getD i 0).toNat 32) - (1 : Int))) = (bkl H N).getD i 0 := by
   rw [bkn H N i (by omega), bom, show (((N / 2 ^ sm (hts (H.drop (i + 1))) : Nat) : Int) % 4294967296) = ((N / 2 ^ sm (hts (H.drop (i + 1))) % 4294967296 : Nat) : Int) by omega, bfu _ (H.getD i 0).toNat (by omega) (by omega)]
   congr 1
   have : (4294967296 : Nat) = 2 ^ (H.getD i 0).toNat * 2 ^ (32 - (H.getD i 0).toNat) := by
    rw [← Nat.pow_add, show (H.getD i 0).toNat + (32 - (H.getD i 0).toNat) = 32 by omega]
   rw [this, Nat.mod_mul_right_mod]
  rw [ah (by omega), ah (by omega), ah (by omega), toNat_cast, hsub, oq (x := ((sm (hts (H.drop (i + 1))) : Nat) : Int)) (by omega) (by omega), bf (by omega), bf (by omega), ah (by omega), bd2 _ _ (by omega), key, oq (by omega) (by omega), ahl _ _ _ (by rw [bdi]; omega)]
  exact hnx
 ·simp only [P.ah3]
  rw [bf (by omega), List.take_of_length_le (by rw [bdi]; omega)]
theorem auw {ρ : Type} (k : Int → Option ρ) : P.qw [] [] [] k = k 10 := by
 rw [P.ail]; unfold P.pz
 rw [d9 (by simp)]
theorem ba6 : FitK 2 [(2 : Int), (3 : Int)] [(1 : Int), (1 : Int)] (List.replicate 16 (0 : Int)) (List.replicate 32 (0 : Int)) where
 n1 := by omega
 n8 := by omega
 t := fun j hj => by
  have : j = 0 ∨ j = 1 := by omega
  rcases this with rfl | rfl <;> (unfold OkT bj1; decide)
 s := by decide
 i := by simp
 d := by simp
theorem ql {ρ : Type} (k : Bool → Option ρ) : P.ql k = k true := by
 rw [P.aqb]; unfold P.aij
 have hv := axo (by rfl) ba6 9 (by decide) (ρ := ρ)
 have hl := ax3 (by rfl) ba6 (ρ := ρ)
 rw [show (9 : Int) = ((9 : Nat) : Int) from rfl, hv, hl, show bkl [2, 3] 9 = [1, 1] by decide, bq (by decide), bq rfl, bq (by decide), ah (by decide), bq (by decide), ah (by decide), bq (by decide), auw]
 rfl
theorem aep (l : List (List Int)) (hl : l.length ≤ 100) {ρ : Type} (k : Bool → Option ρ) : (P.aep l k = k true ∧ ∀ i, i < l.length → (l.getD i []).length ≤ 300) ∨ P.aep l k = k false := by
 rw [P.ava]
 unfold P.al5
 rw [P.ayh]
 unfold P.auy P.zk1 P.zs1 P.zu1
 rcases amx (fun i => (l.getD i []).length ≤ 300) l.length with h | ⟨m, m1, m2, m3⟩
 ·refine .inl ⟨ug (fun i => (l, (l.length : Int), (i : Int))) l.length rfl (fun i hi next hn' => ?_) (fun next => ?_) (by omega), h⟩
  ·have := h i hi
   simp only [P.ahb, toNat_cast]
   rw [ah (by omega), ah (by omega), ah (by omega), bf (by omega), oq (by omega) (by omega)]
   exact hn'
  ·simp only [P.ahb]
   rw [bf (by omega)]
   rfl
 ·refine .inr (ug (fun i => (l, (l.length : Int), (i : Int))) m rfl (fun i hi next hn' => ?_) (fun next => ?_) (by omega))
  ·have := m3 i hi
   simp only [P.ahb, toNat_cast]
   rw [ah (by omega), ah (by omega), ah (by omega), bf (by omega), oq (by omega) (by omega)]
   exact hn'
  ·simp only [P.ahb, toNat_cast]
   rw [ah (by omega), ah (by omega), ah (by omega), ah (by omega)]
   rfl
end Q
end

section
/- hss: what verifies. -/
namespace Q
open Go Go.Abs
set_option linter.unusedVariables false
set_option linter.unusedSimpArgs false
noncomputable def cutV (b : List Int) : List Int × Int × Int × List Int × Int := (biv b (fun a b c d e => some (a, b, c, d, e))).getD ([], 0, 0, [], 0)
theorem au0 (b : List Int) : (∃ e : Int, e ≠ 0 ∧ cutV b = ([], 0, 0, [], e) ∧ ∀ {ρ : Type} (k : List Int → Int → Int → List Int → Int → Option ρ), biv b k = k [] 0 0 [] e) ∨
    (∃ n : Nat, ∃ x y : Int, n ≤ 9400 ∧ n ≤ b.length ∧ cutV b = (b.take n, x, y, b.drop n, 0) ∧ ∀ {ρ : Type} (k : List Int → Int → Int → List Int → Int → Option ρ), biv b k = k (b.take n) x y (b.drop n) 0) := by
 rcases ba1 b with ⟨e, he, h⟩ | ⟨w, h, h1, h2, h3, h4, h5, h6, hk⟩
 ·exact .inl ⟨e, he, by unfold cutV; rw [h]; rfl, h⟩
 ·have hp : pOf w ≤ 265 := by rw [h1]; exact (aq9 (by rw [← h1]; exact h2)).2.2.2
  exact .inr ⟨_, _, _, by omega, h6, by unfold cutV; rw [hk]; rfl, hk⟩
theorem bgd (b : List Int) {ρ : Type} (k : List Int → Int → Int → List Int → Int → Option ρ) : biv b k = k (cutV b).1 (cutV b).2.1 (cutV b).2.2.1 (cutV b).2.2.2.1 (cutV b).2.2.2.2 := by
 rcases au0 b with ⟨e, _, h, hk⟩ | ⟨n, x, y, _, _, h, hk⟩ <;> rw [h, hk]
theorem bi2 (b : List Int) (hb : In 256 b) : In 256 (cutV b).1 ∧ In 256 (cutV b).2.2.2.1 ∧ (cutV b).1.length ≤ 9400 ∧ (cutV b).2.2.2.1.length ≤ b.length := by
 rcases au0 b with ⟨e, _, h, hk⟩ | ⟨n, x, y, h1, h2, h, hk⟩ <;> rw [h]
 ·exact ⟨In.nil, In.nil, by simp, by simp⟩
 ·exact ⟨hb.take _, hb.drop _, by rw [List.length_take]; omega, by rw [List.length_drop]; omega⟩
noncomputable def bfv (key text sig : List Int) : Int := (P.vo key text sig (fun v => some v)).getD 0
theorem axc (key text sig : List Int) (h0 : In 256 key) (h1 : In 256 text) (h2 : In 256 sig) (n0 : key.length ≤ 300) (n1 : text.length ≤ 300) (n2 : sig.length ≤ 9400) :
    (∀ {ρ : Type} (k : Int → Option ρ), P.vo key text sig k = k (bfv key text sig)) ∧ (∀ {ρ : Type} (k : Int → Option ρ), P.yt key text sig k = k (bfv key text sig)) := by
 obtain ⟨e, e1, e2⟩ := bby key text sig h0 h1 h2 n0 n1 (by omega)
 have : bfv key text sig = e := by unfold bfv; rw [e1]; rfl
 rw [this]
 exact ⟨e1, e2⟩
noncomputable def hv (text : List Int) : Nat → List Int → List Int → Int
 | 0, _, _ => 0
 | n + 1, key, rest =>
  if (cutV rest).2.2.2.2 ≠ 0 then (cutV rest).2.2.2.2 else
  if n = 0 then (if (cutV rest).2.2.2.1.length > 0 then 1 else bfv key text (cutV rest).1) else
  if (cutV rest).2.2.2.1.length < 56 then 1 else
  if bfv key ((cutV rest).2.2.2.1.take 56) (cutV rest).1 ≠ 0 then bfv key ((cutV rest).2.2.2.1.take 56) (cutV rest).1 else
  hv text n ((cutV rest).2.2.2.1.take 56) ((cutV rest).2.2.2.1.drop 56)
theorem biu (text : List Int) (n : Nat) (key rest : List Int) : hv text (n + 1) key rest =
    if (cutV rest).2.2.2.2 ≠ 0 then (cutV rest).2.2.2.2 else
    if n = 0 then (if (cutV rest).2.2.2.1.length > 0 then 1 else bfv key text (cutV rest).1) else
    if (cutV rest).2.2.2.1.length < 56 then 1 else
    if bfv key ((cutV rest).2.2.2.1.take 56) (cutV rest).1 ≠ 0 then bfv key ((cutV rest).2.2.2.1.take 56) (cutV rest).1 else
    hv text n ((cutV rest).2.2.2.1.take 56) ((cutV rest).2.2.2.1.drop 56) := by rw [hv]
theorem bjq (text : List Int) (ht : In 256 text) (htl : text.length ≤ 300) (n : Nat) (hn : n ≤ 8) (key rest : List Int) (hk : In 256 key) (hkl : key.length ≤ 300) (hr : In 256 rest) (hrl : rest.length ≤ 100000) {ρ : Type} (k : Int → Option ρ) :
    P.aib text (n : Int) key rest (fun _ _ _ _ => k 0) (fun q => k q) = k (hv text n key rest) := by
 rw [P.aqy]; unfold P.amv P.btg P.bq5 P.bzf
 refine bmi (P := fun x => ∃ (m : Nat) (key' rest' : List Int), x = (text, (m : Int), key', rest') ∧ m ≤ 8 ∧ In 256 key' ∧ key'.length ≤ 300 ∧ In 256 rest' ∧ rest'.length ≤ 100000 ∧ hv text m key' rest' = hv text n key rest) (μ := fun x => x.2.1.toNat) ?_ ⟨n, key, rest, rfl, hn, hk, hkl, hr, hrl, rfl⟩ (by simp only; omega)
 rintro _ ⟨m, key', rest', rfl, h1, h2, h3, h4, h5, h6⟩ next hnx
 simp only [P.an0]
 rw [← h6]
 cases m with
 | zero =>
  rw [bf (by omega)]
  rfl
 | succ m =>
  obtain ⟨c1, c2, c3, c4⟩ := bi2 rest' h4
  rw [ah (by omega), P.ar4]; unfold P.aji
  rw [zq rest' h4 (by omega), bgd]
  rw [biu] at h6 ⊢
  by_cases e0 : (cutV rest').2.2.2.2 = 0
  ·rw [e0] at h6 ⊢
   rw [bg rfl, if_neg (by decide)]
   rw [if_neg (by decide)] at h6
   by_cases hm : m = 0
   ·subst hm
    rw [if_pos rfl] at h6 ⊢
    rw [show (((0 + 1 : Nat) : Int) == 1) = true by decide, qx]
    by_cases hl : (cutV rest').2.2.2.1.length > 0
    ·rw [ah (by omega), if_pos hl]
     dsimp only
     rw [d9 (by decide)]
     rfl
    ·rw [if_neg hl] at h6 ⊢
     rw [bf (by omega), (axc _ _ _ h2 ht c1 h3 htl c3).1]
     dsimp only
     by_cases hv0 : bfv key' text (cutV rest').1 = 0
     ·rw [hv0] at h6 ⊢
      rw [bg rfl]
      have := hnx (text, ((0 : Nat) : Int), [], []) ⟨0, [], [], rfl, by omega, In.nil, by simp, In.nil, by simp, h6⟩ (by simp only; omega)
      rw [h6]
      exact this
     ·rw [d9 hv0]
      rfl
   ·rw [if_neg hm] at h6 ⊢
    rw [show (((m + 1 : Nat) : Int) == 1) = false by rw [beq_eq_false_iff_ne]; omega, vk]
    by_cases hl : (cutV rest').2.2.2.1.length < 56
    ·rw [ah (by omega), if_pos hl]
     dsimp only
     rw [d9 (by decide)]
     rfl
    ·rw [if_neg hl] at h6 ⊢
     have e56 : ((56 : Int) - (0 : Int)).toNat = 56 := rfl
     have e57 : (((cutV rest').2.2.2.1.length : Int) - (56 : Int)).toNat = (cutV rest').2.2.2.1.length - 56 := by omega
     have e58 : List.take ((cutV rest').2.2.2.1.length - 56) (List.drop 56 (cutV rest').2.2.2.1) = List.drop 56 (cutV rest').2.2.2.1 := List.take_of_length_le (by rw [List.length_drop]; omega)
     have htk : ((cutV rest').2.2.2.1.take 56).length ≤ 300 := by rw [List.length_take]; omega
     rw [bf (by omega), ah (by omega), ah (by omega), ah (by omega), e56, e57, e58, List.drop_zero, (axc _ _ _ h2 (c2.take _) c1 h3 htk c3).1]
     dsimp only
     by_cases hv0 : bfv key' ((cutV rest').2.2.2.1.take 56) (cutV rest').1 = 0
     ·rw [if_neg (by rw [hv0]; decide)] at h6 ⊢
      rw [bg hv0, show ((m + 1 : Nat) : Int) - 1 = (m : Int) by omega, acg _ (by omega), h6]
      exact hnx _ ⟨m, _, _, rfl, by omega, c2.take _, htk, c2.drop _, by rw [List.length_drop]; omega, h6⟩ (by simp only; omega)
     ·rw [d9 hv0, if_pos hv0]
      rfl
  ·rw [d9 e0, if_pos e0]
   dsimp only
   rw [d9 e0]
   rfl
theorem bkw (text : List Int) (ht : In 256 text) (htl : text.length ≤ 300) (n : Nat) (hn : n ≤ 8) (hn1 : 1 ≤ n) (key rest : List Int) (hk : In 256 key) (hkl : key.length ≤ 300) (hr : In 256 rest) (hrl : rest.length ≤ 100000) {ρ : Type} (k : Int → Option ρ) :
    P.ahr text (n : Int) key rest 1 (fun _ _ _ _ _ => k 1) (fun q _ _ _ _ => k q) = k (hv text n key rest) := by
 rw [P.aq2]; unfold P.anu P.bsh P.bqy P.b0e
 refine bmi (P := fun x => ∃ (m : Nat) (key' rest' : List Int), x = (text, (n : Int), key', rest', ((n - m : Nat) : Int)) ∧ m + 1 ≤ n ∧ In 256 key' ∧ key'.length ≤ 300 ∧ In 256 rest' ∧ rest'.length ≤ 100000 ∧ hv text (m + 1) key' rest' = hv text n key rest) (μ := fun x => ((n : Int) - x.2.2.2.2).toNat) ?_ ⟨n - 1, key, rest, by rw [show n - (n - 1) = 1 by omega]; rfl, by omega, hk, hkl, hr, hrl, by rw [show n - 1 + 1 = n by omega]⟩ (by simp only; omega)
 rintro _ ⟨m, key', rest', rfl, h1, h2, h3, h4, h5, h6⟩ next hnx
 simp only [P.aoe]
 rw [← h6]
 obtain ⟨c1, c2, c3, c4⟩ := bi2 rest' h4
 rw [ah (by omega), zm rest' h4 (by omega), bgd]
 rw [biu] at h6 ⊢
 by_cases e0 : (cutV rest').2.2.2.2 = 0
 ·rw [e0] at h6 ⊢
  rw [bg rfl, if_neg (by decide)]
  rw [if_neg (by decide)] at h6
  by_cases hm : m = 0
  ·subst hm
   rw [if_pos rfl] at h6 ⊢
   rw [bq (by omega)]
   by_cases hl : (cutV rest').2.2.2.1.length > 0
   ·rw [ah (by omega), if_pos hl]
    rfl
   ·rw [if_neg hl] at h6 ⊢
    rw [bf (by omega), (axc _ _ _ h2 ht c1 h3 htl c3).2]
    rfl
  ·rw [if_neg hm] at h6 ⊢
   rw [ak (by omega)]
   by_cases hl : (cutV rest').2.2.2.1.length < 56
   ·rw [ah (by omega), if_pos hl]
    rfl
   ·rw [if_neg hl] at h6 ⊢
    have e56 : (56 : Int).toNat = 56 := rfl
    have htk : ((cutV rest').2.2.2.1.take 56).length ≤ 300 := by rw [List.length_take]; omega
    rw [bf (by omega), ah (by omega), e56, List.drop_zero, (axc _ _ _ h2 (c2.take _) c1 h3 htk c3).2]
    by_cases hv0 : bfv key' ((cutV rest').2.2.2.1.take 56) (cutV rest').1 = 0
    ·rw [if_neg (by rw [hv0]; decide)] at h6 ⊢
     rw [bg hv0, ah (by omega), ah (by omega), ah (by omega), toNat_cast, List.take_length, show ((n - m : Nat) : Int) + 1 = ((n - (m - 1) : Nat) : Int) by omega, acg _ (by omega), h6]
     refine hnx _ ⟨m - 1, _, _, rfl, by omega, c2.take _, htk, c2.drop _, by rw [List.length_drop]; omega, ?_⟩ (by simp only; omega)
     rw [show m - 1 + 1 = m by omega, h6]
    ·rw [d9 hv0, if_pos hv0]
     rfl
 ·rw [d9 e0, if_pos e0]
  rfl
theorem bky (a0 a1 a2 : List Int) (h0 : In 256 a0) (h1 : In 256 a1) (h2 : In 256 a2) (n1 : a1.length ≤ 300) (n2 : a2.length ≤ 100000) :
    ∃ e : Int, (∀ {ρ : Type} (k : Int → Option ρ), P.qw a0 a1 a2 k = k e) ∧ (∀ {ρ : Type} (k : Int → Option ρ), P.yj a0 a1 a2 k = k e) := by
 have e4 : Int.toNat (4 : Int) = 4 := rfl
 have pre : ∀ {ρ : Type} (k : Int → Option ρ), P.qw a0 a1 a2 k = P.pz a0 a1 a2 k ∧ P.yj a0 a1 a2 k = P.su a0 a1 a2 k := fun k => ⟨by rw [P.ail], by rw [P.aml]⟩
 have l0 := ase a0 0 4 (by omega)
 have l2 := ase a2 0 4 (by omega)
 by_cases h60 : a0.length = 60
 ·by_cases g1 : nm a0 0 4 < 1
  ·refine ⟨10, fun k => ?_, fun k => ?_⟩
   ·rw [(pre k).1]; unfold P.pz
    rw [bg (by omega), ah (by omega), e4, za a0 h0 0 4 (by omega), ah (by omega)]
   ·rw [(pre k).2]; unfold P.su
    rw [bg (by omega), ah (by omega), e4, og a0 h0 0 4 (by omega), ah (by omega)]
  by_cases g8 : nm a0 0 4 > 8
  ·refine ⟨10, fun k => ?_, fun k => ?_⟩
   ·rw [(pre k).1]; unfold P.pz
    rw [bg (by omega), ah (by omega), e4, za a0 h0 0 4 (by omega), bf (by omega), ah (by omega)]
   ·rw [(pre k).2]; unfold P.su
    rw [bg (by omega), ah (by omega), e4, og a0 h0 0 4 (by omega), bf (by omega), ah (by omega), og a0 h0 0 4 (by omega), ah (by omega)]
  by_cases g4 : a2.length < 4
  ·refine ⟨1, fun k => ?_, fun k => ?_⟩
   ·rw [(pre k).1]; unfold P.pz
    rw [bg (by omega), ah (by omega), e4, za a0 h0 0 4 (by omega), bf (by omega), bf (by omega), ah (by omega)]
   ·rw [(pre k).2]; unfold P.su
    rw [bg (by omega), ah (by omega), e4, og a0 h0 0 4 (by omega), bf (by omega), ah (by omega), og a0 h0 0 4 (by omega), bf (by omega), ah (by omega), og a0 h0 0 4 (by omega), ah (by omega)]
  have w1 : IntKind.u64.wrap (((nm a0 0 4 : Nat) : Int) - 1) = ((nm a0 0 4 - 1 : Nat) : Int) := by
   rw [show ((nm a0 0 4 : Nat) : Int) - 1 = ((nm a0 0 4 - 1 : Nat) : Int) by omega, acg _ (by omega)]
  have w2 : IntKind.u64.wrap (((nm a2 0 4 : Nat) : Int) + 1) = ((nm a2 0 4 + 1 : Nat) : Int) := by
   rw [show ((nm a2 0 4 : Nat) : Int) + 1 = ((nm a2 0 4 + 1 : Nat) : Int) by omega, acg _ (by omega)]
  by_cases gn : nm a2 0 4 + 1 = nm a0 0 4
  ·refine ⟨hv a1 (nm a0 0 4) (a0.drop 4) (a2.drop 4), fun k => ?_, fun k => ?_⟩
   ·rw [(pre k).1]; unfold P.pz
    rw [bg (by omega), ah (by omega), e4, za a0 h0 0 4 (by omega), bf (by omega), bf (by omega), bf (by omega), ah (by omega), za a2 h2 0 4 (by omega), w1, bg (by omega), ah (by omega), ah (by omega), ah (by omega), ah (by omega), toNat_cast, toNat_cast, List.take_length, List.take_length,
     bjq a1 h1 n1 _ (by omega) _ _ (h0.drop _) (by rw [List.length_drop]; omega) (h2.drop _) (by rw [List.length_drop]; omega)]
   ·rw [(pre k).2]; unfold P.su
    rw [bg (by omega), ah (by omega), e4, og a0 h0 0 4 (by omega), bf (by omega), ah (by omega), og a0 h0 0 4 (by omega), bf (by omega), ah (by omega), og a0 h0 0 4 (by omega), bf (by omega), ah (by omega), og a2 h2 0 4 (by omega), w2, bg (by omega), ah (by omega), ah (by omega), ah (by omega), ah (by omega), toNat_cast, toNat_cast, List.take_length, List.take_length,
     bkw a1 h1 n1 _ (by omega) (by omega) _ _ (h0.drop _) (by rw [List.length_drop]; omega) (h2.drop _) (by rw [List.length_drop]; omega)]
  ·refine ⟨1, fun k => ?_, fun k => ?_⟩
   ·rw [(pre k).1]; unfold P.pz
    rw [bg (by omega), ah (by omega), e4, za a0 h0 0 4 (by omega), bf (by omega), bf (by omega), bf (by omega), ah (by omega), za a2 h2 0 4 (by omega), w1, d9 (by omega)]
   ·rw [(pre k).2]; unfold P.su
    rw [bg (by omega), ah (by omega), e4, og a0 h0 0 4 (by omega), bf (by omega), ah (by omega), og a0 h0 0 4 (by omega), bf (by omega), ah (by omega), og a0 h0 0 4 (by omega), bf (by omega), ah (by omega), og a2 h2 0 4 (by omega), w2, d9 (by omega)]
 ·refine ⟨10, fun k => ?_, fun k => ?_⟩
  ·rw [(pre k).1]; unfold P.pz
   rw [d9 (by omega)]
  ·rw [(pre k).2]; unfold P.su
   rw [d9 (by omega)]
end Q
end

section
namespace Q
open Go Go.Abs
set_option linter.unusedVariables false
set_option linter.unusedSimpArgs false
theorem HssVerifies (x0 : List Int) (x1 : List Int) (x2 : List Int) (nx0 : x0.length ≤ 140737488355328) (wx0 : ∀ x, x ∈ x0 → wfI .u8 x) (nx1 : x1.length ≤ 140737488355328) (wx1 : ∀ x, x ∈ x1 → wfI .u8 x) (nx2 : x2.length ≤ 140737488355328) (wx2 : ∀ x, x ∈ x2 → wfI .u8 x) {ρ : Type} (k : Bool → Option ρ) : P.p8 x0 x1 x2 k = k true := by
 rw [P.agi]; unfold P.ab6
 rcases aep [x0, x1] (by simp) (fun (q0 : Bool) => _) with ⟨hf, hl⟩ | hf
 ·rw [hf, jr, qx]
  have l0 : x0.length ≤ 300 := hl 0 (by simp)
  have l1 : x1.length ≤ 300 := hl 1 (by simp)
  by_cases h2 : x2.length > 25000
  ·rw [ah (by omega), ql]
  ·obtain ⟨e, e1, e2⟩ := bky x0 x1 x2 (bmn wx0) (bmn wx1) (bmn wx2) l1 (by omega)
   have key : (P.qw x0 x1 x2 fun (q4 : Int) => P.yj x0 x1 x2 fun (q5 : Int) => br (q4 == q5) (P.ql fun (q6 : Bool) => k q6) (k false)) = k true := by
    rw [e1, e2, beq_self_eq_true, qx, ql]
   rw [bf (by omega)]
   by_cases h12 : x2.length ≥ 12
   ·rw [ah (by omega), ah (by omega)]
    by_cases h4 : x2.getD 11 0 = 4
    ·rw [bq h4, ql]
    ·rw [ak h4]
     exact key
   ·rw [bf (by omega)]
    exact key
 ·rw [hf, jr, vk, ql]
end Q
end
