/-
  ForsSigns, part 22: an interpreter of my own over abstract values, the pure functions, the walks and the plain law.
-/

import Derived.Test.YtjhnljhjpnjieaaGreatDoorForsSignsU
import Derived.Test.YtjhnljhjpnjieaaGreatDoorForsSignsK
import Derived.Test.YtjhnljhjpnjieaaGreatDoorForsSignsL
import Derived.Test.YtjhnljhjpnjieaaGreatDoorForsSignsI

section
/- SHA-2: the document's block of words of 64 bits. -/
namespace Q
open Go Go.Abs
set_option linter.unusedVariables false
set_option linter.unusedSimpArgs false
theorem alk (x : BitVec 64) (m : Int) (n : Nat) (hm : m = (n : Int)) (hn : n ≤ 64) {ρ : Type} (k : Int → Option ρ) : P.zf (x.toNat : Int) m true k = k ((rr x n).toNat : Int) := by
 subst hm
 rw [P.ais]
 unfold P.aea
 rw [o9, dn (by omega), o8 (by omega) (by omega), dn (by omega), show (64 : Int) - (n : Int) = ((64 - n : Nat) : Int) by omega]
 simp only [toNat_cast]
 rw [bg6 _ _ hn, bo8 _ _ (by omega), byb]
 rfl
theorem boh (x : BitVec 64) (t : Nat × Nat × Nat) (a b c : Int) (ha : a = (t.1 : Int)) (hb : b = (t.2.1 : Int)) (hc : c = (t.2.2 : Int)) (h1 : t.1 ≤ 64) (h2 : t.2.1 ≤ 64) (h3 : t.2.2 ≤ 64) {ρ : Type} (k : Int → Option ρ) :
    P.ze (x.toNat : Int) a b c false true k = k ((hi t x).toNat : Int) := by
 rw [P.ae2]
 unfold P.ab2
 rw [dn (by omega), lq, su, alk _ _ _ hc h3, alk _ _ _ ha h1, alk _ _ _ hb h2, akk, akk]
 rfl
theorem bob (x : BitVec 64) (t : Nat × Nat × Nat) (a b c : Int) (ha : a = (t.1 : Int)) (hb : b = (t.2.1 : Int)) (hc : c = (t.2.2 : Int)) (h1 : t.1 ≤ 64) (h2 : t.2.1 ≤ 64) (h3 : t.2.2 ≤ 64) {ρ : Type} (k : Int → Option ρ) :
    P.ze (x.toNat : Int) a b c true true k = k ((lo t x).toNat : Int) := by
 rw [P.ae2]
 unfold P.ab2
 rw [dn (by omega), lq, o9, alk _ _ _ ha h1, alk _ _ _ hb h2, akk, hc]
 simp only [toNat_cast]
 rw [bg6 _ _ h3, akk]
 rfl
theorem b4b (a b c d : BitVec 64) : bits .and .u64 (IntKind.u64.wrap (IntKind.u64.wrap (IntKind.u64.wrap ((a.toNat : Int) + (b.toNat : Int)) + (c.toNat : Int)) + (d.toNat : Int))) 18446744073709551615 = ((a + b + c + d).toNat : Int) := by
 rw [ale, ale, ale, bm8 _ (bmi _)]
theorem bz4 (a b : BitVec 64) : bits .and .u64 (IntKind.u64.wrap ((a.toNat : Int) + (b.toNat : Int))) 18446744073709551615 = ((a + b).toNat : Int) := by
 rw [ale, bm8 _ (bmi _)]
theorem b5q (d a b c e f : BitVec 64) : bits .and .u64 (IntKind.u64.wrap ((d.toNat : Int) + IntKind.u64.wrap (IntKind.u64.wrap (IntKind.u64.wrap (IntKind.u64.wrap ((a.toNat : Int) + (b.toNat : Int)) + (c.toNat : Int)) + (e.toNat : Int)) + (f.toNat : Int)))) 18446744073709551615 = ((d + (a + b + c + e + f)).toNat : Int) := by
 rw [ale, ale, ale, ale, ale, bm8 _ (bmi _)]
theorem b07 (a b c e f g h : BitVec 64) : bits .and .u64 (IntKind.u64.wrap (IntKind.u64.wrap (IntKind.u64.wrap (IntKind.u64.wrap (IntKind.u64.wrap ((a.toNat : Int) + (b.toNat : Int)) + (c.toNat : Int)) + (e.toNat : Int)) + (f.toNat : Int)) + IntKind.u64.wrap ((g.toNat : Int) + (h.toNat : Int)))) 18446744073709551615 = (((a + b + c + e + f) + (g + h)).toNat : Int) := by
 rw [ale, ale, ale, ale, ale, ale, bm8 _ (bmi _)]
theorem b24 (e f g : BitVec 64) : bits .xor .u64 (bits .and .u64 (e.toNat : Int) (f.toNat : Int)) (bits .and .u64 (bits .xor .u64 18446744073709551615 (e.toNat : Int)) (g.toNat : Int)) = ((g ^^^ (e &&& (f ^^^ g))).toNat : Int) := by
 rw [show (18446744073709551615 : Int) = ((BitVec.allOnes 64).toNat : Int) from rfl, bec, akk, bec, akk, btu]
theorem br8 (a b c : BitVec 64) : bits .xor .u64 (bits .xor .u64 (bits .and .u64 (a.toNat : Int) (b.toNat : Int)) (bits .and .u64 (a.toNat : Int) (c.toNat : Int))) (bits .and .u64 (b.toNat : Int) (c.toNat : Int)) = (((a &&& b) ||| (c &&& (a ||| b))).toNat : Int) := by
 rw [bec, bec, bec, akk, akk, bod]
def atp (b : List Int) (t : Nat) : List (BitVec 64) := (List.range t).map (W p64 (lg 64 b 16))
theorem axi (b : List Int) (t : Nat) : atp b (t + 1) = atp b t ++ [W p64 (lg 64 b 16) t] := by simp [atp, List.range_succ]
theorem bc8 (b : List Int) (t : Nat) : (atp b t).length = t := by simp [atp]
theorem apt (b : List Int) (t i : Nat) (h : i < t) : (atp b t).getD i 0 = W p64 (lg 64 b 16) i := by
 unfold atp
 rw [getD_lt (by simpa using h)]; simp
theorem bqp (b : List Int) (t : Nat) (h : t < 16) : W p64 (lg 64 b 16) t = BitVec.ofNat 64 (T 8 ((b.take ((t + 1) * 8)).drop (t * 8)).reverse) := by
 rw [← boa p64 _ (by rw [qd]; omega) 0 t (by rw [qd]; omega), show sched p64 (lg 64 b 16) 0 = lg 64 b 16 from rfl, getD_lt (by rw [qd]; exact h)]
 simp [lg]
theorem bk6 (b : List Int) (hb : In 256 b) (hl : b.length = 16 * 8) {ρ : Type} (k : List Int → Option ρ) : P.ab9 b true 80 18446744073709551615 k = k (cv (atp b 80)) := by
 rw [P.amb]
 unfold P.ags
 rw [o9, P.amj]
 unfold P.ame P.btn P.brc P.bxt
 refine wu (fun t => (b, true, 80, 18446744073709551615, 8, (t : Int), cv (atp b t))) 80 rfl (fun t ht next hn' => ?_) (fun next => ?_) (by omega)
 ·simp only [P.afl, toNat_cast]
  have e1 : IntKind.i64.wrap ((t : Int) + 1) = ((t + 1 : Nat) : Int) := by rw [o8 (by omega) (by omega)]; omega
  rw [av (by omega)]
  have hlen := bc8 b t
  by_cases h16 : t < 16
  ·have e2 : IntKind.i64.wrap ((t : Int) * 8) = ((t * 8 : Nat) : Int) := by rw [o8 (by omega) (by omega)]; omega
   have e3 : IntKind.i64.wrap (IntKind.i64.wrap ((t : Int) * 8) + 8) = (((t + 1) * 8 : Nat) : Int) := by rw [e2, o8 (by omega) (by omega)]; omega
   have hl2 : ((b.take ((t + 1) * 8)).drop (t * 8)).length = 8 := by simp; omega
   rw [av (by omega), e3, e2, av (by omega), av (by omega), av (by omega)]
   simp only [toNat_cast]
   have hT := brw 8 ((b.take ((t + 1) * 8)).drop (t * 8)).reverse
   rw [List.length_reverse, hl2] at hT
   have e4 : ((T 8 ((b.take ((t + 1) * 8)).drop (t * 8)).reverse % 2 ^ 64 : Nat) : Int) = ((W p64 (lg 64 b 16) t).toNat : Int) := by
    rw [bqp b t h16, BitVec.toNat_ofNat]
   rw [ac3 _ ((hb.take _).drop _) (by omega), av (by rw [vk]; omega), e4, e1, show [((W p64 (lg 64 b 16) t).toNat : Int)] = cv [W p64 (lg 64 b 16) t] from rfl, afz, ← axi]
   exact hn'
  ·have e15 : IntKind.i64.wrap ((t : Int) - 15) = ((t - 15 : Nat) : Int) := by rw [o8 (by omega) (by omega)]; omega
   have e2 : IntKind.i64.wrap ((t : Int) - 2) = ((t - 2 : Nat) : Int) := by rw [o8 (by omega) (by omega)]; omega
   have e7 : IntKind.i64.wrap ((t : Int) - 7) = ((t - 7 : Nat) : Int) := by rw [o8 (by omega) (by omega)]; omega
   have e16 : IntKind.i64.wrap ((t : Int) - 16) = ((t - 16 : Nat) : Int) := by rw [o8 (by omega) (by omega)]; omega
   simp only [e15, e2, e7, e16, toNat_cast, agf, vk, hlen]
   rw [apt b t _ (by omega), apt b t _ (by omega), apt b t _ (by omega), apt b t _ (by omega)]
   obtain ⟨q1, m1⟩ := bfp ((W p64 (lg 64 b 16) (t - 15)).toNat : Int) 7 18 3 7 18 3 rfl rfl rfl (by omega) (by omega) (by omega)
   obtain ⟨q2, m2⟩ := bfp ((W p64 (lg 64 b 16) (t - 2)).toNat : Int) 17 19 10 17 19 10 rfl rfl rfl (by omega) (by omega) (by omega)
   rw [dn (by omega), av (by omega), av (by omega), m1, av (by omega), av (by omega), m2, o9, av (by omega), av (by omega), bob _ p64.a _ _ _ (by rfl) (by rfl) (by rfl) (by decide) (by decide) (by decide), av (by omega), av (by omega), bob _ p64.b _ _ _ (by rfl) (by rfl) (by rfl) (by decide) (by decide) (by decide)]
   have hW := bgo p64 (lg 64 b 16) (qd b 16) (t - 16)
   rw [show t - 16 + 16 = t by omega, show t - 16 + 1 = t - 15 by omega, show t - 16 + 9 = t - 7 by omega, show t - 16 + 14 = t - 2 by omega] at hW
   have hW2 : lo p64.b (W p64 (lg 64 b 16) (t - 2)) + W p64 (lg 64 b 16) (t - 7) + lo p64.a (W p64 (lg 64 b 16) (t - 15)) + W p64 (lg 64 b 16) (t - 16) = W p64 (lg 64 b 16) t := by rw [hW]; ac_rfl
   rw [av (by omega), av (by omega), av (by omega), av (by omega), av (by omega), b4b, hW2, e1, show [((W p64 (lg 64 b 16) t).toNat : Int)] = cv [W p64 (lg 64 b 16) t] from rfl, afz, ← axi]
   exact hn'
 ·simp only [P.afl]
  rw [dn (by omega)]
theorem bq1 (b : List Int) (v : List (BitVec 64)) (hv : v.length = 8) (h0 h1 : List Int) {ρ : Type} (k0 : Bool → Int → Int → Int → List Int → List Int → List Int → List Int → List Int → List Int → Option ρ) :
    P.ad4 true 80 18446744073709551615 0 h0 h1 P.roots256 P.roots512 (cv (atp b 80)) (cv v) k0 = k0 true 80 18446744073709551615 80 h0 h1 P.roots256 P.roots512 (cv (atp b 80)) (cv (runs p64 (lg 64 b 16) v 80)) := by
 rw [P.ak2]
 unfold P.aj9 P.bv0 P.brl P.bxo
 refine wu (fun t => (true, 80, 18446744073709551615, (t : Int), h0, h1, P.roots256, P.roots512, cv (atp b 80), cv (runs p64 (lg 64 b 16) v t))) 80 rfl (fun t ht next hn' => ?_) (fun next => ?_) (by omega)
 ·simp only [P.aeg]
  have e1 : IntKind.i64.wrap ((t : Int) + 1) = ((t + 1 : Nat) : Int) := by rw [o8 (by omega) (by omega)]; omega
  have hlen := bc8 b 80
  simp only [e1, toNat_cast, agf, vk, hlen]
  rw [apt b 80 t ht, K64]
  obtain ⟨q1, m1⟩ := bki (((runs p64 (lg 64 b 16) v t).getD 0 0).toNat : Int) 2 13 22 2 13 22 rfl rfl rfl (by omega) (by omega) (by omega)
  obtain ⟨q2, m2⟩ := bki (((runs p64 (lg 64 b 16) v t).getD 4 0).toNat : Int) 6 11 25 6 11 25 rfl rfl rfl (by omega) (by omega) (by omega)
  rw [av (by omega), m1, m2, o9, boh _ p64.c _ _ _ (by rfl) (by rfl) (by rfl) (by decide) (by decide) (by decide), boh _ p64.d _ _ _ (by rfl) (by rfl) (by rfl) (by decide) (by decide) (by decide)]
  rw [av (by omega), av (by omega), av (by omega), av (by omega), b24, br8, b07, b5q]
  exact hn'
 ·simp only [P.aeg]
  rw [dn (by omega)]
  rfl
theorem bpq (v u : List (BitVec 64)) (hv : v.length = 8) (hu : u.length = 8) (h1 : List Int) {ρ : Type} (k0 : Int → Int → List Int → List Int → List Int → Option ρ) :
    P.ad9 18446744073709551615 0 (cv v) h1 (cv u) k0 = k0 18446744073709551615 8 (cv v) h1 (cv ((List.range 8).map fun i => u.getD i 0 + v.getD i 0)) := by
 rw [P.ala]
 unfold P.aki P.bte P.brg P.bxr
 refine wu (fun i => (18446744073709551615, (i : Int), cv v, h1, cv (((List.range i).map fun i => u.getD i 0 + v.getD i 0) ++ u.drop i))) 8 (by simp) (fun i hi next hn' => ?_) (fun next => ?_) (by omega)
 ·simp only [P.ady, toNat_cast, agf]
  have e1 : IntKind.i64.wrap ((i : Int) + 1) = ((i + 1 : Nat) : Int) := by rw [o8 (by omega) (by omega)]; omega
  have e2 : (((List.range i).map fun i => u.getD i 0 + v.getD i 0) ++ u.drop i).getD i 0 = u.getD i 0 := by
   rw [List.getD_eq_getElem?_getD, List.getElem?_append_right (by simp), List.getElem?_drop, List.length_map, List.length_range, List.getD_eq_getElem?_getD]
   congr 2
   omega
  rw [e1, e2, bz4, ayw]
  have e3 : (((List.range i).map fun i => u.getD i 0 + v.getD i 0) ++ u.drop i).set i (u.getD i 0 + v.getD i 0) = ((List.range (i + 1)).map fun i => u.getD i 0 + v.getD i 0) ++ u.drop (i + 1) := by
   rw [List.set_append_right _ _ (by simp), List.length_map, List.length_range, Nat.sub_self, List.range_succ, List.map_append, List.append_assoc, List.drop_eq_getElem_cons (by omega), List.set_cons_zero]
   rfl
  rw [e3]
  simp (disch := omega) only [av, dn, gq, dz, dw, dx, lq, o9, su, o8]
  exact hn'
 ·simp only [P.ady]
  rw [dn (by omega), List.drop_eq_nil_of_le (by omega), List.append_nil]
  rfl
theorem bks (v : List (BitVec 64)) (hv : v.length = 8) (b : List Int) (hb : In 256 b) (hl : b.length = 16 * 8) {ρ : Type} (k : List Int → Option ρ) : P.ac5 (cv v) b true k = k (cv (auv p64 v b)) := by
 rw [P.amm]
 unfold P.agy
 have hr1 : ∀ (k : List Int → Option ρ), P.x9 k = k P.roots256 := fun k => by rw [P.ahb]; kernel_rfl
 have hr2 : ∀ (k : List Int → Option ρ), P.xw k = k P.roots512 := fun k => by rw [P.aho]; kernel_rfl
 rw [hr1, hr2, o9, bk6 b hb hl, bq1 b v hv, bpq v _ hv (am6 _ _ _ hv _)]
 rfl
end Q
end

section
/- bits, the first part: texts. -/
namespace Q
open Go Go.Abs
set_option linter.unusedVariables false
set_option linter.unusedSimpArgs false
theorem bjk {a b : List Int} (hl : a.length = b.length) (hs : a.length ≤ 140737488355328) {ρ : Type} (k0 : List Int → List Int → Int → Option ρ) (k1 : Bool → Option ρ) :
    ∀ (m i : Nat), i + m = a.length → ∀ {stp : (List Int × List Int × Int) → ((List Int × List Int × Int) → Option ρ) → ((List Int × List Int × Int) ⊕ Bool → Option ρ) → Option ρ} {K : (List Int × List Int × Int) ⊕ Bool → Option ρ},
     (∀ (j : Nat) next, stp (a, b, (j : Int)) next K = br (decide ((j : Int) < (a.length : Int))) (br (a.getD j 0 != b.getD j 0) (k1 false) (next (a, b, ((j + 1 : Nat) : Int)))) (k0 a b (j : Int))) →
     lp stp (a, b, (i : Int)) K = if a.drop i = b.drop i then k0 a b (a.length : Int) else k1 false := by
 intro m i hm stp K hst
 refine bq0 (P := fun x => ∃ j : Nat, x = (a, b, (j : Int)) ∧ j ≤ a.length ∧ (if a.drop j = b.drop j then k0 a b (a.length : Int) else k1 false) = (if a.drop i = b.drop i then k0 a b (a.length : Int) else k1 false)) (μ := fun x => ((a.length : Int) - x.2.2).toNat) ?_ ⟨i, rfl, by omega, rfl⟩ (by simp only; omega)
 rintro _ ⟨j, rfl, hj, he⟩ next hn
 rw [hst, ← he]
 by_cases hji : j < a.length
 ·rw [av (by omega), aeh a 0 j hji, aeh b 0 j (by omega)]
  by_cases hab : a.getD j 0 = b.getD j 0
  ·rw [dz hab, hn _ ⟨j + 1, rfl, by omega, ?_⟩ (by simp only; omega), ← he, aeh a 0 j hji, aeh b 0 j (by omega)]
   ·rw [← he, aeh a 0 j hji, aeh b 0 j (by omega)]
    simp only [hab, List.cons.injEq, true_and]
  ·rw [gq hab, if_neg (by simp only [List.cons.injEq]; exact fun h => hab h.1)]
 ·have : j = a.length := by omega
  subst this
  rw [dn (by omega), if_pos (by rw [List.drop_eq_nil_of_le (Nat.le_refl _), List.drop_eq_nil_of_le (by omega)])]
theorem aci (a b : List Int) (h : a.length ≤ 140737488355328) {ρ : Type} (k : Bool → Option ρ) : P.aci a b k = k (decide (a = b)) := by
 rw [P.av5]
 unfold P.alz
 by_cases hl : a.length = b.length
 ·rw [dz (by omega), P.awu]
  unfold P.auf P.bym P.bwn P.b69
  have := bjk hl h (fun _ _ _ => k true) k a.length 0 (by omega) (stp := (fun x next ex => P.ao7 x.1 x.2.1 x.2.2 (fun v0 v1 v5 => next (v0, v1, v5)) (fun v0 v1 v5 => ex (.inl (v0, v1, v5))) (fun v4 => ex (.inr v4)))) (K := Sum.elim (fun _ => k true) k) (by
   intro j next
   simp only [P.ao7, Sum.elim_inl, Sum.elim_inr]
   by_cases hj : (j : Int) < (a.length : Int)
   ·simp only [av hj]
    simp (disch := omega) only [av, dn, gq, dz, dw, dx, lq, o9, su, o8, toNat_cast]
    rfl
   ·simp only [dn hj])
  simp only [List.drop_zero] at this
  refine this.trans ?_
  by_cases hab : a = b
  ·rw [if_pos hab, decide_eq_true hab]
  ·rw [if_neg hab, decide_eq_false hab]
 ·rw [gq (by omega), decide_eq_false (fun e => hl (by rw [e]))]
end Q
end

section
/- bits: the law's own test. -/
namespace Q
open Go Go.Abs
set_option linter.unusedVariables false
set_option linter.unusedSimpArgs false
end Q
end

section
/- bits: Same, Join. -/
namespace Q
open Go Go.Abs
set_option linter.unusedVariables false
set_option linter.unusedSimpArgs false
def joined (l : List (List Int)) (i : Nat) : List Int := (l.take i).flatten
theorem aol (l : List (List Int)) (i : Nat) (h : i < l.length) : joined l (i + 1) = joined l i ++ l.getD i [] := by
 unfold joined
 rw [← aln l [] i h, List.flatten_append]; simp
theorem aq6 (l : List (List Int)) : joined l l.length = l.flatten := by unfold joined; rw [List.take_length]
theorem au5 (l : List (List Int)) (i : Nat) : (joined l i).length ≤ l.flatten.length := by
 unfold joined
 have : l.flatten = (l.take i).flatten ++ (l.drop i).flatten := by rw [← List.flatten_append, List.take_append_drop]
 rw [this, List.length_append]; omega
theorem jv (l : List (List Int)) (h : l.length ≤ 140737488355328) (h2 : l.flatten.length ≤ 140737488355328) {ρ : Type} (k : List Int → Option ρ) : P.jv l k = k l.flatten := by
 rw [P.avs]
 unfold P.alo
 rw [P.aw3]
 unfold P.avq P.byl P.bvq P.b2r
 refine bnc (fun i => (l, (i : Int), joined l i)) l.length (fun i hi next hn => ?_) (fun next => ?_) (Nat.zero_le _) (by omega)
 ·have e := aol l i hi
  have h3 := au5 l (i + 1)
  rw [e, List.length_append] at h3
  simp only [P.aoo, toNat_cast]
  simp (disch := omega) only [av, dn, gq, dz, dw, dx, lq, o9, su, o8]
  rw [← e]
  exact hn
 ·simp only [P.aoo]
  rw [dn (by omega), aq6]
theorem om (n : Nat) (h : n ≤ 140737488355328) {ρ : Type} (k : List Int → Option ρ) : P.om (n : Int) k = k [] := by
 rw [P.ahy]
 unfold P.ac1
 rw [dn (by omega), show IntKind.i64.wrap ((0 : Int) - (0 : Int)) = 0 by decide]
 rw [o8 (by omega) (by omega)]
 by_cases h0 : n = 0
 ·subst h0; rw [dn (by omega)]
 ·rw [av (by omega), av (by omega), av (by omega)]; rfl
theorem iy (l : List (List Int)) (h : l.length ≤ 140737488355328) (h2 : l.flatten.length ≤ 140737488355328) {ρ : Type} (k : List Int → Option ρ) : P.iy l k = k l.flatten := by
 rw [P.afo]
 unfold P.aa7
 rw [P.ajm]
 unfold P.afy P.zk6 P.zs6 P.zu6
 refine bnc (fun i => (l, ((joined l i).length : Int), l, (l.length : Int), (i : Int))) l.length (fun i hi next hn => ?_) (fun next => ?_) (Nat.zero_le _) (by omega)
 ·have e := aol l i hi
  have h3 := au5 l (i + 1)
  have e2 : ((joined l i).length : Int) + ((l.getD i []).length : Int) = ((joined l (i + 1)).length : Int) := by rw [e, List.length_append]; omega
  simp only [P.abw, toNat_cast, e2]
  simp (disch := omega) only [av, dn, gq, dz, dw, dx, lq, o9, su, o8]
  exact hn
 ·simp only [P.abw]
  rw [dn (by omega), aq6, om _ h2, P.ajd]
  unfold P.aeo P.zk7 P.zs7 P.zu7
  refine bnc (fun i => (l, (l.length : Int), (i : Int), joined l i)) l.length (fun i hi next hn => ?_) (fun next => ?_) (Nat.zero_le _) (by omega)
  ·have e := aol l i hi
   have h3 := au5 l (i + 1)
   rw [e, List.length_append] at h3
   simp only [P.abg, toNat_cast]
   simp (disch := omega) only [av, dn, gq, dz, dw, dx, lq, o9, su, o8]
   rw [← e]
   exact hn
  ·simp only [P.abg]
   rw [dn (by omega), aq6]
theorem jq (l : List (List Int)) (h : l.length ≤ 140737488355328) (h2 : l.flatten.length ≤ 140737488355328) {ρ : Type} (k : List Int → Option ρ) : P.jq l k = k l.flatten := by
 rw [P.asn]
 unfold P.ajz
 exact iy l h h2 k
end Q
end

section
/- lmots: digits. -/
namespace Q
open Go Go.Abs
set_option linter.unusedVariables false
set_option linter.unusedSimpArgs false
theorem zi (N s : Nat) (hN : N < 18446744073709551616) (hs : s ≤ 65536) {ρ : Type} (k : List Int → Option ρ) : P.zi (N : Int) (s : Int) k = k (bsw 8 s N).reverse := by
 rw [P.bbl]
 unfold P.ar3
 simp only [toNat_cast]
 simp (disch := omega) only [av, dn, gq, dz, dw, dx, lq, o9, su, o8]
 rw [P.bbg]
 unfold P.bca P.byf P.bvj P.b1q
 refine wu (fun j => (((N / 2 ^ (8 * j) : Nat) : Int), (s : Int) - 1 - (j : Int), List.replicate (s - j) 0 ++ (bsw 8 j N).reverse)) s (by simp [bsw]) (fun j hj next hn' => ?_) (fun next => ?_) (by omega)
 ·simp only [P.aub, List.length_append, List.length_replicate, List.length_reverse, acv]
  rw [show (s : Int) - 1 - (j : Int) = ((s - 1 - j : Nat) : Int) by omega]
  simp only [toNat_cast]
  have hd := Nat.div_le_self N (2 ^ (8 * j))
  have hb : bits .and .u64 ((N / 2 ^ (8 * j) : Nat) : Int) 255 = ((N / 2 ^ (8 * j) % 2 ^ 8 : Nat) : Int) := by
   rw [show (255 : Int) = ((2 ^ 8 - 1 : Nat) : Int) from rfl, asa _ _ (by omega) (by omega), Nat.and_two_pow_sub_one_eq_mod]
  have hd2 : (((N / 2 ^ (8 * j) : Nat) : Int)).fdiv ((2 : Int) ^ 8) = ((N / 2 ^ (8 * (j + 1)) : Nat) : Int) := by
   rw [show ((2 : Int) ^ 8) = (2 : Int) ^ min 8 8 from rfl, fdiv_pow _ 8 8 (by omega), Nat.div_div_eq_div_mul, ← Nat.pow_add, Nat.mul_succ]
  rw [hb, hd2, u8n _ (by omega)]
  rw [bge, List.reverse_append, List.reverse_singleton, List.singleton_append] at hn'
  have hset : (List.replicate (s - j) (0 : Int) ++ (bsw 8 j N).reverse).set (s - 1 - j) ((N / 2 ^ (8 * j) % 2 ^ 8 : Nat) : Int) = List.replicate (s - (j + 1)) 0 ++ ((N / 2 ^ (8 * j) % 2 ^ 8 : Nat) : Int) :: (bsw 8 j N).reverse := by
   rw [show s - j = (s - (j + 1)) + 1 by omega, List.replicate_succ', List.append_assoc, List.set_append_right _ _ (by simp; omega), List.length_replicate, show s - 1 - j - (s - (j + 1)) = 0 by omega]
   rfl
  rw [hset]
  simp (disch := omega) only [av, dn, gq, dz, dw, dx, lq, o9, su, o8]
  rw [show ((s - 1 - j : Nat) : Int) - 1 = (s : Int) - 1 - ((j + 1 : Nat) : Int) by omega]
  exact hn'
 ·simp only [P.aub]
  rw [dn (by omega), Nat.sub_self]; rfl
def sumTo (D : List Int) : Nat → Nat
 | 0 => 0
 | i + 1 => sumTo D i + (D.getD i 0).toNat
def left (w s : Nat) (b : List Int) : Nat := ((256 / w) * (2 ^ w - 1) - sumTo (abv b w ((256 / w : Nat) : Int)) (256 / w)) * 2 ^ s
theorem bg8 (b : List Int) (w c : Nat) (h1 : 1 ≤ w) (h2 : w ≤ 24) (h : c * w ≤ b.length * 8) : abv b (w : Int) (c : Int) = (List.range c).map (dg w b.length (T 8 b.reverse)) := by
 unfold abv
 rw [if_pos (by refine ⟨by omega, by omega, by omega, ?_⟩; rw [← Int.natCast_mul]; omega)]
 simp only [toNat_cast]
end Q
end

section
/- SHA-2: blocks one behind the other, words of 32 bits. -/
namespace Q
open Go Go.Abs
set_option linter.unusedVariables false
set_option linter.unusedSimpArgs false
def thr {w : Nat} (p : Par w) (v : List (BitVec w)) (b : List Int) : Nat → List (BitVec w)
 | 0 => v
 | i + 1 => auv p (thr p v b i) ((b.drop ((2 * w) * i)).take (2 * w))
theorem aj5 {w : Nat} (p : Par w) (v : List (BitVec w)) (hv : v.length = 8) (b : List Int) : ∀ i, (thr p v b i).length = 8
 | 0 => hv
 | i + 1 => bhj _ _ _
def toV (w : Nat) (l : List Int) : List (BitVec w) := (List.range 8).map fun i => BitVec.ofInt w (l.getD i 0)
theorem akl (w : Nat) (l : List Int) : (toV w l).length = 8 := by simp [toV]
theorem boc (w : Nat) (l : List Int) (hl : l.length = 8) (hi : In (2 ^ w) l) : cv (toV w l) = l := by
 unfold cv toV
 rw [List.map_map]
 refine List.ext_getElem (by simp [hl]) (fun i h1 h2 => ?_)
 have hp : ((2 : Int) ^ w) = ((2 ^ w : Nat) : Int) := by simp
 have := hi.getD i (by rw [hp]; have := p2 w; omega)
 rw [getD_lt h2] at this
 simp only [List.getElem_map, List.getElem_range, Function.comp, getD_lt h2, BitVec.toNat_ofInt]
 rw [hp] at this
 rw [Int.emod_eq_of_lt this.1 this.2]
 omega
theorem bqa {w : Nat} (l : List (BitVec w)) : In (2 ^ w) (cv l) := by
 intro x hx
 obtain ⟨y, _, rfl⟩ := List.mem_map.1 hx
 have := y.isLt
 have hp : ((2 : Int) ^ w) = ((2 ^ w : Nat) : Int) := by simp
 rw [hp]
 omega
theorem bn8 {w : Nat} (l : List (BitVec w)) (hl : l.length = 8) : toV w (cv l) = l := by
 unfold toV
 refine List.ext_getElem (by simp [hl]) (fun i h1 h2 => ?_)
 simp only [List.getElem_map, List.getElem_range, agf, ofI, getD_lt h2]
theorem aze (x : Int) : IntKind.u32.wrap x = ((BitVec.ofInt 32 x).toNat : Int) := by
 rw [bvh, BitVec.toNat_ofInt]; omega
def rest (n : Nat) (b : List Int) : List Int := b.drop (n * (b.length / n))
theorem bsf (words b : List Int) (rd : Int) (t0 t1 t2 t3 h1 h2 : List Int) (hi : In 18446744073709551616 words) {ρ : Type} (k0 : List Int → List Int → Int → Int → Int → List Int → List Int → List Int → List Int → List Int → List Int → List Int → Option ρ) :
    P.ab3 b words 0 32 rd t0 t1 t2 t3 h1 h2 (List.replicate 8 0) k0 = k0 b words 8 32 rd t0 t1 t2 t3 h1 h2 (cv (toV 32 words)) := by
 rw [P.ajo]
 unfold P.afx P.byj P.bw1 P.b30
 refine wu (fun i => (b, words, (i : Int), 32, rd, t0, t1, t2, t3, h1, h2, cv ((List.range i).map fun i => BitVec.ofInt 32 (words.getD i 0)) ++ List.replicate (8 - i) 0)) 8 (by simp [cv]) (fun i hi' next hn' => ?_) (fun next => ?_) (by omega)
 ·simp only [P.ace, toNat_cast]
  have e4 : IntKind.i64.wrap ((i : Int) + 1) = ((i + 1 : Nat) : Int) := by rw [o8 (by omega) (by omega)]; omega
  have e5 : (cv ((List.range i).map fun i => BitVec.ofInt 32 (words.getD i 0)) ++ List.replicate (8 - i) (0 : Int)).set i ((BitVec.ofInt 32 (words.getD i 0)).toNat : Int) = cv ((List.range (i + 1)).map fun i => BitVec.ofInt 32 (words.getD i 0)) ++ List.replicate (8 - (i + 1)) 0 := by
   rw [List.set_append_right _ _ (by simp), vk, List.length_map, List.length_range, Nat.sub_self, show 8 - i = (8 - (i + 1)) + 1 by omega, List.replicate_succ, List.set_cons_zero, List.range_succ, List.map_append, ← afz, List.append_assoc]
   rfl
  rw [av (by omega), av (by omega), av (by omega), av (by omega), av (by omega), aze, e5, e4]
  exact hn'
 ·simp only [P.ace]
  rw [dn (by omega)]
  simp [toV]
theorem bwl (v : List (BitVec 32)) (hv : v.length = 8) (b : List Int) (hb : In 256 b) (hn : b.length ≤ 1000000) (h1 h2 : List Int) {ρ : Type} (k0 : List Int → Int → List Int → List Int → List Int → Int → Int → List Int → List Int → List Int → List Int → Option ρ) :
    P.abm b 64 (cv v) h2 h1 32 64 [7, 18, 3] [17, 19, 10] [2, 13, 22] [6, 11, 25] k0 =
     k0 (rest 64 b) 64 (cv (thr p32 v b (b.length / 64))) h2 h1 32 64 [7, 18, 3] [17, 19, 10] [2, 13, 22] [6, 11, 25] := by
 rw [P.ajj]
 unfold P.afk P.byg P.bsn P.b39
 refine wu (fun i => (b.drop (64 * i), 64, cv (thr p32 v b i), h2, h1, 32, 64, [7, 18, 3], [17, 19, 10], [2, 13, 22], [6, 11, 25])) (b.length / 64) (by simp [thr]) (fun i hi next hn' => ?_) (fun next => ?_) (by omega)
 ·simp only [P.acf]
  have hlen : (b.drop (64 * i)).length = b.length - 64 * i := by simp
  have hge : 64 ≤ b.length - 64 * i := by omega
  simp only [hlen, show (64 : Int).toNat = 64 from rfl, toNat_cast, List.drop_zero]
  have hbl : ((b.drop (64 * i)).take 64).length = 16 * 4 := by rw [List.length_take, hlen]; omega
  rw [av (by omega), av (by omega), av (by omega), bjy _ (aj5 _ _ hv _ _) _ ((hb.drop _).take _) hbl, av (by omega), av (by omega), av (by omega),
   List.take_of_length_le (by rw [hlen]; omega), List.drop_drop, show 64 * i + 64 = 64 * (i + 1) by omega]
  exact hn'
 ·simp only [P.acf]
  have hlen : (b.drop (64 * (b.length / 64))).length = b.length - 64 * (b.length / 64) := by simp
  rw [dn (by rw [hlen]; omega)]
  rfl
theorem bqg (v : List (BitVec 32)) (hv : v.length = 8) (b : List Int) (words h2 : List Int) (hl : words.length = 8) {ρ : Type} (k0 : List Int → List Int → Int → List Int → List Int → Option ρ) :
    P.abe b (cv v) 0 words h2 k0 = k0 b (cv v) 8 (cv v) h2 := by
 rw [P.ai5]
 unfold P.aep P.bx9 P.bu2 P.bzn
 refine wu (fun i => (b, cv v, (i : Int), (cv v).take i ++ words.drop i, h2)) 8 (by simp) (fun i hi next hn' => ?_) (fun next => ?_) (by omega)
 ·simp only [P.abh, toNat_cast]
  have e4 : IntKind.i64.wrap ((i : Int) + 1) = ((i + 1 : Nat) : Int) := by rw [o8 (by omega) (by omega)]; omega
  have e5 : ((cv v).take i ++ words.drop i).set i ((cv v).getD i 0) = (cv v).take (i + 1) ++ words.drop (i + 1) := by
   rw [List.set_append_right _ _ (by rw [List.length_take]; omega), List.length_take, vk, hv, Nat.min_eq_left (by omega), Nat.sub_self, List.drop_eq_getElem_cons (by omega), List.set_cons_zero, ← aln (cv v) 0 i (by rw [vk]; omega), List.append_assoc]
   rfl
  have e6 : IntKind.u64.wrap ((cv v).getD i 0) = (cv v).getD i 0 := by
   rw [agf]; exact ah5 _ (nlt _)
  rw [av (by omega), av (by omega), av (by omega), av (by omega), av (by omega), e6, e5, e4]
  exact hn'
 ·simp only [P.abh]
  rw [dn (by omega), List.drop_eq_nil_of_le (by omega), List.append_nil, List.take_of_length_le (by rw [vk]; omega)]
  rfl
theorem beu (words b : List Int) (hl : words.length = 8) (hi : In 18446744073709551616 words) (hb : In 256 b) (hn : b.length ≤ 1000000) {ρ : Type} (k : List Int → List Int → Option ρ) :
    P.ow 32 64 [7, 18, 3] [17, 19, 10] [2, 13, 22] [6, 11, 25] words b k = k (cv (thr p32 (toV 32 words) b (b.length / 64))) (rest 64 b) := by
 rw [P.afw]
 unfold P.aa9
 refine (bsf words b 64 [7, 18, 3] [17, 19, 10] [2, 13, 22] [6, 11, 25] words (List.replicate 8 0) hi _).trans ?_
 rw [show IntKind.i64.wrap ((32 : Int) * 2) = 64 from rfl, bwl _ (akl _ _) b hb hn, bqg _ (aj5 _ _ (akl _ _) _ _) _ _ _ hl]
theorem bwi (v : List (BitVec 32)) (hv : v.length = 8) (b : List Int) (hb : In 256 b) (hn : b.length ≤ 1000000) (kd : Int) (tl : List Int) (sz : Int) (a1 : Int) (a2 : List Int) (a3 : Int) {ρ : Type} (k0 : Int → List Int → Int → List Int → List Int → Int → Int → List Int → Int → Option ρ) :
    P.am5 64 b kd (cv v) tl sz a1 a2 a3 k0 = k0 64 (rest 64 b) kd (cv (thr p32 v b (b.length / 64))) tl sz a1 a2 a3 := by
 rw [P.apq]
 unfold P.ara P.bwt P.bq9 P.bxl
 refine wu (fun i => (64, b.drop (64 * i), kd, cv (thr p32 v b i), tl, sz, a1, a2, a3)) (b.length / 64) (by simp [thr]) (fun i hi next hn' => ?_) (fun next => ?_) (by omega)
 ·simp only [P.ajx]
  have hlen : (b.drop (64 * i)).length = b.length - 64 * i := by simp
  have hge : 64 ≤ b.length - 64 * i := by omega
  simp only [hlen, show (64 : Int).toNat = 64 from rfl, toNat_cast, List.drop_zero]
  have hbl : ((b.drop (64 * i)).take 64).length = 16 * 4 := by rw [List.length_take, hlen]; omega
  rw [av (by omega), av (by omega), av (by omega), show ((64 : Int) == 128) = false from rfl, bjt _ (aj5 _ _ hv _ _) _ ((hb.drop _).take _) hbl, av (by omega), av (by omega), av (by omega),
   List.take_of_length_le (by rw [hlen]; omega), List.drop_drop, show 64 * i + 64 = 64 * (i + 1) by omega]
  exact hn'
 ·simp only [P.ajx]
  have hlen : (b.drop (64 * (b.length / 64))).length = b.length - 64 * (b.length / 64) := by simp
  rw [dn (by rw [hlen]; omega)]
  rfl
end Q
end

section
/- SHA-2: blocks one behind the other, words of 64 bits. -/
namespace Q
open Go Go.Abs
set_option linter.unusedVariables false
set_option linter.unusedSimpArgs false
theorem bsl (words b : List Int) (rd : Int) (t0 t1 t2 t3 h1 h2 : List Int) (hi : In 18446744073709551616 words) {ρ : Type} (k0 : List Int → List Int → Int → Int → Int → List Int → List Int → List Int → List Int → List Int → List Int → List Int → Option ρ) :
    P.abt b words 0 64 rd t0 t1 t2 t3 h1 h2 (List.replicate 8 0) k0 = k0 b words 8 64 rd t0 t1 t2 t3 h1 h2 (cv (toV 64 words)) := by
 rw [P.ajv]
 unfold P.af2 P.byk P.buo P.bzf
 refine wu (fun i => (b, words, (i : Int), 64, rd, t0, t1, t2, t3, h1, h2, cv ((List.range i).map fun i => BitVec.ofInt 64 (words.getD i 0)) ++ List.replicate (8 - i) 0)) 8 (by simp [cv]) (fun i hi' next hn' => ?_) (fun next => ?_) (by omega)
 ·simp only [P.abz, toNat_cast]
  have e4 : IntKind.i64.wrap ((i : Int) + 1) = ((i + 1 : Nat) : Int) := by rw [o8 (by omega) (by omega)]; omega
  have e6 : words.getD i 0 = ((BitVec.ofInt 64 (words.getD i 0)).toNat : Int) := by
   have := hi.getD i (by omega)
   rw [BitVec.toNat_ofInt]
   omega
  have e5 : (cv ((List.range i).map fun i => BitVec.ofInt 64 (words.getD i 0)) ++ List.replicate (8 - i) (0 : Int)).set i ((BitVec.ofInt 64 (words.getD i 0)).toNat : Int) = cv ((List.range (i + 1)).map fun i => BitVec.ofInt 64 (words.getD i 0)) ++ List.replicate (8 - (i + 1)) 0 := by
   rw [List.set_append_right _ _ (by simp), vk, List.length_map, List.length_range, Nat.sub_self, show 8 - i = (8 - (i + 1)) + 1 by omega, List.replicate_succ, List.set_cons_zero, List.range_succ, List.map_append, ← afz, List.append_assoc]
   rfl
  rw [av (by omega), av (by omega), av (by omega), av (by omega), av (by omega), e6, e5, e4]
  exact hn'
 ·simp only [P.abz]
  rw [dn (by omega)]
  simp [toV]
theorem bsh (v : List (BitVec 64)) (hv : v.length = 8) (b : List Int) (hb : In 256 b) (hn : b.length ≤ 1000000) (h1 h2 : List Int) {ρ : Type} (k0 : List Int → Int → List Int → List Int → List Int → Int → Int → List Int → List Int → List Int → List Int → Option ρ) :
    P.abn b 128 (cv v) h2 h1 64 80 [1, 8, 7] [19, 61, 6] [28, 34, 39] [14, 18, 41] k0 =
     k0 (rest 128 b) 128 (cv (thr p64 v b (b.length / 128))) h2 h1 64 80 [1, 8, 7] [19, 61, 6] [28, 34, 39] [14, 18, 41] := by
 rw [P.aju]
 unfold P.afs P.bxj P.bsv P.bza
 refine wu (fun i => (b.drop (128 * i), 128, cv (thr p64 v b i), h2, h1, 64, 80, [1, 8, 7], [19, 61, 6], [28, 34, 39], [14, 18, 41])) (b.length / 128) (by simp [thr]) (fun i hi next hn' => ?_) (fun next => ?_) (by omega)
 ·simp only [P.ab1]
  have hlen : (b.drop (128 * i)).length = b.length - 128 * i := by simp
  have hge : 128 ≤ b.length - 128 * i := by omega
  simp only [hlen, show (128 : Int).toNat = 128 from rfl, toNat_cast, List.drop_zero]
  have hbl : ((b.drop (128 * i)).take 128).length = 16 * 8 := by rw [List.length_take, hlen]; omega
  rw [av (by omega), av (by omega), av (by omega), bjz _ (aj5 _ _ hv _ _) _ ((hb.drop _).take _) hbl, av (by omega), av (by omega), av (by omega),
   List.take_of_length_le (by rw [hlen]; omega), List.drop_drop, show 128 * i + 128 = 128 * (i + 1) by omega]
  exact hn'
 ·simp only [P.ab1]
  have hlen : (b.drop (128 * (b.length / 128))).length = b.length - 128 * (b.length / 128) := by simp
  rw [dn (by rw [hlen]; omega)]
  rfl
theorem bpv (v : List (BitVec 64)) (hv : v.length = 8) (b : List Int) (words h2 : List Int) (hl : words.length = 8) {ρ : Type} (k0 : List Int → List Int → Int → List Int → List Int → Option ρ) :
    P.aa8 b (cv v) 0 words h2 k0 = k0 b (cv v) 8 (cv v) h2 := by
 rw [P.aiy]
 unfold P.aem P.bxz P.bwq P.bz5
 refine wu (fun i => (b, cv v, (i : Int), (cv v).take i ++ words.drop i, h2)) 8 (by simp) (fun i hi next hn' => ?_) (fun next => ?_) (by omega)
 ·simp only [P.abf, toNat_cast]
  have e4 : IntKind.i64.wrap ((i : Int) + 1) = ((i + 1 : Nat) : Int) := by rw [o8 (by omega) (by omega)]; omega
  have e5 : ((cv v).take i ++ words.drop i).set i ((cv v).getD i 0) = (cv v).take (i + 1) ++ words.drop (i + 1) := by
   rw [List.set_append_right _ _ (by rw [List.length_take]; omega), List.length_take, vk, hv, Nat.min_eq_left (by omega), Nat.sub_self, List.drop_eq_getElem_cons (by omega), List.set_cons_zero, ← aln (cv v) 0 i (by rw [vk]; omega), List.append_assoc]
   rfl
  rw [av (by omega), av (by omega), av (by omega), av (by omega), av (by omega), e5, e4]
  exact hn'
 ·simp only [P.abf]
  rw [dn (by omega), List.drop_eq_nil_of_le (by omega), List.append_nil, List.take_of_length_le (by rw [vk]; omega)]
  rfl
theorem bds (words b : List Int) (hl : words.length = 8) (hi : In 18446744073709551616 words) (hb : In 256 b) (hn : b.length ≤ 1000000) {ρ : Type} (k : List Int → List Int → Option ρ) :
    P.o7 64 80 [1, 8, 7] [19, 61, 6] [28, 34, 39] [14, 18, 41] words b k = k (cv (thr p64 (toV 64 words) b (b.length / 128))) (rest 128 b) := by
 rw [P.afm]
 unfold P.abd
 refine (bsl words b 80 [1, 8, 7] [19, 61, 6] [28, 34, 39] [14, 18, 41] words (List.replicate 8 0) hi _).trans ?_
 rw [show IntKind.i64.wrap ((64 : Int) * 2) = 128 from rfl, bsh _ (akl _ _) b hb hn, bpv _ (aj5 _ _ (akl _ _) _ _) _ _ _ hl]
theorem bsa (v : List (BitVec 64)) (hv : v.length = 8) (b : List Int) (hb : In 256 b) (hn : b.length ≤ 1000000) (kd : Int) (tl : List Int) (sz : Int) (a1 : Int) (a2 : List Int) (a3 : Int) {ρ : Type} (k0 : Int → List Int → Int → List Int → List Int → Int → Int → List Int → Int → Option ρ) :
    P.am5 128 b kd (cv v) tl sz a1 a2 a3 k0 = k0 128 (rest 128 b) kd (cv (thr p64 v b (b.length / 128))) tl sz a1 a2 a3 := by
 rw [P.apq]
 unfold P.ara P.bwt P.bq9 P.bxl
 refine wu (fun i => (128, b.drop (128 * i), kd, cv (thr p64 v b i), tl, sz, a1, a2, a3)) (b.length / 128) (by simp [thr]) (fun i hi next hn' => ?_) (fun next => ?_) (by omega)
 ·simp only [P.ajx]
  have hlen : (b.drop (128 * i)).length = b.length - 128 * i := by simp
  have hge : 128 ≤ b.length - 128 * i := by omega
  simp only [hlen, show (128 : Int).toNat = 128 from rfl, toNat_cast, List.drop_zero]
  have hbl : ((b.drop (128 * i)).take 128).length = 16 * 8 := by rw [List.length_take, hlen]; omega
  rw [av (by omega), av (by omega), av (by omega), show ((128 : Int) == 128) = true from rfl, bks _ (aj5 _ _ hv _ _) _ ((hb.drop _).take _) hbl, av (by omega), av (by omega), av (by omega),
   List.take_of_length_le (by rw [hlen]; omega), List.drop_drop, show 128 * i + 128 = 128 * (i + 1) by omega]
  exact hn'
 ·simp only [P.ajx]
  have hlen : (b.drop (128 * (b.length / 128))).length = b.length - 128 * (b.length / 128) := by simp
  rw [dn (by rw [hlen]; omega)]
  rfl
end Q
end

section
/- Are two rows of bytes the same. -/
namespace Q
open Go Go.Abs
set_option linter.unusedVariables false
set_option linter.unusedSimpArgs false
end Q
end

section
/- SHA-2: sums that go on, and their ends. -/
namespace Q
open Go Go.Abs
set_option linter.unusedVariables false
set_option linter.unusedSimpArgs false
def bsz (kind : Int) : Nat := if kind = 1 then 64 else 128
theorem aif (kind : Int) : (kind = 1 ∧ bsz kind = 64) ∨ (kind ≠ 1 ∧ bsz kind = 128) := by
 unfold bsz
 by_cases h : kind = 1
 ·exact .inl ⟨h, if_pos h⟩
 ·exact .inr ⟨h, if_neg h⟩
theorem qp (kind : Int) {ρ : Type} (k : Int → Option ρ) : P.qp kind k = k ((bsz kind : Nat) : Int) := by
 rw [P.ak8]; unfold P.afd
 rcases aif kind with ⟨h, e⟩ | ⟨h, e⟩
 ·rw [dw h, e]; rfl
 ·rw [dx h, e]; rfl
theorem za (kind : Int) {ρ : Type} (k : Int → Option ρ) : P.za kind k = k ((bsz kind : Nat) : Int) := by
 rw [P.as3]; unfold P.akd
 rcases aif kind with ⟨h, e⟩ | ⟨h, e⟩
 ·rw [dw h, e]; rfl
 ·rw [dx h, e]; rfl
def apj (kind : Int) (words all : List Int) : List Int :=
 if kind = 1 then cv (thr p32 (toV 32 words) all (all.length / 64)) else cv (thr p64 (toV 64 words) all (all.length / 128))
theorem blx (kind : Int) (words all : List Int) : (apj kind words all).length = 8 := by
 unfold apj
 split <;> rw [vk, aj5 _ _ (akl _ _)]
def Wok (kind : Int) (words : List Int) : Prop := words.length = 8 ∧ In 18446744073709551616 words ∧ (kind = 1 → In 4294967296 words)
theorem asc (kind : Int) (words all : List Int) : Wok kind (apj kind words all) := by
 refine ⟨blx _ _ _, ?_, fun h => ?_⟩
 ·unfold apj
  split
  ·intro x hx
   have := bqa _ x hx
   omega
  ·intro x hx
   have := bqa _ x hx
   omega
 ·unfold apj
  rw [if_pos h]
  intro x hx
  have := bqa _ x hx
  omega
theorem azd (n : Nat) (hn : 0 < n) (b : List Int) : (rest n b).length = b.length % n := by
 unfold rest
 rw [List.length_drop]
 have := Nat.div_add_mod b.length n
 omega
theorem bkv {n : Nat} {b : List Int} (h : In 256 b) : In 256 (rest n b) := h.drop _
theorem ab7 {ρ : Type} (k : Int → Int → List Int → List Int → List Int → List Int → Option ρ) : P.ab7 k = k 32 64 [7, 18, 3] [17, 19, 10] [2, 13, 22] [6, 11, 25] := by rw [P.asv]; rfl
theorem abq {ρ : Type} (k : Int → Int → List Int → List Int → List Int → List Int → Option ρ) : P.abq k = k 64 80 [1, 8, 7] [19, 61, 6] [28, 34, 39] [14, 18, 41] := by rw [P.as4]; rfl
theorem yj (kind : Int) (words tail : List Int) (size : Int) (b : List Int) (hl : words.length = 8) (hi : In 18446744073709551616 words) (ht : In 256 tail) (hb : In 256 b) (hn : tail.length + b.length ≤ 1000000) {ρ : Type} (k : Int → List Int → List Int → Int → Option ρ) :
    P.yj kind words tail size b k = k kind (apj kind words (tail ++ b)) (rest (bsz kind) (tail ++ b)) (IntKind.u64.wrap (size + IntKind.u64.wrap (b.length : Int))) := by
 rw [P.ay2]; unfold P.ao1
 have hf : [tail, b].flatten = tail ++ b := by simp
 have hall : (tail ++ b).length ≤ 1000000 := by rw [List.length_append]; exact hn
 have hin : In 256 (tail ++ b) := ht.app hb
 have hr : ∀ n, (rest n (tail ++ b)).length ≤ 1000000 := fun n => by unfold rest; rw [List.length_drop]; omega
 rw [iy _ (by simp) (by rw [hf]; omega), hf]
 rcases aif kind with ⟨h, e⟩ | ⟨h, e⟩
 ·rw [dw h, ab7, e]
  rw [beu words _ hl hi hin hall]
  unfold P.oq apj
  have := hr 64
  rw [av (by omega), if_pos h]
 ·rw [dx h, abq, e]
  rw [bds words _ hl hi hin hall]
  unfold P.oq apj
  have := hr 128
  rw [av (by omega), if_neg h]
theorem ab0 (kind : Int) (words tail : List Int) (size : Int) (b : List Int) (hw : Wok kind words) (ht : In 256 tail) (hb : In 256 b) (hn : tail.length + b.length ≤ 1000000) {ρ : Type} (k : Int → List Int → List Int → Int → Option ρ) :
    P.ab0 kind words tail size b k = k kind (apj kind words (tail ++ b)) (rest (bsz kind) (tail ++ b)) (IntKind.u64.wrap (size + IntKind.u64.wrap (b.length : Int))) := by
 rw [P.ax8]; unfold P.ao6
 obtain ⟨hl, hi, h1⟩ := hw
 have hf : [tail, b].flatten = tail ++ b := by simp
 have hall : (tail ++ b).length ≤ 1000000 := by rw [List.length_append]; exact hn
 have hin : In 256 (tail ++ b) := ht.app hb
 rw [za, jv _ (by simp) (by rw [hf]; omega), hf]
 rcases aif kind with ⟨h, e⟩ | ⟨h, e⟩
 ·have hv := boc 32 words hl (h1 h)
  rw [e]
  conv => lhs; rw [← hv]
  rw [show ((64 : Nat) : Int) = 64 from rfl, bwi _ (akl _ _) _ hin hall]
  unfold apj
  rw [if_pos h]
 ·have hv := boc 64 words hl hi
  rw [e]
  conv => lhs; rw [← hv]
  rw [show ((128 : Nat) : Int) = 128 from rfl, bsa _ (akl _ _) _ hin hall]
  unfold apj
  rw [if_neg h]
def bhk (kind : Int) (tl : Nat) : Nat := if kind = 1 then (119 - tl) % 64 else (239 - tl) % 128 + 8
def pad (kind : Int) (tl : Nat) (size : Nat) : List Int := 128 :: List.replicate (bhk kind tl) 0 ++ (bsw 8 8 (size * 8 % 2 ^ 64)).reverse
def bee (n : Nat) (words : List Int) (i : Nat) : List Int := ((List.range i).map fun j => (bsw 8 n (words.getD j 0).toNat).reverse).flatten
theorem ap9 (n : Nat) (words : List Int) (i : Nat) : bee n words (i + 1) = bee n words i ++ (bsw 8 n (words.getD i 0).toNat).reverse := by simp [bee, List.range_succ]
theorem aij (n : Nat) (words : List Int) : ∀ i, (bee n words i).length = n * i
 | 0 => by simp [bee]
 | i + 1 => by rw [ap9, List.length_append, aij n words i, List.length_reverse, acv, Nat.mul_succ]
theorem bdy (n : Nat) (words : List Int) : ∀ i, In 256 (bee n words i)
 | 0 => by simp [bee, In]
 | i + 1 => by rw [ap9]; exact (bdy n words i).app (bi9 8 n _).rev
def bj7 (kind : Int) (words tail : List Int) (size : Nat) : List Int :=
 let o := bee (bsz kind / 16) (apj kind words (tail ++ pad kind tail.length size)) 8
 if kind = 2 then o.take 48 else o
theorem bq5 (kind : Int) (words tail : List Int) (size : Nat) : In 256 (bj7 kind words tail size) := by
 unfold bj7
 simp only
 split
 ·exact (bdy _ _ _).take _
 ·exact bdy _ _ _
theorem bmm (kind : Int) (words tail : List Int) (size : Nat) : (bj7 kind words tail size).length = if kind = 1 then 32 else if kind = 2 then 48 else 64 := by
 unfold bj7
 simp only
 rcases aif kind with ⟨h, e⟩ | ⟨h, e⟩
 ·rw [if_neg (by omega), if_pos h, aij, e]
 ·rw [if_neg h, e]
  split
  ·rw [List.length_take, aij]; decide
  ·rw [aij]
theorem tmN (a b : Nat) : ((a : Nat) : Int).tmod (b : Int) = ((a % b : Nat) : Int) := by
 rw [Int.tmod_eq_emod_of_nonneg (by omega)]; rfl
theorem bkh (kind : Int) (tl size : Nat) : In 256 (pad kind tl size) := by
 unfold pad
 refine In.app ?_ (bi9 8 8 _).rev
 intro x hx
 rcases List.mem_cons.1 hx with rfl | hx
 ·omega
 ·rw [List.mem_replicate] at hx; omega
theorem bi5 (kind : Int) (tl size : Nat) : (pad kind tl size).length = bhk kind tl + 9 := by
 unfold pad; simp
theorem bkc (kind : Int) (tl : Nat) : bhk kind tl ≤ 200 := by
 unfold bhk; split <;> omega
theorem bmp (n : Nat) (hn : n = 64 ∨ n = 128) (words : List Int) (hw : In 18446744073709551616 words) (a : Int) (b : List Int) (c : Int) (d : List Int) {ρ : Type} (k0 : Int → List Int → Int → List Int → Int → List Int → Int → List Int → Option ρ) :
    P.aok (n : Int) words 0 [] a b c d k0 = k0 (n : Int) words 8 (bee (n / 16) words 8) a b c d := by
 rw [P.awz]
 unfold P.awn P.bxw P.bwy P.b46
 have e16 : IntKind.i64.wrap ((n : Int).tdiv 16) = ((n / 16 : Nat) : Int) := by rcases hn with rfl | rfl <;> rfl
 refine wu (fun i => ((n : Int), words, (i : Int), bee (n / 16) words i, a, b, c, d)) 8 rfl (fun i hi next hn' => ?_) (fun next => ?_) (by omega)
 ·simp only [P.aob, toNat_cast]
  have h1 := hw.getD i (by omega)
  have e4 : IntKind.i64.wrap ((i : Int) + 1) = ((i + 1 : Nat) : Int) := by rw [o8 (by omega) (by omega)]; omega
  have e5 : words.getD i 0 = (((words.getD i 0).toNat : Nat) : Int) := by omega
  rw [ap9] at hn'
  rw [av (by omega), av (by omega), av (by omega), e16, e5, vo _ _ (by omega) (by omega), e4]
  rw [av (by rw [aij, List.length_reverse, acv]; rcases hn with rfl | rfl <;> omega)]
  exact hn'
 ·simp only [P.aob]
  rw [dn (by omega)]
  rfl
theorem shl3 (size : Nat) : IntKind.u64.wrap ((size : Int) * (2 : Int) ^ 3) = ((size * 8 % 2 ^ 64 : Nat) : Int) := by
 rw [bjf]; omega
theorem aej (kind : Int) (words tail : List Int) (size : Nat) (hl : words.length = 8) (hi : In 18446744073709551616 words) (ht : In 256 tail) (hn : tail.length < bsz kind) {ρ : Type} (k : List Int → Option ρ) :
    P.aej kind words tail (size : Int) k = k (bj7 kind words tail size) := by
 rw [P.ay5]; unfold P.aow
 rw [qp]
 have hz : IntKind.i64.wrap (IntKind.i64.wrap ((IntKind.i64.wrap (IntKind.i64.wrap (IntKind.i64.wrap (IntKind.i64.wrap ((2 : Int) * ((bsz kind : Nat) : Int)) - (1 : Int)) - IntKind.i64.wrap (((bsz kind : Nat) : Int).tdiv (8 : Int))) - (tail.length : Int))).tmod ((bsz kind : Nat) : Int) + IntKind.i64.wrap (((bsz kind : Nat) : Int).tdiv (8 : Int))) - (8 : Int)) = ((bhk kind tail.length : Nat) : Int) := by
  unfold bhk
  rcases aif kind with ⟨h, e⟩ | ⟨h, e⟩
  ·rw [e] at hn ⊢
   rw [if_pos h, show IntKind.i64.wrap (IntKind.i64.wrap (IntKind.i64.wrap ((2 : Int) * ((64 : Nat) : Int)) - (1 : Int)) - IntKind.i64.wrap (((64 : Nat) : Int).tdiv (8 : Int))) = 119 from rfl, o8 (x := (119 : Int) - (tail.length : Int)) (by omega) (by omega),
    show (119 : Int) - (tail.length : Int) = ((119 - tail.length : Nat) : Int) by omega, tmN, show IntKind.i64.wrap (((64 : Nat) : Int).tdiv (8 : Int)) = 8 from rfl, o8 (x := ((((119 - tail.length) % 64 : Nat) : Int)) + 8) (by omega) (by omega), o8 (by omega) (by omega)]
   omega
  ·rw [e] at hn ⊢
   rw [if_neg h, show IntKind.i64.wrap (IntKind.i64.wrap (IntKind.i64.wrap ((2 : Int) * ((128 : Nat) : Int)) - (1 : Int)) - IntKind.i64.wrap (((128 : Nat) : Int).tdiv (8 : Int))) = 239 from rfl, o8 (x := (239 : Int) - (tail.length : Int)) (by omega) (by omega),
    show (239 : Int) - (tail.length : Int) = ((239 - tail.length : Nat) : Int) by omega, tmN, show IntKind.i64.wrap (((128 : Nat) : Int).tdiv (8 : Int)) = 16 from rfl, o8 (x := ((((239 - tail.length) % 128 : Nat) : Int)) + 16) (by omega) (by omega), o8 (by omega) (by omega)]
   omega
 have hb : bsz kind = 64 ∨ bsz kind = 128 := by rcases aif kind with ⟨h, e⟩ | ⟨h, e⟩ <;> omega
 have hz2 := bkc kind tail.length
 rw [hz]
 simp only [toNat_cast]
 rw [av (by omega), av (by omega), dn (by omega), av (by omega), av (by omega), shl3, show (8 : Int) = ((8 : Nat) : Int) from rfl, vo _ 8 (by omega) (by omega)]
 have hp : (List.replicate 1 (0 : Int)).set 0 (128 : Int) ++ List.replicate (bhk kind tail.length) (0 : Int) ++ (bsw 8 8 (size * 8 % 2 ^ 64)).reverse = pad kind tail.length size := rfl
 rw [av (by
  show ((List.replicate (bhk kind tail.length) (0 : Int)).length + 0 + 1 + _) * 1 ≤ _
  rw [List.length_replicate, List.length_reverse, acv]; omega), hp]
 have hpl := bi5 kind tail.length size
 rw [yj kind words tail _ _ hl hi ht (bkh _ _ _) (by omega), bmp _ hb _ (asc _ _ _).2.1]
 unfold bj7
 simp only
 by_cases h2 : kind = 2
 ·have e : bsz kind = 128 := by unfold bsz; rw [if_neg (by omega)]
  rw [dw h2, av (by rw [aij, e]; omega), if_pos h2]
  rfl
 ·rw [dx h2, if_neg h2]
theorem pads (n : Nat) (hn : n = 64 ∨ n = 128) (tl : Nat) (ht : tl < 200) (z m : Nat) (hm : m < n) (h1 : ∀ i, i < z → (tl + (1 + i)) % n ≠ m) (h2 : (tl + (1 + z)) % n = m) (hz : z ≤ 200) (c : Int) (kd : Int) (words tail : List Int) (size : Int) (hl : tail.length = tl) (d : Int) (hd : IntKind.i64.wrap ((n : Int) - d) = (m : Int)) :
    (d = 8 → ∀ {ρ : Type} (k0 : Int → Int → List Int → Int → List Int → List Int → Int → Option ρ), P.aru (n : Int) c [128] kd words tail size k0 = k0 (n : Int) c (128 :: List.replicate z 0) kd words tail size) ∧
    (d = 16 → ∀ {ρ : Type} (k0 : Int → Int → List Int → Int → List Int → List Int → Int → Option ρ), P.ar1 (n : Int) c [128] kd words tail size k0 = k0 (n : Int) c (128 :: List.replicate z 0) kd words tail size) := by
 have hlen : ∀ i : Nat, ((128 : Int) :: List.replicate i 0).length = 1 + i := fun i => by simp; omega
 have hc : ∀ i : Nat, i ≤ z → IntKind.i64.wrap (((tail.length : Nat) : Int) + ((((128 : Int) :: List.replicate i 0).length : Nat) : Int)) = ((tl + (1 + i) : Nat) : Int) := fun i hi => by
  rw [hlen, hl, o8 (by omega) (by omega)]; omega
 have hs : ∀ i : Nat, ((128 : Int) :: List.replicate i 0) ++ [(0 : Int)] = 128 :: List.replicate (i + 1) 0 := fun i => by
  rw [List.replicate_succ']; rfl
 constructor
 ·rintro rfl ρ k0
  rw [P.ay7]
  unfold P.axh P.bxd P.bu4 P.b2i
  refine wu (fun i => ((n : Int), c, 128 :: List.replicate i 0, kd, words, tail, size)) z rfl (fun i hi next hn' => ?_) (fun next => ?_) (by omega)
  ·simp only [P.asi]
   have := h1 i hi
   rw [hc i (by omega), tmN, hd, dn (by omega), gq (by omega), av (by rw [hlen]; omega), hs]
   exact hn'
  ·simp only [P.asi]
   rw [hc z (by omega), tmN, hd, dn (by omega), h2, dz (by rfl)]
 ·rintro rfl ρ k0
  rw [P.aza]
  unfold P.axx P.bxf P.bvv P.b0s
  refine wu (fun i => ((n : Int), c, 128 :: List.replicate i 0, kd, words, tail, size)) z rfl (fun i hi next hn' => ?_) (fun next => ?_) (by omega)
  ·simp only [P.ar2]
   have := h1 i hi
   rw [hc i (by omega), tmN, hd, dn (by omega), gq (by omega), av (by rw [hlen]; omega), hs]
   exact hn'
  ·simp only [P.ar2]
   rw [hc z (by omega), tmN, hd, dn (by omega), h2, dz (by rfl)]
theorem bgr (n : Nat) (hn : n = 64 ∨ n = 128) (words : List Int) (hw : In 18446744073709551616 words) (a : Int) (b : List Int) (c : Int) {ρ : Type} (k0 : Int → Int → List Int → Int → List Int → List Int → Int → Option ρ) :
    P.akf (n : Int) 0 [] a words b c k0 = k0 (n : Int) 8 (bee (n / 16) words 8) a words b c := by
 rw [P.awy]
 unfold P.avl P.bw8 P.bwc P.b2g
 have e16 : IntKind.i64.wrap ((n : Int).tdiv 16) = ((n / 16 : Nat) : Int) := by rcases hn with rfl | rfl <;> rfl
 refine wu (fun i => ((n : Int), (i : Int), bee (n / 16) words i, a, words, b, c)) 8 rfl (fun i hi next hn' => ?_) (fun next => ?_) (by omega)
 ·simp only [P.aor, toNat_cast]
  have h1 := hw.getD i (by omega)
  have e4 : IntKind.i64.wrap ((i : Int) + 1) = ((i + 1 : Nat) : Int) := by rw [o8 (by omega) (by omega)]; omega
  have e5 : words.getD i 0 = (((words.getD i 0).toNat : Nat) : Int) := by omega
  rw [ap9] at hn'
  rw [av (by omega), av (by omega), av (by omega), e16, e5, zi _ _ (by omega) (by omega), e4]
  rw [av (by rw [aij, List.length_reverse, acv]; rcases hn with rfl | rfl <;> omega)]
  exact hn'
 ·simp only [P.aor]
  rw [dn (by omega)]
  rfl
theorem bgm (kind : Int) (words tail : List Int) (size : Nat) {ρ : Type} (k : List Int → Option ρ) :
    (br (kind == (2 : Int)) (br (decide ((48 : Int) ≤ ((bee (bsz kind / 16) (apj kind words (tail ++ pad kind tail.length size)) 8).length : Int))) (k (List.take ((48 : Int) - (0 : Int)).toNat (bee (bsz kind / 16) (apj kind words (tail ++ pad kind tail.length size)) 8))) none)
     (k (bee (bsz kind / 16) (apj kind words (tail ++ pad kind tail.length size)) 8))) = k (bj7 kind words tail size) := by
 unfold bj7
 simp only
 by_cases h2 : kind = 2
 ·have e : bsz kind = 128 := by unfold bsz; rw [if_neg (by omega)]
  rw [dw h2, av (by rw [aij, e]; omega), if_pos h2]
  rfl
 ·rw [dx h2, if_neg h2]
theorem ahj (kind : Int) (words tail : List Int) (size : Nat) (hw : Wok kind words) (ht : In 256 tail) (hn : tail.length < bsz kind) (hs : size < 2305843009213693952) {ρ : Type} (k : List Int → Option ρ) :
    P.ahj kind words tail (size : Int) k = k (bj7 kind words tail size) := by
 rw [P.axt]; unfold P.aov
 have h8 : IntKind.u64.wrap ((size : Int) * 8) = ((size * 8 % 2 ^ 64 : Nat) : Int) := by rw [bjf]; omega
 have hpl := bi5 kind tail.length size
 have hz2 := bkc kind tail.length
 rw [za, h8]
 rcases aif kind with ⟨h, e⟩ | ⟨h, e⟩
 ·rw [e] at hn ⊢
  have hp := (pads 64 (.inl rfl) tail.length (by omega) (bhk kind tail.length) 56 (by omega) (fun i hi => by unfold bhk at hi; rw [if_pos h] at hi; omega) (by unfold bhk; rw [if_pos h]; omega) hz2 ((size * 8 % 2 ^ 64 : Nat) : Int) kind words tail (size : Int) rfl 8 rfl).1
  rw [hp rfl, dx (by decide), show (8 : Int) = ((8 : Nat) : Int) from rfl, zi _ 8 (by omega) (by omega), av (by simp; omega)]
  have hpad : (128 : Int) :: List.replicate (bhk kind tail.length) 0 ++ (bsw 8 8 (size * 8 % 2 ^ 64)).reverse = pad kind tail.length size := rfl
  rw [hpad, ab0 kind words tail _ _ hw ht (bkh _ _ _) (by omega), bgr _ (.inl rfl) _ (asc _ _ _).2.1]
  have := bgm kind words tail size k
  rw [e] at this
  exact this
 ·rw [e] at hn ⊢
  have hp1 := (pads 128 (.inr rfl) tail.length (by omega) ((247 - tail.length) % 128) 120 (by omega) (fun i hi => by omega) (by omega) (by omega) ((size * 8 % 2 ^ 64 : Nat) : Int) kind words tail (size : Int) rfl 8 rfl).1
  have hp2 := (pads 128 (.inr rfl) tail.length (by omega) ((239 - tail.length) % 128) 112 (by omega) (fun i hi => by omega) (by omega) (by omega) ((size * 8 % 2 ^ 64 : Nat) : Int) kind words tail (size : Int) rfl 16 rfl).2
  have h61 : ((size : Nat) : Int).fdiv ((2 : Int) ^ 61) = ((0 : Nat) : Int) := by
   have := fdiv_pow size 61 61 (by omega)
   rw [Nat.div_eq_of_lt (by omega)] at this
   exact this
  rw [hp1 rfl, dw (by rfl), hp2 rfl, h61, show (8 : Int) = ((8 : Nat) : Int) from rfl, zi _ 8 (by omega) (by omega), av (by simp; omega), zi _ 8 (by omega) (by omega), av (by simp; omega)]
  have hpad : (128 : Int) :: List.replicate ((239 - tail.length) % 128) 0 ++ (bsw 8 8 0).reverse ++ (bsw 8 8 (size * 8 % 2 ^ 64)).reverse = pad kind tail.length size := by
   unfold pad bhk
   rw [if_neg h, ← List.replicate_append_replicate]
   rfl
  rw [hpad, ab0 kind words tail _ _ hw ht (bkh _ _ _) (by omega), bgr _ (.inr rfl) _ (asc _ _ _).2.1]
  have := bgm kind words tail size k
  rw [e] at this
  exact this
def bc7 (kind : Int) : List Int :=
 if kind = 1 then [1779033703, 3144134277, 1013904242, 2773480762, 1359893119, 2600822924, 528734635, 1541459225]
 else if kind = 2 then [14680500436340154072, 7105036623409894663, 10473403895298186519, 1526699215303891257, 7436329637833083697, 10282925794625328401, 15784041429090275239, 5167115440072839076]
 else [7640891576956012808, 13503953896175478587, 4354685564936845355, 11912009170470909681, 5840696475078001361, 11170449401992604703, 2270897969802886507, 6620516959819538809]
theorem bij (kind : Int) : Wok kind (bc7 kind) := by
 unfold bc7 Wok
 by_cases h1 : kind = 1
 ·simp only [if_pos h1]
  refine ⟨rfl, ?_, fun _ => ?_⟩
  ·unfold In; decide
  ·unfold In; decide
 ·by_cases h2 : kind = 2
  ·simp only [if_neg h1, if_pos h2]
   refine ⟨rfl, ?_, fun h => absurd h h1⟩
   unfold In; decide
  ·simp only [if_neg h1, if_neg h2]
   refine ⟨rfl, ?_, fun h => absurd h h1⟩
   unfold In; decide
def K3 (kind : Int) : Prop := kind = 1 ∨ kind = 2 ∨ kind = 3
theorem bez {kind : Int} (h : K3 kind) {ρ : Type} (k : List Int → Bool → Option ρ) : P.adz kind k = k (bc7 kind) true := by
 rw [P.atc]
 rcases h with rfl | rfl | rfl <;> kernel_rfl
theorem ag5 {kind : Int} (h : K3 kind) {ρ : Type} (k : Int → List Int → List Int → Int → Int → Option ρ) : P.ag5 kind k = k kind (bc7 kind) [] 0 0 := by
 rw [P.ayy]; unfold P.ao8
 rw [bez h, lq, o9]
theorem ahp {kind : Int} (h : K3 kind) {ρ : Type} (k : Int → List Int → List Int → Int → Int → Option ρ) : P.ahp kind k = k kind (bc7 kind) [] 0 0 := by
 rw [P.ay0]; unfold P.aoe bc7
 rcases h with rfl | rfl | rfl
 ·rw [dw (by rfl)]; rfl
 ·rw [dx (by decide), dw (by rfl)]; rfl
 ·rw [dx (by decide), dx (by decide), dw (by rfl)]; rfl
theorem ar0 (kind : Int) : 0 < bsz kind := by rcases aif kind with ⟨h, e⟩ | ⟨h, e⟩ <;> omega
def bl0 (kind : Int) (b : List Int) : List Int := bj7 kind (apj kind (bc7 kind) b) (rest (bsz kind) b) b.length
theorem bfo (b : List Int) (hn : b.length ≤ 1000000) : IntKind.u64.wrap ((0 : Int) + IntKind.u64.wrap (b.length : Int)) = ((b.length : Nat) : Int) := by
 rw [ah5 _ (by omega), Int.zero_add, ah5 _ (by omega)]
theorem aek {kind : Int} (h : K3 kind) (b : List Int) (hb : In 256 b) (hn : b.length ≤ 1000000) {ρ : Type} (k : List Int → Int → Option ρ) : P.aek kind b k = k (bl0 kind b) 0 := by
 rw [P.ayi]; unfold P.aon
 have hw := bij kind
 have hr := azd _ (ar0 kind) b
 have hlt := Nat.mod_lt b.length (ar0 kind)
 rw [ahp h, dz (by rfl), ab0 kind _ [] _ b hw In.nil hb (by simpa using hn), List.nil_append, bfo b hn, ahj kind _ _ _ (asc _ _ _) (bkv hb) (by omega) (by omega)]
 rfl
theorem bo2 (kind : Int) (b : List Int) : In 256 (bl0 kind b) := bq5 _ _ _ _
theorem bl3 (kind : Int) (b : List Int) : (bl0 kind b).length = if kind = 1 then 32 else if kind = 2 then 48 else 64 := bmm _ _ _ _
end Q
end

section
/- SHA-2: which sums can be, which are the same; the examples. -/
namespace Q
open Go Go.Abs
set_option linter.unusedVariables false
set_option linter.unusedSimpArgs false
theorem first (p : Nat → Bool) : ∀ n, ∃ m, m ≤ n ∧ (∀ i, i < m → p i = true) ∧ (m = n ∨ (m < n ∧ p m = false))
 | 0 => ⟨0, by omega, by omega, .inl rfl⟩
 | n + 1 => by
  obtain ⟨m, h1, h2, h3⟩ := first p n
  rcases h3 with h3 | ⟨h3, h4⟩
  ·subst h3
   cases hp : p m with
   | true => exact ⟨m + 1, by omega, fun i hi => by
       by_cases e : i = m
       ·rw [e]; exact hp
       ·exact h2 i (by omega), .inl rfl⟩
   | false => exact ⟨m, by omega, h2, .inr ⟨by omega, hp⟩⟩
  ·exact ⟨m, by omega, h2, .inr ⟨by omega, h4⟩⟩
end Q
end

section
/- mac: digests, with keys and without. -/
namespace Q
open QK
open Go Go.Abs
set_option linter.unusedVariables false
set_option linter.unusedSimpArgs false
def K7 (kd : Int) : Prop := kd = 1 ∨ kd = 2 ∨ kd = 3 ∨ kd = 4 ∨ kd = 5 ∨ kd = 6 ∨ kd = 7
theorem K7.of {kd : Int} (h : 1 ≤ kd ∧ kd ≤ 7) : K7 kd := by unfold K7; omega
theorem bwh {α : Type} (a b : List α) (x y : α) (i : Nat) (h : a.length = i) : (a ++ x :: b).set i y = a ++ y :: b := by
 subst h
 rw [List.set_append_right _ _ (Nat.le_refl _), Nat.sub_self]
 rfl
def bk (kd : Int) : Nat := if kd ≤ 3 then bsz kd else rOf kd
end Q
end

section
/- mac: bytes of keys and of seeds. -/
namespace Q
open QK
open Go Go.Abs
set_option linter.unusedVariables false
set_option linter.unusedSimpArgs false
def cat (T : Nat → List Int) : Nat → List Int
 | 0 => []
 | j + 1 => cat T j ++ T j
theorem al0 {T : Nat → List Int} {d : Nat} (h : ∀ i, (T i).length = d) : ∀ j, (cat T j).length = j * d
 | 0 => by simp [cat]
 | j + 1 => by rw [cat, List.length_append, al0 h j, h, Nat.succ_mul]
theorem bj6 {T : Nat → List Int} (h : ∀ i, In 256 (T i)) : ∀ j, In 256 (cat T j)
 | 0 => In.nil
 | j + 1 => (bj6 h j).app (h j)
end Q
end

section
/- SHA-2: bytes that are added one behind the other. -/
namespace Q
open Go Go.Abs
set_option linter.unusedVariables false
set_option linter.unusedSimpArgs false
theorem axr {w : Nat} (p : Par w) (v : List (BitVec w)) (a b : List Int) (m : Nat) (hm : (2 * w) * m = a.length) : ∀ i, thr p v (a ++ b) (m + i) = thr p (thr p v a m) b i ∧ thr p v (a ++ b) m = thr p v a m := by
 have key : ∀ i, i ≤ m → thr p v (a ++ b) i = thr p v a i := by
  intro i
  induction i with
  | zero => intro _; rfl
  | succ i ih =>
   intro hi
   have h1 : (2 * w) * i + 2 * w ≤ a.length := by
    rw [← hm, ← Nat.mul_succ]
    exact Nat.mul_le_mul (Nat.le_refl _) hi
   simp only [thr]
   rw [ih (by omega), List.drop_append_of_le_length (by omega), List.take_append_of_le_length (by rw [List.length_drop]; omega)]
 intro i
 refine ⟨?_, key m (Nat.le_refl _)⟩
 induction i with
 | zero => exact key m (Nat.le_refl _)
 | succ i ih =>
  rw [← Nat.add_assoc]
  simp only [thr]
  rw [ih, Nat.mul_add, hm, List.drop_append, List.drop_eq_nil_of_le (by omega), List.nil_append, Nat.add_sub_cancel_left]
end Q
end

section
/- lmots: the digits as the program and as the document count them. -/
namespace Q
open Go Go.Abs
set_option linter.unusedVariables false
set_option linter.unusedSimpArgs false
end Q
end

section
/- wots: the digits of a text. -/
namespace Q
open Go Go.Abs
set_option linter.unusedVariables false
set_option linter.unusedSimpArgs false
def wl (n : Nat) (x : List Int) : Nat := 15 * (2 * n) - sumTo (abv x 4 ((2 * n : Nat) : Int)) (2 * n)
end Q
end

section
/- wots: kinds, places, digits, by the program and by the document. -/
namespace Q
open QK
open Go Go.Abs
set_option linter.unusedVariables false
set_option linter.unusedSimpArgs false
def aar (N H D A K : Int) : Prop := (N = 16 ∨ N = 24 ∨ N = 32) ∧ 1 ≤ D ∧ H ≤ 68 ∧ D ≤ H ∧ H.tmod D = 0 ∧ IntKind.i64.wrap (H.tdiv D) ≤ 9 ∧ 1 ≤ A ∧ A ≤ 14 ∧ 1 ≤ K ∧ K ≤ 40
instance (N H D A K : Int) : Decidable (aar N H D A K) := by unfold aar; infer_instance
theorem azu (N H D A K : Int) (hN : N = 16 ∨ N = 24 ∨ N = 32) {ρ : Type} (k : Bool → Option ρ) :
    (br (decide (D < (1 : Int))) (k false) (br (decide (H < D)) (k false) (br (decide (H > (68 : Int))) (k false)
     (br (decide (D = (0 : Int))) none (br (H.tmod D != (0 : Int)) (k false) (br (decide (D = (0 : Int))) none
      (br (decide (IntKind.i64.wrap (H.tdiv D) > (9 : Int))) (k false) (br (decide (A ≥ (1 : Int)))
       (br (decide (A ≤ (14 : Int))) (br (decide (K ≥ (1 : Int))) (k (decide (K ≤ (40 : Int)))) (k false)) (k false)) (k false))))))))) = k (decide (aar N H D A K)) := by
 by_cases h1 : D < 1
 ·rw [av h1, decide_eq_false (by unfold aar; omega)]
 rw [dn h1]
 by_cases h2 : H < D
 ·rw [av h2, decide_eq_false (by unfold aar; omega)]
 rw [dn h2]
 by_cases h3 : H > 68
 ·rw [av h3, decide_eq_false (by unfold aar; omega)]
 rw [dn h3, dn (by omega)]
 by_cases h4 : H.tmod D = 0
 ·rw [dz h4, dn (by omega)]
  by_cases h5 : IntKind.i64.wrap (H.tdiv D) > 9
  ·rw [av h5, decide_eq_false (by unfold aar; omega)]
  rw [dn h5]
  by_cases h6 : A ≥ 1
  ·rw [av h6]
   by_cases h7 : A ≤ 14
   ·rw [av h7]
    by_cases h8 : K ≥ 1
    ·rw [av h8]
     congr 1
     apply decide_eq_decide.2
     unfold aar
     omega
    ·rw [dn h8, decide_eq_false (by unfold aar; omega)]
   ·rw [dn h7, decide_eq_false (by unfold aar; omega)]
  ·rw [dn h6, decide_eq_false (by unfold aar; omega)]
 ·rw [gq h4, decide_eq_false (by unfold aar; omega)]
theorem mq (N H D A K : Int) (z : Bool) {ρ : Type} (k : Bool → Option ρ) : P.mq N H D A K z k = k (decide (aar N H D A K)) := by
 rw [P.aus]; unfold P.amo
 by_cases h1 : N = 16
 ·rw [dz h1]; exact azu N H D A K (.inl h1) k
 rw [gq h1]
 by_cases h2 : N = 24
 ·rw [dz h2]; exact azu N H D A K (.inr (.inl h2)) k
 rw [gq h2]
 by_cases h3 : N = 32
 ·rw [dz h3]; exact azu N H D A K (.inr (.inr h3)) k
 rw [gq h3, decide_eq_false (by unfold aar; omega)]
theorem au1 (N H D A K : Int) (hN : N = 16 ∨ N = 24 ∨ N = 32) {ρ : Type} (k : Bool → Option ρ) :
    (br (decide (D ≥ (1 : Int))) (br (decide (H ≤ (68 : Int))) (br (decide (H ≥ D)) (br (decide (D = (0 : Int))) none
       (br (H.tmod D == (0 : Int)) (br (decide (D = (0 : Int))) none (br (decide (IntKind.i64.wrap (H.tdiv D) ≤ (9 : Int)))
          (br (decide (A ≥ (1 : Int))) (br (decide (A ≤ (14 : Int))) (br (decide (K ≥ (1 : Int))) (k (decide (K ≤ (40 : Int)))) (k false)) (k false))
          (k false)) (k false))) (k false))) (k false)) (k false)) (k false)) = k (decide (aar N H D A K)) := by
 by_cases h1 : D ≥ 1
 ·rw [av h1]
  by_cases h3 : H ≤ 68
  ·rw [av h3]
   by_cases h2 : H ≥ D
   ·rw [av h2, dn (by omega)]
    by_cases h4 : H.tmod D = 0
    ·rw [dw h4, dn (by omega)]
     by_cases h5 : IntKind.i64.wrap (H.tdiv D) ≤ 9
     ·rw [av h5]
      by_cases h6 : A ≥ 1
      ·rw [av h6]
       by_cases h7 : A ≤ 14
       ·rw [av h7]
        by_cases h8 : K ≥ 1
        ·rw [av h8]
         congr 1
         apply decide_eq_decide.2
         unfold aar
         omega
        ·rw [dn h8, decide_eq_false (by unfold aar; omega)]
       ·rw [dn h7, decide_eq_false (by unfold aar; omega)]
      ·rw [dn h6, decide_eq_false (by unfold aar; omega)]
     ·rw [dn h5, decide_eq_false (by unfold aar; omega)]
    ·rw [dx h4, decide_eq_false (by unfold aar; omega)]
   ·rw [dn h2, decide_eq_false (by unfold aar; omega)]
  ·rw [dn h3, decide_eq_false (by unfold aar; omega)]
 ·rw [dn h1, decide_eq_false (by unfold aar; omega)]
theorem qo (N H D A K : Int) (z : Bool) {ρ : Type} (k : Bool → Option ρ) : P.qo N H D A K z k = k (decide (aar N H D A K)) := by
 rw [P.ax9]; unfold P.aoc
 by_cases h1 : N = 16
 ·rw [dz h1]; exact au1 N H D A K (.inl h1) k
 rw [gq h1]
 by_cases h2 : N = 24
 ·rw [dz h2]; exact au1 N H D A K (.inr (.inl h2)) k
 rw [gq h2]
 by_cases h3 : N = 32
 ·rw [dz h3]; exact au1 N H D A K (.inr (.inr h3)) k
 rw [gq h3, decide_eq_false (by unfold aar; omega)]
def at1 (a : List Int) (i : Nat) (b : List Int) : List Int := a.take i ++ b ++ a.drop (i + b.length)
theorem apz (a : List Int) (i : Nat) (b : List Int) (h : i + b.length ≤ a.length) : (at1 a i b).length = a.length := by
 unfold at1; simp; omega
theorem bam {a : List Int} {i : Nat} {b : List Int} (ha : In 256 a) (hb : In 256 b) : In 256 (at1 a i b) := ((ha.take i).app hb).app (ha.drop _)
def be4 (n v : Nat) : List Int := (bsw 8 n v).reverse
theorem aao (n v : Nat) : (be4 n v).length = n := by simp [be4]
theorem bgt (n v : Nat) : In 256 (be4 n v) := (bi9 8 n v).rev
def apf (a : List Int) (part : Int) (v : Nat) : List Int :=
 if part = 0 then at1 a 0 (be4 4 v) else if part = 1 then at1 a 4 (be4 12 v) else if part = 2 then at1 a 16 (be4 4 v ++ List.replicate 12 0)
 else if part = 3 ∨ part = 4 ∨ part = 5 then at1 a (8 + 4 * part.toNat) (be4 4 v) else a
theorem qw {a : List Int} (h : a.length = 32) (part : Int) (v : Nat) : (apf a part v).length = 32 := by
 unfold apf
 have h4 := aao 4 v
 have h12 := aao 12 v
 split
 ·rw [apz _ _ _ (by omega), h]
 split
 ·rw [apz _ _ _ (by omega), h]
 split
 ·rw [apz _ _ _ (by rw [List.length_append, List.length_replicate]; omega), h]
 split
 ·rw [apz _ _ _ (by omega), h]
 exact h
theorem ag8 {a : List Int} (h : In 256 a) (part : Int) (v : Nat) : In 256 (apf a part v) := by
 unfold apf
 split
 ·exact bam h (bgt _ _)
 split
 ·exact bam h (bgt _ _)
 split
 ·exact bam h ((bgt _ _).app (fun x hx => by rw [List.mem_replicate] at hx; omega))
 split
 ·exact bam h (bgt _ _)
 exact h
theorem cpy (a : List Int) (i m : Nat) (b : List Int) (hb : b.length ≤ m) : (a.take i).append (b.take m ++ a.drop (i + min m b.length)) = at1 a i b := by
 rw [List.take_of_length_le hb, Nat.min_eq_right hb]
 show a.take i ++ (b ++ _) = _
 rw [← List.append_assoc]
 rfl
theorem oz {a : List Int} (h : a.length = 32) (part : Int) (v : Nat) (hv : v < 18446744073709551616) {ρ : Type} (k : List Int → Option ρ) : P.oz a part (v : Int) k = k (apf a part v) := by
 rw [P.awj]; unfold P.alj apf
 have h4 : (bsw 8 4 v).reverse.length = 4 := by simp
 have h12 : (bsw 8 12 v).reverse.length = 12 := by simp
 have be : ∀ (k' : List Int → Option ρ), P.vo (v : Int) 4 k' = k' (be4 4 v) := fun k' => vo v 4 hv (by omega) k'
 have be' : ∀ (k' : List Int → Option ρ), P.vo (v : Int) 12 k' = k' (be4 12 v) := fun k' => vo v 12 hv (by omega) k'
 by_cases h0 : part = 0
 ·rw [dw h0, if_pos h0, be]
  exact congrArg k (by rw [← cpy a 0 4 (be4 4 v) (by rw [aao]; omega)]; rfl)
 rw [dx h0, if_neg h0]
 by_cases h1 : part = 1
 ·rw [dw h1, if_pos h1, be']
  exact congrArg k (cpy a 4 12 _ (by rw [aao]; omega))
 rw [dx h1, if_neg h1]
 by_cases h2 : part = 2
 ·have e : [be4 4 v, List.replicate 12 (0 : Int)].flatten = be4 4 v ++ List.replicate 12 0 := by simp
  rw [dw h2, if_pos h2, be, jq _ (by simp) (by rw [e]; simp [aao]), e]
  exact congrArg k (cpy a 16 16 _ (by rw [List.length_append, aao, List.length_replicate]; omega))
 rw [dx h2, if_neg h2]
 have fin : ∀ (p : Nat), part = (p : Int) → 3 ≤ p → p ≤ 5 → (br (decide ((0 : Int) ≤ IntKind.i64.wrap ((8 : Int) + IntKind.i64.wrap ((4 : Int) * part))))
     (br (decide (IntKind.i64.wrap ((8 : Int) + IntKind.i64.wrap ((4 : Int) * part)) ≤ ((32 : Nat) : Int)))
      (P.vo (v : Int) (4 : Int) fun (q4 : List Int) =>
       k ((List.take (IntKind.i64.wrap ((8 : Int) + IntKind.i64.wrap ((4 : Int) * part))).toNat a).append
        (List.take (((32 : Nat) : Int) - IntKind.i64.wrap ((8 : Int) + IntKind.i64.wrap ((4 : Int) * part))).toNat q4 ++
         List.drop ((IntKind.i64.wrap ((8 : Int) + IntKind.i64.wrap ((4 : Int) * part))).toNat +
          min (((32 : Nat) : Int) - IntKind.i64.wrap ((8 : Int) + IntKind.i64.wrap ((4 : Int) * part))).toNat q4.length) a))) none) none) = k (at1 a (8 + 4 * part.toNat) (be4 4 v)) := by
  intro p hp h3 h5
  subst hp
  have e : IntKind.i64.wrap ((8 : Int) + IntKind.i64.wrap ((4 : Int) * (p : Int))) = ((8 + 4 * p : Nat) : Int) := by
   rw [o8 (x := 4 * (p : Int)) (by omega) (by omega), o8 (by omega) (by omega)]; omega
  rw [e, av (by omega), av (by omega), be, show (((32 : Nat) : Int) - ((8 + 4 * p : Nat) : Int)).toNat = 24 - 4 * p by omega, toNat_cast, toNat_cast]
  exact congrArg k (cpy a _ _ _ (by rw [aao]; omega))
 by_cases h3 : part = 3
 ·rw [dw h3, dw h3, if_pos (.inl h3)]
  exact fin 3 h3 (by omega) (by omega)
 rw [dx h3]
 by_cases h4' : part = 4
 ·rw [dw h4', dw h4', if_pos (.inr (.inl h4'))]
  exact fin 4 h4' (by omega) (by omega)
 rw [dx h4']
 by_cases h5 : part = 5
 ·rw [dw h5, if_pos (.inr (.inr h5))]
  exact fin 5 h5 (by omega) (by omega)
 rw [dx h5, if_neg (by omega)]
theorem zn {a : List Int} (h : a.length = 32) (i : Nat) (b : List Int) (hb : i + b.length ≤ 32) {ρ : Type} (k : List Int → Option ρ) : P.zn a (i : Int) b k = k (at1 a i b) := by
 rw [P.axn]; unfold P.an8
 rw [P.bao]; unfold P.axd P.bw9 P.bt1 P.byq
 refine wu (fun j => ((i : Int), b, (j : Int), at1 a i (b.take j), ([0, 0, 0, 0, 0, 0, 0, 0, 0, 0, 0, 0, 0, 0, 0, 0, 0, 0, 0, 0, 0, 0, 0, 0, 0, 0, 0, 0, 0, 0, 0, 0] : List Int))) b.length (by simp [at1]) (fun j hj next hn => ?_) (fun next => ?_) (by omega)
 ·have e1 : (at1 a i (b.take j)).set (i + j) (b.getD j 0) = at1 a i (b.take (j + 1)) := by
    unfold at1
    rw [List.length_take, List.length_take, Nat.min_eq_left (by omega), Nat.min_eq_left (by omega), aeh a 0 (i + j) (by omega), bwh _ _ _ _ (i + j) (by simp; omega), List.take_succ_eq_append_getElem hj, getD_lt hj]
    simp only [Nat.add_assoc, List.append_assoc, List.singleton_append, List.length_append, List.length_singleton]
    done
  simp only [P.ash, toNat_cast]
  rw [av (by omega), av (by omega), av (by omega), o8 (x := (i : Int) + (j : Int)) (by omega) (by omega), av (by omega), av (by omega), o8 (by omega) (by omega), show ((i : Int) + (j : Int)).toNat = i + j by omega, e1]
  exact hn
 ·simp only [P.ash]
  rw [dn (by omega), List.take_length]
theorem wh {a : List Int} (h : a.length = 32) (part : Int) (v : Nat) (hv : v < 18446744073709551616) {ρ : Type} (k : List Int → Option ρ) : P.wh a part (v : Int) k = k (apf a part v) := by
 rw [P.ayc]; unfold P.aot apf
 have be : ∀ (k' : List Int → Option ρ), P.zi (v : Int) 4 k' = k' (be4 4 v) := fun k' => zi v 4 hv (by omega) k'
 have be' : ∀ (k' : List Int → Option ρ), P.zi (v : Int) 12 k' = k' (be4 12 v) := fun k' => zi v 12 hv (by omega) k'
 by_cases h0 : part = 0
 ·rw [dw h0, if_pos h0, be]
  exact zn h 0 _ (by rw [aao]; omega) _
 rw [dx h0, if_neg h0]
 by_cases h1 : part = 1
 ·rw [dw h1, if_pos h1, be']
  exact zn h 4 _ (by rw [aao]; omega) _
 rw [dx h1, if_neg h1]
 by_cases h2 : part = 2
 ·have hl := apz a 16 (be4 4 v) (by rw [aao]; omega)
  rw [dw h2, if_pos h2, be]
  refine (zn h 16 _ (by rw [aao]; omega) _).trans ((zn (by rw [hl, h]) 20 _ (by simp) _).trans (congrArg k ?_))
  unfold at1
  have e1 : (a.take 16 ++ be4 4 v).length = 20 := by rw [List.length_append, List.length_take, aao]; omega
  rw [aao, List.length_append, aao, List.length_replicate, List.take_append_of_le_length (by omega), List.take_of_length_le (by omega), List.drop_append, List.drop_eq_nil_of_le (by omega), e1, List.drop_drop, List.append_assoc (a.take 16)]
  rfl
 rw [dx h2, if_neg h2]
 have fin : ∀ (p : Nat), part = (p : Int) → 3 ≤ p → p ≤ 5 → (P.zi (v : Int) (4 : Int) fun (q7 : List Int) => P.zn a (IntKind.i64.wrap ((8 : Int) + IntKind.i64.wrap ((4 : Int) * part))) q7 fun (q8 : List Int) => k q8) = k (at1 a (8 + 4 * part.toNat) (be4 4 v)) := by
  intro p hp h3 h5
  subst hp
  have e : IntKind.i64.wrap ((8 : Int) + IntKind.i64.wrap ((4 : Int) * (p : Int))) = ((8 + 4 * p : Nat) : Int) := by
   rw [o8 (x := 4 * (p : Int)) (by omega) (by omega), o8 (by omega) (by omega)]; omega
  rw [e, be, zn h _ _ (by rw [aao]; omega), toNat_cast]
 by_cases h3 : part = 3
 ·rw [dw h3, dw h3, if_pos (.inl h3)]
  exact fin 3 h3 (by omega) (by omega)
 rw [dx h3]
 by_cases h4' : part = 4
 ·rw [dw h4', dw h4', if_pos (.inr (.inl h4'))]
  exact fin 4 h4' (by omega) (by omega)
 rw [dx h4']
 by_cases h5 : part = 5
 ·rw [dw h5, if_pos (.inr (.inr h5))]
  exact fin 5 h5 (by omega) (by omega)
 rw [dx h5, if_neg (by omega)]
end Q
end

section
/- wots: sums at places. -/
namespace Q
open QK
open Go Go.Abs
set_option linter.unusedVariables false
set_option linter.unusedSimpArgs false
theorem bns {kind : Int} (w blk b : List Int) (hl : blk.length = bsz kind) : apj kind (apj kind w blk) b = apj kind w (blk ++ b) := by
 unfold apj
 rcases aif kind with ⟨h, e⟩ | ⟨h, e⟩
 ·rw [e] at hl
  have := (axr p32 (toV 32 w) blk b 1 (by omega) (b.length / 64)).1
  simp only [if_pos h]
  rw [bn8 _ (aj5 _ _ (akl _ _) _ _), List.length_append, hl, show (64 + b.length) / 64 = 1 + b.length / 64 by omega, Nat.div_self (by omega), this]
 ·rw [e] at hl
  have := (axr p64 (toV 64 w) blk b 1 (by omega) (b.length / 128)).1
  simp only [if_neg h]
  rw [bn8 _ (aj5 _ _ (akl _ _) _ _), List.length_append, hl, show (128 + b.length) / 128 = 1 + b.length / 128 by omega, Nat.div_self (by omega), this]
theorem bnk {n : Nat} (hn : 0 < n) (blk b : List Int) (hl : blk.length = n) : rest n (blk ++ b) = rest n b := by
 unfold rest
 rw [List.length_append, hl, Nat.add_comm n, Nat.add_div_right _ hn, Nat.mul_succ, List.drop_append, List.drop_eq_nil_of_le (by omega), List.nil_append, hl, Nat.add_sub_cancel]
def blk (kind : Int) (pub : List Int) : List Int := pub ++ List.replicate (bsz kind - pub.length) 0
theorem bet (kind : Int) (pub : List Int) (h : pub.length ≤ 64) : (blk kind pub).length = bsz kind := by
 unfold blk
 rcases aif kind with ⟨_, e⟩ | ⟨_, e⟩ <;> rw [List.length_append, List.length_replicate, e] <;> omega
theorem bn0 {kind : Int} {pub : List Int} (h : In 256 pub) : In 256 (blk kind pub) := h.app (fun x hx => by rw [List.mem_replicate] at hx; omega)
theorem uw {kind : Int} (h : K3 kind) (pub : List Int) (hp : In 256 pub) (hn : pub.length ≤ 64) (B : Int) (hB : B = ((bsz kind : Nat) : Int)) {ρ : Type} (k : Int → List Int → List Int → Int → Option ρ) :
    P.uw kind B pub k = k kind (apj kind (bc7 kind) (blk kind pub)) [] B := by
 have hb : bsz kind = 64 ∨ bsz kind = 128 := by rcases aif kind with ⟨_, e⟩ | ⟨_, e⟩ <;> omega
 have hw := bij kind
 have e1 : [pub].flatten = pub := by simp
 have e2 : IntKind.i64.wrap (B - (pub.length : Int)) = ((bsz kind - pub.length : Nat) : Int) := by rw [o8 (by omega) (by omega)]; omega
 have hl := bet kind pub hn
 have er : rest (bsz kind) (blk kind pub) = [] := List.eq_nil_of_length_eq_zero (by rw [azd _ (ar0 kind), hl, Nat.mod_self])
 have e3 := bfo (blk kind pub) (by omega)
 rw [P.an2]; unfold P.ahg
 rw [ag5 h, jq _ (by simp) (by rw [e1]; omega), e1, e2, toNat_cast, av (by omega), av (by omega)]
 show P.yj kind (bc7 kind) [] 0 (blk kind pub) _ = _
 rw [yj kind _ [] _ _ hw.1 hw.2.1 In.nil (bn0 hp) (by rw [List.length_nil]; omega), List.nil_append, er, e3, hl, hB]
def sho (a : List Int) : List Int := (a.drop 3).take 1 ++ ((a.drop 8).take 8 ++ (a.drop 19).take 13)
theorem bah (a : List Int) : (sho a).length ≤ 22 := by unfold sho; simp; omega
theorem bos {a : List Int} (h : In 256 a) : In 256 (sho a) := ((h.drop _).take _).app (((h.drop _).take _).app ((h.drop _).take _))
theorem uy (a : List Int) {ρ : Type} (k : List Int → Option ρ) : P.uy a k = k (sho a) := by
 have e : [List.take 1 (List.drop 3 a), List.take 8 (List.drop 8 a), List.take 13 (List.drop 19 a)].flatten = sho a := by unfold sho; simp
 have := bah a
 rw [P.aqr]; unfold P.ai4
 rw [jq _ (by simp) (by rw [e]; omega), e]
theorem zw (a : List Int) {ρ : Type} (k : List Int → Option ρ) : P.zw a k = k (sho a) := by
 have e0 : List.take 13 (List.drop 19 a) = List.take 1 (List.drop 19 a) ++ List.take 12 (List.drop 20 a) := by
  rw [show (13 : Nat) = 1 + 12 from rfl, List.take_add, List.drop_drop]
 have e : [List.take 1 (List.drop 3 a), List.take 8 (List.drop 8 a), List.take 1 (List.drop 19 a), List.take 12 (List.drop 20 a)].flatten = sho a := by unfold sho; rw [e0]; simp
 have := bah a
 rw [P.asr]; unfold P.akc
 rw [jv _ (by simp) (by rw [e]; omega), e]
def hk (n : Nat) (t : List Int) : Int := if 16 < n ∧ n < t.length then 3 else 1
def bdj (n : Nat) (sh : Bool) (pub a t : List Int) : List Int := if sh then buk 7 (pub ++ (a ++ t)) n else (bl0 (hk n t) (blk (hk n t) pub ++ (sho a ++ t))).take n
theorem bdq {kd : Int} (h : kd = 1 ∨ kd = 3) (b : List Int) : 32 ≤ (bl0 kd b).length := by
 rw [bl3]; rcases h with rfl | rfl <;> simp
theorem hk13 (n : Nat) (t : List Int) : hk n t = 1 ∨ hk n t = 3 := by unfold hk; split; exact .inr rfl; exact .inl rfl
theorem amx {n : Nat} (hn : n ≤ 32) (sh : Bool) (pub a t : List Int) : (bdj n sh pub a t).length = n := by
 unfold bdj
 split
 ·exact bl2 _ _ _
 ·have := bdq (hk13 n t) (blk (hk n t) pub ++ (sho a ++ t))
  rw [List.length_take]; omega
theorem av6 (n : Nat) (sh : Bool) (pub a t : List Int) : In 256 (bdj n sh pub a t) := by
 unfold bdj
 split
 ·exact bo0 _ _ _
 ·exact (bo2 _ _).take _
theorem aud {kind : Int} (h : kind = 1 ∨ kind = 3) {n : Nat} (hn : n ≤ 32) (pub : List Int) (hp : In 256 pub) (np : pub.length ≤ 64) (q : List Int) (hq : In 256 q) (nq : q.length ≤ 100000) (B : Int) (hB : B = ((bsz kind : Nat) : Int)) {ρ : Type} (k : List Int → Option ρ) :
    (P.yj kind (apj kind (bc7 kind) (blk kind pub)) [] B q fun (q2 : Int) (q3 q4 : List Int) (q5 : Int) => P.aej q2 q3 q4 q5 fun (q6 : List Int) =>
     br (decide ((0 : Int) ≤ (n : Int))) (br (decide ((n : Int) ≤ (q6.length : Int))) (k (List.take ((n : Int) - (0 : Int)).toNat (List.drop 0 q6))) none) none) = k ((bl0 kind (blk kind pub ++ q)).take n) := by
 have hb : bsz kind = 64 ∨ bsz kind = 128 := by rcases aif kind with ⟨_, e⟩ | ⟨_, e⟩ <;> omega
 have hw := asc kind (bc7 kind) (blk kind pub)
 have hl := bet kind pub np
 have hw2 := asc kind (apj kind (bc7 kind) (blk kind pub)) ([] ++ q)
 have hr := azd (bsz kind) (ar0 kind) ([] ++ q)
 have hm := Nat.mod_lt ([] ++ q).length (ar0 kind)
 have e3 : IntKind.u64.wrap (B + IntKind.u64.wrap (q.length : Int)) = (((blk kind pub ++ q).length : Nat) : Int) := by
  rw [ah5 _ (by omega), hB, ← Int.natCast_add, ah5 _ (by omega), List.length_append, hl]
 have hs := bdq h (blk kind pub ++ q)
 rw [yj kind _ [] _ q hw.1 hw.2.1 In.nil hq (by rw [List.length_nil]; omega), e3, aej _ _ _ _ hw2.1 hw2.2.1 (bkv (In.nil.app hq)) (by omega)]
 have e4 : bj7 kind (apj kind (apj kind (bc7 kind) (blk kind pub)) ([] ++ q)) (rest (bsz kind) ([] ++ q)) (blk kind pub ++ q).length = bl0 kind (blk kind pub ++ q) := by
  unfold bl0
  rw [List.nil_append, bns _ _ _ hl, bnk (ar0 kind) _ _ hl]
 rw [e4, av (by omega), av (by omega), List.drop_zero, Int.sub_zero, toNat_cast]
theorem bkq {n : Nat} (hn : n ≤ 32) (pub a t : List Int) (hp : In 256 pub) (np : pub.length ≤ 64) (ha : In 256 a) (ht : In 256 t) (nt : t.length ≤ 90000) {ρ : Type} (k : List Int → Option ρ) :
    P.l8 a t 1 (apj 1 (bc7 1) (blk 1 pub)) [] 64 (n : Int) 3 (apj 3 (bc7 3) (blk 3 pub)) [] 128 k = k (bdj n false pub a t) := by
 have e : [sho a, t].flatten = sho a ++ t := by simp
 have hs := bah a
 have hl : (sho a ++ t).length ≤ 100000 := by rw [List.length_append]; omega
 have hq : In 256 (sho a ++ t) := (bos ha).app ht
 rw [P.ajf]; unfold P.ad3 bdj hk
 by_cases h1 : 16 < n
 ·rw [av (by omega)]
  by_cases h2 : n < t.length
  ·rw [av (by omega), if_neg (by simp), if_pos ⟨h1, h2⟩, uy, jq _ (by simp) (by rw [e]; omega), e]
   exact aud (.inr rfl) hn pub hp np _ hq hl 128 rfl k
  ·rw [dn (by omega), if_neg (by simp), if_neg (by omega), uy, jq _ (by simp) (by rw [e]; omega), e]
   exact aud (.inl rfl) hn pub hp np _ hq hl 64 rfl k
 ·rw [dn (by omega), if_neg (by simp), if_neg (by omega), uy, jq _ (by simp) (by rw [e]; omega), e]
  exact aud (.inl rfl) hn pub hp np _ hq hl 64 rfl k
theorem R7t : Rt 7 136 := .inr (.inr (.inr ⟨rfl, rfl⟩))
theorem g0 : Good 136 (Z25, 0) := ⟨br9, by decide⟩
theorem bh8 {n : Nat} (hn : n ≤ 32) (pub a t : List Int) (la : a.length = 32) (nt : t.length ≤ 90000) {ρ : Type} (k : List Int → Option ρ) :
    P.l9 a t 7 (aq3 136 (Z25, 0) pub).1 ((aq3 136 (Z25, 0) pub).2 : Int) false (n : Int) k = k (bdj n true pub a t) := by
 have e : [List.take 32 (List.drop 0 a), t].flatten = a ++ t := by rw [List.drop_zero, List.take_of_length_le (by omega)]; simp
 have hl : (a ++ t).length ≤ 100000 := by rw [List.length_append]; omega
 rw [P.ajn]; unfold P.aed bdj
 rw [jq _ (by simp) (by rw [e]; omega), e, if_pos rfl]
 refine (og R7t _ _ (ahz pub g0) (a ++ t) (by omega) _).trans ?_
 refine (qh R7t _ (ahz (a ++ t) (ahz pub g0)) n (by omega) _).trans ?_
 unfold buk
 show k (sqO 136 (trn 7 136 (aq3 136 (aq3 136 (Z25, 0) pub) (a ++ t)), 0) n) = k (sqO 136 (trn 7 136 (aq3 136 (Z25, 0) (pub ++ (a ++ t))), 0) n)
 simp only [blr]
def Sg (n : Nat) (sh : Bool) (pub : List Int) (tg : Nat) (cK : Int) (cW : List Int) (cA : Int) (cO : Bool) (c1 dK : Int) (dW dT : List Int) (dS d1 eK : Int) (eW eT : List Int) (eS : Int) : Prop :=
 (sh = true ∧ tg = 1 ∧ cK = 7 ∧ cW = (aq3 136 (Z25, 0) pub).1 ∧ cA = ((aq3 136 (Z25, 0) pub).2 : Int) ∧ cO = false ∧ c1 = (n : Int)) ∨
 (sh = false ∧ tg = 2 ∧ dK = 1 ∧ dW = apj 1 (bc7 1) (blk 1 pub) ∧ dT = [] ∧ dS = 64 ∧ d1 = (n : Int) ∧ eK = 3 ∧ eW = apj 3 (bc7 3) (blk 3 pub) ∧ eT = [] ∧ eS = 128)
theorem call {n : Nat} {sh : Bool} {pub : List Int} {tg : Nat} {cK : Int} {cW : List Int} {cA : Int} {cO : Bool} {c1 dK : Int} {dW dT : List Int} {dS d1 eK : Int} {eW eT : List Int} {eS : Int} (h : Sg n sh pub tg cK cW cA cO c1 dK dW dT dS d1 eK eW eT eS)
    (hn : n ≤ 32) (hp : In 256 pub) (np : pub.length ≤ 64) {a t : List Int} (la : a.length = 32) (ha : In 256 a) (ht : In 256 t) (nt : t.length ≤ 90000) {ρ : Type} (k : List Int → Option ρ) :
    br (decide (tg = 1)) (P.l9 a t cK cW cA cO c1 fun (q : List Int) => k q) (br (decide (tg = 2)) (P.l8 a t dK dW dT dS d1 eK eW eT eS fun (q : List Int) => k q) none) = k (bdj n sh pub a t) := by
 rcases h with ⟨rfl, rfl, rfl, rfl, rfl, rfl, rfl⟩ | ⟨rfl, rfl, rfl, rfl, rfl, rfl, rfl, rfl, rfl, rfl, rfl⟩
 ·rw [av rfl]
  exact bh8 hn pub a t la nt k
 ·rw [dn (by omega), av rfl]
  exact bkq hn pub a t hp np ha ht nt k
theorem bli {n : Nat} {H D A K : Int} (hf : aar n H D A K) (sh : Bool) (pub : List Int) (hp : In 256 pub) (np : pub.length = n) :
    ∃ tg cK cW cA cO c1 dK dW dT dS d1 eK eW eT eS, Sg n sh pub tg cK cW cA cO c1 dK dW dT dS d1 eK eW eT eS ∧
     ∀ {ρ : Type} (k : Int → Int → Int → Int → Int → Bool → Nat → Int → (List Int) → Int → Bool → Int → Int → (List Int) → (List Int) → Int → Int → Int → (List Int) → (List Int) → Int → Bool → Option ρ),
      P.acj n H D A K sh pub k = k n H D A K sh tg cK cW cA cO c1 dK dW dT dS d1 eK eW eT eS true := by
 have hn : n ≤ 32 := by unfold aar at hf; omega
 cases sh with
 | true =>
  refine ⟨1, 7, _, _, false, (n : Int), 0, [], [], 0, 0, 0, [], [], 0, .inl ⟨rfl, rfl, rfl, rfl, rfl, rfl, rfl⟩, fun k => ?_⟩
  rw [P.ako]; unfold P.afj
  rw [mq, decide_eq_true hf, lq, o9, dz (by omega), o9, P.an5]; unfold P.ahi
  rw [P.apo]; unfold P.ai9
  rw [bbn R7t, dx (by omega)]
  exact og R7t Z25 0 g0 pub (by omega) _
 | false =>
  refine ⟨2, 0, [], 0, false, 0, 1, _, _, 64, (n : Int), 3, _, _, 128, .inr ⟨rfl, rfl, rfl, rfl, rfl, rfl, rfl, rfl, rfl, rfl, rfl⟩, fun k => ?_⟩
  rw [P.ako]; unfold P.afj
  rw [mq, decide_eq_true hf, lq, o9, dz (by omega), su, P.ank]; unfold P.ahn
  rw [uw (.inl rfl) pub hp (by omega) 64 rfl, uw (.inr (.inr rfl)) pub hp (by omega) 128 rfl]
theorem xg {n : Nat} {H D A K : Int} (hf : aar n H D A K) (sh : Bool) (pub : List Int) (hp : In 256 pub) (np : pub.length = n) (a t : List Int) (la : a.length = 32) (ha : In 256 a) (ht : In 256 t) (nt : t.length ≤ 90000) {ρ : Type} (k : List Int → Option ρ) :
    P.xg n H D A K sh pub a t k = k (bdj n sh pub a t) := by
 have hn : n ≤ 32 := by unfold aar at hf; omega
 obtain ⟨tg, cK, cW, cA, cO, c1, dK, dW, dT, dS, d1, eK, eW, eT, eS, hs, hb⟩ := bli hf sh pub hp np
 rw [P.avw]; unfold P.al3
 rw [hb, lq, o9]
 exact call hs hn hp (by omega) la ha ht nt k
theorem sw {n : Nat} {H D A K : Int} (hf : aar n H D A K) (sh : Bool) (pub : List Int) (hp : In 256 pub) (np : pub.length = n) (a t : List Int) (la : a.length = 32) (ha : In 256 a) (ht : In 256 t) (nt : t.length ≤ 90000) {ρ : Type} (k : List Int → Option ρ) :
    P.sw n H D A K sh pub a t k = k (bdj n sh pub a t) := by
 have hn : n ≤ 32 := by unfold aar at hf; omega
 have hsl := bah a
 have path : ∀ (kind : Int) (h : kind = 1 ∨ kind = 3) (B : Int), B = ((bsz kind : Nat) : Int) →
     (br (decide ((0 : Int) ≤ IntKind.i64.wrap (B - (n : Int)))) (br (decide (IntKind.i64.wrap (B - (n : Int)) ≤ IntKind.i64.wrap (B - (n : Int))))
      (br (decide (IntKind.i64.wrap (B - (n : Int)) * ((1 : Nat) : Int) ≤ ((140737488355328 : Nat) : Int)))
       (P.zw a fun (q4 : List Int) =>
        P.jv [pub, List.replicate (IntKind.i64.wrap (B - (n : Int))).toNat (0 : Int), q4, t] fun (q5 : List Int) =>
         P.aek kind q5 fun (q6 : List Int) (q7 : Int) =>
          br (decide ((0 : Int) ≤ (n : Int))) (br (decide ((n : Int) ≤ (q6.length : Int))) (k (List.take ((n : Int) - (0 : Int)).toNat (List.drop 0 q6))) none) none) none) none) none) = k ((bl0 kind (blk kind pub ++ (sho a ++ t))).take n) := by
  intro kind h B hB
  have hb : bsz kind = 64 ∨ bsz kind = 128 := by rcases aif kind with ⟨_, e⟩ | ⟨_, e⟩ <;> omega
  have e : IntKind.i64.wrap (B - (n : Int)) = ((bsz kind - pub.length : Nat) : Int) := by rw [o8 (by omega) (by omega)]; omega
  have ej : [pub, List.replicate (bsz kind - pub.length) (0 : Int), sho a, t].flatten = blk kind pub ++ (sho a ++ t) := by unfold blk; simp
  have hl := bet kind pub (by omega)
  have hll : (blk kind pub ++ (sho a ++ t)).length ≤ 100000 := by rw [List.length_append, List.length_append]; omega
  have hs := bdq h (blk kind pub ++ (sho a ++ t))
  rw [e, av (by omega), av (by omega), av (by omega), zw, toNat_cast, jv _ (by simp) (by rw [ej]; omega), ej, aek (by unfold K3; omega) _ ((bn0 hp).app ((bos ha).app ht)) (by omega), av (by omega), av (by omega), List.drop_zero, Int.sub_zero, toNat_cast]
 rw [P.ayn]; unfold P.aop
 rw [dz (by omega), qo, decide_eq_true hf, lq, o9]
 unfold bdj hk
 cases sh with
 | true =>
  have ej : [pub, List.take 32 (List.drop 0 a), t].flatten = pub ++ (a ++ t) := by rw [List.drop_zero, List.take_of_length_le (by omega)]; simp
  have hll : (pub ++ (a ++ t)).length ≤ 100000 := by rw [List.length_append, List.length_append]; omega
  rw [o9, jv _ (by simp) (by rw [ej]; omega), ej, ah3 (by omega) _ (by omega) n (by omega), if_pos rfl]
 | false =>
  rw [su, if_neg (by simp)]
  by_cases h1 : 16 < n
  ·rw [av (by omega)]
   by_cases h2 : n < t.length
   ·rw [av (by omega), if_pos ⟨h1, h2⟩]
    exact path 3 (.inr rfl) 128 rfl
   ·rw [dn (by omega), if_neg (by omega)]
    exact path 1 (.inl rfl) 64 rfl
  ·rw [dn (by omega), if_neg (by omega)]
   exact path 1 (.inl rfl) 64 rfl
end Q
end

section
/- wots: chains, keys, signatures, by the program. -/
namespace Q
open QK
open Go Go.Abs
set_option linter.unusedVariables false
set_option linter.unusedSimpArgs false
def prn (a : List Int) : Nat := T 8 ((a.drop 20).take 4).reverse % 2 ^ 64
theorem bfq (a : List Int) : prn a < 18446744073709551616 := Nat.mod_lt _ (by decide)
theorem aey {a : List Int} (ha : In 256 a) {ρ : Type} (k : Int → Option ρ) : P.aey a 3 k = k (prn a : Int) := by
 rw [P.aw1]; unfold P.ahf
 rw [show IntKind.i64.wrap ((8 : Int) + IntKind.i64.wrap ((4 : Int) * 3)) = 20 from rfl, show IntKind.i64.wrap ((12 : Int) + IntKind.i64.wrap ((4 : Int) * 3)) = 24 from rfl, av (by omega), av (by omega), av (by omega)]
 exact u6 _ ((ha.drop 20).take 4) (by simp; omega) k
def fsW (n : Nat) (sh : Bool) (pub sec a : List Int) (i : Nat) : List Int := bdj n sh pub (apf (apf (apf a 2 5) 3 (prn a)) 4 i) sec
theorem first' {n : Nat} {sh : Bool} {pub : List Int} {tg : Nat} {cK : Int} {cW : List Int} {cA : Int} {cO : Bool} {c1 dK : Int} {dW dT : List Int} {dS d1 eK : Int} {eW eT : List Int} {eS : Int} (hs : Sg n sh pub tg cK cW cA cO c1 dK dW dT dS d1 eK eW eT eS) (hn : n ≤ 32) (hp : In 256 pub) (np : pub.length ≤ 64) {a y : List Int} (la : a.length = 32) (ha : In 256 a) (hy : In 256 y) (ly : y.length ≤ 1000) (H D A K : Int) (i : Nat) (hi : i < 1000) {ρ : Type} (k : List Int → Option ρ) :
    P.ae6 (n : Int) H D A K sh tg cK cW cA cO c1 dK dW dT dS d1 eK eW eT eS y a (i : Int) k = k (fsW n sh pub y a i) := by
 rw [P.ani]; unfold P.ab6
 rw [show (5 : Int) = ((5 : Nat) : Int) from rfl, oz la 2 5 (by omega), aey ha, oz (qw la _ _) 3 _ (bfq a), ah5 _ (by omega), oz (qw (qw la _ _) _ _) 4 _ (by omega)]
 exact call hs hn hp np (qw (qw (qw la _ _) _ _) _ _) (ag8 (ag8 (ag8 ha _ _) _ _) _ _) hy (by omega) k
end Q
end

section
/- wots: keys, signatures, candidates, by the document. -/
namespace Q
open QK
open Go Go.Abs
set_option linter.unusedVariables false
set_option linter.unusedSimpArgs false
theorem aps (T : Nat → List Int) : ∀ m, ((List.range m).map T).flatten = cat T m
 | 0 => rfl
 | m + 1 => by rw [List.range_succ, List.map_append, List.flatten_append, aps T m]; simp [cat]
end Q
end

section
/- fors: places, leaves, knots, by the program and by the document. -/
namespace Q
open QK
open Go Go.Abs
set_option linter.unusedVariables false
set_option linter.unusedSimpArgs false
def ofA (a : List Int) (kind : Nat) : List Int := apf (apf a 2 kind) 3 (prn a)
theorem aoj {a : List Int} (la : a.length = 32) (kind : Nat) : (ofA a kind).length = 32 := qw (qw la _ _) _ _
theorem bfe {a : List Int} (ha : In 256 a) (kind : Nat) : In 256 (ofA a kind) := ag8 (ag8 ha _ _) _ _
theorem btk {a : List Int} (la : a.length = 32) (kind : Nat) : ofA a kind = (a.take 16 ++ be4 4 kind ++ be4 4 (prn a)) ++ List.replicate 8 0 := by
 have h4 := aao 4 kind
 have h5 := aao 4 (prn a)
 have e2 : apf a 2 kind = (a.take 16 ++ be4 4 kind) ++ List.replicate 12 0 := by
  show at1 a 16 (be4 4 kind ++ List.replicate 12 0) = _
  unfold at1
  rw [List.drop_eq_nil_of_le (by simp; omega), List.append_nil, List.append_assoc]
 have hl : (a.take 16 ++ be4 4 kind).length = 20 := by rw [List.length_append, List.length_take]; omega
 unfold ofA
 rw [e2]
 show at1 _ 20 (be4 4 (prn a)) = _
 unfold at1
 rw [List.take_left' hl, List.drop_append, hl, List.drop_eq_nil_of_le (by omega), h5, List.nil_append, List.drop_replicate]
theorem bw0 {a : List Int} (la : a.length = 32) (kind : Nat) : apf (ofA a kind) 4 0 = ofA a kind := by
 have h4 := aao 4 kind
 have h5 := aao 4 (prn a)
 rw [btk la]
 have hl : (a.take 16 ++ be4 4 kind ++ be4 4 (prn a)).length = 24 := by rw [List.length_append, List.length_append, List.length_take]; omega
 show at1 _ 24 (be4 4 0) = _
 unfold at1
 rw [List.take_left' hl, List.drop_append, hl, List.drop_eq_nil_of_le (by rw [aao]; omega), List.nil_append, List.append_assoc]
 rfl
def ktA (a : List Int) (z i : Nat) : List Int := apf (apf (ofA a 3) 4 z) 5 i
theorem arz {a : List Int} (la : a.length = 32) (z i : Nat) : (ktA a z i).length = 32 := qw (qw (aoj la _) _ _) _ _
theorem axw {a : List Int} (ha : In 256 a) (z i : Nat) : In 256 (ktA a z i) := ag8 (ag8 (bfe ha _) _ _) _ _
def lfF (n : Nat) (sh : Bool) (pub sec a : List Int) (i : Nat) : List Int := bdj n sh pub (apf (ofA a 6) 5 i) sec
def ovF (n : Nat) (sh : Bool) (pub a : List Int) (z i : Nat) (t : List Int) : List Int := bdj n sh pub (ktA a z i) t
def kyF (n : Nat) (sh : Bool) (pub a tops : List Int) : List Int := bdj n sh pub (ofA a 4) tops
theorem avn {n : Nat} (hn : n ≤ 32) (sh : Bool) (pub sec a : List Int) (i : Nat) : (lfF n sh pub sec a i).length = n := amx hn _ _ _ _
theorem bou (n : Nat) (sh : Bool) (pub sec a : List Int) (i : Nat) : In 256 (lfF n sh pub sec a i) := av6 _ _ _ _ _
theorem bqt {n : Nat} (hn : n ≤ 32) (sh : Bool) (pub a t : List Int) : (kyF n sh pub a t).length = n := amx hn _ _ _ _
def fkW (n : Nat) (sh : Bool) (pub sec a : List Int) : Nat → Nat → List Int
 | 0, i => ovF n sh pub a 0 i (lfF n sh pub sec a i)
 | z + 1, i => ovF n sh pub a (z + 1) i (fkW n sh pub sec a z (2 * i) ++ fkW n sh pub sec a z (2 * i + 1))
theorem alu {n : Nat} (hn : n ≤ 32) (sh : Bool) (pub sec a : List Int) : ∀ z i, (fkW n sh pub sec a z i).length = n
 | 0, i => amx hn _ _ _ _
 | z + 1, i => amx hn _ _ _ _
theorem bfv (n : Nat) (sh : Bool) (pub sec a : List Int) : ∀ z i, In 256 (fkW n sh pub sec a z i)
 | 0, i => av6 _ _ _ _ _
 | z + 1, i => av6 _ _ _ _ _
theorem be6 {n : Nat} {H D A K : Int} (hf : aar n H D A K) (sh : Bool) {sec pub a : List Int} (hp : In 256 pub) (np : pub.length = n) (la : a.length = 32) (ha : In 256 a) (kind : Nat) (hk : kind < 100) {ρ : Type} (k : List Int → Option ρ) : P.jm (n : Int) H D A K sh sec pub a (kind : Int) k = k (ofA a kind) := by
 rw [P.ak9]; unfold P.aeu
 rw [oz la 2 kind (by omega), u6 _ ((ha.drop 20).take 4) (by simp; omega)]
 exact oz (qw la _ _) 3 _ (bfq a) k
theorem bdm {n : Nat} {H D A K : Int} (hf : aar n H D A K) (sh : Bool) {sec pub a : List Int} (hp : In 256 pub) (np : pub.length = n) (la : a.length = 32) (ha : In 256 a) (z i : Nat) (hz : z < 1000) (hi : i < 18446744073709551616) {ρ : Type} (k : List Int → Option ρ) : P.pz (n : Int) H D A K sh sec pub a (z : Int) (i : Int) k = k (ktA a z i) := by
 rw [P.agl]; unfold P.aby
 rw [show P.jm (ρ := ρ) (n : Int) H D A K sh sec pub a 3 = P.jm (n : Int) H D A K sh sec pub a ((3 : Nat) : Int) from rfl, be6 hf sh hp np la ha 3 (by omega), ah5 _ (by omega), oz (aoj la _) 4 z (by omega), oz (qw (aoj la _) _ _) 5 i hi]
 rfl
theorem bc5 {n : Nat} {H D A K : Int} (hf : aar n H D A K) (sh : Bool) {sec pub a : List Int} (hp : In 256 pub) (np : pub.length = n) (la : a.length = 32) (ha : In 256 a) (hsec : In 256 sec) (lsec : sec.length = n) (i : Nat) (hi : i < 18446744073709551616) {ρ : Type} (k : List Int → Option ρ) : P.je (n : Int) H D A K sh sec pub a (i : Int) k = k (lfF n sh pub sec a i) := by
 have hn : n ≤ 32 := by unfold aar at hf; omega
 rw [P.ah7]; unfold P.adg
 rw [show P.jm (ρ := ρ) (n : Int) H D A K sh sec pub a 6 = P.jm (n : Int) H D A K sh sec pub a ((6 : Nat) : Int) from rfl, be6 hf sh hp np la ha 6 (by omega), oz (aoj la _) 5 i hi, P.asx]
 unfold P.akr
 rw [dz (by omega), xg hf sh pub hp np _ _ (qw (aoj la _) _ _) (ag8 (bfe ha _) _ _) hsec (by omega)]
 rfl
theorem ams {n : Nat} {H D A K : Int} (hf : aar n H D A K) (sh : Bool) {sec pub a : List Int} (hp : In 256 pub) (np : pub.length = n) (la : a.length = 32) (ha : In 256 a) (z i : Nat) (hz : z < 1000) (hi : i < 18446744073709551616) (l : List (List Int)) (hl : l.length ≤ 1000) (li : In 256 l.flatten) (lb : l.flatten.length ≤ 90000) {ρ : Type} (k : List Int → Option ρ) : P.jc (n : Int) H D A K sh sec pub a (z : Int) (i : Int) l k = k (ovF n sh pub a z i l.flatten) := by
 rw [P.ah9]; unfold P.adl
 rw [bdm hf sh hp np la ha z i hz hi, jq l (by omega) (by omega), xg hf sh pub hp np _ _ (arz la _ _) (axw ha _ _) li (by omega)]
 rfl
theorem bmu {n : Nat} {H D A K : Int} (hf : aar n H D A K) (sh : Bool) {sec pub a : List Int} (hp : In 256 pub) (np : pub.length = n) (la : a.length = 32) (ha : In 256 a) (t : List Int) (ht : In 256 t) (lt : t.length ≤ 90000) {ρ : Type} (k : List Int → Option ρ) : P.mh (n : Int) H D A K sh sec pub a t k = k (kyF n sh pub a t) := by
 rw [P.ajk]; unfold P.aei
 rw [show P.jm (ρ := ρ) (n : Int) H D A K sh sec pub a 4 = P.jm (n : Int) H D A K sh sec pub a ((4 : Nat) : Int) from rfl, be6 hf sh hp np la ha 4 (by omega), xg hf sh pub hp np _ _ (aoj la _) (bfe ha _) ht lt]
 rfl
theorem aau {n : Nat} {H D A K : Int} (hf : aar n H D A K) {pub a : List Int} (hp : In 256 pub) (np : pub.length = n) (la : a.length = 32) (ha : In 256 a) {ρ : Type} (k : Int → Option ρ) : P.aau a k = k (prn a : Int) := by
 rw [P.aut]; unfold P.ama
 exact ac3 _ ((ha.drop 20).take 4) (by simp; omega) k
theorem uq {n : Nat} {H D A K : Int} (hf : aar n H D A K) {pub a : List Int} (hp : In 256 pub) (np : pub.length = n) (la : a.length = 32) (ha : In 256 a) (kind z i : Nat) (hk : kind < 100) (hz : z < 1000) (hi : i < 18446744073709551616) {ρ : Type} (k : List Int → Option ρ) : P.uq a (kind : Int) (z : Int) (i : Int) k = k (apf (apf (ofA a kind) 4 z) 5 i) := by
 rw [P.bav]; unfold P.aq5
 rw [wh la 2 kind (by omega), aau hf hp np la ha, wh (qw la _ _) 3 _ (bfq a), ah5 _ (by omega), wh (qw (qw la _ _) _ _) 4 z (by omega), wh (qw (qw (qw la _ _) _ _) _ _) 5 i hi]
 rfl
theorem aax {n : Nat} {H D A K : Int} (hf : aar n H D A K) (sh : Bool) {sec pub a : List Int} (hp : In 256 pub) (np : pub.length = n) (la : a.length = 32) (ha : In 256 a) (hsec : In 256 sec) (lsec : sec.length = n) (i : Nat) (hi : i < 18446744073709551616) {ρ : Type} (k : List Int → Option ρ) : P.aax (n : Int) H D A K sh sec pub a (i : Int) k = k (lfF n sh pub sec a i) := by
 have hn : n ≤ 32 := by unfold aar at hf; omega
 rw [P.auh]; unfold P.alq
 rw [show P.uq (ρ := ρ) a 6 0 (i : Int) = P.uq a ((6 : Nat) : Int) ((0 : Nat) : Int) (i : Int) from rfl, uq hf hp np la ha 6 0 i (by omega) (by omega) hi, bw0 la, P.avg]
 unfold P.alp
 rw [dz (by omega), sw hf sh pub hp np _ _ (qw (aoj la _) _ _) (ag8 (bfe ha _) _ _) hsec (by omega)]
 rfl
theorem ahl {n : Nat} {H D A K : Int} (hf : aar n H D A K) (sh : Bool) {pub a : List Int} (hp : In 256 pub) (np : pub.length = n) (la : a.length = 32) (ha : In 256 a) (l : List (List Int)) (hl : l.length ≤ 1000) (li : In 256 l.flatten) (lb : l.flatten.length ≤ 90000) {ρ : Type} (k : List Int → Option ρ) : P.ahl (n : Int) H D A K sh l pub a k = k (kyF n sh pub a l.flatten) := by
 rw [P.ax7]; unfold P.ao0
 rw [show P.wh (ρ := ρ) a 2 4 = P.wh a 2 ((4 : Nat) : Int) from rfl, wh la 2 4 (by omega), aau hf hp np la ha, wh (qw la _ _) 3 _ (bfq a), jv l (by omega) (by omega), sw hf sh pub hp np _ _ (qw (qw la _ _) _ _) (ag8 (ag8 ha _ _) _ _) li (by omega)]
 rfl
end Q
end

section
/- xmss: knots, signatures, tops, by the program. -/
namespace Q
open QK
open Go Go.Abs
set_option linter.unusedVariables false
set_option linter.unusedSimpArgs false
def Kd (n : Nat) (H D A K : Int) (h : Nat) : Prop := aar n H D A K ∧ IntKind.i64.wrap (H.tdiv D) = (h : Int)
theorem Kd.n {n : Nat} {H D A K : Int} {h : Nat} (k : Kd n H D A K h) : n ≤ 32 := by have := k.1; unfold aar at this; omega
theorem Kd.h {n : Nat} {H D A K : Int} {h : Nat} (k : Kd n H D A K h) : h ≤ 9 := by have := k.1; have e := k.2; unfold aar at this; omega
theorem xor1 (x : Nat) : x ^^^ 1 = if x % 2 = 0 then x + 1 else x - 1 := by
 have h1 : (x ^^^ 1) / 2 = x / 2 := by rw [Nat.xor_div_two]; simp
 have h2 : (x ^^^ 1) % 2 = (x + 1) % 2 := by
  have := Nat.xor_mod_two_pow (a := x) (b := 1) (n := 1)
  rw [Nat.pow_one] at this
  rw [this]
  rcases Nat.mod_two_eq_zero_or_one x with e | e <;> rw [e]
  ·show 0 ^^^ 1 = _
   simp; omega
  ·show 1 ^^^ 1 = _
   simp; omega
 split <;> omega
end Q
end

section
/- xmss: knots, signatures, tops, by the document; and where there are none. -/
namespace Q
open QK
open Go Go.Abs
set_option linter.unusedVariables false
set_option linter.unusedSimpArgs false
theorem blq (h : Nat) : (2 : Int) ^ h = ((2 ^ h : Nat) : Int) := by rw [Int.natCast_pow]; rfl
theorem auk (a z : Nat) (hz : z ≤ 64) (hb : a * 2 ^ z < 18446744073709551616) : IntKind.u64.wrap ((a : Int) * (2 : Int) ^ min z 64) = ((a * 2 ^ z : Nat) : Int) := by
 rw [Nat.min_eq_left hz, blq, ← Int.natCast_mul, ah5 _ hb]
theorem Kd.d {n : Nat} {H D A K : Int} {h : Nat} (k : Kd n H D A K h) : ¬ D = 0 := by have := k.1; unfold aar at this; omega
end Q
end

section
/- A stack of what is joined two by two: as many entries as a number has ones. -/
namespace Q
open Go Go.Abs
set_option linter.unusedVariables false
def stk (N : Nat → Nat → List Int) (B : Nat) : Nat → Nat → Nat → List (Nat × List Int)
 | 0, _, _ => []
 | f + 1, b, q => if q = 0 then [] else stk N B f (b + 1) (q / 2) ++ (if q % 2 = 1 then [(b, N b (B / 2 ^ b + (q - 1)))] else [])
theorem bll (N : Nat → Nat → List Int) (B f b : Nat) : stk N B f b 0 = [] := by cases f <;> simp [stk]
theorem bab (N : Nat → Nat → List Int) (B f b q : Nat) (h : q % 2 = 0) : stk N B (f + 1) b q = stk N B f (b + 1) (q / 2) := by
 by_cases h0 : q = 0
 ·subst h0
  rw [bll, bll]
 ·rw [stk, if_neg h0, if_neg (by omega), List.append_nil]
theorem bdz (N : Nat → Nat → List Int) (B f b q : Nat) (h : q % 2 = 1) : stk N B (f + 1) b q = stk N B f (b + 1) (q / 2) ++ [(b, N b (B / 2 ^ b + (q - 1)))] := by
 rw [stk, if_neg (by omega), if_pos h]
theorem bn9 (N : Nat → Nat → List Int) (B : Nat) : ∀ f b q x, x ∈ stk N B f b q → b ≤ x.1
 | 0, b, q, x, h => by simp [stk] at h
 | f + 1, b, q, x, h => by
  rw [stk] at h
  split at h
  ·cases h
  ·rcases List.mem_append.1 h with h | h
   ·have := bn9 N B f (b + 1) _ x h; omega
   ·split at h
    ·simp at h; subst h; exact Nat.le_refl _
    ·cases h
theorem baj (N : Nat → Nat → List Int) (B : Nat) : ∀ f b q, (stk N B f b q).length ≤ f
 | 0, b, q => by simp [stk]
 | f + 1, b, q => by
  rw [stk]
  have := baj N B f (b + 1) (q / 2)
  split
  ·simp
  ·split <;> simp <;> omega
theorem bgs (N : Nat → Nat → List Int) (B : Nat) : ∀ m f b, m < f → stk N B f b (2 ^ m) = [(b + m, N (b + m) (B / 2 ^ (b + m)))]
 | 0, f + 1, b, h => by rw [Nat.pow_zero, bdz _ _ _ _ _ rfl, bll]; simp
 | m + 1, f + 1, b, h => by
  rw [bab _ _ _ _ _ (by rw [Nat.pow_succ]; omega), show 2 ^ (m + 1) / 2 = 2 ^ m by rw [Nat.pow_succ]; omega, bgs N B m f (b + 1) (by omega), show b + 1 + m = b + (m + 1) by omega]
 | m, 0, b, h => by omega
theorem bvk (N : Nat → Nat → List Int) (B f b q : Nat) (h : q % 2 = 1) : stk N B (f + 1) b (q + 1) = stk N B f (b + 1) (q / 2 + 1) := by
 rw [bab _ _ _ _ _ (by omega), show (q + 1) / 2 = q / 2 + 1 by omega]
theorem bps (N : Nat → Nat → List Int) (B f b q : Nat) (h : q % 2 = 0) : stk N B (f + 1) b (q + 1) = stk N B f (b + 1) (q / 2) ++ [(b, N b (B / 2 ^ b + q))] := by
 rw [bdz _ _ _ _ _ (by omega), show (q + 1) / 2 = q / 2 by omega, Nat.add_sub_cancel]
end Q
end
