/-
  XmssGrows, part 24: an interpreter of my own over abstract values, the pure functions, the walks and the plain law.
-/

import Derived.Test.YtjhnljhjpnjieaaGreatDoorXmssGrowsW
import Derived.Test.YtjhnljhjpnjieaaGreatDoorXmssGrowsG
import Derived.Test.YtjhnljhjpnjieaaGreatDoorXmssGrowsH
import Derived.Test.YtjhnljhjpnjieaaGreatDoorXmssGrowsI

section
/- SHA-2: the document's block of words of 64 bits. -/
namespace Q
open Go Go.Abs
set_option linter.unusedVariables false
set_option linter.unusedSimpArgs false
theorem ams (x : BitVec 64) (m : Int) (n : Nat) (hm : m = (n : Int)) (hn : n ≤ 64) {ρ : Type} (k : Int → Option ρ) : P.zu (x.toNat : Int) m true k = k ((rr x n).toNat : Int) := by
 subst hm
 rw [P.ai2]
 unfold P.afg
 rw [mo, dx (by omega), og (by omega) (by omega), dx (by omega), show (64 : Int) - (n : Int) = ((64 - n : Nat) : Int) by omega]
 simp only [toNat_cast]
 rw [bjf _ _ hn, bqd _ _ (by omega), byx]
 rfl
theorem bpi (x : BitVec 64) (t : Nat × Nat × Nat) (a b c : Int) (ha : a = (t.1 : Int)) (hb : b = (t.2.1 : Int)) (hc : c = (t.2.2 : Int)) (h1 : t.1 ≤ 64) (h2 : t.2.1 ≤ 64) (h3 : t.2.2 ≤ 64) {ρ : Type} (k : Int → Option ρ) :
    P.zo (x.toNat : Int) a b c false true k = k ((hi t x).toNat : Int) := by
 rw [P.afr]
 unfold P.adg
 rw [dx (by omega), jf, ru, ams _ _ _ hc h3, ams _ _ _ ha h1, ams _ _ _ hb h2, alh, alh]
 rfl
theorem bpn (x : BitVec 64) (t : Nat × Nat × Nat) (a b c : Int) (ha : a = (t.1 : Int)) (hb : b = (t.2.1 : Int)) (hc : c = (t.2.2 : Int)) (h1 : t.1 ≤ 64) (h2 : t.2.1 ≤ 64) (h3 : t.2.2 ≤ 64) {ρ : Type} (k : Int → Option ρ) :
    P.zo (x.toNat : Int) a b c true true k = k ((lo t x).toNat : Int) := by
 rw [P.afr]
 unfold P.adg
 rw [dx (by omega), jf, mo, ams _ _ _ ha h1, ams _ _ _ hb h2, alh, hc]
 simp only [toNat_cast]
 rw [bjf _ _ h3, alh]
 rfl
theorem b52 (a b c d : BitVec 64) : bits .and .u64 (IntKind.u64.wrap (IntKind.u64.wrap (IntKind.u64.wrap ((a.toNat : Int) + (b.toNat : Int)) + (c.toNat : Int)) + (d.toNat : Int))) 18446744073709551615 = ((a + b + c + d).toNat : Int) := by
 rw [amc, amc, amc, bpa _ (boi _)]
theorem b22 (a b : BitVec 64) : bits .and .u64 (IntKind.u64.wrap ((a.toNat : Int) + (b.toNat : Int))) 18446744073709551615 = ((a + b).toNat : Int) := by
 rw [amc, bpa _ (boi _)]
theorem b0g (d a b c e f : BitVec 64) : bits .and .u64 (IntKind.u64.wrap ((d.toNat : Int) + IntKind.u64.wrap (IntKind.u64.wrap (IntKind.u64.wrap (IntKind.u64.wrap ((a.toNat : Int) + (b.toNat : Int)) + (c.toNat : Int)) + (e.toNat : Int)) + (f.toNat : Int)))) 18446744073709551615 = ((d + (a + b + c + e + f)).toNat : Int) := by
 rw [amc, amc, amc, amc, amc, bpa _ (boi _)]
theorem b28 (a b c e f g h : BitVec 64) : bits .and .u64 (IntKind.u64.wrap (IntKind.u64.wrap (IntKind.u64.wrap (IntKind.u64.wrap (IntKind.u64.wrap ((a.toNat : Int) + (b.toNat : Int)) + (c.toNat : Int)) + (e.toNat : Int)) + (f.toNat : Int)) + IntKind.u64.wrap ((g.toNat : Int) + (h.toNat : Int)))) 18446744073709551615 = (((a + b + c + e + f) + (g + h)).toNat : Int) := by
 rw [amc, amc, amc, amc, amc, amc, bpa _ (boi _)]
theorem b2z (e f g : BitVec 64) : bits .xor .u64 (bits .and .u64 (e.toNat : Int) (f.toNat : Int)) (bits .and .u64 (bits .xor .u64 18446744073709551615 (e.toNat : Int)) (g.toNat : Int)) = ((g ^^^ (e &&& (f ^^^ g))).toNat : Int) := by
 rw [show (18446744073709551615 : Int) = ((BitVec.allOnes 64).toNat : Int) from rfl, bgc, alh, bgc, alh, bub]
theorem bxp (a b c : BitVec 64) : bits .xor .u64 (bits .xor .u64 (bits .and .u64 (a.toNat : Int) (b.toNat : Int)) (bits .and .u64 (a.toNat : Int) (c.toNat : Int))) (bits .and .u64 (b.toNat : Int) (c.toNat : Int)) = (((a &&& b) ||| (c &&& (a ||| b))).toNat : Int) := by
 rw [bgc, bgc, bgc, alh, alh, bp0]
def avg (b : List Int) (t : Nat) : List (BitVec 64) := (List.range t).map (W p64 (mg 64 b 16))
theorem azc (b : List Int) (t : Nat) : avg b (t + 1) = avg b t ++ [W p64 (mg 64 b 16) t] := by simp [avg, List.range_succ]
theorem bdp (b : List Int) (t : Nat) : (avg b t).length = t := by simp [avg]
theorem arb (b : List Int) (t i : Nat) (h : i < t) : (avg b t).getD i 0 = W p64 (mg 64 b 16) i := by
 unfold avg
 rw [getD_lt (by simpa using h)]; simp
theorem br9 (b : List Int) (t : Nat) (h : t < 16) : W p64 (mg 64 b 16) t = BitVec.ofNat 64 (T 8 ((b.take ((t + 1) * 8)).drop (t * 8)).reverse) := by
 rw [← bpg p64 _ (by rw [qo]; omega) 0 t (by rw [qo]; omega), show sched p64 (mg 64 b 16) 0 = mg 64 b 16 from rfl, getD_lt (by rw [qo]; exact h)]
 simp [mg]
theorem bk0 (b : List Int) (hb : In 256 b) (hl : b.length = 16 * 8) {ρ : Type} (k : List Int → Option ρ) : P.acv b true 80 18446744073709551615 k = k (cv (avg b 80)) := by
 rw [P.ana]
 unfold P.ahm
 rw [mo, P.am1]
 unfold P.anv P.byj P.bsf P.bzw
 refine ug (fun t => (b, true, 80, 18446744073709551615, 8, (t : Int), cv (avg b t))) 80 rfl (fun t ht next hn' => ?_) (fun next => ?_) (by omega)
 ·simp only [P.agh, toNat_cast]
  have e1 : IntKind.i64.wrap ((t : Int) + 1) = ((t + 1 : Nat) : Int) := by rw [og (by omega) (by omega)]; omega
  rw [bg (by omega)]
  have hlen := bdp b t
  by_cases h16 : t < 16
  ·have e2 : IntKind.i64.wrap ((t : Int) * 8) = ((t * 8 : Nat) : Int) := by rw [og (by omega) (by omega)]; omega
   have e3 : IntKind.i64.wrap (IntKind.i64.wrap ((t : Int) * 8) + 8) = (((t + 1) * 8 : Nat) : Int) := by rw [e2, og (by omega) (by omega)]; omega
   have hl2 : ((b.take ((t + 1) * 8)).drop (t * 8)).length = 8 := by simp; omega
   rw [bg (by omega), e3, e2, bg (by omega), bg (by omega), bg (by omega)]
   simp only [toNat_cast]
   have hT := bv0 8 ((b.take ((t + 1) * 8)).drop (t * 8)).reverse
   rw [List.length_reverse, hl2] at hT
   have e4 : ((T 8 ((b.take ((t + 1) * 8)).drop (t * 8)).reverse % 2 ^ 64 : Nat) : Int) = ((W p64 (mg 64 b 16) t).toNat : Int) := by
    rw [br9 b t h16, BitVec.toNat_ofNat]
   rw [ad2 _ ((hb.take _).drop _) (by omega), bg (by rw [x9]; omega), e4, e1, show [((W p64 (mg 64 b 16) t).toNat : Int)] = cv [W p64 (mg 64 b 16) t] from rfl, agu, ← azc]
   exact hn'
  ·have e15 : IntKind.i64.wrap ((t : Int) - 15) = ((t - 15 : Nat) : Int) := by rw [og (by omega) (by omega)]; omega
   have e2 : IntKind.i64.wrap ((t : Int) - 2) = ((t - 2 : Nat) : Int) := by rw [og (by omega) (by omega)]; omega
   have e7 : IntKind.i64.wrap ((t : Int) - 7) = ((t - 7 : Nat) : Int) := by rw [og (by omega) (by omega)]; omega
   have e16 : IntKind.i64.wrap ((t : Int) - 16) = ((t - 16 : Nat) : Int) := by rw [og (by omega) (by omega)]; omega
   simp only [e15, e2, e7, e16, toNat_cast, ag2, x9, hlen]
   rw [arb b t _ (by omega), arb b t _ (by omega), arb b t _ (by omega), arb b t _ (by omega)]
   obtain ⟨q1, m1⟩ := bhn ((W p64 (mg 64 b 16) (t - 15)).toNat : Int) 7 18 3 7 18 3 rfl rfl rfl (by omega) (by omega) (by omega)
   obtain ⟨q2, m2⟩ := bhn ((W p64 (mg 64 b 16) (t - 2)).toNat : Int) 17 19 10 17 19 10 rfl rfl rfl (by omega) (by omega) (by omega)
   rw [dx (by omega), bg (by omega), bg (by omega), m1, bg (by omega), bg (by omega), m2, mo, bg (by omega), bg (by omega), bpn _ p64.a _ _ _ (by rfl) (by rfl) (by rfl) (by decide) (by decide) (by decide), bg (by omega), bg (by omega), bpn _ p64.b _ _ _ (by rfl) (by rfl) (by rfl) (by decide) (by decide) (by decide)]
   have hW := bic p64 (mg 64 b 16) (qo b 16) (t - 16)
   rw [show t - 16 + 16 = t by omega, show t - 16 + 1 = t - 15 by omega, show t - 16 + 9 = t - 7 by omega, show t - 16 + 14 = t - 2 by omega] at hW
   have hW2 : lo p64.b (W p64 (mg 64 b 16) (t - 2)) + W p64 (mg 64 b 16) (t - 7) + lo p64.a (W p64 (mg 64 b 16) (t - 15)) + W p64 (mg 64 b 16) (t - 16) = W p64 (mg 64 b 16) t := by rw [hW]; ac_rfl
   rw [bg (by omega), bg (by omega), bg (by omega), bg (by omega), bg (by omega), b52, hW2, e1, show [((W p64 (mg 64 b 16) t).toNat : Int)] = cv [W p64 (mg 64 b 16) t] from rfl, agu, ← azc]
   exact hn'
 ·simp only [P.agh]
  rw [dx (by omega)]
theorem bqa (b : List Int) (v : List (BitVec 64)) (hv : v.length = 8) (h0 h1 : List Int) {ρ : Type} (k0 : Bool → Int → Int → Int → List Int → List Int → List Int → List Int → List Int → List Int → Option ρ) :
    P.afb true 80 18446744073709551615 0 h0 h1 P.roots256 P.roots512 (cv (avg b 80)) (cv v) k0 = k0 true 80 18446744073709551615 80 h0 h1 P.roots256 P.roots512 (cv (avg b 80)) (cv (runs p64 (mg 64 b 16) v 80)) := by
 rw [P.alp]
 unfold P.ak9 P.buv P.bsg P.by6
 refine ug (fun t => (true, 80, 18446744073709551615, (t : Int), h0, h1, P.roots256, P.roots512, cv (avg b 80), cv (runs p64 (mg 64 b 16) v t))) 80 rfl (fun t ht next hn' => ?_) (fun next => ?_) (by omega)
 ·simp only [P.aff]
  have e1 : IntKind.i64.wrap ((t : Int) + 1) = ((t + 1 : Nat) : Int) := by rw [og (by omega) (by omega)]; omega
  have hlen := bdp b 80
  simp only [e1, toNat_cast, ag2, x9, hlen]
  rw [arb b 80 t ht, K64]
  obtain ⟨q1, m1⟩ := bkk (((runs p64 (mg 64 b 16) v t).getD 0 0).toNat : Int) 2 13 22 2 13 22 rfl rfl rfl (by omega) (by omega) (by omega)
  obtain ⟨q2, m2⟩ := bkk (((runs p64 (mg 64 b 16) v t).getD 4 0).toNat : Int) 6 11 25 6 11 25 rfl rfl rfl (by omega) (by omega) (by omega)
  rw [bg (by omega), m1, m2, mo, bpi _ p64.c _ _ _ (by rfl) (by rfl) (by rfl) (by decide) (by decide) (by decide), bpi _ p64.d _ _ _ (by rfl) (by rfl) (by rfl) (by decide) (by decide) (by decide)]
  rw [bg (by omega), bg (by omega), bg (by omega), bg (by omega), b2z, bxp, b28, b0g]
  exact hn'
 ·simp only [P.aff]
  rw [dx (by omega)]
  rfl
theorem brl (v u : List (BitVec 64)) (hv : v.length = 8) (hu : u.length = 8) (h1 : List Int) {ρ : Type} (k0 : Int → Int → List Int → List Int → List Int → Option ρ) :
    P.ae9 18446744073709551615 0 (cv v) h1 (cv u) k0 = k0 18446744073709551615 8 (cv v) h1 (cv ((List.range 8).map fun i => u.getD i 0 + v.getD i 0)) := by
 rw [P.alq]
 unfold P.aku P.bxh P.bsv P.bzy
 refine ug (fun i => (18446744073709551615, (i : Int), cv v, h1, cv (((List.range i).map fun i => u.getD i 0 + v.getD i 0) ++ u.drop i))) 8 (by simp) (fun i hi next hn' => ?_) (fun next => ?_) (by omega)
 ·simp only [P.ae3, toNat_cast, ag2]
  have e1 : IntKind.i64.wrap ((i : Int) + 1) = ((i + 1 : Nat) : Int) := by rw [og (by omega) (by omega)]; omega
  have e2 : (((List.range i).map fun i => u.getD i 0 + v.getD i 0) ++ u.drop i).getD i 0 = u.getD i 0 := by
   rw [List.getD_eq_getElem?_getD, List.getElem?_append_right (by simp), List.getElem?_drop, List.length_map, List.length_range, List.getD_eq_getElem?_getD]
   congr 2
   omega
  rw [e1, e2, b22, ba0]
  have e3 : (((List.range i).map fun i => u.getD i 0 + v.getD i 0) ++ u.drop i).set i (u.getD i 0 + v.getD i 0) = ((List.range (i + 1)).map fun i => u.getD i 0 + v.getD i 0) ++ u.drop (i + 1) := by
   rw [List.set_append_right _ _ (by simp), List.length_map, List.length_range, Nat.sub_self, List.range_succ, List.map_append, List.append_assoc, List.drop_eq_getElem_cons (by omega), List.set_cons_zero]
   rfl
  rw [e3]
  simp (disch := omega) only [bg, dx, gq, cu, fq, fu, jf, mo, ru, og]
  exact hn'
 ·simp only [P.ae3]
  rw [dx (by omega), List.drop_eq_nil_of_le (by omega), List.append_nil]
  rfl
theorem bkw (v : List (BitVec 64)) (hv : v.length = 8) (b : List Int) (hb : In 256 b) (hl : b.length = 16 * 8) {ρ : Type} (k : List Int → Option ρ) : P.ad4 (cv v) b true k = k (cv (avv p64 v b)) := by
 rw [P.ant]
 unfold P.ahp
 have hr1 : ∀ (k : List Int → Option ρ), P.zf k = k P.roots256 := fun k => by rw [P.aia]; kernel_rfl
 have hr2 : ∀ (k : List Int → Option ρ), P.zi k = k P.roots512 := fun k => by rw [P.aiv]; kernel_rfl
 rw [hr1, hr2, mo, bk0 b hb hl, bqa b v hv, brl v _ hv (anw _ _ _ hv _)]
 rfl
end Q
end











section
/- bits, the first part: texts. -/
namespace Q
open Go Go.Abs
set_option linter.unusedVariables false
set_option linter.unusedSimpArgs false
theorem bll {a b : List Int} (hl : a.length = b.length) (hs : a.length ≤ 140737488355328) {ρ : Type} (k0 : List Int → List Int → Int → Option ρ) (k1 : Bool → Option ρ) :
    ∀ (m i : Nat), i + m = a.length → ∀ {stp : (List Int × List Int × Int) → ((List Int × List Int × Int) → Option ρ) → ((List Int × List Int × Int) ⊕ Bool → Option ρ) → Option ρ} {K : (List Int × List Int × Int) ⊕ Bool → Option ρ},
     (∀ (j : Nat) next, stp (a, b, (j : Int)) next K = br (decide ((j : Int) < (a.length : Int))) (br (a.getD j 0 != b.getD j 0) (k1 false) (next (a, b, ((j + 1 : Nat) : Int)))) (k0 a b (j : Int))) →
     lp stp (a, b, (i : Int)) K = if a.drop i = b.drop i then k0 a b (a.length : Int) else k1 false := by
 intro m i hm stp K hst
 refine btu (P := fun x => ∃ j : Nat, x = (a, b, (j : Int)) ∧ j ≤ a.length ∧ (if a.drop j = b.drop j then k0 a b (a.length : Int) else k1 false) = (if a.drop i = b.drop i then k0 a b (a.length : Int) else k1 false)) (μ := fun x => ((a.length : Int) - x.2.2).toNat) ?_ ⟨i, rfl, by omega, rfl⟩ (by simp only; omega)
 rintro _ ⟨j, rfl, hj, he⟩ next hn
 rw [hst, ← he]
 by_cases hji : j < a.length
 ·rw [bg (by omega), afd a 0 j hji, afd b 0 j (by omega)]
  by_cases hab : a.getD j 0 = b.getD j 0
  ·rw [cu hab, hn _ ⟨j + 1, rfl, by omega, ?_⟩ (by simp only; omega), ← he, afd a 0 j hji, afd b 0 j (by omega)]
   ·rw [← he, afd a 0 j hji, afd b 0 j (by omega)]
    simp only [hab, List.cons.injEq, true_and]
  ·rw [gq hab, if_neg (by simp only [List.cons.injEq]; exact fun h => hab h.1)]
 ·have : j = a.length := by omega
  subst this
  rw [dx (by omega), if_pos (by rw [List.drop_eq_nil_of_le (Nat.le_refl _), List.drop_eq_nil_of_le (by omega)])]
theorem abr (a b : List Int) (h : a.length ≤ 140737488355328) {ρ : Type} (k : Bool → Option ρ) : P.abr a b k = k (decide (a = b)) := by
 rw [P.aw0]
 unfold P.amd
 by_cases hl : a.length = b.length
 ·rw [cu (by omega), P.ays]
  unfold P.ayj P.zk1 P.zs1 P.zu1
  have := bll hl h (fun _ _ _ => k true) k a.length 0 (by omega) (stp := (fun x next ex => P.ao9 x.1 x.2.1 x.2.2 (fun v0 v1 v5 => next (v0, v1, v5)) (fun v0 v1 v5 => ex (.inl (v0, v1, v5))) (fun v4 => ex (.inr v4)))) (K := Sum.elim (fun _ => k true) k) (by
   intro j next
   simp only [P.ao9, Sum.elim_inl, Sum.elim_inr]
   by_cases hj : (j : Int) < (a.length : Int)
   ·simp only [bg hj]
    simp (disch := omega) only [bg, dx, gq, cu, fq, fu, jf, mo, ru, og, toNat_cast]
    rfl
   ·simp only [dx hj])
  simp only [List.drop_zero] at this
  refine this.trans ?_
  by_cases hab : a = b
  ·rw [if_pos hab, decide_eq_true hab]
  ·rw [if_neg hab, decide_eq_false hab]
 ·rw [gq (by omega), decide_eq_false (fun e => hl (by rw [e]))]
end Q
end





section
/- bits: the law's own test. -/
namespace Q
open Go Go.Abs
set_option linter.unusedVariables false
set_option linter.unusedSimpArgs false
end Q
end

section
/- bits: Same, Join. -/
namespace Q
open Go Go.Abs
set_option linter.unusedVariables false
set_option linter.unusedSimpArgs false
def joined (l : List (List Int)) (i : Nat) : List Int := (l.take i).flatten
theorem aqd (l : List (List Int)) (i : Nat) (h : i < l.length) : joined l (i + 1) = joined l i ++ l.getD i [] := by
 unfold joined
 rw [← amz l [] i h, List.flatten_append]; simp
theorem ato (l : List (List Int)) : joined l l.length = l.flatten := by unfold joined; rw [List.take_length]
theorem awc (l : List (List Int)) (i : Nat) : (joined l i).length ≤ l.flatten.length := by
 unfold joined
 have : l.flatten = (l.take i).flatten ++ (l.drop i).flatten := by rw [← List.flatten_append, List.take_append_drop]
 rw [this, List.length_append]; omega
theorem l5 (l : List (List Int)) (h : l.length ≤ 140737488355328) (h2 : l.flatten.length ≤ 140737488355328) {ρ : Type} (k : List Int → Option ρ) : P.l5 l k = k l.flatten := by
 rw [P.av6]
 unfold P.amm
 rw [P.ayw]
 unfold P.axz P.byv P.bul P.b4r
 refine bov (fun i => (l, (i : Int), joined l i)) l.length (fun i hi next hn => ?_) (fun next => ?_) (Nat.zero_le _) (by omega)
 ·have e := aqd l i hi
  have h3 := awc l (i + 1)
  rw [e, List.length_append] at h3
  simp only [P.aqh, toNat_cast]
  simp (disch := omega) only [bg, dx, gq, cu, fq, fu, jf, mo, ru, og]
  rw [← e]
  exact hn
 ·simp only [P.aqh]
  rw [dx (by omega), ato]
theorem o8 (n : Nat) (h : n ≤ 140737488355328) {ρ : Type} (k : List Int → Option ρ) : P.o8 (n : Int) k = k [] := by
 rw [P.ah8]
 unfold P.ad3
 rw [dx (by omega), show IntKind.i64.wrap ((0 : Int) - (0 : Int)) = 0 by decide]
 rw [og (by omega) (by omega)]
 by_cases h0 : n = 0
 ·subst h0; rw [dx (by omega)]
 ·rw [bg (by omega), bg (by omega), bg (by omega)]; rfl
theorem jk (l : List (List Int)) (h : l.length ≤ 140737488355328) (h2 : l.flatten.length ≤ 140737488355328) {ρ : Type} (k : List Int → Option ρ) : P.jk l k = k l.flatten := by
 rw [P.agp]
 unfold P.ab2
 rw [P.aj8]
 unfold P.agk P.zk4 P.zs4 P.zu4
 refine bov (fun i => (l, ((joined l i).length : Int), l, (l.length : Int), (i : Int))) l.length (fun i hi next hn => ?_) (fun next => ?_) (Nat.zero_le _) (by omega)
 ·have e := aqd l i hi
  have h3 := awc l (i + 1)
  have e2 : ((joined l i).length : Int) + ((l.getD i []).length : Int) = ((joined l (i + 1)).length : Int) := by rw [e, List.length_append]; omega
  simp only [P.ac5, toNat_cast, e2]
  simp (disch := omega) only [bg, dx, gq, cu, fq, fu, jf, mo, ru, og]
  exact hn
 ·simp only [P.ac5]
  rw [dx (by omega), ato, o8 _ h2, P.ajl]
  unfold P.afh P.zk5 P.zs5 P.zu5
  refine bov (fun i => (l, (l.length : Int), (i : Int), joined l i)) l.length (fun i hi next hn => ?_) (fun next => ?_) (Nat.zero_le _) (by omega)
  ·have e := aqd l i hi
   have h3 := awc l (i + 1)
   rw [e, List.length_append] at h3
   simp only [P.ab8, toNat_cast]
   simp (disch := omega) only [bg, dx, gq, cu, fq, fu, jf, mo, ru, og]
   rw [← e]
   exact hn
  ·simp only [P.ab8]
   rw [dx (by omega), ato]
theorem j6 (l : List (List Int)) (h : l.length ≤ 140737488355328) (h2 : l.flatten.length ≤ 140737488355328) {ρ : Type} (k : List Int → Option ρ) : P.j6 l k = k l.flatten := by
 rw [P.at7]
 unfold P.akq
 exact jk l h h2 k
end Q
end

















section
/- lmots: digits. -/
namespace Q
open Go Go.Abs
set_option linter.unusedVariables false
set_option linter.unusedSimpArgs false
theorem wo (N s : Nat) (hN : N < 18446744073709551616) (hs : s ≤ 65536) {ρ : Type} (k : List Int → Option ρ) : P.wo (N : Int) (s : Int) k = k (bsw 8 s N).reverse := by
 rw [P.beo]
 unfold P.atu
 simp only [toNat_cast]
 simp (disch := omega) only [bg, dx, gq, cu, fq, fu, jf, mo, ru, og]
 rw [P.bff]
 unfold P.bfh P.bz3 P.bwa P.b5m
 refine ug (fun j => (((N / 2 ^ (8 * j) : Nat) : Int), (s : Int) - 1 - (j : Int), List.replicate (s - j) 0 ++ (bsw 8 j N).reverse)) s (by simp [bsw]) (fun j hj next hn' => ?_) (fun next => ?_) (by omega)
 ·simp only [P.awi, List.length_append, List.length_replicate, List.length_reverse, abe]
  rw [show (s : Int) - 1 - (j : Int) = ((s - 1 - j : Nat) : Int) by omega]
  simp only [toNat_cast]
  have hd := Nat.div_le_self N (2 ^ (8 * j))
  have hb : bits .and .u64 ((N / 2 ^ (8 * j) : Nat) : Int) 255 = ((N / 2 ^ (8 * j) % 2 ^ 8 : Nat) : Int) := by
   rw [show (255 : Int) = ((2 ^ 8 - 1 : Nat) : Int) from rfl, asn _ _ (by omega) (by omega), Nat.and_two_pow_sub_one_eq_mod]
  have hd2 : (((N / 2 ^ (8 * j) : Nat) : Int)).fdiv ((2 : Int) ^ 8) = ((N / 2 ^ (8 * (j + 1)) : Nat) : Int) := by
   rw [show ((2 : Int) ^ 8) = (2 : Int) ^ min 8 8 from rfl, fdiv_pow _ 8 8 (by omega), Nat.div_div_eq_div_mul, ← Nat.pow_add, Nat.mul_succ]
  rw [hb, hd2, u8n _ (by omega)]
  rw [bch, List.reverse_append, List.reverse_singleton, List.singleton_append] at hn'
  have hset : (List.replicate (s - j) (0 : Int) ++ (bsw 8 j N).reverse).set (s - 1 - j) ((N / 2 ^ (8 * j) % 2 ^ 8 : Nat) : Int) = List.replicate (s - (j + 1)) 0 ++ ((N / 2 ^ (8 * j) % 2 ^ 8 : Nat) : Int) :: (bsw 8 j N).reverse := by
   rw [show s - j = (s - (j + 1)) + 1 by omega, List.replicate_succ', List.append_assoc, List.set_append_right _ _ (by simp; omega), List.length_replicate, show s - 1 - j - (s - (j + 1)) = 0 by omega]
   rfl
  rw [hset]
  simp (disch := omega) only [bg, dx, gq, cu, fq, fu, jf, mo, ru, og]
  rw [show ((s - 1 - j : Nat) : Int) - 1 = (s : Int) - 1 - ((j + 1 : Nat) : Int) by omega]
  exact hn'
 ·simp only [P.awi]
  rw [dx (by omega), Nat.sub_self]; rfl
def sumTo (D : List Int) : Nat → Nat
 | 0 => 0
 | i + 1 => sumTo D i + (D.getD i 0).toNat
theorem sumTo_le (D : List Int) (w : Nat) (h : In (2 ^ w) D) : ∀ i, sumTo D i ≤ i * (2 ^ w - 1)
 | 0 => by simp [sumTo]
 | i + 1 => by
  have ih := sumTo_le D w h i
  have hp : ((2 : Int) ^ w) = ((2 ^ w : Nat) : Int) := by simp
  have := h.getD i (by rw [hp]; have := p2 w; omega)
  rw [hp] at this
  rw [Nat.succ_mul]; simp only [sumTo]; omega
theorem bka (b : List Int) (w c : Int) : In (2 ^ w.toNat) (uf b w c) := by
 unfold uf
 split
 ·refine In.map (fun i _ => ⟨Int.natCast_nonneg _, ?_⟩)
  have := Nat.mod_lt (T 8 b.reverse / 2 ^ (8 * b.length - w.toNat * (i + 1))) (p2 w.toNat)
  have hp : ((2 : Int) ^ w.toNat) = ((2 ^ w.toNat : Nat) : Int) := by simp
  rw [hp]; unfold dg; omega
 ·exact In.nil
def left (w s : Nat) (b : List Int) : Nat := ((256 / w) * (2 ^ w - 1) - sumTo (uf b w ((256 / w : Nat) : Int)) (256 / w)) * 2 ^ s
theorem az4 (b : List Int) (w c : Nat) (h1 : 1 ≤ w) (h2 : w ≤ 24) (h : c * w ≤ b.length * 8) : uf b (w : Int) (c : Int) = (List.range c).map (dg w b.length (T 8 b.reverse)) := by
 unfold uf
 rw [if_pos (by refine ⟨by omega, by omega, by omega, ?_⟩; rw [← Int.natCast_mul]; omega)]
 simp only [toNat_cast]
end Q
end

section
/- SHA-2: blocks one behind the other, words of 32 bits. -/
namespace Q
open Go Go.Abs
set_option linter.unusedVariables false
set_option linter.unusedSimpArgs false
def thr {w : Nat} (p : Par w) (v : List (BitVec w)) (b : List Int) : Nat → List (BitVec w)
 | 0 => v
 | i + 1 => avv p (thr p v b i) ((b.drop ((2 * w) * i)).take (2 * w))
theorem aln {w : Nat} (p : Par w) (v : List (BitVec w)) (hv : v.length = 8) (b : List Int) : ∀ i, (thr p v b i).length = 8
 | 0 => hv
 | i + 1 => bjp _ _ _
def toV (w : Nat) (l : List Int) : List (BitVec w) := (List.range 8).map fun i => BitVec.ofInt w (l.getD i 0)
theorem alb (w : Nat) (l : List Int) : (toV w l).length = 8 := by simp [toV]
theorem bp2 (w : Nat) (l : List Int) (hl : l.length = 8) (hi : In (2 ^ w) l) : cv (toV w l) = l := by
 unfold cv toV
 rw [List.map_map]
 refine List.ext_getElem (by simp [hl]) (fun i h1 h2 => ?_)
 have hp : ((2 : Int) ^ w) = ((2 ^ w : Nat) : Int) := by simp
 have := hi.getD i (by rw [hp]; have := p2 w; omega)
 rw [getD_lt h2] at this
 simp only [List.getElem_map, List.getElem_range, Function.comp, getD_lt h2, BitVec.toNat_ofInt]
 rw [hp] at this
 rw [Int.emod_eq_of_lt this.1 this.2]
 omega
theorem bru {w : Nat} (l : List (BitVec w)) : In (2 ^ w) (cv l) := by
 intro x hx
 obtain ⟨y, _, rfl⟩ := List.mem_map.1 hx
 have := y.isLt
 have hp : ((2 : Int) ^ w) = ((2 ^ w : Nat) : Int) := by simp
 rw [hp]
 omega
theorem bpx {w : Nat} (l : List (BitVec w)) (hl : l.length = 8) : toV w (cv l) = l := by
 unfold toV
 refine List.ext_getElem (by simp [hl]) (fun i h1 h2 => ?_)
 simp only [List.getElem_map, List.getElem_range, ag2, ofI, getD_lt h2]
theorem ba4 (x : Int) : IntKind.u32.wrap x = ((BitVec.ofInt 32 x).toNat : Int) := by
 rw [btk, BitVec.toNat_ofInt]; omega
def rest (n : Nat) (b : List Int) : List Int := b.drop (n * (b.length / n))
theorem bxt (words b : List Int) (rd : Int) (t0 t1 t2 t3 h1 h2 : List Int) (hi : In 18446744073709551616 words) {ρ : Type} (k0 : List Int → List Int → Int → Int → Int → List Int → List Int → List Int → List Int → List Int → List Int → List Int → Option ρ) :
    P.ac6 b words 0 32 rd t0 t1 t2 t3 h1 h2 (List.replicate 8 0) k0 = k0 b words 8 32 rd t0 t1 t2 t3 h1 h2 (cv (toV 32 words)) := by
 rw [P.akn]
 unfold P.agn P.bzu P.bve P.b33
 refine ug (fun i => (b, words, (i : Int), 32, rd, t0, t1, t2, t3, h1, h2, cv ((List.range i).map fun i => BitVec.ofInt 32 (words.getD i 0)) ++ List.replicate (8 - i) 0)) 8 (by simp [cv]) (fun i hi' next hn' => ?_) (fun next => ?_) (by omega)
 ·simp only [P.acn, toNat_cast]
  have e4 : IntKind.i64.wrap ((i : Int) + 1) = ((i + 1 : Nat) : Int) := by rw [og (by omega) (by omega)]; omega
  have e5 : (cv ((List.range i).map fun i => BitVec.ofInt 32 (words.getD i 0)) ++ List.replicate (8 - i) (0 : Int)).set i ((BitVec.ofInt 32 (words.getD i 0)).toNat : Int) = cv ((List.range (i + 1)).map fun i => BitVec.ofInt 32 (words.getD i 0)) ++ List.replicate (8 - (i + 1)) 0 := by
   rw [List.set_append_right _ _ (by simp), x9, List.length_map, List.length_range, Nat.sub_self, show 8 - i = (8 - (i + 1)) + 1 by omega, List.replicate_succ, List.set_cons_zero, List.range_succ, List.map_append, ← agu, List.append_assoc]
   rfl
  rw [bg (by omega), bg (by omega), bg (by omega), bg (by omega), bg (by omega), ba4, e5, e4]
  exact hn'
 ·simp only [P.acn]
  rw [dx (by omega)]
  simp [toV]
theorem bw2 (v : List (BitVec 32)) (hv : v.length = 8) (b : List Int) (hb : In 256 b) (hn : b.length ≤ 1000000) (h1 h2 : List Int) {ρ : Type} (k0 : List Int → Int → List Int → List Int → List Int → Int → Int → List Int → List Int → List Int → List Int → Option ρ) :
    P.acz b 64 (cv v) h2 h1 32 64 [7, 18, 3] [17, 19, 10] [2, 13, 22] [6, 11, 25] k0 =
     k0 (rest 64 b) 64 (cv (thr p32 v b (b.length / 64))) h2 h1 32 64 [7, 18, 3] [17, 19, 10] [2, 13, 22] [6, 11, 25] := by
 rw [P.akg]
 unfold P.agr P.bz1 P.bxz P.b0m
 refine ug (fun i => (b.drop (64 * i), 64, cv (thr p32 v b i), h2, h1, 32, 64, [7, 18, 3], [17, 19, 10], [2, 13, 22], [6, 11, 25])) (b.length / 64) (by simp [thr]) (fun i hi next hn' => ?_) (fun next => ?_) (by omega)
 ·simp only [P.ada]
  have hlen : (b.drop (64 * i)).length = b.length - 64 * i := by simp
  have hge : 64 ≤ b.length - 64 * i := by omega
  simp only [hlen, show (64 : Int).toNat = 64 from rfl, toNat_cast, List.drop_zero]
  have hbl : ((b.drop (64 * i)).take 64).length = 16 * 4 := by rw [List.length_take, hlen]; omega
  rw [bg (by omega), bg (by omega), bg (by omega), bj4 _ (aln _ _ hv _ _) _ ((hb.drop _).take _) hbl, bg (by omega), bg (by omega), bg (by omega),
   List.take_of_length_le (by rw [hlen]; omega), List.drop_drop, show 64 * i + 64 = 64 * (i + 1) by omega]
  exact hn'
 ·simp only [P.ada]
  have hlen : (b.drop (64 * (b.length / 64))).length = b.length - 64 * (b.length / 64) := by simp
  rw [dx (by rw [hlen]; omega)]
  rfl
theorem brf (v : List (BitVec 32)) (hv : v.length = 8) (b : List Int) (words h2 : List Int) (hl : words.length = 8) {ρ : Type} (k0 : List Int → List Int → Int → List Int → List Int → Option ρ) :
    P.ab0 b (cv v) 0 words h2 k0 = k0 b (cv v) 8 (cv v) h2 := by
 rw [P.ajj]
 unfold P.afk P.bzh P.bxv P.b69
 refine ug (fun i => (b, cv v, (i : Int), (cv v).take i ++ words.drop i, h2)) 8 (by simp) (fun i hi next hn' => ?_) (fun next => ?_) (by omega)
 ·simp only [P.ab4, toNat_cast]
  have e4 : IntKind.i64.wrap ((i : Int) + 1) = ((i + 1 : Nat) : Int) := by rw [og (by omega) (by omega)]; omega
  have e5 : ((cv v).take i ++ words.drop i).set i ((cv v).getD i 0) = (cv v).take (i + 1) ++ words.drop (i + 1) := by
   rw [List.set_append_right _ _ (by rw [List.length_take]; omega), List.length_take, x9, hv, Nat.min_eq_left (by omega), Nat.sub_self, List.drop_eq_getElem_cons (by omega), List.set_cons_zero, ← amz (cv v) 0 i (by rw [x9]; omega), List.append_assoc]
   rfl
  have e6 : IntKind.u64.wrap ((cv v).getD i 0) = (cv v).getD i 0 := by
   rw [ag2]; exact agx _ (nlt _)
  rw [bg (by omega), bg (by omega), bg (by omega), bg (by omega), bg (by omega), e6, e5, e4]
  exact hn'
 ·simp only [P.ab4]
  rw [dx (by omega), List.drop_eq_nil_of_le (by omega), List.append_nil, List.take_of_length_le (by rw [x9]; omega)]
  rfl
theorem bgm (words b : List Int) (hl : words.length = 8) (hi : In 18446744073709551616 words) (hb : In 256 b) (hn : b.length ≤ 1000000) {ρ : Type} (k : List Int → List Int → Option ρ) :
    P.qb 32 64 [7, 18, 3] [17, 19, 10] [2, 13, 22] [6, 11, 25] words b k = k (cv (thr p32 (toV 32 words) b (b.length / 64))) (rest 64 b) := by
 rw [P.agy]
 unfold P.ab1
 refine (bxt words b 64 [7, 18, 3] [17, 19, 10] [2, 13, 22] [6, 11, 25] words (List.replicate 8 0) hi _).trans ?_
 rw [show IntKind.i64.wrap ((32 : Int) * 2) = 64 from rfl, bw2 _ (alb _ _) b hb hn, brf _ (aln _ _ (alb _ _) _ _) _ _ _ hl]
theorem btm (v : List (BitVec 32)) (hv : v.length = 8) (b : List Int) (hb : In 256 b) (hn : b.length ≤ 1000000) (kd : Int) (tl : List Int) (sz : Int) (a1 : Int) (a2 : List Int) (a3 : Int) {ρ : Type} (k0 : Int → List Int → Int → List Int → List Int → Int → Int → List Int → Int → Option ρ) :
    P.aoa 64 b kd (cv v) tl sz a1 a2 a3 k0 = k0 64 (rest 64 b) kd (cv (thr p32 v b (b.length / 64))) tl sz a1 a2 a3 := by
 rw [P.aqv]
 unfold P.att P.btn P.bst P.by5
 refine ug (fun i => (64, b.drop (64 * i), kd, cv (thr p32 v b i), tl, sz, a1, a2, a3)) (b.length / 64) (by simp [thr]) (fun i hi next hn' => ?_) (fun next => ?_) (by omega)
 ·simp only [P.akm]
  have hlen : (b.drop (64 * i)).length = b.length - 64 * i := by simp
  have hge : 64 ≤ b.length - 64 * i := by omega
  simp only [hlen, show (64 : Int).toNat = 64 from rfl, toNat_cast, List.drop_zero]
  have hbl : ((b.drop (64 * i)).take 64).length = 16 * 4 := by rw [List.length_take, hlen]; omega
  rw [bg (by omega), bg (by omega), bg (by omega), show ((64 : Int) == 128) = false from rfl, bkz _ (aln _ _ hv _ _) _ ((hb.drop _).take _) hbl, bg (by omega), bg (by omega), bg (by omega),
   List.take_of_length_le (by rw [hlen]; omega), List.drop_drop, show 64 * i + 64 = 64 * (i + 1) by omega]
  exact hn'
 ·simp only [P.akm]
  have hlen : (b.drop (64 * (b.length / 64))).length = b.length - 64 * (b.length / 64) := by simp
  rw [dx (by rw [hlen]; omega)]
  rfl
end Q
end

section
/- SHA-2: blocks one behind the other, words of 64 bits. -/
namespace Q
open Go Go.Abs
set_option linter.unusedVariables false
set_option linter.unusedSimpArgs false
theorem bvu (words b : List Int) (rd : Int) (t0 t1 t2 t3 h1 h2 : List Int) (hi : In 18446744073709551616 words) {ρ : Type} (k0 : List Int → List Int → Int → Int → Int → List Int → List Int → List Int → List Int → List Int → List Int → List Int → Option ρ) :
    P.ac3 b words 0 64 rd t0 t1 t2 t3 h1 h2 (List.replicate 8 0) k0 = k0 b words 8 64 rd t0 t1 t2 t3 h1 h2 (cv (toV 64 words)) := by
 rw [P.akp]
 unfold P.agz P.byr P.bym P.b40
 refine ug (fun i => (b, words, (i : Int), 64, rd, t0, t1, t2, t3, h1, h2, cv ((List.range i).map fun i => BitVec.ofInt 64 (words.getD i 0)) ++ List.replicate (8 - i) 0)) 8 (by simp [cv]) (fun i hi' next hn' => ?_) (fun next => ?_) (by omega)
 ·simp only [P.ac2, toNat_cast]
  have e4 : IntKind.i64.wrap ((i : Int) + 1) = ((i + 1 : Nat) : Int) := by rw [og (by omega) (by omega)]; omega
  have e6 : words.getD i 0 = ((BitVec.ofInt 64 (words.getD i 0)).toNat : Int) := by
   have := hi.getD i (by omega)
   rw [BitVec.toNat_ofInt]
   omega
  have e5 : (cv ((List.range i).map fun i => BitVec.ofInt 64 (words.getD i 0)) ++ List.replicate (8 - i) (0 : Int)).set i ((BitVec.ofInt 64 (words.getD i 0)).toNat : Int) = cv ((List.range (i + 1)).map fun i => BitVec.ofInt 64 (words.getD i 0)) ++ List.replicate (8 - (i + 1)) 0 := by
   rw [List.set_append_right _ _ (by simp), x9, List.length_map, List.length_range, Nat.sub_self, show 8 - i = (8 - (i + 1)) + 1 by omega, List.replicate_succ, List.set_cons_zero, List.range_succ, List.map_append, ← agu, List.append_assoc]
   rfl
  rw [bg (by omega), bg (by omega), bg (by omega), bg (by omega), bg (by omega), e6, e5, e4]
  exact hn'
 ·simp only [P.ac2]
  rw [dx (by omega)]
  simp [toV]
theorem bty (v : List (BitVec 64)) (hv : v.length = 8) (b : List Int) (hb : In 256 b) (hn : b.length ≤ 1000000) (h1 h2 : List Int) {ρ : Type} (k0 : List Int → Int → List Int → List Int → List Int → Int → Int → List Int → List Int → List Int → List Int → Option ρ) :
    P.ade b 128 (cv v) h2 h1 64 80 [1, 8, 7] [19, 61, 6] [28, 34, 39] [14, 18, 41] k0 =
     k0 (rest 128 b) 128 (cv (thr p64 v b (b.length / 128))) h2 h1 64 80 [1, 8, 7] [19, 61, 6] [28, 34, 39] [14, 18, 41] := by
 rw [P.aj9]
 unfold P.agj P.bzr P.bud P.b73
 refine ug (fun i => (b.drop (128 * i), 128, cv (thr p64 v b i), h2, h1, 64, 80, [1, 8, 7], [19, 61, 6], [28, 34, 39], [14, 18, 41])) (b.length / 128) (by simp [thr]) (fun i hi next hn' => ?_) (fun next => ?_) (by omega)
 ·simp only [P.acu]
  have hlen : (b.drop (128 * i)).length = b.length - 128 * i := by simp
  have hge : 128 ≤ b.length - 128 * i := by omega
  simp only [hlen, show (128 : Int).toNat = 128 from rfl, toNat_cast, List.drop_zero]
  have hbl : ((b.drop (128 * i)).take 128).length = 16 * 8 := by rw [List.length_take, hlen]; omega
  rw [bg (by omega), bg (by omega), bg (by omega), blr _ (aln _ _ hv _ _) _ ((hb.drop _).take _) hbl, bg (by omega), bg (by omega), bg (by omega),
   List.take_of_length_le (by rw [hlen]; omega), List.drop_drop, show 128 * i + 128 = 128 * (i + 1) by omega]
  exact hn'
 ·simp only [P.acu]
  have hlen : (b.drop (128 * (b.length / 128))).length = b.length - 128 * (b.length / 128) := by simp
  rw [dx (by rw [hlen]; omega)]
  rfl
theorem br3 (v : List (BitVec 64)) (hv : v.length = 8) (b : List Int) (words h2 : List Int) (hl : words.length = 8) {ρ : Type} (k0 : List Int → List Int → Int → List Int → List Int → Option ρ) :
    P.ab7 b (cv v) 0 words h2 k0 = k0 b (cv v) 8 (cv v) h2 := by
 rw [P.ajf]
 unfold P.afj P.by4 P.bt0 P.b25
 refine ug (fun i => (b, cv v, (i : Int), (cv v).take i ++ words.drop i, h2)) 8 (by simp) (fun i hi next hn' => ?_) (fun next => ?_) (by omega)
 ·simp only [P.ab6, toNat_cast]
  have e4 : IntKind.i64.wrap ((i : Int) + 1) = ((i + 1 : Nat) : Int) := by rw [og (by omega) (by omega)]; omega
  have e5 : ((cv v).take i ++ words.drop i).set i ((cv v).getD i 0) = (cv v).take (i + 1) ++ words.drop (i + 1) := by
   rw [List.set_append_right _ _ (by rw [List.length_take]; omega), List.length_take, x9, hv, Nat.min_eq_left (by omega), Nat.sub_self, List.drop_eq_getElem_cons (by omega), List.set_cons_zero, ← amz (cv v) 0 i (by rw [x9]; omega), List.append_assoc]
   rfl
  rw [bg (by omega), bg (by omega), bg (by omega), bg (by omega), bg (by omega), e5, e4]
  exact hn'
 ·simp only [P.ab6]
  rw [dx (by omega), List.drop_eq_nil_of_le (by omega), List.append_nil, List.take_of_length_le (by rw [x9]; omega)]
  rfl
theorem bfx (words b : List Int) (hl : words.length = 8) (hi : In 18446744073709551616 words) (hb : In 256 b) (hn : b.length ≤ 1000000) {ρ : Type} (k : List Int → List Int → Option ρ) :
    P.qc 64 80 [1, 8, 7] [19, 61, 6] [28, 34, 39] [14, 18, 41] words b k = k (cv (thr p64 (toV 64 words) b (b.length / 128))) (rest 128 b) := by
 rw [P.agm]
 unfold P.ab3
 refine (bvu words b 80 [1, 8, 7] [19, 61, 6] [28, 34, 39] [14, 18, 41] words (List.replicate 8 0) hi _).trans ?_
 rw [show IntKind.i64.wrap ((64 : Int) * 2) = 128 from rfl, bty _ (alb _ _) b hb hn, br3 _ (aln _ _ (alb _ _) _ _) _ _ _ hl]
theorem bw5 (v : List (BitVec 64)) (hv : v.length = 8) (b : List Int) (hb : In 256 b) (hn : b.length ≤ 1000000) (kd : Int) (tl : List Int) (sz : Int) (a1 : Int) (a2 : List Int) (a3 : Int) {ρ : Type} (k0 : Int → List Int → Int → List Int → List Int → Int → Int → List Int → Int → Option ρ) :
    P.aoa 128 b kd (cv v) tl sz a1 a2 a3 k0 = k0 128 (rest 128 b) kd (cv (thr p64 v b (b.length / 128))) tl sz a1 a2 a3 := by
 rw [P.aqv]
 unfold P.att P.btn P.bst P.by5
 refine ug (fun i => (128, b.drop (128 * i), kd, cv (thr p64 v b i), tl, sz, a1, a2, a3)) (b.length / 128) (by simp [thr]) (fun i hi next hn' => ?_) (fun next => ?_) (by omega)
 ·simp only [P.akm]
  have hlen : (b.drop (128 * i)).length = b.length - 128 * i := by simp
  have hge : 128 ≤ b.length - 128 * i := by omega
  simp only [hlen, show (128 : Int).toNat = 128 from rfl, toNat_cast, List.drop_zero]
  have hbl : ((b.drop (128 * i)).take 128).length = 16 * 8 := by rw [List.length_take, hlen]; omega
  rw [bg (by omega), bg (by omega), bg (by omega), show ((128 : Int) == 128) = true from rfl, bkw _ (aln _ _ hv _ _) _ ((hb.drop _).take _) hbl, bg (by omega), bg (by omega), bg (by omega),
   List.take_of_length_le (by rw [hlen]; omega), List.drop_drop, show 128 * i + 128 = 128 * (i + 1) by omega]
  exact hn'
 ·simp only [P.akm]
  have hlen : (b.drop (128 * (b.length / 128))).length = b.length - 128 * (b.length / 128) := by simp
  rw [dx (by rw [hlen]; omega)]
  rfl
end Q
end



section
/- Are two rows of bytes the same. -/
namespace Q
open Go Go.Abs
set_option linter.unusedVariables false
set_option linter.unusedSimpArgs false
end Q
end











section
/- SHA-2: sums that go on, and their ends. -/
namespace Q
open Go Go.Abs
set_option linter.unusedVariables false
set_option linter.unusedSimpArgs false
def bsz (kind : Int) : Nat := if kind = 1 then 64 else 128
theorem aja (kind : Int) : (kind = 1 ∧ bsz kind = 64) ∨ (kind ≠ 1 ∧ bsz kind = 128) := by
 unfold bsz
 by_cases h : kind = 1
 ·exact .inl ⟨h, if_pos h⟩
 ·exact .inr ⟨h, if_neg h⟩
theorem uo (kind : Int) {ρ : Type} (k : Int → Option ρ) : P.uo kind k = k ((bsz kind : Nat) : Int) := by
 rw [P.al5]; unfold P.afp
 rcases aja kind with ⟨h, e⟩ | ⟨h, e⟩
 ·rw [fq h, e]; rfl
 ·rw [fu h, e]; rfl
theorem zw (kind : Int) {ρ : Type} (k : Int → Option ρ) : P.zw kind k = k ((bsz kind : Nat) : Int) := by
 rw [P.auz]; unfold P.alc
 rcases aja kind with ⟨h, e⟩ | ⟨h, e⟩
 ·rw [fq h, e]; rfl
 ·rw [fu h, e]; rfl
def ari (kind : Int) (words all : List Int) : List Int :=
 if kind = 1 then cv (thr p32 (toV 32 words) all (all.length / 64)) else cv (thr p64 (toV 64 words) all (all.length / 128))
theorem bny (kind : Int) (words all : List Int) : (ari kind words all).length = 8 := by
 unfold ari
 split <;> rw [x9, aln _ _ (alb _ _)]
def Wok (kind : Int) (words : List Int) : Prop := words.length = 8 ∧ In 18446744073709551616 words ∧ (kind = 1 → In 4294967296 words)
theorem aso (kind : Int) (words all : List Int) : Wok kind (ari kind words all) := by
 refine ⟨bny _ _ _, ?_, fun h => ?_⟩
 ·unfold ari
  split
  ·intro x hx
   have := bru _ x hx
   omega
  ·intro x hx
   have := bru _ x hx
   omega
 ·unfold ari
  rw [if_pos h]
  intro x hx
  have := bru _ x hx
  omega
theorem bci (n : Nat) (hn : 0 < n) (b : List Int) : (rest n b).length = b.length % n := by
 unfold rest
 rw [List.length_drop]
 have := Nat.div_add_mod b.length n
 omega
theorem bkh {n : Nat} {b : List Int} (h : In 256 b) : In 256 (rest n b) := h.drop _
theorem acw {ρ : Type} (k : Int → Int → List Int → List Int → List Int → List Int → Option ρ) : P.acw k = k 32 64 [7, 18, 3] [17, 19, 10] [2, 13, 22] [6, 11, 25] := by rw [P.au1]; rfl
theorem acy {ρ : Type} (k : Int → Int → List Int → List Int → List Int → List Int → Option ρ) : P.acy k = k 64 80 [1, 8, 7] [19, 61, 6] [28, 34, 39] [14, 18, 41] := by rw [P.at5]; rfl
theorem aac (kind : Int) (words tail : List Int) (size : Int) (b : List Int) (hl : words.length = 8) (hi : In 18446744073709551616 words) (ht : In 256 tail) (hb : In 256 b) (hn : tail.length + b.length ≤ 1000000) {ρ : Type} (k : Int → List Int → List Int → Int → Option ρ) :
    P.aac kind words tail size b k = k kind (ari kind words (tail ++ b)) (rest (bsz kind) (tail ++ b)) (IntKind.u64.wrap (size + IntKind.u64.wrap (b.length : Int))) := by
 rw [P.azk]; unfold P.aps
 have hf : [tail, b].flatten = tail ++ b := by simp
 have hall : (tail ++ b).length ≤ 1000000 := by rw [List.length_append]; exact hn
 have hin : In 256 (tail ++ b) := ht.app hb
 have hr : ∀ n, (rest n (tail ++ b)).length ≤ 1000000 := fun n => by unfold rest; rw [List.length_drop]; omega
 rw [jk _ (by simp) (by rw [hf]; omega), hf]
 rcases aja kind with ⟨h, e⟩ | ⟨h, e⟩
 ·rw [fq h, acw, e]
  rw [bgm words _ hl hi hin hall]
  unfold P.pq ari
  have := hr 64
  rw [bg (by omega), if_pos h]
 ·rw [fu h, acy, e]
  rw [bfx words _ hl hi hin hall]
  unfold P.pq ari
  have := hr 128
  rw [bg (by omega), if_neg h]
theorem acp (kind : Int) (words tail : List Int) (size : Int) (b : List Int) (hw : Wok kind words) (ht : In 256 tail) (hb : In 256 b) (hn : tail.length + b.length ≤ 1000000) {ρ : Type} (k : Int → List Int → List Int → Int → Option ρ) :
    P.acp kind words tail size b k = k kind (ari kind words (tail ++ b)) (rest (bsz kind) (tail ++ b)) (IntKind.u64.wrap (size + IntKind.u64.wrap (b.length : Int))) := by
 rw [P.azs]; unfold P.aqi
 obtain ⟨hl, hi, h1⟩ := hw
 have hf : [tail, b].flatten = tail ++ b := by simp
 have hall : (tail ++ b).length ≤ 1000000 := by rw [List.length_append]; exact hn
 have hin : In 256 (tail ++ b) := ht.app hb
 rw [zw, l5 _ (by simp) (by rw [hf]; omega), hf]
 rcases aja kind with ⟨h, e⟩ | ⟨h, e⟩
 ·have hv := bp2 32 words hl (h1 h)
  rw [e]
  conv => lhs; rw [← hv]
  rw [show ((64 : Nat) : Int) = 64 from rfl, btm _ (alb _ _) _ hin hall]
  unfold ari
  rw [if_pos h]
 ·have hv := bp2 64 words hl hi
  rw [e]
  conv => lhs; rw [← hv]
  rw [show ((128 : Nat) : Int) = 128 from rfl, bw5 _ (alb _ _) _ hin hall]
  unfold ari
  rw [if_neg h]
def bi1 (kind : Int) (tl : Nat) : Nat := if kind = 1 then (119 - tl) % 64 else (239 - tl) % 128 + 8
def pad (kind : Int) (tl : Nat) (size : Nat) : List Int := 128 :: List.replicate (bi1 kind tl) 0 ++ (bsw 8 8 (size * 8 % 2 ^ 64)).reverse
def bgg (n : Nat) (words : List Int) (i : Nat) : List Int := ((List.range i).map fun j => (bsw 8 n (words.getD j 0).toNat).reverse).flatten
theorem aqx (n : Nat) (words : List Int) (i : Nat) : bgg n words (i + 1) = bgg n words i ++ (bsw 8 n (words.getD i 0).toNat).reverse := by simp [bgg, List.range_succ]
theorem ai5 (n : Nat) (words : List Int) : ∀ i, (bgg n words i).length = n * i
 | 0 => by simp [bgg]
 | i + 1 => by rw [aqx, List.length_append, ai5 n words i, List.length_reverse, abe, Nat.mul_succ]
theorem bgh (n : Nat) (words : List Int) : ∀ i, In 256 (bgg n words i)
 | 0 => by simp [bgg, In]
 | i + 1 => by rw [aqx]; exact (bgh n words i).app (bhr 8 n _).rev
def bld (kind : Int) (words tail : List Int) (size : Nat) : List Int :=
 let o := bgg (bsz kind / 16) (ari kind words (tail ++ pad kind tail.length size)) 8
 if kind = 2 then o.take 48 else o
theorem bq6 (kind : Int) (words tail : List Int) (size : Nat) : In 256 (bld kind words tail size) := by
 unfold bld
 simp only
 split
 ·exact (bgh _ _ _).take _
 ·exact bgh _ _ _
theorem bm5 (kind : Int) (words tail : List Int) (size : Nat) : (bld kind words tail size).length = if kind = 1 then 32 else if kind = 2 then 48 else 64 := by
 unfold bld
 simp only
 rcases aja kind with ⟨h, e⟩ | ⟨h, e⟩
 ·rw [if_neg (by omega), if_pos h, ai5, e]
 ·rw [if_neg h, e]
  split
  ·rw [List.length_take, ai5]; decide
  ·rw [ai5]
theorem tmN (a b : Nat) : ((a : Nat) : Int).tmod (b : Int) = ((a % b : Nat) : Int) := by
 rw [Int.tmod_eq_emod_of_nonneg (by omega)]; rfl
theorem bkn (kind : Int) (tl size : Nat) : In 256 (pad kind tl size) := by
 unfold pad
 refine In.app ?_ (bhr 8 8 _).rev
 intro x hx
 rcases List.mem_cons.1 hx with rfl | hx
 ·omega
 ·rw [List.mem_replicate] at hx; omega
theorem blq (kind : Int) (tl size : Nat) : (pad kind tl size).length = bi1 kind tl + 9 := by
 unfold pad; simp
theorem bl2 (kind : Int) (tl : Nat) : bi1 kind tl ≤ 200 := by
 unfold bi1; split <;> omega
theorem bnc (n : Nat) (hn : n = 64 ∨ n = 128) (words : List Int) (hw : In 18446744073709551616 words) (a : Int) (b : List Int) (c : Int) (d : List Int) {ρ : Type} (k0 : Int → List Int → Int → List Int → Int → List Int → Int → List Int → Option ρ) :
    P.apt (n : Int) words 0 [] a b c d k0 = k0 (n : Int) words 8 (bgg (n / 16) words 8) a b c d := by
 rw [P.ayq]
 unfold P.avx P.bzl P.bye P.b1x
 have e16 : IntKind.i64.wrap ((n : Int).tdiv 16) = ((n / 16 : Nat) : Int) := by rcases hn with rfl | rfl <;> rfl
 refine ug (fun i => ((n : Int), words, (i : Int), bgg (n / 16) words i, a, b, c, d)) 8 rfl (fun i hi next hn' => ?_) (fun next => ?_) (by omega)
 ·simp only [P.apb, toNat_cast]
  have h1 := hw.getD i (by omega)
  have e4 : IntKind.i64.wrap ((i : Int) + 1) = ((i + 1 : Nat) : Int) := by rw [og (by omega) (by omega)]; omega
  have e5 : words.getD i 0 = (((words.getD i 0).toNat : Nat) : Int) := by omega
  rw [aqx] at hn'
  rw [bg (by omega), bg (by omega), bg (by omega), e16, e5, yc _ _ (by omega) (by omega), e4]
  rw [bg (by rw [ai5, List.length_reverse, abe]; rcases hn with rfl | rfl <;> omega)]
  exact hn'
 ·simp only [P.apb]
  rw [dx (by omega)]
  rfl
theorem shl3 (size : Nat) : IntKind.u64.wrap ((size : Int) * (2 : Int) ^ 3) = ((size * 8 % 2 ^ 64 : Nat) : Int) := by
 rw [bli]; omega
theorem afe (kind : Int) (words tail : List Int) (size : Nat) (hl : words.length = 8) (hi : In 18446744073709551616 words) (ht : In 256 tail) (hn : tail.length < bsz kind) {ρ : Type} (k : List Int → Option ρ) :
    P.afe kind words tail (size : Int) k = k (bld kind words tail size) := by
 rw [P.azz]; unfold P.ape
 rw [uo]
 have hz : IntKind.i64.wrap (IntKind.i64.wrap ((IntKind.i64.wrap (IntKind.i64.wrap (IntKind.i64.wrap (IntKind.i64.wrap ((2 : Int) * ((bsz kind : Nat) : Int)) - (1 : Int)) - IntKind.i64.wrap (((bsz kind : Nat) : Int).tdiv (8 : Int))) - (tail.length : Int))).tmod ((bsz kind : Nat) : Int) + IntKind.i64.wrap (((bsz kind : Nat) : Int).tdiv (8 : Int))) - (8 : Int)) = ((bi1 kind tail.length : Nat) : Int) := by
  unfold bi1
  rcases aja kind with ⟨h, e⟩ | ⟨h, e⟩
  ·rw [e] at hn ⊢
   rw [if_pos h, show IntKind.i64.wrap (IntKind.i64.wrap (IntKind.i64.wrap ((2 : Int) * ((64 : Nat) : Int)) - (1 : Int)) - IntKind.i64.wrap (((64 : Nat) : Int).tdiv (8 : Int))) = 119 from rfl, og (x := (119 : Int) - (tail.length : Int)) (by omega) (by omega),
    show (119 : Int) - (tail.length : Int) = ((119 - tail.length : Nat) : Int) by omega, tmN, show IntKind.i64.wrap (((64 : Nat) : Int).tdiv (8 : Int)) = 8 from rfl, og (x := ((((119 - tail.length) % 64 : Nat) : Int)) + 8) (by omega) (by omega), og (by omega) (by omega)]
   omega
  ·rw [e] at hn ⊢
   rw [if_neg h, show IntKind.i64.wrap (IntKind.i64.wrap (IntKind.i64.wrap ((2 : Int) * ((128 : Nat) : Int)) - (1 : Int)) - IntKind.i64.wrap (((128 : Nat) : Int).tdiv (8 : Int))) = 239 from rfl, og (x := (239 : Int) - (tail.length : Int)) (by omega) (by omega),
    show (239 : Int) - (tail.length : Int) = ((239 - tail.length : Nat) : Int) by omega, tmN, show IntKind.i64.wrap (((128 : Nat) : Int).tdiv (8 : Int)) = 16 from rfl, og (x := ((((239 - tail.length) % 128 : Nat) : Int)) + 16) (by omega) (by omega), og (by omega) (by omega)]
   omega
 have hb : bsz kind = 64 ∨ bsz kind = 128 := by rcases aja kind with ⟨h, e⟩ | ⟨h, e⟩ <;> omega
 have hz2 := bl2 kind tail.length
 rw [hz]
 simp only [toNat_cast]
 rw [bg (by omega), bg (by omega), dx (by omega), bg (by omega), bg (by omega), shl3, show (8 : Int) = ((8 : Nat) : Int) from rfl, yc _ 8 (by omega) (by omega)]
 have hp : (List.replicate 1 (0 : Int)).set 0 (128 : Int) ++ List.replicate (bi1 kind tail.length) (0 : Int) ++ (bsw 8 8 (size * 8 % 2 ^ 64)).reverse = pad kind tail.length size := rfl
 rw [bg (by
  show ((List.replicate (bi1 kind tail.length) (0 : Int)).length + 0 + 1 + _) * 1 ≤ _
  rw [List.length_replicate, List.length_reverse, abe]; omega), hp]
 have hpl := blq kind tail.length size
 rw [aac kind words tail _ _ hl hi ht (bkn _ _ _) (by omega), bnc _ hb _ (aso _ _ _).2.1]
 unfold bld
 simp only
 by_cases h2 : kind = 2
 ·have e : bsz kind = 128 := by unfold bsz; rw [if_neg (by omega)]
  rw [fq h2, bg (by rw [ai5, e]; omega), if_pos h2]
  rfl
 ·rw [fu h2, if_neg h2]
theorem pads (n : Nat) (hn : n = 64 ∨ n = 128) (tl : Nat) (ht : tl < 200) (z m : Nat) (hm : m < n) (h1 : ∀ i, i < z → (tl + (1 + i)) % n ≠ m) (h2 : (tl + (1 + z)) % n = m) (hz : z ≤ 200) (c : Int) (kd : Int) (words tail : List Int) (size : Int) (hl : tail.length = tl) (d : Int) (hd : IntKind.i64.wrap ((n : Int) - d) = (m : Int)) :
    (d = 8 → ∀ {ρ : Type} (k0 : Int → Int → List Int → Int → List Int → List Int → Int → Option ρ), P.atj (n : Int) c [128] kd words tail size k0 = k0 (n : Int) c (128 :: List.replicate z 0) kd words tail size) ∧
    (d = 16 → ∀ {ρ : Type} (k0 : Int → Int → List Int → Int → List Int → List Int → Int → Option ρ), P.atf (n : Int) c [128] kd words tail size k0 = k0 (n : Int) c (128 :: List.replicate z 0) kd words tail size) := by
 have hlen : ∀ i : Nat, ((128 : Int) :: List.replicate i 0).length = 1 + i := fun i => by simp; omega
 have hc : ∀ i : Nat, i ≤ z → IntKind.i64.wrap (((tail.length : Nat) : Int) + ((((128 : Int) :: List.replicate i 0).length : Nat) : Int)) = ((tl + (1 + i) : Nat) : Int) := fun i hi => by
  rw [hlen, hl, og (by omega) (by omega)]; omega
 have hs : ∀ i : Nat, ((128 : Int) :: List.replicate i 0) ++ [(0 : Int)] = 128 :: List.replicate (i + 1) 0 := fun i => by
  rw [List.replicate_succ']; rfl
 constructor
 ·rintro rfl ρ k0
  rw [P.bbg]
  unfold P.az0 P.bzf P.bvw P.b6k
  refine ug (fun i => ((n : Int), c, 128 :: List.replicate i 0, kd, words, tail, size)) z rfl (fun i hi next hn' => ?_) (fun next => ?_) (by omega)
  ·simp only [P.as2]
   have := h1 i hi
   rw [hc i (by omega), tmN, hd, dx (by omega), gq (by omega), bg (by rw [hlen]; omega), hs]
   exact hn'
  ·simp only [P.as2]
   rw [hc z (by omega), tmN, hd, dx (by omega), h2, cu (by rfl)]
 ·rintro rfl ρ k0
  rw [P.bck]
  unfold P.azo P.bys P.bw9 P.b6v
  refine ug (fun i => ((n : Int), c, 128 :: List.replicate i 0, kd, words, tail, size)) z rfl (fun i hi next hn' => ?_) (fun next => ?_) (by omega)
  ·simp only [P.ate]
   have := h1 i hi
   rw [hc i (by omega), tmN, hd, dx (by omega), gq (by omega), bg (by rw [hlen]; omega), hs]
   exact hn'
  ·simp only [P.ate]
   rw [hc z (by omega), tmN, hd, dx (by omega), h2, cu (by rfl)]
theorem bhx (n : Nat) (hn : n = 64 ∨ n = 128) (words : List Int) (hw : In 18446744073709551616 words) (a : Int) (b : List Int) (c : Int) {ρ : Type} (k0 : Int → Int → List Int → Int → List Int → List Int → Int → Option ρ) :
    P.akx (n : Int) 0 [] a words b c k0 = k0 (n : Int) 8 (bgg (n / 16) words 8) a words b c := by
 rw [P.ay2]
 unfold P.axt P.bzi P.btc P.b63
 have e16 : IntKind.i64.wrap ((n : Int).tdiv 16) = ((n / 16 : Nat) : Int) := by rcases hn with rfl | rfl <;> rfl
 refine ug (fun i => ((n : Int), (i : Int), bgg (n / 16) words i, a, words, b, c)) 8 rfl (fun i hi next hn' => ?_) (fun next => ?_) (by omega)
 ·simp only [P.apo, toNat_cast]
  have h1 := hw.getD i (by omega)
  have e4 : IntKind.i64.wrap ((i : Int) + 1) = ((i + 1 : Nat) : Int) := by rw [og (by omega) (by omega)]; omega
  have e5 : words.getD i 0 = (((words.getD i 0).toNat : Nat) : Int) := by omega
  rw [aqx] at hn'
  rw [bg (by omega), bg (by omega), bg (by omega), e16, e5, wo _ _ (by omega) (by omega), e4]
  rw [bg (by rw [ai5, List.length_reverse, abe]; rcases hn with rfl | rfl <;> omega)]
  exact hn'
 ·simp only [P.apo]
  rw [dx (by omega)]
  rfl
theorem bh0 (kind : Int) (words tail : List Int) (size : Nat) {ρ : Type} (k : List Int → Option ρ) :
    (br (kind == (2 : Int)) (br (decide ((48 : Int) ≤ ((bgg (bsz kind / 16) (ari kind words (tail ++ pad kind tail.length size)) 8).length : Int))) (k (List.take ((48 : Int) - (0 : Int)).toNat (bgg (bsz kind / 16) (ari kind words (tail ++ pad kind tail.length size)) 8))) none)
     (k (bgg (bsz kind / 16) (ari kind words (tail ++ pad kind tail.length size)) 8))) = k (bld kind words tail size) := by
 unfold bld
 simp only
 by_cases h2 : kind = 2
 ·have e : bsz kind = 128 := by unfold bsz; rw [if_neg (by omega)]
  rw [fq h2, bg (by rw [ai5, e]; omega), if_pos h2]
  rfl
 ·rw [fu h2, if_neg h2]
theorem ah1 (kind : Int) (words tail : List Int) (size : Nat) (hw : Wok kind words) (ht : In 256 tail) (hn : tail.length < bsz kind) (hs : size < 2305843009213693952) {ρ : Type} (k : List Int → Option ρ) :
    P.ah1 kind words tail (size : Int) k = k (bld kind words tail size) := by
 rw [P.bab]; unfold P.ap1
 have h8 : IntKind.u64.wrap ((size : Int) * 8) = ((size * 8 % 2 ^ 64 : Nat) : Int) := by rw [bli]; omega
 have hpl := blq kind tail.length size
 have hz2 := bl2 kind tail.length
 rw [zw, h8]
 rcases aja kind with ⟨h, e⟩ | ⟨h, e⟩
 ·rw [e] at hn ⊢
  have hp := (pads 64 (.inl rfl) tail.length (by omega) (bi1 kind tail.length) 56 (by omega) (fun i hi => by unfold bi1 at hi; rw [if_pos h] at hi; omega) (by unfold bi1; rw [if_pos h]; omega) hz2 ((size * 8 % 2 ^ 64 : Nat) : Int) kind words tail (size : Int) rfl 8 rfl).1
  rw [hp rfl, fu (by decide), show (8 : Int) = ((8 : Nat) : Int) from rfl, wo _ 8 (by omega) (by omega), bg (by simp; omega)]
  have hpad : (128 : Int) :: List.replicate (bi1 kind tail.length) 0 ++ (bsw 8 8 (size * 8 % 2 ^ 64)).reverse = pad kind tail.length size := rfl
  rw [hpad, acp kind words tail _ _ hw ht (bkn _ _ _) (by omega), bhx _ (.inl rfl) _ (aso _ _ _).2.1]
  have := bh0 kind words tail size k
  rw [e] at this
  exact this
 ·rw [e] at hn ⊢
  have hp1 := (pads 128 (.inr rfl) tail.length (by omega) ((247 - tail.length) % 128) 120 (by omega) (fun i hi => by omega) (by omega) (by omega) ((size * 8 % 2 ^ 64 : Nat) : Int) kind words tail (size : Int) rfl 8 rfl).1
  have hp2 := (pads 128 (.inr rfl) tail.length (by omega) ((239 - tail.length) % 128) 112 (by omega) (fun i hi => by omega) (by omega) (by omega) ((size * 8 % 2 ^ 64 : Nat) : Int) kind words tail (size : Int) rfl 16 rfl).2
  have h61 : ((size : Nat) : Int).fdiv ((2 : Int) ^ 61) = ((0 : Nat) : Int) := by
   have := fdiv_pow size 61 61 (by omega)
   rw [Nat.div_eq_of_lt (by omega)] at this
   exact this
  rw [hp1 rfl, fq (by rfl), hp2 rfl, h61, show (8 : Int) = ((8 : Nat) : Int) from rfl, wo _ 8 (by omega) (by omega), bg (by simp; omega), wo _ 8 (by omega) (by omega), bg (by simp; omega)]
  have hpad : (128 : Int) :: List.replicate ((239 - tail.length) % 128) 0 ++ (bsw 8 8 0).reverse ++ (bsw 8 8 (size * 8 % 2 ^ 64)).reverse = pad kind tail.length size := by
   unfold pad bi1
   rw [if_neg h, ← List.replicate_append_replicate]
   rfl
  rw [hpad, acp kind words tail _ _ hw ht (bkn _ _ _) (by omega), bhx _ (.inr rfl) _ (aso _ _ _).2.1]
  have := bh0 kind words tail size k
  rw [e] at this
  exact this
def bcy (kind : Int) : List Int :=
 if kind = 1 then [1779033703, 3144134277, 1013904242, 2773480762, 1359893119, 2600822924, 528734635, 1541459225]
 else if kind = 2 then [14680500436340154072, 7105036623409894663, 10473403895298186519, 1526699215303891257, 7436329637833083697, 10282925794625328401, 15784041429090275239, 5167115440072839076]
 else [7640891576956012808, 13503953896175478587, 4354685564936845355, 11912009170470909681, 5840696475078001361, 11170449401992604703, 2270897969802886507, 6620516959819538809]
theorem bma (kind : Int) : Wok kind (bcy kind) := by
 unfold bcy Wok
 by_cases h1 : kind = 1
 ·simp only [if_pos h1]
  refine ⟨rfl, ?_, fun _ => ?_⟩
  ·unfold In; decide
  ·unfold In; decide
 ·by_cases h2 : kind = 2
  ·simp only [if_neg h1, if_pos h2]
   refine ⟨rfl, ?_, fun h => absurd h h1⟩
   unfold In; decide
  ·simp only [if_neg h1, if_neg h2]
   refine ⟨rfl, ?_, fun h => absurd h h1⟩
   unfold In; decide
def K3 (kind : Int) : Prop := kind = 1 ∨ kind = 2 ∨ kind = 3
theorem bfo {kind : Int} (h : K3 kind) {ρ : Type} (k : List Int → Bool → Option ρ) : P.afa kind k = k (bcy kind) true := by
 rw [P.au5]
 rcases h with rfl | rfl | rfl <;> kernel_rfl
theorem ai0 {kind : Int} (h : K3 kind) {ρ : Type} (k : Int → List Int → List Int → Int → Int → Option ρ) : P.ai0 kind k = k kind (bcy kind) [] 0 0 := by
 rw [P.azx]; unfold P.apk
 rw [bfo h, jf, mo]
theorem ait {kind : Int} (h : K3 kind) {ρ : Type} (k : Int → List Int → List Int → Int → Int → Option ρ) : P.ait kind k = k kind (bcy kind) [] 0 0 := by
 rw [P.bal]; unfold P.apx bcy
 rcases h with rfl | rfl | rfl
 ·rw [fq (by rfl)]; rfl
 ·rw [fu (by decide), fq (by rfl)]; rfl
 ·rw [fu (by decide), fu (by decide), fq (by rfl)]; rfl
theorem asz (kind : Int) : 0 < bsz kind := by rcases aja kind with ⟨h, e⟩ | ⟨h, e⟩ <;> omega
def bns (kind : Int) (b : List Int) : List Int := bld kind (ari kind (bcy kind) b) (rest (bsz kind) b) b.length
theorem bix (b : List Int) (hn : b.length ≤ 1000000) : IntKind.u64.wrap ((0 : Int) + IntKind.u64.wrap (b.length : Int)) = ((b.length : Nat) : Int) := by
 rw [agx _ (by omega), Int.zero_add, agx _ (by omega)]
theorem aew {kind : Int} (h : K3 kind) (b : List Int) (hb : In 256 b) (hn : b.length ≤ 1000000) {ρ : Type} (k : List Int → Int → Option ρ) : P.aew kind b k = k (bns kind b) 0 := by
 rw [P.azd]; unfold P.ap2
 have hw := bma kind
 have hr := bci _ (asz kind) b
 have hlt := Nat.mod_lt b.length (asz kind)
 rw [ait h, cu (by rfl), acp kind _ [] _ b hw In.nil hb (by simpa using hn), List.nil_append, bix b hn, ah1 kind _ _ _ (aso _ _ _) (bkh hb) (by omega) (by omega)]
 rfl
theorem bq8 (kind : Int) (b : List Int) : In 256 (bns kind b) := bq6 _ _ _ _
theorem bm3 (kind : Int) (b : List Int) : (bns kind b).length = if kind = 1 then 32 else if kind = 2 then 48 else 64 := bm5 _ _ _ _
end Q
end



section
/- SHA-2: which sums can be, which are the same; the examples. -/
namespace Q
open Go Go.Abs
set_option linter.unusedVariables false
set_option linter.unusedSimpArgs false
theorem first (p : Nat → Bool) : ∀ n, ∃ m, m ≤ n ∧ (∀ i, i < m → p i = true) ∧ (m = n ∨ (m < n ∧ p m = false))
 | 0 => ⟨0, by omega, by omega, .inl rfl⟩
 | n + 1 => by
  obtain ⟨m, h1, h2, h3⟩ := first p n
  rcases h3 with h3 | ⟨h3, h4⟩
  ·subst h3
   cases hp : p m with
   | true => exact ⟨m + 1, by omega, fun i hi => by
       by_cases e : i = m
       ·rw [e]; exact hp
       ·exact h2 i (by omega), .inl rfl⟩
   | false => exact ⟨m, by omega, h2, .inr ⟨by omega, hp⟩⟩
  ·exact ⟨m, by omega, h2, .inr ⟨by omega, h4⟩⟩
end Q
end























section
/- mac: digests, with keys and without. -/
namespace Q
open QK
open Go Go.Abs
set_option linter.unusedVariables false
set_option linter.unusedSimpArgs false
def K7 (kd : Int) : Prop := kd = 1 ∨ kd = 2 ∨ kd = 3 ∨ kd = 4 ∨ kd = 5 ∨ kd = 6 ∨ kd = 7
theorem K7.of {kd : Int} (h : 1 ≤ kd ∧ kd ≤ 7) : K7 kd := by unfold K7; omega
theorem bwk {α : Type} (a b : List α) (x y : α) (i : Nat) (h : a.length = i) : (a ++ x :: b).set i y = a ++ y :: b := by
 subst h
 rw [List.set_append_right _ _ (Nat.le_refl _), Nat.sub_self]
 rfl
def bk (kd : Int) : Nat := if kd ≤ 3 then bsz kd else rOf kd
end Q
end







section
/- mac: bytes of keys and of seeds. -/
namespace Q
open QK
open Go Go.Abs
set_option linter.unusedVariables false
set_option linter.unusedSimpArgs false
def cat (T : Nat → List Int) : Nat → List Int
 | 0 => []
 | j + 1 => cat T j ++ T j
theorem amv {T : Nat → List Int} {d : Nat} (h : ∀ i, (T i).length = d) : ∀ j, (cat T j).length = j * d
 | 0 => by simp [cat]
 | j + 1 => by rw [cat, List.length_append, amv h j, h, Nat.succ_mul]
theorem bev {T : Nat → List Int} (h : ∀ i, In 256 (T i)) : ∀ j, In 256 (cat T j)
 | 0 => In.nil
 | j + 1 => (bev h j).app (h j)
end Q
end

section
/- SHA-2: bytes that are added one behind the other. -/
namespace Q
open Go Go.Abs
set_option linter.unusedVariables false
set_option linter.unusedSimpArgs false
theorem azg {w : Nat} (p : Par w) (v : List (BitVec w)) (a b : List Int) (m : Nat) (hm : (2 * w) * m = a.length) : ∀ i, thr p v (a ++ b) (m + i) = thr p (thr p v a m) b i ∧ thr p v (a ++ b) m = thr p v a m := by
 have key : ∀ i, i ≤ m → thr p v (a ++ b) i = thr p v a i := by
  intro i
  induction i with
  | zero => intro _; rfl
  | succ i ih =>
   intro hi
   have h1 : (2 * w) * i + 2 * w ≤ a.length := by
    rw [← hm, ← Nat.mul_succ]
    exact Nat.mul_le_mul (Nat.le_refl _) hi
   simp only [thr]
   rw [ih (by omega), List.drop_append_of_le_length (by omega), List.take_append_of_le_length (by rw [List.length_drop]; omega)]
 intro i
 refine ⟨?_, key m (Nat.le_refl _)⟩
 induction i with
 | zero => exact key m (Nat.le_refl _)
 | succ i ih =>
  rw [← Nat.add_assoc]
  simp only [thr]
  rw [ih, Nat.mul_add, hm, List.drop_append, List.drop_eq_nil_of_le (by omega), List.nil_append, Nat.add_sub_cancel_left]
end Q
end

section
/- lmots: the digits as the program and as the document count them. -/
namespace Q
open Go Go.Abs
set_option linter.unusedVariables false
set_option linter.unusedSimpArgs false
theorem bfy {w : Nat} {b : List Int} (hb : In (2 ^ w) b) (t : Nat) : ∃ x : Nat, b.getD t 0 = (x : Int) ∧ x < 2 ^ w := by
 have hp : ((2 : Int) ^ w) = ((2 ^ w : Nat) : Int) := by simp
 have := hb.getD t (by rw [hp]; have := p2 w; omega)
 rw [hp] at this
 exact ⟨(b.getD t 0).toNat, by omega, by omega⟩
end Q
end



section
/- wots: the digits of a text. -/
namespace Q
open Go Go.Abs
set_option linter.unusedVariables false
set_option linter.unusedSimpArgs false
def N3 (n : Nat) : Prop := n = 16 ∨ n = 24 ∨ n = 32
def wl (n : Nat) (x : List Int) : Nat := 15 * (2 * n) - sumTo (uf x 4 ((2 * n : Nat) : Int)) (2 * n)
def wd (n : Nat) (x : List Int) : List Int := uf x 4 ((2 * n : Nat) : Int) ++ [((wl n x / 2 ^ 8 : Nat) : Int), ((wl n x / 2 ^ 4 % 2 ^ 4 : Nat) : Int), ((wl n x % 2 ^ 4 : Nat) : Int)]
theorem anq (n : Nat) (x : List Int) (hl : x.length = n) : (uf x 4 ((2 * n : Nat) : Int)).length = 2 * n := by
 rw [show (4 : Int) = ((4 : Nat) : Int) from rfl, az4 x 4 (2 * n) (by omega) (by omega) (by omega)]; simp
theorem bj2 (n : Nat) (x : List Int) : In (2 ^ 4) (uf x 4 ((2 * n : Nat) : Int)) := bka x 4 _
theorem bg1 (n : Nat) (x : List Int) (hl : x.length = n) : (wd n x).length = 2 * n + 3 := by
 unfold wd; rw [List.length_append, anq n x hl]; rfl
theorem bqo {n : Nat} (h : N3 n) (x : List Int) : wl n x < 961 := by
 unfold wl; rcases h with rfl | rfl | rfl <;> omega
theorem bqp {n : Nat} (hn : N3 n) (x : List Int) (hl : x.length = n) {ρ : Type} (k0 : Int → Int → Int → List Int → Option ρ) :
    P.abz ((15 * (2 * n) : Nat) : Int) ((2 * n : Nat) : Int) 0 (uf x 4 ((2 * n : Nat) : Int)) k0 = k0 ((wl n x : Nat) : Int) ((2 * n : Nat) : Int) ((2 * n : Nat) : Int) (uf x 4 ((2 * n : Nat) : Int)) := by
 have hn2 : n ≤ 32 := by rcases hn with rfl | rfl | rfl <;> omega
 have hlen := anq n x hl
 rw [P.aty]
 unfold P.aom P.byy P.bxy P.b6j
 refine ug (fun i => (((15 * (2 * n) - sumTo (uf x 4 ((2 * n : Nat) : Int)) i : Nat) : Int), ((2 * n : Nat) : Int), (i : Int), uf x 4 ((2 * n : Nat) : Int))) (2 * n) (by simp [sumTo]) (fun i hi next hn' => ?_) (fun next => ?_) (by omega)
 ·obtain ⟨d, hd, hd2⟩ := bfy (w := 4) (bj2 n x) i
  have hle := sumTo_le (uf x 4 ((2 * n : Nat) : Int)) 4 (bj2 n x) (i + 1)
  simp only [sumTo, hd, Int.toNat_natCast] at hn' hle
  simp only [P.ajk, toNat_cast]
  rw [hd, show ((15 * (2 * n) - sumTo (uf x 4 ((2 * n : Nat) : Int)) i : Nat) : Int) - (d : Int) = ((15 * (2 * n) - (sumTo (uf x 4 ((2 * n : Nat) : Int)) i + d) : Nat) : Int) by omega, bky _ (by omega)]
  simp (disch := omega) only [bg, dx, gq, cu, fq, fu, jf, mo, ru, og, hlen]
  exact hn'
 ·simp only [P.ajk]
  rw [dx (by omega)]
  rfl
theorem bvq (a : Nat) (h : a < 4294967296) : bits .and .u32 (a : Int) 15 = ((a % 2 ^ 4 : Nat) : Int) := by
 rw [show (15 : Int) = ((2 ^ 4 - 1 : Nat) : Int) from rfl, bqw _ _ h (by omega), Nat.and_two_pow_sub_one_eq_mod]
theorem bmq {n : Nat} (hn : N3 n) (x : List Int) (hx : In 256 x) (hl : x.length = n) {ρ : Type} (k : List Int → Option ρ) :
    (P.uj x (4 : Int) (IntKind.i64.wrap ((2 : Int) * ((n : Nat) : Int))) fun (q0 : List Int) =>
            P.abz (IntKind.u32.wrap (IntKind.i64.wrap ((15 : Int) * (↑q0.length : Int)))) (↑q0.length : Int)
             (0 : Int) q0 fun (q1 q2 q3 : Int) (q4 : List Int) =>
             br
              (decide
               ((q4.length +
                     ([bits BinOp.and IntKind.u32 (q1.fdiv ((2 : Int) ^ 4)) (15 : Int),
                               bits BinOp.and IntKind.u32 q1 (15 : Int)].length.add
                         0).succ) *
                   4 ≤
                140737488355328))
              (k
               (q4 ++
                [q1.fdiv ((2 : Int) ^ 8),
                 bits BinOp.and IntKind.u32 (q1.fdiv ((2 : Int) ^ 4)) (15 : Int),
                 bits BinOp.and IntKind.u32 q1 (15 : Int)]))
              none) = k (wd n x) := by
 have hn2 : n ≤ 32 := by rcases hn with rfl | rfl | rfl <;> omega
 have hlen := anq n x hl
 have hlt := bqo hn x
 rw [og (by omega) (by omega), show (2 : Int) * (n : Int) = ((2 * n : Nat) : Int) by omega, uj _ _ _ hx (by omega), hlen, og (x := (15 : Int) * ((2 * n : Nat) : Int)) (by omega) (by omega), show (15 : Int) * ((2 * n : Nat) : Int) = ((15 * (2 * n) : Nat) : Int) by omega, bky _ (by omega), bqp hn x hl, hlen]
 have e8 : ((wl n x : Nat) : Int).fdiv ((2 : Int) ^ 8) = ((wl n x / 2 ^ 8 : Nat) : Int) := fdiv_pow _ 8 8 (by omega)
 have e4 : ((wl n x : Nat) : Int).fdiv ((2 : Int) ^ 4) = ((wl n x / 2 ^ 4 : Nat) : Int) := fdiv_pow _ 4 4 (by omega)
 have hd := Nat.div_le_self (wl n x) (2 ^ 4)
 rw [e8, e4, bvq _ (by omega), bvq _ (by omega), bg (by show (2 * n + 3) * 4 ≤ _; omega)]
 rfl
theorem sw {n : Nat} (hn : N3 n) (x : List Int) (hx : In 256 x) (hl : x.length = n) {ρ : Type} (k : List Int → Option ρ) : P.sw (n : Int) x k = k (wd n x) := by
 rw [P.aok]
 unfold P.ais
 have ht := bmq hn x hx hl k
 rcases hn with rfl | rfl | rfl
 ·rw [cu (by rfl), cu (by rw [hl])]
  exact ht
 ·rw [gq (by decide), cu (by rfl), cu (by rw [hl])]
  exact ht
 ·rw [gq (by decide), gq (by decide), cu (by rfl), cu (by rw [hl])]
  exact ht
end Q
end



section
/- wots: kinds, places, digits, by the program and by the document. -/
namespace Q
open QK
open Go Go.Abs
set_option linter.unusedVariables false
set_option linter.unusedSimpArgs false
def adz (N H D A K : Int) : Prop := (N = 16 ∨ N = 24 ∨ N = 32) ∧ 1 ≤ D ∧ H ≤ 68 ∧ D ≤ H ∧ H.tmod D = 0 ∧ IntKind.i64.wrap (H.tdiv D) ≤ 9 ∧ 1 ≤ A ∧ A ≤ 14 ∧ 1 ≤ K ∧ K ≤ 40
instance (N H D A K : Int) : Decidable (adz N H D A K) := by unfold adz; infer_instance
theorem bb8 (N H D A K : Int) (hN : N = 16 ∨ N = 24 ∨ N = 32) {ρ : Type} (k : Bool → Option ρ) :
    (br (decide (D < (1 : Int))) (k false) (br (decide (H < D)) (k false) (br (decide (H > (68 : Int))) (k false)
     (br (decide (D = (0 : Int))) none (br (H.tmod D != (0 : Int)) (k false) (br (decide (D = (0 : Int))) none
      (br (decide (IntKind.i64.wrap (H.tdiv D) > (9 : Int))) (k false) (br (decide (A ≥ (1 : Int)))
       (br (decide (A ≤ (14 : Int))) (br (decide (K ≥ (1 : Int))) (k (decide (K ≤ (40 : Int)))) (k false)) (k false)) (k false))))))))) = k (decide (adz N H D A K)) := by
 by_cases h1 : D < 1
 ·rw [bg h1, decide_eq_false (by unfold adz; omega)]
 rw [dx h1]
 by_cases h2 : H < D
 ·rw [bg h2, decide_eq_false (by unfold adz; omega)]
 rw [dx h2]
 by_cases h3 : H > 68
 ·rw [bg h3, decide_eq_false (by unfold adz; omega)]
 rw [dx h3, dx (by omega)]
 by_cases h4 : H.tmod D = 0
 ·rw [cu h4, dx (by omega)]
  by_cases h5 : IntKind.i64.wrap (H.tdiv D) > 9
  ·rw [bg h5, decide_eq_false (by unfold adz; omega)]
  rw [dx h5]
  by_cases h6 : A ≥ 1
  ·rw [bg h6]
   by_cases h7 : A ≤ 14
   ·rw [bg h7]
    by_cases h8 : K ≥ 1
    ·rw [bg h8]
     congr 1
     apply decide_eq_decide.2
     unfold adz
     omega
    ·rw [dx h8, decide_eq_false (by unfold adz; omega)]
   ·rw [dx h7, decide_eq_false (by unfold adz; omega)]
  ·rw [dx h6, decide_eq_false (by unfold adz; omega)]
 ·rw [gq h4, decide_eq_false (by unfold adz; omega)]
theorem yg (N H D A K : Int) (z : Bool) {ρ : Type} (k : Bool → Option ρ) : P.yg N H D A K z k = k (decide (adz N H D A K)) := by
 rw [P.awf]; unfold P.ani
 by_cases h1 : N = 16
 ·rw [cu h1]; exact bb8 N H D A K (.inl h1) k
 rw [gq h1]
 by_cases h2 : N = 24
 ·rw [cu h2]; exact bb8 N H D A K (.inr (.inl h2)) k
 rw [gq h2]
 by_cases h3 : N = 32
 ·rw [cu h3]; exact bb8 N H D A K (.inr (.inr h3)) k
 rw [gq h3, decide_eq_false (by unfold adz; omega)]
theorem avw (N H D A K : Int) (hN : N = 16 ∨ N = 24 ∨ N = 32) {ρ : Type} (k : Bool → Option ρ) :
    (br (decide (D ≥ (1 : Int))) (br (decide (H ≤ (68 : Int))) (br (decide (H ≥ D)) (br (decide (D = (0 : Int))) none
       (br (H.tmod D == (0 : Int)) (br (decide (D = (0 : Int))) none (br (decide (IntKind.i64.wrap (H.tdiv D) ≤ (9 : Int)))
          (br (decide (A ≥ (1 : Int))) (br (decide (A ≤ (14 : Int))) (br (decide (K ≥ (1 : Int))) (k (decide (K ≤ (40 : Int)))) (k false)) (k false))
          (k false)) (k false))) (k false))) (k false)) (k false)) (k false)) = k (decide (adz N H D A K)) := by
 by_cases h1 : D ≥ 1
 ·rw [bg h1]
  by_cases h3 : H ≤ 68
  ·rw [bg h3]
   by_cases h2 : H ≥ D
   ·rw [bg h2, dx (by omega)]
    by_cases h4 : H.tmod D = 0
    ·rw [fq h4, dx (by omega)]
     by_cases h5 : IntKind.i64.wrap (H.tdiv D) ≤ 9
     ·rw [bg h5]
      by_cases h6 : A ≥ 1
      ·rw [bg h6]
       by_cases h7 : A ≤ 14
       ·rw [bg h7]
        by_cases h8 : K ≥ 1
        ·rw [bg h8]
         congr 1
         apply decide_eq_decide.2
         unfold adz
         omega
        ·rw [dx h8, decide_eq_false (by unfold adz; omega)]
       ·rw [dx h7, decide_eq_false (by unfold adz; omega)]
      ·rw [dx h6, decide_eq_false (by unfold adz; omega)]
     ·rw [dx h5, decide_eq_false (by unfold adz; omega)]
    ·rw [fu h4, decide_eq_false (by unfold adz; omega)]
   ·rw [dx h2, decide_eq_false (by unfold adz; omega)]
  ·rw [dx h3, decide_eq_false (by unfold adz; omega)]
 ·rw [dx h1, decide_eq_false (by unfold adz; omega)]
theorem mh (N H D A K : Int) (z : Bool) {ρ : Type} (k : Bool → Option ρ) : P.mh N H D A K z k = k (decide (adz N H D A K)) := by
 rw [P.aze]; unfold P.aqj
 by_cases h1 : N = 16
 ·rw [cu h1]; exact avw N H D A K (.inl h1) k
 rw [gq h1]
 by_cases h2 : N = 24
 ·rw [cu h2]; exact avw N H D A K (.inr (.inl h2)) k
 rw [gq h2]
 by_cases h3 : N = 32
 ·rw [cu h3]; exact avw N H D A K (.inr (.inr h3)) k
 rw [gq h3, decide_eq_false (by unfold adz; omega)]
def bd3 (a : List Int) (i : Nat) (b : List Int) : List Int := a.take i ++ b ++ a.drop (i + b.length)
theorem aqo (a : List Int) (i : Nat) (b : List Int) (h : i + b.length ≤ a.length) : (bd3 a i b).length = a.length := by
 unfold bd3; simp; omega
theorem ba7 {a : List Int} {i : Nat} {b : List Int} (ha : In 256 a) (hb : In 256 b) : In 256 (bd3 a i b) := ((ha.take i).app hb).app (ha.drop _)
def be4 (n v : Nat) : List Int := (bsw 8 n v).reverse
theorem aef (n v : Nat) : (be4 n v).length = n := by simp [be4]
theorem bhc (n v : Nat) : In 256 (be4 n v) := (bhr 8 n v).rev
def asj (a : List Int) (part : Int) (v : Nat) : List Int :=
 if part = 0 then bd3 a 0 (be4 4 v) else if part = 1 then bd3 a 4 (be4 12 v) else if part = 2 then bd3 a 16 (be4 4 v ++ List.replicate 12 0)
 else if part = 3 ∨ part = 4 ∨ part = 5 then bd3 a (8 + 4 * part.toNat) (be4 4 v) else a
theorem kr {a : List Int} (h : a.length = 32) (part : Int) (v : Nat) : (asj a part v).length = 32 := by
 unfold asj
 have h4 := aef 4 v
 have h12 := aef 12 v
 split
 ·rw [aqo _ _ _ (by omega), h]
 split
 ·rw [aqo _ _ _ (by omega), h]
 split
 ·rw [aqo _ _ _ (by rw [List.length_append, List.length_replicate]; omega), h]
 split
 ·rw [aqo _ _ _ (by omega), h]
 exact h
theorem xw {a : List Int} (h : In 256 a) (part : Int) (v : Nat) : In 256 (asj a part v) := by
 unfold asj
 split
 ·exact ba7 h (bhc _ _)
 split
 ·exact ba7 h (bhc _ _)
 split
 ·exact ba7 h ((bhc _ _).app (fun x hx => by rw [List.mem_replicate] at hx; omega))
 split
 ·exact ba7 h (bhc _ _)
 exact h
theorem cpy (a : List Int) (i m : Nat) (b : List Int) (hb : b.length ≤ m) : (a.take i).append (b.take m ++ a.drop (i + min m b.length)) = bd3 a i b := by
 rw [List.take_of_length_le hb, Nat.min_eq_right hb]
 show a.take i ++ (b ++ _) = _
 rw [← List.append_assoc]
 rfl
theorem iy {a : List Int} (h : a.length = 32) (part : Int) (v : Nat) (hv : v < 18446744073709551616) {ρ : Type} (k : List Int → Option ρ) : P.iy a part (v : Int) k = k (asj a part v) := by
 rw [P.av2]; unfold P.amr asj
 have h4 : (bsw 8 4 v).reverse.length = 4 := by simp
 have h12 : (bsw 8 12 v).reverse.length = 12 := by simp
 have be : ∀ (k' : List Int → Option ρ), P.yc (v : Int) 4 k' = k' (be4 4 v) := fun k' => yc v 4 hv (by omega) k'
 have be' : ∀ (k' : List Int → Option ρ), P.yc (v : Int) 12 k' = k' (be4 12 v) := fun k' => yc v 12 hv (by omega) k'
 by_cases h0 : part = 0
 ·rw [fq h0, if_pos h0, be]
  exact congrArg k (by rw [← cpy a 0 4 (be4 4 v) (by rw [aef]; omega)]; rfl)
 rw [fu h0, if_neg h0]
 by_cases h1 : part = 1
 ·rw [fq h1, if_pos h1, be']
  exact congrArg k (cpy a 4 12 _ (by rw [aef]; omega))
 rw [fu h1, if_neg h1]
 by_cases h2 : part = 2
 ·have e : [be4 4 v, List.replicate 12 (0 : Int)].flatten = be4 4 v ++ List.replicate 12 0 := by simp
  rw [fq h2, if_pos h2, be, j6 _ (by simp) (by rw [e]; simp [aef]), e]
  exact congrArg k (cpy a 16 16 _ (by rw [List.length_append, aef, List.length_replicate]; omega))
 rw [fu h2, if_neg h2]
 have fin : ∀ (p : Nat), part = (p : Int) → 3 ≤ p → p ≤ 5 → (br (decide ((0 : Int) ≤ IntKind.i64.wrap ((8 : Int) + IntKind.i64.wrap ((4 : Int) * part))))
     (br (decide (IntKind.i64.wrap ((8 : Int) + IntKind.i64.wrap ((4 : Int) * part)) ≤ ((32 : Nat) : Int)))
      (P.yc (v : Int) (4 : Int) fun (q4 : List Int) =>
       k ((List.take (IntKind.i64.wrap ((8 : Int) + IntKind.i64.wrap ((4 : Int) * part))).toNat a).append
        (List.take (((32 : Nat) : Int) - IntKind.i64.wrap ((8 : Int) + IntKind.i64.wrap ((4 : Int) * part))).toNat q4 ++
         List.drop ((IntKind.i64.wrap ((8 : Int) + IntKind.i64.wrap ((4 : Int) * part))).toNat +
          min (((32 : Nat) : Int) - IntKind.i64.wrap ((8 : Int) + IntKind.i64.wrap ((4 : Int) * part))).toNat q4.length) a))) none) none) = k (bd3 a (8 + 4 * part.toNat) (be4 4 v)) := by
  intro p hp h3 h5
  subst hp
  have e : IntKind.i64.wrap ((8 : Int) + IntKind.i64.wrap ((4 : Int) * (p : Int))) = ((8 + 4 * p : Nat) : Int) := by
   rw [og (x := 4 * (p : Int)) (by omega) (by omega), og (by omega) (by omega)]; omega
  rw [e, bg (by omega), bg (by omega), be, show (((32 : Nat) : Int) - ((8 + 4 * p : Nat) : Int)).toNat = 24 - 4 * p by omega, toNat_cast, toNat_cast]
  exact congrArg k (cpy a _ _ _ (by rw [aef]; omega))
 by_cases h3 : part = 3
 ·rw [fq h3, fq h3, if_pos (.inl h3)]
  exact fin 3 h3 (by omega) (by omega)
 rw [fu h3]
 by_cases h4' : part = 4
 ·rw [fq h4', fq h4', if_pos (.inr (.inl h4'))]
  exact fin 4 h4' (by omega) (by omega)
 rw [fu h4']
 by_cases h5 : part = 5
 ·rw [fq h5, if_pos (.inr (.inr h5))]
  exact fin 5 h5 (by omega) (by omega)
 rw [fu h5, if_neg (by omega)]
theorem aap {a : List Int} (h : a.length = 32) (i : Nat) (b : List Int) (hb : i + b.length ≤ 32) {ρ : Type} (k : List Int → Option ρ) : P.aap a (i : Int) b k = k (bd3 a i b) := by
 rw [P.bak]; unfold P.ao7
 rw [P.bbp]; unfold P.bah P.bzo P.bte P.b48
 refine ug (fun j => ((i : Int), b, (j : Int), bd3 a i (b.take j), ([0, 0, 0, 0, 0, 0, 0, 0, 0, 0, 0, 0, 0, 0, 0, 0, 0, 0, 0, 0, 0, 0, 0, 0, 0, 0, 0, 0, 0, 0, 0, 0] : List Int))) b.length (by simp [bd3]) (fun j hj next hn => ?_) (fun next => ?_) (by omega)
 ·have e1 : (bd3 a i (b.take j)).set (i + j) (b.getD j 0) = bd3 a i (b.take (j + 1)) := by
    unfold bd3
    rw [List.length_take, List.length_take, Nat.min_eq_left (by omega), Nat.min_eq_left (by omega), afd a 0 (i + j) (by omega), bwk _ _ _ _ (i + j) (by simp; omega), List.take_succ_eq_append_getElem hj, getD_lt hj]
    simp only [Nat.add_assoc, List.append_assoc, List.singleton_append, List.length_append, List.length_singleton]
    done
  simp only [P.as5, toNat_cast]
  rw [bg (by omega), bg (by omega), bg (by omega), og (x := (i : Int) + (j : Int)) (by omega) (by omega), bg (by omega), bg (by omega), og (by omega) (by omega), show ((i : Int) + (j : Int)).toNat = i + j by omega, e1]
  exact hn
 ·simp only [P.as5]
  rw [dx (by omega), List.take_length]
theorem jm {a : List Int} (h : a.length = 32) (part : Int) (v : Nat) (hv : v < 18446744073709551616) {ρ : Type} (k : List Int → Option ρ) : P.jm a part (v : Int) k = k (asj a part v) := by
 rw [P.az9]; unfold P.apw asj
 have be : ∀ (k' : List Int → Option ρ), P.wo (v : Int) 4 k' = k' (be4 4 v) := fun k' => wo v 4 hv (by omega) k'
 have be' : ∀ (k' : List Int → Option ρ), P.wo (v : Int) 12 k' = k' (be4 12 v) := fun k' => wo v 12 hv (by omega) k'
 by_cases h0 : part = 0
 ·rw [fq h0, if_pos h0, be]
  exact aap h 0 _ (by rw [aef]; omega) _
 rw [fu h0, if_neg h0]
 by_cases h1 : part = 1
 ·rw [fq h1, if_pos h1, be']
  exact aap h 4 _ (by rw [aef]; omega) _
 rw [fu h1, if_neg h1]
 by_cases h2 : part = 2
 ·have hl := aqo a 16 (be4 4 v) (by rw [aef]; omega)
  rw [fq h2, if_pos h2, be]
  refine (aap h 16 _ (by rw [aef]; omega) _).trans ((aap (by rw [hl, h]) 20 _ (by simp) _).trans (congrArg k ?_))
  unfold bd3
  have e1 : (a.take 16 ++ be4 4 v).length = 20 := by rw [List.length_append, List.length_take, aef]; omega
  rw [aef, List.length_append, aef, List.length_replicate, List.take_append_of_le_length (by omega), List.take_of_length_le (by omega), List.drop_append, List.drop_eq_nil_of_le (by omega), e1, List.drop_drop, List.append_assoc (a.take 16)]
  rfl
 rw [fu h2, if_neg h2]
 have fin : ∀ (p : Nat), part = (p : Int) → 3 ≤ p → p ≤ 5 → (P.wo (v : Int) (4 : Int) fun (q7 : List Int) => P.aap a (IntKind.i64.wrap ((8 : Int) + IntKind.i64.wrap ((4 : Int) * part))) q7 fun (q8 : List Int) => k q8) = k (bd3 a (8 + 4 * part.toNat) (be4 4 v)) := by
  intro p hp h3 h5
  subst hp
  have e : IntKind.i64.wrap ((8 : Int) + IntKind.i64.wrap ((4 : Int) * (p : Int))) = ((8 + 4 * p : Nat) : Int) := by
   rw [og (x := 4 * (p : Int)) (by omega) (by omega), og (by omega) (by omega)]; omega
  rw [e, be, aap h _ _ (by rw [aef]; omega), toNat_cast]
 by_cases h3 : part = 3
 ·rw [fq h3, fq h3, if_pos (.inl h3)]
  exact fin 3 h3 (by omega) (by omega)
 rw [fu h3]
 by_cases h4' : part = 4
 ·rw [fq h4', fq h4', if_pos (.inr (.inl h4'))]
  exact fin 4 h4' (by omega) (by omega)
 rw [fu h4']
 by_cases h5 : part = 5
 ·rw [fq h5, if_pos (.inr (.inr h5))]
  exact fin 5 h5 (by omega) (by omega)
 rw [fu h5, if_neg (by omega)]
theorem bux {n : Nat} (hn : N3 n) (x : List Int) (hl : x.length = n) {ρ : Type} (k0 : Int → Int → List Int → Option ρ) :
    P.ado 0 0 (uf x 4 ((2 * n : Nat) : Int)) k0 = k0 ((wl n x : Nat) : Int) ((2 * n : Nat) : Int) (uf x 4 ((2 * n : Nat) : Int)) := by
 have hn2 : n ≤ 32 := by rcases hn with rfl | rfl | rfl <;> omega
 have hlen := anq n x hl
 rw [P.ave]
 unfold P.arh P.byz P.bv8 P.b59
 refine ug (fun i => (((15 * i - sumTo (uf x 4 ((2 * n : Nat) : Int)) i : Nat) : Int), (i : Int), uf x 4 ((2 * n : Nat) : Int))) (2 * n) (by simp [sumTo]) (fun i hi next hn' => ?_) (fun next => ?_) (by omega)
 ·obtain ⟨d, hd, hd2⟩ := bfy (w := 4) (bj2 n x) i
  have hle := sumTo_le (uf x 4 ((2 * n : Nat) : Int)) 4 (bj2 n x) i
  simp only [sumTo, hd, Int.toNat_natCast] at hn'
  simp only [P.akr, toNat_cast]
  rw [hd, bg (by omega), bg (by omega), bg (by omega), agx _ (by omega), og (by omega) (by omega), show ((15 * i - sumTo (uf x 4 ((2 * n : Nat) : Int)) i : Nat) : Int) + (15 : Int) = ((15 * i - sumTo (uf x 4 ((2 * n : Nat) : Int)) i + 15 : Nat) : Int) by omega, agx _ (by omega),
   show ((15 * i - sumTo (uf x 4 ((2 * n : Nat) : Int)) i + 15 : Nat) : Int) - (d : Int) = ((15 * (i + 1) - (sumTo (uf x 4 ((2 * n : Nat) : Int)) i + d) : Nat) : Int) by omega, agx _ (by omega)]
  exact hn'
 ·simp only [P.akr]
  rw [dx (by omega)]
  rfl
theorem bkp (s : Nat) (h : s < 961) : uf (bsw 8 2 (16 * s)).reverse 4 3 = [((s / 2 ^ 8 : Nat) : Int), ((s / 2 ^ 4 % 2 ^ 4 : Nat) : Int), ((s % 2 ^ 4 : Nat) : Int)] := by
 rw [show (4 : Int) = ((4 : Nat) : Int) from rfl, show (3 : Int) = ((3 : Nat) : Int) from rfl, az4 _ 4 3 (by omega) (by omega) (by simp), List.reverse_reverse, bv4]
 simp only [List.length_reverse, abe, dg, List.range_succ, List.range_zero, List.nil_append, List.map_append, List.map_cons, List.map_nil, List.cons_append]
 refine congr (congrArg _ ?_) (congr (congrArg _ ?_) (congrArg (· :: []) ?_)) <;> omega
theorem bo6 {n : Nat} (hn : N3 n) (x : List Int) (hx : In 256 x) (hl : x.length = n) {ρ : Type} (k : List Int → Option ρ) :
    (P.qj x (4 : Int) (IntKind.i64.wrap ((2 : Int) * (n : Int))) fun (q0 : List Int) =>
     P.ado (0 : Int) (0 : Int) q0 fun (q1 q2 : Int) (q3 : List Int) =>
      P.wo (IntKind.u64.wrap ((16 : Int) * q1)) (2 : Int) fun (q4 : List Int) =>
       P.qj q4 (4 : Int) (3 : Int) fun (q5 : List Int) =>
        br (decide ((q3.length + q5.length) * 4 ≤ 140737488355328)) (k (q3 ++ q5)) none) = k (wd n x) := by
 have hn2 : n ≤ 32 := by rcases hn with rfl | rfl | rfl <;> omega
 have hlen := anq n x hl
 have hlt := bqo hn x
 rw [og (by omega) (by omega), show (2 : Int) * (n : Int) = ((2 * n : Nat) : Int) by omega, qj _ _ _ hx (by omega), bux hn x hl, show (16 : Int) * ((wl n x : Nat) : Int) = ((16 * wl n x : Nat) : Int) by omega, agx _ (by omega), show (2 : Int) = ((2 : Nat) : Int) from rfl, wo _ 2 (by omega) (by omega), qj _ _ _ (bhr 8 2 _).rev (by simp), bkp _ hlt, bg (by rw [hlen]; simp only [List.length_cons, List.length_nil]; omega)]
 rfl
theorem xk {n : Nat} (hn : N3 n) (x : List Int) (hx : In 256 x) (hl : x.length = n) {ρ : Type} (k : List Int → Option ρ) : P.xk (n : Int) x k = k (wd n x) := by
 rw [P.aqw]
 unfold P.ajy
 have ht := bo6 hn x hx hl k
 rcases hn with rfl | rfl | rfl
 ·rw [cu (by rfl), cu (by rw [hl])]
  exact ht
 ·rw [gq (by decide), cu (by rfl), cu (by rw [hl])]
  exact ht
 ·rw [gq (by decide), gq (by decide), cu (by rfl), cu (by rw [hl])]
  exact ht
end Q
end

section
/- wots: sums at places. -/
namespace Q
open QK
open Go Go.Abs
set_option linter.unusedVariables false
set_option linter.unusedSimpArgs false
theorem bom {kind : Int} (w blk b : List Int) (hl : blk.length = bsz kind) : ari kind (ari kind w blk) b = ari kind w (blk ++ b) := by
 unfold ari
 rcases aja kind with ⟨h, e⟩ | ⟨h, e⟩
 ·rw [e] at hl
  have := (azg p32 (toV 32 w) blk b 1 (by omega) (b.length / 64)).1
  simp only [if_pos h]
  rw [bpx _ (aln _ _ (alb _ _) _ _), List.length_append, hl, show (64 + b.length) / 64 = 1 + b.length / 64 by omega, Nat.div_self (by omega), this]
 ·rw [e] at hl
  have := (azg p64 (toV 64 w) blk b 1 (by omega) (b.length / 128)).1
  simp only [if_neg h]
  rw [bpx _ (aln _ _ (alb _ _) _ _), List.length_append, hl, show (128 + b.length) / 128 = 1 + b.length / 128 by omega, Nat.div_self (by omega), this]
theorem bnb {n : Nat} (hn : 0 < n) (blk b : List Int) (hl : blk.length = n) : rest n (blk ++ b) = rest n b := by
 unfold rest
 rw [List.length_append, hl, Nat.add_comm n, Nat.add_div_right _ hn, Nat.mul_succ, List.drop_append, List.drop_eq_nil_of_le (by omega), List.nil_append, hl, Nat.add_sub_cancel]
def blk (kind : Int) (pub : List Int) : List Int := pub ++ List.replicate (bsz kind - pub.length) 0
theorem bge (kind : Int) (pub : List Int) (h : pub.length ≤ 64) : (blk kind pub).length = bsz kind := by
 unfold blk
 rcases aja kind with ⟨_, e⟩ | ⟨_, e⟩ <;> rw [List.length_append, List.length_replicate, e] <;> omega
theorem bph {kind : Int} {pub : List Int} (h : In 256 pub) : In 256 (blk kind pub) := h.app (fun x hx => by rw [List.mem_replicate] at hx; omega)
theorem xg {kind : Int} (h : K3 kind) (pub : List Int) (hp : In 256 pub) (hn : pub.length ≤ 64) (B : Int) (hB : B = ((bsz kind : Nat) : Int)) {ρ : Type} (k : Int → List Int → List Int → Int → Option ρ) :
    P.xg kind B pub k = k kind (ari kind (bcy kind) (blk kind pub)) [] B := by
 have hb : bsz kind = 64 ∨ bsz kind = 128 := by rcases aja kind with ⟨_, e⟩ | ⟨_, e⟩ <;> omega
 have hw := bma kind
 have e1 : [pub].flatten = pub := by simp
 have e2 : IntKind.i64.wrap (B - (pub.length : Int)) = ((bsz kind - pub.length : Nat) : Int) := by rw [og (by omega) (by omega)]; omega
 have hl := bge kind pub hn
 have er : rest (bsz kind) (blk kind pub) = [] := List.eq_nil_of_length_eq_zero (by rw [bci _ (asz kind), hl, Nat.mod_self])
 have e3 := bix (blk kind pub) (by omega)
 rw [P.aow]; unfold P.ail
 rw [ai0 h, j6 _ (by simp) (by rw [e1]; omega), e1, e2, toNat_cast, bg (by omega), bg (by omega)]
 show P.aac kind (bcy kind) [] 0 (blk kind pub) _ = _
 rw [aac kind _ [] _ _ hw.1 hw.2.1 In.nil (bph hp) (by rw [List.length_nil]; omega), List.nil_append, er, e3, hl, hB]
def sho (a : List Int) : List Int := (a.drop 3).take 1 ++ ((a.drop 8).take 8 ++ (a.drop 19).take 13)
theorem bcm (a : List Int) : (sho a).length ≤ 22 := by unfold sho; simp; omega
theorem bpk {a : List Int} (h : In 256 a) : In 256 (sho a) := ((h.drop _).take _).app (((h.drop _).take _).app ((h.drop _).take _))
theorem w9 (a : List Int) {ρ : Type} (k : List Int → Option ρ) : P.w9 a k = k (sho a) := by
 have e : [List.take 1 (List.drop 3 a), List.take 8 (List.drop 8 a), List.take 13 (List.drop 19 a)].flatten = sho a := by unfold sho; simp
 have := bcm a
 rw [P.ar0]; unfold P.ajs
 rw [j6 _ (by simp) (by rw [e]; omega), e]
theorem aar (a : List Int) {ρ : Type} (k : List Int → Option ρ) : P.aar a k = k (sho a) := by
 have e0 : List.take 13 (List.drop 19 a) = List.take 1 (List.drop 19 a) ++ List.take 12 (List.drop 20 a) := by
  rw [show (13 : Nat) = 1 + 12 from rfl, List.take_add, List.drop_drop]
 have e : [List.take 1 (List.drop 3 a), List.take 8 (List.drop 8 a), List.take 1 (List.drop 19 a), List.take 12 (List.drop 20 a)].flatten = sho a := by unfold sho; rw [e0]; simp
 have := bcm a
 rw [P.auu]; unfold P.ald
 rw [l5 _ (by simp) (by rw [e]; omega), e]
def hk (n : Nat) (t : List Int) : Int := if 16 < n ∧ n < t.length then 3 else 1
def bdt (n : Nat) (sh : Bool) (pub a t : List Int) : List Int := if sh then bxa 7 (pub ++ (a ++ t)) n else (bns (hk n t) (blk (hk n t) pub ++ (sho a ++ t))).take n
theorem bgk {kd : Int} (h : kd = 1 ∨ kd = 3) (b : List Int) : 32 ≤ (bns kd b).length := by
 rw [bm3]; rcases h with rfl | rfl <;> simp
theorem hk13 (n : Nat) (t : List Int) : hk n t = 1 ∨ hk n t = 3 := by unfold hk; split; exact .inr rfl; exact .inl rfl
theorem agb {n : Nat} (hn : n ≤ 32) (sh : Bool) (pub a t : List Int) : (bdt n sh pub a t).length = n := by
 unfold bdt
 split
 ·exact bng _ _ _
 ·have := bgk (hk13 n t) (blk (hk n t) pub ++ (sho a ++ t))
  rw [List.length_take]; omega
theorem am0 (n : Nat) (sh : Bool) (pub a t : List Int) : In 256 (bdt n sh pub a t) := by
 unfold bdt
 split
 ·exact bqi _ _ _
 ·exact (bq8 _ _).take _
theorem awu {kind : Int} (h : kind = 1 ∨ kind = 3) {n : Nat} (hn : n ≤ 32) (pub : List Int) (hp : In 256 pub) (np : pub.length ≤ 64) (q : List Int) (hq : In 256 q) (nq : q.length ≤ 100000) (B : Int) (hB : B = ((bsz kind : Nat) : Int)) {ρ : Type} (k : List Int → Option ρ) :
    (P.aac kind (ari kind (bcy kind) (blk kind pub)) [] B q fun (q2 : Int) (q3 q4 : List Int) (q5 : Int) => P.afe q2 q3 q4 q5 fun (q6 : List Int) =>
     br (decide ((0 : Int) ≤ (n : Int))) (br (decide ((n : Int) ≤ (q6.length : Int))) (k (List.take ((n : Int) - (0 : Int)).toNat (List.drop 0 q6))) none) none) = k ((bns kind (blk kind pub ++ q)).take n) := by
 have hb : bsz kind = 64 ∨ bsz kind = 128 := by rcases aja kind with ⟨_, e⟩ | ⟨_, e⟩ <;> omega
 have hw := aso kind (bcy kind) (blk kind pub)
 have hl := bge kind pub np
 have hw2 := aso kind (ari kind (bcy kind) (blk kind pub)) ([] ++ q)
 have hr := bci (bsz kind) (asz kind) ([] ++ q)
 have hm := Nat.mod_lt ([] ++ q).length (asz kind)
 have e3 : IntKind.u64.wrap (B + IntKind.u64.wrap (q.length : Int)) = (((blk kind pub ++ q).length : Nat) : Int) := by
  rw [agx _ (by omega), hB, ← Int.natCast_add, agx _ (by omega), List.length_append, hl]
 have hs := bgk h (blk kind pub ++ q)
 rw [aac kind _ [] _ q hw.1 hw.2.1 In.nil hq (by rw [List.length_nil]; omega), e3, afe _ _ _ _ hw2.1 hw2.2.1 (bkh (In.nil.app hq)) (by omega)]
 have e4 : bld kind (ari kind (ari kind (bcy kind) (blk kind pub)) ([] ++ q)) (rest (bsz kind) ([] ++ q)) (blk kind pub ++ q).length = bns kind (blk kind pub ++ q) := by
  unfold bns
  rw [List.nil_append, bom _ _ _ hl, bnb (asz kind) _ _ hl]
 rw [e4, bg (by omega), bg (by omega), List.drop_zero, Int.sub_zero, toNat_cast]
theorem bl7 {n : Nat} (hn : n ≤ 32) (pub a t : List Int) (hp : In 256 pub) (np : pub.length ≤ 64) (ha : In 256 a) (ht : In 256 t) (nt : t.length ≤ 90000) {ρ : Type} (k : List Int → Option ρ) :
    P.jc a t 1 (ari 1 (bcy 1) (blk 1 pub)) [] 64 (n : Int) 3 (ari 3 (bcy 3) (blk 3 pub)) [] 128 k = k (bdt n false pub a t) := by
 have e : [sho a, t].flatten = sho a ++ t := by simp
 have hs := bcm a
 have hl : (sho a ++ t).length ≤ 100000 := by rw [List.length_append]; omega
 have hq : In 256 (sho a ++ t) := (bpk ha).app ht
 rw [P.aj6]; unfold P.ae6 bdt hk
 by_cases h1 : 16 < n
 ·rw [bg (by omega)]
  by_cases h2 : n < t.length
  ·rw [bg (by omega), if_neg (by simp), if_pos ⟨h1, h2⟩, w9, j6 _ (by simp) (by rw [e]; omega), e]
   exact awu (.inr rfl) hn pub hp np _ hq hl 128 rfl k
  ·rw [dx (by omega), if_neg (by simp), if_neg (by omega), w9, j6 _ (by simp) (by rw [e]; omega), e]
   exact awu (.inl rfl) hn pub hp np _ hq hl 64 rfl k
 ·rw [dx (by omega), if_neg (by simp), if_neg (by omega), w9, j6 _ (by simp) (by rw [e]; omega), e]
  exact awu (.inl rfl) hn pub hp np _ hq hl 64 rfl k
theorem R7t : Rt 7 136 := .inr (.inr (.inr ⟨rfl, rfl⟩))
theorem g0 : Good 136 (Z25, 0) := ⟨byf, by decide⟩
theorem bmc {n : Nat} (hn : n ≤ 32) (pub a t : List Int) (la : a.length = 32) (nt : t.length ≤ 90000) {ρ : Type} (k : List Int → Option ρ) :
    P.je a t 7 (asi 136 (Z25, 0) pub).1 ((asi 136 (Z25, 0) pub).2 : Int) false (n : Int) k = k (bdt n true pub a t) := by
 have e : [List.take 32 (List.drop 0 a), t].flatten = a ++ t := by rw [List.drop_zero, List.take_of_length_le (by omega)]; simp
 have hl : (a ++ t).length ≤ 100000 := by rw [List.length_append]; omega
 rw [P.akc]; unfold P.ae2 bdt
 rw [j6 _ (by simp) (by rw [e]; omega), e, if_pos rfl]
 refine (o7 R7t _ _ (aij pub g0) (a ++ t) (by omega) _).trans ?_
 refine (qy R7t _ (aij (a ++ t) (aij pub g0)) n (by omega) _).trans ?_
 unfold bxa
 show k (sqO 136 (trn 7 136 (asi 136 (asi 136 (Z25, 0) pub) (a ++ t)), 0) n) = k (sqO 136 (trn 7 136 (asi 136 (Z25, 0) (pub ++ (a ++ t))), 0) n)
 simp only [bn1]
def Sg (n : Nat) (sh : Bool) (pub : List Int) (tg : Nat) (cK : Int) (cW : List Int) (cA : Int) (cO : Bool) (c1 dK : Int) (dW dT : List Int) (dS d1 eK : Int) (eW eT : List Int) (eS : Int) : Prop :=
 (sh = true ∧ tg = 1 ∧ cK = 7 ∧ cW = (asi 136 (Z25, 0) pub).1 ∧ cA = ((asi 136 (Z25, 0) pub).2 : Int) ∧ cO = false ∧ c1 = (n : Int)) ∨
 (sh = false ∧ tg = 2 ∧ dK = 1 ∧ dW = ari 1 (bcy 1) (blk 1 pub) ∧ dT = [] ∧ dS = 64 ∧ d1 = (n : Int) ∧ eK = 3 ∧ eW = ari 3 (bcy 3) (blk 3 pub) ∧ eT = [] ∧ eS = 128)
theorem call {n : Nat} {sh : Bool} {pub : List Int} {tg : Nat} {cK : Int} {cW : List Int} {cA : Int} {cO : Bool} {c1 dK : Int} {dW dT : List Int} {dS d1 eK : Int} {eW eT : List Int} {eS : Int} (h : Sg n sh pub tg cK cW cA cO c1 dK dW dT dS d1 eK eW eT eS)
    (hn : n ≤ 32) (hp : In 256 pub) (np : pub.length ≤ 64) {a t : List Int} (la : a.length = 32) (ha : In 256 a) (ht : In 256 t) (nt : t.length ≤ 90000) {ρ : Type} (k : List Int → Option ρ) :
    br (decide (tg = 1)) (P.je a t cK cW cA cO c1 fun (q : List Int) => k q) (br (decide (tg = 2)) (P.jc a t dK dW dT dS d1 eK eW eT eS fun (q : List Int) => k q) none) = k (bdt n sh pub a t) := by
 rcases h with ⟨rfl, rfl, rfl, rfl, rfl, rfl, rfl⟩ | ⟨rfl, rfl, rfl, rfl, rfl, rfl, rfl, rfl, rfl, rfl, rfl⟩
 ·rw [bg rfl]
  exact bmc hn pub a t la nt k
 ·rw [dx (by omega), bg rfl]
  exact bl7 hn pub a t hp np ha ht nt k
theorem avs {n : Nat} {H D A K : Int} (hf : adz n H D A K) (sh : Bool) (pub : List Int) (hp : In 256 pub) (np : pub.length = n) :
    ∃ tg cK cW cA cO c1 dK dW dT dS d1 eK eW eT eS, Sg n sh pub tg cK cW cA cO c1 dK dW dT dS d1 eK eW eT eS ∧
     ∀ {ρ : Type} (k : Int → Int → Int → Int → Int → Bool → Nat → Int → (List Int) → Int → Bool → Int → Int → (List Int) → (List Int) → Int → Int → Int → (List Int) → (List Int) → Int → Bool → Option ρ),
      P.qp n H D A K sh pub k = k n H D A K sh tg cK cW cA cO c1 dK dW dT dS d1 eK eW eT eS true := by
 have hn : n ≤ 32 := by unfold adz at hf; omega
 cases sh with
 | true =>
  refine ⟨1, 7, _, _, false, (n : Int), 0, [], [], 0, 0, 0, [], [], 0, .inl ⟨rfl, rfl, rfl, rfl, rfl, rfl, rfl⟩, fun k => ?_⟩
  rw [P.akw]; unfold P.aga
  rw [yg, decide_eq_true hf, jf, mo, cu (by omega), mo, P.ao4]; unfold P.ah3
  rw [P.ash]; unfold P.aju
  rw [bde R7t, fu (by omega)]
  exact o7 R7t Z25 0 g0 pub (by omega) _
 | false =>
  refine ⟨2, 0, [], 0, false, 0, 1, _, _, 64, (n : Int), 3, _, _, 128, .inr ⟨rfl, rfl, rfl, rfl, rfl, rfl, rfl, rfl, rfl, rfl, rfl⟩, fun k => ?_⟩
  rw [P.akw]; unfold P.aga
  rw [yg, decide_eq_true hf, jf, mo, cu (by omega), ru, P.ao1]; unfold P.aib
  rw [xg (.inl rfl) pub hp (by omega) 64 rfl, xg (.inr (.inr rfl)) pub hp (by omega) 128 rfl]
theorem aeu {n : Nat} {H D A K : Int} (hf : adz n H D A K) (sh : Bool) (pub : List Int) (hp : In 256 pub) (np : pub.length = n) (a t : List Int) (la : a.length = 32) (ha : In 256 a) (ht : In 256 t) (nt : t.length ≤ 90000) {ρ : Type} (k : List Int → Option ρ) :
    P.aeu n H D A K sh pub a t k = k (bdt n sh pub a t) := by
 have hn : n ≤ 32 := by unfold adz at hf; omega
 obtain ⟨tg, cK, cW, cA, cO, c1, dK, dW, dT, dS, d1, eK, eW, eT, eS, hs, hb⟩ := avs hf sh pub hp np
 rw [P.aya]; unfold P.ane
 rw [hb, jf, mo]
 exact call hs hn hp (by omega) la ha ht nt k
theorem zl {n : Nat} {H D A K : Int} (hf : adz n H D A K) (sh : Bool) (pub : List Int) (hp : In 256 pub) (np : pub.length = n) (a t : List Int) (la : a.length = 32) (ha : In 256 a) (ht : In 256 t) (nt : t.length ≤ 90000) {ρ : Type} (k : List Int → Option ρ) :
    P.zl n H D A K sh pub a t k = k (bdt n sh pub a t) := by
 have hn : n ≤ 32 := by unfold adz at hf; omega
 have hsl := bcm a
 have path : ∀ (kind : Int) (h : kind = 1 ∨ kind = 3) (B : Int), B = ((bsz kind : Nat) : Int) →
     (br (decide ((0 : Int) ≤ IntKind.i64.wrap (B - (n : Int)))) (br (decide (IntKind.i64.wrap (B - (n : Int)) ≤ IntKind.i64.wrap (B - (n : Int))))
      (br (decide (IntKind.i64.wrap (B - (n : Int)) * ((1 : Nat) : Int) ≤ ((140737488355328 : Nat) : Int)))
       (P.aar a fun (q4 : List Int) =>
        P.l5 [pub, List.replicate (IntKind.i64.wrap (B - (n : Int))).toNat (0 : Int), q4, t] fun (q5 : List Int) =>
         P.aew kind q5 fun (q6 : List Int) (q7 : Int) =>
          br (decide ((0 : Int) ≤ (n : Int))) (br (decide ((n : Int) ≤ (q6.length : Int))) (k (List.take ((n : Int) - (0 : Int)).toNat (List.drop 0 q6))) none) none) none) none) none) = k ((bns kind (blk kind pub ++ (sho a ++ t))).take n) := by
  intro kind h B hB
  have hb : bsz kind = 64 ∨ bsz kind = 128 := by rcases aja kind with ⟨_, e⟩ | ⟨_, e⟩ <;> omega
  have e : IntKind.i64.wrap (B - (n : Int)) = ((bsz kind - pub.length : Nat) : Int) := by rw [og (by omega) (by omega)]; omega
  have ej : [pub, List.replicate (bsz kind - pub.length) (0 : Int), sho a, t].flatten = blk kind pub ++ (sho a ++ t) := by unfold blk; simp
  have hl := bge kind pub (by omega)
  have hll : (blk kind pub ++ (sho a ++ t)).length ≤ 100000 := by rw [List.length_append, List.length_append]; omega
  have hs := bgk h (blk kind pub ++ (sho a ++ t))
  rw [e, bg (by omega), bg (by omega), bg (by omega), aar, toNat_cast, l5 _ (by simp) (by rw [ej]; omega), ej, aew (by unfold K3; omega) _ ((bph hp).app ((bpk ha).app ht)) (by omega), bg (by omega), bg (by omega), List.drop_zero, Int.sub_zero, toNat_cast]
 rw [P.bag]; unfold P.apd
 rw [cu (by omega), mh, decide_eq_true hf, jf, mo]
 unfold bdt hk
 cases sh with
 | true =>
  have ej : [pub, List.take 32 (List.drop 0 a), t].flatten = pub ++ (a ++ t) := by rw [List.drop_zero, List.take_of_length_le (by omega)]; simp
  have hll : (pub ++ (a ++ t)).length ≤ 100000 := by rw [List.length_append, List.length_append]; omega
  rw [mo, l5 _ (by simp) (by rw [ej]; omega), ej, aip (by omega) _ (by omega) n (by omega), if_pos rfl]
 | false =>
  rw [ru, if_neg (by simp)]
  by_cases h1 : 16 < n
  ·rw [bg (by omega)]
   by_cases h2 : n < t.length
   ·rw [bg (by omega), if_pos ⟨h1, h2⟩]
    exact path 3 (.inr rfl) 128 rfl
   ·rw [dx (by omega), if_neg (by omega)]
    exact path 1 (.inl rfl) 64 rfl
  ·rw [dx (by omega), if_neg (by omega)]
   exact path 1 (.inl rfl) 64 rfl
end Q
end
