/-
  XmssHypers, part 24: an interpreter of my own over abstract values, the pure functions, the walks and the plain law.
-/

import Derived.Test.YtjhnljhjpnjieaaGreatDoorXmssHypersW
import Derived.Test.YtjhnljhjpnjieaaGreatDoorXmssHypersH
import Derived.Test.YtjhnljhjpnjieaaGreatDoorXmssHypersG
import Derived.Test.YtjhnljhjpnjieaaGreatDoorXmssHypersI
import Derived.Test.YtjhnljhjpnjieaaGreatDoorXmssHypersJ

section
/- SHA-2: the program's engine of 64 bits. -/
namespace Q
open Go Go.Abs
set_option linter.unusedVariables false
set_option linter.unusedSimpArgs false
theorem akb (rd : Int) (t0 t1 t2 t3 : List Int) (x : BitVec 64) (m : Int) (n : Nat) (hm : m = (n : Int)) (hn : n ≤ 64) {ρ : Type} (k : Int → Option ρ) :
    P.dx 64 rd t0 t1 t2 t3 (x.toNat : Int) m k = k ((rr x n).toNat : Int) := by
 subst hm
 rw [P.aci]
 unfold P.y7
 rw [dn (by omega), ni (by omega) (by omega), dn (by omega), show (64 : Int) - (n : Int) = ((64 - n : Nat) : Int) by omega]
 simp only [toNat_cast]
 rw [bky _ _ hn, bti _ _ (by omega), b2a]
 rfl
theorem bmn (rd : Int) (x : BitVec 64) {ρ : Type} (k : Int → Option ρ) : P.j5 64 rd [1, 8, 7] [19, 61, 6] [28, 34, 39] [14, 18, 41] (x.toNat : Int) 3 k = k ((hi p64.d x).toNat : Int) := by
 rw [P.aaz]
 unfold P.wu
 simp only [List.getD_cons_zero, List.getD_cons_succ]
 rw [dn (by decide), dn (by decide), dn (by decide), bg (by decide), akb _ _ _ _ _ _ _ 14 (by rfl) (by omega), akb _ _ _ _ _ _ _ 18 (by rfl) (by omega), akb _ _ _ _ _ _ _ 41 (by rfl) (by omega), alx, alx]
 rfl
theorem bn8 (rd : Int) (x : BitVec 64) {ρ : Type} (k : Int → Option ρ) : P.j5 64 rd [1, 8, 7] [19, 61, 6] [28, 34, 39] [14, 18, 41] (x.toNat : Int) 2 k = k ((hi p64.c x).toNat : Int) := by
 rw [P.aaz]
 unfold P.wu
 simp only [List.getD_cons_zero, List.getD_cons_succ]
 rw [dn (by decide), dn (by decide), bg (by decide), akb _ _ _ _ _ _ _ 28 (by rfl) (by omega), akb _ _ _ _ _ _ _ 34 (by rfl) (by omega), akb _ _ _ _ _ _ _ 39 (by rfl) (by omega), alx, alx]
 rfl
theorem bpd (rd : Int) (x : BitVec 64) {ρ : Type} (k : Int → Option ρ) : P.lu 64 rd [1, 8, 7] [19, 61, 6] [28, 34, 39] [14, 18, 41] (x.toNat : Int) 0 k = k ((lo p64.a x).toNat : Int) := by
 rw [P.abg]
 unfold P.xw
 simp only [List.getD_cons_zero, List.getD_cons_succ]
 rw [bg (by decide), akb _ _ _ _ _ _ _ 1 (by rfl) (by omega), akb _ _ _ _ _ _ _ 8 (by rfl) (by omega), dn (by decide), alx, show (7 : Int).toNat = 7 from rfl, bky _ _ (by omega), alx]
 rfl
theorem bps (rd : Int) (x : BitVec 64) {ρ : Type} (k : Int → Option ρ) : P.lu 64 rd [1, 8, 7] [19, 61, 6] [28, 34, 39] [14, 18, 41] (x.toNat : Int) 1 k = k ((lo p64.b x).toNat : Int) := by
 rw [P.abg]
 unfold P.xw
 simp only [List.getD_cons_zero, List.getD_cons_succ]
 rw [dn (by decide), bg (by decide), akb _ _ _ _ _ _ _ 19 (by rfl) (by omega), akb _ _ _ _ _ _ _ 61 (by rfl) (by omega), dn (by decide), alx, show (6 : Int).toNat = 6 from rfl, bky _ _ (by omega), alx]
 rfl
theorem bqq (t : Nat) (h : t < 80) {ρ : Type} (k : Int → Option ρ) : P.pq (t : Int) k = k ((p64.K t).toNat : Int) := by
 rw [P.apk]
 unfold P.ai3
 rw [bg (by omega), bg (by omega), toNat_cast, K64]
theorem bwh (b : List Int) (hb : In 256 b) (hl : b.length = 16 * 8) (rd : Int) (t0 t1 t2 t3 h1 h2 : List Int) {ρ : Type} (k0 : List Int → Int → Int → Int → Int → List Int → List Int → List Int → List Int → List Int → List Int → List Int → Option ρ) :
    P.aar b 8 0 64 rd t0 t1 t2 t3 h1 h2 (List.replicate 16 0) k0 = k0 b 8 16 64 rd t0 t1 t2 t3 h1 h2 (cv (ng 64 b 16)) := by
 rw [P.ag8]
 unfold P.adx P.b2v P.bxo P.b57
 refine tu (fun i => (b, 8, (i : Int), 64, rd, t0, t1, t2, t3, h1, h2, cv (ng 64 b i) ++ List.replicate (16 - i) 0)) 16 (by simp [ng, cv]) (fun i hi next hn' => ?_) (fun next => ?_) (by omega)
 ·simp only [P.aao, toNat_cast]
  have e1 : IntKind.i64.wrap ((i : Int) * 8) = ((i * 8 : Nat) : Int) := by rw [ni (by omega) (by omega)]; omega
  have e2 : IntKind.i64.wrap (IntKind.i64.wrap ((i : Int) + 1) * 8) = (((i + 1) * 8 : Nat) : Int) := by rw [ni (x := (i : Int) + 1) (by omega) (by omega), ni (by omega) (by omega)]; omega
  rw [e1, e2]
  simp only [toNat_cast]
  have hlen : ((b.take ((i + 1) * 8)).drop (i * 8)).length = 8 := by simp; omega
  rw [bg (by omega), bg (by omega), bg (by omega), bg (by omega), zf _ ((hb.take _).drop _) (by omega), bg (by omega), bg (by omega)]
  have e3 : ((T 8 ((b.take ((i + 1) * 8)).drop (i * 8)).reverse % 2 ^ 64 : Nat) : Int) = (((BitVec.ofNat 64 (T 8 ((b.take ((i + 1) * 8)).drop (i * 8)).reverse)).toNat : Nat) : Int) := by
   rw [BitVec.toNat_ofNat]
  have e4 : IntKind.i64.wrap ((i : Int) + 1) = ((i + 1 : Nat) : Int) := by rw [ni (by omega) (by omega)]; omega
  rw [e3, e4]
  have e5 : (cv (ng 64 b i) ++ List.replicate (16 - i) (0 : Int)).set i (((BitVec.ofNat 64 (T 8 ((b.take ((i + 1) * 8)).drop (i * 8)).reverse)).toNat : Nat) : Int) = cv (ng 64 b (i + 1)) ++ List.replicate (16 - (i + 1)) 0 := by
   rw [List.set_append_right _ _ (by simp [qz]), yu, qz, Nat.sub_self, show 16 - i = (16 - (i + 1)) + 1 by omega, List.replicate_succ, List.set_cons_zero, aym, ← ag2, List.append_assoc]
   rfl
  rw [e5]
  exact hn'
 ·simp only [P.aao]
  rw [dn (by omega)]
  simp
theorem bul (l v : List (BitVec 64)) (hv : v.length = 8) (h2 h1 : List Int) {ρ : Type} (k0 : Int → Int → List Int → List Int → List Int → Int → Int → List Int → List Int → List Int → List Int → List Int → Option ρ) (hl : l.length = 16) :
    P.vk 80 0 (cv (win p64 l 0)) h2 h1 64 80 [1, 8, 7] [19, 61, 6] [28, 34, 39] [14, 18, 41] (cv v) k0 =
     k0 80 80 (cv (win p64 l 80)) h2 h1 64 80 [1, 8, 7] [19, 61, 6] [28, 34, 39] [14, 18, 41] (cv (runs p64 l v 80)) := by
 rw [P.agy]
 unfold P.ada P.b1w P.bzx P.b6y
 refine tu (fun t => (80, (t : Int), cv (win p64 l t), h2, h1, 64, 80, [1, 8, 7], [19, 61, 6], [28, 34, 39], [14, 18, 41], cv (runs p64 l v t))) 80 rfl (fun t ht next hn' => ?_) (fun next => ?_) (by omega)
 ·simp only [P.aai]
  have e1 : IntKind.i64.wrap ((t : Int) + 1) = ((t + 1 : Nat) : Int) := by rw [ni (by omega) (by omega)]; omega
  have e9 : IntKind.i64.wrap ((t : Int) + 9) = ((t + 9 : Nat) : Int) := by rw [ni (by omega) (by omega)]; omega
  have e14 : IntKind.i64.wrap ((t : Int) + 14) = ((t + 14 : Nat) : Int) := by rw [ni (by omega) (by omega)]; omega
  simp only [e1, e9, e14, cd6, toNat_cast, ahc]
  have g0 := avs p64 l t 0 (by omega)
  rw [Nat.add_zero] at g0
  rw [g0, avs p64 l t 1 (by omega), avs p64 l t 9 (by omega), avs p64 l t 14 (by omega)]
  have hV := v8 _ (ao8 p64 l v hv t)
  rw [bg (by omega), bg (by omega), bg (by omega), bmn, bqq t ht, bn8, bg (by omega), bg (by omega), bpd, bg (by omega), bg (by omega), bg (by omega), bg (by omega), bps, bg (by omega), bg (by omega)]
  simp only [am4, alx, bh7, b2a]
  rw [← bkr p64 l hl t, bav, bjx]
  have hr : cv (runs p64 l v (t + 1)) = (((List.take 1 (cv (runs p64 l v t))).append (List.take 7 (List.take 7 (List.drop 0 (cv (runs p64 l v t)))) ++ List.drop (1 + min 7 (List.take 7 (List.drop 0 (cv (runs p64 l v t)))).length) (cv (runs p64 l v t)))).set 4
      (((runs p64 l v t).getD 3 0 + bu2 p64 t (W p64 l t) (runs p64 l v t)).toNat : Int)).set 0 ((bu2 p64 t (W p64 l t) (runs p64 l v t) + cbl p64 (runs p64 l v t)).toNat : Int) := by
   rw [hV]
   rfl
  have h3 : ((List.take 1 (cv (runs p64 l v t))).append (List.take 7 (List.take 7 (List.drop 0 (cv (runs p64 l v t)))) ++ List.drop (1 + min 7 (List.take 7 (List.drop 0 (cv (runs p64 l v t)))).length) (cv (runs p64 l v t)))).getD 4 0 = (((runs p64 l v t).getD 3 0).toNat : Int) := by
   rw [hV]
   rfl
  rw [h3, am4]
  rw [hr] at hn'
  exact hn'
 ·simp only [P.aai]
  rw [dn (by omega)]
  rfl
theorem bt4 (v u : List (BitVec 64)) (hv : v.length = 8) (hu : u.length = 8) (h2 : List Int) {ρ : Type} (k0 : Int → List Int → List Int → List Int → Option ρ) :
    P.uw 0 (cv v) h2 (cv u) k0 = k0 8 (cv v) h2 (cv ((List.range 8).map fun i => u.getD i 0 + v.getD i 0)) := by
 rw [P.ag5]
 unfold P.acz P.b3c P.bwm P.cav
 have hs : ∀ i, i ≤ 8 → (((List.range i).map fun i => u.getD i 0 + v.getD i 0) ++ u.drop i).length = 8 := fun i hi => by simp; omega
 refine tu (fun i => ((i : Int), cv v, h2, cv (((List.range i).map fun i => u.getD i 0 + v.getD i 0) ++ u.drop i))) 8 (by simp) (fun i hi next hn' => ?_) (fun next => ?_) (by omega)
 ·simp only [P.aaf, toNat_cast, ahc]
  have e1 : IntKind.i64.wrap ((i : Int) + 1) = ((i + 1 : Nat) : Int) := by rw [ni (by omega) (by omega)]; omega
  have e2 : (((List.range i).map fun i => u.getD i 0 + v.getD i 0) ++ u.drop i).getD i 0 = u.getD i 0 := by
   rw [List.getD_eq_getElem?_getD, List.getElem?_append_right (by simp), List.getElem?_drop, List.length_map, List.length_range, List.getD_eq_getElem?_getD]
   congr 2
   omega
  rw [e1, e2, am4, bav]
  have e3 : (((List.range i).map fun i => u.getD i 0 + v.getD i 0) ++ u.drop i).set i (u.getD i 0 + v.getD i 0) = ((List.range (i + 1)).map fun i => u.getD i 0 + v.getD i 0) ++ u.drop (i + 1) := by
   rw [List.set_append_right _ _ (by simp), List.length_map, List.length_range, Nat.sub_self, List.range_succ, List.map_append, List.append_assoc, List.drop_eq_getElem_cons (by omega), List.set_cons_zero]
   rfl
  rw [e3]
  simp (disch := omega) only [bg, dn, gu, cu, fq, fu, jh, oh, qm, ni]
  exact hn'
 ·simp only [P.aaf]
  rw [dn (by omega), List.drop_eq_nil_of_le (by omega), List.append_nil]
  rfl
theorem bmt (v : List (BitVec 64)) (hv : v.length = 8) (b : List Int) (hb : In 256 b) (hl : b.length = 16 * 8) {ρ : Type} (k : List Int → Option ρ) :
    P.mh 64 80 [1, 8, 7] [19, 61, 6] [28, 34, 39] [14, 18, 41] (cv v) b k = k (cv (ayx p64 v b)) := by
 rw [P.ad1]
 unfold P.aal
 rw [show IntKind.i64.wrap ((64 : Int).tdiv 8) = 8 from rfl]
 have := bwh b hb hl 80 [1, 8, 7] [19, 61, 6] [28, 34, 39] [14, 18, 41] (cv v) (List.replicate 8 0) (fun (q0 : List Int) (q1 q2 q3 q4 : Int) (q5 q6 q7 q8 q9 q10 q11 : List Int) =>
  P.vk q4 (0 : Int) q11 q10 q9 q3 q4 q5 q6 q7 q8 q9
   fun (q12 q13 : Int) (q14 q15 q16 : List Int) (q17 q18 : Int) (q19 q20 q21 q22 q23 : List Int) =>
   P.uw (0 : Int) q16 q15 q23 fun (q24 : Int) (q25 q26 q27 : List Int) => k q27)
 refine this.trans ?_
 rw [← win_zero p64, bul _ v hv _ _ _ (qz b 16), bt4 v _ hv (ao8 _ _ _ hv _)]
 rfl
end Q
end

section
/- SHA-2: the document's block of words of 64 bits. -/
namespace Q
open Go Go.Abs
set_option linter.unusedVariables false
set_option linter.unusedSimpArgs false
theorem ank (x : BitVec 64) (m : Int) (n : Nat) (hm : m = (n : Int)) (hn : n ≤ 64) {ρ : Type} (k : Int → Option ρ) : P.zy (x.toNat : Int) m true k = k ((rr x n).toNat : Int) := by
 subst hm
 rw [P.ajr]
 unfold P.afi
 rw [oh, dn (by omega), ni (by omega) (by omega), dn (by omega), show (64 : Int) - (n : Int) = ((64 - n : Nat) : Int) by omega]
 simp only [toNat_cast]
 rw [bky _ _ hn, bti _ _ (by omega), b2a]
 rfl
theorem br4 (x : BitVec 64) (t : Nat × Nat × Nat) (a b c : Int) (ha : a = (t.1 : Int)) (hb : b = (t.2.1 : Int)) (hc : c = (t.2.2 : Int)) (h1 : t.1 ≤ 64) (h2 : t.2.1 ≤ 64) (h3 : t.2.2 ≤ 64) {ρ : Type} (k : Int → Option ρ) :
    P.zn (x.toNat : Int) a b c false true k = k ((hi t x).toNat : Int) := by
 rw [P.afw]
 unfold P.ac2
 rw [dn (by omega), jh, qm, ank _ _ _ hc h3, ank _ _ _ ha h1, ank _ _ _ hb h2, alx, alx]
 rfl
theorem brs (x : BitVec 64) (t : Nat × Nat × Nat) (a b c : Int) (ha : a = (t.1 : Int)) (hb : b = (t.2.1 : Int)) (hc : c = (t.2.2 : Int)) (h1 : t.1 ≤ 64) (h2 : t.2.1 ≤ 64) (h3 : t.2.2 ≤ 64) {ρ : Type} (k : Int → Option ρ) :
    P.zn (x.toNat : Int) a b c true true k = k ((lo t x).toNat : Int) := by
 rw [P.afw]
 unfold P.ac2
 rw [dn (by omega), jh, oh, ank _ _ _ ha h1, ank _ _ _ hb h2, alx, hc]
 simp only [toNat_cast]
 rw [bky _ _ h3, alx]
 rfl
theorem ca9 (a b c d : BitVec 64) : bits .and .u64 (IntKind.u64.wrap (IntKind.u64.wrap (IntKind.u64.wrap ((a.toNat : Int) + (b.toNat : Int)) + (c.toNat : Int)) + (d.toNat : Int))) 18446744073709551615 = ((a + b + c + d).toNat : Int) := by
 rw [am4, am4, am4, bq5 _ (bqm _)]
theorem b9o (a b : BitVec 64) : bits .and .u64 (IntKind.u64.wrap ((a.toNat : Int) + (b.toNat : Int))) 18446744073709551615 = ((a + b).toNat : Int) := by
 rw [am4, bq5 _ (bqm _)]
theorem b7x (d a b c e f : BitVec 64) : bits .and .u64 (IntKind.u64.wrap ((d.toNat : Int) + IntKind.u64.wrap (IntKind.u64.wrap (IntKind.u64.wrap (IntKind.u64.wrap ((a.toNat : Int) + (b.toNat : Int)) + (c.toNat : Int)) + (e.toNat : Int)) + (f.toNat : Int)))) 18446744073709551615 = ((d + (a + b + c + e + f)).toNat : Int) := by
 rw [am4, am4, am4, am4, am4, bq5 _ (bqm _)]
theorem b9s (a b c e f g h : BitVec 64) : bits .and .u64 (IntKind.u64.wrap (IntKind.u64.wrap (IntKind.u64.wrap (IntKind.u64.wrap (IntKind.u64.wrap ((a.toNat : Int) + (b.toNat : Int)) + (c.toNat : Int)) + (e.toNat : Int)) + (f.toNat : Int)) + IntKind.u64.wrap ((g.toNat : Int) + (h.toNat : Int)))) 18446744073709551615 = (((a + b + c + e + f) + (g + h)).toNat : Int) := by
 rw [am4, am4, am4, am4, am4, am4, bq5 _ (bqm _)]
theorem b6p (e f g : BitVec 64) : bits .xor .u64 (bits .and .u64 (e.toNat : Int) (f.toNat : Int)) (bits .and .u64 (bits .xor .u64 18446744073709551615 (e.toNat : Int)) (g.toNat : Int)) = ((g ^^^ (e &&& (f ^^^ g))).toNat : Int) := by
 rw [show (18446744073709551615 : Int) = ((BitVec.allOnes 64).toNat : Int) from rfl, bh7, alx, bh7, alx, b0r]
theorem bvp (a b c : BitVec 64) : bits .xor .u64 (bits .xor .u64 (bits .and .u64 (a.toNat : Int) (b.toNat : Int)) (bits .and .u64 (a.toNat : Int) (c.toNat : Int))) (bits .and .u64 (b.toNat : Int) (c.toNat : Int)) = (((a &&& b) ||| (c &&& (a ||| b))).toNat : Int) := by
 rw [bh7, bh7, bh7, alx, alx, br9]
def awo (b : List Int) (t : Nat) : List (BitVec 64) := (List.range t).map (W p64 (ng 64 b 16))
theorem baw (b : List Int) (t : Nat) : awo b (t + 1) = awo b t ++ [W p64 (ng 64 b 16) t] := by simp [awo, List.range_succ]
theorem bfm (b : List Int) (t : Nat) : (awo b t).length = t := by simp [awo]
theorem asw (b : List Int) (t i : Nat) (h : i < t) : (awo b t).getD i 0 = W p64 (ng 64 b 16) i := by
 unfold awo
 rw [getD_lt (by simpa using h)]; simp
theorem btu (b : List Int) (t : Nat) (h : t < 16) : W p64 (ng 64 b 16) t = BitVec.ofNat 64 (T 8 ((b.take ((t + 1) * 8)).drop (t * 8)).reverse) := by
 rw [← br2 p64 _ (by rw [qz]; omega) 0 t (by rw [qz]; omega), show sched p64 (ng 64 b 16) 0 = ng 64 b 16 from rfl, getD_lt (by rw [qz]; exact h)]
 simp [ng]
theorem bm5 (b : List Int) (hb : In 256 b) (hl : b.length = 16 * 8) {ρ : Type} (k : List Int → Option ρ) : P.ac8 b true 80 18446744073709551615 k = k (cv (awo b 80)) := by
 rw [P.an9]
 unfold P.ah0
 rw [oh, P.aoq]
 unfold P.aom P.b0b P.bu5 P.b2y
 refine tu (fun t => (b, true, 80, 18446744073709551615, 8, (t : Int), cv (awo b t))) 80 rfl (fun t ht next hn' => ?_) (fun next => ?_) (by omega)
 ·simp only [P.ag3, toNat_cast]
  have e1 : IntKind.i64.wrap ((t : Int) + 1) = ((t + 1 : Nat) : Int) := by rw [ni (by omega) (by omega)]; omega
  rw [bg (by omega)]
  have hlen := bfm b t
  by_cases h16 : t < 16
  ·have e2 : IntKind.i64.wrap ((t : Int) * 8) = ((t * 8 : Nat) : Int) := by rw [ni (by omega) (by omega)]; omega
   have e3 : IntKind.i64.wrap (IntKind.i64.wrap ((t : Int) * 8) + 8) = (((t + 1) * 8 : Nat) : Int) := by rw [e2, ni (by omega) (by omega)]; omega
   have hl2 : ((b.take ((t + 1) * 8)).drop (t * 8)).length = 8 := by simp; omega
   rw [bg (by omega), e3, e2, bg (by omega), bg (by omega), bg (by omega)]
   simp only [toNat_cast]
   have hT := b0z 8 ((b.take ((t + 1) * 8)).drop (t * 8)).reverse
   rw [List.length_reverse, hl2] at hT
   have e4 : ((T 8 ((b.take ((t + 1) * 8)).drop (t * 8)).reverse % 2 ^ 64 : Nat) : Int) = ((W p64 (ng 64 b 16) t).toNat : Int) := by
    rw [btu b t h16, BitVec.toNat_ofNat]
   rw [ad5 _ ((hb.take _).drop _) (by omega), bg (by rw [yu]; omega), e4, e1, show [((W p64 (ng 64 b 16) t).toNat : Int)] = cv [W p64 (ng 64 b 16) t] from rfl, ag2, ← baw]
   exact hn'
  ·have e15 : IntKind.i64.wrap ((t : Int) - 15) = ((t - 15 : Nat) : Int) := by rw [ni (by omega) (by omega)]; omega
   have e2 : IntKind.i64.wrap ((t : Int) - 2) = ((t - 2 : Nat) : Int) := by rw [ni (by omega) (by omega)]; omega
   have e7 : IntKind.i64.wrap ((t : Int) - 7) = ((t - 7 : Nat) : Int) := by rw [ni (by omega) (by omega)]; omega
   have e16 : IntKind.i64.wrap ((t : Int) - 16) = ((t - 16 : Nat) : Int) := by rw [ni (by omega) (by omega)]; omega
   simp only [e15, e2, e7, e16, toNat_cast, ahc, yu, hlen]
   rw [asw b t _ (by omega), asw b t _ (by omega), asw b t _ (by omega), asw b t _ (by omega)]
   obtain ⟨q1, m1⟩ := bj0 ((W p64 (ng 64 b 16) (t - 15)).toNat : Int) 7 18 3 7 18 3 rfl rfl rfl (by omega) (by omega) (by omega)
   obtain ⟨q2, m2⟩ := bj0 ((W p64 (ng 64 b 16) (t - 2)).toNat : Int) 17 19 10 17 19 10 rfl rfl rfl (by omega) (by omega) (by omega)
   rw [dn (by omega), bg (by omega), bg (by omega), m1, bg (by omega), bg (by omega), m2, oh, bg (by omega), bg (by omega), brs _ p64.a _ _ _ (by rfl) (by rfl) (by rfl) (by decide) (by decide) (by decide), bg (by omega), bg (by omega), brs _ p64.b _ _ _ (by rfl) (by rfl) (by rfl) (by decide) (by decide) (by decide)]
   have hW := bkr p64 (ng 64 b 16) (qz b 16) (t - 16)
   rw [show t - 16 + 16 = t by omega, show t - 16 + 1 = t - 15 by omega, show t - 16 + 9 = t - 7 by omega, show t - 16 + 14 = t - 2 by omega] at hW
   have hW2 : lo p64.b (W p64 (ng 64 b 16) (t - 2)) + W p64 (ng 64 b 16) (t - 7) + lo p64.a (W p64 (ng 64 b 16) (t - 15)) + W p64 (ng 64 b 16) (t - 16) = W p64 (ng 64 b 16) t := by rw [hW]; ac_rfl
   rw [bg (by omega), bg (by omega), bg (by omega), bg (by omega), bg (by omega), ca9, hW2, e1, show [((W p64 (ng 64 b 16) t).toNat : Int)] = cv [W p64 (ng 64 b 16) t] from rfl, ag2, ← baw]
   exact hn'
 ·simp only [P.ag3]
  rw [dn (by omega)]
theorem bt3 (b : List Int) (v : List (BitVec 64)) (hv : v.length = 8) (h0 h1 : List Int) {ρ : Type} (k0 : Bool → Int → Int → Int → List Int → List Int → List Int → List Int → List Int → List Int → Option ρ) :
    P.afc true 80 18446744073709551615 0 h0 h1 P.roots256 P.roots512 (cv (awo b 80)) (cv v) k0 = k0 true 80 18446744073709551615 80 h0 h1 P.roots256 P.roots512 (cv (awo b 80)) (cv (runs p64 (ng 64 b 16) v 80)) := by
 rw [P.amq]
 unfold P.ald P.bwt P.buz P.b2m
 refine tu (fun t => (true, 80, 18446744073709551615, (t : Int), h0, h1, P.roots256, P.roots512, cv (awo b 80), cv (runs p64 (ng 64 b 16) v t))) 80 rfl (fun t ht next hn' => ?_) (fun next => ?_) (by omega)
 ·simp only [P.afb]
  have e1 : IntKind.i64.wrap ((t : Int) + 1) = ((t + 1 : Nat) : Int) := by rw [ni (by omega) (by omega)]; omega
  have hlen := bfm b 80
  simp only [e1, toNat_cast, ahc, yu, hlen]
  rw [asw b 80 t ht, K64]
  obtain ⟨q1, m1⟩ := bmk (((runs p64 (ng 64 b 16) v t).getD 0 0).toNat : Int) 2 13 22 2 13 22 rfl rfl rfl (by omega) (by omega) (by omega)
  obtain ⟨q2, m2⟩ := bmk (((runs p64 (ng 64 b 16) v t).getD 4 0).toNat : Int) 6 11 25 6 11 25 rfl rfl rfl (by omega) (by omega) (by omega)
  rw [bg (by omega), m1, m2, oh, br4 _ p64.c _ _ _ (by rfl) (by rfl) (by rfl) (by decide) (by decide) (by decide), br4 _ p64.d _ _ _ (by rfl) (by rfl) (by rfl) (by decide) (by decide) (by decide)]
  rw [bg (by omega), bg (by omega), bg (by omega), bg (by omega), b6p, bvp, b9s, b7x]
  exact hn'
 ·simp only [P.afb]
  rw [dn (by omega)]
  rfl
theorem btl (v u : List (BitVec 64)) (hv : v.length = 8) (hu : u.length = 8) (h1 : List Int) {ρ : Type} (k0 : Int → Int → List Int → List Int → List Int → Option ρ) :
    P.ae6 18446744073709551615 0 (cv v) h1 (cv u) k0 = k0 18446744073709551615 8 (cv v) h1 (cv ((List.range 8).map fun i => u.getD i 0 + v.getD i 0)) := by
 rw [P.amo]
 unfold P.alc P.bwl P.bu8 P.b27
 refine tu (fun i => (18446744073709551615, (i : Int), cv v, h1, cv (((List.range i).map fun i => u.getD i 0 + v.getD i 0) ++ u.drop i))) 8 (by simp) (fun i hi next hn' => ?_) (fun next => ?_) (by omega)
 ·simp only [P.ae9, toNat_cast, ahc]
  have e1 : IntKind.i64.wrap ((i : Int) + 1) = ((i + 1 : Nat) : Int) := by rw [ni (by omega) (by omega)]; omega
  have e2 : (((List.range i).map fun i => u.getD i 0 + v.getD i 0) ++ u.drop i).getD i 0 = u.getD i 0 := by
   rw [List.getD_eq_getElem?_getD, List.getElem?_append_right (by simp), List.getElem?_drop, List.length_map, List.length_range, List.getD_eq_getElem?_getD]
   congr 2
   omega
  rw [e1, e2, b9o, bav]
  have e3 : (((List.range i).map fun i => u.getD i 0 + v.getD i 0) ++ u.drop i).set i (u.getD i 0 + v.getD i 0) = ((List.range (i + 1)).map fun i => u.getD i 0 + v.getD i 0) ++ u.drop (i + 1) := by
   rw [List.set_append_right _ _ (by simp), List.length_map, List.length_range, Nat.sub_self, List.range_succ, List.map_append, List.append_assoc, List.drop_eq_getElem_cons (by omega), List.set_cons_zero]
   rfl
  rw [e3]
  simp (disch := omega) only [bg, dn, gu, cu, fq, fu, jh, oh, qm, ni]
  exact hn'
 ·simp only [P.ae9]
  rw [dn (by omega), List.drop_eq_nil_of_le (by omega), List.append_nil]
  rfl
theorem bnj (v : List (BitVec 64)) (hv : v.length = 8) (b : List Int) (hb : In 256 b) (hl : b.length = 16 * 8) {ρ : Type} (k : List Int → Option ρ) : P.ad8 (cv v) b true k = k (cv (ayx p64 v b)) := by
 rw [P.anp]
 unfold P.ahx
 have hr1 : ∀ (k : List Int → Option ρ), P.zk k = k P.roots256 := fun k => by rw [P.ai1]; kernel_rfl
 have hr2 : ∀ (k : List Int → Option ρ), P.zi k = k P.roots512 := fun k => by rw [P.aii]; kernel_rfl
 rw [hr1, hr2, oh, bm5 b hb hl, bt3 b v hv, btl v _ hv (ao8 _ _ _ hv _)]
 rfl
end Q
end









section
/- bits, the first part: texts. -/
namespace Q
open Go Go.Abs
set_option linter.unusedVariables false
set_option linter.unusedSimpArgs false
theorem bnb {a b : List Int} (hl : a.length = b.length) (hs : a.length ≤ 140737488355328) {ρ : Type} (k0 : List Int → List Int → Int → Option ρ) (k1 : Bool → Option ρ) :
    ∀ (m i : Nat), i + m = a.length → ∀ {stp : (List Int × List Int × Int) → ((List Int × List Int × Int) → Option ρ) → ((List Int × List Int × Int) ⊕ Bool → Option ρ) → Option ρ} {K : (List Int × List Int × Int) ⊕ Bool → Option ρ},
     (∀ (j : Nat) next, stp (a, b, (j : Int)) next K = br (decide ((j : Int) < (a.length : Int))) (br (a.getD j 0 != b.getD j 0) (k1 false) (next (a, b, ((j + 1 : Nat) : Int)))) (k0 a b (j : Int))) →
     lp stp (a, b, (i : Int)) K = if a.drop i = b.drop i then k0 a b (a.length : Int) else k1 false := by
 intro m i hm stp K hst
 refine bxr (P := fun x => ∃ j : Nat, x = (a, b, (j : Int)) ∧ j ≤ a.length ∧ (if a.drop j = b.drop j then k0 a b (a.length : Int) else k1 false) = (if a.drop i = b.drop i then k0 a b (a.length : Int) else k1 false)) (μ := fun x => ((a.length : Int) - x.2.2).toNat) ?_ ⟨i, rfl, by omega, rfl⟩ (by simp only; omega)
 rintro _ ⟨j, rfl, hj, he⟩ next hn
 rw [hst, ← he]
 by_cases hji : j < a.length
 ·rw [bg (by omega), afn a 0 j hji, afn b 0 j (by omega)]
  by_cases hab : a.getD j 0 = b.getD j 0
  ·rw [cu hab, hn _ ⟨j + 1, rfl, by omega, ?_⟩ (by simp only; omega), ← he, afn a 0 j hji, afn b 0 j (by omega)]
   ·rw [← he, afn a 0 j hji, afn b 0 j (by omega)]
    simp only [hab, List.cons.injEq, true_and]
  ·rw [gu hab, if_neg (by simp only [List.cons.injEq]; exact fun h => hab h.1)]
 ·have : j = a.length := by omega
  subst this
  rw [dn (by omega), if_pos (by rw [List.drop_eq_nil_of_le (Nat.le_refl _), List.drop_eq_nil_of_le (by omega)])]
theorem abq (a b : List Int) (h : a.length ≤ 140737488355328) {ρ : Type} (k : Bool → Option ρ) : P.abq a b k = k (decide (a = b)) := by
 rw [P.azf]
 unfold P.an6
 by_cases hl : a.length = b.length
 ·rw [cu (by omega), P.az7]
  unfold P.aw7 P.zk1 P.zs1 P.zu1
  have := bnb hl h (fun _ _ _ => k true) k a.length 0 (by omega) (stp := (fun x next ex => P.aqt x.1 x.2.1 x.2.2 (fun v0 v1 v5 => next (v0, v1, v5)) (fun v0 v1 v5 => ex (.inl (v0, v1, v5))) (fun v4 => ex (.inr v4)))) (K := Sum.elim (fun _ => k true) k) (by
   intro j next
   simp only [P.aqt, Sum.elim_inl, Sum.elim_inr]
   by_cases hj : (j : Int) < (a.length : Int)
   ·simp only [bg hj]
    simp (disch := omega) only [bg, dn, gu, cu, fq, fu, jh, oh, qm, ni, toNat_cast]
    rfl
   ·simp only [dn hj])
  simp only [List.drop_zero] at this
  refine this.trans ?_
  by_cases hab : a = b
  ·rw [if_pos hab, decide_eq_true hab]
  ·rw [if_neg hab, decide_eq_false hab]
 ·rw [gu (by omega), decide_eq_false (fun e => hl (by rw [e]))]
end Q
end





section
/- bits: the law's own test. -/
namespace Q
open Go Go.Abs
set_option linter.unusedVariables false
set_option linter.unusedSimpArgs false
end Q
end

section
/- bits: Same, Join. -/
namespace Q
open Go Go.Abs
set_option linter.unusedVariables false
set_option linter.unusedSimpArgs false
def diff (a b : List Int) (i : Nat) : Int := (List.range i).foldl (fun acc j => bits .or .u8 acc (bits .xor .u8 (a.getD j 0) (b.getD j 0))) 0
theorem bew (a b : List Int) (i : Nat) : diff a b (i + 1) = bits .or .u8 (diff a b i) (bits .xor .u8 (a.getD i 0) (b.getD i 0)) := by
 simp [diff, List.range_succ]
theorem bfe (a b : List Int) (ha : In 256 a) (hb : In 256 b) : ∀ i, (0 ≤ diff a b i ∧ diff a b i < 256) ∧ (diff a b i = 0 ↔ ∀ j, j < i → a.getD j 0 = b.getD j 0)
 | 0 => ⟨⟨by simp [diff], by simp [diff]⟩, by simp [diff]⟩
 | i + 1 => by
  obtain ⟨h1, h2⟩ := bfe a b ha hb i
  rw [bew]
  have hx := ha.getD i (by omega)
  have hy := hb.getD i (by omega)
  obtain ⟨d, hd⟩ := Int.eq_ofNat_of_zero_le h1.1
  obtain ⟨x, hx'⟩ := Int.eq_ofNat_of_zero_le hx.1
  obtain ⟨y, hy'⟩ := Int.eq_ofNat_of_zero_le hy.1
  rw [hd, hx', hy', byj x y (by omega) (by omega), ca1 d _ (by omega) (Nat.xor_lt_two_pow (n := 8) (show x < 2 ^ 8 by omega) (show y < 2 ^ 8 by omega))]
  have hb : d ||| (x ^^^ y) < 256 := Nat.or_lt_two_pow (n := 8) (show d < 2 ^ 8 by omega) (Nat.xor_lt_two_pow (n := 8) (show x < 2 ^ 8 by omega) (show y < 2 ^ 8 by omega))
  refine ⟨⟨by omega, by omega⟩, ?_⟩
  rw [show (((d ||| (x ^^^ y) : Nat) : Int) = 0 ↔ (d ||| (x ^^^ y)) = 0) by omega, Nat.or_eq_zero_iff, xor_zero]
  constructor
  ·rintro ⟨h0, hxy⟩ j hj
   by_cases hji : j = i
   ·subst hji; rw [hx', hy', hxy]
   ·exact h2.1 (by omega) j (by omega)
  ·intro h
   refine ⟨?_, ?_⟩
   ·have := h2.2 (fun j hj => h j (by omega)); omega
   ·have := h i (by omega); rw [hx', hy'] at this; omega
theorem yj (a b : List Int) (ha : In 256 a) (hb : In 256 b) (h : a.length ≤ 140737488355328) {ρ : Type} (k : Bool → Option ρ) : P.yj a b k = k (decide (a = b)) := by
 rw [P.avy]
 unfold P.amh
 by_cases hl : a.length = b.length
 ·rw [cu (by omega), P.ay3]
  unfold P.avq P.b3a P.bv6 P.b35
  refine bou (fun i => (a, b, diff a b i, (a.length : Int), (i : Int))) a.length (fun i hi next hn => ?_) (fun next => ?_) (Nat.zero_le _) (by omega)
  ·simp only [P.anj, toNat_cast]
   simp (disch := omega) only [bg, dn, gu, cu, fq, fu, jh, oh, qm, ni]
   rw [← bew]
   exact hn
  ·simp only [P.anj]
   rw [dn (by omega)]
   congr 1
   have := (bfe a b ha hb a.length).2
   by_cases hab : a = b
   ·rw [decide_eq_true hab, beq_iff_eq, this]
    subst hab; exact fun _ _ => rfl
   ·rw [decide_eq_false hab, beq_eq_false_iff_ne]
    intro h0
    refine hab (List.ext_getElem hl (fun i h1 h2 => ?_))
    have := this.1 h0 i h1
    rw [getD_lt h1, getD_lt h2] at this
    exact this
 ·rw [gu (by omega), decide_eq_false (fun e => hl (by rw [e]))]
def joined (l : List (List Int)) (i : Nat) : List Int := (l.take i).flatten
theorem ard (l : List (List Int)) (i : Nat) (h : i < l.length) : joined l (i + 1) = joined l i ++ l.getD i [] := by
 unfold joined
 rw [← aob l [] i h, List.flatten_append]; simp
theorem au5 (l : List (List Int)) : joined l l.length = l.flatten := by unfold joined; rw [List.take_length]
theorem axt (l : List (List Int)) (i : Nat) : (joined l i).length ≤ l.flatten.length := by
 unfold joined
 have : l.flatten = (l.take i).flatten ++ (l.drop i).flatten := by rw [← List.flatten_append, List.take_append_drop]
 rw [this, List.length_append]; omega
theorem ko (l : List (List Int)) (h : l.length ≤ 140737488355328) (h2 : l.flatten.length ≤ 140737488355328) {ρ : Type} (k : List Int → Option ρ) : P.ko l k = k l.flatten := by
 rw [P.azj]
 unfold P.aop
 rw [P.bag]
 unfold P.ayh P.b21 P.bwn P.cag
 refine bou (fun i => (l, (i : Int), joined l i)) l.length (fun i hi next hn => ?_) (fun next => ?_) (Nat.zero_le _) (by omega)
 ·have e := ard l i hi
  have h3 := axt l (i + 1)
  rw [e, List.length_append] at h3
  simp only [P.aqo, toNat_cast]
  simp (disch := omega) only [bg, dn, gu, cu, fq, fu, jh, oh, qm, ni]
  rw [← e]
  exact hn
 ·simp only [P.aqo]
  rw [dn (by omega), au5]
theorem qb (n : Nat) (h : n ≤ 140737488355328) {ρ : Type} (k : List Int → Option ρ) : P.qb (n : Int) k = k [] := by
 rw [P.aiz]
 unfold P.ad6
 rw [dn (by omega), show IntKind.i64.wrap ((0 : Int) - (0 : Int)) = 0 by decide]
 rw [ni (by omega) (by omega)]
 by_cases h0 : n = 0
 ·subst h0; rw [dn (by omega)]
 ·rw [bg (by omega), bg (by omega), bg (by omega)]; rfl
theorem jq (l : List (List Int)) (h : l.length ≤ 140737488355328) (h2 : l.flatten.length ≤ 140737488355328) {ρ : Type} (k : List Int → Option ρ) : P.jq l k = k l.flatten := by
 rw [P.agz]
 unfold P.ab9
 rw [P.ak7]
 unfold P.ag1 P.zk4 P.zs4 P.zu4
 refine bou (fun i => (l, ((joined l i).length : Int), l, (l.length : Int), (i : Int))) l.length (fun i hi next hn => ?_) (fun next => ?_) (Nat.zero_le _) (by omega)
 ·have e := ard l i hi
  have h3 := axt l (i + 1)
  have e2 : ((joined l i).length : Int) + ((l.getD i []).length : Int) = ((joined l (i + 1)).length : Int) := by rw [e, List.length_append]; omega
  simp only [P.ac5, toNat_cast, e2]
  simp (disch := omega) only [bg, dn, gu, cu, fq, fu, jh, oh, qm, ni]
  exact hn
 ·simp only [P.ac5]
  rw [dn (by omega), au5, qb _ h2, P.akf]
  unfold P.afu P.zk5 P.zs5 P.zu5
  refine bou (fun i => (l, (l.length : Int), (i : Int), joined l i)) l.length (fun i hi next hn => ?_) (fun next => ?_) (Nat.zero_le _) (by omega)
  ·have e := ard l i hi
   have h3 := axt l (i + 1)
   rw [e, List.length_append] at h3
   simp only [P.ab5, toNat_cast]
   simp (disch := omega) only [bg, dn, gu, cu, fq, fu, jh, oh, qm, ni]
   rw [← e]
   exact hn
  ·simp only [P.ab5]
   rw [dn (by omega), au5]
theorem l5 (l : List (List Int)) (h : l.length ≤ 140737488355328) (h2 : l.flatten.length ≤ 140737488355328) {ρ : Type} (k : List Int → Option ρ) : P.l5 l k = k l.flatten := by
 rw [P.av5]
 unfold P.alm
 exact jq l h h2 k
end Q
end

















section
/- lmots: digits. -/
namespace Q
open Go Go.Abs
set_option linter.unusedVariables false
set_option linter.unusedSimpArgs false
theorem w9 (N s : Nat) (hN : N < 18446744073709551616) (hs : s ≤ 65536) {ρ : Type} (k : List Int → Option ρ) : P.w9 (N : Int) (s : Int) k = k (bsw 8 s N).reverse := by
 rw [P.bfi]
 unfold P.auv
 simp only [toNat_cast]
 simp (disch := omega) only [bg, dn, gu, cu, fq, fu, jh, oh, qm, ni]
 rw [P.bfx]
 unfold P.bgq P.b1k P.bz8 P.b73
 refine tu (fun j => (((N / 2 ^ (8 * j) : Nat) : Int), (s : Int) - 1 - (j : Int), List.replicate (s - j) 0 ++ (bsw 8 j N).reverse)) s (by simp [bsw]) (fun j hj next hn' => ?_) (fun next => ?_) (by omega)
 ·simp only [P.aw8, List.length_append, List.length_replicate, List.length_reverse, abb]
  rw [show (s : Int) - 1 - (j : Int) = ((s - 1 - j : Nat) : Int) by omega]
  simp only [toNat_cast]
  have hd := Nat.div_le_self N (2 ^ (8 * j))
  have hb : bits .and .u64 ((N / 2 ^ (8 * j) : Nat) : Int) 255 = ((N / 2 ^ (8 * j) % 2 ^ 8 : Nat) : Int) := by
   rw [show (255 : Int) = ((2 ^ 8 - 1 : Nat) : Int) from rfl, aq2 _ _ (by omega) (by omega), Nat.and_two_pow_sub_one_eq_mod]
  have hd2 : (((N / 2 ^ (8 * j) : Nat) : Int)).fdiv ((2 : Int) ^ 8) = ((N / 2 ^ (8 * (j + 1)) : Nat) : Int) := by
   rw [show ((2 : Int) ^ 8) = (2 : Int) ^ min 8 8 from rfl, fdiv_pow _ 8 8 (by omega), Nat.div_div_eq_div_mul, ← Nat.pow_add, Nat.mul_succ]
  rw [hb, hd2, u8n _ (by omega)]
  rw [bdv, List.reverse_append, List.reverse_singleton, List.singleton_append] at hn'
  have hset : (List.replicate (s - j) (0 : Int) ++ (bsw 8 j N).reverse).set (s - 1 - j) ((N / 2 ^ (8 * j) % 2 ^ 8 : Nat) : Int) = List.replicate (s - (j + 1)) 0 ++ ((N / 2 ^ (8 * j) % 2 ^ 8 : Nat) : Int) :: (bsw 8 j N).reverse := by
   rw [show s - j = (s - (j + 1)) + 1 by omega, List.replicate_succ', List.append_assoc, List.set_append_right _ _ (by simp; omega), List.length_replicate, show s - 1 - j - (s - (j + 1)) = 0 by omega]
   rfl
  rw [hset]
  simp (disch := omega) only [bg, dn, gu, cu, fq, fu, jh, oh, qm, ni]
  rw [show ((s - 1 - j : Nat) : Int) - 1 = (s : Int) - 1 - ((j + 1 : Nat) : Int) by omega]
  exact hn'
 ·simp only [P.aw8]
  rw [dn (by omega), Nat.sub_self]; rfl
def sumTo (D : List Int) : Nat → Nat
 | 0 => 0
 | i + 1 => sumTo D i + (D.getD i 0).toNat
theorem sumTo_le (D : List Int) (w : Nat) (h : In (2 ^ w) D) : ∀ i, sumTo D i ≤ i * (2 ^ w - 1)
 | 0 => by simp [sumTo]
 | i + 1 => by
  have ih := sumTo_le D w h i
  have hp : ((2 : Int) ^ w) = ((2 ^ w : Nat) : Int) := by simp
  have := h.getD i (by rw [hp]; have := p2 w; omega)
  rw [hp] at this
  rw [Nat.succ_mul]; simp only [sumTo]; omega
theorem bnl (b : List Int) (w c : Int) : In (2 ^ w.toNat) (uj b w c) := by
 unfold uj
 split
 ·refine In.map (fun i _ => ⟨Int.natCast_nonneg _, ?_⟩)
  have := Nat.mod_lt (T 8 b.reverse / 2 ^ (8 * b.length - w.toNat * (i + 1))) (p2 w.toNat)
  have hp : ((2 : Int) ^ w.toNat) = ((2 ^ w.toNat : Nat) : Int) := by simp
  rw [hp]; unfold dg; omega
 ·exact In.nil
def left (w s : Nat) (b : List Int) : Nat := ((256 / w) * (2 ^ w - 1) - sumTo (uj b w ((256 / w : Nat) : Int)) (256 / w)) * 2 ^ s
theorem bby (b : List Int) (w c : Nat) (h1 : 1 ≤ w) (h2 : w ≤ 24) (h : c * w ≤ b.length * 8) : uj b (w : Int) (c : Int) = (List.range c).map (dg w b.length (T 8 b.reverse)) := by
 unfold uj
 rw [if_pos (by refine ⟨by omega, by omega, by omega, ?_⟩; rw [← Int.natCast_mul]; omega)]
 simp only [toNat_cast]
end Q
end

section
/- SHA-2: blocks one behind the other, words of 32 bits. -/
namespace Q
open Go Go.Abs
set_option linter.unusedVariables false
set_option linter.unusedSimpArgs false
def thr {w : Nat} (p : Par w) (v : List (BitVec w)) (b : List Int) : Nat → List (BitVec w)
 | 0 => v
 | i + 1 => ayx p (thr p v b i) ((b.drop ((2 * w) * i)).take (2 * w))
theorem ama {w : Nat} (p : Par w) (v : List (BitVec w)) (hv : v.length = 8) (b : List Int) : ∀ i, (thr p v b i).length = 8
 | 0 => hv
 | i + 1 => blb _ _ _
def toV (w : Nat) (l : List Int) : List (BitVec w) := (List.range 8).map fun i => BitVec.ofInt w (l.getD i 0)
theorem amd (w : Nat) (l : List Int) : (toV w l).length = 8 := by simp [toV]
theorem br1 (w : Nat) (l : List Int) (hl : l.length = 8) (hi : In (2 ^ w) l) : cv (toV w l) = l := by
 unfold cv toV
 rw [List.map_map]
 refine List.ext_getElem (by simp [hl]) (fun i h1 h2 => ?_)
 have hp : ((2 : Int) ^ w) = ((2 ^ w : Nat) : Int) := by simp
 have := hi.getD i (by rw [hp]; have := p2 w; omega)
 rw [getD_lt h2] at this
 simp only [List.getElem_map, List.getElem_range, Function.comp, getD_lt h2, BitVec.toNat_ofInt]
 rw [hp] at this
 rw [Int.emod_eq_of_lt this.1 this.2]
 omega
theorem bs5 {w : Nat} (l : List (BitVec w)) : In (2 ^ w) (cv l) := by
 intro x hx
 obtain ⟨y, _, rfl⟩ := List.mem_map.1 hx
 have := y.isLt
 have hp : ((2 : Int) ^ w) = ((2 ^ w : Nat) : Int) := by simp
 rw [hp]
 omega
theorem brx {w : Nat} (l : List (BitVec w)) (hl : l.length = 8) : toV w (cv l) = l := by
 unfold toV
 refine List.ext_getElem (by simp [hl]) (fun i h1 h2 => ?_)
 simp only [List.getElem_map, List.getElem_range, ahc, ofI, getD_lt h2]
theorem bdf (x : Int) : IntKind.u32.wrap x = ((BitVec.ofInt 32 x).toNat : Int) := by
 rw [bzl, BitVec.toNat_ofInt]; omega
def rest (n : Nat) (b : List Int) : List Int := b.drop (n * (b.length / n))
theorem bym (words b : List Int) (rd : Int) (t0 t1 t2 t3 h1 h2 : List Int) (hi : In 18446744073709551616 words) {ρ : Type} (k0 : List Int → List Int → Int → Int → Int → List Int → List Int → List Int → List Int → List Int → List Int → List Int → Option ρ) :
    P.adb b words 0 32 rd t0 t1 t2 t3 h1 h2 (List.replicate 8 0) k0 = k0 b words 8 32 rd t0 t1 t2 t3 h1 h2 (cv (toV 32 words)) := by
 rw [P.akn]
 unfold P.agv P.b2q P.bx4 P.b8c
 refine tu (fun i => (b, words, (i : Int), 32, rd, t0, t1, t2, t3, h1, h2, cv ((List.range i).map fun i => BitVec.ofInt 32 (words.getD i 0)) ++ List.replicate (8 - i) 0)) 8 (by simp [cv]) (fun i hi' next hn' => ?_) (fun next => ?_) (by omega)
 ·simp only [P.adi, toNat_cast]
  have e4 : IntKind.i64.wrap ((i : Int) + 1) = ((i + 1 : Nat) : Int) := by rw [ni (by omega) (by omega)]; omega
  have e5 : (cv ((List.range i).map fun i => BitVec.ofInt 32 (words.getD i 0)) ++ List.replicate (8 - i) (0 : Int)).set i ((BitVec.ofInt 32 (words.getD i 0)).toNat : Int) = cv ((List.range (i + 1)).map fun i => BitVec.ofInt 32 (words.getD i 0)) ++ List.replicate (8 - (i + 1)) 0 := by
   rw [List.set_append_right _ _ (by simp), yu, List.length_map, List.length_range, Nat.sub_self, show 8 - i = (8 - (i + 1)) + 1 by omega, List.replicate_succ, List.set_cons_zero, List.range_succ, List.map_append, ← ag2, List.append_assoc]
   rfl
  rw [bg (by omega), bg (by omega), bg (by omega), bg (by omega), bg (by omega), bdf, e5, e4]
  exact hn'
 ·simp only [P.adi]
  rw [dn (by omega)]
  simp [toV]
theorem bvo (v : List (BitVec 32)) (hv : v.length = 8) (b : List Int) (hb : In 256 b) (hn : b.length ≤ 1000000) (h1 h2 : List Int) {ρ : Type} (k0 : List Int → Int → List Int → List Int → List Int → Int → Int → List Int → List Int → List Int → List Int → Option ρ) :
    P.acw b 64 (cv v) h2 h1 32 64 [7, 18, 3] [17, 19, 10] [2, 13, 22] [6, 11, 25] k0 =
     k0 (rest 64 b) 64 (cv (thr p32 v b (b.length / 64))) h2 h1 32 64 [7, 18, 3] [17, 19, 10] [2, 13, 22] [6, 11, 25] := by
 rw [P.akk]
 unfold P.agu P.b1s P.bzh P.b71
 refine tu (fun i => (b.drop (64 * i), 64, cv (thr p32 v b i), h2, h1, 32, 64, [7, 18, 3], [17, 19, 10], [2, 13, 22], [6, 11, 25])) (b.length / 64) (by simp [thr]) (fun i hi next hn' => ?_) (fun next => ?_) (by omega)
 ·simp only [P.acr]
  have hlen : (b.drop (64 * i)).length = b.length - 64 * i := by simp
  have hge : 64 ≤ b.length - 64 * i := by omega
  simp only [hlen, show (64 : Int).toNat = 64 from rfl, toNat_cast, List.drop_zero]
  have hbl : ((b.drop (64 * i)).take 64).length = 16 * 4 := by rw [List.length_take, hlen]; omega
  rw [bg (by omega), bg (by omega), bg (by omega), bnu _ (ama _ _ hv _ _) _ ((hb.drop _).take _) hbl, bg (by omega), bg (by omega), bg (by omega),
   List.take_of_length_le (by rw [hlen]; omega), List.drop_drop, show 64 * i + 64 = 64 * (i + 1) by omega]
  exact hn'
 ·simp only [P.acr]
  have hlen : (b.drop (64 * (b.length / 64))).length = b.length - 64 * (b.length / 64) := by simp
  rw [dn (by rw [hlen]; omega)]
  rfl
theorem btr (v : List (BitVec 32)) (hv : v.length = 8) (b : List Int) (words h2 : List Int) (hl : words.length = 8) {ρ : Type} (k0 : List Int → List Int → Int → List Int → List Int → Option ρ) :
    P.ab7 b (cv v) 0 words h2 k0 = k0 b (cv v) 8 (cv v) h2 := by
 rw [P.aj3]
 unfold P.afs P.b2k P.bw4 P.b8a
 refine tu (fun i => (b, cv v, (i : Int), (cv v).take i ++ words.drop i, h2)) 8 (by simp) (fun i hi next hn' => ?_) (fun next => ?_) (by omega)
 ·simp only [P.acf, toNat_cast]
  have e4 : IntKind.i64.wrap ((i : Int) + 1) = ((i + 1 : Nat) : Int) := by rw [ni (by omega) (by omega)]; omega
  have e5 : ((cv v).take i ++ words.drop i).set i ((cv v).getD i 0) = (cv v).take (i + 1) ++ words.drop (i + 1) := by
   rw [List.set_append_right _ _ (by rw [List.length_take]; omega), List.length_take, yu, hv, Nat.min_eq_left (by omega), Nat.sub_self, List.drop_eq_getElem_cons (by omega), List.set_cons_zero, ← aob (cv v) 0 i (by rw [yu]; omega), List.append_assoc]
   rfl
  have e6 : IntKind.u64.wrap ((cv v).getD i 0) = (cv v).getD i 0 := by
   rw [ahc]; exact afr _ (nlt _)
  rw [bg (by omega), bg (by omega), bg (by omega), bg (by omega), bg (by omega), e6, e5, e4]
  exact hn'
 ·simp only [P.acf]
  rw [dn (by omega), List.drop_eq_nil_of_le (by omega), List.append_nil, List.take_of_length_le (by rw [yu]; omega)]
  rfl
theorem bh9 (words b : List Int) (hl : words.length = 8) (hi : In 18446744073709551616 words) (hb : In 256 b) (hn : b.length ≤ 1000000) {ρ : Type} (k : List Int → List Int → Option ρ) :
    P.qj 32 64 [7, 18, 3] [17, 19, 10] [2, 13, 22] [6, 11, 25] words b k = k (cv (thr p32 (toV 32 words) b (b.length / 64))) (rest 64 b) := by
 rw [P.agp]
 unfold P.acg
 refine (bym words b 64 [7, 18, 3] [17, 19, 10] [2, 13, 22] [6, 11, 25] words (List.replicate 8 0) hi _).trans ?_
 rw [show IntKind.i64.wrap ((32 : Int) * 2) = 64 from rfl, bvo _ (amd _ _) b hb hn, btr _ (ama _ _ (amd _ _) _ _) _ _ _ hl]
theorem byz (v : List (BitVec 32)) (hv : v.length = 8) (b : List Int) (hb : In 256 b) (hn : b.length ≤ 1000000) (kd : Int) (tl : List Int) (sz : Int) (a1 : Int) (a2 : List Int) (a3 : Int) {ρ : Type} (k0 : Int → List Int → Int → List Int → List Int → Int → Int → List Int → Int → Option ρ) :
    P.ao1 64 b kd (cv v) tl sz a1 a2 a3 k0 = k0 64 (rest 64 b) kd (cv (thr p32 v b (b.length / 64))) tl sz a1 a2 a3 := by
 rw [P.as9]
 unfold P.auo P.byo P.buw P.b1i
 refine tu (fun i => (64, b.drop (64 * i), kd, cv (thr p32 v b i), tl, sz, a1, a2, a3)) (b.length / 64) (by simp [thr]) (fun i hi next hn' => ?_) (fun next => ?_) (by omega)
 ·simp only [P.ak1]
  have hlen : (b.drop (64 * i)).length = b.length - 64 * i := by simp
  have hge : 64 ≤ b.length - 64 * i := by omega
  simp only [hlen, show (64 : Int).toNat = 64 from rfl, toNat_cast, List.drop_zero]
  have hbl : ((b.drop (64 * i)).take 64).length = 16 * 4 := by rw [List.length_take, hlen]; omega
  rw [bg (by omega), bg (by omega), bg (by omega), show ((64 : Int) == 128) = false from rfl, bmo _ (ama _ _ hv _ _) _ ((hb.drop _).take _) hbl, bg (by omega), bg (by omega), bg (by omega),
   List.take_of_length_le (by rw [hlen]; omega), List.drop_drop, show 64 * i + 64 = 64 * (i + 1) by omega]
  exact hn'
 ·simp only [P.ak1]
  have hlen : (b.drop (64 * (b.length / 64))).length = b.length - 64 * (b.length / 64) := by simp
  rw [dn (by rw [hlen]; omega)]
  rfl
end Q
end

section
/- SHA-2: blocks one behind the other, words of 64 bits. -/
namespace Q
open Go Go.Abs
set_option linter.unusedVariables false
set_option linter.unusedSimpArgs false
theorem bxl (words b : List Int) (rd : Int) (t0 t1 t2 t3 h1 h2 : List Int) (hi : In 18446744073709551616 words) {ρ : Type} (k0 : List Int → List Int → Int → Int → Int → List Int → List Int → List Int → List Int → List Int → List Int → List Int → Option ρ) :
    P.aco b words 0 64 rd t0 t1 t2 t3 h1 h2 (List.replicate 8 0) k0 = k0 b words 8 64 rd t0 t1 t2 t3 h1 h2 (cv (toV 64 words)) := by
 rw [P.ako]
 unfold P.agq P.b2n P.b07 P.cbx
 refine tu (fun i => (b, words, (i : Int), 64, rd, t0, t1, t2, t3, h1, h2, cv ((List.range i).map fun i => BitVec.ofInt 64 (words.getD i 0)) ++ List.replicate (8 - i) 0)) 8 (by simp [cv]) (fun i hi' next hn' => ?_) (fun next => ?_) (by omega)
 ·simp only [P.ac7, toNat_cast]
  have e4 : IntKind.i64.wrap ((i : Int) + 1) = ((i + 1 : Nat) : Int) := by rw [ni (by omega) (by omega)]; omega
  have e6 : words.getD i 0 = ((BitVec.ofInt 64 (words.getD i 0)).toNat : Int) := by
   have := hi.getD i (by omega)
   rw [BitVec.toNat_ofInt]
   omega
  have e5 : (cv ((List.range i).map fun i => BitVec.ofInt 64 (words.getD i 0)) ++ List.replicate (8 - i) (0 : Int)).set i ((BitVec.ofInt 64 (words.getD i 0)).toNat : Int) = cv ((List.range (i + 1)).map fun i => BitVec.ofInt 64 (words.getD i 0)) ++ List.replicate (8 - (i + 1)) 0 := by
   rw [List.set_append_right _ _ (by simp), yu, List.length_map, List.length_range, Nat.sub_self, show 8 - i = (8 - (i + 1)) + 1 by omega, List.replicate_succ, List.set_cons_zero, List.range_succ, List.map_append, ← ag2, List.append_assoc]
   rfl
  rw [bg (by omega), bg (by omega), bg (by omega), bg (by omega), bg (by omega), e6, e5, e4]
  exact hn'
 ·simp only [P.ac7]
  rw [dn (by omega)]
  simp [toV]
theorem byu (v : List (BitVec 64)) (hv : v.length = 8) (b : List Int) (hb : In 256 b) (hn : b.length ≤ 1000000) (h1 h2 : List Int) {ρ : Type} (k0 : List Int → Int → List Int → List Int → List Int → Int → Int → List Int → List Int → List Int → List Int → Option ρ) :
    P.adk b 128 (cv v) h2 h1 64 80 [1, 8, 7] [19, 61, 6] [28, 34, 39] [14, 18, 41] k0 =
     k0 (rest 128 b) 128 (cv (thr p64 v b (b.length / 128))) h2 h1 64 80 [1, 8, 7] [19, 61, 6] [28, 34, 39] [14, 18, 41] := by
 rw [P.ak0]
 unfold P.ags P.b24 P.bz6 P.b60
 refine tu (fun i => (b.drop (128 * i), 128, cv (thr p64 v b i), h2, h1, 64, 80, [1, 8, 7], [19, 61, 6], [28, 34, 39], [14, 18, 41])) (b.length / 128) (by simp [thr]) (fun i hi next hn' => ?_) (fun next => ?_) (by omega)
 ·simp only [P.adh]
  have hlen : (b.drop (128 * i)).length = b.length - 128 * i := by simp
  have hge : 128 ≤ b.length - 128 * i := by omega
  simp only [hlen, show (128 : Int).toNat = 128 from rfl, toNat_cast, List.drop_zero]
  have hbl : ((b.drop (128 * i)).take 128).length = 16 * 8 := by rw [List.length_take, hlen]; omega
  rw [bg (by omega), bg (by omega), bg (by omega), bmt _ (ama _ _ hv _ _) _ ((hb.drop _).take _) hbl, bg (by omega), bg (by omega), bg (by omega),
   List.take_of_length_le (by rw [hlen]; omega), List.drop_drop, show 128 * i + 128 = 128 * (i + 1) by omega]
  exact hn'
 ·simp only [P.adh]
  have hlen : (b.drop (128 * (b.length / 128))).length = b.length - 128 * (b.length / 128) := by simp
  rw [dn (by rw [hlen]; omega)]
  rfl
theorem bsq (v : List (BitVec 64)) (hv : v.length = 8) (b : List Int) (words h2 : List Int) (hl : words.length = 8) {ρ : Type} (k0 : List Int → List Int → Int → List Int → List Int → Option ρ) :
    P.ace b (cv v) 0 words h2 k0 = k0 b (cv v) 8 (cv v) h2 := by
 rw [P.akj]
 unfold P.aft P.b1h P.b0w P.b6e
 refine tu (fun i => (b, cv v, (i : Int), (cv v).take i ++ words.drop i, h2)) 8 (by simp) (fun i hi next hn' => ?_) (fun next => ?_) (by omega)
 ·simp only [P.ab6, toNat_cast]
  have e4 : IntKind.i64.wrap ((i : Int) + 1) = ((i + 1 : Nat) : Int) := by rw [ni (by omega) (by omega)]; omega
  have e5 : ((cv v).take i ++ words.drop i).set i ((cv v).getD i 0) = (cv v).take (i + 1) ++ words.drop (i + 1) := by
   rw [List.set_append_right _ _ (by rw [List.length_take]; omega), List.length_take, yu, hv, Nat.min_eq_left (by omega), Nat.sub_self, List.drop_eq_getElem_cons (by omega), List.set_cons_zero, ← aob (cv v) 0 i (by rw [yu]; omega), List.append_assoc]
   rfl
  rw [bg (by omega), bg (by omega), bg (by omega), bg (by omega), bg (by omega), e5, e4]
  exact hn'
 ·simp only [P.ab6]
  rw [dn (by omega), List.drop_eq_nil_of_le (by omega), List.append_nil, List.take_of_length_le (by rw [yu]; omega)]
  rfl
theorem bi1 (words b : List Int) (hl : words.length = 8) (hi : In 18446744073709551616 words) (hb : In 256 b) (hn : b.length ≤ 1000000) {ρ : Type} (k : List Int → List Int → Option ρ) :
    P.ql 64 80 [1, 8, 7] [19, 61, 6] [28, 34, 39] [14, 18, 41] words b k = k (cv (thr p64 (toV 64 words) b (b.length / 128))) (rest 128 b) := by
 rw [P.ag0]
 unfold P.ab4
 refine (bxl words b 80 [1, 8, 7] [19, 61, 6] [28, 34, 39] [14, 18, 41] words (List.replicate 8 0) hi _).trans ?_
 rw [show IntKind.i64.wrap ((64 : Int) * 2) = 128 from rfl, byu _ (amd _ _) b hb hn, bsq _ (ama _ _ (amd _ _) _ _) _ _ _ hl]
theorem by1 (v : List (BitVec 64)) (hv : v.length = 8) (b : List Int) (hb : In 256 b) (hn : b.length ≤ 1000000) (kd : Int) (tl : List Int) (sz : Int) (a1 : Int) (a2 : List Int) (a3 : Int) {ρ : Type} (k0 : Int → List Int → Int → List Int → List Int → Int → Int → List Int → Int → Option ρ) :
    P.ao1 128 b kd (cv v) tl sz a1 a2 a3 k0 = k0 128 (rest 128 b) kd (cv (thr p64 v b (b.length / 128))) tl sz a1 a2 a3 := by
 rw [P.as9]
 unfold P.auo P.byo P.buw P.b1i
 refine tu (fun i => (128, b.drop (128 * i), kd, cv (thr p64 v b i), tl, sz, a1, a2, a3)) (b.length / 128) (by simp [thr]) (fun i hi next hn' => ?_) (fun next => ?_) (by omega)
 ·simp only [P.ak1]
  have hlen : (b.drop (128 * i)).length = b.length - 128 * i := by simp
  have hge : 128 ≤ b.length - 128 * i := by omega
  simp only [hlen, show (128 : Int).toNat = 128 from rfl, toNat_cast, List.drop_zero]
  have hbl : ((b.drop (128 * i)).take 128).length = 16 * 8 := by rw [List.length_take, hlen]; omega
  rw [bg (by omega), bg (by omega), bg (by omega), show ((128 : Int) == 128) = true from rfl, bnj _ (ama _ _ hv _ _) _ ((hb.drop _).take _) hbl, bg (by omega), bg (by omega), bg (by omega),
   List.take_of_length_le (by rw [hlen]; omega), List.drop_drop, show 128 * i + 128 = 128 * (i + 1) by omega]
  exact hn'
 ·simp only [P.ak1]
  have hlen : (b.drop (128 * (b.length / 128))).length = b.length - 128 * (b.length / 128) := by simp
  rw [dn (by rw [hlen]; omega)]
  rfl
end Q
end



section
/- Are two rows of bytes the same. -/
namespace Q
open Go Go.Abs
set_option linter.unusedVariables false
set_option linter.unusedSimpArgs false
end Q
end











section
/- SHA-2: sums that go on, and their ends. -/
namespace Q
open Go Go.Abs
set_option linter.unusedVariables false
set_option linter.unusedSimpArgs false
def bsz (kind : Int) : Nat := if kind = 1 then 64 else 128
theorem ajt (kind : Int) : (kind = 1 ∧ bsz kind = 64) ∨ (kind ≠ 1 ∧ bsz kind = 128) := by
 unfold bsz
 by_cases h : kind = 1
 ·exact .inl ⟨h, if_pos h⟩
 ·exact .inr ⟨h, if_neg h⟩
theorem vg (kind : Int) {ρ : Type} (k : Int → Option ρ) : P.vg kind k = k ((bsz kind : Nat) : Int) := by
 rw [P.amj]; unfold P.af6
 rcases ajt kind with ⟨h, e⟩ | ⟨h, e⟩
 ·rw [fq h, e]; rfl
 ·rw [fu h, e]; rfl
theorem zq (kind : Int) {ρ : Type} (k : Int → Option ρ) : P.zq kind k = k ((bsz kind : Nat) : Int) := by
 rw [P.avv]; unfold P.ale
 rcases ajt kind with ⟨h, e⟩ | ⟨h, e⟩
 ·rw [fq h, e]; rfl
 ·rw [fu h, e]; rfl
def asl (kind : Int) (words all : List Int) : List Int :=
 if kind = 1 then cv (thr p32 (toV 32 words) all (all.length / 64)) else cv (thr p64 (toV 64 words) all (all.length / 128))
theorem brg (kind : Int) (words all : List Int) : (asl kind words all).length = 8 := by
 unfold asl
 split <;> rw [yu, ama _ _ (amd _ _)]
def Wok (kind : Int) (words : List Int) : Prop := words.length = 8 ∧ In 18446744073709551616 words ∧ (kind = 1 → In 4294967296 words)
theorem at5 (kind : Int) (words all : List Int) : Wok kind (asl kind words all) := by
 refine ⟨brg _ _ _, ?_, fun h => ?_⟩
 ·unfold asl
  split
  ·intro x hx
   have := bs5 _ x hx
   omega
  ·intro x hx
   have := bs5 _ x hx
   omega
 ·unfold asl
  rw [if_pos h]
  intro x hx
  have := bs5 _ x hx
  omega
theorem bcy (n : Nat) (hn : 0 < n) (b : List Int) : (rest n b).length = b.length % n := by
 unfold rest
 rw [List.length_drop]
 have := Nat.div_add_mod b.length n
 omega
theorem bow {n : Nat} {b : List Int} (h : In 256 b) : In 256 (rest n b) := h.drop _
theorem acs {ρ : Type} (k : Int → Int → List Int → List Int → List Int → List Int → Option ρ) : P.acs k = k 32 64 [7, 18, 3] [17, 19, 10] [2, 13, 22] [6, 11, 25] := by rw [P.awf]; rfl
theorem acv {ρ : Type} (k : Int → Int → List Int → List Int → List Int → List Int → Option ρ) : P.acv k = k 64 80 [1, 8, 7] [19, 61, 6] [28, 34, 39] [14, 18, 41] := by rw [P.av1]; rfl
theorem aak (kind : Int) (words tail : List Int) (size : Int) (b : List Int) (hl : words.length = 8) (hi : In 18446744073709551616 words) (ht : In 256 tail) (hb : In 256 b) (hn : tail.length + b.length ≤ 1000000) {ρ : Type} (k : Int → List Int → List Int → Int → Option ρ) :
    P.aak kind words tail size b k = k kind (asl kind words (tail ++ b)) (rest (bsz kind) (tail ++ b)) (IntKind.u64.wrap (size + IntKind.u64.wrap (b.length : Int))) := by
 rw [P.bcw]; unfold P.arj
 have hf : [tail, b].flatten = tail ++ b := by simp
 have hall : (tail ++ b).length ≤ 1000000 := by rw [List.length_append]; exact hn
 have hin : In 256 (tail ++ b) := ht.app hb
 have hr : ∀ n, (rest n (tail ++ b)).length ≤ 1000000 := fun n => by unfold rest; rw [List.length_drop]; omega
 rw [jq _ (by simp) (by rw [hf]; omega), hf]
 rcases ajt kind with ⟨h, e⟩ | ⟨h, e⟩
 ·rw [fq h, acs, e]
  rw [bh9 words _ hl hi hin hall]
  unfold P.qg asl
  have := hr 64
  rw [bg (by omega), if_pos h]
 ·rw [fu h, acv, e]
  rw [bi1 words _ hl hi hin hall]
  unfold P.qg asl
  have := hr 128
  rw [bg (by omega), if_neg h]
theorem ade (kind : Int) (words tail : List Int) (size : Int) (b : List Int) (hw : Wok kind words) (ht : In 256 tail) (hb : In 256 b) (hn : tail.length + b.length ≤ 1000000) {ρ : Type} (k : Int → List Int → List Int → Int → Option ρ) :
    P.ade kind words tail size b k = k kind (asl kind words (tail ++ b)) (rest (bsz kind) (tail ++ b)) (IntKind.u64.wrap (size + IntKind.u64.wrap (b.length : Int))) := by
 rw [P.ba8]; unfold P.ark
 obtain ⟨hl, hi, h1⟩ := hw
 have hf : [tail, b].flatten = tail ++ b := by simp
 have hall : (tail ++ b).length ≤ 1000000 := by rw [List.length_append]; exact hn
 have hin : In 256 (tail ++ b) := ht.app hb
 rw [zq, ko _ (by simp) (by rw [hf]; omega), hf]
 rcases ajt kind with ⟨h, e⟩ | ⟨h, e⟩
 ·have hv := br1 32 words hl (h1 h)
  rw [e]
  conv => lhs; rw [← hv]
  rw [show ((64 : Nat) : Int) = 64 from rfl, byz _ (amd _ _) _ hin hall]
  unfold asl
  rw [if_pos h]
 ·have hv := br1 64 words hl hi
  rw [e]
  conv => lhs; rw [← hv]
  rw [show ((128 : Nat) : Int) = 128 from rfl, by1 _ (amd _ _) _ hin hall]
  unfold asl
  rw [if_neg h]
def blf (kind : Int) (tl : Nat) : Nat := if kind = 1 then (119 - tl) % 64 else (239 - tl) % 128 + 8
def pad (kind : Int) (tl : Nat) (size : Nat) : List Int := 128 :: List.replicate (blf kind tl) 0 ++ (bsw 8 8 (size * 8 % 2 ^ 64)).reverse
def bhp (n : Nat) (words : List Int) (i : Nat) : List Int := ((List.range i).map fun j => (bsw 8 n (words.getD j 0).toNat).reverse).flatten
theorem asc (n : Nat) (words : List Int) (i : Nat) : bhp n words (i + 1) = bhp n words i ++ (bsw 8 n (words.getD i 0).toNat).reverse := by simp [bhp, List.range_succ]
theorem ajo (n : Nat) (words : List Int) : ∀ i, (bhp n words i).length = n * i
 | 0 => by simp [bhp]
 | i + 1 => by rw [asc, List.length_append, ajo n words i, List.length_reverse, abb, Nat.mul_succ]
theorem bhk (n : Nat) (words : List Int) : ∀ i, In 256 (bhp n words i)
 | 0 => by simp [bhp, In]
 | i + 1 => by rw [asc]; exact (bhk n words i).app (bi7 8 n _).rev
def bl1 (kind : Int) (words tail : List Int) (size : Nat) : List Int :=
 let o := bhp (bsz kind / 16) (asl kind words (tail ++ pad kind tail.length size)) 8
 if kind = 2 then o.take 48 else o
theorem btw (kind : Int) (words tail : List Int) (size : Nat) : In 256 (bl1 kind words tail size) := by
 unfold bl1
 simp only
 split
 ·exact (bhk _ _ _).take _
 ·exact bhk _ _ _
theorem bqy (kind : Int) (words tail : List Int) (size : Nat) : (bl1 kind words tail size).length = if kind = 1 then 32 else if kind = 2 then 48 else 64 := by
 unfold bl1
 simp only
 rcases ajt kind with ⟨h, e⟩ | ⟨h, e⟩
 ·rw [if_neg (by omega), if_pos h, ajo, e]
 ·rw [if_neg h, e]
  split
  ·rw [List.length_take, ajo]; decide
  ·rw [ajo]
theorem tmN (a b : Nat) : ((a : Nat) : Int).tmod (b : Int) = ((a % b : Nat) : Int) := by
 rw [Int.tmod_eq_emod_of_nonneg (by omega)]; rfl
theorem bnf (kind : Int) (tl size : Nat) : In 256 (pad kind tl size) := by
 unfold pad
 refine In.app ?_ (bi7 8 8 _).rev
 intro x hx
 rcases List.mem_cons.1 hx with rfl | hx
 ·omega
 ·rw [List.mem_replicate] at hx; omega
theorem bme (kind : Int) (tl size : Nat) : (pad kind tl size).length = blf kind tl + 9 := by
 unfold pad; simp
theorem bm4 (kind : Int) (tl : Nat) : blf kind tl ≤ 200 := by
 unfold blf; split <;> omega
theorem bqs (n : Nat) (hn : n = 64 ∨ n = 128) (words : List Int) (hw : In 18446744073709551616 words) (a : Int) (b : List Int) (c : Int) (d : List Int) {ρ : Type} (k0 : Int → List Int → Int → List Int → Int → List Int → Int → List Int → Option ρ) :
    P.aq6 (n : Int) words 0 [] a b c d k0 = k0 (n : Int) words 8 (bhp (n / 16) words 8) a b c d := by
 rw [P.az6]
 unfold P.aza P.b1j P.bxc P.b55
 have e16 : IntKind.i64.wrap ((n : Int).tdiv 16) = ((n / 16 : Nat) : Int) := by rcases hn with rfl | rfl <;> rfl
 refine tu (fun i => ((n : Int), words, (i : Int), bhp (n / 16) words i, a, b, c, d)) 8 rfl (fun i hi next hn' => ?_) (fun next => ?_) (by omega)
 ·simp only [P.aqy, toNat_cast]
  have h1 := hw.getD i (by omega)
  have e4 : IntKind.i64.wrap ((i : Int) + 1) = ((i + 1 : Nat) : Int) := by rw [ni (by omega) (by omega)]; omega
  have e5 : words.getD i 0 = (((words.getD i 0).toNat : Nat) : Int) := by omega
  rw [asc] at hn'
  rw [bg (by omega), bg (by omega), bg (by omega), e16, e5, yg _ _ (by omega) (by omega), e4]
  rw [bg (by rw [ajo, List.length_reverse, abb]; rcases hn with rfl | rfl <;> omega)]
  exact hn'
 ·simp only [P.aqy]
  rw [dn (by omega)]
  rfl
theorem shl3 (size : Nat) : IntKind.u64.wrap ((size : Int) * (2 : Int) ^ 3) = ((size * 8 % 2 ^ 64 : Nat) : Int) := by
 rw [bnc]; omega
theorem ae0 (kind : Int) (words tail : List Int) (size : Nat) (hl : words.length = 8) (hi : In 18446744073709551616 words) (ht : In 256 tail) (hn : tail.length < bsz kind) {ρ : Type} (k : List Int → Option ρ) :
    P.ae0 kind words tail (size : Int) k = k (bl1 kind words tail size) := by
 rw [P.bas]; unfold P.aqf
 rw [vg]
 have hz : IntKind.i64.wrap (IntKind.i64.wrap ((IntKind.i64.wrap (IntKind.i64.wrap (IntKind.i64.wrap (IntKind.i64.wrap ((2 : Int) * ((bsz kind : Nat) : Int)) - (1 : Int)) - IntKind.i64.wrap (((bsz kind : Nat) : Int).tdiv (8 : Int))) - (tail.length : Int))).tmod ((bsz kind : Nat) : Int) + IntKind.i64.wrap (((bsz kind : Nat) : Int).tdiv (8 : Int))) - (8 : Int)) = ((blf kind tail.length : Nat) : Int) := by
  unfold blf
  rcases ajt kind with ⟨h, e⟩ | ⟨h, e⟩
  ·rw [e] at hn ⊢
   rw [if_pos h, show IntKind.i64.wrap (IntKind.i64.wrap (IntKind.i64.wrap ((2 : Int) * ((64 : Nat) : Int)) - (1 : Int)) - IntKind.i64.wrap (((64 : Nat) : Int).tdiv (8 : Int))) = 119 from rfl, ni (x := (119 : Int) - (tail.length : Int)) (by omega) (by omega),
    show (119 : Int) - (tail.length : Int) = ((119 - tail.length : Nat) : Int) by omega, tmN, show IntKind.i64.wrap (((64 : Nat) : Int).tdiv (8 : Int)) = 8 from rfl, ni (x := ((((119 - tail.length) % 64 : Nat) : Int)) + 8) (by omega) (by omega), ni (by omega) (by omega)]
   omega
  ·rw [e] at hn ⊢
   rw [if_neg h, show IntKind.i64.wrap (IntKind.i64.wrap (IntKind.i64.wrap ((2 : Int) * ((128 : Nat) : Int)) - (1 : Int)) - IntKind.i64.wrap (((128 : Nat) : Int).tdiv (8 : Int))) = 239 from rfl, ni (x := (239 : Int) - (tail.length : Int)) (by omega) (by omega),
    show (239 : Int) - (tail.length : Int) = ((239 - tail.length : Nat) : Int) by omega, tmN, show IntKind.i64.wrap (((128 : Nat) : Int).tdiv (8 : Int)) = 16 from rfl, ni (x := ((((239 - tail.length) % 128 : Nat) : Int)) + 16) (by omega) (by omega), ni (by omega) (by omega)]
   omega
 have hb : bsz kind = 64 ∨ bsz kind = 128 := by rcases ajt kind with ⟨h, e⟩ | ⟨h, e⟩ <;> omega
 have hz2 := bm4 kind tail.length
 rw [hz]
 simp only [toNat_cast]
 rw [bg (by omega), bg (by omega), dn (by omega), bg (by omega), bg (by omega), shl3, show (8 : Int) = ((8 : Nat) : Int) from rfl, yg _ 8 (by omega) (by omega)]
 have hp : (List.replicate 1 (0 : Int)).set 0 (128 : Int) ++ List.replicate (blf kind tail.length) (0 : Int) ++ (bsw 8 8 (size * 8 % 2 ^ 64)).reverse = pad kind tail.length size := rfl
 rw [bg (by
  show ((List.replicate (blf kind tail.length) (0 : Int)).length + 0 + 1 + _) * 1 ≤ _
  rw [List.length_replicate, List.length_reverse, abb]; omega), hp]
 have hpl := bme kind tail.length size
 rw [aak kind words tail _ _ hl hi ht (bnf _ _ _) (by omega), bqs _ hb _ (at5 _ _ _).2.1]
 unfold bl1
 simp only
 by_cases h2 : kind = 2
 ·have e : bsz kind = 128 := by unfold bsz; rw [if_neg (by omega)]
  rw [fq h2, bg (by rw [ajo, e]; omega), if_pos h2]
  rfl
 ·rw [fu h2, if_neg h2]
theorem pads (n : Nat) (hn : n = 64 ∨ n = 128) (tl : Nat) (ht : tl < 200) (z m : Nat) (hm : m < n) (h1 : ∀ i, i < z → (tl + (1 + i)) % n ≠ m) (h2 : (tl + (1 + z)) % n = m) (hz : z ≤ 200) (c : Int) (kd : Int) (words tail : List Int) (size : Int) (hl : tail.length = tl) (d : Int) (hd : IntKind.i64.wrap ((n : Int) - d) = (m : Int)) :
    (d = 8 → ∀ {ρ : Type} (k0 : Int → Int → List Int → Int → List Int → List Int → Int → Option ρ), P.au4 (n : Int) c [128] kd words tail size k0 = k0 (n : Int) c (128 :: List.replicate z 0) kd words tail size) ∧
    (d = 16 → ∀ {ρ : Type} (k0 : Int → Int → List Int → Int → List Int → List Int → Int → Option ρ), P.au6 (n : Int) c [128] kd words tail size k0 = k0 (n : Int) c (128 :: List.replicate z 0) kd words tail size) := by
 have hlen : ∀ i : Nat, ((128 : Int) :: List.replicate i 0).length = 1 + i := fun i => by simp; omega
 have hc : ∀ i : Nat, i ≤ z → IntKind.i64.wrap (((tail.length : Nat) : Int) + ((((128 : Int) :: List.replicate i 0).length : Nat) : Int)) = ((tl + (1 + i) : Nat) : Int) := fun i hi => by
  rw [hlen, hl, ni (by omega) (by omega)]; omega
 have hs : ∀ i : Nat, ((128 : Int) :: List.replicate i 0) ++ [(0 : Int)] = 128 :: List.replicate (i + 1) 0 := fun i => by
  rw [List.replicate_succ']; rfl
 constructor
 ·rintro rfl ρ k0
  rw [P.bc4]
  unfold P.bcg P.b3g P.bwf P.caq
  refine tu (fun i => ((n : Int), c, 128 :: List.replicate i 0, kd, words, tail, size)) z rfl (fun i hi next hn' => ?_) (fun next => ?_) (by omega)
  ·simp only [P.auh]
   have := h1 i hi
   rw [hc i (by omega), tmN, hd, dn (by omega), gu (by omega), bg (by rw [hlen]; omega), hs]
   exact hn'
  ·simp only [P.auh]
   rw [hc z (by omega), tmN, hd, dn (by omega), h2, cu (by rfl)]
 ·rintro rfl ρ k0
  rw [P.bda]
  unfold P.bbd P.b2x P.bvy P.b7u
  refine tu (fun i => ((n : Int), c, 128 :: List.replicate i 0, kd, words, tail, size)) z rfl (fun i hi next hn' => ?_) (fun next => ?_) (by omega)
  ·simp only [P.aty]
   have := h1 i hi
   rw [hc i (by omega), tmN, hd, dn (by omega), gu (by omega), bg (by rw [hlen]; omega), hs]
   exact hn'
  ·simp only [P.aty]
   rw [hc z (by omega), tmN, hd, dn (by omega), h2, cu (by rfl)]
theorem bje (n : Nat) (hn : n = 64 ∨ n = 128) (words : List Int) (hw : In 18446744073709551616 words) (a : Int) (b : List Int) (c : Int) {ρ : Type} (k0 : Int → Int → List Int → Int → List Int → List Int → Int → Option ρ) :
    P.al1 (n : Int) 0 [] a words b c k0 = k0 (n : Int) 8 (bhp (n / 16) words 8) a words b c := by
 rw [P.az9]
 unfold P.axq P.b2i P.bvf P.b4j
 have e16 : IntKind.i64.wrap ((n : Int).tdiv 16) = ((n / 16 : Nat) : Int) := by rcases hn with rfl | rfl <;> rfl
 refine tu (fun i => ((n : Int), (i : Int), bhp (n / 16) words i, a, words, b, c)) 8 rfl (fun i hi next hn' => ?_) (fun next => ?_) (by omega)
 ·simp only [P.aqr, toNat_cast]
  have h1 := hw.getD i (by omega)
  have e4 : IntKind.i64.wrap ((i : Int) + 1) = ((i + 1 : Nat) : Int) := by rw [ni (by omega) (by omega)]; omega
  have e5 : words.getD i 0 = (((words.getD i 0).toNat : Nat) : Int) := by omega
  rw [asc] at hn'
  rw [bg (by omega), bg (by omega), bg (by omega), e16, e5, w9 _ _ (by omega) (by omega), e4]
  rw [bg (by rw [ajo, List.length_reverse, abb]; rcases hn with rfl | rfl <;> omega)]
  exact hn'
 ·simp only [P.aqr]
  rw [dn (by omega)]
  rfl
theorem bjc (kind : Int) (words tail : List Int) (size : Nat) {ρ : Type} (k : List Int → Option ρ) :
    (br (kind == (2 : Int)) (br (decide ((48 : Int) ≤ ((bhp (bsz kind / 16) (asl kind words (tail ++ pad kind tail.length size)) 8).length : Int))) (k (List.take ((48 : Int) - (0 : Int)).toNat (bhp (bsz kind / 16) (asl kind words (tail ++ pad kind tail.length size)) 8))) none)
     (k (bhp (bsz kind / 16) (asl kind words (tail ++ pad kind tail.length size)) 8))) = k (bl1 kind words tail size) := by
 unfold bl1
 simp only
 by_cases h2 : kind = 2
 ·have e : bsz kind = 128 := by unfold bsz; rw [if_neg (by omega)]
  rw [fq h2, bg (by rw [ajo, e]; omega), if_pos h2]
  rfl
 ·rw [fu h2, if_neg h2]
theorem aja (kind : Int) (words tail : List Int) (size : Nat) (hw : Wok kind words) (ht : In 256 tail) (hn : tail.length < bsz kind) (hs : size < 2305843009213693952) {ρ : Type} (k : List Int → Option ρ) :
    P.aja kind words tail (size : Int) k = k (bl1 kind words tail size) := by
 rw [P.ba5]; unfold P.aqn
 have h8 : IntKind.u64.wrap ((size : Int) * 8) = ((size * 8 % 2 ^ 64 : Nat) : Int) := by rw [bnc]; omega
 have hpl := bme kind tail.length size
 have hz2 := bm4 kind tail.length
 rw [zq, h8]
 rcases ajt kind with ⟨h, e⟩ | ⟨h, e⟩
 ·rw [e] at hn ⊢
  have hp := (pads 64 (.inl rfl) tail.length (by omega) (blf kind tail.length) 56 (by omega) (fun i hi => by unfold blf at hi; rw [if_pos h] at hi; omega) (by unfold blf; rw [if_pos h]; omega) hz2 ((size * 8 % 2 ^ 64 : Nat) : Int) kind words tail (size : Int) rfl 8 rfl).1
  rw [hp rfl, fu (by decide), show (8 : Int) = ((8 : Nat) : Int) from rfl, w9 _ 8 (by omega) (by omega), bg (by simp; omega)]
  have hpad : (128 : Int) :: List.replicate (blf kind tail.length) 0 ++ (bsw 8 8 (size * 8 % 2 ^ 64)).reverse = pad kind tail.length size := rfl
  rw [hpad, ade kind words tail _ _ hw ht (bnf _ _ _) (by omega), bje _ (.inl rfl) _ (at5 _ _ _).2.1]
  have := bjc kind words tail size k
  rw [e] at this
  exact this
 ·rw [e] at hn ⊢
  have hp1 := (pads 128 (.inr rfl) tail.length (by omega) ((247 - tail.length) % 128) 120 (by omega) (fun i hi => by omega) (by omega) (by omega) ((size * 8 % 2 ^ 64 : Nat) : Int) kind words tail (size : Int) rfl 8 rfl).1
  have hp2 := (pads 128 (.inr rfl) tail.length (by omega) ((239 - tail.length) % 128) 112 (by omega) (fun i hi => by omega) (by omega) (by omega) ((size * 8 % 2 ^ 64 : Nat) : Int) kind words tail (size : Int) rfl 16 rfl).2
  have h61 : ((size : Nat) : Int).fdiv ((2 : Int) ^ 61) = ((0 : Nat) : Int) := by
   have := fdiv_pow size 61 61 (by omega)
   rw [Nat.div_eq_of_lt (by omega)] at this
   exact this
  rw [hp1 rfl, fq (by rfl), hp2 rfl, h61, show (8 : Int) = ((8 : Nat) : Int) from rfl, w9 _ 8 (by omega) (by omega), bg (by simp; omega), w9 _ 8 (by omega) (by omega), bg (by simp; omega)]
  have hpad : (128 : Int) :: List.replicate ((239 - tail.length) % 128) 0 ++ (bsw 8 8 0).reverse ++ (bsw 8 8 (size * 8 % 2 ^ 64)).reverse = pad kind tail.length size := by
   unfold pad blf
   rw [if_neg h, ← List.replicate_append_replicate]
   rfl
  rw [hpad, ade kind words tail _ _ hw ht (bnf _ _ _) (by omega), bje _ (.inr rfl) _ (at5 _ _ _).2.1]
  have := bjc kind words tail size k
  rw [e] at this
  exact this
def bf3 (kind : Int) : List Int :=
 if kind = 1 then [1779033703, 3144134277, 1013904242, 2773480762, 1359893119, 2600822924, 528734635, 1541459225]
 else if kind = 2 then [14680500436340154072, 7105036623409894663, 10473403895298186519, 1526699215303891257, 7436329637833083697, 10282925794625328401, 15784041429090275239, 5167115440072839076]
 else [7640891576956012808, 13503953896175478587, 4354685564936845355, 11912009170470909681, 5840696475078001361, 11170449401992604703, 2270897969802886507, 6620516959819538809]
theorem bo3 (kind : Int) : Wok kind (bf3 kind) := by
 unfold bf3 Wok
 by_cases h1 : kind = 1
 ·simp only [if_pos h1]
  refine ⟨rfl, ?_, fun _ => ?_⟩
  ·unfold In; decide
  ·unfold In; decide
 ·by_cases h2 : kind = 2
  ·simp only [if_neg h1, if_pos h2]
   refine ⟨rfl, ?_, fun h => absurd h h1⟩
   unfold In; decide
  ·simp only [if_neg h1, if_neg h2]
   refine ⟨rfl, ?_, fun h => absurd h h1⟩
   unfold In; decide
def K3 (kind : Int) : Prop := kind = 1 ∨ kind = 2 ∨ kind = 3
theorem bi0 {kind : Int} (h : K3 kind) {ρ : Type} (k : List Int → Bool → Option ρ) : P.afh kind k = k (bf3 kind) true := by
 rw [P.avh]
 rcases h with rfl | rfl | rfl <;> kernel_rfl
theorem aiv {kind : Int} (h : K3 kind) {ρ : Type} (k : Int → List Int → List Int → Int → Int → Option ρ) : P.aiv kind k = k kind (bf3 kind) [] 0 0 := by
 rw [P.bbm]; unfold P.aql
 rw [bi0 h, jh, oh]
theorem aix {kind : Int} (h : K3 kind) {ρ : Type} (k : Int → List Int → List Int → Int → Int → Option ρ) : P.aix kind k = k kind (bf3 kind) [] 0 0 := by
 rw [P.bbu]; unfold P.arh bf3
 rcases h with rfl | rfl | rfl
 ·rw [fq (by rfl)]; rfl
 ·rw [fu (by decide), fq (by rfl)]; rfl
 ·rw [fu (by decide), fu (by decide), fq (by rfl)]; rfl
theorem auq (kind : Int) : 0 < bsz kind := by rcases ajt kind with ⟨h, e⟩ | ⟨h, e⟩ <;> omega
def bq4 (kind : Int) (b : List Int) : List Int := bl1 kind (asl kind (bf3 kind) b) (rest (bsz kind) b) b.length
theorem bjh (b : List Int) (hn : b.length ≤ 1000000) : IntKind.u64.wrap ((0 : Int) + IntKind.u64.wrap (b.length : Int)) = ((b.length : Nat) : Int) := by
 rw [afr _ (by omega), Int.zero_add, afr _ (by omega)]
theorem afl {kind : Int} (h : K3 kind) (b : List Int) (hb : In 256 b) (hn : b.length ≤ 1000000) {ρ : Type} (k : List Int → Int → Option ρ) : P.afl kind b k = k (bq4 kind b) 0 := by
 rw [P.bbv]; unfold P.aq8
 have hw := bo3 kind
 have hr := bcy _ (auq kind) b
 have hlt := Nat.mod_lt b.length (auq kind)
 rw [aix h, cu (by rfl), ade kind _ [] _ b hw In.nil hb (by simpa using hn), List.nil_append, bjh b hn, aja kind _ _ _ (at5 _ _ _) (bow hb) (by omega) (by omega)]
 rfl
theorem btp (kind : Int) (b : List Int) : In 256 (bq4 kind b) := btw _ _ _ _
theorem bp9 (kind : Int) (b : List Int) : (bq4 kind b).length = if kind = 1 then 32 else if kind = 2 then 48 else 64 := bqy _ _ _ _
end Q
end



section
/- SHA-2: which sums can be, which are the same; the examples. -/
namespace Q
open Go Go.Abs
set_option linter.unusedVariables false
set_option linter.unusedSimpArgs false
theorem first (p : Nat → Bool) : ∀ n, ∃ m, m ≤ n ∧ (∀ i, i < m → p i = true) ∧ (m = n ∨ (m < n ∧ p m = false))
 | 0 => ⟨0, by omega, by omega, .inl rfl⟩
 | n + 1 => by
  obtain ⟨m, h1, h2, h3⟩ := first p n
  rcases h3 with h3 | ⟨h3, h4⟩
  ·subst h3
   cases hp : p m with
   | true => exact ⟨m + 1, by omega, fun i hi => by
       by_cases e : i = m
       ·rw [e]; exact hp
       ·exact h2 i (by omega), .inl rfl⟩
   | false => exact ⟨m, by omega, h2, .inr ⟨by omega, hp⟩⟩
  ·exact ⟨m, by omega, h2, .inr ⟨by omega, h4⟩⟩
end Q
end























section
/- mac: digests, with keys and without. -/
namespace Q
open QK
open Go Go.Abs
set_option linter.unusedVariables false
set_option linter.unusedSimpArgs false
def K7 (kd : Int) : Prop := kd = 1 ∨ kd = 2 ∨ kd = 3 ∨ kd = 4 ∨ kd = 5 ∨ kd = 6 ∨ kd = 7
theorem K7.of {kd : Int} (h : 1 ≤ kd ∧ kd ≤ 7) : K7 kd := by unfold K7; omega
theorem bvd {α : Type} (a b : List α) (x y : α) (i : Nat) (h : a.length = i) : (a ++ x :: b).set i y = a ++ y :: b := by
 subst h
 rw [List.set_append_right _ _ (Nat.le_refl _), Nat.sub_self]
 rfl
def bk (kd : Int) : Nat := if kd ≤ 3 then bsz kd else rOf kd
end Q
end







section
/- mac: bytes of keys and of seeds. -/
namespace Q
open QK
open Go Go.Abs
set_option linter.unusedVariables false
set_option linter.unusedSimpArgs false
def cat (T : Nat → List Int) : Nat → List Int
 | 0 => []
 | j + 1 => cat T j ++ T j
theorem aie {T : Nat → List Int} {d : Nat} (h : ∀ i, (T i).length = d) : ∀ j, (cat T j).length = j * d
 | 0 => by simp [cat]
 | j + 1 => by rw [cat, List.length_append, aie h j, h, Nat.succ_mul]
theorem ayf {T : Nat → List Int} (h : ∀ i, In 256 (T i)) : ∀ j, In 256 (cat T j)
 | 0 => In.nil
 | j + 1 => (ayf h j).app (h j)
end Q
end

section
/- SHA-2: bytes that are added one behind the other. -/
namespace Q
open Go Go.Abs
set_option linter.unusedVariables false
set_option linter.unusedSimpArgs false
theorem bbz {w : Nat} (p : Par w) (v : List (BitVec w)) (a b : List Int) (m : Nat) (hm : (2 * w) * m = a.length) : ∀ i, thr p v (a ++ b) (m + i) = thr p (thr p v a m) b i ∧ thr p v (a ++ b) m = thr p v a m := by
 have key : ∀ i, i ≤ m → thr p v (a ++ b) i = thr p v a i := by
  intro i
  induction i with
  | zero => intro _; rfl
  | succ i ih =>
   intro hi
   have h1 : (2 * w) * i + 2 * w ≤ a.length := by
    rw [← hm, ← Nat.mul_succ]
    exact Nat.mul_le_mul (Nat.le_refl _) hi
   simp only [thr]
   rw [ih (by omega), List.drop_append_of_le_length (by omega), List.take_append_of_le_length (by rw [List.length_drop]; omega)]
 intro i
 refine ⟨?_, key m (Nat.le_refl _)⟩
 induction i with
 | zero => exact key m (Nat.le_refl _)
 | succ i ih =>
  rw [← Nat.add_assoc]
  simp only [thr]
  rw [ih, Nat.mul_add, hm, List.drop_append, List.drop_eq_nil_of_le (by omega), List.nil_append, Nat.add_sub_cancel_left]
end Q
end

section
/- lmots: the digits as the program and as the document count them. -/
namespace Q
open Go Go.Abs
set_option linter.unusedVariables false
set_option linter.unusedSimpArgs false
theorem bix {w : Nat} {b : List Int} (hb : In (2 ^ w) b) (t : Nat) : ∃ x : Nat, b.getD t 0 = (x : Int) ∧ x < 2 ^ w := by
 have hp : ((2 : Int) ^ w) = ((2 ^ w : Nat) : Int) := by simp
 have := hb.getD t (by rw [hp]; have := p2 w; omega)
 rw [hp] at this
 exact ⟨(b.getD t 0).toNat, by omega, by omega⟩
end Q
end



section
/- wots: the digits of a text. -/
namespace Q
open Go Go.Abs
set_option linter.unusedVariables false
set_option linter.unusedSimpArgs false
def N3 (n : Nat) : Prop := n = 16 ∨ n = 24 ∨ n = 32
def wl (n : Nat) (x : List Int) : Nat := 15 * (2 * n) - sumTo (uj x 4 ((2 * n : Nat) : Int)) (2 * n)
def wd (n : Nat) (x : List Int) : List Int := uj x 4 ((2 * n : Nat) : Int) ++ [((wl n x / 2 ^ 8 : Nat) : Int), ((wl n x / 2 ^ 4 % 2 ^ 4 : Nat) : Int), ((wl n x % 2 ^ 4 : Nat) : Int)]
theorem ant (n : Nat) (x : List Int) (hl : x.length = n) : (uj x 4 ((2 * n : Nat) : Int)).length = 2 * n := by
 rw [show (4 : Int) = ((4 : Nat) : Int) from rfl, bby x 4 (2 * n) (by omega) (by omega) (by omega)]; simp
theorem blz (n : Nat) (x : List Int) : In (2 ^ 4) (uj x 4 ((2 * n : Nat) : Int)) := bnl x 4 _
theorem bkp (n : Nat) (x : List Int) (hl : x.length = n) : (wd n x).length = 2 * n + 3 := by
 unfold wd; rw [List.length_append, ant n x hl]; rfl
theorem bua {n : Nat} (h : N3 n) (x : List Int) : wl n x < 961 := by
 unfold wl; rcases h with rfl | rfl | rfl <;> omega
theorem bud {n : Nat} (hn : N3 n) (x : List Int) (hl : x.length = n) {ρ : Type} (k0 : Int → Int → Int → List Int → Option ρ) :
    P.ab2 ((15 * (2 * n) : Nat) : Int) ((2 * n : Nat) : Int) 0 (uj x 4 ((2 * n : Nat) : Int)) k0 = k0 ((wl n x : Nat) : Int) ((2 * n : Nat) : Int) ((2 * n : Nat) : Int) (uj x 4 ((2 * n : Nat) : Int)) := by
 have hn2 : n ≤ 32 := by rcases hn with rfl | rfl | rfl <;> omega
 have hlen := ant n x hl
 rw [P.atz]
 unfold P.apu P.b1l P.bzw P.b5j
 refine tu (fun i => (((15 * (2 * n) - sumTo (uj x 4 ((2 * n : Nat) : Int)) i : Nat) : Int), ((2 * n : Nat) : Int), (i : Int), uj x 4 ((2 * n : Nat) : Int))) (2 * n) (by simp [sumTo]) (fun i hi next hn' => ?_) (fun next => ?_) (by omega)
 ·obtain ⟨d, hd, hd2⟩ := bix (w := 4) (blz n x) i
  have hle := sumTo_le (uj x 4 ((2 * n : Nat) : Int)) 4 (blz n x) (i + 1)
  simp only [sumTo, hd, Int.toNat_natCast] at hn' hle
  simp only [P.aj4, toNat_cast]
  rw [hd, show ((15 * (2 * n) - sumTo (uj x 4 ((2 * n : Nat) : Int)) i : Nat) : Int) - (d : Int) = ((15 * (2 * n) - (sumTo (uj x 4 ((2 * n : Nat) : Int)) i + d) : Nat) : Int) by omega, bom _ (by omega)]
  simp (disch := omega) only [bg, dn, gu, cu, fq, fu, jh, oh, qm, ni, hlen]
  exact hn'
 ·simp only [P.aj4]
  rw [dn (by omega)]
  rfl
theorem bv0 (a : Nat) (h : a < 4294967296) : bits .and .u32 (a : Int) 15 = ((a % 2 ^ 4 : Nat) : Int) := by
 rw [show (15 : Int) = ((2 ^ 4 - 1 : Nat) : Int) from rfl, bty _ _ h (by omega), Nat.and_two_pow_sub_one_eq_mod]
theorem bmr {n : Nat} (hn : N3 n) (x : List Int) (hx : In 256 x) (hl : x.length = n) {ρ : Type} (k : List Int → Option ρ) :
    (P.vw x (4 : Int) (IntKind.i64.wrap ((2 : Int) * ((n : Nat) : Int))) fun (q0 : List Int) =>
            P.ab2 (IntKind.u32.wrap (IntKind.i64.wrap ((15 : Int) * (↑q0.length : Int)))) (↑q0.length : Int)
             (0 : Int) q0 fun (q1 q2 q3 : Int) (q4 : List Int) =>
             br
              (decide
               ((q4.length +
                     ([bits BinOp.and IntKind.u32 (q1.fdiv ((2 : Int) ^ 4)) (15 : Int),
                               bits BinOp.and IntKind.u32 q1 (15 : Int)].length.add
                         0).succ) *
                   4 ≤
                140737488355328))
              (k
               (q4 ++
                [q1.fdiv ((2 : Int) ^ 8),
                 bits BinOp.and IntKind.u32 (q1.fdiv ((2 : Int) ^ 4)) (15 : Int),
                 bits BinOp.and IntKind.u32 q1 (15 : Int)]))
              none) = k (wd n x) := by
 have hn2 : n ≤ 32 := by rcases hn with rfl | rfl | rfl <;> omega
 have hlen := ant n x hl
 have hlt := bua hn x
 rw [ni (by omega) (by omega), show (2 : Int) * (n : Int) = ((2 * n : Nat) : Int) by omega, vw _ _ _ hx (by omega), hlen, ni (x := (15 : Int) * ((2 * n : Nat) : Int)) (by omega) (by omega), show (15 : Int) * ((2 * n : Nat) : Int) = ((15 * (2 * n) : Nat) : Int) by omega, bom _ (by omega), bud hn x hl, hlen]
 have e8 : ((wl n x : Nat) : Int).fdiv ((2 : Int) ^ 8) = ((wl n x / 2 ^ 8 : Nat) : Int) := fdiv_pow _ 8 8 (by omega)
 have e4 : ((wl n x : Nat) : Int).fdiv ((2 : Int) ^ 4) = ((wl n x / 2 ^ 4 : Nat) : Int) := fdiv_pow _ 4 4 (by omega)
 have hd := Nat.div_le_self (wl n x) (2 ^ 4)
 rw [e8, e4, bv0 _ (by omega), bv0 _ (by omega), bg (by show (2 * n + 3) * 4 ≤ _; omega)]
 rfl
theorem ug {n : Nat} (hn : N3 n) (x : List Int) (hx : In 256 x) (hl : x.length = n) {ρ : Type} (k : List Int → Option ρ) : P.ug (n : Int) x k = k (wd n x) := by
 rw [P.apr]
 unfold P.aia
 have ht := bmr hn x hx hl k
 rcases hn with rfl | rfl | rfl
 ·rw [cu (by rfl), cu (by rw [hl])]
  exact ht
 ·rw [gu (by decide), cu (by rfl), cu (by rw [hl])]
  exact ht
 ·rw [gu (by decide), gu (by decide), cu (by rfl), cu (by rw [hl])]
  exact ht
end Q
end



section
/- wots: kinds, places, digits, by the program and by the document. -/
namespace Q
open QK
open Go Go.Abs
set_option linter.unusedVariables false
set_option linter.unusedSimpArgs false
def adz (N H D A K : Int) : Prop := (N = 16 ∨ N = 24 ∨ N = 32) ∧ 1 ≤ D ∧ H ≤ 68 ∧ D ≤ H ∧ H.tmod D = 0 ∧ IntKind.i64.wrap (H.tdiv D) ≤ 9 ∧ 1 ≤ A ∧ A ≤ 14 ∧ 1 ≤ K ∧ K ≤ 40
instance (N H D A K : Int) : Decidable (adz N H D A K) := by unfold adz; infer_instance
theorem bej (N H D A K : Int) (hN : N = 16 ∨ N = 24 ∨ N = 32) {ρ : Type} (k : Bool → Option ρ) :
    (br (decide (D < (1 : Int))) (k false) (br (decide (H < D)) (k false) (br (decide (H > (68 : Int))) (k false)
     (br (decide (D = (0 : Int))) none (br (H.tmod D != (0 : Int)) (k false) (br (decide (D = (0 : Int))) none
      (br (decide (IntKind.i64.wrap (H.tdiv D) > (9 : Int))) (k false) (br (decide (A ≥ (1 : Int)))
       (br (decide (A ≤ (14 : Int))) (br (decide (K ≥ (1 : Int))) (k (decide (K ≤ (40 : Int)))) (k false)) (k false)) (k false))))))))) = k (decide (adz N H D A K)) := by
 by_cases h1 : D < 1
 ·rw [bg h1, decide_eq_false (by unfold adz; omega)]
 rw [dn h1]
 by_cases h2 : H < D
 ·rw [bg h2, decide_eq_false (by unfold adz; omega)]
 rw [dn h2]
 by_cases h3 : H > 68
 ·rw [bg h3, decide_eq_false (by unfold adz; omega)]
 rw [dn h3, dn (by omega)]
 by_cases h4 : H.tmod D = 0
 ·rw [cu h4, dn (by omega)]
  by_cases h5 : IntKind.i64.wrap (H.tdiv D) > 9
  ·rw [bg h5, decide_eq_false (by unfold adz; omega)]
  rw [dn h5]
  by_cases h6 : A ≥ 1
  ·rw [bg h6]
   by_cases h7 : A ≤ 14
   ·rw [bg h7]
    by_cases h8 : K ≥ 1
    ·rw [bg h8]
     congr 1
     apply decide_eq_decide.2
     unfold adz
     omega
    ·rw [dn h8, decide_eq_false (by unfold adz; omega)]
   ·rw [dn h7, decide_eq_false (by unfold adz; omega)]
  ·rw [dn h6, decide_eq_false (by unfold adz; omega)]
 ·rw [gu h4, decide_eq_false (by unfold adz; omega)]
theorem yw (N H D A K : Int) (z : Bool) {ρ : Type} (k : Bool → Option ρ) : P.yw N H D A K z k = k (decide (adz N H D A K)) := by
 rw [P.ay7]; unfold P.ane
 by_cases h1 : N = 16
 ·rw [cu h1]; exact bej N H D A K (.inl h1) k
 rw [gu h1]
 by_cases h2 : N = 24
 ·rw [cu h2]; exact bej N H D A K (.inr (.inl h2)) k
 rw [gu h2]
 by_cases h3 : N = 32
 ·rw [cu h3]; exact bej N H D A K (.inr (.inr h3)) k
 rw [gu h3, decide_eq_false (by unfold adz; omega)]
theorem axv (N H D A K : Int) (hN : N = 16 ∨ N = 24 ∨ N = 32) {ρ : Type} (k : Bool → Option ρ) :
    (br (decide (D ≥ (1 : Int))) (br (decide (H ≤ (68 : Int))) (br (decide (H ≥ D)) (br (decide (D = (0 : Int))) none
       (br (H.tmod D == (0 : Int)) (br (decide (D = (0 : Int))) none (br (decide (IntKind.i64.wrap (H.tdiv D) ≤ (9 : Int)))
          (br (decide (A ≥ (1 : Int))) (br (decide (A ≤ (14 : Int))) (br (decide (K ≥ (1 : Int))) (k (decide (K ≤ (40 : Int)))) (k false)) (k false))
          (k false)) (k false))) (k false))) (k false)) (k false)) (k false)) = k (decide (adz N H D A K)) := by
 by_cases h1 : D ≥ 1
 ·rw [bg h1]
  by_cases h3 : H ≤ 68
  ·rw [bg h3]
   by_cases h2 : H ≥ D
   ·rw [bg h2, dn (by omega)]
    by_cases h4 : H.tmod D = 0
    ·rw [fq h4, dn (by omega)]
     by_cases h5 : IntKind.i64.wrap (H.tdiv D) ≤ 9
     ·rw [bg h5]
      by_cases h6 : A ≥ 1
      ·rw [bg h6]
       by_cases h7 : A ≤ 14
       ·rw [bg h7]
        by_cases h8 : K ≥ 1
        ·rw [bg h8]
         congr 1
         apply decide_eq_decide.2
         unfold adz
         omega
        ·rw [dn h8, decide_eq_false (by unfold adz; omega)]
       ·rw [dn h7, decide_eq_false (by unfold adz; omega)]
      ·rw [dn h6, decide_eq_false (by unfold adz; omega)]
     ·rw [dn h5, decide_eq_false (by unfold adz; omega)]
    ·rw [fu h4, decide_eq_false (by unfold adz; omega)]
   ·rw [dn h2, decide_eq_false (by unfold adz; omega)]
  ·rw [dn h3, decide_eq_false (by unfold adz; omega)]
 ·rw [dn h1, decide_eq_false (by unfold adz; omega)]
theorem p8 (N H D A K : Int) (z : Bool) {ρ : Type} (k : Bool → Option ρ) : P.p8 N H D A K z k = k (decide (adz N H D A K)) := by
 rw [P.bbk]; unfold P.aro
 by_cases h1 : N = 16
 ·rw [cu h1]; exact axv N H D A K (.inl h1) k
 rw [gu h1]
 by_cases h2 : N = 24
 ·rw [cu h2]; exact axv N H D A K (.inr (.inl h2)) k
 rw [gu h2]
 by_cases h3 : N = 32
 ·rw [cu h3]; exact axv N H D A K (.inr (.inr h3)) k
 rw [gu h3, decide_eq_false (by unfold adz; omega)]
def bg4 (a : List Int) (i : Nat) (b : List Int) : List Int := a.take i ++ b ++ a.drop (i + b.length)
theorem att (a : List Int) (i : Nat) (b : List Int) (h : i + b.length ≤ a.length) : (bg4 a i b).length = a.length := by
 unfold bg4; simp; omega
theorem bei {a : List Int} {i : Nat} {b : List Int} (ha : In 256 a) (hb : In 256 b) : In 256 (bg4 a i b) := ((ha.take i).app hb).app (ha.drop _)
def be4 (n v : Nat) : List Int := (bsw 8 n v).reverse
theorem aek (n v : Nat) : (be4 n v).length = n := by simp [be4]
theorem bi9 (n v : Nat) : In 256 (be4 n v) := (bi7 8 n v).rev
def ao6 (a : List Int) (part : Int) (v : Nat) : List Int :=
 if part = 0 then bg4 a 0 (be4 4 v) else if part = 1 then bg4 a 4 (be4 12 v) else if part = 2 then bg4 a 16 (be4 4 v ++ List.replicate 12 0)
 else if part = 3 ∨ part = 4 ∨ part = 5 then bg4 a (8 + 4 * part.toNat) (be4 4 v) else a
theorem jr {a : List Int} (h : a.length = 32) (part : Int) (v : Nat) : (ao6 a part v).length = 32 := by
 unfold ao6
 have h4 := aek 4 v
 have h12 := aek 12 v
 split
 ·rw [att _ _ _ (by omega), h]
 split
 ·rw [att _ _ _ (by omega), h]
 split
 ·rw [att _ _ _ (by rw [List.length_append, List.length_replicate]; omega), h]
 split
 ·rw [att _ _ _ (by omega), h]
 exact h
theorem wh {a : List Int} (h : In 256 a) (part : Int) (v : Nat) : In 256 (ao6 a part v) := by
 unfold ao6
 split
 ·exact bei h (bi9 _ _)
 split
 ·exact bei h (bi9 _ _)
 split
 ·exact bei h ((bi9 _ _).app (fun x hx => by rw [List.mem_replicate] at hx; omega))
 split
 ·exact bei h (bi9 _ _)
 exact h
theorem cpy (a : List Int) (i m : Nat) (b : List Int) (hb : b.length ≤ m) : (a.take i).append (b.take m ++ a.drop (i + min m b.length)) = bg4 a i b := by
 rw [List.take_of_length_le hb, Nat.min_eq_right hb]
 show a.take i ++ (b ++ _) = _
 rw [← List.append_assoc]
 rfl
theorem ig {a : List Int} (h : a.length = 32) (part : Int) (v : Nat) (hv : v < 18446744073709551616) {ρ : Type} (k : List Int → Option ρ) : P.ig a part (v : Int) k = k (ao6 a part v) := by
 rw [P.azx]; unfold P.aon ao6
 have h4 : (bsw 8 4 v).reverse.length = 4 := by simp
 have h12 : (bsw 8 12 v).reverse.length = 12 := by simp
 have be : ∀ (k' : List Int → Option ρ), P.yg (v : Int) 4 k' = k' (be4 4 v) := fun k' => yg v 4 hv (by omega) k'
 have be' : ∀ (k' : List Int → Option ρ), P.yg (v : Int) 12 k' = k' (be4 12 v) := fun k' => yg v 12 hv (by omega) k'
 by_cases h0 : part = 0
 ·rw [fq h0, if_pos h0, be]
  exact congrArg k (by rw [← cpy a 0 4 (be4 4 v) (by rw [aek]; omega)]; rfl)
 rw [fu h0, if_neg h0]
 by_cases h1 : part = 1
 ·rw [fq h1, if_pos h1, be']
  exact congrArg k (cpy a 4 12 _ (by rw [aek]; omega))
 rw [fu h1, if_neg h1]
 by_cases h2 : part = 2
 ·have e : [be4 4 v, List.replicate 12 (0 : Int)].flatten = be4 4 v ++ List.replicate 12 0 := by simp
  rw [fq h2, if_pos h2, be, l5 _ (by simp) (by rw [e]; simp [aek]), e]
  exact congrArg k (cpy a 16 16 _ (by rw [List.length_append, aek, List.length_replicate]; omega))
 rw [fu h2, if_neg h2]
 have fin : ∀ (p : Nat), part = (p : Int) → 3 ≤ p → p ≤ 5 → (br (decide ((0 : Int) ≤ IntKind.i64.wrap ((8 : Int) + IntKind.i64.wrap ((4 : Int) * part))))
     (br (decide (IntKind.i64.wrap ((8 : Int) + IntKind.i64.wrap ((4 : Int) * part)) ≤ ((32 : Nat) : Int)))
      (P.yg (v : Int) (4 : Int) fun (q4 : List Int) =>
       k ((List.take (IntKind.i64.wrap ((8 : Int) + IntKind.i64.wrap ((4 : Int) * part))).toNat a).append
        (List.take (((32 : Nat) : Int) - IntKind.i64.wrap ((8 : Int) + IntKind.i64.wrap ((4 : Int) * part))).toNat q4 ++
         List.drop ((IntKind.i64.wrap ((8 : Int) + IntKind.i64.wrap ((4 : Int) * part))).toNat +
          min (((32 : Nat) : Int) - IntKind.i64.wrap ((8 : Int) + IntKind.i64.wrap ((4 : Int) * part))).toNat q4.length) a))) none) none) = k (bg4 a (8 + 4 * part.toNat) (be4 4 v)) := by
  intro p hp h3 h5
  subst hp
  have e : IntKind.i64.wrap ((8 : Int) + IntKind.i64.wrap ((4 : Int) * (p : Int))) = ((8 + 4 * p : Nat) : Int) := by
   rw [ni (x := 4 * (p : Int)) (by omega) (by omega), ni (by omega) (by omega)]; omega
  rw [e, bg (by omega), bg (by omega), be, show (((32 : Nat) : Int) - ((8 + 4 * p : Nat) : Int)).toNat = 24 - 4 * p by omega, toNat_cast, toNat_cast]
  exact congrArg k (cpy a _ _ _ (by rw [aek]; omega))
 by_cases h3 : part = 3
 ·rw [fq h3, fq h3, if_pos (.inl h3)]
  exact fin 3 h3 (by omega) (by omega)
 rw [fu h3]
 by_cases h4' : part = 4
 ·rw [fq h4', fq h4', if_pos (.inr (.inl h4'))]
  exact fin 4 h4' (by omega) (by omega)
 rw [fu h4']
 by_cases h5 : part = 5
 ·rw [fq h5, if_pos (.inr (.inr h5))]
  exact fin 5 h5 (by omega) (by omega)
 rw [fu h5, if_neg (by omega)]
theorem aap {a : List Int} (h : a.length = 32) (i : Nat) (b : List Int) (hb : i + b.length ≤ 32) {ρ : Type} (k : List Int → Option ρ) : P.aap a (i : Int) b k = k (bg4 a i b) := by
 rw [P.bb9]; unfold P.aqx
 rw [P.bd5]; unfold P.bct P.b1d P.bys P.cbe
 refine tu (fun j => ((i : Int), b, (j : Int), bg4 a i (b.take j), ([0, 0, 0, 0, 0, 0, 0, 0, 0, 0, 0, 0, 0, 0, 0, 0, 0, 0, 0, 0, 0, 0, 0, 0, 0, 0, 0, 0, 0, 0, 0, 0] : List Int))) b.length (by simp [bg4]) (fun j hj next hn => ?_) (fun next => ?_) (by omega)
 ·have e1 : (bg4 a i (b.take j)).set (i + j) (b.getD j 0) = bg4 a i (b.take (j + 1)) := by
    unfold bg4
    rw [List.length_take, List.length_take, Nat.min_eq_left (by omega), Nat.min_eq_left (by omega), afn a 0 (i + j) (by omega), bvd _ _ _ _ (i + j) (by simp; omega), List.take_succ_eq_append_getElem hj, getD_lt hj]
    simp only [Nat.add_assoc, List.append_assoc, List.singleton_append, List.length_append, List.length_singleton]
    done
  simp only [P.auk, toNat_cast]
  rw [bg (by omega), bg (by omega), bg (by omega), ni (x := (i : Int) + (j : Int)) (by omega) (by omega), bg (by omega), bg (by omega), ni (by omega) (by omega), show ((i : Int) + (j : Int)).toNat = i + j by omega, e1]
  exact hn
 ·simp only [P.auk]
  rw [dn (by omega), List.take_length]
theorem ji {a : List Int} (h : a.length = 32) (part : Int) (v : Nat) (hv : v < 18446744073709551616) {ρ : Type} (k : List Int → Option ρ) : P.ji a part (v : Int) k = k (ao6 a part v) := by
 rw [P.bbq]; unfold P.ari ao6
 have be : ∀ (k' : List Int → Option ρ), P.w9 (v : Int) 4 k' = k' (be4 4 v) := fun k' => w9 v 4 hv (by omega) k'
 have be' : ∀ (k' : List Int → Option ρ), P.w9 (v : Int) 12 k' = k' (be4 12 v) := fun k' => w9 v 12 hv (by omega) k'
 by_cases h0 : part = 0
 ·rw [fq h0, if_pos h0, be]
  exact aap h 0 _ (by rw [aek]; omega) _
 rw [fu h0, if_neg h0]
 by_cases h1 : part = 1
 ·rw [fq h1, if_pos h1, be']
  exact aap h 4 _ (by rw [aek]; omega) _
 rw [fu h1, if_neg h1]
 by_cases h2 : part = 2
 ·have hl := att a 16 (be4 4 v) (by rw [aek]; omega)
  rw [fq h2, if_pos h2, be]
  refine (aap h 16 _ (by rw [aek]; omega) _).trans ((aap (by rw [hl, h]) 20 _ (by simp) _).trans (congrArg k ?_))
  unfold bg4
  have e1 : (a.take 16 ++ be4 4 v).length = 20 := by rw [List.length_append, List.length_take, aek]; omega
  rw [aek, List.length_append, aek, List.length_replicate, List.take_append_of_le_length (by omega), List.take_of_length_le (by omega), List.drop_append, List.drop_eq_nil_of_le (by omega), e1, List.drop_drop, List.append_assoc (a.take 16)]
  rfl
 rw [fu h2, if_neg h2]
 have fin : ∀ (p : Nat), part = (p : Int) → 3 ≤ p → p ≤ 5 → (P.w9 (v : Int) (4 : Int) fun (q7 : List Int) => P.aap a (IntKind.i64.wrap ((8 : Int) + IntKind.i64.wrap ((4 : Int) * part))) q7 fun (q8 : List Int) => k q8) = k (bg4 a (8 + 4 * part.toNat) (be4 4 v)) := by
  intro p hp h3 h5
  subst hp
  have e : IntKind.i64.wrap ((8 : Int) + IntKind.i64.wrap ((4 : Int) * (p : Int))) = ((8 + 4 * p : Nat) : Int) := by
   rw [ni (x := 4 * (p : Int)) (by omega) (by omega), ni (by omega) (by omega)]; omega
  rw [e, be, aap h _ _ (by rw [aek]; omega), toNat_cast]
 by_cases h3 : part = 3
 ·rw [fq h3, fq h3, if_pos (.inl h3)]
  exact fin 3 h3 (by omega) (by omega)
 rw [fu h3]
 by_cases h4' : part = 4
 ·rw [fq h4', fq h4', if_pos (.inr (.inl h4'))]
  exact fin 4 h4' (by omega) (by omega)
 rw [fu h4']
 by_cases h5 : part = 5
 ·rw [fq h5, if_pos (.inr (.inr h5))]
  exact fin 5 h5 (by omega) (by omega)
 rw [fu h5, if_neg (by omega)]
theorem bxx {n : Nat} (hn : N3 n) (x : List Int) (hl : x.length = n) {ρ : Type} (k0 : Int → Int → List Int → Option ρ) :
    P.adv 0 0 (uj x 4 ((2 * n : Nat) : Int)) k0 = k0 ((wl n x : Nat) : Int) ((2 * n : Nat) : Int) (uj x 4 ((2 * n : Nat) : Int)) := by
 have hn2 : n ≤ 32 := by rcases hn with rfl | rfl | rfl <;> omega
 have hlen := ant n x hl
 rw [P.awy]
 unfold P.atu P.b1m P.b0h P.b3n
 refine tu (fun i => (((15 * i - sumTo (uj x 4 ((2 * n : Nat) : Int)) i : Nat) : Int), (i : Int), uj x 4 ((2 * n : Nat) : Int))) (2 * n) (by simp [sumTo]) (fun i hi next hn' => ?_) (fun next => ?_) (by omega)
 ·obtain ⟨d, hd, hd2⟩ := bix (w := 4) (blz n x) i
  have hle := sumTo_le (uj x 4 ((2 * n : Nat) : Int)) 4 (blz n x) i
  simp only [sumTo, hd, Int.toNat_natCast] at hn'
  simp only [P.alh, toNat_cast]
  rw [hd, bg (by omega), bg (by omega), bg (by omega), afr _ (by omega), ni (by omega) (by omega), show ((15 * i - sumTo (uj x 4 ((2 * n : Nat) : Int)) i : Nat) : Int) + (15 : Int) = ((15 * i - sumTo (uj x 4 ((2 * n : Nat) : Int)) i + 15 : Nat) : Int) by omega, afr _ (by omega),
   show ((15 * i - sumTo (uj x 4 ((2 * n : Nat) : Int)) i + 15 : Nat) : Int) - (d : Int) = ((15 * (i + 1) - (sumTo (uj x 4 ((2 * n : Nat) : Int)) i + d) : Nat) : Int) by omega, afr _ (by omega)]
  exact hn'
 ·simp only [P.alh]
  rw [dn (by omega)]
  rfl
theorem bns (s : Nat) (h : s < 961) : uj (bsw 8 2 (16 * s)).reverse 4 3 = [((s / 2 ^ 8 : Nat) : Int), ((s / 2 ^ 4 % 2 ^ 4 : Nat) : Int), ((s % 2 ^ 4 : Nat) : Int)] := by
 rw [show (4 : Int) = ((4 : Nat) : Int) from rfl, show (3 : Int) = ((3 : Nat) : Int) from rfl, bby _ 4 3 (by omega) (by omega) (by simp), List.reverse_reverse, bzt]
 simp only [List.length_reverse, abb, dg, List.range_succ, List.range_zero, List.nil_append, List.map_append, List.map_cons, List.map_nil, List.cons_append]
 refine congr (congrArg _ ?_) (congr (congrArg _ ?_) (congrArg (· :: []) ?_)) <;> omega
theorem bqp {n : Nat} (hn : N3 n) (x : List Int) (hx : In 256 x) (hl : x.length = n) {ρ : Type} (k : List Int → Option ρ) :
    (P.qo x (4 : Int) (IntKind.i64.wrap ((2 : Int) * (n : Int))) fun (q0 : List Int) =>
     P.adv (0 : Int) (0 : Int) q0 fun (q1 q2 : Int) (q3 : List Int) =>
      P.w9 (IntKind.u64.wrap ((16 : Int) * q1)) (2 : Int) fun (q4 : List Int) =>
       P.qo q4 (4 : Int) (3 : Int) fun (q5 : List Int) =>
        br (decide ((q3.length + q5.length) * 4 ≤ 140737488355328)) (k (q3 ++ q5)) none) = k (wd n x) := by
 have hn2 : n ≤ 32 := by rcases hn with rfl | rfl | rfl <;> omega
 have hlen := ant n x hl
 have hlt := bua hn x
 rw [ni (by omega) (by omega), show (2 : Int) * (n : Int) = ((2 * n : Nat) : Int) by omega, qo _ _ _ hx (by omega), bxx hn x hl, show (16 : Int) * ((wl n x : Nat) : Int) = ((16 * wl n x : Nat) : Int) by omega, afr _ (by omega), show (2 : Int) = ((2 : Nat) : Int) from rfl, w9 _ 2 (by omega) (by omega), qo _ _ _ (bi7 8 2 _).rev (by simp), bns _ hlt, bg (by rw [hlen]; simp only [List.length_cons, List.length_nil]; omega)]
 rfl
theorem xk {n : Nat} (hn : N3 n) (x : List Int) (hx : In 256 x) (hl : x.length = n) {ρ : Type} (k : List Int → Option ρ) : P.xk (n : Int) x k = k (wd n x) := by
 rw [P.atj]
 unfold P.aj0
 have ht := bqp hn x hx hl k
 rcases hn with rfl | rfl | rfl
 ·rw [cu (by rfl), cu (by rw [hl])]
  exact ht
 ·rw [gu (by decide), cu (by rfl), cu (by rw [hl])]
  exact ht
 ·rw [gu (by decide), gu (by decide), cu (by rfl), cu (by rw [hl])]
  exact ht
end Q
end
