/-
  ForsGrows, part 22: an interpreter of my own over abstract values, the pure functions, the walks and the plain law.
-/

import Derived.Test.YtjhnljhjpnjieaaGreatDoorForsGrowsU
import Derived.Test.YtjhnljhjpnjieaaGreatDoorForsGrowsK
import Derived.Test.YtjhnljhjpnjieaaGreatDoorForsGrowsL
import Derived.Test.YtjhnljhjpnjieaaGreatDoorForsGrowsI

section
/- SHA-2: the document's block of words of 64 bits. -/
namespace Q
open Go Go.Abs
set_option linter.unusedVariables false
set_option linter.unusedSimpArgs false
theorem alv (x : BitVec 64) (m : Int) (n : Nat) (hm : m = (n : Int)) (hn : n ≤ 64) {ρ : Type} (k : Int → Option ρ) : P.yc (x.toNat : Int) m true k = k ((rr x n).toNat : Int) := by
 subst hm
 rw [P.ahz]
 unfold P.ado
 rw [p8, dh (by omega), qb (by omega) (by omega), dh (by omega), show (64 : Int) - (n : Int) = ((64 - n : Nat) : Int) by omega]
 simp only [toNat_cast]
 rw [bfk _ _ hn, bpb _ _ (by omega), buz]
 rfl
theorem bmt (x : BitVec 64) (t : Nat × Nat × Nat) (a b c : Int) (ha : a = (t.1 : Int)) (hb : b = (t.2.1 : Int)) (hc : c = (t.2.2 : Int)) (h1 : t.1 ≤ 64) (h2 : t.2.1 ≤ 64) (h3 : t.2.2 ≤ 64) {ρ : Type} (k : Int → Option ρ) :
    P.yt (x.toNat : Int) a b c false true k = k ((hi t x).toNat : Int) := by
 rw [P.aey]
 unfold P.abh
 rw [dh (by omega), ku, qd, alv _ _ _ hc h3, alv _ _ _ ha h1, alv _ _ _ hb h2, ajn, ajn]
 rfl
theorem bml (x : BitVec 64) (t : Nat × Nat × Nat) (a b c : Int) (ha : a = (t.1 : Int)) (hb : b = (t.2.1 : Int)) (hc : c = (t.2.2 : Int)) (h1 : t.1 ≤ 64) (h2 : t.2.1 ≤ 64) (h3 : t.2.2 ≤ 64) {ρ : Type} (k : Int → Option ρ) :
    P.yt (x.toNat : Int) a b c true true k = k ((lo t x).toNat : Int) := by
 rw [P.aey]
 unfold P.abh
 rw [dh (by omega), ku, p8, alv _ _ _ ha h1, alv _ _ _ hb h2, ajn, hc]
 simp only [toNat_cast]
 rw [bfk _ _ h3, ajn]
 rfl
theorem bwf (a b c d : BitVec 64) : bits .and .u64 (IntKind.u64.wrap (IntKind.u64.wrap (IntKind.u64.wrap ((a.toNat : Int) + (b.toNat : Int)) + (c.toNat : Int)) + (d.toNat : Int))) 18446744073709551615 = ((a + b + c + d).toNat : Int) := by
 rw [ako, ako, ako, bl0 _ (bk7 _)]
theorem bxv (a b : BitVec 64) : bits .and .u64 (IntKind.u64.wrap ((a.toNat : Int) + (b.toNat : Int))) 18446744073709551615 = ((a + b).toNat : Int) := by
 rw [ako, bl0 _ (bk7 _)]
theorem bxr (d a b c e f : BitVec 64) : bits .and .u64 (IntKind.u64.wrap ((d.toNat : Int) + IntKind.u64.wrap (IntKind.u64.wrap (IntKind.u64.wrap (IntKind.u64.wrap ((a.toNat : Int) + (b.toNat : Int)) + (c.toNat : Int)) + (e.toNat : Int)) + (f.toNat : Int)))) 18446744073709551615 = ((d + (a + b + c + e + f)).toNat : Int) := by
 rw [ako, ako, ako, ako, ako, bl0 _ (bk7 _)]
theorem bzi (a b c e f g h : BitVec 64) : bits .and .u64 (IntKind.u64.wrap (IntKind.u64.wrap (IntKind.u64.wrap (IntKind.u64.wrap (IntKind.u64.wrap ((a.toNat : Int) + (b.toNat : Int)) + (c.toNat : Int)) + (e.toNat : Int)) + (f.toNat : Int)) + IntKind.u64.wrap ((g.toNat : Int) + (h.toNat : Int)))) 18446744073709551615 = (((a + b + c + e + f) + (g + h)).toNat : Int) := by
 rw [ako, ako, ako, ako, ako, ako, bl0 _ (bk7 _)]
theorem bwx (e f g : BitVec 64) : bits .xor .u64 (bits .and .u64 (e.toNat : Int) (f.toNat : Int)) (bits .and .u64 (bits .xor .u64 18446744073709551615 (e.toNat : Int)) (g.toNat : Int)) = ((g ^^^ (e &&& (f ^^^ g))).toNat : Int) := by
 rw [show (18446744073709551615 : Int) = ((BitVec.allOnes 64).toNat : Int) from rfl, bc7, ajn, bc7, ajn, bq7]
theorem btx (a b c : BitVec 64) : bits .xor .u64 (bits .xor .u64 (bits .and .u64 (a.toNat : Int) (b.toNat : Int)) (bits .and .u64 (a.toNat : Int) (c.toNat : Int))) (bits .and .u64 (b.toNat : Int) (c.toNat : Int)) = (((a &&& b) ||| (c &&& (a ||| b))).toNat : Int) := by
 rw [bc7, bc7, bc7, ajn, ajn, bmx]
def ar3 (b : List Int) (t : Nat) : List (BitVec 64) := (List.range t).map (W p64 (kg 64 b 16))
theorem awx (b : List Int) (t : Nat) : ar3 b (t + 1) = ar3 b t ++ [W p64 (kg 64 b 16) t] := by simp [ar3, List.range_succ]
theorem ba6 (b : List Int) (t : Nat) : (ar3 b t).length = t := by simp [ar3]
theorem aou (b : List Int) (t i : Nat) (h : i < t) : (ar3 b t).getD i 0 = W p64 (kg 64 b 16) i := by
 unfold ar3
 rw [getD_lt (by simpa using h)]; simp
theorem bou (b : List Int) (t : Nat) (h : t < 16) : W p64 (kg 64 b 16) t = BitVec.ofNat 64 (T 8 ((b.take ((t + 1) * 8)).drop (t * 8)).reverse) := by
 rw [← bm7 p64 _ (by rw [o7]; omega) 0 t (by rw [o7]; omega), show sched p64 (kg 64 b 16) 0 = kg 64 b 16 from rfl, getD_lt (by rw [o7]; exact h)]
 simp [kg]
theorem bi6 (b : List Int) (hb : In 256 b) (hl : b.length = 16 * 8) {ρ : Type} (k : List Int → Option ρ) : P.abt b true 80 18446744073709551615 k = k (cv (ar3 b 80)) := by
 rw [P.aly]
 unfold P.agk
 rw [p8, P.alr]
 unfold P.alx P.bq9 P.bp1 P.bu7
 refine zo (fun t => (b, true, 80, 18446744073709551615, 8, (t : Int), cv (ar3 b t))) 80 rfl (fun t ht next hn' => ?_) (fun next => ?_) (by omega)
 ·simp only [P.afd, toNat_cast]
  have e1 : IntKind.i64.wrap ((t : Int) + 1) = ((t + 1 : Nat) : Int) := by rw [qb (by omega) (by omega)]; omega
  rw [av (by omega)]
  have hlen := ba6 b t
  by_cases h16 : t < 16
  ·have e2 : IntKind.i64.wrap ((t : Int) * 8) = ((t * 8 : Nat) : Int) := by rw [qb (by omega) (by omega)]; omega
   have e3 : IntKind.i64.wrap (IntKind.i64.wrap ((t : Int) * 8) + 8) = (((t + 1) * 8 : Nat) : Int) := by rw [e2, qb (by omega) (by omega)]; omega
   have hl2 : ((b.take ((t + 1) * 8)).drop (t * 8)).length = 8 := by simp; omega
   rw [av (by omega), e3, e2, av (by omega), av (by omega), av (by omega)]
   simp only [toNat_cast]
   have hT := bve 8 ((b.take ((t + 1) * 8)).drop (t * 8)).reverse
   rw [List.length_reverse, hl2] at hT
   have e4 : ((T 8 ((b.take ((t + 1) * 8)).drop (t * 8)).reverse % 2 ^ 64 : Nat) : Int) = ((W p64 (kg 64 b 16) t).toNat : Int) := by
    rw [bou b t h16, BitVec.toNat_ofNat]
   rw [acs _ ((hb.take _).drop _) (by omega), av (by rw [uj]; omega), e4, e1, show [((W p64 (kg 64 b 16) t).toNat : Int)] = cv [W p64 (kg 64 b 16) t] from rfl, aff, ← awx]
   exact hn'
  ·have e15 : IntKind.i64.wrap ((t : Int) - 15) = ((t - 15 : Nat) : Int) := by rw [qb (by omega) (by omega)]; omega
   have e2 : IntKind.i64.wrap ((t : Int) - 2) = ((t - 2 : Nat) : Int) := by rw [qb (by omega) (by omega)]; omega
   have e7 : IntKind.i64.wrap ((t : Int) - 7) = ((t - 7 : Nat) : Int) := by rw [qb (by omega) (by omega)]; omega
   have e16 : IntKind.i64.wrap ((t : Int) - 16) = ((t - 16 : Nat) : Int) := by rw [qb (by omega) (by omega)]; omega
   simp only [e15, e2, e7, e16, toNat_cast, afu, uj, hlen]
   rw [aou b t _ (by omega), aou b t _ (by omega), aou b t _ (by omega), aou b t _ (by omega)]
   obtain ⟨q1, m1⟩ := bea ((W p64 (kg 64 b 16) (t - 15)).toNat : Int) 7 18 3 7 18 3 rfl rfl rfl (by omega) (by omega) (by omega)
   obtain ⟨q2, m2⟩ := bea ((W p64 (kg 64 b 16) (t - 2)).toNat : Int) 17 19 10 17 19 10 rfl rfl rfl (by omega) (by omega) (by omega)
   rw [dh (by omega), av (by omega), av (by omega), m1, av (by omega), av (by omega), m2, p8, av (by omega), av (by omega), bml _ p64.a _ _ _ (by rfl) (by rfl) (by rfl) (by decide) (by decide) (by decide), av (by omega), av (by omega), bml _ p64.b _ _ _ (by rfl) (by rfl) (by rfl) (by decide) (by decide) (by decide)]
   have hW := beh p64 (kg 64 b 16) (o7 b 16) (t - 16)
   rw [show t - 16 + 16 = t by omega, show t - 16 + 1 = t - 15 by omega, show t - 16 + 9 = t - 7 by omega, show t - 16 + 14 = t - 2 by omega] at hW
   have hW2 : lo p64.b (W p64 (kg 64 b 16) (t - 2)) + W p64 (kg 64 b 16) (t - 7) + lo p64.a (W p64 (kg 64 b 16) (t - 15)) + W p64 (kg 64 b 16) (t - 16) = W p64 (kg 64 b 16) t := by rw [hW]; ac_rfl
   rw [av (by omega), av (by omega), av (by omega), av (by omega), av (by omega), bwf, hW2, e1, show [((W p64 (kg 64 b 16) t).toNat : Int)] = cv [W p64 (kg 64 b 16) t] from rfl, aff, ← awx]
   exact hn'
 ·simp only [P.afd]
  rw [dh (by omega)]
theorem bpd (b : List Int) (v : List (BitVec 64)) (hv : v.length = 8) (h0 h1 : List Int) {ρ : Type} (k0 : Bool → Int → Int → Int → List Int → List Int → List Int → List Int → List Int → List Int → Option ρ) :
    P.ad7 true 80 18446744073709551615 0 h0 h1 P.roots256 P.roots512 (cv (ar3 b 80)) (cv v) k0 = k0 true 80 18446744073709551615 80 h0 h1 P.roots256 P.roots512 (cv (ar3 b 80)) (cv (runs p64 (kg 64 b 16) v 80)) := by
 rw [P.ake]
 unfold P.ajv P.bqp P.bp2 P.bu2
 refine zo (fun t => (true, 80, 18446744073709551615, (t : Int), h0, h1, P.roots256, P.roots512, cv (ar3 b 80), cv (runs p64 (kg 64 b 16) v t))) 80 rfl (fun t ht next hn' => ?_) (fun next => ?_) (by omega)
 ·simp only [P.ad5]
  have e1 : IntKind.i64.wrap ((t : Int) + 1) = ((t + 1 : Nat) : Int) := by rw [qb (by omega) (by omega)]; omega
  have hlen := ba6 b 80
  simp only [e1, toNat_cast, afu, uj, hlen]
  rw [aou b 80 t ht, K64]
  obtain ⟨q1, m1⟩ := bgu (((runs p64 (kg 64 b 16) v t).getD 0 0).toNat : Int) 2 13 22 2 13 22 rfl rfl rfl (by omega) (by omega) (by omega)
  obtain ⟨q2, m2⟩ := bgu (((runs p64 (kg 64 b 16) v t).getD 4 0).toNat : Int) 6 11 25 6 11 25 rfl rfl rfl (by omega) (by omega) (by omega)
  rw [av (by omega), m1, m2, p8, bmt _ p64.c _ _ _ (by rfl) (by rfl) (by rfl) (by decide) (by decide) (by decide), bmt _ p64.d _ _ _ (by rfl) (by rfl) (by rfl) (by decide) (by decide) (by decide)]
  rw [av (by omega), av (by omega), av (by omega), av (by omega), bwx, btx, bzi, bxr]
  exact hn'
 ·simp only [P.ad5]
  rw [dh (by omega)]
  rfl
theorem bpl (v u : List (BitVec 64)) (hv : v.length = 8) (hu : u.length = 8) (h1 : List Int) {ρ : Type} (k0 : Int → Int → List Int → List Int → List Int → Option ρ) :
    P.ad4 18446744073709551615 0 (cv v) h1 (cv u) k0 = k0 18446744073709551615 8 (cv v) h1 (cv ((List.range 8).map fun i => u.getD i 0 + v.getD i 0)) := by
 rw [P.akk]
 unfold P.ajz P.br8 P.bp0 P.bux
 refine zo (fun i => (18446744073709551615, (i : Int), cv v, h1, cv (((List.range i).map fun i => u.getD i 0 + v.getD i 0) ++ u.drop i))) 8 (by simp) (fun i hi next hn' => ?_) (fun next => ?_) (by omega)
 ·simp only [P.adj, toNat_cast, afu]
  have e1 : IntKind.i64.wrap ((i : Int) + 1) = ((i + 1 : Nat) : Int) := by rw [qb (by omega) (by omega)]; omega
  have e2 : (((List.range i).map fun i => u.getD i 0 + v.getD i 0) ++ u.drop i).getD i 0 = u.getD i 0 := by
   rw [List.getD_eq_getElem?_getD, List.getElem?_append_right (by simp), List.getElem?_drop, List.length_map, List.length_range, List.getD_eq_getElem?_getD]
   congr 2
   omega
  rw [e1, e2, bxv, awe]
  have e3 : (((List.range i).map fun i => u.getD i 0 + v.getD i 0) ++ u.drop i).set i (u.getD i 0 + v.getD i 0) = ((List.range (i + 1)).map fun i => u.getD i 0 + v.getD i 0) ++ u.drop (i + 1) := by
   rw [List.set_append_right _ _ (by simp), List.length_map, List.length_range, Nat.sub_self, List.range_succ, List.map_append, List.append_assoc, List.drop_eq_getElem_cons (by omega), List.set_cons_zero]
   rfl
  rw [e3]
  simp (disch := omega) only [av, dh, gu, fq, dw, dz, ku, p8, qd, qb]
  exact hn'
 ·simp only [P.adj]
  rw [dh (by omega), List.drop_eq_nil_of_le (by omega), List.append_nil]
  rfl
theorem bh0 (v : List (BitVec 64)) (hv : v.length = 8) (b : List Int) (hb : In 256 b) (hl : b.length = 16 * 8) {ρ : Type} (k : List Int → Option ρ) : P.acu (cv v) b true k = k (cv (aty p64 v b)) := by
 rw [P.aln]
 unfold P.agi
 have hr1 : ∀ (k : List Int → Option ρ), P.wm k = k P.roots256 := fun k => by rw [P.agy]; kernel_rfl
 have hr2 : ∀ (k : List Int → Option ρ), P.wh k = k P.roots512 := fun k => by rw [P.aho]; kernel_rfl
 rw [hr1, hr2, p8, bi6 b hb hl, bpd b v hv, bpl v _ hv (ama _ _ _ hv _)]
 rfl
end Q
end

section
/- bits, the first part: texts. -/
namespace Q
open Go Go.Abs
set_option linter.unusedVariables false
set_option linter.unusedSimpArgs false
theorem bim {a b : List Int} (hl : a.length = b.length) (hs : a.length ≤ 140737488355328) {ρ : Type} (k0 : List Int → List Int → Int → Option ρ) (k1 : Bool → Option ρ) :
    ∀ (m i : Nat), i + m = a.length → ∀ {stp : (List Int × List Int × Int) → ((List Int × List Int × Int) → Option ρ) → ((List Int × List Int × Int) ⊕ Bool → Option ρ) → Option ρ} {K : (List Int × List Int × Int) ⊕ Bool → Option ρ},
     (∀ (j : Nat) next, stp (a, b, (j : Int)) next K = br (decide ((j : Int) < (a.length : Int))) (br (a.getD j 0 != b.getD j 0) (k1 false) (next (a, b, ((j + 1 : Nat) : Int)))) (k0 a b (j : Int))) →
     lp stp (a, b, (i : Int)) K = if a.drop i = b.drop i then k0 a b (a.length : Int) else k1 false := by
 intro m i hm stp K hst
 refine bpo (P := fun x => ∃ j : Nat, x = (a, b, (j : Int)) ∧ j ≤ a.length ∧ (if a.drop j = b.drop j then k0 a b (a.length : Int) else k1 false) = (if a.drop i = b.drop i then k0 a b (a.length : Int) else k1 false)) (μ := fun x => ((a.length : Int) - x.2.2).toNat) ?_ ⟨i, rfl, by omega, rfl⟩ (by simp only; omega)
 rintro _ ⟨j, rfl, hj, he⟩ next hn
 rw [hst, ← he]
 by_cases hji : j < a.length
 ·rw [av (by omega), afq a 0 j hji, afq b 0 j (by omega)]
  by_cases hab : a.getD j 0 = b.getD j 0
  ·rw [fq hab, hn _ ⟨j + 1, rfl, by omega, ?_⟩ (by simp only; omega), ← he, afq a 0 j hji, afq b 0 j (by omega)]
   ·rw [← he, afq a 0 j hji, afq b 0 j (by omega)]
    simp only [hab, List.cons.injEq, true_and]
  ·rw [gu hab, if_neg (by simp only [List.cons.injEq]; exact fun h => hab h.1)]
 ·have : j = a.length := by omega
  subst this
  rw [dh (by omega), if_pos (by rw [List.drop_eq_nil_of_le (Nat.le_refl _), List.drop_eq_nil_of_le (by omega)])]
theorem acf (a b : List Int) (h : a.length ≤ 140737488355328) {ρ : Type} (k : Bool → Option ρ) : P.acf a b k = k (decide (a = b)) := by
 rw [P.as4]
 unfold P.ak4
 by_cases hl : a.length = b.length
 ·rw [fq (by omega), P.avr]
  unfold P.auz P.bvw P.brc P.b27
  have := bim hl h (fun _ _ _ => k true) k a.length 0 (by omega) (stp := (fun x next ex => P.an8 x.1 x.2.1 x.2.2 (fun v0 v1 v5 => next (v0, v1, v5)) (fun v0 v1 v5 => ex (.inl (v0, v1, v5))) (fun v4 => ex (.inr v4)))) (K := Sum.elim (fun _ => k true) k) (by
   intro j next
   simp only [P.an8, Sum.elim_inl, Sum.elim_inr]
   by_cases hj : (j : Int) < (a.length : Int)
   ·simp only [av hj]
    simp (disch := omega) only [av, dh, gu, fq, dw, dz, ku, p8, qd, qb, toNat_cast]
    rfl
   ·simp only [dh hj])
  simp only [List.drop_zero] at this
  refine this.trans ?_
  by_cases hab : a = b
  ·rw [if_pos hab, decide_eq_true hab]
  ·rw [if_neg hab, decide_eq_false hab]
 ·rw [gu (by omega), decide_eq_false (fun e => hl (by rw [e]))]
end Q
end

section
/- bits: the law's own test. -/
namespace Q
open Go Go.Abs
set_option linter.unusedVariables false
set_option linter.unusedSimpArgs false
end Q
end

section
/- bits: Same, Join. -/
namespace Q
open Go Go.Abs
set_option linter.unusedVariables false
set_option linter.unusedSimpArgs false
def joined (l : List (List Int)) (i : Nat) : List Int := (l.take i).flatten
theorem anj (l : List (List Int)) (i : Nat) (h : i < l.length) : joined l (i + 1) = joined l i ++ l.getD i [] := by
 unfold joined
 rw [← alu l [] i h, List.flatten_append]; simp
theorem aqb (l : List (List Int)) : joined l l.length = l.flatten := by unfold joined; rw [List.take_length]
theorem atb (l : List (List Int)) (i : Nat) : (joined l i).length ≤ l.flatten.length := by
 unfold joined
 have : l.flatten = (l.take i).flatten ++ (l.drop i).flatten := by rw [← List.flatten_append, List.take_append_drop]
 rw [this, List.length_append]; omega
theorem l8 (l : List (List Int)) (h : l.length ≤ 140737488355328) (h2 : l.flatten.length ≤ 140737488355328) {ρ : Type} (k : List Int → Option ρ) : P.l8 l k = k l.flatten := by
 rw [P.at6]
 unfold P.aky
 rw [P.avn]
 unfold P.atf P.bv1 P.bs4 P.b0k
 refine bj5 (fun i => (l, (i : Int), joined l i)) l.length (fun i hi next hn => ?_) (fun next => ?_) (Nat.zero_le _) (by omega)
 ·have e := anj l i hi
  have h3 := atb l (i + 1)
  rw [e, List.length_append] at h3
  simp only [P.am9, toNat_cast]
  simp (disch := omega) only [av, dh, gu, fq, dw, dz, ku, p8, qd, qb]
  rw [← e]
  exact hn
 ·simp only [P.am9]
  rw [dh (by omega), aqb]
theorem ng (n : Nat) (h : n ≤ 140737488355328) {ρ : Type} (k : List Int → Option ρ) : P.ng (n : Int) k = k [] := by
 rw [P.ahm]
 unfold P.acp
 rw [dh (by omega), show IntKind.i64.wrap ((0 : Int) - (0 : Int)) = 0 by decide]
 rw [qb (by omega) (by omega)]
 by_cases h0 : n = 0
 ·subst h0; rw [dh (by omega)]
 ·rw [av (by omega), av (by omega), av (by omega)]; rfl
theorem jc (l : List (List Int)) (h : l.length ≤ 140737488355328) (h2 : l.flatten.length ≤ 140737488355328) {ρ : Type} (k : List Int → Option ρ) : P.jc l k = k l.flatten := by
 rw [P.afm]
 unfold P.aa5
 rw [P.ai9]
 unfold P.afb P.zk6 P.zs6 P.zu6
 refine bj5 (fun i => (l, ((joined l i).length : Int), l, (l.length : Int), (i : Int))) l.length (fun i hi next hn => ?_) (fun next => ?_) (Nat.zero_le _) (by omega)
 ·have e := anj l i hi
  have h3 := atb l (i + 1)
  have e2 : ((joined l i).length : Int) + ((l.getD i []).length : Int) = ((joined l (i + 1)).length : Int) := by rw [e, List.length_append]; omega
  simp only [P.ab1, toNat_cast, e2]
  simp (disch := omega) only [av, dh, gu, fq, dw, dz, ku, p8, qd, qb]
  exact hn
 ·simp only [P.ab1]
  rw [dh (by omega), aqb, ng _ h2, P.aif]
  unfold P.aeb P.zk7 P.zs7 P.zu7
  refine bj5 (fun i => (l, (l.length : Int), (i : Int), joined l i)) l.length (fun i hi next hn => ?_) (fun next => ?_) (Nat.zero_le _) (by omega)
  ·have e := anj l i hi
   have h3 := atb l (i + 1)
   rw [e, List.length_append] at h3
   simp only [P.aa1, toNat_cast]
   simp (disch := omega) only [av, dh, gu, fq, dw, dz, ku, p8, qd, qb]
   rw [← e]
   exact hn
  ·simp only [P.aa1]
   rw [dh (by omega), aqb]
theorem jo (l : List (List Int)) (h : l.length ≤ 140737488355328) (h2 : l.flatten.length ≤ 140737488355328) {ρ : Type} (k : List Int → Option ρ) : P.jo l k = k l.flatten := by
 rw [P.aq9]
 unfold P.ajp
 exact jc l h h2 k
end Q
end

section
/- lmots: digits. -/
namespace Q
open Go Go.Abs
set_option linter.unusedVariables false
set_option linter.unusedSimpArgs false
theorem yu (N s : Nat) (hN : N < 18446744073709551616) (hs : s ≤ 65536) {ρ : Type} (k : List Int → Option ρ) : P.yu (N : Int) (s : Int) k = k (bsw 8 s N).reverse := by
 rw [P.bbq]
 unfold P.aq1
 simp only [toNat_cast]
 simp (disch := omega) only [av, dh, gu, fq, dw, dz, ku, p8, qd, qb]
 rw [P.baj]
 unfold P.bbt P.bu4 P.bqf P.bwa
 refine zo (fun j => (((N / 2 ^ (8 * j) : Nat) : Int), (s : Int) - 1 - (j : Int), List.replicate (s - j) 0 ++ (bsw 8 j N).reverse)) s (by simp [bsw]) (fun j hj next hn' => ?_) (fun next => ?_) (by omega)
 ·simp only [P.auo, List.length_append, List.length_replicate, List.length_reverse, acd]
  rw [show (s : Int) - 1 - (j : Int) = ((s - 1 - j : Nat) : Int) by omega]
  simp only [toNat_cast]
  have hd := Nat.div_le_self N (2 ^ (8 * j))
  have hb : bits .and .u64 ((N / 2 ^ (8 * j) : Nat) : Int) 255 = ((N / 2 ^ (8 * j) % 2 ^ 8 : Nat) : Int) := by
   rw [show (255 : Int) = ((2 ^ 8 - 1 : Nat) : Int) from rfl, au3 _ _ (by omega) (by omega), Nat.and_two_pow_sub_one_eq_mod]
  have hd2 : (((N / 2 ^ (8 * j) : Nat) : Int)).fdiv ((2 : Int) ^ 8) = ((N / 2 ^ (8 * (j + 1)) : Nat) : Int) := by
   rw [show ((2 : Int) ^ 8) = (2 : Int) ^ min 8 8 from rfl, fdiv_pow _ 8 8 (by omega), Nat.div_div_eq_div_mul, ← Nat.pow_add, Nat.mul_succ]
  rw [hb, hd2, u8n _ (by omega)]
  rw [bfb, List.reverse_append, List.reverse_singleton, List.singleton_append] at hn'
  have hset : (List.replicate (s - j) (0 : Int) ++ (bsw 8 j N).reverse).set (s - 1 - j) ((N / 2 ^ (8 * j) % 2 ^ 8 : Nat) : Int) = List.replicate (s - (j + 1)) 0 ++ ((N / 2 ^ (8 * j) % 2 ^ 8 : Nat) : Int) :: (bsw 8 j N).reverse := by
   rw [show s - j = (s - (j + 1)) + 1 by omega, List.replicate_succ', List.append_assoc, List.set_append_right _ _ (by simp; omega), List.length_replicate, show s - 1 - j - (s - (j + 1)) = 0 by omega]
   rfl
  rw [hset]
  simp (disch := omega) only [av, dh, gu, fq, dw, dz, ku, p8, qd, qb]
  rw [show ((s - 1 - j : Nat) : Int) - 1 = (s : Int) - 1 - ((j + 1 : Nat) : Int) by omega]
  exact hn'
 ·simp only [P.auo]
  rw [dh (by omega), Nat.sub_self]; rfl
def sumTo (D : List Int) : Nat → Nat
 | 0 => 0
 | i + 1 => sumTo D i + (D.getD i 0).toNat
def left (w s : Nat) (b : List Int) : Nat := ((256 / w) * (2 ^ w - 1) - sumTo (ax6 b w ((256 / w : Nat) : Int)) (256 / w)) * 2 ^ s
end Q
end

section
/- SHA-2: blocks one behind the other, words of 32 bits. -/
namespace Q
open Go Go.Abs
set_option linter.unusedVariables false
set_option linter.unusedSimpArgs false
def thr {w : Nat} (p : Par w) (v : List (BitVec w)) (b : List Int) : Nat → List (BitVec w)
 | 0 => v
 | i + 1 => aty p (thr p v b i) ((b.drop ((2 * w) * i)).take (2 * w))
theorem aj5 {w : Nat} (p : Par w) (v : List (BitVec w)) (hv : v.length = 8) (b : List Int) : ∀ i, (thr p v b i).length = 8
 | 0 => hv
 | i + 1 => bgd _ _ _
def toV (w : Nat) (l : List Int) : List (BitVec w) := (List.range 8).map fun i => BitVec.ofInt w (l.getD i 0)
theorem aj3 (w : Nat) (l : List Int) : (toV w l).length = 8 := by simp [toV]
theorem bm4 (w : Nat) (l : List Int) (hl : l.length = 8) (hi : In (2 ^ w) l) : cv (toV w l) = l := by
 unfold cv toV
 rw [List.map_map]
 refine List.ext_getElem (by simp [hl]) (fun i h1 h2 => ?_)
 have hp : ((2 : Int) ^ w) = ((2 ^ w : Nat) : Int) := by simp
 have := hi.getD i (by rw [hp]; have := p2 w; omega)
 rw [getD_lt h2] at this
 simp only [List.getElem_map, List.getElem_range, Function.comp, getD_lt h2, BitVec.toNat_ofInt]
 rw [hp] at this
 rw [Int.emod_eq_of_lt this.1 this.2]
 omega
theorem boa {w : Nat} (l : List (BitVec w)) : In (2 ^ w) (cv l) := by
 intro x hx
 obtain ⟨y, _, rfl⟩ := List.mem_map.1 hx
 have := y.isLt
 have hp : ((2 : Int) ^ w) = ((2 ^ w : Nat) : Int) := by simp
 rw [hp]
 omega
theorem bmw {w : Nat} (l : List (BitVec w)) (hl : l.length = 8) : toV w (cv l) = l := by
 unfold toV
 refine List.ext_getElem (by simp [hl]) (fun i h1 h2 => ?_)
 simp only [List.getElem_map, List.getElem_range, afu, ofI, getD_lt h2]
theorem axy (x : Int) : IntKind.u32.wrap x = ((BitVec.ofInt 32 x).toNat : Int) := by
 rw [brp, BitVec.toNat_ofInt]; omega
def rest (n : Nat) (b : List Int) : List Int := b.drop (n * (b.length / n))
theorem bqa (words b : List Int) (rd : Int) (t0 t1 t2 t3 h1 h2 : List Int) (hi : In 18446744073709551616 words) {ρ : Type} (k0 : List Int → List Int → Int → Int → Int → List Int → List Int → List Int → List Int → List Int → List Int → List Int → Option ρ) :
    P.abo b words 0 32 rd t0 t1 t2 t3 h1 h2 (List.replicate 8 0) k0 = k0 b words 8 32 rd t0 t1 t2 t3 h1 h2 (cv (toV 32 words)) := by
 rw [P.aiy]
 unfold P.afn P.bvh P.btk P.b2m
 refine zo (fun i => (b, words, (i : Int), 32, rd, t0, t1, t2, t3, h1, h2, cv ((List.range i).map fun i => BitVec.ofInt 32 (words.getD i 0)) ++ List.replicate (8 - i) 0)) 8 (by simp [cv]) (fun i hi' next hn' => ?_) (fun next => ?_) (by omega)
 ·simp only [P.abn, toNat_cast]
  have e4 : IntKind.i64.wrap ((i : Int) + 1) = ((i + 1 : Nat) : Int) := by rw [qb (by omega) (by omega)]; omega
  have e5 : (cv ((List.range i).map fun i => BitVec.ofInt 32 (words.getD i 0)) ++ List.replicate (8 - i) (0 : Int)).set i ((BitVec.ofInt 32 (words.getD i 0)).toNat : Int) = cv ((List.range (i + 1)).map fun i => BitVec.ofInt 32 (words.getD i 0)) ++ List.replicate (8 - (i + 1)) 0 := by
   rw [List.set_append_right _ _ (by simp), uj, List.length_map, List.length_range, Nat.sub_self, show 8 - i = (8 - (i + 1)) + 1 by omega, List.replicate_succ, List.set_cons_zero, List.range_succ, List.map_append, ← aff, List.append_assoc]
   rfl
  rw [av (by omega), av (by omega), av (by omega), av (by omega), av (by omega), axy, e5, e4]
  exact hn'
 ·simp only [P.abn]
  rw [dh (by omega)]
  simp [toV]
theorem brl (v : List (BitVec 32)) (hv : v.length = 8) (b : List Int) (hb : In 256 b) (hn : b.length ≤ 1000000) (h1 h2 : List Int) {ρ : Type} (k0 : List Int → Int → List Int → List Int → List Int → Int → Int → List Int → List Int → List Int → List Int → Option ρ) :
    P.abq b 64 (cv v) h2 h1 32 64 [7, 18, 3] [17, 19, 10] [2, 13, 22] [6, 11, 25] k0 =
     k0 (rest 64 b) 64 (cv (thr p32 v b (b.length / 64))) h2 h1 32 64 [7, 18, 3] [17, 19, 10] [2, 13, 22] [6, 11, 25] := by
 rw [P.ai2]
 unfold P.afa P.bvs P.btw P.b1k
 refine zo (fun i => (b.drop (64 * i), 64, cv (thr p32 v b i), h2, h1, 32, 64, [7, 18, 3], [17, 19, 10], [2, 13, 22], [6, 11, 25])) (b.length / 64) (by simp [thr]) (fun i hi next hn' => ?_) (fun next => ?_) (by omega)
 ·simp only [P.abz]
  have hlen : (b.drop (64 * i)).length = b.length - 64 * i := by simp
  have hge : 64 ≤ b.length - 64 * i := by omega
  simp only [hlen, show (64 : Int).toNat = 64 from rfl, toNat_cast, List.drop_zero]
  have hbl : ((b.drop (64 * i)).take 64).length = 16 * 4 := by rw [List.length_take, hlen]; omega
  rw [av (by omega), av (by omega), av (by omega), bgo _ (aj5 _ _ hv _ _) _ ((hb.drop _).take _) hbl, av (by omega), av (by omega), av (by omega),
   List.take_of_length_le (by rw [hlen]; omega), List.drop_drop, show 64 * i + 64 = 64 * (i + 1) by omega]
  exact hn'
 ·simp only [P.abz]
  have hlen : (b.drop (64 * (b.length / 64))).length = b.length - 64 * (b.length / 64) := by simp
  rw [dh (by rw [hlen]; omega)]
  rfl
theorem bo6 (v : List (BitVec 32)) (hv : v.length = 8) (b : List Int) (words h2 : List Int) (hl : words.length = 8) {ρ : Type} (k0 : List Int → List Int → Int → List Int → List Int → Option ρ) :
    P.aaz b (cv v) 0 words h2 k0 = k0 b (cv v) 8 (cv v) h2 := by
 rw [P.aiq]
 unfold P.aec P.bvb P.bqz P.bw2
 refine zo (fun i => (b, cv v, (i : Int), (cv v).take i ++ words.drop i, h2)) 8 (by simp) (fun i hi next hn' => ?_) (fun next => ?_) (by omega)
 ·simp only [P.aa3, toNat_cast]
  have e4 : IntKind.i64.wrap ((i : Int) + 1) = ((i + 1 : Nat) : Int) := by rw [qb (by omega) (by omega)]; omega
  have e5 : ((cv v).take i ++ words.drop i).set i ((cv v).getD i 0) = (cv v).take (i + 1) ++ words.drop (i + 1) := by
   rw [List.set_append_right _ _ (by rw [List.length_take]; omega), List.length_take, uj, hv, Nat.min_eq_left (by omega), Nat.sub_self, List.drop_eq_getElem_cons (by omega), List.set_cons_zero, ← alu (cv v) 0 i (by rw [uj]; omega), List.append_assoc]
   rfl
  have e6 : IntKind.u64.wrap ((cv v).getD i 0) = (cv v).getD i 0 := by
   rw [afu]; exact ahp _ (nlt _)
  rw [av (by omega), av (by omega), av (by omega), av (by omega), av (by omega), e6, e5, e4]
  exact hn'
 ·simp only [P.aa3]
  rw [dh (by omega), List.drop_eq_nil_of_le (by omega), List.append_nil, List.take_of_length_le (by rw [uj]; omega)]
  rfl
theorem bdg (words b : List Int) (hl : words.length = 8) (hi : In 18446744073709551616 words) (hb : In 256 b) (hn : b.length ≤ 1000000) {ρ : Type} (k : List Int → List Int → Option ρ) :
    P.ny 32 64 [7, 18, 3] [17, 19, 10] [2, 13, 22] [6, 11, 25] words b k = k (cv (thr p32 (toV 32 words) b (b.length / 64))) (rest 64 b) := by
 rw [P.afk]
 unfold P.aa4
 refine (bqa words b 64 [7, 18, 3] [17, 19, 10] [2, 13, 22] [6, 11, 25] words (List.replicate 8 0) hi _).trans ?_
 rw [show IntKind.i64.wrap ((32 : Int) * 2) = 64 from rfl, brl _ (aj3 _ _) b hb hn, bo6 _ (aj5 _ _ (aj3 _ _) _ _) _ _ _ hl]
theorem bsl (v : List (BitVec 32)) (hv : v.length = 8) (b : List Int) (hb : In 256 b) (hn : b.length ≤ 1000000) (kd : Int) (tl : List Int) (sz : Int) (a1 : Int) (a2 : List Int) (a3 : Int) {ρ : Type} (k0 : Int → List Int → Int → List Int → List Int → Int → Int → List Int → Int → Option ρ) :
    P.amc 64 b kd (cv v) tl sz a1 a2 a3 k0 = k0 64 (rest 64 b) kd (cv (thr p32 v b (b.length / 64))) tl sz a1 a2 a3 := by
 rw [P.aph]
 unfold P.aqk P.bro P.bp4 P.bvu
 refine zo (fun i => (64, b.drop (64 * i), kd, cv (thr p32 v b i), tl, sz, a1, a2, a3)) (b.length / 64) (by simp [thr]) (fun i hi next hn' => ?_) (fun next => ?_) (by omega)
 ·simp only [P.ajg]
  have hlen : (b.drop (64 * i)).length = b.length - 64 * i := by simp
  have hge : 64 ≤ b.length - 64 * i := by omega
  simp only [hlen, show (64 : Int).toNat = 64 from rfl, toNat_cast, List.drop_zero]
  have hbl : ((b.drop (64 * i)).take 64).length = 16 * 4 := by rw [List.length_take, hlen]; omega
  rw [av (by omega), av (by omega), av (by omega), show ((64 : Int) == 128) = false from rfl, bgw _ (aj5 _ _ hv _ _) _ ((hb.drop _).take _) hbl, av (by omega), av (by omega), av (by omega),
   List.take_of_length_le (by rw [hlen]; omega), List.drop_drop, show 64 * i + 64 = 64 * (i + 1) by omega]
  exact hn'
 ·simp only [P.ajg]
  have hlen : (b.drop (64 * (b.length / 64))).length = b.length - 64 * (b.length / 64) := by simp
  rw [dh (by rw [hlen]; omega)]
  rfl
end Q
end

section
/- SHA-2: blocks one behind the other, words of 64 bits. -/
namespace Q
open Go Go.Abs
set_option linter.unusedVariables false
set_option linter.unusedSimpArgs false
theorem bry (words b : List Int) (rd : Int) (t0 t1 t2 t3 h1 h2 : List Int) (hi : In 18446744073709551616 words) {ρ : Type} (k0 : List Int → List Int → Int → Int → Int → List Int → List Int → List Int → List Int → List Int → List Int → List Int → Option ρ) :
    P.abw b words 0 64 rd t0 t1 t2 t3 h1 h2 (List.replicate 8 0) k0 = k0 b words 8 64 rd t0 t1 t2 t3 h1 h2 (cv (toV 64 words)) := by
 rw [P.ai6]
 unfold P.afp P.buw P.buh P.b1s
 refine zo (fun i => (b, words, (i : Int), 64, rd, t0, t1, t2, t3, h1, h2, cv ((List.range i).map fun i => BitVec.ofInt 64 (words.getD i 0)) ++ List.replicate (8 - i) 0)) 8 (by simp [cv]) (fun i hi' next hn' => ?_) (fun next => ?_) (by omega)
 ·simp only [P.abl, toNat_cast]
  have e4 : IntKind.i64.wrap ((i : Int) + 1) = ((i + 1 : Nat) : Int) := by rw [qb (by omega) (by omega)]; omega
  have e6 : words.getD i 0 = ((BitVec.ofInt 64 (words.getD i 0)).toNat : Int) := by
   have := hi.getD i (by omega)
   rw [BitVec.toNat_ofInt]
   omega
  have e5 : (cv ((List.range i).map fun i => BitVec.ofInt 64 (words.getD i 0)) ++ List.replicate (8 - i) (0 : Int)).set i ((BitVec.ofInt 64 (words.getD i 0)).toNat : Int) = cv ((List.range (i + 1)).map fun i => BitVec.ofInt 64 (words.getD i 0)) ++ List.replicate (8 - (i + 1)) 0 := by
   rw [List.set_append_right _ _ (by simp), uj, List.length_map, List.length_range, Nat.sub_self, show 8 - i = (8 - (i + 1)) + 1 by omega, List.replicate_succ, List.set_cons_zero, List.range_succ, List.map_append, ← aff, List.append_assoc]
   rfl
  rw [av (by omega), av (by omega), av (by omega), av (by omega), av (by omega), e6, e5, e4]
  exact hn'
 ·simp only [P.abl]
  rw [dh (by omega)]
  simp [toV]
theorem bqy (v : List (BitVec 64)) (hv : v.length = 8) (b : List Int) (hb : In 256 b) (hn : b.length ≤ 1000000) (h1 h2 : List Int) {ρ : Type} (k0 : List Int → Int → List Int → List Int → List Int → Int → Int → List Int → List Int → List Int → List Int → Option ρ) :
    P.aby b 128 (cv v) h2 h1 64 80 [1, 8, 7] [19, 61, 6] [28, 34, 39] [14, 18, 41] k0 =
     k0 (rest 128 b) 128 (cv (thr p64 v b (b.length / 128))) h2 h1 64 80 [1, 8, 7] [19, 61, 6] [28, 34, 39] [14, 18, 41] := by
 rw [P.ai7]
 unfold P.afo P.bu8 P.br9 P.byk
 refine zo (fun i => (b.drop (128 * i), 128, cv (thr p64 v b i), h2, h1, 64, 80, [1, 8, 7], [19, 61, 6], [28, 34, 39], [14, 18, 41])) (b.length / 128) (by simp [thr]) (fun i hi next hn' => ?_) (fun next => ?_) (by omega)
 ·simp only [P.abr]
  have hlen : (b.drop (128 * i)).length = b.length - 128 * i := by simp
  have hge : 128 ≤ b.length - 128 * i := by omega
  simp only [hlen, show (128 : Int).toNat = 128 from rfl, toNat_cast, List.drop_zero]
  have hbl : ((b.drop (128 * i)).take 128).length = 16 * 8 := by rw [List.length_take, hlen]; omega
  rw [av (by omega), av (by omega), av (by omega), bhx _ (aj5 _ _ hv _ _) _ ((hb.drop _).take _) hbl, av (by omega), av (by omega), av (by omega),
   List.take_of_length_le (by rw [hlen]; omega), List.drop_drop, show 128 * i + 128 = 128 * (i + 1) by omega]
  exact hn'
 ·simp only [P.abr]
  have hlen : (b.drop (128 * (b.length / 128))).length = b.length - 128 * (b.length / 128) := by simp
  rw [dh (by rw [hlen]; omega)]
  rfl
theorem boh (v : List (BitVec 64)) (hv : v.length = 8) (b : List Int) (words h2 : List Int) (hl : words.length = 8) {ρ : Type} (k0 : List Int → List Int → Int → List Int → List Int → Option ρ) :
    P.aa0 b (cv v) 0 words h2 k0 = k0 b (cv v) 8 (cv v) h2 := by
 rw [P.aij]
 unfold P.aed P.bvg P.bui P.by8
 refine zo (fun i => (b, cv v, (i : Int), (cv v).take i ++ words.drop i, h2)) 8 (by simp) (fun i hi next hn' => ?_) (fun next => ?_) (by omega)
 ·simp only [P.aa2, toNat_cast]
  have e4 : IntKind.i64.wrap ((i : Int) + 1) = ((i + 1 : Nat) : Int) := by rw [qb (by omega) (by omega)]; omega
  have e5 : ((cv v).take i ++ words.drop i).set i ((cv v).getD i 0) = (cv v).take (i + 1) ++ words.drop (i + 1) := by
   rw [List.set_append_right _ _ (by rw [List.length_take]; omega), List.length_take, uj, hv, Nat.min_eq_left (by omega), Nat.sub_self, List.drop_eq_getElem_cons (by omega), List.set_cons_zero, ← alu (cv v) 0 i (by rw [uj]; omega), List.append_assoc]
   rfl
  rw [av (by omega), av (by omega), av (by omega), av (by omega), av (by omega), e5, e4]
  exact hn'
 ·simp only [P.aa2]
  rw [dh (by omega), List.drop_eq_nil_of_le (by omega), List.append_nil, List.take_of_length_le (by rw [uj]; omega)]
  rfl
theorem bb6 (words b : List Int) (hl : words.length = 8) (hi : In 18446744073709551616 words) (hb : In 256 b) (hn : b.length ≤ 1000000) {ρ : Type} (k : List Int → List Int → Option ρ) :
    P.og 64 80 [1, 8, 7] [19, 61, 6] [28, 34, 39] [14, 18, 41] words b k = k (cv (thr p64 (toV 64 words) b (b.length / 128))) (rest 128 b) := by
 rw [P.afe]
 unfold P.aay
 refine (bry words b 80 [1, 8, 7] [19, 61, 6] [28, 34, 39] [14, 18, 41] words (List.replicate 8 0) hi _).trans ?_
 rw [show IntKind.i64.wrap ((64 : Int) * 2) = 128 from rfl, bqy _ (aj3 _ _) b hb hn, boh _ (aj5 _ _ (aj3 _ _) _ _) _ _ _ hl]
theorem bp7 (v : List (BitVec 64)) (hv : v.length = 8) (b : List Int) (hb : In 256 b) (hn : b.length ≤ 1000000) (kd : Int) (tl : List Int) (sz : Int) (a1 : Int) (a2 : List Int) (a3 : Int) {ρ : Type} (k0 : Int → List Int → Int → List Int → List Int → Int → Int → List Int → Int → Option ρ) :
    P.amc 128 b kd (cv v) tl sz a1 a2 a3 k0 = k0 128 (rest 128 b) kd (cv (thr p64 v b (b.length / 128))) tl sz a1 a2 a3 := by
 rw [P.aph]
 unfold P.aqk P.bro P.bp4 P.bvu
 refine zo (fun i => (128, b.drop (128 * i), kd, cv (thr p64 v b i), tl, sz, a1, a2, a3)) (b.length / 128) (by simp [thr]) (fun i hi next hn' => ?_) (fun next => ?_) (by omega)
 ·simp only [P.ajg]
  have hlen : (b.drop (128 * i)).length = b.length - 128 * i := by simp
  have hge : 128 ≤ b.length - 128 * i := by omega
  simp only [hlen, show (128 : Int).toNat = 128 from rfl, toNat_cast, List.drop_zero]
  have hbl : ((b.drop (128 * i)).take 128).length = 16 * 8 := by rw [List.length_take, hlen]; omega
  rw [av (by omega), av (by omega), av (by omega), show ((128 : Int) == 128) = true from rfl, bh0 _ (aj5 _ _ hv _ _) _ ((hb.drop _).take _) hbl, av (by omega), av (by omega), av (by omega),
   List.take_of_length_le (by rw [hlen]; omega), List.drop_drop, show 128 * i + 128 = 128 * (i + 1) by omega]
  exact hn'
 ·simp only [P.ajg]
  have hlen : (b.drop (128 * (b.length / 128))).length = b.length - 128 * (b.length / 128) := by simp
  rw [dh (by rw [hlen]; omega)]
  rfl
end Q
end

section
/- Are two rows of bytes the same. -/
namespace Q
open Go Go.Abs
set_option linter.unusedVariables false
set_option linter.unusedSimpArgs false
end Q
end

section
/- SHA-2: sums that go on, and their ends. -/
namespace Q
open Go Go.Abs
set_option linter.unusedVariables false
set_option linter.unusedSimpArgs false
def bsz (kind : Int) : Nat := if kind = 1 then 64 else 128
theorem ah4 (kind : Int) : (kind = 1 ∧ bsz kind = 64) ∨ (kind ≠ 1 ∧ bsz kind = 128) := by
 unfold bsz
 by_cases h : kind = 1
 ·exact .inl ⟨h, if_pos h⟩
 ·exact .inr ⟨h, if_neg h⟩
theorem qh (kind : Int) {ρ : Type} (k : Int → Option ρ) : P.qh kind k = k ((bsz kind : Nat) : Int) := by
 rw [P.akd]; unfold P.aes
 rcases ah4 kind with ⟨h, e⟩ | ⟨h, e⟩
 ·rw [dw h, e]; rfl
 ·rw [dz h, e]; rfl
theorem xq (kind : Int) {ρ : Type} (k : Int → Option ρ) : P.xq kind k = k ((bsz kind : Nat) : Int) := by
 rw [P.aru]; unfold P.aj7
 rcases ah4 kind with ⟨h, e⟩ | ⟨h, e⟩
 ·rw [dw h, e]; rfl
 ·rw [dz h, e]; rfl
def aov (kind : Int) (words all : List Int) : List Int :=
 if kind = 1 then cv (thr p32 (toV 32 words) all (all.length / 64)) else cv (thr p64 (toV 64 words) all (all.length / 128))
theorem blo (kind : Int) (words all : List Int) : (aov kind words all).length = 8 := by
 unfold aov
 split <;> rw [uj, aj5 _ _ (aj3 _ _)]
def Wok (kind : Int) (words : List Int) : Prop := words.length = 8 ∧ In 18446744073709551616 words ∧ (kind = 1 → In 4294967296 words)
theorem ap7 (kind : Int) (words all : List Int) : Wok kind (aov kind words all) := by
 refine ⟨blo _ _ _, ?_, fun h => ?_⟩
 ·unfold aov
  split
  ·intro x hx
   have := boa _ x hx
   omega
  ·intro x hx
   have := boa _ x hx
   omega
 ·unfold aov
  rw [if_pos h]
  intro x hx
  have := boa _ x hx
  omega
theorem axw (n : Nat) (hn : 0 < n) (b : List Int) : (rest n b).length = b.length % n := by
 unfold rest
 rw [List.length_drop]
 have := Nat.div_add_mod b.length n
 omega
theorem bjo {n : Nat} {b : List Int} (h : In 256 b) : In 256 (rest n b) := h.drop _
theorem abv {ρ : Type} (k : Int → Int → List Int → List Int → List Int → List Int → Option ρ) : P.abv k = k 32 64 [7, 18, 3] [17, 19, 10] [2, 13, 22] [6, 11, 25] := by rw [P.aq7]; rfl
theorem abx {ρ : Type} (k : Int → Int → List Int → List Int → List Int → List Int → Option ρ) : P.abx k = k 64 80 [1, 8, 7] [19, 61, 6] [28, 34, 39] [14, 18, 41] := by rw [P.arw]; rfl
theorem x9 (kind : Int) (words tail : List Int) (size : Int) (b : List Int) (hl : words.length = 8) (hi : In 18446744073709551616 words) (ht : In 256 tail) (hb : In 256 b) (hn : tail.length + b.length ≤ 1000000) {ρ : Type} (k : Int → List Int → List Int → Int → Option ρ) :
    P.x9 kind words tail size b k = k kind (aov kind words (tail ++ b)) (rest (bsz kind) (tail ++ b)) (IntKind.u64.wrap (size + IntKind.u64.wrap (b.length : Int))) := by
 rw [P.av1]; unfold P.ank
 have hf : [tail, b].flatten = tail ++ b := by simp
 have hall : (tail ++ b).length ≤ 1000000 := by rw [List.length_append]; exact hn
 have hin : In 256 (tail ++ b) := ht.app hb
 have hr : ∀ n, (rest n (tail ++ b)).length ≤ 1000000 := fun n => by unfold rest; rw [List.length_drop]; omega
 rw [jc _ (by simp) (by rw [hf]; omega), hf]
 rcases ah4 kind with ⟨h, e⟩ | ⟨h, e⟩
 ·rw [dw h, abv, e]
  rw [bdg words _ hl hi hin hall]
  unfold P.nu aov
  have := hr 64
  rw [av (by omega), if_pos h]
 ·rw [dz h, abx, e]
  rw [bb6 words _ hl hi hin hall]
  unfold P.nu aov
  have := hr 128
  rw [av (by omega), if_neg h]
theorem ab3 (kind : Int) (words tail : List Int) (size : Int) (b : List Int) (hw : Wok kind words) (ht : In 256 tail) (hb : In 256 b) (hn : tail.length + b.length ≤ 1000000) {ρ : Type} (k : Int → List Int → List Int → Int → Option ρ) :
    P.ab3 kind words tail size b k = k kind (aov kind words (tail ++ b)) (rest (bsz kind) (tail ++ b)) (IntKind.u64.wrap (size + IntKind.u64.wrap (b.length : Int))) := by
 rw [P.av9]; unfold P.ana
 obtain ⟨hl, hi, h1⟩ := hw
 have hf : [tail, b].flatten = tail ++ b := by simp
 have hall : (tail ++ b).length ≤ 1000000 := by rw [List.length_append]; exact hn
 have hin : In 256 (tail ++ b) := ht.app hb
 rw [xq, l8 _ (by simp) (by rw [hf]; omega), hf]
 rcases ah4 kind with ⟨h, e⟩ | ⟨h, e⟩
 ·have hv := bm4 32 words hl (h1 h)
  rw [e]
  conv => lhs; rw [← hv]
  rw [show ((64 : Nat) : Int) = 64 from rfl, bsl _ (aj3 _ _) _ hin hall]
  unfold aov
  rw [if_pos h]
 ·have hv := bm4 64 words hl hi
  rw [e]
  conv => lhs; rw [← hv]
  rw [show ((128 : Nat) : Int) = 128 from rfl, bp7 _ (aj3 _ _) _ hin hall]
  unfold aov
  rw [if_neg h]
def bf3 (kind : Int) (tl : Nat) : Nat := if kind = 1 then (119 - tl) % 64 else (239 - tl) % 128 + 8
def pad (kind : Int) (tl : Nat) (size : Nat) : List Int := 128 :: List.replicate (bf3 kind tl) 0 ++ (bsw 8 8 (size * 8 % 2 ^ 64)).reverse
def bcn (n : Nat) (words : List Int) (i : Nat) : List Int := ((List.range i).map fun j => (bsw 8 n (words.getD j 0).toNat).reverse).flatten
theorem apl (n : Nat) (words : List Int) (i : Nat) : bcn n words (i + 1) = bcn n words i ++ (bsw 8 n (words.getD i 0).toNat).reverse := by simp [bcn, List.range_succ]
theorem ah0 (n : Nat) (words : List Int) : ∀ i, (bcn n words i).length = n * i
 | 0 => by simp [bcn]
 | i + 1 => by rw [apl, List.length_append, ah0 n words i, List.length_reverse, acd, Nat.mul_succ]
theorem bcu (n : Nat) (words : List Int) : ∀ i, In 256 (bcn n words i)
 | 0 => by simp [bcn, In]
 | i + 1 => by rw [apl]; exact (bcu n words i).app (bgz 8 n _).rev
def bhs (kind : Int) (words tail : List Int) (size : Nat) : List Int :=
 let o := bcn (bsz kind / 16) (aov kind words (tail ++ pad kind tail.length size)) 8
 if kind = 2 then o.take 48 else o
theorem bn7 (kind : Int) (words tail : List Int) (size : Nat) : In 256 (bhs kind words tail size) := by
 unfold bhs
 simp only
 split
 ·exact (bcu _ _ _).take _
 ·exact bcu _ _ _
theorem bkx (kind : Int) (words tail : List Int) (size : Nat) : (bhs kind words tail size).length = if kind = 1 then 32 else if kind = 2 then 48 else 64 := by
 unfold bhs
 simp only
 rcases ah4 kind with ⟨h, e⟩ | ⟨h, e⟩
 ·rw [if_neg (by omega), if_pos h, ah0, e]
 ·rw [if_neg h, e]
  split
  ·rw [List.length_take, ah0]; decide
  ·rw [ah0]
theorem tmN (a b : Nat) : ((a : Nat) : Int).tmod (b : Int) = ((a % b : Nat) : Int) := by
 rw [Int.tmod_eq_emod_of_nonneg (by omega)]; rfl
theorem bh4 (kind : Int) (tl size : Nat) : In 256 (pad kind tl size) := by
 unfold pad
 refine In.app ?_ (bgz 8 8 _).rev
 intro x hx
 rcases List.mem_cons.1 hx with rfl | hx
 ·omega
 ·rw [List.mem_replicate] at hx; omega
theorem bjh (kind : Int) (tl size : Nat) : (pad kind tl size).length = bf3 kind tl + 9 := by
 unfold pad; simp
theorem bjp (kind : Int) (tl : Nat) : bf3 kind tl ≤ 200 := by
 unfold bf3; split <;> omega
theorem bj8 (n : Nat) (hn : n = 64 ∨ n = 128) (words : List Int) (hw : In 18446744073709551616 words) (a : Int) (b : List Int) (c : Int) (d : List Int) {ρ : Type} (k0 : Int → List Int → Int → List Int → Int → List Int → Int → List Int → Option ρ) :
    P.aoe (n : Int) words 0 [] a b c d k0 = k0 (n : Int) words 8 (bcn (n / 16) words 8) a b c d := by
 rw [P.avi]
 unfold P.asu P.bvt P.brv P.bxe
 have e16 : IntKind.i64.wrap ((n : Int).tdiv 16) = ((n / 16 : Nat) : Int) := by rcases hn with rfl | rfl <;> rfl
 refine zo (fun i => ((n : Int), words, (i : Int), bcn (n / 16) words i, a, b, c, d)) 8 rfl (fun i hi next hn' => ?_) (fun next => ?_) (by omega)
 ·simp only [P.an3, toNat_cast]
  have h1 := hw.getD i (by omega)
  have e4 : IntKind.i64.wrap ((i : Int) + 1) = ((i + 1 : Nat) : Int) := by rw [qb (by omega) (by omega)]; omega
  have e5 : words.getD i 0 = (((words.getD i 0).toNat : Nat) : Int) := by omega
  rw [apl] at hn'
  rw [av (by omega), av (by omega), av (by omega), e16, e5, um _ _ (by omega) (by omega), e4]
  rw [av (by rw [ah0, List.length_reverse, acd]; rcases hn with rfl | rfl <;> omega)]
  exact hn'
 ·simp only [P.an3]
  rw [dh (by omega)]
  rfl
theorem shl3 (size : Nat) : IntKind.u64.wrap ((size : Int) * (2 : Int) ^ 3) = ((size * 8 % 2 ^ 64 : Nat) : Int) := by
 rw [bi5]; omega
theorem ad3 (kind : Int) (words tail : List Int) (size : Nat) (hl : words.length = 8) (hi : In 18446744073709551616 words) (ht : In 256 tail) (hn : tail.length < bsz kind) {ρ : Type} (k : List Int → Option ρ) :
    P.ad3 kind words tail (size : Int) k = k (bhs kind words tail size) := by
 rw [P.axh]; unfold P.an4
 rw [qh]
 have hz : IntKind.i64.wrap (IntKind.i64.wrap ((IntKind.i64.wrap (IntKind.i64.wrap (IntKind.i64.wrap (IntKind.i64.wrap ((2 : Int) * ((bsz kind : Nat) : Int)) - (1 : Int)) - IntKind.i64.wrap (((bsz kind : Nat) : Int).tdiv (8 : Int))) - (tail.length : Int))).tmod ((bsz kind : Nat) : Int) + IntKind.i64.wrap (((bsz kind : Nat) : Int).tdiv (8 : Int))) - (8 : Int)) = ((bf3 kind tail.length : Nat) : Int) := by
  unfold bf3
  rcases ah4 kind with ⟨h, e⟩ | ⟨h, e⟩
  ·rw [e] at hn ⊢
   rw [if_pos h, show IntKind.i64.wrap (IntKind.i64.wrap (IntKind.i64.wrap ((2 : Int) * ((64 : Nat) : Int)) - (1 : Int)) - IntKind.i64.wrap (((64 : Nat) : Int).tdiv (8 : Int))) = 119 from rfl, qb (x := (119 : Int) - (tail.length : Int)) (by omega) (by omega),
    show (119 : Int) - (tail.length : Int) = ((119 - tail.length : Nat) : Int) by omega, tmN, show IntKind.i64.wrap (((64 : Nat) : Int).tdiv (8 : Int)) = 8 from rfl, qb (x := ((((119 - tail.length) % 64 : Nat) : Int)) + 8) (by omega) (by omega), qb (by omega) (by omega)]
   omega
  ·rw [e] at hn ⊢
   rw [if_neg h, show IntKind.i64.wrap (IntKind.i64.wrap (IntKind.i64.wrap ((2 : Int) * ((128 : Nat) : Int)) - (1 : Int)) - IntKind.i64.wrap (((128 : Nat) : Int).tdiv (8 : Int))) = 239 from rfl, qb (x := (239 : Int) - (tail.length : Int)) (by omega) (by omega),
    show (239 : Int) - (tail.length : Int) = ((239 - tail.length : Nat) : Int) by omega, tmN, show IntKind.i64.wrap (((128 : Nat) : Int).tdiv (8 : Int)) = 16 from rfl, qb (x := ((((239 - tail.length) % 128 : Nat) : Int)) + 16) (by omega) (by omega), qb (by omega) (by omega)]
   omega
 have hb : bsz kind = 64 ∨ bsz kind = 128 := by rcases ah4 kind with ⟨h, e⟩ | ⟨h, e⟩ <;> omega
 have hz2 := bjp kind tail.length
 rw [hz]
 simp only [toNat_cast]
 rw [av (by omega), av (by omega), dh (by omega), av (by omega), av (by omega), shl3, show (8 : Int) = ((8 : Nat) : Int) from rfl, um _ 8 (by omega) (by omega)]
 have hp : (List.replicate 1 (0 : Int)).set 0 (128 : Int) ++ List.replicate (bf3 kind tail.length) (0 : Int) ++ (bsw 8 8 (size * 8 % 2 ^ 64)).reverse = pad kind tail.length size := rfl
 rw [av (by
  show ((List.replicate (bf3 kind tail.length) (0 : Int)).length + 0 + 1 + _) * 1 ≤ _
  rw [List.length_replicate, List.length_reverse, acd]; omega), hp]
 have hpl := bjh kind tail.length size
 rw [x9 kind words tail _ _ hl hi ht (bh4 _ _ _) (by omega), bj8 _ hb _ (ap7 _ _ _).2.1]
 unfold bhs
 simp only
 by_cases h2 : kind = 2
 ·have e : bsz kind = 128 := by unfold bsz; rw [if_neg (by omega)]
  rw [dw h2, av (by rw [ah0, e]; omega), if_pos h2]
  rfl
 ·rw [dz h2, if_neg h2]
theorem pads (n : Nat) (hn : n = 64 ∨ n = 128) (tl : Nat) (ht : tl < 200) (z m : Nat) (hm : m < n) (h1 : ∀ i, i < z → (tl + (1 + i)) % n ≠ m) (h2 : (tl + (1 + z)) % n = m) (hz : z ≤ 200) (c : Int) (kd : Int) (words tail : List Int) (size : Int) (hl : tail.length = tl) (d : Int) (hd : IntKind.i64.wrap ((n : Int) - d) = (m : Int)) :
    (d = 8 → ∀ {ρ : Type} (k0 : Int → Int → List Int → Int → List Int → List Int → Int → Option ρ), P.ap4 (n : Int) c [128] kd words tail size k0 = k0 (n : Int) c (128 :: List.replicate z 0) kd words tail size) ∧
    (d = 16 → ∀ {ρ : Type} (k0 : Int → Int → List Int → Int → List Int → List Int → Int → Option ρ), P.aqj (n : Int) c [128] kd words tail size k0 = k0 (n : Int) c (128 :: List.replicate z 0) kd words tail size) := by
 have hlen : ∀ i : Nat, ((128 : Int) :: List.replicate i 0).length = 1 + i := fun i => by simp; omega
 have hc : ∀ i : Nat, i ≤ z → IntKind.i64.wrap (((tail.length : Nat) : Int) + ((((128 : Int) :: List.replicate i 0).length : Nat) : Int)) = ((tl + (1 + i) : Nat) : Int) := fun i hi => by
  rw [hlen, hl, qb (by omega) (by omega)]; omega
 have hs : ∀ i : Nat, ((128 : Int) :: List.replicate i 0) ++ [(0 : Int)] = 128 :: List.replicate (i + 1) 0 := fun i => by
  rw [List.replicate_succ']; rfl
 constructor
 ·rintro rfl ρ k0
  rw [P.axr]
  unfold P.aw2 P.bv2 P.bs1 P.bwg
  refine zo (fun i => ((n : Int), c, 128 :: List.replicate i 0, kd, words, tail, size)) z rfl (fun i hi next hn' => ?_) (fun next => ?_) (by omega)
  ·simp only [P.ap6]
   have := h1 i hi
   rw [hc i (by omega), tmN, hd, dh (by omega), gu (by omega), av (by rw [hlen]; omega), hs]
   exact hn'
  ·simp only [P.ap6]
   rw [hc z (by omega), tmN, hd, dh (by omega), h2, fq (by rfl)]
 ·rintro rfl ρ k0
  rw [P.aym]
  unfold P.awu P.bvi P.bqn P.bw5
  refine zo (fun i => ((n : Int), c, 128 :: List.replicate i 0, kd, words, tail, size)) z rfl (fun i hi next hn' => ?_) (fun next => ?_) (by omega)
  ·simp only [P.aqz]
   have := h1 i hi
   rw [hc i (by omega), tmN, hd, dh (by omega), gu (by omega), av (by rw [hlen]; omega), hs]
   exact hn'
  ·simp only [P.aqz]
   rw [hc z (by omega), tmN, hd, dh (by omega), h2, fq (by rfl)]
theorem bez (n : Nat) (hn : n = 64 ∨ n = 128) (words : List Int) (hw : In 18446744073709551616 words) (a : Int) (b : List Int) (c : Int) {ρ : Type} (k0 : Int → Int → List Int → Int → List Int → List Int → Int → Option ρ) :
    P.ajy (n : Int) 0 [] a words b c k0 = k0 (n : Int) 8 (bcn (n / 16) words 8) a words b c := by
 rw [P.avg]
 unfold P.auj P.bv0 P.br2 P.bw0
 have e16 : IntKind.i64.wrap ((n : Int).tdiv 16) = ((n / 16 : Nat) : Int) := by rcases hn with rfl | rfl <;> rfl
 refine zo (fun i => ((n : Int), (i : Int), bcn (n / 16) words i, a, words, b, c)) 8 rfl (fun i hi next hn' => ?_) (fun next => ?_) (by omega)
 ·simp only [P.anl, toNat_cast]
  have h1 := hw.getD i (by omega)
  have e4 : IntKind.i64.wrap ((i : Int) + 1) = ((i + 1 : Nat) : Int) := by rw [qb (by omega) (by omega)]; omega
  have e5 : words.getD i 0 = (((words.getD i 0).toNat : Nat) : Int) := by omega
  rw [apl] at hn'
  rw [av (by omega), av (by omega), av (by omega), e16, e5, yu _ _ (by omega) (by omega), e4]
  rw [av (by rw [ah0, List.length_reverse, acd]; rcases hn with rfl | rfl <;> omega)]
  exact hn'
 ·simp only [P.anl]
  rw [dh (by omega)]
  rfl
theorem bfc (kind : Int) (words tail : List Int) (size : Nat) {ρ : Type} (k : List Int → Option ρ) :
    (br (kind == (2 : Int)) (br (decide ((48 : Int) ≤ ((bcn (bsz kind / 16) (aov kind words (tail ++ pad kind tail.length size)) 8).length : Int))) (k (List.take ((48 : Int) - (0 : Int)).toNat (bcn (bsz kind / 16) (aov kind words (tail ++ pad kind tail.length size)) 8))) none)
     (k (bcn (bsz kind / 16) (aov kind words (tail ++ pad kind tail.length size)) 8))) = k (bhs kind words tail size) := by
 unfold bhs
 simp only
 by_cases h2 : kind = 2
 ·have e : bsz kind = 128 := by unfold bsz; rw [if_neg (by omega)]
  rw [dw h2, av (by rw [ah0, e]; omega), if_pos h2]
  rfl
 ·rw [dz h2, if_neg h2]
theorem ahc (kind : Int) (words tail : List Int) (size : Nat) (hw : Wok kind words) (ht : In 256 tail) (hn : tail.length < bsz kind) (hs : size < 2305843009213693952) {ρ : Type} (k : List Int → Option ρ) :
    P.ahc kind words tail (size : Int) k = k (bhs kind words tail size) := by
 rw [P.awg]; unfold P.aoa
 have h8 : IntKind.u64.wrap ((size : Int) * 8) = ((size * 8 % 2 ^ 64 : Nat) : Int) := by rw [bi5]; omega
 have hpl := bjh kind tail.length size
 have hz2 := bjp kind tail.length
 rw [xq, h8]
 rcases ah4 kind with ⟨h, e⟩ | ⟨h, e⟩
 ·rw [e] at hn ⊢
  have hp := (pads 64 (.inl rfl) tail.length (by omega) (bf3 kind tail.length) 56 (by omega) (fun i hi => by unfold bf3 at hi; rw [if_pos h] at hi; omega) (by unfold bf3; rw [if_pos h]; omega) hz2 ((size * 8 % 2 ^ 64 : Nat) : Int) kind words tail (size : Int) rfl 8 rfl).1
  rw [hp rfl, dz (by decide), show (8 : Int) = ((8 : Nat) : Int) from rfl, yu _ 8 (by omega) (by omega), av (by simp; omega)]
  have hpad : (128 : Int) :: List.replicate (bf3 kind tail.length) 0 ++ (bsw 8 8 (size * 8 % 2 ^ 64)).reverse = pad kind tail.length size := rfl
  rw [hpad, ab3 kind words tail _ _ hw ht (bh4 _ _ _) (by omega), bez _ (.inl rfl) _ (ap7 _ _ _).2.1]
  have := bfc kind words tail size k
  rw [e] at this
  exact this
 ·rw [e] at hn ⊢
  have hp1 := (pads 128 (.inr rfl) tail.length (by omega) ((247 - tail.length) % 128) 120 (by omega) (fun i hi => by omega) (by omega) (by omega) ((size * 8 % 2 ^ 64 : Nat) : Int) kind words tail (size : Int) rfl 8 rfl).1
  have hp2 := (pads 128 (.inr rfl) tail.length (by omega) ((239 - tail.length) % 128) 112 (by omega) (fun i hi => by omega) (by omega) (by omega) ((size * 8 % 2 ^ 64 : Nat) : Int) kind words tail (size : Int) rfl 16 rfl).2
  have h61 : ((size : Nat) : Int).fdiv ((2 : Int) ^ 61) = ((0 : Nat) : Int) := by
   have := fdiv_pow size 61 61 (by omega)
   rw [Nat.div_eq_of_lt (by omega)] at this
   exact this
  rw [hp1 rfl, dw (by rfl), hp2 rfl, h61, show (8 : Int) = ((8 : Nat) : Int) from rfl, yu _ 8 (by omega) (by omega), av (by simp; omega), yu _ 8 (by omega) (by omega), av (by simp; omega)]
  have hpad : (128 : Int) :: List.replicate ((239 - tail.length) % 128) 0 ++ (bsw 8 8 0).reverse ++ (bsw 8 8 (size * 8 % 2 ^ 64)).reverse = pad kind tail.length size := by
   unfold pad bf3
   rw [if_neg h, ← List.replicate_append_replicate]
   rfl
  rw [hpad, ab3 kind words tail _ _ hw ht (bh4 _ _ _) (by omega), bez _ (.inr rfl) _ (ap7 _ _ _).2.1]
  have := bfc kind words tail size k
  rw [e] at this
  exact this
def ba4 (kind : Int) : List Int :=
 if kind = 1 then [1779033703, 3144134277, 1013904242, 2773480762, 1359893119, 2600822924, 528734635, 1541459225]
 else if kind = 2 then [14680500436340154072, 7105036623409894663, 10473403895298186519, 1526699215303891257, 7436329637833083697, 10282925794625328401, 15784041429090275239, 5167115440072839076]
 else [7640891576956012808, 13503953896175478587, 4354685564936845355, 11912009170470909681, 5840696475078001361, 11170449401992604703, 2270897969802886507, 6620516959819538809]
theorem bhg (kind : Int) : Wok kind (ba4 kind) := by
 unfold ba4 Wok
 by_cases h1 : kind = 1
 ·simp only [if_pos h1]
  refine ⟨rfl, ?_, fun _ => ?_⟩
  ·unfold In; decide
  ·unfold In; decide
 ·by_cases h2 : kind = 2
  ·simp only [if_neg h1, if_pos h2]
   refine ⟨rfl, ?_, fun h => absurd h h1⟩
   unfold In; decide
  ·simp only [if_neg h1, if_neg h2]
   refine ⟨rfl, ?_, fun h => absurd h h1⟩
   unfold In; decide
def K3 (kind : Int) : Prop := kind = 1 ∨ kind = 2 ∨ kind = 3
theorem bci {kind : Int} (h : K3 kind) {ρ : Type} (k : List Int → Bool → Option ρ) : P.adt kind k = k (ba4 kind) true := by
 rw [P.aq4]
 rcases h with rfl | rfl | rfl <;> kernel_rfl
theorem ag4 {kind : Int} (h : K3 kind) {ρ : Type} (k : Int → List Int → List Int → Int → Int → Option ρ) : P.ag4 kind k = k kind (ba4 kind) [] 0 0 := by
 rw [P.awl]; unfold P.an9
 rw [bci h, ku, p8]
theorem ahf {kind : Int} (h : K3 kind) {ρ : Type} (k : Int → List Int → List Int → Int → Int → Option ρ) : P.ahf kind k = k kind (ba4 kind) [] 0 0 := by
 rw [P.awi]; unfold P.ani ba4
 rcases h with rfl | rfl | rfl
 ·rw [dw (by rfl)]; rfl
 ·rw [dz (by decide), dw (by rfl)]; rfl
 ·rw [dz (by decide), dz (by decide), dw (by rfl)]; rfl
theorem aqi (kind : Int) : 0 < bsz kind := by rcases ah4 kind with ⟨h, e⟩ | ⟨h, e⟩ <;> omega
def bj0 (kind : Int) (b : List Int) : List Int := bhs kind (aov kind (ba4 kind) b) (rest (bsz kind) b) b.length
theorem beg (b : List Int) (hn : b.length ≤ 1000000) : IntKind.u64.wrap ((0 : Int) + IntKind.u64.wrap (b.length : Int)) = ((b.length : Nat) : Int) := by
 rw [ahp _ (by omega), Int.zero_add, ahp _ (by omega)]
theorem adz {kind : Int} (h : K3 kind) (b : List Int) (hb : In 256 b) (hn : b.length ≤ 1000000) {ρ : Type} (k : List Int → Int → Option ρ) : P.adz kind b k = k (bj0 kind b) 0 := by
 rw [P.av7]; unfold P.aod
 have hw := bhg kind
 have hr := axw _ (aqi kind) b
 have hlt := Nat.mod_lt b.length (aqi kind)
 rw [ahf h, fq (by rfl), ab3 kind _ [] _ b hw In.nil hb (by simpa using hn), List.nil_append, beg b hn, ahc kind _ _ _ (ap7 _ _ _) (bjo hb) (by omega) (by omega)]
 rfl
theorem bn6 (kind : Int) (b : List Int) : In 256 (bj0 kind b) := bn7 _ _ _ _
theorem bk8 (kind : Int) (b : List Int) : (bj0 kind b).length = if kind = 1 then 32 else if kind = 2 then 48 else 64 := bkx _ _ _ _
end Q
end

section
/- SHA-2: which sums can be, which are the same; the examples. -/
namespace Q
open Go Go.Abs
set_option linter.unusedVariables false
set_option linter.unusedSimpArgs false
theorem first (p : Nat → Bool) : ∀ n, ∃ m, m ≤ n ∧ (∀ i, i < m → p i = true) ∧ (m = n ∨ (m < n ∧ p m = false))
 | 0 => ⟨0, by omega, by omega, .inl rfl⟩
 | n + 1 => by
  obtain ⟨m, h1, h2, h3⟩ := first p n
  rcases h3 with h3 | ⟨h3, h4⟩
  ·subst h3
   cases hp : p m with
   | true => exact ⟨m + 1, by omega, fun i hi => by
       by_cases e : i = m
       ·rw [e]; exact hp
       ·exact h2 i (by omega), .inl rfl⟩
   | false => exact ⟨m, by omega, h2, .inr ⟨by omega, hp⟩⟩
  ·exact ⟨m, by omega, h2, .inr ⟨by omega, h4⟩⟩
end Q
end

section
/- mac: digests, with keys and without. -/
namespace Q
open QK
open Go Go.Abs
set_option linter.unusedVariables false
set_option linter.unusedSimpArgs false
def K7 (kd : Int) : Prop := kd = 1 ∨ kd = 2 ∨ kd = 3 ∨ kd = 4 ∨ kd = 5 ∨ kd = 6 ∨ kd = 7
theorem K7.of {kd : Int} (h : 1 ≤ kd ∧ kd ≤ 7) : K7 kd := by unfold K7; omega
theorem bqw {α : Type} (a b : List α) (x y : α) (i : Nat) (h : a.length = i) : (a ++ x :: b).set i y = a ++ y :: b := by
 subst h
 rw [List.set_append_right _ _ (Nat.le_refl _), Nat.sub_self]
 rfl
def bk (kd : Int) : Nat := if kd ≤ 3 then bsz kd else rOf kd
end Q
end

section
/- mac: bytes of keys and of seeds. -/
namespace Q
open QK
open Go Go.Abs
set_option linter.unusedVariables false
set_option linter.unusedSimpArgs false
def cat (T : Nat → List Int) : Nat → List Int
 | 0 => []
 | j + 1 => cat T j ++ T j
theorem bcz {T : Nat → List Int} {d : Nat} (h : ∀ i, (T i).length = d) : ∀ j, (cat T j).length = j * d
 | 0 => by simp [cat]
 | j + 1 => by rw [cat, List.length_append, bcz h j, h, Nat.succ_mul]
theorem biu {T : Nat → List Int} (h : ∀ i, In 256 (T i)) : ∀ j, In 256 (cat T j)
 | 0 => In.nil
 | j + 1 => (biu h j).app (h j)
end Q
end

section
/- SHA-2: bytes that are added one behind the other. -/
namespace Q
open Go Go.Abs
set_option linter.unusedVariables false
set_option linter.unusedSimpArgs false
theorem axp {w : Nat} (p : Par w) (v : List (BitVec w)) (a b : List Int) (m : Nat) (hm : (2 * w) * m = a.length) : ∀ i, thr p v (a ++ b) (m + i) = thr p (thr p v a m) b i ∧ thr p v (a ++ b) m = thr p v a m := by
 have key : ∀ i, i ≤ m → thr p v (a ++ b) i = thr p v a i := by
  intro i
  induction i with
  | zero => intro _; rfl
  | succ i ih =>
   intro hi
   have h1 : (2 * w) * i + 2 * w ≤ a.length := by
    rw [← hm, ← Nat.mul_succ]
    exact Nat.mul_le_mul (Nat.le_refl _) hi
   simp only [thr]
   rw [ih (by omega), List.drop_append_of_le_length (by omega), List.take_append_of_le_length (by rw [List.length_drop]; omega)]
 intro i
 refine ⟨?_, key m (Nat.le_refl _)⟩
 induction i with
 | zero => exact key m (Nat.le_refl _)
 | succ i ih =>
  rw [← Nat.add_assoc]
  simp only [thr]
  rw [ih, Nat.mul_add, hm, List.drop_append, List.drop_eq_nil_of_le (by omega), List.nil_append, Nat.add_sub_cancel_left]
end Q
end

section
/- lmots: the digits as the program and as the document count them. -/
namespace Q
open Go Go.Abs
set_option linter.unusedVariables false
set_option linter.unusedSimpArgs false
end Q
end

section
/- wots: the digits of a text. -/
namespace Q
open Go Go.Abs
set_option linter.unusedVariables false
set_option linter.unusedSimpArgs false
def wl (n : Nat) (x : List Int) : Nat := 15 * (2 * n) - sumTo (ax6 x 4 ((2 * n : Nat) : Int)) (2 * n)
end Q
end

section
/- wots: kinds, places, digits, by the program and by the document. -/
namespace Q
open QK
open Go Go.Abs
set_option linter.unusedVariables false
set_option linter.unusedSimpArgs false
def aax (N H D A K : Int) : Prop := (N = 16 ∨ N = 24 ∨ N = 32) ∧ 1 ≤ D ∧ H ≤ 68 ∧ D ≤ H ∧ H.tmod D = 0 ∧ IntKind.i64.wrap (H.tdiv D) ≤ 9 ∧ 1 ≤ A ∧ A ≤ 14 ∧ 1 ≤ K ∧ K ≤ 40
instance (N H D A K : Int) : Decidable (aax N H D A K) := by unfold aax; infer_instance
theorem ayf (N H D A K : Int) (hN : N = 16 ∨ N = 24 ∨ N = 32) {ρ : Type} (k : Bool → Option ρ) :
    (br (decide (D < (1 : Int))) (k false) (br (decide (H < D)) (k false) (br (decide (H > (68 : Int))) (k false)
     (br (decide (D = (0 : Int))) none (br (H.tmod D != (0 : Int)) (k false) (br (decide (D = (0 : Int))) none
      (br (decide (IntKind.i64.wrap (H.tdiv D) > (9 : Int))) (k false) (br (decide (A ≥ (1 : Int)))
       (br (decide (A ≤ (14 : Int))) (br (decide (K ≥ (1 : Int))) (k (decide (K ≤ (40 : Int)))) (k false)) (k false)) (k false))))))))) = k (decide (aax N H D A K)) := by
 by_cases h1 : D < 1
 ·rw [av h1, decide_eq_false (by unfold aax; omega)]
 rw [dh h1]
 by_cases h2 : H < D
 ·rw [av h2, decide_eq_false (by unfold aax; omega)]
 rw [dh h2]
 by_cases h3 : H > 68
 ·rw [av h3, decide_eq_false (by unfold aax; omega)]
 rw [dh h3, dh (by omega)]
 by_cases h4 : H.tmod D = 0
 ·rw [fq h4, dh (by omega)]
  by_cases h5 : IntKind.i64.wrap (H.tdiv D) > 9
  ·rw [av h5, decide_eq_false (by unfold aax; omega)]
  rw [dh h5]
  by_cases h6 : A ≥ 1
  ·rw [av h6]
   by_cases h7 : A ≤ 14
   ·rw [av h7]
    by_cases h8 : K ≥ 1
    ·rw [av h8]
     congr 1
     apply decide_eq_decide.2
     unfold aax
     omega
    ·rw [dh h8, decide_eq_false (by unfold aax; omega)]
   ·rw [dh h7, decide_eq_false (by unfold aax; omega)]
  ·rw [dh h6, decide_eq_false (by unfold aax; omega)]
 ·rw [gu h4, decide_eq_false (by unfold aax; omega)]
theorem uf (N H D A K : Int) (z : Bool) {ρ : Type} (k : Bool → Option ρ) : P.uf N H D A K z k = k (decide (aax N H D A K)) := by
 rw [P.aud]; unfold P.alm
 by_cases h1 : N = 16
 ·rw [fq h1]; exact ayf N H D A K (.inl h1) k
 rw [gu h1]
 by_cases h2 : N = 24
 ·rw [fq h2]; exact ayf N H D A K (.inr (.inl h2)) k
 rw [gu h2]
 by_cases h3 : N = 32
 ·rw [fq h3]; exact ayf N H D A K (.inr (.inr h3)) k
 rw [gu h3, decide_eq_false (by unfold aax; omega)]
theorem asq (N H D A K : Int) (hN : N = 16 ∨ N = 24 ∨ N = 32) {ρ : Type} (k : Bool → Option ρ) :
    (br (decide (D ≥ (1 : Int))) (br (decide (H ≤ (68 : Int))) (br (decide (H ≥ D)) (br (decide (D = (0 : Int))) none
       (br (H.tmod D == (0 : Int)) (br (decide (D = (0 : Int))) none (br (decide (IntKind.i64.wrap (H.tdiv D) ≤ (9 : Int)))
          (br (decide (A ≥ (1 : Int))) (br (decide (A ≤ (14 : Int))) (br (decide (K ≥ (1 : Int))) (k (decide (K ≤ (40 : Int)))) (k false)) (k false))
          (k false)) (k false))) (k false))) (k false)) (k false)) (k false)) = k (decide (aax N H D A K)) := by
 by_cases h1 : D ≥ 1
 ·rw [av h1]
  by_cases h3 : H ≤ 68
  ·rw [av h3]
   by_cases h2 : H ≥ D
   ·rw [av h2, dh (by omega)]
    by_cases h4 : H.tmod D = 0
    ·rw [dw h4, dh (by omega)]
     by_cases h5 : IntKind.i64.wrap (H.tdiv D) ≤ 9
     ·rw [av h5]
      by_cases h6 : A ≥ 1
      ·rw [av h6]
       by_cases h7 : A ≤ 14
       ·rw [av h7]
        by_cases h8 : K ≥ 1
        ·rw [av h8]
         congr 1
         apply decide_eq_decide.2
         unfold aax
         omega
        ·rw [dh h8, decide_eq_false (by unfold aax; omega)]
       ·rw [dh h7, decide_eq_false (by unfold aax; omega)]
      ·rw [dh h6, decide_eq_false (by unfold aax; omega)]
     ·rw [dh h5, decide_eq_false (by unfold aax; omega)]
    ·rw [dz h4, decide_eq_false (by unfold aax; omega)]
   ·rw [dh h2, decide_eq_false (by unfold aax; omega)]
  ·rw [dh h3, decide_eq_false (by unfold aax; omega)]
 ·rw [dh h1, decide_eq_false (by unfold aax; omega)]
theorem vk (N H D A K : Int) (z : Bool) {ρ : Type} (k : Bool → Option ρ) : P.vk N H D A K z k = k (decide (aax N H D A K)) := by
 rw [P.axm]; unfold P.an0
 by_cases h1 : N = 16
 ·rw [fq h1]; exact asq N H D A K (.inl h1) k
 rw [gu h1]
 by_cases h2 : N = 24
 ·rw [fq h2]; exact asq N H D A K (.inr (.inl h2)) k
 rw [gu h2]
 by_cases h3 : N = 32
 ·rw [fq h3]; exact asq N H D A K (.inr (.inr h3)) k
 rw [gu h3, decide_eq_false (by unfold aax; omega)]
def auv (a : List Int) (i : Nat) (b : List Int) : List Int := a.take i ++ b ++ a.drop (i + b.length)
theorem apm (a : List Int) (i : Nat) (b : List Int) (h : i + b.length ≤ a.length) : (auv a i b).length = a.length := by
 unfold auv; simp; omega
theorem ayp {a : List Int} {i : Nat} {b : List Int} (ha : In 256 a) (hb : In 256 b) : In 256 (auv a i b) := ((ha.take i).app hb).app (ha.drop _)
def be4 (n v : Nat) : List Int := (bsw 8 n v).reverse
theorem aac (n v : Nat) : (be4 n v).length = n := by simp [be4]
theorem bd9 (n v : Nat) : In 256 (be4 n v) := (bgz 8 n v).rev
def asl (a : List Int) (part : Int) (v : Nat) : List Int :=
 if part = 0 then auv a 0 (be4 4 v) else if part = 1 then auv a 4 (be4 12 v) else if part = 2 then auv a 16 (be4 4 v ++ List.replicate 12 0)
 else if part = 3 ∨ part = 4 ∨ part = 5 then auv a (8 + 4 * part.toNat) (be4 4 v) else a
theorem qg {a : List Int} (h : a.length = 32) (part : Int) (v : Nat) : (asl a part v).length = 32 := by
 unfold asl
 have h4 := aac 4 v
 have h12 := aac 12 v
 split
 ·rw [apm _ _ _ (by omega), h]
 split
 ·rw [apm _ _ _ (by omega), h]
 split
 ·rw [apm _ _ _ (by rw [List.length_append, List.length_replicate]; omega), h]
 split
 ·rw [apm _ _ _ (by omega), h]
 exact h
theorem ag7 {a : List Int} (h : In 256 a) (part : Int) (v : Nat) : In 256 (asl a part v) := by
 unfold asl
 split
 ·exact ayp h (bd9 _ _)
 split
 ·exact ayp h (bd9 _ _)
 split
 ·exact ayp h ((bd9 _ _).app (fun x hx => by rw [List.mem_replicate] at hx; omega))
 split
 ·exact ayp h (bd9 _ _)
 exact h
theorem cpy (a : List Int) (i m : Nat) (b : List Int) (hb : b.length ≤ m) : (a.take i).append (b.take m ++ a.drop (i + min m b.length)) = auv a i b := by
 rw [List.take_of_length_le hb, Nat.min_eq_right hb]
 show a.take i ++ (b ++ _) = _
 rw [← List.append_assoc]
 rfl
theorem oh {a : List Int} (h : a.length = 32) (part : Int) (v : Nat) (hv : v < 18446744073709551616) {ρ : Type} (k : List Int → Option ρ) : P.oh a part (v : Int) k = k (asl a part v) := by
 rw [P.aub]; unfold P.ak9 asl
 have h4 : (bsw 8 4 v).reverse.length = 4 := by simp
 have h12 : (bsw 8 12 v).reverse.length = 12 := by simp
 have be : ∀ (k' : List Int → Option ρ), P.um (v : Int) 4 k' = k' (be4 4 v) := fun k' => um v 4 hv (by omega) k'
 have be' : ∀ (k' : List Int → Option ρ), P.um (v : Int) 12 k' = k' (be4 12 v) := fun k' => um v 12 hv (by omega) k'
 by_cases h0 : part = 0
 ·rw [dw h0, if_pos h0, be]
  exact congrArg k (by rw [← cpy a 0 4 (be4 4 v) (by rw [aac]; omega)]; rfl)
 rw [dz h0, if_neg h0]
 by_cases h1 : part = 1
 ·rw [dw h1, if_pos h1, be']
  exact congrArg k (cpy a 4 12 _ (by rw [aac]; omega))
 rw [dz h1, if_neg h1]
 by_cases h2 : part = 2
 ·have e : [be4 4 v, List.replicate 12 (0 : Int)].flatten = be4 4 v ++ List.replicate 12 0 := by simp
  rw [dw h2, if_pos h2, be, jo _ (by simp) (by rw [e]; simp [aac]), e]
  exact congrArg k (cpy a 16 16 _ (by rw [List.length_append, aac, List.length_replicate]; omega))
 rw [dz h2, if_neg h2]
 have fin : ∀ (p : Nat), part = (p : Int) → 3 ≤ p → p ≤ 5 → (br (decide ((0 : Int) ≤ IntKind.i64.wrap ((8 : Int) + IntKind.i64.wrap ((4 : Int) * part))))
     (br (decide (IntKind.i64.wrap ((8 : Int) + IntKind.i64.wrap ((4 : Int) * part)) ≤ ((32 : Nat) : Int)))
      (P.um (v : Int) (4 : Int) fun (q4 : List Int) =>
       k ((List.take (IntKind.i64.wrap ((8 : Int) + IntKind.i64.wrap ((4 : Int) * part))).toNat a).append
        (List.take (((32 : Nat) : Int) - IntKind.i64.wrap ((8 : Int) + IntKind.i64.wrap ((4 : Int) * part))).toNat q4 ++
         List.drop ((IntKind.i64.wrap ((8 : Int) + IntKind.i64.wrap ((4 : Int) * part))).toNat +
          min (((32 : Nat) : Int) - IntKind.i64.wrap ((8 : Int) + IntKind.i64.wrap ((4 : Int) * part))).toNat q4.length) a))) none) none) = k (auv a (8 + 4 * part.toNat) (be4 4 v)) := by
  intro p hp h3 h5
  subst hp
  have e : IntKind.i64.wrap ((8 : Int) + IntKind.i64.wrap ((4 : Int) * (p : Int))) = ((8 + 4 * p : Nat) : Int) := by
   rw [qb (x := 4 * (p : Int)) (by omega) (by omega), qb (by omega) (by omega)]; omega
  rw [e, av (by omega), av (by omega), be, show (((32 : Nat) : Int) - ((8 + 4 * p : Nat) : Int)).toNat = 24 - 4 * p by omega, toNat_cast, toNat_cast]
  exact congrArg k (cpy a _ _ _ (by rw [aac]; omega))
 by_cases h3 : part = 3
 ·rw [dw h3, dw h3, if_pos (.inl h3)]
  exact fin 3 h3 (by omega) (by omega)
 rw [dz h3]
 by_cases h4' : part = 4
 ·rw [dw h4', dw h4', if_pos (.inr (.inl h4'))]
  exact fin 4 h4' (by omega) (by omega)
 rw [dz h4']
 by_cases h5 : part = 5
 ·rw [dw h5, if_pos (.inr (.inr h5))]
  exact fin 5 h5 (by omega) (by omega)
 rw [dz h5, if_neg (by omega)]
theorem y8 {a : List Int} (h : a.length = 32) (i : Nat) (b : List Int) (hb : i + b.length ≤ 32) {ρ : Type} (k : List Int → Option ρ) : P.y8 a (i : Int) b k = k (auv a i b) := by
 rw [P.aw1]; unfold P.aoc
 rw [P.axt]; unfold P.axl P.bu1 P.bs6 P.bw7
 refine zo (fun j => ((i : Int), b, (j : Int), auv a i (b.take j), ([0, 0, 0, 0, 0, 0, 0, 0, 0, 0, 0, 0, 0, 0, 0, 0, 0, 0, 0, 0, 0, 0, 0, 0, 0, 0, 0, 0, 0, 0, 0, 0] : List Int))) b.length (by simp [auv]) (fun j hj next hn => ?_) (fun next => ?_) (by omega)
 ·have e1 : (auv a i (b.take j)).set (i + j) (b.getD j 0) = auv a i (b.take (j + 1)) := by
    unfold auv
    rw [List.length_take, List.length_take, Nat.min_eq_left (by omega), Nat.min_eq_left (by omega), afq a 0 (i + j) (by omega), bqw _ _ _ _ (i + j) (by simp; omega), List.take_succ_eq_append_getElem hj, getD_lt hj]
    simp only [Nat.add_assoc, List.append_assoc, List.singleton_append, List.length_append, List.length_singleton]
    done
  simp only [P.aqx, toNat_cast]
  rw [av (by omega), av (by omega), av (by omega), qb (x := (i : Int) + (j : Int)) (by omega) (by omega), av (by omega), av (by omega), qb (by omega) (by omega), show ((i : Int) + (j : Int)).toNat = i + j by omega, e1]
  exact hn
 ·simp only [P.aqx]
  rw [dh (by omega), List.take_length]
theorem uz {a : List Int} (h : a.length = 32) (part : Int) (v : Nat) (hv : v < 18446744073709551616) {ρ : Type} (k : List Int → Option ρ) : P.uz a part (v : Int) k = k (asl a part v) := by
 rw [P.awc]; unfold P.anu asl
 have be : ∀ (k' : List Int → Option ρ), P.yu (v : Int) 4 k' = k' (be4 4 v) := fun k' => yu v 4 hv (by omega) k'
 have be' : ∀ (k' : List Int → Option ρ), P.yu (v : Int) 12 k' = k' (be4 12 v) := fun k' => yu v 12 hv (by omega) k'
 by_cases h0 : part = 0
 ·rw [dw h0, if_pos h0, be]
  exact y8 h 0 _ (by rw [aac]; omega) _
 rw [dz h0, if_neg h0]
 by_cases h1 : part = 1
 ·rw [dw h1, if_pos h1, be']
  exact y8 h 4 _ (by rw [aac]; omega) _
 rw [dz h1, if_neg h1]
 by_cases h2 : part = 2
 ·have hl := apm a 16 (be4 4 v) (by rw [aac]; omega)
  rw [dw h2, if_pos h2, be]
  refine (y8 h 16 _ (by rw [aac]; omega) _).trans ((y8 (by rw [hl, h]) 20 _ (by simp) _).trans (congrArg k ?_))
  unfold auv
  have e1 : (a.take 16 ++ be4 4 v).length = 20 := by rw [List.length_append, List.length_take, aac]; omega
  rw [aac, List.length_append, aac, List.length_replicate, List.take_append_of_le_length (by omega), List.take_of_length_le (by omega), List.drop_append, List.drop_eq_nil_of_le (by omega), e1, List.drop_drop, List.append_assoc (a.take 16)]
  rfl
 rw [dz h2, if_neg h2]
 have fin : ∀ (p : Nat), part = (p : Int) → 3 ≤ p → p ≤ 5 → (P.yu (v : Int) (4 : Int) fun (q7 : List Int) => P.y8 a (IntKind.i64.wrap ((8 : Int) + IntKind.i64.wrap ((4 : Int) * part))) q7 fun (q8 : List Int) => k q8) = k (auv a (8 + 4 * part.toNat) (be4 4 v)) := by
  intro p hp h3 h5
  subst hp
  have e : IntKind.i64.wrap ((8 : Int) + IntKind.i64.wrap ((4 : Int) * (p : Int))) = ((8 + 4 * p : Nat) : Int) := by
   rw [qb (x := 4 * (p : Int)) (by omega) (by omega), qb (by omega) (by omega)]; omega
  rw [e, be, y8 h _ _ (by rw [aac]; omega), toNat_cast]
 by_cases h3 : part = 3
 ·rw [dw h3, dw h3, if_pos (.inl h3)]
  exact fin 3 h3 (by omega) (by omega)
 rw [dz h3]
 by_cases h4' : part = 4
 ·rw [dw h4', dw h4', if_pos (.inr (.inl h4'))]
  exact fin 4 h4' (by omega) (by omega)
 rw [dz h4']
 by_cases h5 : part = 5
 ·rw [dw h5, if_pos (.inr (.inr h5))]
  exact fin 5 h5 (by omega) (by omega)
 rw [dz h5, if_neg (by omega)]
end Q
end

section
/- wots: sums at places. -/
namespace Q
open QK
open Go Go.Abs
set_option linter.unusedVariables false
set_option linter.unusedSimpArgs false
theorem bjy {kind : Int} (w blk b : List Int) (hl : blk.length = bsz kind) : aov kind (aov kind w blk) b = aov kind w (blk ++ b) := by
 unfold aov
 rcases ah4 kind with ⟨h, e⟩ | ⟨h, e⟩
 ·rw [e] at hl
  have := (axp p32 (toV 32 w) blk b 1 (by omega) (b.length / 64)).1
  simp only [if_pos h]
  rw [bmw _ (aj5 _ _ (aj3 _ _) _ _), List.length_append, hl, show (64 + b.length) / 64 = 1 + b.length / 64 by omega, Nat.div_self (by omega), this]
 ·rw [e] at hl
  have := (axp p64 (toV 64 w) blk b 1 (by omega) (b.length / 128)).1
  simp only [if_neg h]
  rw [bmw _ (aj5 _ _ (aj3 _ _) _ _), List.length_append, hl, show (128 + b.length) / 128 = 1 + b.length / 128 by omega, Nat.div_self (by omega), this]
theorem bkd {n : Nat} (hn : 0 < n) (blk b : List Int) (hl : blk.length = n) : rest n (blk ++ b) = rest n b := by
 unfold rest
 rw [List.length_append, hl, Nat.add_comm n, Nat.add_div_right _ hn, Nat.mul_succ, List.drop_append, List.drop_eq_nil_of_le (by omega), List.nil_append, hl, Nat.add_sub_cancel]
def blk (kind : Int) (pub : List Int) : List Int := pub ++ List.replicate (bsz kind - pub.length) 0
theorem bdi (kind : Int) (pub : List Int) (h : pub.length ≤ 64) : (blk kind pub).length = bsz kind := by
 unfold blk
 rcases ah4 kind with ⟨_, e⟩ | ⟨_, e⟩ <;> rw [List.length_append, List.length_replicate, e] <;> omega
theorem bm3 {kind : Int} {pub : List Int} (h : In 256 pub) : In 256 (blk kind pub) := h.app (fun x hx => by rw [List.mem_replicate] at hx; omega)
theorem sj {kind : Int} (h : K3 kind) (pub : List Int) (hp : In 256 pub) (hn : pub.length ≤ 64) (B : Int) (hB : B = ((bsz kind : Nat) : Int)) {ρ : Type} (k : Int → List Int → List Int → Int → Option ρ) :
    P.sj kind B pub k = k kind (aov kind (ba4 kind) (blk kind pub)) [] B := by
 have hb : bsz kind = 64 ∨ bsz kind = 128 := by rcases ah4 kind with ⟨_, e⟩ | ⟨_, e⟩ <;> omega
 have hw := bhg kind
 have e1 : [pub].flatten = pub := by simp
 have e2 : IntKind.i64.wrap (B - (pub.length : Int)) = ((bsz kind - pub.length : Nat) : Int) := by rw [qb (by omega) (by omega)]; omega
 have hl := bdi kind pub hn
 have er : rest (bsz kind) (blk kind pub) = [] := List.eq_nil_of_length_eq_zero (by rw [axw _ (aqi kind), hl, Nat.mod_self])
 have e3 := beg (blk kind pub) (by omega)
 rw [P.amq]; unfold P.ahb
 rw [ag4 h, jo _ (by simp) (by rw [e1]; omega), e1, e2, toNat_cast, av (by omega), av (by omega)]
 show P.x9 kind (ba4 kind) [] 0 (blk kind pub) _ = _
 rw [x9 kind _ [] _ _ hw.1 hw.2.1 In.nil (bm3 hp) (by rw [List.length_nil]; omega), List.nil_append, er, e3, hl, hB]
def sho (a : List Int) : List Int := (a.drop 3).take 1 ++ ((a.drop 8).take 8 ++ (a.drop 19).take 13)
theorem ayb (a : List Int) : (sho a).length ≤ 22 := by unfold sho; simp; omega
theorem bm2 {a : List Int} (h : In 256 a) : In 256 (sho a) := ((h.drop _).take _).app (((h.drop _).take _).app ((h.drop _).take _))
theorem su (a : List Int) {ρ : Type} (k : List Int → Option ρ) : P.su a k = k (sho a) := by
 have e : [List.take 1 (List.drop 3 a), List.take 8 (List.drop 8 a), List.take 13 (List.drop 19 a)].flatten = sho a := by unfold sho; simp
 have := ayb a
 rw [P.ao7]; unfold P.aib
 rw [jo _ (by simp) (by rw [e]; omega), e]
theorem za (a : List Int) {ρ : Type} (k : List Int → Option ρ) : P.za a k = k (sho a) := by
 have e0 : List.take 13 (List.drop 19 a) = List.take 1 (List.drop 19 a) ++ List.take 12 (List.drop 20 a) := by
  rw [show (13 : Nat) = 1 + 12 from rfl, List.take_add, List.drop_drop]
 have e : [List.take 1 (List.drop 3 a), List.take 8 (List.drop 8 a), List.take 1 (List.drop 19 a), List.take 12 (List.drop 20 a)].flatten = sho a := by unfold sho; rw [e0]; simp
 have := ayb a
 rw [P.ard]; unfold P.ajq
 rw [l8 _ (by simp) (by rw [e]; omega), e]
def hk (n : Nat) (t : List Int) : Int := if 16 < n ∧ n < t.length then 3 else 1
def bbw (n : Nat) (sh : Bool) (pub a t : List Int) : List Int := if sh then btb 7 (pub ++ (a ++ t)) n else (bj0 (hk n t) (blk (hk n t) pub ++ (sho a ++ t))).take n
theorem bb4 {kd : Int} (h : kd = 1 ∨ kd = 3) (b : List Int) : 32 ≤ (bj0 kd b).length := by
 rw [bk8]; rcases h with rfl | rfl <;> simp
theorem hk13 (n : Nat) (t : List Int) : hk n t = 1 ∨ hk n t = 3 := by unfold hk; split; exact .inr rfl; exact .inl rfl
theorem asi {n : Nat} (hn : n ≤ 32) (sh : Bool) (pub a t : List Int) : (bbw n sh pub a t).length = n := by
 unfold bbw
 split
 ·exact bks _ _ _
 ·have := bb4 (hk13 n t) (blk (hk n t) pub ++ (sho a ++ t))
  rw [List.length_take]; omega
theorem bc9 (n : Nat) (sh : Bool) (pub a t : List Int) : In 256 (bbw n sh pub a t) := by
 unfold bbw
 split
 ·exact bo2 _ _ _
 ·exact (bn6 _ _).take _
theorem atu {kind : Int} (h : kind = 1 ∨ kind = 3) {n : Nat} (hn : n ≤ 32) (pub : List Int) (hp : In 256 pub) (np : pub.length ≤ 64) (q : List Int) (hq : In 256 q) (nq : q.length ≤ 100000) (B : Int) (hB : B = ((bsz kind : Nat) : Int)) {ρ : Type} (k : List Int → Option ρ) :
    (P.x9 kind (aov kind (ba4 kind) (blk kind pub)) [] B q fun (q2 : Int) (q3 q4 : List Int) (q5 : Int) => P.ad3 q2 q3 q4 q5 fun (q6 : List Int) =>
     br (decide ((0 : Int) ≤ (n : Int))) (br (decide ((n : Int) ≤ (q6.length : Int))) (k (List.take ((n : Int) - (0 : Int)).toNat (List.drop 0 q6))) none) none) = k ((bj0 kind (blk kind pub ++ q)).take n) := by
 have hb : bsz kind = 64 ∨ bsz kind = 128 := by rcases ah4 kind with ⟨_, e⟩ | ⟨_, e⟩ <;> omega
 have hw := ap7 kind (ba4 kind) (blk kind pub)
 have hl := bdi kind pub np
 have hw2 := ap7 kind (aov kind (ba4 kind) (blk kind pub)) ([] ++ q)
 have hr := axw (bsz kind) (aqi kind) ([] ++ q)
 have hm := Nat.mod_lt ([] ++ q).length (aqi kind)
 have e3 : IntKind.u64.wrap (B + IntKind.u64.wrap (q.length : Int)) = (((blk kind pub ++ q).length : Nat) : Int) := by
  rw [ahp _ (by omega), hB, ← Int.natCast_add, ahp _ (by omega), List.length_append, hl]
 have hs := bb4 h (blk kind pub ++ q)
 rw [x9 kind _ [] _ q hw.1 hw.2.1 In.nil hq (by rw [List.length_nil]; omega), e3, ad3 _ _ _ _ hw2.1 hw2.2.1 (bjo (In.nil.app hq)) (by omega)]
 have e4 : bhs kind (aov kind (aov kind (ba4 kind) (blk kind pub)) ([] ++ q)) (rest (bsz kind) ([] ++ q)) (blk kind pub ++ q).length = bj0 kind (blk kind pub ++ q) := by
  unfold bj0
  rw [List.nil_append, bjy _ _ _ hl, bkd (aqi kind) _ _ hl]
 rw [e4, av (by omega), av (by omega), List.drop_zero, Int.sub_zero, toNat_cast]
theorem bhz {n : Nat} (hn : n ≤ 32) (pub a t : List Int) (hp : In 256 pub) (np : pub.length ≤ 64) (ha : In 256 a) (ht : In 256 t) (nt : t.length ≤ 90000) {ρ : Type} (k : List Int → Option ρ) :
    P.lq a t 1 (aov 1 (ba4 1) (blk 1 pub)) [] 64 (n : Int) 3 (aov 3 (ba4 3) (blk 3 pub)) [] 128 k = k (bbw n false pub a t) := by
 have e : [sho a, t].flatten = sho a ++ t := by simp
 have hs := ayb a
 have hl : (sho a ++ t).length ≤ 100000 := by rw [List.length_append]; omega
 have hq : In 256 (sho a ++ t) := (bm2 ha).app ht
 rw [P.aja]; unfold P.ad6 bbw hk
 by_cases h1 : 16 < n
 ·rw [av (by omega)]
  by_cases h2 : n < t.length
  ·rw [av (by omega), if_neg (by simp), if_pos ⟨h1, h2⟩, su, jo _ (by simp) (by rw [e]; omega), e]
   exact atu (.inr rfl) hn pub hp np _ hq hl 128 rfl k
  ·rw [dh (by omega), if_neg (by simp), if_neg (by omega), su, jo _ (by simp) (by rw [e]; omega), e]
   exact atu (.inl rfl) hn pub hp np _ hq hl 64 rfl k
 ·rw [dh (by omega), if_neg (by simp), if_neg (by omega), su, jo _ (by simp) (by rw [e]; omega), e]
  exact atu (.inl rfl) hn pub hp np _ hq hl 64 rfl k
theorem R7t : Rt 7 136 := .inr (.inr (.inr ⟨rfl, rfl⟩))
theorem g0 : Good 136 (Z25, 0) := ⟨bqh, by decide⟩
theorem bi8 {n : Nat} (hn : n ≤ 32) (pub a t : List Int) (la : a.length = 32) (nt : t.length ≤ 90000) {ρ : Type} (k : List Int → Option ρ) :
    P.l5 a t 7 (apw 136 (Z25, 0) pub).1 ((apw 136 (Z25, 0) pub).2 : Int) false (n : Int) k = k (bbw n true pub a t) := by
 have e : [List.take 32 (List.drop 0 a), t].flatten = a ++ t := by rw [List.drop_zero, List.take_of_length_le (by omega)]; simp
 have hl : (a ++ t).length ≤ 100000 := by rw [List.length_append]; omega
 rw [P.ajd]; unfold P.ady bbw
 rw [jo _ (by simp) (by rw [e]; omega), e, if_pos rfl]
 refine (mq R7t _ _ (ahe pub g0) (a ++ t) (by omega) _).trans ?_
 refine (o8 R7t _ (ahe (a ++ t) (ahe pub g0)) n (by omega) _).trans ?_
 unfold btb
 show k (sqO 136 (trn 7 136 (apw 136 (apw 136 (Z25, 0) pub) (a ++ t)), 0) n) = k (sqO 136 (trn 7 136 (apw 136 (Z25, 0) (pub ++ (a ++ t))), 0) n)
 simp only [bke]
def Sg (n : Nat) (sh : Bool) (pub : List Int) (tg : Nat) (cK : Int) (cW : List Int) (cA : Int) (cO : Bool) (c1 dK : Int) (dW dT : List Int) (dS d1 eK : Int) (eW eT : List Int) (eS : Int) : Prop :=
 (sh = true ∧ tg = 1 ∧ cK = 7 ∧ cW = (apw 136 (Z25, 0) pub).1 ∧ cA = ((apw 136 (Z25, 0) pub).2 : Int) ∧ cO = false ∧ c1 = (n : Int)) ∨
 (sh = false ∧ tg = 2 ∧ dK = 1 ∧ dW = aov 1 (ba4 1) (blk 1 pub) ∧ dT = [] ∧ dS = 64 ∧ d1 = (n : Int) ∧ eK = 3 ∧ eW = aov 3 (ba4 3) (blk 3 pub) ∧ eT = [] ∧ eS = 128)
theorem call {n : Nat} {sh : Bool} {pub : List Int} {tg : Nat} {cK : Int} {cW : List Int} {cA : Int} {cO : Bool} {c1 dK : Int} {dW dT : List Int} {dS d1 eK : Int} {eW eT : List Int} {eS : Int} (h : Sg n sh pub tg cK cW cA cO c1 dK dW dT dS d1 eK eW eT eS)
    (hn : n ≤ 32) (hp : In 256 pub) (np : pub.length ≤ 64) {a t : List Int} (la : a.length = 32) (ha : In 256 a) (ht : In 256 t) (nt : t.length ≤ 90000) {ρ : Type} (k : List Int → Option ρ) :
    br (decide (tg = 1)) (P.l5 a t cK cW cA cO c1 fun (q : List Int) => k q) (br (decide (tg = 2)) (P.lq a t dK dW dT dS d1 eK eW eT eS fun (q : List Int) => k q) none) = k (bbw n sh pub a t) := by
 rcases h with ⟨rfl, rfl, rfl, rfl, rfl, rfl, rfl⟩ | ⟨rfl, rfl, rfl, rfl, rfl, rfl, rfl, rfl, rfl, rfl, rfl⟩
 ·rw [av rfl]
  exact bi8 hn pub a t la nt k
 ·rw [dh (by omega), av rfl]
  exact bhz hn pub a t hp np ha ht nt k
theorem bl8 {n : Nat} {H D A K : Int} (hf : aax n H D A K) (sh : Bool) (pub : List Int) (hp : In 256 pub) (np : pub.length = n) :
    ∃ tg cK cW cA cO c1 dK dW dT dS d1 eK eW eT eS, Sg n sh pub tg cK cW cA cO c1 dK dW dT dS d1 eK eW eT eS ∧
     ∀ {ρ : Type} (k : Int → Int → Int → Int → Int → Bool → Nat → Int → (List Int) → Int → Bool → Int → Int → (List Int) → (List Int) → Int → Int → Int → (List Int) → (List Int) → Int → Bool → Option ρ),
      P.ab7 n H D A K sh pub k = k n H D A K sh tg cK cW cA cO c1 dK dW dT dS d1 eK eW eT eS true := by
 have hn : n ≤ 32 := by unfold aax at hf; omega
 cases sh with
 | true =>
  refine ⟨1, 7, _, _, false, (n : Int), 0, [], [], 0, 0, 0, [], [], 0, .inl ⟨rfl, rfl, rfl, rfl, rfl, rfl, rfl⟩, fun k => ?_⟩
  rw [P.aji]; unfold P.ae6
  rw [uf, decide_eq_true hf, ku, p8, fq (by omega), p8, P.amk]; unfold P.agv
  rw [P.aoi]; unfold P.air
  rw [bav R7t, dz (by omega)]
  exact mq R7t Z25 0 g0 pub (by omega) _
 | false =>
  refine ⟨2, 0, [], 0, false, 0, 1, _, _, 64, (n : Int), 3, _, _, 128, .inr ⟨rfl, rfl, rfl, rfl, rfl, rfl, rfl, rfl, rfl, rfl, rfl⟩, fun k => ?_⟩
  rw [P.aji]; unfold P.ae6
  rw [uf, decide_eq_true hf, ku, p8, fq (by omega), qd, P.am5]; unfold P.ag9
  rw [sj (.inl rfl) pub hp (by omega) 64 rfl, sj (.inr (.inr rfl)) pub hp (by omega) 128 rfl]
theorem vg {n : Nat} {H D A K : Int} (hf : aax n H D A K) (sh : Bool) (pub : List Int) (hp : In 256 pub) (np : pub.length = n) (a t : List Int) (la : a.length = 32) (ha : In 256 a) (ht : In 256 t) (nt : t.length ≤ 90000) {ρ : Type} (k : List Int → Option ρ) :
    P.vg n H D A K sh pub a t k = k (bbw n sh pub a t) := by
 have hn : n ≤ 32 := by unfold aax at hf; omega
 obtain ⟨tg, cK, cW, cA, cO, c1, dK, dW, dT, dS, d1, eK, eW, eT, eS, hs, hb⟩ := bl8 hf sh pub hp np
 rw [P.ath]; unfold P.alc
 rw [hb, ku, p8]
 exact call hs hn hp (by omega) la ha ht nt k
theorem zi {n : Nat} {H D A K : Int} (hf : aax n H D A K) (sh : Bool) (pub : List Int) (hp : In 256 pub) (np : pub.length = n) (a t : List Int) (la : a.length = 32) (ha : In 256 a) (ht : In 256 t) (nt : t.length ≤ 90000) {ρ : Type} (k : List Int → Option ρ) :
    P.zi n H D A K sh pub a t k = k (bbw n sh pub a t) := by
 have hn : n ≤ 32 := by unfold aax at hf; omega
 have hsl := ayb a
 have path : ∀ (kind : Int) (h : kind = 1 ∨ kind = 3) (B : Int), B = ((bsz kind : Nat) : Int) →
     (br (decide ((0 : Int) ≤ IntKind.i64.wrap (B - (n : Int)))) (br (decide (IntKind.i64.wrap (B - (n : Int)) ≤ IntKind.i64.wrap (B - (n : Int))))
      (br (decide (IntKind.i64.wrap (B - (n : Int)) * ((1 : Nat) : Int) ≤ ((140737488355328 : Nat) : Int)))
       (P.za a fun (q4 : List Int) =>
        P.l8 [pub, List.replicate (IntKind.i64.wrap (B - (n : Int))).toNat (0 : Int), q4, t] fun (q5 : List Int) =>
         P.adz kind q5 fun (q6 : List Int) (q7 : Int) =>
          br (decide ((0 : Int) ≤ (n : Int))) (br (decide ((n : Int) ≤ (q6.length : Int))) (k (List.take ((n : Int) - (0 : Int)).toNat (List.drop 0 q6))) none) none) none) none) none) = k ((bj0 kind (blk kind pub ++ (sho a ++ t))).take n) := by
  intro kind h B hB
  have hb : bsz kind = 64 ∨ bsz kind = 128 := by rcases ah4 kind with ⟨_, e⟩ | ⟨_, e⟩ <;> omega
  have e : IntKind.i64.wrap (B - (n : Int)) = ((bsz kind - pub.length : Nat) : Int) := by rw [qb (by omega) (by omega)]; omega
  have ej : [pub, List.replicate (bsz kind - pub.length) (0 : Int), sho a, t].flatten = blk kind pub ++ (sho a ++ t) := by unfold blk; simp
  have hl := bdi kind pub (by omega)
  have hll : (blk kind pub ++ (sho a ++ t)).length ≤ 100000 := by rw [List.length_append, List.length_append]; omega
  have hs := bb4 h (blk kind pub ++ (sho a ++ t))
  rw [e, av (by omega), av (by omega), av (by omega), za, toNat_cast, l8 _ (by simp) (by rw [ej]; omega), ej, adz (by unfold K3; omega) _ ((bm3 hp).app ((bm2 ha).app ht)) (by omega), av (by omega), av (by omega), List.drop_zero, Int.sub_zero, toNat_cast]
 rw [P.axj]; unfold P.anx
 rw [fq (by omega), vk, decide_eq_true hf, ku, p8]
 unfold bbw hk
 cases sh with
 | true =>
  have ej : [pub, List.take 32 (List.drop 0 a), t].flatten = pub ++ (a ++ t) := by rw [List.drop_zero, List.take_of_length_le (by omega)]; simp
  have hll : (pub ++ (a ++ t)).length ≤ 100000 := by rw [List.length_append, List.length_append]; omega
  rw [p8, l8 _ (by simp) (by rw [ej]; omega), ej, ag3 (by omega) _ (by omega) n (by omega), if_pos rfl]
 | false =>
  rw [qd, if_neg (by simp)]
  by_cases h1 : 16 < n
  ·rw [av (by omega)]
   by_cases h2 : n < t.length
   ·rw [av (by omega), if_pos ⟨h1, h2⟩]
    exact path 3 (.inr rfl) 128 rfl
   ·rw [dh (by omega), if_neg (by omega)]
    exact path 1 (.inl rfl) 64 rfl
  ·rw [dh (by omega), if_neg (by omega)]
   exact path 1 (.inl rfl) 64 rfl
end Q
end

section
/- wots: chains, keys, signatures, by the program. -/
namespace Q
open QK
open Go Go.Abs
set_option linter.unusedVariables false
set_option linter.unusedSimpArgs false
def prn (a : List Int) : Nat := T 8 ((a.drop 20).take 4).reverse % 2 ^ 64
theorem bd0 (a : List Int) : prn a < 18446744073709551616 := Nat.mod_lt _ (by decide)
theorem aek {a : List Int} (ha : In 256 a) {ρ : Type} (k : Int → Option ρ) : P.aek a 3 k = k (prn a : Int) := by
 rw [P.avm]; unfold P.ahn
 rw [show IntKind.i64.wrap ((8 : Int) + IntKind.i64.wrap ((4 : Int) * 3)) = 20 from rfl, show IntKind.i64.wrap ((12 : Int) + IntKind.i64.wrap ((4 : Int) * 3)) = 24 from rfl, av (by omega), av (by omega), av (by omega)]
 exact tu _ ((ha.drop 20).take 4) (by simp; omega) k
def fsW (n : Nat) (sh : Bool) (pub sec a : List Int) (i : Nat) : List Int := bbw n sh pub (asl (asl (asl a 2 5) 3 (prn a)) 4 i) sec
theorem first' {n : Nat} {sh : Bool} {pub : List Int} {tg : Nat} {cK : Int} {cW : List Int} {cA : Int} {cO : Bool} {c1 dK : Int} {dW dT : List Int} {dS d1 eK : Int} {eW eT : List Int} {eS : Int} (hs : Sg n sh pub tg cK cW cA cO c1 dK dW dT dS d1 eK eW eT eS) (hn : n ≤ 32) (hp : In 256 pub) (np : pub.length ≤ 64) {a y : List Int} (la : a.length = 32) (ha : In 256 a) (hy : In 256 y) (ly : y.length ≤ 1000) (H D A K : Int) (i : Nat) (hi : i < 1000) {ρ : Type} (k : List Int → Option ρ) :
    P.ae1 (n : Int) H D A K sh tg cK cW cA cO c1 dK dW dT dS d1 eK eW eT eS y a (i : Int) k = k (fsW n sh pub y a i) := by
 rw [P.amg]; unfold P.ab2
 rw [show (5 : Int) = ((5 : Nat) : Int) from rfl, oh la 2 5 (by omega), aek ha, oh (qg la _ _) 3 _ (bd0 a), ahp _ (by omega), oh (qg (qg la _ _) _ _) 4 _ (by omega)]
 exact call hs hn hp np (qg (qg (qg la _ _) _ _) _ _) (ag7 (ag7 (ag7 ha _ _) _ _) _ _) hy (by omega) k
end Q
end

section
/- wots: keys, signatures, candidates, by the document. -/
namespace Q
open QK
open Go Go.Abs
set_option linter.unusedVariables false
set_option linter.unusedSimpArgs false
theorem asf (T : Nat → List Int) : ∀ m, ((List.range m).map T).flatten = cat T m
 | 0 => rfl
 | m + 1 => by rw [List.range_succ, List.map_append, List.flatten_append, asf T m]; simp [cat]
end Q
end

section
/- fors: places, leaves, knots, by the program and by the document. -/
namespace Q
open QK
open Go Go.Abs
set_option linter.unusedVariables false
set_option linter.unusedSimpArgs false
def ofA (a : List Int) (kind : Nat) : List Int := asl (asl a 2 kind) 3 (prn a)
theorem anh {a : List Int} (la : a.length = 32) (kind : Nat) : (ofA a kind).length = 32 := qg (qg la _ _) _ _
theorem bep {a : List Int} (ha : In 256 a) (kind : Nat) : In 256 (ofA a kind) := ag7 (ag7 ha _ _) _ _
theorem brr {a : List Int} (la : a.length = 32) (kind : Nat) : ofA a kind = (a.take 16 ++ be4 4 kind ++ be4 4 (prn a)) ++ List.replicate 8 0 := by
 have h4 := aac 4 kind
 have h5 := aac 4 (prn a)
 have e2 : asl a 2 kind = (a.take 16 ++ be4 4 kind) ++ List.replicate 12 0 := by
  show auv a 16 (be4 4 kind ++ List.replicate 12 0) = _
  unfold auv
  rw [List.drop_eq_nil_of_le (by simp; omega), List.append_nil, List.append_assoc]
 have hl : (a.take 16 ++ be4 4 kind).length = 20 := by rw [List.length_append, List.length_take]; omega
 unfold ofA
 rw [e2]
 show auv _ 20 (be4 4 (prn a)) = _
 unfold auv
 rw [List.take_left' hl, List.drop_append, hl, List.drop_eq_nil_of_le (by omega), h5, List.nil_append, List.drop_replicate]
theorem bs5 {a : List Int} (la : a.length = 32) (kind : Nat) : asl (ofA a kind) 4 0 = ofA a kind := by
 have h4 := aac 4 kind
 have h5 := aac 4 (prn a)
 rw [brr la]
 have hl : (a.take 16 ++ be4 4 kind ++ be4 4 (prn a)).length = 24 := by rw [List.length_append, List.length_append, List.length_take]; omega
 show auv _ 24 (be4 4 0) = _
 unfold auv
 rw [List.take_left' hl, List.drop_append, hl, List.drop_eq_nil_of_le (by rw [aac]; omega), List.nil_append, List.append_assoc]
 rfl
def ktA (a : List Int) (z i : Nat) : List Int := asl (asl (ofA a 3) 4 z) 5 i
theorem bca {a : List Int} (la : a.length = 32) (z i : Nat) : (ktA a z i).length = 32 := qg (qg (anh la _) _ _) _ _
theorem bir {a : List Int} (ha : In 256 a) (z i : Nat) : In 256 (ktA a z i) := ag7 (ag7 (bep ha _) _ _) _ _
def lfF (n : Nat) (sh : Bool) (pub sec a : List Int) (i : Nat) : List Int := bbw n sh pub (asl (ofA a 6) 5 i) sec
def ovF (n : Nat) (sh : Bool) (pub a : List Int) (z i : Nat) (t : List Int) : List Int := bbw n sh pub (ktA a z i) t
def kyF (n : Nat) (sh : Bool) (pub a tops : List Int) : List Int := bbw n sh pub (ofA a 4) tops
theorem bh2 {n : Nat} (hn : n ≤ 32) (sh : Bool) (pub sec a : List Int) (i : Nat) : (lfF n sh pub sec a i).length = n := asi hn _ _ _ _
theorem bms (n : Nat) (sh : Bool) (pub sec a : List Int) (i : Nat) : In 256 (lfF n sh pub sec a i) := bc9 _ _ _ _ _
theorem bo5 {n : Nat} (hn : n ≤ 32) (sh : Bool) (pub a t : List Int) : (kyF n sh pub a t).length = n := asi hn _ _ _ _
def fkW (n : Nat) (sh : Bool) (pub sec a : List Int) : Nat → Nat → List Int
 | 0, i => ovF n sh pub a 0 i (lfF n sh pub sec a i)
 | z + 1, i => ovF n sh pub a (z + 1) i (fkW n sh pub sec a z (2 * i) ++ fkW n sh pub sec a z (2 * i + 1))
theorem aiw {n : Nat} (hn : n ≤ 32) (sh : Bool) (pub sec a : List Int) : ∀ z i, (fkW n sh pub sec a z i).length = n
 | 0, i => asi hn _ _ _ _
 | z + 1, i => asi hn _ _ _ _
theorem awp (n : Nat) (sh : Bool) (pub sec a : List Int) : ∀ z i, In 256 (fkW n sh pub sec a z i)
 | 0, i => bc9 _ _ _ _ _
 | z + 1, i => bc9 _ _ _ _ _
theorem bb9 {n : Nat} {H D A K : Int} (hf : aax n H D A K) (sh : Bool) {sec pub a : List Int} (hp : In 256 pub) (np : pub.length = n) (la : a.length = 32) (ha : In 256 a) (kind : Nat) (hk : kind < 100) {ρ : Type} (k : List Int → Option ρ) : P.jk (n : Int) H D A K sh sec pub a (kind : Int) k = k (ofA a kind) := by
 rw [P.akj]; unfold P.aej
 rw [oh la 2 kind (by omega), tu _ ((ha.drop 20).take 4) (by simp; omega)]
 exact oh (qg la _ _) 3 _ (bd0 a) k
theorem bdp {n : Nat} {H D A K : Int} (hf : aax n H D A K) (sh : Bool) {sec pub a : List Int} (hp : In 256 pub) (np : pub.length = n) (la : a.length = 32) (ha : In 256 a) (z i : Nat) (hz : z < 1000) (hi : i < 18446744073709551616) {ρ : Type} (k : List Int → Option ρ) : P.oq (n : Int) H D A K sh sec pub a (z : Int) (i : Int) k = k (ktA a z i) := by
 rw [P.af4]; unfold P.abd
 rw [show P.jk (ρ := ρ) (n : Int) H D A K sh sec pub a 3 = P.jk (n : Int) H D A K sh sec pub a ((3 : Nat) : Int) from rfl, bb9 hf sh hp np la ha 3 (by omega), ahp _ (by omega), oh (anh la _) 4 z (by omega), oh (qg (anh la _) _ _) 5 i hi]
 rfl
theorem bjf {n : Nat} {H D A K : Int} (hf : aax n H D A K) (sh : Bool) {sec pub a : List Int} (hp : In 256 pub) (np : pub.length = n) (la : a.length = 32) (ha : In 256 a) (hsec : In 256 sec) (lsec : sec.length = n) (i : Nat) (hi : i < 18446744073709551616) {ρ : Type} (k : List Int → Option ρ) : P.je (n : Int) H D A K sh sec pub a (i : Int) k = k (lfF n sh pub sec a i) := by
 have hn : n ≤ 32 := by unfold aax at hf; omega
 rw [P.aht]; unfold P.ac2
 rw [show P.jk (ρ := ρ) (n : Int) H D A K sh sec pub a 6 = P.jk (n : Int) H D A K sh sec pub a ((6 : Nat) : Int) from rfl, bb9 hf sh hp np la ha 6 (by omega), oh (anh la _) 5 i hi, P.arh]
 unfold P.ajw
 rw [fq (by omega), vg hf sh pub hp np _ _ (qg (anh la _) _ _) (ag7 (bep ha _) _ _) hsec (by omega)]
 rfl
theorem aza {n : Nat} {H D A K : Int} (hf : aax n H D A K) (sh : Bool) {sec pub a : List Int} (hp : In 256 pub) (np : pub.length = n) (la : a.length = 32) (ha : In 256 a) (z i : Nat) (hz : z < 1000) (hi : i < 18446744073709551616) (l : List (List Int)) (hl : l.length ≤ 1000) (li : In 256 l.flatten) (lb : l.flatten.length ≤ 90000) {ρ : Type} (k : List Int → Option ρ) : P.nk (n : Int) H D A K sh sec pub a (z : Int) (i : Int) l k = k (ovF n sh pub a z i l.flatten) := by
 rw [P.ah6]; unfold P.ac8
 rw [bdp hf sh hp np la ha z i hz hi, jo l (by omega) (by omega), vg hf sh pub hp np _ _ (bca la _ _) (bir ha _ _) li (by omega)]
 rfl
theorem bkv {n : Nat} {H D A K : Int} (hf : aax n H D A K) (sh : Bool) {sec pub a : List Int} (hp : In 256 pub) (np : pub.length = n) (la : a.length = 32) (ha : In 256 a) (t : List Int) (ht : In 256 t) (lt : t.length ≤ 90000) {ρ : Type} (k : List Int → Option ρ) : P.uh (n : Int) H D A K sh sec pub a t k = k (kyF n sh pub a t) := by
 rw [P.ai8]; unfold P.ad9
 rw [show P.jk (ρ := ρ) (n : Int) H D A K sh sec pub a 4 = P.jk (n : Int) H D A K sh sec pub a ((4 : Nat) : Int) from rfl, bb9 hf sh hp np la ha 4 (by omega), vg hf sh pub hp np _ _ (anh la _) (bep ha _) ht lt]
 rfl
theorem aap {n : Nat} {H D A K : Int} (hf : aax n H D A K) {pub a : List Int} (hp : In 256 pub) (np : pub.length = n) (la : a.length = 32) (ha : In 256 a) {ρ : Type} (k : Int → Option ρ) : P.aap a k = k (prn a : Int) := by
 rw [P.asy]; unfold P.alf
 exact acs _ ((ha.drop 20).take 4) (by simp; omega) k
theorem abj {n : Nat} {H D A K : Int} (hf : aax n H D A K) {pub a : List Int} (hp : In 256 pub) (np : pub.length = n) (la : a.length = 32) (ha : In 256 a) (kind z i : Nat) (hk : kind < 100) (hz : z < 1000) (hi : i < 18446744073709551616) {ρ : Type} (k : List Int → Option ρ) : P.abj a (kind : Int) (z : Int) (i : Int) k = k (asl (asl (ofA a kind) 4 z) 5 i) := by
 rw [P.bbe]; unfold P.aqv
 rw [uz la 2 kind (by omega), aap hf hp np la ha, uz (qg la _ _) 3 _ (bd0 a), ahp _ (by omega), uz (qg (qg la _ _) _ _) 4 z (by omega), uz (qg (qg (qg la _ _) _ _) _ _) 5 i hi]
 rfl
theorem adk {n : Nat} {H D A K : Int} (hf : aax n H D A K) (sh : Bool) {sec pub a : List Int} (hp : In 256 pub) (np : pub.length = n) (la : a.length = 32) (ha : In 256 a) (hsec : In 256 sec) (lsec : sec.length = n) (i : Nat) (hi : i < 18446744073709551616) {ρ : Type} (k : List Int → Option ρ) : P.adk (n : Int) H D A K sh sec pub a (i : Int) k = k (lfF n sh pub sec a i) := by
 have hn : n ≤ 32 := by unfold aax at hf; omega
 rw [P.atl]; unfold P.ak2
 rw [show P.abj (ρ := ρ) a 6 0 (i : Int) = P.abj a ((6 : Nat) : Int) ((0 : Nat) : Int) (i : Int) from rfl, abj hf hp np la ha 6 0 i (by omega) (by omega) hi, bs5 la, P.att]
 unfold P.ak0
 rw [fq (by omega), zi hf sh pub hp np _ _ (qg (anh la _) _ _) (ag7 (bep ha _) _ _) hsec (by omega)]
 rfl
theorem ahk {n : Nat} {H D A K : Int} (hf : aax n H D A K) (sh : Bool) {pub a : List Int} (hp : In 256 pub) (np : pub.length = n) (la : a.length = 32) (ha : In 256 a) (l : List (List Int)) (hl : l.length ≤ 1000) (li : In 256 l.flatten) (lb : l.flatten.length ≤ 90000) {ρ : Type} (k : List Int → Option ρ) : P.ahk (n : Int) H D A K sh l pub a k = k (kyF n sh pub a l.flatten) := by
 rw [P.aww]; unfold P.anv
 rw [show P.uz (ρ := ρ) a 2 4 = P.uz a 2 ((4 : Nat) : Int) from rfl, uz la 2 4 (by omega), aap hf hp np la ha, uz (qg la _ _) 3 _ (bd0 a), l8 l (by omega) (by omega), zi hf sh pub hp np _ _ (qg (qg la _ _) _ _) (ag7 (ag7 ha _ _) _ _) li (by omega)]
 rfl
end Q
end

section
/- xmss: knots, signatures, tops, by the program. -/
namespace Q
open QK
open Go Go.Abs
set_option linter.unusedVariables false
set_option linter.unusedSimpArgs false
def Kd (n : Nat) (H D A K : Int) (h : Nat) : Prop := aax n H D A K ∧ IntKind.i64.wrap (H.tdiv D) = (h : Int)
theorem Kd.n {n : Nat} {H D A K : Int} {h : Nat} (k : Kd n H D A K h) : n ≤ 32 := by have := k.1; unfold aax at this; omega
theorem Kd.h {n : Nat} {H D A K : Int} {h : Nat} (k : Kd n H D A K h) : h ≤ 9 := by have := k.1; have e := k.2; unfold aax at this; omega
end Q
end

section
/- xmss: knots, signatures, tops, by the document; and where there are none. -/
namespace Q
open QK
open Go Go.Abs
set_option linter.unusedVariables false
set_option linter.unusedSimpArgs false
theorem bkh (h : Nat) : (2 : Int) ^ h = ((2 ^ h : Nat) : Int) := by rw [Int.natCast_pow]; rfl
theorem arp (a z : Nat) (hz : z ≤ 64) (hb : a * 2 ^ z < 18446744073709551616) : IntKind.u64.wrap ((a : Int) * (2 : Int) ^ min z 64) = ((a * 2 ^ z : Nat) : Int) := by
 rw [Nat.min_eq_left hz, bkh, ← Int.natCast_mul, ahp _ hb]
theorem Kd.d {n : Nat} {H D A K : Int} {h : Nat} (k : Kd n H D A K h) : ¬ D = 0 := by have := k.1; unfold aax at this; omega
end Q
end

section
/- A stack of what is joined two by two: as many entries as a number has ones. -/
namespace Q
open Go Go.Abs
set_option linter.unusedVariables false
def stk (N : Nat → Nat → List Int) (B : Nat) : Nat → Nat → Nat → List (Nat × List Int)
 | 0, _, _ => []
 | f + 1, b, q => if q = 0 then [] else stk N B f (b + 1) (q / 2) ++ (if q % 2 = 1 then [(b, N b (B / 2 ^ b + (q - 1)))] else [])
theorem bls (N : Nat → Nat → List Int) (B f b : Nat) : stk N B f b 0 = [] := by cases f <;> simp [stk]
theorem ayi (N : Nat → Nat → List Int) (B f b q : Nat) (h : q % 2 = 0) : stk N B (f + 1) b q = stk N B f (b + 1) (q / 2) := by
 by_cases h0 : q = 0
 ·subst h0
  rw [bls, bls]
 ·rw [stk, if_neg h0, if_neg (by omega), List.append_nil]
theorem bda (N : Nat → Nat → List Int) (B f b q : Nat) (h : q % 2 = 1) : stk N B (f + 1) b q = stk N B f (b + 1) (q / 2) ++ [(b, N b (B / 2 ^ b + (q - 1)))] := by
 rw [stk, if_neg (by omega), if_pos h]
theorem bmk (N : Nat → Nat → List Int) (B : Nat) : ∀ f b q x, x ∈ stk N B f b q → b ≤ x.1
 | 0, b, q, x, h => by simp [stk] at h
 | f + 1, b, q, x, h => by
  rw [stk] at h
  split at h
  ·cases h
  ·rcases List.mem_append.1 h with h | h
   ·have := bmk N B f (b + 1) _ x h; omega
   ·split at h
    ·simp at h; subst h; exact Nat.le_refl _
    ·cases h
theorem axu (N : Nat → Nat → List Int) (B : Nat) : ∀ f b q, (stk N B f b q).length ≤ f
 | 0, b, q => by simp [stk]
 | f + 1, b, q => by
  rw [stk]
  have := axu N B f (b + 1) (q / 2)
  split
  ·simp
  ·split <;> simp <;> omega
theorem bev (N : Nat → Nat → List Int) (B : Nat) : ∀ m f b, m < f → stk N B f b (2 ^ m) = [(b + m, N (b + m) (B / 2 ^ (b + m)))]
 | 0, f + 1, b, h => by rw [Nat.pow_zero, bda _ _ _ _ _ rfl, bls]; simp
 | m + 1, f + 1, b, h => by
  rw [ayi _ _ _ _ _ (by rw [Nat.pow_succ]; omega), show 2 ^ (m + 1) / 2 = 2 ^ m by rw [Nat.pow_succ]; omega, bev N B m f (b + 1) (by omega), show b + 1 + m = b + (m + 1) by omega]
 | m, 0, b, h => by omega
theorem bqm (N : Nat → Nat → List Int) (B f b q : Nat) (h : q % 2 = 1) : stk N B (f + 1) b (q + 1) = stk N B f (b + 1) (q / 2 + 1) := by
 rw [ayi _ _ _ _ _ (by omega), show (q + 1) / 2 = q / 2 + 1 by omega]
theorem bny (N : Nat → Nat → List Int) (B f b q : Nat) (h : q % 2 = 0) : stk N B (f + 1) b (q + 1) = stk N B f (b + 1) (q / 2) ++ [(b, N b (B / 2 ^ b + q))] := by
 rw [bda _ _ _ _ _ (by omega), show (q + 1) / 2 = q / 2 by omega, Nat.add_sub_cancel]
end Q
end
