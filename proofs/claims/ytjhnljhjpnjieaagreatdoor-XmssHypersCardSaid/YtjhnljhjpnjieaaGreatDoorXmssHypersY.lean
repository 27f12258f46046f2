/-
  XmssHypers, part 25: an interpreter of my own over abstract values, the pure functions, the walks and the plain law.
-/

import Derived.Test.YtjhnljhjpnjieaaGreatDoorXmssHypersX
import Derived.Test.YtjhnljhjpnjieaaGreatDoorXmssHypersH
import Derived.Test.YtjhnljhjpnjieaaGreatDoorXmssHypersI
import Derived.Test.YtjhnljhjpnjieaaGreatDoorXmssHypersJ

section
/- wots: sums at places. -/
namespace Q
open QK
open Go Go.Abs
set_option linter.unusedVariables false
set_option linter.unusedSimpArgs false
theorem brb {kind : Int} (w blk b : List Int) (hl : blk.length = bsz kind) : asl kind (asl kind w blk) b = asl kind w (blk ++ b) := by
 unfold asl
 rcases ajt kind with ⟨h, e⟩ | ⟨h, e⟩
 ·rw [e] at hl
  have := (bbz p32 (toV 32 w) blk b 1 (by omega) (b.length / 64)).1
  simp only [if_pos h]
  rw [brx _ (ama _ _ (amd _ _) _ _), List.length_append, hl, show (64 + b.length) / 64 = 1 + b.length / 64 by omega, Nat.div_self (by omega), this]
 ·rw [e] at hl
  have := (bbz p64 (toV 64 w) blk b 1 (by omega) (b.length / 128)).1
  simp only [if_neg h]
  rw [brx _ (ama _ _ (amd _ _) _ _), List.length_append, hl, show (128 + b.length) / 128 = 1 + b.length / 128 by omega, Nat.div_self (by omega), this]
theorem bpp {n : Nat} (hn : 0 < n) (blk b : List Int) (hl : blk.length = n) : rest n (blk ++ b) = rest n b := by
 unfold rest
 rw [List.length_append, hl, Nat.add_comm n, Nat.add_div_right _ hn, Nat.mul_succ, List.drop_append, List.drop_eq_nil_of_le (by omega), List.nil_append, hl, Nat.add_sub_cancel]
def blk (kind : Int) (pub : List Int) : List Int := pub ++ List.replicate (bsz kind - pub.length) 0
theorem bhl (kind : Int) (pub : List Int) (h : pub.length ≤ 64) : (blk kind pub).length = bsz kind := by
 unfold blk
 rcases ajt kind with ⟨_, e⟩ | ⟨_, e⟩ <;> rw [List.length_append, List.length_replicate, e] <;> omega
theorem br7 {kind : Int} {pub : List Int} (h : In 256 pub) : In 256 (blk kind pub) := h.app (fun x hx => by rw [List.mem_replicate] at hx; omega)
theorem xg {kind : Int} (h : K3 kind) (pub : List Int) (hp : In 256 pub) (hn : pub.length ≤ 64) (B : Int) (hB : B = ((bsz kind : Nat) : Int)) {ρ : Type} (k : Int → List Int → List Int → Int → Option ρ) :
    P.xg kind B pub k = k kind (asl kind (bf3 kind) (blk kind pub)) [] B := by
 have hb : bsz kind = 64 ∨ bsz kind = 128 := by rcases ajt kind with ⟨_, e⟩ | ⟨_, e⟩ <;> omega
 have hw := bo3 kind
 have e1 : [pub].flatten = pub := by simp
 have e2 : IntKind.i64.wrap (B - (pub.length : Int)) = ((bsz kind - pub.length : Nat) : Int) := by rw [ni (by omega) (by omega)]; omega
 have hl := bhl kind pub hn
 have er : rest (bsz kind) (blk kind pub) = [] := List.eq_nil_of_length_eq_zero (by rw [bcy _ (auq kind), hl, Nat.mod_self])
 have e3 := bjh (blk kind pub) (by omega)
 rw [P.ap6]; unfold P.ai9
 rw [aiv h, l5 _ (by simp) (by rw [e1]; omega), e1, e2, toNat_cast, bg (by omega), bg (by omega)]
 show P.aak kind (bf3 kind) [] 0 (blk kind pub) _ = _
 rw [aak kind _ [] _ _ hw.1 hw.2.1 In.nil (br7 hp) (by rw [List.length_nil]; omega), List.nil_append, er, e3, hl, hB]
def sho (a : List Int) : List Int := (a.drop 3).take 1 ++ ((a.drop 8).take 8 ++ (a.drop 19).take 13)
theorem bc6 (a : List Int) : (sho a).length ≤ 22 := by unfold sho; simp; omega
theorem brj {a : List Int} (h : In 256 a) : In 256 (sho a) := ((h.drop _).take _).app (((h.drop _).take _).app ((h.drop _).take _))
theorem xq (a : List Int) {ρ : Type} (k : List Int → Option ρ) : P.xq a k = k (sho a) := by
 have e : [List.take 1 (List.drop 3 a), List.take 8 (List.drop 8 a), List.take 13 (List.drop 19 a)].flatten = sho a := by unfold sho; simp
 have := bc6 a
 rw [P.as1]; unfold P.akg
 rw [l5 _ (by simp) (by rw [e]; omega), e]
theorem aau (a : List Int) {ρ : Type} (k : List Int → Option ρ) : P.aau a k = k (sho a) := by
 have e0 : List.take 13 (List.drop 19 a) = List.take 1 (List.drop 19 a) ++ List.take 12 (List.drop 20 a) := by
  rw [show (13 : Nat) = 1 + 12 from rfl, List.take_add, List.drop_drop]
 have e : [List.take 1 (List.drop 3 a), List.take 8 (List.drop 8 a), List.take 1 (List.drop 19 a), List.take 12 (List.drop 20 a)].flatten = sho a := by unfold sho; rw [e0]; simp
 have := bc6 a
 rw [P.awc]; unfold P.alo
 rw [ko _ (by simp) (by rw [e]; omega), e]
def hk (n : Nat) (t : List Int) : Int := if 16 < n ∧ n < t.length then 3 else 1
def ber (n : Nat) (sh : Bool) (pub a t : List Int) : List Int := if sh then bx3 7 (pub ++ (a ++ t)) n else (bq4 (hk n t) (blk (hk n t) pub ++ (sho a ++ t))).take n
theorem bii {kd : Int} (h : kd = 1 ∨ kd = 3) (b : List Int) : 32 ≤ (bq4 kd b).length := by
 rw [bp9]; rcases h with rfl | rfl <;> simp
theorem hk13 (n : Nat) (t : List Int) : hk n t = 1 ∨ hk n t = 3 := by unfold hk; split; exact .inr rfl; exact .inl rfl
theorem agn {n : Nat} (hn : n ≤ 32) (sh : Bool) (pub a t : List Int) : (ber n sh pub a t).length = n := by
 unfold ber
 split
 ·exact bqk _ _ _
 ·have := bii (hk13 n t) (blk (hk n t) pub ++ (sho a ++ t))
  rw [List.length_take]; omega
theorem ake (n : Nat) (sh : Bool) (pub a t : List Int) : In 256 (ber n sh pub a t) := by
 unfold ber
 split
 ·exact bto _ _ _
 ·exact (btp _ _).take _
theorem ayi {kind : Int} (h : kind = 1 ∨ kind = 3) {n : Nat} (hn : n ≤ 32) (pub : List Int) (hp : In 256 pub) (np : pub.length ≤ 64) (q : List Int) (hq : In 256 q) (nq : q.length ≤ 100000) (B : Int) (hB : B = ((bsz kind : Nat) : Int)) {ρ : Type} (k : List Int → Option ρ) :
    (P.aak kind (asl kind (bf3 kind) (blk kind pub)) [] B q fun (q2 : Int) (q3 q4 : List Int) (q5 : Int) => P.ae0 q2 q3 q4 q5 fun (q6 : List Int) =>
     br (decide ((0 : Int) ≤ (n : Int))) (br (decide ((n : Int) ≤ (q6.length : Int))) (k (List.take ((n : Int) - (0 : Int)).toNat (List.drop 0 q6))) none) none) = k ((bq4 kind (blk kind pub ++ q)).take n) := by
 have hb : bsz kind = 64 ∨ bsz kind = 128 := by rcases ajt kind with ⟨_, e⟩ | ⟨_, e⟩ <;> omega
 have hw := at5 kind (bf3 kind) (blk kind pub)
 have hl := bhl kind pub np
 have hw2 := at5 kind (asl kind (bf3 kind) (blk kind pub)) ([] ++ q)
 have hr := bcy (bsz kind) (auq kind) ([] ++ q)
 have hm := Nat.mod_lt ([] ++ q).length (auq kind)
 have e3 : IntKind.u64.wrap (B + IntKind.u64.wrap (q.length : Int)) = (((blk kind pub ++ q).length : Nat) : Int) := by
  rw [afr _ (by omega), hB, ← Int.natCast_add, afr _ (by omega), List.length_append, hl]
 have hs := bii h (blk kind pub ++ q)
 rw [aak kind _ [] _ q hw.1 hw.2.1 In.nil hq (by rw [List.length_nil]; omega), e3, ae0 _ _ _ _ hw2.1 hw2.2.1 (bow (In.nil.app hq)) (by omega)]
 have e4 : bl1 kind (asl kind (asl kind (bf3 kind) (blk kind pub)) ([] ++ q)) (rest (bsz kind) ([] ++ q)) (blk kind pub ++ q).length = bq4 kind (blk kind pub ++ q) := by
  unfold bq4
  rw [List.nil_append, brb _ _ _ hl, bpp (auq kind) _ _ hl]
 rw [e4, bg (by omega), bg (by omega), List.drop_zero, Int.sub_zero, toNat_cast]
theorem bof {n : Nat} (hn : n ≤ 32) (pub a t : List Int) (hp : In 256 pub) (np : pub.length ≤ 64) (ha : In 256 a) (ht : In 256 t) (nt : t.length ≤ 90000) {ρ : Type} (k : List Int → Option ρ) :
    P.je a t 1 (asl 1 (bf3 1) (blk 1 pub)) [] 64 (n : Int) 3 (asl 3 (bf3 3) (blk 3 pub)) [] 128 k = k (ber n false pub a t) := by
 have e : [sho a, t].flatten = sho a ++ t := by simp
 have hs := bc6 a
 have hl : (sho a ++ t).length ≤ 100000 := by rw [List.length_append]; omega
 have hq : In 256 (sho a ++ t) := (brj ha).app ht
 rw [P.ak3]; unfold P.aev ber hk
 by_cases h1 : 16 < n
 ·rw [bg (by omega)]
  by_cases h2 : n < t.length
  ·rw [bg (by omega), if_neg (by simp), if_pos ⟨h1, h2⟩, xq, l5 _ (by simp) (by rw [e]; omega), e]
   exact ayi (.inr rfl) hn pub hp np _ hq hl 128 rfl k
  ·rw [dn (by omega), if_neg (by simp), if_neg (by omega), xq, l5 _ (by simp) (by rw [e]; omega), e]
   exact ayi (.inl rfl) hn pub hp np _ hq hl 64 rfl k
 ·rw [dn (by omega), if_neg (by simp), if_neg (by omega), xq, l5 _ (by simp) (by rw [e]; omega), e]
  exact ayi (.inl rfl) hn pub hp np _ hq hl 64 rfl k
theorem R7t : Rt 7 136 := .inr (.inr (.inr ⟨rfl, rfl⟩))
theorem g0 : Good 136 (Z25, 0) := ⟨bzk, by decide⟩
theorem bn1 {n : Nat} (hn : n ≤ 32) (pub a t : List Int) (la : a.length = 32) (nt : t.length ≤ 90000) {ρ : Type} (k : List Int → Option ρ) :
    P.jg a t 7 (atv 136 (Z25, 0) pub).1 ((atv 136 (Z25, 0) pub).2 : Int) false (n : Int) k = k (ber n true pub a t) := by
 have e : [List.take 32 (List.drop 0 a), t].flatten = a ++ t := by rw [List.drop_zero, List.take_of_length_le (by omega)]; simp
 have hl : (a ++ t).length ≤ 100000 := by rw [List.length_append]; omega
 rw [P.aku]; unfold P.afk ber
 rw [l5 _ (by simp) (by rw [e]; omega), e, if_pos rfl]
 refine (p9 R7t _ _ (ai5 pub g0) (a ++ t) (by omega) _).trans ?_
 refine (su R7t _ (ai5 (a ++ t) (ai5 pub g0)) n (by omega) _).trans ?_
 unfold bx3
 show k (sqO 136 (trn 7 136 (atv 136 (atv 136 (Z25, 0) pub) (a ++ t)), 0) n) = k (sqO 136 (trn 7 136 (atv 136 (Z25, 0) (pub ++ (a ++ t))), 0) n)
 simp only [bpy]
def Sg (n : Nat) (sh : Bool) (pub : List Int) (tg : Nat) (cK : Int) (cW : List Int) (cA : Int) (cO : Bool) (c1 dK : Int) (dW dT : List Int) (dS d1 eK : Int) (eW eT : List Int) (eS : Int) : Prop :=
 (sh = true ∧ tg = 1 ∧ cK = 7 ∧ cW = (atv 136 (Z25, 0) pub).1 ∧ cA = ((atv 136 (Z25, 0) pub).2 : Int) ∧ cO = false ∧ c1 = (n : Int)) ∨
 (sh = false ∧ tg = 2 ∧ dK = 1 ∧ dW = asl 1 (bf3 1) (blk 1 pub) ∧ dT = [] ∧ dS = 64 ∧ d1 = (n : Int) ∧ eK = 3 ∧ eW = asl 3 (bf3 3) (blk 3 pub) ∧ eT = [] ∧ eS = 128)
theorem call {n : Nat} {sh : Bool} {pub : List Int} {tg : Nat} {cK : Int} {cW : List Int} {cA : Int} {cO : Bool} {c1 dK : Int} {dW dT : List Int} {dS d1 eK : Int} {eW eT : List Int} {eS : Int} (h : Sg n sh pub tg cK cW cA cO c1 dK dW dT dS d1 eK eW eT eS)
    (hn : n ≤ 32) (hp : In 256 pub) (np : pub.length ≤ 64) {a t : List Int} (la : a.length = 32) (ha : In 256 a) (ht : In 256 t) (nt : t.length ≤ 90000) {ρ : Type} (k : List Int → Option ρ) :
    br (decide (tg = 1)) (P.jg a t cK cW cA cO c1 fun (q : List Int) => k q) (br (decide (tg = 2)) (P.je a t dK dW dT dS d1 eK eW eT eS fun (q : List Int) => k q) none) = k (ber n sh pub a t) := by
 rcases h with ⟨rfl, rfl, rfl, rfl, rfl, rfl, rfl⟩ | ⟨rfl, rfl, rfl, rfl, rfl, rfl, rfl, rfl, rfl, rfl, rfl⟩
 ·rw [bg rfl]
  exact bn1 hn pub a t la nt k
 ·rw [dn (by omega), bg rfl]
  exact bof hn pub a t hp np ha ht nt k
theorem aw6 {n : Nat} {H D A K : Int} (hf : adz n H D A K) (sh : Bool) (pub : List Int) (hp : In 256 pub) (np : pub.length = n) :
    ∃ tg cK cW cA cO c1 dK dW dT dS d1 eK eW eT eS, Sg n sh pub tg cK cW cA cO c1 dK dW dT dS d1 eK eW eT eS ∧
     ∀ {ρ : Type} (k : Int → Int → Int → Int → Int → Bool → Nat → Int → (List Int) → Int → Bool → Int → Int → (List Int) → (List Int) → Int → Int → Int → (List Int) → (List Int) → Int → Bool → Option ρ),
      P.qy n H D A K sh pub k = k n H D A K sh tg cK cW cA cO c1 dK dW dT dS d1 eK eW eT eS true := by
 have hn : n ≤ 32 := by unfold adz at hf; omega
 cases sh with
 | true =>
  refine ⟨1, 7, _, _, false, (n : Int), 0, [], [], 0, 0, 0, [], [], 0, .inl ⟨rfl, rfl, rfl, rfl, rfl, rfl, rfl⟩, fun k => ?_⟩
  rw [P.alu]; unfold P.agl
  rw [yw, decide_eq_true hf, jh, oh, cu (by omega), oh, P.ap2]; unfold P.aiq
  rw [P.as2]; unfold P.akc
  rw [bfp R7t, fu (by omega)]
  exact p9 R7t Z25 0 g0 pub (by omega) _
 | false =>
  refine ⟨2, 0, [], 0, false, 0, 1, _, _, 64, (n : Int), 3, _, _, 128, .inr ⟨rfl, rfl, rfl, rfl, rfl, rfl, rfl, rfl, rfl, rfl, rfl⟩, fun k => ?_⟩
  rw [P.alu]; unfold P.agl
  rw [yw, decide_eq_true hf, jh, oh, cu (by omega), qm, P.ap3]; unfold P.aib
  rw [xg (.inl rfl) pub hp (by omega) 64 rfl, xg (.inr (.inr rfl)) pub hp (by omega) 128 rfl]
theorem afo {n : Nat} {H D A K : Int} (hf : adz n H D A K) (sh : Bool) (pub : List Int) (hp : In 256 pub) (np : pub.length = n) (a t : List Int) (la : a.length = 32) (ha : In 256 a) (ht : In 256 t) (nt : t.length ≤ 90000) {ρ : Type} (k : List Int → Option ρ) :
    P.afo n H D A K sh pub a t k = k (ber n sh pub a t) := by
 have hn : n ≤ 32 := by unfold adz at hf; omega
 obtain ⟨tg, cK, cW, cA, cO, c1, dK, dW, dT, dS, d1, eK, eW, eT, eS, hs, hb⟩ := aw6 hf sh pub hp np
 rw [P.ay0]; unfold P.aor
 rw [hb, jh, oh]
 exact call hs hn hp (by omega) la ha ht nt k
theorem aah {n : Nat} {H D A K : Int} (hf : adz n H D A K) (sh : Bool) (pub : List Int) (hp : In 256 pub) (np : pub.length = n) (a t : List Int) (la : a.length = 32) (ha : In 256 a) (ht : In 256 t) (nt : t.length ≤ 90000) {ρ : Type} (k : List Int → Option ρ) :
    P.aah n H D A K sh pub a t k = k (ber n sh pub a t) := by
 have hn : n ≤ 32 := by unfold adz at hf; omega
 have hsl := bc6 a
 have path : ∀ (kind : Int) (h : kind = 1 ∨ kind = 3) (B : Int), B = ((bsz kind : Nat) : Int) →
     (br (decide ((0 : Int) ≤ IntKind.i64.wrap (B - (n : Int)))) (br (decide (IntKind.i64.wrap (B - (n : Int)) ≤ IntKind.i64.wrap (B - (n : Int))))
      (br (decide (IntKind.i64.wrap (B - (n : Int)) * ((1 : Nat) : Int) ≤ ((140737488355328 : Nat) : Int)))
       (P.aau a fun (q4 : List Int) =>
        P.ko [pub, List.replicate (IntKind.i64.wrap (B - (n : Int))).toNat (0 : Int), q4, t] fun (q5 : List Int) =>
         P.afl kind q5 fun (q6 : List Int) (q7 : Int) =>
          br (decide ((0 : Int) ≤ (n : Int))) (br (decide ((n : Int) ≤ (q6.length : Int))) (k (List.take ((n : Int) - (0 : Int)).toNat (List.drop 0 q6))) none) none) none) none) none) = k ((bq4 kind (blk kind pub ++ (sho a ++ t))).take n) := by
  intro kind h B hB
  have hb : bsz kind = 64 ∨ bsz kind = 128 := by rcases ajt kind with ⟨_, e⟩ | ⟨_, e⟩ <;> omega
  have e : IntKind.i64.wrap (B - (n : Int)) = ((bsz kind - pub.length : Nat) : Int) := by rw [ni (by omega) (by omega)]; omega
  have ej : [pub, List.replicate (bsz kind - pub.length) (0 : Int), sho a, t].flatten = blk kind pub ++ (sho a ++ t) := by unfold blk; simp
  have hl := bhl kind pub (by omega)
  have hll : (blk kind pub ++ (sho a ++ t)).length ≤ 100000 := by rw [List.length_append, List.length_append]; omega
  have hs := bii h (blk kind pub ++ (sho a ++ t))
  rw [e, bg (by omega), bg (by omega), bg (by omega), aau, toNat_cast, ko _ (by simp) (by rw [ej]; omega), ej, afl (by unfold K3; omega) _ ((br7 hp).app ((brj ha).app ht)) (by omega), bg (by omega), bg (by omega), List.drop_zero, Int.sub_zero, toNat_cast]
 rw [P.bcv]; unfold P.ara
 rw [cu (by omega), p8, decide_eq_true hf, jh, oh]
 unfold ber hk
 cases sh with
 | true =>
  have ej : [pub, List.take 32 (List.drop 0 a), t].flatten = pub ++ (a ++ t) := by rw [List.drop_zero, List.take_of_length_le (by omega)]; simp
  have hll : (pub ++ (a ++ t)).length ≤ 100000 := by rw [List.length_append, List.length_append]; omega
  rw [oh, ko _ (by simp) (by rw [ej]; omega), ej, ai6 (by omega) _ (by omega) n (by omega), if_pos rfl]
 | false =>
  rw [qm, if_neg (by simp)]
  by_cases h1 : 16 < n
  ·rw [bg (by omega)]
   by_cases h2 : n < t.length
   ·rw [bg (by omega), if_pos ⟨h1, h2⟩]
    exact path 3 (.inr rfl) 128 rfl
   ·rw [dn (by omega), if_neg (by omega)]
    exact path 1 (.inl rfl) 64 rfl
  ·rw [dn (by omega), if_neg (by omega)]
   exact path 1 (.inl rfl) 64 rfl
end Q
end

section
/- wots: chains, keys, signatures, by the program. -/
namespace Q
open QK
open Go Go.Abs
set_option linter.unusedVariables false
set_option linter.unusedSimpArgs false
def chn (n : Nat) (sh : Bool) (pub a : List Int) (f : Nat) : Nat → List Int → List Int
 | 0, y => y
 | m + 1, y => ber n sh pub (ao6 a 5 (f + m)) (chn n sh pub a f m y)
theorem aub {n : Nat} (hn : n ≤ 32) (sh : Bool) (pub a : List Int) (f : Nat) (y : List Int) (hy : y.length = n) : ∀ m, (chn n sh pub a f m y).length = n
 | 0 => hy
 | m + 1 => agn hn sh pub _ _
theorem bcm (n : Nat) (sh : Bool) (pub a : List Int) (f : Nat) (y : List Int) (hy : In 256 y) : ∀ m, In 256 (chn n sh pub a f m y)
 | 0 => hy
 | m + 1 => ake n sh pub _ _
theorem along {n : Nat} {sh : Bool} {pub : List Int} {tg : Nat} {cK : Int} {cW : List Int} {cA : Int} {cO : Bool} {c1 dK : Int} {dW dT : List Int} {dS d1 eK : Int} {eW eT : List Int} {eS : Int} (hs : Sg n sh pub tg cK cW cA cO c1 dK dW dT dS d1 eK eW eT eS) (hn : n ≤ 32) (hp : In 256 pub) (np : pub.length ≤ 64) {a y : List Int} (la : a.length = 32) (ha : In 256 a) (hy : In 256 y) (ly : y.length = n) (H D A K : Int) (f m : Nat) (hm : f + m < 4294967295) {ρ : Type} (k : List Int → Option ρ) :
    P.kr (n : Int) H D A K sh tg cK cW cA cO c1 dK dW dT dS d1 eK eW eT eS a y (f : Int) ((f + m : Nat) : Int) k = k (chn n sh pub a f m y) := by
 rw [P.aho]; unfold P.adj
 rw [P.amf]; unfold P.ahj P.b1p P.bwb P.cbq
 refine tu (fun i => (chn n sh pub a f i y, ((f + m : Nat) : Int), ((f + i : Nat) : Int), (n : Int), H, D, A, K, sh, tg, cK, cW, cA, cO, c1, dK, dW, dT, dS, d1, eK, eW, eT, eS, a)) m rfl (fun i hi next hnx => ?_) (fun next => ?_) (by omega)
 ·have hl := aub hn sh pub a f y ly i
  simp only [P.ad3]
  rw [bg (by omega), afr _ (by omega), ig la 5 _ (by omega), show ((f + i : Nat) : Int) + 1 = ((f + (i + 1) : Nat) : Int) by omega, bom _ (by omega)]
  exact (call hs hn hp np (jr la 5 (f + i)) (wh ha 5 (f + i)) (bcm n sh pub a f y hy i) (by omega) _).trans hnx
 ·simp only [P.ad3]
  rw [dn (by omega)]
def prn (a : List Int) : Nat := T 8 ((a.drop 20).take 4).reverse % 2 ^ 64
theorem bkq (a : List Int) : prn a < 18446744073709551616 := Nat.mod_lt _ (by decide)
theorem uf {a : List Int} (ha : In 256 a) {ρ : Type} (k : Int → Option ρ) : P.uf a 3 k = k (prn a : Int) := by
 rw [P.aps]; unfold P.ajd
 rw [show IntKind.i64.wrap ((8 : Int) + IntKind.i64.wrap ((4 : Int) * 3)) = 20 from rfl, show IntKind.i64.wrap ((12 : Int) + IntKind.i64.wrap ((4 : Int) * 3)) = 24 from rfl, bg (by omega), bg (by omega), bg (by omega)]
 exact zf _ ((ha.drop 20).take 4) (by simp; omega) k
def fsW (n : Nat) (sh : Bool) (pub sec a : List Int) (i : Nat) : List Int := ber n sh pub (ao6 (ao6 (ao6 a 2 5) 3 (prn a)) 4 i) sec
theorem beg {n : Nat} (hn : n ≤ 32) (sh : Bool) (pub sec a : List Int) (i : Nat) : (fsW n sh pub sec a i).length = n := agn hn sh pub _ _
theorem bkc (n : Nat) (sh : Bool) (pub sec a : List Int) (i : Nat) : In 256 (fsW n sh pub sec a i) := ake n sh pub _ _
theorem first' {n : Nat} {sh : Bool} {pub : List Int} {tg : Nat} {cK : Int} {cW : List Int} {cA : Int} {cO : Bool} {c1 dK : Int} {dW dT : List Int} {dS d1 eK : Int} {eW eT : List Int} {eS : Int} (hs : Sg n sh pub tg cK cW cA cO c1 dK dW dT dS d1 eK eW eT eS) (hn : n ≤ 32) (hp : In 256 pub) (np : pub.length ≤ 64) {a y : List Int} (la : a.length = 32) (ha : In 256 a) (hy : In 256 y) (ly : y.length ≤ 1000) (H D A K : Int) (i : Nat) (hi : i < 1000) {ρ : Type} (k : List Int → Option ρ) :
    P.ny (n : Int) H D A K sh tg cK cW cA cO c1 dK dW dT dS d1 eK eW eT eS y a (i : Int) k = k (fsW n sh pub y a i) := by
 rw [P.ahn]; unfold P.ac6
 rw [show (5 : Int) = ((5 : Nat) : Int) from rfl, ig la 2 5 (by omega), uf ha, ig (jr la _ _) 3 _ (bkq a), afr _ (by omega), ig (jr (jr la _ _) _ _) 4 _ (by omega)]
 exact call hs hn hp np (jr (jr (jr la _ _) _ _) _ _) (wh (wh (wh ha _ _) _ _) _ _) hy (by omega) k
def kyW (n : Nat) (sh : Bool) (pub a ends : List Int) : List Int := ber n sh pub (ao6 (ao6 a 2 1) 3 (prn a)) ends
theorem key' {n : Nat} {sh : Bool} {pub : List Int} {tg : Nat} {cK : Int} {cW : List Int} {cA : Int} {cO : Bool} {c1 dK : Int} {dW dT : List Int} {dS d1 eK : Int} {eW eT : List Int} {eS : Int} (hs : Sg n sh pub tg cK cW cA cO c1 dK dW dT dS d1 eK eW eT eS) (hn : n ≤ 32) (hp : In 256 pub) (np : pub.length ≤ 64) {a y : List Int} (la : a.length = 32) (ha : In 256 a) (hy : In 256 y) (ly : y.length ≤ 90000) (H D A K : Int) {ρ : Type} (k : List Int → Option ρ) :
    P.qd (n : Int) H D A K sh tg cK cW cA cO c1 dK dW dT dS d1 eK eW eT eS y a k = k (kyW n sh pub a y) := by
 rw [P.ajp]; unfold P.aec
 rw [show P.ig (ρ := ρ) a 2 1 = P.ig a 2 ((1 : Nat) : Int) from rfl, ig la 2 1 (by omega), uf ha, ig (jr la _ _) 3 _ (bkq a)]
 exact call hs hn hp np (jr (jr la _ _) _ _) (wh (wh ha _ _) _ _) hy (by omega) k
theorem count' {n : Nat} (hn : n ≤ 32) (H D A K : Int) (sh : Bool) (tg : Nat) (cK : Int) (cW : List Int) (cA : Int) (cO : Bool) (c1 dK : Int) (dW dT : List Int) (dS d1 eK : Int) (eW eT : List Int) (eS : Int) {ρ : Type} (k : Int → Option ρ) :
    P.nk (n : Int) H D A K sh tg cK cW cA cO c1 dK dW dT dS d1 eK eW eT eS k = k ((2 * n + 3 : Nat) : Int) := by
 rw [P.ahq]; unfold P.ac0
 rw [ni (x := (2 : Int) * (n : Int)) (by omega) (by omega), ni (by omega) (by omega)]
 congr 1
def brw (n : Nat) (sh : Bool) (pub sec a : List Int) (i : Nat) : List Int := chn n sh pub (ao6 a 4 i) 0 15 (fsW n sh pub sec a i)
theorem bkj {n : Nat} (hn : n ≤ 32) (sh : Bool) (pub sec a : List Int) (i : Nat) : (brw n sh pub sec a i).length = n := aub hn sh pub _ 0 _ (agn hn sh pub _ _) 15
theorem bo5 (n : Nat) (sh : Bool) (pub sec a : List Int) (i : Nat) : In 256 (brw n sh pub sec a i) := bcm n sh pub _ 0 _ (ake n sh pub _ _) 15
theorem bgi {n : Nat} (hn : n ≤ 32) (T : Nat → List Int) (hT : ∀ i, (T i).length = n) (j : Nat) (hj : j ≤ 2 * n + 3) : (cat T j).length ≤ 2200 := by
 rw [aie hT]
 have := Nat.mul_le_mul (show j ≤ 67 by omega) hn
 omega
theorem aag {n : Nat} {H D A K : Int} (hf : adz n H D A K) (sh : Bool) (sec pub a : List Int) (hsec : In 256 sec) (lsec : sec.length = n) (hp : In 256 pub) (np : pub.length = n) (la : a.length = 32) (ha : In 256 a) {ρ : Type} (k : List Int → Option ρ) :
    P.aag n H D A K sh sec pub a k = k (kyW n sh pub a (cat (brw n sh pub sec a) (2 * n + 3))) := by
 have hn : n ≤ 32 := by unfold adz at hf; omega
 obtain ⟨tg, cK, cW, cA, cO, c1, dK, dW, dT, dS, d1, eK, eW, eT, eS, hs, hb⟩ := aw6 hf sh pub hp np
 have hT := bkj hn sh pub sec a
 rw [P.ap1]; unfold P.aiw
 rw [hb, jh, oh, cu (by omega), count' hn, P.au8]; unfold P.apw P.b3b P.byw P.b87
 refine tu (fun i => (sec, ((2 * n + 3 : Nat) : Int), (i : Int), cat (brw n sh pub sec a) i, a, (n : Int), H, D, A, K, sh, tg, cK, cW, cA, cO, c1, dK, dW, dT, dS, d1, eK, eW, eT, eS)) (2 * n + 3) rfl (fun i hi next hnx => ?_) (fun next => ?_) (by omega)
 ·have hb1 := bgi hn _ hT i (by omega)
  simp only [P.aj1]
  rw [bg (by omega), afr _ (by omega), ig la 4 _ (by omega), first' hs hn hp (by omega) la ha hsec (by omega) H D A K i (by omega), show (15 : Int) = ((0 + 15 : Nat) : Int) from rfl, show (0 : Int) = ((0 : Nat) : Int) from rfl,
   along hs hn hp (by omega) (jr la 4 i) (wh ha 4 i) (bkc n sh pub sec a i) (beg hn sh pub sec a i) H D A K 0 15 (by omega)]
  have e := hT i
  unfold brw at e
  rw [bg (by omega), ni (by omega) (by omega)]
  exact hnx
 ·simp only [P.aj1]
  rw [dn (by omega), key' hs hn hp (by omega) la ha (ayf (bo5 n sh pub sec a) _) (by have := bgi hn _ hT (2 * n + 3) (by omega); omega)]
theorem gd_l {l r : List Int} {d : Int} {i : Nat} (h : i < l.length) : (l ++ r).getD i d = l.getD i d := by
 rw [List.getD_eq_getElem?_getD, List.getD_eq_getElem?_getD, List.getElem?_append_left h]
theorem gd_r {l r : List Int} {d : Int} {i : Nat} (h : l.length ≤ i) : (l ++ r).getD i d = r.getD (i - l.length) d := by
 rw [List.getD_eq_getElem?_getD, List.getD_eq_getElem?_getD, List.getElem?_append_right h]
theorem wdn {n : Nat} (hn : N3 n) (x : List Int) (hl : x.length = n) (i : Nat) : ∃ d : Nat, (wd n x).getD i 0 = (d : Int) ∧ d ≤ 15 := by
 by_cases h : i < 2 * n
 ·obtain ⟨d, hd, hd2⟩ := bix (w := 4) (blz n x) i
  refine ⟨d, ?_, by omega⟩
  unfold wd
  rw [gd_l (by rw [ant n x hl]; omega), hd]
 ·have h9 := bua hn x
  have hr : (wd n x).getD i 0 = [((wl n x / 2 ^ 8 : Nat) : Int), ((wl n x / 2 ^ 4 % 2 ^ 4 : Nat) : Int), ((wl n x % 2 ^ 4 : Nat) : Int)].getD (i - 2 * n) 0 := by
   unfold wd
   rw [gd_r (by rw [ant n x hl]; omega), ant n x hl]
  rw [hr]
  match i - 2 * n with
  | 0 => exact ⟨_, rfl, by omega⟩
  | 1 => exact ⟨_, rfl, by omega⟩
  | 2 => exact ⟨_, rfl, by omega⟩
  | q + 3 => exact ⟨0, rfl, by omega⟩
def dgt (n : Nat) (x : List Int) (i : Nat) : Nat := ((wd n x).getD i 0).toNat
theorem bju {n : Nat} (hn : N3 n) (x : List Int) (hl : x.length = n) (i : Nat) : (wd n x).getD i 0 = ((dgt n x i : Nat) : Int) ∧ dgt n x i ≤ 15 := by
 obtain ⟨d, h1, h2⟩ := wdn hn x hl i
 unfold dgt
 rw [h1]
 exact ⟨rfl, h2⟩
def bo6 (n : Nat) (sh : Bool) (pub sec a t : List Int) (i : Nat) : List Int := chn n sh pub (ao6 a 4 i) 0 (dgt n t i) (fsW n sh pub sec a i)
theorem ato {n : Nat} (hn : n ≤ 32) (sh : Bool) (pub sec a t : List Int) (i : Nat) : (bo6 n sh pub sec a t i).length = n := aub hn sh pub _ 0 _ (agn hn sh pub _ _) _
theorem btg (n : Nat) (sh : Bool) (pub sec a t : List Int) (i : Nat) : In 256 (bo6 n sh pub sec a t i) := bcm n sh pub _ 0 _ (ake n sh pub _ _) _
theorem bjr {n : Nat} {H D A K : Int} (hf : adz n H D A K) : N3 n := by unfold adz at hf; unfold N3; omega
theorem ac4 {n : Nat} {H D A K : Int} (hf : adz n H D A K) (sh : Bool) (t sec pub a : List Int) (ht : In 256 t) (lt : t.length = n) (hsec : In 256 sec) (lsec : sec.length = n) (hp : In 256 pub) (np : pub.length = n) (la : a.length = 32) (ha : In 256 a) {ρ : Type} (k : List Int → Option ρ) :
    P.ac4 n H D A K sh t sec pub a k = k (cat (bo6 n sh pub sec a t) (2 * n + 3)) := by
 have hn : n ≤ 32 := by unfold adz at hf; omega
 have hn3 := bjr hf
 have hdl := bkp n t lt
 obtain ⟨tg, cK, cW, cA, cO, c1, dK, dW, dT, dS, d1, eK, eW, eT, eS, hs, hb⟩ := aw6 hf sh pub hp np
 have hT := ato hn sh pub sec a t
 rw [P.awd]; unfold P.als
 rw [hb, jh, oh, cu (by omega), cu (by omega), ug hn3 t ht lt, hdl, P.ayd]; unfold P.avg P.b26 P.b04 P.b63
 refine tu (fun i => (sec, ((2 * n + 3 : Nat) : Int), (i : Int), cat (bo6 n sh pub sec a t) i, a, (n : Int), H, D, A, K, sh, tg, cK, cW, cA, cO, c1, dK, dW, dT, dS, d1, eK, eW, eT, eS, wd n t)) (2 * n + 3) rfl (fun i hi next hnx => ?_) (fun next => ?_) (by omega)
 ·have hb1 := bgi hn _ hT i (by omega)
  obtain ⟨e1, e2⟩ := bju hn3 t lt i
  simp only [P.anf, toNat_cast]
  rw [bg (by omega), bg (by omega), bg (by omega), afr _ (by omega), ig la 4 _ (by omega), first' hs hn hp (by omega) la ha hsec (by omega) H D A K i (by omega), e1, show ((dgt n t i : Nat) : Int) = ((0 + dgt n t i : Nat) : Int) by omega, show (0 : Int) = ((0 : Nat) : Int) from rfl,
   along hs hn hp (by omega) (jr la 4 i) (wh ha 4 i) (bkc n sh pub sec a i) (beg hn sh pub sec a i) H D A K 0 _ (by omega)]
  have e := hT i
  unfold bo6 at e
  rw [bg (by omega), ni (by omega) (by omega)]
  exact hnx
 ·simp only [P.anf]
  rw [dn (by omega)]
def bgc (n : Nat) (sh : Bool) (sig pub a t : List Int) (i : Nat) : List Int := chn n sh pub (ao6 a 4 i) (dgt n t i) (15 - dgt n t i) ((sig.drop (i * n)).take n)
theorem sj {n : Nat} {H D A K : Int} (hf : adz n H D A K) (sh : Bool) (sig t pub a : List Int) (hsig : In 256 sig) (lsig : sig.length = (2 * n + 3) * n) (ht : In 256 t) (lt : t.length = n) (hp : In 256 pub) (np : pub.length = n) (la : a.length = 32) (ha : In 256 a) {ρ : Type} (k : List Int → Option ρ) :
    P.sj n H D A K sh sig t pub a k = k (kyW n sh pub a (cat (bgc n sh sig pub a t) (2 * n + 3))) := by
 have hn : n ≤ 32 := by unfold adz at hf; omega
 have hn3 := bjr hf
 have hdl := bkp n t lt
 obtain ⟨tg, cK, cW, cA, cO, c1, dK, dW, dT, dS, d1, eK, eW, eT, eS, hs, hb⟩ := aw6 hf sh pub hp np
 have hlen : ∀ i, i < 2 * n + 3 → i * n + n ≤ sig.length := fun i hi => by
  rw [lsig, ← Nat.succ_mul]
  exact Nat.mul_le_mul (by omega) (Nat.le_refl _)
 have hT : ∀ i, i < 2 * n + 3 → (bgc n sh sig pub a t i).length = n := fun i hi => aub hn sh pub _ _ _ (by have := hlen i hi; rw [List.length_take, List.length_drop]; omega) _
 have hTi : ∀ i, In 256 (bgc n sh sig pub a t i) := fun i => bcm n sh pub _ _ _ ((hsig.drop _).take _) _
 have hcl : ∀ i, i ≤ 2 * n + 3 → (cat (bgc n sh sig pub a t) i).length = i * n := by
  intro i
  induction i with
  | zero => intro _; simp [cat]
  | succ i ih => intro hi; rw [cat, List.length_append, ih (by omega), hT i (by omega), Nat.succ_mul]
 have hbd : ∀ i, i ≤ 2 * n + 3 → (cat (bgc n sh sig pub a t) i).length ≤ 2200 := fun i hi => by
  rw [hcl i hi]
  have := Nat.mul_le_mul (show i ≤ 67 by omega) hn
  omega
 have hmul : (2 * n + 3) * n ≤ 67 * 32 := Nat.mul_le_mul (by omega) hn
 have hc : (n : Int) * ((2 * n + 3 : Nat) : Int) = (((2 * n + 3) * n : Nat) : Int) := by rw [Int.natCast_mul, Int.mul_comm]
 rw [P.ak5]; unfold P.aes
 rw [hb, jh, oh, cu (by omega), count' hn, hc, ni (by omega) (by omega), cu (by rw [lsig]), ug hn3 t ht lt, hdl, P.apf]; unfold P.ak9 P.b2z P.bzf P.b4k
 refine tu (fun i => (sig.drop (i * n), ((2 * n + 3 : Nat) : Int), (i : Int), cat (bgc n sh sig pub a t) i, (n : Int), H, D, A, K, sh, a, (n : Int), H, D, A, K, sh, tg, cK, cW, cA, cO, c1, dK, dW, dT, dS, d1, eK, eW, eT, eS, wd n t)) (2 * n + 3) (by simp [cat]) (fun i hi next hnx => ?_) (fun next => ?_) (by omega)
 ·have hb1 := hbd i (by omega)
  have hl1 := hlen i hi
  obtain ⟨e1, e2⟩ := bju hn3 t lt i
  have ld : (sig.drop (i * n)).length = sig.length - i * n := List.length_drop
  simp only [P.af0, toNat_cast]
  rw [bg (by omega), bg (by omega), bg (by omega), afr _ (by omega), ig la 4 _ (by omega), bg (by omega), bg (by omega), List.drop_zero, e1, show (15 : Int) = ((dgt n t i + (15 - dgt n t i) : Nat) : Int) by omega,
   along hs hn hp (by omega) (jr la 4 i) (wh ha 4 i) ((hsig.drop _).take _) (by rw [List.length_take]; omega) H D A K _ _ (by omega)]
  have e := hT i hi
  unfold bgc at e
  rw [bg (by omega), bg (by omega), bg (by omega), bg (by omega), ni (by omega) (by omega), List.take_length, List.drop_drop]
  rw [Nat.succ_mul] at hnx
  exact hnx
 ·simp only [P.af0]
  rw [dn (by omega), key' hs hn hp (by omega) la ha (ayf hTi _) (by have := hbd (2 * n + 3) (by omega); omega)]
end Q
end

section
/- wots: keys, signatures, candidates, by the document. -/
namespace Q
open QK
open Go Go.Abs
set_option linter.unusedVariables false
set_option linter.unusedSimpArgs false
theorem adu (T : Nat → List Int) : ∀ m, ((List.range m).map T).flatten = cat T m
 | 0 => rfl
 | m + 1 => by rw [List.range_succ, List.map_append, List.flatten_append, adu T m]; simp [cat]
theorem abm {a : List Int} (ha : In 256 a) {ρ : Type} (k : Int → Option ρ) : P.abm a k = k (prn a : Int) := by
 rw [P.ays]; unfold P.aow
 exact ad5 _ ((ha.drop 20).take 4) (by simp; omega) k
theorem sw {n : Nat} {H D A K : Int} (hf : adz n H D A K) (sh : Bool) {pub : List Int} (hp : In 256 pub) (np : pub.length = n) {a y : List Int} (la : a.length = 32) (ha : In 256 a) (hy : In 256 y) (ly : y.length = n) (f m : Nat) (hm : f + m < 4294967295) {ρ : Type} (k : List Int → Option ρ) :
    P.sw (n : Int) H D A K sh y (f : Int) ((f + m : Nat) : Int) pub a k = k (chn n sh pub a f m y) := by
 have hn : n ≤ 32 := by unfold adz at hf; omega
 rw [P.avf]; unfold P.amb
 rw [P.axk]; unfold P.av9 P.b1y P.bwz P.cbw
 refine tu (fun i => (chn n sh pub a f i y, ((f + m : Nat) : Int), pub, ((f + i : Nat) : Int), (n : Int), H, D, A, K, sh, a)) m rfl (fun i hi next hnx => ?_) (fun next => ?_) (by omega)
 ·have hl := aub hn sh pub a f y ly i
  simp only [P.aoo]
  rw [bg (by omega), afr _ (by omega), ji la 5 _ (by omega), aah hf sh pub hp np _ _ (jr la 5 (f + i)) (wh ha 5 (f + i)) (bcm n sh pub a f y hy i) (by omega), show ((f + i : Nat) : Int) + 1 = ((f + (i + 1) : Nat) : Int) by omega, bom _ (by omega)]
  exact hnx
 ·simp only [P.aoo]
  rw [dn (by omega)]
theorem aad {n : Nat} {H D A K : Int} (hf : adz n H D A K) (sh : Bool) {sec pub a : List Int} (hsec : In 256 sec) (lsec : sec.length = n) (hp : In 256 pub) (np : pub.length = n) (la : a.length = 32) (ha : In 256 a) (i : Nat) (hi : i < 1000) {ρ : Type} (k : List Int → Option ρ) :
    P.aad (n : Int) H D A K sh sec pub a (i : Int) k = k (fsW n sh pub sec a i) := by
 have hn : n ≤ 32 := by unfold adz at hf; omega
 rw [P.awj]; unfold P.alf
 rw [show P.ji (ρ := ρ) a 2 5 = P.ji a 2 ((5 : Nat) : Int) from rfl, ji la 2 5 (by omega), abm ha, ji (jr la _ _) 3 _ (bkq a), afr _ (by omega), ji (jr (jr la _ _) _ _) 4 _ (by omega), P.ayo]
 unfold P.anz
 rw [cu (by omega), aah hf sh pub hp np _ _ (jr (jr (jr la _ _) _ _) _ _) (wh (wh (wh ha _ _) _ _) _ _) hsec (by omega)]
 rfl
theorem aed {n : Nat} {H D A K : Int} (hf : adz n H D A K) (sh : Bool) {pub a : List Int} (hp : In 256 pub) (np : pub.length = n) (la : a.length = 32) (ha : In 256 a) (l : List (List Int)) (hl : l.length ≤ 1000) (hi : In 256 l.flatten) (hb : l.flatten.length ≤ 90000) {ρ : Type} (k : List Int → Option ρ) :
    P.aed (n : Int) H D A K sh l pub a k = k (kyW n sh pub a l.flatten) := by
 rw [P.bch]; unfold P.aqd
 rw [show P.ji (ρ := ρ) a 2 1 = P.ji a 2 ((1 : Nat) : Int) from rfl, ji la 2 1 (by omega), abm ha, ji (jr la _ _) 3 _ (bkq a), ko l (by omega) (by omega), aah hf sh pub hp np _ _ (jr (jr la _ _) _ _) (wh (wh ha _ _) _ _) hi (by omega)]
 rfl
theorem u7 {n : Nat} {H D A K : Int} (hf : adz n H D A K) (sh : Bool) {sec pub : List Int} (lsec : sec.length = n) (np : pub.length = n) {ρ : Type} (k : Bool → Option ρ) : P.u7 (n : Int) H D A K sh sec pub k = k false := by
 rw [P.avk]; unfold P.al8
 rw [p8, decide_eq_true hf, jh, oh, cu (by omega)]
 congr 1
 rw [np]
 simp
theorem aa7 {n : Nat} {H D A K : Int} (hf : adz n H D A K) (sh : Bool) (sec pub a : List Int) (hsec : In 256 sec) (lsec : sec.length = n) (hp : In 256 pub) (np : pub.length = n) (la : a.length = 32) (ha : In 256 a) {ρ : Type} (k : List Int → Option ρ) :
    P.aa7 n H D A K sh sec pub a k = k (kyW n sh pub a (cat (brw n sh pub sec a) (2 * n + 3))) := by
 have hn : n ≤ 32 := by unfold adz at hf; omega
 have hT := bkj hn sh pub sec a
 rw [P.asu]; unfold P.ajx
 rw [u7 hf sh lsec np, qm, P.awn]; unfold P.arv P.b2o P.byq P.b56
 refine tu (fun i => (sec, pub, (i : Int), (List.range i).map (brw n sh pub sec a), (n : Int), H, D, A, K, sh, a)) (2 * n + 3) rfl (fun i hi next hnx => ?_) (fun next => ?_) (by omega)
 ·simp only [P.alg]
  rw [ni (x := (2 : Int) * (n : Int)) (by omega) (by omega), ni (x := (2 : Int) * (n : Int) + 3) (by omega) (by omega), bg (by omega), aad hf sh hsec lsec hp np la ha i (by omega), afr _ (by omega), ji la 4 _ (by omega), show (15 : Int) = ((0 + 15 : Nat) : Int) from rfl, show (0 : Int) = ((0 : Nat) : Int) from rfl,
   sw hf sh hp np (jr la 4 i) (wh ha 4 i) (bkc n sh pub sec a i) (beg hn sh pub sec a i) 0 15 (by omega), bg (by simp; omega), ni (by omega) (by omega)]
  rw [← xu] at hnx
  exact hnx
 ·simp only [P.alg]
  rw [ni (x := (2 : Int) * (n : Int)) (by omega) (by omega), ni (x := (2 : Int) * (n : Int) + 3) (by omega) (by omega), dn (by omega)]
  have hb := bgi hn _ hT (2 * n + 3) (by omega)
  rw [aed hf sh hp np la ha _ (by simp; omega) (by rw [adu]; exact ayf (bo5 n sh pub sec a) _) (by rw [adu]; omega), adu]
theorem aeu {n : Nat} {H D A K : Int} (hf : adz n H D A K) (sh : Bool) (t sec pub a : List Int) (ht : In 256 t) (lt : t.length = n) (hsec : In 256 sec) (lsec : sec.length = n) (hp : In 256 pub) (np : pub.length = n) (la : a.length = 32) (ha : In 256 a) {ρ : Type} (k : List Int → Option ρ) :
    P.aeu n H D A K sh t sec pub a k = k (cat (bo6 n sh pub sec a t) (2 * n + 3)) := by
 have hn : n ≤ 32 := by unfold adz at hf; omega
 have hn3 := bjr hf
 have hdl := bkp n t lt
 have hT := ato hn sh pub sec a t
 rw [P.az0]; unfold P.an1
 rw [u7 hf sh lsec np, qm, cu (by omega), xk hn3 t ht lt, P.baj]; unfold P.aye P.b2g P.bzb P.b4z
 refine tu (fun i => (sec, pub, (i : Int), (List.range i).map (bo6 n sh pub sec a t), (n : Int), H, D, A, K, sh, a, wd n t)) (2 * n + 3) rfl (fun i hi next hnx => ?_) (fun next => ?_) (by omega)
 ·obtain ⟨e1, e2⟩ := bju hn3 t lt i
  simp only [P.aqj, toNat_cast]
  rw [bg (by omega), aad hf sh hsec lsec hp np la ha i (by omega), bg (by omega), bg (by omega), afr _ (by omega), ji la 4 _ (by omega), e1, show P.sw (ρ := ρ) (n : Int) H D A K sh (fsW n sh pub sec a i) 0 ((dgt n t i : Nat) : Int) = P.sw (n : Int) H D A K sh (fsW n sh pub sec a i) ((0 : Nat) : Int) ((0 + dgt n t i : Nat) : Int) by rw [Nat.zero_add]; rfl,
   sw hf sh hp np (jr la 4 i) (wh ha 4 i) (bkc n sh pub sec a i) (beg hn sh pub sec a i) 0 _ (by omega), bg (by simp; omega), ni (by omega) (by omega)]
  rw [← xu] at hnx
  exact hnx
 ·simp only [P.aqj]
  rw [dn (by omega)]
  have hb := bgi hn _ hT (2 * n + 3) (by omega)
  rw [ko _ (by simp; omega) (by rw [adu]; omega), adu]
theorem uy {n : Nat} {H D A K : Int} (hf : adz n H D A K) (sh : Bool) (sig t pub a : List Int) (hsig : In 256 sig) (lsig : sig.length = (2 * n + 3) * n) (ht : In 256 t) (lt : t.length = n) (hp : In 256 pub) (np : pub.length = n) (la : a.length = 32) (ha : In 256 a) {ρ : Type} (k : List Int → Option ρ) :
    P.uy n H D A K sh sig t pub a k = k (kyW n sh pub a (cat (bgc n sh sig pub a t) (2 * n + 3))) := by
 have hn : n ≤ 32 := by unfold adz at hf; omega
 have hn3 := bjr hf
 have hdl := bkp n t lt
 have hlen : ∀ i, i < 2 * n + 3 → i * n + n ≤ sig.length := fun i hi => by
  rw [lsig, ← Nat.succ_mul]
  exact Nat.mul_le_mul (by omega) (Nat.le_refl _)
 have hT : ∀ i, i < 2 * n + 3 → (bgc n sh sig pub a t i).length = n := fun i hi => aub hn sh pub _ _ _ (by have := hlen i hi; rw [List.length_take, List.length_drop]; omega) _
 have hTi : ∀ i, In 256 (bgc n sh sig pub a t i) := fun i => bcm n sh pub _ _ _ ((hsig.drop _).take _) _
 have hcl : ∀ i, i ≤ 2 * n + 3 → (cat (bgc n sh sig pub a t) i).length = i * n := by
  intro i
  induction i with
  | zero => intro _; simp [cat]
  | succ i ih => intro hi; rw [cat, List.length_append, ih (by omega), hT i (by omega), Nat.succ_mul]
 have hmul : (2 * n + 3) * n ≤ 67 * 32 := Nat.mul_le_mul (by omega) hn
 have hc : (n : Int) * ((2 * n + 3 : Nat) : Int) = (((2 * n + 3) * n : Nat) : Int) := by rw [Int.natCast_mul, Int.mul_comm]
 have e3 : IntKind.i64.wrap (IntKind.i64.wrap ((2 : Int) * (n : Int)) + (3 : Int)) = ((2 * n + 3 : Nat) : Int) := by
  rw [ni (x := (2 : Int) * (n : Int)) (by omega) (by omega), ni (by omega) (by omega)]; omega
 rw [P.am0]; unfold P.afy
 rw [u7 hf sh lt np, qm, e3, hc, ni (by omega) (by omega), cu (by rw [lsig]), xk hn3 t ht lt, P.ars]; unfold P.amv P.b2l P.bwa P.b84
 refine tu (fun i => (sig, pub, (i : Int), (List.range i).map (bgc n sh sig pub a t), (n : Int), H, D, A, K, sh, a, wd n t)) (2 * n + 3) rfl (fun i hi next hnx => ?_) (fun next => ?_) (by omega)
 ·have hl1 := hlen i hi
  have hm2 : i * n ≤ 67 * 32 := Nat.mul_le_mul (by omega) hn
  obtain ⟨e1, e2⟩ := bju hn3 t lt i
  have ec : (n : Int) * (i : Int) = ((i * n : Nat) : Int) := by rw [Int.natCast_mul, Int.mul_comm]
  have ld : (sig.drop (i * n)).length = sig.length - i * n := List.length_drop
  simp only [P.aha, ec]
  rw [ni (x := ((i * n : Nat) : Int)) (by omega) (by omega), show ((i * n : Nat) : Int) + (n : Int) = ((i * n + n : Nat) : Int) by omega, ni (x := ((i * n + n : Nat) : Int)) (by omega) (by omega)]
  simp only [toNat_cast]
  rw [bg (by omega), bg (by omega), bg (by omega), bg (by omega), bg (by omega), bg (by omega), afr _ (by omega), ji la 4 _ (by omega), e1, show (15 : Int) = ((dgt n t i + (15 - dgt n t i) : Nat) : Int) by omega, List.drop_take, Nat.add_sub_cancel_left,
   sw hf sh hp np (jr la 4 i) (wh ha 4 i) ((hsig.drop _).take _) (by rw [List.length_take]; omega) _ _ (by omega), bg (by simp; omega), ni (by omega) (by omega)]
  rw [← xu] at hnx
  exact hnx
 ·simp only [P.aha]
  rw [dn (by omega), aed hf sh hp np la ha _ (by simp; omega) (by rw [adu]; exact ayf hTi _) (by rw [adu, hcl _ (Nat.le_refl _)]; omega), adu]
end Q
end

section
/- xmss: knots, signatures, tops, by the program. -/
namespace Q
open QK
open Go Go.Abs
set_option linter.unusedVariables false
set_option linter.unusedSimpArgs false
def Kd (n : Nat) (H D A K : Int) (h : Nat) : Prop := adz n H D A K ∧ IntKind.i64.wrap (H.tdiv D) = (h : Int)
theorem Kd.n {n : Nat} {H D A K : Int} {h : Nat} (k : Kd n H D A K h) : n ≤ 32 := by have := k.1; unfold adz at this; omega
theorem Kd.h {n : Nat} {H D A K : Int} {h : Nat} (k : Kd n H D A K h) : h ≤ 9 := by have := k.1; have e := k.2; unfold adz at this; omega
theorem iy {n : Nat} {H D A K : Int} {h : Nat} (kd : Kd n H D A K h) (sh : Bool) {ρ : Type} (k : Int → Option ρ) : P.iy n H D A K sh k = k (h : Int) := by
 have hf := kd.1
 unfold adz at hf
 rw [P.avb]; unfold P.al0
 rw [dn (by omega), kd.2]
theorem aln {n : Nat} {H D A K : Int} {h : Nat} (kd : Kd n H D A K h) (sh : Bool) (l : List (List Int)) (hl : l.length ≤ 100) (hn : ∀ i, i < l.length → (l.getD i []).length = n) {ρ : Type} (k : Bool → Option ρ) : P.ku n H D A K sh l k = k true := by
 rw [P.anu]; unfold P.ahz
 rw [P.an0]; unfold P.aoj P.zk3 P.zs3 P.zu3
 refine tu (fun i => (l, (l.length : Int), (i : Int), (n : Int), H, D, A, K, sh)) l.length rfl (fun i hi next hnx => ?_) (fun next => ?_) (by omega)
 ·have := hn i hi
  simp only [P.agr, toNat_cast, Sum.elim_inl, Sum.elim_inr]
  rw [bg (by omega), bg (by omega), bg (by omega), cu (by omega), ni (by omega) (by omega)]
  exact hnx
 ·simp only [P.agr, toNat_cast, Sum.elim_inl, Sum.elim_inr]
  rw [dn (by omega), yw, decide_eq_true kd.1]
theorem mulN (n m : Nat) (hn : n ≤ 32) (hm : m ≤ 1000) : IntKind.i64.wrap ((n : Int) * (m : Int)) = ((n * m : Nat) : Int) := by
 have : n * m ≤ 32 * 1000 := Nat.mul_le_mul hn hm
 rw [show (n : Int) * (m : Int) = ((n * m : Nat) : Int) by rw [Int.natCast_mul], ni (by omega) (by omega)]
theorem mg {n : Nat} {H D A K : Int} {h : Nat} (kd : Kd n H D A K h) (sh : Bool) {ρ : Type} (k : Int → Option ρ) : P.mg n H D A K sh k = k ((n * (2 * n + 3 + h) : Nat) : Int) := by
 have h1 := kd.n
 have h2 := kd.h
 rw [P.avn]; unfold P.al2
 rw [yw, decide_eq_true kd.1, jh, oh, iy kd, ni (x := (2 : Int) * (n : Int)) (by omega) (by omega), ni (x := (2 : Int) * (n : Int) + 3) (by omega) (by omega), ni (x := (2 : Int) * (n : Int) + 3 + (h : Int)) (by omega) (by omega), show (2 : Int) * (n : Int) + 3 + (h : Int) = ((2 * n + 3 + h : Nat) : Int) by omega, mulN _ _ h1 (by omega)]
def lfA (at' : List Int) (i : Nat) : List Int := ao6 (ao6 at' 2 0) 3 i
theorem auj {a : List Int} (la : a.length = 32) (i : Nat) : (lfA a i).length = 32 := jr (jr la _ _) _ _
theorem bcf {a : List Int} (ha : In 256 a) (i : Nat) : In 256 (lfA a i) := wh (wh ha _ _) _ _
theorem ax4 {a : List Int} (la : a.length = 32) (N H D A K : Int) (sh : Bool) (sec pub : List Int) (i : Nat) (hi : i < 18446744073709551616) {ρ : Type} (k : List Int → Option ρ) :
    P.oo N H D A K sh sec pub a (i : Int) k = k (lfA a i) := by
 rw [P.akx]; unfold P.afd
 rw [show P.ig (ρ := ρ) a 2 0 = P.ig a 2 ((0 : Nat) : Int) from rfl, ig la 2 0 (by omega), ig (jr la _ _) 3 i hi]
 rfl
def ovW (n : Nat) (sh : Bool) (pub at' : List Int) (z i : Nat) (l r : List Int) : List Int := ber n sh pub (ao6 (ao6 (ao6 at' 2 2) 4 z) 5 i) (l ++ r)
theorem axz {n : Nat} {H D A K : Int} (hf : adz n H D A K) (sh : Bool) (sec pub a l r : List Int) (hp : In 256 pub) (np : pub.length = n) (la : a.length = 32) (ha : In 256 a) (hl : In 256 l) (hr : In 256 r) (nl : l.length ≤ 1000) (nr : r.length ≤ 1000) (z i : Nat) (hz : z < 1000) (hi : i < 18446744073709551616) {ρ : Type} (k : List Int → Option ρ) :
    P.qh n H D A K sh sec pub a (z : Int) (i : Int) l r k = k (ovW n sh pub a z i l r) := by
 have e : [l, r].flatten = l ++ r := by simp
 have hlr : (l ++ r).length ≤ 2000 := by rw [List.length_append]; omega
 rw [P.akl]; unfold P.ae8
 rw [show P.ig (ρ := ρ) a 2 2 = P.ig a 2 ((2 : Nat) : Int) from rfl, ig la 2 2 (by omega), afr _ (by omega), ig (jr la _ _) 4 z (by omega), ig (jr (jr la _ _) _ _) 5 i hi, l5 _ (by simp) (by rw [e]; omega), e,
  afo hf sh pub hp np _ _ (jr (jr (jr la _ _) _ _) _ _) (wh (wh (wh ha _ _) _ _) _ _) (hl.app hr) (by omega)]
 rfl
def pbW (n : Nat) (sh : Bool) (pub sec a : List Int) : List Int := kyW n sh pub a (cat (brw n sh pub sec a) (2 * n + 3))
def knW (n : Nat) (sh : Bool) (pub sec at' : List Int) : Nat → Nat → List Int
 | 0, i => pbW n sh pub sec (lfA at' i)
 | z + 1, i => ovW n sh pub at' (z + 1) i (knW n sh pub sec at' z (2 * i)) (knW n sh pub sec at' z (2 * i + 1))
theorem aq0 {n : Nat} (hn : n ≤ 32) (sh : Bool) (pub sec at' : List Int) : ∀ z i, (knW n sh pub sec at' z i).length = n
 | 0, i => agn hn _ _ _ _
 | z + 1, i => agn hn _ _ _ _
theorem bkf (n : Nat) (sh : Bool) (pub sec at' : List Int) : ∀ z i, In 256 (knW n sh pub sec at' z i)
 | 0, i => ake _ _ _ _ _
 | z + 1, i => ake _ _ _ _ _
theorem asr {n : Nat} {H D A K : Int} (hf : adz n H D A K) (sh : Bool) (sec pub a : List Int) (hsec : In 256 sec) (lsec : sec.length = n) (hp : In 256 pub) (np : pub.length = n) (la : a.length = 32) (ha : In 256 a) :
    ∀ (z i m : Nat), z < m → z < 1000 → (i + 1) * 2 ^ z ≤ 9223372036854775808 → ∀ {ρ : Type} (k : List Int → Option ρ), P.ow m n H D A K sh sec pub a (z : Int) (i : Int) k = k (knW n sh pub sec a z i)
 | z, i, 0, hm, hz, hi, ρ, k => by omega
 | 0, i, m + 1, hm, hz, hi, ρ, k => by
  rw [P.agf]; unfold P.acj
  rw [fq (show ((0 : Nat) : Int) = 0 from rfl), ax4 la _ _ _ _ _ _ _ _ i (by omega), aag hf sh sec pub _ hsec lsec hp np (auj la i) (bcf ha i)]
  rfl
 | z + 1, i, m + 1, hm, hz, hi, ρ, k => by
  have hn : n ≤ 32 := by unfold adz at hf; omega
  have hpow : (i + 1) * 2 ^ (z + 1) = (2 * i + 2) * 2 ^ z := by rw [Nat.pow_succ, Nat.mul_comm (2 ^ z) 2, ← Nat.mul_assoc]; congr 1; omega
  have h1 : (2 * i + 2) ≤ (2 * i + 2) * 2 ^ z := Nat.le_mul_of_pos_right _ (Nat.two_pow_pos z)
  have h2 : (2 * i + 1) * 2 ^ z ≤ (2 * i + 2) * 2 ^ z := Nat.mul_le_mul (by omega) (Nat.le_refl _)
  have h3 : (2 * i + 1 + 1) * 2 ^ z = (2 * i + 2) * 2 ^ z := rfl
  rw [P.agf]; unfold P.acj
  rw [fu (by omega), ni (by omega) (by omega), show ((z + 1 : Nat) : Int) - 1 = (z : Int) by omega, show (2 : Int) * (i : Int) = ((2 * i : Nat) : Int) by omega, afr _ (by omega), show ((2 * i : Nat) : Int) + 1 = ((2 * i + 1 : Nat) : Int) by omega, afr _ (by omega),
   asr hf sh sec pub a hsec lsec hp np la ha z (2 * i) m (by omega) (by omega) (by omega), asr hf sh sec pub a hsec lsec hp np la ha z (2 * i + 1) m (by omega) (by omega) (by omega),
   axz hf sh sec pub a _ _ hp np la ha (bkf _ _ _ _ _ _ _) (bkf _ _ _ _ _ _ _) (by rw [aq0 hn]; omega) (by rw [aq0 hn]; omega) (z + 1) i hz (by omega)]
  rfl
theorem sh0 (i h : Nat) (hh : h ≤ 64) (hi : i < 2 ^ h) : (i : Int).fdiv ((2 : Int) ^ min h 64) = 0 := by
 rw [fdiv_pow _ _ _ hh, Nat.div_eq_of_lt hi]
 rfl
theorem ad9 {n : Nat} {H D A K : Int} {h : Nat} (kd : Kd n H D A K h) (sh : Bool) (sec pub a : List Int) (hsec : In 256 sec) (lsec : sec.length = n) (hp : In 256 pub) (np : pub.length = n) (la : a.length = 32) (ha : In 256 a) (z i : Nat) (hz : z ≤ h) (hi : i < 2 ^ (h - z)) {ρ : Type} (k : List Int → Option ρ) :
    P.ad9 n H D A K sh sec pub a (z : Int) (i : Int) k = k (knW n sh pub sec a z i) := by
 have h2 := kd.h
 have hb : (i + 1) * 2 ^ z ≤ 2 ^ h := by
  have : (i + 1) * 2 ^ z ≤ 2 ^ (h - z) * 2 ^ z := Nat.mul_le_mul hi (Nat.le_refl _)
  rw [← Nat.pow_add, Nat.sub_add_cancel hz] at this
  exact this
 have h9 : 2 ^ h ≤ 2 ^ 9 := Nat.pow_le_pow_right (by omega) h2
 rw [P.aoc]; unfold P.ah3
 rw [aln kd sh _ (by simp) (fun j hj => by
  match j with
  | 0 => exact lsec
  | 1 => exact np
  | j + 2 => simp at hj; omega), jh, oh, dn (by omega), iy kd, dn (by omega), iy kd, ni (by omega) (by omega), dn (by omega), show ((h : Int) - (z : Int)).toNat = h - z by omega, sh0 i (h - z) (by omega) hi, cu rfl, toNat_cast,
  asr kd.1 sh sec pub a hsec lsec hp np la ha z i (z + 1) (by omega) (by omega) (by omega)]
def auT (n : Nat) (sh : Bool) (pub sec a : List Int) (leaf z : Nat) : List Int := knW n sh pub sec a z ((leaf / 2 ^ z) ^^^ 1)
def sgW (n : Nat) (sh : Bool) (pub sec a t : List Int) (leaf h : Nat) : List Int := cat (bo6 n sh pub sec (lfA a leaf) t) (2 * n + 3) ++ cat (auT n sh pub sec a leaf) h
theorem bvg {leaf h z : Nat} (hl : leaf < 2 ^ h) (hz : z < h) (hh : h ≤ 9) : ((leaf / 2 ^ z) ^^^ 1) + 1 ≤ 2 ^ h ∧ (((leaf / 2 ^ z) ^^^ 1) + 1) * 2 ^ z ≤ 9223372036854775808 := by
 have h9 : 2 ^ h ≤ 2 ^ 9 := Nat.pow_le_pow_right (by omega) hh
 have hz9 : 2 ^ z ≤ 2 ^ 9 := Nat.pow_le_pow_right (by omega) (by omega)
 have hd := Nat.div_le_self leaf (2 ^ z)
 have hx : ((leaf / 2 ^ z) ^^^ 1) < 2 ^ h := Nat.xor_lt_two_pow (by omega) (Nat.one_lt_two_pow (by omega))
 refine ⟨hx, ?_⟩
 have := Nat.mul_le_mul (show ((leaf / 2 ^ z) ^^^ 1) + 1 ≤ 2 ^ 9 by omega) hz9
 omega
theorem bic {n : Nat} (hn : n ≤ 32) (sh : Bool) (pub sec a t : List Int) (leaf h : Nat) : (sgW n sh pub sec a t leaf h).length = n * (2 * n + 3 + h) := by
 unfold sgW
 rw [List.length_append, aie (ato hn _ _ _ _ _), aie (T := auT n sh pub sec a leaf) (fun z => aq0 hn _ _ _ _ _ _), ← Nat.add_mul, Nat.mul_comm]
theorem brv (n : Nat) (sh : Bool) (pub sec a t : List Int) (leaf h : Nat) : In 256 (sgW n sh pub sec a t leaf h) := (ayf (btg n sh _ _ _ _) _).app (ayf (fun z => bkf _ _ _ _ _ _ _) _)
theorem yh {n : Nat} {H D A K : Int} {h : Nat} (kd : Kd n H D A K h) (sh : Bool) (t sec pub a : List Int) (ht : In 256 t) (lt : t.length = n) (hsec : In 256 sec) (lsec : sec.length = n) (hp : In 256 pub) (np : pub.length = n) (la : a.length = 32) (ha : In 256 a) (leaf : Nat) (hleaf : leaf < 2 ^ h) {ρ : Type} (k : List Int → Option ρ) :
    P.yh n H D A K sh t sec pub a (leaf : Int) k = k (sgW n sh pub sec a t leaf h) := by
 have hn := kd.n
 have h2 := kd.h
 have h9 : 2 ^ h ≤ 2 ^ 9 := Nat.pow_le_pow_right (by omega) h2
 have l1 := aie (ato hn sh pub sec (lfA a leaf) t) (2 * n + 3)
 have hmul : (2 * n + 3) * n ≤ 67 * 32 := Nat.mul_le_mul (by omega) hn
 rw [P.avw]; unfold P.alb
 rw [aln kd sh _ (by simp) (fun j hj => by
  match j with
  | 0 => exact lsec
  | 1 => exact np
  | 2 => exact lt
  | j + 3 => simp at hj; omega), jh, oh, iy kd, dn (by omega), toNat_cast, sh0 leaf h (by omega) hleaf, cu rfl, ax4 la _ _ _ _ _ _ _ _ leaf (by omega),
  ac4 kd.1 sh t sec pub _ ht lt hsec lsec hp np (auj la _) (bcf ha _), iy kd, P.ax5]
 unfold P.av0 P.b2b P.bxs P.b3r
 refine tu (fun z => ((leaf : Int), (h : Int), (z : Int), cat (bo6 n sh pub sec (lfA a leaf) t) (2 * n + 3) ++ cat (auT n sh pub sec a leaf) z, (n : Int), H, D, A, K, sh, sec, pub, a)) h (by simp [cat]) (fun z hz next hnx => ?_) (fun next => ?_) (by omega)
 ·have l2 := aie (T := auT n sh pub sec a leaf) (fun z => aq0 hn _ _ _ _ _ _) z
  have hb := bvg hleaf hz h2
  have hd := Nat.div_le_self leaf (2 ^ z)
  have hm2 : z * n ≤ 9 * 32 := Nat.mul_le_mul (by omega) hn
  simp only [P.an8, toNat_cast]
  rw [bg (by omega), dn (by omega), fdiv_pow _ _ _ (by omega), show (1 : Int) = ((1 : Nat) : Int) from rfl, bhy _ _ (by omega) (by omega),
   asr kd.1 sh sec pub a hsec lsec hp np la ha z _ (z + 1) (by omega) (by omega) hb.2, bg (by rw [aq0 hn, List.length_append]; omega), ni (by omega) (by omega), List.append_assoc]
  exact hnx
 ·simp only [P.an8]
  rw [dn (by omega)]
  rfl
def cnW (n : Nat) (sh : Bool) (pub a k0 path : List Int) (leaf : Nat) : Nat → List Int
 | 0 => k0
 | z + 1 => if leaf / 2 ^ z % 2 = 1 then ovW n sh pub a (z + 1) (leaf / 2 ^ (z + 1)) ((path.drop (z * n)).take n) (cnW n sh pub a k0 path leaf z)
  else ovW n sh pub a (z + 1) (leaf / 2 ^ (z + 1)) (cnW n sh pub a k0 path leaf z) ((path.drop (z * n)).take n)
theorem bhw {n : Nat} (hn : n ≤ 32) (sh : Bool) (pub a k0 path : List Int) (hk : k0.length = n) (leaf : Nat) : ∀ z, (cnW n sh pub a k0 path leaf z).length = n
 | 0 => hk
 | z + 1 => by rw [cnW]; split <;> exact agn hn _ _ _ _
theorem bl4 (n : Nat) (sh : Bool) (pub a k0 path : List Int) (hk : In 256 k0) (leaf : Nat) : ∀ z, In 256 (cnW n sh pub a k0 path leaf z)
 | 0 => hk
 | z + 1 => by rw [cnW]; split <;> exact ake _ _ _ _ _
def tpW (n : Nat) (sh : Bool) (pub a sig t : List Int) (leaf h : Nat) : List Int :=
 cnW n sh pub a (kyW n sh pub (lfA a leaf) (cat (bgc n sh (sig.take ((2 * n + 3) * n)) pub (lfA a leaf) t) (2 * n + 3))) (sig.drop ((2 * n + 3) * n)) leaf h
theorem bos {n : Nat} (hn : n ≤ 32) (sh : Bool) (pub a sig t : List Int) (leaf h : Nat) : (tpW n sh pub a sig t leaf h).length = n := bhw hn _ _ _ _ _ (agn hn _ _ _ _) _ _
theorem bro (n : Nat) (sh : Bool) (pub a sig t : List Int) (leaf h : Nat) : In 256 (tpW n sh pub a sig t leaf h) := bl4 _ _ _ _ _ _ (ake _ _ _ _ _) _ _
theorem jc {n : Nat} {H D A K : Int} {h : Nat} (kd : Kd n H D A K h) (sh : Bool) (sig t pub a : List Int) (hsig : In 256 sig) (lsig : sig.length = n * (2 * n + 3 + h)) (ht : In 256 t) (lt : t.length = n) (hp : In 256 pub) (np : pub.length = n) (la : a.length = 32) (ha : In 256 a) (leaf : Nat) (hleaf : leaf < 2 ^ h) {ρ : Type} (k : List Int → Option ρ) :
    P.jc n H D A K sh sig t pub a (leaf : Int) k = k (tpW n sh pub a sig t leaf h) := by
 have hn := kd.n
 have h2 := kd.h
 have h9 : 2 ^ h ≤ 2 ^ 9 := Nat.pow_le_pow_right (by omega) h2
 have hmul : (2 * n + 3) * n ≤ 67 * 32 := Nat.mul_le_mul (by omega) hn
 have hm2 : n * h ≤ 32 * 9 := Nat.mul_le_mul hn h2
 have hsz : n * (2 * n + 3 + h) = (2 * n + 3) * n + n * h := by rw [Nat.mul_add, Nat.mul_comm n (2 * n + 3)]
 have e1 : IntKind.i64.wrap ((sig.length : Int) - ((n * h : Nat) : Int)) = (((2 * n + 3) * n : Nat) : Int) := by
  rw [ni (by omega) (by omega)]; omega
 have lt1 : (sig.take ((2 * n + 3) * n)).length = (2 * n + 3) * n := by rw [List.length_take]; omega
 have ld : (sig.drop ((2 * n + 3) * n)).length = n * h := by rw [List.length_drop]; omega
 have hpath : In 256 (sig.drop ((2 * n + 3) * n)) := hsig.drop _
 have hk0 := agn hn sh pub (ao6 (ao6 (lfA a leaf) 2 1) 3 (prn (lfA a leaf))) (cat (bgc n sh (sig.take ((2 * n + 3) * n)) pub (lfA a leaf) t) (2 * n + 3))
 rw [P.akp]; unfold P.afm
 rw [aln kd sh _ (by simp) (fun j hj => by
  match j with
  | 0 => exact np
  | 1 => exact lt
  | j + 2 => simp at hj; omega), jh, oh, mg kd, cu (by rw [lsig]), iy kd, dn (by omega), toNat_cast, sh0 leaf h (by omega) hleaf, cu rfl, iy kd, mulN _ _ hn (by omega), e1, bg (by omega), bg (by omega), ax4 la _ _ _ _ _ _ _ _ leaf (by omega), List.drop_zero, toNat_cast,
  sj kd.1 sh _ t pub _ (hsig.take _) lt1 ht lt hp np (auj la _) (bcf ha _), bg (by omega), bg (by omega), bg (by omega), iy kd, toNat_cast, List.take_length, P.apj]
 unfold P.akw P.b3d P.bxz P.b4v tpW
 have hk1 := ake n sh pub (ao6 (ao6 (lfA a leaf) 2 1) 3 (prn (lfA a leaf))) (cat (bgc n sh (sig.take ((2 * n + 3) * n)) pub (lfA a leaf) t) (2 * n + 3))
 generalize sig.drop ((2 * n + 3) * n) = path at ld hpath
 unfold kyW
 generalize ber n sh pub (ao6 (ao6 (lfA a leaf) 2 1) 3 (prn (lfA a leaf))) (cat (bgc n sh (sig.take ((2 * n + 3) * n)) pub (lfA a leaf) t) (2 * n + 3)) = k0 at hk0 hk1
 refine tu (fun z => ((leaf : Int), cnW n sh pub a k0 path leaf z, path.drop (z * n), (h : Int), (z : Int), (n : Int), H, D, A, K, sh, (n : Int), H, D, A, K, sh, pub, a)) h (by simp [cnW]) (fun z hz next hnx => ?_) (fun next => ?_) (by omega)
 ·have hd := Nat.div_le_self leaf (2 ^ z)
  have hd1 := Nat.div_le_self leaf (2 ^ (z + 1))
  have hzn : z * n + n ≤ n * h := by rw [← Nat.succ_mul, Nat.mul_comm n h]; exact Nat.mul_le_mul hz (Nat.le_refl _)
  have lp2 : (path.drop (z * n)).length = n * h - z * n := by rw [List.length_drop]; omega
  have lc := bhw hn sh pub a k0 path hk0 leaf z
  have ic := bl4 n sh pub a k0 path hk1 leaf z
  have lq : ((path.drop (z * n)).take n).length = n := by rw [List.length_take]; omega
  have iq : In 256 ((path.drop (z * n)).take n) := (hpath.drop _).take _
  rw [Nat.succ_mul, ← List.drop_drop] at hnx
  simp only [P.af5, toNat_cast]
  rw [bg (by omega), bg (by omega), bg (by omega), dn (by omega), fdiv_pow _ _ _ (by omega), show bits BinOp.and IntKind.u64 ((leaf / 2 ^ z : Nat) : Int) 1 = ((leaf / 2 ^ z % 2 : Nat) : Int) by
   rw [show (1 : Int) = ((1 : Nat) : Int) from rfl, aq2 _ _ (by omega) (by omega), Nat.and_one_is_mod]]
  have ez : IntKind.i64.wrap ((z : Int) + 1) = ((z + 1 : Nat) : Int) := by rw [ni (by omega) (by omega)]; omega
  rw [ez, toNat_cast, fdiv_pow _ _ _ (by omega), List.drop_zero, List.take_length]
  by_cases hb : leaf / 2 ^ z % 2 = 1
  ·rw [cnW, if_pos hb] at hnx
   rw [fq (by omega), dn (by omega), axz kd.1 sh _ pub a _ _ hp np la ha iq ic (by omega) (by omega) (z + 1) _ (by omega) (by omega), bg (by omega), bg (by omega), bg (by omega)]
   exact hnx
  ·rw [cnW, if_neg hb] at hnx
   rw [fu (by omega), dn (by omega), axz kd.1 sh _ pub a _ _ hp np la ha ic iq (by omega) (by omega) (z + 1) _ (by omega) (by omega), bg (by omega), bg (by omega), bg (by omega)]
   exact hnx
 ·simp only [P.af5]
  rw [dn (by omega)]
end Q
end

section
/- xmss: knots, signatures, tops, by the document; and where there are none. -/
namespace Q
open QK
open Go Go.Abs
set_option linter.unusedVariables false
set_option linter.unusedSimpArgs false
theorem bq3 (h : Nat) : (2 : Int) ^ h = ((2 ^ h : Nat) : Int) := by rw [Int.natCast_pow]; rfl
theorem bet (a z : Nat) (hz : z ≤ 64) (hb : a * 2 ^ z < 18446744073709551616) : IntKind.u64.wrap ((a : Int) * (2 : Int) ^ min z 64) = ((a * 2 ^ z : Nat) : Int) := by
 rw [Nat.min_eq_left hz, bq3, ← Int.natCast_mul, afr _ hb]
theorem biq (h : Nat) (hh : h ≤ 63) : IntKind.u64.wrap ((1 : Int) * (2 : Int) ^ min h 64) = ((2 ^ h : Nat) : Int) := by
 have := bet 1 h (by omega) (by rw [Nat.one_mul]; exact Nat.pow_lt_pow_right (a := 2) (m := h) (n := 64) (by omega) (by omega))
 rw [Nat.one_mul] at this
 exact this
theorem Kd.d {n : Nat} {H D A K : Int} {h : Nat} (k : Kd n H D A K h) : ¬ D = 0 := by have := k.1; unfold adz at this; omega
theorem aod {n : Nat} {H D A K : Int} {h : Nat} (kd : Kd n H D A K h) (sh : Bool) (l : List (List Int)) (hl : l.length ≤ 100) (i0 : Nat) (hi0 : i0 < l.length) (hn : (l.getD i0 []).length ≠ n) {ρ : Type} (k : Bool → Option ρ) : P.ku n H D A K sh l k = k false := by
 rw [P.anu]; unfold P.ahz
 rw [P.an0]; unfold P.aoj P.zk3 P.zs3 P.zu3
 refine tu (fun i => (l, (l.length : Int), (i : Int), (n : Int), H, D, A, K, sh)) i0 rfl (fun i hi next hnx => ?_) (fun next => ?_) (by omega)
 ·simp only [P.agr, toNat_cast, Sum.elim_inl, Sum.elim_inr]
  by_cases hb : (l.getD i []).length = n
  ·rw [bg (by omega), bg (by omega), bg (by omega), cu (by omega), ni (by omega) (by omega)]
   exact hnx
  ·rw [bg (by omega), bg (by omega), bg (by omega), gu (by omega)]
 ·simp only [P.agr, toNat_cast, Sum.elim_inl, Sum.elim_inr]
  rw [bg (by omega), bg (by omega), bg (by omega), gu (by omega)]
theorem sh1 (i h : Nat) (hh : h ≤ 64) (hi : ¬ i < 2 ^ h) : ¬ (i : Int).fdiv ((2 : Int) ^ min h 64) = 0 := by
 rw [fdiv_pow _ _ _ hh]
 have := Nat.div_pos (show 2 ^ h ≤ i by omega) (Nat.two_pow_pos h)
 omega
theorem aam {n : Nat} {H D A K : Int} {h : Nat} (kd : Kd n H D A K h) (sh : Bool) {ρ : Type} (k : Int → Option ρ) : P.aam n H D A K sh k = k ((n * (2 * n + 3 + h) : Nat) : Int) := by
 have h1 := kd.n
 have h2 := kd.h
 rw [P.ax3]; unfold P.anr
 rw [p8, decide_eq_true kd.1, jh, oh, dn kd.d, kd.2, ni (x := (2 : Int) * (n : Int)) (by omega) (by omega), ni (x := (2 : Int) * (n : Int) + 3) (by omega) (by omega), ni (x := (2 : Int) * (n : Int) + 3 + (h : Int)) (by omega) (by omega), show (2 : Int) * (n : Int) + 3 + (h : Int) = ((2 * n + 3 + h : Nat) : Int) by omega, mulN _ _ h1 (by omega)]
theorem zh {a : List Int} (la : a.length = 32) (i : Nat) (hi : i < 18446744073709551616) {ρ : Type} (k : List Int → Option ρ) : P.zh a (i : Int) k = k (lfA a i) := by
 rw [P.axp]; unfold P.aoh
 rw [show P.ji (ρ := ρ) a 2 0 = P.ji a 2 ((0 : Nat) : Int) from rfl, ji la 2 0 (by omega), ji (jr la _ _) 3 i hi]
 rfl
theorem aaw {n : Nat} {H D A K : Int} (hf : adz n H D A K) (sh : Bool) (pub a l r : List Int) (hp : In 256 pub) (np : pub.length = n) (la : a.length = 32) (ha : In 256 a) (hl : In 256 l) (hr : In 256 r) (nl : l.length ≤ 1000) (nr : r.length ≤ 1000) (z i : Nat) (hz : z < 1000) (hi : i < 18446744073709551616) {ρ : Type} (k : List Int → Option ρ) :
    P.aaw n H D A K sh pub a (z : Int) (i : Int) l r k = k (ovW n sh pub a z i l r) := by
 have e : [l, r].flatten = l ++ r := by simp
 have hlr : (l ++ r).length ≤ 2000 := by rw [List.length_append]; omega
 rw [P.azb]; unfold P.an2
 rw [show P.ji (ρ := ρ) a 2 2 = P.ji a 2 ((2 : Nat) : Int) from rfl, ji la 2 2 (by omega), afr _ (by omega), ji (jr la _ _) 4 z (by omega), ji (jr (jr la _ _) _ _) 5 i hi, ko _ (by simp) (by rw [e]; omega), e,
  aah hf sh pub hp np _ _ (jr (jr (jr la _ _) _ _) _ _) (wh (wh (wh ha _ _) _ _) _ _) (hl.app hr) (by omega)]
 rfl
theorem getD_map (f : Nat → List Int) (m i : Nat) (h : i < m) : ((List.range m).map f).getD i [] = f i := by
 rw [List.getD_eq_getElem?_getD, List.getElem?_map, List.getElem?_range h]
 rfl
def rwK (n : Nat) (sh : Bool) (pub sec a : List Int) (z i y : Nat) (j : Nat) : List Int := knW n sh pub sec a y (i * 2 ^ (z - y) + j)
theorem br3 (n : Nat) (sh : Bool) (pub sec a : List Int) (z i y j : Nat) : In 256 (rwK n sh pub sec a z i y j) := bkf _ _ _ _ _ _ _
theorem bl9 {n : Nat} (hn : n ≤ 32) (sh : Bool) (pub sec a : List Int) (z i y j : Nat) : (rwK n sh pub sec a z i y j).length = n := aq0 hn _ _ _ _ _ _
theorem bs2 {n : Nat} {H D A K : Int} (hf : adz n H D A K) (sh : Bool) (sec pub a : List Int) (hp : In 256 pub) (np : pub.length = n) (la : a.length = 32) (ha : In 256 a) (z i y : Nat) (hy : y < z) (hz : z ≤ 9) (hb : (i + 1) * 2 ^ z ≤ 512) {ρ : Type}
    (k0 : (List Int) → Int → Int → (List (List Int)) → Int → Int → (List (List Int)) → (List Int) → Int → Int → Int → Int → Int → Bool → Option ρ) (r : Option ρ)
    (hk : k0 pub z i ((List.range (2 ^ (z - y))).map (rwK n sh pub sec a z i y)) ((y + 1 : Nat) : Int) ((2 ^ (z - y) : Nat) : Int) ((List.range (2 ^ (z - (y + 1)))).map (rwK n sh pub sec a z i (y + 1))) a n H D A K sh = r) :
    P.anv pub z i ((List.range (2 ^ (z - y))).map (rwK n sh pub sec a z i y)) ((y + 1 : Nat) : Int) 0 [] a n H D A K sh k0 = r := by
 have hn : n ≤ 32 := by unfold adz at hf; omega
 have e2 : 2 ^ (z - y) = 2 * 2 ^ (z - (y + 1)) := by rw [show z - y = (z - (y + 1)) + 1 by omega, Nat.pow_succ]; omega
 have hp2 : 2 ^ (z - (y + 1)) ≤ 2 ^ 9 := Nat.pow_le_pow_right (by omega) (by omega)
 have hi2 : i * 2 ^ (z - (y + 1)) ≤ 512 := by
  have h1 : i * 2 ^ (z - (y + 1)) ≤ (i + 1) * 2 ^ z := Nat.mul_le_mul (by omega) (Nat.pow_le_pow_right (by omega) (by omega))
  omega
 rw [P.ayw]; unfold P.av4 P.b1o P.bvu P.b6c
 refine tu (fun j => (pub, (z : Int), (i : Int), (List.range (2 ^ (z - y))).map (rwK n sh pub sec a z i y), ((y + 1 : Nat) : Int), ((2 * j : Nat) : Int), (List.range j).map (rwK n sh pub sec a z i (y + 1)), a, (n : Int), H, D, A, K, sh)) (2 ^ (z - (y + 1))) rfl (fun j hj next hnx => ?_) (fun next => ?_) (by omega)
 ·simp only [P.anq]
  have ll : ((List.range (2 ^ (z - y))).map (rwK n sh pub sec a z i y)).length = 2 ^ (z - y) := by simp
  have et : ((2 * j : Nat) : Int).tdiv 2 = (j : Int) := by rw [Int.tdiv_eq_ediv_of_nonneg (by omega)]; omega
  rw [ni (x := ((2 * j : Nat) : Int) + 1) (by omega) (by omega), ll, bg (by omega), ni (x := (z : Int) - ((y + 1 : Nat) : Int)) (by omega) (by omega), dn (by omega), bg (by omega), bg (by omega), bg (by omega), bg (by omega), et,
   show ((z : Int) - ((y + 1 : Nat) : Int)).toNat = z - (y + 1) by omega, bet i (z - (y + 1)) (by omega) (by omega), ni (x := (j : Int)) (by omega) (by omega), afr j (by omega), show ((i * 2 ^ (z - (y + 1)) : Nat) : Int) + (j : Int) = ((i * 2 ^ (z - (y + 1)) + j : Nat) : Int) by omega, afr _ (by omega), toNat_cast,
   show (((2 * j : Nat) : Int) + 1).toNat = 2 * j + 1 by omega, getD_map _ _ _ (by omega), getD_map _ _ _ (by omega),
   aaw hf sh pub a _ _ hp np la ha (br3 _ _ _ _ _ _ _ _ _) (br3 _ _ _ _ _ _ _ _ _) (by rw [bl9 hn]; omega) (by rw [bl9 hn]; omega) (y + 1) _ (by omega) (by omega), bg (by simp; omega), ni (x := ((2 * j : Nat) : Int) + 2) (by omega) (by omega), show ((2 * j : Nat) : Int) + 2 = ((2 * (j + 1) : Nat) : Int) by omega]
  have e : rwK n sh pub sec a z i (y + 1) j = ovW n sh pub a (y + 1) (i * 2 ^ (z - (y + 1)) + j) (rwK n sh pub sec a z i y (2 * j)) (rwK n sh pub sec a z i y (2 * j + 1)) := by
   unfold rwK
   rw [knW, e2, show i * (2 * 2 ^ (z - (y + 1))) + 2 * j = 2 * (i * 2 ^ (z - (y + 1)) + j) by rw [Nat.mul_add, Nat.mul_left_comm], show i * (2 * 2 ^ (z - (y + 1))) + (2 * j + 1) = 2 * (i * 2 ^ (z - (y + 1)) + j) + 1 by rw [Nat.mul_add, Nat.mul_left_comm]; omega]
  rw [← xu, e] at hnx
  exact hnx
 ·simp only [P.anq]
  rw [ni (x := ((2 * 2 ^ (z - (y + 1)) : Nat) : Int) + 1) (by omega) (by omega), dn (by rw [List.length_map, List.length_range, e2]; omega), ← e2]
  exact hk
theorem afj {n : Nat} {H D A K : Int} {h : Nat} (kd : Kd n H D A K h) (sh : Bool) (sec pub a : List Int) (hsec : In 256 sec) (lsec : sec.length = n) (hp : In 256 pub) (np : pub.length = n) (la : a.length = 32) (ha : In 256 a) (z i : Nat) (hz : z ≤ h) (hi : i < 2 ^ (h - z)) {ρ : Type} (k : List Int → Option ρ) :
    P.afj n H D A K sh sec pub a (z : Int) (i : Int) k = k (knW n sh pub sec a z i) := by
 have hn := kd.n
 have h2 := kd.h
 have hb : (i + 1) * 2 ^ z ≤ 2 ^ h := by
  have : (i + 1) * 2 ^ z ≤ 2 ^ (h - z) * 2 ^ z := Nat.mul_le_mul hi (Nat.le_refl _)
  rw [← Nat.pow_add, Nat.sub_add_cancel hz] at this
  exact this
 have h9 : 2 ^ h ≤ 2 ^ 9 := Nat.pow_le_pow_right (by omega) h2
 have hz9 : 2 ^ z ≤ 2 ^ 9 := Nat.pow_le_pow_right (by omega) (by omega)
 have e1 : (i + 1) * 2 ^ z = i * 2 ^ z + 2 ^ z := by rw [Nat.add_mul, Nat.one_mul]
 have p0 : 0 < 2 ^ z := Nat.two_pow_pos z
 have hi9 : i < 512 := by
  have : 2 ^ (h - z) ≤ 2 ^ 9 := Nat.pow_le_pow_right (by omega) (by omega)
  omega
 rw [P.azd]; unfold P.aou
 rw [p8, decide_eq_true kd.1, jh, oh, cu (by omega), cu (by omega), dn (by omega), dn kd.d, kd.2, dn (by omega), dn kd.d, ni (x := (h : Int) - (z : Int)) (by omega) (by omega), dn (by omega), show ((h : Int) - (z : Int)).toNat = h - z by omega, biq _ (by omega), dn (by omega), dn (by omega), toNat_cast, bet i z (by omega) (by omega), P.bal]
 unfold P.azr P.b29 P.b1a P.b34
 refine tu (fun j => (sec, pub, (z : Int), (i : Int), ((i * 2 ^ z + j : Nat) : Int), (List.range j).map (rwK n sh pub sec a z i 0), (n : Int), H, D, A, K, sh, a)) (2 ^ z) rfl (fun j hj next hnx => ?_) (fun next => ?_) (by omega)
 ·simp only [P.aqv, toNat_cast]
  rw [dn (by omega), show (i : Int) + 1 = ((i + 1 : Nat) : Int) by omega, afr (i + 1) (by omega), bet (i + 1) z (by omega) (by omega), bg (by omega), zh la _ (by omega), aa7 kd.1 sh sec pub _ hsec lsec hp np (auj la _) (bcf ha _), bg (by simp; omega),
   show ((i * 2 ^ z + j : Nat) : Int) + 1 = ((i * 2 ^ z + (j + 1) : Nat) : Int) by omega, afr _ (by omega)]
  rw [← xu] at hnx
  exact hnx
 ·simp only [P.aqv, toNat_cast]
  rw [dn (by omega), show (i : Int) + 1 = ((i + 1 : Nat) : Int) by omega, afr (i + 1) (by omega), bet (i + 1) z (by omega) (by omega), dn (by omega), P.az4]
  unfold P.axj P.b1q P.bwo P.b3z
  refine tu (fun y => (pub, (z : Int), (i : Int), (List.range (2 ^ (z - y))).map (rwK n sh pub sec a z i y), ((y + 1 : Nat) : Int), (n : Int), H, D, A, K, sh, a)) z rfl (fun y hy next hnx => ?_) (fun next => ?_) (by omega)
  ·simp only [P.aqs]
   rw [bg (by omega)]
   refine bs2 kd.1 sh sec pub a hp np la ha z i y hy (by omega) (by omega) _ _ ?_
   rw [show ((y + 1 : Nat) : Int) + 1 = ((y + 1 + 1 : Nat) : Int) by omega, ni (by omega) (by omega)]
   exact hnx
  ·simp only [P.aqs]
   rw [dn (by omega), Nat.sub_self, Nat.pow_zero, bg (by simp), getD_map _ _ _ (by omega)]
   unfold rwK
   rw [Nat.sub_self, Nat.pow_zero, Nat.mul_one, Nat.add_zero]
theorem ae1 {n : Nat} {H D A K : Int} {h : Nat} (kd : Kd n H D A K h) (sh : Bool) (t sec pub a : List Int) (ht : In 256 t) (lt : t.length = n) (hsec : In 256 sec) (lsec : sec.length = n) (hp : In 256 pub) (np : pub.length = n) (la : a.length = 32) (ha : In 256 a) (leaf : Nat) (hleaf : leaf < 2 ^ h) {ρ : Type} (k : List Int → Option ρ) :
    P.ae1 n H D A K sh t sec pub a (leaf : Int) k = k (sgW n sh pub sec a t leaf h) := by
 have hn := kd.n
 have h2 := kd.h
 have h9 : 2 ^ h ≤ 2 ^ 9 := Nat.pow_le_pow_right (by omega) h2
 have l1 := aie (ato hn sh pub sec (lfA a leaf) t) (2 * n + 3)
 have hmul : (2 * n + 3) * n ≤ 67 * 32 := Nat.mul_le_mul (by omega) hn
 rw [P.azz]; unfold P.aof
 rw [p8, decide_eq_true kd.1, jh, oh, cu (by omega), cu (by omega), cu (by omega), dn kd.d, kd.2, dn (by omega), toNat_cast, biq _ (by omega), dn (by omega), zh la _ (by omega), aeu kd.1 sh t sec pub _ ht lt hsec lsec hp np (auj la _) (bcf ha _), P.bae]
 unfold P.azy P.b2s P.bvc P.b3i
 refine tu (fun z => (sec, pub, (leaf : Int), (z : Int), cat (bo6 n sh pub sec (lfA a leaf) t) (2 * n + 3) :: (List.range z).map (auT n sh pub sec a leaf), (n : Int), H, D, A, K, sh, a)) h rfl (fun z hz next hnx => ?_) (fun next => ?_) (by omega)
 ·have hb := bvg hleaf hz h2
  have hd := Nat.div_le_self leaf (2 ^ z)
  have hlt : (leaf / 2 ^ z) ^^^ 1 < 2 ^ (h - z) := Nat.xor_lt_two_pow (by
   rw [Nat.div_lt_iff_lt_mul (Nat.two_pow_pos z), ← Nat.pow_add, Nat.sub_add_cancel (by omega)]
   exact hleaf) (Nat.one_lt_two_pow (by omega))
  simp only [P.arb, toNat_cast]
  rw [dn kd.d, kd.2, bg (by omega), dn (by omega), fdiv_pow _ _ _ (by omega), show (1 : Int) = ((1 : Nat) : Int) from rfl, bhy _ _ (by omega) (by omega),
   afj kd sh sec pub a hsec lsec hp np la ha z _ (by omega) hlt, bg (by simp; omega), ni (by omega) (by omega), List.cons_append]
  rw [← xu] at hnx
  exact hnx
 ·have l2 := aie (T := auT n sh pub sec a leaf) (fun z => aq0 hn _ _ _ _ _ _) h
  have hm2 : h * n ≤ 9 * 32 := Nat.mul_le_mul (by omega) hn
  simp only [P.arb]
  rw [dn kd.d, kd.2, dn (by omega), ko _ (by simp; omega) (by rw [List.flatten_cons, adu, List.length_append]; omega), List.flatten_cons, adu]
  rfl
theorem pz {n : Nat} {H D A K : Int} {h : Nat} (kd : Kd n H D A K h) (sh : Bool) (sig t pub a : List Int) (hsig : In 256 sig) (lsig : sig.length = n * (2 * n + 3 + h)) (ht : In 256 t) (lt : t.length = n) (hp : In 256 pub) (np : pub.length = n) (la : a.length = 32) (ha : In 256 a) (leaf : Nat) (hleaf : leaf < 2 ^ h) {ρ : Type} (k : List Int → Option ρ) :
    P.pz n H D A K sh sig t pub a (leaf : Int) k = k (tpW n sh pub a sig t leaf h) := by
 have hn := kd.n
 have h2 := kd.h
 have h9 : 2 ^ h ≤ 2 ^ 9 := Nat.pow_le_pow_right (by omega) h2
 have hmul : (2 * n + 3) * n ≤ 67 * 32 := Nat.mul_le_mul (by omega) hn
 have hc : (n : Int) * ((2 * n + 3 : Nat) : Int) = (((2 * n + 3) * n : Nat) : Int) := by rw [Int.natCast_mul, Int.mul_comm]
 have e3 : IntKind.i64.wrap (IntKind.i64.wrap ((2 : Int) * (n : Int)) + (3 : Int)) = ((2 * n + 3 : Nat) : Int) := by
  rw [ni (x := (2 : Int) * (n : Int)) (by omega) (by omega), ni (by omega) (by omega)]; omega
 have hsz : n * (2 * n + 3 + h) = (2 * n + 3) * n + h * n := by rw [Nat.mul_add, Nat.mul_comm n h, Nat.mul_comm n (2 * n + 3)]
 obtain ⟨kk, hkk, lk, ik⟩ : ∃ kk, kk = kyW n sh pub (lfA a leaf) (cat (bgc n sh (sig.take ((2 * n + 3) * n)) pub (lfA a leaf) t) (2 * n + 3)) ∧ kk.length = n ∧ In 256 kk := ⟨_, rfl, agn hn _ _ _ _, ake _ _ _ _ _⟩
 rw [P.amz]; unfold P.agd
 rw [p8, decide_eq_true kd.1, jh, oh, cu (by omega), cu (by omega), aam kd, cu (by omega), dn kd.d, kd.2, dn (by omega), toNat_cast, biq _ (by omega), dn (by omega), e3, hc, ni (by omega) (by omega), toNat_cast, bg (by omega), bg (by omega), zh la _ (by omega), List.drop_zero,
  uy kd.1 sh _ t pub _ (hsig.take _) (by rw [List.length_take]; omega) ht lt hp np (auj la _) (bcf ha _), P.aqw]
 unfold P.amm P.b23 P.bx8 P.b39
 refine tu (fun z => (sig, pub, (leaf : Int), (((2 * n + 3) * n : Nat) : Int), cnW n sh pub a kk (sig.drop ((2 * n + 3) * n)) leaf z, (z : Int), (n : Int), H, D, A, K, sh, a)) h (by rw [hkk]; rfl) (fun z hz next hnx => ?_) (fun next => ?_) (by omega)
 ·have hd := Nat.div_le_self leaf (2 ^ z)
  have hd2 := Nat.div_le_self leaf (2 ^ (z + 1))
  have hm2 : z * n ≤ 9 * 32 := Nat.mul_le_mul (by omega) hn
  have hm3 : (z + 1) * n ≤ h * n := Nat.mul_le_mul (by omega) (Nat.le_refl _)
  rw [Nat.succ_mul] at hm3
  have ec : (n : Int) * (z : Int) = ((z * n : Nat) : Int) := by rw [Int.natCast_mul, Int.mul_comm]
  have es : List.drop ((2 * n + 3) * n + z * n) (List.take ((2 * n + 3) * n + z * n + n) sig) = ((sig.drop ((2 * n + 3) * n)).drop (z * n)).take n := by
   rw [List.drop_take, List.drop_drop, Nat.add_sub_cancel_left]
  have ic := bl4 n sh pub a kk (sig.drop ((2 * n + 3) * n)) ik leaf z
  have lc := bhw hn sh pub a kk (sig.drop ((2 * n + 3) * n)) lk leaf z
  have is' : In 256 (((sig.drop ((2 * n + 3) * n)).drop (z * n)).take n) := ((hsig.drop _).drop _).take _
  have ls' : (((sig.drop ((2 * n + 3) * n)).drop (z * n)).take n).length ≤ n := by rw [List.length_take]; omega
  simp only [P.ahe, ec]
  rw [dn kd.d, kd.2, bg (by omega), ni (x := ((z * n : Nat) : Int)) (by omega) (by omega), show (((2 * n + 3) * n : Nat) : Int) + ((z * n : Nat) : Int) = (((2 * n + 3) * n + z * n : Nat) : Int) by omega, ni (x := (((2 * n + 3) * n + z * n : Nat) : Int)) (by omega) (by omega),
   show (((2 * n + 3) * n + z * n : Nat) : Int) + (n : Int) = (((2 * n + 3) * n + z * n + n : Nat) : Int) by omega, ni (x := (((2 * n + 3) * n + z * n + n : Nat) : Int)) (by omega) (by omega)]
  simp only [toNat_cast]
  rw [bg (by omega), bg (by omega), bg (by omega), dn (by omega), ni (x := (z : Int) + 1) (by omega) (by omega), show (z : Int) + 1 = ((z + 1 : Nat) : Int) by omega, dn (by omega), toNat_cast, fdiv_pow _ _ _ (by omega), fdiv_pow _ _ _ (by omega), es]
  have em : ((leaf / 2 ^ z : Nat) : Int).tmod 2 = ((leaf / 2 ^ z % 2 : Nat) : Int) := by rw [Int.tmod_eq_emod_of_nonneg (Int.natCast_nonneg _)]; rfl
  rw [em]
  rw [cnW] at hnx
  by_cases hb : leaf / 2 ^ z % 2 = 1
  ·rw [if_pos hb] at hnx
   rw [hb, fu (by omega), dn (by omega)]
   have := aaw kd.1 sh pub a _ _ hp np la ha is' ic (by omega) (by omega) (z + 1) (leaf / 2 ^ (z + 1)) (by omega) (by omega) (ρ := ρ)
   rw [this]
   exact hnx
  ·rw [if_neg hb] at hnx
   rw [show leaf / 2 ^ z % 2 = 0 by omega, fq (by omega)]
   have := aaw kd.1 sh pub a _ _ hp np la ha ic is' (by omega) (by omega) (z + 1) (leaf / 2 ^ (z + 1)) (by omega) (by omega) (ρ := ρ)
   rw [this]
   exact hnx
 ·simp only [P.ahe]
  rw [dn kd.d, kd.2, dn (by omega), hkk]
  rfl
end Q
end

section
/- xmss: trees in trees, by the program. -/
namespace Q
open QK
open Go Go.Abs
set_option linter.unusedVariables false
set_option linter.unusedSimpArgs false
abbrev Z32 : List Int := [0, 0, 0, 0, 0, 0, 0, 0, 0, 0, 0, 0, 0, 0, 0, 0, 0, 0, 0, 0, 0, 0, 0, 0, 0, 0, 0, 0, 0, 0, 0, 0]
theorem b0g : In 256 Z32 := fun x hx => by
 have : x = 0 := by simpa [Z32] using hx
 omega
def plA (d num : Nat) : List Int := ao6 (ao6 Z32 0 d) 1 num
theorem at7 (d num : Nat) : (plA d num).length = 32 := jr (jr rfl _ _) _ _
theorem bcc (d num : Nat) : In 256 (plA d num) := wh (wh b0g _ _) _ _
def nmb (h num d : Nat) : Nat := num / 2 ^ (h * d)
theorem bj2 (h num d : Nat) : nmb h num d ≤ num := Nat.div_le_self _ _
theorem aw3 (h num d : Nat) : nmb h num (d + 1) = nmb h num d / 2 ^ h := by
 unfold nmb
 rw [Nat.div_div_eq_div_mul, ← Nat.pow_add, Nat.mul_succ]
def lfN (h num leaf : Nat) : Nat → Nat
 | 0 => leaf
 | d + 1 => nmb h num d % 2 ^ h
theorem bj8 {h leaf : Nat} (num : Nat) (hl : leaf < 2 ^ h) : ∀ d, lfN h num leaf d < 2 ^ h
 | 0 => hl
 | d + 1 => Nat.mod_lt _ (Nat.two_pow_pos h)
def vrT (n : Nat) (sh : Bool) (pub sig t : List Int) (num leaf h sz : Nat) : Nat → List Int
 | 0 => t
 | d + 1 => tpW n sh pub (plA d (nmb h num d)) ((sig.drop (d * sz)).take sz) (vrT n sh pub sig t num leaf h sz d) (lfN h num leaf d) h
theorem bdc {n : Nat} (hn : n ≤ 32) (sh : Bool) (pub sig t : List Int) (lt : t.length = n) (num leaf h sz : Nat) : ∀ d, (vrT n sh pub sig t num leaf h sz d).length = n
 | 0 => lt
 | d + 1 => bos hn _ _ _ _ _ _ _
theorem bnr (n : Nat) (sh : Bool) (pub sig t : List Int) (ht : In 256 t) (num leaf h sz : Nat) : ∀ d, In 256 (vrT n sh pub sig t num leaf h sz d)
 | 0 => ht
 | d + 1 => bro _ _ _ _ _ _ _ _
theorem bjg (num h : Nat) (hn : num < 18446744073709551616) (hh : h ≤ 9) : (num : Int).fdiv ((2 : Int) ^ min h 64) = ((num / 2 ^ h : Nat) : Int) ∧
    bits .and .u64 (num : Int) (IntKind.u64.wrap (IntKind.u64.wrap ((1 : Int) * (2 : Int) ^ min h 64) - (1 : Int))) = ((num % 2 ^ h : Nat) : Int) := by
 have h9 : 2 ^ h ≤ 2 ^ 9 := Nat.pow_le_pow_right (by omega) hh
 refine ⟨fdiv_pow _ _ _ (by omega), ?_⟩
 rw [brn h (by omega), aq2 _ _ hn (by omega), Nat.and_two_pow_sub_one_eq_mod]
theorem jy {n : Nat} {H D A K : Int} {h : Nat} (kd : Kd n H D A K h) (sh : Bool) (r : Nat) (hr : H - (h : Int) = (r : Int)) (r64 : r ≤ 64) (num leaf : Nat) (hnum : num < 2 ^ r) (hleaf : leaf < 2 ^ h) {ρ : Type} (k : Bool → Option ρ) :
    P.jy n H D A K sh (num : Int) (leaf : Int) k = k true := by
 have h2 := kd.h
 rw [P.aj2]; unfold P.afe
 rw [iy kd, hr, ni (by omega) (by omega), dn (by omega), toNat_cast, sh0 num r r64 hnum, fq rfl, iy kd, dn (by omega), toNat_cast, sh0 leaf h (by omega) hleaf]
 rfl
theorem y5 {n : Nat} {H A K : Int} {h D : Nat} (kd : Kd n H D A K h) (hD : D ≤ 68) (sh : Bool) (t sig pub top : List Int) (ht : In 256 t) (lt : t.length = n) (hsig : In 256 sig) (lsig : sig.length = D * (n * (2 * n + 3 + h))) (hp : In 256 pub) (np : pub.length = n) (ltop : top.length = n) (itop : In 256 top) (r : Nat) (hr : H - (h : Int) = (r : Int)) (r64 : r ≤ 64) (num leaf : Nat) (hnum : num < 2 ^ r) (hleaf : leaf < 2 ^ h) {ρ : Type} (k : Bool → Option ρ) :
    P.y5 n H D A K sh t sig pub top (num : Int) (leaf : Int) k = k (decide (vrT n sh pub sig t num leaf h (n * (2 * n + 3 + h)) D = top)) := by
 have hn := kd.n
 have h2 := kd.h
 have hsz : n * (2 * n + 3 + h) ≤ 32 * 76 := Nat.mul_le_mul hn (by omega)
 have hDs : D * (n * (2 * n + 3 + h)) ≤ 68 * (32 * 76) := Nat.mul_le_mul hD hsz
 have h64 : num < 18446744073709551616 := Nat.lt_of_lt_of_le hnum (Nat.pow_le_pow_right (n := 2) (by omega) r64)
 generalize hz : n * (2 * n + 3 + h) = sz at lsig hsz hDs
 have eD : IntKind.i64.wrap ((D : Int) * (sz : Int)) = ((D * sz : Nat) : Int) := by
  rw [show (D : Int) * (sz : Int) = ((D * sz : Nat) : Int) by rw [Int.natCast_mul], ni (by omega) (by omega)]
 rw [P.aay]; unfold P.yt
 rw [aln kd sh _ (by simp) (fun j hj => by
  match j with
  | 0 => exact lt
  | 1 => exact np
  | 2 => exact ltop
  | j + 3 => simp at hj; omega), jh, oh, mg kd, hz, eD, cu (by rw [lsig]), jy kd sh r hr r64 num leaf hnum hleaf, jh, oh, P.arn]
 unfold P.amk P.b2f P.b0k P.b9c
 refine tu (fun d => (top, (D : Int), (d : Int), (n : Int), H, (D : Int), A, K, sh, vrT n sh pub sig t num leaf h sz d, sig.drop (d * sz), pub, (n : Int), H, (D : Int), A, K, sh, ((nmb h num d : Nat) : Int), ((lfN h num leaf d : Nat) : Int))) D (by simp [nmb, lfN, vrT]) (fun d hd next hnx => ?_) (fun next => ?_) (by omega)
 ·have hle := bj2 h num d
  have hs := bjg (nmb h num d) h (by omega) h2
  have hds : d * sz + sz ≤ D * sz := by rw [← Nat.succ_mul]; exact Nat.mul_le_mul hd (Nat.le_refl _)
  have ld : (sig.drop (d * sz)).length = D * sz - d * sz := by rw [List.length_drop]; omega
  have lq : ((sig.drop (d * sz)).take sz).length = sz := by rw [List.length_take]; omega
  rw [Nat.succ_mul, ← List.drop_drop, aw3] at hnx
  simp only [P.ahg, toNat_cast]
  rw [bg (by omega), show P.ig (ρ := ρ) [0, 0, 0, 0, 0, 0, 0, 0, 0, 0, 0, 0, 0, 0, 0, 0, 0, 0, 0, 0, 0, 0, 0, 0, 0, 0, 0, 0, 0, 0, 0, 0] = P.ig Z32 from rfl, afr _ (by omega), ig rfl 0 d (by omega), ig (jr rfl _ _) 1 _ (by omega), mg kd, hz, bg (by omega), bg (by omega), List.drop_zero, toNat_cast]
  rw [show P.jc (ρ := ρ) (n : Int) H (D : Int) A K sh ((sig.drop (d * sz)).take sz) (vrT n sh pub sig t num leaf h sz d) pub (ao6 (ao6 Z32 0 d) 1 (nmb h num d)) = P.jc (n : Int) H (D : Int) A K sh ((sig.drop (d * sz)).take sz) (vrT n sh pub sig t num leaf h sz d) pub (plA d (nmb h num d)) from rfl,
   jc kd sh _ _ pub _ ((hsig.drop _).take _) (by rw [hz, lq]) (bnr n sh pub sig t ht _ _ _ _ _) (bdc hn sh pub sig t lt _ _ _ _ _) hp np (at7 _ _) (bcc _ _) _ (bj8 num hleaf d), mg kd, hz, bg (by omega), bg (by omega), bg (by omega), iy kd, dn (by omega), iy kd, dn (by omega), toNat_cast, toNat_cast, List.take_length, hs.1, hs.2, ni (by omega) (by omega)]
  exact hnx
 ·simp only [P.ahg]
  rw [dn (by omega), yj _ _ (bnr n sh pub sig t ht _ _ _ _ _) itop (by rw [bdc hn sh pub sig t lt]; omega)]
end Q
end

section
/- xmss: what trees in trees sign leads to the top of all. -/
namespace Q
open QK
open Go Go.Abs
set_option linter.unusedVariables false
set_option linter.unusedSimpArgs false
def hyT (n : Nat) (sh : Bool) (pub sec t : List Int) (num leaf h : Nat) : Nat → List Int
 | 0 => t
 | d + 1 => tpW n sh pub (plA d (nmb h num d)) (sgW n sh pub sec (plA d (nmb h num d)) (hyT n sh pub sec t num leaf h d) (lfN h num leaf d) h) (hyT n sh pub sec t num leaf h d) (lfN h num leaf d) h
def hyS (n : Nat) (sh : Bool) (pub sec t : List Int) (num leaf h : Nat) (d : Nat) : List Int := sgW n sh pub sec (plA d (nmb h num d)) (hyT n sh pub sec t num leaf h d) (lfN h num leaf d) h
theorem bl3 {n : Nat} (hn : n ≤ 32) (sh : Bool) (pub sec t : List Int) (lt : t.length = n) (num leaf h : Nat) : ∀ d, (hyT n sh pub sec t num leaf h d).length = n
 | 0 => lt
 | d + 1 => bos hn _ _ _ _ _ _ _
theorem brr (n : Nat) (sh : Bool) (pub sec t : List Int) (ht : In 256 t) (num leaf h : Nat) : ∀ d, In 256 (hyT n sh pub sec t num leaf h d)
 | 0 => ht
 | d + 1 => bro _ _ _ _ _ _ _ _
theorem bid {n : Nat} (hn : n ≤ 32) (sh : Bool) (pub sec t : List Int) (num leaf h d : Nat) : (hyS n sh pub sec t num leaf h d).length = n * (2 * n + 3 + h) := bic hn _ _ _ _ _ _ _
end Q
end

section
/- xmss: the chapter's examples. -/
namespace Q
open QK
open Go Go.Abs
set_option linter.unusedVariables false
set_option linter.unusedSimpArgs false
theorem cbb : Kd 16 2 1 1 1 2 := ⟨by decide, rfl⟩
theorem u6 {ρ : Type} (k : Bool → Option ρ) : P.u6 k = k true := by
 rw [P.avu]; unfold P.al4
 rw [show P.mg (ρ := ρ) 16 2 1 1 1 false = P.mg ((16 : Nat) : Int) 2 1 1 1 false from rfl, mg cbb, fq (show ((16 * (2 * 16 + 3 + 2) : Nat) : Int) = 592 from rfl), P.aoc]
 unfold P.ah3
 rw [show P.ku (ρ := ρ) 16 2 1 1 1 false = P.ku ((16 : Nat) : Int) 2 1 1 1 false from rfl, aln cbb false _ (by simp) (fun j hj => by
  match j with
  | 0 => rfl
  | 1 => rfl
  | j + 2 => simp at hj; omega), jh, oh, dn (by omega), show P.iy (ρ := ρ) 16 2 1 1 1 false = P.iy ((16 : Nat) : Int) 2 1 1 1 false from rfl, iy cbb, bg (by omega)]
 rfl
end Q
end

section
/- xmss: what the program and the document say of any bsd, signature and top. -/
namespace Q
open QK
open Go Go.Abs
set_option linter.unusedVariables false
set_option linter.unusedSimpArgs false
theorem b8k {n : Nat} {H D A K : Int} (hf : adz n H D A K) : ∃ h, Kd n H D A K h := by
 have h0 := hf
 unfold adz at h0
 have h1 : 0 ≤ H.tdiv D := Int.tdiv_nonneg (by omega) (by omega)
 have h2 : H.tdiv D ≤ H := by
  rw [Int.tdiv_eq_ediv_of_nonneg (by omega)]
  exact Int.ediv_le_self _ (by omega)
 exact ⟨(H.tdiv D).toNat, hf, by rw [ni (by omega) (by omega)]; omega⟩
theorem ag6 (l : List (List Int)) (hl : l.length ≤ 100) {ρ : Type} (k : Bool → Option ρ) : (P.ag6 l k = k true ∧ ∀ i, i < l.length → (l.getD i []).length ≤ 300) ∨ P.ag6 l k = k false := by
 rw [P.bao]
 unfold P.aqk
 rw [P.bdp]
 unfold P.ba6 P.zk2 P.zs2 P.zu2
 by_cases h : ∀ i, i < l.length → (l.getD i []).length ≤ 300
 ·refine .inl ⟨tu (fun i => (l, (l.length : Int), (i : Int))) l.length rfl (fun i hi next hn' => ?_) (fun next => ?_) (by omega), h⟩
  ·have := h i hi
   simp only [P.ao3, toNat_cast, Sum.elim_inl, Sum.elim_inr]
   simp (disch := omega) only [bg, dn, gu, cu, fq, fu, jh, oh, qm, ni]
   exact hn'
  ·simp only [P.ao3, toNat_cast, Sum.elim_inl, Sum.elim_inr]
   rw [dn (by omega)]
 ·refine .inr (bxr (P := fun x => ∃ j : Nat, x = (l, (l.length : Int), (j : Int)) ∧ ∃ i, j ≤ i ∧ i < l.length ∧ ¬ (l.getD i []).length ≤ 300) (μ := fun x => ((l.length : Int) - x.2.2).toNat) ?_ ⟨0, rfl, ?_⟩ (by simp only; omega))
  ·rintro _ ⟨j, rfl, i, hji, hi, hb⟩ next hn
   simp only [P.ao3, toNat_cast, Sum.elim_inl, Sum.elim_inr]
   by_cases hj : ((l.getD j []).length : Int) > 300
   ·simp (disch := omega) only [bg, dn, gu, cu, fq, fu, jh, oh, qm, ni]
   ·simp (disch := omega) only [bg, dn, gu, cu, fq, fu, jh, oh, qm, ni]
    exact hn _ ⟨j + 1, rfl, i, by by_cases e : j = i <;> (try subst e) <;> omega, hi, hb⟩ (by simp only; omega)
  ·have : ∃ i, ¬ (i < l.length → (l.getD i []).length ≤ 300) := Classical.not_forall.1 h
   obtain ⟨i, hi⟩ := this
   exact ⟨i, Nat.zero_le _, by by_cases e : i < l.length <;> simp_all, fun e => hi (fun _ => e)⟩
theorem abd (N H D A K : Int) (sh : Bool) {ρ : Type} (k : Bool → Option ρ) : P.abd N H D A K sh k = k false ∨ (∃ n : Nat, N = (n : Int) ∧ ∃ h : Nat, Kd n H D A K h ∧ h ≤ 2 ∧ H ≤ 4 ∧ P.abd N H D A K sh k = k true) := by
 have e : P.abd N H D A K sh k = P.ahw N H D A K sh k := P.ava ..
 rw [e]; unfold P.ahw
 rw [p8]
 by_cases hf : adz N H D A K
 ·obtain ⟨n, rfl⟩ : ∃ n : Nat, N = (n : Int) := ⟨N.toNat, by unfold adz at hf; omega⟩
  obtain ⟨h, kd⟩ := b8k hf
  rw [decide_eq_true hf, oh, b0v, dn kd.d, kd.2]
  by_cases h4 : H ≤ 4
  ·rw [if_pos h4]
   by_cases hh : (h : Int) ≤ 2
   ·exact .inr ⟨n, rfl, h, kd, by omega, h4, by rw [decide_eq_true hh]⟩
   ·exact .inl (by rw [decide_eq_false hh])
  ·rw [if_neg h4]; exact .inl rfl
 ·rw [decide_eq_false hf, qm]; exact .inl rfl
end Q
end

section
/- xmss: trees in trees sign, by the program. -/
namespace Q
open QK
open Go Go.Abs
set_option linter.unusedVariables false
set_option linter.unusedSimpArgs false
theorem aat {n : Nat} {H A K : Int} {h D : Nat} (kd : Kd n H D A K h) (hD : D ≤ 68) (sh : Bool) (t sec pub : List Int) (ht : In 256 t) (lt : t.length = n) (hsec : In 256 sec) (lsec : sec.length = n) (hp : In 256 pub) (np : pub.length = n) (r : Nat) (hr : H - (h : Int) = (r : Int)) (r64 : r ≤ 64) (num leaf : Nat) (hnum : num < 2 ^ r) (hleaf : leaf < 2 ^ h) {ρ : Type} (k : List Int → Option ρ) :
    P.aat n H D A K sh t sec pub (num : Int) (leaf : Int) k = k (cat (hyS n sh pub sec t num leaf h) D) := by
 have hn := kd.n
 have h2 := kd.h
 have hsz : n * (2 * n + 3 + h) ≤ 32 * 76 := Nat.mul_le_mul hn (by omega)
 have hDs : D * (n * (2 * n + 3 + h)) ≤ 68 * (32 * 76) := Nat.mul_le_mul hD hsz
 have h64 : num < 18446744073709551616 := Nat.lt_of_lt_of_le hnum (Nat.pow_le_pow_right (n := 2) (by omega) r64)
 have hl := aie (bid hn sh pub sec t num leaf h)
 rw [P.ads]; unfold P.aax
 rw [aln kd sh _ (by simp) (fun j hj => by
  match j with
  | 0 => exact lt
  | 1 => exact lsec
  | 2 => exact np
  | j + 3 => simp at hj; omega), jh, oh, jy kd sh r hr r64 num leaf hnum hleaf, jh, oh, P.asn]
 unfold P.anc P.b25 P.bvn P.b82
 refine tu (fun d => ((D : Int), (d : Int), cat (hyS n sh pub sec t num leaf h) d, (n : Int), H, (D : Int), A, K, sh, hyT n sh pub sec t num leaf h d, sec, pub, (n : Int), H, (D : Int), A, K, sh, ((nmb h num d : Nat) : Int), ((lfN h num leaf d : Nat) : Int))) D (by simp [nmb, lfN, hyT, cat]) (fun d hd next hnx => ?_) (fun next => ?_) (by omega)
 ·have hle := bj2 h num d
  have hs := bjg (nmb h num d) h (by omega) h2
  have hlt := bj8 num hleaf d
  have hd1 : d * (n * (2 * n + 3 + h)) ≤ 68 * (32 * 76) := Nat.mul_le_mul (by omega) hsz
  have hT := bl3 hn sh pub sec t lt num leaf h d
  have hTi := brr n sh pub sec t ht num leaf h d
  have hc := hl d
  have hsl := bic hn sh pub sec (plA d (nmb h num d)) (hyT n sh pub sec t num leaf h d) (lfN h num leaf d) h
  rw [aw3] at hnx
  simp only [P.ai2]
  rw [bg (by omega), show P.ig (ρ := ρ) [0, 0, 0, 0, 0, 0, 0, 0, 0, 0, 0, 0, 0, 0, 0, 0, 0, 0, 0, 0, 0, 0, 0, 0, 0, 0, 0, 0, 0, 0, 0, 0] = P.ig Z32 from rfl, afr _ (by omega), ig rfl 0 d (by omega), ig (jr rfl _ _) 1 _ (by omega), show ao6 (ao6 Z32 0 d) 1 (nmb h num d) = plA d (nmb h num d) from rfl,
   yh kd sh _ sec pub _ hTi hT hsec lsec hp np (at7 _ _) (bcc _ _) _ hlt, bg (by omega),
   jc kd sh _ _ pub _ (brv _ _ _ _ _ _ _ _) hsl hTi hT hp np (at7 _ _) (bcc _ _) _ hlt, iy kd, dn (by omega), iy kd, dn (by omega), toNat_cast, hs.1, hs.2, ni (by omega) (by omega)]
  exact hnx
 ·simp only [P.ai2]
  rw [dn (by omega)]
end Q
end

section
/- xmss: trees in trees, by the document; and where there are none. -/
namespace Q
open QK
open Go Go.Abs
set_option linter.unusedVariables false
set_option linter.unusedSimpArgs false
theorem z8 (d num : Nat) (hd : d < 1000) (hn : num < 18446744073709551616) {ρ : Type} (k : List Int → Option ρ) : P.z8 (d : Int) (num : Int) k = k (plA d num) := by
 rw [P.avc]; unfold P.alz
 rw [show P.ji (ρ := ρ) [0, 0, 0, 0, 0, 0, 0, 0, 0, 0, 0, 0, 0, 0, 0, 0, 0, 0, 0, 0, 0, 0, 0, 0, 0, 0, 0, 0, 0, 0, 0, 0] = P.ji Z32 from rfl, afr _ (by omega), ji rfl 0 d (by omega), ji (jr rfl _ _) 1 _ hn]
 rfl
theorem uh {n : Nat} {H D A K : Int} {h : Nat} (kd : Kd n H D A K h) (sh : Bool) (r : Nat) (hr : H - (h : Int) = (r : Int)) (r63 : r ≤ 63) (num leaf : Nat) {ρ : Type} (k : Bool → Option ρ) :
    P.uh n H D A K sh (num : Int) (leaf : Int) k = k (decide (num < 2 ^ r ∧ leaf < 2 ^ h)) := by
 have h2 := kd.h
 rw [P.axu]; unfold P.an5
 rw [p8, decide_eq_true kd.1, oh, dn kd.d, kd.2, dn (by omega), toNat_cast, biq _ (by omega)]
 by_cases hl : leaf < 2 ^ h
 ·rw [bg (by omega), dn kd.d, hr, ni (by omega) (by omega), dn (by omega), dn kd.d, dn (by omega), toNat_cast, biq _ (by omega)]
  congr 1
  exact decide_eq_decide.2 ⟨fun h => ⟨by omega, hl⟩, fun h => by omega⟩
 ·rw [dn (by omega), decide_eq_false (fun h => hl h.2)]
theorem apy {n : Nat} {H D A K : Int} {h : Nat} (kd : Kd n H D A K h) (sh : Bool) (r : Nat) (hr : H - (h : Int) = (r : Int)) (r64 : r ≤ 64) (num leaf : Nat) (hno : ¬ (num < 2 ^ r ∧ leaf < 2 ^ h)) {ρ : Type} (k : Bool → Option ρ) :
    P.jy n H D A K sh (num : Int) (leaf : Int) k = k false := by
 have h2 := kd.h
 rw [P.aj2]; unfold P.afe
 rw [iy kd, hr, ni (by omega) (by omega), dn (by omega), toNat_cast]
 by_cases hn : num < 2 ^ r
 ·rw [sh0 num r r64 hn, fq rfl, iy kd, dn (by omega), toNat_cast]
  have := sh1 leaf h (by omega) (fun e => hno ⟨hn, e⟩)
  rw [beq_eq_false_iff_ne.2 this]
 ·rw [fu (sh1 num r r64 hn)]
theorem bvx (a b : Nat) : (a : Int).tmod (b : Int) = ((a % b : Nat) : Int) := by rw [Int.tmod_eq_emod_of_nonneg (Int.natCast_nonneg _)]; rfl
theorem aby {n : Nat} {H A K : Int} {h D : Nat} (kd : Kd n H D A K h) (hD : D ≤ 68) (sh : Bool) (t sec pub : List Int) (ht : In 256 t) (lt : t.length = n) (hsec : In 256 sec) (lsec : sec.length = n) (hp : In 256 pub) (np : pub.length = n) (r : Nat) (hr : H - (h : Int) = (r : Int)) (r63 : r ≤ 63) (num leaf : Nat) (hnum : num < 2 ^ r) (hleaf : leaf < 2 ^ h) {ρ : Type} (k : List Int → Option ρ) :
    P.aby n H D A K sh t sec pub (num : Int) (leaf : Int) k = k (cat (hyS n sh pub sec t num leaf h) D) := by
 have hn := kd.n
 have h2 := kd.h
 have h9 : 2 ^ h ≤ 2 ^ 9 := Nat.pow_le_pow_right (by omega) h2
 have h0 := Nat.two_pow_pos h
 have hsz : n * (2 * n + 3 + h) ≤ 32 * 76 := Nat.mul_le_mul hn (by omega)
 have h64 : num < 18446744073709551616 := Nat.lt_of_lt_of_le hnum (Nat.pow_le_pow_right (n := 2) (by omega) (show r ≤ 64 by omega))
 have hl := aie (bid hn sh pub sec t num leaf h)
 rw [P.aem]; unfold P.abn
 rw [uh kd sh r hr r63, decide_eq_true ⟨hnum, hleaf⟩, jh, oh, cu (by omega), cu (by omega), cu (by omega), P.azo]
 unfold P.avp P.b1t P.b08 P.b49
 refine tu (fun d => (hyT n sh pub sec t num leaf h d, sec, pub, ((nmb h num d : Nat) : Int), ((lfN h num leaf d : Nat) : Int), (d : Int), (List.range d).map (hyS n sh pub sec t num leaf h), (n : Int), H, (D : Int), A, K, sh)) D (by simp [nmb, lfN, hyT]) (fun d hd next hnx => ?_) (fun next => ?_) (by omega)
 ·have hle := bj2 h num d
  have hlt := bj8 num hleaf d
  have hT := bl3 hn sh pub sec t lt num leaf h d
  have hTi := brr n sh pub sec t ht num leaf h d
  have hsl := bic hn sh pub sec (plA d (nmb h num d)) (hyT n sh pub sec t num leaf h d) (lfN h num leaf d) h
  rw [aw3] at hnx
  simp only [P.ana]
  rw [bg (by omega), z8 d _ (by omega) (by omega), ae1 kd sh _ sec pub _ hTi hT hsec lsec hp np (at7 _ _) (bcc _ _) _ hlt, bg (by simp; omega),
   pz kd sh _ _ pub _ (brv _ _ _ _ _ _ _ _) hsl hTi hT hp np (at7 _ _) (bcc _ _) _ hlt, dn kd.d, kd.2, dn (by omega), toNat_cast, biq _ (by omega), dn (by omega), dn kd.d, dn (by omega), fdiv_pow _ _ _ (by omega), bvx, ni (by omega) (by omega)]
  rw [← xu] at hnx
  exact hnx
 ·simp only [P.ana]
  have hDs : D * (n * (2 * n + 3 + h)) ≤ 68 * (32 * 76) := Nat.mul_le_mul hD hsz
  rw [dn (by omega), ko _ (by simp; omega) (by rw [adu, hl]; omega), adu]
theorem aas {n : Nat} {H A K : Int} {h D : Nat} (kd : Kd n H D A K h) (hD : D ≤ 68) (sh : Bool) (t sig pub top : List Int) (ht : In 256 t) (lt : t.length = n) (hsig : In 256 sig) (lsig : sig.length = D * (n * (2 * n + 3 + h))) (hp : In 256 pub) (np : pub.length = n) (ltop : top.length = n) (r : Nat) (hr : H - (h : Int) = (r : Int)) (r63 : r ≤ 63) (num leaf : Nat) (hnum : num < 2 ^ r) (hleaf : leaf < 2 ^ h) {ρ : Type} (k : Bool → Option ρ) :
    P.aas n H D A K sh t sig pub top (num : Int) (leaf : Int) k = k (decide (vrT n sh pub sig t num leaf h (n * (2 * n + 3 + h)) D = top)) := by
 have hn := kd.n
 have h2 := kd.h
 have h9 : 2 ^ h ≤ 2 ^ 9 := Nat.pow_le_pow_right (by omega) h2
 have h0 := Nat.two_pow_pos h
 have hsz : n * (2 * n + 3 + h) ≤ 32 * 76 := Nat.mul_le_mul hn (by omega)
 have hDs : D * (n * (2 * n + 3 + h)) ≤ 68 * (32 * 76) := Nat.mul_le_mul hD hsz
 have h64 : num < 18446744073709551616 := Nat.lt_of_lt_of_le hnum (Nat.pow_le_pow_right (n := 2) (by omega) (show r ≤ 64 by omega))
 have hz0 : n * (2 * n + 3 + h) = n * (2 * n + 3 + h) := rfl
 generalize hz : n * (2 * n + 3 + h) = sz at lsig hsz hDs
 have eD : IntKind.i64.wrap ((D : Int) * (sz : Int)) = ((D * sz : Nat) : Int) := by
  rw [show (D : Int) * (sz : Int) = ((D * sz : Nat) : Int) by rw [Int.natCast_mul], ni (by omega) (by omega)]
 rw [P.abv]; unfold P.zl
 rw [uh kd sh r hr r63, decide_eq_true ⟨hnum, hleaf⟩, jh, oh, cu (by omega), cu (by omega), cu (by omega), aam kd, hz, eD, cu (by omega), aam kd, hz, P.aww]
 unfold P.asx P.b1e P.bzp P.b59
 refine tu (fun d => (vrT n sh pub sig t num leaf h sz d, sig, pub, top, ((nmb h num d : Nat) : Int), ((lfN h num leaf d : Nat) : Int), (sz : Int), (d : Int), (n : Int), H, (D : Int), A, K, sh)) D (by simp [nmb, lfN, vrT]) (fun d hd next hnx => ?_) (fun next => ?_) (by omega)
 ·have hle := bj2 h num d
  have hlt := bj8 num hleaf d
  have hds : d * sz + sz ≤ D * sz := by rw [← Nat.succ_mul]; exact Nat.mul_le_mul hd (Nat.le_refl _)
  have ec : (sz : Int) * (d : Int) = ((d * sz : Nat) : Int) := by rw [Int.natCast_mul, Int.mul_comm]
  have lq : ((sig.drop (d * sz)).take sz).length = sz := by rw [List.length_take, List.length_drop]; omega
  rw [aw3] at hnx
  simp only [P.alk, ec]
  rw [ni (x := ((d * sz : Nat) : Int)) (by omega) (by omega), show ((d * sz : Nat) : Int) + (sz : Int) = ((d * sz + sz : Nat) : Int) by omega, ni (x := ((d * sz + sz : Nat) : Int)) (by omega) (by omega), toNat_cast, toNat_cast, bg (by omega), bg (by omega), bg (by omega), bg (by omega), z8 d _ (by omega) (by omega), List.drop_take, Nat.add_sub_cancel_left,
   pz kd sh _ _ pub _ ((hsig.drop _).take _) (by rw [hz, lq]) (bnr n sh pub sig t ht _ _ _ _ _) (bdc hn sh pub sig t lt _ _ _ _ _) hp np (at7 _ _) (bcc _ _) _ hlt, dn kd.d, kd.2, dn (by omega), toNat_cast, biq _ (by omega), dn (by omega), dn kd.d, dn (by omega), fdiv_pow _ _ _ (by omega), bvx, ni (by omega) (by omega)]
  exact hnx
 ·simp only [P.alk]
  rw [dn (by omega), abq _ _ (by rw [bdc hn sh pub sig t lt]; omega)]
theorem bst {n : Nat} {H A K : Int} {h D : Nat} (kd : Kd n H D A K h) (hD : D ≤ 68) (sh : Bool) (t sec pub : List Int) (ht : In 256 t) (hsec : In 256 sec) (hp : In 256 pub) (r : Nat) (hr : H - (h : Int) = (r : Int)) (r63 : r ≤ 63) (num leaf : Nat) : ∃ v : List Int, v.length ≤ 1000000 ∧ (∀ {ρ : Type} (k : List Int → Option ρ), P.aat n H D A K sh t sec pub (num : Int) (leaf : Int) k = k v) ∧ ∀ {ρ : Type} (k : List Int → Option ρ), P.aby n H D A K sh t sec pub (num : Int) (leaf : Int) k = k v := by
 have h2 := kd.h
 have hn := kd.n
 have hsz : n * (2 * n + 3 + h) ≤ 32 * 76 := Nat.mul_le_mul hn (by omega)
 have hDs : D * (n * (2 * n + 3 + h)) ≤ 68 * (32 * 76) := Nat.mul_le_mul hD hsz
 have two : [t, sec, pub].length ≤ 100 := by simp
 by_cases hg : num < 2 ^ r ∧ leaf < 2 ^ h
 ·by_cases l1 : sec.length = n
  ·by_cases l2 : pub.length = n
   ·by_cases l3 : t.length = n
    ·exact ⟨_, by rw [aie (bid hn sh pub sec t num leaf h)]; omega, fun k => aat kd hD sh t sec pub ht l3 hsec l1 hp l2 r hr (by omega) num leaf hg.1 hg.2 k, fun k => aby kd hD sh t sec pub ht l3 hsec l1 hp l2 r hr r63 num leaf hg.1 hg.2 k⟩
    ·refine ⟨[], by simp, fun k => ?_, fun k => ?_⟩
     ·rw [P.ads]; unfold P.aax
      rw [aod kd sh _ two 0 (by simp) (by simpa using l3), jh, qm]
     ·rw [P.aem]; unfold P.abn
      rw [uh kd sh r hr r63, decide_eq_true hg, jh, oh, cu (by omega), cu (by omega), gu (by omega)]
   ·refine ⟨[], by simp, fun k => ?_, fun k => ?_⟩
    ·rw [P.ads]; unfold P.aax
     rw [aod kd sh _ two 2 (by simp) (by simpa using l2), jh, qm]
    ·rw [P.aem]; unfold P.abn
     rw [uh kd sh r hr r63, decide_eq_true hg, jh, oh, cu (by omega), gu (by omega)]
  ·refine ⟨[], by simp, fun k => ?_, fun k => ?_⟩
   ·rw [P.ads]; unfold P.aax
    rw [aod kd sh _ two 1 (by simp) (by simpa using l1), jh, qm]
   ·rw [P.aem]; unfold P.abn
    rw [uh kd sh r hr r63, decide_eq_true hg, jh, oh, gu (by omega)]
 ·refine ⟨[], by simp, fun k => ?_, fun k => ?_⟩
  ·rw [P.ads]; unfold P.aax
   by_cases hs : ∀ j, j < [t, sec, pub].length → ([t, sec, pub].getD j []).length = n
   ·rw [aln kd sh _ two hs, jh, oh, apy kd sh r hr (by omega) num leaf hg, jh, qm]
   ·obtain ⟨j, hj⟩ := Classical.not_forall.1 hs
    obtain ⟨hj1, hj2⟩ := Classical.not_imp.1 hj
    rw [aod kd sh _ two j hj1 hj2, jh, qm]
  ·rw [P.aem]; unfold P.abn
   rw [uh kd sh r hr r63, decide_eq_false hg, jh, qm]
theorem bt8 {n : Nat} {H A K : Int} {h D : Nat} (kd : Kd n H D A K h) (hD : D ≤ 68) (sh : Bool) (t sig pub top : List Int) (ht : In 256 t) (hsig : In 256 sig) (hp : In 256 pub) (htop : In 256 top) (r : Nat) (hr : H - (h : Int) = (r : Int)) (r63 : r ≤ 63) (num leaf : Nat) : ∃ v : Bool, (∀ {ρ : Type} (k : Bool → Option ρ), P.y5 n H D A K sh t sig pub top (num : Int) (leaf : Int) k = k v) ∧ ∀ {ρ : Type} (k : Bool → Option ρ), P.aas n H D A K sh t sig pub top (num : Int) (leaf : Int) k = k v := by
 have h2 := kd.h
 have hn := kd.n
 have hsz : n * (2 * n + 3 + h) ≤ 32 * 76 := Nat.mul_le_mul hn (by omega)
 have hDs : D * (n * (2 * n + 3 + h)) ≤ 68 * (32 * 76) := Nat.mul_le_mul hD hsz
 have two : [t, pub, top].length ≤ 100 := by simp
 have eD : IntKind.i64.wrap ((D : Int) * ((n * (2 * n + 3 + h) : Nat) : Int)) = ((D * (n * (2 * n + 3 + h)) : Nat) : Int) := by
  rw [show (D : Int) * ((n * (2 * n + 3 + h) : Nat) : Int) = ((D * (n * (2 * n + 3 + h)) : Nat) : Int) by rw [Int.natCast_mul (D)], ni (by omega) (by omega)]
 by_cases hg : num < 2 ^ r ∧ leaf < 2 ^ h
 ·by_cases l1 : top.length = n
  ·by_cases l2 : pub.length = n
   ·by_cases l3 : t.length = n
    ·by_cases l4 : sig.length = D * (n * (2 * n + 3 + h))
     ·exact ⟨_, fun k => y5 kd hD sh t sig pub top ht l3 hsig l4 hp l2 l1 htop r hr (by omega) num leaf hg.1 hg.2 k, fun k => aas kd hD sh t sig pub top ht l3 hsig l4 hp l2 l1 r hr r63 num leaf hg.1 hg.2 k⟩
     ·refine ⟨false, fun k => ?_, fun k => ?_⟩
      ·rw [P.aay]; unfold P.yt
       rw [aln kd sh _ two (fun j hj => by
        match j with
        | 0 => exact l3
        | 1 => exact l2
        | 2 => exact l1
        | j + 3 => simp at hj; omega), jh, oh, mg kd, eD, gu (by omega)]
      ·rw [P.abv]; unfold P.zl
       rw [uh kd sh r hr r63, decide_eq_true hg, jh, oh, cu (by omega), cu (by omega), cu (by omega), aam kd, eD, gu (by omega)]
    ·refine ⟨false, fun k => ?_, fun k => ?_⟩
     ·rw [P.aay]; unfold P.yt
      rw [aod kd sh _ two 0 (by simp) (by simpa using l3), jh, qm]
     ·rw [P.abv]; unfold P.zl
      rw [uh kd sh r hr r63, decide_eq_true hg, jh, oh, cu (by omega), gu (by omega)]
   ·refine ⟨false, fun k => ?_, fun k => ?_⟩
    ·rw [P.aay]; unfold P.yt
     rw [aod kd sh _ two 1 (by simp) (by simpa using l2), jh, qm]
    ·rw [P.abv]; unfold P.zl
     rw [uh kd sh r hr r63, decide_eq_true hg, jh, oh, gu (by omega)]
  ·refine ⟨false, fun k => ?_, fun k => ?_⟩
   ·rw [P.aay]; unfold P.yt
    rw [aod kd sh _ two 2 (by simp) (by simpa using l1), jh, qm]
   ·rw [P.abv]; unfold P.zl
    rw [uh kd sh r hr r63, decide_eq_true hg, jh, oh]
    by_cases l2 : pub.length = n
    ·by_cases l3 : t.length = n
     ·rw [cu (by omega), cu (by omega), gu (by omega)]
     ·rw [cu (by omega), gu (by omega)]
    ·rw [gu (by omega)]
 ·refine ⟨false, fun k => ?_, fun k => ?_⟩
  ·rw [P.aay]; unfold P.yt
   by_cases hs : ∀ j, j < [t, pub, top].length → ([t, pub, top].getD j []).length = n
   ·rw [aln kd sh _ two hs, jh, oh, mg kd, eD]
    by_cases l4 : sig.length = D * (n * (2 * n + 3 + h))
    ·rw [cu (by omega), apy kd sh r hr (by omega) num leaf hg, jh, qm]
    ·rw [gu (by omega)]
   ·obtain ⟨j, hj⟩ := Classical.not_forall.1 hs
    obtain ⟨hj1, hj2⟩ := Classical.not_imp.1 hj
    rw [aod kd sh _ two j hj1 hj2, jh, qm]
  ·rw [P.abv]; unfold P.zl
   rw [uh kd sh r hr r63, decide_eq_false hg, jh, qm]
end Q
end

section
/- The plain law of XmssHypers. -/
namespace Q
open QK
open Go Go.Abs
set_option linter.unusedVariables false
set_option linter.unusedSimpArgs false
theorem XmssHypers (x0_N : Int) (x0_H : Int) (x0_D : Int) (x0_A : Int) (x0_K : Int) (x0_Shake : Bool) (x1 : List Int) (x2 : List Int) (x3 : List Int) (x4 : List Int) (x5 : Int) (x6 : Int) (x7 : List Int) (wx0_N : wfI .i64 x0_N) (wx0_H : wfI .i64 x0_H) (wx0_D : wfI .i64 x0_D) (wx0_A : wfI .i64 x0_A) (wx0_K : wfI .i64 x0_K) (nx1 : x1.length ≤ 140737488355328) (wx1 : ∀ x, x ∈ x1 → wfI .u8 x) (nx2 : x2.length ≤ 140737488355328) (wx2 : ∀ x, x ∈ x2 → wfI .u8 x) (nx3 : x3.length ≤ 140737488355328) (wx3 : ∀ x, x ∈ x3 → wfI .u8 x) (nx4 : x4.length ≤ 140737488355328) (wx4 : ∀ x, x ∈ x4 → wfI .u8 x) (wx5 : wfI .u64 x5) (wx6 : wfI .u64 x6) (nx7 : x7.length ≤ 140737488355328) (wx7 : ∀ x, x ∈ x7 → wfI .u8 x) {ρ : Type} (k : Bool → Option ρ) : P.yc x0_N x0_H x0_D x0_A x0_K x0_Shake x1 x2 x3 x4 x5 x6 x7 k = k true := by
 have w5 := wf_u64 wx5
 have w6 := wf_u64 wx6
 obtain ⟨num, rfl⟩ : ∃ i : Nat, x5 = (i : Int) := ⟨x5.toNat, by omega⟩
 obtain ⟨leaf, rfl⟩ : ∃ i : Nat, x6 = (i : Int) := ⟨x6.toNat, by omega⟩
 rw [P.akm]; unfold P.afg
 generalize hK : (fun (q0 : Bool) => br (!q0) (P.u6 fun (q1 : Bool) => k q1) _) = K
 rcases abd x0_N x0_H x0_D x0_A x0_K x0_Shake K with e | ⟨n, rfl, h, kd, h2, h4, e⟩
 ·rw [e, ← hK]
  dsimp only
  rw [jh, qm, u6]
 rw [e, ← hK]
 dsimp only
 rw [jh, oh]
 generalize hK2 : (fun (q0 : Bool) => br (!q0) (P.u6 fun (q1 : Bool) => k q1) _) = K2
 rcases ag6 [x1, x2, x3, x4] (by simp) K2 with ⟨e2, hl⟩ | e2
 ·rw [e2, ← hK2]
  dsimp only
  rw [jh, oh]
  by_cases h7 : (x7.length : Int) > 6000
  ·rw [bg h7, u6]
  ·have hf := kd.1
   have hk2 := kd.2
   unfold adz at hf
   obtain ⟨D, rfl⟩ : ∃ D : Nat, x0_D = (D : Int) := ⟨x0_D.toNat, by omega⟩
   have hh : (h : Int) ≤ x0_H := by
    have h1 : 0 ≤ x0_H.tdiv (D : Int) := Int.tdiv_nonneg (by omega) (by omega)
    have h3 : x0_H.tdiv (D : Int) ≤ x0_H := by
     rw [Int.tdiv_eq_ediv_of_nonneg (by omega)]
     exact Int.ediv_le_self _ (by omega)
    rw [ni (by omega) (by omega)] at hk2
    omega
   have hr : x0_H - (h : Int) = (((x0_H - h).toNat : Nat) : Int) := by omega
   obtain ⟨a, la, a1, a2⟩ := bst kd (by omega) x0_Shake x3 x1 x2 (bhq wx3) (bhq wx1) (bhq wx2) _ hr (by omega) num leaf
   obtain ⟨b, b1, b2⟩ := bt8 kd (by omega) x0_Shake x3 x7 x2 x4 (bhq wx3) (bhq wx7) (bhq wx2) (bhq wx4) _ hr (by omega) num leaf
   rw [dn h7, a1, a2, abq _ _ (by omega), decide_eq_true rfl, oh, b1, b2, beq_self_eq_true, oh, u6]
 ·rw [e2, ← hK2]
  dsimp only
  rw [jh, qm, u6]
end Q
end
