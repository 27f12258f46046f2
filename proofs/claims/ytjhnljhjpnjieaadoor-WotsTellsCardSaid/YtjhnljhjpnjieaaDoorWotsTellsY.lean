/-
  WotsTells, part Y: an interpreter of my own over abstract values, the pure functions, the walks and the plain law.
-/

import Derived.Test.YtjhnljhjpnjieaaDoorWotsTellsX
import Derived.Test.YtjhnljhjpnjieaaDoorWotsTellsI

section
/- wots: sums at places. -/
namespace Q
open QK
open Go Go.Abs
set_option linter.unusedVariables false
set_option linter.unusedSimpArgs false
theorem addW_blk {kind : Int} (w blk b : List Int) (hl : blk.length = bsz kind) : addW kind (addW kind w blk) b = addW kind w (blk ++ b) := by
 unfold addW
 rcases bsz_or kind with ⟨h, e⟩ | ⟨h, e⟩
 ·rw [e] at hl
  have := (thr_append p32 (toV 32 w) blk b 1 (by omega) (b.length / 64)).1
  simp only [if_pos h]
  rw [toV_cv _ (thr_len _ _ (toV_len _ _) _ _), List.length_append, hl, show (64 + b.length) / 64 = 1 + b.length / 64 by omega, Nat.div_self (by omega), this]
 ·rw [e] at hl
  have := (thr_append p64 (toV 64 w) blk b 1 (by omega) (b.length / 128)).1
  simp only [if_neg h]
  rw [toV_cv _ (thr_len _ _ (toV_len _ _) _ _), List.length_append, hl, show (128 + b.length) / 128 = 1 + b.length / 128 by omega, Nat.div_self (by omega), this]
theorem rest_blk {n : Nat} (hn : 0 < n) (blk b : List Int) (hl : blk.length = n) : rest n (blk ++ b) = rest n b := by
 unfold rest
 rw [List.length_append, hl, Nat.add_comm n, Nat.add_div_right _ hn, Nat.mul_succ, List.drop_append, List.drop_eq_nil_of_le (by omega), List.nil_append, hl, Nat.add_sub_cancel]
def blk (kind : Int) (pub : List Int) : List Int := pub ++ List.replicate (bsz kind - pub.length) 0
theorem blk_len (kind : Int) (pub : List Int) (h : pub.length ≤ 64) : (blk kind pub).length = bsz kind := by
 unfold blk
 rcases bsz_or kind with ⟨_, e⟩ | ⟨_, e⟩ <;> rw [List.length_append, List.length_replicate, e] <;> omega
theorem blk_in {kind : Int} {pub : List Int} (h : In 256 pub) : In 256 (blk kind pub) := h.app (fun x hx => by rw [List.mem_replicate] at hx; omega)
theorem wots_filled {kind : Int} (h : K3 kind) (pub : List Int) (hp : In 256 pub) (hn : pub.length ≤ 64) (B : Int) (hB : B = ((bsz kind : Nat) : Int)) {ρ : Type} (k : Int → List Int → List Int → Int → Option ρ) :
    P.wots_filled kind B pub k = k kind (addW kind (newW kind) (blk kind pub)) [] B := by
 have hb : bsz kind = 64 ∨ bsz kind = 128 := by rcases bsz_or kind with ⟨_, e⟩ | ⟨_, e⟩ <;> omega
 have hw := newW_ok kind
 have e1 : [pub].flatten = pub := by simp
 have e2 : IntKind.i64.wrap (B - (pub.length : Int)) = ((bsz kind - pub.length : Nat) : Int) := by rw [i64w (by omega) (by omega)]; omega
 have hl := blk_len kind pub hn
 have er : rest (bsz kind) (blk kind pub) = [] := List.eq_nil_of_length_eq_zero (by rw [rest_len _ (bsz_pos kind), hl, Nat.mod_self])
 have e3 := size_add (blk kind pub) (by omega)
 rw [P.wots_filled_eq]; unfold P.wots_filled_raw
 rw [sha_New h, bits_Join _ (by simp) (by rw [e1]; omega), e1, e2, toNat_cast, br_pos (by omega), br_pos (by omega)]
 show P.sha_Add kind (newW kind) [] 0 (blk kind pub) _ = _
 rw [sha_Add kind _ [] _ _ hw.1 hw.2.1 In.nil (blk_in hp) (by rw [List.length_nil]; omega), List.nil_append, er, e3, hl, hB]
def sho (a : List Int) : List Int := (a.drop 3).take 1 ++ ((a.drop 8).take 8 ++ (a.drop 19).take 13)
theorem sho_len (a : List Int) : (sho a).length ≤ 22 := by unfold sho; simp; omega
theorem sho_in {a : List Int} (h : In 256 a) : In 256 (sho a) := ((h.drop _).take _).app (((h.drop _).take _).app ((h.drop _).take _))
theorem wots_short (a : List Int) {ρ : Type} (k : List Int → Option ρ) : P.wots_short a k = k (sho a) := by
 have e : [List.take 1 (List.drop 3 a), List.take 8 (List.drop 8 a), List.take 13 (List.drop 19 a)].flatten = sho a := by unfold sho; simp
 have := sho_len a
 rw [P.wots_short_eq]; unfold P.wots_short_raw
 rw [bits_Join _ (by simp) (by rw [e]; omega), e]
theorem R17_short (a : List Int) {ρ : Type} (k : List Int → Option ρ) : P.R17_short a k = k (sho a) := by
 have e0 : List.take 13 (List.drop 19 a) = List.take 1 (List.drop 19 a) ++ List.take 12 (List.drop 20 a) := by
  rw [show (13 : Nat) = 1 + 12 from rfl, List.take_add, List.drop_drop]
 have e : [List.take 1 (List.drop 3 a), List.take 8 (List.drop 8 a), List.take 1 (List.drop 19 a), List.take 12 (List.drop 20 a)].flatten = sho a := by unfold sho; rw [e0]; simp
 have := sho_len a
 rw [P.R17_short_eq]; unfold P.R17_short_raw
 rw [R01_Join _ (by simp) (by rw [e]; omega), e]
def hk (n : Nat) (t : List Int) : Int := if 16 < n ∧ n < t.length then 3 else 1
def sumW (n : Nat) (sh : Bool) (pub a t : List Int) : List Int := if sh then ksum 7 (pub ++ (a ++ t)) n else (sumS (hk n t) (blk (hk n t) pub ++ (sho a ++ t))).take n
theorem sumS_32 {kd : Int} (h : kd = 1 ∨ kd = 3) (b : List Int) : 32 ≤ (sumS kd b).length := by
 rw [sumS_len]; rcases h with rfl | rfl <;> simp
theorem hk13 (n : Nat) (t : List Int) : hk n t = 1 ∨ hk n t = 3 := by unfold hk; split; exact .inr rfl; exact .inl rfl
theorem sumW_len {n : Nat} (hn : n ≤ 32) (sh : Bool) (pub a t : List Int) : (sumW n sh pub a t).length = n := by
 unfold sumW
 split
 ·exact ksum_len _ _ _
 ·have := sumS_32 (hk13 n t) (blk (hk n t) pub ++ (sho a ++ t))
  rw [List.length_take]; omega
theorem hash_path {kind : Int} (h : kind = 1 ∨ kind = 3) {n : Nat} (hn : n ≤ 32) (pub : List Int) (hp : In 256 pub) (np : pub.length ≤ 64) (q : List Int) (hq : In 256 q) (nq : q.length ≤ 100000) (B : Int) (hB : B = ((bsz kind : Nat) : Int)) {ρ : Type} (k : List Int → Option ρ) :
    (P.sha_Add kind (addW kind (newW kind) (blk kind pub)) [] B q fun (q2 : Int) (q3 q4 : List Int) (q5 : Int) => P.sha_End q2 q3 q4 q5 fun (q6 : List Int) =>
     br (decide ((0 : Int) ≤ (n : Int))) (br (decide ((n : Int) ≤ (q6.length : Int))) (k (List.take ((n : Int) - (0 : Int)).toNat (List.drop 0 q6))) none) none) = k ((sumS kind (blk kind pub ++ q)).take n) := by
 have hb : bsz kind = 64 ∨ bsz kind = 128 := by rcases bsz_or kind with ⟨_, e⟩ | ⟨_, e⟩ <;> omega
 have hw := addW_ok kind (newW kind) (blk kind pub)
 have hl := blk_len kind pub np
 have hw2 := addW_ok kind (addW kind (newW kind) (blk kind pub)) ([] ++ q)
 have hr := rest_len (bsz kind) (bsz_pos kind) ([] ++ q)
 have hm := Nat.mod_lt ([] ++ q).length (bsz_pos kind)
 have e3 : IntKind.u64.wrap (B + IntKind.u64.wrap (q.length : Int)) = (((blk kind pub ++ q).length : Nat) : Int) := by
  rw [u64n _ (by omega), hB, ← Int.natCast_add, u64n _ (by omega), List.length_append, hl]
 have hs := sumS_32 h (blk kind pub ++ q)
 rw [sha_Add kind _ [] _ q hw.1 hw.2.1 In.nil hq (by rw [List.length_nil]; omega), e3, sha_End _ _ _ _ hw2.1 hw2.2.1 (rest_in (In.nil.app hq)) (by omega)]
 have e4 : endS kind (addW kind (addW kind (newW kind) (blk kind pub)) ([] ++ q)) (rest (bsz kind) ([] ++ q)) (blk kind pub ++ q).length = sumS kind (blk kind pub ++ q) := by
  unfold sumS
  rw [List.nil_append, addW_blk _ _ _ hl, rest_blk (bsz_pos kind) _ _ hl]
 rw [e4, br_pos (by omega), br_pos (by omega), List.drop_zero, Int.sub_zero, toNat_cast]
theorem hashed_f1 {n : Nat} (hn : n ≤ 32) (pub a t : List Int) (hp : In 256 pub) (np : pub.length ≤ 64) (ha : In 256 a) (ht : In 256 t) (nt : t.length ≤ 90000) {ρ : Type} (k : List Int → Option ρ) :
    P.wots_hashed_f1 a t 1 (addW 1 (newW 1) (blk 1 pub)) [] 64 (n : Int) 3 (addW 3 (newW 3) (blk 3 pub)) [] 128 k = k (sumW n false pub a t) := by
 have e : [sho a, t].flatten = sho a ++ t := by simp
 have hs := sho_len a
 have hl : (sho a ++ t).length ≤ 100000 := by rw [List.length_append]; omega
 have hq : In 256 (sho a ++ t) := (sho_in ha).app ht
 rw [P.wots_hashed_f1_eq]; unfold P.wots_hashed_f1_raw sumW hk
 by_cases h1 : 16 < n
 ·rw [br_pos (by omega)]
  by_cases h2 : n < t.length
  ·rw [br_pos (by omega), if_neg (by simp), if_pos ⟨h1, h2⟩, wots_short, bits_Join _ (by simp) (by rw [e]; omega), e]
   exact hash_path (.inr rfl) hn pub hp np _ hq hl 128 rfl k
  ·rw [br_neg (by omega), if_neg (by simp), if_neg (by omega), wots_short, bits_Join _ (by simp) (by rw [e]; omega), e]
   exact hash_path (.inl rfl) hn pub hp np _ hq hl 64 rfl k
 ·rw [br_neg (by omega), if_neg (by simp), if_neg (by omega), wots_short, bits_Join _ (by simp) (by rw [e]; omega), e]
  exact hash_path (.inl rfl) hn pub hp np _ hq hl 64 rfl k
theorem R7t : Rt 7 136 := .inr (.inr (.inr ⟨rfl, rfl⟩))
theorem g0 : Good 136 (Z25, 0) := ⟨Z25_W, by decide⟩
theorem shaken_f1 {n : Nat} (hn : n ≤ 32) (pub a t : List Int) (la : a.length = 32) (nt : t.length ≤ 90000) {ρ : Type} (k : List Int → Option ρ) :
    P.wots_shaken_f1 a t 7 (absb 136 (Z25, 0) pub).1 ((absb 136 (Z25, 0) pub).2 : Int) false (n : Int) k = k (sumW n true pub a t) := by
 have e : [List.take 32 (List.drop 0 a), t].flatten = a ++ t := by rw [List.drop_zero, List.take_of_length_le (by omega)]; simp
 have hl : (a ++ t).length ≤ 100000 := by rw [List.length_append]; omega
 rw [P.wots_shaken_f1_eq]; unfold P.wots_shaken_f1_raw sumW
 rw [bits_Join _ (by simp) (by rw [e]; omega), e, if_pos rfl]
 refine (keccak_Absorb R7t _ _ (absb_good pub g0) (a ++ t) (by omega) _).trans ?_
 refine (keccak_Squeeze R7t _ (absb_good (a ++ t) (absb_good pub g0)) n (by omega) _).trans ?_
 unfold ksum
 show k (sqO 136 (trn 7 136 (absb 136 (absb 136 (Z25, 0) pub) (a ++ t)), 0) n) = k (sqO 136 (trn 7 136 (absb 136 (Z25, 0) (pub ++ (a ++ t))), 0) n)
 simp only [absb_app]
def Sg (n : Nat) (sh : Bool) (pub : List Int) (tg : Nat) (cK : Int) (cW : List Int) (cA : Int) (cO : Bool) (c1 dK : Int) (dW dT : List Int) (dS d1 eK : Int) (eW eT : List Int) (eS : Int) : Prop :=
 (sh = true ∧ tg = 1 ∧ cK = 7 ∧ cW = (absb 136 (Z25, 0) pub).1 ∧ cA = ((absb 136 (Z25, 0) pub).2 : Int) ∧ cO = false ∧ c1 = (n : Int)) ∨
 (sh = false ∧ tg = 2 ∧ dK = 1 ∧ dW = addW 1 (newW 1) (blk 1 pub) ∧ dT = [] ∧ dS = 64 ∧ d1 = (n : Int) ∧ eK = 3 ∧ eW = addW 3 (newW 3) (blk 3 pub) ∧ eT = [] ∧ eS = 128)
theorem call {n : Nat} {sh : Bool} {pub : List Int} {tg : Nat} {cK : Int} {cW : List Int} {cA : Int} {cO : Bool} {c1 dK : Int} {dW dT : List Int} {dS d1 eK : Int} {eW eT : List Int} {eS : Int} (h : Sg n sh pub tg cK cW cA cO c1 dK dW dT dS d1 eK eW eT eS)
    (hn : n ≤ 32) (hp : In 256 pub) (np : pub.length ≤ 64) {a t : List Int} (la : a.length = 32) (ha : In 256 a) (ht : In 256 t) (nt : t.length ≤ 90000) {ρ : Type} (k : List Int → Option ρ) :
    br (decide (tg = 1)) (P.wots_shaken_f1 a t cK cW cA cO c1 fun (q : List Int) => k q) (br (decide (tg = 2)) (P.wots_hashed_f1 a t dK dW dT dS d1 eK eW eT eS fun (q : List Int) => k q) none) = k (sumW n sh pub a t) := by
 rcases h with ⟨rfl, rfl, rfl, rfl, rfl, rfl, rfl⟩ | ⟨rfl, rfl, rfl, rfl, rfl, rfl, rfl, rfl, rfl, rfl, rfl⟩
 ·rw [br_pos rfl]
  exact shaken_f1 hn pub a t la nt k
 ·rw [br_neg (by omega), br_pos rfl]
  exact hashed_f1 hn pub a t hp np ha ht nt k
theorem began_ok {n : Nat} {H D A K : Int} (hf : FitP n H D A K) (sh : Bool) (pub : List Int) (hp : In 256 pub) (np : pub.length = n) :
    ∃ tg cK cW cA cO c1 dK dW dT dS d1 eK eW eT eS, Sg n sh pub tg cK cW cA cO c1 dK dW dT dS d1 eK eW eT eS ∧
     ∀ {ρ : Type} (k : Int → Int → Int → Int → Int → Bool → Nat → Int → (List Int) → Int → Bool → Int → Int → (List Int) → (List Int) → Int → Int → Int → (List Int) → (List Int) → Int → Bool → Option ρ),
      P.wots_began n H D A K sh pub k = k n H D A K sh tg cK cW cA cO c1 dK dW dT dS d1 eK eW eT eS true := by
 have hn : n ≤ 32 := by unfold FitP at hf; omega
 cases sh with
 | true =>
  refine ⟨1, 7, _, _, false, (n : Int), 0, [], [], 0, 0, 0, [], [], 0, .inl ⟨rfl, rfl, rfl, rfl, rfl, rfl, rfl⟩, fun k => ?_⟩
  rw [P.wots_began_eq]; unfold P.wots_began_raw
  rw [wots_Fit, decide_eq_true hf, br_not, br_tt, br_bne_neg (by omega), br_tt, P.wots_shaken_eq]; unfold P.wots_shaken_raw
  rw [P.keccak_New_eq]; unfold P.keccak_New_raw
  rw [rate_k R7t, br_beq_neg (by omega)]
  exact keccak_Absorb R7t Z25 0 g0 pub (by omega) _
 | false =>
  refine ⟨2, 0, [], 0, false, 0, 1, _, _, 64, (n : Int), 3, _, _, 128, .inr ⟨rfl, rfl, rfl, rfl, rfl, rfl, rfl, rfl, rfl, rfl, rfl⟩, fun k => ?_⟩
  rw [P.wots_began_eq]; unfold P.wots_began_raw
  rw [wots_Fit, decide_eq_true hf, br_not, br_tt, br_bne_neg (by omega), br_ff, P.wots_hashed_eq]; unfold P.wots_hashed_raw
  rw [wots_filled (.inl rfl) pub hp (by omega) 64 rfl, wots_filled (.inr (.inr rfl)) pub hp (by omega) 128 rfl]
theorem wots_Sum {n : Nat} {H D A K : Int} (hf : FitP n H D A K) (sh : Bool) (pub : List Int) (hp : In 256 pub) (np : pub.length = n) (a t : List Int) (la : a.length = 32) (ha : In 256 a) (ht : In 256 t) (nt : t.length ≤ 90000) {ρ : Type} (k : List Int → Option ρ) :
    P.wots_Sum n H D A K sh pub a t k = k (sumW n sh pub a t) := by
 have hn : n ≤ 32 := by unfold FitP at hf; omega
 obtain ⟨tg, cK, cW, cA, cO, c1, dK, dW, dT, dS, d1, eK, eW, eT, eS, hs, hb⟩ := began_ok hf sh pub hp np
 rw [P.wots_Sum_eq]; unfold P.wots_Sum_raw
 rw [hb, br_not, br_tt]
 exact call hs hn hp (by omega) la ha ht nt k
theorem wots_Sum_no {N H D A K : Int} (hf : FitP N H D A K) (sh : Bool) (pub : List Int) (np : (pub.length : Int) ≠ N) (a t : List Int) {ρ : Type} (k : List Int → Option ρ) :
    P.wots_Sum N H D A K sh pub a t k = k [] := by
 rw [P.wots_Sum_eq]; unfold P.wots_Sum_raw
 rw [P.wots_began_eq]; unfold P.wots_began_raw
 rw [wots_Fit, decide_eq_true hf, br_not, br_tt, br_bne_pos np]
 dsimp only
 rw [br_not, br_ff]
theorem R17_Sum_no {N H D A K : Int} (sh : Bool) (pub : List Int) (np : (pub.length : Int) ≠ N) (a t : List Int) {ρ : Type} (k : List Int → Option ρ) :
    P.R17_Sum N H D A K sh pub a t k = k [] := by
 rw [P.R17_Sum_eq]; unfold P.R17_Sum_raw
 rw [br_bne_pos np]
theorem R17_Sum {n : Nat} {H D A K : Int} (hf : FitP n H D A K) (sh : Bool) (pub : List Int) (hp : In 256 pub) (np : pub.length = n) (a t : List Int) (la : a.length = 32) (ha : In 256 a) (ht : In 256 t) (nt : t.length ≤ 90000) {ρ : Type} (k : List Int → Option ρ) :
    P.R17_Sum n H D A K sh pub a t k = k (sumW n sh pub a t) := by
 have hn : n ≤ 32 := by unfold FitP at hf; omega
 have hsl := sho_len a
 have path : ∀ (kind : Int) (h : kind = 1 ∨ kind = 3) (B : Int), B = ((bsz kind : Nat) : Int) →
     (br (decide ((0 : Int) ≤ IntKind.i64.wrap (B - (n : Int)))) (br (decide (IntKind.i64.wrap (B - (n : Int)) ≤ IntKind.i64.wrap (B - (n : Int))))
      (br (decide (IntKind.i64.wrap (B - (n : Int)) * ((1 : Nat) : Int) ≤ ((140737488355328 : Nat) : Int)))
       (P.R17_short a fun (q4 : List Int) =>
        P.R01_Join [pub, List.replicate (IntKind.i64.wrap (B - (n : Int))).toNat (0 : Int), q4, t] fun (q5 : List Int) =>
         P.R07_Sum kind q5 fun (q6 : List Int) (q7 : Int) =>
          br (decide ((0 : Int) ≤ (n : Int))) (br (decide ((n : Int) ≤ (q6.length : Int))) (k (List.take ((n : Int) - (0 : Int)).toNat (List.drop 0 q6))) none) none) none) none) none) = k ((sumS kind (blk kind pub ++ (sho a ++ t))).take n) := by
  intro kind h B hB
  have hb : bsz kind = 64 ∨ bsz kind = 128 := by rcases bsz_or kind with ⟨_, e⟩ | ⟨_, e⟩ <;> omega
  have e : IntKind.i64.wrap (B - (n : Int)) = ((bsz kind - pub.length : Nat) : Int) := by rw [i64w (by omega) (by omega)]; omega
  have ej : [pub, List.replicate (bsz kind - pub.length) (0 : Int), sho a, t].flatten = blk kind pub ++ (sho a ++ t) := by unfold blk; simp
  have hl := blk_len kind pub (by omega)
  have hll : (blk kind pub ++ (sho a ++ t)).length ≤ 100000 := by rw [List.length_append, List.length_append]; omega
  have hs := sumS_32 h (blk kind pub ++ (sho a ++ t))
  rw [e, br_pos (by omega), br_pos (by omega), br_pos (by omega), R17_short, toNat_cast, R01_Join _ (by simp) (by rw [ej]; omega), ej, R07_Sum (by unfold K3; omega) _ ((blk_in hp).app ((sho_in ha).app ht)) (by omega), br_pos (by omega), br_pos (by omega), List.drop_zero, Int.sub_zero, toNat_cast]
 rw [P.R17_Sum_eq]; unfold P.R17_Sum_raw
 rw [br_bne_neg (by omega), R17_Fit, decide_eq_true hf, br_not, br_tt]
 unfold sumW hk
 cases sh with
 | true =>
  have ej : [pub, List.take 32 (List.drop 0 a), t].flatten = pub ++ (a ++ t) := by rw [List.drop_zero, List.take_of_length_le (by omega)]; simp
  have hll : (pub ++ (a ++ t)).length ≤ 100000 := by rw [List.length_append, List.length_append]; omega
  rw [br_tt, R01_Join _ (by simp) (by rw [ej]; omega), ej, R08_Sum (by omega) _ (by omega) n (by omega), if_pos rfl]
 | false =>
  rw [br_ff, if_neg (by simp)]
  by_cases h1 : 16 < n
  ·rw [br_pos (by omega)]
   by_cases h2 : n < t.length
   ·rw [br_pos (by omega), if_pos ⟨h1, h2⟩]
    exact path 3 (.inr rfl) 128 rfl
   ·rw [br_neg (by omega), if_neg (by omega)]
    exact path 1 (.inl rfl) 64 rfl
  ·rw [br_neg (by omega), if_neg (by omega)]
   exact path 1 (.inl rfl) 64 rfl
end Q
end

section
/- The plain law of WotsTells. -/
namespace Q
open QK
open Go Go.Abs
set_option linter.unusedVariables false
set_option linter.unusedSimpArgs false
theorem L17_few (l : List (List Int)) (hl : l.length ≤ 100) {ρ : Type} (k : Bool → Option ρ) : (P.L17_few l k = k true ∧ ∀ i, i < l.length → (l.getD i []).length ≤ 300) ∨ P.L17_few l k = k false := by
 rw [P.L17_few_eq]
 unfold P.L17_few_raw
 rw [P.L17_few_l2_eq]
 unfold P.L17_few_L2
 by_cases h : ∀ i, i < l.length → (l.getD i []).length ≤ 300
 ·refine .inl ⟨lp_go (fun i => (l, (l.length : Int), (i : Int))) l.length rfl (fun i hi next hn' => ?_) (fun next => ?_) (by omega), h⟩
  ·have := h i hi
   simp only [P.L17_few_r2, toNat_cast, Sum.elim_inl, Sum.elim_inr]
   simp (disch := omega) only [br_pos, br_neg, br_bne_pos, br_bne_neg, br_beq_pos, br_beq_neg, br_not, br_tt, br_ff, i64w]
   exact hn'
  ·simp only [P.L17_few_r2, toNat_cast, Sum.elim_inl, Sum.elim_inr]
   rw [br_neg (by omega)]
 ·refine .inr (lp_eq (P := fun x => ∃ j : Nat, x = (l, (l.length : Int), (j : Int)) ∧ ∃ i, j ≤ i ∧ i < l.length ∧ ¬ (l.getD i []).length ≤ 300) (μ := fun x => ((l.length : Int) - x.2.2).toNat) ?_ ⟨0, rfl, ?_⟩ (by simp only; omega))
  ·rintro _ ⟨j, rfl, i, hji, hi, hb⟩ next hn
   simp only [P.L17_few_r2, toNat_cast, Sum.elim_inl, Sum.elim_inr]
   by_cases hj : ((l.getD j []).length : Int) > 300
   ·simp (disch := omega) only [br_pos, br_neg, br_bne_pos, br_bne_neg, br_beq_pos, br_beq_neg, br_not, br_tt, br_ff, i64w]
   ·simp (disch := omega) only [br_pos, br_neg, br_bne_pos, br_bne_neg, br_beq_pos, br_beq_neg, br_not, br_tt, br_ff, i64w]
    exact hn _ ⟨j + 1, rfl, i, by by_cases e : j = i <;> (try subst e) <;> omega, hi, hb⟩ (by simp only; omega)
  ·have : ∃ i, ¬ (i < l.length → (l.getD i []).length ≤ 300) := Classical.not_forall.1 h
   obtain ⟨i, hi⟩ := this
   exact ⟨i, Nat.zero_le _, by by_cases e : i < l.length <;> simp_all, fun e => hi (fun _ => e)⟩
theorem WotsTells (x0_N : Int) (x0_H : Int) (x0_D : Int) (x0_A : Int) (x0_K : Int) (x0_Shake : Bool) (x1 : List Int) (x2 : Int) (x3 : Int) (x4 : List Int) (x5 : List Int) (wx0_N : wfI .i64 x0_N) (wx0_H : wfI .i64 x0_H) (wx0_D : wfI .i64 x0_D) (wx0_A : wfI .i64 x0_A) (wx0_K : wfI .i64 x0_K) (nx1 : x1.length = 32) (wx1 : ∀ x, x ∈ x1 → wfI .u8 x) (wx2 : wfI .i64 x2) (wx3 : wfI .u64 x3) (nx4 : x4.length ≤ 140737488355328) (wx4 : ∀ x, x ∈ x4 → wfI .u8 x) (nx5 : x5.length ≤ 140737488355328) (wx5 : ∀ x, x ∈ x5 → wfI .u8 x) {ρ : Type} (k : Bool → Option ρ) : P.L17_WotsTells x0_N x0_H x0_D x0_A x0_K x0_Shake x1 x2 x3 x4 x5 k = k true := by
 have h1 := in_u8 wx1
 have h4 := in_u8 wx4
 have h5 := in_u8 wx5
 have h3 := wf_u64 wx3
 obtain ⟨v, rfl⟩ : ∃ v : Nat, x3 = (v : Int) := ⟨x3.toNat, by omega⟩
 rw [P.L17_WotsTells_eq]; unfold P.L17_WotsTells_raw
 generalize hK : (fun (q0 : Bool) => br (!q0) (P.L17_awake fun (q1 : Bool) => k q1) _) = K
 rcases L17_few [x4, x5] (by simp) K with ⟨e, hl⟩ | e
 ·rw [e, ← hK]
  dsimp only
  rw [br_not, br_tt]
  have l4 : x4.length ≤ 300 := hl 0 (by simp)
  have l5 : x5.length ≤ 300 := hl 1 (by simp)
  have hd : ∃ d, (∀ k : List Int → Option ρ, P.wots_Digits x0_N x5 k = k d) ∧ (∀ k : List Int → Option ρ, P.R17_Digits x0_N x5 k = k d) ∧ d.length ≤ 1000 := by
   by_cases hN : (x0_N = 16 ∨ x0_N = 24 ∨ x0_N = 32) ∧ (x5.length : Int) = x0_N
   ·obtain ⟨n, rfl⟩ : ∃ n : Nat, x0_N = (n : Int) := ⟨x0_N.toNat, by omega⟩
    have hn3 : N3 n := by unfold N3; omega
    have hl5 : x5.length = n := by omega
    exact ⟨_, fun k => wots_Digits hn3 x5 h5 hl5 k, fun k => R17_Digits hn3 x5 h5 hl5 k, by rw [wd_len n x5 hl5]; omega⟩
   ·exact ⟨[], fun k => (digits_no x0_N x5 hN k).1, fun k => (digits_no x0_N x5 hN k).2, by simp⟩
  obtain ⟨d, d1, d2, dn⟩ := hd
  rw [wots_Fit, R17_Fit, beq_self_eq_true, br_not, br_tt, wots_Put nx1 x2 v (by omega), R17_Put nx1 x2 v (by omega), decide_eq_true rfl, br_not, br_tt, d1, d2, R01_SameNums _ _ (by omega), decide_eq_true rfl, br_not, br_tt, R17_Fit]
  by_cases hf : FitP x0_N x0_H x0_D x0_A x0_K
  ·rw [decide_eq_true hf, br_not, br_tt]
   obtain ⟨n, rfl⟩ : ∃ n : Nat, x0_N = (n : Int) := ⟨x0_N.toNat, by unfold FitP at hf; omega⟩
   have hn : n ≤ 32 := by unfold FitP at hf; omega
   have hs : ∃ d, (∀ k : List Int → Option ρ, P.wots_Sum n x0_H x0_D x0_A x0_K x0_Shake x4 x1 x5 k = k d) ∧ (∀ k : List Int → Option ρ, P.R17_Sum n x0_H x0_D x0_A x0_K x0_Shake x4 x1 x5 k = k d) ∧ d.length ≤ 1000 := by
    by_cases hp : (x4.length : Int) = (n : Int)
    ·exact ⟨_, fun k => wots_Sum hf x0_Shake x4 h4 (by omega) x1 x5 nx1 h1 h5 (by omega) k, fun k => R17_Sum hf x0_Shake x4 h4 (by omega) x1 x5 nx1 h1 h5 (by omega) k, by rw [sumW_len hn]; omega⟩
    ·exact ⟨[], fun k => wots_Sum_no hf x0_Shake x4 hp x1 x5 k, fun k => R17_Sum_no x0_Shake x4 hp x1 x5 k, by simp⟩
   obtain ⟨s, s1, s2, sn⟩ := hs
   have hdr : ∃ d, (∀ k : List Int → Option ρ, P.wots_Draw n x0_H x0_D x0_A x0_K x0_Shake x4 x5 x1 k = k d) ∧ (∀ k : List Int → Option ρ, P.R17_Draw n x0_H x0_D x0_A x0_K x0_Shake x4 x5 x1 k = k d) ∧ d.length ≤ 1000 := by
    by_cases hp : (x5.length : Int) = (n : Int)
    ·exact ⟨s, fun k => by rw [P.wots_Draw_eq]; unfold P.wots_Draw_raw; rw [br_bne_neg hp, s1], fun k => by rw [P.R17_Draw_eq]; unfold P.R17_Draw_raw; rw [br_bne_neg hp, s2], sn⟩
    ·exact ⟨[], fun k => by rw [P.wots_Draw_eq]; unfold P.wots_Draw_raw; rw [br_bne_pos hp], fun k => by rw [P.R17_Draw_eq]; unfold P.R17_Draw_raw; rw [br_bne_pos hp], by simp⟩
   obtain ⟨r, r1, r2, rn⟩ := hdr
   rw [s1, s2, R01_Same _ _ (by omega), decide_eq_true rfl, br_tt, r1, r2, R01_Same _ _ (by omega), decide_eq_true rfl, br_tt, L17_awake]
  ·rw [decide_eq_false hf, br_not, br_ff]
 ·rw [e, ← hK]
  dsimp only
  rw [br_not, br_ff, L17_awake]
end Q
end
