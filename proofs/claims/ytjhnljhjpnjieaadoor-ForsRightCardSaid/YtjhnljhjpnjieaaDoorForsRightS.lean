/-
  ForsRight, part 19: an interpreter of my own over abstract values, the pure functions, the walks and the plain law.
-/

import Derived.Test.YtjhnljhjpnjieaaDoorForsRightR
import Derived.Test.YtjhnljhjpnjieaaDoorForsRightI
import Derived.Test.YtjhnljhjpnjieaaDoorForsRightK
import Derived.Test.YtjhnljhjpnjieaaDoorForsRightL

section
/- wots: kinds, places, digits, by the program and by the document. -/
namespace Q
open QK
open Go Go.Abs
set_option linter.unusedVariables false
set_option linter.unusedSimpArgs false
def afo (N H D A K : Int) : Prop := (N = 16 ∨ N = 24 ∨ N = 32) ∧ 1 ≤ D ∧ H ≤ 68 ∧ D ≤ H ∧ H.tmod D = 0 ∧ IntKind.i64.wrap (H.tdiv D) ≤ 9 ∧ 1 ≤ A ∧ A ≤ 14 ∧ 1 ≤ K ∧ K ≤ 40
instance (N H D A K : Int) : Decidable (afo N H D A K) := by unfold afo; infer_instance
theorem arz (N H D A K : Int) (hN : N = 16 ∨ N = 24 ∨ N = 32) {ρ : Type} (k : Bool → Option ρ) :
    (br (decide (D < (1 : Int))) (k false) (br (decide (H < D)) (k false) (br (decide (H > (68 : Int))) (k false)
     (br (decide (D = (0 : Int))) none (br (H.tmod D != (0 : Int)) (k false) (br (decide (D = (0 : Int))) none
      (br (decide (IntKind.i64.wrap (H.tdiv D) > (9 : Int))) (k false) (br (decide (A ≥ (1 : Int)))
       (br (decide (A ≤ (14 : Int))) (br (decide (K ≥ (1 : Int))) (k (decide (K ≤ (40 : Int)))) (k false)) (k false)) (k false))))))))) = k (decide (afo N H D A K)) := by
 by_cases h1 : D < 1
 ·rw [bf h1, decide_eq_false (by unfold afo; omega)]
 rw [dz h1]
 by_cases h2 : H < D
 ·rw [bf h2, decide_eq_false (by unfold afo; omega)]
 rw [dz h2]
 by_cases h3 : H > 68
 ·rw [bf h3, decide_eq_false (by unfold afo; omega)]
 rw [dz h3, dz (by omega)]
 by_cases h4 : H.tmod D = 0
 ·rw [ji h4, dz (by omega)]
  by_cases h5 : IntKind.i64.wrap (H.tdiv D) > 9
  ·rw [bf h5, decide_eq_false (by unfold afo; omega)]
  rw [dz h5]
  by_cases h6 : A ≥ 1
  ·rw [bf h6]
   by_cases h7 : A ≤ 14
   ·rw [bf h7]
    by_cases h8 : K ≥ 1
    ·rw [bf h8]
     congr 1
     apply decide_eq_decide.2
     unfold afo
     omega
    ·rw [dz h8, decide_eq_false (by unfold afo; omega)]
   ·rw [dz h7, decide_eq_false (by unfold afo; omega)]
  ·rw [dz h6, decide_eq_false (by unfold afo; omega)]
 ·rw [ku h4, decide_eq_false (by unfold afo; omega)]
theorem og (N H D A K : Int) (z : Bool) {ρ : Type} (k : Bool → Option ρ) : P.og N H D A K z k = k (decide (afo N H D A K)) := by
 rw [P.aoz]; unfold P.aiq
 by_cases h1 : N = 16
 ·rw [ji h1]; exact arz N H D A K (.inl h1) k
 rw [ku h1]
 by_cases h2 : N = 24
 ·rw [ji h2]; exact arz N H D A K (.inr (.inl h2)) k
 rw [ku h2]
 by_cases h3 : N = 32
 ·rw [ji h3]; exact arz N H D A K (.inr (.inr h3)) k
 rw [ku h3, decide_eq_false (by unfold afo; omega)]
def bdt (a : List Int) (i : Nat) (b : List Int) : List Int := a.take i ++ b ++ a.drop (i + b.length)
theorem anm (a : List Int) (i : Nat) (b : List Int) (h : i + b.length ≤ a.length) : (bdt a i b).length = a.length := by
 unfold bdt; simp; omega
theorem ard {a : List Int} {i : Nat} {b : List Int} (ha : In 256 a) (hb : In 256 b) : In 256 (bdt a i b) := ((ha.take i).app hb).app (ha.drop _)
def be4 (n v : Nat) : List Int := (bsw 8 n v).reverse
theorem akj (n v : Nat) : (be4 n v).length = n := by simp [be4]
theorem aw7 (n v : Nat) : In 256 (be4 n v) := (bb7 8 n v).rev
def aww (a : List Int) (part : Int) (v : Nat) : List Int :=
 if part = 0 then bdt a 0 (be4 4 v) else if part = 1 then bdt a 4 (be4 12 v) else if part = 2 then bdt a 16 (be4 4 v ++ List.replicate 12 0)
 else if part = 3 ∨ part = 4 ∨ part = 5 then bdt a (8 + 4 * part.toNat) (be4 4 v) else a
theorem abg {a : List Int} (h : a.length = 32) (part : Int) (v : Nat) : (aww a part v).length = 32 := by
 unfold aww
 have h4 := akj 4 v
 have h12 := akj 12 v
 split
 ·rw [anm _ _ _ (by omega), h]
 split
 ·rw [anm _ _ _ (by omega), h]
 split
 ·rw [anm _ _ _ (by rw [List.length_append, List.length_replicate]; omega), h]
 split
 ·rw [anm _ _ _ (by omega), h]
 exact h
theorem aij {a : List Int} (h : In 256 a) (part : Int) (v : Nat) : In 256 (aww a part v) := by
 unfold aww
 split
 ·exact ard h (aw7 _ _)
 split
 ·exact ard h (aw7 _ _)
 split
 ·exact ard h ((aw7 _ _).app (fun x hx => by rw [List.mem_replicate] at hx; omega))
 split
 ·exact ard h (aw7 _ _)
 exact h
theorem cpy (a : List Int) (i m : Nat) (b : List Int) (hb : b.length ≤ m) : (a.take i).append (b.take m ++ a.drop (i + min m b.length)) = bdt a i b := by
 rw [List.take_of_length_le hb, Nat.min_eq_right hb]
 show a.take i ++ (b ++ _) = _
 rw [← List.append_assoc]
 rfl
theorem oo {a : List Int} (h : a.length = 32) (part : Int) (v : Nat) (hv : v < 18446744073709551616) {ρ : Type} (k : List Int → Option ρ) : P.oo a part (v : Int) k = k (aww a part v) := by
 rw [P.aph]; unfold P.ah5 aww
 have h4 : (bsw 8 4 v).reverse.length = 4 := by simp
 have h12 : (bsw 8 12 v).reverse.length = 12 := by simp
 have be : ∀ (k' : List Int → Option ρ), P.tq (v : Int) 4 k' = k' (be4 4 v) := fun k' => tq v 4 hv (by omega) k'
 have be' : ∀ (k' : List Int → Option ρ), P.tq (v : Int) 12 k' = k' (be4 12 v) := fun k' => tq v 12 hv (by omega) k'
 by_cases h0 : part = 0
 ·rw [fu h0, if_pos h0, be]
  exact congrArg k (by rw [← cpy a 0 4 (be4 4 v) (by rw [akj]; omega)]; rfl)
 rw [iw h0, if_neg h0]
 by_cases h1 : part = 1
 ·rw [fu h1, if_pos h1, be']
  exact congrArg k (cpy a 4 12 _ (by rw [akj]; omega))
 rw [iw h1, if_neg h1]
 by_cases h2 : part = 2
 ·have e : [be4 4 v, List.replicate 12 (0 : Int)].flatten = be4 4 v ++ List.replicate 12 0 := by simp
  rw [fu h2, if_pos h2, be, jq _ (by simp) (by rw [e]; simp [akj]), e]
  exact congrArg k (cpy a 16 16 _ (by rw [List.length_append, akj, List.length_replicate]; omega))
 rw [iw h2, if_neg h2]
 have fin : ∀ (p : Nat), part = (p : Int) → 3 ≤ p → p ≤ 5 → (br (decide ((0 : Int) ≤ IntKind.i64.wrap ((8 : Int) + IntKind.i64.wrap ((4 : Int) * part))))
     (br (decide (IntKind.i64.wrap ((8 : Int) + IntKind.i64.wrap ((4 : Int) * part)) ≤ ((32 : Nat) : Int)))
      (P.tq (v : Int) (4 : Int) fun (q4 : List Int) =>
       k ((List.take (IntKind.i64.wrap ((8 : Int) + IntKind.i64.wrap ((4 : Int) * part))).toNat a).append
        (List.take (((32 : Nat) : Int) - IntKind.i64.wrap ((8 : Int) + IntKind.i64.wrap ((4 : Int) * part))).toNat q4 ++
         List.drop ((IntKind.i64.wrap ((8 : Int) + IntKind.i64.wrap ((4 : Int) * part))).toNat +
          min (((32 : Nat) : Int) - IntKind.i64.wrap ((8 : Int) + IntKind.i64.wrap ((4 : Int) * part))).toNat q4.length) a))) none) none) = k (bdt a (8 + 4 * part.toNat) (be4 4 v)) := by
  intro p hp h3 h5
  subst hp
  have e : IntKind.i64.wrap ((8 : Int) + IntKind.i64.wrap ((4 : Int) * (p : Int))) = ((8 + 4 * p : Nat) : Int) := by
   rw [yh (x := 4 * (p : Int)) (by omega) (by omega), yh (by omega) (by omega)]; omega
  rw [e, bf (by omega), bf (by omega), be, show (((32 : Nat) : Int) - ((8 + 4 * p : Nat) : Int)).toNat = 24 - 4 * p by omega, toNat_cast, toNat_cast]
  exact congrArg k (cpy a _ _ _ (by rw [akj]; omega))
 by_cases h3 : part = 3
 ·rw [fu h3, fu h3, if_pos (.inl h3)]
  exact fin 3 h3 (by omega) (by omega)
 rw [iw h3]
 by_cases h4' : part = 4
 ·rw [fu h4', fu h4', if_pos (.inr (.inl h4'))]
  exact fin 4 h4' (by omega) (by omega)
 rw [iw h4']
 by_cases h5 : part = 5
 ·rw [fu h5, if_pos (.inr (.inr h5))]
  exact fin 5 h5 (by omega) (by omega)
 rw [iw h5, if_neg (by omega)]
end Q
end

section
/- wots: sums at places. -/
namespace Q
open QK
open Go Go.Abs
set_option linter.unusedVariables false
set_option linter.unusedSimpArgs false
theorem bda {kind : Int} (w blk b : List Int) (hl : blk.length = bsz kind) : apg kind (apg kind w blk) b = apg kind w (blk ++ b) := by
 unfold apg
 rcases ajn kind with ⟨h, e⟩ | ⟨h, e⟩
 ·rw [e] at hl
  have := (aq3 p32 (toV 32 w) blk b 1 (by omega) (b.length / 64)).1
  simp only [if_pos h]
  rw [bfl _ (aj4 _ _ (aj5 _ _) _ _), List.length_append, hl, show (64 + b.length) / 64 = 1 + b.length / 64 by omega, Nat.div_self (by omega), this]
 ·rw [e] at hl
  have := (aq3 p64 (toV 64 w) blk b 1 (by omega) (b.length / 128)).1
  simp only [if_neg h]
  rw [bfl _ (aj4 _ _ (aj5 _ _) _ _), List.length_append, hl, show (128 + b.length) / 128 = 1 + b.length / 128 by omega, Nat.div_self (by omega), this]
theorem bef {n : Nat} (hn : 0 < n) (blk b : List Int) (hl : blk.length = n) : rest n (blk ++ b) = rest n b := by
 unfold rest
 rw [List.length_append, hl, Nat.add_comm n, Nat.add_div_right _ hn, Nat.mul_succ, List.drop_append, List.drop_eq_nil_of_le (by omega), List.nil_append, hl, Nat.add_sub_cancel]
def blk (kind : Int) (pub : List Int) : List Int := pub ++ List.replicate (bsz kind - pub.length) 0
theorem azu (kind : Int) (pub : List Int) (h : pub.length ≤ 64) : (blk kind pub).length = bsz kind := by
 unfold blk
 rcases ajn kind with ⟨_, e⟩ | ⟨_, e⟩ <;> rw [List.length_append, List.length_replicate, e] <;> omega
theorem bko {kind : Int} {pub : List Int} (h : In 256 pub) : In 256 (blk kind pub) := h.app (fun x hx => by rw [List.mem_replicate] at hx; omega)
theorem rz {kind : Int} (h : K3 kind) (pub : List Int) (hp : In 256 pub) (hn : pub.length ≤ 64) (B : Int) (hB : B = ((bsz kind : Nat) : Int)) {ρ : Type} (k : Int → List Int → List Int → Int → Option ρ) :
    P.rz kind B pub k = k kind (apg kind (awu kind) (blk kind pub)) [] B := by
 have hb : bsz kind = 64 ∨ bsz kind = 128 := by rcases ajn kind with ⟨_, e⟩ | ⟨_, e⟩ <;> omega
 have hw := bg7 kind
 have e1 : [pub].flatten = pub := by simp
 have e2 : IntKind.i64.wrap (B - (pub.length : Int)) = ((bsz kind - pub.length : Nat) : Int) := by rw [yh (by omega) (by omega)]; omega
 have hl := azu kind pub hn
 have er : rest (bsz kind) (blk kind pub) = [] := List.eq_nil_of_length_eq_zero (by rw [axv _ (ash kind), hl, Nat.mod_self])
 have e3 := bdp (blk kind pub) (by omega)
 rw [P.ajt]; unfold P.afi
 rw [aez h, jq _ (by simp) (by rw [e1]; omega), e1, e2, toNat_cast, bf (by omega), bf (by omega)]
 show P.uy kind (awu kind) [] 0 (blk kind pub) _ = _
 rw [uy kind _ [] _ _ hw.1 hw.2.1 In.nil (bko hp) (by rw [List.length_nil]; omega), List.nil_append, er, e3, hl, hB]
def sho (a : List Int) : List Int := (a.drop 3).take 1 ++ ((a.drop 8).take 8 ++ (a.drop 19).take 13)
theorem bb8 (a : List Int) : (sho a).length ≤ 22 := by unfold sho; simp; omega
theorem bjs {a : List Int} (h : In 256 a) : In 256 (sho a) := ((h.drop _).take _).app (((h.drop _).take _).app ((h.drop _).take _))
theorem ru (a : List Int) {ρ : Type} (k : List Int → Option ρ) : P.ru a k = k (sho a) := by
 have e : [List.take 1 (List.drop 3 a), List.take 8 (List.drop 8 a), List.take 13 (List.drop 19 a)].flatten = sho a := by unfold sho; simp
 have := bb8 a
 rw [P.ale]; unfold P.af5
 rw [jq _ (by simp) (by rw [e]; omega), e]
def hk (n : Nat) (t : List Int) : Int := if 16 < n ∧ n < t.length then 3 else 1
def axg (n : Nat) (sh : Bool) (pub a t : List Int) : List Int := if sh then bl6 7 (pub ++ (a ++ t)) n else (bhr (hk n t) (blk (hk n t) pub ++ (sho a ++ t))).take n
theorem bbx {kd : Int} (h : kd = 1 ∨ kd = 3) (b : List Int) : 32 ≤ (bhr kd b).length := by
 rw [bcv]; rcases h with rfl | rfl <;> simp
theorem hk13 (n : Nat) (t : List Int) : hk n t = 1 ∨ hk n t = 3 := by unfold hk; split; exact .inr rfl; exact .inl rfl
theorem ai6 {n : Nat} (hn : n ≤ 32) (sh : Bool) (pub a t : List Int) : (axg n sh pub a t).length = n := by
 unfold axg
 split
 ·exact beb _ _ _
 ·have := bbx (hk13 n t) (blk (hk n t) pub ++ (sho a ++ t))
  rw [List.length_take]; omega
theorem an4 (n : Nat) (sh : Bool) (pub a t : List Int) : In 256 (axg n sh pub a t) := by
 unfold axg
 split
 ·exact bgc _ _ _
 ·exact (bgb _ _).take _
theorem aon {kind : Int} (h : kind = 1 ∨ kind = 3) {n : Nat} (hn : n ≤ 32) (pub : List Int) (hp : In 256 pub) (np : pub.length ≤ 64) (q : List Int) (hq : In 256 q) (nq : q.length ≤ 100000) (B : Int) (hB : B = ((bsz kind : Nat) : Int)) {ρ : Type} (k : List Int → Option ρ) :
    (P.uy kind (apg kind (awu kind) (blk kind pub)) [] B q fun (q2 : Int) (q3 q4 : List Int) (q5 : Int) => P.acp q2 q3 q4 q5 fun (q6 : List Int) =>
     br (decide ((0 : Int) ≤ (n : Int))) (br (decide ((n : Int) ≤ (q6.length : Int))) (k (List.take ((n : Int) - (0 : Int)).toNat (List.drop 0 q6))) none) none) = k ((bhr kind (blk kind pub ++ q)).take n) := by
 have hb : bsz kind = 64 ∨ bsz kind = 128 := by rcases ajn kind with ⟨_, e⟩ | ⟨_, e⟩ <;> omega
 have hw := av7 kind (awu kind) (blk kind pub)
 have hl := azu kind pub np
 have hw2 := av7 kind (apg kind (awu kind) (blk kind pub)) ([] ++ q)
 have hr := axv (bsz kind) (ash kind) ([] ++ q)
 have hm := Nat.mod_lt ([] ++ q).length (ash kind)
 have e3 : IntKind.u64.wrap (B + IntKind.u64.wrap (q.length : Int)) = (((blk kind pub ++ q).length : Nat) : Int) := by
  rw [apn _ (by omega), hB, ← Int.natCast_add, apn _ (by omega), List.length_append, hl]
 have hs := bbx h (blk kind pub ++ q)
 rw [uy kind _ [] _ q hw.1 hw.2.1 In.nil hq (by rw [List.length_nil]; omega), e3, acp _ _ _ _ hw2.1 hw2.2.1 (bhx (In.nil.app hq)) (by omega)]
 have e4 : be8 kind (apg kind (apg kind (awu kind) (blk kind pub)) ([] ++ q)) (rest (bsz kind) ([] ++ q)) (blk kind pub ++ q).length = bhr kind (blk kind pub ++ q) := by
  unfold bhr
  rw [List.nil_append, bda _ _ _ hl, bef (ash kind) _ _ hl]
 rw [e4, bf (by omega), bf (by omega), List.drop_zero, Int.sub_zero, toNat_cast]
theorem bca {n : Nat} (hn : n ≤ 32) (pub a t : List Int) (hp : In 256 pub) (np : pub.length ≤ 64) (ha : In 256 a) (ht : In 256 t) (nt : t.length ≤ 90000) {ρ : Type} (k : List Int → Option ρ) :
    P.l9 a t 1 (apg 1 (awu 1) (blk 1 pub)) [] 64 (n : Int) 3 (apg 3 (awu 3) (blk 3 pub)) [] 128 k = k (axg n false pub a t) := by
 have e : [sho a, t].flatten = sho a ++ t := by simp
 have hs := bb8 a
 have hl : (sho a ++ t).length ≤ 100000 := by rw [List.length_append]; omega
 have hq : In 256 (sho a ++ t) := (bjs ha).app ht
 rw [P.agu]; unfold P.ab5 axg hk
 by_cases h1 : 16 < n
 ·rw [bf (by omega)]
  by_cases h2 : n < t.length
  ·rw [bf (by omega), if_neg (by simp), if_pos ⟨h1, h2⟩, ru, jq _ (by simp) (by rw [e]; omega), e]
   exact aon (.inr rfl) hn pub hp np _ hq hl 128 rfl k
  ·rw [dz (by omega), if_neg (by simp), if_neg (by omega), ru, jq _ (by simp) (by rw [e]; omega), e]
   exact aon (.inl rfl) hn pub hp np _ hq hl 64 rfl k
 ·rw [dz (by omega), if_neg (by simp), if_neg (by omega), ru, jq _ (by simp) (by rw [e]; omega), e]
  exact aon (.inl rfl) hn pub hp np _ hq hl 64 rfl k
theorem R7t : Rt 7 136 := .inr (.inr (.inr ⟨rfl, rfl⟩))
theorem g0 : Good 136 (Z25, 0) := ⟨bos, by decide⟩
theorem bcd {n : Nat} (hn : n ≤ 32) (pub a t : List Int) (la : a.length = 32) (nt : t.length ≤ 90000) {ρ : Type} (k : List Int → Option ρ) :
    P.lq a t 7 (apq 136 (Z25, 0) pub).1 ((apq 136 (Z25, 0) pub).2 : Int) false (n : Int) k = k (axg n true pub a t) := by
 have e : [List.take 32 (List.drop 0 a), t].flatten = a ++ t := by rw [List.drop_zero, List.take_of_length_le (by omega)]; simp
 have hl : (a ++ t).length ≤ 100000 := by rw [List.length_append]; omega
 rw [P.agp]; unfold P.ach axg
 rw [jq _ (by simp) (by rw [e]; omega), e, if_pos rfl]
 refine (nk R7t _ _ (aiv pub g0) (a ++ t) (by omega) _).trans ?_
 refine (o9 R7t _ (aiv (a ++ t) (aiv pub g0)) n (by omega) _).trans ?_
 unfold bl6
 show k (sqO 136 (trn 7 136 (apq 136 (apq 136 (Z25, 0) pub) (a ++ t)), 0) n) = k (sqO 136 (trn 7 136 (apq 136 (Z25, 0) (pub ++ (a ++ t))), 0) n)
 simp only [bes]
def Sg (n : Nat) (sh : Bool) (pub : List Int) (tg : Nat) (cK : Int) (cW : List Int) (cA : Int) (cO : Bool) (c1 dK : Int) (dW dT : List Int) (dS d1 eK : Int) (eW eT : List Int) (eS : Int) : Prop :=
 (sh = true ∧ tg = 1 ∧ cK = 7 ∧ cW = (apq 136 (Z25, 0) pub).1 ∧ cA = ((apq 136 (Z25, 0) pub).2 : Int) ∧ cO = false ∧ c1 = (n : Int)) ∨
 (sh = false ∧ tg = 2 ∧ dK = 1 ∧ dW = apg 1 (awu 1) (blk 1 pub) ∧ dT = [] ∧ dS = 64 ∧ d1 = (n : Int) ∧ eK = 3 ∧ eW = apg 3 (awu 3) (blk 3 pub) ∧ eT = [] ∧ eS = 128)
theorem call {n : Nat} {sh : Bool} {pub : List Int} {tg : Nat} {cK : Int} {cW : List Int} {cA : Int} {cO : Bool} {c1 dK : Int} {dW dT : List Int} {dS d1 eK : Int} {eW eT : List Int} {eS : Int} (h : Sg n sh pub tg cK cW cA cO c1 dK dW dT dS d1 eK eW eT eS)
    (hn : n ≤ 32) (hp : In 256 pub) (np : pub.length ≤ 64) {a t : List Int} (la : a.length = 32) (ha : In 256 a) (ht : In 256 t) (nt : t.length ≤ 90000) {ρ : Type} (k : List Int → Option ρ) :
    br (decide (tg = 1)) (P.lq a t cK cW cA cO c1 fun (q : List Int) => k q) (br (decide (tg = 2)) (P.l9 a t dK dW dT dS d1 eK eW eT eS fun (q : List Int) => k q) none) = k (axg n sh pub a t) := by
 rcases h with ⟨rfl, rfl, rfl, rfl, rfl, rfl, rfl⟩ | ⟨rfl, rfl, rfl, rfl, rfl, rfl, rfl, rfl, rfl, rfl, rfl⟩
 ·rw [bf rfl]
  exact bcd hn pub a t la nt k
 ·rw [dz (by omega), bf rfl]
  exact bca hn pub a t hp np ha ht nt k
theorem bde {n : Nat} {H D A K : Int} (hf : afo n H D A K) (sh : Bool) (pub : List Int) (hp : In 256 pub) (np : pub.length = n) :
    ∃ tg cK cW cA cO c1 dK dW dT dS d1 eK eW eT eS, Sg n sh pub tg cK cW cA cO c1 dK dW dT dS d1 eK eW eT eS ∧
     ∀ {ρ : Type} (k : Int → Int → Int → Int → Int → Bool → Nat → Int → (List Int) → Int → Bool → Int → Int → (List Int) → (List Int) → Int → Int → Int → (List Int) → (List Int) → Int → Bool → Option ρ),
      P.aa8 n H D A K sh pub k = k n H D A K sh tg cK cW cA cO c1 dK dW dT dS d1 eK eW eT eS true := by
 have hn : n ≤ 32 := by unfold afo at hf; omega
 cases sh with
 | true =>
  refine ⟨1, 7, _, _, false, (n : Int), 0, [], [], 0, 0, 0, [], [], 0, .inl ⟨rfl, rfl, rfl, rfl, rfl, rfl, rfl⟩, fun k => ?_⟩
  rw [P.ahg]; unfold P.adn
  rw [og, decide_eq_true hf, w9, aa7, ji (by omega), aa7, P.ajl]; unfold P.aey
  rw [P.ak5]; unfold P.af8
  rw [aun R7t, iw (by omega)]
  exact nk R7t Z25 0 g0 pub (by omega) _
 | false =>
  refine ⟨2, 0, [], 0, false, 0, 1, _, _, 64, (n : Int), 3, _, _, 128, .inr ⟨rfl, rfl, rfl, rfl, rfl, rfl, rfl, rfl, rfl, rfl, rfl⟩, fun k => ?_⟩
  rw [P.ahg]; unfold P.adn
  rw [og, decide_eq_true hf, w9, aa7, ji (by omega), aef, P.ajp]; unfold P.ae5
  rw [rz (.inl rfl) pub hp (by omega) 64 rfl, rz (.inr (.inr rfl)) pub hp (by omega) 128 rfl]
theorem uq {n : Nat} {H D A K : Int} (hf : afo n H D A K) (sh : Bool) (pub : List Int) (hp : In 256 pub) (np : pub.length = n) (a t : List Int) (la : a.length = 32) (ha : In 256 a) (ht : In 256 t) (nt : t.length ≤ 90000) {ρ : Type} (k : List Int → Option ρ) :
    P.uq n H D A K sh pub a t k = k (axg n sh pub a t) := by
 have hn : n ≤ 32 := by unfold afo at hf; omega
 obtain ⟨tg, cK, cW, cA, cO, c1, dK, dW, dT, dS, d1, eK, eW, eT, eS, hs, hb⟩ := bde hf sh pub hp np
 rw [P.anw]; unfold P.aiz
 rw [hb, w9, aa7]
 exact call hs hn hp (by omega) la ha ht nt k
end Q
end

section
/- wots: chains, keys, signatures, by the program. -/
namespace Q
open QK
open Go Go.Abs
set_option linter.unusedVariables false
set_option linter.unusedSimpArgs false
def prn (a : List Int) : Nat := T 8 ((a.drop 20).take 4).reverse % 2 ^ 64
theorem bfn (a : List Int) : prn a < 18446744073709551616 := Nat.mod_lt _ (by decide)
theorem adi {a : List Int} (ha : In 256 a) {ρ : Type} (k : Int → Option ρ) : P.adi a 3 k = k (prn a : Int) := by
 rw [P.apu]; unfold P.afa
 rw [show IntKind.i64.wrap ((8 : Int) + IntKind.i64.wrap ((4 : Int) * 3)) = 20 from rfl, show IntKind.i64.wrap ((12 : Int) + IntKind.i64.wrap ((4 : Int) * 3)) = 24 from rfl, bf (by omega), bf (by omega), bf (by omega)]
 exact su _ ((ha.drop 20).take 4) (by simp; omega) k
def fsW (n : Nat) (sh : Bool) (pub sec a : List Int) (i : Nat) : List Int := axg n sh pub (aww (aww (aww a 2 5) 3 (prn a)) 4 i) sec
theorem first' {n : Nat} {sh : Bool} {pub : List Int} {tg : Nat} {cK : Int} {cW : List Int} {cA : Int} {cO : Bool} {c1 dK : Int} {dW dT : List Int} {dS d1 eK : Int} {eW eT : List Int} {eS : Int} (hs : Sg n sh pub tg cK cW cA cO c1 dK dW dT dS d1 eK eW eT eS) (hn : n ≤ 32) (hp : In 256 pub) (np : pub.length ≤ 64) {a y : List Int} (la : a.length = 32) (ha : In 256 a) (hy : In 256 y) (ly : y.length ≤ 1000) (H D A K : Int) (i : Nat) (hi : i < 1000) {ρ : Type} (k : List Int → Option ρ) :
    P.adj (n : Int) H D A K sh tg cK cW cA cO c1 dK dW dT dS d1 eK eW eT eS y a (i : Int) k = k (fsW n sh pub y a i) := by
 rw [P.ajc]; unfold P.aa2
 rw [show (5 : Int) = ((5 : Nat) : Int) from rfl, oo la 2 5 (by omega), adi ha, oo (abg la _ _) 3 _ (bfn a), apn _ (by omega), oo (abg (abg la _ _) _ _) 4 _ (by omega)]
 exact call hs hn hp np (abg (abg (abg la _ _) _ _) _ _) (aij (aij (aij ha _ _) _ _) _ _) hy (by omega) k
theorem as4 {T U : Nat → List Int} : ∀ m, (∀ i, i < m → T i = U i) → cat T m = cat U m
 | 0, _ => rfl
 | m + 1, h => by rw [cat, cat, as4 m (fun i hi => h i (by omega)), h m (by omega)]
theorem ar5 {T : Nat → List Int} {d : Nat} (h : ∀ i, (T i).length = d) (i : Nat) : ∀ m, i < m → ((cat T m).drop (i * d)).take d = T i
 | 0, hi => by omega
 | m + 1, hi => by
  have hl := ahd h m
  rw [cat]
  by_cases e : i = m
  ·subst e
   rw [List.drop_append, List.drop_eq_nil_of_le (by omega), hl, Nat.sub_self, List.drop_zero, List.nil_append, List.take_of_length_le (by rw [h]; omega)]
  ·have : i * d + d ≤ m * d := by rw [← Nat.succ_mul]; exact Nat.mul_le_mul (by omega) (Nat.le_refl _)
   rw [List.drop_append_of_le_length (by omega), List.take_append_of_le_length (by rw [List.length_drop]; omega), ar5 h i m (by omega)]
end Q
end

section
/- wots: keys, signatures, candidates, by the document. -/
namespace Q
open QK
open Go Go.Abs
set_option linter.unusedVariables false
set_option linter.unusedSimpArgs false
end Q
end

section
/- fors: places, leaves, knots, by the program and by the document. -/
namespace Q
open QK
open Go Go.Abs
set_option linter.unusedVariables false
set_option linter.unusedSimpArgs false
def ofA (a : List Int) (kind : Nat) : List Int := aww (aww a 2 kind) 3 (prn a)
theorem al4 {a : List Int} (la : a.length = 32) (kind : Nat) : (ofA a kind).length = 32 := abg (abg la _ _) _ _
theorem az9 {a : List Int} (ha : In 256 a) (kind : Nat) : In 256 (ofA a kind) := aij (aij ha _ _) _ _
def ktA (a : List Int) (z i : Nat) : List Int := aww (aww (ofA a 3) 4 z) 5 i
theorem bhb {a : List Int} (la : a.length = 32) (z i : Nat) : (ktA a z i).length = 32 := abg (abg (al4 la _) _ _) _ _
theorem bjw {a : List Int} (ha : In 256 a) (z i : Nat) : In 256 (ktA a z i) := aij (aij (az9 ha _) _ _) _ _
def lfF (n : Nat) (sh : Bool) (pub sec a : List Int) (i : Nat) : List Int := axg n sh pub (aww (ofA a 6) 5 i) sec
def ovF (n : Nat) (sh : Bool) (pub a : List Int) (z i : Nat) (t : List Int) : List Int := axg n sh pub (ktA a z i) t
def kyF (n : Nat) (sh : Bool) (pub a tops : List Int) : List Int := axg n sh pub (ofA a 4) tops
theorem amb {n : Nat} (hn : n ≤ 32) (sh : Bool) (pub sec a : List Int) (i : Nat) : (lfF n sh pub sec a i).length = n := ai6 hn _ _ _ _
theorem bff (n : Nat) (sh : Bool) (pub sec a : List Int) (i : Nat) : In 256 (lfF n sh pub sec a i) := an4 _ _ _ _ _
theorem bgh {n : Nat} (hn : n ≤ 32) (sh : Bool) (pub a t : List Int) : (kyF n sh pub a t).length = n := ai6 hn _ _ _ _
def fkW (n : Nat) (sh : Bool) (pub sec a : List Int) : Nat → Nat → List Int
 | 0, i => ovF n sh pub a 0 i (lfF n sh pub sec a i)
 | z + 1, i => ovF n sh pub a (z + 1) i (fkW n sh pub sec a z (2 * i) ++ fkW n sh pub sec a z (2 * i + 1))
theorem al7 {n : Nat} (hn : n ≤ 32) (sh : Bool) (pub sec a : List Int) : ∀ z i, (fkW n sh pub sec a z i).length = n
 | 0, i => ai6 hn _ _ _ _
 | z + 1, i => ai6 hn _ _ _ _
theorem ayg (n : Nat) (sh : Bool) (pub sec a : List Int) : ∀ z i, In 256 (fkW n sh pub sec a z i)
 | 0, i => an4 _ _ _ _ _
 | z + 1, i => an4 _ _ _ _ _
theorem av0 {n : Nat} {H D A K : Int} (hf : afo n H D A K) (sh : Bool) {sec pub a : List Int} (hp : In 256 pub) (np : pub.length = n) (la : a.length = 32) (ha : In 256 a) (kind : Nat) (hk : kind < 100) {ρ : Type} (k : List Int → Option ρ) : P.jm (n : Int) H D A K sh sec pub a (kind : Int) k = k (ofA a kind) := by
 rw [P.aho]; unfold P.adg
 rw [oo la 2 kind (by omega), su _ ((ha.drop 20).take 4) (by simp; omega)]
 exact oo (abg la _ _) 3 _ (bfn a) k
theorem awt {n : Nat} {H D A K : Int} (hf : afo n H D A K) (sh : Bool) {sec pub a : List Int} (hp : In 256 pub) (np : pub.length = n) (la : a.length = 32) (ha : In 256 a) (z i : Nat) (hz : z < 1000) (hi : i < 18446744073709551616) {ρ : Type} (k : List Int → Option ρ) : P.oz (n : Int) H D A K sh sec pub a (z : Int) (i : Int) k = k (ktA a z i) := by
 rw [P.aem]; unfold P.aar
 rw [show P.jm (ρ := ρ) (n : Int) H D A K sh sec pub a 3 = P.jm (n : Int) H D A K sh sec pub a ((3 : Nat) : Int) from rfl, av0 hf sh hp np la ha 3 (by omega), apn _ (by omega), oo (al4 la _) 4 z (by omega), oo (abg (al4 la _) _ _) 5 i hi]
 rfl
theorem as9 {n : Nat} {H D A K : Int} (hf : afo n H D A K) (sh : Bool) {sec pub a : List Int} (hp : In 256 pub) (np : pub.length = n) (la : a.length = 32) (ha : In 256 a) (hsec : In 256 sec) (lsec : sec.length = n) (i : Nat) (hi : i < 18446744073709551616) {ρ : Type} (k : List Int → Option ρ) : P.iy (n : Int) H D A K sh sec pub a (i : Int) k = k (lfF n sh pub sec a i) := by
 have hn : n ≤ 32 := by unfold afo at hf; omega
 rw [P.afu]; unfold P.abw
 rw [show P.jm (ρ := ρ) (n : Int) H D A K sh sec pub a 6 = P.jm (n : Int) H D A K sh sec pub a ((6 : Nat) : Int) from rfl, av0 hf sh hp np la ha 6 (by omega), oo (al4 la _) 5 i hi, P.amu]
 unfold P.ag7
 rw [ji (by omega), uq hf sh pub hp np _ _ (abg (al4 la _) _ _) (aij (az9 ha _) _ _) hsec (by omega)]
 rfl
theorem aix {n : Nat} {H D A K : Int} (hf : afo n H D A K) (sh : Bool) {sec pub a : List Int} (hp : In 256 pub) (np : pub.length = n) (la : a.length = 32) (ha : In 256 a) (z i : Nat) (hz : z < 1000) (hi : i < 18446744073709551616) (l : List (List Int)) (hl : l.length ≤ 1000) (li : In 256 l.flatten) (lb : l.flatten.length ≤ 90000) {ρ : Type} (k : List Int → Option ρ) : P.ig (n : Int) H D A K sh sec pub a (z : Int) (i : Int) l k = k (ovF n sh pub a z i l.flatten) := by
 rw [P.af4]; unfold P.abr
 rw [awt hf sh hp np la ha z i hz hi, jq l (by omega) (by omega), uq hf sh pub hp np _ _ (bhb la _ _) (bjw ha _ _) li (by omega)]
 rfl
theorem awx {n : Nat} {H D A K : Int} (hf : afo n H D A K) (sh : Bool) {sec pub a : List Int} (hp : In 256 pub) (np : pub.length = n) (la : a.length = 32) (ha : In 256 a) (t : List Int) (ht : In 256 t) (lt : t.length ≤ 90000) {ρ : Type} (k : List Int → Option ρ) : P.jv (n : Int) H D A K sh sec pub a t k = k (kyF n sh pub a t) := by
 rw [P.agx]; unfold P.ab6
 rw [show P.jm (ρ := ρ) (n : Int) H D A K sh sec pub a 4 = P.jm (n : Int) H D A K sh sec pub a ((4 : Nat) : Int) from rfl, av0 hf sh hp np la ha 4 (by omega), uq hf sh pub hp np _ _ (al4 la _) (az9 ha _) ht lt]
 rfl
end Q
end

section
/- xmss: knots, signatures, tops, by the program. -/
namespace Q
open QK
open Go Go.Abs
set_option linter.unusedVariables false
set_option linter.unusedSimpArgs false
def Kd (n : Nat) (H D A K : Int) (h : Nat) : Prop := afo n H D A K ∧ IntKind.i64.wrap (H.tdiv D) = (h : Int)
theorem Kd.n {n : Nat} {H D A K : Int} {h : Nat} (k : Kd n H D A K h) : n ≤ 32 := by have := k.1; unfold afo at this; omega
theorem Kd.h {n : Nat} {H D A K : Int} {h : Nat} (k : Kd n H D A K h) : h ≤ 9 := by have := k.1; have e := k.2; unfold afo at this; omega
theorem br8 (x : Nat) : x ^^^ 1 = if x % 2 = 0 then x + 1 else x - 1 := by
 have h1 : (x ^^^ 1) / 2 = x / 2 := by rw [Nat.xor_div_two]; simp
 have h2 : (x ^^^ 1) % 2 = (x + 1) % 2 := by
  have := Nat.xor_mod_two_pow (a := x) (b := 1) (n := 1)
  rw [Nat.pow_one] at this
  rw [this]
  rcases Nat.mod_two_eq_zero_or_one x with e | e <;> rw [e]
  ·show 0 ^^^ 1 = _
   simp; omega
  ·show 1 ^^^ 1 = _
   simp; omega
 split <;> omega
end Q
end

section
/- xmss: knots, signatures, tops, by the document; and where there are none. -/
namespace Q
open QK
open Go Go.Abs
set_option linter.unusedVariables false
set_option linter.unusedSimpArgs false
theorem bdv (h : Nat) : (2 : Int) ^ h = ((2 ^ h : Nat) : Int) := by rw [Int.natCast_pow]; rfl
theorem axb (a z : Nat) (hz : z ≤ 64) (hb : a * 2 ^ z < 18446744073709551616) : IntKind.u64.wrap ((a : Int) * (2 : Int) ^ min z 64) = ((a * 2 ^ z : Nat) : Int) := by
 rw [Nat.min_eq_left hz, bdv, ← Int.natCast_mul, apn _ hb]
theorem Kd.d {n : Nat} {H D A K : Int} {h : Nat} (k : Kd n H D A K h) : ¬ D = 0 := by have := k.1; unfold afo at this; omega
end Q
end

section
/- A stack of what is joined two by two: as many entries as a number has ones. -/
namespace Q
open Go Go.Abs
set_option linter.unusedVariables false
def stk (N : Nat → Nat → List Int) (B : Nat) : Nat → Nat → Nat → List (Nat × List Int)
 | 0, _, _ => []
 | f + 1, b, q => if q = 0 then [] else stk N B f (b + 1) (q / 2) ++ (if q % 2 = 1 then [(b, N b (B / 2 ^ b + (q - 1)))] else [])
theorem be0 (N : Nat → Nat → List Int) (B f b : Nat) : stk N B f b 0 = [] := by cases f <;> simp [stk]
theorem arw (N : Nat → Nat → List Int) (B f b q : Nat) (h : q % 2 = 0) : stk N B (f + 1) b q = stk N B f (b + 1) (q / 2) := by
 by_cases h0 : q = 0
 ·subst h0
  rw [be0, be0]
 ·rw [stk, if_neg h0, if_neg (by omega), List.append_nil]
theorem av5 (N : Nat → Nat → List Int) (B f b q : Nat) (h : q % 2 = 1) : stk N B (f + 1) b q = stk N B f (b + 1) (q / 2) ++ [(b, N b (B / 2 ^ b + (q - 1)))] := by
 rw [stk, if_neg (by omega), if_pos h]
theorem bfc (N : Nat → Nat → List Int) (B : Nat) : ∀ f b q x, x ∈ stk N B f b q → b ≤ x.1
 | 0, b, q, x, h => by simp [stk] at h
 | f + 1, b, q, x, h => by
  rw [stk] at h
  split at h
  ·cases h
  ·rcases List.mem_append.1 h with h | h
   ·have := bfc N B f (b + 1) _ x h; omega
   ·split at h
    ·simp at h; subst h; exact Nat.le_refl _
    ·cases h
theorem aro (N : Nat → Nat → List Int) (B : Nat) : ∀ f b q, (stk N B f b q).length ≤ f
 | 0, b, q => by simp [stk]
 | f + 1, b, q => by
  rw [stk]
  have := aro N B f (b + 1) (q / 2)
  split
  ·simp
  ·split <;> simp <;> omega
theorem aw5 (N : Nat → Nat → List Int) (B : Nat) : ∀ m f b, m < f → stk N B f b (2 ^ m) = [(b + m, N (b + m) (B / 2 ^ (b + m)))]
 | 0, f + 1, b, h => by rw [Nat.pow_zero, av5 _ _ _ _ _ rfl, be0]; simp
 | m + 1, f + 1, b, h => by
  rw [arw _ _ _ _ _ (by rw [Nat.pow_succ]; omega), show 2 ^ (m + 1) / 2 = 2 ^ m by rw [Nat.pow_succ]; omega, aw5 N B m f (b + 1) (by omega), show b + 1 + m = b + (m + 1) by omega]
 | m, 0, b, h => by omega
theorem bk8 (N : Nat → Nat → List Int) (B f b q : Nat) (h : q % 2 = 1) : stk N B (f + 1) b (q + 1) = stk N B f (b + 1) (q / 2 + 1) := by
 rw [arw _ _ _ _ _ (by omega), show (q + 1) / 2 = q / 2 + 1 by omega]
theorem bg9 (N : Nat → Nat → List Int) (B f b q : Nat) (h : q % 2 = 0) : stk N B (f + 1) b (q + 1) = stk N B f (b + 1) (q / 2) ++ [(b, N b (B / 2 ^ b + q))] := by
 rw [av5 _ _ _ _ _ (by omega), show (q + 1) / 2 = q / 2 by omega, Nat.add_sub_cancel]
end Q
end

section
/- fors: a bfs by a stack. -/
namespace Q
open QK
open Go Go.Abs
set_option linter.unusedVariables false
set_option linter.unusedSimpArgs false
def hs (T : List (Nat × List Int)) : List Int := T.map fun x => (x.1 : Int)
def ns (T : List (Nat × List Int)) : List (List Int) := T.map fun x => x.2
theorem axm (T : List (Nat × List Int)) : (hs T).length = T.length := by simp [hs]
theorem azl (T : List (Nat × List Int)) : (ns T).length = T.length := by simp [ns]
theorem azy (T U : List (Nat × List Int)) : hs (T ++ U) = hs T ++ hs U := by simp [hs]
theorem bfb (T U : List (Nat × List Int)) : ns (T ++ U) = ns T ++ ns U := by simp [ns]
theorem bam {α : Type} (l : List α) (d : α) {m : Nat} (h : l.length = m) : azc m l d = l := by
 subst h
 simp [azc]
theorem anx {α : Type} (l : List α) (x d : α) {m : Nat} (h : l.length = m) : (l ++ [x]).getD m d = x := by
 subst h
 simp [List.getD_eq_getElem?_getD]
theorem bgr {n : Nat} {H D A K : Int} (hf : afo n H D A K) (sh : Bool) {sec pub a : List Int} (hsec : In 256 sec) (lsec : sec.length = n) (hp : In 256 pub) (np : pub.length = n) (la : a.length = 32) (ha : In 256 a) (z i m : Nat) (hz : z ≤ 14) (hb : (i + 1) * 2 ^ z ≤ 9223372036854775808) (hm : m < 2 ^ z) {ρ : Type} (r : Option ρ)
    (k0 : Int → Int → Int → Int → Nat → (List Int) → (List (List Int)) → Int → Int → Int → Int → Int → Bool → (List Int) → (List Int) → (List Int) → Int → (List Int) → Option ρ)
    (hk : ∀ (T : List (Nat × List Int)) (b : Nat) (y : List Int), T ++ [(b, y)] = stk (fkW n sh pub sec a) (i * 2 ^ z) 64 0 (m + 1) → k0 (z : Int) (i : Int) ((i * 2 ^ z + m : Nat) : Int) (T.length : Int) T.length (hs T) (ns T) n H D A K sh sec pub a (b : Int) y = r) :
    P.acr (z : Int) (i : Int) ((i * 2 ^ z + m : Nat) : Int) ((stk (fkW n sh pub sec a) (i * 2 ^ z) 64 0 m).length : Int) (stk (fkW n sh pub sec a) (i * 2 ^ z) 64 0 m).length (hs (stk (fkW n sh pub sec a) (i * 2 ^ z) 64 0 m)) (ns (stk (fkW n sh pub sec a) (i * 2 ^ z) 64 0 m)) n H D A K sh sec pub a 0 (fkW n sh pub sec a 0 (i * 2 ^ z + m)) k0 = r := by
 have hn : n ≤ 32 := by unfold afo at hf; omega
 have e1 : (i + 1) * 2 ^ z = i * 2 ^ z + 2 ^ z := by rw [Nat.add_mul, Nat.one_mul]
 rw [P.aie]; unfold P.aft P.bmd P.bkc P.bng
 refine bkk (P := fun x => ∃ f b q, f + b = 64 ∧ stk (fkW n sh pub sec a) (i * 2 ^ z) 64 0 (m + 1) = stk (fkW n sh pub sec a) (i * 2 ^ z) f b (q + 1) ∧ (i * 2 ^ z + m) / 2 ^ b = i * 2 ^ z / 2 ^ b + q ∧ (q + 1) * 2 ^ b ≤ 2 ^ z ∧
     x = ((z : Int), (i : Int), ((i * 2 ^ z + m : Nat) : Int), ((stk (fkW n sh pub sec a) (i * 2 ^ z) f b q).length : Int), (stk (fkW n sh pub sec a) (i * 2 ^ z) f b q).length, hs (stk (fkW n sh pub sec a) (i * 2 ^ z) f b q), ns (stk (fkW n sh pub sec a) (i * 2 ^ z) f b q), (n : Int), H, D, A, K, sh, sec, pub, a, (b : Int), fkW n sh pub sec a b (i * 2 ^ z / 2 ^ b + q)))
  (μ := fun x => x.2.2.2.2.1) ?_ ⟨64, 0, m, rfl, rfl, by rw [Nat.pow_zero, Nat.div_one, Nat.div_one], by omega, by rw [Nat.pow_zero, Nat.div_one]; rfl⟩ (by have := aro (fkW n sh pub sec a) (i * 2 ^ z) 64 0 m; simp only; omega)
 rintro _ ⟨f, b, q, hfb, hst, hdv, hle, rfl⟩ next hnx
 have hbz : b ≤ z := by
  have h1 : 2 ^ b ≤ (q + 1) * 2 ^ b := Nat.le_mul_of_pos_left _ (by omega)
  exact (Nat.pow_le_pow_iff_right (by omega)).1 (Nat.le_trans h1 hle)
 obtain ⟨f, rfl⟩ : ∃ g, f = g + 1 := ⟨f - 1, by omega⟩
 have hlen := aro (fkW n sh pub sec a) (i * 2 ^ z) f (b + 1) (q / 2)
 by_cases hq : q % 2 = 1
 ·-- two of one height
  have hb1 : b + 1 ≤ z := by
   have h1 : 2 ^ (b + 1) ≤ (q + 1) * 2 ^ b := by rw [Nat.pow_succ, Nat.mul_comm]; exact Nat.mul_le_mul (by omega) (Nat.le_refl _)
   exact (Nat.pow_le_pow_iff_right (by omega)).1 (Nat.le_trans h1 hle)
  have hev : i * 2 ^ z / 2 ^ b = 2 * (i * 2 ^ z / 2 ^ (b + 1)) := by
   have e2 : i * 2 ^ z = i * 2 ^ (z - (b + 1)) * 2 ^ (b + 1) := by rw [Nat.mul_assoc, ← Nat.pow_add, Nat.sub_add_cancel hb1]
   have e3 : i * 2 ^ z = 2 * (i * 2 ^ (z - (b + 1))) * 2 ^ b := by rw [e2, Nat.pow_succ]; ac_rfl
   rw [e2, Nat.mul_div_cancel _ (Nat.two_pow_pos _), ← e2, e3, Nat.mul_div_cancel _ (Nat.two_pow_pos _)]
  have hidx : (i * 2 ^ z + m) / 2 ^ (b + 1) = i * 2 ^ z / 2 ^ (b + 1) + q / 2 := by
   rw [Nat.pow_succ, ← Nat.div_div_eq_div_mul, hdv, hev]
   rw [Nat.pow_succ]; omega
  have hsm := Nat.div_le_self (i * 2 ^ z + m) (2 ^ (b + 1))
  have hT := av5 (fkW n sh pub sec a) (i * 2 ^ z) f b q hq
  generalize hS : stk (fkW n sh pub sec a) (i * 2 ^ z) f (b + 1) (q / 2) = T0 at hT hlen
  have hl1 : (stk (fkW n sh pub sec a) (i * 2 ^ z) (f + 1) b q).length = T0.length + 1 := by rw [hT]; simp
  have hhs : hs (stk (fkW n sh pub sec a) (i * 2 ^ z) (f + 1) b q) = hs T0 ++ [(b : Int)] := by rw [hT, azy]; rfl
  have hns : ns (stk (fkW n sh pub sec a) (i * 2 ^ z) (f + 1) b q) = ns T0 ++ [fkW n sh pub sec a b (i * 2 ^ z / 2 ^ b + (q - 1))] := by rw [hT, bfb]; rfl
  simp only [P.aco, hl1, hhs, hns]
  rw [show ((T0.length + 1 : Nat) : Int) - 1 = (T0.length : Int) by omega, yh (x := (T0.length : Int)) (by omega) (by omega), toNat_cast, anx _ _ _ (axm T0), anx _ _ _ (azl T0), show (b : Int) + 1 = ((b + 1 : Nat) : Int) by omega, yh (x := ((b + 1 : Nat) : Int)) (by omega) (by omega), toNat_cast, fdiv_pow _ _ _ (by omega), hidx]
  rw [bf (by omega), bf (by omega), bf (by omega), fu rfl, dz (by omega), bf (by omega), bf (by omega)]
  have hfl : [fkW n sh pub sec a b (i * 2 ^ z / 2 ^ b + (q - 1)), fkW n sh pub sec a b (i * 2 ^ z / 2 ^ b + q)].flatten = fkW n sh pub sec a b (2 * (i * 2 ^ z / 2 ^ (b + 1) + q / 2)) ++ fkW n sh pub sec a b (2 * (i * 2 ^ z / 2 ^ (b + 1) + q / 2) + 1) := by
   rw [hev, show 2 * (i * 2 ^ z / 2 ^ (b + 1)) + (q - 1) = 2 * (i * 2 ^ z / 2 ^ (b + 1) + q / 2) by omega, show 2 * (i * 2 ^ z / 2 ^ (b + 1)) + q = 2 * (i * 2 ^ z / 2 ^ (b + 1) + q / 2) + 1 by omega]
   simp
  rw [aix hf sh hp np la ha (b + 1) _ (by omega) (by omega) _ (by simp) (by rw [hfl]; exact (ayg _ _ _ _ _ _ _).app (ayg _ _ _ _ _ _ _)) (by rw [hfl, List.length_append, al7 hn, al7 hn]; omega), hfl, bf (by omega), bf (by omega), Nat.min_eq_left (by omega), List.take_left' (axm T0), List.take_left' (azl T0)]
  refine hnx _ ⟨f, b + 1, q / 2, by omega, by rw [hst, bk8 _ _ _ _ _ hq], hidx, ?_, ?_⟩ (by simp only [hl1]; omega)
  ·have : (q / 2 + 1) * 2 ^ (b + 1) = (2 * (q / 2) + 2) * 2 ^ b := by rw [Nat.pow_succ, Nat.mul_comm (2 ^ b) 2, ← Nat.mul_assoc]; congr 1; omega
   rw [this, show 2 * (q / 2) + 2 = q + 1 by omega]
   exact hle
  ·rw [hS]
   rfl
 ·-- nothing of this height
  have hT := arw (fkW n sh pub sec a) (i * 2 ^ z) f b q (by omega)
  have hP := bg9 (fkW n sh pub sec a) (i * 2 ^ z) f b q (by omega)
  have hge := bfc (fkW n sh pub sec a) (i * 2 ^ z) f (b + 1) (q / 2)
  rw [hT]
  generalize hS : stk (fkW n sh pub sec a) (i * 2 ^ z) f (b + 1) (q / 2) = T0 at hP hge hlen
  have hfin := hk T0 b (fkW n sh pub sec a b (i * 2 ^ z / 2 ^ b + q)) (by rw [hst, hP])
  simp only [P.aco]
  by_cases h0 : T0.length = 0
  ·rw [dz (by omega)]
   exact hfin
  ·have hlast : ∃ T1 x, T0 = T1 ++ [x] := by
     have hne : T0 ≠ [] := by intro e; rw [e] at h0; exact h0 rfl
     exact ⟨T0.dropLast, T0.getLast hne, (List.dropLast_concat_getLast hne).symm⟩
   obtain ⟨T1, x, rfl⟩ := hlast
   have hx := hge x (by simp)
   have hl1 : (T1 ++ [x]).length = T1.length + 1 := by simp
   have hlk : (hs (T1 ++ [x])).getD T1.length 0 = (x.1 : Int) := by rw [azy]; exact anx _ _ _ (axm T1)
   rw [hl1] at hfin ⊢
   rw [show ((T1.length + 1 : Nat) : Int) - 1 = (T1.length : Int) by omega, yh (x := (T1.length : Int)) (by omega) (by omega), toNat_cast, hlk, bf (by omega), bf (by omega), bf (by omega), iw (by omega)]
   exact hfin
theorem atg {n : Nat} {H D A K : Int} (hf : afo n H D A K) (sh : Bool) {sec pub a : List Int} (hsec : In 256 sec) (lsec : sec.length = n) (hp : In 256 pub) (np : pub.length = n) (la : a.length = 32) (ha : In 256 a) (z i : Nat) (hz : z ≤ 14) (hb : (i + 1) * 2 ^ z ≤ 9223372036854775808) {ρ : Type} (k : List Int → Option ρ) : P.jc (n : Int) H D A K sh sec pub a (z : Int) (i : Int) k = k (fkW n sh pub sec a z i) := by
 have hn : n ≤ 32 := by unfold afo at hf; omega
 have e1 : (i + 1) * 2 ^ z = i * 2 ^ z + 2 ^ z := by rw [Nat.add_mul, Nat.one_mul]
 have h1 : 1 ≤ 2 ^ z := Nat.two_pow_pos z
 have h2 : i + 1 ≤ (i + 1) * 2 ^ z := Nat.le_mul_of_pos_right _ h1
 rw [P.afv]; unfold P.abx
 rw [dz (by omega), toNat_cast, axb i z (by omega) (by omega), P.ah8]; unfold P.af0 P.bl3 P.blq P.bqt
 refine ac3 (fun j => ((z : Int), (i : Int), ((i * 2 ^ z + j : Nat) : Int), (stk (fkW n sh pub sec a) (i * 2 ^ z) 64 0 j).length, hs (stk (fkW n sh pub sec a) (i * 2 ^ z) 64 0 j), ns (stk (fkW n sh pub sec a) (i * 2 ^ z) 64 0 j), (n : Int), H, D, A, K, sh, sec, pub, a)) (2 ^ z) (by rw [be0]; rfl) (fun j hj next hnx => ?_) (fun next => ?_) (by have : 2 ^ z ≤ 2 ^ 14 := Nat.pow_le_pow_right (by omega) hz; omega)
 ·simp only [P.acg, toNat_cast]
  rw [dz (by omega), show (i : Int) + 1 = ((i + 1 : Nat) : Int) by omega, apn (i + 1) (by omega), axb (i + 1) z (by omega) (by omega), bf (by omega), as9 hf sh hp np la ha hsec lsec _ (by omega)]
  have hfl : [lfF n sh pub sec a (i * 2 ^ z + j)].flatten = lfF n sh pub sec a (i * 2 ^ z + j) := by simp
  rw [show ∀ (x : Int) (l : List (List Int)) (kk : List Int → Option ρ), P.ig (n : Int) H D A K sh sec pub a 0 x l kk = P.ig (n : Int) H D A K sh sec pub a ((0 : Nat) : Int) x l kk from fun _ _ _ => rfl,
   aix hf sh hp np la ha 0 _ (by omega) (by omega) _ (by simp) (by rw [hfl]; exact bff _ _ _ _ _ _) (by rw [hfl, amb hn]; omega), hfl]
  refine bgr hf sh hsec lsec hp np la ha z i j hz hb hj _ _ (fun T b y hT => ?_)
  have hl := aro (fkW n sh pub sec a) (i * 2 ^ z) 64 0 (j + 1)
  rw [← hT] at hl
  have hl1 : (T ++ [(b, y)]).length = T.length + 1 := by simp
  rw [bf (by omega), bam _ _ (axm T), bam _ _ (azl T), show ((i * 2 ^ z + j : Nat) : Int) + 1 = ((i * 2 ^ z + (j + 1) : Nat) : Int) by omega, apn _ (by omega)]
  rw [← hT, hl1, azy, bfb] at hnx
  exact hnx
 ·simp only [P.acg, toNat_cast]
  rw [dz (by omega), show (i : Int) + 1 = ((i + 1 : Nat) : Int) by omega, apn (i + 1) (by omega), axb (i + 1) z (by omega) (by omega), dz (by omega), aw5 _ _ _ _ _ (by omega), Nat.zero_add, Nat.mul_div_cancel _ h1, bf (by simp)]
  rfl
end Q
end

section
/- fors: knots and keys, by the program and by the document. -/
namespace Q
open QK
open Go Go.Abs
set_option linter.unusedVariables false
set_option linter.unusedSimpArgs false
theorem jh {n : Nat} {H D A K : Int} (hf : afo n H D A K) (sh : Bool) (sec pub a : List Int) {ρ : Type} (k : Int → Int → Int → Int → Int → Bool → List Int → List Int → List Int → Bool → Option ρ) : P.jh (n : Int) H D A K sh sec pub a k = k n H D A K sh sec pub a (decide (sec.length = n ∧ pub.length = n)) := by
 rw [P.aip]; unfold P.ad8
 rw [og, decide_eq_true hf, aa7]
 by_cases h1 : sec.length = n
 ·rw [fu (by omega)]
  by_cases h2 : pub.length = n
  ·rw [decide_eq_true ⟨h1, h2⟩, h2]; simp
  ·rw [decide_eq_false (fun h => h2 h.2)]
   congr 1
   have : (pub.length : Int) ≠ (n : Int) := by omega
   simpa using this
 ·rw [iw (by omega), decide_eq_false (fun h => h1 h.1)]
def szF (n A K : Nat) : Nat := K * (n * (A + 1))
def txF (A K : Nat) : Nat := (K * A + 7) / 8
theorem ayi {n A K : Nat} (hn : n ≤ 32) (hA : A ≤ 14) (hK : K ≤ 40) : IntKind.i64.wrap (IntKind.i64.wrap ((n : Int) * (K : Int)) * IntKind.i64.wrap ((A : Int) + (1 : Int))) = ((szF n A K : Nat) : Int) ∧ IntKind.i64.wrap ((IntKind.i64.wrap (IntKind.i64.wrap ((K : Int) * (A : Int)) + (7 : Int))).tdiv (8 : Int)) = ((txF A K : Nat) : Int) := by
 have h1 : n * K ≤ 32 * 40 := Nat.mul_le_mul hn hK
 have h2 : n * K * (A + 1) ≤ 32 * 40 * 15 := Nat.mul_le_mul h1 (by omega)
 have h3 : K * A ≤ 40 * 14 := Nat.mul_le_mul hK hA
 constructor
 ·rw [show (n : Int) * (K : Int) = ((n * K : Nat) : Int) by rw [Int.natCast_mul], yh (x := ((n * K : Nat) : Int)) (by omega) (by omega), yh (x := (A : Int) + 1) (by omega) (by omega), show (A : Int) + 1 = ((A + 1 : Nat) : Int) by omega, ← Int.natCast_mul, yh (by omega) (by omega)]
  congr 1
  unfold szF
  rw [Nat.mul_comm n K, Nat.mul_assoc]
 ·rw [show (K : Int) * (A : Int) = ((K * A : Nat) : Int) by rw [Int.natCast_mul], yh (x := ((K * A : Nat) : Int)) (by omega) (by omega), yh (x := ((K * A : Nat) : Int) + 7) (by omega) (by omega), Int.tdiv_eq_ediv_of_nonneg (by omega), yh (by omega) (by omega)]
  unfold txF
  omega
theorem gq {n A K : Nat} {H D : Int} (hf : afo n H D A K) (sh : Bool) {ρ : Type} (k : Int → Int → Option ρ) : P.gq (n : Int) H D A K sh k = k (szF n A K : Nat) (txF A K : Nat) := by
 have hq := hf
 unfold afo at hq
 obtain ⟨e1, e2⟩ := ayi (n := n) (A := A) (K := K) (by omega) (by omega) (by omega)
 rw [P.am4]; unfold P.ahh
 rw [og, decide_eq_true hf, w9, aa7, e1, e2]
theorem bfi {A K z i : Nat} (hA : A ≤ 14) (hK : K ≤ 40) (hz : z ≤ A) (hi : i < K * 2 ^ (A - z)) : (i + 1) * 2 ^ z ≤ 655360 := by
 have h1 : (i + 1) * 2 ^ z ≤ K * 2 ^ (A - z) * 2 ^ z := Nat.mul_le_mul hi (Nat.le_refl _)
 rw [Nat.mul_assoc, ← Nat.pow_add, Nat.sub_add_cancel hz] at h1
 have h2 : 2 ^ A ≤ 2 ^ 14 := Nat.pow_le_pow_right (by omega) hA
 have := Nat.mul_le_mul hK h2
 omega
theorem uw {n A K : Nat} {H D : Int} (hf : afo n H D A K) (sh : Bool) {sec pub a : List Int} (hsec : In 256 sec) (lsec : sec.length = n) (hp : In 256 pub) (np : pub.length = n) (la : a.length = 32) (ha : In 256 a) {ρ : Type} (k : List Int → Option ρ) : P.uw (n : Int) H D A K sh sec pub a k = k (kyF n sh pub a (cat (fkW n sh pub sec a A) K)) := by
 have hq := hf
 unfold afo at hq
 have hn : n ≤ 32 := by omega
 have hl := ahd (T := fkW n sh pub sec a A) (fun i => al7 hn sh pub sec a A i)
 rw [P.ajq]; unfold P.afj
 rw [jh hf, decide_eq_true ⟨lsec, np⟩, w9, aa7, P.ama]; unfold P.ajm P.bmn P.blm P.bnh
 refine ac3 (fun j => ((K : Int), (j : Int), cat (fkW n sh pub sec a A) j, (n : Int), H, D, (A : Int), (K : Int), sh, (n : Int), H, D, (A : Int), (K : Int), sh, sec, pub, a)) K rfl (fun j hj next hnx => ?_) (fun next => ?_) (by omega)
 ·have hb := bfi (A := A) (K := K) (z := A) (i := j) (by omega) (by omega) (Nat.le_refl _) (by rw [Nat.sub_self]; omega)
  have hm : j * n ≤ 40 * 32 := Nat.mul_le_mul (by omega) hn
  simp only [P.agh]
  rw [bf (by omega), apn j (by omega), atg hf sh hsec lsec hp np la ha A j (by omega) (by omega), bf (by rw [hl, al7 hn]; omega), yh (by omega) (by omega)]
  exact hnx
 ·have hm : K * n ≤ 40 * 32 := Nat.mul_le_mul (by omega) hn
  simp only [P.agh]
  rw [dz (by omega), awx hf sh hp np la ha _ (ato (fun i => ayg _ _ _ _ _ _ _) _) (by rw [hl]; omega)]
end Q
end

section
/- fors: the chapter's examples; what is few and light. -/
namespace Q
open QK
open Go Go.Abs
set_option linter.unusedVariables false
set_option linter.unusedSimpArgs false
theorem bnf : afo ((16 : Nat) : Int) 2 1 ((2 : Nat) : Int) ((3 : Nat) : Int) := by decide
theorem aaq {ρ : Type} (k : Bool → Option ρ) : P.aaq k = k true := by
 rw [P.amx]; unfold P.ahj
 rw [show P.gq (ρ := ρ) 16 2 1 2 3 false = P.gq ((16 : Nat) : Int) 2 1 ((2 : Nat) : Int) ((3 : Nat) : Int) false from rfl, gq bnf, fu (show ((szF 16 2 3 : Nat) : Int) = 144 from rfl), fu (show ((txF 2 3 : Nat) : Int) = 1 from rfl), P.aio]
 unfold P.aes
 rw [show P.jh (ρ := ρ) 16 2 1 2 3 false = P.jh ((16 : Nat) : Int) 2 1 ((2 : Nat) : Int) ((3 : Nat) : Int) false from rfl, jh bnf, show P.gq (ρ := ρ) 16 2 1 2 3 false = P.gq ((16 : Nat) : Int) 2 1 ((2 : Nat) : Int) ((3 : Nat) : Int) false from rfl, gq bnf, decide_eq_true (by simp), w9, aa7, ku (by decide)]
 rfl
end Q
end

section
/- fors: signatures and what they lead to, by the program and by the document. -/
namespace Q
open QK
open Go Go.Abs
set_option linter.unusedVariables false
set_option linter.unusedSimpArgs false
def dF (A : Nat) (t : List Int) (k : Nat) : Nat := T 8 t.reverse / 2 ^ (8 * t.length - A * (k + 1)) % 2 ^ A
def ixF (A : Nat) (t : List Int) (k : Nat) : Nat := k * 2 ^ A + dF A t k
theorem bfy (A : Nat) (t : List Int) (k : Nat) : dF A t k < 2 ^ A := Nat.mod_lt _ (Nat.two_pow_pos A)
theorem bfk {A K k : Nat} (t : List Int) (hk : k < K) : ixF A t k < K * 2 ^ A := by
 have h1 := bfy A t k
 have h2 : (k + 1) * 2 ^ A ≤ K * 2 ^ A := Nat.mul_le_mul hk (Nat.le_refl _)
 rw [Nat.add_mul, Nat.one_mul] at h2
 unfold ixF; omega
theorem bf0 (A : Nat) (t : List Int) (k : Nat) : ixF A t k / 2 ^ A = k := by
 unfold ixF
 rw [Nat.mul_comm, Nat.mul_add_div (Nat.two_pow_pos A), Nat.div_eq_of_lt (bfy A t k), Nat.add_zero]
theorem axi {A K : Nat} (t : List Int) (h1 : 1 ≤ A) (h2 : A ≤ 14) (ht : t.length = txF A K) : (ae8 t (A : Int) (K : Int)).length = K ∧ ∀ k, k < K → (ae8 t (A : Int) (K : Int)).getD k 0 = ((dF A t k : Nat) : Int) := by
 rw [ayw t A K h1 (by omega) (by unfold txF at ht; omega)]
 refine ⟨by simp, fun k hk => ?_⟩
 rw [List.getD_eq_getElem?_getD, List.getElem?_map, List.getElem?_range hk]
 rfl
theorem bj7 {A : Nat} (t : List Int) (k : Nat) (hb : ixF A t k < 18446744073709551616) (hA : A ≤ 64) : bits .or .u64 (IntKind.u64.wrap (IntKind.u64.wrap (k : Int) * (2 : Int) ^ min A 64)) (IntKind.u64.wrap ((dF A t k : Nat) : Int)) = ((ixF A t k : Nat) : Int) := by
 have h1 : k * 2 ^ A ≤ ixF A t k := Nat.le_add_right _ _
 have h2 : k ≤ k * 2 ^ A := Nat.le_mul_of_pos_right _ (Nat.two_pow_pos A)
 have h3 : dF A t k ≤ ixF A t k := Nat.le_add_left _ _
 rw [apn k (by omega), axb k A hA (by omega), apn _ (by omega), bbu _ _ (by omega) (by omega)]
 congr 1
 unfold ixF
 rw [Nat.mul_comm k (2 ^ A), Nat.two_pow_add_eq_or_of_lt (bfy A t k)]
def auF (n : Nat) (sh : Bool) (pub sec a : List Int) (i z : Nat) : List Int := fkW n sh pub sec a z ((i / 2 ^ z) ^^^ 1)
def sgF (n : Nat) (sh : Bool) (pub sec a : List Int) (A : Nat) (t : List Int) (k : Nat) : List Int := lfF n sh pub sec a (ixF A t k) ++ cat (auF n sh pub sec a (ixF A t k)) A
theorem ars {n : Nat} (hn : n ≤ 32) (sh : Bool) (pub sec a : List Int) (i z : Nat) : (auF n sh pub sec a i z).length = n := al7 hn _ _ _ _ _ _
theorem bjh (n : Nat) (sh : Bool) (pub sec a : List Int) (i z : Nat) : In 256 (auF n sh pub sec a i z) := ayg _ _ _ _ _ _ _
theorem av8 {n : Nat} (hn : n ≤ 32) (sh : Bool) (pub sec a : List Int) (A : Nat) (t : List Int) (k : Nat) : (sgF n sh pub sec a A t k).length = n * (A + 1) := by
 unfold sgF
 rw [List.length_append, amb hn, ahd (ars hn sh pub sec a _), Nat.mul_add, Nat.mul_one, Nat.mul_comm A n, Nat.add_comm]
theorem bk4 (n : Nat) (sh : Bool) (pub sec a : List Int) (A : Nat) (t : List Int) (k : Nat) : In 256 (sgF n sh pub sec a A t k) := (bff _ _ _ _ _ _).app (ato (bjh n sh pub sec a _) _)
theorem bpv {A K i z : Nat} (hi : i < K * 2 ^ A) (hz : z < A) : (i / 2 ^ z) ^^^ 1 < K * 2 ^ (A - z) := by
 have h1 : i / 2 ^ z < K * 2 ^ (A - z) := by
  rw [Nat.div_lt_iff_lt_mul (Nat.two_pow_pos z), Nat.mul_assoc, ← Nat.pow_add, Nat.sub_add_cancel (by omega)]
  exact hi
 have h2 : K * 2 ^ (A - z) = 2 * (K * 2 ^ (A - (z + 1))) := by rw [show A - z = A - (z + 1) + 1 by omega, Nat.pow_succ, ← Nat.mul_assoc, Nat.mul_comm]
 rw [br8]
 generalize i / 2 ^ z = x at h1 ⊢
 generalize K * 2 ^ (A - (z + 1)) = e at h2
 split <;> omega
def upF (n : Nat) (sh : Bool) (pub a : List Int) (i : Nat) (part : List Int) : Nat → List Int
 | 0 => ovF n sh pub a 0 i (part.take n)
 | z + 1 => ovF n sh pub a (z + 1) (i / 2 ^ (z + 1)) (if i / 2 ^ z % 2 = 1 then (part.drop ((z + 1) * n)).take n ++ upF n sh pub a i part z else upF n sh pub a i part z ++ (part.drop ((z + 1) * n)).take n)
theorem avo {n : Nat} (hn : n ≤ 32) (sh : Bool) (pub a : List Int) (i : Nat) (part : List Int) : ∀ z, (upF n sh pub a i part z).length = n
 | 0 => ai6 hn _ _ _ _
 | z + 1 => ai6 hn _ _ _ _
theorem bfo (n : Nat) (sh : Bool) (pub a : List Int) (i : Nat) (part : List Int) : ∀ z, In 256 (upF n sh pub a i part z)
 | 0 => an4 _ _ _ _ _
 | z + 1 => an4 _ _ _ _ _
def ptF (n A : Nat) (sig : List Int) (k : Nat) : List Int := sig.drop (k * (n * (A + 1)))
def cdF (n : Nat) (sh : Bool) (pub a : List Int) (A : Nat) (t sig : List Int) (k : Nat) : List Int := upF n sh pub a (ixF A t k) (ptF n A sig k) A
theorem wu {n A K : Nat} {H D : Int} (hf : afo n H D A K) (sh : Bool) {sec pub a : List Int} (hsec : In 256 sec) (lsec : sec.length = n) (hp : In 256 pub) (np : pub.length = n) (la : a.length = 32) (ha : In 256 a) (t : List Int) (ht : In 256 t) (lt : t.length = txF A K) {ρ : Type} (k : List Int → Option ρ) : P.wu (n : Int) H D A K sh t sec pub a k = k (cat (sgF n sh pub sec a A t) K) := by
 have hq := hf
 unfold afo at hq
 have hn : n ≤ 32 := by omega
 have hA : A ≤ 14 := by omega
 have hK : K ≤ 40 := by omega
 have h3 : K * A ≤ 40 * 14 := Nat.mul_le_mul hK hA
 have hpw : K * 2 ^ A ≤ 655360 := by
  have h1 : 2 ^ A ≤ 2 ^ 14 := Nat.pow_le_pow_right (by omega) hA
  have := Nat.mul_le_mul hK h1
  omega
 have htx : txF A K ≤ 100 := by unfold txF; omega
 obtain ⟨d1, d2⟩ := axi (A := A) (K := K) t (by omega) hA lt
 have hl := ahd (av8 hn sh pub sec a A t)
 have hsz : n * (A + 1) ≤ 32 * 15 := Nat.mul_le_mul hn (by omega)
 rw [P.aio]; unfold P.aes
 rw [jh hf, gq hf, decide_eq_true ⟨lsec, np⟩, w9, aa7, ji (by omega), jk t A K ht (by omega), d1, P.amm]; unfold P.ajr P.bl9 P.bkz P.bp9
 refine ac3 (fun j => ((K : Int), (j : Int), cat (sgF n sh pub sec a A t) j, (n : Int), H, D, (A : Int), (K : Int), sh, (n : Int), H, D, (A : Int), (K : Int), sh, sec, pub, a, (n : Int), H, D, (A : Int), (K : Int), sh, sec, pub, a, ae8 t (A : Int) (K : Int))) K rfl (fun j hj next hnx => ?_) (fun next => ?_) (by omega)
 ·have hix := bfk (A := A) t hj
  have hm : j * (n * (A + 1)) ≤ 40 * (32 * 15) := Nat.mul_le_mul (by omega) hsz
  simp only [P.aga, d1, toNat_cast]
  rw [bf (by omega), bf (by omega), bf (by omega), dz (by omega), d2 j hj, bj7 t j (by omega) (by omega), as9 hf sh hp np la ha hsec lsec _ (by omega), bf (by rw [hl, amb hn]; omega), P.ala]
  unfold P.ais P.bmq P.bio P.bm3
  refine ac3 (fun z => (((ixF A t j : Nat) : Int), (A : Int), (z : Int), cat (sgF n sh pub sec a A t) j ++ lfF n sh pub sec a (ixF A t j) ++ cat (auF n sh pub sec a (ixF A t j)) z, (n : Int), H, D, (A : Int), (K : Int), sh, (n : Int), H, D, (A : Int), (K : Int), sh, sec, pub, a, (n : Int), H, D, (A : Int), (K : Int), sh, sec, pub, a, ae8 t (A : Int) (K : Int))) A (by simp [cat]) (fun z hz next2 hnx2 => ?_) (fun next2 => ?_) (by omega)
  ·have hau := bpv hix hz
   have hkb := bfi (A := A) (K := K) (z := z) hA hK (by omega) hau
   have hdl := Nat.div_le_self (ixF A t j) (2 ^ z)
   have l2 := ahd (ars hn sh pub sec a (ixF A t j)) z
   have hm2 : z * n ≤ 14 * 32 := Nat.mul_le_mul (by omega) hn
   simp only [P.ae1, toNat_cast]
   rw [bf (by omega), dz (by omega), fdiv_pow _ _ _ (by omega), show (1 : Int) = ((1 : Nat) : Int) from rfl, bgu _ _ (by omega) (by omega), atg hf sh hsec lsec hp np la ha z _ (by omega) (by omega), bf (by rw [List.length_append, List.length_append, hl, amb hn, l2, al7 hn]; omega), yh (by omega) (by omega), List.append_assoc _ (cat _ z)]
   exact hnx2
  ·simp only [P.ae1]
   rw [dz (by omega), yh (by omega) (by omega)]
   rw [cat, sgF, ← List.append_assoc] at hnx
   exact hnx
 ·simp only [P.aga]
  rw [dz (by omega)]
theorem bhs {n A K : Nat} {H D : Int} (hf : afo n H D A K) (sh : Bool) {pub a : List Int} (hp : In 256 pub) (np : pub.length = n) (la : a.length = 32) (ha : In 256 a) (sec : List Int) (i : Nat) (hi : i < 18446744073709551616) (part : List Int) (ip : In 256 part) (lp' : (A + 1) * n ≤ part.length) (lb : part.length ≤ 1000000) {ρ : Type} (k : List Int → Option ρ) : P.ng (n : Int) H D A K sh sec pub a (i : Int) part k = k (upF n sh pub a i part A) := by
 have hq := hf
 unfold afo at hq
 have hn : n ≤ 32 := by omega
 have hA : A ≤ 14 := by omega
 have hsp : n ≤ (A + 1) * n := Nat.le_mul_of_pos_left _ (by omega)
 have hf1 : [part.take n].flatten = part.take n := by simp
 have ht1 : (part.take n).length = n := by rw [List.length_take]; omega
 rw [P.ahl]; unfold P.ac0
 rw [bf (by omega), bf (by omega), toNat_cast, List.drop_zero, show ∀ (x : Int) (l : List (List Int)) (kk : List Int → Option ρ), P.ig (n : Int) H D A K sh sec pub a 0 x l kk = P.ig (n : Int) H D A K sh sec pub a ((0 : Nat) : Int) x l kk from fun _ _ _ => rfl,
  aix hf sh hp np la ha 0 i (by omega) hi _ (by simp) (by rw [hf1]; exact ip.take n) (by rw [hf1]; omega), hf1, P.aj7]
 unfold P.aht P.bmx P.bi9 P.bq6
 refine ac3 (fun z => ((i : Int), part.drop (z * n), upF n sh pub a i part z, (A : Int), (z : Int), (n : Int), H, D, (A : Int), (K : Int), sh, sec, pub, a)) A (by simp [upF]) (fun z hz next hnx => ?_) (fun next => ?_) (by omega)
 ·have hd := Nat.div_le_self i (2 ^ z)
  have hd2 := Nat.div_le_self i (2 ^ (z + 1))
  have hz2 : (z + 2) * n ≤ (A + 1) * n := Nat.mul_le_mul (by omega) (Nat.le_refl _)
  have e2 : (z + 2) * n = z * n + n + n := by rw [Nat.add_mul]; omega
  have e1 : (z + 1) * n = z * n + n := by rw [Nat.add_mul, Nat.one_mul]
  have hl0 : (part.drop (z * n)).length = part.length - z * n := List.length_drop
  have hdd : (part.drop (z * n)).drop n = part.drop ((z + 1) * n) := by rw [List.drop_drop, e1]
  have hl1 : (part.drop ((z + 1) * n)).length = part.length - (z + 1) * n := List.length_drop
  have lu := avo hn sh pub a i part z
  have iu := bfo n sh pub a i part z
  have is' : In 256 ((part.drop ((z + 1) * n)).take n) := (ip.drop _).take _
  have ls' : ((part.drop ((z + 1) * n)).take n).length ≤ n := by rw [List.length_take]; omega
  simp only [P.aed, toNat_cast, List.take_length, List.drop_zero, hdd]
  rw [bf (by omega), bf (by omega), bf (by omega), bf (by omega), bf (by omega), bf (by omega), dz (by omega), yh (x := (z : Int) + 1) (by omega) (by omega), show (z : Int) + 1 = ((z + 1 : Nat) : Int) by omega, dz (by omega), toNat_cast, fdiv_pow _ _ _ (by omega), fdiv_pow _ _ _ (by omega), show (1 : Int) = ((1 : Nat) : Int) from rfl, azv _ _ (by omega) (by omega), Nat.and_one_is_mod]
  rw [upF] at hnx
  by_cases hb : i / 2 ^ z % 2 = 1
  ·rw [if_pos hb] at hnx
   have hfl : [(part.drop ((z + 1) * n)).take n, upF n sh pub a i part z].flatten = (part.drop ((z + 1) * n)).take n ++ upF n sh pub a i part z := by simp
   rw [hb, fu rfl, aix hf sh hp np la ha (z + 1) _ (by omega) (by omega) _ (by simp) (by rw [hfl]; exact is'.app iu) (by rw [hfl, List.length_append]; omega), hfl]
   exact hnx
  ·rw [if_neg hb] at hnx
   have hfl : [upF n sh pub a i part z, (part.drop ((z + 1) * n)).take n].flatten = upF n sh pub a i part z ++ (part.drop ((z + 1) * n)).take n := by simp
   rw [show i / 2 ^ z % 2 = 0 by omega, iw (by omega), dz (by omega), aix hf sh hp np la ha (z + 1) _ (by omega) (by omega) _ (by simp) (by rw [hfl]; exact iu.app is') (by rw [hfl, List.length_append]; omega), hfl]
   exact hnx
 ·simp only [P.aed]
  rw [dz (by omega)]
theorem p9 {n A K : Nat} {H D : Int} (hf : afo n H D A K) (sh : Bool) {pub a : List Int} (hp : In 256 pub) (np : pub.length = n) (la : a.length = 32) (ha : In 256 a) (t sig : List Int) (ht : In 256 t) (lt : t.length = txF A K) (hsig : In 256 sig) (lsig : sig.length = szF n A K) {ρ : Type} (k : List Int → Option ρ) : P.p9 (n : Int) H D A K sh sig t pub a k = k (kyF n sh pub a (cat (cdF n sh pub a A t sig) K)) := by
 have hq := hf
 unfold afo at hq
 have hn : n ≤ 32 := by omega
 have hA : A ≤ 14 := by omega
 have hK : K ≤ 40 := by omega
 have h3 : K * A ≤ 40 * 14 := Nat.mul_le_mul hK hA
 have hpw : K * 2 ^ A ≤ 655360 := by
  have h1 : 2 ^ A ≤ 2 ^ 14 := Nat.pow_le_pow_right (by omega) hA
  have := Nat.mul_le_mul hK h1
  omega
 have htx : txF A K ≤ 100 := by unfold txF; omega
 obtain ⟨d1, d2⟩ := axi (A := A) (K := K) t (by omega) hA lt
 have hl := ahd (T := cdF n sh pub a A t sig) (fun i => avo hn sh pub a _ _ _)
 have hsz : n * (A + 1) ≤ 32 * 15 := Nat.mul_le_mul hn (by omega)
 have eN : IntKind.i64.wrap ((n : Int) * IntKind.i64.wrap ((A : Int) + 1)) = ((n * (A + 1) : Nat) : Int) := by
  rw [yh (x := (A : Int) + 1) (by omega) (by omega), show (A : Int) + 1 = ((A + 1 : Nat) : Int) by omega, ← Int.natCast_mul, yh (by omega) (by omega)]
 unfold szF at lsig
 rw [P.agz]; unfold P.ab9
 rw [gq hf, og, decide_eq_true hf, w9, aa7, ji (by omega), ji (by omega), ji (by unfold szF; omega), jk t A K ht (by omega), d1, P.ah2]; unfold P.aff P.bmr P.bk6 P.brb
 refine ac3 (fun j => ((K : Int), (j : Int), cat (cdF n sh pub a A t sig) j, (n : Int), H, D, (A : Int), (K : Int), sh, ptF n A sig j, (n : Int), H, D, (A : Int), (K : Int), sh, pub, a, (n : Int), H, D, (A : Int), (K : Int), sh, pub, a, ae8 t (A : Int) (K : Int))) K (by simp [cat, ptF]) (fun j hj next hnx => ?_) (fun next => ?_) (by omega)
 ·have hix := bfk (A := A) t hj
  have hm : j * n ≤ 40 * 32 := Nat.mul_le_mul (by omega) hn
  have hj1 : (j + 1) * (n * (A + 1)) ≤ K * (n * (A + 1)) := Nat.mul_le_mul hj (Nat.le_refl _)
  have e1 : (j + 1) * (n * (A + 1)) = j * (n * (A + 1)) + n * (A + 1) := by rw [Nat.add_mul, Nat.one_mul]
  have hKs : K * (n * (A + 1)) ≤ 40 * (32 * 15) := Nat.mul_le_mul hK hsz
  have hpl : (ptF n A sig j).length = sig.length - j * (n * (A + 1)) := List.length_drop
  have hpn : (ptF n A sig j).drop (n * (A + 1)) = ptF n A sig (j + 1) := by unfold ptF; rw [List.drop_drop, e1]
  simp only [P.aby, d1, toNat_cast, eN, List.take_length, hpn]
  rw [bf (by omega), bf (by omega), bf (by omega), dz (by omega), d2 j hj, bj7 t j (by omega) (by omega), bhs hf sh hp np la ha [] _ (by omega) _ (show In 256 (ptF n A sig j) from hsig.drop _) (by rw [hpl, Nat.mul_comm]; omega) (by rw [hpl]; omega), bf (by rw [hl, avo hn]; omega), bf (by omega), bf (by omega), bf (by omega), yh (by omega) (by omega)]
  exact hnx
 ·have hm : K * n ≤ 40 * 32 := Nat.mul_le_mul (by omega) hn
  simp only [P.aby]
  rw [dz (by omega), awx hf sh hp np la ha _ (ato (T := cdF n sh pub a A t sig) (fun i => bfo _ _ _ _ _ _ _) _) (by rw [hl]; omega)]
end Q
end

section
/- fors: what any signature is; what is signed leads to the tops. -/
namespace Q
open QK
open Go Go.Abs
set_option linter.unusedVariables false
set_option linter.unusedSimpArgs false
theorem bk5 {n : Nat} (hn : n ≤ 32) (sh : Bool) (pub sec a : List Int) (A : Nat) (t : List Int) (j : Nat) (R : List Int) : ∀ z, z ≤ A → upF n sh pub a (ixF A t j) (sgF n sh pub sec a A t j ++ R) z = fkW n sh pub sec a z (ixF A t j / 2 ^ z)
 | 0, _ => by
  have hl := amb hn sh pub sec a (ixF A t j)
  rw [upF, sgF, List.append_assoc, List.take_append_of_le_length (by omega), List.take_of_length_le (by omega), Nat.pow_zero, Nat.div_one]
  rfl
 | z + 1, hz => by
  have hl := amb hn sh pub sec a (ixF A t j)
  have hc := ahd (ars hn sh pub sec a (ixF A t j)) A
  have hm : (z + 1) * n ≤ A * n := Nat.mul_le_mul (by omega) (Nat.le_refl _)
  have e1 : (z + 1) * n = z * n + n := by rw [Nat.add_mul, Nat.one_mul]
  have hside : ((sgF n sh pub sec a A t j ++ R).drop ((z + 1) * n)).take n = auF n sh pub sec a (ixF A t j) z := by
   rw [sgF, List.append_assoc, List.drop_append, List.drop_eq_nil_of_le (by omega), List.nil_append, hl, e1, Nat.add_sub_cancel, List.drop_append_of_le_length (by omega), List.take_append_of_le_length (by rw [List.length_drop]; omega), ar5 (ars hn sh pub sec a (ixF A t j)) z A (by omega)]
  have hx := br8 (ixF A t j / 2 ^ z)
  have hp : ixF A t j / 2 ^ (z + 1) = ixF A t j / 2 ^ z / 2 := by rw [Nat.pow_succ, Nat.div_div_eq_div_mul]
  rw [upF, bk5 hn sh pub sec a A t j R z (by omega), hside]
  unfold auF
  rw [hx, hp]
  generalize ixF A t j / 2 ^ z = m
  split
  ·rw [if_neg (by omega), show m - 1 = 2 * (m / 2) by omega]
   conv => lhs; rw [show m = 2 * (m / 2) + 1 by omega]
   rw [show (2 * (m / 2) + 1) / 2 = m / 2 by omega]
   rfl
  ·rw [if_pos (by omega), show m + 1 = 2 * (m / 2) + 1 by omega]
   conv => lhs; rw [show m = 2 * (m / 2) by omega]
   rw [show (2 * (m / 2)) / 2 = m / 2 by omega]
   rfl
theorem bon {n : Nat} (hn : n ≤ 32) (sh : Bool) (pub sec a : List Int) (A K : Nat) (t : List Int) : cat (cdF n sh pub a A t (cat (sgF n sh pub sec a A t) K)) K = cat (fkW n sh pub sec a A) K := by
 refine as4 K (fun j hj => ?_)
 have h := ar5 (av8 hn sh pub sec a A t) j K hj
 unfold cdF ptF
 have e : (cat (sgF n sh pub sec a A t) K).drop (j * (n * (A + 1))) = sgF n sh pub sec a A t j ++ ((cat (sgF n sh pub sec a A t) K).drop (j * (n * (A + 1)))).drop (n * (A + 1)) := by
  conv => lhs; rw [← List.take_append_drop (n * (A + 1)) ((cat (sgF n sh pub sec a A t) K).drop (j * (n * (A + 1))))]
  rw [h]
 rw [e, bk5 hn sh pub sec a A t j _ A (Nat.le_refl _), bf0]
end Q
end

section
/- The plain law of WotsRight. -/
namespace Q
open QK
open Go Go.Abs
set_option linter.unusedVariables false
set_option linter.unusedSimpArgs false
theorem bps (x0 : Int) (h : 0 ≤ x0) : ∃ n : Nat, IntKind.i64.wrap ((16 : Int) + IntKind.i64.wrap ((8 : Int) * IntKind.i64.wrap (x0.tmod (3 : Int)))) = (n : Int) ∧ N3 n := by
 rw [Int.tmod_eq_emod_of_nonneg h]
 have : x0 % 3 = 0 ∨ x0 % 3 = 1 ∨ x0 % 3 = 2 := by omega
 rcases this with e | e | e <;> rw [e]
 ·exact ⟨16, rfl, .inl rfl⟩
 ·exact ⟨24, rfl, .inr (.inl rfl)⟩
 ·exact ⟨32, rfl, .inr (.inr rfl)⟩
end Q
end

section
/- The plain law of ForsRight. -/
namespace Q
open QK
open Go Go.Abs
set_option linter.unusedVariables false
set_option linter.unusedSimpArgs false
theorem bsi (x : Int) (h : 0 ≤ x) : ∃ m : Nat, IntKind.i64.wrap ((1 : Int) + IntKind.i64.wrap (x.tmod (4 : Int))) = (m : Int) ∧ 1 ≤ m ∧ m ≤ 4 := by
 rw [Int.tmod_eq_emod_of_nonneg h]
 refine ⟨(1 + x % 4).toNat, ?_, by omega, by omega⟩
 rw [yh (x := x % 4) (by omega) (by omega), yh (by omega) (by omega)]
 omega
theorem ForsRight (x0 : Int) (x1 : Bool) (x2 : Int) (x3 : Int) (x4 : List Int) (x5 : List Int) (x6 : List Int) (x7 : List Int) (wx0 : wfI .u8 x0) (wx2 : wfI .u8 x2) (wx3 : wfI .u8 x3) (nx4 : x4.length = 32) (wx4 : ∀ x, x ∈ x4 → wfI .u8 x) (nx5 : x5.length = 32) (wx5 : ∀ x, x ∈ x5 → wfI .u8 x) (nx6 : x6.length = 32) (wx6 : ∀ x, x ∈ x6 → wfI .u8 x) (nx7 : x7.length = 8) (wx7 : ∀ x, x ∈ x7 → wfI .u8 x) {ρ : Type} (k : Bool → Option ρ) : P.uo x0 x1 x2 x3 x4 x5 x6 x7 k = k true := by
 have h4 := be3 wx4
 have h5 := be3 wx5
 have h6 := be3 wx6
 have h7 := be3 wx7
 have w0 := wf_u8 wx0
 have w2 := wf_u8 wx2
 have w3 := wf_u8 wx3
 obtain ⟨n, e, hn⟩ := bps x0 w0.1
 obtain ⟨A, eA, hA1, hA⟩ := bsi x2 w2.1
 obtain ⟨K, eK, hK1, hK⟩ := bsi x3 w3.1
 have hn2 : 16 ≤ n ∧ n ≤ 32 := by rcases hn with rfl | rfl | rfl <;> omega
 have hf : afo (n : Int) 2 1 A K := ⟨by rcases hn with rfl | rfl | rfl <;> decide, by decide, by decide, by decide, by decide, by decide, by omega, by omega, by omega, by omega⟩
 have hKA : K * A ≤ 4 * 4 := Nat.mul_le_mul hK hA
 have hKA1 : 1 ≤ K * A := Nat.mul_pos hK1 hA1
 have htx : 1 ≤ txF A K ∧ txF A K ≤ 8 := by unfold txF; omega
 have t5 : (x5.take n).length = n := by rw [List.length_take]; omega
 have t6 : (x6.take n).length = n := by rw [List.length_take]; omega
 have t7 : (x7.take (txF A K)).length = txF A K := by rw [List.length_take]; omega
 have i5 : In 256 (x5.take n) := h5.take n
 have i6 : In 256 (x6.take n) := h6.take n
 have i7 : In 256 (x7.take (txF A K)) := h7.take _
 have hsz : n * (A + 1) ≤ 32 * 5 := Nat.mul_le_mul hn2.2 (by omega)
 have hm2 : K * (n * (A + 1)) ≤ 4 * (32 * 5) := Nat.mul_le_mul hK hsz
 have lg := ahd (av8 hn2.2 x1 (x6.take n) (x5.take n) x4 A (x7.take (txF A K))) K
 have lc := bgh hn2.2 x1 (x6.take n) x4 (cat (fkW n x1 (x6.take n) (x5.take n) x4 A) K)
 rw [P.ahu]; unfold P.adl
 rw [e, eA, eK, gq hf]
 simp only [List.drop_zero, Int.sub_zero, toNat_cast]
 rw [dz (by omega), dz (by omega), bf (by omega), bf (by omega), bf (by omega), bf (by omega), bf (by omega), bf (by omega),
  wu hf x1 i5 t5 i6 t6 nx4 h4 _ i7 t7, bf (by omega), bf (by omega), bf (by omega), bf (by omega),
  p9 hf x1 i6 t6 nx4 h4 _ _ i7 t7 (ato (bk4 n x1 (x6.take n) (x5.take n) x4 A _) K) (by rw [lg]; rfl), bon hn2.2, fu (by rw [lg]; rfl), fu (by omega), bf (by omega), bf (by omega), bf (by omega), bf (by omega),
  uw hf x1 i5 t5 i6 t6 nx4 h4, ace _ _ (by omega), decide_eq_true rfl, aa7, aaq]
end Q
end
