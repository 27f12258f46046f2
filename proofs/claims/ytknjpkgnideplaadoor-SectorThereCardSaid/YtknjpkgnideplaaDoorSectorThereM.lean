/-
  SectorThere, part M: an interpreter of my own over abstract values, the pure functions, the walks and the plain law.
-/

import Derived.Test.YtknjpkgnideplaaDoorSectorThereL
import Derived.Test.YtknjpkgnideplaaDoorSectorThereG
import Derived.Test.YtknjpkgnideplaaDoorSectorThereF

section
/- sector: records and stores. -/
namespace Q
open Go Go.Abs
set_option linter.unusedVariables false
set_option linter.unusedSimpArgs false
def be8 (n : Nat) : List Int := (bsw 8 8 n).reverse
theorem be8_len (n : Nat) : (be8 n).length = 8 := by simp [be8]
theorem be8_in (n : Nat) : In 256 (be8 n) := (bsw_in 8 8 n).rev
theorem be8_T (l : List Int) (h : In 256 l) (hl : l.length = 8) : be8 (T 8 l.reverse) = l := by
 have := bsw_T 8 l.reverse h.rev
 rw [List.length_reverse, hl] at this
 unfold be8
 rw [this, List.reverse_reverse]
theorem T_be8 (n : Nat) (h : n < 18446744073709551616) : T 8 (be8 n).reverse = n := by
 unfold be8
 rw [List.reverse_reverse, T_bsw]
 exact Nat.mod_eq_of_lt (by omega)
theorem T8_lt (l : List Int) (h : In 256 l) (hl : l.length = 8) : T 8 l.reverse < 18446744073709551616 := by
 have h1 := T_be8 (T 8 l.reverse % 18446744073709551616) (Nat.mod_lt _ (by omega))
 have h2 : be8 (T 8 l.reverse % 18446744073709551616) = be8 (T 8 l.reverse) := by
  unfold be8
  rw [show (18446744073709551616 : Nat) = 2 ^ 64 from rfl, bsw_mod 8 8 _ 64 (by omega)]
 rw [h2, be8_T l h hl] at h1
 rw [h1]
 exact Nat.mod_lt _ (by omega)
def hd (e b : Nat) : List Int := be8 e ++ be8 b
def recB (e b : Nat) : List Int := hd e b ++ sumS 1 (hd e b)
theorem hd_len (e b : Nat) : (hd e b).length = 16 := by simp [hd, be8_len]
theorem hd_in (e b : Nat) : In 256 (hd e b) := (be8_in e).app (be8_in b)
theorem recB_len (e b : Nat) : (recB e b).length = 48 := by unfold recB; rw [List.length_append, hd_len, sumS_len, if_pos rfl]
theorem recB_in (e b : Nat) : In 256 (recB e b) := (hd_in e b).app (sumS_in _ _)
def rd (b : List Int) : Option (Int × Int) :=
 if b.length = 48 ∧ sumS 1 (b.take 16) = b.drop 16 then some (((T 8 (b.take 8).reverse : Nat) : Int), ((T 8 ((b.take 16).drop 8).reverse : Nat) : Int)) else none
theorem rd_rec (e b : Nat) (he : e < 18446744073709551616) (hb : b < 18446744073709551616) : rd (recB e b) = some ((e : Int), (b : Int)) := by
 have t16 : (recB e b).take 16 = hd e b := by unfold recB; exact List.take_left' (hd_len e b)
 have d16 : (recB e b).drop 16 = sumS 1 (hd e b) := by unfold recB; exact List.drop_left' (hd_len e b)
 have t8 : (recB e b).take 8 = be8 e := by
  unfold recB hd
  rw [List.append_assoc]
  exact List.take_left' (be8_len e)
 have d8 : (hd e b).drop 8 = be8 b := by unfold hd; exact List.drop_left' (be8_len e)
 unfold rd
 rw [t16, d16, t8, d8, if_pos ⟨recB_len e b, rfl⟩, T_be8 e he, T_be8 b hb]
theorem rec_iff (b : List Int) (hb : In 256 b) (hl : b.length = 48) : recB (T 8 (b.take 8).reverse) (T 8 ((b.take 16).drop 8).reverse) = b ↔ sumS 1 (b.take 16) = b.drop 16 := by
 have h8 : be8 (T 8 (b.take 8).reverse) = b.take 8 := be8_T _ (hb.take 8) (by simp; omega)
 have h16 : be8 (T 8 ((b.take 16).drop 8).reverse) = (b.take 16).drop 8 := be8_T _ ((hb.take 16).drop 8) (by simp; omega)
 have hh : hd (T 8 (b.take 8).reverse) (T 8 ((b.take 16).drop 8).reverse) = b.take 16 := by
  unfold hd
  rw [h8, h16]
  have := List.take_append_drop 8 (b.take 16)
  rw [List.take_take] at this
  exact this
 unfold recB
 rw [hh]
 constructor
 ·intro h
  have h1 := congrArg (List.drop 16) h
  rw [List.drop_left' (by simp; omega)] at h1
  exact h1
 ·intro h
  rw [h]
  exact List.take_append_drop 16 b
theorem rd_bytes {b : List Int} {p : Int × Int} (hb : In 256 b) (h : rd b = some p) : ∃ x y : Nat, x < 18446744073709551616 ∧ y < 18446744073709551616 ∧ p = ((x : Int), (y : Int)) ∧ recB x y = b ∧ b.length = 48 := by
 unfold rd at h
 split at h
 ·rename_i hc
  cases h
  exact ⟨_, _, T8_lt _ (hb.take 8) (by simp; omega), T8_lt _ ((hb.take 16).drop 8) (by simp; omega), rfl, (rec_iff b hb hc.1).2 hc.2, hc.1⟩
 ·cases h
theorem clone_b (l : List Int) (h : l.length ≤ 140737488355328) {ρ : Type} (k : List Int → Option ρ) : P.slices_Clone_byte l k = k l := by
 unfold P.slices_Clone_byte; rw [br_pos (by omega)]
theorem sector_Bytes (e b : Nat) (he : e < 18446744073709551616) (hb : b < 18446744073709551616) {ρ : Type} (k : List Int → Option ρ) : P.sector_Bytes (e : Int) (b : Int) k = k (recB e b) := by
 rw [P.sector_Bytes_eq]; unfold P.sector_Bytes_raw
 have hf : [(bsw 8 8 e).reverse, (bsw 8 8 b).reverse].flatten = hd e b := by simp [hd, be8]
 rw [show (8 : Int) = ((8 : Nat) : Int) from rfl, bits_Be e 8 he (by omega), bits_Be b 8 hb (by omega), bits_Join _ (by simp) (by rw [hf, hd_len]; omega), hf, sha_Sum (.inl rfl) _ (hd_in e b) (by rw [hd_len]; omega), br_pos (by rw [hd_len, sumS_len, if_pos rfl]; omega)]
 rfl
def rdK {ρ : Type} (o : Option (Int × Int)) (k : Int → Int → Bool → Option ρ) : Option ρ :=
 match o with
 | some p => k p.1 p.2 true
 | none => k 0 0 false
theorem sector_Read (b : List Int) (hb : In 256 b) (hn : b.length ≤ 1000000) {ρ : Type} (k : Int → Int → Bool → Option ρ) : P.sector_Read b k = rdK (rd b) k := by
 rw [P.sector_Read_eq]; unfold P.sector_Read_raw
 by_cases hl : b.length = 48
 ·have e16 : Int.toNat (16 : Int) = 16 := rfl
  have e8 : Int.toNat (8 : Int) = 8 := rfl
  rw [br_bne_neg (by omega), br_pos (by omega), e16, e8, List.drop_zero, List.drop_zero, sha_Sum (.inl rfl) _ (hb.take 16) (by simp; omega), br_pos (by omega), br_pos (by omega), toNat_cast, List.take_length, bits_Same _ _ (sumS_in _ _) (hb.drop 16) (by rw [sumS_len, if_pos rfl]; omega)]
  by_cases hs : sumS 1 (b.take 16) = b.drop 16
  ·have hr : rd b = some (((T 8 (b.take 8).reverse : Nat) : Int), ((T 8 ((b.take 16).drop 8).reverse : Nat) : Int)) := by unfold rd; rw [if_pos ⟨hl, hs⟩]
   rw [decide_eq_true hs, br_not, br_tt, br_pos (by omega), bits_Num _ (hb.take 8) (by simp; omega), br_pos (by omega), bits_Num _ ((hb.take 16).drop 8) (by simp; omega), hr, Nat.mod_eq_of_lt (T8_lt _ (hb.take 8) (by simp; omega)), Nat.mod_eq_of_lt (T8_lt _ ((hb.take 16).drop 8) (by simp; omega))]
   rfl
  ·have hr : rd b = none := by unfold rd; rw [if_neg (fun h => hs h.2)]
   rw [decide_eq_false hs, br_not, br_ff, hr]
   rfl
 ·have hr : rd b = none := by unfold rd; rw [if_neg (fun h => hl h.1)]
  rw [br_bne_pos (by omega), hr]
  rfl
def upB (o : Option (Int × Int)) (i : Int) (s : Int × Int × Int × Int) : Int × Int × Int × Int :=
 match o with
 | none => s
 | some p => if s.2.2.2 ≠ 0 ∨ p.1 > s.1 then (p.1, p.2, i, 0) else s
def bst (o0 o1 : Option (Int × Int)) : Int × Int × Int × Int := upB o1 1 (upB o0 0 (0, 0, 0, 21))
theorem bst_cases (o0 o1 : Option (Int × Int)) : (o0 = none ∧ o1 = none ∧ bst o0 o1 = (0, 0, 0, 21)) ∨ (∃ p, o0 = some p ∧ (∀ q, o1 = some q → q.1 ≤ p.1) ∧ bst o0 o1 = (p.1, p.2, 0, 0)) ∨
    (∃ q, o1 = some q ∧ (∀ p, o0 = some p → p.1 < q.1) ∧ bst o0 o1 = (q.1, q.2, 1, 0)) := by
 cases o0 with
 | none => cases o1 with
  | none => exact .inl ⟨rfl, rfl, rfl⟩
  | some q => exact .inr (.inr ⟨q, rfl, fun p h => (by cases h), by simp [bst, upB]⟩)
 | some p => cases o1 with
  | none => exact .inr (.inl ⟨p, rfl, fun q h => (by cases h), by simp [bst, upB]⟩)
  | some q =>
   by_cases h : q.1 > p.1
   ·exact .inr (.inr ⟨q, rfl, fun p' h' => (by cases h'; exact h), by simp [bst, upB, h]⟩)
   ·exact .inr (.inl ⟨p, rfl, fun q' h' => (by cases h'; omega), by simp [bst, upB, h]⟩)
theorem sector_Best (a b : List Int) (ha : In 256 a) (hb : In 256 b) (na : a.length ≤ 1000000) (nb : b.length ≤ 1000000) {ρ : Type} (k : Int → Int → Int → Int → Option ρ) :
    P.sector_Best a b k = k (bst (rd a) (rd b)).1 (bst (rd a) (rd b)).2.1 (bst (rd a) (rd b)).2.2.1 (bst (rd a) (rd b)).2.2.2 := by
 rw [P.sector_Best_eq]; unfold P.sector_Best_raw
 rw [P.sector_Best_l2_1_eq]
 unfold P.sector_Best_L2_1
 have one : ∀ (c : List Int) (i : Int) (s : Int × Int × Int × Int) (nx : Int → Int → Int → Int → Option ρ), In 256 c → c.length ≤ 1000000 →
     (P.sector_Read c fun (q0 q1 : Int) (q2 : Bool) => br q2 (br (s.2.2.2 != (0 : Int)) (nx q0 q1 i (0 : Int)) (br (decide (q0 > s.1)) (nx q0 q1 i (0 : Int)) (nx s.1 s.2.1 s.2.2.1 s.2.2.2))) (nx s.1 s.2.1 s.2.2.1 s.2.2.2)) =
     nx (upB (rd c) i s).1 (upB (rd c) i s).2.1 (upB (rd c) i s).2.2.1 (upB (rd c) i s).2.2.2 := by
  intro c i s nx hc nc
  rw [sector_Read c hc nc]
  cases rd c with
  | none => simp only [rdK, br_ff, upB]
  | some p =>
   simp only [rdK, br_tt, upB]
   by_cases h1 : s.2.2.2 = 0
   ·rw [br_bne_neg h1]
    by_cases h2 : p.1 > s.1
    ·rw [br_pos h2, if_pos (.inr h2)]
    ·rw [br_neg h2, if_neg (by omega)]
   ·rw [br_bne_pos h1, if_pos (.inl h1)]
 let S : Nat → (List Int) × (List Int) × Int × Int × Int × Int × Int × Int × Int := fun i => match i with
  | 0 => (a, b, 0, 0, 0, 0, 0, 0, 21)
  | 1 => (a, b, 1, 0, 0, upB (rd a) 0 (0, 0, 0, 21))
  | _ => (a, b, 2, 0, 0, bst (rd a) (rd b))
 refine lp_go S 2 rfl (fun i hi next hn => ?_) (fun next => ?_) (by omega)
 ·match i, hi with
  | 0, _ =>
   simp only [S, P.sector_Best_r2_1]
   rw [br_pos (by omega), br_pos (by simp), show IntKind.i64.wrap ((0 : Int) + 1) = 1 from by decide]
   refine (one a 0 (0, 0, 0, 21) (fun w x y z => next (a, b, 1, 0, 0, w, x, y, z)) ha na).trans ?_
   exact hn
  | 1, _ =>
   simp only [S, P.sector_Best_r2_1]
   rw [br_pos (by omega), br_neg (by omega), br_pos (by simp), show IntKind.i64.wrap ((1 : Int) + 1) = 2 from by decide]
   refine (one b 1 (upB (rd a) 0 (0, 0, 0, 21)) (fun w x y z => next (a, b, 2, 0, 0, w, x, y, z)) hb nb).trans ?_
   exact hn
 ·simp only [S, P.sector_Best_r2_1]
  rw [br_neg (by omega)]
theorem few28 (a b : List Int) {ρ : Type} (k : Bool → Option ρ) : P.L28_few a b k = k (decide (a.length ≤ 300 ∧ b.length ≤ 300)) := by
 rw [P.L28_few_eq]; unfold P.L28_few_raw
 by_cases h : a.length ≤ 300
 ·rw [br_pos (by omega)]
  congr 1
  exact decide_eq_decide.2 ⟨fun h2 => ⟨h, by omega⟩, fun h2 => by omega⟩
 ·rw [br_neg (by omega), decide_eq_false (fun h2 => h h2.1)]
theorem L28_awake {ρ : Type} (k : Bool → Option ρ) : P.L28_awake k = k true := by
 rw [P.L28_awake_eq]; unfold P.L28_awake_raw
 rw [P.sector_New_eq]; unfold P.sector_New_raw
 rw [show (0 : Int) = ((0 : Nat) : Int) from rfl, sector_Bytes 0 0 (by omega) (by omega), sector_Bytes 0 0 (by omega) (by omega)]
 show P.sector_Best (recB 0 0) (recB 0 0) _ = _
 rw [sector_Best _ _ (recB_in 0 0) (recB_in 0 0) (by rw [recB_len]; omega) (by rw [recB_len]; omega), rd_rec 0 0 (by omega) (by omega), sector_Best [] [] In.nil In.nil (by simp) (by simp)]
 have h0 : rd [] = none := by simp [rd]
 rw [h0]
 simp [bst, upB]
theorem R28_Same (a b c d : List Int) (ha : a.length ≤ 140737488355328) (hb : b.length ≤ 140737488355328) {ρ : Type} (k : Bool → Option ρ) : P.R28_Same a b c d k = k (decide (a = c ∧ b = d)) := by
 rw [P.R28_Same_eq]; unfold P.R28_Same_raw
 rw [R01_Same a c ha]
 by_cases h : a = c
 ·rw [br_pos h, R01_Same b d hb]
  congr 1
  exact decide_eq_decide.2 ⟨fun h2 => ⟨h, h2⟩, fun h2 => h2.2⟩
 ·rw [br_neg h, decide_eq_false (fun h2 => h h2.1)]
def laidK {ρ : Type} (a b c : List Int) (k : List Int → List Int → Int → Int → Option ρ) : Option ρ :=
 if (bst (rd a) (rd b)).2.2.2 = 0 then (if (bst (rd a) (rd b)).2.2.1 = 0 then k a c 1 0 else k c b 0 0) else k a b 0 (bst (rd a) (rd b)).2.2.2
theorem slot_or (o0 o1 : Option (Int × Int)) : (bst o0 o1).2.2.1 = 0 ∨ (bst o0 o1).2.2.1 = 1 := by
 rcases bst_cases o0 o1 with ⟨_, _, h⟩ | ⟨p, _, _, h⟩ | ⟨p, _, _, h⟩ <;> rw [h] <;> simp
theorem sector_copied (a b : List Int) (ha : a.length ≤ 140737488355328) (hb : b.length ≤ 140737488355328) {ρ : Type} (k : List Int → List Int → Option ρ) : P.sector_copied a b k = k a b := by
 rw [P.sector_copied_eq]; unfold P.sector_copied_raw
 rw [clone_b a ha, clone_b b hb]
theorem sector_laid (a b c : List Int) (ha : In 256 a) (hb : In 256 b) (na : a.length ≤ 1000000) (nb : b.length ≤ 1000000) (nc : c.length ≤ 1000000) {ρ : Type} (k : List Int → List Int → Int → Int → Option ρ) : P.sector_laid a b c k = laidK a b c k := by
 rw [P.sector_laid_eq]; unfold P.sector_laid_raw laidK
 rw [sector_copied a b (by omega) (by omega), sector_Best a b ha hb na nb]
 by_cases h : (bst (rd a) (rd b)).2.2.2 = 0
 ·rw [br_bne_neg h, if_pos h, clone_b c (by omega)]
  rcases slot_or (rd a) (rd b) with h1 | h1
  ·rw [h1, if_pos rfl, show IntKind.i64.wrap ((1 : Int) - 0) = 1 from by decide, br_neg (by omega), br_pos (by omega)]
  ·rw [h1, if_neg (by omega), show IntKind.i64.wrap ((1 : Int) - 1) = 0 from by decide, br_pos (by omega)]
 ·rw [br_bne_pos h, if_neg h]
theorem sector_Write (a b : List Int) (e f : Nat) (he : e < 18446744073709551616) (hf : f < 18446744073709551616) (ha : In 256 a) (hb : In 256 b) (na : a.length ≤ 1000000) (nb : b.length ≤ 1000000) {ρ : Type} (k : List Int → List Int → Int → Int → Option ρ) :
    P.sector_Write a b (e : Int) (f : Int) k = laidK a b (recB e f) k := by
 rw [P.sector_Write_eq]; unfold P.sector_Write_raw
 rw [sector_Bytes e f he hf, sector_laid a b _ ha hb na nb (by rw [recB_len]; omega)]
end Q
end

section
open Go Go.Abs
set_option linter.unusedVariables false
namespace P
end P
end

section
namespace Q
open Go Go.Abs
set_option linter.unusedVariables false
set_option linter.unusedSimpArgs false
theorem u64_nat {x : Int} (h : wfI .u64 x) : ∃ n : Nat, n < 18446744073709551616 ∧ x = (n : Int) := by
 have := wf_u64 h
 exact ⟨x.toNat, by omega, by omega⟩
end Q
end

section
open Go Go.Abs
set_option linter.unusedVariables false
namespace P
end P
end

section
namespace Q
open Go Go.Abs
set_option linter.unusedVariables false
set_option linter.unusedSimpArgs false
end Q
end

section
namespace Q
open Go Go.Abs
set_option linter.unusedVariables false
set_option linter.unusedSimpArgs false
theorem there_end (a b : List Int) (e f : Nat) (he : e < 18446744073709551616) (hf : f < 18446744073709551616) (ha : In 256 a) (hb : In 256 b) (na : a.length ≤ 300) (nb : b.length ≤ 300) {ρ : Type} (k : Bool → Option ρ) :
    (P.sector_Best a b fun (q12 q13 q14 q15 : Int) =>
     P.sector_Write a b (e : Int) (f : Int) fun (q16 q17 : List Int) (q18 q19 : Int) =>
      br (q15 != (0 : Int))
       (br (q19 == q15) (P.R28_Same q16 q17 a b fun (q20 : Bool) => br q20 (P.L28_awake fun (q21 : Bool) => k q21) (k false)) (k false))
       (P.sector_Best q16 q17 fun (q22 q23 q24 q25 : Int) =>
        br (decide (q14 = (↑0 : Int)))
         (P.sector_Read q16 fun (q26 q27 : Int) (q28 : Bool) =>
          br (q19 != (0 : Int)) (k false) (br (IntKind.i64.wrap (q14 + q18) != (1 : Int)) (k false) (br (q25 != (0 : Int)) (k false) (br (!q28) (k false)
           (br (!(q26 == q12 && (q27 == q13 && true))) (k false) (br (decide ((e : Int) ≤ q12)) (P.L28_awake fun (q29 : Bool) => k q29)
            (br (q22 == (e : Int) && (q23 == (f : Int) && true)) (br (q24 == q18) (P.L28_awake fun (q30 : Bool) => k q30) (k false)) (k false))))))))
         (br (decide (q14 = (↑1 : Int)))
          (P.sector_Read q17 fun (q31 q32 : Int) (q33 : Bool) =>
           br (q19 != (0 : Int)) (k false) (br (IntKind.i64.wrap (q14 + q18) != (1 : Int)) (k false) (br (q25 != (0 : Int)) (k false) (br (!q33) (k false)
            (br (!(q31 == q12 && (q32 == q13 && true))) (k false) (br (decide ((e : Int) ≤ q12)) (P.L28_awake fun (q34 : Bool) => k q34)
             (br (q22 == (e : Int) && (q23 == (f : Int) && true)) (br (q24 == q18) (P.L28_awake fun (q35 : Bool) => k q35) (k false)) (k false))))))))
          none))) = k true := by
 have hcin := recB_in e f
 have hcl := recB_len e f
 have hrc := rd_rec e f he hf
 have w1 : IntKind.i64.wrap ((0 : Int) + 1) = 1 := by decide
 have w2 : IntKind.i64.wrap ((1 : Int) + 0) = 1 := by decide
 rw [sector_Best a b ha hb (by omega) (by omega), sector_Write a b e f he hf ha hb (by omega) (by omega)]
 rcases bst_cases (rd a) (rd b) with ⟨h0, h1, h⟩ | ⟨p, h0, h1, h⟩ | ⟨p, h0, h1, h⟩
 ·unfold laidK
  rw [h]
  dsimp only
  rw [if_neg (by omega), br_bne_pos (by omega), br_beq_pos rfl, R28_Same _ _ _ _ (by omega) (by omega), br_pos ⟨rfl, rfl⟩, L28_awake]
 ·unfold laidK
  rw [h]
  dsimp only
  rw [if_pos rfl, if_pos rfl, br_bne_neg rfl, sector_Best a _ ha hcin (by omega) (by omega), br_pos rfl, sector_Read a ha (by omega), h0, hrc]
  simp only [rdK, w1, br_not, br_tt, beq_self_eq_true, Bool.and_true]
  rw [br_bne_neg rfl, br_bne_neg rfl]
  by_cases hlt : (e : Int) > p.1
  ·have hb2 : bst (some p) (some ((e : Int), (f : Int))) = ((e : Int), (f : Int), 1, 0) := by simp [bst, upB, hlt]
   rw [hb2]
   simp only [beq_self_eq_true, Bool.and_true, br_tt]
   rw [br_bne_neg rfl, br_neg (by omega), L28_awake]
  ·have hb2 : bst (some p) (some ((e : Int), (f : Int))) = (p.1, p.2, 0, 0) := by simp [bst, upB, hlt]
   rw [hb2]
   simp only
   rw [br_bne_neg rfl, br_pos (by omega), L28_awake]
 ·unfold laidK
  rw [h]
  dsimp only
  rw [if_pos rfl, if_neg (by omega), br_bne_neg rfl, sector_Best _ b hcin hb (by omega) (by omega), br_neg (by omega), br_pos rfl, sector_Read b hb (by omega), h0, hrc]
  simp only [rdK, w2, br_not, br_tt, beq_self_eq_true, Bool.and_true]
  rw [br_bne_neg rfl, br_bne_neg rfl]
  by_cases hlt : p.1 > (e : Int)
  ·have hb2 : bst (some ((e : Int), (f : Int))) (some p) = (p.1, p.2, 1, 0) := by simp [bst, upB, hlt]
   rw [hb2]
   simp only
   rw [br_bne_neg rfl, br_pos (by omega), L28_awake]
  ·have hb2 : bst (some ((e : Int), (f : Int))) (some p) = ((e : Int), (f : Int), 0, 0) := by simp [bst, upB, hlt]
   rw [hb2]
   simp only [beq_self_eq_true, Bool.and_true, br_tt]
   rw [br_bne_neg rfl]
   by_cases hle : (e : Int) ≤ p.1
   ·rw [br_pos hle, L28_awake]
   ·rw [br_neg hle, L28_awake]
theorem SectorThere (x0_Epoch : Int) (x0_Bound : Int) (x1 : List Int) (x2_0 : List Int) (x2_1 : List Int) (wx0_Epoch : wfI .u64 x0_Epoch) (wx0_Bound : wfI .u64 x0_Bound) (nx1 : x1.length ≤ 140737488355328) (wx1 : ∀ x, x ∈ x1 → wfI .u8 x) (nx2_0 : x2_0.length ≤ 140737488355328) (wx2_0 : ∀ x, x ∈ x2_0 → wfI .u8 x) (nx2_1 : x2_1.length ≤ 140737488355328) (wx2_1 : ∀ x, x ∈ x2_1 → wfI .u8 x) {ρ : Type} (k : Bool → Option ρ) : P.L28_SectorThere x0_Epoch x0_Bound x1 x2_0 x2_1 k = k true := by
 rw [P.L28_SectorThere_eq]; unfold P.L28_SectorThere_raw
 obtain ⟨e, he, rfl⟩ := u64_nat wx0_Epoch
 obtain ⟨f, hf, rfl⟩ := u64_nat wx0_Bound
 by_cases h1 : x1.length > 300
 ·rw [br_pos (by omega), L28_awake]
 ·rw [br_neg (by omega), few28, br_not]
  by_cases h2 : x2_0.length ≤ 300 ∧ x2_1.length ≤ 300
  ·rw [decide_eq_true h2, br_tt, sector_Bytes e f he hf, sector_Read _ (recB_in e f) (by rw [recB_len]; omega), rd_rec e f he hf]
   dsimp only [rdK]
   rw [br_not, br_tt, br_not, show ((e : Int) == (e : Int) && ((f : Int) == (f : Int) && true)) = true by simp, br_tt]
   have hr := sector_Read (ρ := ρ) x1 (in_u8 wx1) (by omega)
   cases hq : rd x1 with
   | none =>
    rw [hr, hq]
    simp only [rdK, br_ff]
    exact there_end x2_0 x2_1 e f he hf (in_u8 wx2_0) (in_u8 wx2_1) h2.1 h2.2 k
   | some p =>
    rw [hr, hq]
    simp only [rdK, br_tt]
    obtain ⟨x, y, hx, hy, rfl, hb, hlen⟩ := rd_bytes (in_u8 wx1) hq
    simp only
    rw [sector_Bytes x y hx hy, hb, R01_Same _ _ (by omega), br_not, br_pos rfl]
    exact there_end x2_0 x2_1 e f he hf (in_u8 wx2_0) (in_u8 wx2_1) h2.1 h2.2 k
  ·rw [decide_eq_false h2, br_ff, L28_awake]
end Q
end
