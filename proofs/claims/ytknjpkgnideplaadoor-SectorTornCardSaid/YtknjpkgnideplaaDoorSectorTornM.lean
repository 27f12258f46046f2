/-
  SectorTorn, part M: an interpreter of my own over abstract values, the pure functions, the walks and the plain law.
-/

import Derived.Test.YtknjpkgnideplaaDoorSectorTornL
import Derived.Test.YtknjpkgnideplaaDoorSectorTornG
import Derived.Test.YtknjpkgnideplaaDoorSectorTornF

section
/- sector: records and stores. -/
namespace Q
open Go Go.Abs
set_option linter.unusedVariables false
set_option linter.unusedSimpArgs false
def be8 (n : Nat) : List Int := (bsw 8 8 n).reverse
theorem be8_len (n : Nat) : (be8 n).length = 8 := by simp [be8]
theorem be8_in (n : Nat) : In 256 (be8 n) := (bsw_in 8 8 n).rev
theorem be8_T (l : List Int) (h : In 256 l) (hl : l.length = 8) : be8 (T 8 l.reverse) = l := by
 have := bsw_T 8 l.reverse h.rev
 rw [List.length_reverse, hl] at this
 unfold be8
 rw [this, List.reverse_reverse]
theorem T_be8 (n : Nat) (h : n < 18446744073709551616) : T 8 (be8 n).reverse = n := by
 unfold be8
 rw [List.reverse_reverse, T_bsw]
 exact Nat.mod_eq_of_lt (by omega)
theorem T8_lt (l : List Int) (h : In 256 l) (hl : l.length = 8) : T 8 l.reverse < 18446744073709551616 := by
 have h1 := T_be8 (T 8 l.reverse % 18446744073709551616) (Nat.mod_lt _ (by omega))
 have h2 : be8 (T 8 l.reverse % 18446744073709551616) = be8 (T 8 l.reverse) := by
  unfold be8
  rw [show (18446744073709551616 : Nat) = 2 ^ 64 from rfl, bsw_mod 8 8 _ 64 (by omega)]
 rw [h2, be8_T l h hl] at h1
 rw [h1]
 exact Nat.mod_lt _ (by omega)
def hd (e b : Nat) : List Int := be8 e ++ be8 b
def recB (e b : Nat) : List Int := hd e b ++ sumS 1 (hd e b)
theorem hd_len (e b : Nat) : (hd e b).length = 16 := by simp [hd, be8_len]
theorem hd_in (e b : Nat) : In 256 (hd e b) := (be8_in e).app (be8_in b)
theorem recB_len (e b : Nat) : (recB e b).length = 48 := by unfold recB; rw [List.length_append, hd_len, sumS_len, if_pos rfl]
theorem recB_in (e b : Nat) : In 256 (recB e b) := (hd_in e b).app (sumS_in _ _)
def rd (b : List Int) : Option (Int × Int) :=
 if b.length = 48 ∧ sumS 1 (b.take 16) = b.drop 16 then some (((T 8 (b.take 8).reverse : Nat) : Int), ((T 8 ((b.take 16).drop 8).reverse : Nat) : Int)) else none
theorem rd_rec (e b : Nat) (he : e < 18446744073709551616) (hb : b < 18446744073709551616) : rd (recB e b) = some ((e : Int), (b : Int)) := by
 have t16 : (recB e b).take 16 = hd e b := by unfold recB; exact List.take_left' (hd_len e b)
 have d16 : (recB e b).drop 16 = sumS 1 (hd e b) := by unfold recB; exact List.drop_left' (hd_len e b)
 have t8 : (recB e b).take 8 = be8 e := by
  unfold recB hd
  rw [List.append_assoc]
  exact List.take_left' (be8_len e)
 have d8 : (hd e b).drop 8 = be8 b := by unfold hd; exact List.drop_left' (be8_len e)
 unfold rd
 rw [t16, d16, t8, d8, if_pos ⟨recB_len e b, rfl⟩, T_be8 e he, T_be8 b hb]
theorem clone_b (l : List Int) (h : l.length ≤ 140737488355328) {ρ : Type} (k : List Int → Option ρ) : P.slices_Clone_byte l k = k l := by
 unfold P.slices_Clone_byte; rw [br_pos (by omega)]
theorem sector_Bytes (e b : Nat) (he : e < 18446744073709551616) (hb : b < 18446744073709551616) {ρ : Type} (k : List Int → Option ρ) : P.sector_Bytes (e : Int) (b : Int) k = k (recB e b) := by
 rw [P.sector_Bytes_eq]; unfold P.sector_Bytes_raw
 have hf : [(bsw 8 8 e).reverse, (bsw 8 8 b).reverse].flatten = hd e b := by simp [hd, be8]
 rw [show (8 : Int) = ((8 : Nat) : Int) from rfl, bits_Be e 8 he (by omega), bits_Be b 8 hb (by omega), bits_Join _ (by simp) (by rw [hf, hd_len]; omega), hf, sha_Sum (.inl rfl) _ (hd_in e b) (by rw [hd_len]; omega), br_pos (by rw [hd_len, sumS_len, if_pos rfl]; omega)]
 rfl
def rdK {ρ : Type} (o : Option (Int × Int)) (k : Int → Int → Bool → Option ρ) : Option ρ :=
 match o with
 | some p => k p.1 p.2 true
 | none => k 0 0 false
theorem sector_Read (b : List Int) (hb : In 256 b) (hn : b.length ≤ 1000000) {ρ : Type} (k : Int → Int → Bool → Option ρ) : P.sector_Read b k = rdK (rd b) k := by
 rw [P.sector_Read_eq]; unfold P.sector_Read_raw
 by_cases hl : b.length = 48
 ·have e16 : Int.toNat (16 : Int) = 16 := rfl
  have e8 : Int.toNat (8 : Int) = 8 := rfl
  rw [br_bne_neg (by omega), br_pos (by omega), e16, e8, List.drop_zero, List.drop_zero, sha_Sum (.inl rfl) _ (hb.take 16) (by simp; omega), br_pos (by omega), br_pos (by omega), toNat_cast, List.take_length, bits_Same _ _ (sumS_in _ _) (hb.drop 16) (by rw [sumS_len, if_pos rfl]; omega)]
  by_cases hs : sumS 1 (b.take 16) = b.drop 16
  ·have hr : rd b = some (((T 8 (b.take 8).reverse : Nat) : Int), ((T 8 ((b.take 16).drop 8).reverse : Nat) : Int)) := by unfold rd; rw [if_pos ⟨hl, hs⟩]
   rw [decide_eq_true hs, br_not, br_tt, br_pos (by omega), bits_Num _ (hb.take 8) (by simp; omega), br_pos (by omega), bits_Num _ ((hb.take 16).drop 8) (by simp; omega), hr, Nat.mod_eq_of_lt (T8_lt _ (hb.take 8) (by simp; omega)), Nat.mod_eq_of_lt (T8_lt _ ((hb.take 16).drop 8) (by simp; omega))]
   rfl
  ·have hr : rd b = none := by unfold rd; rw [if_neg (fun h => hs h.2)]
   rw [decide_eq_false hs, br_not, br_ff, hr]
   rfl
 ·have hr : rd b = none := by unfold rd; rw [if_neg (fun h => hl h.1)]
  rw [br_bne_pos (by omega), hr]
  rfl
def upB (o : Option (Int × Int)) (i : Int) (s : Int × Int × Int × Int) : Int × Int × Int × Int :=
 match o with
 | none => s
 | some p => if s.2.2.2 ≠ 0 ∨ p.1 > s.1 then (p.1, p.2, i, 0) else s
def bst (o0 o1 : Option (Int × Int)) : Int × Int × Int × Int := upB o1 1 (upB o0 0 (0, 0, 0, 21))
theorem bst_cases (o0 o1 : Option (Int × Int)) : (o0 = none ∧ o1 = none ∧ bst o0 o1 = (0, 0, 0, 21)) ∨ (∃ p, o0 = some p ∧ (∀ q, o1 = some q → q.1 ≤ p.1) ∧ bst o0 o1 = (p.1, p.2, 0, 0)) ∨
    (∃ q, o1 = some q ∧ (∀ p, o0 = some p → p.1 < q.1) ∧ bst o0 o1 = (q.1, q.2, 1, 0)) := by
 cases o0 with
 | none => cases o1 with
  | none => exact .inl ⟨rfl, rfl, rfl⟩
  | some q => exact .inr (.inr ⟨q, rfl, fun p h => (by cases h), by simp [bst, upB]⟩)
 | some p => cases o1 with
  | none => exact .inr (.inl ⟨p, rfl, fun q h => (by cases h), by simp [bst, upB]⟩)
  | some q =>
   by_cases h : q.1 > p.1
   ·exact .inr (.inr ⟨q, rfl, fun p' h' => (by cases h'; exact h), by simp [bst, upB, h]⟩)
   ·exact .inr (.inl ⟨p, rfl, fun q' h' => (by cases h'; omega), by simp [bst, upB, h]⟩)
theorem sector_Best (a b : List Int) (ha : In 256 a) (hb : In 256 b) (na : a.length ≤ 1000000) (nb : b.length ≤ 1000000) {ρ : Type} (k : Int → Int → Int → Int → Option ρ) :
    P.sector_Best a b k = k (bst (rd a) (rd b)).1 (bst (rd a) (rd b)).2.1 (bst (rd a) (rd b)).2.2.1 (bst (rd a) (rd b)).2.2.2 := by
 rw [P.sector_Best_eq]; unfold P.sector_Best_raw
 rw [P.sector_Best_l2_1_eq]
 unfold P.sector_Best_L2_1
 have one : ∀ (c : List Int) (i : Int) (s : Int × Int × Int × Int) (nx : Int → Int → Int → Int → Option ρ), In 256 c → c.length ≤ 1000000 →
     (P.sector_Read c fun (q0 q1 : Int) (q2 : Bool) => br q2 (br (s.2.2.2 != (0 : Int)) (nx q0 q1 i (0 : Int)) (br (decide (q0 > s.1)) (nx q0 q1 i (0 : Int)) (nx s.1 s.2.1 s.2.2.1 s.2.2.2))) (nx s.1 s.2.1 s.2.2.1 s.2.2.2)) =
     nx (upB (rd c) i s).1 (upB (rd c) i s).2.1 (upB (rd c) i s).2.2.1 (upB (rd c) i s).2.2.2 := by
  intro c i s nx hc nc
  rw [sector_Read c hc nc]
  cases rd c with
  | none => simp only [rdK, br_ff, upB]
  | some p =>
   simp only [rdK, br_tt, upB]
   by_cases h1 : s.2.2.2 = 0
   ·rw [br_bne_neg h1]
    by_cases h2 : p.1 > s.1
    ·rw [br_pos h2, if_pos (.inr h2)]
    ·rw [br_neg h2, if_neg (by omega)]
   ·rw [br_bne_pos h1, if_pos (.inl h1)]
 let S : Nat → (List Int) × (List Int) × Int × Int × Int × Int × Int × Int × Int := fun i => match i with
  | 0 => (a, b, 0, 0, 0, 0, 0, 0, 21)
  | 1 => (a, b, 1, 0, 0, upB (rd a) 0 (0, 0, 0, 21))
  | _ => (a, b, 2, 0, 0, bst (rd a) (rd b))
 refine lp_go S 2 rfl (fun i hi next hn => ?_) (fun next => ?_) (by omega)
 ·match i, hi with
  | 0, _ =>
   simp only [S, P.sector_Best_r2_1]
   rw [br_pos (by omega), br_pos (by simp), show IntKind.i64.wrap ((0 : Int) + 1) = 1 from by decide]
   refine (one a 0 (0, 0, 0, 21) (fun w x y z => next (a, b, 1, 0, 0, w, x, y, z)) ha na).trans ?_
   exact hn
  | 1, _ =>
   simp only [S, P.sector_Best_r2_1]
   rw [br_pos (by omega), br_neg (by omega), br_pos (by simp), show IntKind.i64.wrap ((1 : Int) + 1) = 2 from by decide]
   refine (one b 1 (upB (rd a) 0 (0, 0, 0, 21)) (fun w x y z => next (a, b, 2, 0, 0, w, x, y, z)) hb nb).trans ?_
   exact hn
 ·simp only [S, P.sector_Best_r2_1]
  rw [br_neg (by omega)]
theorem few28 (a b : List Int) {ρ : Type} (k : Bool → Option ρ) : P.L28_few a b k = k (decide (a.length ≤ 300 ∧ b.length ≤ 300)) := by
 rw [P.L28_few_eq]; unfold P.L28_few_raw
 by_cases h : a.length ≤ 300
 ·rw [br_pos (by omega)]
  congr 1
  exact decide_eq_decide.2 ⟨fun h2 => ⟨h, by omega⟩, fun h2 => by omega⟩
 ·rw [br_neg (by omega), decide_eq_false (fun h2 => h h2.1)]
theorem L28_awake {ρ : Type} (k : Bool → Option ρ) : P.L28_awake k = k true := by
 rw [P.L28_awake_eq]; unfold P.L28_awake_raw
 rw [P.sector_New_eq]; unfold P.sector_New_raw
 rw [show (0 : Int) = ((0 : Nat) : Int) from rfl, sector_Bytes 0 0 (by omega) (by omega), sector_Bytes 0 0 (by omega) (by omega)]
 show P.sector_Best (recB 0 0) (recB 0 0) _ = _
 rw [sector_Best _ _ (recB_in 0 0) (recB_in 0 0) (by rw [recB_len]; omega) (by rw [recB_len]; omega), rd_rec 0 0 (by omega) (by omega), sector_Best [] [] In.nil In.nil (by simp) (by simp)]
 have h0 : rd [] = none := by simp [rd]
 rw [h0]
 simp [bst, upB]
theorem R28_Same (a b c d : List Int) (ha : a.length ≤ 140737488355328) (hb : b.length ≤ 140737488355328) {ρ : Type} (k : Bool → Option ρ) : P.R28_Same a b c d k = k (decide (a = c ∧ b = d)) := by
 rw [P.R28_Same_eq]; unfold P.R28_Same_raw
 rw [R01_Same a c ha]
 by_cases h : a = c
 ·rw [br_pos h, R01_Same b d hb]
  congr 1
  exact decide_eq_decide.2 ⟨fun h2 => ⟨h, h2⟩, fun h2 => h2.2⟩
 ·rw [br_neg h, decide_eq_false (fun h2 => h h2.1)]
def laidK {ρ : Type} (a b c : List Int) (k : List Int → List Int → Int → Int → Option ρ) : Option ρ :=
 if (bst (rd a) (rd b)).2.2.2 = 0 then (if (bst (rd a) (rd b)).2.2.1 = 0 then k a c 1 0 else k c b 0 0) else k a b 0 (bst (rd a) (rd b)).2.2.2
theorem slot_or (o0 o1 : Option (Int × Int)) : (bst o0 o1).2.2.1 = 0 ∨ (bst o0 o1).2.2.1 = 1 := by
 rcases bst_cases o0 o1 with ⟨_, _, h⟩ | ⟨p, _, _, h⟩ | ⟨p, _, _, h⟩ <;> rw [h] <;> simp
theorem sector_copied (a b : List Int) (ha : a.length ≤ 140737488355328) (hb : b.length ≤ 140737488355328) {ρ : Type} (k : List Int → List Int → Option ρ) : P.sector_copied a b k = k a b := by
 rw [P.sector_copied_eq]; unfold P.sector_copied_raw
 rw [clone_b a ha, clone_b b hb]
theorem sector_laid (a b c : List Int) (ha : In 256 a) (hb : In 256 b) (na : a.length ≤ 1000000) (nb : b.length ≤ 1000000) (nc : c.length ≤ 1000000) {ρ : Type} (k : List Int → List Int → Int → Int → Option ρ) : P.sector_laid a b c k = laidK a b c k := by
 rw [P.sector_laid_eq]; unfold P.sector_laid_raw laidK
 rw [sector_copied a b (by omega) (by omega), sector_Best a b ha hb na nb]
 by_cases h : (bst (rd a) (rd b)).2.2.2 = 0
 ·rw [br_bne_neg h, if_pos h, clone_b c (by omega)]
  rcases slot_or (rd a) (rd b) with h1 | h1
  ·rw [h1, if_pos rfl, show IntKind.i64.wrap ((1 : Int) - 0) = 1 from by decide, br_neg (by omega), br_pos (by omega)]
  ·rw [h1, if_neg (by omega), show IntKind.i64.wrap ((1 : Int) - 1) = 0 from by decide, br_pos (by omega)]
 ·rw [br_bne_pos h, if_neg h]
theorem sector_Write (a b : List Int) (e f : Nat) (he : e < 18446744073709551616) (hf : f < 18446744073709551616) (ha : In 256 a) (hb : In 256 b) (na : a.length ≤ 1000000) (nb : b.length ≤ 1000000) {ρ : Type} (k : List Int → List Int → Int → Int → Option ρ) :
    P.sector_Write a b (e : Int) (f : Int) k = laidK a b (recB e f) k := by
 rw [P.sector_Write_eq]; unfold P.sector_Write_raw
 rw [sector_Bytes e f he hf, sector_laid a b _ ha hb na nb (by rw [recB_len]; omega)]
def tearK {ρ : Type} (a b c : List Int) (tear : Int) (junk : List Int) (k : List Int → List Int → Int → Option ρ) : Option ρ :=
 if (bst (rd a) (rd b)).2.2.2 = 0 then
  if tear = 0 then k a b 0 else if tear = 1 then laidK a b c (fun x y _ e => k x y e) else if tear = 2 then laidK a b junk (fun x y _ e => k x y e) else k a b 8
 else k a b (bst (rd a) (rd b)).2.2.2
theorem laidK_no {a b c : List Int} (h : ¬ (bst (rd a) (rd b)).2.2.2 = 0) {ρ : Type} (k : List Int → List Int → Int → Int → Option ρ) : laidK a b c k = k a b 0 (bst (rd a) (rd b)).2.2.2 := by
 unfold laidK; rw [if_neg h]
theorem sector_Tear (a b : List Int) (e f : Nat) (tear : Int) (junk : List Int) (he : e < 18446744073709551616) (hf : f < 18446744073709551616) (ha : In 256 a) (hb : In 256 b) (na : a.length ≤ 1000000) (nb : b.length ≤ 1000000) (nj : junk.length ≤ 1000000) {ρ : Type} (k : List Int → List Int → Int → Option ρ) :
    P.sector_Tear a b (e : Int) (f : Int) tear junk k = tearK a b (recB e f) tear junk k := by
 rw [P.sector_Tear_eq]; unfold P.sector_Tear_raw tearK
 rw [sector_copied a b (by omega) (by omega)]
 by_cases h1 : tear = 1
 ·rw [br_beq_pos h1, sector_Write a b e f he hf ha hb na nb]
  by_cases h : (bst (rd a) (rd b)).2.2.2 = 0
  ·rw [if_pos h, if_neg (by omega), if_pos h1]
  ·rw [if_neg h, laidK_no h]
 ·rw [br_beq_neg h1]
  by_cases h2 : tear = 2
  ·rw [br_beq_pos h2, sector_laid a b junk ha hb na nb nj]
   by_cases h : (bst (rd a) (rd b)).2.2.2 = 0
   ·rw [if_pos h, if_neg (by omega), if_neg h1, if_pos h2]
   ·rw [if_neg h, laidK_no h]
  ·rw [br_beq_neg h2, sector_Best a b ha hb na nb]
   by_cases h : (bst (rd a) (rd b)).2.2.2 = 0
   ·rw [br_beq_pos h, if_pos h]
    by_cases h0 : tear = 0
    ·rw [br_bne_neg h0, if_pos h0, h]
    ·rw [br_bne_pos h0, if_neg h0, if_neg h1, if_neg h2]
   ·rw [br_beq_neg h, if_neg h]
end Q
end

section
open Go Go.Abs
set_option linter.unusedVariables false
namespace P
end P
end

section
namespace Q
open Go Go.Abs
set_option linter.unusedVariables false
set_option linter.unusedSimpArgs false
theorem u64_nat {x : Int} (h : wfI .u64 x) : ∃ n : Nat, n < 18446744073709551616 ∧ x = (n : Int) := by
 have := wf_u64 h
 exact ⟨x.toNat, by omega, by omega⟩
end Q
end

section
open Go Go.Abs
set_option linter.unusedVariables false
namespace P
end P
end

section
namespace Q
open Go Go.Abs
set_option linter.unusedVariables false
set_option linter.unusedSimpArgs false
end Q
end

section
namespace Q
open Go Go.Abs
set_option linter.unusedVariables false
set_option linter.unusedSimpArgs false
theorem SectorTorn (x0_0 : List Int) (x0_1 : List Int) (x1_Epoch : Int) (x1_Bound : Int) (x2 : Int) (x3 : List Int) (nx0_0 : x0_0.length ≤ 140737488355328) (wx0_0 : ∀ x, x ∈ x0_0 → wfI .u8 x) (nx0_1 : x0_1.length ≤ 140737488355328) (wx0_1 : ∀ x, x ∈ x0_1 → wfI .u8 x) (wx1_Epoch : wfI .u64 x1_Epoch) (wx1_Bound : wfI .u64 x1_Bound) (wx2 : wfI .i64 x2) (nx3 : x3.length ≤ 140737488355328) (wx3 : ∀ x, x ∈ x3 → wfI .u8 x) {ρ : Type} (k : Bool → Option ρ) : P.L28_SectorTorn x0_0 x0_1 x1_Epoch x1_Bound x2 x3 k = k true := by
 rw [P.L28_SectorTorn_eq]; unfold P.L28_SectorTorn_raw
 obtain ⟨e, he, rfl⟩ := u64_nat wx1_Epoch
 obtain ⟨f, hf, rfl⟩ := u64_nat wx1_Bound
 by_cases hn : x3.length > 300
 ·rw [br_pos (by omega), L28_awake]
 ·rw [br_neg (by omega), few28, br_not]
  by_cases h2 : x0_0.length ≤ 300 ∧ x0_1.length ≤ 300
  ·have hcin := recB_in e f
   have hcl := recB_len e f
   have hrc := rd_rec e f he hf
   have ha := in_u8 wx0_0
   have hb := in_u8 wx0_1
   have hj := in_u8 wx3
   -- the best one of what is left
   have fin : ∀ (p : Int × Int) (u v : List Int), In 256 u → In 256 v → u.length ≤ 300 → v.length ≤ 300 →
       (bst (rd u) (rd v)).2.2.2 = 0 → (((bst (rd u) (rd v)).1 = p.1 ∧ (bst (rd u) (rd v)).2.1 = p.2) ∨ ((bst (rd u) (rd v)).1 = (e : Int) ∧ (bst (rd u) (rd v)).2.1 = (f : Int))) →
       (P.sector_Best u v fun (q18 q19 q20 q21 : Int) => br (q21 == (0 : Int)) (br (q18 == p.1 && (q19 == p.2 && true)) (P.L28_awake fun (q22 : Bool) => k q22) (br (q18 == (e : Int) && (q19 == (f : Int) && true)) (P.L28_awake fun (q23 : Bool) => k q23) (k false))) (k false)) = k true := by
    intro p u v hu hv nu nv h0 hc
    rw [sector_Best u v hu hv (by omega) (by omega), br_beq_pos h0]
    by_cases hp : (bst (rd u) (rd v)).1 = p.1 ∧ (bst (rd u) (rd v)).2.1 = p.2
    ·rw [hp.1, hp.2]
     simp only [beq_self_eq_true, Bool.and_true, br_tt]
     rw [L28_awake]
    ·obtain ⟨c1, c2⟩ := hc.resolve_left hp
     rw [c1, c2]
     simp only [beq_self_eq_true, Bool.and_true, br_tt]
     rw [L28_awake, br_same]
   have rdj : ∀ (p : Int × Int) (u v : List Int), In 256 u → In 256 v → u.length ≤ 300 → v.length ≤ 300 →
       (rd x3 = none → (bst (rd u) (rd v)).2.2.2 = 0 ∧ (((bst (rd u) (rd v)).1 = p.1 ∧ (bst (rd u) (rd v)).2.1 = p.2) ∨ ((bst (rd u) (rd v)).1 = (e : Int) ∧ (bst (rd u) (rd v)).2.1 = (f : Int)))) →
       (P.sector_Read x3 fun (q14 q15 : Int) (q16 : Bool) => br q16 (P.L28_awake fun (q17 : Bool) => k q17)
        (P.sector_Best u v fun (q18 q19 q20 q21 : Int) => br (q21 == (0 : Int)) (br (q18 == p.1 && (q19 == p.2 && true)) (P.L28_awake fun (q22 : Bool) => k q22) (br (q18 == (e : Int) && (q19 == (f : Int) && true)) (P.L28_awake fun (q23 : Bool) => k q23) (k false))) (k false))) = k true := by
    intro p u v hu hv nu nv hc
    rw [sector_Read x3 hj (by omega)]
    cases hq : rd x3 with
    | none =>
     simp only [rdK, br_ff]
     obtain ⟨h0, hc⟩ := hc hq
     exact fin p u v hu hv nu nv h0 hc
    | some y =>
     simp only [rdK, br_tt]
     rw [L28_awake]
   rw [decide_eq_true h2, br_tt, sector_Best _ _ ha hb (by omega) (by omega), sector_Tear _ _ e f _ _ he hf ha hb (by omega) (by omega) (by omega)]
   unfold tearK
   by_cases h : (bst (rd x0_0) (rd x0_1)).2.2.2 = 0
   ·rw [if_pos h, h]
    by_cases t0 : x2 = 0
    ·rw [if_pos t0]
     dsimp only
     rw [br_bne_neg rfl, br_bne_neg rfl]
     exact rdj (_, _) _ _ ha hb h2.1 h2.2 (fun _ => ⟨h, .inl ⟨rfl, rfl⟩⟩)
    ·rw [if_neg t0]
     by_cases t1 : x2 = 1
     ·rw [if_pos t1]
      unfold laidK
      rw [if_pos h]
      rcases bst_cases (rd x0_0) (rd x0_1) with ⟨h0, h1, hb0⟩ | ⟨p, h0, h1, hb0⟩ | ⟨p, h0, h1, hb0⟩
      ·rw [hb0] at h; cases h
      ·rw [hb0, if_pos rfl]
       dsimp only
       rw [br_bne_neg rfl, br_bne_neg rfl]
       refine rdj p _ _ ha hcin h2.1 (by omega) (fun _ => ?_)
       rw [h0, hrc]
       by_cases hlt : (e : Int) > p.1
       ·exact ⟨by simp [bst, upB, hlt], .inr (by simp [bst, upB, hlt])⟩
       ·exact ⟨by simp [bst, upB, hlt], .inl (by simp [bst, upB, hlt])⟩
      ·rw [hb0, if_neg (show ¬ (1 : Int) = 0 by omega)]
       dsimp only
       rw [br_bne_neg rfl, br_bne_neg rfl]
       refine rdj p _ _ hcin hb (by omega) h2.2 (fun _ => ?_)
       rw [h0, hrc]
       by_cases hlt : p.1 > (e : Int)
       ·exact ⟨by simp [bst, upB, hlt], .inl (by simp [bst, upB, hlt])⟩
       ·exact ⟨by simp [bst, upB, hlt], .inr (by simp [bst, upB, hlt])⟩
     ·rw [if_neg t1]
      by_cases t2 : x2 = 2
      ·rw [if_pos t2]
       unfold laidK
       rw [if_pos h]
       rcases bst_cases (rd x0_0) (rd x0_1) with ⟨h0, h1, hb0⟩ | ⟨p, h0, h1, hb0⟩ | ⟨p, h0, h1, hb0⟩
       ·rw [hb0] at h; cases h
       ·rw [hb0, if_pos rfl]
        dsimp only
        rw [br_bne_neg rfl, br_bne_neg rfl]
        refine rdj p _ _ ha hj h2.1 (by omega) (fun hx => ?_)
        rw [h0, hx]
        exact ⟨by simp [bst, upB], .inl (by simp [bst, upB])⟩
       ·rw [hb0, if_neg (show ¬ (1 : Int) = 0 by omega)]
        dsimp only
        rw [br_bne_neg rfl, br_bne_neg rfl]
        refine rdj p _ _ hj hb (by omega) h2.2 (fun hx => ?_)
        rw [h0, hx]
        exact ⟨by simp [bst, upB], .inl (by simp [bst, upB])⟩
      ·rw [if_neg t2]
       dsimp only
       rw [br_bne_neg rfl, br_bne_pos (by omega), br_bne_pos (by omega), R28_Same _ _ _ _ (by omega) (by omega), br_pos ⟨rfl, rfl⟩, L28_awake]
   ·rw [if_neg h]
    dsimp only
    rw [br_bne_pos h, br_bne_pos h, R28_Same _ _ _ _ (by omega) (by omega), br_pos ⟨rfl, rfl⟩, L28_awake]
  ·rw [decide_eq_false h2, br_ff, L28_awake]
end Q
end
