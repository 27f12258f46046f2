/-
  XmssRight, part 24: an interpreter of my own over abstract values, the pure functions, the walks and the plain law.
-/

import Derived.Test.YtjhnljhjpnjieaaDoorXmssRightW
import Derived.Test.YtjhnljhjpnjieaaDoorXmssRightJ

/- The plain law of XmssRight. -/
namespace Q
open QK
open Go Go.Abs
set_option linter.unusedVariables false
set_option linter.unusedSimpArgs false
theorem fdivN (a b : Nat) : (a : Int).fdiv (b : Int) = ((a / b : Nat) : Int) := by rw [Int.fdiv_eq_ediv_of_nonneg _ (by omega)]; rfl
theorem XmssRight (x0 : Int) (x1 : Bool) (x2 : Bool) (x3 : List Int) (x4 : List Int) (x5 : List Int) (x6 : List Int) (x7 : Int) (wx0 : wfI .u8 x0) (nx3 : x3.length = 32) (wx3 : ∀ x, x ∈ x3 → wfI .u8 x) (nx4 : x4.length = 32) (wx4 : ∀ x, x ∈ x4 → wfI .u8 x) (nx5 : x5.length = 32) (wx5 : ∀ x, x ∈ x5 → wfI .u8 x) (nx6 : x6.length = 32) (wx6 : ∀ x, x ∈ x6 → wfI .u8 x) (wx7 : wfI .u64 x7) {ρ : Type} (k : Bool → Option ρ) : P.L18_XmssRight x0 x1 x2 x3 x4 x5 x6 x7 k = k true := by
 have h3 := in_u8 wx3
 have h4 := (in_u8 wx4)
 have h5 := (in_u8 wx5)
 have h6 := (in_u8 wx6)
 have w0 := wf_u8 wx0
 have w7 := wf_u64 wx7
 obtain ⟨n, e, hn⟩ := size3 x0 w0.1
 have hn2 : 16 ≤ n ∧ n ≤ 32 := by rcases hn with rfl | rfl | rfl <;> omega
 obtain ⟨m, em, hm⟩ : ∃ m : Nat, x7.tmod (IntKind.u64.wrap ((1 : Int) * (2 : Int) ^ 2)) = (m : Int) ∧ m < 4 := by
  refine ⟨(x7 % 4).toNat, ?_, by omega⟩
  rw [show IntKind.u64.wrap ((1 : Int) * (2 : Int) ^ 2) = 4 from rfl, Int.tmod_eq_emod_of_nonneg w7.1]
  omega
 have kd1 : Kd n 2 1 1 1 2 := ⟨by rcases hn with rfl | rfl | rfl <;> decide, rfl⟩
 have kd2 : Kd n 2 2 1 1 1 := ⟨by rcases hn with rfl | rfl | rfl <;> decide, rfl⟩
 have t4 : (x4.take n).length = n := by rw [List.length_take]; omega
 have t5 : (x5.take n).length = n := by rw [List.length_take]; omega
 have t6 : (x6.take n).length = n := by rw [List.length_take]; omega
 have i4 : In 256 (x4.take n) := h4.take n
 have i5 : In 256 (x5.take n) := h5.take n
 have i6 : In 256 (x6.take n) := h6.take n
 rw [P.L18_XmssRight_eq]; unfold P.L18_XmssRight_raw
 rw [e, em]
 simp only [List.drop_zero, Int.sub_zero, toNat_cast]
 cases x2 with
 | true =>
  have hsz : n * (2 * n + 3 + 2) ≤ 32 * 69 := Nat.mul_le_mul hn2.2 (by omega)
  have lg := sgW_len hn2.2 x1 (x5.take n) (x4.take n) x3 (x6.take n) m 2
  have kl := knW_len hn2.2 x1 (x5.take n) (x4.take n) x3 2 0
  have kl2 := knW_len hn2.2 x1 (x5.take n) (x4.take n) Z32 2 0
  have hl := cat_len (hyS_len hn2.2 x1 (x5.take n) (x4.take n) (x6.take n) 0 m 2) 1
  rw [Nat.one_mul] at hl
  have q0 : (m : Int).fdiv ((2 : Int) ^ 0) = (m : Int) := by show (m : Int).fdiv ((1 : Nat) : Int) = _; rw [fdivN, Nat.div_one]
  have q2 : (m : Int).fdiv ((2 : Int) ^ 2) = ((0 : Nat) : Int) := by show (m : Int).fdiv ((4 : Nat) : Int) = _; rw [fdivN, Nat.div_eq_of_lt hm]
  have q3 : (m : Int).tmod (IntKind.u64.wrap ((1 : Int) * (2 : Int) ^ 2)) = (m : Int) := by
   rw [show IntKind.u64.wrap ((1 : Int) * (2 : Int) ^ 2) = 4 from rfl, Int.tmod_eq_emod_of_nonneg (by omega)]; omega
  have e1 : IntKind.i64.wrap ((1 : Int) * ((n * (2 * n + 3 + 2) : Nat) : Int)) = ((n * (2 * n + 3 + 2) : Nat) : Int) := by rw [Int.one_mul, i64w (by omega) (by omega)]
  have ep : ([(0 : Int), 0, 0, 0, 0, 0, 0, 0, 0, 0, 0, 0, 0, 0, 0, 0, 0, 0, 0, 0, 0, 0, 0, 0, 0, 0, 0, 0, 0, 0, 0, 0].set 3 (IntKind.u8.wrap (IntKind.i64.wrap ((1 : Int) - (1 : Int))))) = Z32 := rfl
  rw [br_tt, br_pos (by omega), br_pos (by omega), br_pos (by omega), br_pos (by omega), br_pos (by omega), br_pos (by omega), q0, q2, q3, ep,
   xmss_Sign kd1 x1 _ _ _ x3 i6 t6 i4 t4 i5 t5 nx3 h3 m (by omega), xmss_Size kd1, lg, br_bne_neg rfl,
   xmss_Candidate kd1 x1 _ _ _ x3 (sgW_in _ _ _ _ _ _ _ _) lg i6 t6 i5 t5 nx3 h3 m (by omega), show IntKind.i64.wrap (Int.tdiv (2 : Int) (1 : Int)) = ((2 : Nat) : Int) from rfl]
  rw [show ∀ (sh : Bool) (s p a : List Int) (kk : List Int → Option ρ), P.xmss_Node (n : Int) 2 1 1 1 sh s p a ((2 : Nat) : Int) 0 kk = P.xmss_Node (n : Int) 2 1 1 1 sh s p a ((2 : Nat) : Int) ((0 : Nat) : Int) kk from fun _ _ _ _ _ => rfl,
   xmss_Node kd1 x1 _ _ x3 i4 t4 i5 t5 nx3 h3 2 0 (by omega) (by decide), tp_sg hn x1 (x5.take n) (x4.take n) x3 (x6.take n) t6 m 2 (by omega), R01_Same _ _ (by omega), decide_eq_true rfl, br_not, br_tt]
  rw [show ∀ (sh : Bool) (s p a : List Int) (kk : List Int → Option ρ), P.xmss_Node (n : Int) 2 1 1 1 sh s p a ((2 : Nat) : Int) 0 kk = P.xmss_Node (n : Int) 2 1 1 1 sh s p a ((2 : Nat) : Int) ((0 : Nat) : Int) kk from fun _ _ _ _ _ => rfl,
   xmss_Node kd1 x1 _ _ Z32 i4 t4 i5 t5 rfl Z32_in 2 0 (by omega) (by decide)]
  rw [show ∀ (sh : Bool) (t s p : List Int) (a b : Int) (kk : List Int → Option ρ), P.xmss_Hyper (n : Int) 2 1 1 1 sh t s p a b kk = P.xmss_Hyper (n : Int) 2 ((1 : Nat) : Int) 1 1 sh t s p a b kk from fun _ _ _ _ _ _ _ => rfl,
   xmss_Hyper (D := 1) kd1 (by omega) x1 _ _ _ i6 t6 i4 t4 i5 t5 0 (by decide) (by omega) 0 m (by decide) (by omega), kl2, br_beq_pos rfl, xmss_Size kd1, e1, hl, br_beq_pos rfl]
  rw [show ∀ (sh : Bool) (t s p q : List Int) (a b : Int) (kk : Bool → Option ρ), P.xmss_Verify (n : Int) 2 1 1 1 sh t s p q a b kk = P.xmss_Verify (n : Int) 2 ((1 : Nat) : Int) 1 1 sh t s p q a b kk from fun _ _ _ _ _ _ _ _ => rfl,
   xmss_Verify (D := 1) kd1 (by omega) x1 _ _ _ _ i6 t6 (cat_in (hyS_in _ _ _ _ _ _ _ _) _) (by rw [hl, Nat.one_mul]) i5 t5 kl2 (knW_in _ _ _ _ _ _ _) 0 (by decide) (by omega) 0 m (by decide) (by omega),
   hy_vr hn2.2 x1 (x5.take n) (x4.take n) (x6.take n) 0 m 2 1 1 (Nat.le_refl _), hy_top hn x1 (x5.take n) (x4.take n) (x6.take n) t6 0 m 2 0 (by omega), show plA 0 (nmb 2 0 0) = Z32 from plA_0, decide_eq_true rfl, br_tt, L18_awake]
 | false =>
  have hsz : n * (2 * n + 3 + 1) ≤ 32 * 68 := Nat.mul_le_mul hn2.2 (by omega)
  have lg := sgW_len hn2.2 x1 (x5.take n) (x4.take n) x3 (x6.take n) (m / 2) 1
  have kl := knW_len hn2.2 x1 (x5.take n) (x4.take n) x3 1 0
  have kl2 := knW_len hn2.2 x1 (x5.take n) (x4.take n) (plA 1 0) 1 0
  have hl := cat_len (hyS_len hn2.2 x1 (x5.take n) (x4.take n) (x6.take n) (m / 2) (m % 2) 1) 2
  have q0 : (m : Int).fdiv ((2 : Int) ^ 1) = ((m / 2 : Nat) : Int) := by show (m : Int).fdiv ((2 : Nat) : Int) = _; rw [fdivN]
  have q3 : (m : Int).tmod (IntKind.u64.wrap ((1 : Int) * (2 : Int) ^ 1)) = ((m % 2 : Nat) : Int) := by
   rw [show IntKind.u64.wrap ((1 : Int) * (2 : Int) ^ 1) = 2 from rfl, Int.tmod_eq_emod_of_nonneg (by omega)]; omega
  have e1 : IntKind.i64.wrap ((2 : Int) * ((n * (2 * n + 3 + 1) : Nat) : Int)) = ((2 * (n * (2 * n + 3 + 1)) : Nat) : Int) := by rw [i64w (by omega) (by omega)]; omega
  have ep : ([(0 : Int), 0, 0, 0, 0, 0, 0, 0, 0, 0, 0, 0, 0, 0, 0, 0, 0, 0, 0, 0, 0, 0, 0, 0, 0, 0, 0, 0, 0, 0, 0, 0].set 3 (IntKind.u8.wrap (IntKind.i64.wrap ((2 : Int) - (1 : Int))))) = plA 1 0 := plA_1.symm ▸ rfl
  rw [br_ff, br_pos (by omega), br_pos (by omega), br_pos (by omega), br_pos (by omega), br_pos (by omega), br_pos (by omega), q0, q3, ep,
   xmss_Sign kd2 x1 _ _ _ x3 i6 t6 i4 t4 i5 t5 nx3 h3 (m / 2) (by omega), xmss_Size kd2, lg, br_bne_neg rfl,
   xmss_Candidate kd2 x1 _ _ _ x3 (sgW_in _ _ _ _ _ _ _ _) lg i6 t6 i5 t5 nx3 h3 (m / 2) (by omega), show IntKind.i64.wrap (Int.tdiv (2 : Int) (2 : Int)) = ((1 : Nat) : Int) from rfl]
  rw [show ∀ (sh : Bool) (s p a : List Int) (kk : List Int → Option ρ), P.xmss_Node (n : Int) 2 2 1 1 sh s p a ((1 : Nat) : Int) 0 kk = P.xmss_Node (n : Int) 2 2 1 1 sh s p a ((1 : Nat) : Int) ((0 : Nat) : Int) kk from fun _ _ _ _ _ => rfl,
   xmss_Node kd2 x1 _ _ x3 i4 t4 i5 t5 nx3 h3 1 0 (by omega) (by decide), tp_sg hn x1 (x5.take n) (x4.take n) x3 (x6.take n) t6 (m / 2) 1 (by omega), R01_Same _ _ (by omega), decide_eq_true rfl, br_not, br_tt]
  rw [show ∀ (sh : Bool) (s p a : List Int) (kk : List Int → Option ρ), P.xmss_Node (n : Int) 2 2 1 1 sh s p a ((1 : Nat) : Int) 0 kk = P.xmss_Node (n : Int) 2 2 1 1 sh s p a ((1 : Nat) : Int) ((0 : Nat) : Int) kk from fun _ _ _ _ _ => rfl,
   xmss_Node kd2 x1 _ _ (plA 1 0) i4 t4 i5 t5 (plA_len _ _) (plA_in _ _) 1 0 (by omega) (by decide)]
  rw [show ∀ (sh : Bool) (t s p : List Int) (a b : Int) (kk : List Int → Option ρ), P.xmss_Hyper (n : Int) 2 2 1 1 sh t s p a b kk = P.xmss_Hyper (n : Int) 2 ((2 : Nat) : Int) 1 1 sh t s p a b kk from fun _ _ _ _ _ _ _ => rfl,
   xmss_Hyper (D := 2) kd2 (by omega) x1 _ _ _ i6 t6 i4 t4 i5 t5 1 (by decide) (by omega) (m / 2) (m % 2) (by omega) (by omega), kl2, br_beq_pos rfl, xmss_Size kd2, e1, hl, br_beq_pos rfl]
  rw [show ∀ (sh : Bool) (t s p q : List Int) (a b : Int) (kk : Bool → Option ρ), P.xmss_Verify (n : Int) 2 2 1 1 sh t s p q a b kk = P.xmss_Verify (n : Int) 2 ((2 : Nat) : Int) 1 1 sh t s p q a b kk from fun _ _ _ _ _ _ _ _ => rfl,
   xmss_Verify (D := 2) kd2 (by omega) x1 _ _ _ _ i6 t6 (cat_in (hyS_in _ _ _ _ _ _ _ _) _) hl i5 t5 kl2 (knW_in _ _ _ _ _ _ _) 1 (by decide) (by omega) (m / 2) (m % 2) (by omega) (by omega),
   hy_vr hn2.2 x1 (x5.take n) (x4.take n) (x6.take n) (m / 2) (m % 2) 1 2 2 (Nat.le_refl _), hy_top hn x1 (x5.take n) (x4.take n) (x6.take n) t6 (m / 2) (m % 2) 1 1 (by omega), show nmb 1 (m / 2) 1 = 0 from by unfold nmb; omega, decide_eq_true rfl, br_tt, L18_awake]
end Q
