/-
  SectorWrites, part P: an interpreter of my own over abstract values, the pure functions, the walks and the plain law.
-/

import Derived.Test.YtknjpkgnideplaaDoorSectorWritesO
import Derived.Test.YtknjpkgnideplaaDoorSectorWritesF
import Derived.Test.YtknjpkgnideplaaDoorSectorWritesN
import Derived.Test.YtknjpkgnideplaaDoorSectorWritesG
import Derived.Test.YtknjpkgnideplaaDoorSectorWritesH

section
/- SHA-2: blocks one behind the other, words of 64 bits. -/
namespace Q
open Go Go.Abs
set_option linter.unusedVariables false
set_option linter.unusedSimpArgs false
theorem t64_l3 (words b : List Int) (rd : Int) (t0 t1 t2 t3 h1 h2 : List Int) (hi : In 18446744073709551616 words) {ρ : Type} (k0 : List Int → List Int → Int → Int → Int → List Int → List Int → List Int → List Int → List Int → List Int → List Int → Option ρ) :
    P.sha_through_uint64_l3 b words 0 64 rd t0 t1 t2 t3 h1 h2 (List.replicate 8 0) k0 = k0 b words 8 64 rd t0 t1 t2 t3 h1 h2 (cv (toV 64 words)) := by
  rw [P.sha_through_uint64_l3_eq]
  unfold P.sha_through_uint64_L3
  refine lp_go (fun i => (b, words, (i : Int), 64, rd, t0, t1, t2, t3, h1, h2, cv ((List.range i).map fun i => BitVec.ofInt 64 (words.getD i 0)) ++ List.replicate (8 - i) 0)) 8 (by simp [cv]) (fun i hi' next hn' => ?_) (fun next => ?_) (by omega)
  · simp only [P.sha_through_uint64_r3, toNat_cast]
    have e4 : IntKind.i64.wrap ((i : Int) + 1) = ((i + 1 : Nat) : Int) := by rw [i64w (by omega) (by omega)]; omega
    have e6 : words.getD i 0 = ((BitVec.ofInt 64 (words.getD i 0)).toNat : Int) := by
      have := hi.getD i (by omega)
      rw [BitVec.toNat_ofInt]
      omega
    have e5 : (cv ((List.range i).map fun i => BitVec.ofInt 64 (words.getD i 0)) ++ List.replicate (8 - i) (0 : Int)).set i ((BitVec.ofInt 64 (words.getD i 0)).toNat : Int) = cv ((List.range (i + 1)).map fun i => BitVec.ofInt 64 (words.getD i 0)) ++ List.replicate (8 - (i + 1)) 0 := by
      rw [List.set_append_right _ _ (by simp), cv_length, List.length_map, List.length_range, Nat.sub_self, show 8 - i = (8 - (i + 1)) + 1 by omega, List.replicate_succ, List.set_cons_zero, List.range_succ, List.map_append, ← cv_append, List.append_assoc]
      rfl
    rw [br_pos (by omega), br_pos (by omega), br_pos (by omega), br_pos (by omega), br_pos (by omega), e6, e5, e4]
    exact hn'
  · simp only [P.sha_through_uint64_r3]
    rw [br_neg (by omega)]
    simp [toV]
theorem t64_l8 (v : List (BitVec 64)) (hv : v.length = 8) (b : List Int) (hb : In 256 b) (hn : b.length ≤ 1000000) (h1 h2 : List Int) {ρ : Type} (k0 : List Int → Int → List Int → List Int → List Int → Int → Int → List Int → List Int → List Int → List Int → Option ρ) :
    P.sha_through_uint64_l8 b 128 (cv v) h2 h1 64 80 [1, 8, 7] [19, 61, 6] [28, 34, 39] [14, 18, 41] k0 =
      k0 (rest 128 b) 128 (cv (thr p64 v b (b.length / 128))) h2 h1 64 80 [1, 8, 7] [19, 61, 6] [28, 34, 39] [14, 18, 41] := by
  rw [P.sha_through_uint64_l8_eq]
  unfold P.sha_through_uint64_L8
  refine lp_go (fun i => (b.drop (128 * i), 128, cv (thr p64 v b i), h2, h1, 64, 80, [1, 8, 7], [19, 61, 6], [28, 34, 39], [14, 18, 41])) (b.length / 128) (by simp [thr]) (fun i hi next hn' => ?_) (fun next => ?_) (by omega)
  · simp only [P.sha_through_uint64_r8]
    have hlen : (b.drop (128 * i)).length = b.length - 128 * i := by simp
    have hge : 128 ≤ b.length - 128 * i := by omega
    simp only [hlen, show (128 : Int).toNat = 128 from rfl, toNat_cast, List.drop_zero]
    have hbl : ((b.drop (128 * i)).take 128).length = 16 * 8 := by rw [List.length_take, hlen]; omega
    rw [br_pos (by omega), br_pos (by omega), br_pos (by omega), e64_block _ (thr_len _ _ hv _ _) _ ((hb.drop _).take _) hbl, br_pos (by omega), br_pos (by omega), br_pos (by omega),
      List.take_of_length_le (by rw [hlen]; omega), List.drop_drop, show 128 * i + 128 = 128 * (i + 1) by omega]
    exact hn'
  · simp only [P.sha_through_uint64_r8]
    have hlen : (b.drop (128 * (b.length / 128))).length = b.length - 128 * (b.length / 128) := by simp
    rw [br_neg (by rw [hlen]; omega)]
    rfl
theorem t64_l12 (v : List (BitVec 64)) (hv : v.length = 8) (b : List Int) (words h2 : List Int) (hl : words.length = 8) {ρ : Type} (k0 : List Int → List Int → Int → List Int → List Int → Option ρ) :
    P.sha_through_uint64_l12 b (cv v) 0 words h2 k0 = k0 b (cv v) 8 (cv v) h2 := by
  rw [P.sha_through_uint64_l12_eq]
  unfold P.sha_through_uint64_L12
  refine lp_go (fun i => (b, cv v, (i : Int), (cv v).take i ++ words.drop i, h2)) 8 (by simp) (fun i hi next hn' => ?_) (fun next => ?_) (by omega)
  · simp only [P.sha_through_uint64_r12, toNat_cast]
    have e4 : IntKind.i64.wrap ((i : Int) + 1) = ((i + 1 : Nat) : Int) := by rw [i64w (by omega) (by omega)]; omega
    have e5 : ((cv v).take i ++ words.drop i).set i ((cv v).getD i 0) = (cv v).take (i + 1) ++ words.drop (i + 1) := by
      rw [List.set_append_right _ _ (by rw [List.length_take]; omega), List.length_take, cv_length, hv, Nat.min_eq_left (by omega), Nat.sub_self, List.drop_eq_getElem_cons (by omega), List.set_cons_zero, ← take_step (cv v) 0 i (by rw [cv_length]; omega), List.append_assoc]
      rfl
    rw [br_pos (by omega), br_pos (by omega), br_pos (by omega), br_pos (by omega), br_pos (by omega), e5, e4]
    exact hn'
  · simp only [P.sha_through_uint64_r12]
    rw [br_neg (by omega), List.drop_eq_nil_of_le (by omega), List.append_nil, List.take_of_length_le (by rw [cv_length]; omega)]
    rfl
theorem t64_through (words b : List Int) (hl : words.length = 8) (hi : In 18446744073709551616 words) (hb : In 256 b) (hn : b.length ≤ 1000000) {ρ : Type} (k : List Int → List Int → Option ρ) :
    P.sha_through_uint64 64 80 [1, 8, 7] [19, 61, 6] [28, 34, 39] [14, 18, 41] words b k = k (cv (thr p64 (toV 64 words) b (b.length / 128))) (rest 128 b) := by
  rw [P.sha_through_uint64_eq]
  unfold P.sha_through_uint64_raw
  refine (t64_l3 words b 80 [1, 8, 7] [19, 61, 6] [28, 34, 39] [14, 18, 41] words (List.replicate 8 0) hi _).trans ?_
  rw [show IntKind.i64.wrap ((64 : Int) * 2) = 128 from rfl, t64_l8 _ (toV_len _ _) b hb hn, t64_l12 _ (thr_len _ _ (toV_len _ _) _ _) _ _ _ hl]
theorem r64_l4 (v : List (BitVec 64)) (hv : v.length = 8) (b : List Int) (hb : In 256 b) (hn : b.length ≤ 1000000) (kd : Int) (tl : List Int) (sz : Int) (a1 : Int) (a2 : List Int) (a3 : Int) {ρ : Type} (k0 : Int → List Int → Int → List Int → List Int → Int → Int → List Int → Int → Option ρ) :
    P.R07_Add_l4 128 b kd (cv v) tl sz a1 a2 a3 k0 = k0 128 (rest 128 b) kd (cv (thr p64 v b (b.length / 128))) tl sz a1 a2 a3 := by
  rw [P.R07_Add_l4_eq]
  unfold P.R07_Add_L4
  refine lp_go (fun i => (128, b.drop (128 * i), kd, cv (thr p64 v b i), tl, sz, a1, a2, a3)) (b.length / 128) (by simp [thr]) (fun i hi next hn' => ?_) (fun next => ?_) (by omega)
  · simp only [P.R07_Add_r4]
    have hlen : (b.drop (128 * i)).length = b.length - 128 * i := by simp
    have hge : 128 ≤ b.length - 128 * i := by omega
    simp only [hlen, show (128 : Int).toNat = 128 from rfl, toNat_cast, List.drop_zero]
    have hbl : ((b.drop (128 * i)).take 128).length = 16 * 8 := by rw [List.length_take, hlen]; omega
    rw [br_pos (by omega), br_pos (by omega), br_pos (by omega), show ((128 : Int) == 128) = true from rfl, r64_block _ (thr_len _ _ hv _ _) _ ((hb.drop _).take _) hbl, br_pos (by omega), br_pos (by omega), br_pos (by omega),
      List.take_of_length_le (by rw [hlen]; omega), List.drop_drop, show 128 * i + 128 = 128 * (i + 1) by omega]
    exact hn'
  · simp only [P.R07_Add_r4]
    have hlen : (b.drop (128 * (b.length / 128))).length = b.length - 128 * (b.length / 128) := by simp
    rw [br_neg (by rw [hlen]; omega)]
    rfl
end Q
end

section
open Go Go.Abs
set_option linter.unusedVariables false
namespace P
noncomputable def slices_Equal_byte_r4 {ρ : Type} (v0 : List Int) (v1 : List Int) (v12 : Int) (v13 : Int) (nx : (List Int) → (List Int) → Int → Int → Option ρ) (k0 : (List Int) → (List Int) → Int → Int → Option ρ) (k1 : Bool → Option ρ) : Option ρ :=
  br (decide (v13 < v12))
    (br (decide ((0 : Int) ≤ v13))
      (br (decide (v13 < (↑v0.length : Int)))
        (br (decide ((0 : Int) ≤ v13))
          (br (decide (v13 < (↑v1.length : Int)))
            (br (v0.getD v13.toNat (0 : Int) != v1.getD v13.toNat (0 : Int)) (k1 false)
              (nx v0 v1 v12 (IntKind.i64.wrap (v13 + (1 : Int)))))
            none)
          none)
        none)
      none)
    (k0 v0 v1 v12 v13)
noncomputable def slices_Equal_byte_L4 {ρ : Type} (v0 : List Int) (v1 : List Int) (v12 : Int) (v13 : Int) (k0 : (List Int) → (List Int) → Int → Int → Option ρ) (k1 : Bool → Option ρ) : Option ρ :=
  lp (fun (x : (List Int) × (List Int) × Int × Int) (next : ((List Int) × (List Int) × Int × Int) → Option ρ) (ex : (((List Int) × (List Int) × Int × Int) ⊕ ((Bool))) → Option ρ) => slices_Equal_byte_r4 x.1 x.2.1 x.2.2.1 x.2.2.2 (fun v0 v1 v12 v13 => next (v0, v1, v12, v13)) (fun v0 v1 v12 v13 => ex (.inl (v0, v1, v12, v13))) (fun v4 => ex (.inr v4))) (v0, v1, v12, v13) (Sum.elim (fun x => k0 x.1 x.2.1 x.2.2.1 x.2.2.2) (fun x => k1 x))
noncomputable def slices_Equal_byte_l4 {ρ : Type} (v0 : List Int) (v1 : List Int) (v12 : Int) (v13 : Int) (k0 : (List Int) → (List Int) → Int → Int → Option ρ) (k1 : Bool → Option ρ) : Option ρ := shut (slices_Equal_byte_L4 (ρ := ρ)) v0 v1 v12 v13 k0 k1
theorem slices_Equal_byte_l4_eq {ρ : Type} (v0 : List Int) (v1 : List Int) (v12 : Int) (v13 : Int) (k0 : (List Int) → (List Int) → Int → Int → Option ρ) (k1 : Bool → Option ρ) : slices_Equal_byte_l4 v0 v1 v12 v13 k0 k1 = slices_Equal_byte_L4 v0 v1 v12 v13 k0 k1 := by unfold slices_Equal_byte_l4; rw [shut_eq]
noncomputable def slices_Equal_byte_raw {ρ : Type} (a0 : List Int) (a1 : List Int) (k : Bool → Option ρ) : Option ρ :=
  br ((↑a0.length : Int) != (↑a1.length : Int)) (k false)
    (slices_Equal_byte_l4 a0 a1 (↑a0.length : Int) (0 : Int) (fun (q0 q1 : List Int) (q2 q3 : Int) => k true)
      fun (q4 : Bool) => k q4)
noncomputable def slices_Equal_byte {ρ : Type} (a0 : List Int) (a1 : List Int) (k : Bool → Option ρ) : Option ρ := shut (slices_Equal_byte_raw (ρ := ρ)) a0 a1 k
theorem slices_Equal_byte_eq {ρ : Type} (a0 : List Int) (a1 : List Int) (k : Bool → Option ρ) : slices_Equal_byte a0 a1 k = slices_Equal_byte_raw a0 a1 k := by unfold slices_Equal_byte; rw [shut_eq]
end P
end

section
/- Are two rows of bytes the same. -/
namespace Q
open Go Go.Abs
set_option linter.unusedVariables false
set_option linter.unusedSimpArgs false
theorem slices_Equal_byte (a b : List Int) (h : a.length ≤ 140737488355328) {ρ : Type} (k : Bool → Option ρ) : P.slices_Equal_byte a b k = k (decide (a = b)) := by
  rw [P.slices_Equal_byte_eq]
  unfold P.slices_Equal_byte_raw
  by_cases hl : a.length = b.length
  · rw [br_bne_neg (by omega), P.slices_Equal_byte_l4_eq]
    unfold P.slices_Equal_byte_L4
    refine lp_eq (P := fun x => ∃ j : Nat, x = (a, b, (a.length : Int), (j : Int)) ∧ j ≤ a.length ∧ (a.drop j = b.drop j ↔ a = b)) (μ := fun x => ((a.length : Int) - x.2.2.2).toNat) ?_ ⟨0, rfl, by omega, by simp⟩ (by simp only; omega)
    rintro _ ⟨j, rfl, hj, he⟩ next hn
    simp only [P.slices_Equal_byte_r4, toNat_cast, Sum.elim_inl, Sum.elim_inr]
    by_cases hji : j < a.length
    · rw [drop_step a 0 j hji, drop_step b 0 j (by omega), List.cons.injEq] at he
      by_cases hab : a.getD j 0 = b.getD j 0
      · simp (disch := omega) only [br_pos, br_neg, br_bne_pos, br_bne_neg, br_beq_pos, br_beq_neg, br_not, br_tt, br_ff, i64w]
        exact hn _ ⟨j + 1, rfl, by omega, by rw [← he]; exact ⟨fun h => ⟨hab, h⟩, fun h => h.2⟩⟩ (by simp only; omega)
      · simp (disch := omega) only [br_pos, br_neg, br_bne_pos, br_bne_neg, br_beq_pos, br_beq_neg, br_not, br_tt, br_ff, i64w]
        rw [decide_eq_false (fun e => hab (he.2 e).1)]
    · rw [br_neg (by omega), decide_eq_true (he.1 (by rw [List.drop_eq_nil_of_le (by omega), List.drop_eq_nil_of_le (by omega)]))]
  · rw [br_bne_pos (by omega), decide_eq_false (fun e => hl (by rw [e]))]
end Q
end

section
open Go Go.Abs
set_option linter.unusedVariables false
namespace P
noncomputable def sha_Fit_f1_raw {ρ : Type} (a0 : Int) (k : Bool → Option ρ) : Option ρ :=
  k (a0.fdiv ((2 : Int) ^ 32) != (0 : Int))
noncomputable def sha_Fit_f1 {ρ : Type} (a0 : Int) (k : Bool → Option ρ) : Option ρ := shut (sha_Fit_f1_raw (ρ := ρ)) a0 k
theorem sha_Fit_f1_eq {ρ : Type} (a0 : Int) (k : Bool → Option ρ) : sha_Fit_f1 a0 k = sha_Fit_f1_raw a0 k := by unfold sha_Fit_f1; rw [shut_eq]
end P
end

section
open Go Go.Abs
set_option linter.unusedVariables false
namespace P
noncomputable def sha_Fit_r2_2 {ρ : Type} (v7 : Int) (v8 : Int) (h0_0 : Int) (h0_1 : List Int) (h0_2 : List Int) (h0_3 : Int) (h1_0 : List Int) (nx : Int → Int → Int → (List Int) → (List Int) → Int → (List Int) → Option ρ) (k0 : Int → Int → Int → (List Int) → (List Int) → Int → (List Int) → Option ρ) (k1 : Int → Int → (List Int) → (List Int) → Int → (List Int) → Option ρ) : Option ρ :=
  br (decide (v8 < v7))
    (br (decide ((0 : Int) ≤ v8))
      (br (decide (v8 < (↑8 : Int)))
        (sha_Fit_f1 (h0_1.getD (0 + v8.toNat) (0 : Int)) fun (q0 : Bool) =>
          br q0 (k1 v8 h0_0 h0_1 h0_2 h0_3 h1_0) (nx v7 (IntKind.i64.wrap (v8 + (1 : Int))) h0_0 h0_1 h0_2 h0_3 h1_0))
        none)
      none)
    (k0 v7 v8 h0_0 h0_1 h0_2 h0_3 h1_0)
noncomputable def sha_Fit_L2_2 {ρ : Type} (v7 : Int) (v8 : Int) (h0_0 : Int) (h0_1 : List Int) (h0_2 : List Int) (h0_3 : Int) (h1_0 : List Int) (k0 : Int → Int → Int → (List Int) → (List Int) → Int → (List Int) → Option ρ) (k1 : Int → Int → (List Int) → (List Int) → Int → (List Int) → Option ρ) : Option ρ :=
  lp (fun (x : Int × Int × Int × (List Int) × (List Int) × Int × (List Int)) (next : (Int × Int × Int × (List Int) × (List Int) × Int × (List Int)) → Option ρ) (ex : ((Int × Int × Int × (List Int) × (List Int) × Int × (List Int)) ⊕ ((Int × Int × (List Int) × (List Int) × Int × (List Int)))) → Option ρ) => sha_Fit_r2_2 x.1 x.2.1 x.2.2.1 x.2.2.2.1 x.2.2.2.2.1 x.2.2.2.2.2.1 x.2.2.2.2.2.2 (fun v7 v8 h0_0 h0_1 h0_2 h0_3 h1_0 => next (v7, v8, h0_0, h0_1, h0_2, h0_3, h1_0)) (fun v7 v8 h0_0 h0_1 h0_2 h0_3 h1_0 => ex (.inl (v7, v8, h0_0, h0_1, h0_2, h0_3, h1_0))) (fun v4 h0_0 h0_1 h0_2 h0_3 h1_0 => ex (.inr (v4, h0_0, h0_1, h0_2, h0_3, h1_0)))) (v7, v8, h0_0, h0_1, h0_2, h0_3, h1_0) (Sum.elim (fun x => k0 x.1 x.2.1 x.2.2.1 x.2.2.2.1 x.2.2.2.2.1 x.2.2.2.2.2.1 x.2.2.2.2.2.2) (fun x => k1 x.1 x.2.1 x.2.2.1 x.2.2.2.1 x.2.2.2.2.1 x.2.2.2.2.2))
noncomputable def sha_Fit_l2_2 {ρ : Type} (v7 : Int) (v8 : Int) (h0_0 : Int) (h0_1 : List Int) (h0_2 : List Int) (h0_3 : Int) (h1_0 : List Int) (k0 : Int → Int → Int → (List Int) → (List Int) → Int → (List Int) → Option ρ) (k1 : Int → Int → (List Int) → (List Int) → Int → (List Int) → Option ρ) : Option ρ := shut (sha_Fit_L2_2 (ρ := ρ)) v7 v8 h0_0 h0_1 h0_2 h0_3 h1_0 k0 k1
theorem sha_Fit_l2_2_eq {ρ : Type} (v7 : Int) (v8 : Int) (h0_0 : Int) (h0_1 : List Int) (h0_2 : List Int) (h0_3 : Int) (h1_0 : List Int) (k0 : Int → Int → Int → (List Int) → (List Int) → Int → (List Int) → Option ρ) (k1 : Int → Int → (List Int) → (List Int) → Int → (List Int) → Option ρ) : sha_Fit_l2_2 v7 v8 h0_0 h0_1 h0_2 h0_3 h1_0 k0 k1 = sha_Fit_L2_2 v7 v8 h0_0 h0_1 h0_2 h0_3 h1_0 k0 k1 := by unfold sha_Fit_l2_2; rw [shut_eq]
noncomputable def sha_Fit_raw {ρ : Type} (a0_Kind : Int) (a0_Words : List Int) (a0_Tail : List Int) (a0_Size : Int) (k : Bool → Option ρ) : Option ρ :=
  sha_begin a0_Kind fun (q0 : List Int) (q1 : Bool) =>
    br (!q1) (k false)
      (br (decide (a0_Size ≥ (1152921504606846976 : Int))) (k false)
        (sha_blockSize a0_Kind fun (q2 : Int) =>
          br (decide (IntKind.u64.wrap q2 = (0 : Int))) none
            (br (IntKind.u64.wrap (↑a0_Tail.length : Int) != a0_Size.tmod (IntKind.u64.wrap q2)) (k false)
              (br (a0_Kind != (1 : Int)) (k true)
                (sha_Fit_l2_2 (↑8 : Int) (0 : Int) a0_Kind a0_Words a0_Tail a0_Size q0
                  (fun (q3 q4 q5 : Int) (q6 q7 : List Int) (q8 : Int) (q9 : List Int) =>
                    k !decide ((-1 : Int) ≥ (0 : Int)))
                  fun (q10 q11 : Int) (q12 q13 : List Int) (q14 : Int) (q15 : List Int) =>
                  k !decide (q10 ≥ (0 : Int)))))))
noncomputable def sha_Fit {ρ : Type} (a0_Kind : Int) (a0_Words : List Int) (a0_Tail : List Int) (a0_Size : Int) (k : Bool → Option ρ) : Option ρ := shut (sha_Fit_raw (ρ := ρ)) a0_Kind a0_Words a0_Tail a0_Size k
theorem sha_Fit_eq {ρ : Type} (a0_Kind : Int) (a0_Words : List Int) (a0_Tail : List Int) (a0_Size : Int) (k : Bool → Option ρ) : sha_Fit a0_Kind a0_Words a0_Tail a0_Size k = sha_Fit_raw a0_Kind a0_Words a0_Tail a0_Size k := by unfold sha_Fit; rw [shut_eq]
end P
end

section
open Go Go.Abs
set_option linter.unusedVariables false
namespace P
noncomputable def R07_Fit_r4 {ρ : Type} (v3 : Int) (h0_0 : Int) (h0_1 : List Int) (h0_2 : List Int) (h0_3 : Int) (nx : Int → Int → (List Int) → (List Int) → Int → Option ρ) (k0 : Int → Int → (List Int) → (List Int) → Int → Option ρ) (k1 : Bool → Int → (List Int) → (List Int) → Int → Option ρ) : Option ρ :=
  br (decide (v3 < (8 : Int)))
    (br (h0_0 == (1 : Int))
      (br (decide ((0 : Int) ≤ v3))
        (br (decide (v3 < (↑8 : Int)))
          (br (decide (h0_1.getD v3.toNat (0 : Int) ≥ (4294967296 : Int))) (k1 false h0_0 h0_1 h0_2 h0_3)
            (nx (IntKind.i64.wrap (v3 + (1 : Int))) h0_0 h0_1 h0_2 h0_3))
          none)
        none)
      (nx (IntKind.i64.wrap (v3 + (1 : Int))) h0_0 h0_1 h0_2 h0_3))
    (k0 v3 h0_0 h0_1 h0_2 h0_3)
noncomputable def R07_Fit_L4 {ρ : Type} (v3 : Int) (h0_0 : Int) (h0_1 : List Int) (h0_2 : List Int) (h0_3 : Int) (k0 : Int → Int → (List Int) → (List Int) → Int → Option ρ) (k1 : Bool → Int → (List Int) → (List Int) → Int → Option ρ) : Option ρ :=
  lp (fun (x : Int × Int × (List Int) × (List Int) × Int) (next : (Int × Int × (List Int) × (List Int) × Int) → Option ρ) (ex : ((Int × Int × (List Int) × (List Int) × Int) ⊕ ((Bool × Int × (List Int) × (List Int) × Int))) → Option ρ) => R07_Fit_r4 x.1 x.2.1 x.2.2.1 x.2.2.2.1 x.2.2.2.2 (fun v3 h0_0 h0_1 h0_2 h0_3 => next (v3, h0_0, h0_1, h0_2, h0_3)) (fun v3 h0_0 h0_1 h0_2 h0_3 => ex (.inl (v3, h0_0, h0_1, h0_2, h0_3))) (fun v2 h0_0 h0_1 h0_2 h0_3 => ex (.inr (v2, h0_0, h0_1, h0_2, h0_3)))) (v3, h0_0, h0_1, h0_2, h0_3) (Sum.elim (fun x => k0 x.1 x.2.1 x.2.2.1 x.2.2.2.1 x.2.2.2.2) (fun x => k1 x.1 x.2.1 x.2.2.1 x.2.2.2.1 x.2.2.2.2))
noncomputable def R07_Fit_l4 {ρ : Type} (v3 : Int) (h0_0 : Int) (h0_1 : List Int) (h0_2 : List Int) (h0_3 : Int) (k0 : Int → Int → (List Int) → (List Int) → Int → Option ρ) (k1 : Bool → Int → (List Int) → (List Int) → Int → Option ρ) : Option ρ := shut (R07_Fit_L4 (ρ := ρ)) v3 h0_0 h0_1 h0_2 h0_3 k0 k1
theorem R07_Fit_l4_eq {ρ : Type} (v3 : Int) (h0_0 : Int) (h0_1 : List Int) (h0_2 : List Int) (h0_3 : Int) (k0 : Int → Int → (List Int) → (List Int) → Int → Option ρ) (k1 : Bool → Int → (List Int) → (List Int) → Int → Option ρ) : R07_Fit_l4 v3 h0_0 h0_1 h0_2 h0_3 k0 k1 = R07_Fit_L4 v3 h0_0 h0_1 h0_2 h0_3 k0 k1 := by unfold R07_Fit_l4; rw [shut_eq]
noncomputable def R07_Fit_raw {ρ : Type} (a0_Kind : Int) (a0_Words : List Int) (a0_Tail : List Int) (a0_Size : Int) (k : Bool → Option ρ) : Option ρ :=
  br (decide (a0_Kind < (1 : Int))) (k false)
    (br (decide (a0_Kind > (3 : Int))) (k false)
      (br (decide (a0_Size ≥ (1152921504606846976 : Int))) (k false)
        (R07_Block a0_Kind fun (q0 : Int) =>
          br (decide (IntKind.u64.wrap q0 = (0 : Int))) none
            (br (IntKind.u64.wrap (↑a0_Tail.length : Int) != a0_Size.tmod (IntKind.u64.wrap q0)) (k false)
              (R07_Fit_l4 (0 : Int) a0_Kind a0_Words a0_Tail a0_Size
                (fun (q1 q2 : Int) (q3 q4 : List Int) (q5 : Int) => k true)
                fun (q6 : Bool) (q7 : Int) (q8 q9 : List Int) (q10 : Int) => k q6)))))
noncomputable def R07_Fit {ρ : Type} (a0_Kind : Int) (a0_Words : List Int) (a0_Tail : List Int) (a0_Size : Int) (k : Bool → Option ρ) : Option ρ := shut (R07_Fit_raw (ρ := ρ)) a0_Kind a0_Words a0_Tail a0_Size k
theorem R07_Fit_eq {ρ : Type} (a0_Kind : Int) (a0_Words : List Int) (a0_Tail : List Int) (a0_Size : Int) (k : Bool → Option ρ) : R07_Fit a0_Kind a0_Words a0_Tail a0_Size k = R07_Fit_raw a0_Kind a0_Words a0_Tail a0_Size k := by unfold R07_Fit; rw [shut_eq]
end P
end

section
open Go Go.Abs
set_option linter.unusedVariables false
namespace P
noncomputable def sha_Same_raw {ρ : Type} (a0_Kind : Int) (a0_Words : List Int) (a0_Tail : List Int) (a0_Size : Int) (a1_Kind : Int) (a1_Words : List Int) (a1_Tail : List Int) (a1_Size : Int) (k : Bool → Option ρ) : Option ρ :=
  br (a0_Kind == a1_Kind)
    (br (decide (a0_Words = a1_Words))
      (br (a0_Size == a1_Size) (slices_Equal_byte a0_Tail a1_Tail fun (q0 : Bool) => k q0) (k false)) (k false))
    (k false)
noncomputable def sha_Same {ρ : Type} (a0_Kind : Int) (a0_Words : List Int) (a0_Tail : List Int) (a0_Size : Int) (a1_Kind : Int) (a1_Words : List Int) (a1_Tail : List Int) (a1_Size : Int) (k : Bool → Option ρ) : Option ρ := shut (sha_Same_raw (ρ := ρ)) a0_Kind a0_Words a0_Tail a0_Size a1_Kind a1_Words a1_Tail a1_Size k
theorem sha_Same_eq {ρ : Type} (a0_Kind : Int) (a0_Words : List Int) (a0_Tail : List Int) (a0_Size : Int) (a1_Kind : Int) (a1_Words : List Int) (a1_Tail : List Int) (a1_Size : Int) (k : Bool → Option ρ) : sha_Same a0_Kind a0_Words a0_Tail a0_Size a1_Kind a1_Words a1_Tail a1_Size k = sha_Same_raw a0_Kind a0_Words a0_Tail a0_Size a1_Kind a1_Words a1_Tail a1_Size k := by unfold sha_Same; rw [shut_eq]
end P
end

section
open Go Go.Abs
set_option linter.unusedVariables false
namespace P
noncomputable def R07_Same_raw {ρ : Type} (a0_Kind : Int) (a0_Words : List Int) (a0_Tail : List Int) (a0_Size : Int) (a1_Kind : Int) (a1_Words : List Int) (a1_Tail : List Int) (a1_Size : Int) (k : Bool → Option ρ) : Option ρ :=
  br (a0_Kind == a1_Kind)
    (br (decide (a0_Words = a1_Words))
      (br (a0_Size == a1_Size) (R01_Same a0_Tail a1_Tail fun (q0 : Bool) => k q0) (k false)) (k false))
    (k false)
noncomputable def R07_Same {ρ : Type} (a0_Kind : Int) (a0_Words : List Int) (a0_Tail : List Int) (a0_Size : Int) (a1_Kind : Int) (a1_Words : List Int) (a1_Tail : List Int) (a1_Size : Int) (k : Bool → Option ρ) : Option ρ := shut (R07_Same_raw (ρ := ρ)) a0_Kind a0_Words a0_Tail a0_Size a1_Kind a1_Words a1_Tail a1_Size k
theorem R07_Same_eq {ρ : Type} (a0_Kind : Int) (a0_Words : List Int) (a0_Tail : List Int) (a0_Size : Int) (a1_Kind : Int) (a1_Words : List Int) (a1_Tail : List Int) (a1_Size : Int) (k : Bool → Option ρ) : R07_Same a0_Kind a0_Words a0_Tail a0_Size a1_Kind a1_Words a1_Tail a1_Size k = R07_Same_raw a0_Kind a0_Words a0_Tail a0_Size a1_Kind a1_Words a1_Tail a1_Size k := by unfold R07_Same; rw [shut_eq]
end P
end

section
/- SHA-2: sums that go on, and their ends. -/
namespace Q
open Go Go.Abs
set_option linter.unusedVariables false
set_option linter.unusedSimpArgs false
def bsz (kind : Int) : Nat := if kind = 1 then 64 else 128
theorem bsz_or (kind : Int) : (kind = 1 ∧ bsz kind = 64) ∨ (kind ≠ 1 ∧ bsz kind = 128) := by
  unfold bsz
  by_cases h : kind = 1
  · exact .inl ⟨h, if_pos h⟩
  · exact .inr ⟨h, if_neg h⟩
theorem sha_blockSize (kind : Int) {ρ : Type} (k : Int → Option ρ) : P.sha_blockSize kind k = k ((bsz kind : Nat) : Int) := by
  rw [P.sha_blockSize_eq]; unfold P.sha_blockSize_raw
  rcases bsz_or kind with ⟨h, e⟩ | ⟨h, e⟩
  · rw [br_beq_pos h, e]; rfl
  · rw [br_beq_neg h, e]; rfl
theorem R07_Block (kind : Int) {ρ : Type} (k : Int → Option ρ) : P.R07_Block kind k = k ((bsz kind : Nat) : Int) := by
  rw [P.R07_Block_eq]; unfold P.R07_Block_raw
  rcases bsz_or kind with ⟨h, e⟩ | ⟨h, e⟩
  · rw [br_beq_pos h, e]; rfl
  · rw [br_beq_neg h, e]; rfl
def addW (kind : Int) (words all : List Int) : List Int :=
  if kind = 1 then cv (thr p32 (toV 32 words) all (all.length / 64)) else cv (thr p64 (toV 64 words) all (all.length / 128))
theorem addW_len (kind : Int) (words all : List Int) : (addW kind words all).length = 8 := by
  unfold addW
  split <;> rw [cv_length, thr_len _ _ (toV_len _ _)]
def Wok (kind : Int) (words : List Int) : Prop := words.length = 8 ∧ In 18446744073709551616 words ∧ (kind = 1 → In 4294967296 words)
theorem addW_ok (kind : Int) (words all : List Int) : Wok kind (addW kind words all) := by
  refine ⟨addW_len _ _ _, ?_, fun h => ?_⟩
  · unfold addW
    split
    · intro x hx
      have := cv_in _ x hx
      omega
    · intro x hx
      have := cv_in _ x hx
      omega
  · unfold addW
    rw [if_pos h]
    intro x hx
    have := cv_in _ x hx
    omega
theorem rest_len (n : Nat) (hn : 0 < n) (b : List Int) : (rest n b).length = b.length % n := by
  unfold rest
  rw [List.length_drop]
  have := Nat.div_add_mod b.length n
  omega
theorem rest_in {n : Nat} {b : List Int} (h : In 256 b) : In 256 (rest n b) := h.drop _
theorem sha_small {ρ : Type} (k : Int → Int → List Int → List Int → List Int → List Int → Option ρ) : P.sha_small k = k 32 64 [7, 18, 3] [17, 19, 10] [2, 13, 22] [6, 11, 25] := by rw [P.sha_small_eq]; rfl
theorem sha_great {ρ : Type} (k : Int → Int → List Int → List Int → List Int → List Int → Option ρ) : P.sha_great k = k 64 80 [1, 8, 7] [19, 61, 6] [28, 34, 39] [14, 18, 41] := by rw [P.sha_great_eq]; rfl
theorem sha_Add (kind : Int) (words tail : List Int) (size : Int) (b : List Int) (hl : words.length = 8) (hi : In 18446744073709551616 words) (ht : In 256 tail) (hb : In 256 b) (hn : tail.length + b.length ≤ 1000000) {ρ : Type} (k : Int → List Int → List Int → Int → Option ρ) :
    P.sha_Add kind words tail size b k = k kind (addW kind words (tail ++ b)) (rest (bsz kind) (tail ++ b)) (IntKind.u64.wrap (size + IntKind.u64.wrap (b.length : Int))) := by
  rw [P.sha_Add_eq]; unfold P.sha_Add_raw
  have hf : [tail, b].flatten = tail ++ b := by simp
  have hall : (tail ++ b).length ≤ 1000000 := by rw [List.length_append]; exact hn
  have hin : In 256 (tail ++ b) := ht.app hb
  have hr : ∀ n, (rest n (tail ++ b)).length ≤ 1000000 := fun n => by unfold rest; rw [List.length_drop]; omega
  rw [slices_Concat_byte _ (by simp) (by rw [hf]; omega), hf]
  rcases bsz_or kind with ⟨h, e⟩ | ⟨h, e⟩
  · rw [br_beq_pos h, sha_small, e]
    rw [t32_through words _ hl hi hin hall]
    unfold P.slices_Clone_byte addW
    have := hr 64
    rw [br_pos (by omega), if_pos h]
  · rw [br_beq_neg h, sha_great, e]
    rw [t64_through words _ hl hi hin hall]
    unfold P.slices_Clone_byte addW
    have := hr 128
    rw [br_pos (by omega), if_neg h]
theorem R07_Add (kind : Int) (words tail : List Int) (size : Int) (b : List Int) (hw : Wok kind words) (ht : In 256 tail) (hb : In 256 b) (hn : tail.length + b.length ≤ 1000000) {ρ : Type} (k : Int → List Int → List Int → Int → Option ρ) :
    P.R07_Add kind words tail size b k = k kind (addW kind words (tail ++ b)) (rest (bsz kind) (tail ++ b)) (IntKind.u64.wrap (size + IntKind.u64.wrap (b.length : Int))) := by
  rw [P.R07_Add_eq]; unfold P.R07_Add_raw
  obtain ⟨hl, hi, h1⟩ := hw
  have hf : [tail, b].flatten = tail ++ b := by simp
  have hall : (tail ++ b).length ≤ 1000000 := by rw [List.length_append]; exact hn
  have hin : In 256 (tail ++ b) := ht.app hb
  rw [R07_Block, R01_Join _ (by simp) (by rw [hf]; omega), hf]
  rcases bsz_or kind with ⟨h, e⟩ | ⟨h, e⟩
  · have hv := cv_toV 32 words hl (h1 h)
    rw [e]
    conv => lhs; rw [← hv]
    rw [show ((64 : Nat) : Int) = 64 from rfl, r32_l4 _ (toV_len _ _) _ hin hall]
    unfold addW
    rw [if_pos h]
  · have hv := cv_toV 64 words hl hi
    rw [e]
    conv => lhs; rw [← hv]
    rw [show ((128 : Nat) : Int) = 128 from rfl, r64_l4 _ (toV_len _ _) _ hin hall]
    unfold addW
    rw [if_neg h]
def padZ (kind : Int) (tl : Nat) : Nat := if kind = 1 then (119 - tl) % 64 else (239 - tl) % 128 + 8
def pad (kind : Int) (tl : Nat) (size : Nat) : List Int := 128 :: List.replicate (padZ kind tl) 0 ++ (bsw 8 8 (size * 8 % 2 ^ 64)).reverse
def outI (n : Nat) (words : List Int) (i : Nat) : List Int := ((List.range i).map fun j => (bsw 8 n (words.getD j 0).toNat).reverse).flatten
theorem outI_succ (n : Nat) (words : List Int) (i : Nat) : outI n words (i + 1) = outI n words i ++ (bsw 8 n (words.getD i 0).toNat).reverse := by simp [outI, List.range_succ]
theorem outI_len (n : Nat) (words : List Int) : ∀ i, (outI n words i).length = n * i
  | 0 => by simp [outI]
  | i + 1 => by rw [outI_succ, List.length_append, outI_len n words i, List.length_reverse, bsw_length, Nat.mul_succ]
theorem outI_in (n : Nat) (words : List Int) : ∀ i, In 256 (outI n words i)
  | 0 => by simp [outI, In]
  | i + 1 => by rw [outI_succ]; exact (outI_in n words i).app (bsw_in 8 n _).rev
def endS (kind : Int) (words tail : List Int) (size : Nat) : List Int :=
  let o := outI (bsz kind / 16) (addW kind words (tail ++ pad kind tail.length size)) 8
  if kind = 2 then o.take 48 else o
theorem endS_in (kind : Int) (words tail : List Int) (size : Nat) : In 256 (endS kind words tail size) := by
  unfold endS
  simp only
  split
  · exact (outI_in _ _ _).take _
  · exact outI_in _ _ _
theorem endS_len (kind : Int) (words tail : List Int) (size : Nat) : (endS kind words tail size).length = if kind = 1 then 32 else if kind = 2 then 48 else 64 := by
  unfold endS
  simp only
  rcases bsz_or kind with ⟨h, e⟩ | ⟨h, e⟩
  · rw [if_neg (by omega), if_pos h, outI_len, e]
  · rw [if_neg h, e]
    split
    · rw [List.length_take, outI_len]; decide
    · rw [outI_len]
theorem tmN (a b : Nat) : ((a : Nat) : Int).tmod (b : Int) = ((a % b : Nat) : Int) := by
  rw [Int.tmod_eq_emod_of_nonneg (by omega)]; rfl
theorem pad_in (kind : Int) (tl size : Nat) : In 256 (pad kind tl size) := by
  unfold pad
  refine In.app ?_ (bsw_in 8 8 _).rev
  intro x hx
  rcases List.mem_cons.1 hx with rfl | hx
  · omega
  · rw [List.mem_replicate] at hx; omega
theorem pad_len (kind : Int) (tl size : Nat) : (pad kind tl size).length = padZ kind tl + 9 := by
  unfold pad; simp
theorem padZ_le (kind : Int) (tl : Nat) : padZ kind tl ≤ 200 := by
  unfold padZ; split <;> omega
theorem sha_outs (n : Nat) (hn : n = 64 ∨ n = 128) (words : List Int) (hw : In 18446744073709551616 words) (a : Int) (b : List Int) (c : Int) (d : List Int) {ρ : Type} (k0 : Int → List Int → Int → List Int → Int → List Int → Int → List Int → Option ρ) :
    P.sha_End_l10 (n : Int) words 0 [] a b c d k0 = k0 (n : Int) words 8 (outI (n / 16) words 8) a b c d := by
  rw [P.sha_End_l10_eq]
  unfold P.sha_End_L10
  have e16 : IntKind.i64.wrap ((n : Int).tdiv 16) = ((n / 16 : Nat) : Int) := by rcases hn with rfl | rfl <;> rfl
  refine lp_go (fun i => ((n : Int), words, (i : Int), outI (n / 16) words i, a, b, c, d)) 8 rfl (fun i hi next hn' => ?_) (fun next => ?_) (by omega)
  · simp only [P.sha_End_r10, toNat_cast]
    have h1 := hw.getD i (by omega)
    have e4 : IntKind.i64.wrap ((i : Int) + 1) = ((i + 1 : Nat) : Int) := by rw [i64w (by omega) (by omega)]; omega
    have e5 : words.getD i 0 = (((words.getD i 0).toNat : Nat) : Int) := by omega
    rw [outI_succ] at hn'
    rw [br_pos (by omega), br_pos (by omega), br_pos (by omega), e16, e5, bits_Be _ _ (by omega) (by omega), e4]
    rw [br_pos (by rw [outI_len, List.length_reverse, bsw_length]; rcases hn with rfl | rfl <;> omega)]
    exact hn'
  · simp only [P.sha_End_r10]
    rw [br_neg (by omega)]
    rfl
theorem shl3 (size : Nat) : IntKind.u64.wrap ((size : Int) * (2 : Int) ^ 3) = ((size * 8 % 2 ^ 64 : Nat) : Int) := by
  rw [u64m]; omega
theorem sha_End (kind : Int) (words tail : List Int) (size : Nat) (hl : words.length = 8) (hi : In 18446744073709551616 words) (ht : In 256 tail) (hn : tail.length < bsz kind) {ρ : Type} (k : List Int → Option ρ) :
    P.sha_End kind words tail (size : Int) k = k (endS kind words tail size) := by
  rw [P.sha_End_eq]; unfold P.sha_End_raw
  rw [sha_blockSize]
  have hz : IntKind.i64.wrap (IntKind.i64.wrap ((IntKind.i64.wrap (IntKind.i64.wrap (IntKind.i64.wrap (IntKind.i64.wrap ((2 : Int) * ((bsz kind : Nat) : Int)) - (1 : Int)) - IntKind.i64.wrap (((bsz kind : Nat) : Int).tdiv (8 : Int))) - (tail.length : Int))).tmod ((bsz kind : Nat) : Int) + IntKind.i64.wrap (((bsz kind : Nat) : Int).tdiv (8 : Int))) - (8 : Int)) = ((padZ kind tail.length : Nat) : Int) := by
    unfold padZ
    rcases bsz_or kind with ⟨h, e⟩ | ⟨h, e⟩
    · rw [e] at hn ⊢
      rw [if_pos h, show IntKind.i64.wrap (IntKind.i64.wrap (IntKind.i64.wrap ((2 : Int) * ((64 : Nat) : Int)) - (1 : Int)) - IntKind.i64.wrap (((64 : Nat) : Int).tdiv (8 : Int))) = 119 from rfl, i64w (x := (119 : Int) - (tail.length : Int)) (by omega) (by omega),
        show (119 : Int) - (tail.length : Int) = ((119 - tail.length : Nat) : Int) by omega, tmN, show IntKind.i64.wrap (((64 : Nat) : Int).tdiv (8 : Int)) = 8 from rfl, i64w (x := ((((119 - tail.length) % 64 : Nat) : Int)) + 8) (by omega) (by omega), i64w (by omega) (by omega)]
      omega
    · rw [e] at hn ⊢
      rw [if_neg h, show IntKind.i64.wrap (IntKind.i64.wrap (IntKind.i64.wrap ((2 : Int) * ((128 : Nat) : Int)) - (1 : Int)) - IntKind.i64.wrap (((128 : Nat) : Int).tdiv (8 : Int))) = 239 from rfl, i64w (x := (239 : Int) - (tail.length : Int)) (by omega) (by omega),
        show (239 : Int) - (tail.length : Int) = ((239 - tail.length : Nat) : Int) by omega, tmN, show IntKind.i64.wrap (((128 : Nat) : Int).tdiv (8 : Int)) = 16 from rfl, i64w (x := ((((239 - tail.length) % 128 : Nat) : Int)) + 16) (by omega) (by omega), i64w (by omega) (by omega)]
      omega
  have hb : bsz kind = 64 ∨ bsz kind = 128 := by rcases bsz_or kind with ⟨h, e⟩ | ⟨h, e⟩ <;> omega
  have hz2 := padZ_le kind tail.length
  rw [hz]
  simp only [toNat_cast]
  rw [br_pos (by omega), br_pos (by omega), br_neg (by omega), br_pos (by omega), br_pos (by omega), shl3, show (8 : Int) = ((8 : Nat) : Int) from rfl, bits_Be _ 8 (by omega) (by omega)]
  have hp : (List.replicate 1 (0 : Int)).set 0 (128 : Int) ++ List.replicate (padZ kind tail.length) (0 : Int) ++ (bsw 8 8 (size * 8 % 2 ^ 64)).reverse = pad kind tail.length size := rfl
  rw [br_pos (by
    show ((List.replicate (padZ kind tail.length) (0 : Int)).length + 0 + 1 + _) * 1 ≤ _
    rw [List.length_replicate, List.length_reverse, bsw_length]; omega), hp]
  have hpl := pad_len kind tail.length size
  rw [sha_Add kind words tail _ _ hl hi ht (pad_in _ _ _) (by omega), sha_outs _ hb _ (addW_ok _ _ _).2.1]
  unfold endS
  simp only
  by_cases h2 : kind = 2
  · have e : bsz kind = 128 := by unfold bsz; rw [if_neg (by omega)]
    rw [br_beq_pos h2, br_pos (by rw [outI_len, e]; omega), if_pos h2]
    rfl
  · rw [br_beq_neg h2, if_neg h2]
theorem pads (n : Nat) (hn : n = 64 ∨ n = 128) (tl : Nat) (ht : tl < 200) (z m : Nat) (hm : m < n) (h1 : ∀ i, i < z → (tl + (1 + i)) % n ≠ m) (h2 : (tl + (1 + z)) % n = m) (hz : z ≤ 200) (c : Int) (kd : Int) (words tail : List Int) (size : Int) (hl : tail.length = tl) (d : Int) (hd : IntKind.i64.wrap ((n : Int) - d) = (m : Int)) :
    (d = 8 → ∀ {ρ : Type} (k0 : Int → Int → List Int → Int → List Int → List Int → Int → Option ρ), P.R07_End_l4 (n : Int) c [128] kd words tail size k0 = k0 (n : Int) c (128 :: List.replicate z 0) kd words tail size) ∧
    (d = 16 → ∀ {ρ : Type} (k0 : Int → Int → List Int → Int → List Int → List Int → Int → Option ρ), P.R07_End_l8 (n : Int) c [128] kd words tail size k0 = k0 (n : Int) c (128 :: List.replicate z 0) kd words tail size) := by
  have hlen : ∀ i : Nat, ((128 : Int) :: List.replicate i 0).length = 1 + i := fun i => by simp; omega
  have hc : ∀ i : Nat, i ≤ z → IntKind.i64.wrap (((tail.length : Nat) : Int) + ((((128 : Int) :: List.replicate i 0).length : Nat) : Int)) = ((tl + (1 + i) : Nat) : Int) := fun i hi => by
    rw [hlen, hl, i64w (by omega) (by omega)]; omega
  have hs : ∀ i : Nat, ((128 : Int) :: List.replicate i 0) ++ [(0 : Int)] = 128 :: List.replicate (i + 1) 0 := fun i => by
    rw [List.replicate_succ']; rfl
  constructor
  · rintro rfl ρ k0
    rw [P.R07_End_l4_eq]
    unfold P.R07_End_L4
    refine lp_go (fun i => ((n : Int), c, 128 :: List.replicate i 0, kd, words, tail, size)) z rfl (fun i hi next hn' => ?_) (fun next => ?_) (by omega)
    · simp only [P.R07_End_r4]
      have := h1 i hi
      rw [hc i (by omega), tmN, hd, br_neg (by omega), br_bne_pos (by omega), br_pos (by rw [hlen]; omega), hs]
      exact hn'
    · simp only [P.R07_End_r4]
      rw [hc z (by omega), tmN, hd, br_neg (by omega), h2, br_bne_neg (by rfl)]
  · rintro rfl ρ k0
    rw [P.R07_End_l8_eq]
    unfold P.R07_End_L8
    refine lp_go (fun i => ((n : Int), c, 128 :: List.replicate i 0, kd, words, tail, size)) z rfl (fun i hi next hn' => ?_) (fun next => ?_) (by omega)
    · simp only [P.R07_End_r8]
      have := h1 i hi
      rw [hc i (by omega), tmN, hd, br_neg (by omega), br_bne_pos (by omega), br_pos (by rw [hlen]; omega), hs]
      exact hn'
    · simp only [P.R07_End_r8]
      rw [hc z (by omega), tmN, hd, br_neg (by omega), h2, br_bne_neg (by rfl)]
theorem R07_outs (n : Nat) (hn : n = 64 ∨ n = 128) (words : List Int) (hw : In 18446744073709551616 words) (a : Int) (b : List Int) (c : Int) {ρ : Type} (k0 : Int → Int → List Int → Int → List Int → List Int → Int → Option ρ) :
    P.R07_End_l14 (n : Int) 0 [] a words b c k0 = k0 (n : Int) 8 (outI (n / 16) words 8) a words b c := by
  rw [P.R07_End_l14_eq]
  unfold P.R07_End_L14
  have e16 : IntKind.i64.wrap ((n : Int).tdiv 16) = ((n / 16 : Nat) : Int) := by rcases hn with rfl | rfl <;> rfl
  refine lp_go (fun i => ((n : Int), (i : Int), outI (n / 16) words i, a, words, b, c)) 8 rfl (fun i hi next hn' => ?_) (fun next => ?_) (by omega)
  · simp only [P.R07_End_r14, toNat_cast]
    have h1 := hw.getD i (by omega)
    have e4 : IntKind.i64.wrap ((i : Int) + 1) = ((i + 1 : Nat) : Int) := by rw [i64w (by omega) (by omega)]; omega
    have e5 : words.getD i 0 = (((words.getD i 0).toNat : Nat) : Int) := by omega
    rw [outI_succ] at hn'
    rw [br_pos (by omega), br_pos (by omega), br_pos (by omega), e16, e5, R01_Be _ _ (by omega) (by omega), e4]
    rw [br_pos (by rw [outI_len, List.length_reverse, bsw_length]; rcases hn with rfl | rfl <;> omega)]
    exact hn'
  · simp only [P.R07_End_r14]
    rw [br_neg (by omega)]
    rfl
theorem R07_tail (kind : Int) (words tail : List Int) (size : Nat) {ρ : Type} (k : List Int → Option ρ) :
    (br (kind == (2 : Int)) (br (decide ((48 : Int) ≤ ((outI (bsz kind / 16) (addW kind words (tail ++ pad kind tail.length size)) 8).length : Int))) (k (List.take ((48 : Int) - (0 : Int)).toNat (outI (bsz kind / 16) (addW kind words (tail ++ pad kind tail.length size)) 8))) none)
      (k (outI (bsz kind / 16) (addW kind words (tail ++ pad kind tail.length size)) 8))) = k (endS kind words tail size) := by
  unfold endS
  simp only
  by_cases h2 : kind = 2
  · have e : bsz kind = 128 := by unfold bsz; rw [if_neg (by omega)]
    rw [br_beq_pos h2, br_pos (by rw [outI_len, e]; omega), if_pos h2]
    rfl
  · rw [br_beq_neg h2, if_neg h2]
theorem R07_End (kind : Int) (words tail : List Int) (size : Nat) (hw : Wok kind words) (ht : In 256 tail) (hn : tail.length < bsz kind) (hs : size < 2305843009213693952) {ρ : Type} (k : List Int → Option ρ) :
    P.R07_End kind words tail (size : Int) k = k (endS kind words tail size) := by
  rw [P.R07_End_eq]; unfold P.R07_End_raw
  have h8 : IntKind.u64.wrap ((size : Int) * 8) = ((size * 8 % 2 ^ 64 : Nat) : Int) := by rw [u64m]; omega
  have hpl := pad_len kind tail.length size
  have hz2 := padZ_le kind tail.length
  rw [R07_Block, h8]
  rcases bsz_or kind with ⟨h, e⟩ | ⟨h, e⟩
  · rw [e] at hn ⊢
    have hp := (pads 64 (.inl rfl) tail.length (by omega) (padZ kind tail.length) 56 (by omega) (fun i hi => by unfold padZ at hi; rw [if_pos h] at hi; omega) (by unfold padZ; rw [if_pos h]; omega) hz2 ((size * 8 % 2 ^ 64 : Nat) : Int) kind words tail (size : Int) rfl 8 rfl).1
    rw [hp rfl, br_beq_neg (by decide), show (8 : Int) = ((8 : Nat) : Int) from rfl, R01_Be _ 8 (by omega) (by omega), br_pos (by simp; omega)]
    have hpad : (128 : Int) :: List.replicate (padZ kind tail.length) 0 ++ (bsw 8 8 (size * 8 % 2 ^ 64)).reverse = pad kind tail.length size := rfl
    rw [hpad, R07_Add kind words tail _ _ hw ht (pad_in _ _ _) (by omega), R07_outs _ (.inl rfl) _ (addW_ok _ _ _).2.1]
    have := R07_tail kind words tail size k
    rw [e] at this
    exact this
  · rw [e] at hn ⊢
    have hp1 := (pads 128 (.inr rfl) tail.length (by omega) ((247 - tail.length) % 128) 120 (by omega) (fun i hi => by omega) (by omega) (by omega) ((size * 8 % 2 ^ 64 : Nat) : Int) kind words tail (size : Int) rfl 8 rfl).1
    have hp2 := (pads 128 (.inr rfl) tail.length (by omega) ((239 - tail.length) % 128) 112 (by omega) (fun i hi => by omega) (by omega) (by omega) ((size * 8 % 2 ^ 64 : Nat) : Int) kind words tail (size : Int) rfl 16 rfl).2
    have h61 : ((size : Nat) : Int).fdiv ((2 : Int) ^ 61) = ((0 : Nat) : Int) := by
      have := fdiv_pow size 61 61 (by omega)
      rw [Nat.div_eq_of_lt (by omega)] at this
      exact this
    rw [hp1 rfl, br_beq_pos (by rfl), hp2 rfl, h61, show (8 : Int) = ((8 : Nat) : Int) from rfl, R01_Be _ 8 (by omega) (by omega), br_pos (by simp; omega), R01_Be _ 8 (by omega) (by omega), br_pos (by simp; omega)]
    have hpad : (128 : Int) :: List.replicate ((239 - tail.length) % 128) 0 ++ (bsw 8 8 0).reverse ++ (bsw 8 8 (size * 8 % 2 ^ 64)).reverse = pad kind tail.length size := by
      unfold pad padZ
      rw [if_neg h, ← List.replicate_append_replicate]
      rfl
    rw [hpad, R07_Add kind words tail _ _ hw ht (pad_in _ _ _) (by omega), R07_outs _ (.inr rfl) _ (addW_ok _ _ _).2.1]
    have := R07_tail kind words tail size k
    rw [e] at this
    exact this
def newW (kind : Int) : List Int :=
  if kind = 1 then [1779033703, 3144134277, 1013904242, 2773480762, 1359893119, 2600822924, 528734635, 1541459225]
  else if kind = 2 then [14680500436340154072, 7105036623409894663, 10473403895298186519, 1526699215303891257, 7436329637833083697, 10282925794625328401, 15784041429090275239, 5167115440072839076]
  else [7640891576956012808, 13503953896175478587, 4354685564936845355, 11912009170470909681, 5840696475078001361, 11170449401992604703, 2270897969802886507, 6620516959819538809]
theorem newW_ok (kind : Int) : Wok kind (newW kind) := by
  unfold newW Wok
  by_cases h1 : kind = 1
  · simp only [if_pos h1]
    refine ⟨rfl, ?_, fun _ => ?_⟩
    · unfold In; decide
    · unfold In; decide
  · by_cases h2 : kind = 2
    · simp only [if_neg h1, if_pos h2]
      refine ⟨rfl, ?_, fun h => absurd h h1⟩
      unfold In; decide
    · simp only [if_neg h1, if_neg h2]
      refine ⟨rfl, ?_, fun h => absurd h h1⟩
      unfold In; decide
def K3 (kind : Int) : Prop := kind = 1 ∨ kind = 2 ∨ kind = 3
theorem k3_or (kind : Int) : K3 kind ∨ (kind ≠ 1 ∧ kind ≠ 2 ∧ kind ≠ 3) := by
  unfold K3; omega
theorem sha_begin_k {kind : Int} (h : K3 kind) {ρ : Type} (k : List Int → Bool → Option ρ) : P.sha_begin kind k = k (newW kind) true := by
  rw [P.sha_begin_eq]
  rcases h with rfl | rfl | rfl <;> kernel_rfl
theorem sha_begin_no {kind : Int} (h : kind ≠ 1 ∧ kind ≠ 2 ∧ kind ≠ 3) {ρ : Type} (k : List Int → Bool → Option ρ) : P.sha_begin kind k = k (List.replicate 8 0) false := by
  rw [P.sha_begin_eq]; unfold P.sha_begin_raw
  rw [br_beq_neg h.1, br_beq_neg h.2.1, br_beq_neg h.2.2]; rfl
theorem sha_New {kind : Int} (h : K3 kind) {ρ : Type} (k : Int → List Int → List Int → Int → Int → Option ρ) : P.sha_New kind k = k kind (newW kind) [] 0 0 := by
  rw [P.sha_New_eq]; unfold P.sha_New_raw
  rw [sha_begin_k h, br_not, br_tt]
theorem sha_New_no {kind : Int} (h : kind ≠ 1 ∧ kind ≠ 2 ∧ kind ≠ 3) {ρ : Type} (k : Int → List Int → List Int → Int → Int → Option ρ) : P.sha_New kind k = k 0 (List.replicate 8 0) [] 0 9 := by
  rw [P.sha_New_eq]; unfold P.sha_New_raw
  rw [sha_begin_no h, br_not, br_ff]; rfl
theorem R07_New {kind : Int} (h : K3 kind) {ρ : Type} (k : Int → List Int → List Int → Int → Int → Option ρ) : P.R07_New kind k = k kind (newW kind) [] 0 0 := by
  rw [P.R07_New_eq]; unfold P.R07_New_raw newW
  rcases h with rfl | rfl | rfl
  · rw [br_beq_pos (by rfl)]; rfl
  · rw [br_beq_neg (by decide), br_beq_pos (by rfl)]; rfl
  · rw [br_beq_neg (by decide), br_beq_neg (by decide), br_beq_pos (by rfl)]; rfl
theorem R07_New_no {kind : Int} (h : kind ≠ 1 ∧ kind ≠ 2 ∧ kind ≠ 3) {ρ : Type} (k : Int → List Int → List Int → Int → Int → Option ρ) : P.R07_New kind k = k 0 (List.replicate 8 0) [] 0 9 := by
  rw [P.R07_New_eq]; unfold P.R07_New_raw
  rw [br_beq_neg h.1, br_beq_neg h.2.1, br_beq_neg h.2.2]; rfl
theorem bsz_pos (kind : Int) : 0 < bsz kind := by rcases bsz_or kind with ⟨h, e⟩ | ⟨h, e⟩ <;> omega
def sumS (kind : Int) (b : List Int) : List Int := endS kind (addW kind (newW kind) b) (rest (bsz kind) b) b.length
theorem size_add (b : List Int) (hn : b.length ≤ 1000000) : IntKind.u64.wrap ((0 : Int) + IntKind.u64.wrap (b.length : Int)) = ((b.length : Nat) : Int) := by
  rw [u64n _ (by omega), Int.zero_add, u64n _ (by omega)]
theorem sha_Sum {kind : Int} (h : K3 kind) (b : List Int) (hb : In 256 b) (hn : b.length ≤ 1000000) {ρ : Type} (k : List Int → Int → Option ρ) : P.sha_Sum kind b k = k (sumS kind b) 0 := by
  rw [P.sha_Sum_eq]; unfold P.sha_Sum_raw
  have hw := newW_ok kind
  have hr := rest_len _ (bsz_pos kind) b
  have hlt := Nat.mod_lt b.length (bsz_pos kind)
  rw [sha_New h, br_bne_neg (by rfl), sha_Add kind _ [] _ b hw.1 hw.2.1 In.nil hb (by simpa using hn), List.nil_append, size_add b hn, sha_End kind _ _ _ (addW_len _ _ _) (addW_ok _ _ _).2.1 (rest_in hb) (by omega)]
  rfl
theorem R07_Sum {kind : Int} (h : K3 kind) (b : List Int) (hb : In 256 b) (hn : b.length ≤ 1000000) {ρ : Type} (k : List Int → Int → Option ρ) : P.R07_Sum kind b k = k (sumS kind b) 0 := by
  rw [P.R07_Sum_eq]; unfold P.R07_Sum_raw
  have hw := newW_ok kind
  have hr := rest_len _ (bsz_pos kind) b
  have hlt := Nat.mod_lt b.length (bsz_pos kind)
  rw [R07_New h, br_bne_neg (by rfl), R07_Add kind _ [] _ b hw In.nil hb (by simpa using hn), List.nil_append, size_add b hn, R07_End kind _ _ _ (addW_ok _ _ _) (rest_in hb) (by omega) (by omega)]
  rfl
theorem sha_Sum_no {kind : Int} (h : kind ≠ 1 ∧ kind ≠ 2 ∧ kind ≠ 3) (b : List Int) {ρ : Type} (k : List Int → Int → Option ρ) : P.sha_Sum kind b k = k [] 9 := by
  rw [P.sha_Sum_eq]; unfold P.sha_Sum_raw
  rw [sha_New_no h, br_bne_pos (by decide)]
theorem R07_Sum_no {kind : Int} (h : kind ≠ 1 ∧ kind ≠ 2 ∧ kind ≠ 3) (b : List Int) {ρ : Type} (k : List Int → Int → Option ρ) : P.R07_Sum kind b k = k [] 9 := by
  rw [P.R07_Sum_eq]; unfold P.R07_Sum_raw
  rw [R07_New_no h, br_bne_pos (by decide)]
theorem sumS_in (kind : Int) (b : List Int) : In 256 (sumS kind b) := endS_in _ _ _ _
theorem sumS_len (kind : Int) (b : List Int) : (sumS kind b).length = if kind = 1 then 32 else if kind = 2 then 48 else 64 := endS_len _ _ _ _
end Q
end

section
open Go Go.Abs
set_option linter.unusedVariables false
namespace P
noncomputable def L07_awake_raw {ρ : Type}  (k : Bool → Option ρ) : Option ρ :=
  sha_Sum (1 : Int) [(97 : Int), (98 : Int), (99 : Int)] fun (q0 : List Int) (q1 : Int) =>
    sha_Sum (3 : Int) [(97 : Int), (98 : Int), (99 : Int)] fun (q2 : List Int) (q3 : Int) =>
      sha_New (9 : Int) fun (q4 : Int) (q5 q6 : List Int) (q7 q8 : Int) =>
        br ((↑q0.length : Int) == (32 : Int))
          (br (decide ((4 : Int) ≤ (↑q0.length : Int)))
            (R01_Same (List.take ((4 : Int) - (0 : Int)).toNat (List.drop 0 q0))
              [(186 : Int), (120 : Int), (22 : Int), (191 : Int)] fun (q9 : Bool) =>
              br q9
                (br ((↑q2.length : Int) == (64 : Int))
                  (br (decide ((4 : Int) ≤ (↑q2.length : Int)))
                    (R01_Same (List.take ((4 : Int) - (0 : Int)).toNat (List.drop 0 q2))
                      [(221 : Int), (175 : Int), (53 : Int), (161 : Int)] fun (q10 : Bool) =>
                      br q10 (k (q8 == (9 : Int))) (k false))
                    none)
                  (k false))
                (k false))
            none)
          (k false)
noncomputable def L07_awake {ρ : Type}  (k : Bool → Option ρ) : Option ρ := shut (L07_awake_raw (ρ := ρ))  k
theorem L07_awake_eq {ρ : Type}  (k : Bool → Option ρ) : L07_awake  k = L07_awake_raw  k := by unfold L07_awake; rw [shut_eq]
end P
end

section
/- SHA-2: which sums can be, which are the same; the examples. -/
namespace Q
open Go Go.Abs
set_option linter.unusedVariables false
set_option linter.unusedSimpArgs false
theorem first (p : Nat → Bool) : ∀ n, ∃ m, m ≤ n ∧ (∀ i, i < m → p i = true) ∧ (m = n ∨ (m < n ∧ p m = false))
  | 0 => ⟨0, by omega, by omega, .inl rfl⟩
  | n + 1 => by
    obtain ⟨m, h1, h2, h3⟩ := first p n
    rcases h3 with h3 | ⟨h3, h4⟩
    · subst h3
      cases hp : p m with
      | true => exact ⟨m + 1, by omega, fun i hi => by
          by_cases e : i = m
          · rw [e]; exact hp
          · exact h2 i (by omega), .inl rfl⟩
      | false => exact ⟨m, by omega, h2, .inr ⟨by omega, hp⟩⟩
    · exact ⟨m, by omega, h2, .inr ⟨by omega, h4⟩⟩
def Fits (kind : Int) (words tail : List Int) (s : Nat) : Prop := K3 kind ∧ s < 1152921504606846976 ∧ tail.length = s % bsz kind ∧ (kind = 1 → In 4294967296 words)
theorem in32_iff {words : List Int} (hl : words.length = 8) (hi : In 18446744073709551616 words) : In 4294967296 words ↔ ∀ i, i < 8 → words.getD i 0 < 4294967296 := by
  constructor
  · intro h i _
    exact (h.getD i (by omega)).2
  · intro h x hx
    obtain ⟨i, hi', rfl⟩ := List.getElem_of_mem hx
    have := h i (by omega)
    rw [getD_lt hi'] at this
    exact ⟨(hi _ hx).1, this⟩
theorem small_words {words : List Int} (hl : words.length = 8) (hi : In 18446744073709551616 words) : ∃ m, m ≤ 8 ∧ (∀ i, i < m → words.getD i 0 < 4294967296) ∧ ((m = 8 ∧ In 4294967296 words) ∨ (m < 8 ∧ ¬ words.getD m 0 < 4294967296 ∧ ¬ In 4294967296 words)) := by
  obtain ⟨m, h1, h2, h3⟩ := first (fun i => decide (words.getD i 0 < 4294967296)) 8
  refine ⟨m, h1, fun i hi => of_decide_eq_true (h2 i hi), ?_⟩
  rcases h3 with rfl | ⟨h3, h4⟩
  · exact .inl ⟨rfl, (in32_iff hl hi).2 fun i hi => of_decide_eq_true (h2 i hi)⟩
  · have := of_decide_eq_false h4
    exact .inr ⟨h3, this, fun h => this ((in32_iff hl hi).1 h m h3)⟩
theorem sha_Fit (kind : Int) (words tail : List Int) (s : Nat) (hl : words.length = 8) (hi : In 18446744073709551616 words) (ht : tail.length ≤ 140737488355328) (hs : s < 18446744073709551616) {ρ : Type} (k : Bool → Option ρ) :
    (Fits kind words tail s → P.sha_Fit kind words tail (s : Int) k = k true) ∧ (¬ Fits kind words tail s → P.sha_Fit kind words tail (s : Int) k = k false) := by
  have hb : bsz kind = 64 ∨ bsz kind = 128 := by rcases bsz_or kind with ⟨h, e⟩ | ⟨h, e⟩ <;> omega
  rw [P.sha_Fit_eq]; unfold P.sha_Fit_raw
  rcases k3_or kind with h3 | h3
  · rw [sha_begin_k h3, br_not, br_tt]
    by_cases h60 : s < 1152921504606846976
    · rw [br_neg (by omega), sha_blockSize, u64n _ (by omega), u64n _ (by omega), br_neg (by omega), tmN]
      by_cases hmod : tail.length = s % bsz kind
      · rw [br_bne_neg (by omega)]
        by_cases h1 : kind = 1
        · rw [br_bne_neg h1, P.sha_Fit_l2_2_eq]
          unfold P.sha_Fit_L2_2
          obtain ⟨m, g1, g2, g3⟩ := small_words hl hi
          have hx : ∀ i, ∃ n : Nat, words.getD i 0 = (n : Int) ∧ n < 18446744073709551616 := fun i => by
            have := hi.getD i (by omega)
            exact ⟨(words.getD i 0).toNat, by omega, by omega⟩
          have hf : ∀ i {ρ : Type} (k : Bool → Option ρ), P.sha_Fit_f1 (words.getD i 0) k = k (!decide (words.getD i 0 < 4294967296)) := fun i ρ k => by
            obtain ⟨n, e, hn⟩ := hx i
            rw [P.sha_Fit_f1_eq]; unfold P.sha_Fit_f1_raw
            have hq : (n : Int).fdiv ((2 : Int) ^ 32) = ((n / 4294967296 : Nat) : Int) := fdiv_pow n 32 32 (Nat.le_refl _)
            have key : (((n / 4294967296 : Nat) : Int) != 0) = !decide ((n : Int) < 4294967296) := by
              by_cases hlt : n < 4294967296
              · rw [decide_eq_true (by omega), Nat.div_eq_of_lt hlt]; rfl
              · have h0 : ((n / 4294967296 : Nat) : Int) ≠ 0 := by omega
                rw [decide_eq_false (by omega), bne_iff_ne.2 h0]; rfl
            rw [e, hq, key]
          refine ⟨fun hfit => ?_, fun hfit => ?_⟩
          · rcases g3 with ⟨rfl, _⟩ | ⟨_, _, hno⟩
            · refine lp_go (fun i => (8, (i : Int), kind, words, tail, (s : Int), newW kind)) 8 rfl (fun i hi' next hn' => ?_) (fun next => ?_) (by omega)
              · simp only [P.sha_Fit_r2_2, toNat_cast, Sum.elim_inl, Sum.elim_inr, Nat.zero_add]
                rw [br_pos (by omega), br_pos (by omega), br_pos (by omega), hf, decide_eq_true (g2 i hi'), Bool.not_true, br_ff, i64w (by omega) (by omega)]
                exact hn'
              · simp only [P.sha_Fit_r2_2, Sum.elim_inl, Sum.elim_inr]
                rw [br_neg (by omega)]
                rfl
            · exact absurd (hfit.2.2.2 h1) hno
          · rcases g3 with ⟨rfl, hyes⟩ | ⟨hm8, hbad, hno⟩
            · exact absurd ⟨h3, h60, hmod, fun _ => hyes⟩ hfit
            · refine lp_go (fun i => (8, (i : Int), kind, words, tail, (s : Int), newW kind)) m rfl (fun i hi' next hn' => ?_) (fun next => ?_) (by omega)
              · simp only [P.sha_Fit_r2_2, toNat_cast, Sum.elim_inl, Sum.elim_inr, Nat.zero_add]
                rw [br_pos (by omega), br_pos (by omega), br_pos (by omega), hf, decide_eq_true (g2 i hi'), Bool.not_true, br_ff, i64w (by omega) (by omega)]
                exact hn'
              · simp only [P.sha_Fit_r2_2, toNat_cast, Sum.elim_inl, Sum.elim_inr, Nat.zero_add]
                rw [br_pos (by omega), br_pos (by omega), br_pos (by omega), hf, decide_eq_false hbad, Bool.not_false, br_tt, decide_eq_true (by omega)]
                rfl
        · rw [br_bne_pos h1]
          exact ⟨fun _ => rfl, fun hfit => absurd ⟨h3, h60, hmod, fun h => absurd h h1⟩ hfit⟩
      · rw [br_bne_pos (by omega)]
        exact ⟨fun hfit => absurd hfit.2.2.1 hmod, fun _ => rfl⟩
    · rw [br_pos (by omega)]
      exact ⟨fun hfit => absurd hfit.2.1 h60, fun _ => rfl⟩
  · rw [sha_begin_no h3, br_not, br_ff]
    exact ⟨fun hfit => by have := hfit.1; unfold K3 at this; omega, fun _ => rfl⟩
theorem R07_Fit (kind : Int) (words tail : List Int) (s : Nat) (hl : words.length = 8) (hi : In 18446744073709551616 words) (ht : tail.length ≤ 140737488355328) (hs : s < 18446744073709551616) {ρ : Type} (k : Bool → Option ρ) :
    (Fits kind words tail s → P.R07_Fit kind words tail (s : Int) k = k true) ∧ (¬ Fits kind words tail s → P.R07_Fit kind words tail (s : Int) k = k false) := by
  have hb : bsz kind = 64 ∨ bsz kind = 128 := by rcases bsz_or kind with ⟨h, e⟩ | ⟨h, e⟩ <;> omega
  rw [P.R07_Fit_eq]; unfold P.R07_Fit_raw
  rcases k3_or kind with h3 | h3
  · have h3' : 1 ≤ kind ∧ kind ≤ 3 := by unfold K3 at h3; omega
    rw [br_neg (by omega), br_neg (by omega)]
    by_cases h60 : s < 1152921504606846976
    · rw [br_neg (by omega), R07_Block, u64n _ (by omega), u64n _ (by omega), br_neg (by omega), tmN]
      by_cases hmod : tail.length = s % bsz kind
      · rw [br_bne_neg (by omega), P.R07_Fit_l4_eq]
        unfold P.R07_Fit_L4
        by_cases h1 : kind = 1
        · obtain ⟨m, g1, g2, g3⟩ := small_words hl hi
          have step : ∀ i, i < m → ∀ next : (Int × Int × List Int × List Int × Int) → Option ρ, ∀ ex, (fun (x : Int × Int × (List Int) × (List Int) × Int) (next : (Int × Int × (List Int) × (List Int) × Int) → Option ρ) (ex : ((Int × Int × (List Int) × (List Int) × Int) ⊕ ((Bool × Int × (List Int) × (List Int) × Int))) → Option ρ) => P.R07_Fit_r4 x.1 x.2.1 x.2.2.1 x.2.2.2.1 x.2.2.2.2 (fun v3 h0_0 h0_1 h0_2 h0_3 => next (v3, h0_0, h0_1, h0_2, h0_3)) (fun v3 h0_0 h0_1 h0_2 h0_3 => ex (.inl (v3, h0_0, h0_1, h0_2, h0_3))) (fun v2 h0_0 h0_1 h0_2 h0_3 => ex (.inr (v2, h0_0, h0_1, h0_2, h0_3)))) ((i : Int), kind, words, tail, (s : Int)) next ex = next (((i + 1 : Nat) : Int), kind, words, tail, (s : Int)) := by
            intro i hi' next ex
            have := g2 i hi'
            simp only [P.R07_Fit_r4, toNat_cast]
            rw [br_pos (by omega), br_beq_pos h1, br_pos (by omega), br_pos (by omega), br_neg (by omega), i64w (by omega) (by omega)]
            rfl
          refine ⟨fun hfit => ?_, fun hfit => ?_⟩
          · rcases g3 with ⟨rfl, _⟩ | ⟨_, _, hno⟩
            · refine lp_go (fun i => ((i : Int), kind, words, tail, (s : Int))) 8 rfl (fun i hi' next hn' => (step i hi' next _).trans hn') (fun next => ?_) (by omega)
              simp only [P.R07_Fit_r4, Sum.elim_inl, Sum.elim_inr]
              rw [br_neg (by omega)]
            · exact absurd (hfit.2.2.2 h1) hno
          · rcases g3 with ⟨rfl, hyes⟩ | ⟨hm8, hbad, hno⟩
            · exact absurd ⟨h3, h60, hmod, fun _ => hyes⟩ hfit
            · refine lp_go (fun i => ((i : Int), kind, words, tail, (s : Int))) m rfl (fun i hi' next hn' => (step i hi' next _).trans hn') (fun next => ?_) (by omega)
              simp only [P.R07_Fit_r4, toNat_cast, Sum.elim_inl, Sum.elim_inr]
              rw [br_pos (by omega), br_beq_pos h1, br_pos (by omega), br_pos (by omega), br_pos (by omega)]
        · refine ⟨fun _ => ?_, fun hfit => absurd ⟨h3, h60, hmod, fun h => absurd h h1⟩ hfit⟩
          refine lp_go (fun i => ((i : Int), kind, words, tail, (s : Int))) 8 rfl (fun i hi' next hn' => ?_) (fun next => ?_) (by omega)
          · simp only [P.R07_Fit_r4, toNat_cast]
            rw [br_pos (by omega), br_beq_neg h1, i64w (by omega) (by omega)]
            exact hn'
          · simp only [P.R07_Fit_r4, Sum.elim_inl, Sum.elim_inr]
            rw [br_neg (by omega)]
      · rw [br_bne_pos (by omega)]
        exact ⟨fun hfit => absurd hfit.2.2.1 hmod, fun _ => rfl⟩
    · rw [br_pos (by omega)]
      exact ⟨fun hfit => absurd hfit.2.1 h60, fun _ => rfl⟩
  · refine ⟨fun hfit => by have := hfit.1; unfold K3 at this; omega, fun _ => ?_⟩
    by_cases h1 : kind < 1
    · rw [br_pos h1]
    · rw [br_neg h1, br_pos (by omega)]
def sameB (k1 : Int) (w1 t1 : List Int) (s1 : Int) (k2 : Int) (w2 t2 : List Int) (s2 : Int) : Bool := decide (k1 = k2 ∧ w1 = w2 ∧ s1 = s2 ∧ t1 = t2)
theorem sha_Same (k1 : Int) (w1 t1 : List Int) (s1 : Int) (k2 : Int) (w2 t2 : List Int) (s2 : Int) (h : t1.length ≤ 140737488355328) {ρ : Type} (k : Bool → Option ρ) : P.sha_Same k1 w1 t1 s1 k2 w2 t2 s2 k = k (sameB k1 w1 t1 s1 k2 w2 t2 s2) := by
  rw [P.sha_Same_eq]; unfold P.sha_Same_raw sameB
  by_cases e1 : k1 = k2
  · by_cases e2 : w1 = w2
    · by_cases e3 : s1 = s2
      · rw [br_beq_pos e1, br_pos e2, br_beq_pos e3, slices_Equal_byte _ _ h]
        congr 1
        exact decide_eq_decide.2 ⟨fun h => ⟨e1, e2, e3, h⟩, fun h => h.2.2.2⟩
      · rw [br_beq_pos e1, br_pos e2, br_beq_neg e3, decide_eq_false (fun h => e3 h.2.2.1)]
    · rw [br_beq_pos e1, br_neg e2, decide_eq_false (fun h => e2 h.2.1)]
  · rw [br_beq_neg e1, decide_eq_false (fun h => e1 h.1)]
theorem R07_Same (k1 : Int) (w1 t1 : List Int) (s1 : Int) (k2 : Int) (w2 t2 : List Int) (s2 : Int) (h : t1.length ≤ 140737488355328) {ρ : Type} (k : Bool → Option ρ) : P.R07_Same k1 w1 t1 s1 k2 w2 t2 s2 k = k (sameB k1 w1 t1 s1 k2 w2 t2 s2) := by
  rw [P.R07_Same_eq]; unfold P.R07_Same_raw sameB
  by_cases e1 : k1 = k2
  · by_cases e2 : w1 = w2
    · by_cases e3 : s1 = s2
      · rw [br_beq_pos e1, br_pos e2, br_beq_pos e3, R01_Same _ _ h]
        congr 1
        exact decide_eq_decide.2 ⟨fun h => ⟨e1, e2, e3, h⟩, fun h => h.2.2.2⟩
      · rw [br_beq_pos e1, br_pos e2, br_beq_neg e3, decide_eq_false (fun h => e3 h.2.2.1)]
    · rw [br_beq_pos e1, br_neg e2, decide_eq_false (fun h => e2 h.2.1)]
  · rw [br_beq_neg e1, decide_eq_false (fun h => e1 h.1)]
theorem sameB_self (k1 : Int) (w1 t1 : List Int) (s1 : Int) : sameB k1 w1 t1 s1 k1 w1 t1 s1 = true := decide_eq_true ⟨rfl, rfl, rfl, rfl⟩
theorem abc1 : (sumS 1 [97, 98, 99]).take 4 = [186, 120, 22, 191] := by decide +kernel
theorem abc3 : (sumS 3 [97, 98, 99]).take 4 = [221, 175, 53, 161] := by decide +kernel
theorem L07_awake {ρ : Type} (k : Bool → Option ρ) : P.L07_awake k = k true := by
  rw [P.L07_awake_eq]; unfold P.L07_awake_raw
  have hin : In 256 [97, 98, 99] := by unfold In; decide
  have l1 := sumS_len 1 [97, 98, 99]
  have l3 := sumS_len 3 [97, 98, 99]
  rw [if_pos rfl] at l1
  rw [if_neg (by decide), if_neg (by decide)] at l3
  rw [sha_Sum (.inl rfl) _ hin (by decide), sha_Sum (.inr (.inr rfl)) _ hin (by decide), sha_New_no (by decide), l1, l3, br_beq_pos (by rfl), br_pos (by decide), List.drop_zero, show ((4 : Int) - 0).toNat = 4 from rfl, abc1,
    R01_Same _ _ (by decide), decide_eq_true rfl, br_tt, br_beq_pos (by rfl), br_pos (by decide), List.drop_zero, abc3, R01_Same _ _ (by decide), decide_eq_true rfl, br_tt]
  rfl
end Q
end

section
open Go Go.Abs
set_option linter.unusedVariables false
namespace P
noncomputable def sector_Same_raw {ρ : Type} (a0_0 : List Int) (a0_1 : List Int) (a1_0 : List Int) (a1_1 : List Int) (k : Bool → Option ρ) : Option ρ :=
  slices_Equal_byte a0_0 a1_0 fun (q0 : Bool) => br q0 (slices_Equal_byte a0_1 a1_1 fun (q1 : Bool) => k q1) (k false)
noncomputable def sector_Same {ρ : Type} (a0_0 : List Int) (a0_1 : List Int) (a1_0 : List Int) (a1_1 : List Int) (k : Bool → Option ρ) : Option ρ := shut (sector_Same_raw (ρ := ρ)) a0_0 a0_1 a1_0 a1_1 k
theorem sector_Same_eq {ρ : Type} (a0_0 : List Int) (a0_1 : List Int) (a1_0 : List Int) (a1_1 : List Int) (k : Bool → Option ρ) : sector_Same a0_0 a0_1 a1_0 a1_1 k = sector_Same_raw a0_0 a0_1 a1_0 a1_1 k := by unfold sector_Same; rw [shut_eq]
end P
end

section
/- sector: records and stores. -/
namespace Q
open Go Go.Abs
set_option linter.unusedVariables false
set_option linter.unusedSimpArgs false
def be8 (n : Nat) : List Int := (bsw 8 8 n).reverse
theorem be8_len (n : Nat) : (be8 n).length = 8 := by simp [be8]
theorem be8_in (n : Nat) : In 256 (be8 n) := (bsw_in 8 8 n).rev
theorem be8_T (l : List Int) (h : In 256 l) (hl : l.length = 8) : be8 (T 8 l.reverse) = l := by
  have := bsw_T 8 l.reverse h.rev
  rw [List.length_reverse, hl] at this
  unfold be8
  rw [this, List.reverse_reverse]
theorem T_be8 (n : Nat) (h : n < 18446744073709551616) : T 8 (be8 n).reverse = n := by
  unfold be8
  rw [List.reverse_reverse, T_bsw]
  exact Nat.mod_eq_of_lt (by omega)
theorem T8_lt (l : List Int) (h : In 256 l) (hl : l.length = 8) : T 8 l.reverse < 18446744073709551616 := by
  have h1 := T_be8 (T 8 l.reverse % 18446744073709551616) (Nat.mod_lt _ (by omega))
  have h2 : be8 (T 8 l.reverse % 18446744073709551616) = be8 (T 8 l.reverse) := by
    unfold be8
    rw [show (18446744073709551616 : Nat) = 2 ^ 64 from rfl, bsw_mod 8 8 _ 64 (by omega)]
  rw [h2, be8_T l h hl] at h1
  rw [h1]
  exact Nat.mod_lt _ (by omega)
def hd (e b : Nat) : List Int := be8 e ++ be8 b
def recB (e b : Nat) : List Int := hd e b ++ sumS 1 (hd e b)
theorem hd_len (e b : Nat) : (hd e b).length = 16 := by simp [hd, be8_len]
theorem hd_in (e b : Nat) : In 256 (hd e b) := (be8_in e).app (be8_in b)
theorem recB_len (e b : Nat) : (recB e b).length = 48 := by unfold recB; rw [List.length_append, hd_len, sumS_len, if_pos rfl]
theorem recB_in (e b : Nat) : In 256 (recB e b) := (hd_in e b).app (sumS_in _ _)
def rd (b : List Int) : Option (Int × Int) :=
  if b.length = 48 ∧ sumS 1 (b.take 16) = b.drop 16 then some (((T 8 (b.take 8).reverse : Nat) : Int), ((T 8 ((b.take 16).drop 8).reverse : Nat) : Int)) else none
theorem rd_rec (e b : Nat) (he : e < 18446744073709551616) (hb : b < 18446744073709551616) : rd (recB e b) = some ((e : Int), (b : Int)) := by
  have t16 : (recB e b).take 16 = hd e b := by unfold recB; exact List.take_left' (hd_len e b)
  have d16 : (recB e b).drop 16 = sumS 1 (hd e b) := by unfold recB; exact List.drop_left' (hd_len e b)
  have t8 : (recB e b).take 8 = be8 e := by
    unfold recB hd
    rw [List.append_assoc]
    exact List.take_left' (be8_len e)
  have d8 : (hd e b).drop 8 = be8 b := by unfold hd; exact List.drop_left' (be8_len e)
  unfold rd
  rw [t16, d16, t8, d8, if_pos ⟨recB_len e b, rfl⟩, T_be8 e he, T_be8 b hb]
theorem rec_iff (b : List Int) (hb : In 256 b) (hl : b.length = 48) : recB (T 8 (b.take 8).reverse) (T 8 ((b.take 16).drop 8).reverse) = b ↔ sumS 1 (b.take 16) = b.drop 16 := by
  have h8 : be8 (T 8 (b.take 8).reverse) = b.take 8 := be8_T _ (hb.take 8) (by simp; omega)
  have h16 : be8 (T 8 ((b.take 16).drop 8).reverse) = (b.take 16).drop 8 := be8_T _ ((hb.take 16).drop 8) (by simp; omega)
  have hh : hd (T 8 (b.take 8).reverse) (T 8 ((b.take 16).drop 8).reverse) = b.take 16 := by
    unfold hd
    rw [h8, h16]
    have := List.take_append_drop 8 (b.take 16)
    rw [List.take_take] at this
    exact this
  unfold recB
  rw [hh]
  constructor
  · intro h
    have h1 := congrArg (List.drop 16) h
    rw [List.drop_left' (by simp; omega)] at h1
    exact h1
  · intro h
    rw [h]
    exact List.take_append_drop 16 b
theorem rd_bytes {b : List Int} {p : Int × Int} (hb : In 256 b) (h : rd b = some p) : ∃ x y : Nat, x < 18446744073709551616 ∧ y < 18446744073709551616 ∧ p = ((x : Int), (y : Int)) ∧ recB x y = b ∧ b.length = 48 := by
  unfold rd at h
  split at h
  · rename_i hc
    cases h
    exact ⟨_, _, T8_lt _ (hb.take 8) (by simp; omega), T8_lt _ ((hb.take 16).drop 8) (by simp; omega), rfl, (rec_iff b hb hc.1).2 hc.2, hc.1⟩
  · cases h
theorem clone_b (l : List Int) (h : l.length ≤ 140737488355328) {ρ : Type} (k : List Int → Option ρ) : P.slices_Clone_byte l k = k l := by
  unfold P.slices_Clone_byte; rw [br_pos (by omega)]
theorem sector_Bytes (e b : Nat) (he : e < 18446744073709551616) (hb : b < 18446744073709551616) {ρ : Type} (k : List Int → Option ρ) : P.sector_Bytes (e : Int) (b : Int) k = k (recB e b) := by
  rw [P.sector_Bytes_eq]; unfold P.sector_Bytes_raw
  have hf : [(bsw 8 8 e).reverse, (bsw 8 8 b).reverse].flatten = hd e b := by simp [hd, be8]
  rw [show (8 : Int) = ((8 : Nat) : Int) from rfl, bits_Be e 8 he (by omega), bits_Be b 8 hb (by omega), bits_Join _ (by simp) (by rw [hf, hd_len]; omega), hf, sha_Sum (.inl rfl) _ (hd_in e b) (by rw [hd_len]; omega), br_pos (by rw [hd_len, sumS_len, if_pos rfl]; omega)]
  rfl
theorem R28_Bytes (e b : Nat) (he : e < 18446744073709551616) (hb : b < 18446744073709551616) {ρ : Type} (k : List Int → Option ρ) : P.R28_Bytes (e : Int) (b : Int) k = k (recB e b) := by
  rw [P.R28_Bytes_eq]; unfold P.R28_Bytes_raw
  have hf : [(bsw 8 8 e).reverse, (bsw 8 8 b).reverse].flatten = hd e b := by simp [hd, be8]
  rw [show (8 : Int) = ((8 : Nat) : Int) from rfl, R01_Be e 8 he (by omega), R01_Be b 8 hb (by omega), R01_Join _ (by simp) (by rw [hf, hd_len]; omega), hf, R07_Sum (.inl rfl) _ (hd_in e b) (by rw [hd_len]; omega), br_pos (by rw [hd_len, sumS_len, if_pos rfl]; omega)]
  rfl
def rdK {ρ : Type} (o : Option (Int × Int)) (k : Int → Int → Bool → Option ρ) : Option ρ :=
  match o with
  | some p => k p.1 p.2 true
  | none => k 0 0 false
theorem sector_Read (b : List Int) (hb : In 256 b) (hn : b.length ≤ 1000000) {ρ : Type} (k : Int → Int → Bool → Option ρ) : P.sector_Read b k = rdK (rd b) k := by
  rw [P.sector_Read_eq]; unfold P.sector_Read_raw
  by_cases hl : b.length = 48
  · have e16 : Int.toNat (16 : Int) = 16 := rfl
    have e8 : Int.toNat (8 : Int) = 8 := rfl
    rw [br_bne_neg (by omega), br_pos (by omega), e16, e8, List.drop_zero, List.drop_zero, sha_Sum (.inl rfl) _ (hb.take 16) (by simp; omega), br_pos (by omega), br_pos (by omega), toNat_cast, List.take_length, bits_Same _ _ (sumS_in _ _) (hb.drop 16) (by rw [sumS_len, if_pos rfl]; omega)]
    by_cases hs : sumS 1 (b.take 16) = b.drop 16
    · have hr : rd b = some (((T 8 (b.take 8).reverse : Nat) : Int), ((T 8 ((b.take 16).drop 8).reverse : Nat) : Int)) := by unfold rd; rw [if_pos ⟨hl, hs⟩]
      rw [decide_eq_true hs, br_not, br_tt, br_pos (by omega), bits_Num _ (hb.take 8) (by simp; omega), br_pos (by omega), bits_Num _ ((hb.take 16).drop 8) (by simp; omega), hr, Nat.mod_eq_of_lt (T8_lt _ (hb.take 8) (by simp; omega)), Nat.mod_eq_of_lt (T8_lt _ ((hb.take 16).drop 8) (by simp; omega))]
      rfl
    · have hr : rd b = none := by unfold rd; rw [if_neg (fun h => hs h.2)]
      rw [decide_eq_false hs, br_not, br_ff, hr]
      rfl
  · have hr : rd b = none := by unfold rd; rw [if_neg (fun h => hl h.1)]
    rw [br_bne_pos (by omega), hr]
    rfl
theorem R28_Read (b : List Int) (hb : In 256 b) (hn : b.length ≤ 1000000) {ρ : Type} (k : Int → Int → Bool → Option ρ) : P.R28_Read b k = rdK (rd b) k := by
  rw [P.R28_Read_eq]; unfold P.R28_Read_raw
  by_cases hl : b.length = 48
  · have e16 : Int.toNat (16 : Int) = 16 := rfl
    have e8 : Int.toNat (8 : Int) = 8 := rfl
    have h1 := T8_lt _ (hb.take 8) (by simp; omega)
    have h2 := T8_lt _ ((hb.take 16).drop 8) (by simp; omega)
    rw [br_bne_neg (by omega), br_pos (by omega), e16, e8, List.drop_zero, R01_Num _ (hb.take 8) (by simp; omega), br_pos (by omega), R01_Num _ ((hb.take 16).drop 8) (by simp; omega), Nat.mod_eq_of_lt h1, Nat.mod_eq_of_lt h2, R28_Bytes _ _ h1 h2, R01_Same _ _ (by rw [recB_len]; omega)]
    by_cases hs : sumS 1 (b.take 16) = b.drop 16
    · have hr : rd b = some (((T 8 (b.take 8).reverse : Nat) : Int), ((T 8 ((b.take 16).drop 8).reverse : Nat) : Int)) := by unfold rd; rw [if_pos ⟨hl, hs⟩]
      rw [decide_eq_true ((rec_iff b hb hl).2 hs), br_not, br_tt, hr]
      rfl
    · have hr : rd b = none := by unfold rd; rw [if_neg (fun h => hs h.2)]
      rw [decide_eq_false (fun h => hs ((rec_iff b hb hl).1 h)), br_not, br_ff, hr]
      rfl
  · have hr : rd b = none := by unfold rd; rw [if_neg (fun h => hl h.1)]
    rw [br_bne_pos (by omega), hr]
    rfl
def upB (o : Option (Int × Int)) (i : Int) (s : Int × Int × Int × Int) : Int × Int × Int × Int :=
  match o with
  | none => s
  | some p => if s.2.2.2 ≠ 0 ∨ p.1 > s.1 then (p.1, p.2, i, 0) else s
def bst (o0 o1 : Option (Int × Int)) : Int × Int × Int × Int := upB o1 1 (upB o0 0 (0, 0, 0, 21))
theorem bst_cases (o0 o1 : Option (Int × Int)) : (o0 = none ∧ o1 = none ∧ bst o0 o1 = (0, 0, 0, 21)) ∨ (∃ p, o0 = some p ∧ (∀ q, o1 = some q → q.1 ≤ p.1) ∧ bst o0 o1 = (p.1, p.2, 0, 0)) ∨
    (∃ q, o1 = some q ∧ (∀ p, o0 = some p → p.1 < q.1) ∧ bst o0 o1 = (q.1, q.2, 1, 0)) := by
  cases o0 with
  | none => cases o1 with
    | none => exact .inl ⟨rfl, rfl, rfl⟩
    | some q => exact .inr (.inr ⟨q, rfl, fun p h => (by cases h), by simp [bst, upB]⟩)
  | some p => cases o1 with
    | none => exact .inr (.inl ⟨p, rfl, fun q h => (by cases h), by simp [bst, upB]⟩)
    | some q =>
      by_cases h : q.1 > p.1
      · exact .inr (.inr ⟨q, rfl, fun p' h' => (by cases h'; exact h), by simp [bst, upB, h]⟩)
      · exact .inr (.inl ⟨p, rfl, fun q' h' => (by cases h'; omega), by simp [bst, upB, h]⟩)
theorem sector_Best (a b : List Int) (ha : In 256 a) (hb : In 256 b) (na : a.length ≤ 1000000) (nb : b.length ≤ 1000000) {ρ : Type} (k : Int → Int → Int → Int → Option ρ) :
    P.sector_Best a b k = k (bst (rd a) (rd b)).1 (bst (rd a) (rd b)).2.1 (bst (rd a) (rd b)).2.2.1 (bst (rd a) (rd b)).2.2.2 := by
  rw [P.sector_Best_eq]; unfold P.sector_Best_raw
  rw [P.sector_Best_l2_1_eq]
  unfold P.sector_Best_L2_1
  have one : ∀ (c : List Int) (i : Int) (s : Int × Int × Int × Int) (nx : Int → Int → Int → Int → Option ρ), In 256 c → c.length ≤ 1000000 →
      (P.sector_Read c fun (q0 q1 : Int) (q2 : Bool) => br q2 (br (s.2.2.2 != (0 : Int)) (nx q0 q1 i (0 : Int)) (br (decide (q0 > s.1)) (nx q0 q1 i (0 : Int)) (nx s.1 s.2.1 s.2.2.1 s.2.2.2))) (nx s.1 s.2.1 s.2.2.1 s.2.2.2)) =
      nx (upB (rd c) i s).1 (upB (rd c) i s).2.1 (upB (rd c) i s).2.2.1 (upB (rd c) i s).2.2.2 := by
    intro c i s nx hc nc
    rw [sector_Read c hc nc]
    cases rd c with
    | none => simp only [rdK, br_ff, upB]
    | some p =>
      simp only [rdK, br_tt, upB]
      by_cases h1 : s.2.2.2 = 0
      · rw [br_bne_neg h1]
        by_cases h2 : p.1 > s.1
        · rw [br_pos h2, if_pos (.inr h2)]
        · rw [br_neg h2, if_neg (by omega)]
      · rw [br_bne_pos h1, if_pos (.inl h1)]
  let S : Nat → (List Int) × (List Int) × Int × Int × Int × Int × Int × Int × Int := fun i => match i with
    | 0 => (a, b, 0, 0, 0, 0, 0, 0, 21)
    | 1 => (a, b, 1, 0, 0, upB (rd a) 0 (0, 0, 0, 21))
    | _ => (a, b, 2, 0, 0, bst (rd a) (rd b))
  refine lp_go S 2 rfl (fun i hi next hn => ?_) (fun next => ?_) (by omega)
  · match i, hi with
    | 0, _ =>
      simp only [S, P.sector_Best_r2_1]
      rw [br_pos (by omega), br_pos (by simp), show IntKind.i64.wrap ((0 : Int) + 1) = 1 from by decide]
      refine (one a 0 (0, 0, 0, 21) (fun w x y z => next (a, b, 1, 0, 0, w, x, y, z)) ha na).trans ?_
      exact hn
    | 1, _ =>
      simp only [S, P.sector_Best_r2_1]
      rw [br_pos (by omega), br_neg (by omega), br_pos (by simp), show IntKind.i64.wrap ((1 : Int) + 1) = 2 from by decide]
      refine (one b 1 (upB (rd a) 0 (0, 0, 0, 21)) (fun w x y z => next (a, b, 2, 0, 0, w, x, y, z)) hb nb).trans ?_
      exact hn
  · simp only [S, P.sector_Best_r2_1]
    rw [br_neg (by omega)]
theorem R28_Best (a b : List Int) (ha : In 256 a) (hb : In 256 b) (na : a.length ≤ 1000000) (nb : b.length ≤ 1000000) {ρ : Type} (k : Int → Int → Int → Int → Option ρ) :
    P.R28_Best a b k = k (bst (rd a) (rd b)).1 (bst (rd a) (rd b)).2.1 (bst (rd a) (rd b)).2.2.1 (bst (rd a) (rd b)).2.2.2 := by
  rw [P.R28_Best_eq]; unfold P.R28_Best_raw
  rw [R28_Read a ha na, ]
  cases h0 : rd a with
  | none =>
    simp only [rdK]
    rw [R28_Read b hb nb]
    cases h1 : rd b with
    | none => simp only [rdK, br_ff, bst, upB]
    | some q => simp [rdK, bst, upB]
  | some p =>
    simp only [rdK]
    rw [R28_Read b hb nb]
    cases h1 : rd b with
    | none => simp [rdK, bst, upB]
    | some q =>
      simp only [rdK, br_tt, br_not]
      by_cases h : q.1 > p.1
      · rw [br_neg (show ¬ p.1 ≥ q.1 by omega)]
        simp [bst, upB, h]
      · rw [br_pos (show p.1 ≥ q.1 by omega)]
        simp [bst, upB, h]
theorem few28 (a b : List Int) {ρ : Type} (k : Bool → Option ρ) : P.L28_few a b k = k (decide (a.length ≤ 300 ∧ b.length ≤ 300)) := by
  rw [P.L28_few_eq]; unfold P.L28_few_raw
  by_cases h : a.length ≤ 300
  · rw [br_pos (by omega)]
    congr 1
    exact decide_eq_decide.2 ⟨fun h2 => ⟨h, by omega⟩, fun h2 => by omega⟩
  · rw [br_neg (by omega), decide_eq_false (fun h2 => h h2.1)]
theorem L28_awake {ρ : Type} (k : Bool → Option ρ) : P.L28_awake k = k true := by
  rw [P.L28_awake_eq]; unfold P.L28_awake_raw
  rw [P.sector_New_eq]; unfold P.sector_New_raw
  rw [show (0 : Int) = ((0 : Nat) : Int) from rfl, sector_Bytes 0 0 (by omega) (by omega), sector_Bytes 0 0 (by omega) (by omega)]
  show P.sector_Best (recB 0 0) (recB 0 0) _ = _
  rw [sector_Best _ _ (recB_in 0 0) (recB_in 0 0) (by rw [recB_len]; omega) (by rw [recB_len]; omega), rd_rec 0 0 (by omega) (by omega), sector_Best [] [] In.nil In.nil (by simp) (by simp)]
  have h0 : rd [] = none := by simp [rd]
  rw [h0]
  simp [bst, upB]
theorem R28_Same (a b c d : List Int) (ha : a.length ≤ 140737488355328) (hb : b.length ≤ 140737488355328) {ρ : Type} (k : Bool → Option ρ) : P.R28_Same a b c d k = k (decide (a = c ∧ b = d)) := by
  rw [P.R28_Same_eq]; unfold P.R28_Same_raw
  rw [R01_Same a c ha]
  by_cases h : a = c
  · rw [br_pos h, R01_Same b d hb]
    congr 1
    exact decide_eq_decide.2 ⟨fun h2 => ⟨h, h2⟩, fun h2 => h2.2⟩
  · rw [br_neg h, decide_eq_false (fun h2 => h h2.1)]
theorem sector_Same (a b c d : List Int) (ha : a.length ≤ 140737488355328) (hb : b.length ≤ 140737488355328) {ρ : Type} (k : Bool → Option ρ) : P.sector_Same a b c d k = k (decide (a = c ∧ b = d)) := by
  rw [P.sector_Same_eq]; unfold P.sector_Same_raw
  rw [slices_Equal_byte a c ha]
  by_cases h : a = c
  · rw [br_pos h, slices_Equal_byte b d hb]
    congr 1
    exact decide_eq_decide.2 ⟨fun h2 => ⟨h, h2⟩, fun h2 => h2.2⟩
  · rw [br_neg h, decide_eq_false (fun h2 => h h2.1)]
def laidK {ρ : Type} (a b c : List Int) (k : List Int → List Int → Int → Int → Option ρ) : Option ρ :=
  if (bst (rd a) (rd b)).2.2.2 = 0 then (if (bst (rd a) (rd b)).2.2.1 = 0 then k a c 1 0 else k c b 0 0) else k a b 0 (bst (rd a) (rd b)).2.2.2
theorem slot_or (o0 o1 : Option (Int × Int)) : (bst o0 o1).2.2.1 = 0 ∨ (bst o0 o1).2.2.1 = 1 := by
  rcases bst_cases o0 o1 with ⟨_, _, h⟩ | ⟨p, _, _, h⟩ | ⟨p, _, _, h⟩ <;> rw [h] <;> simp
theorem sector_copied (a b : List Int) (ha : a.length ≤ 140737488355328) (hb : b.length ≤ 140737488355328) {ρ : Type} (k : List Int → List Int → Option ρ) : P.sector_copied a b k = k a b := by
  rw [P.sector_copied_eq]; unfold P.sector_copied_raw
  rw [clone_b a ha, clone_b b hb]
theorem sector_laid (a b c : List Int) (ha : In 256 a) (hb : In 256 b) (na : a.length ≤ 1000000) (nb : b.length ≤ 1000000) (nc : c.length ≤ 1000000) {ρ : Type} (k : List Int → List Int → Int → Int → Option ρ) : P.sector_laid a b c k = laidK a b c k := by
  rw [P.sector_laid_eq]; unfold P.sector_laid_raw laidK
  rw [sector_copied a b (by omega) (by omega), sector_Best a b ha hb na nb]
  by_cases h : (bst (rd a) (rd b)).2.2.2 = 0
  · rw [br_bne_neg h, if_pos h, clone_b c (by omega)]
    rcases slot_or (rd a) (rd b) with h1 | h1
    · rw [h1, if_pos rfl, show IntKind.i64.wrap ((1 : Int) - 0) = 1 from by decide, br_neg (by omega), br_pos (by omega)]
    · rw [h1, if_neg (by omega), show IntKind.i64.wrap ((1 : Int) - 1) = 0 from by decide, br_pos (by omega)]
  · rw [br_bne_pos h, if_neg h]
theorem sector_Write (a b : List Int) (e f : Nat) (he : e < 18446744073709551616) (hf : f < 18446744073709551616) (ha : In 256 a) (hb : In 256 b) (na : a.length ≤ 1000000) (nb : b.length ≤ 1000000) {ρ : Type} (k : List Int → List Int → Int → Int → Option ρ) :
    P.sector_Write a b (e : Int) (f : Int) k = laidK a b (recB e f) k := by
  rw [P.sector_Write_eq]; unfold P.sector_Write_raw
  rw [sector_Bytes e f he hf, sector_laid a b _ ha hb na nb (by rw [recB_len]; omega)]
theorem R28_with (a b c : List Int) (i : Int) {ρ : Type} (k : List Int → List Int → Option ρ) : P.R28_with a b i c k = if i = 0 then k c b else k a c := by
  rw [P.R28_with_eq]; unfold P.R28_with_raw
  by_cases h : i = 0
  · rw [br_beq_pos h, if_pos h]
  · rw [br_beq_neg h, if_neg h]
theorem with_laid (a b c : List Int) (h : (bst (rd a) (rd b)).2.2.2 = 0) {ρ : Type} (k : List Int → List Int → Int → Int → Option ρ) :
    (P.R28_with a b (IntKind.i64.wrap ((1 : Int) - (bst (rd a) (rd b)).2.2.1)) c fun x y => k x y (IntKind.i64.wrap ((1 : Int) - (bst (rd a) (rd b)).2.2.1)) 0) = laidK a b c k := by
  rw [R28_with]; unfold laidK
  rw [if_pos h]
  rcases slot_or (rd a) (rd b) with h1 | h1
  · rw [h1, if_pos rfl, show IntKind.i64.wrap ((1 : Int) - 0) = 1 from by decide, if_neg (by omega)]
  · rw [h1, if_neg (show ¬ (1 : Int) = 0 by omega), show IntKind.i64.wrap ((1 : Int) - 1) = 0 from by decide, if_pos rfl]
theorem R28_Write (a b : List Int) (e f : Nat) (he : e < 18446744073709551616) (hf : f < 18446744073709551616) (ha : In 256 a) (hb : In 256 b) (na : a.length ≤ 1000000) (nb : b.length ≤ 1000000) {ρ : Type} (k : List Int → List Int → Int → Int → Option ρ) :
    P.R28_Write a b (e : Int) (f : Int) k = laidK a b (recB e f) k := by
  rw [P.R28_Write_eq]; unfold P.R28_Write_raw
  rw [R28_Best a b ha hb na nb]
  by_cases h : (bst (rd a) (rd b)).2.2.2 = 0
  · rw [br_bne_neg h, R28_Bytes e f he hf]
    exact with_laid a b _ h k
  · rw [br_bne_pos h]
    unfold laidK
    rw [if_neg h]
def tearK {ρ : Type} (a b c : List Int) (tear : Int) (junk : List Int) (k : List Int → List Int → Int → Option ρ) : Option ρ :=
  if (bst (rd a) (rd b)).2.2.2 = 0 then
    if tear = 0 then k a b 0 else if tear = 1 then laidK a b c (fun x y _ e => k x y e) else if tear = 2 then laidK a b junk (fun x y _ e => k x y e) else k a b 8
  else k a b (bst (rd a) (rd b)).2.2.2
theorem laidK_no {a b c : List Int} (h : ¬ (bst (rd a) (rd b)).2.2.2 = 0) {ρ : Type} (k : List Int → List Int → Int → Int → Option ρ) : laidK a b c k = k a b 0 (bst (rd a) (rd b)).2.2.2 := by
  unfold laidK; rw [if_neg h]
theorem sector_Tear (a b : List Int) (e f : Nat) (tear : Int) (junk : List Int) (he : e < 18446744073709551616) (hf : f < 18446744073709551616) (ha : In 256 a) (hb : In 256 b) (na : a.length ≤ 1000000) (nb : b.length ≤ 1000000) (nj : junk.length ≤ 1000000) {ρ : Type} (k : List Int → List Int → Int → Option ρ) :
    P.sector_Tear a b (e : Int) (f : Int) tear junk k = tearK a b (recB e f) tear junk k := by
  rw [P.sector_Tear_eq]; unfold P.sector_Tear_raw tearK
  rw [sector_copied a b (by omega) (by omega)]
  by_cases h1 : tear = 1
  · rw [br_beq_pos h1, sector_Write a b e f he hf ha hb na nb]
    by_cases h : (bst (rd a) (rd b)).2.2.2 = 0
    · rw [if_pos h, if_neg (by omega), if_pos h1]
    · rw [if_neg h, laidK_no h]
  · rw [br_beq_neg h1]
    by_cases h2 : tear = 2
    · rw [br_beq_pos h2, sector_laid a b junk ha hb na nb nj]
      by_cases h : (bst (rd a) (rd b)).2.2.2 = 0
      · rw [if_pos h, if_neg (by omega), if_neg h1, if_pos h2]
      · rw [if_neg h, laidK_no h]
    · rw [br_beq_neg h2, sector_Best a b ha hb na nb]
      by_cases h : (bst (rd a) (rd b)).2.2.2 = 0
      · rw [br_beq_pos h, if_pos h]
        by_cases h0 : tear = 0
        · rw [br_bne_neg h0, if_pos h0, h]
        · rw [br_bne_pos h0, if_neg h0, if_neg h1, if_neg h2]
      · rw [br_beq_neg h, if_neg h]
theorem R28_Tear (a b : List Int) (e f : Nat) (tear : Int) (junk : List Int) (he : e < 18446744073709551616) (hf : f < 18446744073709551616) (ha : In 256 a) (hb : In 256 b) (na : a.length ≤ 1000000) (nb : b.length ≤ 1000000) {ρ : Type} (k : List Int → List Int → Int → Option ρ) :
    P.R28_Tear a b (e : Int) (f : Int) tear junk k = tearK a b (recB e f) tear junk k := by
  rw [P.R28_Tear_eq]; unfold P.R28_Tear_raw tearK
  rw [R28_Best a b ha hb na nb]
  by_cases h : (bst (rd a) (rd b)).2.2.2 = 0
  · rw [br_bne_neg h, if_pos h]
    by_cases h0 : tear = 0
    · rw [br_beq_pos h0, if_pos h0]
    · rw [br_beq_neg h0, if_neg h0]
      by_cases h1 : tear = 1
      · rw [br_beq_pos h1, if_pos h1, R28_Bytes e f he hf]
        exact with_laid a b _ h (fun x y _ e => k x y e)
      · rw [br_beq_neg h1, if_neg h1]
        by_cases h2 : tear = 2
        · rw [br_beq_pos h2, if_pos h2]
          exact with_laid a b _ h (fun x y _ e => k x y e)
        · rw [br_beq_neg h2, if_neg h2]
  · rw [br_bne_pos h, if_neg h]
end Q
end

section
open Go Go.Abs
set_option linter.unusedVariables false
namespace P
noncomputable def L28_SectorTells_raw {ρ : Type} (a0_Epoch : Int) (a0_Bound : Int) (a1 : List Int) (a2_0 : List Int) (a2_1 : List Int) (a3_0 : List Int) (a3_1 : List Int) (k : Bool → Option ρ) : Option ρ :=
  br (decide ((↑a1.length : Int) > (300 : Int))) (L28_awake fun (q0 : Bool) => k q0)
    (L28_few a2_0 a2_1 fun (q1 : Bool) =>
      br (!q1) (L28_awake fun (q2 : Bool) => k q2)
        (L28_few a3_0 a3_1 fun (q3 : Bool) =>
          br (!q3) (L28_awake fun (q4 : Bool) => k q4)
            (sector_Read a1 fun (q5 q6 : Int) (q7 : Bool) =>
              R28_Read a1 fun (q8 q9 : Int) (q10 : Bool) =>
                sector_Best a2_0 a2_1 fun (q11 q12 q13 q14 : Int) =>
                  R28_Best a2_0 a2_1 fun (q15 q16 q17 q18 : Int) =>
                    sector_Bytes a0_Epoch a0_Bound fun (q19 : List Int) =>
                      R28_Bytes a0_Epoch a0_Bound fun (q20 : List Int) =>
                        R01_Same q19 q20 fun (q21 : Bool) =>
                          br q21
                            (br (q5 == q8 && (q6 == q9 && true))
                              (br (q7 == q10)
                                (br (q11 == q15 && (q12 == q16 && true))
                                  (br (q13 == q17)
                                    (br (q14 == q18)
                                      (sector_Same a2_0 a2_1 a3_0 a3_1 fun (q22 : Bool) =>
                                        R28_Same a2_0 a2_1 a3_0 a3_1 fun (q23 : Bool) =>
                                          br (q22 == q23)
                                            (sector_Same a2_0 a2_1 a2_0 a2_1 fun (q24 : Bool) =>
                                              br q24 (L28_awake fun (q25 : Bool) => k q25) (k false))
                                            (k false))
                                      (k false))
                                    (k false))
                                  (k false))
                                (k false))
                              (k false))
                            (k false))))
noncomputable def L28_SectorTells {ρ : Type} (a0_Epoch : Int) (a0_Bound : Int) (a1 : List Int) (a2_0 : List Int) (a2_1 : List Int) (a3_0 : List Int) (a3_1 : List Int) (k : Bool → Option ρ) : Option ρ := shut (L28_SectorTells_raw (ρ := ρ)) a0_Epoch a0_Bound a1 a2_0 a2_1 a3_0 a3_1 k
theorem L28_SectorTells_eq {ρ : Type} (a0_Epoch : Int) (a0_Bound : Int) (a1 : List Int) (a2_0 : List Int) (a2_1 : List Int) (a3_0 : List Int) (a3_1 : List Int) (k : Bool → Option ρ) : L28_SectorTells a0_Epoch a0_Bound a1 a2_0 a2_1 a3_0 a3_1 k = L28_SectorTells_raw a0_Epoch a0_Bound a1 a2_0 a2_1 a3_0 a3_1 k := by unfold L28_SectorTells; rw [shut_eq]
end P
end

section
namespace Q
open Go Go.Abs
set_option linter.unusedVariables false
set_option linter.unusedSimpArgs false
theorem u64_nat {x : Int} (h : wfI .u64 x) : ∃ n : Nat, n < 18446744073709551616 ∧ x = (n : Int) := by
  have := wf_u64 h
  exact ⟨x.toNat, by omega, by omega⟩
theorem SectorTells (x0_Epoch : Int) (x0_Bound : Int) (x1 : List Int) (x2_0 : List Int) (x2_1 : List Int) (x3_0 : List Int) (x3_1 : List Int) (wx0_Epoch : wfI .u64 x0_Epoch) (wx0_Bound : wfI .u64 x0_Bound) (nx1 : x1.length ≤ 140737488355328) (wx1 : ∀ x, x ∈ x1 → wfI .u8 x) (nx2_0 : x2_0.length ≤ 140737488355328) (wx2_0 : ∀ x, x ∈ x2_0 → wfI .u8 x) (nx2_1 : x2_1.length ≤ 140737488355328) (wx2_1 : ∀ x, x ∈ x2_1 → wfI .u8 x) (nx3_0 : x3_0.length ≤ 140737488355328) (wx3_0 : ∀ x, x ∈ x3_0 → wfI .u8 x) (nx3_1 : x3_1.length ≤ 140737488355328) (wx3_1 : ∀ x, x ∈ x3_1 → wfI .u8 x) {ρ : Type} (k : Bool → Option ρ) : P.L28_SectorTells x0_Epoch x0_Bound x1 x2_0 x2_1 x3_0 x3_1 k = k true := by
  rw [P.L28_SectorTells_eq]; unfold P.L28_SectorTells_raw
  obtain ⟨e, he, rfl⟩ := u64_nat wx0_Epoch
  obtain ⟨f, hf, rfl⟩ := u64_nat wx0_Bound
  by_cases h1 : x1.length > 300
  · rw [br_pos (by omega), L28_awake]
  · rw [br_neg (by omega), few28, br_not]
    by_cases h2 : x2_0.length ≤ 300 ∧ x2_1.length ≤ 300
    · rw [decide_eq_true h2, br_tt, few28, br_not]
      by_cases h3 : x3_0.length ≤ 300 ∧ x3_1.length ≤ 300
      · rw [decide_eq_true h3, br_tt, sector_Read x1 (in_u8 wx1) (by omega)]
        have key : ∀ (p : Int × Int) (ok : Bool), (P.sector_Best x2_0 x2_1 fun (q11 q12 q13 q14 : Int) => P.R28_Best x2_0 x2_1 fun (q15 q16 q17 q18 : Int) => P.sector_Bytes (e : Int) (f : Int) fun (q19 : List Int) => P.R28_Bytes (e : Int) (f : Int) fun (q20 : List Int) => P.R01_Same q19 q20 fun (q21 : Bool) =>
            br q21 (br (p.1 == p.1 && (p.2 == p.2 && true)) (br (ok == ok) (br (q11 == q15 && (q12 == q16 && true)) (br (q13 == q17) (br (q14 == q18) (P.sector_Same x2_0 x2_1 x3_0 x3_1 fun (q22 : Bool) => P.R28_Same x2_0 x2_1 x3_0 x3_1 fun (q23 : Bool) =>
              br (q22 == q23) (P.sector_Same x2_0 x2_1 x2_0 x2_1 fun (q24 : Bool) => br q24 (P.L28_awake fun (q25 : Bool) => k q25) (k false)) (k false)) (k false)) (k false)) (k false)) (k false)) (k false)) (k false)) = k true := by
          intro p ok
          rw [sector_Best _ _ (in_u8 wx2_0) (in_u8 wx2_1) (by omega) (by omega), R28_Best _ _ (in_u8 wx2_0) (in_u8 wx2_1) (by omega) (by omega), sector_Bytes e f he hf, R28_Bytes e f he hf, R01_Same _ _ (by rw [recB_len]; omega), br_pos rfl]
          simp only [beq_self_eq_true, Bool.and_true, br_tt]
          rw [sector_Same _ _ _ _ (by omega) (by omega), R28_Same _ _ _ _ (by omega) (by omega)]
          simp only [beq_self_eq_true, br_tt]
          rw [sector_Same _ _ _ _ (by omega) (by omega), br_pos ⟨rfl, rfl⟩, L28_awake]
        have hr := R28_Read (ρ := ρ) x1 (in_u8 wx1) (by omega)
        cases hq : rd x1 with
        | none =>
          rw [hq] at hr
          simp only [rdK] at hr ⊢
          rw [hr]
          exact key (0, 0) false
        | some p =>
          rw [hq] at hr
          simp only [rdK] at hr ⊢
          rw [hr]
          exact key p true
      · rw [decide_eq_false h3, br_ff, L28_awake]
    · rw [decide_eq_false h2, br_ff, L28_awake]
end Q
end

section
namespace Q
open Go Go.Abs
set_option linter.unusedVariables false
set_option linter.unusedSimpArgs false
theorem laidK_is (a b c : List Int) : ∃ x y i e, (∀ {ρ : Type} (k : List Int → List Int → Int → Int → Option ρ), laidK a b c k = k x y i e) ∧ ((x = a ∨ x = c) ∧ (y = b ∨ y = c)) := by
  unfold laidK
  by_cases h : (bst (rd a) (rd b)).2.2.2 = 0
  · by_cases h1 : (bst (rd a) (rd b)).2.2.1 = 0
    · exact ⟨a, c, 1, 0, fun k => by rw [if_pos h, if_pos h1], .inl rfl, .inr rfl⟩
    · exact ⟨c, b, 0, 0, fun k => by rw [if_pos h, if_neg h1], .inr rfl, .inl rfl⟩
  · exact ⟨a, b, 0, _, fun k => by rw [if_neg h], .inl rfl, .inl rfl⟩
theorem tearK_is (a b c junk : List Int) (tear : Int) : ∃ x y e, (∀ {ρ : Type} (k : List Int → List Int → Int → Option ρ), tearK a b c tear junk k = k x y e) ∧ ((x = a ∨ x = c ∨ x = junk) ∧ (y = b ∨ y = c ∨ y = junk)) := by
  unfold tearK
  obtain ⟨x1, y1, i1, e1, h1, hx1, hy1⟩ := laidK_is a b c
  obtain ⟨x2, y2, i2, e2, h2, hx2, hy2⟩ := laidK_is a b junk
  by_cases h : (bst (rd a) (rd b)).2.2.2 = 0
  · by_cases t0 : tear = 0
    · exact ⟨a, b, 0, fun k => by rw [if_pos h, if_pos t0], .inl rfl, .inl rfl⟩
    · by_cases t1 : tear = 1
      · exact ⟨x1, y1, e1, fun k => by rw [if_pos h, if_neg t0, if_pos t1, h1], hx1.imp id .inl, hy1.imp id .inl⟩
      · by_cases t2 : tear = 2
        · exact ⟨x2, y2, e2, fun k => by rw [if_pos h, if_neg t0, if_neg t1, if_pos t2, h2], hx2.imp id .inr, hy2.imp id .inr⟩
        · exact ⟨a, b, 8, fun k => by rw [if_pos h, if_neg t0, if_neg t1, if_neg t2], .inl rfl, .inl rfl⟩
  · exact ⟨a, b, _, fun k => by rw [if_neg h], .inl rfl, .inl rfl⟩
theorem SectorWrites (x0_0 : List Int) (x0_1 : List Int) (x1_Epoch : Int) (x1_Bound : Int) (x2 : Int) (x3 : List Int) (nx0_0 : x0_0.length ≤ 140737488355328) (wx0_0 : ∀ x, x ∈ x0_0 → wfI .u8 x) (nx0_1 : x0_1.length ≤ 140737488355328) (wx0_1 : ∀ x, x ∈ x0_1 → wfI .u8 x) (wx1_Epoch : wfI .u64 x1_Epoch) (wx1_Bound : wfI .u64 x1_Bound) (wx2 : wfI .i64 x2) (nx3 : x3.length ≤ 140737488355328) (wx3 : ∀ x, x ∈ x3 → wfI .u8 x) {ρ : Type} (k : Bool → Option ρ) : P.L28_SectorWrites x0_0 x0_1 x1_Epoch x1_Bound x2 x3 k = k true := by
  rw [P.L28_SectorWrites_eq]; unfold P.L28_SectorWrites_raw
  obtain ⟨e, he, rfl⟩ := u64_nat wx1_Epoch
  obtain ⟨f, hf, rfl⟩ := u64_nat wx1_Bound
  by_cases h1 : x3.length > 300
  · rw [br_pos (by omega), L28_awake]
  · rw [br_neg (by omega), few28, br_not]
    by_cases h2 : x0_0.length ≤ 300 ∧ x0_1.length ≤ 300
    · obtain ⟨x, y, i, err, hw, hx, hy⟩ := laidK_is x0_0 x0_1 (recB e f)
      obtain ⟨u, v, er, ht, hu, hv⟩ := tearK_is x0_0 x0_1 (recB e f) x3 x2
      have hr := recB_len e f
      have nx : x.length ≤ 1000 := by rcases hx with rfl | rfl <;> omega
      have ny : y.length ≤ 1000 := by rcases hy with rfl | rfl <;> omega
      have nu : u.length ≤ 1000 := by rcases hu with rfl | rfl | rfl <;> omega
      have nv : v.length ≤ 1000 := by rcases hv with rfl | rfl | rfl <;> omega
      rw [decide_eq_true h2, br_tt, sector_Write _ _ e f he hf (in_u8 wx0_0) (in_u8 wx0_1) (by omega) (by omega), hw, R28_Write _ _ e f he hf (in_u8 wx0_0) (in_u8 wx0_1) (by omega) (by omega), hw, sector_Tear _ _ e f _ _ he hf (in_u8 wx0_0) (in_u8 wx0_1) (by omega) (by omega) (by omega), ht, R28_Tear _ _ e f _ _ he hf (in_u8 wx0_0) (in_u8 wx0_1) (by omega) (by omega), ht, R28_Same _ _ _ _ (by omega) (by omega), br_pos ⟨rfl, rfl⟩]
      simp only [beq_self_eq_true, br_tt]
      rw [R28_Same _ _ _ _ (by omega) (by omega), br_pos ⟨rfl, rfl⟩, L28_awake]
    · rw [decide_eq_false h2, br_ff, L28_awake]
end Q
end
