import Derived.Test.YtmaoicbiekgmhaaGBits4
open Go Go.Abs Go.Proofs
set_option linter.unusedVariables false
set_option linter.unusedSimpArgs false
namespace F39
theorem inn_big {w : Int} : ∀ (l : List Int) (a n : Int), ¬ n < w → inn w l a n = (l, a, n)
  | [], a, n, h => rfl
  | x :: l, a, n, h => by simp [inn, h]
theorem inn_spec {w : Int} (hw : 1 ≤ w ∧ w ≤ 24) : ∀ (l : List Int) (a n : Int), 0 ≤ n → n ≤ 31 → w ≤ n + 8 * (l.length : Int) →
    w ≤ (inn w l a n).2.2 ∧ (inn w l a n).2.2 ≤ 31 ∧ (inn w l a n).2.2 + 8 * ((inn w l a n).1.length : Int) = n + 8 * (l.length : Int)
  | [], a, n, h0, h1, h2 => by simp [inn] at h2 ⊢; omega
  | x :: l, a, n, h0, h1, h2 => by
    unfold inn
    by_cases hn : n < w
    · rw [if_pos hn]
      have := inn_spec hw l (bits BinOp.or IntKind.u64 (IntKind.u64.wrap (a * 2 ^ 8)) (IntKind.u64.wrap x)) (n + 8) (by omega) (by omega) (by simp at h2; omega)
      simp at this ⊢
      omega
    · rw [if_neg hn]; simp; omega
theorem loop8 : LoopOk D (loopAt Try.f39 8) := by
  refine loopOk_of lass8 (fun st K r h => ?_)
  unfold L8 at h
  split at h
  · rename_i v0 v1 v8 v9 v10 v19 v20 h0 hV
    have := V8_ok hV
    subst this
    obtain ⟨⟨g1, g2, g3, g4, g5⟩, h⟩ := pre_some h
    refine loop_ind (fun x : List Int × Int × Int => S8 x.1 v1 x.2.1 x.2.2 v10 v19 v20 h0) (fun x => 0 ≤ x.2.2 ∧ x.2.2 ≤ 31 ∧ v1 ≤ x.2.2 + 8 * (x.1.length : Int) ∧ K (.exit 2) (S8 (inn v1 x.1 x.2.1 x.2.2).1 v1 (inn v1 x.1 x.2.1 x.2.2).2.1 (inn v1 x.1 x.2.1 x.2.2).2.2 v10 v19 v20 h0) = some r) (fun x => x.1.length) ?_ (x := (v0, v8, v9)) ⟨g3, g4, g5, h⟩
    rintro ⟨l, a, n⟩ ⟨h1, h2, h3, h⟩ next hn
    simp only at h1 h2 h3 h hn ⊢
    rw [round8]
    by_cases hx : n < v1
    · cases l with
      | nil => simp at h3; omega
      | cons x l =>
        simp only [List.length_cons] at h3 hn
        have e : List.drop 1 (List.take ((((x :: l).length : Nat) : Int)).toNat (x :: l)) = l := by simp
        rw [br_pos hx, br_pos (by simp only [List.length_cons]; omega), br_pos (by simp only [List.length_cons]; omega), br_pos (by simp only [List.length_cons]; omega), i64w (by omega) (by omega), e]
        refine hn (l, bits BinOp.or IntKind.u64 (IntKind.u64.wrap (a * 2 ^ 8)) (IntKind.u64.wrap x), n + 8) ⟨by simp only; omega, by simp only; omega, by simp only; omega, ?_⟩ (by simp only; omega)
        simp only
        unfold inn at h
        rw [if_pos hx] at h
        simpa using h
    · rw [br_neg hx]
      rw [inn_big l a n hx] at h
      exact h
  · cases h
theorem loop6 : LoopOk D (loopAt Try.f39 6) := by
  refine loopOk_of lass6 (fun st K r h => ?_)
  unfold L6 at h
  split at h
  · rename_i v0 v1 v8 v9 v19 v20 h0 hV
    have := V6_ok hV
    subst this
    obtain ⟨⟨g1, g2, g3, g4, g5, g6, g7, g8, g9⟩, h⟩ := pre_some h
    unfold lim at g8
    refine loop_ind (fun x : List Int × Int × Int × Int × List Int => S6 x.1 v1 x.2.1 x.2.2.1 v19 x.2.2.2.1 x.2.2.2.2) (fun x => 0 ≤ x.2.2.1 ∧ x.2.2.1 ≤ 31 ∧ 0 ≤ x.2.2.2.1 ∧ x.2.2.2.1 ≤ v19 ∧ v19 = (x.2.2.2.2.length : Int) ∧ v1 * (v19 - x.2.2.2.1) ≤ x.2.2.1 + 8 * (x.1.length : Int) ∧ K (.exit 0) (S6 (dend v1 (v19 - x.2.2.2.1).toNat x.1 x.2.1 x.2.2.1).1 v1 (dend v1 (v19 - x.2.2.2.1).toNat x.1 x.2.1 x.2.2.1).2.1 (dend v1 (v19 - x.2.2.2.1).toNat x.1 x.2.1 x.2.2.1).2.2 v19 v19 (x.2.2.2.2.take x.2.2.2.1.toNat ++ digs v1 (v19 - x.2.2.2.1).toNat x.1 x.2.1 x.2.2.1)) = some r) (fun x => (v19 - x.2.2.2.1).toNat) ?_ (x := (v0, v8, v9, v20, h0)) ⟨g3, g4, g5, g6, g7, g9, h⟩
    rintro ⟨l, a, n, i, o⟩ ⟨h1, h2, h3, h4, h5, h6, h⟩ next hn
    simp only at h1 h2 h3 h4 h5 h6 h hn ⊢
    rw [round6]
    by_cases hx : i < v19
    · have hw : v1 ≤ n + 8 * (l.length : Int) := by
        have : v1 * 1 ≤ v1 * (v19 - i) := Int.mul_le_mul_of_nonneg_left (by omega) (by omega)
        omega
      obtain ⟨k1, k2, k3⟩ := inn_spec ⟨g1, g2⟩ l a n h1 h2 hw
      rw [br_pos hx, br_pos ⟨g1, g2, h1, h2, hw⟩, i64w (x := (inn v1 l a n).2.2 - v1) (by omega) (by omega), br_neg (by omega), br_neg (by omega), br_pos h3, br_pos (by omega), i64w (x := i + 1) (by omega) (by omega)]
      refine hn ((inn v1 l a n).1, (inn v1 l a n).2.1, (inn v1 l a n).2.2 - v1, i + 1, _) ⟨by simp only; omega, by simp only; omega, by simp only; omega, by simp only; omega, by simp only [List.length_set]; exact h5, ?_, ?_⟩ (by simp only; omega)
      · simp only
        have : v1 * (v19 - i) = v1 * (v19 - (i + 1)) + v1 := by
          rw [show v19 - i = (v19 - (i + 1)) + 1 by omega, Int.mul_add, Int.mul_one]
        omega
      · simp only
        rw [show (v19 - i).toNat = (v19 - (i + 1)).toNat + 1 by omega] at h
        rw [show (i + 1).toNat = i.toNat + 1 by omega]
        have e1 : (o.set i.toNat (dig v1 (inn v1 l a n))).take (i.toNat + 1) = o.take i.toNat ++ [dig v1 (inn v1 l a n)] := by
          rw [List.take_add_one, List.take_set_of_le (Nat.le_refl _), List.getElem?_set_self (by omega)]
          rfl
        simp only [digs, dend] at h
        unfold dig at e1 h
        rw [e1]
        simpa only [List.append_assoc, List.cons_append, List.nil_append] using h
    · rw [br_neg hx]
      have : i = v19 := by omega
      subst this
      rw [show (i - i).toNat = 0 by omega] at h
      simp only [digs, dend, List.append_nil] at h
      rw [List.take_of_length_le (by omega)] at h
      exact h
  · cases h
def text (w c : Int) (b : List Int) : List Int := if F72.such b.length w c = true then digs w c.toNat b 0 0 else []
def spec : Abs.Spec := fun args K => match args with
  | [.sl (.ints .u8 b), .v (.int .i64 w), .v (.int .i64 c)] => br (decide (b.length ≤ 1099511627776 / 8)) (K (.fr 62 (.ints .u32 (text w c b)))) none
  | _ => none
theorem ok : Proved Try.prog [] 39 spec := by
  refine proved_of (D := D) (fn := Try.f39) (c := Try.f39.body.getD .skip) [some (62, .ints .u32 [])] (by kernel_rfl) rfl (by kernel_rfl) (by kernel_rfl) (by kernel_rfl) ⟨F72.ok, trivial⟩ trivial ?_ ?_
  · rw [loops]; exact ⟨loop6, loop8, trivial⟩
  · intro args K r h
    unfold spec at h
    split at h
    · rename_i b w c
      obtain ⟨hp, h⟩ := pre_some h
      rw [body, br_pos (by omega)]
      unfold text at h
      cases hs : F72.such b.length w c with
      | false =>
        rw [hs] at h
        simp only [Bool.not_false, br_tt]
        simpa using h
      | true =>
        rw [hs, if_pos rfl] at h
        simp only [Bool.not_true, br_ff]
        unfold F72.such at hs
        obtain ⟨s1, s2, s3, s4⟩ := of_decide_eq_true hs
        have s5 : c * w ≤ (b.length : Int) * 8 := by
          have := Int.ediv_mul_le ((b.length : Int) * 8) (show w ≠ 0 by omega)
          have h6 : c * w ≤ (b.length : Int) * 8 / w * w := Int.mul_le_mul_of_nonneg_right s4 (by omega)
          omega
        have s6 : c * 1 ≤ c * w := Int.mul_le_mul_of_nonneg_left s1 s3
        have s7 : (((List.replicate c.toNat (0 : Int)).length : Nat) : Int) = c := by simp; omega
        rw [br_pos s3, br_pos (Int.le_refl c), br_pos (by omega)]
        simp only [s7]
        rw [br_pos ⟨s1, s2, by omega, by omega, by omega, s3, trivial, by rw [List.length_replicate]; omega, by rw [Int.sub_zero, Int.mul_comm]; omega⟩]
        simpa using h
    · cases h
end F39
