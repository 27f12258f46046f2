import Derived.Test.YtmaoicbiekgmhaaGBits5
open Go Go.Abs Go.Proofs
set_option linter.unusedVariables false
set_option linter.unusedSimpArgs false
namespace F41
theorem fl_len : ∀ (k : Nat) (a : Int), (fl a k).length = k
  | 0, a => rfl
  | k + 1, a => by simp [fl, fl_len k]
theorem loop10 : LoopOk D (loopAt Try.f41 10) := by
  refine loopOk_of lass10 (fun st K r h => ?_)
  unfold L10 at h
  split at h
  · rename_i v1 v6 v7 v23 v24 v25 h2 hV
    have := V10_ok hV
    subst this
    obtain ⟨⟨g1, g2, g3⟩, h⟩ := pre_some h
    unfold lim at g3
    refine loop_ind (fun x : Int × Int × List Int => S10 v1 x.1 x.2.1 v23 v24 v25 x.2.2) (fun x => 0 ≤ x.2.1 ∧ x.2.1 ≤ 31 ∧ (x.2.2.length : Int) + x.2.1 ≤ 4 * 1099511627776 + 31 ∧ K (.exit 2) (S10 v1 (shr8 x.1 (x.2.1 / 8).toNat) (x.2.1 % 8) v23 v24 v25 (x.2.2 ++ fl x.1 (x.2.1 / 8).toNat)) = some r) (fun x => x.2.1.toNat) ?_ (x := (v6, v7, h2)) ⟨g1, g2, by simp only; omega, h⟩
    rintro ⟨a, n, o⟩ ⟨h1, h2, h3, h⟩ next hn
    simp only at h1 h2 h3 h hn ⊢
    rw [round10]
    by_cases hx : n ≥ 8
    · rw [br_pos hx, br_pos (by omega), i64w (by omega) (by omega)]
      refine hn (a.fdiv ((2 : Int) ^ 8), n - 8, o ++ [IntKind.u8.wrap a]) ⟨by simp only; omega, by simp only; omega, by simp only [List.length_append, List.length_cons, List.length_nil]; omega, ?_⟩ (by simp only; omega)
      simp only
      rw [show (n / 8).toNat = ((n - 8) / 8).toNat + 1 by omega] at h
      rw [show (n - 8) % 8 = n % 8 by omega]
      simp only [shr8, fl] at h
      simpa only [List.append_assoc, List.cons_append, List.nil_append] using h
    · rw [br_neg hx]
      rw [show (n / 8).toNat = 0 by omega, show n % 8 = n by omega] at h
      simpa only [shr8, fl, List.append_nil] using h
  · cases h
theorem loop6 : LoopOk D (loopAt Try.f41 6) := by
  refine loopOk_of lass6 (fun st K r h => ?_)
  unfold L6 at h
  split at h
  · rename_i v1 v6 v7 v23 v24 v25 h1 hV
    have := V6_ok hV
    subst this
    obtain ⟨⟨g1, g2, g3, g4, g5, g6, g7, g8, g9⟩, h⟩ := pre_some h
    unfold lim at g8
    refine loop_ind (fun x : Int × Int × Int × List Int => S6 v1 x.1 x.2.1 v23 v24 x.2.2.1 x.2.2.2) (fun x => 0 ≤ x.2.1 ∧ x.2.1 ≤ 7 ∧ 0 ≤ x.2.2.1 ∧ x.2.2.1 ≤ v24 ∧ (x.2.2.2.length : Int) + 4 * (v24 - x.2.2.1) ≤ 4 * 1099511627776 ∧ K (.exit 0) (S6 v1 (pend v1 (v23.drop x.2.2.1.toNat) x.1 x.2.1).1 (pend v1 (v23.drop x.2.2.1.toNat) x.1 x.2.1).2 v23 v24 v24 (x.2.2.2 ++ pk v1 (v23.drop x.2.2.1.toNat) x.1 x.2.1)) = some r) (fun x => (v24 - x.2.2.1).toNat) ?_ (x := (v6, v7, v25, h1)) ⟨g3, g4, g5, g6, g9, h⟩
    rintro ⟨a, n, i, o⟩ ⟨h1, h2, h3, h4, h5, h⟩ next hn
    simp only at h1 h2 h3 h4 h5 h hn ⊢
    rw [round6]
    by_cases hx : i < v24
    · rw [br_pos hx, br_pos h3, br_pos (by omega), br_neg (by omega), br_neg (by omega), i64w (x := n + v1) (by omega) (by omega), br_pos ⟨by omega, by omega, by omega⟩, i64w (x := i + 1) (by omega) (by omega)]
      refine hn (shr8 (mix v1 a n (v23.getD i.toNat 0)) ((n + v1) / 8).toNat, (n + v1) % 8, i + 1, o ++ fl (mix v1 a n (v23.getD i.toNat 0)) ((n + v1) / 8).toNat) ⟨by simp only; omega, by simp only; omega, by simp only; omega, by simp only; omega, by simp only [List.length_append, fl_len]; omega, ?_⟩ (by simp only; omega)
      simp only
      rw [drop_getD v23 0 i.toNat (by omega)] at h
      rw [show (i + 1).toNat = i.toNat + 1 by omega]
      simp only [pk, pend] at h
      simpa only [List.append_assoc] using h
    · rw [br_neg hx]
      have : i = v24 := by omega
      subst this
      rw [List.drop_eq_nil_of_le (by omega)] at h
      simpa only [pk, pend, List.append_nil] using h
  · cases h
def tail (q : Int × Int) : List Int := if q.2 > 0 then [IntKind.u8.wrap q.1] else []
def text (w : Int) (l : List Int) : List Int := if 1 ≤ w ∧ w ≤ 24 then pk w l 0 0 ++ tail (pend w l 0 0) else []
def spec : Abs.Spec := fun args K => match args with
  | [.sl (.ints .u32 l), .v (.int .i64 w)] => br (decide (l.length ≤ 1073741824)) (K (.fr 5 (.ints .u8 (text w l)))) none
  | _ => none
theorem pk_len {w : Int} (hw : 1 ≤ w ∧ w ≤ 24) : ∀ (l : List Int) (a n : Int), 0 ≤ n → n ≤ 7 → (pk w l a n).length ≤ 4 * l.length
  | [], a, n, _, _ => by simp [pk]
  | x :: l, a, n, h0, h1 => by
    have := pk_len hw l (shr8 (mix w a n x) ((n + w) / 8).toNat) ((n + w) % 8) (by omega) (by omega)
    simp only [pk, List.length_append, fl_len, List.length_cons]
    omega
theorem ok : Proved Try.prog [] 41 spec := by
  refine proved_of (D := D) (fn := Try.f41) (c := Try.f41.body.getD .skip) [some (5, .ints .u8 [])] (by kernel_rfl) rfl (by kernel_rfl) (by kernel_rfl) (by kernel_rfl) trivial trivial ?_ ?_
  · rw [loops]; exact ⟨loop6, loop10, trivial⟩
  · intro args K r h
    unfold spec at h
    split at h
    · rename_i l w
      obtain ⟨hp, h⟩ := pre_some h
      rw [body]
      unfold text at h
      by_cases hw : 1 ≤ w ∧ w ≤ 24
      · rw [if_pos hw] at h
        have hlw : (l.length : Int) * w ≤ 1073741824 * 24 := by
          have h1 : (l.length : Int) * w ≤ (l.length : Int) * 24 := Int.mul_le_mul_of_nonneg_left hw.2 (by omega)
          omega
        have hlw0 : 0 ≤ (l.length : Int) * w := Int.mul_nonneg (by omega) (by omega)
        rw [br_neg (by omega), br_neg (by omega), i64w (x := (l.length : Int) * w) (by omega) (by omega), i64w (x := (l.length : Int) * w + 7) (by omega) (by omega), IntWalk.i64_quo _ _ ⟨by omega, by omega, by omega⟩, br_pos (by omega), br_pos (by omega), br_pos ⟨hw.1, hw.2, by omega, by omega, by omega, by omega, rfl, by omega, by simp; omega⟩]
        have hl := pk_len hw l 0 0 (by omega) (by omega)
        simp only [List.drop_zero, List.replicate_zero, List.nil_append]
        unfold tail at h
        by_cases ht : (pend w l 0 0).2 > 0
        · rw [if_pos ht] at h
          rw [br_pos ht, br_pos (by omega)]
          exact h
        · rw [if_neg ht, List.append_nil] at h
          rw [br_neg ht]
          exact h
      · rw [if_neg hw] at h
        by_cases h1 : w < 1
        · rw [br_pos h1]; exact h
        · rw [br_neg h1, br_pos (by omega)]; exact h
    · cases h
end F41
