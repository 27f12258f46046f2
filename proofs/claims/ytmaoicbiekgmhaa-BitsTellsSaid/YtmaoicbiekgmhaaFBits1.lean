import Derived.Test.YtmaoicbiekgmhaaGBits1
open Go Go.Abs Go.Proofs
set_option linter.unusedVariables false
set_option linter.unusedSimpArgs false

namespace F19
theorem loop : LoopOk D (loopAt Try.f19 4) := by
  refine loopOk_of lass4 (fun st K r h => ?_)
  unfold L4 at h
  split at h
  · rename_i v0 v1 v5 hV
    have := V4_ok hV
    subst this
    obtain ⟨⟨h1, h2, h3, h4⟩, h⟩ := pre_some h
    unfold lim at h2
    refine loop_ind (fun x : Int => S4 v0 v1 x) (fun x => 0 ≤ x ∧ x ≤ (v0.length : Int) ∧ br (decide (v0.drop x.toNat = v1.drop x.toNat)) (K (.exit 0) (S4 v0 v1 (v0.length : Int))) (K .ret ⟨[(4, .v (.bool false))], [], 0, 26⟩) = some r) (fun x => v0.length - x.toNat) ?_ (x := v5) ⟨h3, h4, h⟩
    rintro x ⟨h3, h4, h⟩ next hn
    rw [round4]
    by_cases hx : x < (v0.length : Int)
    · rw [br_pos hx, br_pos h3, br_pos hx, br_pos h3, br_pos (by omega)]
      have e0 := drop_getD v0 0 x.toNat (by omega)
      have e1 := drop_getD v1 0 x.toNat (by omega)
      rw [e0, e1] at h
      by_cases he : v0.getD x.toNat 0 = v1.getD x.toNat 0
      · rw [br_k (bne_eq_false_iff_eq.2 he), br_ff]
        rw [i64w (by omega) (by omega)]
        refine hn (x + 1) ⟨by omega, by omega, ?_⟩ (by omega)
        rw [show (x + 1).toNat = x.toNat + 1 by omega]
        rw [br_k (show decide (v0.getD x.toNat 0 :: v0.drop (x.toNat + 1) = v1.getD x.toNat 0 :: v1.drop (x.toNat + 1)) = decide (v0.drop (x.toNat + 1) = v1.drop (x.toNat + 1)) by simp only [he, List.cons.injEq, true_and])] at h
        exact h
      · rw [br_k (bne_iff_ne.2 he), br_tt]
        rw [br_neg (by simp only [List.cons.injEq]; exact fun hc => he hc.1)] at h
        exact h
    · rw [br_neg hx]
      have : x = (v0.length : Int) := by omega
      subst this
      rw [br_pos (by simp [← h1])] at h
      exact h
  · cases h
def spec : Abs.Spec := fun args K => match args with
  | [.sl (.ints .u8 a), .sl (.ints .u8 b)] => br (decide (a.length ≤ lim)) (K (.v (.bool (decide (a = b))))) none
  | _ => none
theorem ok : Proved Try.prog [] 19 spec := by
  refine proved_of (D := D) (fn := Try.f19) (c := Try.f19.body.getD .skip) [] (by kernel_rfl) rfl (by kernel_rfl) (by kernel_rfl) (by kernel_rfl) trivial trivial ?_ ?_
  · rw [loops]; exact ⟨loop, trivial⟩
  · intro args K r h
    unfold spec at h
    split at h
    · rename_i a b
      obtain ⟨hp, h⟩ := pre_some h
      rw [body]
      by_cases hl : a.length = b.length
      · rw [br_k (show ((a.length : Int) != (b.length : Int)) = false by simp [hl]), br_ff, br_pos ⟨hl, hp, by omega, by omega⟩]
        by_cases hab : a = b
        · rw [br_pos (by simp [hab])]; simpa [hab] using h
        · rw [br_neg (by simpa using hab)]; simpa [hab] using h
      · rw [br_k (show ((a.length : Int) != (b.length : Int)) = true by simp; omega), br_tt]
        have hab : a ≠ b := fun e => hl (by rw [e])
        simpa [hab] using h
    · cases h
end F19

namespace F34
theorem loop : LoopOk D (loopAt Try.f34 3) := by
  refine loopOk_of lass3 (fun st K r h => ?_)
  unfold L3 at h
  split at h
  · rename_i v3 v6 v7 v8 hV
    have := V3_ok hV
    subst this
    obtain ⟨⟨h1, h2, h3, h4⟩, h⟩ := pre_some h
    unfold lim at h2
    subst h1
    refine loop_ind (fun x : Int × Int => S3 x.1 v6 (v6.length : Int) x.2) (fun x => 0 ≤ x.2 ∧ x.2 ≤ (v6.length : Int) ∧ K (.exit 0) (S3 (num x.1 (v6.drop x.2.toNat)) v6 (v6.length : Int) (v6.length : Int)) = some r) (fun x => v6.length - x.2.toNat) ?_ (x := (v3, v8)) ⟨h3, h4, h⟩
    rintro ⟨a, x⟩ ⟨h3, h4, h⟩ next hn
    simp only at h3 h4 h hn ⊢
    rw [round3]
    by_cases hx : x < (v6.length : Int)
    · rw [br_pos hx, br_pos h3, br_pos hx, i64w (by omega) (by omega)]
      rw [drop_getD v6 0 x.toNat (by omega)] at h
      refine hn (_, x + 1) ⟨by simp only; omega, by simp only; omega, ?_⟩ (by simp only; omega)
      simp only
      rw [show (x + 1).toNat = x.toNat + 1 by omega]
      exact h
    · rw [br_neg hx]
      have : x = (v6.length : Int) := by omega
      subst this
      simpa [num] using h
  · cases h
def spec : Abs.Spec := fun args K => match args with
  | [.sl (.ints .u8 b)] => br (decide (b.length ≤ lim)) (K (.v (.int .u64 (num 0 b)))) none
  | _ => none
theorem ok : Proved Try.prog [] 34 spec := by
  refine proved_of (D := D) (fn := Try.f34) (c := Try.f34.body.getD .skip) [] (by kernel_rfl) rfl (by kernel_rfl) (by kernel_rfl) (by kernel_rfl) trivial trivial ?_ ?_
  · rw [loops]; exact ⟨loop, trivial⟩
  · intro args K r h
    unfold spec at h
    split at h
    · rename_i b
      obtain ⟨hp, h⟩ := pre_some h
      rw [body, br_pos ⟨rfl, hp, by omega, by omega⟩]
      exact h
    · cases h
end F34

namespace F35
theorem loop : LoopOk D (loopAt Try.f35 3) := by
  refine loopOk_of lass3 (fun st K r h => ?_)
  unfold L3 at h
  split at h
  · rename_i v0 v3 v4 hV
    have := V3_ok hV
    subst this
    obtain ⟨⟨h2, h3, h4⟩, h⟩ := pre_some h
    unfold lim at h2
    refine loop_ind (fun x : Int × Int => S3 v0 x.1 x.2) (fun x => 0 ≤ x.2 ∧ x.2 ≤ (v0.length : Int) ∧ K (.exit 0) (S3 v0 (num x.1 (v0.drop x.2.toNat)) (v0.length : Int)) = some r) (fun x => v0.length - x.2.toNat) ?_ (x := (v3, v4)) ⟨h3, h4, h⟩
    rintro ⟨a, x⟩ ⟨h3, h4, h⟩ next hn
    simp only at h3 h4 h hn ⊢
    rw [round3]
    by_cases hx : x < (v0.length : Int)
    · rw [br_pos hx, br_pos h3, br_pos hx, i64w (by omega) (by omega)]
      rw [drop_getD v0 0 x.toNat (by omega)] at h
      refine hn (_, x + 1) ⟨by simp only; omega, by simp only; omega, ?_⟩ (by simp only; omega)
      simp only
      rw [show (x + 1).toNat = x.toNat + 1 by omega]
      exact h
    · rw [br_neg hx]
      have : x = (v0.length : Int) := by omega
      subst this
      simpa [num] using h
  · cases h
def spec : Abs.Spec := fun args K => match args with
  | [.sl (.ints .u8 b)] => br (decide (b.length ≤ lim)) (K (.v (.int .u64 (num 0 b)))) none
  | _ => none
theorem ok : Proved Try.prog [] 35 spec := by
  refine proved_of (D := D) (fn := Try.f35) (c := Try.f35.body.getD .skip) [] (by kernel_rfl) rfl (by kernel_rfl) (by kernel_rfl) (by kernel_rfl) trivial trivial ?_ ?_
  · rw [loops]; exact ⟨loop, trivial⟩
  · intro args K r h
    unfold spec at h
    split at h
    · rename_i b
      obtain ⟨hp, h⟩ := pre_some h
      rw [body, br_pos ⟨hp, by omega, by omega⟩]
      exact h
    · cases h
end F35

namespace F36
theorem loop : LoopOk D (loopAt Try.f36 3) := by
  refine loopOk_of lass3 (fun st K r h => ?_)
  unfold L3 at h
  split at h
  · rename_i v0 v3 v7 v8 hV
    have := V3_ok hV
    subst this
    obtain ⟨⟨h1, h2, h3, h4⟩, h⟩ := pre_some h
    refine loop_ind (fun x : Int × Int => S3 v0 x.1 v7 x.2) (fun x => 0 ≤ x.2 ∧ x.2 ≤ v7 ∧ K (.exit 0) (S3 v0 (num x.1 ((v0.take v7.toNat).drop x.2.toNat) x.2) v7 v7) = some r) (fun x => v7.toNat - x.2.toNat) ?_ (x := (v3, v8)) ⟨h1, h2, h⟩
    rintro ⟨a, x⟩ ⟨h1, h2, h⟩ next hn
    simp only at h1 h2 h hn ⊢
    rw [round3]
    by_cases hx : x < v7
    · have e : (v0.take v7.toNat).getD x.toNat 0 = v0.getD x.toNat 0 := by
        simp only [List.getD_eq_getElem?_getD]
        rw [List.getElem?_take_of_lt (by omega)]
      rw [br_pos hx, br_pos h1, br_pos (by omega), br_neg (by rw [i64w (by omega) (by omega)]; omega), i64w (x := x + 1) (by omega) (by omega), i64w (x := 8 * x) (by omega) (by omega)]
      rw [drop_getD (v0.take v7.toNat) 0 x.toNat (by simp; omega), e] at h
      refine hn (_, x + 1) ⟨by simp only; omega, by simp only; omega, ?_⟩ (by simp only; omega)
      simp only
      rw [show (x + 1).toNat = x.toNat + 1 by omega]
      exact h
    · rw [br_neg hx]
      have : x = v7 := by omega
      subst this
      rw [List.drop_eq_nil_of_le (by simp; omega)] at h
      simpa [num] using h
  · cases h
def spec : Abs.Spec := fun args K => match args with
  | [.sl (.ints .u8 b)] => K (.v (.int .u64 (num 0 (b.take 8) 0)))
  | _ => none
theorem ok : Proved Try.prog [] 36 spec := by
  refine proved_of (D := D) (fn := Try.f36) (c := Try.f36.body.getD .skip) [] (by kernel_rfl) rfl (by kernel_rfl) (by kernel_rfl) (by kernel_rfl) trivial trivial ?_ ?_
  · rw [loops]; exact ⟨loop, trivial⟩
  · intro args K r h
    unfold spec at h
    split at h
    · rename_i b
      rw [body]
      by_cases hb : (8 : Int) < (b.length : Int)
      · rw [decide_eq_true hb]
        simp only [cond_true]
        rw [br_pos ⟨by omega, by omega, by omega, by omega⟩]
        simpa using h
      · rw [decide_eq_false hb]
        simp only [cond_false]
        rw [br_pos ⟨by omega, by omega, by omega, by omega⟩]
        have e : b.take 8 = b.take (b.length : Int).toNat := by
          rw [List.take_of_length_le (by omega), List.take_of_length_le (by omega)]
        rw [e] at h
        simpa using h
    · cases h
end F36

namespace F72
def such (n : Nat) (w c : Int) : Bool := decide (1 ≤ w ∧ w ≤ 24 ∧ 0 ≤ c ∧ c ≤ (n * 8 : Int) / w)
def spec : Abs.Spec := fun args K => match args with
  | [.sl (.ints .u8 b), .v (.int .i64 w), .v (.int .i64 c)] => br (decide (b.length ≤ lim)) (K (.v (.bool (such b.length w c)))) none
  | _ => none
theorem ok : Proved Try.prog [] 72 spec := by
  refine proved_of (D := D) (fn := Try.f72) (c := Try.f72.body.getD .skip) [] (by kernel_rfl) rfl (by kernel_rfl) (by kernel_rfl) (by kernel_rfl) trivial trivial ?_ ?_
  · rw [loops]; exact trivial
  · intro args K r h
    unfold spec at h
    split at h
    · rename_i b w c
      obtain ⟨hp, h⟩ := pre_some h
      unfold lim at hp
      rw [body]
      unfold such at h
      by_cases h1 : w ≥ 1
      · rw [br_pos h1]
        by_cases h2 : w ≤ 24
        · rw [br_pos h2]
          by_cases h3 : c ≥ 0
          · rw [br_pos h3, br_neg (by omega), i64w (x := ↑b.length * 8) (by omega) (by omega), IntWalk.i64_quo _ _ ⟨by omega, by omega, h1⟩]
            simpa [h1, h2, h3] using h
          · rw [br_neg h3]; simpa [h1, h2, show ¬ 0 ≤ c from h3] using h
        · rw [br_neg h2]; simpa [h1, h2] using h
      · rw [br_neg h1]; simpa [show ¬ 1 ≤ w from h1] using h
    · cases h
end F72
