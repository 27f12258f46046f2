import Derived.Test.YtmaoicbiekgmhaaGBits1
open Go Go.Abs Go.Proofs
set_option linter.unusedVariables false
set_option linter.unusedSimpArgs false
namespace F71
theorem loop : LoopOk D (loopAt Try.f71 3) := by
  refine loopOk_of lass3 (fun st K r h => ?_)
  unfold L3 at h
  split at h
  · rename_i v0 v4 h0 hV
    have := V3_ok hV
    subst this
    obtain ⟨⟨h1, h2, h3, h4⟩, h⟩ := pre_some h
    unfold lim at h1 h2
    refine loop_ind (fun x : Int × List Int => S3 v0 x.1 x.2) (fun x => -1 ≤ x.1 ∧ x.1 < (v0.length : Int) ∧ (x.2.length : Int) + x.1 ≤ 2 * 1099511627776 ∧ K (.exit 0) (S3 v0 (-1) (x.2 ++ (v0.take (x.1 + 1).toNat).reverse)) = some r) (fun x => (x.1 + 1).toNat) ?_ (x := (v4, h0)) ⟨h3, h4, by simp only; omega, h⟩
    rintro ⟨x, l⟩ ⟨h3, h4, h5, h⟩ next hn
    simp only at h3 h4 h5 h hn ⊢
    rw [round3]
    by_cases hx : 0 ≤ x
    · rw [br_pos hx, br_pos hx, br_pos h4, br_pos (by omega), i64w (by omega) (by omega)]
      refine hn (x - 1, l ++ [v0.getD x.toNat 0]) ⟨by simp only; omega, by simp only; omega, by simp only [List.length_append, List.length_cons, List.length_nil]; omega, ?_⟩ (by simp only; omega)
      simp only
      rw [show (x + 1).toNat = x.toNat + 1 by omega] at h
      rw [show (x - 1 + 1).toNat = x.toNat by omega]
      have e : v0.take (x.toNat + 1) = v0.take x.toNat ++ [v0.getD x.toNat 0] := by
        rw [List.take_add_one, List.getD_eq_getElem?_getD, List.getElem?_eq_getElem (by omega)]
        rfl
      rw [e] at h
      simpa only [List.reverse_append, List.reverse_cons, List.reverse_nil, List.append_assoc, List.cons_append, List.nil_append] using h
    · rw [br_neg hx]
      have : x = -1 := by omega
      subst this
      simpa using h
  · cases h
def spec : Abs.Spec := fun args K => match args with
  | [.sl (.ints .u8 b)] => br (decide (b.length ≤ lim)) (K (.fr 5 (.ints .u8 b.reverse))) none
  | _ => none
theorem ok : Proved Try.prog [] 71 spec := by
  refine proved_of (D := D) (fn := Try.f71) (c := Try.f71.body.getD .skip) [some (5, .ints .u8 [])] (by kernel_rfl) rfl (by kernel_rfl) (by kernel_rfl) (by kernel_rfl) trivial trivial ?_ ?_
  · rw [loops]; exact ⟨loop, trivial⟩
  · intro args K r h
    unfold spec at h
    split at h
    · rename_i b
      obtain ⟨hp, h⟩ := pre_some h
      unfold lim at hp
      rw [body, i64w (by omega) (by omega), br_pos ⟨hp, by simp, by omega, by omega⟩]
      rw [show ((b.length : Int) - 1 + 1).toNat = b.length by omega, List.take_length]
      exact h
    · cases h
end F71
