import Derived.Test.YtmaoicbiekgmhaaGBits7
import Derived.Test.YtmaoicbiekgmhaaBitsPlain
open Go Go.Abs Go.Proofs
set_option linter.unusedVariables false
set_option linter.unusedSimpArgs false
namespace F5
def spec : Abs.Spec := fun args K => match args with
  | [.v (.int .u64 n), .v (.int .i64 s), .sl (.ints .u8 b)] => br (decide (0 ≤ n ∧ n ≤ 18446744073709551615 ∧ ∀ x, x ∈ b → 0 ≤ x ∧ x ≤ 255)) (K (.v (.bool true))) none
  | _ => none
theorem rest {n s : Int} {b : List Int} {K : AVal → Option R} {r : R} (h0 : 0 ≤ n) (h1 : n ≤ 18446744073709551615) (hb : BitsLaw.Bytes b) (hl : b.length ≤ 1099511627776) (h : K (.v (.bool true)) = some r) :
    br (decide ((F32.text n s).reverse.length ≤ 1099511627776))
      (br (decide ((F32.text n s).reverse = F31.text n s))
        (br (decide ((F32.text n s).length ≤ 1099511627776))
          (br (decide (F32.text n s = (F31.text n s).reverse))
            (br (decide (b.length ≤ 1099511627776))
              (br (decide (b.length ≤ 1099511627776))
                (br (F34.num (0 : Int) b == F35.num (0 : Int) b)
                  (br (decide (b.length ≤ 1099511627776))
                    (br (F36.num (0 : Int) (List.take 8 b) (0 : Int) == F35.num (0 : Int) b.reverse)
                      (K (AVal.v (Value.bool true))) (K (AVal.v (Value.bool false))))
                    none)
                  (K (AVal.v (Value.bool false))))
                none)
              none)
            (K (AVal.v (Value.bool false))))
          none)
        (K (AVal.v (Value.bool false))))
      none = some r := by
  have e := BitsLaw.text_eq n s h0 h1
  have hlen := F32.text_len n s
  rw [br_pos (by rw [List.length_reverse]; omega), br_pos (by rw [e, List.reverse_reverse]), br_pos (by omega), br_pos e, br_pos hl, br_pos hl]
  rw [br_k (beq_iff_eq.2 (BitsLaw.num_eq b hb 0 (Int.le_refl 0))), br_tt, br_pos hl, br_k (beq_iff_eq.2 (BitsLaw.numLe_eq b hb)), br_tt]
  exact h
theorem ok : Proved Try.prog [] 5 spec := by
  refine proved_of (D := D) (fn := Try.f5) (c := Try.f5.body.getD .skip) [] (by kernel_rfl) rfl (by kernel_rfl) (by kernel_rfl) (by kernel_rfl) ⟨F19.ok, F29.ok, F30.ok, F31.ok, F32.ok, F33.ok, F34.ok, F35.ok, F36.ok, F37.ok, trivial⟩ trivial ?_ ?_
  · rw [loops]; exact trivial
  · intro args K r h
    unfold spec at h
    split at h
    · rename_i n s b
      obtain ⟨⟨h0, h1, hb⟩, h⟩ := pre_some h
      rw [body]
      by_cases hl : (b.length : Int) > 1000
      · rw [br_pos hl]; exact h
      · rw [br_neg hl]
        by_cases hs : s > 1000
        · rw [br_pos hs]
          by_cases hs2 : s ≤ 65536
          · rw [br_pos hs2]; exact h
          · rw [br_neg hs2]; exact rest h0 h1 hb (by omega) h
        · rw [br_neg hs]; exact rest h0 h1 hb (by omega) h
    · cases h
end F5
