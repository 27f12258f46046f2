import Derived.Test.YtmaoicbiekgmhaaGBits3
open Go Go.Abs Go.Proofs
set_option linter.unusedVariables false
set_option linter.unusedSimpArgs false
namespace F32
theorem le_len (n : Int) : ∀ (k i : Nat), (le n i k).length = k
  | 0, i => rfl
  | k + 1, i => by simp [le, le_len n k]
theorem text_len (n w : Int) : (text n w).length ≤ 65536 := by
  unfold text
  split
  · simp [le_len]; omega
  · simp
end F32
namespace F31
theorem be_len : ∀ (k : Nat) (v : Int), (be v k).length = k
  | 0, v => rfl
  | k + 1, v => by simp [be, be_len k]
theorem text_len (n w : Int) : (text n w).length ≤ 65536 := by
  unfold text
  split
  · simp [be_len]; omega
  · simp
end F31
namespace F30
def spec : Abs.Spec := fun args K => match args with
  | [.v (.int .u64 n), .v (.int .i64 w)] => K (.fr 5 (.ints .u8 (F32.text n w).reverse))
  | _ => none
theorem ok : Proved Try.prog [] 30 spec := by
  refine proved_of (D := D) (fn := Try.f30) (c := Try.f30.body.getD .skip) [some (5, .ints .u8 [])] (by kernel_rfl) rfl (by kernel_rfl) (by kernel_rfl) (by kernel_rfl) ⟨F32.ok, trivial⟩ ⟨F70.ok rfl rfl, trivial⟩ ?_ ?_
  · rw [loops]; exact trivial
  · intro args K r h
    unfold spec at h
    split at h
    · rename_i n w
      have := F32.text_len n w
      rw [body, br_pos (by omega)]
      exact h
    · cases h
end F30
namespace F33
def spec : Abs.Spec := fun args K => match args with
  | [.v (.int .u64 n), .v (.int .i64 w)] => K (.fr 5 (.ints .u8 (F31.text n w).reverse))
  | _ => none
theorem ok : Proved Try.prog [] 33 spec := by
  refine proved_of (D := D) (fn := Try.f33) (c := Try.f33.body.getD .skip) [] (by kernel_rfl) rfl (by kernel_rfl) (by kernel_rfl) (by kernel_rfl) ⟨F31.ok, F71.ok, trivial⟩ trivial ?_ ?_
  · rw [loops]; exact trivial
  · intro args K r h
    unfold spec at h
    split at h
    · rename_i n w
      have := F31.text_len n w
      rw [body, br_pos (by omega)]
      exact h
    · cases h
end F33
namespace F37
def spec : Abs.Spec := fun args K => match args with
  | [.sl (.ints .u8 b)] => br (decide (b.length ≤ lim)) (K (.v (.int .u64 (F35.num 0 b.reverse)))) none
  | _ => none
theorem ok : Proved Try.prog [] 37 spec := by
  refine proved_of (D := D) (fn := Try.f37) (c := Try.f37.body.getD .skip) [] (by kernel_rfl) rfl (by kernel_rfl) (by kernel_rfl) (by kernel_rfl) ⟨F35.ok, F71.ok, trivial⟩ trivial ?_ ?_
  · rw [loops]; exact trivial
  · intro args K r h
    unfold spec at h
    split at h
    · rename_i b
      obtain ⟨hp, h⟩ := pre_some h
      unfold lim at hp
      rw [body, br_pos hp, br_pos (by simpa using hp)]
      exact h
    · cases h
end F37
