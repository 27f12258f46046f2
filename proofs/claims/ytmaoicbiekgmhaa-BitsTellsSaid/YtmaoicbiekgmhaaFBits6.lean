import Derived.Test.YtmaoicbiekgmhaaGBits6
open Go Go.Abs Go.Proofs
set_option linter.unusedVariables false
namespace F29
def spec : Abs.Spec := fun args K => match args with
  | [] => K (.v (.bool true))
  | _ => none
theorem pack : F41.text 4 [5, 10] = [165] := by decide +kernel
theorem ok : Proved Try.prog [] 29 spec := by
  refine proved_of (D := D) (fn := Try.f29) (c := Try.f29.body.getD .skip) [] (by kernel_rfl) rfl (by kernel_rfl) (by kernel_rfl) (by kernel_rfl) ⟨F19.ok, F30.ok, F32.ok, F39.ok, F41.ok, trivial⟩ trivial ?_ ?_
  · rw [loops]; exact trivial
  · intro args K r h
    unfold spec at h
    split at h
    · rw [body, decide_eq_true pack]
      exact h
    · cases h
end F29
