/-
  LmsVerifies, part M: an interpreter of my own over abstract values, the pure functions, the walks and the plain law.
-/

import Derived.Test.YtknjpkgnideplaaDoorLmsVerifiesH
import Derived.Test.YtknjpkgnideplaaDoorLmsVerifiesF
import Derived.Test.YtknjpkgnideplaaDoorProg
import Derived.Test.YtknjpkgnideplaaDoorLmsVerifiesG
import Derived.Test.YtknjpkgnideplaaDoorLmsVerifiesL
import Derived.KernelRfl
import Derived.Test.YtknjpkgnideplaaDoorLmsVerifiesK

section
open Go Go.Abs Go.Proofs
set_option maxRecDepth 100000
set_option linter.unusedVariables false
namespace R15_over
noncomputable def D : Ctx := ({ P := Tryd.prog, G := [(22, R01_Be.spec), (123, R14_H.spec)], globs := GLO.gB, hints := [], loops := [], inl := [] } : Ctx)
theorem body (a0 : List Int) (a1 : Int) (a2 : List Int) (a3 : List Int) (K : AVal → Option R) : bodyA D Tryd.f108 [.fr 5 (.ints .u8 [])] [.sl (.ints .u8 a0), .v (.int .u64 a1), .sl (.ints .u8 a2), .sl (.ints .u8 a3)] K = P.R15_over a0 a1 a2 a3 (fun r0 => K (.fr 5 (.ints .u8 r0))) := by
 rw [P.R15_over_eq]
 kernel_rfl
theorem loops : loopsOf (Tryd.f108.body.getD .skip) = [] := by kernel_rfl
noncomputable def spec0 : Abs.Spec := fun args K => match args with
 | [.sl (.ints .u8 a0), .v (.int .u64 a1), .sl (.ints .u8 a2), .sl (.ints .u8 a3)] => P.R15_over a0 a1 a2 a3 (fun r0 => K (.fr 5 (.ints .u8 r0)))
 | _ => none
noncomputable def spec : Abs.Spec := fun args K => spec0 (coerL [.sl (.ints .u8 []), .any, .sl (.ints .u8 []), .sl (.ints .u8 [])] args) K
theorem ok0 : Proved Tryd.prog GLO.gB 108 spec0 := by
 refine proved_of (D := D) (fn := Tryd.f108) (c := Tryd.f108.body.getD .skip) [.fr 5 (.ints .u8 [])] (by kernel_rfl) (globsPlain_of (by kernel_rfl)) (by kernel_rfl) (by kernel_rfl) (by kernel_rfl) ⟨R01_Be.ok, R14_H.ok, trivial⟩ trivial ?_ ?_
 · rw [loops]; exact trivial
 · intro args K r h
   unfold spec0 at h
   split at h
   · rw [body]; exact h
   · cases h
theorem ok : Proved Tryd.prog GLO.gB 108 spec := proved_coer _ ok0
end R15_over
end

section
open Go Go.Abs Go.Proofs
set_option maxRecDepth 100000
set_option linter.unusedVariables false
namespace R15_Verify
abbrev X17 := (List Int) × (List Int) × Int × (List Int) × (List Int)
def S17 : X17 → ASt := fun (v0, v12, v16, v17, v18) => ⟨[(0, .sl (.ints .u8 v0)), (12, .sl (.ints .u8 v12)), (16, .v (.int .u64 v16)), (17, .sl (.ints .u8 v17)), (18, .sl (.ints .u8 v18))], [], 40, 125⟩
def V17 : ASt → Option X17
 | ⟨[(0, .sl (.ints .u8 v0)), (12, .sl (.ints .u8 v12)), (16, .v (.int .u64 v16)), (17, .sl (.ints .u8 v17)), (18, .sl (.ints .u8 v18))], [], 40, 125⟩ => some (v0, v12, v16, v17, v18)
 | _ => none
theorem V17_ok (st) (x) (h : V17 st = some x) : st = S17 x := by
 unfold V17 at h
 split at h
 · cases h; rfl
 · cases h
abbrev Y17 := X17
noncomputable def T17 : X17 → (X17 → Option R) → (Y17 → Option R) → Option R := fun (v0, v12, v16, v17, v18) next ex => P.R15_Verify_r17 v0 v12 v16 v17 v18 (fun v0 v12 v16 v17 v18 => next (v0, v12, v16, v17, v18)) (fun v0 v12 v16 v17 v18 => ex (v0, v12, v16, v17, v18))
def E17 (K : AExit → ASt → Option R) : Y17 → Option R := (fun x => K (.exit 0) (S17 x))
noncomputable def L17 : LSpec := fun st K => vMap (V17 st) fun (v0, v12, v16, v17, v18) => P.R15_Verify_l17 v0 v12 v16 v17 v18 (fun v0 v12 v16 v17 v18 => K (.exit 0) (S17 (v0, v12, v16, v17, v18)))
noncomputable def D : Ctx := ({ P := Tryd.prog, G := [(18, R01_Same.spec), (24, R01_Num.spec), (50, R14_Candidate.spec), (55, R15_Cut.spec), (96, R14_Size.spec), (102, R15_digit.spec), (103, R15_height.spec), (106, R15_head.spec), (107, R15_leafSum.spec), (108, R15_over.spec)], globs := GLO.gB, hints := [(17, ⟨[0, 12, 16, 17, 18], [], [6], [(17, .sl (.ints .u8 [])), (18, .sl (.ints .u8 []))], some (40, []), []⟩)], loops := [(17, L17)], inl := [] } : Ctx)
theorem round17 (K) (next) (x) : roundA D (loopAt Tryd.f57 17) K next (S17 x) = T17 x (fun x => next (S17 x)) (E17 K) := by kernel_rfl
theorem lq17 (st) (K) : L17 st K = vMap (V17 st) (fun x => lp T17 x (E17 K)) := by
 unfold L17
 cases V17 st with
 | none => rfl
 | some x => rw [P.R15_Verify_l17_eq]; kernel_rfl
theorem loop17 : LoopOk D (loopAt Tryd.f57 17) := loopOk_lp S17 V17_ok (by kernel_rfl) lq17 round17
theorem body (a0 : List Int) (a1 : List Int) (a2 : List Int) (K : AVal → Option R) : bodyA D Tryd.f57 [.any] [.sl (.ints .u8 a0), .sl (.ints .u8 a1), .sl (.ints .u8 a2)] K = P.R15_Verify a0 a1 a2 (fun r0 => K (.v (.int .i64 r0))) := by
 rw [P.R15_Verify_eq]
 kernel_rfl
theorem loops : loopsOf (Tryd.f57.body.getD .skip) = [loopAt Tryd.f57 17] := by kernel_rfl
noncomputable def spec0 : Abs.Spec := fun args K => match args with
 | [.sl (.ints .u8 a0), .sl (.ints .u8 a1), .sl (.ints .u8 a2)] => P.R15_Verify a0 a1 a2 (fun r0 => K (.v (.int .i64 r0)))
 | _ => none
noncomputable def spec : Abs.Spec := fun args K => spec0 (coerL [.sl (.ints .u8 []), .sl (.ints .u8 []), .sl (.ints .u8 [])] args) K
theorem ok0 : Proved Tryd.prog GLO.gB 57 spec0 := by
 refine proved_of (D := D) (fn := Tryd.f57) (c := Tryd.f57.body.getD .skip) [.any] (by kernel_rfl) (globsPlain_of (by kernel_rfl)) (by kernel_rfl) (by kernel_rfl) (by kernel_rfl) ⟨R01_Same.ok, R01_Num.ok, R14_Candidate.ok, R15_Cut.ok, R14_Size.ok, R15_digit.ok, R15_height.ok, R15_head.ok, R15_leafSum.ok, R15_over.ok, trivial⟩ trivial ?_ ?_
 · rw [loops]; exact ⟨loop17, trivial⟩
 · intro args K r h
   unfold spec0 at h
   split at h
   · rw [body]; exact h
   · cases h
theorem ok : Proved Tryd.prog GLO.gB 57 spec := proved_coer _ ok0
end R15_Verify
end

section
open Go Go.Abs Go.Proofs
set_option maxRecDepth 100000
set_option linter.unusedVariables false
namespace L15_LmsVerifies
noncomputable def D : Ctx := ({ P := Tryd.prog, G := [(18, R01_Same.spec), (52, L15_few.spec), (53, L15_awake.spec), (54, lms_Cut.spec), (55, R15_Cut.spec), (56, lms_Verify.spec), (57, R15_Verify.spec)], globs := GLO.gB, hints := [], loops := [], inl := [] } : Ctx)
theorem body (a0 : List Int) (a1 : List Int) (a2 : List Int) (K : AVal → Option R) : bodyA D Tryd.f12 [.any] [.sl (.ints .u8 a0), .sl (.ints .u8 a1), .sl (.ints .u8 a2)] K = P.L15_LmsVerifies a0 a1 a2 (fun r0 => K (.v (.bool r0))) := by
 rw [P.L15_LmsVerifies_eq]
 kernel_rfl
theorem loops : loopsOf (Tryd.f12.body.getD .skip) = [] := by kernel_rfl
noncomputable def spec0 : Abs.Spec := fun args K => match args with
 | [.sl (.ints .u8 a0), .sl (.ints .u8 a1), .sl (.ints .u8 a2)] => P.L15_LmsVerifies a0 a1 a2 (fun r0 => K (.v (.bool r0)))
 | _ => none
noncomputable def spec : Abs.Spec := fun args K => spec0 (coerL [.sl (.ints .u8 []), .sl (.ints .u8 []), .sl (.ints .u8 [])] args) K
theorem ok0 : Proved Tryd.prog GLO.gB 12 spec0 := by
 refine proved_of (D := D) (fn := Tryd.f12) (c := Tryd.f12.body.getD .skip) [.any] (by kernel_rfl) (globsPlain_of (by kernel_rfl)) (by kernel_rfl) (by kernel_rfl) (by kernel_rfl) ⟨R01_Same.ok, L15_few.ok, L15_awake.ok, lms_Cut.ok, R15_Cut.ok, lms_Verify.ok, R15_Verify.ok, trivial⟩ trivial ?_ ?_
 · rw [loops]; exact trivial
 · intro args K r h
   unfold spec0 at h
   split at h
   · rw [body]; exact h
   · cases h
theorem ok : Proved Tryd.prog GLO.gB 12 spec := proved_coer _ ok0
end L15_LmsVerifies
end
