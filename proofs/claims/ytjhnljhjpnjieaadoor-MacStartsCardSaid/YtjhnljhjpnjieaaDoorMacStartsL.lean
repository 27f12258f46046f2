/-
  MacStarts, part L: an interpreter of my own over abstract values, the pure functions, the walks and the plain law.
-/

import Derived.Test.YtjhnljhjpnjieaaDoorMacStartsH
import Derived.Test.YtjhnljhjpnjieaaDoorMacStartsF
import Derived.Test.YtjhnljhjpnjieaaDoorProg
import Derived.Test.YtjhnljhjpnjieaaDoorMacStartsG
import Derived.Test.YtjhnljhjpnjieaaDoorMacStartsK
import Derived.KernelRfl

section
open Go Go.Abs Go.Proofs
set_option maxRecDepth 100000
set_option linter.unusedVariables false
namespace keccak_Absorb
abbrev X5 := (List Int) × Int × Int × Int × Int × (List Int) × Int × Bool × Int × (List Int) × Int × Bool
def S5 : X5 → ASt := fun (v1, v5, v14, v15, h0_0, h0_1, h0_2, h0_3, h1_0, h1_1, h1_2, h1_3) => ⟨[(1, .sl (.ints .u8 v1)), (2, .ptr 0 0), (4, .ptr 1 0), (5, .v (.int .i64 v5)), (14, .v (.int .i64 v14)), (15, .v (.int .i64 v15))], [(0, some ⟨.box 123 [.v (.int .i64 h0_0), .arr .u64 25 h0_1, .v (.int .i64 h0_2), .v (.bool h0_3)], false⟩), (1, some ⟨.box 123 [.v (.int .i64 h1_0), .arr .u64 25 h1_1, .v (.int .i64 h1_2), .v (.bool h1_3)], false⟩)], 40, 40⟩
def V5 : ASt → Option X5
 | ⟨[(1, .sl (.ints .u8 v1)), (2, .ptr 0 0), (4, .ptr 1 0), (5, .v (.int .i64 v5)), (14, .v (.int .i64 v14)), (15, .v (.int .i64 v15))], [(0, some ⟨.box 123 [.v (.int .i64 h0_0), .arr .u64 25 h0_1, .v (.int .i64 h0_2), .v (.bool h0_3)], false⟩), (1, some ⟨.box 123 [.v (.int .i64 h1_0), .arr .u64 25 h1_1, .v (.int .i64 h1_2), .v (.bool h1_3)], false⟩)], 40, 40⟩ => some (v1, v5, v14, v15, h0_0, h0_1, h0_2, h0_3, h1_0, h1_1, h1_2, h1_3)
 | _ => none
theorem V5_ok (st) (x) (h : V5 st = some x) : st = S5 x := by
 unfold V5 at h
 split at h
 · cases h; rfl
 · cases h
abbrev Y5 := X5
noncomputable def T5 : X5 → (X5 → Option R) → (Y5 → Option R) → Option R := fun (v1, v5, v14, v15, h0_0, h0_1, h0_2, h0_3, h1_0, h1_1, h1_2, h1_3) next ex => P.keccak_Absorb_r5 v1 v5 v14 v15 h0_0 h0_1 h0_2 h0_3 h1_0 h1_1 h1_2 h1_3 (fun v1 v5 v14 v15 h0_0 h0_1 h0_2 h0_3 h1_0 h1_1 h1_2 h1_3 => next (v1, v5, v14, v15, h0_0, h0_1, h0_2, h0_3, h1_0, h1_1, h1_2, h1_3)) (fun v1 v5 v14 v15 h0_0 h0_1 h0_2 h0_3 h1_0 h1_1 h1_2 h1_3 => ex (v1, v5, v14, v15, h0_0, h0_1, h0_2, h0_3, h1_0, h1_1, h1_2, h1_3))
def E5 (K : AExit → ASt → Option R) : Y5 → Option R := (fun x => K (.exit 0) (S5 x))
noncomputable def L5 : LSpec := fun st K => vMap (V5 st) fun (v1, v5, v14, v15, h0_0, h0_1, h0_2, h0_3, h1_0, h1_1, h1_2, h1_3) => P.keccak_Absorb_l5 v1 v5 v14 v15 h0_0 h0_1 h0_2 h0_3 h1_0 h1_1 h1_2 h1_3 (fun v1 v5 v14 v15 h0_0 h0_1 h0_2 h0_3 h1_0 h1_1 h1_2 h1_3 => K (.exit 0) (S5 (v1, v5, v14, v15, h0_0, h0_1, h0_2, h0_3, h1_0, h1_1, h1_2, h1_3)))
noncomputable def D1 : Ctx := ({ P := Tryd.prog, G := [(122, keccak_rate.spec), (124, keccak_Permute.spec)], globs := GLO.gC, hints := [], loops := [], inl := [] } : Ctx)
noncomputable def D : Ctx := ({ P := Tryd.prog, G := [(122, keccak_rate.spec), (124, keccak_Permute.spec)], globs := GLO.gC, hints := [(5, ⟨[1, 2, 4, 5, 14, 15], [], [4], [], some (40, [0, 1]), []⟩)], loops := [(5, L5)], inl := [(125, bodyIn D1 Tryd.f125)] } : Ctx)
theorem round5 (K) (next) (x) : roundA D (loopAt Tryd.f91 5) K next (S5 x) = T5 x (fun x => next (S5 x)) (E5 K) := by kernel_rfl
theorem lq5 (st) (K) : L5 st K = vMap (V5 st) (fun x => lp T5 x (E5 K)) := by
 unfold L5
 cases V5 st with
 | none => rfl
 | some x => rw [P.keccak_Absorb_l5_eq]; kernel_rfl
theorem loop5 : LoopOk D (loopAt Tryd.f91 5) := loopOk_lp S5 V5_ok (by kernel_rfl) lq5 round5
theorem body (a0_Kind : Int) (a0_Words : List Int) (a0_At : Int) (a0_Out : Bool) (a1 : List Int) (K : AVal → Option R) : bodyA D Tryd.f91 [.any] [.agg [.v (.int .i64 a0_Kind), .arr .u64 25 a0_Words, .v (.int .i64 a0_At), .v (.bool a0_Out)], .sl (.ints .u8 a1)] K = P.keccak_Absorb a0_Kind a0_Words a0_At a0_Out a1 (fun r0_Kind r0_Words r0_At r0_Out => K (.agg [.v (.int .i64 r0_Kind), .arr .u64 25 r0_Words, .v (.int .i64 r0_At), .v (.bool r0_Out)])) := by
 rw [P.keccak_Absorb_eq]
 kernel_rfl
theorem loops : loopsOf (Tryd.f91.body.getD .skip) = [loopAt Tryd.f91 5] := by kernel_rfl
theorem loops1 : loopsOf (Tryd.f125.body.getD .skip) = [] := by kernel_rfl
noncomputable def spec0 : Abs.Spec := fun args K => match args with
 | [.agg [.v (.int .i64 a0_Kind), .arr .u64 25 a0_Words, .v (.int .i64 a0_At), .v (.bool a0_Out)], .sl (.ints .u8 a1)] => P.keccak_Absorb a0_Kind a0_Words a0_At a0_Out a1 (fun r0_Kind r0_Words r0_At r0_Out => K (.agg [.v (.int .i64 r0_Kind), .arr .u64 25 r0_Words, .v (.int .i64 r0_At), .v (.bool r0_Out)]))
 | _ => none
noncomputable def spec : Abs.Spec := fun args K => spec0 (coerL [.any, .sl (.ints .u8 [])] args) K
theorem ok0 : Proved Tryd.prog GLO.gC 91 spec0 := by
 refine proved_of (D := D) (fn := Tryd.f91) (c := Tryd.f91.body.getD .skip) [.any] (by kernel_rfl) (globsPlain_of (by kernel_rfl)) (by kernel_rfl) (by kernel_rfl) (by kernel_rfl) ⟨keccak_rate.ok, keccak_Permute.ok, trivial⟩ ⟨run_of (D := D1) (D' := D) (fn := Tryd.f125) (c := Tryd.f125.body.getD .skip) rfl rfl (by kernel_rfl) (globsPlain_of (by kernel_rfl)) (by kernel_rfl) (by kernel_rfl) (by kernel_rfl) ⟨keccak_rate.ok, keccak_Permute.ok, trivial⟩ trivial (by rw [loops1]; exact trivial) (fun _ _ _ _ _ h => h), trivial⟩ ?_ ?_
 · rw [loops]; exact ⟨loop5, trivial⟩
 · intro args K r h
   unfold spec0 at h
   split at h
   · rw [body]; exact h
   · cases h
theorem ok : Proved Tryd.prog GLO.gC 91 spec := proved_coer _ ok0
end keccak_Absorb
end

section
open Go Go.Abs Go.Proofs
set_option maxRecDepth 100000
set_option linter.unusedVariables false
namespace keccak_New
noncomputable def D : Ctx := ({ P := Tryd.prog, G := [(122, keccak_rate.spec)], globs := GLO.gC, hints := [], loops := [], inl := [] } : Ctx)
theorem body (a0 : Int) (K : AVal → Option R) : bodyA D Tryd.f89 [.any, .any] [.v (.int .i64 a0)] K = P.keccak_New a0 (fun r0_Kind r0_Words r0_At r0_Out r1 => K (.tuple [.agg [.v (.int .i64 r0_Kind), .arr .u64 25 r0_Words, .v (.int .i64 r0_At), .v (.bool r0_Out)], .v (.int .i64 r1)])) := by
 rw [P.keccak_New_eq]
 kernel_rfl
theorem loops : loopsOf (Tryd.f89.body.getD .skip) = [] := by kernel_rfl
noncomputable def spec0 : Abs.Spec := fun args K => match args with
 | [.v (.int .i64 a0)] => P.keccak_New a0 (fun r0_Kind r0_Words r0_At r0_Out r1 => K (.tuple [.agg [.v (.int .i64 r0_Kind), .arr .u64 25 r0_Words, .v (.int .i64 r0_At), .v (.bool r0_Out)], .v (.int .i64 r1)]))
 | _ => none
noncomputable def spec : Abs.Spec := spec0
theorem ok0 : Proved Tryd.prog GLO.gC 89 spec0 := by
 refine proved_of (D := D) (fn := Tryd.f89) (c := Tryd.f89.body.getD .skip) [.any, .any] (by kernel_rfl) (globsPlain_of (by kernel_rfl)) (by kernel_rfl) (by kernel_rfl) (by kernel_rfl) ⟨keccak_rate.ok, trivial⟩ trivial ?_ ?_
 · rw [loops]; exact trivial
 · intro args K r h
   unfold spec0 at h
   split at h
   · rw [body]; exact h
   · cases h
theorem ok : Proved Tryd.prog GLO.gC 89 spec := ok0
end keccak_New
end

section
open Go Go.Abs Go.Proofs
set_option maxRecDepth 100000
set_option linter.unusedVariables false
namespace keccak_turned
noncomputable def D1 : Ctx := ({ P := Tryd.prog, G := [(122, keccak_rate.spec), (124, keccak_Permute.spec)], globs := GLO.gC, hints := [], loops := [], inl := [] } : Ctx)
noncomputable def D : Ctx := ({ P := Tryd.prog, G := [(122, keccak_rate.spec), (124, keccak_Permute.spec)], globs := GLO.gC, hints := [], loops := [], inl := [(125, bodyIn D1 Tryd.f125)] } : Ctx)
theorem body (a0_Kind : Int) (a0_Words : List Int) (a0_At : Int) (a0_Out : Bool) (K : AVal → Option R) : bodyA D Tryd.f123 [.any] [.agg [.v (.int .i64 a0_Kind), .arr .u64 25 a0_Words, .v (.int .i64 a0_At), .v (.bool a0_Out)]] K = P.keccak_turned a0_Kind a0_Words a0_At a0_Out (fun r0_Kind r0_Words r0_At r0_Out => K (.agg [.v (.int .i64 r0_Kind), .arr .u64 25 r0_Words, .v (.int .i64 r0_At), .v (.bool r0_Out)])) := by
 rw [P.keccak_turned_eq]
 kernel_rfl
theorem loops : loopsOf (Tryd.f123.body.getD .skip) = [] := by kernel_rfl
theorem loops1 : loopsOf (Tryd.f125.body.getD .skip) = [] := by kernel_rfl
noncomputable def spec0 : Abs.Spec := fun args K => match args with
 | [.agg [.v (.int .i64 a0_Kind), .arr .u64 25 a0_Words, .v (.int .i64 a0_At), .v (.bool a0_Out)]] => P.keccak_turned a0_Kind a0_Words a0_At a0_Out (fun r0_Kind r0_Words r0_At r0_Out => K (.agg [.v (.int .i64 r0_Kind), .arr .u64 25 r0_Words, .v (.int .i64 r0_At), .v (.bool r0_Out)]))
 | _ => none
noncomputable def spec : Abs.Spec := spec0
theorem ok0 : Proved Tryd.prog GLO.gC 123 spec0 := by
 refine proved_of (D := D) (fn := Tryd.f123) (c := Tryd.f123.body.getD .skip) [.any] (by kernel_rfl) (globsPlain_of (by kernel_rfl)) (by kernel_rfl) (by kernel_rfl) (by kernel_rfl) ⟨keccak_rate.ok, keccak_Permute.ok, trivial⟩ ⟨run_of (D := D1) (D' := D) (fn := Tryd.f125) (c := Tryd.f125.body.getD .skip) rfl rfl (by kernel_rfl) (globsPlain_of (by kernel_rfl)) (by kernel_rfl) (by kernel_rfl) (by kernel_rfl) ⟨keccak_rate.ok, keccak_Permute.ok, trivial⟩ trivial (by rw [loops1]; exact trivial) (fun _ _ _ _ _ h => h), trivial⟩ ?_ ?_
 · rw [loops]; exact trivial
 · intro args K r h
   unfold spec0 at h
   split at h
   · rw [body]; exact h
   · cases h
theorem ok : Proved Tryd.prog GLO.gC 123 spec := ok0
end keccak_turned
end

section
open Go Go.Abs Go.Proofs
set_option maxRecDepth 100000
set_option linter.unusedVariables false
namespace keccak_Squeeze
abbrev X7 := Int × Int × Int × (List Int) × Int × Bool × Int × (List Int) × Int × Bool × (List Int)
def S7 : X7 → ASt := fun (v19, v20, h0_0, h0_1, h0_2, h0_3, h1_0, h1_1, h1_2, h1_3, h2) => ⟨[(2, .ptr 0 0), (4, .ptr 1 0), (6, .own 2), (19, .v (.int .i64 v19)), (20, .v (.int .i64 v20))], [(0, some ⟨.box 123 [.v (.int .i64 h0_0), .arr .u64 25 h0_1, .v (.int .i64 h0_2), .v (.bool h0_3)], false⟩), (1, some ⟨.box 123 [.v (.int .i64 h1_0), .arr .u64 25 h1_1, .v (.int .i64 h1_2), .v (.bool h1_3)], false⟩), (2, some ⟨.row 5 (.ints .u8 h2), false⟩)], 40, 56⟩
def V7 : ASt → Option X7
 | ⟨[(2, .ptr 0 0), (4, .ptr 1 0), (6, .own 2), (19, .v (.int .i64 v19)), (20, .v (.int .i64 v20))], [(0, some ⟨.box 123 [.v (.int .i64 h0_0), .arr .u64 25 h0_1, .v (.int .i64 h0_2), .v (.bool h0_3)], false⟩), (1, some ⟨.box 123 [.v (.int .i64 h1_0), .arr .u64 25 h1_1, .v (.int .i64 h1_2), .v (.bool h1_3)], false⟩), (2, some ⟨.row 5 (.ints .u8 h2), false⟩)], 40, 56⟩ => some (v19, v20, h0_0, h0_1, h0_2, h0_3, h1_0, h1_1, h1_2, h1_3, h2)
 | _ => none
theorem V7_ok (st) (x) (h : V7 st = some x) : st = S7 x := by
 unfold V7 at h
 split at h
 · cases h; rfl
 · cases h
abbrev Y7 := X7
noncomputable def T7 : X7 → (X7 → Option R) → (Y7 → Option R) → Option R := fun (v19, v20, h0_0, h0_1, h0_2, h0_3, h1_0, h1_1, h1_2, h1_3, h2) next ex => P.keccak_Squeeze_r7 v19 v20 h0_0 h0_1 h0_2 h0_3 h1_0 h1_1 h1_2 h1_3 h2 (fun v19 v20 h0_0 h0_1 h0_2 h0_3 h1_0 h1_1 h1_2 h1_3 h2 => next (v19, v20, h0_0, h0_1, h0_2, h0_3, h1_0, h1_1, h1_2, h1_3, h2)) (fun v19 v20 h0_0 h0_1 h0_2 h0_3 h1_0 h1_1 h1_2 h1_3 h2 => ex (v19, v20, h0_0, h0_1, h0_2, h0_3, h1_0, h1_1, h1_2, h1_3, h2))
def E7 (K : AExit → ASt → Option R) : Y7 → Option R := (fun x => K (.exit 0) (S7 x))
noncomputable def L7 : LSpec := fun st K => vMap (V7 st) fun (v19, v20, h0_0, h0_1, h0_2, h0_3, h1_0, h1_1, h1_2, h1_3, h2) => P.keccak_Squeeze_l7 v19 v20 h0_0 h0_1 h0_2 h0_3 h1_0 h1_1 h1_2 h1_3 h2 (fun v19 v20 h0_0 h0_1 h0_2 h0_3 h1_0 h1_1 h1_2 h1_3 h2 => K (.exit 0) (S7 (v19, v20, h0_0, h0_1, h0_2, h0_3, h1_0, h1_1, h1_2, h1_3, h2)))
noncomputable def D : Ctx := ({ P := Tryd.prog, G := [(122, keccak_rate.spec), (123, keccak_turned.spec), (124, keccak_Permute.spec)], globs := GLO.gC, hints := [(7, ⟨[2, 4, 6, 19, 20], [], [4, 5], [], some (40, [0, 1, 2]), []⟩)], loops := [(7, L7)], inl := [] } : Ctx)
theorem round7 (K) (next) (x) : roundA D (loopAt Tryd.f90 7) K next (S7 x) = T7 x (fun x => next (S7 x)) (E7 K) := by kernel_rfl
theorem lq7 (st) (K) : L7 st K = vMap (V7 st) (fun x => lp T7 x (E7 K)) := by
 unfold L7
 cases V7 st with
 | none => rfl
 | some x => rw [P.keccak_Squeeze_l7_eq]; kernel_rfl
theorem loop7 : LoopOk D (loopAt Tryd.f90 7) := loopOk_lp S7 V7_ok (by kernel_rfl) lq7 round7
theorem body (a0_Kind : Int) (a0_Words : List Int) (a0_At : Int) (a0_Out : Bool) (a1 : Int) (K : AVal → Option R) : bodyA D Tryd.f90 [.any, .fr 5 (.ints .u8 [])] [.agg [.v (.int .i64 a0_Kind), .arr .u64 25 a0_Words, .v (.int .i64 a0_At), .v (.bool a0_Out)], .v (.int .i64 a1)] K = P.keccak_Squeeze a0_Kind a0_Words a0_At a0_Out a1 (fun r0_Kind r0_Words r0_At r0_Out r1 => K (.tuple [.agg [.v (.int .i64 r0_Kind), .arr .u64 25 r0_Words, .v (.int .i64 r0_At), .v (.bool r0_Out)], .fr 5 (.ints .u8 r1)])) := by
 rw [P.keccak_Squeeze_eq]
 kernel_rfl
theorem loops : loopsOf (Tryd.f90.body.getD .skip) = [loopAt Tryd.f90 7] := by kernel_rfl
noncomputable def spec0 : Abs.Spec := fun args K => match args with
 | [.agg [.v (.int .i64 a0_Kind), .arr .u64 25 a0_Words, .v (.int .i64 a0_At), .v (.bool a0_Out)], .v (.int .i64 a1)] => P.keccak_Squeeze a0_Kind a0_Words a0_At a0_Out a1 (fun r0_Kind r0_Words r0_At r0_Out r1 => K (.tuple [.agg [.v (.int .i64 r0_Kind), .arr .u64 25 r0_Words, .v (.int .i64 r0_At), .v (.bool r0_Out)], .fr 5 (.ints .u8 r1)]))
 | _ => none
noncomputable def spec : Abs.Spec := spec0
theorem ok0 : Proved Tryd.prog GLO.gC 90 spec0 := by
 refine proved_of (D := D) (fn := Tryd.f90) (c := Tryd.f90.body.getD .skip) [.any, .fr 5 (.ints .u8 [])] (by kernel_rfl) (globsPlain_of (by kernel_rfl)) (by kernel_rfl) (by kernel_rfl) (by kernel_rfl) ⟨keccak_rate.ok, keccak_turned.ok, keccak_Permute.ok, trivial⟩ trivial ?_ ?_
 · rw [loops]; exact ⟨loop7, trivial⟩
 · intro args K r h
   unfold spec0 at h
   split at h
   · rw [body]; exact h
   · cases h
theorem ok : Proved Tryd.prog GLO.gC 90 spec := ok0
end keccak_Squeeze
end

section
open Go Go.Abs Go.Proofs
set_option maxRecDepth 100000
set_option linter.unusedVariables false
namespace keccak_Sum
noncomputable def D : Ctx := ({ P := Tryd.prog, G := [(89, keccak_New.spec), (90, keccak_Squeeze.spec), (91, keccak_Absorb.spec)], globs := GLO.gC, hints := [], loops := [], inl := [] } : Ctx)
theorem body (a0 : Int) (a1 : List Int) (a2 : Int) (K : AVal → Option R) : bodyA D Tryd.f52 [.fr 5 (.ints .u8 []), .any] [.v (.int .i64 a0), .sl (.ints .u8 a1), .v (.int .i64 a2)] K = P.keccak_Sum a0 a1 a2 (fun r0 r1 => K (.tuple [.fr 5 (.ints .u8 r0), .v (.int .i64 r1)])) := by
 rw [P.keccak_Sum_eq]
 kernel_rfl
theorem loops : loopsOf (Tryd.f52.body.getD .skip) = [] := by kernel_rfl
noncomputable def spec0 : Abs.Spec := fun args K => match args with
 | [.v (.int .i64 a0), .sl (.ints .u8 a1), .v (.int .i64 a2)] => P.keccak_Sum a0 a1 a2 (fun r0 r1 => K (.tuple [.fr 5 (.ints .u8 r0), .v (.int .i64 r1)]))
 | _ => none
noncomputable def spec : Abs.Spec := fun args K => spec0 (coerL [.any, .sl (.ints .u8 []), .any] args) K
theorem ok0 : Proved Tryd.prog GLO.gC 52 spec0 := by
 refine proved_of (D := D) (fn := Tryd.f52) (c := Tryd.f52.body.getD .skip) [.fr 5 (.ints .u8 []), .any] (by kernel_rfl) (globsPlain_of (by kernel_rfl)) (by kernel_rfl) (by kernel_rfl) (by kernel_rfl) ⟨keccak_New.ok, keccak_Squeeze.ok, keccak_Absorb.ok, trivial⟩ trivial ?_ ?_
 · rw [loops]; exact trivial
 · intro args K r h
   unfold spec0 at h
   split at h
   · rw [body]; exact h
   · cases h
theorem ok : Proved Tryd.prog GLO.gC 52 spec := proved_coer _ ok0
end keccak_Sum
end

section
open Go Go.Abs Go.Proofs
set_option maxRecDepth 100000
set_option linter.unusedVariables false
namespace sha_root512
noncomputable def D : Ctx := ({ P := Tryd.prog, G := [], globs := GLO.gC, hints := [], loops := [], inl := [] } : Ctx)
theorem body (a0 : Int) (K : AVal → Option R) : bodyA D Tryd.f139 [.any] [.v (.int .i64 a0)] K = P.sha_root512 a0 (fun r0 => K (.v (.int .u64 r0))) := by
 rw [P.sha_root512_eq]
 kernel_rfl
theorem loops : loopsOf (Tryd.f139.body.getD .skip) = [] := by kernel_rfl
noncomputable def spec0 : Abs.Spec := fun args K => match args with
 | [.v (.int .i64 a0)] => P.sha_root512 a0 (fun r0 => K (.v (.int .u64 r0)))
 | _ => none
noncomputable def spec : Abs.Spec := spec0
theorem ok0 : Proved Tryd.prog GLO.gC 139 spec0 := by
 refine proved_of (D := D) (fn := Tryd.f139) (c := Tryd.f139.body.getD .skip) [.any] (by kernel_rfl) (globsPlain_of (by kernel_rfl)) (by kernel_rfl) (by kernel_rfl) (by kernel_rfl) trivial trivial ?_ ?_
 · rw [loops]; exact trivial
 · intro args K r h
   unfold spec0 at h
   split at h
   · rw [body]; exact h
   · cases h
theorem ok : Proved Tryd.prog GLO.gC 139 spec := ok0
end sha_root512
end

section
open Go Go.Abs Go.Proofs
set_option maxRecDepth 100000
set_option linter.unusedVariables false
namespace sha_great
noncomputable def D : Ctx := ({ P := Tryd.prog, G := [(139, sha_root512.spec)], globs := GLO.gC, hints := [], loops := [], inl := [] } : Ctx)
theorem body  (K : AVal → Option R) : bodyA D Tryd.f120 [.any] [] K = P.sha_great (fun r0_bits r0_rounds r0_turns_0 r0_turns_1 r0_turns_2 r0_turns_3 => K (.agg [.v (.int .i64 r0_bits), .v (.int .i64 r0_rounds), .arr .i64 3 r0_turns_0, .arr .i64 3 r0_turns_1, .arr .i64 3 r0_turns_2, .arr .i64 3 r0_turns_3, .fn (.func 139) [] []])) := by
 rw [P.sha_great_eq]
 kernel_rfl
theorem loops : loopsOf (Tryd.f120.body.getD .skip) = [] := by kernel_rfl
noncomputable def spec0 : Abs.Spec := fun args K => match args with
 | [] => P.sha_great (fun r0_bits r0_rounds r0_turns_0 r0_turns_1 r0_turns_2 r0_turns_3 => K (.agg [.v (.int .i64 r0_bits), .v (.int .i64 r0_rounds), .arr .i64 3 r0_turns_0, .arr .i64 3 r0_turns_1, .arr .i64 3 r0_turns_2, .arr .i64 3 r0_turns_3, .fn (.func 139) [] []]))
 | _ => none
noncomputable def spec : Abs.Spec := spec0
theorem ok0 : Proved Tryd.prog GLO.gC 120 spec0 := by
 refine proved_of (D := D) (fn := Tryd.f120) (c := Tryd.f120.body.getD .skip) [.any] (by kernel_rfl) (globsPlain_of (by kernel_rfl)) (by kernel_rfl) (by kernel_rfl) (by kernel_rfl) ⟨sha_root512.ok, trivial⟩ trivial ?_ ?_
 · rw [loops]; exact trivial
 · intro args K r h
   unfold spec0 at h
   split at h
   · rw [body]; exact h
   · cases h
theorem ok : Proved Tryd.prog GLO.gC 120 spec := ok0
end sha_great
end

section
open Go Go.Abs Go.Proofs
set_option maxRecDepth 100000
set_option linter.unusedVariables false
namespace sha_root256
noncomputable def D : Ctx := ({ P := Tryd.prog, G := [], globs := GLO.gC, hints := [], loops := [], inl := [] } : Ctx)
theorem body (a0 : Int) (K : AVal → Option R) : bodyA D Tryd.f137 [.any] [.v (.int .i64 a0)] K = P.sha_root256 a0 (fun r0 => K (.v (.int .u32 r0))) := by
 rw [P.sha_root256_eq]
 kernel_rfl
theorem loops : loopsOf (Tryd.f137.body.getD .skip) = [] := by kernel_rfl
noncomputable def spec0 : Abs.Spec := fun args K => match args with
 | [.v (.int .i64 a0)] => P.sha_root256 a0 (fun r0 => K (.v (.int .u32 r0)))
 | _ => none
noncomputable def spec : Abs.Spec := spec0
theorem ok0 : Proved Tryd.prog GLO.gC 137 spec0 := by
 refine proved_of (D := D) (fn := Tryd.f137) (c := Tryd.f137.body.getD .skip) [.any] (by kernel_rfl) (globsPlain_of (by kernel_rfl)) (by kernel_rfl) (by kernel_rfl) (by kernel_rfl) trivial trivial ?_ ?_
 · rw [loops]; exact trivial
 · intro args K r h
   unfold spec0 at h
   split at h
   · rw [body]; exact h
   · cases h
theorem ok : Proved Tryd.prog GLO.gC 137 spec := ok0
end sha_root256
end

section
open Go Go.Abs Go.Proofs
set_option maxRecDepth 100000
set_option linter.unusedVariables false
namespace sha_small
noncomputable def D : Ctx := ({ P := Tryd.prog, G := [(137, sha_root256.spec)], globs := GLO.gC, hints := [], loops := [], inl := [] } : Ctx)
theorem body  (K : AVal → Option R) : bodyA D Tryd.f118 [.any] [] K = P.sha_small (fun r0_bits r0_rounds r0_turns_0 r0_turns_1 r0_turns_2 r0_turns_3 => K (.agg [.v (.int .i64 r0_bits), .v (.int .i64 r0_rounds), .arr .i64 3 r0_turns_0, .arr .i64 3 r0_turns_1, .arr .i64 3 r0_turns_2, .arr .i64 3 r0_turns_3, .fn (.func 137) [] []])) := by
 rw [P.sha_small_eq]
 kernel_rfl
theorem loops : loopsOf (Tryd.f118.body.getD .skip) = [] := by kernel_rfl
noncomputable def spec0 : Abs.Spec := fun args K => match args with
 | [] => P.sha_small (fun r0_bits r0_rounds r0_turns_0 r0_turns_1 r0_turns_2 r0_turns_3 => K (.agg [.v (.int .i64 r0_bits), .v (.int .i64 r0_rounds), .arr .i64 3 r0_turns_0, .arr .i64 3 r0_turns_1, .arr .i64 3 r0_turns_2, .arr .i64 3 r0_turns_3, .fn (.func 137) [] []]))
 | _ => none
noncomputable def spec : Abs.Spec := spec0
theorem ok0 : Proved Tryd.prog GLO.gC 118 spec0 := by
 refine proved_of (D := D) (fn := Tryd.f118) (c := Tryd.f118.body.getD .skip) [.any] (by kernel_rfl) (globsPlain_of (by kernel_rfl)) (by kernel_rfl) (by kernel_rfl) (by kernel_rfl) ⟨sha_root256.ok, trivial⟩ trivial ?_ ?_
 · rw [loops]; exact trivial
 · intro args K r h
   unfold spec0 at h
   split at h
   · rw [body]; exact h
   · cases h
theorem ok : Proved Tryd.prog GLO.gC 118 spec := ok0
end sha_small
end

section
open Go Go.Abs Go.Proofs
set_option maxRecDepth 100000
set_option linter.unusedVariables false
namespace bits_Num
abbrev X3 := Int × (List Int) × Int × Int
def S3 : X3 → ASt := fun (v3, v6, v7, v8) => ⟨[(3, .v (.int .u64 v3)), (6, .sl (.ints .u8 v6)), (7, .v (.int .i64 v7)), (8, .v (.int .i64 v8))], [], 0, 19⟩
def V3 : ASt → Option X3
 | ⟨[(3, .v (.int .u64 v3)), (6, .sl (.ints .u8 v6)), (7, .v (.int .i64 v7)), (8, .v (.int .i64 v8))], [], 0, 19⟩ => some (v3, v6, v7, v8)
 | _ => none
theorem V3_ok (st) (x) (h : V3 st = some x) : st = S3 x := by
 unfold V3 at h
 split at h
 · cases h; rfl
 · cases h
abbrev Y3 := X3
noncomputable def T3 : X3 → (X3 → Option R) → (Y3 → Option R) → Option R := fun (v3, v6, v7, v8) next ex => P.bits_Num_r3 v3 v6 v7 v8 (fun v3 v6 v7 v8 => next (v3, v6, v7, v8)) (fun v3 v6 v7 v8 => ex (v3, v6, v7, v8))
def E3 (K : AExit → ASt → Option R) : Y3 → Option R := (fun x => K (.exit 0) (S3 x))
noncomputable def L3 : LSpec := fun st K => vMap (V3 st) fun (v3, v6, v7, v8) => P.bits_Num_l3 v3 v6 v7 v8 (fun v3 v6 v7 v8 => K (.exit 0) (S3 (v3, v6, v7, v8)))
noncomputable def D : Ctx := ({ P := Tryd.prog, G := [], globs := GLO.gC, hints := [(3, ⟨[3, 6, 7, 8], [], [2], [], none, []⟩)], loops := [(3, L3)], inl := [] } : Ctx)
theorem round3 (K) (next) (x) : roundA D (loopAt Tryd.f134 3) K next (S3 x) = T3 x (fun x => next (S3 x)) (E3 K) := by kernel_rfl
theorem lq3 (st) (K) : L3 st K = vMap (V3 st) (fun x => lp T3 x (E3 K)) := by
 unfold L3
 cases V3 st with
 | none => rfl
 | some x => rw [P.bits_Num_l3_eq]; kernel_rfl
theorem loop3 : LoopOk D (loopAt Tryd.f134 3) := loopOk_lp S3 V3_ok (by kernel_rfl) lq3 round3
theorem body (a0 : List Int) (K : AVal → Option R) : bodyA D Tryd.f134 [.any] [.sl (.ints .u8 a0)] K = P.bits_Num a0 (fun r0 => K (.v (.int .u64 r0))) := by
 rw [P.bits_Num_eq]
 kernel_rfl
theorem loops : loopsOf (Tryd.f134.body.getD .skip) = [loopAt Tryd.f134 3] := by kernel_rfl
noncomputable def spec0 : Abs.Spec := fun args K => match args with
 | [.sl (.ints .u8 a0)] => P.bits_Num a0 (fun r0 => K (.v (.int .u64 r0)))
 | _ => none
noncomputable def spec : Abs.Spec := fun args K => spec0 (coerL [.sl (.ints .u8 [])] args) K
theorem ok0 : Proved Tryd.prog GLO.gC 134 spec0 := by
 refine proved_of (D := D) (fn := Tryd.f134) (c := Tryd.f134.body.getD .skip) [.any] (by kernel_rfl) (globsPlain_of (by kernel_rfl)) (by kernel_rfl) (by kernel_rfl) (by kernel_rfl) trivial trivial ?_ ?_
 · rw [loops]; exact ⟨loop3, trivial⟩
 · intro args K r h
   unfold spec0 at h
   split at h
   · rw [body]; exact h
   · cases h
theorem ok : Proved Tryd.prog GLO.gC 134 spec := proved_coer _ ok0
end bits_Num
end

section
open Go Go.Abs Go.Proofs
set_option maxRecDepth 100000
set_option linter.unusedVariables false
namespace sha_engine_uint32_rotated
noncomputable def D : Ctx := ({ P := Tryd.prog, G := [(137, sha_root256.spec)], globs := GLO.gC, hints := [], loops := [], inl := [] } : Ctx)
theorem body (a0_bits : Int) (a0_rounds : Int) (a0_turns_0 : List Int) (a0_turns_1 : List Int) (a0_turns_2 : List Int) (a0_turns_3 : List Int) (a1 : Int) (a2 : Int) (K : AVal → Option R) : bodyA D Tryd.f157 [.any] [.agg [.v (.int .i64 a0_bits), .v (.int .i64 a0_rounds), .arr .i64 3 a0_turns_0, .arr .i64 3 a0_turns_1, .arr .i64 3 a0_turns_2, .arr .i64 3 a0_turns_3, .fn (.func 137) [] []], .v (.int .u32 a1), .v (.int .i64 a2)] K = P.sha_engine_uint32_rotated a0_bits a0_rounds a0_turns_0 a0_turns_1 a0_turns_2 a0_turns_3 a1 a2 (fun r0 => K (.v (.int .u32 r0))) := by
 rw [P.sha_engine_uint32_rotated_eq]
 kernel_rfl
theorem loops : loopsOf (Tryd.f157.body.getD .skip) = [] := by kernel_rfl
noncomputable def spec0 : Abs.Spec := fun args K => match args with
 | [.agg [.v (.int .i64 a0_bits), .v (.int .i64 a0_rounds), .arr .i64 3 a0_turns_0, .arr .i64 3 a0_turns_1, .arr .i64 3 a0_turns_2, .arr .i64 3 a0_turns_3, .fn (.func 137) [] []], .v (.int .u32 a1), .v (.int .i64 a2)] => P.sha_engine_uint32_rotated a0_bits a0_rounds a0_turns_0 a0_turns_1 a0_turns_2 a0_turns_3 a1 a2 (fun r0 => K (.v (.int .u32 r0)))
 | _ => none
noncomputable def spec : Abs.Spec := spec0
theorem ok0 : Proved Tryd.prog GLO.gC 157 spec0 := by
 refine proved_of (D := D) (fn := Tryd.f157) (c := Tryd.f157.body.getD .skip) [.any] (by kernel_rfl) (globsPlain_of (by kernel_rfl)) (by kernel_rfl) (by kernel_rfl) (by kernel_rfl) ⟨sha_root256.ok, trivial⟩ trivial ?_ ?_
 · rw [loops]; exact trivial
 · intro args K r h
   unfold spec0 at h
   split at h
   · rw [body]; exact h
   · cases h
theorem ok : Proved Tryd.prog GLO.gC 157 spec := ok0
end sha_engine_uint32_rotated
end

section
open Go Go.Abs Go.Proofs
set_option maxRecDepth 100000
set_option linter.unusedVariables false
namespace sha_engine_uint32_high
noncomputable def D : Ctx := ({ P := Tryd.prog, G := [(137, sha_root256.spec), (157, sha_engine_uint32_rotated.spec)], globs := GLO.gC, hints := [], loops := [], inl := [] } : Ctx)
theorem body (a0_bits : Int) (a0_rounds : Int) (a0_turns_0 : List Int) (a0_turns_1 : List Int) (a0_turns_2 : List Int) (a0_turns_3 : List Int) (a1 : Int) (a2 : Int) (K : AVal → Option R) : bodyA D Tryd.f148 [.any] [.agg [.v (.int .i64 a0_bits), .v (.int .i64 a0_rounds), .arr .i64 3 a0_turns_0, .arr .i64 3 a0_turns_1, .arr .i64 3 a0_turns_2, .arr .i64 3 a0_turns_3, .fn (.func 137) [] []], .v (.int .u32 a1), .v (.int .i64 a2)] K = P.sha_engine_uint32_high a0_bits a0_rounds a0_turns_0 a0_turns_1 a0_turns_2 a0_turns_3 a1 a2 (fun r0 => K (.v (.int .u32 r0))) := by
 rw [P.sha_engine_uint32_high_eq]
 kernel_rfl
theorem loops : loopsOf (Tryd.f148.body.getD .skip) = [] := by kernel_rfl
noncomputable def spec0 : Abs.Spec := fun args K => match args with
 | [.agg [.v (.int .i64 a0_bits), .v (.int .i64 a0_rounds), .arr .i64 3 a0_turns_0, .arr .i64 3 a0_turns_1, .arr .i64 3 a0_turns_2, .arr .i64 3 a0_turns_3, .fn (.func 137) [] []], .v (.int .u32 a1), .v (.int .i64 a2)] => P.sha_engine_uint32_high a0_bits a0_rounds a0_turns_0 a0_turns_1 a0_turns_2 a0_turns_3 a1 a2 (fun r0 => K (.v (.int .u32 r0)))
 | _ => none
noncomputable def spec : Abs.Spec := spec0
theorem ok0 : Proved Tryd.prog GLO.gC 148 spec0 := by
 refine proved_of (D := D) (fn := Tryd.f148) (c := Tryd.f148.body.getD .skip) [.any] (by kernel_rfl) (globsPlain_of (by kernel_rfl)) (by kernel_rfl) (by kernel_rfl) (by kernel_rfl) ⟨sha_root256.ok, sha_engine_uint32_rotated.ok, trivial⟩ trivial ?_ ?_
 · rw [loops]; exact trivial
 · intro args K r h
   unfold spec0 at h
   split at h
   · rw [body]; exact h
   · cases h
theorem ok : Proved Tryd.prog GLO.gC 148 spec := ok0
end sha_engine_uint32_high
end

section
open Go Go.Abs Go.Proofs
set_option maxRecDepth 100000
set_option linter.unusedVariables false
namespace sha_engine_uint32_low
noncomputable def D : Ctx := ({ P := Tryd.prog, G := [(137, sha_root256.spec), (157, sha_engine_uint32_rotated.spec)], globs := GLO.gC, hints := [], loops := [], inl := [] } : Ctx)
theorem body (a0_bits : Int) (a0_rounds : Int) (a0_turns_0 : List Int) (a0_turns_1 : List Int) (a0_turns_2 : List Int) (a0_turns_3 : List Int) (a1 : Int) (a2 : Int) (K : AVal → Option R) : bodyA D Tryd.f149 [.any] [.agg [.v (.int .i64 a0_bits), .v (.int .i64 a0_rounds), .arr .i64 3 a0_turns_0, .arr .i64 3 a0_turns_1, .arr .i64 3 a0_turns_2, .arr .i64 3 a0_turns_3, .fn (.func 137) [] []], .v (.int .u32 a1), .v (.int .i64 a2)] K = P.sha_engine_uint32_low a0_bits a0_rounds a0_turns_0 a0_turns_1 a0_turns_2 a0_turns_3 a1 a2 (fun r0 => K (.v (.int .u32 r0))) := by
 rw [P.sha_engine_uint32_low_eq]
 kernel_rfl
theorem loops : loopsOf (Tryd.f149.body.getD .skip) = [] := by kernel_rfl
noncomputable def spec0 : Abs.Spec := fun args K => match args with
 | [.agg [.v (.int .i64 a0_bits), .v (.int .i64 a0_rounds), .arr .i64 3 a0_turns_0, .arr .i64 3 a0_turns_1, .arr .i64 3 a0_turns_2, .arr .i64 3 a0_turns_3, .fn (.func 137) [] []], .v (.int .u32 a1), .v (.int .i64 a2)] => P.sha_engine_uint32_low a0_bits a0_rounds a0_turns_0 a0_turns_1 a0_turns_2 a0_turns_3 a1 a2 (fun r0 => K (.v (.int .u32 r0)))
 | _ => none
noncomputable def spec : Abs.Spec := spec0
theorem ok0 : Proved Tryd.prog GLO.gC 149 spec0 := by
 refine proved_of (D := D) (fn := Tryd.f149) (c := Tryd.f149.body.getD .skip) [.any] (by kernel_rfl) (globsPlain_of (by kernel_rfl)) (by kernel_rfl) (by kernel_rfl) (by kernel_rfl) ⟨sha_root256.ok, sha_engine_uint32_rotated.ok, trivial⟩ trivial ?_ ?_
 · rw [loops]; exact trivial
 · intro args K r h
   unfold spec0 at h
   split at h
   · rw [body]; exact h
   · cases h
theorem ok : Proved Tryd.prog GLO.gC 149 spec := ok0
end sha_engine_uint32_low
end
