/-
  WotsTells, part P: an interpreter of my own over abstract values, the pure functions, the walks and the plain law.
-/

import Derived.Test.YtjhnljhjpnjieaaDoorWotsTellsI
import Derived.Test.YtjhnljhjpnjieaaDoorWotsTellsF
import Derived.Test.YtjhnljhjpnjieaaDoorProg
import Derived.Test.YtjhnljhjpnjieaaDoorWotsTellsG
import Derived.Test.YtjhnljhjpnjieaaDoorWotsTellsO
import Derived.KernelRfl
import Derived.Test.YtjhnljhjpnjieaaDoorWotsTellsM
import Derived.Test.YtjhnljhjpnjieaaDoorWotsTellsN
import Derived.Test.YtjhnljhjpnjieaaDoorWotsTellsL
import Derived.Test.YtjhnljhjpnjieaaDoorWotsTellsH

section
open Go Go.Abs Go.Proofs
set_option maxRecDepth 100000
set_option maxHeartbeats 0
set_option linter.unusedVariables false
namespace R08_Sum
noncomputable def D : Ctx := ({ P := Tryd.prog, G := [(95, R08_New.spec), (96, R08_Squeeze.spec), (97, R08_Absorb.spec)], globs := [(1, [AVal.arr .u64 24 P.kcon]), (2, [AVal.arr .u32 64 P.roots256]), (3, [AVal.arr .u64 80 P.roots512]), (4, [AVal.arr .i64 24 P.kpla]), (5, [AVal.arr .i64 24 P.ktur])], hints := [], loops := [], inl := [] } : Ctx)
theorem body (a0 : Int) (a1 : List Int) (a2 : Int) (K : AVal → Option R) : bodyA D Tryd.f54 [.fr 5 (.ints .u8 []), .any] [.v (.int .i64 a0), .sl (.ints .u8 a1), .v (.int .i64 a2)] K = P.R08_Sum a0 a1 a2 (fun r0 r1 => K (.tuple [.fr 5 (.ints .u8 r0), .v (.int .i64 r1)])) := by
 rw [P.R08_Sum_eq]
 kernel_rfl
theorem loops : loopsOf (Tryd.f54.body.getD .skip) = [] := by kernel_rfl
noncomputable def spec0 : Abs.Spec := fun args K => match args with
 | [.v (.int .i64 a0), .sl (.ints .u8 a1), .v (.int .i64 a2)] => P.R08_Sum a0 a1 a2 (fun r0 r1 => K (.tuple [.fr 5 (.ints .u8 r0), .v (.int .i64 r1)]))
 | _ => none
noncomputable def spec : Abs.Spec := fun args K => spec0 (coerL [.any, .sl (.ints .u8 []), .any] args) K
theorem ok0 : Proved Tryd.prog [(1, [AVal.arr .u64 24 P.kcon]), (2, [AVal.arr .u32 64 P.roots256]), (3, [AVal.arr .u64 80 P.roots512]), (4, [AVal.arr .i64 24 P.kpla]), (5, [AVal.arr .i64 24 P.ktur])] 54 spec0 := by
 refine proved_of (D := D) (fn := Tryd.f54) (c := Tryd.f54.body.getD .skip) [.fr 5 (.ints .u8 []), .any] (by kernel_rfl) (globsPlain_of (by kernel_rfl)) (by kernel_rfl) (by kernel_rfl) (by kernel_rfl) ⟨R08_New.ok, R08_Squeeze.ok, R08_Absorb.ok, trivial⟩ trivial ?_ ?_
 · rw [loops]; exact trivial
 · intro args K r h
   unfold spec0 at h
   split at h
   · rw [body]; exact h
   · cases h
theorem ok : Proved Tryd.prog [(1, [AVal.arr .u64 24 P.kcon]), (2, [AVal.arr .u32 64 P.roots256]), (3, [AVal.arr .u64 80 P.roots512]), (4, [AVal.arr .i64 24 P.kpla]), (5, [AVal.arr .i64 24 P.ktur])] 54 spec := proved_coer _ ok0
end R08_Sum
end

section
open Go Go.Abs Go.Proofs
set_option maxRecDepth 100000
set_option maxHeartbeats 0
set_option linter.unusedVariables false
namespace R17_Fit
noncomputable def D : Ctx := ({ P := Tryd.prog, G := [], globs := [(1, [AVal.arr .u64 24 P.kcon]), (2, [AVal.arr .u32 64 P.roots256]), (3, [AVal.arr .u64 80 P.roots512]), (4, [AVal.arr .i64 24 P.kpla]), (5, [AVal.arr .i64 24 P.ktur])], hints := [], loops := [], inl := [] } : Ctx)
theorem body (a0_N : Int) (a0_H : Int) (a0_D : Int) (a0_A : Int) (a0_K : Int) (a0_Shake : Bool) (K : AVal → Option R) : bodyA D Tryd.f26 [.any] [.agg [.v (.int .i64 a0_N), .v (.int .i64 a0_H), .v (.int .i64 a0_D), .v (.int .i64 a0_A), .v (.int .i64 a0_K), .v (.bool a0_Shake)]] K = P.R17_Fit a0_N a0_H a0_D a0_A a0_K a0_Shake (fun r0 => K (.v (.bool r0))) := by
 rw [P.R17_Fit_eq]
 kernel_rfl
theorem loops : loopsOf (Tryd.f26.body.getD .skip) = [] := by kernel_rfl
noncomputable def spec0 : Abs.Spec := fun args K => match args with
 | [.agg [.v (.int .i64 a0_N), .v (.int .i64 a0_H), .v (.int .i64 a0_D), .v (.int .i64 a0_A), .v (.int .i64 a0_K), .v (.bool a0_Shake)]] => P.R17_Fit a0_N a0_H a0_D a0_A a0_K a0_Shake (fun r0 => K (.v (.bool r0)))
 | _ => none
noncomputable def spec : Abs.Spec := spec0
theorem ok0 : Proved Tryd.prog [(1, [AVal.arr .u64 24 P.kcon]), (2, [AVal.arr .u32 64 P.roots256]), (3, [AVal.arr .u64 80 P.roots512]), (4, [AVal.arr .i64 24 P.kpla]), (5, [AVal.arr .i64 24 P.ktur])] 26 spec0 := by
 refine proved_of (D := D) (fn := Tryd.f26) (c := Tryd.f26.body.getD .skip) [.any] (by kernel_rfl) (globsPlain_of (by kernel_rfl)) (by kernel_rfl) (by kernel_rfl) (by kernel_rfl) trivial trivial ?_ ?_
 · rw [loops]; exact trivial
 · intro args K r h
   unfold spec0 at h
   split at h
   · rw [body]; exact h
   · cases h
theorem ok : Proved Tryd.prog [(1, [AVal.arr .u64 24 P.kcon]), (2, [AVal.arr .u32 64 P.roots256]), (3, [AVal.arr .u64 80 P.roots512]), (4, [AVal.arr .i64 24 P.kpla]), (5, [AVal.arr .i64 24 P.ktur])] 26 spec := ok0
end R17_Fit
end

section
open Go Go.Abs Go.Proofs
set_option maxRecDepth 100000
set_option maxHeartbeats 0
set_option linter.unusedVariables false
namespace R17_short
noncomputable def D : Ctx := ({ P := Tryd.prog, G := [(58, R01_Join.spec)], globs := [(1, [AVal.arr .u64 24 P.kcon]), (2, [AVal.arr .u32 64 P.roots256]), (3, [AVal.arr .u64 80 P.roots512]), (4, [AVal.arr .i64 24 P.kpla]), (5, [AVal.arr .i64 24 P.ktur])], hints := [], loops := [], inl := [] } : Ctx)
theorem body (a0 : List Int) (K : AVal → Option R) : bodyA D Tryd.f67 [.fr 5 (.ints .u8 [])] [.arr .u8 32 a0] K = P.R17_short a0 (fun r0 => K (.fr 5 (.ints .u8 r0))) := by
 rw [P.R17_short_eq]
 kernel_rfl
theorem loops : loopsOf (Tryd.f67.body.getD .skip) = [] := by kernel_rfl
noncomputable def spec0 : Abs.Spec := fun args K => match args with
 | [.arr .u8 32 a0] => P.R17_short a0 (fun r0 => K (.fr 5 (.ints .u8 r0)))
 | _ => none
noncomputable def spec : Abs.Spec := spec0
theorem ok0 : Proved Tryd.prog [(1, [AVal.arr .u64 24 P.kcon]), (2, [AVal.arr .u32 64 P.roots256]), (3, [AVal.arr .u64 80 P.roots512]), (4, [AVal.arr .i64 24 P.kpla]), (5, [AVal.arr .i64 24 P.ktur])] 67 spec0 := by
 refine proved_of (D := D) (fn := Tryd.f67) (c := Tryd.f67.body.getD .skip) [.fr 5 (.ints .u8 [])] (by kernel_rfl) (globsPlain_of (by kernel_rfl)) (by kernel_rfl) (by kernel_rfl) (by kernel_rfl) ⟨R01_Join.ok, trivial⟩ trivial ?_ ?_
 · rw [loops]; exact trivial
 · intro args K r h
   unfold spec0 at h
   split at h
   · rw [body]; exact h
   · cases h
theorem ok : Proved Tryd.prog [(1, [AVal.arr .u64 24 P.kcon]), (2, [AVal.arr .u32 64 P.roots256]), (3, [AVal.arr .u64 80 P.roots512]), (4, [AVal.arr .i64 24 P.kpla]), (5, [AVal.arr .i64 24 P.ktur])] 67 spec := ok0
end R17_short
end

section
open Go Go.Abs Go.Proofs
set_option maxRecDepth 100000
set_option maxHeartbeats 0
set_option linter.unusedVariables false
namespace R17_Sum
noncomputable def D : Ctx := ({ P := Tryd.prog, G := [(26, R17_Fit.spec), (53, R07_Sum.spec), (54, R08_Sum.spec), (58, R01_Join.spec), (67, R17_short.spec)], globs := [(1, [AVal.arr .u64 24 P.kcon]), (2, [AVal.arr .u32 64 P.roots256]), (3, [AVal.arr .u64 80 P.roots512]), (4, [AVal.arr .i64 24 P.kpla]), (5, [AVal.arr .i64 24 P.ktur])], hints := [], loops := [], inl := [] } : Ctx)
theorem body (a0_N : Int) (a0_H : Int) (a0_D : Int) (a0_A : Int) (a0_K : Int) (a0_Shake : Bool) (a1 : List Int) (a2 : List Int) (a3 : List Int) (K : AVal → Option R) : bodyA D Tryd.f33 [.sl (.ints .u8 [])] [.agg [.v (.int .i64 a0_N), .v (.int .i64 a0_H), .v (.int .i64 a0_D), .v (.int .i64 a0_A), .v (.int .i64 a0_K), .v (.bool a0_Shake)], .sl (.ints .u8 a1), .arr .u8 32 a2, .sl (.ints .u8 a3)] K = P.R17_Sum a0_N a0_H a0_D a0_A a0_K a0_Shake a1 a2 a3 (fun r0 => K (.sl (.ints .u8 r0))) := by
 rw [P.R17_Sum_eq]
 kernel_rfl
theorem loops : loopsOf (Tryd.f33.body.getD .skip) = [] := by kernel_rfl
noncomputable def spec0 : Abs.Spec := fun args K => match args with
 | [.agg [.v (.int .i64 a0_N), .v (.int .i64 a0_H), .v (.int .i64 a0_D), .v (.int .i64 a0_A), .v (.int .i64 a0_K), .v (.bool a0_Shake)], .sl (.ints .u8 a1), .arr .u8 32 a2, .sl (.ints .u8 a3)] => P.R17_Sum a0_N a0_H a0_D a0_A a0_K a0_Shake a1 a2 a3 (fun r0 => K (.sl (.ints .u8 r0)))
 | _ => none
noncomputable def spec : Abs.Spec := fun args K => spec0 (coerL [.any, .sl (.ints .u8 []), .any, .sl (.ints .u8 [])] args) K
theorem ok0 : Proved Tryd.prog [(1, [AVal.arr .u64 24 P.kcon]), (2, [AVal.arr .u32 64 P.roots256]), (3, [AVal.arr .u64 80 P.roots512]), (4, [AVal.arr .i64 24 P.kpla]), (5, [AVal.arr .i64 24 P.ktur])] 33 spec0 := by
 refine proved_of (D := D) (fn := Tryd.f33) (c := Tryd.f33.body.getD .skip) [.sl (.ints .u8 [])] (by kernel_rfl) (globsPlain_of (by kernel_rfl)) (by kernel_rfl) (by kernel_rfl) (by kernel_rfl) ⟨R17_Fit.ok, R07_Sum.ok, R08_Sum.ok, R01_Join.ok, R17_short.ok, trivial⟩ trivial ?_ ?_
 · rw [loops]; exact trivial
 · intro args K r h
   unfold spec0 at h
   split at h
   · rw [body]; exact h
   · cases h
theorem ok : Proved Tryd.prog [(1, [AVal.arr .u64 24 P.kcon]), (2, [AVal.arr .u32 64 P.roots256]), (3, [AVal.arr .u64 80 P.roots512]), (4, [AVal.arr .i64 24 P.kpla]), (5, [AVal.arr .i64 24 P.ktur])] 33 spec := proved_coer _ ok0
end R17_Sum
end

section
open Go Go.Abs Go.Proofs
set_option maxRecDepth 100000
set_option maxHeartbeats 0
set_option linter.unusedVariables false
namespace R17_Draw
noncomputable def D : Ctx := ({ P := Tryd.prog, G := [(33, R17_Sum.spec)], globs := [(1, [AVal.arr .u64 24 P.kcon]), (2, [AVal.arr .u32 64 P.roots256]), (3, [AVal.arr .u64 80 P.roots512]), (4, [AVal.arr .i64 24 P.kpla]), (5, [AVal.arr .i64 24 P.ktur])], hints := [], loops := [], inl := [] } : Ctx)
theorem body (a0_N : Int) (a0_H : Int) (a0_D : Int) (a0_A : Int) (a0_K : Int) (a0_Shake : Bool) (a1 : List Int) (a2 : List Int) (a3 : List Int) (K : AVal → Option R) : bodyA D Tryd.f35 [.sl (.ints .u8 [])] [.agg [.v (.int .i64 a0_N), .v (.int .i64 a0_H), .v (.int .i64 a0_D), .v (.int .i64 a0_A), .v (.int .i64 a0_K), .v (.bool a0_Shake)], .sl (.ints .u8 a1), .sl (.ints .u8 a2), .arr .u8 32 a3] K = P.R17_Draw a0_N a0_H a0_D a0_A a0_K a0_Shake a1 a2 a3 (fun r0 => K (.sl (.ints .u8 r0))) := by
 rw [P.R17_Draw_eq]
 kernel_rfl
theorem loops : loopsOf (Tryd.f35.body.getD .skip) = [] := by kernel_rfl
noncomputable def spec0 : Abs.Spec := fun args K => match args with
 | [.agg [.v (.int .i64 a0_N), .v (.int .i64 a0_H), .v (.int .i64 a0_D), .v (.int .i64 a0_A), .v (.int .i64 a0_K), .v (.bool a0_Shake)], .sl (.ints .u8 a1), .sl (.ints .u8 a2), .arr .u8 32 a3] => P.R17_Draw a0_N a0_H a0_D a0_A a0_K a0_Shake a1 a2 a3 (fun r0 => K (.sl (.ints .u8 r0)))
 | _ => none
noncomputable def spec : Abs.Spec := fun args K => spec0 (coerL [.any, .sl (.ints .u8 []), .sl (.ints .u8 []), .any] args) K
theorem ok0 : Proved Tryd.prog [(1, [AVal.arr .u64 24 P.kcon]), (2, [AVal.arr .u32 64 P.roots256]), (3, [AVal.arr .u64 80 P.roots512]), (4, [AVal.arr .i64 24 P.kpla]), (5, [AVal.arr .i64 24 P.ktur])] 35 spec0 := by
 refine proved_of (D := D) (fn := Tryd.f35) (c := Tryd.f35.body.getD .skip) [.sl (.ints .u8 [])] (by kernel_rfl) (globsPlain_of (by kernel_rfl)) (by kernel_rfl) (by kernel_rfl) (by kernel_rfl) ⟨R17_Sum.ok, trivial⟩ trivial ?_ ?_
 · rw [loops]; exact trivial
 · intro args K r h
   unfold spec0 at h
   split at h
   · rw [body]; exact h
   · cases h
theorem ok : Proved Tryd.prog [(1, [AVal.arr .u64 24 P.kcon]), (2, [AVal.arr .u32 64 P.roots256]), (3, [AVal.arr .u64 80 P.roots512]), (4, [AVal.arr .i64 24 P.kpla]), (5, [AVal.arr .i64 24 P.ktur])] 35 spec := proved_coer _ ok0
end R17_Draw
end

section
open Go Go.Abs Go.Proofs
set_option maxRecDepth 100000
set_option maxHeartbeats 0
set_option linter.unusedVariables false
namespace R17_lay
abbrev X2 := Int × (List Int) × Int × (List Int) × (List Int)
def S2 : X2 → ASt := fun (v1, v2, v7, h0_0, h1_0) => ⟨[(1, .v (.int .i64 v1)), (2, .sl (.ints .u8 v2)), (3, .ptr 0 0), (6, .ptr 1 0), (7, .v (.int .i64 v7))], [(0, some ⟨.box 43 [.arr .u8 32 h0_0], false⟩), (1, some ⟨.box 43 [.arr .u8 32 h1_0], false⟩)], 2, 23⟩
def V2 : ASt → Option X2
 | ⟨[(1, .v (.int .i64 v1)), (2, .sl (.ints .u8 v2)), (3, .ptr 0 0), (6, .ptr 1 0), (7, .v (.int .i64 v7))], [(0, some ⟨.box 43 [.arr .u8 32 h0_0], false⟩), (1, some ⟨.box 43 [.arr .u8 32 h1_0], false⟩)], 2, 23⟩ => some (v1, v2, v7, h0_0, h1_0)
 | _ => none
theorem V2_ok (st) (x) (h : V2 st = some x) : st = S2 x := by
 unfold V2 at h
 split at h
 · cases h; rfl
 · cases h
abbrev Y2 := X2
noncomputable def T2 : X2 → (X2 → Option R) → (Y2 → Option R) → Option R := fun (v1, v2, v7, h0_0, h1_0) next ex => P.R17_lay_r2 v1 v2 v7 h0_0 h1_0 (fun v1 v2 v7 h0_0 h1_0 => next (v1, v2, v7, h0_0, h1_0)) (fun v1 v2 v7 h0_0 h1_0 => ex (v1, v2, v7, h0_0, h1_0))
def E2 (K : AExit → ASt → Option R) : Y2 → Option R := (fun x => K (.exit 0) (S2 x))
noncomputable def L2 : LSpec := fun st K => vMap (V2 st) fun (v1, v2, v7, h0_0, h1_0) => P.R17_lay_l2 v1 v2 v7 h0_0 h1_0 (fun v1 v2 v7 h0_0 h1_0 => K (.exit 0) (S2 (v1, v2, v7, h0_0, h1_0)))
noncomputable def D : Ctx := ({ P := Tryd.prog, G := [], globs := [(1, [AVal.arr .u64 24 P.kcon]), (2, [AVal.arr .u32 64 P.roots256]), (3, [AVal.arr .u64 80 P.roots512]), (4, [AVal.arr .i64 24 P.kpla]), (5, [AVal.arr .i64 24 P.ktur])], hints := [(2, ⟨[1, 2, 3, 6, 7], [], [6], [], none, []⟩)], loops := [(2, L2)], inl := [] } : Ctx)
theorem round2 (K) (next) (x) : roundA D (loopAt Tryd.f63 2) K next (S2 x) = T2 x (fun x => next (S2 x)) (E2 K) := by kernel_rfl
theorem lq2 (st) (K) : L2 st K = vMap (V2 st) (fun x => lp T2 x (E2 K)) := by
 unfold L2
 cases V2 st with
 | none => rfl
 | some x => rw [P.R17_lay_l2_eq]; kernel_rfl
theorem loop2 : LoopOk D (loopAt Tryd.f63 2) := loopOk_lp S2 V2_ok (by kernel_rfl) lq2 round2
theorem body (a0 : List Int) (a1 : Int) (a2 : List Int) (K : AVal → Option R) : bodyA D Tryd.f63 [.any] [.arr .u8 32 a0, .v (.int .i64 a1), .sl (.ints .u8 a2)] K = P.R17_lay a0 a1 a2 (fun r0 => K (.arr .u8 32 r0)) := by
 rw [P.R17_lay_eq]
 kernel_rfl
theorem loops : loopsOf (Tryd.f63.body.getD .skip) = [loopAt Tryd.f63 2] := by kernel_rfl
noncomputable def spec0 : Abs.Spec := fun args K => match args with
 | [.arr .u8 32 a0, .v (.int .i64 a1), .sl (.ints .u8 a2)] => P.R17_lay a0 a1 a2 (fun r0 => K (.arr .u8 32 r0))
 | _ => none
noncomputable def spec : Abs.Spec := fun args K => spec0 (coerL [.any, .any, .sl (.ints .u8 [])] args) K
theorem ok0 : Proved Tryd.prog [(1, [AVal.arr .u64 24 P.kcon]), (2, [AVal.arr .u32 64 P.roots256]), (3, [AVal.arr .u64 80 P.roots512]), (4, [AVal.arr .i64 24 P.kpla]), (5, [AVal.arr .i64 24 P.ktur])] 63 spec0 := by
 refine proved_of (D := D) (fn := Tryd.f63) (c := Tryd.f63.body.getD .skip) [.any] (by kernel_rfl) (globsPlain_of (by kernel_rfl)) (by kernel_rfl) (by kernel_rfl) (by kernel_rfl) trivial trivial ?_ ?_
 · rw [loops]; exact ⟨loop2, trivial⟩
 · intro args K r h
   unfold spec0 at h
   split at h
   · rw [body]; exact h
   · cases h
theorem ok : Proved Tryd.prog [(1, [AVal.arr .u64 24 P.kcon]), (2, [AVal.arr .u32 64 P.roots256]), (3, [AVal.arr .u64 80 P.roots512]), (4, [AVal.arr .i64 24 P.kpla]), (5, [AVal.arr .i64 24 P.ktur])] 63 spec := proved_coer _ ok0
end R17_lay
end

section
open Go Go.Abs Go.Proofs
set_option maxRecDepth 100000
set_option maxHeartbeats 0
set_option linter.unusedVariables false
namespace R17_Put
noncomputable def D : Ctx := ({ P := Tryd.prog, G := [(61, R01_Be.spec), (63, R17_lay.spec)], globs := [(1, [AVal.arr .u64 24 P.kcon]), (2, [AVal.arr .u32 64 P.roots256]), (3, [AVal.arr .u64 80 P.roots512]), (4, [AVal.arr .i64 24 P.kpla]), (5, [AVal.arr .i64 24 P.ktur])], hints := [], loops := [], inl := [] } : Ctx)
theorem body (a0 : List Int) (a1 : Int) (a2 : Int) (K : AVal → Option R) : bodyA D Tryd.f28 [.any] [.arr .u8 32 a0, .v (.int .i64 a1), .v (.int .u64 a2)] K = P.R17_Put a0 a1 a2 (fun r0 => K (.arr .u8 32 r0)) := by
 rw [P.R17_Put_eq]
 kernel_rfl
theorem loops : loopsOf (Tryd.f28.body.getD .skip) = [] := by kernel_rfl
noncomputable def spec0 : Abs.Spec := fun args K => match args with
 | [.arr .u8 32 a0, .v (.int .i64 a1), .v (.int .u64 a2)] => P.R17_Put a0 a1 a2 (fun r0 => K (.arr .u8 32 r0))
 | _ => none
noncomputable def spec : Abs.Spec := spec0
theorem ok0 : Proved Tryd.prog [(1, [AVal.arr .u64 24 P.kcon]), (2, [AVal.arr .u32 64 P.roots256]), (3, [AVal.arr .u64 80 P.roots512]), (4, [AVal.arr .i64 24 P.kpla]), (5, [AVal.arr .i64 24 P.ktur])] 28 spec0 := by
 refine proved_of (D := D) (fn := Tryd.f28) (c := Tryd.f28.body.getD .skip) [.any] (by kernel_rfl) (globsPlain_of (by kernel_rfl)) (by kernel_rfl) (by kernel_rfl) (by kernel_rfl) ⟨R01_Be.ok, R17_lay.ok, trivial⟩ trivial ?_ ?_
 · rw [loops]; exact trivial
 · intro args K r h
   unfold spec0 at h
   split at h
   · rw [body]; exact h
   · cases h
theorem ok : Proved Tryd.prog [(1, [AVal.arr .u64 24 P.kcon]), (2, [AVal.arr .u32 64 P.roots256]), (3, [AVal.arr .u64 80 P.roots512]), (4, [AVal.arr .i64 24 P.kpla]), (5, [AVal.arr .i64 24 P.ktur])] 28 spec := ok0
end R17_Put
end

section
open Go Go.Abs Go.Proofs
set_option maxRecDepth 100000
set_option maxHeartbeats 0
set_option linter.unusedVariables false
namespace wots_Fit
noncomputable def D : Ctx := ({ P := Tryd.prog, G := [], globs := [(1, [AVal.arr .u64 24 P.kcon]), (2, [AVal.arr .u32 64 P.roots256]), (3, [AVal.arr .u64 80 P.roots512]), (4, [AVal.arr .i64 24 P.kpla]), (5, [AVal.arr .i64 24 P.ktur])], hints := [], loops := [], inl := [] } : Ctx)
theorem body (a0_N : Int) (a0_H : Int) (a0_D : Int) (a0_A : Int) (a0_K : Int) (a0_Shake : Bool) (K : AVal → Option R) : bodyA D Tryd.f25 [.any] [.agg [.v (.int .i64 a0_N), .v (.int .i64 a0_H), .v (.int .i64 a0_D), .v (.int .i64 a0_A), .v (.int .i64 a0_K), .v (.bool a0_Shake)]] K = P.wots_Fit a0_N a0_H a0_D a0_A a0_K a0_Shake (fun r0 => K (.v (.bool r0))) := by
 rw [P.wots_Fit_eq]
 kernel_rfl
theorem loops : loopsOf (Tryd.f25.body.getD .skip) = [] := by kernel_rfl
noncomputable def spec0 : Abs.Spec := fun args K => match args with
 | [.agg [.v (.int .i64 a0_N), .v (.int .i64 a0_H), .v (.int .i64 a0_D), .v (.int .i64 a0_A), .v (.int .i64 a0_K), .v (.bool a0_Shake)]] => P.wots_Fit a0_N a0_H a0_D a0_A a0_K a0_Shake (fun r0 => K (.v (.bool r0)))
 | _ => none
noncomputable def spec : Abs.Spec := spec0
theorem ok0 : Proved Tryd.prog [(1, [AVal.arr .u64 24 P.kcon]), (2, [AVal.arr .u32 64 P.roots256]), (3, [AVal.arr .u64 80 P.roots512]), (4, [AVal.arr .i64 24 P.kpla]), (5, [AVal.arr .i64 24 P.ktur])] 25 spec0 := by
 refine proved_of (D := D) (fn := Tryd.f25) (c := Tryd.f25.body.getD .skip) [.any] (by kernel_rfl) (globsPlain_of (by kernel_rfl)) (by kernel_rfl) (by kernel_rfl) (by kernel_rfl) trivial trivial ?_ ?_
 · rw [loops]; exact trivial
 · intro args K r h
   unfold spec0 at h
   split at h
   · rw [body]; exact h
   · cases h
theorem ok : Proved Tryd.prog [(1, [AVal.arr .u64 24 P.kcon]), (2, [AVal.arr .u32 64 P.roots256]), (3, [AVal.arr .u64 80 P.roots512]), (4, [AVal.arr .i64 24 P.kpla]), (5, [AVal.arr .i64 24 P.ktur])] 25 spec := ok0
end wots_Fit
end

section
open Go Go.Abs Go.Proofs
set_option maxRecDepth 100000
set_option maxHeartbeats 0
set_option linter.unusedVariables false
namespace sha_root512
noncomputable def D : Ctx := ({ P := Tryd.prog, G := [], globs := [(1, [AVal.arr .u64 24 P.kcon]), (2, [AVal.arr .u32 64 P.roots256]), (3, [AVal.arr .u64 80 P.roots512]), (4, [AVal.arr .i64 24 P.kpla]), (5, [AVal.arr .i64 24 P.ktur])], hints := [], loops := [], inl := [] } : Ctx)
theorem body (a0 : Int) (K : AVal → Option R) : bodyA D Tryd.f139 [.any] [.v (.int .i64 a0)] K = P.sha_root512 a0 (fun r0 => K (.v (.int .u64 r0))) := by
 rw [P.sha_root512_eq]
 kernel_rfl
theorem loops : loopsOf (Tryd.f139.body.getD .skip) = [] := by kernel_rfl
noncomputable def spec0 : Abs.Spec := fun args K => match args with
 | [.v (.int .i64 a0)] => P.sha_root512 a0 (fun r0 => K (.v (.int .u64 r0)))
 | _ => none
noncomputable def spec : Abs.Spec := spec0
theorem ok0 : Proved Tryd.prog [(1, [AVal.arr .u64 24 P.kcon]), (2, [AVal.arr .u32 64 P.roots256]), (3, [AVal.arr .u64 80 P.roots512]), (4, [AVal.arr .i64 24 P.kpla]), (5, [AVal.arr .i64 24 P.ktur])] 139 spec0 := by
 refine proved_of (D := D) (fn := Tryd.f139) (c := Tryd.f139.body.getD .skip) [.any] (by kernel_rfl) (globsPlain_of (by kernel_rfl)) (by kernel_rfl) (by kernel_rfl) (by kernel_rfl) trivial trivial ?_ ?_
 · rw [loops]; exact trivial
 · intro args K r h
   unfold spec0 at h
   split at h
   · rw [body]; exact h
   · cases h
theorem ok : Proved Tryd.prog [(1, [AVal.arr .u64 24 P.kcon]), (2, [AVal.arr .u32 64 P.roots256]), (3, [AVal.arr .u64 80 P.roots512]), (4, [AVal.arr .i64 24 P.kpla]), (5, [AVal.arr .i64 24 P.ktur])] 139 spec := ok0
end sha_root512
end

section
open Go Go.Abs Go.Proofs
set_option maxRecDepth 100000
set_option maxHeartbeats 0
set_option linter.unusedVariables false
namespace sha_great
noncomputable def D : Ctx := ({ P := Tryd.prog, G := [(139, sha_root512.spec)], globs := [(1, [AVal.arr .u64 24 P.kcon]), (2, [AVal.arr .u32 64 P.roots256]), (3, [AVal.arr .u64 80 P.roots512]), (4, [AVal.arr .i64 24 P.kpla]), (5, [AVal.arr .i64 24 P.ktur])], hints := [], loops := [], inl := [] } : Ctx)
theorem body  (K : AVal → Option R) : bodyA D Tryd.f120 [.any] [] K = P.sha_great (fun r0_bits r0_rounds r0_turns_0 r0_turns_1 r0_turns_2 r0_turns_3 => K (.agg [.v (.int .i64 r0_bits), .v (.int .i64 r0_rounds), .arr .i64 3 r0_turns_0, .arr .i64 3 r0_turns_1, .arr .i64 3 r0_turns_2, .arr .i64 3 r0_turns_3, .fn (.func 139) [] []])) := by
 rw [P.sha_great_eq]
 kernel_rfl
theorem loops : loopsOf (Tryd.f120.body.getD .skip) = [] := by kernel_rfl
noncomputable def spec0 : Abs.Spec := fun args K => match args with
 | [] => P.sha_great (fun r0_bits r0_rounds r0_turns_0 r0_turns_1 r0_turns_2 r0_turns_3 => K (.agg [.v (.int .i64 r0_bits), .v (.int .i64 r0_rounds), .arr .i64 3 r0_turns_0, .arr .i64 3 r0_turns_1, .arr .i64 3 r0_turns_2, .arr .i64 3 r0_turns_3, .fn (.func 139) [] []]))
 | _ => none
noncomputable def spec : Abs.Spec := spec0
theorem ok0 : Proved Tryd.prog [(1, [AVal.arr .u64 24 P.kcon]), (2, [AVal.arr .u32 64 P.roots256]), (3, [AVal.arr .u64 80 P.roots512]), (4, [AVal.arr .i64 24 P.kpla]), (5, [AVal.arr .i64 24 P.ktur])] 120 spec0 := by
 refine proved_of (D := D) (fn := Tryd.f120) (c := Tryd.f120.body.getD .skip) [.any] (by kernel_rfl) (globsPlain_of (by kernel_rfl)) (by kernel_rfl) (by kernel_rfl) (by kernel_rfl) ⟨sha_root512.ok, trivial⟩ trivial ?_ ?_
 · rw [loops]; exact trivial
 · intro args K r h
   unfold spec0 at h
   split at h
   · rw [body]; exact h
   · cases h
theorem ok : Proved Tryd.prog [(1, [AVal.arr .u64 24 P.kcon]), (2, [AVal.arr .u32 64 P.roots256]), (3, [AVal.arr .u64 80 P.roots512]), (4, [AVal.arr .i64 24 P.kpla]), (5, [AVal.arr .i64 24 P.ktur])] 120 spec := ok0
end sha_great
end

section
open Go Go.Abs Go.Proofs
set_option maxRecDepth 100000
set_option maxHeartbeats 0
set_option linter.unusedVariables false
namespace sha_root256
noncomputable def D : Ctx := ({ P := Tryd.prog, G := [], globs := [(1, [AVal.arr .u64 24 P.kcon]), (2, [AVal.arr .u32 64 P.roots256]), (3, [AVal.arr .u64 80 P.roots512]), (4, [AVal.arr .i64 24 P.kpla]), (5, [AVal.arr .i64 24 P.ktur])], hints := [], loops := [], inl := [] } : Ctx)
theorem body (a0 : Int) (K : AVal → Option R) : bodyA D Tryd.f137 [.any] [.v (.int .i64 a0)] K = P.sha_root256 a0 (fun r0 => K (.v (.int .u32 r0))) := by
 rw [P.sha_root256_eq]
 kernel_rfl
theorem loops : loopsOf (Tryd.f137.body.getD .skip) = [] := by kernel_rfl
noncomputable def spec0 : Abs.Spec := fun args K => match args with
 | [.v (.int .i64 a0)] => P.sha_root256 a0 (fun r0 => K (.v (.int .u32 r0)))
 | _ => none
noncomputable def spec : Abs.Spec := spec0
theorem ok0 : Proved Tryd.prog [(1, [AVal.arr .u64 24 P.kcon]), (2, [AVal.arr .u32 64 P.roots256]), (3, [AVal.arr .u64 80 P.roots512]), (4, [AVal.arr .i64 24 P.kpla]), (5, [AVal.arr .i64 24 P.ktur])] 137 spec0 := by
 refine proved_of (D := D) (fn := Tryd.f137) (c := Tryd.f137.body.getD .skip) [.any] (by kernel_rfl) (globsPlain_of (by kernel_rfl)) (by kernel_rfl) (by kernel_rfl) (by kernel_rfl) trivial trivial ?_ ?_
 · rw [loops]; exact trivial
 · intro args K r h
   unfold spec0 at h
   split at h
   · rw [body]; exact h
   · cases h
theorem ok : Proved Tryd.prog [(1, [AVal.arr .u64 24 P.kcon]), (2, [AVal.arr .u32 64 P.roots256]), (3, [AVal.arr .u64 80 P.roots512]), (4, [AVal.arr .i64 24 P.kpla]), (5, [AVal.arr .i64 24 P.ktur])] 137 spec := ok0
end sha_root256
end

section
open Go Go.Abs Go.Proofs
set_option maxRecDepth 100000
set_option maxHeartbeats 0
set_option linter.unusedVariables false
namespace sha_small
noncomputable def D : Ctx := ({ P := Tryd.prog, G := [(137, sha_root256.spec)], globs := [(1, [AVal.arr .u64 24 P.kcon]), (2, [AVal.arr .u32 64 P.roots256]), (3, [AVal.arr .u64 80 P.roots512]), (4, [AVal.arr .i64 24 P.kpla]), (5, [AVal.arr .i64 24 P.ktur])], hints := [], loops := [], inl := [] } : Ctx)
theorem body  (K : AVal → Option R) : bodyA D Tryd.f118 [.any] [] K = P.sha_small (fun r0_bits r0_rounds r0_turns_0 r0_turns_1 r0_turns_2 r0_turns_3 => K (.agg [.v (.int .i64 r0_bits), .v (.int .i64 r0_rounds), .arr .i64 3 r0_turns_0, .arr .i64 3 r0_turns_1, .arr .i64 3 r0_turns_2, .arr .i64 3 r0_turns_3, .fn (.func 137) [] []])) := by
 rw [P.sha_small_eq]
 kernel_rfl
theorem loops : loopsOf (Tryd.f118.body.getD .skip) = [] := by kernel_rfl
noncomputable def spec0 : Abs.Spec := fun args K => match args with
 | [] => P.sha_small (fun r0_bits r0_rounds r0_turns_0 r0_turns_1 r0_turns_2 r0_turns_3 => K (.agg [.v (.int .i64 r0_bits), .v (.int .i64 r0_rounds), .arr .i64 3 r0_turns_0, .arr .i64 3 r0_turns_1, .arr .i64 3 r0_turns_2, .arr .i64 3 r0_turns_3, .fn (.func 137) [] []]))
 | _ => none
noncomputable def spec : Abs.Spec := spec0
theorem ok0 : Proved Tryd.prog [(1, [AVal.arr .u64 24 P.kcon]), (2, [AVal.arr .u32 64 P.roots256]), (3, [AVal.arr .u64 80 P.roots512]), (4, [AVal.arr .i64 24 P.kpla]), (5, [AVal.arr .i64 24 P.ktur])] 118 spec0 := by
 refine proved_of (D := D) (fn := Tryd.f118) (c := Tryd.f118.body.getD .skip) [.any] (by kernel_rfl) (globsPlain_of (by kernel_rfl)) (by kernel_rfl) (by kernel_rfl) (by kernel_rfl) ⟨sha_root256.ok, trivial⟩ trivial ?_ ?_
 · rw [loops]; exact trivial
 · intro args K r h
   unfold spec0 at h
   split at h
   · rw [body]; exact h
   · cases h
theorem ok : Proved Tryd.prog [(1, [AVal.arr .u64 24 P.kcon]), (2, [AVal.arr .u32 64 P.roots256]), (3, [AVal.arr .u64 80 P.roots512]), (4, [AVal.arr .i64 24 P.kpla]), (5, [AVal.arr .i64 24 P.ktur])] 118 spec := ok0
end sha_small
end

section
open Go Go.Abs Go.Proofs
set_option maxRecDepth 100000
set_option maxHeartbeats 0
set_option linter.unusedVariables false
namespace bits_Num
abbrev X3 := Int × (List Int) × Int × Int
def S3 : X3 → ASt := fun (v3, v6, v7, v8) => ⟨[(3, .v (.int .u64 v3)), (6, .sl (.ints .u8 v6)), (7, .v (.int .i64 v7)), (8, .v (.int .i64 v8))], [], 0, 19⟩
def V3 : ASt → Option X3
 | ⟨[(3, .v (.int .u64 v3)), (6, .sl (.ints .u8 v6)), (7, .v (.int .i64 v7)), (8, .v (.int .i64 v8))], [], 0, 19⟩ => some (v3, v6, v7, v8)
 | _ => none
theorem V3_ok (st) (x) (h : V3 st = some x) : st = S3 x := by
 unfold V3 at h
 split at h
 · cases h; rfl
 · cases h
abbrev Y3 := X3
noncomputable def T3 : X3 → (X3 → Option R) → (Y3 → Option R) → Option R := fun (v3, v6, v7, v8) next ex => P.bits_Num_r3 v3 v6 v7 v8 (fun v3 v6 v7 v8 => next (v3, v6, v7, v8)) (fun v3 v6 v7 v8 => ex (v3, v6, v7, v8))
def E3 (K : AExit → ASt → Option R) : Y3 → Option R := (fun x => K (.exit 0) (S3 x))
noncomputable def L3 : LSpec := fun st K => vMap (V3 st) fun (v3, v6, v7, v8) => P.bits_Num_l3 v3 v6 v7 v8 (fun v3 v6 v7 v8 => K (.exit 0) (S3 (v3, v6, v7, v8)))
noncomputable def D : Ctx := ({ P := Tryd.prog, G := [], globs := [(1, [AVal.arr .u64 24 P.kcon]), (2, [AVal.arr .u32 64 P.roots256]), (3, [AVal.arr .u64 80 P.roots512]), (4, [AVal.arr .i64 24 P.kpla]), (5, [AVal.arr .i64 24 P.ktur])], hints := [(3, ⟨[3, 6, 7, 8], [], [2], [], none, []⟩)], loops := [(3, L3)], inl := [] } : Ctx)
theorem round3 (K) (next) (x) : roundA D (loopAt Tryd.f134 3) K next (S3 x) = T3 x (fun x => next (S3 x)) (E3 K) := by kernel_rfl
theorem lq3 (st) (K) : L3 st K = vMap (V3 st) (fun x => lp T3 x (E3 K)) := by
 unfold L3
 cases V3 st with
 | none => rfl
 | some x => rw [P.bits_Num_l3_eq]; kernel_rfl
theorem loop3 : LoopOk D (loopAt Tryd.f134 3) := loopOk_lp S3 V3_ok (by kernel_rfl) lq3 round3
theorem body (a0 : List Int) (K : AVal → Option R) : bodyA D Tryd.f134 [.any] [.sl (.ints .u8 a0)] K = P.bits_Num a0 (fun r0 => K (.v (.int .u64 r0))) := by
 rw [P.bits_Num_eq]
 kernel_rfl
theorem loops : loopsOf (Tryd.f134.body.getD .skip) = [loopAt Tryd.f134 3] := by kernel_rfl
noncomputable def spec0 : Abs.Spec := fun args K => match args with
 | [.sl (.ints .u8 a0)] => P.bits_Num a0 (fun r0 => K (.v (.int .u64 r0)))
 | _ => none
noncomputable def spec : Abs.Spec := fun args K => spec0 (coerL [.sl (.ints .u8 [])] args) K
theorem ok0 : Proved Tryd.prog [(1, [AVal.arr .u64 24 P.kcon]), (2, [AVal.arr .u32 64 P.roots256]), (3, [AVal.arr .u64 80 P.roots512]), (4, [AVal.arr .i64 24 P.kpla]), (5, [AVal.arr .i64 24 P.ktur])] 134 spec0 := by
 refine proved_of (D := D) (fn := Tryd.f134) (c := Tryd.f134.body.getD .skip) [.any] (by kernel_rfl) (globsPlain_of (by kernel_rfl)) (by kernel_rfl) (by kernel_rfl) (by kernel_rfl) trivial trivial ?_ ?_
 · rw [loops]; exact ⟨loop3, trivial⟩
 · intro args K r h
   unfold spec0 at h
   split at h
   · rw [body]; exact h
   · cases h
theorem ok : Proved Tryd.prog [(1, [AVal.arr .u64 24 P.kcon]), (2, [AVal.arr .u32 64 P.roots256]), (3, [AVal.arr .u64 80 P.roots512]), (4, [AVal.arr .i64 24 P.kpla]), (5, [AVal.arr .i64 24 P.ktur])] 134 spec := proved_coer _ ok0
end bits_Num
end
