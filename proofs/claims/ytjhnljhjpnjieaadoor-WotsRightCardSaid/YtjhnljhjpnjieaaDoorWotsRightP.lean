/-
  WotsRight, part P: an interpreter of my own over abstract values, the pure functions, the walks and the plain law.
-/

import Derived.Test.YtjhnljhjpnjieaaDoorWotsRightG
import Derived.Test.YtjhnljhjpnjieaaDoorWotsRightF
import Derived.Test.YtjhnljhjpnjieaaDoorProg
import Derived.Test.YtjhnljhjpnjieaaDoorWotsRightO
import Derived.KernelRfl
import Derived.Test.YtjhnljhjpnjieaaDoorWotsRightK
import Derived.Test.YtjhnljhjpnjieaaDoorWotsRightH
import Derived.Test.YtjhnljhjpnjieaaDoorWotsRightN

section
open Go Go.Abs Go.Proofs
set_option maxRecDepth 100000
set_option maxHeartbeats 0
set_option linter.unusedVariables false
namespace keccak_Squeeze
abbrev X7 := Int × Int × Int × (List Int) × Int × Bool × Int × (List Int) × Int × Bool × (List Int)
def S7 : X7 → ASt := fun (v19, v20, h0_0, h0_1, h0_2, h0_3, h1_0, h1_1, h1_2, h1_3, h2) => ⟨[(2, .ptr 0 0), (4, .ptr 1 0), (6, .own 2), (19, .v (.int .i64 v19)), (20, .v (.int .i64 v20))], [(0, some ⟨.box 123 [.v (.int .i64 h0_0), .arr .u64 25 h0_1, .v (.int .i64 h0_2), .v (.bool h0_3)], false⟩), (1, some ⟨.box 123 [.v (.int .i64 h1_0), .arr .u64 25 h1_1, .v (.int .i64 h1_2), .v (.bool h1_3)], false⟩), (2, some ⟨.row 5 (.ints .u8 h2), false⟩)], 40, 56⟩
def V7 : ASt → Option X7
 | ⟨[(2, .ptr 0 0), (4, .ptr 1 0), (6, .own 2), (19, .v (.int .i64 v19)), (20, .v (.int .i64 v20))], [(0, some ⟨.box 123 [.v (.int .i64 h0_0), .arr .u64 25 h0_1, .v (.int .i64 h0_2), .v (.bool h0_3)], false⟩), (1, some ⟨.box 123 [.v (.int .i64 h1_0), .arr .u64 25 h1_1, .v (.int .i64 h1_2), .v (.bool h1_3)], false⟩), (2, some ⟨.row 5 (.ints .u8 h2), false⟩)], 40, 56⟩ => some (v19, v20, h0_0, h0_1, h0_2, h0_3, h1_0, h1_1, h1_2, h1_3, h2)
 | _ => none
theorem V7_ok (st) (x) (h : V7 st = some x) : st = S7 x := by
 unfold V7 at h
 split at h
 · cases h; rfl
 · cases h
abbrev Y7 := X7
noncomputable def T7 : X7 → (X7 → Option R) → (Y7 → Option R) → Option R := fun (v19, v20, h0_0, h0_1, h0_2, h0_3, h1_0, h1_1, h1_2, h1_3, h2) next ex => P.keccak_Squeeze_r7 v19 v20 h0_0 h0_1 h0_2 h0_3 h1_0 h1_1 h1_2 h1_3 h2 (fun v19 v20 h0_0 h0_1 h0_2 h0_3 h1_0 h1_1 h1_2 h1_3 h2 => next (v19, v20, h0_0, h0_1, h0_2, h0_3, h1_0, h1_1, h1_2, h1_3, h2)) (fun v19 v20 h0_0 h0_1 h0_2 h0_3 h1_0 h1_1 h1_2 h1_3 h2 => ex (v19, v20, h0_0, h0_1, h0_2, h0_3, h1_0, h1_1, h1_2, h1_3, h2))
def E7 (K : AExit → ASt → Option R) : Y7 → Option R := (fun x => K (.exit 0) (S7 x))
noncomputable def L7 : LSpec := fun st K => vMap (V7 st) fun (v19, v20, h0_0, h0_1, h0_2, h0_3, h1_0, h1_1, h1_2, h1_3, h2) => P.keccak_Squeeze_l7 v19 v20 h0_0 h0_1 h0_2 h0_3 h1_0 h1_1 h1_2 h1_3 h2 (fun v19 v20 h0_0 h0_1 h0_2 h0_3 h1_0 h1_1 h1_2 h1_3 h2 => K (.exit 0) (S7 (v19, v20, h0_0, h0_1, h0_2, h0_3, h1_0, h1_1, h1_2, h1_3, h2)))
noncomputable def D : Ctx := ({ P := Tryd.prog, G := [(122, keccak_rate.spec), (123, keccak_turned.spec), (124, keccak_Permute.spec)], globs := [(1, [AVal.arr .u64 24 P.kcon]), (2, [AVal.arr .u32 64 P.roots256]), (3, [AVal.arr .u64 80 P.roots512]), (4, [AVal.arr .i64 24 P.kpla]), (5, [AVal.arr .i64 24 P.ktur])], hints := [(7, ⟨[2, 4, 6, 19, 20], [], [4, 5], [], some (40, [0, 1, 2]), []⟩)], loops := [(7, L7)], inl := [] } : Ctx)
theorem round7 (K) (next) (x) : roundA D (loopAt Tryd.f90 7) K next (S7 x) = T7 x (fun x => next (S7 x)) (E7 K) := by kernel_rfl
theorem lq7 (st) (K) : L7 st K = vMap (V7 st) (fun x => lp T7 x (E7 K)) := by
 unfold L7
 cases V7 st with
 | none => rfl
 | some x => rw [P.keccak_Squeeze_l7_eq]; kernel_rfl
theorem loop7 : LoopOk D (loopAt Tryd.f90 7) := loopOk_lp S7 V7_ok (by kernel_rfl) lq7 round7
theorem body (a0_Kind : Int) (a0_Words : List Int) (a0_At : Int) (a0_Out : Bool) (a1 : Int) (K : AVal → Option R) : bodyA D Tryd.f90 [.any, .fr 5 (.ints .u8 [])] [.agg [.v (.int .i64 a0_Kind), .arr .u64 25 a0_Words, .v (.int .i64 a0_At), .v (.bool a0_Out)], .v (.int .i64 a1)] K = P.keccak_Squeeze a0_Kind a0_Words a0_At a0_Out a1 (fun r0_Kind r0_Words r0_At r0_Out r1 => K (.tuple [.agg [.v (.int .i64 r0_Kind), .arr .u64 25 r0_Words, .v (.int .i64 r0_At), .v (.bool r0_Out)], .fr 5 (.ints .u8 r1)])) := by
 rw [P.keccak_Squeeze_eq]
 kernel_rfl
theorem loops : loopsOf (Tryd.f90.body.getD .skip) = [loopAt Tryd.f90 7] := by kernel_rfl
noncomputable def spec0 : Abs.Spec := fun args K => match args with
 | [.agg [.v (.int .i64 a0_Kind), .arr .u64 25 a0_Words, .v (.int .i64 a0_At), .v (.bool a0_Out)], .v (.int .i64 a1)] => P.keccak_Squeeze a0_Kind a0_Words a0_At a0_Out a1 (fun r0_Kind r0_Words r0_At r0_Out r1 => K (.tuple [.agg [.v (.int .i64 r0_Kind), .arr .u64 25 r0_Words, .v (.int .i64 r0_At), .v (.bool r0_Out)], .fr 5 (.ints .u8 r1)]))
 | _ => none
noncomputable def spec : Abs.Spec := spec0
theorem ok0 : Proved Tryd.prog [(1, [AVal.arr .u64 24 P.kcon]), (2, [AVal.arr .u32 64 P.roots256]), (3, [AVal.arr .u64 80 P.roots512]), (4, [AVal.arr .i64 24 P.kpla]), (5, [AVal.arr .i64 24 P.ktur])] 90 spec0 := by
 refine proved_of (D := D) (fn := Tryd.f90) (c := Tryd.f90.body.getD .skip) [.any, .fr 5 (.ints .u8 [])] (by kernel_rfl) (globsPlain_of (by kernel_rfl)) (by kernel_rfl) (by kernel_rfl) (by kernel_rfl) ⟨keccak_rate.ok, keccak_turned.ok, keccak_Permute.ok, trivial⟩ trivial ?_ ?_
 · rw [loops]; exact ⟨loop7, trivial⟩
 · intro args K r h
   unfold spec0 at h
   split at h
   · rw [body]; exact h
   · cases h
theorem ok : Proved Tryd.prog [(1, [AVal.arr .u64 24 P.kcon]), (2, [AVal.arr .u32 64 P.roots256]), (3, [AVal.arr .u64 80 P.roots512]), (4, [AVal.arr .i64 24 P.kpla]), (5, [AVal.arr .i64 24 P.ktur])] 90 spec := ok0
end keccak_Squeeze
end

section
open Go Go.Abs Go.Proofs
set_option maxRecDepth 100000
set_option maxHeartbeats 0
set_option linter.unusedVariables false
namespace wots_shaken_f1
noncomputable def D : Ctx := ({ P := Tryd.prog, G := [(62, bits_Join.spec), (90, keccak_Squeeze.spec), (91, keccak_Absorb.spec)], globs := [(1, [AVal.arr .u64 24 P.kcon]), (2, [AVal.arr .u32 64 P.roots256]), (3, [AVal.arr .u64 80 P.roots512]), (4, [AVal.arr .i64 24 P.kpla]), (5, [AVal.arr .i64 24 P.ktur])], hints := [], loops := [], inl := [] } : Ctx)
theorem body (a0 : List Int) (a1 : List Int) (a2_Kind : Int) (a2_Words : List Int) (a2_At : Int) (a2_Out : Bool) (a3 : Int) (K : AVal → Option R) : bodyA D Tryd.f130 [.fr 5 (.ints .u8 [])] [.arr .u8 32 a0, .sl (.ints .u8 a1), .sta [.v (.int .i64 a2_Kind), .arr .u64 25 a2_Words, .v (.int .i64 a2_At), .v (.bool a2_Out)], .sta [.v (.int .i64 a3)]] K = P.wots_shaken_f1 a0 a1 a2_Kind a2_Words a2_At a2_Out a3 (fun r0 => K (.fr 5 (.ints .u8 r0))) := by
 rw [P.wots_shaken_f1_eq]
 kernel_rfl
theorem loops : loopsOf (Tryd.f130.body.getD .skip) = [] := by kernel_rfl
noncomputable def spec0 : Abs.Spec := fun args K => match args with
 | [.arr .u8 32 a0, .sl (.ints .u8 a1), .sta [.v (.int .i64 a2_Kind), .arr .u64 25 a2_Words, .v (.int .i64 a2_At), .v (.bool a2_Out)], .sta [.v (.int .i64 a3)]] => P.wots_shaken_f1 a0 a1 a2_Kind a2_Words a2_At a2_Out a3 (fun r0 => K (.fr 5 (.ints .u8 r0)))
 | _ => none
noncomputable def spec : Abs.Spec := fun args K => spec0 (coerL [.any, .sl (.ints .u8 []), .any, .any] args) K
theorem ok0 : Proved Tryd.prog [(1, [AVal.arr .u64 24 P.kcon]), (2, [AVal.arr .u32 64 P.roots256]), (3, [AVal.arr .u64 80 P.roots512]), (4, [AVal.arr .i64 24 P.kpla]), (5, [AVal.arr .i64 24 P.ktur])] 130 spec0 := by
 refine proved_of (D := D) (fn := Tryd.f130) (c := Tryd.f130.body.getD .skip) [.fr 5 (.ints .u8 [])] (by kernel_rfl) (globsPlain_of (by kernel_rfl)) (by kernel_rfl) (by kernel_rfl) (by kernel_rfl) ⟨bits_Join.ok, keccak_Squeeze.ok, keccak_Absorb.ok, trivial⟩ trivial ?_ ?_
 · rw [loops]; exact trivial
 · intro args K r h
   unfold spec0 at h
   split at h
   · rw [body]; exact h
   · cases h
theorem ok : Proved Tryd.prog [(1, [AVal.arr .u64 24 P.kcon]), (2, [AVal.arr .u32 64 P.roots256]), (3, [AVal.arr .u64 80 P.roots512]), (4, [AVal.arr .i64 24 P.kpla]), (5, [AVal.arr .i64 24 P.ktur])] 130 spec := proved_coer _ ok0
end wots_shaken_f1
end

section
open Go Go.Abs Go.Proofs
set_option maxRecDepth 100000
set_option maxHeartbeats 0
set_option linter.unusedVariables false
namespace wots_shaken
noncomputable def D : Ctx := ({ P := Tryd.prog, G := [(89, keccak_New.spec), (91, keccak_Absorb.spec), (130, wots_shaken_f1.spec)], globs := [(1, [AVal.arr .u64 24 P.kcon]), (2, [AVal.arr .u32 64 P.roots256]), (3, [AVal.arr .u64 80 P.roots512]), (4, [AVal.arr .i64 24 P.kpla]), (5, [AVal.arr .i64 24 P.ktur])], hints := [], loops := [], inl := [], sta := true } : Ctx)
theorem body (a0 : Int) (a1 : List Int) (K : AVal → Option R) : bodyA D Tryd.f108 [.any] [.v (.int .i64 a0), .sl (.ints .u8 a1)] K = P.wots_shaken a0 a1 (fun r0_c0_Kind r0_c0_Words r0_c0_At r0_c0_Out r0_c1 => K (.fn (.func 130) [] [.sta [.v (.int .i64 r0_c0_Kind), .arr .u64 25 r0_c0_Words, .v (.int .i64 r0_c0_At), .v (.bool r0_c0_Out)], .sta [.v (.int .i64 r0_c1)]])) := by
 rw [P.wots_shaken_eq]
 kernel_rfl
theorem loops : loopsOf (Tryd.f108.body.getD .skip) = [] := by kernel_rfl
noncomputable def spec0 : Abs.Spec := fun args K => match args with
 | [.v (.int .i64 a0), .sl (.ints .u8 a1)] => P.wots_shaken a0 a1 (fun r0_c0_Kind r0_c0_Words r0_c0_At r0_c0_Out r0_c1 => K (.fn (.func 130) [] [.sta [.v (.int .i64 r0_c0_Kind), .arr .u64 25 r0_c0_Words, .v (.int .i64 r0_c0_At), .v (.bool r0_c0_Out)], .sta [.v (.int .i64 r0_c1)]]))
 | _ => none
noncomputable def spec : Abs.Spec := fun args K => spec0 (coerL [.any, .sl (.ints .u8 [])] args) K
theorem ok0 : Proved Tryd.prog [(1, [AVal.arr .u64 24 P.kcon]), (2, [AVal.arr .u32 64 P.roots256]), (3, [AVal.arr .u64 80 P.roots512]), (4, [AVal.arr .i64 24 P.kpla]), (5, [AVal.arr .i64 24 P.ktur])] 108 spec0 := by
 refine proved_of (D := D) (fn := Tryd.f108) (c := Tryd.f108.body.getD .skip) [.any] (by kernel_rfl) (globsPlain_of (by kernel_rfl)) (by kernel_rfl) (by kernel_rfl) (by kernel_rfl) ⟨keccak_New.ok, keccak_Absorb.ok, wots_shaken_f1.ok, trivial⟩ trivial ?_ ?_
 · rw [loops]; exact trivial
 · intro args K r h
   unfold spec0 at h
   split at h
   · rw [body]; exact h
   · cases h
theorem ok : Proved Tryd.prog [(1, [AVal.arr .u64 24 P.kcon]), (2, [AVal.arr .u32 64 P.roots256]), (3, [AVal.arr .u64 80 P.roots512]), (4, [AVal.arr .i64 24 P.kpla]), (5, [AVal.arr .i64 24 P.ktur])] 108 spec := proved_coer _ ok0
end wots_shaken
end

section
open Go Go.Abs Go.Proofs
set_option maxRecDepth 100000
set_option maxHeartbeats 0
set_option linter.unusedVariables false
namespace wots_began
noncomputable def D : Ctx := ({ P := Tryd.prog, G := [(25, wots_Fit.spec), (108, wots_shaken.spec), (109, wots_hashed.spec), (130, wots_shaken_f1.spec), (132, wots_hashed_f1.spec)], globs := [(1, [AVal.arr .u64 24 P.kcon]), (2, [AVal.arr .u32 64 P.roots256]), (3, [AVal.arr .u64 80 P.roots512]), (4, [AVal.arr .i64 24 P.kpla]), (5, [AVal.arr .i64 24 P.ktur])], hints := [], loops := [], inl := [] } : Ctx)
theorem body (a0_N : Int) (a0_H : Int) (a0_D : Int) (a0_A : Int) (a0_K : Int) (a0_Shake : Bool) (a1 : List Int) (K : AVal → Option R) : bodyA D Tryd.f66 [.agg [.any, .any, .any, .any, .any, .any, .alt (.func 130) [] [.sta [.v (.int .i64 0), .arr .u64 25 [], .v (.int .i64 0), .v (.bool false)], .sta [.v (.int .i64 0)]] (.func 132) [] [.sta [.v (.int .i64 0), .arr .u64 8 [], .sl (.ints .u8 []), .v (.int .u64 0)], .sta [.v (.int .i64 0)], .sta [.v (.int .i64 0), .arr .u64 8 [], .sl (.ints .u8 []), .v (.int .u64 0)]]], .any] [.agg [.v (.int .i64 a0_N), .v (.int .i64 a0_H), .v (.int .i64 a0_D), .v (.int .i64 a0_A), .v (.int .i64 a0_K), .v (.bool a0_Shake)], .sl (.ints .u8 a1)] K = P.wots_began a0_N a0_H a0_D a0_A a0_K a0_Shake a1 (fun r0_Slh_N r0_Slh_H r0_Slh_D r0_Slh_A r0_Slh_K r0_Slh_Shake r0_sum r0_sum_c0_Kind r0_sum_c0_Words r0_sum_c0_At r0_sum_c0_Out r0_sum_c1 r0_sum_d0_Kind r0_sum_d0_Words r0_sum_d0_Tail r0_sum_d0_Size r0_sum_d1 r0_sum_d2_Kind r0_sum_d2_Words r0_sum_d2_Tail r0_sum_d2_Size r1 => K (.tuple [.agg [.v (.int .i64 r0_Slh_N), .v (.int .i64 r0_Slh_H), .v (.int .i64 r0_Slh_D), .v (.int .i64 r0_Slh_A), .v (.int .i64 r0_Slh_K), .v (.bool r0_Slh_Shake), .alt r0_sum (.func 130) [] [.sta [.v (.int .i64 r0_sum_c0_Kind), .arr .u64 25 r0_sum_c0_Words, .v (.int .i64 r0_sum_c0_At), .v (.bool r0_sum_c0_Out)], .sta [.v (.int .i64 r0_sum_c1)]] (.func 132) [] [.sta [.v (.int .i64 r0_sum_d0_Kind), .arr .u64 8 r0_sum_d0_Words, .sl (.ints .u8 r0_sum_d0_Tail), .v (.int .u64 r0_sum_d0_Size)], .sta [.v (.int .i64 r0_sum_d1)], .sta [.v (.int .i64 r0_sum_d2_Kind), .arr .u64 8 r0_sum_d2_Words, .sl (.ints .u8 r0_sum_d2_Tail), .v (.int .u64 r0_sum_d2_Size)]]], .v (.bool r1)])) := by
 rw [P.wots_began_eq]
 kernel_rfl
theorem loops : loopsOf (Tryd.f66.body.getD .skip) = [] := by kernel_rfl
noncomputable def spec0 : Abs.Spec := fun args K => match args with
 | [.agg [.v (.int .i64 a0_N), .v (.int .i64 a0_H), .v (.int .i64 a0_D), .v (.int .i64 a0_A), .v (.int .i64 a0_K), .v (.bool a0_Shake)], .sl (.ints .u8 a1)] => P.wots_began a0_N a0_H a0_D a0_A a0_K a0_Shake a1 (fun r0_Slh_N r0_Slh_H r0_Slh_D r0_Slh_A r0_Slh_K r0_Slh_Shake r0_sum r0_sum_c0_Kind r0_sum_c0_Words r0_sum_c0_At r0_sum_c0_Out r0_sum_c1 r0_sum_d0_Kind r0_sum_d0_Words r0_sum_d0_Tail r0_sum_d0_Size r0_sum_d1 r0_sum_d2_Kind r0_sum_d2_Words r0_sum_d2_Tail r0_sum_d2_Size r1 => K (.tuple [.agg [.v (.int .i64 r0_Slh_N), .v (.int .i64 r0_Slh_H), .v (.int .i64 r0_Slh_D), .v (.int .i64 r0_Slh_A), .v (.int .i64 r0_Slh_K), .v (.bool r0_Slh_Shake), .alt r0_sum (.func 130) [] [.sta [.v (.int .i64 r0_sum_c0_Kind), .arr .u64 25 r0_sum_c0_Words, .v (.int .i64 r0_sum_c0_At), .v (.bool r0_sum_c0_Out)], .sta [.v (.int .i64 r0_sum_c1)]] (.func 132) [] [.sta [.v (.int .i64 r0_sum_d0_Kind), .arr .u64 8 r0_sum_d0_Words, .sl (.ints .u8 r0_sum_d0_Tail), .v (.int .u64 r0_sum_d0_Size)], .sta [.v (.int .i64 r0_sum_d1)], .sta [.v (.int .i64 r0_sum_d2_Kind), .arr .u64 8 r0_sum_d2_Words, .sl (.ints .u8 r0_sum_d2_Tail), .v (.int .u64 r0_sum_d2_Size)]]], .v (.bool r1)]))
 | _ => none
noncomputable def spec : Abs.Spec := fun args K => spec0 (coerL [.any, .sl (.ints .u8 [])] args) K
theorem ok0 : Proved Tryd.prog [(1, [AVal.arr .u64 24 P.kcon]), (2, [AVal.arr .u32 64 P.roots256]), (3, [AVal.arr .u64 80 P.roots512]), (4, [AVal.arr .i64 24 P.kpla]), (5, [AVal.arr .i64 24 P.ktur])] 66 spec0 := by
 refine proved_of (D := D) (fn := Tryd.f66) (c := Tryd.f66.body.getD .skip) [.agg [.any, .any, .any, .any, .any, .any, .alt (.func 130) [] [.sta [.v (.int .i64 0), .arr .u64 25 [], .v (.int .i64 0), .v (.bool false)], .sta [.v (.int .i64 0)]] (.func 132) [] [.sta [.v (.int .i64 0), .arr .u64 8 [], .sl (.ints .u8 []), .v (.int .u64 0)], .sta [.v (.int .i64 0)], .sta [.v (.int .i64 0), .arr .u64 8 [], .sl (.ints .u8 []), .v (.int .u64 0)]]], .any] (by kernel_rfl) (globsPlain_of (by kernel_rfl)) (by kernel_rfl) (by kernel_rfl) (by kernel_rfl) ⟨wots_Fit.ok, wots_shaken.ok, wots_hashed.ok, wots_shaken_f1.ok, wots_hashed_f1.ok, trivial⟩ trivial ?_ ?_
 · rw [loops]; exact trivial
 · intro args K r h
   unfold spec0 at h
   split at h
   · rw [body]; exact h
   · cases h
theorem ok : Proved Tryd.prog [(1, [AVal.arr .u64 24 P.kcon]), (2, [AVal.arr .u32 64 P.roots256]), (3, [AVal.arr .u64 80 P.roots512]), (4, [AVal.arr .i64 24 P.kpla]), (5, [AVal.arr .i64 24 P.ktur])] 66 spec := proved_coer _ ok0
end wots_began
end

section
open Go Go.Abs Go.Proofs
set_option maxRecDepth 100000
set_option maxHeartbeats 0
set_option linter.unusedVariables false
namespace wots_signer_along
abbrev X2 := (List Int) × Int × Int × Int × Int × Int × Int × Int × Bool × Nat × Int × (List Int) × Int × Bool × Int × Int × (List Int) × (List Int) × Int × Int × Int × (List Int) × (List Int) × Int × (List Int)
def S2 : X2 → ASt := fun (v2, v4, v11, h0_0, h0_1, h0_2, h0_3, h0_4, h0_5, h0_6, h0_6_c0_0, h0_6_c0_1, h0_6_c0_2, h0_6_c0_3, h0_6_c1_0, h0_6_d0_0, h0_6_d0_1, h0_6_d0_2, h0_6_d0_3, h0_6_d1_0, h0_6_d2_0, h0_6_d2_1, h0_6_d2_2, h0_6_d2_3, h1_0) => ⟨[(2, .sl (.ints .u8 v2)), (4, .v (.int .u32 v4)), (5, .ptr 0 0), (6, .ptr 1 0), (11, .v (.int .u32 v11))], [(0, some ⟨.box 84 [.v (.int .i64 h0_0), .v (.int .i64 h0_1), .v (.int .i64 h0_2), .v (.int .i64 h0_3), .v (.int .i64 h0_4), .v (.bool h0_5), .alt h0_6 (.func 130) [] [.sta [.v (.int .i64 h0_6_c0_0), .arr .u64 25 h0_6_c0_1, .v (.int .i64 h0_6_c0_2), .v (.bool h0_6_c0_3)], .sta [.v (.int .i64 h0_6_c1_0)]] (.func 132) [] [.sta [.v (.int .i64 h0_6_d0_0), .arr .u64 8 h0_6_d0_1, .sl (.ints .u8 h0_6_d0_2), .v (.int .u64 h0_6_d0_3)], .sta [.v (.int .i64 h0_6_d1_0)], .sta [.v (.int .i64 h0_6_d2_0), .arr .u64 8 h0_6_d2_1, .sl (.ints .u8 h0_6_d2_2), .v (.int .u64 h0_6_d2_3)]]], false⟩), (1, some ⟨.box 43 [.arr .u8 32 h1_0], false⟩)], 2, 27⟩
def V2 : ASt → Option X2
 | ⟨[(2, .sl (.ints .u8 v2)), (4, .v (.int .u32 v4)), (5, .ptr 0 0), (6, .ptr 1 0), (11, .v (.int .u32 v11))], [(0, some ⟨.box 84 [.v (.int .i64 h0_0), .v (.int .i64 h0_1), .v (.int .i64 h0_2), .v (.int .i64 h0_3), .v (.int .i64 h0_4), .v (.bool h0_5), .alt h0_6 (.func 130) [] [.sta [.v (.int .i64 h0_6_c0_0), .arr .u64 25 h0_6_c0_1, .v (.int .i64 h0_6_c0_2), .v (.bool h0_6_c0_3)], .sta [.v (.int .i64 h0_6_c1_0)]] (.func 132) [] [.sta [.v (.int .i64 h0_6_d0_0), .arr .u64 8 h0_6_d0_1, .sl (.ints .u8 h0_6_d0_2), .v (.int .u64 h0_6_d0_3)], .sta [.v (.int .i64 h0_6_d1_0)], .sta [.v (.int .i64 h0_6_d2_0), .arr .u64 8 h0_6_d2_1, .sl (.ints .u8 h0_6_d2_2), .v (.int .u64 h0_6_d2_3)]]], false⟩), (1, some ⟨.box 43 [.arr .u8 32 h1_0], false⟩)], 2, 27⟩ => some (v2, v4, v11, h0_0, h0_1, h0_2, h0_3, h0_4, h0_5, h0_6, h0_6_c0_0, h0_6_c0_1, h0_6_c0_2, h0_6_c0_3, h0_6_c1_0, h0_6_d0_0, h0_6_d0_1, h0_6_d0_2, h0_6_d0_3, h0_6_d1_0, h0_6_d2_0, h0_6_d2_1, h0_6_d2_2, h0_6_d2_3, h1_0)
 | _ => none
theorem V2_ok (st) (x) (h : V2 st = some x) : st = S2 x := by
 unfold V2 at h
 split at h
 · cases h; rfl
 · cases h
abbrev Y2 := X2
noncomputable def T2 : X2 → (X2 → Option R) → (Y2 → Option R) → Option R := fun (v2, v4, v11, h0_0, h0_1, h0_2, h0_3, h0_4, h0_5, h0_6, h0_6_c0_0, h0_6_c0_1, h0_6_c0_2, h0_6_c0_3, h0_6_c1_0, h0_6_d0_0, h0_6_d0_1, h0_6_d0_2, h0_6_d0_3, h0_6_d1_0, h0_6_d2_0, h0_6_d2_1, h0_6_d2_2, h0_6_d2_3, h1_0) next ex => P.wots_signer_along_r2 v2 v4 v11 h0_0 h0_1 h0_2 h0_3 h0_4 h0_5 h0_6 h0_6_c0_0 h0_6_c0_1 h0_6_c0_2 h0_6_c0_3 h0_6_c1_0 h0_6_d0_0 h0_6_d0_1 h0_6_d0_2 h0_6_d0_3 h0_6_d1_0 h0_6_d2_0 h0_6_d2_1 h0_6_d2_2 h0_6_d2_3 h1_0 (fun v2 v4 v11 h0_0 h0_1 h0_2 h0_3 h0_4 h0_5 h0_6 h0_6_c0_0 h0_6_c0_1 h0_6_c0_2 h0_6_c0_3 h0_6_c1_0 h0_6_d0_0 h0_6_d0_1 h0_6_d0_2 h0_6_d0_3 h0_6_d1_0 h0_6_d2_0 h0_6_d2_1 h0_6_d2_2 h0_6_d2_3 h1_0 => next (v2, v4, v11, h0_0, h0_1, h0_2, h0_3, h0_4, h0_5, h0_6, h0_6_c0_0, h0_6_c0_1, h0_6_c0_2, h0_6_c0_3, h0_6_c1_0, h0_6_d0_0, h0_6_d0_1, h0_6_d0_2, h0_6_d0_3, h0_6_d1_0, h0_6_d2_0, h0_6_d2_1, h0_6_d2_2, h0_6_d2_3, h1_0)) (fun v2 v4 v11 h0_0 h0_1 h0_2 h0_3 h0_4 h0_5 h0_6 h0_6_c0_0 h0_6_c0_1 h0_6_c0_2 h0_6_c0_3 h0_6_c1_0 h0_6_d0_0 h0_6_d0_1 h0_6_d0_2 h0_6_d0_3 h0_6_d1_0 h0_6_d2_0 h0_6_d2_1 h0_6_d2_2 h0_6_d2_3 h1_0 => ex (v2, v4, v11, h0_0, h0_1, h0_2, h0_3, h0_4, h0_5, h0_6, h0_6_c0_0, h0_6_c0_1, h0_6_c0_2, h0_6_c0_3, h0_6_c1_0, h0_6_d0_0, h0_6_d0_1, h0_6_d0_2, h0_6_d0_3, h0_6_d1_0, h0_6_d2_0, h0_6_d2_1, h0_6_d2_2, h0_6_d2_3, h1_0))
def E2 (K : AExit → ASt → Option R) : Y2 → Option R := (fun x => K (.exit 0) (S2 x))
noncomputable def L2 : LSpec := fun st K => vMap (V2 st) fun (v2, v4, v11, h0_0, h0_1, h0_2, h0_3, h0_4, h0_5, h0_6, h0_6_c0_0, h0_6_c0_1, h0_6_c0_2, h0_6_c0_3, h0_6_c1_0, h0_6_d0_0, h0_6_d0_1, h0_6_d0_2, h0_6_d0_3, h0_6_d1_0, h0_6_d2_0, h0_6_d2_1, h0_6_d2_2, h0_6_d2_3, h1_0) => P.wots_signer_along_l2 v2 v4 v11 h0_0 h0_1 h0_2 h0_3 h0_4 h0_5 h0_6 h0_6_c0_0 h0_6_c0_1 h0_6_c0_2 h0_6_c0_3 h0_6_c1_0 h0_6_d0_0 h0_6_d0_1 h0_6_d0_2 h0_6_d0_3 h0_6_d1_0 h0_6_d2_0 h0_6_d2_1 h0_6_d2_2 h0_6_d2_3 h1_0 (fun v2 v4 v11 h0_0 h0_1 h0_2 h0_3 h0_4 h0_5 h0_6 h0_6_c0_0 h0_6_c0_1 h0_6_c0_2 h0_6_c0_3 h0_6_c1_0 h0_6_d0_0 h0_6_d0_1 h0_6_d0_2 h0_6_d0_3 h0_6_d1_0 h0_6_d2_0 h0_6_d2_1 h0_6_d2_2 h0_6_d2_3 h1_0 => K (.exit 0) (S2 (v2, v4, v11, h0_0, h0_1, h0_2, h0_3, h0_4, h0_5, h0_6, h0_6_c0_0, h0_6_c0_1, h0_6_c0_2, h0_6_c0_3, h0_6_c1_0, h0_6_d0_0, h0_6_d0_1, h0_6_d0_2, h0_6_d0_3, h0_6_d1_0, h0_6_d2_0, h0_6_d2_1, h0_6_d2_2, h0_6_d2_3, h1_0)))
noncomputable def D : Ctx := ({ P := Tryd.prog, G := [(27, wots_Put.spec), (130, wots_shaken_f1.spec), (132, wots_hashed_f1.spec)], globs := [(1, [AVal.arr .u64 24 P.kcon]), (2, [AVal.arr .u32 64 P.roots256]), (3, [AVal.arr .u64 80 P.roots512]), (4, [AVal.arr .i64 24 P.kpla]), (5, [AVal.arr .i64 24 P.ktur])], hints := [(2, ⟨[2, 4, 5, 6, 11], [], [10], [(2, .sl (.ints .u8 []))], none, []⟩)], loops := [(2, L2)], inl := [] } : Ctx)
theorem round2 (K) (next) (x) : roundA D (loopAt Tryd.f69 2) K next (S2 x) = T2 x (fun x => next (S2 x)) (E2 K) := by kernel_rfl
theorem lq2 (st) (K) : L2 st K = vMap (V2 st) (fun x => lp T2 x (E2 K)) := by
 unfold L2
 cases V2 st with
 | none => rfl
 | some x => rw [P.wots_signer_along_l2_eq]; kernel_rfl
theorem loop2 : LoopOk D (loopAt Tryd.f69 2) := loopOk_lp S2 V2_ok (by kernel_rfl) lq2 round2
theorem body (a0_Slh_N : Int) (a0_Slh_H : Int) (a0_Slh_D : Int) (a0_Slh_A : Int) (a0_Slh_K : Int) (a0_Slh_Shake : Bool) (a0_sum : Nat) (a0_sum_c0_Kind : Int) (a0_sum_c0_Words : List Int) (a0_sum_c0_At : Int) (a0_sum_c0_Out : Bool) (a0_sum_c1 : Int) (a0_sum_d0_Kind : Int) (a0_sum_d0_Words : List Int) (a0_sum_d0_Tail : List Int) (a0_sum_d0_Size : Int) (a0_sum_d1 : Int) (a0_sum_d2_Kind : Int) (a0_sum_d2_Words : List Int) (a0_sum_d2_Tail : List Int) (a0_sum_d2_Size : Int) (a1 : List Int) (a2 : List Int) (a3 : Int) (a4 : Int) (K : AVal → Option R) : bodyA D Tryd.f69 [.sl (.ints .u8 [])] [.agg [.v (.int .i64 a0_Slh_N), .v (.int .i64 a0_Slh_H), .v (.int .i64 a0_Slh_D), .v (.int .i64 a0_Slh_A), .v (.int .i64 a0_Slh_K), .v (.bool a0_Slh_Shake), .alt a0_sum (.func 130) [] [.sta [.v (.int .i64 a0_sum_c0_Kind), .arr .u64 25 a0_sum_c0_Words, .v (.int .i64 a0_sum_c0_At), .v (.bool a0_sum_c0_Out)], .sta [.v (.int .i64 a0_sum_c1)]] (.func 132) [] [.sta [.v (.int .i64 a0_sum_d0_Kind), .arr .u64 8 a0_sum_d0_Words, .sl (.ints .u8 a0_sum_d0_Tail), .v (.int .u64 a0_sum_d0_Size)], .sta [.v (.int .i64 a0_sum_d1)], .sta [.v (.int .i64 a0_sum_d2_Kind), .arr .u64 8 a0_sum_d2_Words, .sl (.ints .u8 a0_sum_d2_Tail), .v (.int .u64 a0_sum_d2_Size)]]], .arr .u8 32 a1, .sl (.ints .u8 a2), .v (.int .u32 a3), .v (.int .u32 a4)] K = P.wots_signer_along a0_Slh_N a0_Slh_H a0_Slh_D a0_Slh_A a0_Slh_K a0_Slh_Shake a0_sum a0_sum_c0_Kind a0_sum_c0_Words a0_sum_c0_At a0_sum_c0_Out a0_sum_c1 a0_sum_d0_Kind a0_sum_d0_Words a0_sum_d0_Tail a0_sum_d0_Size a0_sum_d1 a0_sum_d2_Kind a0_sum_d2_Words a0_sum_d2_Tail a0_sum_d2_Size a1 a2 a3 a4 (fun r0 => K (.sl (.ints .u8 r0))) := by
 rw [P.wots_signer_along_eq]
 kernel_rfl
theorem loops : loopsOf (Tryd.f69.body.getD .skip) = [loopAt Tryd.f69 2] := by kernel_rfl
noncomputable def spec0 : Abs.Spec := fun args K => match args with
 | [.agg [.v (.int .i64 a0_Slh_N), .v (.int .i64 a0_Slh_H), .v (.int .i64 a0_Slh_D), .v (.int .i64 a0_Slh_A), .v (.int .i64 a0_Slh_K), .v (.bool a0_Slh_Shake), .alt a0_sum (.func 130) [] [.sta [.v (.int .i64 a0_sum_c0_Kind), .arr .u64 25 a0_sum_c0_Words, .v (.int .i64 a0_sum_c0_At), .v (.bool a0_sum_c0_Out)], .sta [.v (.int .i64 a0_sum_c1)]] (.func 132) [] [.sta [.v (.int .i64 a0_sum_d0_Kind), .arr .u64 8 a0_sum_d0_Words, .sl (.ints .u8 a0_sum_d0_Tail), .v (.int .u64 a0_sum_d0_Size)], .sta [.v (.int .i64 a0_sum_d1)], .sta [.v (.int .i64 a0_sum_d2_Kind), .arr .u64 8 a0_sum_d2_Words, .sl (.ints .u8 a0_sum_d2_Tail), .v (.int .u64 a0_sum_d2_Size)]]], .arr .u8 32 a1, .sl (.ints .u8 a2), .v (.int .u32 a3), .v (.int .u32 a4)] => P.wots_signer_along a0_Slh_N a0_Slh_H a0_Slh_D a0_Slh_A a0_Slh_K a0_Slh_Shake a0_sum a0_sum_c0_Kind a0_sum_c0_Words a0_sum_c0_At a0_sum_c0_Out a0_sum_c1 a0_sum_d0_Kind a0_sum_d0_Words a0_sum_d0_Tail a0_sum_d0_Size a0_sum_d1 a0_sum_d2_Kind a0_sum_d2_Words a0_sum_d2_Tail a0_sum_d2_Size a1 a2 a3 a4 (fun r0 => K (.sl (.ints .u8 r0)))
 | _ => none
noncomputable def spec : Abs.Spec := fun args K => spec0 (coerL [.agg [.any, .any, .any, .any, .any, .any, .alt (.func 130) [] [.sta [.v (.int .i64 0), .arr .u64 25 [], .v (.int .i64 0), .v (.bool false)], .sta [.v (.int .i64 0)]] (.func 132) [] [.sta [.v (.int .i64 0), .arr .u64 8 [], .sl (.ints .u8 []), .v (.int .u64 0)], .sta [.v (.int .i64 0)], .sta [.v (.int .i64 0), .arr .u64 8 [], .sl (.ints .u8 []), .v (.int .u64 0)]]], .any, .sl (.ints .u8 []), .any, .any] args) K
theorem ok0 : Proved Tryd.prog [(1, [AVal.arr .u64 24 P.kcon]), (2, [AVal.arr .u32 64 P.roots256]), (3, [AVal.arr .u64 80 P.roots512]), (4, [AVal.arr .i64 24 P.kpla]), (5, [AVal.arr .i64 24 P.ktur])] 69 spec0 := by
 refine proved_of (D := D) (fn := Tryd.f69) (c := Tryd.f69.body.getD .skip) [.sl (.ints .u8 [])] (by kernel_rfl) (globsPlain_of (by kernel_rfl)) (by kernel_rfl) (by kernel_rfl) (by kernel_rfl) ⟨wots_Put.ok, wots_shaken_f1.ok, wots_hashed_f1.ok, trivial⟩ trivial ?_ ?_
 · rw [loops]; exact ⟨loop2, trivial⟩
 · intro args K r h
   unfold spec0 at h
   split at h
   · rw [body]; exact h
   · cases h
theorem ok : Proved Tryd.prog [(1, [AVal.arr .u64 24 P.kcon]), (2, [AVal.arr .u32 64 P.roots256]), (3, [AVal.arr .u64 80 P.roots512]), (4, [AVal.arr .i64 24 P.kpla]), (5, [AVal.arr .i64 24 P.ktur])] 69 spec := proved_coer _ ok0
end wots_signer_along
end

section
open Go Go.Abs Go.Proofs
set_option maxRecDepth 100000
set_option maxHeartbeats 0
set_option linter.unusedVariables false
namespace wots_signer_count
noncomputable def D : Ctx := ({ P := Tryd.prog, G := [(130, wots_shaken_f1.spec), (132, wots_hashed_f1.spec)], globs := [(1, [AVal.arr .u64 24 P.kcon]), (2, [AVal.arr .u32 64 P.roots256]), (3, [AVal.arr .u64 80 P.roots512]), (4, [AVal.arr .i64 24 P.kpla]), (5, [AVal.arr .i64 24 P.ktur])], hints := [], loops := [], inl := [] } : Ctx)
theorem body (a0_Slh_N : Int) (a0_Slh_H : Int) (a0_Slh_D : Int) (a0_Slh_A : Int) (a0_Slh_K : Int) (a0_Slh_Shake : Bool) (a0_sum : Nat) (a0_sum_c0_Kind : Int) (a0_sum_c0_Words : List Int) (a0_sum_c0_At : Int) (a0_sum_c0_Out : Bool) (a0_sum_c1 : Int) (a0_sum_d0_Kind : Int) (a0_sum_d0_Words : List Int) (a0_sum_d0_Tail : List Int) (a0_sum_d0_Size : Int) (a0_sum_d1 : Int) (a0_sum_d2_Kind : Int) (a0_sum_d2_Words : List Int) (a0_sum_d2_Tail : List Int) (a0_sum_d2_Size : Int) (K : AVal → Option R) : bodyA D Tryd.f68 [.any] [.agg [.v (.int .i64 a0_Slh_N), .v (.int .i64 a0_Slh_H), .v (.int .i64 a0_Slh_D), .v (.int .i64 a0_Slh_A), .v (.int .i64 a0_Slh_K), .v (.bool a0_Slh_Shake), .alt a0_sum (.func 130) [] [.sta [.v (.int .i64 a0_sum_c0_Kind), .arr .u64 25 a0_sum_c0_Words, .v (.int .i64 a0_sum_c0_At), .v (.bool a0_sum_c0_Out)], .sta [.v (.int .i64 a0_sum_c1)]] (.func 132) [] [.sta [.v (.int .i64 a0_sum_d0_Kind), .arr .u64 8 a0_sum_d0_Words, .sl (.ints .u8 a0_sum_d0_Tail), .v (.int .u64 a0_sum_d0_Size)], .sta [.v (.int .i64 a0_sum_d1)], .sta [.v (.int .i64 a0_sum_d2_Kind), .arr .u64 8 a0_sum_d2_Words, .sl (.ints .u8 a0_sum_d2_Tail), .v (.int .u64 a0_sum_d2_Size)]]]] K = P.wots_signer_count a0_Slh_N a0_Slh_H a0_Slh_D a0_Slh_A a0_Slh_K a0_Slh_Shake a0_sum a0_sum_c0_Kind a0_sum_c0_Words a0_sum_c0_At a0_sum_c0_Out a0_sum_c1 a0_sum_d0_Kind a0_sum_d0_Words a0_sum_d0_Tail a0_sum_d0_Size a0_sum_d1 a0_sum_d2_Kind a0_sum_d2_Words a0_sum_d2_Tail a0_sum_d2_Size (fun r0 => K (.v (.int .i64 r0))) := by
 rw [P.wots_signer_count_eq]
 kernel_rfl
theorem loops : loopsOf (Tryd.f68.body.getD .skip) = [] := by kernel_rfl
noncomputable def spec0 : Abs.Spec := fun args K => match args with
 | [.agg [.v (.int .i64 a0_Slh_N), .v (.int .i64 a0_Slh_H), .v (.int .i64 a0_Slh_D), .v (.int .i64 a0_Slh_A), .v (.int .i64 a0_Slh_K), .v (.bool a0_Slh_Shake), .alt a0_sum (.func 130) [] [.sta [.v (.int .i64 a0_sum_c0_Kind), .arr .u64 25 a0_sum_c0_Words, .v (.int .i64 a0_sum_c0_At), .v (.bool a0_sum_c0_Out)], .sta [.v (.int .i64 a0_sum_c1)]] (.func 132) [] [.sta [.v (.int .i64 a0_sum_d0_Kind), .arr .u64 8 a0_sum_d0_Words, .sl (.ints .u8 a0_sum_d0_Tail), .v (.int .u64 a0_sum_d0_Size)], .sta [.v (.int .i64 a0_sum_d1)], .sta [.v (.int .i64 a0_sum_d2_Kind), .arr .u64 8 a0_sum_d2_Words, .sl (.ints .u8 a0_sum_d2_Tail), .v (.int .u64 a0_sum_d2_Size)]]]] => P.wots_signer_count a0_Slh_N a0_Slh_H a0_Slh_D a0_Slh_A a0_Slh_K a0_Slh_Shake a0_sum a0_sum_c0_Kind a0_sum_c0_Words a0_sum_c0_At a0_sum_c0_Out a0_sum_c1 a0_sum_d0_Kind a0_sum_d0_Words a0_sum_d0_Tail a0_sum_d0_Size a0_sum_d1 a0_sum_d2_Kind a0_sum_d2_Words a0_sum_d2_Tail a0_sum_d2_Size (fun r0 => K (.v (.int .i64 r0)))
 | _ => none
noncomputable def spec : Abs.Spec := fun args K => spec0 (coerL [.agg [.any, .any, .any, .any, .any, .any, .alt (.func 130) [] [.sta [.v (.int .i64 0), .arr .u64 25 [], .v (.int .i64 0), .v (.bool false)], .sta [.v (.int .i64 0)]] (.func 132) [] [.sta [.v (.int .i64 0), .arr .u64 8 [], .sl (.ints .u8 []), .v (.int .u64 0)], .sta [.v (.int .i64 0)], .sta [.v (.int .i64 0), .arr .u64 8 [], .sl (.ints .u8 []), .v (.int .u64 0)]]]] args) K
theorem ok0 : Proved Tryd.prog [(1, [AVal.arr .u64 24 P.kcon]), (2, [AVal.arr .u32 64 P.roots256]), (3, [AVal.arr .u64 80 P.roots512]), (4, [AVal.arr .i64 24 P.kpla]), (5, [AVal.arr .i64 24 P.ktur])] 68 spec0 := by
 refine proved_of (D := D) (fn := Tryd.f68) (c := Tryd.f68.body.getD .skip) [.any] (by kernel_rfl) (globsPlain_of (by kernel_rfl)) (by kernel_rfl) (by kernel_rfl) (by kernel_rfl) ⟨wots_shaken_f1.ok, wots_hashed_f1.ok, trivial⟩ trivial ?_ ?_
 · rw [loops]; exact trivial
 · intro args K r h
   unfold spec0 at h
   split at h
   · rw [body]; exact h
   · cases h
theorem ok : Proved Tryd.prog [(1, [AVal.arr .u64 24 P.kcon]), (2, [AVal.arr .u32 64 P.roots256]), (3, [AVal.arr .u64 80 P.roots512]), (4, [AVal.arr .i64 24 P.kpla]), (5, [AVal.arr .i64 24 P.ktur])] 68 spec := proved_coer _ ok0
end wots_signer_count
end
