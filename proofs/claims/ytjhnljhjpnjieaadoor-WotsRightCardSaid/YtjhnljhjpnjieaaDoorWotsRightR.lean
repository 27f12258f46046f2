/-
  WotsRight, part R: an interpreter of my own over abstract values, the pure functions, the walks and the plain law.
-/

import Derived.Test.YtjhnljhjpnjieaaDoorWotsRightH
import Derived.Test.YtjhnljhjpnjieaaDoorWotsRightF
import Derived.Test.YtjhnljhjpnjieaaDoorProg
import Derived.Test.YtjhnljhjpnjieaaDoorWotsRightG
import Derived.Test.YtjhnljhjpnjieaaDoorWotsRightI
import Derived.Test.YtjhnljhjpnjieaaDoorWotsRightK
import Derived.Test.YtjhnljhjpnjieaaDoorWotsRightP
import Derived.Test.YtjhnljhjpnjieaaDoorWotsRightQ
import Derived.KernelRfl

section
open Go Go.Abs Go.Proofs
set_option maxRecDepth 100000
set_option maxHeartbeats 0
set_option linter.unusedVariables false
namespace wots_Sign
abbrev X6 := (List Int) × Int × Int × (List Int) × (List Int) × Int × Int × Int × Int × Int × Bool × Nat × Int × (List Int) × Int × Bool × Int × Int × (List Int) × (List Int) × Int × Int × Int × (List Int) × (List Int) × Int × (List Int)
def S6 : X6 → ASt := fun (v2, v42, v43, h40, h1_0, h2_0, h2_1, h2_2, h2_3, h2_4, h2_5, h2_6, h2_6_c0_0, h2_6_c0_1, h2_6_c0_2, h2_6_c0_3, h2_6_c1_0, h2_6_d0_0, h2_6_d0_1, h2_6_d0_2, h2_6_d0_3, h2_6_d1_0, h2_6_d2_0, h2_6_d2_1, h2_6_d2_2, h2_6_d2_3, h3) => ⟨[(13, .own 40), (2, .sl (.ints .u8 v2)), (9, .ptr 1 0), (11, .ptr 2 0), (41, .own 3), (42, .v (.int .i64 v42)), (43, .v (.int .i64 v43))], [(40, some ⟨.row 5 (.ints .u8 h40), false⟩), (1, some ⟨.box 43 [.arr .u8 32 h1_0], false⟩), (2, some ⟨.box 84 [.v (.int .i64 h2_0), .v (.int .i64 h2_1), .v (.int .i64 h2_2), .v (.int .i64 h2_3), .v (.int .i64 h2_4), .v (.bool h2_5), .alt h2_6 (.func 130) [] [.sta [.v (.int .i64 h2_6_c0_0), .arr .u64 25 h2_6_c0_1, .v (.int .i64 h2_6_c0_2), .v (.bool h2_6_c0_3)], .sta [.v (.int .i64 h2_6_c1_0)]] (.func 132) [] [.sta [.v (.int .i64 h2_6_d0_0), .arr .u64 8 h2_6_d0_1, .sl (.ints .u8 h2_6_d0_2), .v (.int .u64 h2_6_d0_3)], .sta [.v (.int .i64 h2_6_d1_0)], .sta [.v (.int .i64 h2_6_d2_0), .arr .u64 8 h2_6_d2_1, .sl (.ints .u8 h2_6_d2_2), .v (.int .u64 h2_6_d2_3)]]], false⟩), (3, some ⟨.row 77 (.ints .u32 h3), false⟩)], 41, 64⟩
def V6 : ASt → Option X6
 | ⟨[(13, .own 40), (2, .sl (.ints .u8 v2)), (9, .ptr 1 0), (11, .ptr 2 0), (41, .own 3), (42, .v (.int .i64 v42)), (43, .v (.int .i64 v43))], [(40, some ⟨.row 5 (.ints .u8 h40), false⟩), (1, some ⟨.box 43 [.arr .u8 32 h1_0], false⟩), (2, some ⟨.box 84 [.v (.int .i64 h2_0), .v (.int .i64 h2_1), .v (.int .i64 h2_2), .v (.int .i64 h2_3), .v (.int .i64 h2_4), .v (.bool h2_5), .alt h2_6 (.func 130) [] [.sta [.v (.int .i64 h2_6_c0_0), .arr .u64 25 h2_6_c0_1, .v (.int .i64 h2_6_c0_2), .v (.bool h2_6_c0_3)], .sta [.v (.int .i64 h2_6_c1_0)]] (.func 132) [] [.sta [.v (.int .i64 h2_6_d0_0), .arr .u64 8 h2_6_d0_1, .sl (.ints .u8 h2_6_d0_2), .v (.int .u64 h2_6_d0_3)], .sta [.v (.int .i64 h2_6_d1_0)], .sta [.v (.int .i64 h2_6_d2_0), .arr .u64 8 h2_6_d2_1, .sl (.ints .u8 h2_6_d2_2), .v (.int .u64 h2_6_d2_3)]]], false⟩), (3, some ⟨.row 77 (.ints .u32 h3), false⟩)], 41, 64⟩ => some (v2, v42, v43, h40, h1_0, h2_0, h2_1, h2_2, h2_3, h2_4, h2_5, h2_6, h2_6_c0_0, h2_6_c0_1, h2_6_c0_2, h2_6_c0_3, h2_6_c1_0, h2_6_d0_0, h2_6_d0_1, h2_6_d0_2, h2_6_d0_3, h2_6_d1_0, h2_6_d2_0, h2_6_d2_1, h2_6_d2_2, h2_6_d2_3, h3)
 | _ => none
theorem V6_ok (st) (x) (h : V6 st = some x) : st = S6 x := by
 unfold V6 at h
 split at h
 · cases h; rfl
 · cases h
abbrev Y6 := X6
noncomputable def T6 : X6 → (X6 → Option R) → (Y6 → Option R) → Option R := fun (v2, v42, v43, h40, h1_0, h2_0, h2_1, h2_2, h2_3, h2_4, h2_5, h2_6, h2_6_c0_0, h2_6_c0_1, h2_6_c0_2, h2_6_c0_3, h2_6_c1_0, h2_6_d0_0, h2_6_d0_1, h2_6_d0_2, h2_6_d0_3, h2_6_d1_0, h2_6_d2_0, h2_6_d2_1, h2_6_d2_2, h2_6_d2_3, h3) next ex => P.wots_Sign_r6 v2 v42 v43 h40 h1_0 h2_0 h2_1 h2_2 h2_3 h2_4 h2_5 h2_6 h2_6_c0_0 h2_6_c0_1 h2_6_c0_2 h2_6_c0_3 h2_6_c1_0 h2_6_d0_0 h2_6_d0_1 h2_6_d0_2 h2_6_d0_3 h2_6_d1_0 h2_6_d2_0 h2_6_d2_1 h2_6_d2_2 h2_6_d2_3 h3 (fun v2 v42 v43 h40 h1_0 h2_0 h2_1 h2_2 h2_3 h2_4 h2_5 h2_6 h2_6_c0_0 h2_6_c0_1 h2_6_c0_2 h2_6_c0_3 h2_6_c1_0 h2_6_d0_0 h2_6_d0_1 h2_6_d0_2 h2_6_d0_3 h2_6_d1_0 h2_6_d2_0 h2_6_d2_1 h2_6_d2_2 h2_6_d2_3 h3 => next (v2, v42, v43, h40, h1_0, h2_0, h2_1, h2_2, h2_3, h2_4, h2_5, h2_6, h2_6_c0_0, h2_6_c0_1, h2_6_c0_2, h2_6_c0_3, h2_6_c1_0, h2_6_d0_0, h2_6_d0_1, h2_6_d0_2, h2_6_d0_3, h2_6_d1_0, h2_6_d2_0, h2_6_d2_1, h2_6_d2_2, h2_6_d2_3, h3)) (fun v2 v42 v43 h40 h1_0 h2_0 h2_1 h2_2 h2_3 h2_4 h2_5 h2_6 h2_6_c0_0 h2_6_c0_1 h2_6_c0_2 h2_6_c0_3 h2_6_c1_0 h2_6_d0_0 h2_6_d0_1 h2_6_d0_2 h2_6_d0_3 h2_6_d1_0 h2_6_d2_0 h2_6_d2_1 h2_6_d2_2 h2_6_d2_3 h3 => ex (v2, v42, v43, h40, h1_0, h2_0, h2_1, h2_2, h2_3, h2_4, h2_5, h2_6, h2_6_c0_0, h2_6_c0_1, h2_6_c0_2, h2_6_c0_3, h2_6_c1_0, h2_6_d0_0, h2_6_d0_1, h2_6_d0_2, h2_6_d0_3, h2_6_d1_0, h2_6_d2_0, h2_6_d2_1, h2_6_d2_2, h2_6_d2_3, h3))
def E6 (K : AExit → ASt → Option R) : Y6 → Option R := (fun x => K (.exit 0) (S6 x))
noncomputable def L6 : LSpec := fun st K => vMap (V6 st) fun (v2, v42, v43, h40, h1_0, h2_0, h2_1, h2_2, h2_3, h2_4, h2_5, h2_6, h2_6_c0_0, h2_6_c0_1, h2_6_c0_2, h2_6_c0_3, h2_6_c1_0, h2_6_d0_0, h2_6_d0_1, h2_6_d0_2, h2_6_d0_3, h2_6_d1_0, h2_6_d2_0, h2_6_d2_1, h2_6_d2_2, h2_6_d2_3, h3) => P.wots_Sign_l6 v2 v42 v43 h40 h1_0 h2_0 h2_1 h2_2 h2_3 h2_4 h2_5 h2_6 h2_6_c0_0 h2_6_c0_1 h2_6_c0_2 h2_6_c0_3 h2_6_c1_0 h2_6_d0_0 h2_6_d0_1 h2_6_d0_2 h2_6_d0_3 h2_6_d1_0 h2_6_d2_0 h2_6_d2_1 h2_6_d2_2 h2_6_d2_3 h3 (fun v2 v42 v43 h40 h1_0 h2_0 h2_1 h2_2 h2_3 h2_4 h2_5 h2_6 h2_6_c0_0 h2_6_c0_1 h2_6_c0_2 h2_6_c0_3 h2_6_c1_0 h2_6_d0_0 h2_6_d0_1 h2_6_d0_2 h2_6_d0_3 h2_6_d1_0 h2_6_d2_0 h2_6_d2_1 h2_6_d2_2 h2_6_d2_3 h3 => K (.exit 0) (S6 (v2, v42, v43, h40, h1_0, h2_0, h2_1, h2_2, h2_3, h2_4, h2_5, h2_6, h2_6_c0_0, h2_6_c0_1, h2_6_c0_2, h2_6_c0_3, h2_6_c1_0, h2_6_d0_0, h2_6_d0_1, h2_6_d0_2, h2_6_d0_3, h2_6_d1_0, h2_6_d2_0, h2_6_d2_1, h2_6_d2_2, h2_6_d2_3, h3)))
noncomputable def D : Ctx := ({ P := Tryd.prog, G := [(27, wots_Put.spec), (30, wots_Digits.spec), (66, wots_began.spec), (69, wots_signer_along.spec), (70, wots_signer_first.spec)], globs := [(1, [AVal.arr .u64 24 P.kcon]), (2, [AVal.arr .u32 64 P.roots256]), (3, [AVal.arr .u64 80 P.roots512]), (4, [AVal.arr .i64 24 P.kpla]), (5, [AVal.arr .i64 24 P.ktur])], hints := [(6, ⟨[2, 9, 11, 41, 42, 43], [(13, 5, .ints .u8 [])], [10], [], some (40, [1, 2, 3]), []⟩)], loops := [(6, L6)], inl := [] } : Ctx)
theorem round6 (K) (next) (x) : roundA D (loopAt Tryd.f37 6) K next (S6 x) = T6 x (fun x => next (S6 x)) (E6 K) := by kernel_rfl
theorem lq6 (st) (K) : L6 st K = vMap (V6 st) (fun x => lp T6 x (E6 K)) := by
 unfold L6
 cases V6 st with
 | none => rfl
 | some x => rw [P.wots_Sign_l6_eq]; kernel_rfl
theorem loop6 : LoopOk D (loopAt Tryd.f37 6) := loopOk_lp S6 V6_ok (by kernel_rfl) lq6 round6
theorem body (a0_N : Int) (a0_H : Int) (a0_D : Int) (a0_A : Int) (a0_K : Int) (a0_Shake : Bool) (a1 : List Int) (a2 : List Int) (a3 : List Int) (a4 : List Int) (K : AVal → Option R) : bodyA D Tryd.f37 [.fr 5 (.ints .u8 [])] [.agg [.v (.int .i64 a0_N), .v (.int .i64 a0_H), .v (.int .i64 a0_D), .v (.int .i64 a0_A), .v (.int .i64 a0_K), .v (.bool a0_Shake)], .sl (.ints .u8 a1), .sl (.ints .u8 a2), .sl (.ints .u8 a3), .arr .u8 32 a4] K = P.wots_Sign a0_N a0_H a0_D a0_A a0_K a0_Shake a1 a2 a3 a4 (fun r0 => K (.fr 5 (.ints .u8 r0))) := by
 rw [P.wots_Sign_eq]
 kernel_rfl
theorem loops : loopsOf (Tryd.f37.body.getD .skip) = [loopAt Tryd.f37 6] := by kernel_rfl
noncomputable def spec0 : Abs.Spec := fun args K => match args with
 | [.agg [.v (.int .i64 a0_N), .v (.int .i64 a0_H), .v (.int .i64 a0_D), .v (.int .i64 a0_A), .v (.int .i64 a0_K), .v (.bool a0_Shake)], .sl (.ints .u8 a1), .sl (.ints .u8 a2), .sl (.ints .u8 a3), .arr .u8 32 a4] => P.wots_Sign a0_N a0_H a0_D a0_A a0_K a0_Shake a1 a2 a3 a4 (fun r0 => K (.fr 5 (.ints .u8 r0)))
 | _ => none
noncomputable def spec : Abs.Spec := fun args K => spec0 (coerL [.any, .sl (.ints .u8 []), .sl (.ints .u8 []), .sl (.ints .u8 []), .any] args) K
theorem ok0 : Proved Tryd.prog [(1, [AVal.arr .u64 24 P.kcon]), (2, [AVal.arr .u32 64 P.roots256]), (3, [AVal.arr .u64 80 P.roots512]), (4, [AVal.arr .i64 24 P.kpla]), (5, [AVal.arr .i64 24 P.ktur])] 37 spec0 := by
 refine proved_of (D := D) (fn := Tryd.f37) (c := Tryd.f37.body.getD .skip) [.fr 5 (.ints .u8 [])] (by kernel_rfl) (globsPlain_of (by kernel_rfl)) (by kernel_rfl) (by kernel_rfl) (by kernel_rfl) ⟨wots_Put.ok, wots_Digits.ok, wots_began.ok, wots_signer_along.ok, wots_signer_first.ok, trivial⟩ trivial ?_ ?_
 · rw [loops]; exact ⟨loop6, trivial⟩
 · intro args K r h
   unfold spec0 at h
   split at h
   · rw [body]; exact h
   · cases h
theorem ok : Proved Tryd.prog [(1, [AVal.arr .u64 24 P.kcon]), (2, [AVal.arr .u32 64 P.roots256]), (3, [AVal.arr .u64 80 P.roots512]), (4, [AVal.arr .i64 24 P.kpla]), (5, [AVal.arr .i64 24 P.ktur])] 37 spec := proved_coer _ ok0
end wots_Sign
end

section
open Go Go.Abs Go.Proofs
set_option maxRecDepth 100000
set_option maxHeartbeats 0
set_option linter.unusedVariables false
namespace L17_WotsRight
noncomputable def D : Ctx := ({ P := Tryd.prog, G := [(18, R01_Same.spec), (24, L17_awake.spec), (36, wots_Public.spec), (37, wots_Sign.spec), (38, wots_Candidate.spec)], globs := [(1, [AVal.arr .u64 24 P.kcon]), (2, [AVal.arr .u32 64 P.roots256]), (3, [AVal.arr .u64 80 P.roots512]), (4, [AVal.arr .i64 24 P.kpla]), (5, [AVal.arr .i64 24 P.ktur])], hints := [], loops := [], inl := [] } : Ctx)
theorem body (a0 : Int) (a1 : Bool) (a2 : List Int) (a3 : List Int) (a4 : List Int) (a5 : List Int) (K : AVal → Option R) : bodyA D Tryd.f7 [.any] [.v (.int .u8 a0), .v (.bool a1), .arr .u8 32 a2, .arr .u8 32 a3, .arr .u8 32 a4, .arr .u8 32 a5] K = P.L17_WotsRight a0 a1 a2 a3 a4 a5 (fun r0 => K (.v (.bool r0))) := by
 rw [P.L17_WotsRight_eq]
 kernel_rfl
theorem loops : loopsOf (Tryd.f7.body.getD .skip) = [] := by kernel_rfl
noncomputable def spec0 : Abs.Spec := fun args K => match args with
 | [.v (.int .u8 a0), .v (.bool a1), .arr .u8 32 a2, .arr .u8 32 a3, .arr .u8 32 a4, .arr .u8 32 a5] => P.L17_WotsRight a0 a1 a2 a3 a4 a5 (fun r0 => K (.v (.bool r0)))
 | _ => none
noncomputable def spec : Abs.Spec := spec0
theorem ok0 : Proved Tryd.prog [(1, [AVal.arr .u64 24 P.kcon]), (2, [AVal.arr .u32 64 P.roots256]), (3, [AVal.arr .u64 80 P.roots512]), (4, [AVal.arr .i64 24 P.kpla]), (5, [AVal.arr .i64 24 P.ktur])] 7 spec0 := by
 refine proved_of (D := D) (fn := Tryd.f7) (c := Tryd.f7.body.getD .skip) [.any] (by kernel_rfl) (globsPlain_of (by kernel_rfl)) (by kernel_rfl) (by kernel_rfl) (by kernel_rfl) ⟨R01_Same.ok, L17_awake.ok, wots_Public.ok, wots_Sign.ok, wots_Candidate.ok, trivial⟩ trivial ?_ ?_
 · rw [loops]; exact trivial
 · intro args K r h
   unfold spec0 at h
   split at h
   · rw [body]; exact h
   · cases h
theorem ok : Proved Tryd.prog [(1, [AVal.arr .u64 24 P.kcon]), (2, [AVal.arr .u32 64 P.roots256]), (3, [AVal.arr .u64 80 P.roots512]), (4, [AVal.arr .i64 24 P.kpla]), (5, [AVal.arr .i64 24 P.ktur])] 7 spec := ok0
end L17_WotsRight
end
