/-
  WotsRight, part Q: an interpreter of my own over abstract values, the pure functions, the walks and the plain law.
-/

import Derived.Test.YtjhnljhjpnjieaaDoorWotsRightH
import Derived.Test.YtjhnljhjpnjieaaDoorWotsRightF
import Derived.Test.YtjhnljhjpnjieaaDoorProg
import Derived.Test.YtjhnljhjpnjieaaDoorWotsRightG
import Derived.Test.YtjhnljhjpnjieaaDoorWotsRightK
import Derived.KernelRfl
import Derived.Test.YtjhnljhjpnjieaaDoorWotsRightN
import Derived.Test.YtjhnljhjpnjieaaDoorWotsRightP
import Derived.Test.YtjhnljhjpnjieaaDoorWotsRightI

section
open Go Go.Abs Go.Proofs
set_option maxRecDepth 100000
set_option maxHeartbeats 0
set_option linter.unusedVariables false
namespace wots_number
noncomputable def D : Ctx := ({ P := Tryd.prog, G := [(134, bits_Num.spec)], globs := [(1, [AVal.arr .u64 24 P.kcon]), (2, [AVal.arr .u32 64 P.roots256]), (3, [AVal.arr .u64 80 P.roots512]), (4, [AVal.arr .i64 24 P.kpla]), (5, [AVal.arr .i64 24 P.ktur])], hints := [], loops := [], inl := [] } : Ctx)
theorem body (a0 : List Int) (a1 : Int) (K : AVal → Option R) : bodyA D Tryd.f110 [.any] [.arr .u8 32 a0, .v (.int .i64 a1)] K = P.wots_number a0 a1 (fun r0 => K (.v (.int .u64 r0))) := by
 rw [P.wots_number_eq]
 kernel_rfl
theorem loops : loopsOf (Tryd.f110.body.getD .skip) = [] := by kernel_rfl
noncomputable def spec0 : Abs.Spec := fun args K => match args with
 | [.arr .u8 32 a0, .v (.int .i64 a1)] => P.wots_number a0 a1 (fun r0 => K (.v (.int .u64 r0)))
 | _ => none
noncomputable def spec : Abs.Spec := spec0
theorem ok0 : Proved Tryd.prog [(1, [AVal.arr .u64 24 P.kcon]), (2, [AVal.arr .u32 64 P.roots256]), (3, [AVal.arr .u64 80 P.roots512]), (4, [AVal.arr .i64 24 P.kpla]), (5, [AVal.arr .i64 24 P.ktur])] 110 spec0 := by
 refine proved_of (D := D) (fn := Tryd.f110) (c := Tryd.f110.body.getD .skip) [.any] (by kernel_rfl) (globsPlain_of (by kernel_rfl)) (by kernel_rfl) (by kernel_rfl) (by kernel_rfl) ⟨bits_Num.ok, trivial⟩ trivial ?_ ?_
 · rw [loops]; exact trivial
 · intro args K r h
   unfold spec0 at h
   split at h
   · rw [body]; exact h
   · cases h
theorem ok : Proved Tryd.prog [(1, [AVal.arr .u64 24 P.kcon]), (2, [AVal.arr .u32 64 P.roots256]), (3, [AVal.arr .u64 80 P.roots512]), (4, [AVal.arr .i64 24 P.kpla]), (5, [AVal.arr .i64 24 P.ktur])] 110 spec := ok0
end wots_number
end

section
open Go Go.Abs Go.Proofs
set_option maxRecDepth 100000
set_option maxHeartbeats 0
set_option linter.unusedVariables false
namespace wots_signer_key
noncomputable def D : Ctx := ({ P := Tryd.prog, G := [(27, wots_Put.spec), (110, wots_number.spec), (130, wots_shaken_f1.spec), (132, wots_hashed_f1.spec)], globs := [(1, [AVal.arr .u64 24 P.kcon]), (2, [AVal.arr .u32 64 P.roots256]), (3, [AVal.arr .u64 80 P.roots512]), (4, [AVal.arr .i64 24 P.kpla]), (5, [AVal.arr .i64 24 P.ktur])], hints := [], loops := [], inl := [] } : Ctx)
theorem body (a0_Slh_N : Int) (a0_Slh_H : Int) (a0_Slh_D : Int) (a0_Slh_A : Int) (a0_Slh_K : Int) (a0_Slh_Shake : Bool) (a0_sum : Nat) (a0_sum_c0_Kind : Int) (a0_sum_c0_Words : List Int) (a0_sum_c0_At : Int) (a0_sum_c0_Out : Bool) (a0_sum_c1 : Int) (a0_sum_d0_Kind : Int) (a0_sum_d0_Words : List Int) (a0_sum_d0_Tail : List Int) (a0_sum_d0_Size : Int) (a0_sum_d1 : Int) (a0_sum_d2_Kind : Int) (a0_sum_d2_Words : List Int) (a0_sum_d2_Tail : List Int) (a0_sum_d2_Size : Int) (a1 : List Int) (a2 : List Int) (K : AVal → Option R) : bodyA D Tryd.f71 [.sl (.ints .u8 [])] [.agg [.v (.int .i64 a0_Slh_N), .v (.int .i64 a0_Slh_H), .v (.int .i64 a0_Slh_D), .v (.int .i64 a0_Slh_A), .v (.int .i64 a0_Slh_K), .v (.bool a0_Slh_Shake), .alt a0_sum (.func 130) [] [.sta [.v (.int .i64 a0_sum_c0_Kind), .arr .u64 25 a0_sum_c0_Words, .v (.int .i64 a0_sum_c0_At), .v (.bool a0_sum_c0_Out)], .sta [.v (.int .i64 a0_sum_c1)]] (.func 132) [] [.sta [.v (.int .i64 a0_sum_d0_Kind), .arr .u64 8 a0_sum_d0_Words, .sl (.ints .u8 a0_sum_d0_Tail), .v (.int .u64 a0_sum_d0_Size)], .sta [.v (.int .i64 a0_sum_d1)], .sta [.v (.int .i64 a0_sum_d2_Kind), .arr .u64 8 a0_sum_d2_Words, .sl (.ints .u8 a0_sum_d2_Tail), .v (.int .u64 a0_sum_d2_Size)]]], .sl (.ints .u8 a1), .arr .u8 32 a2] K = P.wots_signer_key a0_Slh_N a0_Slh_H a0_Slh_D a0_Slh_A a0_Slh_K a0_Slh_Shake a0_sum a0_sum_c0_Kind a0_sum_c0_Words a0_sum_c0_At a0_sum_c0_Out a0_sum_c1 a0_sum_d0_Kind a0_sum_d0_Words a0_sum_d0_Tail a0_sum_d0_Size a0_sum_d1 a0_sum_d2_Kind a0_sum_d2_Words a0_sum_d2_Tail a0_sum_d2_Size a1 a2 (fun r0 => K (.sl (.ints .u8 r0))) := by
 rw [P.wots_signer_key_eq]
 kernel_rfl
theorem loops : loopsOf (Tryd.f71.body.getD .skip) = [] := by kernel_rfl
noncomputable def spec0 : Abs.Spec := fun args K => match args with
 | [.agg [.v (.int .i64 a0_Slh_N), .v (.int .i64 a0_Slh_H), .v (.int .i64 a0_Slh_D), .v (.int .i64 a0_Slh_A), .v (.int .i64 a0_Slh_K), .v (.bool a0_Slh_Shake), .alt a0_sum (.func 130) [] [.sta [.v (.int .i64 a0_sum_c0_Kind), .arr .u64 25 a0_sum_c0_Words, .v (.int .i64 a0_sum_c0_At), .v (.bool a0_sum_c0_Out)], .sta [.v (.int .i64 a0_sum_c1)]] (.func 132) [] [.sta [.v (.int .i64 a0_sum_d0_Kind), .arr .u64 8 a0_sum_d0_Words, .sl (.ints .u8 a0_sum_d0_Tail), .v (.int .u64 a0_sum_d0_Size)], .sta [.v (.int .i64 a0_sum_d1)], .sta [.v (.int .i64 a0_sum_d2_Kind), .arr .u64 8 a0_sum_d2_Words, .sl (.ints .u8 a0_sum_d2_Tail), .v (.int .u64 a0_sum_d2_Size)]]], .sl (.ints .u8 a1), .arr .u8 32 a2] => P.wots_signer_key a0_Slh_N a0_Slh_H a0_Slh_D a0_Slh_A a0_Slh_K a0_Slh_Shake a0_sum a0_sum_c0_Kind a0_sum_c0_Words a0_sum_c0_At a0_sum_c0_Out a0_sum_c1 a0_sum_d0_Kind a0_sum_d0_Words a0_sum_d0_Tail a0_sum_d0_Size a0_sum_d1 a0_sum_d2_Kind a0_sum_d2_Words a0_sum_d2_Tail a0_sum_d2_Size a1 a2 (fun r0 => K (.sl (.ints .u8 r0)))
 | _ => none
noncomputable def spec : Abs.Spec := fun args K => spec0 (coerL [.agg [.any, .any, .any, .any, .any, .any, .alt (.func 130) [] [.sta [.v (.int .i64 0), .arr .u64 25 [], .v (.int .i64 0), .v (.bool false)], .sta [.v (.int .i64 0)]] (.func 132) [] [.sta [.v (.int .i64 0), .arr .u64 8 [], .sl (.ints .u8 []), .v (.int .u64 0)], .sta [.v (.int .i64 0)], .sta [.v (.int .i64 0), .arr .u64 8 [], .sl (.ints .u8 []), .v (.int .u64 0)]]], .sl (.ints .u8 []), .any] args) K
theorem ok0 : Proved Tryd.prog [(1, [AVal.arr .u64 24 P.kcon]), (2, [AVal.arr .u32 64 P.roots256]), (3, [AVal.arr .u64 80 P.roots512]), (4, [AVal.arr .i64 24 P.kpla]), (5, [AVal.arr .i64 24 P.ktur])] 71 spec0 := by
 refine proved_of (D := D) (fn := Tryd.f71) (c := Tryd.f71.body.getD .skip) [.sl (.ints .u8 [])] (by kernel_rfl) (globsPlain_of (by kernel_rfl)) (by kernel_rfl) (by kernel_rfl) (by kernel_rfl) ⟨wots_Put.ok, wots_number.ok, wots_shaken_f1.ok, wots_hashed_f1.ok, trivial⟩ trivial ?_ ?_
 · rw [loops]; exact trivial
 · intro args K r h
   unfold spec0 at h
   split at h
   · rw [body]; exact h
   · cases h
theorem ok : Proved Tryd.prog [(1, [AVal.arr .u64 24 P.kcon]), (2, [AVal.arr .u32 64 P.roots256]), (3, [AVal.arr .u64 80 P.roots512]), (4, [AVal.arr .i64 24 P.kpla]), (5, [AVal.arr .i64 24 P.ktur])] 71 spec := proved_coer _ ok0
end wots_signer_key
end

section
open Go Go.Abs Go.Proofs
set_option maxRecDepth 100000
set_option maxHeartbeats 0
set_option linter.unusedVariables false
namespace wots_Candidate
abbrev X6 := (List Int) × Int × Int × (List Int) × Int × Int × Int × Int × Int × Bool × (List Int) × Int × Int × Int × Int × Int × Bool × Nat × Int × (List Int) × Int × Bool × Int × Int × (List Int) × (List Int) × Int × Int × Int × (List Int) × (List Int) × Int × (List Int)
def S6 : X6 → ASt := fun (v1, v45, v46, h4, h0_0, h0_1, h0_2, h0_3, h0_4, h0_5, h1_0, h2_0, h2_1, h2_2, h2_3, h2_4, h2_5, h2_6, h2_6_c0_0, h2_6_c0_1, h2_6_c0_2, h2_6_c0_3, h2_6_c1_0, h2_6_d0_0, h2_6_d0_1, h2_6_d0_2, h2_6_d0_3, h2_6_d1_0, h2_6_d2_0, h2_6_d2_1, h2_6_d2_2, h2_6_d2_3, h3) => ⟨[(13, .own 4), (1, .sl (.ints .u8 v1)), (5, .ptr 0 0), (9, .ptr 1 0), (11, .ptr 2 0), (44, .own 3), (45, .v (.int .i64 v45)), (46, .v (.int .i64 v46))], [(4, some ⟨.row 5 (.ints .u8 h4), false⟩), (0, some ⟨.box 41 [.v (.int .i64 h0_0), .v (.int .i64 h0_1), .v (.int .i64 h0_2), .v (.int .i64 h0_3), .v (.int .i64 h0_4), .v (.bool h0_5)], false⟩), (1, some ⟨.box 43 [.arr .u8 32 h1_0], false⟩), (2, some ⟨.box 84 [.v (.int .i64 h2_0), .v (.int .i64 h2_1), .v (.int .i64 h2_2), .v (.int .i64 h2_3), .v (.int .i64 h2_4), .v (.bool h2_5), .alt h2_6 (.func 130) [] [.sta [.v (.int .i64 h2_6_c0_0), .arr .u64 25 h2_6_c0_1, .v (.int .i64 h2_6_c0_2), .v (.bool h2_6_c0_3)], .sta [.v (.int .i64 h2_6_c1_0)]] (.func 132) [] [.sta [.v (.int .i64 h2_6_d0_0), .arr .u64 8 h2_6_d0_1, .sl (.ints .u8 h2_6_d0_2), .v (.int .u64 h2_6_d0_3)], .sta [.v (.int .i64 h2_6_d1_0)], .sta [.v (.int .i64 h2_6_d2_0), .arr .u64 8 h2_6_d2_1, .sl (.ints .u8 h2_6_d2_2), .v (.int .u64 h2_6_d2_3)]]], false⟩), (3, some ⟨.row 77 (.ints .u32 h3), false⟩)], 5, 73⟩
def V6 : ASt → Option X6
 | ⟨[(13, .own 4), (1, .sl (.ints .u8 v1)), (5, .ptr 0 0), (9, .ptr 1 0), (11, .ptr 2 0), (44, .own 3), (45, .v (.int .i64 v45)), (46, .v (.int .i64 v46))], [(4, some ⟨.row 5 (.ints .u8 h4), false⟩), (0, some ⟨.box 41 [.v (.int .i64 h0_0), .v (.int .i64 h0_1), .v (.int .i64 h0_2), .v (.int .i64 h0_3), .v (.int .i64 h0_4), .v (.bool h0_5)], false⟩), (1, some ⟨.box 43 [.arr .u8 32 h1_0], false⟩), (2, some ⟨.box 84 [.v (.int .i64 h2_0), .v (.int .i64 h2_1), .v (.int .i64 h2_2), .v (.int .i64 h2_3), .v (.int .i64 h2_4), .v (.bool h2_5), .alt h2_6 (.func 130) [] [.sta [.v (.int .i64 h2_6_c0_0), .arr .u64 25 h2_6_c0_1, .v (.int .i64 h2_6_c0_2), .v (.bool h2_6_c0_3)], .sta [.v (.int .i64 h2_6_c1_0)]] (.func 132) [] [.sta [.v (.int .i64 h2_6_d0_0), .arr .u64 8 h2_6_d0_1, .sl (.ints .u8 h2_6_d0_2), .v (.int .u64 h2_6_d0_3)], .sta [.v (.int .i64 h2_6_d1_0)], .sta [.v (.int .i64 h2_6_d2_0), .arr .u64 8 h2_6_d2_1, .sl (.ints .u8 h2_6_d2_2), .v (.int .u64 h2_6_d2_3)]]], false⟩), (3, some ⟨.row 77 (.ints .u32 h3), false⟩)], 5, 73⟩ => some (v1, v45, v46, h4, h0_0, h0_1, h0_2, h0_3, h0_4, h0_5, h1_0, h2_0, h2_1, h2_2, h2_3, h2_4, h2_5, h2_6, h2_6_c0_0, h2_6_c0_1, h2_6_c0_2, h2_6_c0_3, h2_6_c1_0, h2_6_d0_0, h2_6_d0_1, h2_6_d0_2, h2_6_d0_3, h2_6_d1_0, h2_6_d2_0, h2_6_d2_1, h2_6_d2_2, h2_6_d2_3, h3)
 | _ => none
theorem V6_ok (st) (x) (h : V6 st = some x) : st = S6 x := by
 unfold V6 at h
 split at h
 · cases h; rfl
 · cases h
abbrev Y6 := X6
noncomputable def T6 : X6 → (X6 → Option R) → (Y6 → Option R) → Option R := fun (v1, v45, v46, h4, h0_0, h0_1, h0_2, h0_3, h0_4, h0_5, h1_0, h2_0, h2_1, h2_2, h2_3, h2_4, h2_5, h2_6, h2_6_c0_0, h2_6_c0_1, h2_6_c0_2, h2_6_c0_3, h2_6_c1_0, h2_6_d0_0, h2_6_d0_1, h2_6_d0_2, h2_6_d0_3, h2_6_d1_0, h2_6_d2_0, h2_6_d2_1, h2_6_d2_2, h2_6_d2_3, h3) next ex => P.wots_Candidate_r6 v1 v45 v46 h4 h0_0 h0_1 h0_2 h0_3 h0_4 h0_5 h1_0 h2_0 h2_1 h2_2 h2_3 h2_4 h2_5 h2_6 h2_6_c0_0 h2_6_c0_1 h2_6_c0_2 h2_6_c0_3 h2_6_c1_0 h2_6_d0_0 h2_6_d0_1 h2_6_d0_2 h2_6_d0_3 h2_6_d1_0 h2_6_d2_0 h2_6_d2_1 h2_6_d2_2 h2_6_d2_3 h3 (fun v1 v45 v46 h4 h0_0 h0_1 h0_2 h0_3 h0_4 h0_5 h1_0 h2_0 h2_1 h2_2 h2_3 h2_4 h2_5 h2_6 h2_6_c0_0 h2_6_c0_1 h2_6_c0_2 h2_6_c0_3 h2_6_c1_0 h2_6_d0_0 h2_6_d0_1 h2_6_d0_2 h2_6_d0_3 h2_6_d1_0 h2_6_d2_0 h2_6_d2_1 h2_6_d2_2 h2_6_d2_3 h3 => next (v1, v45, v46, h4, h0_0, h0_1, h0_2, h0_3, h0_4, h0_5, h1_0, h2_0, h2_1, h2_2, h2_3, h2_4, h2_5, h2_6, h2_6_c0_0, h2_6_c0_1, h2_6_c0_2, h2_6_c0_3, h2_6_c1_0, h2_6_d0_0, h2_6_d0_1, h2_6_d0_2, h2_6_d0_3, h2_6_d1_0, h2_6_d2_0, h2_6_d2_1, h2_6_d2_2, h2_6_d2_3, h3)) (fun v1 v45 v46 h4 h0_0 h0_1 h0_2 h0_3 h0_4 h0_5 h1_0 h2_0 h2_1 h2_2 h2_3 h2_4 h2_5 h2_6 h2_6_c0_0 h2_6_c0_1 h2_6_c0_2 h2_6_c0_3 h2_6_c1_0 h2_6_d0_0 h2_6_d0_1 h2_6_d0_2 h2_6_d0_3 h2_6_d1_0 h2_6_d2_0 h2_6_d2_1 h2_6_d2_2 h2_6_d2_3 h3 => ex (v1, v45, v46, h4, h0_0, h0_1, h0_2, h0_3, h0_4, h0_5, h1_0, h2_0, h2_1, h2_2, h2_3, h2_4, h2_5, h2_6, h2_6_c0_0, h2_6_c0_1, h2_6_c0_2, h2_6_c0_3, h2_6_c1_0, h2_6_d0_0, h2_6_d0_1, h2_6_d0_2, h2_6_d0_3, h2_6_d1_0, h2_6_d2_0, h2_6_d2_1, h2_6_d2_2, h2_6_d2_3, h3))
def E6 (K : AExit → ASt → Option R) : Y6 → Option R := (fun x => K (.exit 0) (S6 x))
noncomputable def L6 : LSpec := fun st K => vMap (V6 st) fun (v1, v45, v46, h4, h0_0, h0_1, h0_2, h0_3, h0_4, h0_5, h1_0, h2_0, h2_1, h2_2, h2_3, h2_4, h2_5, h2_6, h2_6_c0_0, h2_6_c0_1, h2_6_c0_2, h2_6_c0_3, h2_6_c1_0, h2_6_d0_0, h2_6_d0_1, h2_6_d0_2, h2_6_d0_3, h2_6_d1_0, h2_6_d2_0, h2_6_d2_1, h2_6_d2_2, h2_6_d2_3, h3) => P.wots_Candidate_l6 v1 v45 v46 h4 h0_0 h0_1 h0_2 h0_3 h0_4 h0_5 h1_0 h2_0 h2_1 h2_2 h2_3 h2_4 h2_5 h2_6 h2_6_c0_0 h2_6_c0_1 h2_6_c0_2 h2_6_c0_3 h2_6_c1_0 h2_6_d0_0 h2_6_d0_1 h2_6_d0_2 h2_6_d0_3 h2_6_d1_0 h2_6_d2_0 h2_6_d2_1 h2_6_d2_2 h2_6_d2_3 h3 (fun v1 v45 v46 h4 h0_0 h0_1 h0_2 h0_3 h0_4 h0_5 h1_0 h2_0 h2_1 h2_2 h2_3 h2_4 h2_5 h2_6 h2_6_c0_0 h2_6_c0_1 h2_6_c0_2 h2_6_c0_3 h2_6_c1_0 h2_6_d0_0 h2_6_d0_1 h2_6_d0_2 h2_6_d0_3 h2_6_d1_0 h2_6_d2_0 h2_6_d2_1 h2_6_d2_2 h2_6_d2_3 h3 => K (.exit 0) (S6 (v1, v45, v46, h4, h0_0, h0_1, h0_2, h0_3, h0_4, h0_5, h1_0, h2_0, h2_1, h2_2, h2_3, h2_4, h2_5, h2_6, h2_6_c0_0, h2_6_c0_1, h2_6_c0_2, h2_6_c0_3, h2_6_c1_0, h2_6_d0_0, h2_6_d0_1, h2_6_d0_2, h2_6_d0_3, h2_6_d1_0, h2_6_d2_0, h2_6_d2_1, h2_6_d2_2, h2_6_d2_3, h3)))
noncomputable def D : Ctx := ({ P := Tryd.prog, G := [(27, wots_Put.spec), (30, wots_Digits.spec), (66, wots_began.spec), (68, wots_signer_count.spec), (69, wots_signer_along.spec), (71, wots_signer_key.spec)], globs := [(1, [AVal.arr .u64 24 P.kcon]), (2, [AVal.arr .u32 64 P.roots256]), (3, [AVal.arr .u64 80 P.roots512]), (4, [AVal.arr .i64 24 P.kpla]), (5, [AVal.arr .i64 24 P.ktur])], hints := [(6, ⟨[1, 5, 9, 11, 44, 45, 46], [(13, 5, .ints .u8 [])], [10], [(1, .sl (.ints .u8 []))], none, []⟩)], loops := [(6, L6)], inl := [] } : Ctx)
theorem round6 (K) (next) (x) : roundA D (loopAt Tryd.f38 6) K next (S6 x) = T6 x (fun x => next (S6 x)) (E6 K) := by kernel_rfl
theorem lq6 (st) (K) : L6 st K = vMap (V6 st) (fun x => lp T6 x (E6 K)) := by
 unfold L6
 cases V6 st with
 | none => rfl
 | some x => rw [P.wots_Candidate_l6_eq]; kernel_rfl
theorem loop6 : LoopOk D (loopAt Tryd.f38 6) := loopOk_lp S6 V6_ok (by kernel_rfl) lq6 round6
theorem body (a0_N : Int) (a0_H : Int) (a0_D : Int) (a0_A : Int) (a0_K : Int) (a0_Shake : Bool) (a1 : List Int) (a2 : List Int) (a3 : List Int) (a4 : List Int) (K : AVal → Option R) : bodyA D Tryd.f38 [.sl (.ints .u8 [])] [.agg [.v (.int .i64 a0_N), .v (.int .i64 a0_H), .v (.int .i64 a0_D), .v (.int .i64 a0_A), .v (.int .i64 a0_K), .v (.bool a0_Shake)], .sl (.ints .u8 a1), .sl (.ints .u8 a2), .sl (.ints .u8 a3), .arr .u8 32 a4] K = P.wots_Candidate a0_N a0_H a0_D a0_A a0_K a0_Shake a1 a2 a3 a4 (fun r0 => K (.sl (.ints .u8 r0))) := by
 rw [P.wots_Candidate_eq]
 kernel_rfl
theorem loops : loopsOf (Tryd.f38.body.getD .skip) = [loopAt Tryd.f38 6] := by kernel_rfl
noncomputable def spec0 : Abs.Spec := fun args K => match args with
 | [.agg [.v (.int .i64 a0_N), .v (.int .i64 a0_H), .v (.int .i64 a0_D), .v (.int .i64 a0_A), .v (.int .i64 a0_K), .v (.bool a0_Shake)], .sl (.ints .u8 a1), .sl (.ints .u8 a2), .sl (.ints .u8 a3), .arr .u8 32 a4] => P.wots_Candidate a0_N a0_H a0_D a0_A a0_K a0_Shake a1 a2 a3 a4 (fun r0 => K (.sl (.ints .u8 r0)))
 | _ => none
noncomputable def spec : Abs.Spec := fun args K => spec0 (coerL [.any, .sl (.ints .u8 []), .sl (.ints .u8 []), .sl (.ints .u8 []), .any] args) K
theorem ok0 : Proved Tryd.prog [(1, [AVal.arr .u64 24 P.kcon]), (2, [AVal.arr .u32 64 P.roots256]), (3, [AVal.arr .u64 80 P.roots512]), (4, [AVal.arr .i64 24 P.kpla]), (5, [AVal.arr .i64 24 P.ktur])] 38 spec0 := by
 refine proved_of (D := D) (fn := Tryd.f38) (c := Tryd.f38.body.getD .skip) [.sl (.ints .u8 [])] (by kernel_rfl) (globsPlain_of (by kernel_rfl)) (by kernel_rfl) (by kernel_rfl) (by kernel_rfl) ⟨wots_Put.ok, wots_Digits.ok, wots_began.ok, wots_signer_count.ok, wots_signer_along.ok, wots_signer_key.ok, trivial⟩ trivial ?_ ?_
 · rw [loops]; exact ⟨loop6, trivial⟩
 · intro args K r h
   unfold spec0 at h
   split at h
   · rw [body]; exact h
   · cases h
theorem ok : Proved Tryd.prog [(1, [AVal.arr .u64 24 P.kcon]), (2, [AVal.arr .u32 64 P.roots256]), (3, [AVal.arr .u64 80 P.roots512]), (4, [AVal.arr .i64 24 P.kpla]), (5, [AVal.arr .i64 24 P.ktur])] 38 spec := proved_coer _ ok0
end wots_Candidate
end

section
open Go Go.Abs Go.Proofs
set_option maxRecDepth 100000
set_option maxHeartbeats 0
set_option linter.unusedVariables false
namespace wots_signer_first
noncomputable def D : Ctx := ({ P := Tryd.prog, G := [(27, wots_Put.spec), (110, wots_number.spec), (130, wots_shaken_f1.spec), (132, wots_hashed_f1.spec)], globs := [(1, [AVal.arr .u64 24 P.kcon]), (2, [AVal.arr .u32 64 P.roots256]), (3, [AVal.arr .u64 80 P.roots512]), (4, [AVal.arr .i64 24 P.kpla]), (5, [AVal.arr .i64 24 P.ktur])], hints := [], loops := [], inl := [] } : Ctx)
theorem body (a0_Slh_N : Int) (a0_Slh_H : Int) (a0_Slh_D : Int) (a0_Slh_A : Int) (a0_Slh_K : Int) (a0_Slh_Shake : Bool) (a0_sum : Nat) (a0_sum_c0_Kind : Int) (a0_sum_c0_Words : List Int) (a0_sum_c0_At : Int) (a0_sum_c0_Out : Bool) (a0_sum_c1 : Int) (a0_sum_d0_Kind : Int) (a0_sum_d0_Words : List Int) (a0_sum_d0_Tail : List Int) (a0_sum_d0_Size : Int) (a0_sum_d1 : Int) (a0_sum_d2_Kind : Int) (a0_sum_d2_Words : List Int) (a0_sum_d2_Tail : List Int) (a0_sum_d2_Size : Int) (a1 : List Int) (a2 : List Int) (a3 : Int) (K : AVal → Option R) : bodyA D Tryd.f70 [.sl (.ints .u8 [])] [.agg [.v (.int .i64 a0_Slh_N), .v (.int .i64 a0_Slh_H), .v (.int .i64 a0_Slh_D), .v (.int .i64 a0_Slh_A), .v (.int .i64 a0_Slh_K), .v (.bool a0_Slh_Shake), .alt a0_sum (.func 130) [] [.sta [.v (.int .i64 a0_sum_c0_Kind), .arr .u64 25 a0_sum_c0_Words, .v (.int .i64 a0_sum_c0_At), .v (.bool a0_sum_c0_Out)], .sta [.v (.int .i64 a0_sum_c1)]] (.func 132) [] [.sta [.v (.int .i64 a0_sum_d0_Kind), .arr .u64 8 a0_sum_d0_Words, .sl (.ints .u8 a0_sum_d0_Tail), .v (.int .u64 a0_sum_d0_Size)], .sta [.v (.int .i64 a0_sum_d1)], .sta [.v (.int .i64 a0_sum_d2_Kind), .arr .u64 8 a0_sum_d2_Words, .sl (.ints .u8 a0_sum_d2_Tail), .v (.int .u64 a0_sum_d2_Size)]]], .sl (.ints .u8 a1), .arr .u8 32 a2, .v (.int .i64 a3)] K = P.wots_signer_first a0_Slh_N a0_Slh_H a0_Slh_D a0_Slh_A a0_Slh_K a0_Slh_Shake a0_sum a0_sum_c0_Kind a0_sum_c0_Words a0_sum_c0_At a0_sum_c0_Out a0_sum_c1 a0_sum_d0_Kind a0_sum_d0_Words a0_sum_d0_Tail a0_sum_d0_Size a0_sum_d1 a0_sum_d2_Kind a0_sum_d2_Words a0_sum_d2_Tail a0_sum_d2_Size a1 a2 a3 (fun r0 => K (.sl (.ints .u8 r0))) := by
 rw [P.wots_signer_first_eq]
 kernel_rfl
theorem loops : loopsOf (Tryd.f70.body.getD .skip) = [] := by kernel_rfl
noncomputable def spec0 : Abs.Spec := fun args K => match args with
 | [.agg [.v (.int .i64 a0_Slh_N), .v (.int .i64 a0_Slh_H), .v (.int .i64 a0_Slh_D), .v (.int .i64 a0_Slh_A), .v (.int .i64 a0_Slh_K), .v (.bool a0_Slh_Shake), .alt a0_sum (.func 130) [] [.sta [.v (.int .i64 a0_sum_c0_Kind), .arr .u64 25 a0_sum_c0_Words, .v (.int .i64 a0_sum_c0_At), .v (.bool a0_sum_c0_Out)], .sta [.v (.int .i64 a0_sum_c1)]] (.func 132) [] [.sta [.v (.int .i64 a0_sum_d0_Kind), .arr .u64 8 a0_sum_d0_Words, .sl (.ints .u8 a0_sum_d0_Tail), .v (.int .u64 a0_sum_d0_Size)], .sta [.v (.int .i64 a0_sum_d1)], .sta [.v (.int .i64 a0_sum_d2_Kind), .arr .u64 8 a0_sum_d2_Words, .sl (.ints .u8 a0_sum_d2_Tail), .v (.int .u64 a0_sum_d2_Size)]]], .sl (.ints .u8 a1), .arr .u8 32 a2, .v (.int .i64 a3)] => P.wots_signer_first a0_Slh_N a0_Slh_H a0_Slh_D a0_Slh_A a0_Slh_K a0_Slh_Shake a0_sum a0_sum_c0_Kind a0_sum_c0_Words a0_sum_c0_At a0_sum_c0_Out a0_sum_c1 a0_sum_d0_Kind a0_sum_d0_Words a0_sum_d0_Tail a0_sum_d0_Size a0_sum_d1 a0_sum_d2_Kind a0_sum_d2_Words a0_sum_d2_Tail a0_sum_d2_Size a1 a2 a3 (fun r0 => K (.sl (.ints .u8 r0)))
 | _ => none
noncomputable def spec : Abs.Spec := fun args K => spec0 (coerL [.agg [.any, .any, .any, .any, .any, .any, .alt (.func 130) [] [.sta [.v (.int .i64 0), .arr .u64 25 [], .v (.int .i64 0), .v (.bool false)], .sta [.v (.int .i64 0)]] (.func 132) [] [.sta [.v (.int .i64 0), .arr .u64 8 [], .sl (.ints .u8 []), .v (.int .u64 0)], .sta [.v (.int .i64 0)], .sta [.v (.int .i64 0), .arr .u64 8 [], .sl (.ints .u8 []), .v (.int .u64 0)]]], .sl (.ints .u8 []), .any, .any] args) K
theorem ok0 : Proved Tryd.prog [(1, [AVal.arr .u64 24 P.kcon]), (2, [AVal.arr .u32 64 P.roots256]), (3, [AVal.arr .u64 80 P.roots512]), (4, [AVal.arr .i64 24 P.kpla]), (5, [AVal.arr .i64 24 P.ktur])] 70 spec0 := by
 refine proved_of (D := D) (fn := Tryd.f70) (c := Tryd.f70.body.getD .skip) [.sl (.ints .u8 [])] (by kernel_rfl) (globsPlain_of (by kernel_rfl)) (by kernel_rfl) (by kernel_rfl) (by kernel_rfl) ⟨wots_Put.ok, wots_number.ok, wots_shaken_f1.ok, wots_hashed_f1.ok, trivial⟩ trivial ?_ ?_
 · rw [loops]; exact trivial
 · intro args K r h
   unfold spec0 at h
   split at h
   · rw [body]; exact h
   · cases h
theorem ok : Proved Tryd.prog [(1, [AVal.arr .u64 24 P.kcon]), (2, [AVal.arr .u32 64 P.roots256]), (3, [AVal.arr .u64 80 P.roots512]), (4, [AVal.arr .i64 24 P.kpla]), (5, [AVal.arr .i64 24 P.ktur])] 70 spec := proved_coer _ ok0
end wots_signer_first
end

section
open Go Go.Abs Go.Proofs
set_option maxRecDepth 100000
set_option maxHeartbeats 0
set_option linter.unusedVariables false
namespace wots_Public
abbrev X6 := (List Int) × Int × Int × (List Int) × (List Int) × Int × Int × Int × Int × Int × Bool × Nat × Int × (List Int) × Int × Bool × Int × Int × (List Int) × (List Int) × Int × Int × Int × (List Int) × (List Int) × Int
def S6 : X6 → ASt := fun (v1, v29, v30, h40, h1_0, h2_0, h2_1, h2_2, h2_3, h2_4, h2_5, h2_6, h2_6_c0_0, h2_6_c0_1, h2_6_c0_2, h2_6_c0_3, h2_6_c1_0, h2_6_d0_0, h2_6_d0_1, h2_6_d0_2, h2_6_d0_3, h2_6_d1_0, h2_6_d2_0, h2_6_d2_1, h2_6_d2_2, h2_6_d2_3) => ⟨[(11, .own 40), (1, .sl (.ints .u8 v1)), (7, .ptr 1 0), (9, .ptr 2 0), (29, .v (.int .i64 v29)), (30, .v (.int .i64 v30))], [(40, some ⟨.row 5 (.ints .u8 h40), false⟩), (1, some ⟨.box 43 [.arr .u8 32 h1_0], false⟩), (2, some ⟨.box 84 [.v (.int .i64 h2_0), .v (.int .i64 h2_1), .v (.int .i64 h2_2), .v (.int .i64 h2_3), .v (.int .i64 h2_4), .v (.bool h2_5), .alt h2_6 (.func 130) [] [.sta [.v (.int .i64 h2_6_c0_0), .arr .u64 25 h2_6_c0_1, .v (.int .i64 h2_6_c0_2), .v (.bool h2_6_c0_3)], .sta [.v (.int .i64 h2_6_c1_0)]] (.func 132) [] [.sta [.v (.int .i64 h2_6_d0_0), .arr .u64 8 h2_6_d0_1, .sl (.ints .u8 h2_6_d0_2), .v (.int .u64 h2_6_d0_3)], .sta [.v (.int .i64 h2_6_d1_0)], .sta [.v (.int .i64 h2_6_d2_0), .arr .u64 8 h2_6_d2_1, .sl (.ints .u8 h2_6_d2_2), .v (.int .u64 h2_6_d2_3)]]], false⟩)], 41, 51⟩
def V6 : ASt → Option X6
 | ⟨[(11, .own 40), (1, .sl (.ints .u8 v1)), (7, .ptr 1 0), (9, .ptr 2 0), (29, .v (.int .i64 v29)), (30, .v (.int .i64 v30))], [(40, some ⟨.row 5 (.ints .u8 h40), false⟩), (1, some ⟨.box 43 [.arr .u8 32 h1_0], false⟩), (2, some ⟨.box 84 [.v (.int .i64 h2_0), .v (.int .i64 h2_1), .v (.int .i64 h2_2), .v (.int .i64 h2_3), .v (.int .i64 h2_4), .v (.bool h2_5), .alt h2_6 (.func 130) [] [.sta [.v (.int .i64 h2_6_c0_0), .arr .u64 25 h2_6_c0_1, .v (.int .i64 h2_6_c0_2), .v (.bool h2_6_c0_3)], .sta [.v (.int .i64 h2_6_c1_0)]] (.func 132) [] [.sta [.v (.int .i64 h2_6_d0_0), .arr .u64 8 h2_6_d0_1, .sl (.ints .u8 h2_6_d0_2), .v (.int .u64 h2_6_d0_3)], .sta [.v (.int .i64 h2_6_d1_0)], .sta [.v (.int .i64 h2_6_d2_0), .arr .u64 8 h2_6_d2_1, .sl (.ints .u8 h2_6_d2_2), .v (.int .u64 h2_6_d2_3)]]], false⟩)], 41, 51⟩ => some (v1, v29, v30, h40, h1_0, h2_0, h2_1, h2_2, h2_3, h2_4, h2_5, h2_6, h2_6_c0_0, h2_6_c0_1, h2_6_c0_2, h2_6_c0_3, h2_6_c1_0, h2_6_d0_0, h2_6_d0_1, h2_6_d0_2, h2_6_d0_3, h2_6_d1_0, h2_6_d2_0, h2_6_d2_1, h2_6_d2_2, h2_6_d2_3)
 | _ => none
theorem V6_ok (st) (x) (h : V6 st = some x) : st = S6 x := by
 unfold V6 at h
 split at h
 · cases h; rfl
 · cases h
abbrev Y6 := X6
noncomputable def T6 : X6 → (X6 → Option R) → (Y6 → Option R) → Option R := fun (v1, v29, v30, h40, h1_0, h2_0, h2_1, h2_2, h2_3, h2_4, h2_5, h2_6, h2_6_c0_0, h2_6_c0_1, h2_6_c0_2, h2_6_c0_3, h2_6_c1_0, h2_6_d0_0, h2_6_d0_1, h2_6_d0_2, h2_6_d0_3, h2_6_d1_0, h2_6_d2_0, h2_6_d2_1, h2_6_d2_2, h2_6_d2_3) next ex => P.wots_Public_r6 v1 v29 v30 h40 h1_0 h2_0 h2_1 h2_2 h2_3 h2_4 h2_5 h2_6 h2_6_c0_0 h2_6_c0_1 h2_6_c0_2 h2_6_c0_3 h2_6_c1_0 h2_6_d0_0 h2_6_d0_1 h2_6_d0_2 h2_6_d0_3 h2_6_d1_0 h2_6_d2_0 h2_6_d2_1 h2_6_d2_2 h2_6_d2_3 (fun v1 v29 v30 h40 h1_0 h2_0 h2_1 h2_2 h2_3 h2_4 h2_5 h2_6 h2_6_c0_0 h2_6_c0_1 h2_6_c0_2 h2_6_c0_3 h2_6_c1_0 h2_6_d0_0 h2_6_d0_1 h2_6_d0_2 h2_6_d0_3 h2_6_d1_0 h2_6_d2_0 h2_6_d2_1 h2_6_d2_2 h2_6_d2_3 => next (v1, v29, v30, h40, h1_0, h2_0, h2_1, h2_2, h2_3, h2_4, h2_5, h2_6, h2_6_c0_0, h2_6_c0_1, h2_6_c0_2, h2_6_c0_3, h2_6_c1_0, h2_6_d0_0, h2_6_d0_1, h2_6_d0_2, h2_6_d0_3, h2_6_d1_0, h2_6_d2_0, h2_6_d2_1, h2_6_d2_2, h2_6_d2_3)) (fun v1 v29 v30 h40 h1_0 h2_0 h2_1 h2_2 h2_3 h2_4 h2_5 h2_6 h2_6_c0_0 h2_6_c0_1 h2_6_c0_2 h2_6_c0_3 h2_6_c1_0 h2_6_d0_0 h2_6_d0_1 h2_6_d0_2 h2_6_d0_3 h2_6_d1_0 h2_6_d2_0 h2_6_d2_1 h2_6_d2_2 h2_6_d2_3 => ex (v1, v29, v30, h40, h1_0, h2_0, h2_1, h2_2, h2_3, h2_4, h2_5, h2_6, h2_6_c0_0, h2_6_c0_1, h2_6_c0_2, h2_6_c0_3, h2_6_c1_0, h2_6_d0_0, h2_6_d0_1, h2_6_d0_2, h2_6_d0_3, h2_6_d1_0, h2_6_d2_0, h2_6_d2_1, h2_6_d2_2, h2_6_d2_3))
def E6 (K : AExit → ASt → Option R) : Y6 → Option R := (fun x => K (.exit 0) (S6 x))
noncomputable def L6 : LSpec := fun st K => vMap (V6 st) fun (v1, v29, v30, h40, h1_0, h2_0, h2_1, h2_2, h2_3, h2_4, h2_5, h2_6, h2_6_c0_0, h2_6_c0_1, h2_6_c0_2, h2_6_c0_3, h2_6_c1_0, h2_6_d0_0, h2_6_d0_1, h2_6_d0_2, h2_6_d0_3, h2_6_d1_0, h2_6_d2_0, h2_6_d2_1, h2_6_d2_2, h2_6_d2_3) => P.wots_Public_l6 v1 v29 v30 h40 h1_0 h2_0 h2_1 h2_2 h2_3 h2_4 h2_5 h2_6 h2_6_c0_0 h2_6_c0_1 h2_6_c0_2 h2_6_c0_3 h2_6_c1_0 h2_6_d0_0 h2_6_d0_1 h2_6_d0_2 h2_6_d0_3 h2_6_d1_0 h2_6_d2_0 h2_6_d2_1 h2_6_d2_2 h2_6_d2_3 (fun v1 v29 v30 h40 h1_0 h2_0 h2_1 h2_2 h2_3 h2_4 h2_5 h2_6 h2_6_c0_0 h2_6_c0_1 h2_6_c0_2 h2_6_c0_3 h2_6_c1_0 h2_6_d0_0 h2_6_d0_1 h2_6_d0_2 h2_6_d0_3 h2_6_d1_0 h2_6_d2_0 h2_6_d2_1 h2_6_d2_2 h2_6_d2_3 => K (.exit 0) (S6 (v1, v29, v30, h40, h1_0, h2_0, h2_1, h2_2, h2_3, h2_4, h2_5, h2_6, h2_6_c0_0, h2_6_c0_1, h2_6_c0_2, h2_6_c0_3, h2_6_c1_0, h2_6_d0_0, h2_6_d0_1, h2_6_d0_2, h2_6_d0_3, h2_6_d1_0, h2_6_d2_0, h2_6_d2_1, h2_6_d2_2, h2_6_d2_3)))
noncomputable def D : Ctx := ({ P := Tryd.prog, G := [(27, wots_Put.spec), (66, wots_began.spec), (68, wots_signer_count.spec), (69, wots_signer_along.spec), (70, wots_signer_first.spec), (71, wots_signer_key.spec)], globs := [(1, [AVal.arr .u64 24 P.kcon]), (2, [AVal.arr .u32 64 P.roots256]), (3, [AVal.arr .u64 80 P.roots512]), (4, [AVal.arr .i64 24 P.kpla]), (5, [AVal.arr .i64 24 P.ktur])], hints := [(6, ⟨[1, 7, 9, 29, 30], [(11, 5, .ints .u8 [])], [8], [], some (40, [1, 2]), []⟩)], loops := [(6, L6)], inl := [] } : Ctx)
theorem round6 (K) (next) (x) : roundA D (loopAt Tryd.f36 6) K next (S6 x) = T6 x (fun x => next (S6 x)) (E6 K) := by kernel_rfl
theorem lq6 (st) (K) : L6 st K = vMap (V6 st) (fun x => lp T6 x (E6 K)) := by
 unfold L6
 cases V6 st with
 | none => rfl
 | some x => rw [P.wots_Public_l6_eq]; kernel_rfl
theorem loop6 : LoopOk D (loopAt Tryd.f36 6) := loopOk_lp S6 V6_ok (by kernel_rfl) lq6 round6
theorem body (a0_N : Int) (a0_H : Int) (a0_D : Int) (a0_A : Int) (a0_K : Int) (a0_Shake : Bool) (a1 : List Int) (a2 : List Int) (a3 : List Int) (K : AVal → Option R) : bodyA D Tryd.f36 [.sl (.ints .u8 [])] [.agg [.v (.int .i64 a0_N), .v (.int .i64 a0_H), .v (.int .i64 a0_D), .v (.int .i64 a0_A), .v (.int .i64 a0_K), .v (.bool a0_Shake)], .sl (.ints .u8 a1), .sl (.ints .u8 a2), .arr .u8 32 a3] K = P.wots_Public a0_N a0_H a0_D a0_A a0_K a0_Shake a1 a2 a3 (fun r0 => K (.sl (.ints .u8 r0))) := by
 rw [P.wots_Public_eq]
 kernel_rfl
theorem loops : loopsOf (Tryd.f36.body.getD .skip) = [loopAt Tryd.f36 6] := by kernel_rfl
noncomputable def spec0 : Abs.Spec := fun args K => match args with
 | [.agg [.v (.int .i64 a0_N), .v (.int .i64 a0_H), .v (.int .i64 a0_D), .v (.int .i64 a0_A), .v (.int .i64 a0_K), .v (.bool a0_Shake)], .sl (.ints .u8 a1), .sl (.ints .u8 a2), .arr .u8 32 a3] => P.wots_Public a0_N a0_H a0_D a0_A a0_K a0_Shake a1 a2 a3 (fun r0 => K (.sl (.ints .u8 r0)))
 | _ => none
noncomputable def spec : Abs.Spec := fun args K => spec0 (coerL [.any, .sl (.ints .u8 []), .sl (.ints .u8 []), .any] args) K
theorem ok0 : Proved Tryd.prog [(1, [AVal.arr .u64 24 P.kcon]), (2, [AVal.arr .u32 64 P.roots256]), (3, [AVal.arr .u64 80 P.roots512]), (4, [AVal.arr .i64 24 P.kpla]), (5, [AVal.arr .i64 24 P.ktur])] 36 spec0 := by
 refine proved_of (D := D) (fn := Tryd.f36) (c := Tryd.f36.body.getD .skip) [.sl (.ints .u8 [])] (by kernel_rfl) (globsPlain_of (by kernel_rfl)) (by kernel_rfl) (by kernel_rfl) (by kernel_rfl) ⟨wots_Put.ok, wots_began.ok, wots_signer_count.ok, wots_signer_along.ok, wots_signer_first.ok, wots_signer_key.ok, trivial⟩ trivial ?_ ?_
 · rw [loops]; exact ⟨loop6, trivial⟩
 · intro args K r h
   unfold spec0 at h
   split at h
   · rw [body]; exact h
   · cases h
theorem ok : Proved Tryd.prog [(1, [AVal.arr .u64 24 P.kcon]), (2, [AVal.arr .u32 64 P.roots256]), (3, [AVal.arr .u64 80 P.roots512]), (4, [AVal.arr .i64 24 P.kpla]), (5, [AVal.arr .i64 24 P.ktur])] 36 spec := proved_coer _ ok0
end wots_Public
end
