/-
  WotsRight, part M: an interpreter of my own over abstract values, the pure functions, the walks and the plain law.
-/

import Derived.Test.YtjhnljhjpnjieaaDoorWotsRightH
import Derived.Test.YtjhnljhjpnjieaaDoorWotsRightF
import Derived.Test.YtjhnljhjpnjieaaDoorProg
import Derived.Test.YtjhnljhjpnjieaaDoorWotsRightG
import Derived.Test.YtjhnljhjpnjieaaDoorWotsRightK
import Derived.KernelRfl

section
open Go Go.Abs Go.Proofs
set_option maxRecDepth 100000
set_option maxHeartbeats 0
set_option linter.unusedVariables false
namespace sha_engine_uint64_rotated
noncomputable def D : Ctx := ({ P := Tryd.prog, G := [(139, sha_root512.spec)], globs := [(1, [AVal.arr .u64 24 P.kcon]), (2, [AVal.arr .u32 64 P.roots256]), (3, [AVal.arr .u64 80 P.roots512]), (4, [AVal.arr .i64 24 P.kpla]), (5, [AVal.arr .i64 24 P.ktur])], hints := [], loops := [], inl := [] } : Ctx)
theorem body (a0_bits : Int) (a0_rounds : Int) (a0_turns_0 : List Int) (a0_turns_1 : List Int) (a0_turns_2 : List Int) (a0_turns_3 : List Int) (a1 : Int) (a2 : Int) (K : AVal → Option R) : bodyA D Tryd.f158 [.any] [.agg [.v (.int .i64 a0_bits), .v (.int .i64 a0_rounds), .arr .i64 3 a0_turns_0, .arr .i64 3 a0_turns_1, .arr .i64 3 a0_turns_2, .arr .i64 3 a0_turns_3, .fn (.func 139) [] []], .v (.int .u64 a1), .v (.int .i64 a2)] K = P.sha_engine_uint64_rotated a0_bits a0_rounds a0_turns_0 a0_turns_1 a0_turns_2 a0_turns_3 a1 a2 (fun r0 => K (.v (.int .u64 r0))) := by
 rw [P.sha_engine_uint64_rotated_eq]
 kernel_rfl
theorem loops : loopsOf (Tryd.f158.body.getD .skip) = [] := by kernel_rfl
noncomputable def spec0 : Abs.Spec := fun args K => match args with
 | [.agg [.v (.int .i64 a0_bits), .v (.int .i64 a0_rounds), .arr .i64 3 a0_turns_0, .arr .i64 3 a0_turns_1, .arr .i64 3 a0_turns_2, .arr .i64 3 a0_turns_3, .fn (.func 139) [] []], .v (.int .u64 a1), .v (.int .i64 a2)] => P.sha_engine_uint64_rotated a0_bits a0_rounds a0_turns_0 a0_turns_1 a0_turns_2 a0_turns_3 a1 a2 (fun r0 => K (.v (.int .u64 r0)))
 | _ => none
noncomputable def spec : Abs.Spec := spec0
theorem ok0 : Proved Tryd.prog [(1, [AVal.arr .u64 24 P.kcon]), (2, [AVal.arr .u32 64 P.roots256]), (3, [AVal.arr .u64 80 P.roots512]), (4, [AVal.arr .i64 24 P.kpla]), (5, [AVal.arr .i64 24 P.ktur])] 158 spec0 := by
 refine proved_of (D := D) (fn := Tryd.f158) (c := Tryd.f158.body.getD .skip) [.any] (by kernel_rfl) (globsPlain_of (by kernel_rfl)) (by kernel_rfl) (by kernel_rfl) (by kernel_rfl) ⟨sha_root512.ok, trivial⟩ trivial ?_ ?_
 · rw [loops]; exact trivial
 · intro args K r h
   unfold spec0 at h
   split at h
   · rw [body]; exact h
   · cases h
theorem ok : Proved Tryd.prog [(1, [AVal.arr .u64 24 P.kcon]), (2, [AVal.arr .u32 64 P.roots256]), (3, [AVal.arr .u64 80 P.roots512]), (4, [AVal.arr .i64 24 P.kpla]), (5, [AVal.arr .i64 24 P.ktur])] 158 spec := ok0
end sha_engine_uint64_rotated
end

section
open Go Go.Abs Go.Proofs
set_option maxRecDepth 100000
set_option maxHeartbeats 0
set_option linter.unusedVariables false
namespace sha_engine_uint64_high
noncomputable def D : Ctx := ({ P := Tryd.prog, G := [(139, sha_root512.spec), (158, sha_engine_uint64_rotated.spec)], globs := [(1, [AVal.arr .u64 24 P.kcon]), (2, [AVal.arr .u32 64 P.roots256]), (3, [AVal.arr .u64 80 P.roots512]), (4, [AVal.arr .i64 24 P.kpla]), (5, [AVal.arr .i64 24 P.ktur])], hints := [], loops := [], inl := [] } : Ctx)
theorem body (a0_bits : Int) (a0_rounds : Int) (a0_turns_0 : List Int) (a0_turns_1 : List Int) (a0_turns_2 : List Int) (a0_turns_3 : List Int) (a1 : Int) (a2 : Int) (K : AVal → Option R) : bodyA D Tryd.f150 [.any] [.agg [.v (.int .i64 a0_bits), .v (.int .i64 a0_rounds), .arr .i64 3 a0_turns_0, .arr .i64 3 a0_turns_1, .arr .i64 3 a0_turns_2, .arr .i64 3 a0_turns_3, .fn (.func 139) [] []], .v (.int .u64 a1), .v (.int .i64 a2)] K = P.sha_engine_uint64_high a0_bits a0_rounds a0_turns_0 a0_turns_1 a0_turns_2 a0_turns_3 a1 a2 (fun r0 => K (.v (.int .u64 r0))) := by
 rw [P.sha_engine_uint64_high_eq]
 kernel_rfl
theorem loops : loopsOf (Tryd.f150.body.getD .skip) = [] := by kernel_rfl
noncomputable def spec0 : Abs.Spec := fun args K => match args with
 | [.agg [.v (.int .i64 a0_bits), .v (.int .i64 a0_rounds), .arr .i64 3 a0_turns_0, .arr .i64 3 a0_turns_1, .arr .i64 3 a0_turns_2, .arr .i64 3 a0_turns_3, .fn (.func 139) [] []], .v (.int .u64 a1), .v (.int .i64 a2)] => P.sha_engine_uint64_high a0_bits a0_rounds a0_turns_0 a0_turns_1 a0_turns_2 a0_turns_3 a1 a2 (fun r0 => K (.v (.int .u64 r0)))
 | _ => none
noncomputable def spec : Abs.Spec := spec0
theorem ok0 : Proved Tryd.prog [(1, [AVal.arr .u64 24 P.kcon]), (2, [AVal.arr .u32 64 P.roots256]), (3, [AVal.arr .u64 80 P.roots512]), (4, [AVal.arr .i64 24 P.kpla]), (5, [AVal.arr .i64 24 P.ktur])] 150 spec0 := by
 refine proved_of (D := D) (fn := Tryd.f150) (c := Tryd.f150.body.getD .skip) [.any] (by kernel_rfl) (globsPlain_of (by kernel_rfl)) (by kernel_rfl) (by kernel_rfl) (by kernel_rfl) ⟨sha_root512.ok, sha_engine_uint64_rotated.ok, trivial⟩ trivial ?_ ?_
 · rw [loops]; exact trivial
 · intro args K r h
   unfold spec0 at h
   split at h
   · rw [body]; exact h
   · cases h
theorem ok : Proved Tryd.prog [(1, [AVal.arr .u64 24 P.kcon]), (2, [AVal.arr .u32 64 P.roots256]), (3, [AVal.arr .u64 80 P.roots512]), (4, [AVal.arr .i64 24 P.kpla]), (5, [AVal.arr .i64 24 P.ktur])] 150 spec := ok0
end sha_engine_uint64_high
end

section
open Go Go.Abs Go.Proofs
set_option maxRecDepth 100000
set_option maxHeartbeats 0
set_option linter.unusedVariables false
namespace sha_engine_uint64_low
noncomputable def D : Ctx := ({ P := Tryd.prog, G := [(139, sha_root512.spec), (158, sha_engine_uint64_rotated.spec)], globs := [(1, [AVal.arr .u64 24 P.kcon]), (2, [AVal.arr .u32 64 P.roots256]), (3, [AVal.arr .u64 80 P.roots512]), (4, [AVal.arr .i64 24 P.kpla]), (5, [AVal.arr .i64 24 P.ktur])], hints := [], loops := [], inl := [] } : Ctx)
theorem body (a0_bits : Int) (a0_rounds : Int) (a0_turns_0 : List Int) (a0_turns_1 : List Int) (a0_turns_2 : List Int) (a0_turns_3 : List Int) (a1 : Int) (a2 : Int) (K : AVal → Option R) : bodyA D Tryd.f151 [.any] [.agg [.v (.int .i64 a0_bits), .v (.int .i64 a0_rounds), .arr .i64 3 a0_turns_0, .arr .i64 3 a0_turns_1, .arr .i64 3 a0_turns_2, .arr .i64 3 a0_turns_3, .fn (.func 139) [] []], .v (.int .u64 a1), .v (.int .i64 a2)] K = P.sha_engine_uint64_low a0_bits a0_rounds a0_turns_0 a0_turns_1 a0_turns_2 a0_turns_3 a1 a2 (fun r0 => K (.v (.int .u64 r0))) := by
 rw [P.sha_engine_uint64_low_eq]
 kernel_rfl
theorem loops : loopsOf (Tryd.f151.body.getD .skip) = [] := by kernel_rfl
noncomputable def spec0 : Abs.Spec := fun args K => match args with
 | [.agg [.v (.int .i64 a0_bits), .v (.int .i64 a0_rounds), .arr .i64 3 a0_turns_0, .arr .i64 3 a0_turns_1, .arr .i64 3 a0_turns_2, .arr .i64 3 a0_turns_3, .fn (.func 139) [] []], .v (.int .u64 a1), .v (.int .i64 a2)] => P.sha_engine_uint64_low a0_bits a0_rounds a0_turns_0 a0_turns_1 a0_turns_2 a0_turns_3 a1 a2 (fun r0 => K (.v (.int .u64 r0)))
 | _ => none
noncomputable def spec : Abs.Spec := spec0
theorem ok0 : Proved Tryd.prog [(1, [AVal.arr .u64 24 P.kcon]), (2, [AVal.arr .u32 64 P.roots256]), (3, [AVal.arr .u64 80 P.roots512]), (4, [AVal.arr .i64 24 P.kpla]), (5, [AVal.arr .i64 24 P.ktur])] 151 spec0 := by
 refine proved_of (D := D) (fn := Tryd.f151) (c := Tryd.f151.body.getD .skip) [.any] (by kernel_rfl) (globsPlain_of (by kernel_rfl)) (by kernel_rfl) (by kernel_rfl) (by kernel_rfl) ⟨sha_root512.ok, sha_engine_uint64_rotated.ok, trivial⟩ trivial ?_ ?_
 · rw [loops]; exact trivial
 · intro args K r h
   unfold spec0 at h
   split at h
   · rw [body]; exact h
   · cases h
theorem ok : Proved Tryd.prog [(1, [AVal.arr .u64 24 P.kcon]), (2, [AVal.arr .u32 64 P.roots256]), (3, [AVal.arr .u64 80 P.roots512]), (4, [AVal.arr .i64 24 P.kpla]), (5, [AVal.arr .i64 24 P.ktur])] 151 spec := ok0
end sha_engine_uint64_low
end

section
open Go Go.Abs Go.Proofs
set_option maxRecDepth 100000
set_option maxHeartbeats 0
set_option linter.unusedVariables false
namespace sha_engine_uint64_block
abbrev X4 := (List Int) × Int × Int × Int × Int × (List Int) × (List Int) × (List Int) × (List Int) × (List Int) × (List Int) × (List Int)
def S4 : X4 → ASt := fun (v2, v8, v19, h0_0, h0_1, h0_2, h0_3, h0_4, h0_5, h1_0, h2_0, h3_0) => ⟨[(2, .sl (.ints .u8 v2)), (3, .ptr 0 0), (4, .ptr 1 0), (6, .ptr 2 0), (7, .ptr 3 0), (8, .v (.int .i64 v8)), (19, .v (.int .i64 v19))], [(0, some ⟨.box 158 [.v (.int .i64 h0_0), .v (.int .i64 h0_1), .arr .i64 3 h0_2, .arr .i64 3 h0_3, .arr .i64 3 h0_4, .arr .i64 3 h0_5, .fn (.func 139) [] []], false⟩), (1, some ⟨.box 114 [.arr .u64 8 h1_0], false⟩), (2, some ⟨.box 114 [.arr .u64 8 h2_0], false⟩), (3, some ⟨.box 187 [.arr .u64 16 h3_0], false⟩)], 4, 142⟩
def V4 : ASt → Option X4
 | ⟨[(2, .sl (.ints .u8 v2)), (3, .ptr 0 0), (4, .ptr 1 0), (6, .ptr 2 0), (7, .ptr 3 0), (8, .v (.int .i64 v8)), (19, .v (.int .i64 v19))], [(0, some ⟨.box 158 [.v (.int .i64 h0_0), .v (.int .i64 h0_1), .arr .i64 3 h0_2, .arr .i64 3 h0_3, .arr .i64 3 h0_4, .arr .i64 3 h0_5, .fn (.func 139) [] []], false⟩), (1, some ⟨.box 114 [.arr .u64 8 h1_0], false⟩), (2, some ⟨.box 114 [.arr .u64 8 h2_0], false⟩), (3, some ⟨.box 187 [.arr .u64 16 h3_0], false⟩)], 4, 142⟩ => some (v2, v8, v19, h0_0, h0_1, h0_2, h0_3, h0_4, h0_5, h1_0, h2_0, h3_0)
 | _ => none
theorem V4_ok (st) (x) (h : V4 st = some x) : st = S4 x := by
 unfold V4 at h
 split at h
 · cases h; rfl
 · cases h
abbrev Y4 := X4
noncomputable def T4 : X4 → (X4 → Option R) → (Y4 → Option R) → Option R := fun (v2, v8, v19, h0_0, h0_1, h0_2, h0_3, h0_4, h0_5, h1_0, h2_0, h3_0) next ex => P.sha_engine_uint64_block_r4 v2 v8 v19 h0_0 h0_1 h0_2 h0_3 h0_4 h0_5 h1_0 h2_0 h3_0 (fun v2 v8 v19 h0_0 h0_1 h0_2 h0_3 h0_4 h0_5 h1_0 h2_0 h3_0 => next (v2, v8, v19, h0_0, h0_1, h0_2, h0_3, h0_4, h0_5, h1_0, h2_0, h3_0)) (fun v2 v8 v19 h0_0 h0_1 h0_2 h0_3 h0_4 h0_5 h1_0 h2_0 h3_0 => ex (v2, v8, v19, h0_0, h0_1, h0_2, h0_3, h0_4, h0_5, h1_0, h2_0, h3_0))
abbrev X10 := Int × Int × (List Int) × (List Int) × (List Int) × Int × Int × (List Int) × (List Int) × (List Int) × (List Int) × (List Int)
def S10 : X10 → ASt := fun (v37, v38, h3_0, h2_0, h1_0, h0_0, h0_1, h0_2, h0_3, h0_4, h0_5, h4_0) => ⟨[(3, .ptr 0 0), (4, .ptr 1 0), (6, .ptr 2 0), (7, .ptr 3 0), (10, .ptr 4 0), (37, .v (.int .i64 v37)), (38, .v (.int .i64 v38))], [(3, some ⟨.box 187 [.arr .u64 16 h3_0], false⟩), (2, some ⟨.box 114 [.arr .u64 8 h2_0], false⟩), (1, some ⟨.box 114 [.arr .u64 8 h1_0], false⟩), (0, some ⟨.box 158 [.v (.int .i64 h0_0), .v (.int .i64 h0_1), .arr .i64 3 h0_2, .arr .i64 3 h0_3, .arr .i64 3 h0_4, .arr .i64 3 h0_5, .fn (.func 139) [] []], false⟩), (4, some ⟨.box 114 [.arr .u64 8 h4_0], false⟩)], 5, 142⟩
def V10 : ASt → Option X10
 | ⟨[(3, .ptr 0 0), (4, .ptr 1 0), (6, .ptr 2 0), (7, .ptr 3 0), (10, .ptr 4 0), (37, .v (.int .i64 v37)), (38, .v (.int .i64 v38))], [(3, some ⟨.box 187 [.arr .u64 16 h3_0], false⟩), (2, some ⟨.box 114 [.arr .u64 8 h2_0], false⟩), (1, some ⟨.box 114 [.arr .u64 8 h1_0], false⟩), (0, some ⟨.box 158 [.v (.int .i64 h0_0), .v (.int .i64 h0_1), .arr .i64 3 h0_2, .arr .i64 3 h0_3, .arr .i64 3 h0_4, .arr .i64 3 h0_5, .fn (.func 139) [] []], false⟩), (4, some ⟨.box 114 [.arr .u64 8 h4_0], false⟩)], 5, 142⟩ => some (v37, v38, h3_0, h2_0, h1_0, h0_0, h0_1, h0_2, h0_3, h0_4, h0_5, h4_0)
 | _ => none
theorem V10_ok (st) (x) (h : V10 st = some x) : st = S10 x := by
 unfold V10 at h
 split at h
 · cases h; rfl
 · cases h
abbrev Y10 := X10
noncomputable def T10 : X10 → (X10 → Option R) → (Y10 → Option R) → Option R := fun (v37, v38, h3_0, h2_0, h1_0, h0_0, h0_1, h0_2, h0_3, h0_4, h0_5, h4_0) next ex => P.sha_engine_uint64_block_r10 v37 v38 h3_0 h2_0 h1_0 h0_0 h0_1 h0_2 h0_3 h0_4 h0_5 h4_0 (fun v37 v38 h3_0 h2_0 h1_0 h0_0 h0_1 h0_2 h0_3 h0_4 h0_5 h4_0 => next (v37, v38, h3_0, h2_0, h1_0, h0_0, h0_1, h0_2, h0_3, h0_4, h0_5, h4_0)) (fun v37 v38 h3_0 h2_0 h1_0 h0_0 h0_1 h0_2 h0_3 h0_4 h0_5 h4_0 => ex (v37, v38, h3_0, h2_0, h1_0, h0_0, h0_1, h0_2, h0_3, h0_4, h0_5, h4_0))
abbrev X21 := Int × (List Int) × (List Int) × (List Int)
def S21 : X21 → ASt := fun (v129, h1_0, h2_0, h4_0) => ⟨[(4, .ptr 1 0), (6, .ptr 2 0), (10, .ptr 4 0), (129, .v (.int .i64 v129))], [(1, some ⟨.box 114 [.arr .u64 8 h1_0], false⟩), (2, some ⟨.box 114 [.arr .u64 8 h2_0], false⟩), (4, some ⟨.box 114 [.arr .u64 8 h4_0], false⟩)], 120, 142⟩
def V21 : ASt → Option X21
 | ⟨[(4, .ptr 1 0), (6, .ptr 2 0), (10, .ptr 4 0), (129, .v (.int .i64 v129))], [(1, some ⟨.box 114 [.arr .u64 8 h1_0], false⟩), (2, some ⟨.box 114 [.arr .u64 8 h2_0], false⟩), (4, some ⟨.box 114 [.arr .u64 8 h4_0], false⟩)], 120, 142⟩ => some (v129, h1_0, h2_0, h4_0)
 | _ => none
theorem V21_ok (st) (x) (h : V21 st = some x) : st = S21 x := by
 unfold V21 at h
 split at h
 · cases h; rfl
 · cases h
abbrev Y21 := X21
noncomputable def T21 : X21 → (X21 → Option R) → (Y21 → Option R) → Option R := fun (v129, h1_0, h2_0, h4_0) next ex => P.sha_engine_uint64_block_r21 v129 h1_0 h2_0 h4_0 (fun v129 h1_0 h2_0 h4_0 => next (v129, h1_0, h2_0, h4_0)) (fun v129 h1_0 h2_0 h4_0 => ex (v129, h1_0, h2_0, h4_0))
def E4 (K : AExit → ASt → Option R) : Y4 → Option R := (fun x => K (.exit 0) (S4 x))
noncomputable def L4 : LSpec := fun st K => vMap (V4 st) fun (v2, v8, v19, h0_0, h0_1, h0_2, h0_3, h0_4, h0_5, h1_0, h2_0, h3_0) => P.sha_engine_uint64_block_l4 v2 v8 v19 h0_0 h0_1 h0_2 h0_3 h0_4 h0_5 h1_0 h2_0 h3_0 (fun v2 v8 v19 h0_0 h0_1 h0_2 h0_3 h0_4 h0_5 h1_0 h2_0 h3_0 => K (.exit 0) (S4 (v2, v8, v19, h0_0, h0_1, h0_2, h0_3, h0_4, h0_5, h1_0, h2_0, h3_0)))
def E10 (K : AExit → ASt → Option R) : Y10 → Option R := (fun x => K (.exit 2) (S10 x))
noncomputable def L10 : LSpec := fun st K => vMap (V10 st) fun (v37, v38, h3_0, h2_0, h1_0, h0_0, h0_1, h0_2, h0_3, h0_4, h0_5, h4_0) => P.sha_engine_uint64_block_l10 v37 v38 h3_0 h2_0 h1_0 h0_0 h0_1 h0_2 h0_3 h0_4 h0_5 h4_0 (fun v37 v38 h3_0 h2_0 h1_0 h0_0 h0_1 h0_2 h0_3 h0_4 h0_5 h4_0 => K (.exit 2) (S10 (v37, v38, h3_0, h2_0, h1_0, h0_0, h0_1, h0_2, h0_3, h0_4, h0_5, h4_0)))
def E21 (K : AExit → ASt → Option R) : Y21 → Option R := (fun x => K (.exit 4) (S21 x))
noncomputable def L21 : LSpec := fun st K => vMap (V21 st) fun (v129, h1_0, h2_0, h4_0) => P.sha_engine_uint64_block_l21 v129 h1_0 h2_0 h4_0 (fun v129 h1_0 h2_0 h4_0 => K (.exit 4) (S21 (v129, h1_0, h2_0, h4_0)))
noncomputable def D : Ctx := ({ P := Tryd.prog, G := [(134, bits_Num.spec), (139, sha_root512.spec), (150, sha_engine_uint64_high.spec), (151, sha_engine_uint64_low.spec)], globs := [(1, [AVal.arr .u64 24 P.kcon]), (2, [AVal.arr .u32 64 P.roots256]), (3, [AVal.arr .u64 80 P.roots512]), (4, [AVal.arr .i64 24 P.kpla]), (5, [AVal.arr .i64 24 P.ktur])], hints := [(21, ⟨[4, 6, 10, 129], [], [6], [], some (120, [1, 2, 4]), []⟩), (10, ⟨[3, 4, 6, 7, 10, 37, 38], [], [6], [], none, []⟩), (4, ⟨[2, 3, 4, 6, 7, 8, 19], [], [6], [], none, []⟩)], loops := [(4, L4), (10, L10), (21, L21)], inl := [] } : Ctx)
theorem round4 (K) (next) (x) : roundA D (loopAt Tryd.f138 4) K next (S4 x) = T4 x (fun x => next (S4 x)) (E4 K) := by kernel_rfl
theorem lq4 (st) (K) : L4 st K = vMap (V4 st) (fun x => lp T4 x (E4 K)) := by
 unfold L4
 cases V4 st with
 | none => rfl
 | some x => rw [P.sha_engine_uint64_block_l4_eq]; kernel_rfl
theorem loop4 : LoopOk D (loopAt Tryd.f138 4) := loopOk_lp S4 V4_ok (by kernel_rfl) lq4 round4
theorem round10 (K) (next) (x) : roundA D (loopAt Tryd.f138 10) K next (S10 x) = T10 x (fun x => next (S10 x)) (E10 K) := by kernel_rfl
theorem lq10 (st) (K) : L10 st K = vMap (V10 st) (fun x => lp T10 x (E10 K)) := by
 unfold L10
 cases V10 st with
 | none => rfl
 | some x => rw [P.sha_engine_uint64_block_l10_eq]; kernel_rfl
theorem loop10 : LoopOk D (loopAt Tryd.f138 10) := loopOk_lp S10 V10_ok (by kernel_rfl) lq10 round10
theorem round21 (K) (next) (x) : roundA D (loopAt Tryd.f138 21) K next (S21 x) = T21 x (fun x => next (S21 x)) (E21 K) := by kernel_rfl
theorem lq21 (st) (K) : L21 st K = vMap (V21 st) (fun x => lp T21 x (E21 K)) := by
 unfold L21
 cases V21 st with
 | none => rfl
 | some x => rw [P.sha_engine_uint64_block_l21_eq]; kernel_rfl
theorem loop21 : LoopOk D (loopAt Tryd.f138 21) := loopOk_lp S21 V21_ok (by kernel_rfl) lq21 round21
theorem body (a0_bits : Int) (a0_rounds : Int) (a0_turns_0 : List Int) (a0_turns_1 : List Int) (a0_turns_2 : List Int) (a0_turns_3 : List Int) (a1 : List Int) (a2 : List Int) (K : AVal → Option R) : bodyA D Tryd.f138 [.any] [.agg [.v (.int .i64 a0_bits), .v (.int .i64 a0_rounds), .arr .i64 3 a0_turns_0, .arr .i64 3 a0_turns_1, .arr .i64 3 a0_turns_2, .arr .i64 3 a0_turns_3, .fn (.func 139) [] []], .arr .u64 8 a1, .sl (.ints .u8 a2)] K = P.sha_engine_uint64_block a0_bits a0_rounds a0_turns_0 a0_turns_1 a0_turns_2 a0_turns_3 a1 a2 (fun r0 => K (.arr .u64 8 r0)) := by
 rw [P.sha_engine_uint64_block_eq]
 kernel_rfl
theorem loops : loopsOf (Tryd.f138.body.getD .skip) = [loopAt Tryd.f138 4, loopAt Tryd.f138 10, loopAt Tryd.f138 21] := by kernel_rfl
noncomputable def spec0 : Abs.Spec := fun args K => match args with
 | [.agg [.v (.int .i64 a0_bits), .v (.int .i64 a0_rounds), .arr .i64 3 a0_turns_0, .arr .i64 3 a0_turns_1, .arr .i64 3 a0_turns_2, .arr .i64 3 a0_turns_3, .fn (.func 139) [] []], .arr .u64 8 a1, .sl (.ints .u8 a2)] => P.sha_engine_uint64_block a0_bits a0_rounds a0_turns_0 a0_turns_1 a0_turns_2 a0_turns_3 a1 a2 (fun r0 => K (.arr .u64 8 r0))
 | _ => none
noncomputable def spec : Abs.Spec := fun args K => spec0 (coerL [.any, .any, .sl (.ints .u8 [])] args) K
theorem ok0 : Proved Tryd.prog [(1, [AVal.arr .u64 24 P.kcon]), (2, [AVal.arr .u32 64 P.roots256]), (3, [AVal.arr .u64 80 P.roots512]), (4, [AVal.arr .i64 24 P.kpla]), (5, [AVal.arr .i64 24 P.ktur])] 138 spec0 := by
 refine proved_of (D := D) (fn := Tryd.f138) (c := Tryd.f138.body.getD .skip) [.any] (by kernel_rfl) (globsPlain_of (by kernel_rfl)) (by kernel_rfl) (by kernel_rfl) (by kernel_rfl) ⟨bits_Num.ok, sha_root512.ok, sha_engine_uint64_high.ok, sha_engine_uint64_low.ok, trivial⟩ trivial ?_ ?_
 · rw [loops]; exact ⟨loop4, loop10, loop21, trivial⟩
 · intro args K r h
   unfold spec0 at h
   split at h
   · rw [body]; exact h
   · cases h
theorem ok : Proved Tryd.prog [(1, [AVal.arr .u64 24 P.kcon]), (2, [AVal.arr .u32 64 P.roots256]), (3, [AVal.arr .u64 80 P.roots512]), (4, [AVal.arr .i64 24 P.kpla]), (5, [AVal.arr .i64 24 P.ktur])] 138 spec := proved_coer _ ok0
end sha_engine_uint64_block
end

section
open Go Go.Abs Go.Proofs
set_option maxRecDepth 100000
set_option maxHeartbeats 0
set_option linter.unusedVariables false
namespace sha_through_uint64
abbrev X3 := (List Int) × (List Int) × Int × Int × Int × (List Int) × (List Int) × (List Int) × (List Int) × (List Int) × (List Int) × (List Int)
def S3 : X3 → ASt := fun (v2, v14, v15, h0_0, h0_1, h0_2, h0_3, h0_4, h0_5, h1_0, h2_0, h3_0) => ⟨[(2, .sl (.ints .u8 v2)), (3, .ptr 0 0), (4, .ptr 1 0), (6, .ptr 2 0), (8, .ptr 3 0), (14, .arr .u64 8 v14), (15, .v (.int .i64 v15))], [(0, some ⟨.box 158 [.v (.int .i64 h0_0), .v (.int .i64 h0_1), .arr .i64 3 h0_2, .arr .i64 3 h0_3, .arr .i64 3 h0_4, .arr .i64 3 h0_5, .fn (.func 139) [] []], false⟩), (1, some ⟨.box 114 [.arr .u64 8 h1_0], false⟩), (2, some ⟨.box 114 [.arr .u64 8 h2_0], false⟩), (3, some ⟨.box 114 [.arr .u64 8 h3_0], false⟩)], 4, 50⟩
def V3 : ASt → Option X3
 | ⟨[(2, .sl (.ints .u8 v2)), (3, .ptr 0 0), (4, .ptr 1 0), (6, .ptr 2 0), (8, .ptr 3 0), (14, .arr .u64 8 v14), (15, .v (.int .i64 v15))], [(0, some ⟨.box 158 [.v (.int .i64 h0_0), .v (.int .i64 h0_1), .arr .i64 3 h0_2, .arr .i64 3 h0_3, .arr .i64 3 h0_4, .arr .i64 3 h0_5, .fn (.func 139) [] []], false⟩), (1, some ⟨.box 114 [.arr .u64 8 h1_0], false⟩), (2, some ⟨.box 114 [.arr .u64 8 h2_0], false⟩), (3, some ⟨.box 114 [.arr .u64 8 h3_0], false⟩)], 4, 50⟩ => some (v2, v14, v15, h0_0, h0_1, h0_2, h0_3, h0_4, h0_5, h1_0, h2_0, h3_0)
 | _ => none
theorem V3_ok (st) (x) (h : V3 st = some x) : st = S3 x := by
 unfold V3 at h
 split at h
 · cases h; rfl
 · cases h
abbrev Y3 := X3
noncomputable def T3 : X3 → (X3 → Option R) → (Y3 → Option R) → Option R := fun (v2, v14, v15, h0_0, h0_1, h0_2, h0_3, h0_4, h0_5, h1_0, h2_0, h3_0) next ex => P.sha_through_uint64_r3 v2 v14 v15 h0_0 h0_1 h0_2 h0_3 h0_4 h0_5 h1_0 h2_0 h3_0 (fun v2 v14 v15 h0_0 h0_1 h0_2 h0_3 h0_4 h0_5 h1_0 h2_0 h3_0 => next (v2, v14, v15, h0_0, h0_1, h0_2, h0_3, h0_4, h0_5, h1_0, h2_0, h3_0)) (fun v2 v14 v15 h0_0 h0_1 h0_2 h0_3 h0_4 h0_5 h1_0 h2_0 h3_0 => ex (v2, v14, v15, h0_0, h0_1, h0_2, h0_3, h0_4, h0_5, h1_0, h2_0, h3_0))
abbrev X8 := (List Int) × Int × (List Int) × (List Int) × (List Int) × Int × Int × (List Int) × (List Int) × (List Int) × (List Int)
def S8 : X8 → ASt := fun (v2, v11, h3_0, h2_0, h1_0, h0_0, h0_1, h0_2, h0_3, h0_4, h0_5) => ⟨[(2, .sl (.ints .u8 v2)), (3, .ptr 0 0), (4, .ptr 1 0), (6, .ptr 2 0), (8, .ptr 3 0), (11, .v (.int .i64 v11))], [(3, some ⟨.box 114 [.arr .u64 8 h3_0], false⟩), (2, some ⟨.box 114 [.arr .u64 8 h2_0], false⟩), (1, some ⟨.box 114 [.arr .u64 8 h1_0], false⟩), (0, some ⟨.box 158 [.v (.int .i64 h0_0), .v (.int .i64 h0_1), .arr .i64 3 h0_2, .arr .i64 3 h0_3, .arr .i64 3 h0_4, .arr .i64 3 h0_5, .fn (.func 139) [] []], false⟩)], 4, 50⟩
def V8 : ASt → Option X8
 | ⟨[(2, .sl (.ints .u8 v2)), (3, .ptr 0 0), (4, .ptr 1 0), (6, .ptr 2 0), (8, .ptr 3 0), (11, .v (.int .i64 v11))], [(3, some ⟨.box 114 [.arr .u64 8 h3_0], false⟩), (2, some ⟨.box 114 [.arr .u64 8 h2_0], false⟩), (1, some ⟨.box 114 [.arr .u64 8 h1_0], false⟩), (0, some ⟨.box 158 [.v (.int .i64 h0_0), .v (.int .i64 h0_1), .arr .i64 3 h0_2, .arr .i64 3 h0_3, .arr .i64 3 h0_4, .arr .i64 3 h0_5, .fn (.func 139) [] []], false⟩)], 4, 50⟩ => some (v2, v11, h3_0, h2_0, h1_0, h0_0, h0_1, h0_2, h0_3, h0_4, h0_5)
 | _ => none
theorem V8_ok (st) (x) (h : V8 st = some x) : st = S8 x := by
 unfold V8 at h
 split at h
 · cases h; rfl
 · cases h
abbrev Y8 := X8
noncomputable def T8 : X8 → (X8 → Option R) → (Y8 → Option R) → Option R := fun (v2, v11, h3_0, h2_0, h1_0, h0_0, h0_1, h0_2, h0_3, h0_4, h0_5) next ex => P.sha_through_uint64_r8 v2 v11 h3_0 h2_0 h1_0 h0_0 h0_1 h0_2 h0_3 h0_4 h0_5 (fun v2 v11 h3_0 h2_0 h1_0 h0_0 h0_1 h0_2 h0_3 h0_4 h0_5 => next (v2, v11, h3_0, h2_0, h1_0, h0_0, h0_1, h0_2, h0_3, h0_4, h0_5)) (fun v2 v11 h3_0 h2_0 h1_0 h0_0 h0_1 h0_2 h0_3 h0_4 h0_5 => ex (v2, v11, h3_0, h2_0, h1_0, h0_0, h0_1, h0_2, h0_3, h0_4, h0_5))
abbrev X12 := (List Int) × (List Int) × Int × (List Int) × (List Int)
def S12 : X12 → ASt := fun (v2, v39, v40, h1_0, h2_0) => ⟨[(2, .sl (.ints .u8 v2)), (4, .ptr 1 0), (6, .ptr 2 0), (39, .arr .u64 8 v39), (40, .v (.int .i64 v40))], [(1, some ⟨.box 114 [.arr .u64 8 h1_0], false⟩), (2, some ⟨.box 114 [.arr .u64 8 h2_0], false⟩)], 120, 50⟩
def V12 : ASt → Option X12
 | ⟨[(2, .sl (.ints .u8 v2)), (4, .ptr 1 0), (6, .ptr 2 0), (39, .arr .u64 8 v39), (40, .v (.int .i64 v40))], [(1, some ⟨.box 114 [.arr .u64 8 h1_0], false⟩), (2, some ⟨.box 114 [.arr .u64 8 h2_0], false⟩)], 120, 50⟩ => some (v2, v39, v40, h1_0, h2_0)
 | _ => none
theorem V12_ok (st) (x) (h : V12 st = some x) : st = S12 x := by
 unfold V12 at h
 split at h
 · cases h; rfl
 · cases h
abbrev Y12 := X12
noncomputable def T12 : X12 → (X12 → Option R) → (Y12 → Option R) → Option R := fun (v2, v39, v40, h1_0, h2_0) next ex => P.sha_through_uint64_r12 v2 v39 v40 h1_0 h2_0 (fun v2 v39 v40 h1_0 h2_0 => next (v2, v39, v40, h1_0, h2_0)) (fun v2 v39 v40 h1_0 h2_0 => ex (v2, v39, v40, h1_0, h2_0))
def E3 (K : AExit → ASt → Option R) : Y3 → Option R := (fun x => K (.exit 0) (S3 x))
noncomputable def L3 : LSpec := fun st K => vMap (V3 st) fun (v2, v14, v15, h0_0, h0_1, h0_2, h0_3, h0_4, h0_5, h1_0, h2_0, h3_0) => P.sha_through_uint64_l3 v2 v14 v15 h0_0 h0_1 h0_2 h0_3 h0_4 h0_5 h1_0 h2_0 h3_0 (fun v2 v14 v15 h0_0 h0_1 h0_2 h0_3 h0_4 h0_5 h1_0 h2_0 h3_0 => K (.exit 0) (S3 (v2, v14, v15, h0_0, h0_1, h0_2, h0_3, h0_4, h0_5, h1_0, h2_0, h3_0)))
def E8 (K : AExit → ASt → Option R) : Y8 → Option R := (fun x => K (.exit 2) (S8 x))
noncomputable def L8 : LSpec := fun st K => vMap (V8 st) fun (v2, v11, h3_0, h2_0, h1_0, h0_0, h0_1, h0_2, h0_3, h0_4, h0_5) => P.sha_through_uint64_l8 v2 v11 h3_0 h2_0 h1_0 h0_0 h0_1 h0_2 h0_3 h0_4 h0_5 (fun v2 v11 h3_0 h2_0 h1_0 h0_0 h0_1 h0_2 h0_3 h0_4 h0_5 => K (.exit 2) (S8 (v2, v11, h3_0, h2_0, h1_0, h0_0, h0_1, h0_2, h0_3, h0_4, h0_5)))
def E12 (K : AExit → ASt → Option R) : Y12 → Option R := (fun x => K (.exit 4) (S12 x))
noncomputable def L12 : LSpec := fun st K => vMap (V12 st) fun (v2, v39, v40, h1_0, h2_0) => P.sha_through_uint64_l12 v2 v39 v40 h1_0 h2_0 (fun v2 v39 v40 h1_0 h2_0 => K (.exit 4) (S12 (v2, v39, v40, h1_0, h2_0)))
noncomputable def D : Ctx := ({ P := Tryd.prog, G := [(138, sha_engine_uint64_block.spec), (139, sha_root512.spec)], globs := [(1, [AVal.arr .u64 24 P.kcon]), (2, [AVal.arr .u32 64 P.roots256]), (3, [AVal.arr .u64 80 P.roots512]), (4, [AVal.arr .i64 24 P.kpla]), (5, [AVal.arr .i64 24 P.ktur])], hints := [(12, ⟨[2, 4, 6, 39, 40], [], [6, 7], [], some (120, [1, 2]), []⟩), (8, ⟨[2, 3, 4, 6, 8, 11], [], [6, 7], [(2, .sl (.ints .u8 []))], none, []⟩), (3, ⟨[2, 3, 4, 6, 8, 14, 15], [], [6, 7], [], none, []⟩)], loops := [(3, L3), (8, L8), (12, L12)], inl := [] } : Ctx)
theorem round3 (K) (next) (x) : roundA D (loopAt Tryd.f119 3) K next (S3 x) = T3 x (fun x => next (S3 x)) (E3 K) := by kernel_rfl
theorem lq3 (st) (K) : L3 st K = vMap (V3 st) (fun x => lp T3 x (E3 K)) := by
 unfold L3
 cases V3 st with
 | none => rfl
 | some x => rw [P.sha_through_uint64_l3_eq]; kernel_rfl
theorem loop3 : LoopOk D (loopAt Tryd.f119 3) := loopOk_lp S3 V3_ok (by kernel_rfl) lq3 round3
theorem round8 (K) (next) (x) : roundA D (loopAt Tryd.f119 8) K next (S8 x) = T8 x (fun x => next (S8 x)) (E8 K) := by kernel_rfl
theorem lq8 (st) (K) : L8 st K = vMap (V8 st) (fun x => lp T8 x (E8 K)) := by
 unfold L8
 cases V8 st with
 | none => rfl
 | some x => rw [P.sha_through_uint64_l8_eq]; kernel_rfl
theorem loop8 : LoopOk D (loopAt Tryd.f119 8) := loopOk_lp S8 V8_ok (by kernel_rfl) lq8 round8
theorem round12 (K) (next) (x) : roundA D (loopAt Tryd.f119 12) K next (S12 x) = T12 x (fun x => next (S12 x)) (E12 K) := by kernel_rfl
theorem lq12 (st) (K) : L12 st K = vMap (V12 st) (fun x => lp T12 x (E12 K)) := by
 unfold L12
 cases V12 st with
 | none => rfl
 | some x => rw [P.sha_through_uint64_l12_eq]; kernel_rfl
theorem loop12 : LoopOk D (loopAt Tryd.f119 12) := loopOk_lp S12 V12_ok (by kernel_rfl) lq12 round12
theorem body (a0_bits : Int) (a0_rounds : Int) (a0_turns_0 : List Int) (a0_turns_1 : List Int) (a0_turns_2 : List Int) (a0_turns_3 : List Int) (a1 : List Int) (a2 : List Int) (K : AVal → Option R) : bodyA D Tryd.f119 [.any, .sl (.ints .u8 [])] [.agg [.v (.int .i64 a0_bits), .v (.int .i64 a0_rounds), .arr .i64 3 a0_turns_0, .arr .i64 3 a0_turns_1, .arr .i64 3 a0_turns_2, .arr .i64 3 a0_turns_3, .fn (.func 139) [] []], .arr .u64 8 a1, .sl (.ints .u8 a2)] K = P.sha_through_uint64 a0_bits a0_rounds a0_turns_0 a0_turns_1 a0_turns_2 a0_turns_3 a1 a2 (fun r0 r1 => K (.tuple [.arr .u64 8 r0, .sl (.ints .u8 r1)])) := by
 rw [P.sha_through_uint64_eq]
 kernel_rfl
theorem loops : loopsOf (Tryd.f119.body.getD .skip) = [loopAt Tryd.f119 3, loopAt Tryd.f119 8, loopAt Tryd.f119 12] := by kernel_rfl
noncomputable def spec0 : Abs.Spec := fun args K => match args with
 | [.agg [.v (.int .i64 a0_bits), .v (.int .i64 a0_rounds), .arr .i64 3 a0_turns_0, .arr .i64 3 a0_turns_1, .arr .i64 3 a0_turns_2, .arr .i64 3 a0_turns_3, .fn (.func 139) [] []], .arr .u64 8 a1, .sl (.ints .u8 a2)] => P.sha_through_uint64 a0_bits a0_rounds a0_turns_0 a0_turns_1 a0_turns_2 a0_turns_3 a1 a2 (fun r0 r1 => K (.tuple [.arr .u64 8 r0, .sl (.ints .u8 r1)]))
 | _ => none
noncomputable def spec : Abs.Spec := fun args K => spec0 (coerL [.any, .any, .sl (.ints .u8 [])] args) K
theorem ok0 : Proved Tryd.prog [(1, [AVal.arr .u64 24 P.kcon]), (2, [AVal.arr .u32 64 P.roots256]), (3, [AVal.arr .u64 80 P.roots512]), (4, [AVal.arr .i64 24 P.kpla]), (5, [AVal.arr .i64 24 P.ktur])] 119 spec0 := by
 refine proved_of (D := D) (fn := Tryd.f119) (c := Tryd.f119.body.getD .skip) [.any, .sl (.ints .u8 [])] (by kernel_rfl) (globsPlain_of (by kernel_rfl)) (by kernel_rfl) (by kernel_rfl) (by kernel_rfl) ⟨sha_engine_uint64_block.ok, sha_root512.ok, trivial⟩ trivial ?_ ?_
 · rw [loops]; exact ⟨loop3, loop8, loop12, trivial⟩
 · intro args K r h
   unfold spec0 at h
   split at h
   · rw [body]; exact h
   · cases h
theorem ok : Proved Tryd.prog [(1, [AVal.arr .u64 24 P.kcon]), (2, [AVal.arr .u32 64 P.roots256]), (3, [AVal.arr .u64 80 P.roots512]), (4, [AVal.arr .i64 24 P.kpla]), (5, [AVal.arr .i64 24 P.ktur])] 119 spec := proved_coer _ ok0
end sha_through_uint64
end
