/-
  WotsRight, part O: an interpreter of my own over abstract values, the pure functions, the walks and the plain law.
-/

import Derived.Test.YtjhnljhjpnjieaaDoorWotsRightG
import Derived.Test.YtjhnljhjpnjieaaDoorWotsRightF
import Derived.Test.YtjhnljhjpnjieaaDoorProg
import Derived.Test.YtjhnljhjpnjieaaDoorWotsRightN
import Derived.KernelRfl

section
open Go Go.Abs Go.Proofs
set_option maxRecDepth 100000
set_option maxHeartbeats 0
set_option linter.unusedVariables false
namespace keccak_Permute
abbrev X2_2 := Int × (List Int) × (List Int) × (List Int)
def S2_2 : X2_2 → ASt := fun (v4, h1_0, h0_0, h2_0) => ⟨[(0, .ptr 0 0), (2, .ptr 2 0), (4, .v (.int .i64 v4))], [(1, some ⟨.box 121 [.arr .u64 25 h1_0], false⟩), (0, some ⟨.box 121 [.arr .u64 25 h0_0], false⟩), (2, some ⟨.box 189 [.arr .u64 5 h2_0], false⟩)], 3, 44⟩
def V2_2 : ASt → Option X2_2
 | ⟨[(0, .ptr 0 0), (2, .ptr 2 0), (4, .v (.int .i64 v4))], [(1, some ⟨.box 121 [.arr .u64 25 h1_0], false⟩), (0, some ⟨.box 121 [.arr .u64 25 h0_0], false⟩), (2, some ⟨.box 189 [.arr .u64 5 h2_0], false⟩)], 3, 44⟩ => some (v4, h1_0, h0_0, h2_0)
 | _ => none
theorem V2_2_ok (st) (x) (h : V2_2 st = some x) : st = S2_2 x := by
 unfold V2_2 at h
 split at h
 · cases h; rfl
 · cases h
abbrev Y2_2 := X2_2
noncomputable def T2_2 : X2_2 → (X2_2 → Option R) → (Y2_2 → Option R) → Option R := fun (v4, h1_0, h0_0, h2_0) next ex => P.keccak_Permute_r2_2 v4 h1_0 h0_0 h2_0 (fun v4 h1_0 h0_0 h2_0 => next (v4, h1_0, h0_0, h2_0)) (fun v4 h1_0 h0_0 h2_0 => ex (v4, h1_0, h0_0, h2_0))
abbrev X1_6 := Int × Int × Int × Int × Int × (List Int) × (List Int) × (List Int) × (List Int)
def S1_6 : X1_6 → ASt := fun (v1, v5, v6, v7, v16, h3_0, h2_0, h1_0, h0_0) => ⟨[(0, .ptr 0 0), (1, .v (.int .u64 v1)), (4, .ptr 3 0), (5, .v (.int .i64 v5)), (6, .v (.int .u64 v6)), (7, .v (.int .i64 v7)), (16, .v (.int .i64 v16))], [(3, some ⟨.box 189 [.arr .u64 5 h3_0], false⟩), (2, some ⟨.box 189 [.arr .u64 5 h2_0], false⟩), (1, some ⟨.box 121 [.arr .u64 25 h1_0], false⟩), (0, some ⟨.box 121 [.arr .u64 25 h0_0], false⟩)], 4, 116⟩
def V1_6 : ASt → Option X1_6
 | ⟨[(0, .ptr 0 0), (1, .v (.int .u64 v1)), (4, .ptr 3 0), (5, .v (.int .i64 v5)), (6, .v (.int .u64 v6)), (7, .v (.int .i64 v7)), (16, .v (.int .i64 v16))], [(3, some ⟨.box 189 [.arr .u64 5 h3_0], false⟩), (2, some ⟨.box 189 [.arr .u64 5 h2_0], false⟩), (1, some ⟨.box 121 [.arr .u64 25 h1_0], false⟩), (0, some ⟨.box 121 [.arr .u64 25 h0_0], false⟩)], 4, 116⟩ => some (v1, v5, v6, v7, v16, h3_0, h2_0, h1_0, h0_0)
 | _ => none
theorem V1_6_ok (st) (x) (h : V1_6 st = some x) : st = S1_6 x := by
 unfold V1_6 at h
 split at h
 · cases h; rfl
 · cases h
abbrev Y1_6 := X1_6
noncomputable def T1_6 : X1_6 → (X1_6 → Option R) → (Y1_6 → Option R) → Option R := fun (v1, v5, v6, v7, v16, h3_0, h2_0, h1_0, h0_0) next ex => P.keccak_Permute_r1_6 v1 v5 v6 v7 v16 h3_0 h2_0 h1_0 h0_0 (fun v1 v5 v6 v7 v16 h3_0 h2_0 h1_0 h0_0 => next (v1, v5, v6, v7, v16, h3_0, h2_0, h1_0, h0_0)) (fun v1 v5 v6 v7 v16 h3_0 h2_0 h1_0 h0_0 => ex (v1, v5, v6, v7, v16, h3_0, h2_0, h1_0, h0_0))
abbrev X1_2 := Int × Int × (List Int) × (List Int) × (List Int) × (List Int)
def S1_2 : X1_2 → ASt := fun (v1, v16, h0_0, h1_0, h2_0, h3_0) => ⟨[(0, .ptr 0 0), (1, .v (.int .u64 v1)), (4, .ptr 3 0), (16, .v (.int .i64 v16))], [(0, some ⟨.box 121 [.arr .u64 25 h0_0], false⟩), (1, some ⟨.box 121 [.arr .u64 25 h1_0], false⟩), (2, some ⟨.box 189 [.arr .u64 5 h2_0], false⟩), (3, some ⟨.box 189 [.arr .u64 5 h3_0], false⟩)], 4, 116⟩
def V1_2 : ASt → Option X1_2
 | ⟨[(0, .ptr 0 0), (1, .v (.int .u64 v1)), (4, .ptr 3 0), (16, .v (.int .i64 v16))], [(0, some ⟨.box 121 [.arr .u64 25 h0_0], false⟩), (1, some ⟨.box 121 [.arr .u64 25 h1_0], false⟩), (2, some ⟨.box 189 [.arr .u64 5 h2_0], false⟩), (3, some ⟨.box 189 [.arr .u64 5 h3_0], false⟩)], 4, 116⟩ => some (v1, v16, h0_0, h1_0, h2_0, h3_0)
 | _ => none
theorem V1_2_ok (st) (x) (h : V1_2 st = some x) : st = S1_2 x := by
 unfold V1_2 at h
 split at h
 · cases h; rfl
 · cases h
abbrev Y1_2 := X1_2
noncomputable def T1_2 : X1_2 → (X1_2 → Option R) → (Y1_2 → Option R) → Option R := fun (v1, v16, h0_0, h1_0, h2_0, h3_0) next ex => P.keccak_Permute_r1_2 v1 v16 h0_0 h1_0 h2_0 h3_0 (fun v1 v16 h0_0 h1_0 h2_0 h3_0 => next (v1, v16, h0_0, h1_0, h2_0, h3_0)) (fun v1 v16 h0_0 h1_0 h2_0 h3_0 => ex (v1, v16, h0_0, h1_0, h2_0, h3_0))
abbrev X1_12 := Int × Int × (List Int) × Int × (List Int) × (List Int) × (List Int) × (List Int)
def S1_12 : X1_12 → ASt := fun (v1, v8, v51, v52, h3_0, h2_0, h1_0, h0_0) => ⟨[(0, .ptr 0 0), (1, .v (.int .u64 v1)), (8, .v (.int .u64 v8)), (51, .arr .i64 24 v51), (52, .v (.int .i64 v52))], [(3, some ⟨.box 189 [.arr .u64 5 h3_0], false⟩), (2, some ⟨.box 189 [.arr .u64 5 h2_0], false⟩), (1, some ⟨.box 121 [.arr .u64 25 h1_0], false⟩), (0, some ⟨.box 121 [.arr .u64 25 h0_0], false⟩)], 4, 116⟩
def V1_12 : ASt → Option X1_12
 | ⟨[(0, .ptr 0 0), (1, .v (.int .u64 v1)), (8, .v (.int .u64 v8)), (51, .arr .i64 24 v51), (52, .v (.int .i64 v52))], [(3, some ⟨.box 189 [.arr .u64 5 h3_0], false⟩), (2, some ⟨.box 189 [.arr .u64 5 h2_0], false⟩), (1, some ⟨.box 121 [.arr .u64 25 h1_0], false⟩), (0, some ⟨.box 121 [.arr .u64 25 h0_0], false⟩)], 4, 116⟩ => some (v1, v8, v51, v52, h3_0, h2_0, h1_0, h0_0)
 | _ => none
theorem V1_12_ok (st) (x) (h : V1_12 st = some x) : st = S1_12 x := by
 unfold V1_12 at h
 split at h
 · cases h; rfl
 · cases h
abbrev Y1_12 := X1_12
noncomputable def T1_12 : X1_12 → (X1_12 → Option R) → (Y1_12 → Option R) → Option R := fun (v1, v8, v51, v52, h3_0, h2_0, h1_0, h0_0) next ex => P.keccak_Permute_r1_12 v1 v8 v51 v52 h3_0 h2_0 h1_0 h0_0 (fun v1 v8 v51 v52 h3_0 h2_0 h1_0 h0_0 => next (v1, v8, v51, v52, h3_0, h2_0, h1_0, h0_0)) (fun v1 v8 v51 v52 h3_0 h2_0 h1_0 h0_0 => ex (v1, v8, v51, v52, h3_0, h2_0, h1_0, h0_0))
abbrev X1_21 := Int × Int × Int × (List Int) × (List Int) × (List Int) × (List Int) × (List Int)
def S1_21 : X1_21 → ASt := fun (v1, v11, v83, h3_0, h2_0, h1_0, h0_0, h4_0) => ⟨[(0, .ptr 0 0), (1, .v (.int .u64 v1)), (11, .v (.int .i64 v11)), (12, .ptr 4 0), (83, .v (.int .i64 v83))], [(3, some ⟨.box 189 [.arr .u64 5 h3_0], false⟩), (2, some ⟨.box 189 [.arr .u64 5 h2_0], false⟩), (1, some ⟨.box 121 [.arr .u64 25 h1_0], false⟩), (0, some ⟨.box 121 [.arr .u64 25 h0_0], false⟩), (4, some ⟨.box 189 [.arr .u64 5 h4_0], false⟩)], 5, 116⟩
def V1_21 : ASt → Option X1_21
 | ⟨[(0, .ptr 0 0), (1, .v (.int .u64 v1)), (11, .v (.int .i64 v11)), (12, .ptr 4 0), (83, .v (.int .i64 v83))], [(3, some ⟨.box 189 [.arr .u64 5 h3_0], false⟩), (2, some ⟨.box 189 [.arr .u64 5 h2_0], false⟩), (1, some ⟨.box 121 [.arr .u64 25 h1_0], false⟩), (0, some ⟨.box 121 [.arr .u64 25 h0_0], false⟩), (4, some ⟨.box 189 [.arr .u64 5 h4_0], false⟩)], 5, 116⟩ => some (v1, v11, v83, h3_0, h2_0, h1_0, h0_0, h4_0)
 | _ => none
theorem V1_21_ok (st) (x) (h : V1_21 st = some x) : st = S1_21 x := by
 unfold V1_21 at h
 split at h
 · cases h; rfl
 · cases h
abbrev Y1_21 := X1_21
noncomputable def T1_21 : X1_21 → (X1_21 → Option R) → (Y1_21 → Option R) → Option R := fun (v1, v11, v83, h3_0, h2_0, h1_0, h0_0, h4_0) next ex => P.keccak_Permute_r1_21 v1 v11 v83 h3_0 h2_0 h1_0 h0_0 h4_0 (fun v1 v11 v83 h3_0 h2_0 h1_0 h0_0 h4_0 => next (v1, v11, v83, h3_0, h2_0, h1_0, h0_0, h4_0)) (fun v1 v11 v83 h3_0 h2_0 h1_0 h0_0 h4_0 => ex (v1, v11, v83, h3_0, h2_0, h1_0, h0_0, h4_0))
abbrev X1_17 := Int × Int × (List Int) × (List Int) × (List Int) × (List Int)
def S1_17 : X1_17 → ASt := fun (v1, v11, h0_0, h1_0, h2_0, h3_0) => ⟨[(0, .ptr 0 0), (1, .v (.int .u64 v1)), (11, .v (.int .i64 v11))], [(0, some ⟨.box 121 [.arr .u64 25 h0_0], false⟩), (1, some ⟨.box 121 [.arr .u64 25 h1_0], false⟩), (2, some ⟨.box 189 [.arr .u64 5 h2_0], false⟩), (3, some ⟨.box 189 [.arr .u64 5 h3_0], false⟩)], 4, 116⟩
def V1_17 : ASt → Option X1_17
 | ⟨[(0, .ptr 0 0), (1, .v (.int .u64 v1)), (11, .v (.int .i64 v11))], [(0, some ⟨.box 121 [.arr .u64 25 h0_0], false⟩), (1, some ⟨.box 121 [.arr .u64 25 h1_0], false⟩), (2, some ⟨.box 189 [.arr .u64 5 h2_0], false⟩), (3, some ⟨.box 189 [.arr .u64 5 h3_0], false⟩)], 4, 116⟩ => some (v1, v11, h0_0, h1_0, h2_0, h3_0)
 | _ => none
theorem V1_17_ok (st) (x) (h : V1_17 st = some x) : st = S1_17 x := by
 unfold V1_17 at h
 split at h
 · cases h; rfl
 · cases h
abbrev Y1_17 := X1_17
noncomputable def T1_17 : X1_17 → (X1_17 → Option R) → (Y1_17 → Option R) → Option R := fun (v1, v11, h0_0, h1_0, h2_0, h3_0) next ex => P.keccak_Permute_r1_17 v1 v11 h0_0 h1_0 h2_0 h3_0 (fun v1 v11 h0_0 h1_0 h2_0 h3_0 => next (v1, v11, h0_0, h1_0, h2_0, h3_0)) (fun v1 v11 h0_0 h1_0 h2_0 h3_0 => ex (v1, v11, h0_0, h1_0, h2_0, h3_0))
abbrev X2 := (List Int) × Int × (List Int) × (List Int)
def S2 : X2 → ASt := fun (v5, v6, h0_0, h1_0) => ⟨[(1, .ptr 0 0), (2, .ptr 1 0), (5, .arr .u64 24 v5), (6, .v (.int .i64 v6))], [(0, some ⟨.box 121 [.arr .u64 25 h0_0], false⟩), (1, some ⟨.box 121 [.arr .u64 25 h1_0], false⟩)], 2, 13⟩
def V2 : ASt → Option X2
 | ⟨[(1, .ptr 0 0), (2, .ptr 1 0), (5, .arr .u64 24 v5), (6, .v (.int .i64 v6))], [(0, some ⟨.box 121 [.arr .u64 25 h0_0], false⟩), (1, some ⟨.box 121 [.arr .u64 25 h1_0], false⟩)], 2, 13⟩ => some (v5, v6, h0_0, h1_0)
 | _ => none
theorem V2_ok (st) (x) (h : V2 st = some x) : st = S2 x := by
 unfold V2 at h
 split at h
 · cases h; rfl
 · cases h
abbrev Y2 := X2
noncomputable def T2 : X2 → (X2 → Option R) → (Y2 → Option R) → Option R := fun (v5, v6, h0_0, h1_0) next ex => P.keccak_Permute_r2 v5 v6 h0_0 h1_0 (fun v5 v6 h0_0 h1_0 => next (v5, v6, h0_0, h1_0)) (fun v5 v6 h0_0 h1_0 => ex (v5, v6, h0_0, h1_0))
def E2_2 (K : AExit → ASt → Option R) : Y2_2 → Option R := (fun x => K (.exit 0) (S2_2 x))
noncomputable def L2_2 : LSpec := fun st K => vMap (V2_2 st) fun (v4, h1_0, h0_0, h2_0) => P.keccak_Permute_l2_2 v4 h1_0 h0_0 h2_0 (fun v4 h1_0 h0_0 h2_0 => K (.exit 0) (S2_2 (v4, h1_0, h0_0, h2_0)))
def E1_6 (K : AExit → ASt → Option R) : Y1_6 → Option R := (fun x => K (.exit 2) (S1_6 x))
noncomputable def L1_6 : LSpec := fun st K => vMap (V1_6 st) fun (v1, v5, v6, v7, v16, h3_0, h2_0, h1_0, h0_0) => P.keccak_Permute_l1_6 v1 v5 v6 v7 v16 h3_0 h2_0 h1_0 h0_0 (fun v1 v5 v6 v7 v16 h3_0 h2_0 h1_0 h0_0 => K (.exit 2) (S1_6 (v1, v5, v6, v7, v16, h3_0, h2_0, h1_0, h0_0)))
def E1_2 (K : AExit → ASt → Option R) : Y1_2 → Option R := (fun x => K (.exit 0) (S1_2 x))
noncomputable def L1_2 : LSpec := fun st K => vMap (V1_2 st) fun (v1, v16, h0_0, h1_0, h2_0, h3_0) => P.keccak_Permute_l1_2 v1 v16 h0_0 h1_0 h2_0 h3_0 (fun v1 v16 h0_0 h1_0 h2_0 h3_0 => K (.exit 0) (S1_2 (v1, v16, h0_0, h1_0, h2_0, h3_0)))
def E1_12 (K : AExit → ASt → Option R) : Y1_12 → Option R := (fun x => K (.exit 4) (S1_12 x))
noncomputable def L1_12 : LSpec := fun st K => vMap (V1_12 st) fun (v1, v8, v51, v52, h3_0, h2_0, h1_0, h0_0) => P.keccak_Permute_l1_12 v1 v8 v51 v52 h3_0 h2_0 h1_0 h0_0 (fun v1 v8 v51 v52 h3_0 h2_0 h1_0 h0_0 => K (.exit 4) (S1_12 (v1, v8, v51, v52, h3_0, h2_0, h1_0, h0_0)))
def E1_21 (K : AExit → ASt → Option R) : Y1_21 → Option R := (fun x => K (.exit 8) (S1_21 x))
noncomputable def L1_21 : LSpec := fun st K => vMap (V1_21 st) fun (v1, v11, v83, h3_0, h2_0, h1_0, h0_0, h4_0) => P.keccak_Permute_l1_21 v1 v11 v83 h3_0 h2_0 h1_0 h0_0 h4_0 (fun v1 v11 v83 h3_0 h2_0 h1_0 h0_0 h4_0 => K (.exit 8) (S1_21 (v1, v11, v83, h3_0, h2_0, h1_0, h0_0, h4_0)))
def E1_17 (K : AExit → ASt → Option R) : Y1_17 → Option R := (fun x => K (.exit 6) (S1_17 x))
noncomputable def L1_17 : LSpec := fun st K => vMap (V1_17 st) fun (v1, v11, h0_0, h1_0, h2_0, h3_0) => P.keccak_Permute_l1_17 v1 v11 h0_0 h1_0 h2_0 h3_0 (fun v1 v11 h0_0 h1_0 h2_0 h3_0 => K (.exit 6) (S1_17 (v1, v11, h0_0, h1_0, h2_0, h3_0)))
def E2 (K : AExit → ASt → Option R) : Y2 → Option R := (fun x => K (.exit 0) (S2 x))
noncomputable def L2 : LSpec := fun st K => vMap (V2 st) fun (v5, v6, h0_0, h1_0) => P.keccak_Permute_l2 v5 v6 h0_0 h1_0 (fun v5 v6 h0_0 h1_0 => K (.exit 0) (S2 (v5, v6, h0_0, h1_0)))
noncomputable def D2 : Ctx := ({ P := Tryd.prog, G := [(153, math_bits_RotateLeft64.spec)], globs := [(1, [AVal.arr .u64 24 P.kcon]), (2, [AVal.arr .u32 64 P.roots256]), (3, [AVal.arr .u64 80 P.roots512]), (4, [AVal.arr .i64 24 P.kpla]), (5, [AVal.arr .i64 24 P.ktur])], hints := [(2, ⟨[0, 2, 4], [], [2], [], none, []⟩)], loops := [(2, L2_2)], inl := [] } : Ctx)
noncomputable def D1 : Ctx := ({ P := Tryd.prog, G := [(153, math_bits_RotateLeft64.spec)], globs := [(1, [AVal.arr .u64 24 P.kcon]), (2, [AVal.arr .u32 64 P.roots256]), (3, [AVal.arr .u64 80 P.roots512]), (4, [AVal.arr .i64 24 P.kpla]), (5, [AVal.arr .i64 24 P.ktur])], hints := [(21, ⟨[0, 1, 11, 12, 83], [], [], [], none, []⟩), (17, ⟨[0, 1, 11], [], [], [], none, []⟩), (12, ⟨[0, 1, 8, 51, 52], [], [], [], none, []⟩), (6, ⟨[0, 1, 4, 5, 6, 7, 16], [], [], [], none, []⟩), (2, ⟨[0, 1, 4, 16], [], [], [], none, []⟩)], loops := [(6, L1_6), (2, L1_2), (12, L1_12), (21, L1_21), (17, L1_17)], inl := [(152, bodyIn D2 Tryd.f152)] } : Ctx)
noncomputable def D : Ctx := ({ P := Tryd.prog, G := [(153, math_bits_RotateLeft64.spec)], globs := [(1, [AVal.arr .u64 24 P.kcon]), (2, [AVal.arr .u32 64 P.roots256]), (3, [AVal.arr .u64 80 P.roots512]), (4, [AVal.arr .i64 24 P.kpla]), (5, [AVal.arr .i64 24 P.ktur])], hints := [(2, ⟨[1, 2, 5, 6], [], [2], [], none, []⟩)], loops := [(2, L2)], inl := [(140, bodyIn D1 Tryd.f140)] } : Ctx)
theorem round2_2 (K) (next) (x) : roundA D2 (loopAt Tryd.f152 2) K next (S2_2 x) = T2_2 x (fun x => next (S2_2 x)) (E2_2 K) := by kernel_rfl
theorem lq2_2 (st) (K) : L2_2 st K = vMap (V2_2 st) (fun x => lp T2_2 x (E2_2 K)) := by
 unfold L2_2
 cases V2_2 st with
 | none => rfl
 | some x => rw [P.keccak_Permute_l2_2_eq]; kernel_rfl
theorem loop2_2 : LoopOk D2 (loopAt Tryd.f152 2) := loopOk_lp S2_2 V2_2_ok (by kernel_rfl) lq2_2 round2_2
theorem round1_6 (K) (next) (x) : roundA D1 (loopAt Tryd.f140 6) K next (S1_6 x) = T1_6 x (fun x => next (S1_6 x)) (E1_6 K) := by kernel_rfl
theorem lq1_6 (st) (K) : L1_6 st K = vMap (V1_6 st) (fun x => lp T1_6 x (E1_6 K)) := by
 unfold L1_6
 cases V1_6 st with
 | none => rfl
 | some x => rw [P.keccak_Permute_l1_6_eq]; kernel_rfl
theorem loop1_6 : LoopOk D1 (loopAt Tryd.f140 6) := loopOk_lp S1_6 V1_6_ok (by kernel_rfl) lq1_6 round1_6
theorem round1_2 (K) (next) (x) : roundA D1 (loopAt Tryd.f140 2) K next (S1_2 x) = T1_2 x (fun x => next (S1_2 x)) (E1_2 K) := by kernel_rfl
theorem lq1_2 (st) (K) : L1_2 st K = vMap (V1_2 st) (fun x => lp T1_2 x (E1_2 K)) := by
 unfold L1_2
 cases V1_2 st with
 | none => rfl
 | some x => rw [P.keccak_Permute_l1_2_eq]; kernel_rfl
theorem loop1_2 : LoopOk D1 (loopAt Tryd.f140 2) := loopOk_lp S1_2 V1_2_ok (by kernel_rfl) lq1_2 round1_2
theorem round1_12 (K) (next) (x) : roundA D1 (loopAt Tryd.f140 12) K next (S1_12 x) = T1_12 x (fun x => next (S1_12 x)) (E1_12 K) := by kernel_rfl
theorem lq1_12 (st) (K) : L1_12 st K = vMap (V1_12 st) (fun x => lp T1_12 x (E1_12 K)) := by
 unfold L1_12
 cases V1_12 st with
 | none => rfl
 | some x => rw [P.keccak_Permute_l1_12_eq]; kernel_rfl
theorem loop1_12 : LoopOk D1 (loopAt Tryd.f140 12) := loopOk_lp S1_12 V1_12_ok (by kernel_rfl) lq1_12 round1_12
theorem round1_21 (K) (next) (x) : roundA D1 (loopAt Tryd.f140 21) K next (S1_21 x) = T1_21 x (fun x => next (S1_21 x)) (E1_21 K) := by kernel_rfl
theorem lq1_21 (st) (K) : L1_21 st K = vMap (V1_21 st) (fun x => lp T1_21 x (E1_21 K)) := by
 unfold L1_21
 cases V1_21 st with
 | none => rfl
 | some x => rw [P.keccak_Permute_l1_21_eq]; kernel_rfl
theorem loop1_21 : LoopOk D1 (loopAt Tryd.f140 21) := loopOk_lp S1_21 V1_21_ok (by kernel_rfl) lq1_21 round1_21
theorem round1_17 (K) (next) (x) : roundA D1 (loopAt Tryd.f140 17) K next (S1_17 x) = T1_17 x (fun x => next (S1_17 x)) (E1_17 K) := by kernel_rfl
theorem lq1_17 (st) (K) : L1_17 st K = vMap (V1_17 st) (fun x => lp T1_17 x (E1_17 K)) := by
 unfold L1_17
 cases V1_17 st with
 | none => rfl
 | some x => rw [P.keccak_Permute_l1_17_eq]; kernel_rfl
theorem loop1_17 : LoopOk D1 (loopAt Tryd.f140 17) := loopOk_lp S1_17 V1_17_ok (by kernel_rfl) lq1_17 round1_17
theorem round2 (K) (next) (x) : roundA D (loopAt Tryd.f124 2) K next (S2 x) = T2 x (fun x => next (S2 x)) (E2 K) := by kernel_rfl
theorem lq2 (st) (K) : L2 st K = vMap (V2 st) (fun x => lp T2 x (E2 K)) := by
 unfold L2
 cases V2 st with
 | none => rfl
 | some x => rw [P.keccak_Permute_l2_eq]; kernel_rfl
theorem loop2 : LoopOk D (loopAt Tryd.f124 2) := loopOk_lp S2 V2_ok (by kernel_rfl) lq2 round2
theorem body (a0 : List Int) (K : AVal → Option R) : bodyA D Tryd.f124 [.any] [.arr .u64 25 a0] K = P.keccak_Permute a0 (fun r0 => K (.arr .u64 25 r0)) := by
 rw [P.keccak_Permute_eq]
 kernel_rfl
theorem loops : loopsOf (Tryd.f124.body.getD .skip) = [loopAt Tryd.f124 2] := by kernel_rfl
theorem loops1 : loopsOf (Tryd.f140.body.getD .skip) = [loopAt Tryd.f140 2, loopAt Tryd.f140 6, loopAt Tryd.f140 12, loopAt Tryd.f140 17, loopAt Tryd.f140 21] := by kernel_rfl
theorem loops2 : loopsOf (Tryd.f152.body.getD .skip) = [loopAt Tryd.f152 2] := by kernel_rfl
noncomputable def spec0 : Abs.Spec := fun args K => match args with
 | [.arr .u64 25 a0] => P.keccak_Permute a0 (fun r0 => K (.arr .u64 25 r0))
 | _ => none
noncomputable def spec : Abs.Spec := spec0
theorem ok0 : Proved Tryd.prog [(1, [AVal.arr .u64 24 P.kcon]), (2, [AVal.arr .u32 64 P.roots256]), (3, [AVal.arr .u64 80 P.roots512]), (4, [AVal.arr .i64 24 P.kpla]), (5, [AVal.arr .i64 24 P.ktur])] 124 spec0 := by
 refine proved_of (D := D) (fn := Tryd.f124) (c := Tryd.f124.body.getD .skip) [.any] (by kernel_rfl) (globsPlain_of (by kernel_rfl)) (by kernel_rfl) (by kernel_rfl) (by kernel_rfl) ⟨math_bits_RotateLeft64.ok, trivial⟩ ⟨run_of (D := D1) (D' := D) (fn := Tryd.f140) (c := Tryd.f140.body.getD .skip) rfl rfl (by kernel_rfl) (globsPlain_of (by kernel_rfl)) (by kernel_rfl) (by kernel_rfl) (by kernel_rfl) ⟨math_bits_RotateLeft64.ok, trivial⟩ ⟨run_of (D := D2) (D' := D1) (fn := Tryd.f152) (c := Tryd.f152.body.getD .skip) rfl rfl (by kernel_rfl) (globsPlain_of (by kernel_rfl)) (by kernel_rfl) (by kernel_rfl) (by kernel_rfl) ⟨math_bits_RotateLeft64.ok, trivial⟩ trivial (by rw [loops2]; exact ⟨loop2_2, trivial⟩) (fun _ _ _ _ _ h => h), trivial⟩ (by rw [loops1]; exact ⟨loop1_2, loop1_6, loop1_12, loop1_17, loop1_21, trivial⟩) (fun _ _ _ _ _ h => h), trivial⟩ ?_ ?_
 · rw [loops]; exact ⟨loop2, trivial⟩
 · intro args K r h
   unfold spec0 at h
   split at h
   · rw [body]; exact h
   · cases h
theorem ok : Proved Tryd.prog [(1, [AVal.arr .u64 24 P.kcon]), (2, [AVal.arr .u32 64 P.roots256]), (3, [AVal.arr .u64 80 P.roots512]), (4, [AVal.arr .i64 24 P.kpla]), (5, [AVal.arr .i64 24 P.ktur])] 124 spec := ok0
end keccak_Permute
end

section
open Go Go.Abs Go.Proofs
set_option maxRecDepth 100000
set_option maxHeartbeats 0
set_option linter.unusedVariables false
namespace keccak_rate
noncomputable def D : Ctx := ({ P := Tryd.prog, G := [], globs := [(1, [AVal.arr .u64 24 P.kcon]), (2, [AVal.arr .u32 64 P.roots256]), (3, [AVal.arr .u64 80 P.roots512]), (4, [AVal.arr .i64 24 P.kpla]), (5, [AVal.arr .i64 24 P.ktur])], hints := [], loops := [], inl := [] } : Ctx)
theorem body (a0 : Int) (K : AVal → Option R) : bodyA D Tryd.f122 [.any] [.v (.int .i64 a0)] K = P.keccak_rate a0 (fun r0 => K (.v (.int .i64 r0))) := by
 rw [P.keccak_rate_eq]
 kernel_rfl
theorem loops : loopsOf (Tryd.f122.body.getD .skip) = [] := by kernel_rfl
noncomputable def spec0 : Abs.Spec := fun args K => match args with
 | [.v (.int .i64 a0)] => P.keccak_rate a0 (fun r0 => K (.v (.int .i64 r0)))
 | _ => none
noncomputable def spec : Abs.Spec := spec0
theorem ok0 : Proved Tryd.prog [(1, [AVal.arr .u64 24 P.kcon]), (2, [AVal.arr .u32 64 P.roots256]), (3, [AVal.arr .u64 80 P.roots512]), (4, [AVal.arr .i64 24 P.kpla]), (5, [AVal.arr .i64 24 P.ktur])] 122 spec0 := by
 refine proved_of (D := D) (fn := Tryd.f122) (c := Tryd.f122.body.getD .skip) [.any] (by kernel_rfl) (globsPlain_of (by kernel_rfl)) (by kernel_rfl) (by kernel_rfl) (by kernel_rfl) trivial trivial ?_ ?_
 · rw [loops]; exact trivial
 · intro args K r h
   unfold spec0 at h
   split at h
   · rw [body]; exact h
   · cases h
theorem ok : Proved Tryd.prog [(1, [AVal.arr .u64 24 P.kcon]), (2, [AVal.arr .u32 64 P.roots256]), (3, [AVal.arr .u64 80 P.roots512]), (4, [AVal.arr .i64 24 P.kpla]), (5, [AVal.arr .i64 24 P.ktur])] 122 spec := ok0
end keccak_rate
end

section
open Go Go.Abs Go.Proofs
set_option maxRecDepth 100000
set_option maxHeartbeats 0
set_option linter.unusedVariables false
namespace keccak_Absorb
abbrev X5 := (List Int) × Int × Int × Int × Int × (List Int) × Int × Bool × Int × (List Int) × Int × Bool
def S5 : X5 → ASt := fun (v1, v5, v14, v15, h0_0, h0_1, h0_2, h0_3, h1_0, h1_1, h1_2, h1_3) => ⟨[(1, .sl (.ints .u8 v1)), (2, .ptr 0 0), (4, .ptr 1 0), (5, .v (.int .i64 v5)), (14, .v (.int .i64 v14)), (15, .v (.int .i64 v15))], [(0, some ⟨.box 123 [.v (.int .i64 h0_0), .arr .u64 25 h0_1, .v (.int .i64 h0_2), .v (.bool h0_3)], false⟩), (1, some ⟨.box 123 [.v (.int .i64 h1_0), .arr .u64 25 h1_1, .v (.int .i64 h1_2), .v (.bool h1_3)], false⟩)], 40, 40⟩
def V5 : ASt → Option X5
 | ⟨[(1, .sl (.ints .u8 v1)), (2, .ptr 0 0), (4, .ptr 1 0), (5, .v (.int .i64 v5)), (14, .v (.int .i64 v14)), (15, .v (.int .i64 v15))], [(0, some ⟨.box 123 [.v (.int .i64 h0_0), .arr .u64 25 h0_1, .v (.int .i64 h0_2), .v (.bool h0_3)], false⟩), (1, some ⟨.box 123 [.v (.int .i64 h1_0), .arr .u64 25 h1_1, .v (.int .i64 h1_2), .v (.bool h1_3)], false⟩)], 40, 40⟩ => some (v1, v5, v14, v15, h0_0, h0_1, h0_2, h0_3, h1_0, h1_1, h1_2, h1_3)
 | _ => none
theorem V5_ok (st) (x) (h : V5 st = some x) : st = S5 x := by
 unfold V5 at h
 split at h
 · cases h; rfl
 · cases h
abbrev Y5 := X5
noncomputable def T5 : X5 → (X5 → Option R) → (Y5 → Option R) → Option R := fun (v1, v5, v14, v15, h0_0, h0_1, h0_2, h0_3, h1_0, h1_1, h1_2, h1_3) next ex => P.keccak_Absorb_r5 v1 v5 v14 v15 h0_0 h0_1 h0_2 h0_3 h1_0 h1_1 h1_2 h1_3 (fun v1 v5 v14 v15 h0_0 h0_1 h0_2 h0_3 h1_0 h1_1 h1_2 h1_3 => next (v1, v5, v14, v15, h0_0, h0_1, h0_2, h0_3, h1_0, h1_1, h1_2, h1_3)) (fun v1 v5 v14 v15 h0_0 h0_1 h0_2 h0_3 h1_0 h1_1 h1_2 h1_3 => ex (v1, v5, v14, v15, h0_0, h0_1, h0_2, h0_3, h1_0, h1_1, h1_2, h1_3))
def E5 (K : AExit → ASt → Option R) : Y5 → Option R := (fun x => K (.exit 0) (S5 x))
noncomputable def L5 : LSpec := fun st K => vMap (V5 st) fun (v1, v5, v14, v15, h0_0, h0_1, h0_2, h0_3, h1_0, h1_1, h1_2, h1_3) => P.keccak_Absorb_l5 v1 v5 v14 v15 h0_0 h0_1 h0_2 h0_3 h1_0 h1_1 h1_2 h1_3 (fun v1 v5 v14 v15 h0_0 h0_1 h0_2 h0_3 h1_0 h1_1 h1_2 h1_3 => K (.exit 0) (S5 (v1, v5, v14, v15, h0_0, h0_1, h0_2, h0_3, h1_0, h1_1, h1_2, h1_3)))
noncomputable def D1 : Ctx := ({ P := Tryd.prog, G := [(122, keccak_rate.spec), (124, keccak_Permute.spec)], globs := [(1, [AVal.arr .u64 24 P.kcon]), (2, [AVal.arr .u32 64 P.roots256]), (3, [AVal.arr .u64 80 P.roots512]), (4, [AVal.arr .i64 24 P.kpla]), (5, [AVal.arr .i64 24 P.ktur])], hints := [], loops := [], inl := [] } : Ctx)
noncomputable def D : Ctx := ({ P := Tryd.prog, G := [(122, keccak_rate.spec), (124, keccak_Permute.spec)], globs := [(1, [AVal.arr .u64 24 P.kcon]), (2, [AVal.arr .u32 64 P.roots256]), (3, [AVal.arr .u64 80 P.roots512]), (4, [AVal.arr .i64 24 P.kpla]), (5, [AVal.arr .i64 24 P.ktur])], hints := [(5, ⟨[1, 2, 4, 5, 14, 15], [], [4], [], some (40, [0, 1]), []⟩)], loops := [(5, L5)], inl := [(125, bodyIn D1 Tryd.f125)] } : Ctx)
theorem round5 (K) (next) (x) : roundA D (loopAt Tryd.f91 5) K next (S5 x) = T5 x (fun x => next (S5 x)) (E5 K) := by kernel_rfl
theorem lq5 (st) (K) : L5 st K = vMap (V5 st) (fun x => lp T5 x (E5 K)) := by
 unfold L5
 cases V5 st with
 | none => rfl
 | some x => rw [P.keccak_Absorb_l5_eq]; kernel_rfl
theorem loop5 : LoopOk D (loopAt Tryd.f91 5) := loopOk_lp S5 V5_ok (by kernel_rfl) lq5 round5
theorem body (a0_Kind : Int) (a0_Words : List Int) (a0_At : Int) (a0_Out : Bool) (a1 : List Int) (K : AVal → Option R) : bodyA D Tryd.f91 [.any] [.agg [.v (.int .i64 a0_Kind), .arr .u64 25 a0_Words, .v (.int .i64 a0_At), .v (.bool a0_Out)], .sl (.ints .u8 a1)] K = P.keccak_Absorb a0_Kind a0_Words a0_At a0_Out a1 (fun r0_Kind r0_Words r0_At r0_Out => K (.agg [.v (.int .i64 r0_Kind), .arr .u64 25 r0_Words, .v (.int .i64 r0_At), .v (.bool r0_Out)])) := by
 rw [P.keccak_Absorb_eq]
 kernel_rfl
theorem loops : loopsOf (Tryd.f91.body.getD .skip) = [loopAt Tryd.f91 5] := by kernel_rfl
theorem loops1 : loopsOf (Tryd.f125.body.getD .skip) = [] := by kernel_rfl
noncomputable def spec0 : Abs.Spec := fun args K => match args with
 | [.agg [.v (.int .i64 a0_Kind), .arr .u64 25 a0_Words, .v (.int .i64 a0_At), .v (.bool a0_Out)], .sl (.ints .u8 a1)] => P.keccak_Absorb a0_Kind a0_Words a0_At a0_Out a1 (fun r0_Kind r0_Words r0_At r0_Out => K (.agg [.v (.int .i64 r0_Kind), .arr .u64 25 r0_Words, .v (.int .i64 r0_At), .v (.bool r0_Out)]))
 | _ => none
noncomputable def spec : Abs.Spec := fun args K => spec0 (coerL [.any, .sl (.ints .u8 [])] args) K
theorem ok0 : Proved Tryd.prog [(1, [AVal.arr .u64 24 P.kcon]), (2, [AVal.arr .u32 64 P.roots256]), (3, [AVal.arr .u64 80 P.roots512]), (4, [AVal.arr .i64 24 P.kpla]), (5, [AVal.arr .i64 24 P.ktur])] 91 spec0 := by
 refine proved_of (D := D) (fn := Tryd.f91) (c := Tryd.f91.body.getD .skip) [.any] (by kernel_rfl) (globsPlain_of (by kernel_rfl)) (by kernel_rfl) (by kernel_rfl) (by kernel_rfl) ⟨keccak_rate.ok, keccak_Permute.ok, trivial⟩ ⟨run_of (D := D1) (D' := D) (fn := Tryd.f125) (c := Tryd.f125.body.getD .skip) rfl rfl (by kernel_rfl) (globsPlain_of (by kernel_rfl)) (by kernel_rfl) (by kernel_rfl) (by kernel_rfl) ⟨keccak_rate.ok, keccak_Permute.ok, trivial⟩ trivial (by rw [loops1]; exact trivial) (fun _ _ _ _ _ h => h), trivial⟩ ?_ ?_
 · rw [loops]; exact ⟨loop5, trivial⟩
 · intro args K r h
   unfold spec0 at h
   split at h
   · rw [body]; exact h
   · cases h
theorem ok : Proved Tryd.prog [(1, [AVal.arr .u64 24 P.kcon]), (2, [AVal.arr .u32 64 P.roots256]), (3, [AVal.arr .u64 80 P.roots512]), (4, [AVal.arr .i64 24 P.kpla]), (5, [AVal.arr .i64 24 P.ktur])] 91 spec := proved_coer _ ok0
end keccak_Absorb
end

section
open Go Go.Abs Go.Proofs
set_option maxRecDepth 100000
set_option maxHeartbeats 0
set_option linter.unusedVariables false
namespace keccak_New
noncomputable def D : Ctx := ({ P := Tryd.prog, G := [(122, keccak_rate.spec)], globs := [(1, [AVal.arr .u64 24 P.kcon]), (2, [AVal.arr .u32 64 P.roots256]), (3, [AVal.arr .u64 80 P.roots512]), (4, [AVal.arr .i64 24 P.kpla]), (5, [AVal.arr .i64 24 P.ktur])], hints := [], loops := [], inl := [] } : Ctx)
theorem body (a0 : Int) (K : AVal → Option R) : bodyA D Tryd.f89 [.any, .any] [.v (.int .i64 a0)] K = P.keccak_New a0 (fun r0_Kind r0_Words r0_At r0_Out r1 => K (.tuple [.agg [.v (.int .i64 r0_Kind), .arr .u64 25 r0_Words, .v (.int .i64 r0_At), .v (.bool r0_Out)], .v (.int .i64 r1)])) := by
 rw [P.keccak_New_eq]
 kernel_rfl
theorem loops : loopsOf (Tryd.f89.body.getD .skip) = [] := by kernel_rfl
noncomputable def spec0 : Abs.Spec := fun args K => match args with
 | [.v (.int .i64 a0)] => P.keccak_New a0 (fun r0_Kind r0_Words r0_At r0_Out r1 => K (.tuple [.agg [.v (.int .i64 r0_Kind), .arr .u64 25 r0_Words, .v (.int .i64 r0_At), .v (.bool r0_Out)], .v (.int .i64 r1)]))
 | _ => none
noncomputable def spec : Abs.Spec := spec0
theorem ok0 : Proved Tryd.prog [(1, [AVal.arr .u64 24 P.kcon]), (2, [AVal.arr .u32 64 P.roots256]), (3, [AVal.arr .u64 80 P.roots512]), (4, [AVal.arr .i64 24 P.kpla]), (5, [AVal.arr .i64 24 P.ktur])] 89 spec0 := by
 refine proved_of (D := D) (fn := Tryd.f89) (c := Tryd.f89.body.getD .skip) [.any, .any] (by kernel_rfl) (globsPlain_of (by kernel_rfl)) (by kernel_rfl) (by kernel_rfl) (by kernel_rfl) ⟨keccak_rate.ok, trivial⟩ trivial ?_ ?_
 · rw [loops]; exact trivial
 · intro args K r h
   unfold spec0 at h
   split at h
   · rw [body]; exact h
   · cases h
theorem ok : Proved Tryd.prog [(1, [AVal.arr .u64 24 P.kcon]), (2, [AVal.arr .u32 64 P.roots256]), (3, [AVal.arr .u64 80 P.roots512]), (4, [AVal.arr .i64 24 P.kpla]), (5, [AVal.arr .i64 24 P.ktur])] 89 spec := ok0
end keccak_New
end

section
open Go Go.Abs Go.Proofs
set_option maxRecDepth 100000
set_option maxHeartbeats 0
set_option linter.unusedVariables false
namespace keccak_turned
noncomputable def D1 : Ctx := ({ P := Tryd.prog, G := [(122, keccak_rate.spec), (124, keccak_Permute.spec)], globs := [(1, [AVal.arr .u64 24 P.kcon]), (2, [AVal.arr .u32 64 P.roots256]), (3, [AVal.arr .u64 80 P.roots512]), (4, [AVal.arr .i64 24 P.kpla]), (5, [AVal.arr .i64 24 P.ktur])], hints := [], loops := [], inl := [] } : Ctx)
noncomputable def D : Ctx := ({ P := Tryd.prog, G := [(122, keccak_rate.spec), (124, keccak_Permute.spec)], globs := [(1, [AVal.arr .u64 24 P.kcon]), (2, [AVal.arr .u32 64 P.roots256]), (3, [AVal.arr .u64 80 P.roots512]), (4, [AVal.arr .i64 24 P.kpla]), (5, [AVal.arr .i64 24 P.ktur])], hints := [], loops := [], inl := [(125, bodyIn D1 Tryd.f125)] } : Ctx)
theorem body (a0_Kind : Int) (a0_Words : List Int) (a0_At : Int) (a0_Out : Bool) (K : AVal → Option R) : bodyA D Tryd.f123 [.any] [.agg [.v (.int .i64 a0_Kind), .arr .u64 25 a0_Words, .v (.int .i64 a0_At), .v (.bool a0_Out)]] K = P.keccak_turned a0_Kind a0_Words a0_At a0_Out (fun r0_Kind r0_Words r0_At r0_Out => K (.agg [.v (.int .i64 r0_Kind), .arr .u64 25 r0_Words, .v (.int .i64 r0_At), .v (.bool r0_Out)])) := by
 rw [P.keccak_turned_eq]
 kernel_rfl
theorem loops : loopsOf (Tryd.f123.body.getD .skip) = [] := by kernel_rfl
theorem loops1 : loopsOf (Tryd.f125.body.getD .skip) = [] := by kernel_rfl
noncomputable def spec0 : Abs.Spec := fun args K => match args with
 | [.agg [.v (.int .i64 a0_Kind), .arr .u64 25 a0_Words, .v (.int .i64 a0_At), .v (.bool a0_Out)]] => P.keccak_turned a0_Kind a0_Words a0_At a0_Out (fun r0_Kind r0_Words r0_At r0_Out => K (.agg [.v (.int .i64 r0_Kind), .arr .u64 25 r0_Words, .v (.int .i64 r0_At), .v (.bool r0_Out)]))
 | _ => none
noncomputable def spec : Abs.Spec := spec0
theorem ok0 : Proved Tryd.prog [(1, [AVal.arr .u64 24 P.kcon]), (2, [AVal.arr .u32 64 P.roots256]), (3, [AVal.arr .u64 80 P.roots512]), (4, [AVal.arr .i64 24 P.kpla]), (5, [AVal.arr .i64 24 P.ktur])] 123 spec0 := by
 refine proved_of (D := D) (fn := Tryd.f123) (c := Tryd.f123.body.getD .skip) [.any] (by kernel_rfl) (globsPlain_of (by kernel_rfl)) (by kernel_rfl) (by kernel_rfl) (by kernel_rfl) ⟨keccak_rate.ok, keccak_Permute.ok, trivial⟩ ⟨run_of (D := D1) (D' := D) (fn := Tryd.f125) (c := Tryd.f125.body.getD .skip) rfl rfl (by kernel_rfl) (globsPlain_of (by kernel_rfl)) (by kernel_rfl) (by kernel_rfl) (by kernel_rfl) ⟨keccak_rate.ok, keccak_Permute.ok, trivial⟩ trivial (by rw [loops1]; exact trivial) (fun _ _ _ _ _ h => h), trivial⟩ ?_ ?_
 · rw [loops]; exact trivial
 · intro args K r h
   unfold spec0 at h
   split at h
   · rw [body]; exact h
   · cases h
theorem ok : Proved Tryd.prog [(1, [AVal.arr .u64 24 P.kcon]), (2, [AVal.arr .u32 64 P.roots256]), (3, [AVal.arr .u64 80 P.roots512]), (4, [AVal.arr .i64 24 P.kpla]), (5, [AVal.arr .i64 24 P.ktur])] 123 spec := ok0
end keccak_turned
end
