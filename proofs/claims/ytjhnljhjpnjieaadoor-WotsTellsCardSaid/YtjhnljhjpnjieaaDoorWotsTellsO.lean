/-
  WotsTells, part O: an interpreter of my own over abstract values, the pure functions, the walks and the plain law.
-/

import Derived.Test.YtjhnljhjpnjieaaDoorWotsTellsI
import Derived.Test.YtjhnljhjpnjieaaDoorWotsTellsF
import Derived.Test.YtjhnljhjpnjieaaDoorProg
import Derived.Test.YtjhnljhjpnjieaaDoorWotsTellsG
import Derived.Test.YtjhnljhjpnjieaaDoorWotsTellsN
import Derived.KernelRfl

section
open Go Go.Abs Go.Proofs
set_option maxRecDepth 100000
set_option maxHeartbeats 0
set_option linter.unusedVariables false
namespace R08_move
abbrev X6 := Int × Int × Int × (List Int) × (List Int) × (List Int)
def S6 : X6 → ASt := fun (v4, v5, v6, h0_0, h1_0, h2_0) => ⟨[(1, .ptr 0 0), (2, .ptr 1 0), (3, .ptr 2 0), (4, .v (.int .i64 v4)), (5, .v (.int .i64 v5)), (6, .v (.int .i64 v6))], [(0, some ⟨.box 121 [.arr .u64 25 h0_0], false⟩), (1, some ⟨.box 121 [.arr .u64 25 h1_0], false⟩), (2, some ⟨.box 121 [.arr .u64 25 h2_0], false⟩)], 3, 44⟩
def V6 : ASt → Option X6
 | ⟨[(1, .ptr 0 0), (2, .ptr 1 0), (3, .ptr 2 0), (4, .v (.int .i64 v4)), (5, .v (.int .i64 v5)), (6, .v (.int .i64 v6))], [(0, some ⟨.box 121 [.arr .u64 25 h0_0], false⟩), (1, some ⟨.box 121 [.arr .u64 25 h1_0], false⟩), (2, some ⟨.box 121 [.arr .u64 25 h2_0], false⟩)], 3, 44⟩ => some (v4, v5, v6, h0_0, h1_0, h2_0)
 | _ => none
theorem V6_ok (st) (x) (h : V6 st = some x) : st = S6 x := by
 unfold V6 at h
 split at h
 · cases h; rfl
 · cases h
abbrev Y6 := X6
noncomputable def T6 : X6 → (X6 → Option R) → (Y6 → Option R) → Option R := fun (v4, v5, v6, h0_0, h1_0, h2_0) next ex => P.R08_move_r6 v4 v5 v6 h0_0 h1_0 h2_0 (fun v4 v5 v6 h0_0 h1_0 h2_0 => next (v4, v5, v6, h0_0, h1_0, h2_0)) (fun v4 v5 v6 h0_0 h1_0 h2_0 => ex (v4, v5, v6, h0_0, h1_0, h2_0))
def E6 (K : AExit → ASt → Option R) : Y6 → Option R := (fun x => K (.exit 0) (S6 x))
noncomputable def L6 : LSpec := fun st K => vMap (V6 st) fun (v4, v5, v6, h0_0, h1_0, h2_0) => P.R08_move_l6 v4 v5 v6 h0_0 h1_0 h2_0 (fun v4 v5 v6 h0_0 h1_0 h2_0 => K (.exit 0) (S6 (v4, v5, v6, h0_0, h1_0, h2_0)))
noncomputable def D : Ctx := ({ P := Tryd.prog, G := [(156, R08_left.spec)], globs := [(1, [AVal.arr .u64 24 P.kcon]), (2, [AVal.arr .u32 64 P.roots256]), (3, [AVal.arr .u64 80 P.roots512]), (4, [AVal.arr .i64 24 P.kpla]), (5, [AVal.arr .i64 24 P.ktur])], hints := [(6, ⟨[1, 2, 3, 4, 5, 6], [], [2], [], none, []⟩)], loops := [(6, L6)], inl := [] } : Ctx)
theorem round6 (K) (next) (x) : roundA D (loopAt Tryd.f146 6) K next (S6 x) = T6 x (fun x => next (S6 x)) (E6 K) := by kernel_rfl
theorem lq6 (st) (K) : L6 st K = vMap (V6 st) (fun x => lp T6 x (E6 K)) := by
 unfold L6
 cases V6 st with
 | none => rfl
 | some x => rw [P.R08_move_l6_eq]; kernel_rfl
theorem loop6 : LoopOk D (loopAt Tryd.f146 6) := loopOk_lp S6 V6_ok (by kernel_rfl) lq6 round6
theorem body (a0 : List Int) (K : AVal → Option R) : bodyA D Tryd.f146 [.any] [.arr .u64 25 a0] K = P.R08_move a0 (fun r0 => K (.arr .u64 25 r0)) := by
 rw [P.R08_move_eq]
 kernel_rfl
theorem loops : loopsOf (Tryd.f146.body.getD .skip) = [loopAt Tryd.f146 6] := by kernel_rfl
noncomputable def spec0 : Abs.Spec := fun args K => match args with
 | [.arr .u64 25 a0] => P.R08_move a0 (fun r0 => K (.arr .u64 25 r0))
 | _ => none
noncomputable def spec : Abs.Spec := spec0
theorem ok0 : Proved Tryd.prog [(1, [AVal.arr .u64 24 P.kcon]), (2, [AVal.arr .u32 64 P.roots256]), (3, [AVal.arr .u64 80 P.roots512]), (4, [AVal.arr .i64 24 P.kpla]), (5, [AVal.arr .i64 24 P.ktur])] 146 spec0 := by
 refine proved_of (D := D) (fn := Tryd.f146) (c := Tryd.f146.body.getD .skip) [.any] (by kernel_rfl) (globsPlain_of (by kernel_rfl)) (by kernel_rfl) (by kernel_rfl) (by kernel_rfl) ⟨R08_left.ok, trivial⟩ trivial ?_ ?_
 · rw [loops]; exact ⟨loop6, trivial⟩
 · intro args K r h
   unfold spec0 at h
   split at h
   · rw [body]; exact h
   · cases h
theorem ok : Proved Tryd.prog [(1, [AVal.arr .u64 24 P.kcon]), (2, [AVal.arr .u32 64 P.roots256]), (3, [AVal.arr .u64 80 P.roots512]), (4, [AVal.arr .i64 24 P.kpla]), (5, [AVal.arr .i64 24 P.ktur])] 146 spec := ok0
end R08_move
end

section
open Go Go.Abs Go.Proofs
set_option maxRecDepth 100000
set_option maxHeartbeats 0
set_option linter.unusedVariables false
namespace R08_spread
abbrev X3 := Int × (List Int) × (List Int) × (List Int)
def S3 : X3 → ASt := fun (v4, h0_0, h1_0, h2_0) => ⟨[(1, .ptr 0 0), (2, .ptr 1 0), (3, .ptr 2 0), (4, .v (.int .i64 v4))], [(0, some ⟨.box 121 [.arr .u64 25 h0_0], false⟩), (1, some ⟨.box 121 [.arr .u64 25 h1_0], false⟩), (2, some ⟨.box 189 [.arr .u64 5 h2_0], false⟩)], 3, 44⟩
def V3 : ASt → Option X3
 | ⟨[(1, .ptr 0 0), (2, .ptr 1 0), (3, .ptr 2 0), (4, .v (.int .i64 v4))], [(0, some ⟨.box 121 [.arr .u64 25 h0_0], false⟩), (1, some ⟨.box 121 [.arr .u64 25 h1_0], false⟩), (2, some ⟨.box 189 [.arr .u64 5 h2_0], false⟩)], 3, 44⟩ => some (v4, h0_0, h1_0, h2_0)
 | _ => none
theorem V3_ok (st) (x) (h : V3 st = some x) : st = S3 x := by
 unfold V3 at h
 split at h
 · cases h; rfl
 · cases h
abbrev Y3 := X3
noncomputable def T3 : X3 → (X3 → Option R) → (Y3 → Option R) → Option R := fun (v4, h0_0, h1_0, h2_0) next ex => P.R08_spread_r3 v4 h0_0 h1_0 h2_0 (fun v4 h0_0 h1_0 h2_0 => next (v4, h0_0, h1_0, h2_0)) (fun v4 h0_0 h1_0 h2_0 => ex (v4, h0_0, h1_0, h2_0))
abbrev X7 := Int × (List Int) × (List Int) × (List Int)
def S7 : X7 → ASt := fun (v5, h2_0, h1_0, h0_0) => ⟨[(1, .ptr 0 0), (2, .ptr 1 0), (3, .ptr 2 0), (5, .v (.int .i64 v5))], [(2, some ⟨.box 189 [.arr .u64 5 h2_0], false⟩), (1, some ⟨.box 121 [.arr .u64 25 h1_0], false⟩), (0, some ⟨.box 121 [.arr .u64 25 h0_0], false⟩)], 3, 44⟩
def V7 : ASt → Option X7
 | ⟨[(1, .ptr 0 0), (2, .ptr 1 0), (3, .ptr 2 0), (5, .v (.int .i64 v5))], [(2, some ⟨.box 189 [.arr .u64 5 h2_0], false⟩), (1, some ⟨.box 121 [.arr .u64 25 h1_0], false⟩), (0, some ⟨.box 121 [.arr .u64 25 h0_0], false⟩)], 3, 44⟩ => some (v5, h2_0, h1_0, h0_0)
 | _ => none
theorem V7_ok (st) (x) (h : V7 st = some x) : st = S7 x := by
 unfold V7 at h
 split at h
 · cases h; rfl
 · cases h
abbrev Y7 := X7
noncomputable def T7 : X7 → (X7 → Option R) → (Y7 → Option R) → Option R := fun (v5, h2_0, h1_0, h0_0) next ex => P.R08_spread_r7 v5 h2_0 h1_0 h0_0 (fun v5 h2_0 h1_0 h0_0 => next (v5, h2_0, h1_0, h0_0)) (fun v5 h2_0 h1_0 h0_0 => ex (v5, h2_0, h1_0, h0_0))
def E3 (K : AExit → ASt → Option R) : Y3 → Option R := (fun x => K (.exit 0) (S3 x))
noncomputable def L3 : LSpec := fun st K => vMap (V3 st) fun (v4, h0_0, h1_0, h2_0) => P.R08_spread_l3 v4 h0_0 h1_0 h2_0 (fun v4 h0_0 h1_0 h2_0 => K (.exit 0) (S3 (v4, h0_0, h1_0, h2_0)))
def E7 (K : AExit → ASt → Option R) : Y7 → Option R := (fun x => K (.exit 2) (S7 x))
noncomputable def L7 : LSpec := fun st K => vMap (V7 st) fun (v5, h2_0, h1_0, h0_0) => P.R08_spread_l7 v5 h2_0 h1_0 h0_0 (fun v5 h2_0 h1_0 h0_0 => K (.exit 2) (S7 (v5, h2_0, h1_0, h0_0)))
noncomputable def D : Ctx := ({ P := Tryd.prog, G := [(156, R08_left.spec)], globs := [(1, [AVal.arr .u64 24 P.kcon]), (2, [AVal.arr .u32 64 P.roots256]), (3, [AVal.arr .u64 80 P.roots512]), (4, [AVal.arr .i64 24 P.kpla]), (5, [AVal.arr .i64 24 P.ktur])], hints := [(7, ⟨[1, 2, 3, 5], [], [2], [], none, []⟩), (3, ⟨[1, 2, 3, 4], [], [2], [], none, []⟩)], loops := [(3, L3), (7, L7)], inl := [] } : Ctx)
theorem round3 (K) (next) (x) : roundA D (loopAt Tryd.f147 3) K next (S3 x) = T3 x (fun x => next (S3 x)) (E3 K) := by kernel_rfl
theorem lq3 (st) (K) : L3 st K = vMap (V3 st) (fun x => lp T3 x (E3 K)) := by
 unfold L3
 cases V3 st with
 | none => rfl
 | some x => rw [P.R08_spread_l3_eq]; kernel_rfl
theorem loop3 : LoopOk D (loopAt Tryd.f147 3) := loopOk_lp S3 V3_ok (by kernel_rfl) lq3 round3
theorem round7 (K) (next) (x) : roundA D (loopAt Tryd.f147 7) K next (S7 x) = T7 x (fun x => next (S7 x)) (E7 K) := by kernel_rfl
theorem lq7 (st) (K) : L7 st K = vMap (V7 st) (fun x => lp T7 x (E7 K)) := by
 unfold L7
 cases V7 st with
 | none => rfl
 | some x => rw [P.R08_spread_l7_eq]; kernel_rfl
theorem loop7 : LoopOk D (loopAt Tryd.f147 7) := loopOk_lp S7 V7_ok (by kernel_rfl) lq7 round7
theorem body (a0 : List Int) (K : AVal → Option R) : bodyA D Tryd.f147 [.any] [.arr .u64 25 a0] K = P.R08_spread a0 (fun r0 => K (.arr .u64 25 r0)) := by
 rw [P.R08_spread_eq]
 kernel_rfl
theorem loops : loopsOf (Tryd.f147.body.getD .skip) = [loopAt Tryd.f147 3, loopAt Tryd.f147 7] := by kernel_rfl
noncomputable def spec0 : Abs.Spec := fun args K => match args with
 | [.arr .u64 25 a0] => P.R08_spread a0 (fun r0 => K (.arr .u64 25 r0))
 | _ => none
noncomputable def spec : Abs.Spec := spec0
theorem ok0 : Proved Tryd.prog [(1, [AVal.arr .u64 24 P.kcon]), (2, [AVal.arr .u32 64 P.roots256]), (3, [AVal.arr .u64 80 P.roots512]), (4, [AVal.arr .i64 24 P.kpla]), (5, [AVal.arr .i64 24 P.ktur])] 147 spec0 := by
 refine proved_of (D := D) (fn := Tryd.f147) (c := Tryd.f147.body.getD .skip) [.any] (by kernel_rfl) (globsPlain_of (by kernel_rfl)) (by kernel_rfl) (by kernel_rfl) (by kernel_rfl) ⟨R08_left.ok, trivial⟩ trivial ?_ ?_
 · rw [loops]; exact ⟨loop3, loop7, trivial⟩
 · intro args K r h
   unfold spec0 at h
   split at h
   · rw [body]; exact h
   · cases h
theorem ok : Proved Tryd.prog [(1, [AVal.arr .u64 24 P.kcon]), (2, [AVal.arr .u32 64 P.roots256]), (3, [AVal.arr .u64 80 P.roots512]), (4, [AVal.arr .i64 24 P.kpla]), (5, [AVal.arr .i64 24 P.ktur])] 147 spec := ok0
end R08_spread
end

section
open Go Go.Abs Go.Proofs
set_option maxRecDepth 100000
set_option maxHeartbeats 0
set_option linter.unusedVariables false
namespace R08_Permute
abbrev X7 := Int × Int × (List Int) × (List Int) × (List Int) × (List Int)
def S7 : X7 → ASt := fun (v4, v6, h2_0, h1_0, h0_0, h3_0) => ⟨[(1, .ptr 0 0), (2, .ptr 1 0), (3, .ptr 2 0), (4, .v (.int .i64 v4)), (5, .ptr 3 0), (6, .v (.int .i64 v6))], [(2, some ⟨.box 173 [.arr .u64 24 h2_0], false⟩), (1, some ⟨.box 121 [.arr .u64 25 h1_0], false⟩), (0, some ⟨.box 121 [.arr .u64 25 h0_0], false⟩), (3, some ⟨.box 121 [.arr .u64 25 h3_0], false⟩)], 4, 53⟩
def V7 : ASt → Option X7
 | ⟨[(1, .ptr 0 0), (2, .ptr 1 0), (3, .ptr 2 0), (4, .v (.int .i64 v4)), (5, .ptr 3 0), (6, .v (.int .i64 v6))], [(2, some ⟨.box 173 [.arr .u64 24 h2_0], false⟩), (1, some ⟨.box 121 [.arr .u64 25 h1_0], false⟩), (0, some ⟨.box 121 [.arr .u64 25 h0_0], false⟩), (3, some ⟨.box 121 [.arr .u64 25 h3_0], false⟩)], 4, 53⟩ => some (v4, v6, h2_0, h1_0, h0_0, h3_0)
 | _ => none
theorem V7_ok (st) (x) (h : V7 st = some x) : st = S7 x := by
 unfold V7 at h
 split at h
 · cases h; rfl
 · cases h
abbrev Y7 := X7
noncomputable def T7 : X7 → (X7 → Option R) → (Y7 → Option R) → Option R := fun (v4, v6, h2_0, h1_0, h0_0, h3_0) next ex => P.R08_Permute_r7 v4 v6 h2_0 h1_0 h0_0 h3_0 (fun v4 v6 h2_0 h1_0 h0_0 h3_0 => next (v4, v6, h2_0, h1_0, h0_0, h3_0)) (fun v4 v6 h2_0 h1_0 h0_0 h3_0 => ex (v4, v6, h2_0, h1_0, h0_0, h3_0))
abbrev X3 := Int × (List Int) × (List Int) × (List Int)
def S3 : X3 → ASt := fun (v4, h0_0, h1_0, h2_0) => ⟨[(1, .ptr 0 0), (2, .ptr 1 0), (3, .ptr 2 0), (4, .v (.int .i64 v4))], [(0, some ⟨.box 121 [.arr .u64 25 h0_0], false⟩), (1, some ⟨.box 121 [.arr .u64 25 h1_0], false⟩), (2, some ⟨.box 173 [.arr .u64 24 h2_0], false⟩)], 3, 53⟩
def V3 : ASt → Option X3
 | ⟨[(1, .ptr 0 0), (2, .ptr 1 0), (3, .ptr 2 0), (4, .v (.int .i64 v4))], [(0, some ⟨.box 121 [.arr .u64 25 h0_0], false⟩), (1, some ⟨.box 121 [.arr .u64 25 h1_0], false⟩), (2, some ⟨.box 173 [.arr .u64 24 h2_0], false⟩)], 3, 53⟩ => some (v4, h0_0, h1_0, h2_0)
 | _ => none
theorem V3_ok (st) (x) (h : V3 st = some x) : st = S3 x := by
 unfold V3 at h
 split at h
 · cases h; rfl
 · cases h
abbrev Y3 := X3
noncomputable def T3 : X3 → (X3 → Option R) → (Y3 → Option R) → Option R := fun (v4, h0_0, h1_0, h2_0) next ex => P.R08_Permute_r3 v4 h0_0 h1_0 h2_0 (fun v4 h0_0 h1_0 h2_0 => next (v4, h0_0, h1_0, h2_0)) (fun v4 h0_0 h1_0 h2_0 => ex (v4, h0_0, h1_0, h2_0))
def E7 (K : AExit → ASt → Option R) : Y7 → Option R := (fun x => K (.exit 2) (S7 x))
noncomputable def L7 : LSpec := fun st K => vMap (V7 st) fun (v4, v6, h2_0, h1_0, h0_0, h3_0) => P.R08_Permute_l7 v4 v6 h2_0 h1_0 h0_0 h3_0 (fun v4 v6 h2_0 h1_0 h0_0 h3_0 => K (.exit 2) (S7 (v4, v6, h2_0, h1_0, h0_0, h3_0)))
def E3 (K : AExit → ASt → Option R) : Y3 → Option R := (fun x => K (.exit 0) (S3 x))
noncomputable def L3 : LSpec := fun st K => vMap (V3 st) fun (v4, h0_0, h1_0, h2_0) => P.R08_Permute_l3 v4 h0_0 h1_0 h2_0 (fun v4 h0_0 h1_0 h2_0 => K (.exit 0) (S3 (v4, h0_0, h1_0, h2_0)))
noncomputable def D : Ctx := ({ P := Tryd.prog, G := [(145, R08_constants.spec), (146, R08_move.spec), (147, R08_spread.spec)], globs := [(1, [AVal.arr .u64 24 P.kcon]), (2, [AVal.arr .u32 64 P.roots256]), (3, [AVal.arr .u64 80 P.roots512]), (4, [AVal.arr .i64 24 P.kpla]), (5, [AVal.arr .i64 24 P.ktur])], hints := [(7, ⟨[1, 2, 3, 4, 5, 6], [], [2], [], none, []⟩), (3, ⟨[1, 2, 3, 4], [], [2], [], none, []⟩)], loops := [(7, L7), (3, L3)], inl := [] } : Ctx)
theorem round7 (K) (next) (x) : roundA D (loopAt Tryd.f127 7) K next (S7 x) = T7 x (fun x => next (S7 x)) (E7 K) := by kernel_rfl
theorem lq7 (st) (K) : L7 st K = vMap (V7 st) (fun x => lp T7 x (E7 K)) := by
 unfold L7
 cases V7 st with
 | none => rfl
 | some x => rw [P.R08_Permute_l7_eq]; kernel_rfl
theorem loop7 : LoopOk D (loopAt Tryd.f127 7) := loopOk_lp S7 V7_ok (by kernel_rfl) lq7 round7
theorem round3 (K) (next) (x) : roundA D (loopAt Tryd.f127 3) K next (S3 x) = T3 x (fun x => next (S3 x)) (E3 K) := by kernel_rfl
theorem lq3 (st) (K) : L3 st K = vMap (V3 st) (fun x => lp T3 x (E3 K)) := by
 unfold L3
 cases V3 st with
 | none => rfl
 | some x => rw [P.R08_Permute_l3_eq]; kernel_rfl
theorem loop3 : LoopOk D (loopAt Tryd.f127 3) := loopOk_lp S3 V3_ok (by kernel_rfl) lq3 round3
theorem body (a0 : List Int) (K : AVal → Option R) : bodyA D Tryd.f127 [.any] [.arr .u64 25 a0] K = P.R08_Permute a0 (fun r0 => K (.arr .u64 25 r0)) := by
 rw [P.R08_Permute_eq]
 kernel_rfl
theorem loops : loopsOf (Tryd.f127.body.getD .skip) = [loopAt Tryd.f127 3, loopAt Tryd.f127 7] := by kernel_rfl
noncomputable def spec0 : Abs.Spec := fun args K => match args with
 | [.arr .u64 25 a0] => P.R08_Permute a0 (fun r0 => K (.arr .u64 25 r0))
 | _ => none
noncomputable def spec : Abs.Spec := spec0
theorem ok0 : Proved Tryd.prog [(1, [AVal.arr .u64 24 P.kcon]), (2, [AVal.arr .u32 64 P.roots256]), (3, [AVal.arr .u64 80 P.roots512]), (4, [AVal.arr .i64 24 P.kpla]), (5, [AVal.arr .i64 24 P.ktur])] 127 spec0 := by
 refine proved_of (D := D) (fn := Tryd.f127) (c := Tryd.f127.body.getD .skip) [.any] (by kernel_rfl) (globsPlain_of (by kernel_rfl)) (by kernel_rfl) (by kernel_rfl) (by kernel_rfl) ⟨R08_constants.ok, R08_move.ok, R08_spread.ok, trivial⟩ trivial ?_ ?_
 · rw [loops]; exact ⟨loop3, loop7, trivial⟩
 · intro args K r h
   unfold spec0 at h
   split at h
   · rw [body]; exact h
   · cases h
theorem ok : Proved Tryd.prog [(1, [AVal.arr .u64 24 P.kcon]), (2, [AVal.arr .u32 64 P.roots256]), (3, [AVal.arr .u64 80 P.roots512]), (4, [AVal.arr .i64 24 P.kpla]), (5, [AVal.arr .i64 24 P.ktur])] 127 spec := ok0
end R08_Permute
end

section
open Go Go.Abs Go.Proofs
set_option maxRecDepth 100000
set_option maxHeartbeats 0
set_option linter.unusedVariables false
namespace R08_Rate
noncomputable def D : Ctx := ({ P := Tryd.prog, G := [], globs := [(1, [AVal.arr .u64 24 P.kcon]), (2, [AVal.arr .u32 64 P.roots256]), (3, [AVal.arr .u64 80 P.roots512]), (4, [AVal.arr .i64 24 P.kpla]), (5, [AVal.arr .i64 24 P.ktur])], hints := [], loops := [], inl := [] } : Ctx)
theorem body (a0 : Int) (K : AVal → Option R) : bodyA D Tryd.f101 [.any] [.v (.int .i64 a0)] K = P.R08_Rate a0 (fun r0 => K (.v (.int .i64 r0))) := by
 rw [P.R08_Rate_eq]
 kernel_rfl
theorem loops : loopsOf (Tryd.f101.body.getD .skip) = [] := by kernel_rfl
noncomputable def spec0 : Abs.Spec := fun args K => match args with
 | [.v (.int .i64 a0)] => P.R08_Rate a0 (fun r0 => K (.v (.int .i64 r0)))
 | _ => none
noncomputable def spec : Abs.Spec := spec0
theorem ok0 : Proved Tryd.prog [(1, [AVal.arr .u64 24 P.kcon]), (2, [AVal.arr .u32 64 P.roots256]), (3, [AVal.arr .u64 80 P.roots512]), (4, [AVal.arr .i64 24 P.kpla]), (5, [AVal.arr .i64 24 P.ktur])] 101 spec0 := by
 refine proved_of (D := D) (fn := Tryd.f101) (c := Tryd.f101.body.getD .skip) [.any] (by kernel_rfl) (globsPlain_of (by kernel_rfl)) (by kernel_rfl) (by kernel_rfl) (by kernel_rfl) trivial trivial ?_ ?_
 · rw [loops]; exact trivial
 · intro args K r h
   unfold spec0 at h
   split at h
   · rw [body]; exact h
   · cases h
theorem ok : Proved Tryd.prog [(1, [AVal.arr .u64 24 P.kcon]), (2, [AVal.arr .u32 64 P.roots256]), (3, [AVal.arr .u64 80 P.roots512]), (4, [AVal.arr .i64 24 P.kpla]), (5, [AVal.arr .i64 24 P.ktur])] 101 spec := ok0
end R08_Rate
end

section
open Go Go.Abs Go.Proofs
set_option maxRecDepth 100000
set_option maxHeartbeats 0
set_option linter.unusedVariables false
namespace R08_put
noncomputable def D : Ctx := ({ P := Tryd.prog, G := [], globs := [(1, [AVal.arr .u64 24 P.kcon]), (2, [AVal.arr .u32 64 P.roots256]), (3, [AVal.arr .u64 80 P.roots512]), (4, [AVal.arr .i64 24 P.kpla]), (5, [AVal.arr .i64 24 P.ktur])], hints := [], loops := [], inl := [] } : Ctx)
theorem body (a0 : List Int) (a1 : Int) (a2 : Int) (K : AVal → Option R) : bodyA D Tryd.f128 [.any] [.arr .u64 25 a0, .v (.int .i64 a1), .v (.int .u8 a2)] K = P.R08_put a0 a1 a2 (fun r0 => K (.arr .u64 25 r0)) := by
 rw [P.R08_put_eq]
 kernel_rfl
theorem loops : loopsOf (Tryd.f128.body.getD .skip) = [] := by kernel_rfl
noncomputable def spec0 : Abs.Spec := fun args K => match args with
 | [.arr .u64 25 a0, .v (.int .i64 a1), .v (.int .u8 a2)] => P.R08_put a0 a1 a2 (fun r0 => K (.arr .u64 25 r0))
 | _ => none
noncomputable def spec : Abs.Spec := spec0
theorem ok0 : Proved Tryd.prog [(1, [AVal.arr .u64 24 P.kcon]), (2, [AVal.arr .u32 64 P.roots256]), (3, [AVal.arr .u64 80 P.roots512]), (4, [AVal.arr .i64 24 P.kpla]), (5, [AVal.arr .i64 24 P.ktur])] 128 spec0 := by
 refine proved_of (D := D) (fn := Tryd.f128) (c := Tryd.f128.body.getD .skip) [.any] (by kernel_rfl) (globsPlain_of (by kernel_rfl)) (by kernel_rfl) (by kernel_rfl) (by kernel_rfl) trivial trivial ?_ ?_
 · rw [loops]; exact trivial
 · intro args K r h
   unfold spec0 at h
   split at h
   · rw [body]; exact h
   · cases h
theorem ok : Proved Tryd.prog [(1, [AVal.arr .u64 24 P.kcon]), (2, [AVal.arr .u32 64 P.roots256]), (3, [AVal.arr .u64 80 P.roots512]), (4, [AVal.arr .i64 24 P.kpla]), (5, [AVal.arr .i64 24 P.ktur])] 128 spec := ok0
end R08_put
end

section
open Go Go.Abs Go.Proofs
set_option maxRecDepth 100000
set_option maxHeartbeats 0
set_option linter.unusedVariables false
namespace R08_Absorb
abbrev X4 := (List Int) × Int × Int × (List Int) × Int × Bool × Int × (List Int) × Int × Bool
def S4 : X4 → ASt := fun (v1, v5, h0_0, h0_1, h0_2, h0_3, h1_0, h1_1, h1_2, h1_3) => ⟨[(1, .sl (.ints .u8 v1)), (2, .ptr 0 0), (4, .ptr 1 0), (5, .v (.int .i64 v5))], [(0, some ⟨.box 123 [.v (.int .i64 h0_0), .arr .u64 25 h0_1, .v (.int .i64 h0_2), .v (.bool h0_3)], false⟩), (1, some ⟨.box 123 [.v (.int .i64 h1_0), .arr .u64 25 h1_1, .v (.int .i64 h1_2), .v (.bool h1_3)], false⟩)], 40, 41⟩
def V4 : ASt → Option X4
 | ⟨[(1, .sl (.ints .u8 v1)), (2, .ptr 0 0), (4, .ptr 1 0), (5, .v (.int .i64 v5))], [(0, some ⟨.box 123 [.v (.int .i64 h0_0), .arr .u64 25 h0_1, .v (.int .i64 h0_2), .v (.bool h0_3)], false⟩), (1, some ⟨.box 123 [.v (.int .i64 h1_0), .arr .u64 25 h1_1, .v (.int .i64 h1_2), .v (.bool h1_3)], false⟩)], 40, 41⟩ => some (v1, v5, h0_0, h0_1, h0_2, h0_3, h1_0, h1_1, h1_2, h1_3)
 | _ => none
theorem V4_ok (st) (x) (h : V4 st = some x) : st = S4 x := by
 unfold V4 at h
 split at h
 · cases h; rfl
 · cases h
abbrev Y4 := X4
noncomputable def T4 : X4 → (X4 → Option R) → (Y4 → Option R) → Option R := fun (v1, v5, h0_0, h0_1, h0_2, h0_3, h1_0, h1_1, h1_2, h1_3) next ex => P.R08_Absorb_r4 v1 v5 h0_0 h0_1 h0_2 h0_3 h1_0 h1_1 h1_2 h1_3 (fun v1 v5 h0_0 h0_1 h0_2 h0_3 h1_0 h1_1 h1_2 h1_3 => next (v1, v5, h0_0, h0_1, h0_2, h0_3, h1_0, h1_1, h1_2, h1_3)) (fun v1 v5 h0_0 h0_1 h0_2 h0_3 h1_0 h1_1 h1_2 h1_3 => ex (v1, v5, h0_0, h0_1, h0_2, h0_3, h1_0, h1_1, h1_2, h1_3))
def E4 (K : AExit → ASt → Option R) : Y4 → Option R := (fun x => K (.exit 0) (S4 x))
noncomputable def L4 : LSpec := fun st K => vMap (V4 st) fun (v1, v5, h0_0, h0_1, h0_2, h0_3, h1_0, h1_1, h1_2, h1_3) => P.R08_Absorb_l4 v1 v5 h0_0 h0_1 h0_2 h0_3 h1_0 h1_1 h1_2 h1_3 (fun v1 v5 h0_0 h0_1 h0_2 h0_3 h1_0 h1_1 h1_2 h1_3 => K (.exit 0) (S4 (v1, v5, h0_0, h0_1, h0_2, h0_3, h1_0, h1_1, h1_2, h1_3)))
noncomputable def D : Ctx := ({ P := Tryd.prog, G := [(101, R08_Rate.spec), (127, R08_Permute.spec), (128, R08_put.spec)], globs := [(1, [AVal.arr .u64 24 P.kcon]), (2, [AVal.arr .u32 64 P.roots256]), (3, [AVal.arr .u64 80 P.roots512]), (4, [AVal.arr .i64 24 P.kpla]), (5, [AVal.arr .i64 24 P.ktur])], hints := [(4, ⟨[1, 2, 4, 5], [], [4], [], some (40, [0, 1]), []⟩)], loops := [(4, L4)], inl := [] } : Ctx)
theorem round4 (K) (next) (x) : roundA D (loopAt Tryd.f97 4) K next (S4 x) = T4 x (fun x => next (S4 x)) (E4 K) := by kernel_rfl
theorem lq4 (st) (K) : L4 st K = vMap (V4 st) (fun x => lp T4 x (E4 K)) := by
 unfold L4
 cases V4 st with
 | none => rfl
 | some x => rw [P.R08_Absorb_l4_eq]; kernel_rfl
theorem loop4 : LoopOk D (loopAt Tryd.f97 4) := loopOk_lp S4 V4_ok (by kernel_rfl) lq4 round4
theorem body (a0_Kind : Int) (a0_Words : List Int) (a0_At : Int) (a0_Out : Bool) (a1 : List Int) (K : AVal → Option R) : bodyA D Tryd.f97 [.any] [.agg [.v (.int .i64 a0_Kind), .arr .u64 25 a0_Words, .v (.int .i64 a0_At), .v (.bool a0_Out)], .sl (.ints .u8 a1)] K = P.R08_Absorb a0_Kind a0_Words a0_At a0_Out a1 (fun r0_Kind r0_Words r0_At r0_Out => K (.agg [.v (.int .i64 r0_Kind), .arr .u64 25 r0_Words, .v (.int .i64 r0_At), .v (.bool r0_Out)])) := by
 rw [P.R08_Absorb_eq]
 kernel_rfl
theorem loops : loopsOf (Tryd.f97.body.getD .skip) = [loopAt Tryd.f97 4] := by kernel_rfl
noncomputable def spec0 : Abs.Spec := fun args K => match args with
 | [.agg [.v (.int .i64 a0_Kind), .arr .u64 25 a0_Words, .v (.int .i64 a0_At), .v (.bool a0_Out)], .sl (.ints .u8 a1)] => P.R08_Absorb a0_Kind a0_Words a0_At a0_Out a1 (fun r0_Kind r0_Words r0_At r0_Out => K (.agg [.v (.int .i64 r0_Kind), .arr .u64 25 r0_Words, .v (.int .i64 r0_At), .v (.bool r0_Out)]))
 | _ => none
noncomputable def spec : Abs.Spec := fun args K => spec0 (coerL [.any, .sl (.ints .u8 [])] args) K
theorem ok0 : Proved Tryd.prog [(1, [AVal.arr .u64 24 P.kcon]), (2, [AVal.arr .u32 64 P.roots256]), (3, [AVal.arr .u64 80 P.roots512]), (4, [AVal.arr .i64 24 P.kpla]), (5, [AVal.arr .i64 24 P.ktur])] 97 spec0 := by
 refine proved_of (D := D) (fn := Tryd.f97) (c := Tryd.f97.body.getD .skip) [.any] (by kernel_rfl) (globsPlain_of (by kernel_rfl)) (by kernel_rfl) (by kernel_rfl) (by kernel_rfl) ⟨R08_Rate.ok, R08_Permute.ok, R08_put.ok, trivial⟩ trivial ?_ ?_
 · rw [loops]; exact ⟨loop4, trivial⟩
 · intro args K r h
   unfold spec0 at h
   split at h
   · rw [body]; exact h
   · cases h
theorem ok : Proved Tryd.prog [(1, [AVal.arr .u64 24 P.kcon]), (2, [AVal.arr .u32 64 P.roots256]), (3, [AVal.arr .u64 80 P.roots512]), (4, [AVal.arr .i64 24 P.kpla]), (5, [AVal.arr .i64 24 P.ktur])] 97 spec := proved_coer _ ok0
end R08_Absorb
end

section
open Go Go.Abs Go.Proofs
set_option maxRecDepth 100000
set_option maxHeartbeats 0
set_option linter.unusedVariables false
namespace R08_New
noncomputable def D : Ctx := ({ P := Tryd.prog, G := [(101, R08_Rate.spec)], globs := [(1, [AVal.arr .u64 24 P.kcon]), (2, [AVal.arr .u32 64 P.roots256]), (3, [AVal.arr .u64 80 P.roots512]), (4, [AVal.arr .i64 24 P.kpla]), (5, [AVal.arr .i64 24 P.ktur])], hints := [], loops := [], inl := [] } : Ctx)
theorem body (a0 : Int) (K : AVal → Option R) : bodyA D Tryd.f95 [.any, .any] [.v (.int .i64 a0)] K = P.R08_New a0 (fun r0_Kind r0_Words r0_At r0_Out r1 => K (.tuple [.agg [.v (.int .i64 r0_Kind), .arr .u64 25 r0_Words, .v (.int .i64 r0_At), .v (.bool r0_Out)], .v (.int .i64 r1)])) := by
 rw [P.R08_New_eq]
 kernel_rfl
theorem loops : loopsOf (Tryd.f95.body.getD .skip) = [] := by kernel_rfl
noncomputable def spec0 : Abs.Spec := fun args K => match args with
 | [.v (.int .i64 a0)] => P.R08_New a0 (fun r0_Kind r0_Words r0_At r0_Out r1 => K (.tuple [.agg [.v (.int .i64 r0_Kind), .arr .u64 25 r0_Words, .v (.int .i64 r0_At), .v (.bool r0_Out)], .v (.int .i64 r1)]))
 | _ => none
noncomputable def spec : Abs.Spec := spec0
theorem ok0 : Proved Tryd.prog [(1, [AVal.arr .u64 24 P.kcon]), (2, [AVal.arr .u32 64 P.roots256]), (3, [AVal.arr .u64 80 P.roots512]), (4, [AVal.arr .i64 24 P.kpla]), (5, [AVal.arr .i64 24 P.ktur])] 95 spec0 := by
 refine proved_of (D := D) (fn := Tryd.f95) (c := Tryd.f95.body.getD .skip) [.any, .any] (by kernel_rfl) (globsPlain_of (by kernel_rfl)) (by kernel_rfl) (by kernel_rfl) (by kernel_rfl) ⟨R08_Rate.ok, trivial⟩ trivial ?_ ?_
 · rw [loops]; exact trivial
 · intro args K r h
   unfold spec0 at h
   split at h
   · rw [body]; exact h
   · cases h
theorem ok : Proved Tryd.prog [(1, [AVal.arr .u64 24 P.kcon]), (2, [AVal.arr .u32 64 P.roots256]), (3, [AVal.arr .u64 80 P.roots512]), (4, [AVal.arr .i64 24 P.kpla]), (5, [AVal.arr .i64 24 P.ktur])] 95 spec := ok0
end R08_New
end

section
open Go Go.Abs Go.Proofs
set_option maxRecDepth 100000
set_option maxHeartbeats 0
set_option linter.unusedVariables false
namespace R08_Squeeze
abbrev X12 := Int × Int × (List Int) × Int × (List Int) × Int × Bool × Int × (List Int) × Int × Bool
def S12 : X12 → ASt := fun (v1, v6, h40, h0_0, h0_1, h0_2, h0_3, h1_0, h1_1, h1_2, h1_3) => ⟨[(8, .own 40), (1, .v (.int .i64 v1)), (2, .ptr 0 0), (4, .ptr 1 0), (6, .v (.int .i64 v6))], [(40, some ⟨.row 5 (.ints .u8 h40), false⟩), (0, some ⟨.box 123 [.v (.int .i64 h0_0), .arr .u64 25 h0_1, .v (.int .i64 h0_2), .v (.bool h0_3)], false⟩), (1, some ⟨.box 123 [.v (.int .i64 h1_0), .arr .u64 25 h1_1, .v (.int .i64 h1_2), .v (.bool h1_3)], false⟩)], 41, 73⟩
def V12 : ASt → Option X12
 | ⟨[(8, .own 40), (1, .v (.int .i64 v1)), (2, .ptr 0 0), (4, .ptr 1 0), (6, .v (.int .i64 v6))], [(40, some ⟨.row 5 (.ints .u8 h40), false⟩), (0, some ⟨.box 123 [.v (.int .i64 h0_0), .arr .u64 25 h0_1, .v (.int .i64 h0_2), .v (.bool h0_3)], false⟩), (1, some ⟨.box 123 [.v (.int .i64 h1_0), .arr .u64 25 h1_1, .v (.int .i64 h1_2), .v (.bool h1_3)], false⟩)], 41, 73⟩ => some (v1, v6, h40, h0_0, h0_1, h0_2, h0_3, h1_0, h1_1, h1_2, h1_3)
 | _ => none
theorem V12_ok (st) (x) (h : V12 st = some x) : st = S12 x := by
 unfold V12 at h
 split at h
 · cases h; rfl
 · cases h
abbrev Y12 := X12
noncomputable def T12 : X12 → (X12 → Option R) → (Y12 → Option R) → Option R := fun (v1, v6, h40, h0_0, h0_1, h0_2, h0_3, h1_0, h1_1, h1_2, h1_3) next ex => P.R08_Squeeze_r12 v1 v6 h40 h0_0 h0_1 h0_2 h0_3 h1_0 h1_1 h1_2 h1_3 (fun v1 v6 h40 h0_0 h0_1 h0_2 h0_3 h1_0 h1_1 h1_2 h1_3 => next (v1, v6, h40, h0_0, h0_1, h0_2, h0_3, h1_0, h1_1, h1_2, h1_3)) (fun v1 v6 h40 h0_0 h0_1 h0_2 h0_3 h1_0 h1_1 h1_2 h1_3 => ex (v1, v6, h40, h0_0, h0_1, h0_2, h0_3, h1_0, h1_1, h1_2, h1_3))
def E12 (K : AExit → ASt → Option R) : Y12 → Option R := (fun x => K (.exit 0) (S12 x))
noncomputable def L12 : LSpec := fun st K => vMap (V12 st) fun (v1, v6, h40, h0_0, h0_1, h0_2, h0_3, h1_0, h1_1, h1_2, h1_3) => P.R08_Squeeze_l12 v1 v6 h40 h0_0 h0_1 h0_2 h0_3 h1_0 h1_1 h1_2 h1_3 (fun v1 v6 h40 h0_0 h0_1 h0_2 h0_3 h1_0 h1_1 h1_2 h1_3 => K (.exit 0) (S12 (v1, v6, h40, h0_0, h0_1, h0_2, h0_3, h1_0, h1_1, h1_2, h1_3)))
noncomputable def D : Ctx := ({ P := Tryd.prog, G := [(101, R08_Rate.spec), (127, R08_Permute.spec), (128, R08_put.spec)], globs := [(1, [AVal.arr .u64 24 P.kcon]), (2, [AVal.arr .u32 64 P.roots256]), (3, [AVal.arr .u64 80 P.roots512]), (4, [AVal.arr .i64 24 P.kpla]), (5, [AVal.arr .i64 24 P.ktur])], hints := [(12, ⟨[1, 2, 4, 6], [(8, 5, .ints .u8 [])], [4, 5], [], some (40, [0, 1]), []⟩)], loops := [(12, L12)], inl := [] } : Ctx)
theorem round12 (K) (next) (x) : roundA D (loopAt Tryd.f96 12) K next (S12 x) = T12 x (fun x => next (S12 x)) (E12 K) := by kernel_rfl
theorem lq12 (st) (K) : L12 st K = vMap (V12 st) (fun x => lp T12 x (E12 K)) := by
 unfold L12
 cases V12 st with
 | none => rfl
 | some x => rw [P.R08_Squeeze_l12_eq]; kernel_rfl
theorem loop12 : LoopOk D (loopAt Tryd.f96 12) := loopOk_lp S12 V12_ok (by kernel_rfl) lq12 round12
theorem body (a0_Kind : Int) (a0_Words : List Int) (a0_At : Int) (a0_Out : Bool) (a1 : Int) (K : AVal → Option R) : bodyA D Tryd.f96 [.any, .fr 5 (.ints .u8 [])] [.agg [.v (.int .i64 a0_Kind), .arr .u64 25 a0_Words, .v (.int .i64 a0_At), .v (.bool a0_Out)], .v (.int .i64 a1)] K = P.R08_Squeeze a0_Kind a0_Words a0_At a0_Out a1 (fun r0_Kind r0_Words r0_At r0_Out r1 => K (.tuple [.agg [.v (.int .i64 r0_Kind), .arr .u64 25 r0_Words, .v (.int .i64 r0_At), .v (.bool r0_Out)], .fr 5 (.ints .u8 r1)])) := by
 rw [P.R08_Squeeze_eq]
 kernel_rfl
theorem loops : loopsOf (Tryd.f96.body.getD .skip) = [loopAt Tryd.f96 12] := by kernel_rfl
noncomputable def spec0 : Abs.Spec := fun args K => match args with
 | [.agg [.v (.int .i64 a0_Kind), .arr .u64 25 a0_Words, .v (.int .i64 a0_At), .v (.bool a0_Out)], .v (.int .i64 a1)] => P.R08_Squeeze a0_Kind a0_Words a0_At a0_Out a1 (fun r0_Kind r0_Words r0_At r0_Out r1 => K (.tuple [.agg [.v (.int .i64 r0_Kind), .arr .u64 25 r0_Words, .v (.int .i64 r0_At), .v (.bool r0_Out)], .fr 5 (.ints .u8 r1)]))
 | _ => none
noncomputable def spec : Abs.Spec := spec0
theorem ok0 : Proved Tryd.prog [(1, [AVal.arr .u64 24 P.kcon]), (2, [AVal.arr .u32 64 P.roots256]), (3, [AVal.arr .u64 80 P.roots512]), (4, [AVal.arr .i64 24 P.kpla]), (5, [AVal.arr .i64 24 P.ktur])] 96 spec0 := by
 refine proved_of (D := D) (fn := Tryd.f96) (c := Tryd.f96.body.getD .skip) [.any, .fr 5 (.ints .u8 [])] (by kernel_rfl) (globsPlain_of (by kernel_rfl)) (by kernel_rfl) (by kernel_rfl) (by kernel_rfl) ⟨R08_Rate.ok, R08_Permute.ok, R08_put.ok, trivial⟩ trivial ?_ ?_
 · rw [loops]; exact ⟨loop12, trivial⟩
 · intro args K r h
   unfold spec0 at h
   split at h
   · rw [body]; exact h
   · cases h
theorem ok : Proved Tryd.prog [(1, [AVal.arr .u64 24 P.kcon]), (2, [AVal.arr .u32 64 P.roots256]), (3, [AVal.arr .u64 80 P.roots512]), (4, [AVal.arr .i64 24 P.kpla]), (5, [AVal.arr .i64 24 P.ktur])] 96 spec := ok0
end R08_Squeeze
end
