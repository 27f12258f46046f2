/-
  WotsTells, part M: an interpreter of my own over abstract values, the pure functions, the walks and the plain law.
-/

import Derived.Test.YtjhnljhjpnjieaaDoorWotsTellsG
import Derived.Test.YtjhnljhjpnjieaaDoorWotsTellsF
import Derived.Test.YtjhnljhjpnjieaaDoorProg
import Derived.Test.YtjhnljhjpnjieaaDoorWotsTellsL
import Derived.KernelRfl
import Derived.Test.YtjhnljhjpnjieaaDoorWotsTellsH

section
open Go Go.Abs Go.Proofs
set_option maxRecDepth 100000
set_option maxHeartbeats 0
set_option linter.unusedVariables false
namespace R01_Digits
abbrev X9 := (List Int) × Int × Int × Int × Int × Int × (List Int)
def S9 : X9 → ASt := fun (v0, v1, v2, v8, v9, v10, h0) => ⟨[(0, .sl (.ints .u8 v0)), (1, .v (.int .i64 v1)), (2, .v (.int .i64 v2)), (7, .own 0), (8, .v (.int .i64 v8)), (9, .v (.int .u32 v9)), (10, .v (.int .i64 v10))], [(0, some ⟨.row 77 (.ints .u32 h0), false⟩)], 1, 51⟩
def V9 : ASt → Option X9
 | ⟨[(0, .sl (.ints .u8 v0)), (1, .v (.int .i64 v1)), (2, .v (.int .i64 v2)), (7, .own 0), (8, .v (.int .i64 v8)), (9, .v (.int .u32 v9)), (10, .v (.int .i64 v10))], [(0, some ⟨.row 77 (.ints .u32 h0), false⟩)], 1, 51⟩ => some (v0, v1, v2, v8, v9, v10, h0)
 | _ => none
theorem V9_ok (st) (x) (h : V9 st = some x) : st = S9 x := by
 unfold V9 at h
 split at h
 · cases h; rfl
 · cases h
abbrev Y9 := X9
noncomputable def T9 : X9 → (X9 → Option R) → (Y9 → Option R) → Option R := fun (v0, v1, v2, v8, v9, v10, h0) next ex => P.R01_Digits_r9 v0 v1 v2 v8 v9 v10 h0 (fun v0 v1 v2 v8 v9 v10 h0 => next (v0, v1, v2, v8, v9, v10, h0)) (fun v0 v1 v2 v8 v9 v10 h0 => ex (v0, v1, v2, v8, v9, v10, h0))
abbrev X5 := (List Int) × Int × Int × Int × (List Int)
def S5 : X5 → ASt := fun (v0, v1, v2, v8, h0) => ⟨[(7, .own 0), (0, .sl (.ints .u8 v0)), (1, .v (.int .i64 v1)), (2, .v (.int .i64 v2)), (8, .v (.int .i64 v8))], [(0, some ⟨.row 77 (.ints .u32 h0), false⟩)], 1, 51⟩
def V5 : ASt → Option X5
 | ⟨[(7, .own 0), (0, .sl (.ints .u8 v0)), (1, .v (.int .i64 v1)), (2, .v (.int .i64 v2)), (8, .v (.int .i64 v8))], [(0, some ⟨.row 77 (.ints .u32 h0), false⟩)], 1, 51⟩ => some (v0, v1, v2, v8, h0)
 | _ => none
theorem V5_ok (st) (x) (h : V5 st = some x) : st = S5 x := by
 unfold V5 at h
 split at h
 · cases h; rfl
 · cases h
abbrev Y5 := X5
noncomputable def T5 : X5 → (X5 → Option R) → (Y5 → Option R) → Option R := fun (v0, v1, v2, v8, h0) next ex => P.R01_Digits_r5 v0 v1 v2 v8 h0 (fun v0 v1 v2 v8 h0 => next (v0, v1, v2, v8, h0)) (fun v0 v1 v2 v8 h0 => ex (v0, v1, v2, v8, h0))
def E9 (K : AExit → ASt → Option R) : Y9 → Option R := (fun x => K (.exit 2) (S9 x))
noncomputable def L9 : LSpec := fun st K => vMap (V9 st) fun (v0, v1, v2, v8, v9, v10, h0) => P.R01_Digits_l9 v0 v1 v2 v8 v9 v10 h0 (fun v0 v1 v2 v8 v9 v10 h0 => K (.exit 2) (S9 (v0, v1, v2, v8, v9, v10, h0)))
def E5 (K : AExit → ASt → Option R) : Y5 → Option R := (fun x => K (.exit 0) (S5 x))
noncomputable def L5 : LSpec := fun st K => vMap (V5 st) fun (v0, v1, v2, v8, h0) => P.R01_Digits_l5 v0 v1 v2 v8 h0 (fun v0 v1 v2 v8 h0 => K (.exit 0) (S5 (v0, v1, v2, v8, h0)))
noncomputable def D : Ctx := ({ P := Tryd.prog, G := [(107, R01_such.spec)], globs := [(1, [AVal.arr .u64 24 P.kcon]), (2, [AVal.arr .u32 64 P.roots256]), (3, [AVal.arr .u64 80 P.roots512]), (4, [AVal.arr .i64 24 P.kpla]), (5, [AVal.arr .i64 24 P.ktur])], hints := [(9, ⟨[0, 1, 2, 7, 8, 9, 10], [], [6], [], none, []⟩), (5, ⟨[0, 1, 2, 8], [(7, 77, .ints .u32 [])], [6], [], none, []⟩)], loops := [(9, L9), (5, L5)], inl := [] } : Ctx)
theorem round9 (K) (next) (x) : roundA D (loopAt Tryd.f65 9) K next (S9 x) = T9 x (fun x => next (S9 x)) (E9 K) := by kernel_rfl
theorem lq9 (st) (K) : L9 st K = vMap (V9 st) (fun x => lp T9 x (E9 K)) := by
 unfold L9
 cases V9 st with
 | none => rfl
 | some x => rw [P.R01_Digits_l9_eq]; kernel_rfl
theorem loop9 : LoopOk D (loopAt Tryd.f65 9) := loopOk_lp S9 V9_ok (by kernel_rfl) lq9 round9
theorem round5 (K) (next) (x) : roundA D (loopAt Tryd.f65 5) K next (S5 x) = T5 x (fun x => next (S5 x)) (E5 K) := by kernel_rfl
theorem lq5 (st) (K) : L5 st K = vMap (V5 st) (fun x => lp T5 x (E5 K)) := by
 unfold L5
 cases V5 st with
 | none => rfl
 | some x => rw [P.R01_Digits_l5_eq]; kernel_rfl
theorem loop5 : LoopOk D (loopAt Tryd.f65 5) := loopOk_lp S5 V5_ok (by kernel_rfl) lq5 round5
theorem body (a0 : List Int) (a1 : Int) (a2 : Int) (K : AVal → Option R) : bodyA D Tryd.f65 [.fr 77 (.ints .u32 [])] [.sl (.ints .u8 a0), .v (.int .i64 a1), .v (.int .i64 a2)] K = P.R01_Digits a0 a1 a2 (fun r0 => K (.fr 77 (.ints .u32 r0))) := by
 rw [P.R01_Digits_eq]
 kernel_rfl
theorem loops : loopsOf (Tryd.f65.body.getD .skip) = [loopAt Tryd.f65 5, loopAt Tryd.f65 9] := by kernel_rfl
noncomputable def spec0 : Abs.Spec := fun args K => match args with
 | [.sl (.ints .u8 a0), .v (.int .i64 a1), .v (.int .i64 a2)] => P.R01_Digits a0 a1 a2 (fun r0 => K (.fr 77 (.ints .u32 r0)))
 | _ => none
noncomputable def spec : Abs.Spec := fun args K => spec0 (coerL [.sl (.ints .u8 []), .any, .any] args) K
theorem ok0 : Proved Tryd.prog [(1, [AVal.arr .u64 24 P.kcon]), (2, [AVal.arr .u32 64 P.roots256]), (3, [AVal.arr .u64 80 P.roots512]), (4, [AVal.arr .i64 24 P.kpla]), (5, [AVal.arr .i64 24 P.ktur])] 65 spec0 := by
 refine proved_of (D := D) (fn := Tryd.f65) (c := Tryd.f65.body.getD .skip) [.fr 77 (.ints .u32 [])] (by kernel_rfl) (globsPlain_of (by kernel_rfl)) (by kernel_rfl) (by kernel_rfl) (by kernel_rfl) ⟨R01_such.ok, trivial⟩ trivial ?_ ?_
 · rw [loops]; exact ⟨loop5, loop9, trivial⟩
 · intro args K r h
   unfold spec0 at h
   split at h
   · rw [body]; exact h
   · cases h
theorem ok : Proved Tryd.prog [(1, [AVal.arr .u64 24 P.kcon]), (2, [AVal.arr .u32 64 P.roots256]), (3, [AVal.arr .u64 80 P.roots512]), (4, [AVal.arr .i64 24 P.kpla]), (5, [AVal.arr .i64 24 P.ktur])] 65 spec := proved_coer _ ok0
end R01_Digits
end

section
open Go Go.Abs Go.Proofs
set_option maxRecDepth 100000
set_option maxHeartbeats 0
set_option linter.unusedVariables false
namespace R17_Digits
abbrev X6 := Int × Int × (List Int)
def S6 : X6 → ASt := fun (v6, v7, h0) => ⟨[(5, .own 0), (6, .v (.int .u64 v6)), (7, .v (.int .i64 v7))], [(0, some ⟨.row 77 (.ints .u32 h0), false⟩)], 1, 48⟩
def V6 : ASt → Option X6
 | ⟨[(5, .own 0), (6, .v (.int .u64 v6)), (7, .v (.int .i64 v7))], [(0, some ⟨.row 77 (.ints .u32 h0), false⟩)], 1, 48⟩ => some (v6, v7, h0)
 | _ => none
theorem V6_ok (st) (x) (h : V6 st = some x) : st = S6 x := by
 unfold V6 at h
 split at h
 · cases h; rfl
 · cases h
abbrev Y6 := X6
noncomputable def T6 : X6 → (X6 → Option R) → (Y6 → Option R) → Option R := fun (v6, v7, h0) next ex => P.R17_Digits_r6 v6 v7 h0 (fun v6 v7 h0 => next (v6, v7, h0)) (fun v6 v7 h0 => ex (v6, v7, h0))
def E6 (K : AExit → ASt → Option R) : Y6 → Option R := (fun x => K (.exit 0) (S6 x))
noncomputable def L6 : LSpec := fun st K => vMap (V6 st) fun (v6, v7, h0) => P.R17_Digits_l6 v6 v7 h0 (fun v6 v7 h0 => K (.exit 0) (S6 (v6, v7, h0)))
noncomputable def D : Ctx := ({ P := Tryd.prog, G := [(61, R01_Be.spec), (65, R01_Digits.spec)], globs := [(1, [AVal.arr .u64 24 P.kcon]), (2, [AVal.arr .u32 64 P.roots256]), (3, [AVal.arr .u64 80 P.roots512]), (4, [AVal.arr .i64 24 P.kpla]), (5, [AVal.arr .i64 24 P.ktur])], hints := [(6, ⟨[5, 6, 7], [], [4], [], none, []⟩)], loops := [(6, L6)], inl := [] } : Ctx)
theorem round6 (K) (next) (x) : roundA D (loopAt Tryd.f31 6) K next (S6 x) = T6 x (fun x => next (S6 x)) (E6 K) := by kernel_rfl
theorem lq6 (st) (K) : L6 st K = vMap (V6 st) (fun x => lp T6 x (E6 K)) := by
 unfold L6
 cases V6 st with
 | none => rfl
 | some x => rw [P.R17_Digits_l6_eq]; kernel_rfl
theorem loop6 : LoopOk D (loopAt Tryd.f31 6) := loopOk_lp S6 V6_ok (by kernel_rfl) lq6 round6
theorem body (a0 : Int) (a1 : List Int) (K : AVal → Option R) : bodyA D Tryd.f31 [.fr 77 (.ints .u32 [])] [.v (.int .i64 a0), .sl (.ints .u8 a1)] K = P.R17_Digits a0 a1 (fun r0 => K (.fr 77 (.ints .u32 r0))) := by
 rw [P.R17_Digits_eq]
 kernel_rfl
theorem loops : loopsOf (Tryd.f31.body.getD .skip) = [loopAt Tryd.f31 6] := by kernel_rfl
noncomputable def spec0 : Abs.Spec := fun args K => match args with
 | [.v (.int .i64 a0), .sl (.ints .u8 a1)] => P.R17_Digits a0 a1 (fun r0 => K (.fr 77 (.ints .u32 r0)))
 | _ => none
noncomputable def spec : Abs.Spec := fun args K => spec0 (coerL [.any, .sl (.ints .u8 [])] args) K
theorem ok0 : Proved Tryd.prog [(1, [AVal.arr .u64 24 P.kcon]), (2, [AVal.arr .u32 64 P.roots256]), (3, [AVal.arr .u64 80 P.roots512]), (4, [AVal.arr .i64 24 P.kpla]), (5, [AVal.arr .i64 24 P.ktur])] 31 spec0 := by
 refine proved_of (D := D) (fn := Tryd.f31) (c := Tryd.f31.body.getD .skip) [.fr 77 (.ints .u32 [])] (by kernel_rfl) (globsPlain_of (by kernel_rfl)) (by kernel_rfl) (by kernel_rfl) (by kernel_rfl) ⟨R01_Be.ok, R01_Digits.ok, trivial⟩ trivial ?_ ?_
 · rw [loops]; exact ⟨loop6, trivial⟩
 · intro args K r h
   unfold spec0 at h
   split at h
   · rw [body]; exact h
   · cases h
theorem ok : Proved Tryd.prog [(1, [AVal.arr .u64 24 P.kcon]), (2, [AVal.arr .u32 64 P.roots256]), (3, [AVal.arr .u64 80 P.roots512]), (4, [AVal.arr .i64 24 P.kpla]), (5, [AVal.arr .i64 24 P.ktur])] 31 spec := proved_coer _ ok0
end R17_Digits
end

section
open Go Go.Abs Go.Proofs
set_option maxRecDepth 100000
set_option maxHeartbeats 0
set_option linter.unusedVariables false
namespace R01_Join
abbrev X3 := (List (List Int)) × Int × (List Int)
def S3 : X3 → ASt := fun (v0, v4, h0) => ⟨[(3, .own 0), (0, .sl (.rows .u8 v0)), (4, .v (.int .i64 v4))], [(0, some ⟨.row 5 (.ints .u8 h0), false⟩)], 1, 18⟩
def V3 : ASt → Option X3
 | ⟨[(3, .own 0), (0, .sl (.rows .u8 v0)), (4, .v (.int .i64 v4))], [(0, some ⟨.row 5 (.ints .u8 h0), false⟩)], 1, 18⟩ => some (v0, v4, h0)
 | _ => none
theorem V3_ok (st) (x) (h : V3 st = some x) : st = S3 x := by
 unfold V3 at h
 split at h
 · cases h; rfl
 · cases h
abbrev Y3 := X3
noncomputable def T3 : X3 → (X3 → Option R) → (Y3 → Option R) → Option R := fun (v0, v4, h0) next ex => P.R01_Join_r3 v0 v4 h0 (fun v0 v4 h0 => next (v0, v4, h0)) (fun v0 v4 h0 => ex (v0, v4, h0))
def E3 (K : AExit → ASt → Option R) : Y3 → Option R := (fun x => K (.exit 0) (S3 x))
noncomputable def L3 : LSpec := fun st K => vMap (V3 st) fun (v0, v4, h0) => P.R01_Join_l3 v0 v4 h0 (fun v0 v4 h0 => K (.exit 0) (S3 (v0, v4, h0)))
noncomputable def D : Ctx := ({ P := Tryd.prog, G := [], globs := [(1, [AVal.arr .u64 24 P.kcon]), (2, [AVal.arr .u32 64 P.roots256]), (3, [AVal.arr .u64 80 P.roots512]), (4, [AVal.arr .i64 24 P.kpla]), (5, [AVal.arr .i64 24 P.ktur])], hints := [(3, ⟨[0, 4], [(3, 5, .ints .u8 [])], [2], [], none, []⟩)], loops := [(3, L3)], inl := [] } : Ctx)
theorem round3 (K) (next) (x) : roundA D (loopAt Tryd.f58 3) K next (S3 x) = T3 x (fun x => next (S3 x)) (E3 K) := by kernel_rfl
theorem lq3 (st) (K) : L3 st K = vMap (V3 st) (fun x => lp T3 x (E3 K)) := by
 unfold L3
 cases V3 st with
 | none => rfl
 | some x => rw [P.R01_Join_l3_eq]; kernel_rfl
theorem loop3 : LoopOk D (loopAt Tryd.f58 3) := loopOk_lp S3 V3_ok (by kernel_rfl) lq3 round3
theorem body (a0 : List (List Int)) (K : AVal → Option R) : bodyA D Tryd.f58 [.fr 5 (.ints .u8 [])] [.sl (.rows .u8 a0)] K = P.R01_Join a0 (fun r0 => K (.fr 5 (.ints .u8 r0))) := by
 rw [P.R01_Join_eq]
 kernel_rfl
theorem loops : loopsOf (Tryd.f58.body.getD .skip) = [loopAt Tryd.f58 3] := by kernel_rfl
noncomputable def spec0 : Abs.Spec := fun args K => match args with
 | [.sl (.rows .u8 a0)] => P.R01_Join a0 (fun r0 => K (.fr 5 (.ints .u8 r0)))
 | _ => none
noncomputable def spec : Abs.Spec := fun args K => spec0 (coerL [.sl (.rows .u8 [])] args) K
theorem ok0 : Proved Tryd.prog [(1, [AVal.arr .u64 24 P.kcon]), (2, [AVal.arr .u32 64 P.roots256]), (3, [AVal.arr .u64 80 P.roots512]), (4, [AVal.arr .i64 24 P.kpla]), (5, [AVal.arr .i64 24 P.ktur])] 58 spec0 := by
 refine proved_of (D := D) (fn := Tryd.f58) (c := Tryd.f58.body.getD .skip) [.fr 5 (.ints .u8 [])] (by kernel_rfl) (globsPlain_of (by kernel_rfl)) (by kernel_rfl) (by kernel_rfl) (by kernel_rfl) trivial trivial ?_ ?_
 · rw [loops]; exact ⟨loop3, trivial⟩
 · intro args K r h
   unfold spec0 at h
   split at h
   · rw [body]; exact h
   · cases h
theorem ok : Proved Tryd.prog [(1, [AVal.arr .u64 24 P.kcon]), (2, [AVal.arr .u32 64 P.roots256]), (3, [AVal.arr .u64 80 P.roots512]), (4, [AVal.arr .i64 24 P.kpla]), (5, [AVal.arr .i64 24 P.ktur])] 58 spec := proved_coer _ ok0
end R01_Join
end

section
open Go Go.Abs Go.Proofs
set_option maxRecDepth 100000
set_option maxHeartbeats 0
set_option linter.unusedVariables false
namespace R07_Block
noncomputable def D : Ctx := ({ P := Tryd.prog, G := [], globs := [(1, [AVal.arr .u64 24 P.kcon]), (2, [AVal.arr .u32 64 P.roots256]), (3, [AVal.arr .u64 80 P.roots512]), (4, [AVal.arr .i64 24 P.kpla]), (5, [AVal.arr .i64 24 P.ktur])], hints := [], loops := [], inl := [] } : Ctx)
theorem body (a0 : Int) (K : AVal → Option R) : bodyA D Tryd.f100 [.any] [.v (.int .i64 a0)] K = P.R07_Block a0 (fun r0 => K (.v (.int .i64 r0))) := by
 rw [P.R07_Block_eq]
 kernel_rfl
theorem loops : loopsOf (Tryd.f100.body.getD .skip) = [] := by kernel_rfl
noncomputable def spec0 : Abs.Spec := fun args K => match args with
 | [.v (.int .i64 a0)] => P.R07_Block a0 (fun r0 => K (.v (.int .i64 r0)))
 | _ => none
noncomputable def spec : Abs.Spec := spec0
theorem ok0 : Proved Tryd.prog [(1, [AVal.arr .u64 24 P.kcon]), (2, [AVal.arr .u32 64 P.roots256]), (3, [AVal.arr .u64 80 P.roots512]), (4, [AVal.arr .i64 24 P.kpla]), (5, [AVal.arr .i64 24 P.ktur])] 100 spec0 := by
 refine proved_of (D := D) (fn := Tryd.f100) (c := Tryd.f100.body.getD .skip) [.any] (by kernel_rfl) (globsPlain_of (by kernel_rfl)) (by kernel_rfl) (by kernel_rfl) (by kernel_rfl) trivial trivial ?_ ?_
 · rw [loops]; exact trivial
 · intro args K r h
   unfold spec0 at h
   split at h
   · rw [body]; exact h
   · cases h
theorem ok : Proved Tryd.prog [(1, [AVal.arr .u64 24 P.kcon]), (2, [AVal.arr .u32 64 P.roots256]), (3, [AVal.arr .u64 80 P.roots512]), (4, [AVal.arr .i64 24 P.kpla]), (5, [AVal.arr .i64 24 P.ktur])] 100 spec := ok0
end R07_Block
end

section
open Go Go.Abs Go.Proofs
set_option maxRecDepth 100000
set_option maxHeartbeats 0
set_option linter.unusedVariables false
namespace R07_right
noncomputable def D : Ctx := ({ P := Tryd.prog, G := [], globs := [(1, [AVal.arr .u64 24 P.kcon]), (2, [AVal.arr .u32 64 P.roots256]), (3, [AVal.arr .u64 80 P.roots512]), (4, [AVal.arr .i64 24 P.kpla]), (5, [AVal.arr .i64 24 P.ktur])], hints := [], loops := [], inl := [] } : Ctx)
theorem body (a0 : Int) (a1 : Int) (a2 : Bool) (K : AVal → Option R) : bodyA D Tryd.f155 [.any] [.v (.int .u64 a0), .v (.int .i64 a1), .v (.bool a2)] K = P.R07_right a0 a1 a2 (fun r0 => K (.v (.int .u64 r0))) := by
 rw [P.R07_right_eq]
 kernel_rfl
theorem loops : loopsOf (Tryd.f155.body.getD .skip) = [] := by kernel_rfl
noncomputable def spec0 : Abs.Spec := fun args K => match args with
 | [.v (.int .u64 a0), .v (.int .i64 a1), .v (.bool a2)] => P.R07_right a0 a1 a2 (fun r0 => K (.v (.int .u64 r0)))
 | _ => none
noncomputable def spec : Abs.Spec := spec0
theorem ok0 : Proved Tryd.prog [(1, [AVal.arr .u64 24 P.kcon]), (2, [AVal.arr .u32 64 P.roots256]), (3, [AVal.arr .u64 80 P.roots512]), (4, [AVal.arr .i64 24 P.kpla]), (5, [AVal.arr .i64 24 P.ktur])] 155 spec0 := by
 refine proved_of (D := D) (fn := Tryd.f155) (c := Tryd.f155.body.getD .skip) [.any] (by kernel_rfl) (globsPlain_of (by kernel_rfl)) (by kernel_rfl) (by kernel_rfl) (by kernel_rfl) trivial trivial ?_ ?_
 · rw [loops]; exact trivial
 · intro args K r h
   unfold spec0 at h
   split at h
   · rw [body]; exact h
   · cases h
theorem ok : Proved Tryd.prog [(1, [AVal.arr .u64 24 P.kcon]), (2, [AVal.arr .u32 64 P.roots256]), (3, [AVal.arr .u64 80 P.roots512]), (4, [AVal.arr .i64 24 P.kpla]), (5, [AVal.arr .i64 24 P.ktur])] 155 spec := ok0
end R07_right
end

section
open Go Go.Abs Go.Proofs
set_option maxRecDepth 100000
set_option maxHeartbeats 0
set_option linter.unusedVariables false
namespace R07_mix
noncomputable def D : Ctx := ({ P := Tryd.prog, G := [(155, R07_right.spec)], globs := [(1, [AVal.arr .u64 24 P.kcon]), (2, [AVal.arr .u32 64 P.roots256]), (3, [AVal.arr .u64 80 P.roots512]), (4, [AVal.arr .i64 24 P.kpla]), (5, [AVal.arr .i64 24 P.ktur])], hints := [], loops := [], inl := [] } : Ctx)
theorem body (a0 : Int) (a1 : Int) (a2 : Int) (a3 : Int) (a4 : Bool) (a5 : Bool) (K : AVal → Option R) : bodyA D Tryd.f144 [.any] [.v (.int .u64 a0), .v (.int .i64 a1), .v (.int .i64 a2), .v (.int .i64 a3), .v (.bool a4), .v (.bool a5)] K = P.R07_mix a0 a1 a2 a3 a4 a5 (fun r0 => K (.v (.int .u64 r0))) := by
 rw [P.R07_mix_eq]
 kernel_rfl
theorem loops : loopsOf (Tryd.f144.body.getD .skip) = [] := by kernel_rfl
noncomputable def spec0 : Abs.Spec := fun args K => match args with
 | [.v (.int .u64 a0), .v (.int .i64 a1), .v (.int .i64 a2), .v (.int .i64 a3), .v (.bool a4), .v (.bool a5)] => P.R07_mix a0 a1 a2 a3 a4 a5 (fun r0 => K (.v (.int .u64 r0)))
 | _ => none
noncomputable def spec : Abs.Spec := spec0
theorem ok0 : Proved Tryd.prog [(1, [AVal.arr .u64 24 P.kcon]), (2, [AVal.arr .u32 64 P.roots256]), (3, [AVal.arr .u64 80 P.roots512]), (4, [AVal.arr .i64 24 P.kpla]), (5, [AVal.arr .i64 24 P.ktur])] 144 spec0 := by
 refine proved_of (D := D) (fn := Tryd.f144) (c := Tryd.f144.body.getD .skip) [.any] (by kernel_rfl) (globsPlain_of (by kernel_rfl)) (by kernel_rfl) (by kernel_rfl) (by kernel_rfl) ⟨R07_right.ok, trivial⟩ trivial ?_ ?_
 · rw [loops]; exact trivial
 · intro args K r h
   unfold spec0 at h
   split at h
   · rw [body]; exact h
   · cases h
theorem ok : Proved Tryd.prog [(1, [AVal.arr .u64 24 P.kcon]), (2, [AVal.arr .u32 64 P.roots256]), (3, [AVal.arr .u64 80 P.roots512]), (4, [AVal.arr .i64 24 P.kpla]), (5, [AVal.arr .i64 24 P.ktur])] 144 spec := ok0
end R07_mix
end

section
open Go Go.Abs Go.Proofs
set_option maxRecDepth 100000
set_option maxHeartbeats 0
set_option linter.unusedVariables false
namespace R07_roots256
noncomputable def D : Ctx := ({ P := Tryd.prog, G := [], globs := [(1, [AVal.arr .u64 24 P.kcon]), (2, [AVal.arr .u32 64 P.roots256]), (3, [AVal.arr .u64 80 P.roots512]), (4, [AVal.arr .i64 24 P.kpla]), (5, [AVal.arr .i64 24 P.ktur])], hints := [], loops := [], inl := [] } : Ctx)
theorem body  (K : AVal → Option R) : bodyA D Tryd.f141 [.any] [] K = P.R07_roots256 (fun r0 => K (.arr .u64 64 r0)) := by
 rw [P.R07_roots256_eq]
 kernel_rfl
theorem loops : loopsOf (Tryd.f141.body.getD .skip) = [] := by kernel_rfl
noncomputable def spec0 : Abs.Spec := fun args K => match args with
 | [] => P.R07_roots256 (fun r0 => K (.arr .u64 64 r0))
 | _ => none
noncomputable def spec : Abs.Spec := spec0
theorem ok0 : Proved Tryd.prog [(1, [AVal.arr .u64 24 P.kcon]), (2, [AVal.arr .u32 64 P.roots256]), (3, [AVal.arr .u64 80 P.roots512]), (4, [AVal.arr .i64 24 P.kpla]), (5, [AVal.arr .i64 24 P.ktur])] 141 spec0 := by
 refine proved_of (D := D) (fn := Tryd.f141) (c := Tryd.f141.body.getD .skip) [.any] (by kernel_rfl) (globsPlain_of (by kernel_rfl)) (by kernel_rfl) (by kernel_rfl) (by kernel_rfl) trivial trivial ?_ ?_
 · rw [loops]; exact trivial
 · intro args K r h
   unfold spec0 at h
   split at h
   · rw [body]; exact h
   · cases h
theorem ok : Proved Tryd.prog [(1, [AVal.arr .u64 24 P.kcon]), (2, [AVal.arr .u32 64 P.roots256]), (3, [AVal.arr .u64 80 P.roots512]), (4, [AVal.arr .i64 24 P.kpla]), (5, [AVal.arr .i64 24 P.ktur])] 141 spec := ok0
end R07_roots256
end

section
open Go Go.Abs Go.Proofs
set_option maxRecDepth 100000
set_option maxHeartbeats 0
set_option linter.unusedVariables false
namespace R07_roots512
noncomputable def D : Ctx := ({ P := Tryd.prog, G := [], globs := [(1, [AVal.arr .u64 24 P.kcon]), (2, [AVal.arr .u32 64 P.roots256]), (3, [AVal.arr .u64 80 P.roots512]), (4, [AVal.arr .i64 24 P.kpla]), (5, [AVal.arr .i64 24 P.ktur])], hints := [], loops := [], inl := [] } : Ctx)
theorem body  (K : AVal → Option R) : bodyA D Tryd.f142 [.any] [] K = P.R07_roots512 (fun r0 => K (.arr .u64 80 r0)) := by
 rw [P.R07_roots512_eq]
 kernel_rfl
theorem loops : loopsOf (Tryd.f142.body.getD .skip) = [] := by kernel_rfl
noncomputable def spec0 : Abs.Spec := fun args K => match args with
 | [] => P.R07_roots512 (fun r0 => K (.arr .u64 80 r0))
 | _ => none
noncomputable def spec : Abs.Spec := spec0
theorem ok0 : Proved Tryd.prog [(1, [AVal.arr .u64 24 P.kcon]), (2, [AVal.arr .u32 64 P.roots256]), (3, [AVal.arr .u64 80 P.roots512]), (4, [AVal.arr .i64 24 P.kpla]), (5, [AVal.arr .i64 24 P.ktur])] 142 spec0 := by
 refine proved_of (D := D) (fn := Tryd.f142) (c := Tryd.f142.body.getD .skip) [.any] (by kernel_rfl) (globsPlain_of (by kernel_rfl)) (by kernel_rfl) (by kernel_rfl) (by kernel_rfl) trivial trivial ?_ ?_
 · rw [loops]; exact trivial
 · intro args K r h
   unfold spec0 at h
   split at h
   · rw [body]; exact h
   · cases h
theorem ok : Proved Tryd.prog [(1, [AVal.arr .u64 24 P.kcon]), (2, [AVal.arr .u32 64 P.roots256]), (3, [AVal.arr .u64 80 P.roots512]), (4, [AVal.arr .i64 24 P.kpla]), (5, [AVal.arr .i64 24 P.ktur])] 142 spec := ok0
end R07_roots512
end

section
open Go Go.Abs Go.Proofs
set_option maxRecDepth 100000
set_option maxHeartbeats 0
set_option linter.unusedVariables false
namespace R01_Num
abbrev X3 := (List Int) × Int × Int
def S3 : X3 → ASt := fun (v0, v3, v4) => ⟨[(0, .sl (.ints .u8 v0)), (3, .v (.int .u64 v3)), (4, .v (.int .i64 v4))], [], 0, 20⟩
def V3 : ASt → Option X3
 | ⟨[(0, .sl (.ints .u8 v0)), (3, .v (.int .u64 v3)), (4, .v (.int .i64 v4))], [], 0, 20⟩ => some (v0, v3, v4)
 | _ => none
theorem V3_ok (st) (x) (h : V3 st = some x) : st = S3 x := by
 unfold V3 at h
 split at h
 · cases h; rfl
 · cases h
abbrev Y3 := X3
noncomputable def T3 : X3 → (X3 → Option R) → (Y3 → Option R) → Option R := fun (v0, v3, v4) next ex => P.R01_Num_r3 v0 v3 v4 (fun v0 v3 v4 => next (v0, v3, v4)) (fun v0 v3 v4 => ex (v0, v3, v4))
def E3 (K : AExit → ASt → Option R) : Y3 → Option R := (fun x => K (.exit 0) (S3 x))
noncomputable def L3 : LSpec := fun st K => vMap (V3 st) fun (v0, v3, v4) => P.R01_Num_l3 v0 v3 v4 (fun v0 v3 v4 => K (.exit 0) (S3 (v0, v3, v4)))
noncomputable def D : Ctx := ({ P := Tryd.prog, G := [], globs := [(1, [AVal.arr .u64 24 P.kcon]), (2, [AVal.arr .u32 64 P.roots256]), (3, [AVal.arr .u64 80 P.roots512]), (4, [AVal.arr .i64 24 P.kpla]), (5, [AVal.arr .i64 24 P.ktur])], hints := [(3, ⟨[0, 3, 4], [], [2], [], none, []⟩)], loops := [(3, L3)], inl := [] } : Ctx)
theorem round3 (K) (next) (x) : roundA D (loopAt Tryd.f154 3) K next (S3 x) = T3 x (fun x => next (S3 x)) (E3 K) := by kernel_rfl
theorem lq3 (st) (K) : L3 st K = vMap (V3 st) (fun x => lp T3 x (E3 K)) := by
 unfold L3
 cases V3 st with
 | none => rfl
 | some x => rw [P.R01_Num_l3_eq]; kernel_rfl
theorem loop3 : LoopOk D (loopAt Tryd.f154 3) := loopOk_lp S3 V3_ok (by kernel_rfl) lq3 round3
theorem body (a0 : List Int) (K : AVal → Option R) : bodyA D Tryd.f154 [.any] [.sl (.ints .u8 a0)] K = P.R01_Num a0 (fun r0 => K (.v (.int .u64 r0))) := by
 rw [P.R01_Num_eq]
 kernel_rfl
theorem loops : loopsOf (Tryd.f154.body.getD .skip) = [loopAt Tryd.f154 3] := by kernel_rfl
noncomputable def spec0 : Abs.Spec := fun args K => match args with
 | [.sl (.ints .u8 a0)] => P.R01_Num a0 (fun r0 => K (.v (.int .u64 r0)))
 | _ => none
noncomputable def spec : Abs.Spec := fun args K => spec0 (coerL [.sl (.ints .u8 [])] args) K
theorem ok0 : Proved Tryd.prog [(1, [AVal.arr .u64 24 P.kcon]), (2, [AVal.arr .u32 64 P.roots256]), (3, [AVal.arr .u64 80 P.roots512]), (4, [AVal.arr .i64 24 P.kpla]), (5, [AVal.arr .i64 24 P.ktur])] 154 spec0 := by
 refine proved_of (D := D) (fn := Tryd.f154) (c := Tryd.f154.body.getD .skip) [.any] (by kernel_rfl) (globsPlain_of (by kernel_rfl)) (by kernel_rfl) (by kernel_rfl) (by kernel_rfl) trivial trivial ?_ ?_
 · rw [loops]; exact ⟨loop3, trivial⟩
 · intro args K r h
   unfold spec0 at h
   split at h
   · rw [body]; exact h
   · cases h
theorem ok : Proved Tryd.prog [(1, [AVal.arr .u64 24 P.kcon]), (2, [AVal.arr .u32 64 P.roots256]), (3, [AVal.arr .u64 80 P.roots512]), (4, [AVal.arr .i64 24 P.kpla]), (5, [AVal.arr .i64 24 P.ktur])] 154 spec := proved_coer _ ok0
end R01_Num
end

section
open Go Go.Abs Go.Proofs
set_option maxRecDepth 100000
set_option maxHeartbeats 0
set_option linter.unusedVariables false
namespace R07_words
abbrev X6 := (List Int) × Bool × Int × Int × Int × Int × (List Int)
def S6 : X6 → ASt := fun (v0, v1, v2, v3, v9, v11, h0) => ⟨[(10, .own 0), (0, .sl (.ints .u8 v0)), (1, .v (.bool v1)), (2, .v (.int .i64 v2)), (3, .v (.int .u64 v3)), (9, .v (.int .i64 v9)), (11, .v (.int .i64 v11))], [(0, some ⟨.row 44 (.ints .u64 h0), false⟩)], 1, 82⟩
def V6 : ASt → Option X6
 | ⟨[(10, .own 0), (0, .sl (.ints .u8 v0)), (1, .v (.bool v1)), (2, .v (.int .i64 v2)), (3, .v (.int .u64 v3)), (9, .v (.int .i64 v9)), (11, .v (.int .i64 v11))], [(0, some ⟨.row 44 (.ints .u64 h0), false⟩)], 1, 82⟩ => some (v0, v1, v2, v3, v9, v11, h0)
 | _ => none
theorem V6_ok (st) (x) (h : V6 st = some x) : st = S6 x := by
 unfold V6 at h
 split at h
 · cases h; rfl
 · cases h
abbrev Y6 := X6
noncomputable def T6 : X6 → (X6 → Option R) → (Y6 → Option R) → Option R := fun (v0, v1, v2, v3, v9, v11, h0) next ex => P.R07_words_r6 v0 v1 v2 v3 v9 v11 h0 (fun v0 v1 v2 v3 v9 v11 h0 => next (v0, v1, v2, v3, v9, v11, h0)) (fun v0 v1 v2 v3 v9 v11 h0 => ex (v0, v1, v2, v3, v9, v11, h0))
def E6 (K : AExit → ASt → Option R) : Y6 → Option R := (fun x => K (.exit 0) (S6 x))
noncomputable def L6 : LSpec := fun st K => vMap (V6 st) fun (v0, v1, v2, v3, v9, v11, h0) => P.R07_words_l6 v0 v1 v2 v3 v9 v11 h0 (fun v0 v1 v2 v3 v9 v11 h0 => K (.exit 0) (S6 (v0, v1, v2, v3, v9, v11, h0)))
noncomputable def D : Ctx := ({ P := Tryd.prog, G := [(144, R07_mix.spec), (154, R01_Num.spec)], globs := [(1, [AVal.arr .u64 24 P.kcon]), (2, [AVal.arr .u32 64 P.roots256]), (3, [AVal.arr .u64 80 P.roots512]), (4, [AVal.arr .i64 24 P.kpla]), (5, [AVal.arr .i64 24 P.ktur])], hints := [(6, ⟨[0, 1, 2, 3, 9, 11], [(10, 44, .ints .u64 [])], [8], [], none, []⟩)], loops := [(6, L6)], inl := [] } : Ctx)
theorem round6 (K) (next) (x) : roundA D (loopAt Tryd.f143 6) K next (S6 x) = T6 x (fun x => next (S6 x)) (E6 K) := by kernel_rfl
theorem lq6 (st) (K) : L6 st K = vMap (V6 st) (fun x => lp T6 x (E6 K)) := by
 unfold L6
 cases V6 st with
 | none => rfl
 | some x => rw [P.R07_words_l6_eq]; kernel_rfl
theorem loop6 : LoopOk D (loopAt Tryd.f143 6) := loopOk_lp S6 V6_ok (by kernel_rfl) lq6 round6
theorem body (a0 : List Int) (a1 : Bool) (a2 : Int) (a3 : Int) (K : AVal → Option R) : bodyA D Tryd.f143 [.fr 44 (.ints .u64 [])] [.sl (.ints .u8 a0), .v (.bool a1), .v (.int .i64 a2), .v (.int .u64 a3)] K = P.R07_words a0 a1 a2 a3 (fun r0 => K (.fr 44 (.ints .u64 r0))) := by
 rw [P.R07_words_eq]
 kernel_rfl
theorem loops : loopsOf (Tryd.f143.body.getD .skip) = [loopAt Tryd.f143 6] := by kernel_rfl
noncomputable def spec0 : Abs.Spec := fun args K => match args with
 | [.sl (.ints .u8 a0), .v (.bool a1), .v (.int .i64 a2), .v (.int .u64 a3)] => P.R07_words a0 a1 a2 a3 (fun r0 => K (.fr 44 (.ints .u64 r0)))
 | _ => none
noncomputable def spec : Abs.Spec := fun args K => spec0 (coerL [.sl (.ints .u8 []), .any, .any, .any] args) K
theorem ok0 : Proved Tryd.prog [(1, [AVal.arr .u64 24 P.kcon]), (2, [AVal.arr .u32 64 P.roots256]), (3, [AVal.arr .u64 80 P.roots512]), (4, [AVal.arr .i64 24 P.kpla]), (5, [AVal.arr .i64 24 P.ktur])] 143 spec0 := by
 refine proved_of (D := D) (fn := Tryd.f143) (c := Tryd.f143.body.getD .skip) [.fr 44 (.ints .u64 [])] (by kernel_rfl) (globsPlain_of (by kernel_rfl)) (by kernel_rfl) (by kernel_rfl) (by kernel_rfl) ⟨R07_mix.ok, R01_Num.ok, trivial⟩ trivial ?_ ?_
 · rw [loops]; exact ⟨loop6, trivial⟩
 · intro args K r h
   unfold spec0 at h
   split at h
   · rw [body]; exact h
   · cases h
theorem ok : Proved Tryd.prog [(1, [AVal.arr .u64 24 P.kcon]), (2, [AVal.arr .u32 64 P.roots256]), (3, [AVal.arr .u64 80 P.roots512]), (4, [AVal.arr .i64 24 P.kpla]), (5, [AVal.arr .i64 24 P.ktur])] 143 spec := proved_coer _ ok0
end R07_words
end
