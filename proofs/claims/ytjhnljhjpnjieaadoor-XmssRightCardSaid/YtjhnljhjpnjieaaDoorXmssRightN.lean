/-
  XmssRight, part 14: an interpreter of my own over abstract values, the pure functions, the walks and the plain law.
-/

import Derived.Test.YtjhnljhjpnjieaaDoorXmssRightI
import Derived.Test.YtjhnljhjpnjieaaDoorXmssRightH
import Derived.Test.YtjhnljhjpnjieaaDoorProg
import Derived.Test.YtjhnljhjpnjieaaDoorXmssRightM
import Derived.KernelRfl

section
open Go Go.Abs Go.Proofs
set_option maxRecDepth 100000
set_option maxHeartbeats 0
set_option linter.unusedVariables false
namespace sha_engine_uint32_block
abbrev X4 := (List Int) × Int × Int × Int × Int × (List Int) × (List Int) × (List Int) × (List Int) × (List Int) × (List Int) × (List Int)
def S4 : X4 → ASt := fun (k, l, j, a, b, c, d, e, f, g, h, i) => ⟨[(2, .sl (.ints .u8 k)), (3, .ptr 0 0), (4, .ptr 1 0), (6, .ptr 2 0), (7, .ptr 3 0), (8, .v (.int .i64 l)), (19, .v (.int .i64 j))], [(0, some ⟨.box 153 [.v (.int .i64 a), .v (.int .i64 b), .arr .i64 3 c, .arr .i64 3 d, .arr .i64 3 e, .arr .i64 3 f, .fn (.func 137) [] []], false⟩), (1, some ⟨.box 170 [.arr .u32 8 g], false⟩), (2, some ⟨.box 170 [.arr .u32 8 h], false⟩), (3, some ⟨.box 184 [.arr .u32 16 i], false⟩)], 4, 143⟩
def V4 : ASt → Option X4
 | ⟨[(2, .sl (.ints .u8 k)), (3, .ptr 0 0), (4, .ptr 1 0), (6, .ptr 2 0), (7, .ptr 3 0), (8, .v (.int .i64 l)), (19, .v (.int .i64 j))], [(0, some ⟨.box 153 [.v (.int .i64 a), .v (.int .i64 b), .arr .i64 3 c, .arr .i64 3 d, .arr .i64 3 e, .arr .i64 3 f, .fn (.func 137) [] []], false⟩), (1, some ⟨.box 170 [.arr .u32 8 g], false⟩), (2, some ⟨.box 170 [.arr .u32 8 h], false⟩), (3, some ⟨.box 184 [.arr .u32 16 i], false⟩)], 4, 143⟩ => some (k, l, j, a, b, c, d, e, f, g, h, i)
 | _ => none
theorem V4_ok (st) (x) (h : V4 st = some x) : st = S4 x := by
 unfold V4 at h
 split at h
 · cases h; rfl
 · cases h
abbrev Y4 := X4
noncomputable def T4 : X4 → (X4 → Option R) → (Y4 → Option R) → Option R := fun (k, l, j, a, b, c, d, e, f, g, h, i) next ex => P.sha_engine_uint32_block_r4 k l j a b c d e f g h i (fun k l j a b c d e f g h i => next (k, l, j, a, b, c, d, e, f, g, h, i)) (fun k l j a b c d e f g h i => ex (k, l, j, a, b, c, d, e, f, g, h, i))
abbrev X10 := Int × Int × (List Int) × (List Int) × (List Int) × Int × Int × (List Int) × (List Int) × (List Int) × (List Int) × (List Int)
def S10 : X10 → ASt := fun (k, l, a, b, c, d, e, f, g, h, i, j) => ⟨[(3, .ptr 0 0), (4, .ptr 1 0), (6, .ptr 2 0), (7, .ptr 3 0), (10, .ptr 4 0), (38, .v (.int .i64 k)), (39, .v (.int .i64 l))], [(3, some ⟨.box 184 [.arr .u32 16 a], false⟩), (2, some ⟨.box 170 [.arr .u32 8 b], false⟩), (1, some ⟨.box 170 [.arr .u32 8 c], false⟩), (0, some ⟨.box 153 [.v (.int .i64 d), .v (.int .i64 e), .arr .i64 3 f, .arr .i64 3 g, .arr .i64 3 h, .arr .i64 3 i, .fn (.func 137) [] []], false⟩), (4, some ⟨.box 170 [.arr .u32 8 j], false⟩)], 5, 143⟩
def V10 : ASt → Option X10
 | ⟨[(3, .ptr 0 0), (4, .ptr 1 0), (6, .ptr 2 0), (7, .ptr 3 0), (10, .ptr 4 0), (38, .v (.int .i64 k)), (39, .v (.int .i64 l))], [(3, some ⟨.box 184 [.arr .u32 16 a], false⟩), (2, some ⟨.box 170 [.arr .u32 8 b], false⟩), (1, some ⟨.box 170 [.arr .u32 8 c], false⟩), (0, some ⟨.box 153 [.v (.int .i64 d), .v (.int .i64 e), .arr .i64 3 f, .arr .i64 3 g, .arr .i64 3 h, .arr .i64 3 i, .fn (.func 137) [] []], false⟩), (4, some ⟨.box 170 [.arr .u32 8 j], false⟩)], 5, 143⟩ => some (k, l, a, b, c, d, e, f, g, h, i, j)
 | _ => none
theorem V10_ok (st) (x) (h : V10 st = some x) : st = S10 x := by
 unfold V10 at h
 split at h
 · cases h; rfl
 · cases h
abbrev Y10 := X10
noncomputable def T10 : X10 → (X10 → Option R) → (Y10 → Option R) → Option R := fun (k, l, a, b, c, d, e, f, g, h, i, j) next ex => P.sha_engine_uint32_block_r10 k l a b c d e f g h i j (fun k l a b c d e f g h i j => next (k, l, a, b, c, d, e, f, g, h, i, j)) (fun k l a b c d e f g h i j => ex (k, l, a, b, c, d, e, f, g, h, i, j))
abbrev X21 := Int × (List Int) × (List Int) × (List Int)
def S21 : X21 → ASt := fun (a, b, c, d) => ⟨[(4, .ptr 1 0), (6, .ptr 2 0), (10, .ptr 4 0), (130, .v (.int .i64 a))], [(1, some ⟨.box 170 [.arr .u32 8 b], false⟩), (2, some ⟨.box 170 [.arr .u32 8 c], false⟩), (4, some ⟨.box 170 [.arr .u32 8 d], false⟩)], 120, 143⟩
def V21 : ASt → Option X21
 | ⟨[(4, .ptr 1 0), (6, .ptr 2 0), (10, .ptr 4 0), (130, .v (.int .i64 a))], [(1, some ⟨.box 170 [.arr .u32 8 b], false⟩), (2, some ⟨.box 170 [.arr .u32 8 c], false⟩), (4, some ⟨.box 170 [.arr .u32 8 d], false⟩)], 120, 143⟩ => some (a, b, c, d)
 | _ => none
theorem V21_ok (st) (x) (h : V21 st = some x) : st = S21 x := by
 unfold V21 at h
 split at h
 · cases h; rfl
 · cases h
abbrev Y21 := X21
noncomputable def T21 : X21 → (X21 → Option R) → (Y21 → Option R) → Option R := fun (a, b, c, d) next ex => P.sha_engine_uint32_block_r21 a b c d (fun a b c d => next (a, b, c, d)) (fun a b c d => ex (a, b, c, d))
def E4 (K : AExit → ASt → Option R) : Y4 → Option R := (fun x => K (.exit 0) (S4 x))
noncomputable def L4 : LSpec := fun st K => vMap (V4 st) fun (k, l, j, a, b, c, d, e, f, g, h, i) => P.sha_engine_uint32_block_l4 k l j a b c d e f g h i (fun k l j a b c d e f g h i => K (.exit 0) (S4 (k, l, j, a, b, c, d, e, f, g, h, i)))
def E10 (K : AExit → ASt → Option R) : Y10 → Option R := (fun x => K (.exit 2) (S10 x))
noncomputable def L10 : LSpec := fun st K => vMap (V10 st) fun (k, l, a, b, c, d, e, f, g, h, i, j) => P.sha_engine_uint32_block_l10 k l a b c d e f g h i j (fun k l a b c d e f g h i j => K (.exit 2) (S10 (k, l, a, b, c, d, e, f, g, h, i, j)))
def E21 (K : AExit → ASt → Option R) : Y21 → Option R := (fun x => K (.exit 4) (S21 x))
noncomputable def L21 : LSpec := fun st K => vMap (V21 st) fun (a, b, c, d) => P.sha_engine_uint32_block_l21 a b c d (fun a b c d => K (.exit 4) (S21 (a, b, c, d)))
noncomputable def D : Ctx := ({ P := Tryd.prog, G := [(134, bits_Num.spec), (137, sha_root256.spec), (148, sha_engine_uint32_high.spec), (149, sha_engine_uint32_low.spec)], globs := GLO.gx, hints := [(21, ⟨[4, 6, 10, 130], [], [6], [], some (120, [1, 2, 4]), [], []⟩), (10, ⟨[3, 4, 6, 7, 10, 38, 39], [], [6], [], none, [], []⟩), (4, ⟨[2, 3, 4, 6, 7, 8, 19], [], [6], [], none, [], []⟩)], loops := [(4, L4), (10, L10), (21, L21)], inl := [] } : Ctx)
theorem round4 (K) (next) (x) : roundA D (loopAt Tryd.f136 4) K next (S4 x) = T4 x (fun x => next (S4 x)) (E4 K) := by kernel_rfl
theorem lq4 (st) (K) : L4 st K = vMap (V4 st) (fun x => lp T4 x (E4 K)) := by
 unfold L4
 cases V4 st with
 | none => rfl
 | some x => rw [P.sha_engine_uint32_block_l4_eq]; kernel_rfl
theorem loop4 : LoopOk D (loopAt Tryd.f136 4) := loopOk_lp S4 V4_ok (by kernel_rfl) lq4 round4
theorem round10 (K) (next) (x) : roundA D (loopAt Tryd.f136 10) K next (S10 x) = T10 x (fun x => next (S10 x)) (E10 K) := by kernel_rfl
theorem lq10 (st) (K) : L10 st K = vMap (V10 st) (fun x => lp T10 x (E10 K)) := by
 unfold L10
 cases V10 st with
 | none => rfl
 | some x => rw [P.sha_engine_uint32_block_l10_eq]; kernel_rfl
theorem loop10 : LoopOk D (loopAt Tryd.f136 10) := loopOk_lp S10 V10_ok (by kernel_rfl) lq10 round10
theorem round21 (K) (next) (x) : roundA D (loopAt Tryd.f136 21) K next (S21 x) = T21 x (fun x => next (S21 x)) (E21 K) := by kernel_rfl
theorem lq21 (st) (K) : L21 st K = vMap (V21 st) (fun x => lp T21 x (E21 K)) := by
 unfold L21
 cases V21 st with
 | none => rfl
 | some x => rw [P.sha_engine_uint32_block_l21_eq]; kernel_rfl
theorem loop21 : LoopOk D (loopAt Tryd.f136 21) := loopOk_lp S21 V21_ok (by kernel_rfl) lq21 round21
theorem body (f : Int) (e : Int) (a : List Int) (b : List Int) (c : List Int) (d : List Int) (g : List Int) (h : List Int) (K : AVal → Option R) : bodyA D Tryd.f136 [.any] [.agg [.v (.int .i64 f), .v (.int .i64 e), .arr .i64 3 a, .arr .i64 3 b, .arr .i64 3 c, .arr .i64 3 d, .fn (.func 137) [] []], .arr .u32 8 g, .sl (.ints .u8 h)] K = P.sha_engine_uint32_block f e a b c d g h (fun i => K (.arr .u32 8 i)) := by
 rw [P.sha_engine_uint32_block_eq]
 kernel_rfl
theorem loops : loopsOf (Tryd.f136.body.getD .skip) = [loopAt Tryd.f136 4, loopAt Tryd.f136 10, loopAt Tryd.f136 21] := by kernel_rfl
noncomputable def spec0 : Abs.Spec := fun args K => match args with
 | [.agg [.v (.int .i64 f), .v (.int .i64 e), .arr .i64 3 a, .arr .i64 3 b, .arr .i64 3 c, .arr .i64 3 d, .fn (.func 137) [] []], .arr .u32 8 g, .sl (.ints .u8 h)] => P.sha_engine_uint32_block f e a b c d g h (fun i => K (.arr .u32 8 i))
 | _ => none
noncomputable def spec : Abs.Spec := fun args K => spec0 (coerL [.any, .any, .sl (.ints .u8 [])] args) K
theorem ok0 : Proved Tryd.prog GLO.gx 136 spec0 := by
 refine proved_of (D := D) (fn := Tryd.f136) (c := Tryd.f136.body.getD .skip) [.any] (by kernel_rfl) (globsPlain_of (by kernel_rfl)) (by kernel_rfl) (by kernel_rfl) (by kernel_rfl) ⟨bits_Num.ok, sha_root256.ok, sha_engine_uint32_high.ok, sha_engine_uint32_low.ok, trivial⟩ trivial ?_ ?_
 · rw [loops]; exact ⟨loop4, loop10, loop21, trivial⟩
 · intro args K r h
   unfold spec0 at h
   split at h
   · rw [body]; exact h
   · cases h
theorem ok : Proved Tryd.prog GLO.gx 136 spec := proved_coer _ ok0
end sha_engine_uint32_block
end

section
open Go Go.Abs Go.Proofs
set_option maxRecDepth 100000
set_option maxHeartbeats 0
set_option linter.unusedVariables false
namespace sha_through_uint32
abbrev X3 := (List Int) × (List Int) × Int × Int × Int × (List Int) × (List Int) × (List Int) × (List Int) × (List Int) × (List Int) × (List Int)
def S3 : X3 → ASt := fun (l, j, k, a, b, c, d, e, f, g, h, i) => ⟨[(2, .sl (.ints .u8 l)), (3, .ptr 0 0), (4, .ptr 1 0), (6, .ptr 2 0), (8, .ptr 3 0), (14, .arr .u64 8 j), (15, .v (.int .i64 k))], [(0, some ⟨.box 153 [.v (.int .i64 a), .v (.int .i64 b), .arr .i64 3 c, .arr .i64 3 d, .arr .i64 3 e, .arr .i64 3 f, .fn (.func 137) [] []], false⟩), (1, some ⟨.box 114 [.arr .u64 8 g], false⟩), (2, some ⟨.box 114 [.arr .u64 8 h], false⟩), (3, some ⟨.box 170 [.arr .u32 8 i], false⟩)], 4, 52⟩
def V3 : ASt → Option X3
 | ⟨[(2, .sl (.ints .u8 l)), (3, .ptr 0 0), (4, .ptr 1 0), (6, .ptr 2 0), (8, .ptr 3 0), (14, .arr .u64 8 j), (15, .v (.int .i64 k))], [(0, some ⟨.box 153 [.v (.int .i64 a), .v (.int .i64 b), .arr .i64 3 c, .arr .i64 3 d, .arr .i64 3 e, .arr .i64 3 f, .fn (.func 137) [] []], false⟩), (1, some ⟨.box 114 [.arr .u64 8 g], false⟩), (2, some ⟨.box 114 [.arr .u64 8 h], false⟩), (3, some ⟨.box 170 [.arr .u32 8 i], false⟩)], 4, 52⟩ => some (l, j, k, a, b, c, d, e, f, g, h, i)
 | _ => none
theorem V3_ok (st) (x) (h : V3 st = some x) : st = S3 x := by
 unfold V3 at h
 split at h
 · cases h; rfl
 · cases h
abbrev Y3 := X3
noncomputable def T3 : X3 → (X3 → Option R) → (Y3 → Option R) → Option R := fun (l, j, k, a, b, c, d, e, f, g, h, i) next ex => P.sha_through_uint32_r3 l j k a b c d e f g h i (fun l j k a b c d e f g h i => next (l, j, k, a, b, c, d, e, f, g, h, i)) (fun l j k a b c d e f g h i => ex (l, j, k, a, b, c, d, e, f, g, h, i))
abbrev X8 := (List Int) × Int × (List Int) × (List Int) × (List Int) × Int × Int × (List Int) × (List Int) × (List Int) × (List Int)
def S8 : X8 → ASt := fun (k, j, a, b, c, d, e, f, g, h, i) => ⟨[(2, .sl (.ints .u8 k)), (3, .ptr 0 0), (4, .ptr 1 0), (6, .ptr 2 0), (8, .ptr 3 0), (11, .v (.int .i64 j))], [(3, some ⟨.box 170 [.arr .u32 8 a], false⟩), (2, some ⟨.box 114 [.arr .u64 8 b], false⟩), (1, some ⟨.box 114 [.arr .u64 8 c], false⟩), (0, some ⟨.box 153 [.v (.int .i64 d), .v (.int .i64 e), .arr .i64 3 f, .arr .i64 3 g, .arr .i64 3 h, .arr .i64 3 i, .fn (.func 137) [] []], false⟩)], 4, 52⟩
def V8 : ASt → Option X8
 | ⟨[(2, .sl (.ints .u8 k)), (3, .ptr 0 0), (4, .ptr 1 0), (6, .ptr 2 0), (8, .ptr 3 0), (11, .v (.int .i64 j))], [(3, some ⟨.box 170 [.arr .u32 8 a], false⟩), (2, some ⟨.box 114 [.arr .u64 8 b], false⟩), (1, some ⟨.box 114 [.arr .u64 8 c], false⟩), (0, some ⟨.box 153 [.v (.int .i64 d), .v (.int .i64 e), .arr .i64 3 f, .arr .i64 3 g, .arr .i64 3 h, .arr .i64 3 i, .fn (.func 137) [] []], false⟩)], 4, 52⟩ => some (k, j, a, b, c, d, e, f, g, h, i)
 | _ => none
theorem V8_ok (st) (x) (h : V8 st = some x) : st = S8 x := by
 unfold V8 at h
 split at h
 · cases h; rfl
 · cases h
abbrev Y8 := X8
noncomputable def T8 : X8 → (X8 → Option R) → (Y8 → Option R) → Option R := fun (k, j, a, b, c, d, e, f, g, h, i) next ex => P.sha_through_uint32_r8 k j a b c d e f g h i (fun k j a b c d e f g h i => next (k, j, a, b, c, d, e, f, g, h, i)) (fun k j a b c d e f g h i => ex (k, j, a, b, c, d, e, f, g, h, i))
abbrev X12 := (List Int) × (List Int) × Int × (List Int) × (List Int)
def S12 : X12 → ASt := fun (e, c, d, a, b) => ⟨[(2, .sl (.ints .u8 e)), (4, .ptr 1 0), (6, .ptr 2 0), (40, .arr .u32 8 c), (41, .v (.int .i64 d))], [(1, some ⟨.box 114 [.arr .u64 8 a], false⟩), (2, some ⟨.box 114 [.arr .u64 8 b], false⟩)], 120, 52⟩
def V12 : ASt → Option X12
 | ⟨[(2, .sl (.ints .u8 e)), (4, .ptr 1 0), (6, .ptr 2 0), (40, .arr .u32 8 c), (41, .v (.int .i64 d))], [(1, some ⟨.box 114 [.arr .u64 8 a], false⟩), (2, some ⟨.box 114 [.arr .u64 8 b], false⟩)], 120, 52⟩ => some (e, c, d, a, b)
 | _ => none
theorem V12_ok (st) (x) (h : V12 st = some x) : st = S12 x := by
 unfold V12 at h
 split at h
 · cases h; rfl
 · cases h
abbrev Y12 := X12
noncomputable def T12 : X12 → (X12 → Option R) → (Y12 → Option R) → Option R := fun (e, c, d, a, b) next ex => P.sha_through_uint32_r12 e c d a b (fun e c d a b => next (e, c, d, a, b)) (fun e c d a b => ex (e, c, d, a, b))
def E3 (K : AExit → ASt → Option R) : Y3 → Option R := (fun x => K (.exit 0) (S3 x))
noncomputable def L3 : LSpec := fun st K => vMap (V3 st) fun (l, j, k, a, b, c, d, e, f, g, h, i) => P.sha_through_uint32_l3 l j k a b c d e f g h i (fun l j k a b c d e f g h i => K (.exit 0) (S3 (l, j, k, a, b, c, d, e, f, g, h, i)))
def E8 (K : AExit → ASt → Option R) : Y8 → Option R := (fun x => K (.exit 2) (S8 x))
noncomputable def L8 : LSpec := fun st K => vMap (V8 st) fun (k, j, a, b, c, d, e, f, g, h, i) => P.sha_through_uint32_l8 k j a b c d e f g h i (fun k j a b c d e f g h i => K (.exit 2) (S8 (k, j, a, b, c, d, e, f, g, h, i)))
def E12 (K : AExit → ASt → Option R) : Y12 → Option R := (fun x => K (.exit 4) (S12 x))
noncomputable def L12 : LSpec := fun st K => vMap (V12 st) fun (e, c, d, a, b) => P.sha_through_uint32_l12 e c d a b (fun e c d a b => K (.exit 4) (S12 (e, c, d, a, b)))
noncomputable def D : Ctx := ({ P := Tryd.prog, G := [(136, sha_engine_uint32_block.spec), (137, sha_root256.spec)], globs := GLO.gx, hints := [(12, ⟨[2, 4, 6, 40, 41], [], [6, 7], [], some (120, [1, 2]), [], []⟩), (8, ⟨[2, 3, 4, 6, 8, 11], [], [6, 7], [(2, .sl (.ints .u8 []))], none, [], []⟩), (3, ⟨[2, 3, 4, 6, 8, 14, 15], [], [6, 7], [], none, [], []⟩)], loops := [(3, L3), (8, L8), (12, L12)], inl := [] } : Ctx)
theorem round3 (K) (next) (x) : roundA D (loopAt Tryd.f117 3) K next (S3 x) = T3 x (fun x => next (S3 x)) (E3 K) := by kernel_rfl
theorem lq3 (st) (K) : L3 st K = vMap (V3 st) (fun x => lp T3 x (E3 K)) := by
 unfold L3
 cases V3 st with
 | none => rfl
 | some x => rw [P.sha_through_uint32_l3_eq]; kernel_rfl
theorem loop3 : LoopOk D (loopAt Tryd.f117 3) := loopOk_lp S3 V3_ok (by kernel_rfl) lq3 round3
theorem round8 (K) (next) (x) : roundA D (loopAt Tryd.f117 8) K next (S8 x) = T8 x (fun x => next (S8 x)) (E8 K) := by kernel_rfl
theorem lq8 (st) (K) : L8 st K = vMap (V8 st) (fun x => lp T8 x (E8 K)) := by
 unfold L8
 cases V8 st with
 | none => rfl
 | some x => rw [P.sha_through_uint32_l8_eq]; kernel_rfl
theorem loop8 : LoopOk D (loopAt Tryd.f117 8) := loopOk_lp S8 V8_ok (by kernel_rfl) lq8 round8
theorem round12 (K) (next) (x) : roundA D (loopAt Tryd.f117 12) K next (S12 x) = T12 x (fun x => next (S12 x)) (E12 K) := by kernel_rfl
theorem lq12 (st) (K) : L12 st K = vMap (V12 st) (fun x => lp T12 x (E12 K)) := by
 unfold L12
 cases V12 st with
 | none => rfl
 | some x => rw [P.sha_through_uint32_l12_eq]; kernel_rfl
theorem loop12 : LoopOk D (loopAt Tryd.f117 12) := loopOk_lp S12 V12_ok (by kernel_rfl) lq12 round12
theorem body (f : Int) (e : Int) (a : List Int) (b : List Int) (c : List Int) (d : List Int) (g : List Int) (h : List Int) (K : AVal → Option R) : bodyA D Tryd.f117 [.any, .sl (.ints .u8 [])] [.agg [.v (.int .i64 f), .v (.int .i64 e), .arr .i64 3 a, .arr .i64 3 b, .arr .i64 3 c, .arr .i64 3 d, .fn (.func 137) [] []], .arr .u64 8 g, .sl (.ints .u8 h)] K = P.sha_through_uint32 f e a b c d g h (fun i j => K (.tuple [.arr .u64 8 i, .sl (.ints .u8 j)])) := by
 rw [P.sha_through_uint32_eq]
 kernel_rfl
theorem loops : loopsOf (Tryd.f117.body.getD .skip) = [loopAt Tryd.f117 3, loopAt Tryd.f117 8, loopAt Tryd.f117 12] := by kernel_rfl
noncomputable def spec0 : Abs.Spec := fun args K => match args with
 | [.agg [.v (.int .i64 f), .v (.int .i64 e), .arr .i64 3 a, .arr .i64 3 b, .arr .i64 3 c, .arr .i64 3 d, .fn (.func 137) [] []], .arr .u64 8 g, .sl (.ints .u8 h)] => P.sha_through_uint32 f e a b c d g h (fun i j => K (.tuple [.arr .u64 8 i, .sl (.ints .u8 j)]))
 | _ => none
noncomputable def spec : Abs.Spec := fun args K => spec0 (coerL [.any, .any, .sl (.ints .u8 [])] args) K
theorem ok0 : Proved Tryd.prog GLO.gx 117 spec0 := by
 refine proved_of (D := D) (fn := Tryd.f117) (c := Tryd.f117.body.getD .skip) [.any, .sl (.ints .u8 [])] (by kernel_rfl) (globsPlain_of (by kernel_rfl)) (by kernel_rfl) (by kernel_rfl) (by kernel_rfl) ⟨sha_engine_uint32_block.ok, sha_root256.ok, trivial⟩ trivial ?_ ?_
 · rw [loops]; exact ⟨loop3, loop8, loop12, trivial⟩
 · intro args K r h
   unfold spec0 at h
   split at h
   · rw [body]; exact h
   · cases h
theorem ok : Proved Tryd.prog GLO.gx 117 spec := proved_coer _ ok0
end sha_through_uint32
end

section
open Go Go.Abs Go.Proofs
set_option maxRecDepth 100000
set_option maxHeartbeats 0
set_option linter.unusedVariables false
namespace sha_engine_uint64_rotated
noncomputable def D : Ctx := ({ P := Tryd.prog, G := [(139, sha_root512.spec)], globs := GLO.gx, hints := [], loops := [], inl := [] } : Ctx)
theorem body (f : Int) (e : Int) (a : List Int) (b : List Int) (c : List Int) (d : List Int) (g : Int) (h : Int) (K : AVal → Option R) : bodyA D Tryd.f158 [.any] [.agg [.v (.int .i64 f), .v (.int .i64 e), .arr .i64 3 a, .arr .i64 3 b, .arr .i64 3 c, .arr .i64 3 d, .fn (.func 139) [] []], .v (.int .u64 g), .v (.int .i64 h)] K = P.sha_engine_uint64_rotated f e a b c d g h (fun i => K (.v (.int .u64 i))) := by
 rw [P.sha_engine_uint64_rotated_eq]
 kernel_rfl
theorem loops : loopsOf (Tryd.f158.body.getD .skip) = [] := by kernel_rfl
noncomputable def spec0 : Abs.Spec := fun args K => match args with
 | [.agg [.v (.int .i64 f), .v (.int .i64 e), .arr .i64 3 a, .arr .i64 3 b, .arr .i64 3 c, .arr .i64 3 d, .fn (.func 139) [] []], .v (.int .u64 g), .v (.int .i64 h)] => P.sha_engine_uint64_rotated f e a b c d g h (fun i => K (.v (.int .u64 i)))
 | _ => none
noncomputable def spec : Abs.Spec := spec0
theorem ok0 : Proved Tryd.prog GLO.gx 158 spec0 := by
 refine proved_of (D := D) (fn := Tryd.f158) (c := Tryd.f158.body.getD .skip) [.any] (by kernel_rfl) (globsPlain_of (by kernel_rfl)) (by kernel_rfl) (by kernel_rfl) (by kernel_rfl) ⟨sha_root512.ok, trivial⟩ trivial ?_ ?_
 · rw [loops]; exact trivial
 · intro args K r h
   unfold spec0 at h
   split at h
   · rw [body]; exact h
   · cases h
theorem ok : Proved Tryd.prog GLO.gx 158 spec := ok0
end sha_engine_uint64_rotated
end

section
open Go Go.Abs Go.Proofs
set_option maxRecDepth 100000
set_option maxHeartbeats 0
set_option linter.unusedVariables false
namespace sha_engine_uint64_high
noncomputable def D : Ctx := ({ P := Tryd.prog, G := [(139, sha_root512.spec), (158, sha_engine_uint64_rotated.spec)], globs := GLO.gx, hints := [], loops := [], inl := [] } : Ctx)
theorem body (f : Int) (e : Int) (a : List Int) (b : List Int) (c : List Int) (d : List Int) (g : Int) (h : Int) (K : AVal → Option R) : bodyA D Tryd.f150 [.any] [.agg [.v (.int .i64 f), .v (.int .i64 e), .arr .i64 3 a, .arr .i64 3 b, .arr .i64 3 c, .arr .i64 3 d, .fn (.func 139) [] []], .v (.int .u64 g), .v (.int .i64 h)] K = P.sha_engine_uint64_high f e a b c d g h (fun i => K (.v (.int .u64 i))) := by
 rw [P.sha_engine_uint64_high_eq]
 kernel_rfl
theorem loops : loopsOf (Tryd.f150.body.getD .skip) = [] := by kernel_rfl
noncomputable def spec0 : Abs.Spec := fun args K => match args with
 | [.agg [.v (.int .i64 f), .v (.int .i64 e), .arr .i64 3 a, .arr .i64 3 b, .arr .i64 3 c, .arr .i64 3 d, .fn (.func 139) [] []], .v (.int .u64 g), .v (.int .i64 h)] => P.sha_engine_uint64_high f e a b c d g h (fun i => K (.v (.int .u64 i)))
 | _ => none
noncomputable def spec : Abs.Spec := spec0
theorem ok0 : Proved Tryd.prog GLO.gx 150 spec0 := by
 refine proved_of (D := D) (fn := Tryd.f150) (c := Tryd.f150.body.getD .skip) [.any] (by kernel_rfl) (globsPlain_of (by kernel_rfl)) (by kernel_rfl) (by kernel_rfl) (by kernel_rfl) ⟨sha_root512.ok, sha_engine_uint64_rotated.ok, trivial⟩ trivial ?_ ?_
 · rw [loops]; exact trivial
 · intro args K r h
   unfold spec0 at h
   split at h
   · rw [body]; exact h
   · cases h
theorem ok : Proved Tryd.prog GLO.gx 150 spec := ok0
end sha_engine_uint64_high
end

section
open Go Go.Abs Go.Proofs
set_option maxRecDepth 100000
set_option maxHeartbeats 0
set_option linter.unusedVariables false
namespace sha_engine_uint64_low
noncomputable def D : Ctx := ({ P := Tryd.prog, G := [(139, sha_root512.spec), (158, sha_engine_uint64_rotated.spec)], globs := GLO.gx, hints := [], loops := [], inl := [] } : Ctx)
theorem body (f : Int) (e : Int) (a : List Int) (b : List Int) (c : List Int) (d : List Int) (g : Int) (h : Int) (K : AVal → Option R) : bodyA D Tryd.f151 [.any] [.agg [.v (.int .i64 f), .v (.int .i64 e), .arr .i64 3 a, .arr .i64 3 b, .arr .i64 3 c, .arr .i64 3 d, .fn (.func 139) [] []], .v (.int .u64 g), .v (.int .i64 h)] K = P.sha_engine_uint64_low f e a b c d g h (fun i => K (.v (.int .u64 i))) := by
 rw [P.sha_engine_uint64_low_eq]
 kernel_rfl
theorem loops : loopsOf (Tryd.f151.body.getD .skip) = [] := by kernel_rfl
noncomputable def spec0 : Abs.Spec := fun args K => match args with
 | [.agg [.v (.int .i64 f), .v (.int .i64 e), .arr .i64 3 a, .arr .i64 3 b, .arr .i64 3 c, .arr .i64 3 d, .fn (.func 139) [] []], .v (.int .u64 g), .v (.int .i64 h)] => P.sha_engine_uint64_low f e a b c d g h (fun i => K (.v (.int .u64 i)))
 | _ => none
noncomputable def spec : Abs.Spec := spec0
theorem ok0 : Proved Tryd.prog GLO.gx 151 spec0 := by
 refine proved_of (D := D) (fn := Tryd.f151) (c := Tryd.f151.body.getD .skip) [.any] (by kernel_rfl) (globsPlain_of (by kernel_rfl)) (by kernel_rfl) (by kernel_rfl) (by kernel_rfl) ⟨sha_root512.ok, sha_engine_uint64_rotated.ok, trivial⟩ trivial ?_ ?_
 · rw [loops]; exact trivial
 · intro args K r h
   unfold spec0 at h
   split at h
   · rw [body]; exact h
   · cases h
theorem ok : Proved Tryd.prog GLO.gx 151 spec := ok0
end sha_engine_uint64_low
end
