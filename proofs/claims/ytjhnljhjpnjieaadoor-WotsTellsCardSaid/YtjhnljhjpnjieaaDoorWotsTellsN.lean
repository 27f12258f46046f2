/-
  WotsTells, part N: an interpreter of my own over abstract values, the pure functions, the walks and the plain law.
-/

import Derived.Test.YtjhnljhjpnjieaaDoorWotsTellsH
import Derived.Test.YtjhnljhjpnjieaaDoorWotsTellsF
import Derived.Test.YtjhnljhjpnjieaaDoorProg
import Derived.Test.YtjhnljhjpnjieaaDoorWotsTellsG
import Derived.Test.YtjhnljhjpnjieaaDoorWotsTellsM
import Derived.KernelRfl
import Derived.Test.YtjhnljhjpnjieaaDoorWotsTellsK
import Derived.Test.YtjhnljhjpnjieaaDoorWotsTellsL
import Derived.Test.YtjhnljhjpnjieaaDoorWotsTellsI

section
open Go Go.Abs Go.Proofs
set_option maxRecDepth 100000
set_option maxHeartbeats 0
set_option linter.unusedVariables false
namespace R07_block
abbrev X11 := Bool × Int × Int × Int × (List Int) × (List Int) × (List Int) × (List Int) × (List Int) × (List Int)
def S11 : X11 → ASt := fun (v2, v7, v8, v13, h0_0, h1_0, h2_0, h3_0, h4, h5_0) => ⟨[(2, .v (.bool v2)), (3, .ptr 0 0), (6, .ptr 1 0), (7, .v (.int .i64 v7)), (8, .v (.int .u64 v8)), (9, .ptr 2 0), (10, .ptr 3 0), (11, .own 4), (12, .ptr 5 0), (13, .v (.int .i64 v13))], [(0, some ⟨.box 114 [.arr .u64 8 h0_0], false⟩), (1, some ⟨.box 114 [.arr .u64 8 h1_0], false⟩), (2, some ⟨.box 176 [.arr .u64 64 h2_0], false⟩), (3, some ⟨.box 178 [.arr .u64 80 h3_0], false⟩), (4, some ⟨.row 44 (.ints .u64 h4), false⟩), (5, some ⟨.box 114 [.arr .u64 8 h5_0], false⟩)], 6, 137⟩
def V11 : ASt → Option X11
 | ⟨[(2, .v (.bool v2)), (3, .ptr 0 0), (6, .ptr 1 0), (7, .v (.int .i64 v7)), (8, .v (.int .u64 v8)), (9, .ptr 2 0), (10, .ptr 3 0), (11, .own 4), (12, .ptr 5 0), (13, .v (.int .i64 v13))], [(0, some ⟨.box 114 [.arr .u64 8 h0_0], false⟩), (1, some ⟨.box 114 [.arr .u64 8 h1_0], false⟩), (2, some ⟨.box 176 [.arr .u64 64 h2_0], false⟩), (3, some ⟨.box 178 [.arr .u64 80 h3_0], false⟩), (4, some ⟨.row 44 (.ints .u64 h4), false⟩), (5, some ⟨.box 114 [.arr .u64 8 h5_0], false⟩)], 6, 137⟩ => some (v2, v7, v8, v13, h0_0, h1_0, h2_0, h3_0, h4, h5_0)
 | _ => none
theorem V11_ok (st) (x) (h : V11 st = some x) : st = S11 x := by
 unfold V11 at h
 split at h
 · cases h; rfl
 · cases h
abbrev Y11 := X11
noncomputable def T11 : X11 → (X11 → Option R) → (Y11 → Option R) → Option R := fun (v2, v7, v8, v13, h0_0, h1_0, h2_0, h3_0, h4, h5_0) next ex => P.R07_block_r11 v2 v7 v8 v13 h0_0 h1_0 h2_0 h3_0 h4 h5_0 (fun v2 v7 v8 v13 h0_0 h1_0 h2_0 h3_0 h4 h5_0 => next (v2, v7, v8, v13, h0_0, h1_0, h2_0, h3_0, h4, h5_0)) (fun v2 v7 v8 v13 h0_0 h1_0 h2_0 h3_0 h4 h5_0 => ex (v2, v7, v8, v13, h0_0, h1_0, h2_0, h3_0, h4, h5_0))
abbrev X25 := Int × Int × (List Int) × (List Int) × (List Int)
def S25 : X25 → ASt := fun (v8, v19, h0_0, h1_0, h5_0) => ⟨[(3, .ptr 0 0), (6, .ptr 1 0), (8, .v (.int .u64 v8)), (12, .ptr 5 0), (19, .v (.int .i64 v19))], [(0, some ⟨.box 114 [.arr .u64 8 h0_0], false⟩), (1, some ⟨.box 114 [.arr .u64 8 h1_0], false⟩), (5, some ⟨.box 114 [.arr .u64 8 h5_0], false⟩)], 80, 137⟩
def V25 : ASt → Option X25
 | ⟨[(3, .ptr 0 0), (6, .ptr 1 0), (8, .v (.int .u64 v8)), (12, .ptr 5 0), (19, .v (.int .i64 v19))], [(0, some ⟨.box 114 [.arr .u64 8 h0_0], false⟩), (1, some ⟨.box 114 [.arr .u64 8 h1_0], false⟩), (5, some ⟨.box 114 [.arr .u64 8 h5_0], false⟩)], 80, 137⟩ => some (v8, v19, h0_0, h1_0, h5_0)
 | _ => none
theorem V25_ok (st) (x) (h : V25 st = some x) : st = S25 x := by
 unfold V25 at h
 split at h
 · cases h; rfl
 · cases h
abbrev Y25 := X25
noncomputable def T25 : X25 → (X25 → Option R) → (Y25 → Option R) → Option R := fun (v8, v19, h0_0, h1_0, h5_0) next ex => P.R07_block_r25 v8 v19 h0_0 h1_0 h5_0 (fun v8 v19 h0_0 h1_0 h5_0 => next (v8, v19, h0_0, h1_0, h5_0)) (fun v8 v19 h0_0 h1_0 h5_0 => ex (v8, v19, h0_0, h1_0, h5_0))
def E11 (K : AExit → ASt → Option R) : Y11 → Option R := (fun x => K (.exit 0) (S11 x))
noncomputable def L11 : LSpec := fun st K => vMap (V11 st) fun (v2, v7, v8, v13, h0_0, h1_0, h2_0, h3_0, h4, h5_0) => P.R07_block_l11 v2 v7 v8 v13 h0_0 h1_0 h2_0 h3_0 h4 h5_0 (fun v2 v7 v8 v13 h0_0 h1_0 h2_0 h3_0 h4 h5_0 => K (.exit 0) (S11 (v2, v7, v8, v13, h0_0, h1_0, h2_0, h3_0, h4, h5_0)))
def E25 (K : AExit → ASt → Option R) : Y25 → Option R := (fun x => K (.exit 2) (S25 x))
noncomputable def L25 : LSpec := fun st K => vMap (V25 st) fun (v8, v19, h0_0, h1_0, h5_0) => P.R07_block_l25 v8 v19 h0_0 h1_0 h5_0 (fun v8 v19 h0_0 h1_0 h5_0 => K (.exit 2) (S25 (v8, v19, h0_0, h1_0, h5_0)))
noncomputable def D : Ctx := ({ P := Tryd.prog, G := [(141, R07_roots256.spec), (142, R07_roots512.spec), (143, R07_words.spec), (144, R07_mix.spec)], globs := [(1, [AVal.arr .u64 24 P.kcon]), (2, [AVal.arr .u32 64 P.roots256]), (3, [AVal.arr .u64 80 P.roots512]), (4, [AVal.arr .i64 24 P.kpla]), (5, [AVal.arr .i64 24 P.ktur])], hints := [(25, ⟨[3, 6, 8, 12, 19], [], [6], [], some (80, [0, 1, 5]), []⟩), (11, ⟨[2, 3, 6, 7, 8, 9, 10, 11, 12, 13], [], [6], [], none, []⟩)], loops := [(11, L11), (25, L25)], inl := [] } : Ctx)
theorem round11 (K) (next) (x) : roundA D (loopAt Tryd.f126 11) K next (S11 x) = T11 x (fun x => next (S11 x)) (E11 K) := by kernel_rfl
theorem lq11 (st) (K) : L11 st K = vMap (V11 st) (fun x => lp T11 x (E11 K)) := by
 unfold L11
 cases V11 st with
 | none => rfl
 | some x => rw [P.R07_block_l11_eq]; kernel_rfl
theorem loop11 : LoopOk D (loopAt Tryd.f126 11) := loopOk_lp S11 V11_ok (by kernel_rfl) lq11 round11
theorem round25 (K) (next) (x) : roundA D (loopAt Tryd.f126 25) K next (S25 x) = T25 x (fun x => next (S25 x)) (E25 K) := by kernel_rfl
theorem lq25 (st) (K) : L25 st K = vMap (V25 st) (fun x => lp T25 x (E25 K)) := by
 unfold L25
 cases V25 st with
 | none => rfl
 | some x => rw [P.R07_block_l25_eq]; kernel_rfl
theorem loop25 : LoopOk D (loopAt Tryd.f126 25) := loopOk_lp S25 V25_ok (by kernel_rfl) lq25 round25
theorem body (a0 : List Int) (a1 : List Int) (a2 : Bool) (K : AVal → Option R) : bodyA D Tryd.f126 [.any] [.arr .u64 8 a0, .sl (.ints .u8 a1), .v (.bool a2)] K = P.R07_block a0 a1 a2 (fun r0 => K (.arr .u64 8 r0)) := by
 rw [P.R07_block_eq]
 kernel_rfl
theorem loops : loopsOf (Tryd.f126.body.getD .skip) = [loopAt Tryd.f126 11, loopAt Tryd.f126 25] := by kernel_rfl
noncomputable def spec0 : Abs.Spec := fun args K => match args with
 | [.arr .u64 8 a0, .sl (.ints .u8 a1), .v (.bool a2)] => P.R07_block a0 a1 a2 (fun r0 => K (.arr .u64 8 r0))
 | _ => none
noncomputable def spec : Abs.Spec := fun args K => spec0 (coerL [.any, .sl (.ints .u8 []), .any] args) K
theorem ok0 : Proved Tryd.prog [(1, [AVal.arr .u64 24 P.kcon]), (2, [AVal.arr .u32 64 P.roots256]), (3, [AVal.arr .u64 80 P.roots512]), (4, [AVal.arr .i64 24 P.kpla]), (5, [AVal.arr .i64 24 P.ktur])] 126 spec0 := by
 refine proved_of (D := D) (fn := Tryd.f126) (c := Tryd.f126.body.getD .skip) [.any] (by kernel_rfl) (globsPlain_of (by kernel_rfl)) (by kernel_rfl) (by kernel_rfl) (by kernel_rfl) ⟨R07_roots256.ok, R07_roots512.ok, R07_words.ok, R07_mix.ok, trivial⟩ trivial ?_ ?_
 · rw [loops]; exact ⟨loop11, loop25, trivial⟩
 · intro args K r h
   unfold spec0 at h
   split at h
   · rw [body]; exact h
   · cases h
theorem ok : Proved Tryd.prog [(1, [AVal.arr .u64 24 P.kcon]), (2, [AVal.arr .u32 64 P.roots256]), (3, [AVal.arr .u64 80 P.roots512]), (4, [AVal.arr .i64 24 P.kpla]), (5, [AVal.arr .i64 24 P.ktur])] 126 spec := proved_coer _ ok0
end R07_block
end

section
open Go Go.Abs Go.Proofs
set_option maxRecDepth 100000
set_option maxHeartbeats 0
set_option linter.unusedVariables false
namespace R07_Add
abbrev X4 := Int × (List Int) × Int × (List Int) × (List Int) × Int × Int × (List Int) × Int
def S4 : X4 → ASt := fun (v5, v6, h0_0, h0_1, h0_2, h0_3, h1_0, h1_1, h1_3) => ⟨[(2, .ptr 0 0), (4, .ptr 1 0), (5, .v (.int .i64 v5)), (6, .sl (.ints .u8 v6))], [(0, some ⟨.box 116 [.v (.int .i64 h0_0), .arr .u64 8 h0_1, .sl (.ints .u8 h0_2), .v (.int .u64 h0_3)], false⟩), (1, some ⟨.box 116 [.v (.int .i64 h1_0), .arr .u64 8 h1_1, .v (.slice none 0 0), .v (.int .u64 h1_3)], false⟩)], 40, 41⟩
def V4 : ASt → Option X4
 | ⟨[(2, .ptr 0 0), (4, .ptr 1 0), (5, .v (.int .i64 v5)), (6, .sl (.ints .u8 v6))], [(0, some ⟨.box 116 [.v (.int .i64 h0_0), .arr .u64 8 h0_1, .sl (.ints .u8 h0_2), .v (.int .u64 h0_3)], false⟩), (1, some ⟨.box 116 [.v (.int .i64 h1_0), .arr .u64 8 h1_1, .v (.slice none 0 0), .v (.int .u64 h1_3)], false⟩)], 40, 41⟩ => some (v5, v6, h0_0, h0_1, h0_2, h0_3, h1_0, h1_1, h1_3)
 | _ => none
theorem V4_ok (st) (x) (h : V4 st = some x) : st = S4 x := by
 unfold V4 at h
 split at h
 · cases h; rfl
 · cases h
abbrev Y4 := X4
noncomputable def T4 : X4 → (X4 → Option R) → (Y4 → Option R) → Option R := fun (v5, v6, h0_0, h0_1, h0_2, h0_3, h1_0, h1_1, h1_3) next ex => P.R07_Add_r4 v5 v6 h0_0 h0_1 h0_2 h0_3 h1_0 h1_1 h1_3 (fun v5 v6 h0_0 h0_1 h0_2 h0_3 h1_0 h1_1 h1_3 => next (v5, v6, h0_0, h0_1, h0_2, h0_3, h1_0, h1_1, h1_3)) (fun v5 v6 h0_0 h0_1 h0_2 h0_3 h1_0 h1_1 h1_3 => ex (v5, v6, h0_0, h0_1, h0_2, h0_3, h1_0, h1_1, h1_3))
def E4 (K : AExit → ASt → Option R) : Y4 → Option R := (fun x => K (.exit 0) (S4 x))
noncomputable def L4 : LSpec := fun st K => vMap (V4 st) fun (v5, v6, h0_0, h0_1, h0_2, h0_3, h1_0, h1_1, h1_3) => P.R07_Add_l4 v5 v6 h0_0 h0_1 h0_2 h0_3 h1_0 h1_1 h1_3 (fun v5 v6 h0_0 h0_1 h0_2 h0_3 h1_0 h1_1 h1_3 => K (.exit 0) (S4 (v5, v6, h0_0, h0_1, h0_2, h0_3, h1_0, h1_1, h1_3)))
noncomputable def D : Ctx := ({ P := Tryd.prog, G := [(58, R01_Join.spec), (100, R07_Block.spec), (126, R07_block.spec)], globs := [(1, [AVal.arr .u64 24 P.kcon]), (2, [AVal.arr .u32 64 P.roots256]), (3, [AVal.arr .u64 80 P.roots512]), (4, [AVal.arr .i64 24 P.kpla]), (5, [AVal.arr .i64 24 P.ktur])], hints := [(4, ⟨[2, 4, 5, 6], [], [4], [(6, .sl (.ints .u8 []))], some (40, [0, 1]), []⟩)], loops := [(4, L4)], inl := [] } : Ctx)
theorem round4 (K) (next) (x) : roundA D (loopAt Tryd.f94 4) K next (S4 x) = T4 x (fun x => next (S4 x)) (E4 K) := by kernel_rfl
theorem lq4 (st) (K) : L4 st K = vMap (V4 st) (fun x => lp T4 x (E4 K)) := by
 unfold L4
 cases V4 st with
 | none => rfl
 | some x => rw [P.R07_Add_l4_eq]; kernel_rfl
theorem loop4 : LoopOk D (loopAt Tryd.f94 4) := loopOk_lp S4 V4_ok (by kernel_rfl) lq4 round4
theorem body (a0_Kind : Int) (a0_Words : List Int) (a0_Tail : List Int) (a0_Size : Int) (a1 : List Int) (K : AVal → Option R) : bodyA D Tryd.f94 [.agg [.any, .any, .sl (.ints .u8 []), .any]] [.agg [.v (.int .i64 a0_Kind), .arr .u64 8 a0_Words, .sl (.ints .u8 a0_Tail), .v (.int .u64 a0_Size)], .sl (.ints .u8 a1)] K = P.R07_Add a0_Kind a0_Words a0_Tail a0_Size a1 (fun r0_Kind r0_Words r0_Tail r0_Size => K (.agg [.v (.int .i64 r0_Kind), .arr .u64 8 r0_Words, .sl (.ints .u8 r0_Tail), .v (.int .u64 r0_Size)])) := by
 rw [P.R07_Add_eq]
 kernel_rfl
theorem loops : loopsOf (Tryd.f94.body.getD .skip) = [loopAt Tryd.f94 4] := by kernel_rfl
noncomputable def spec0 : Abs.Spec := fun args K => match args with
 | [.agg [.v (.int .i64 a0_Kind), .arr .u64 8 a0_Words, .sl (.ints .u8 a0_Tail), .v (.int .u64 a0_Size)], .sl (.ints .u8 a1)] => P.R07_Add a0_Kind a0_Words a0_Tail a0_Size a1 (fun r0_Kind r0_Words r0_Tail r0_Size => K (.agg [.v (.int .i64 r0_Kind), .arr .u64 8 r0_Words, .sl (.ints .u8 r0_Tail), .v (.int .u64 r0_Size)]))
 | _ => none
noncomputable def spec : Abs.Spec := fun args K => spec0 (coerL [.agg [.any, .any, .sl (.ints .u8 []), .any], .sl (.ints .u8 [])] args) K
theorem ok0 : Proved Tryd.prog [(1, [AVal.arr .u64 24 P.kcon]), (2, [AVal.arr .u32 64 P.roots256]), (3, [AVal.arr .u64 80 P.roots512]), (4, [AVal.arr .i64 24 P.kpla]), (5, [AVal.arr .i64 24 P.ktur])] 94 spec0 := by
 refine proved_of (D := D) (fn := Tryd.f94) (c := Tryd.f94.body.getD .skip) [.agg [.any, .any, .sl (.ints .u8 []), .any]] (by kernel_rfl) (globsPlain_of (by kernel_rfl)) (by kernel_rfl) (by kernel_rfl) (by kernel_rfl) ⟨R01_Join.ok, R07_Block.ok, R07_block.ok, trivial⟩ trivial ?_ ?_
 · rw [loops]; exact ⟨loop4, trivial⟩
 · intro args K r h
   unfold spec0 at h
   split at h
   · rw [body]; exact h
   · cases h
theorem ok : Proved Tryd.prog [(1, [AVal.arr .u64 24 P.kcon]), (2, [AVal.arr .u32 64 P.roots256]), (3, [AVal.arr .u64 80 P.roots512]), (4, [AVal.arr .i64 24 P.kpla]), (5, [AVal.arr .i64 24 P.ktur])] 94 spec := proved_coer _ ok0
end R07_Add
end

section
open Go Go.Abs Go.Proofs
set_option maxRecDepth 100000
set_option maxHeartbeats 0
set_option linter.unusedVariables false
namespace R07_End
abbrev X4 := Int × Int × (List Int) × Int × (List Int) × (List Int) × Int
def S4 : X4 → ASt := fun (v3, v4, h40, h0_0, h0_1, h0_2, h0_3) => ⟨[(5, .own 40), (1, .ptr 0 0), (3, .v (.int .i64 v3)), (4, .v (.int .u64 v4))], [(40, some ⟨.row 5 (.ints .u8 h40), false⟩), (0, some ⟨.box 116 [.v (.int .i64 h0_0), .arr .u64 8 h0_1, .sl (.ints .u8 h0_2), .v (.int .u64 h0_3)], false⟩)], 41, 77⟩
def V4 : ASt → Option X4
 | ⟨[(5, .own 40), (1, .ptr 0 0), (3, .v (.int .i64 v3)), (4, .v (.int .u64 v4))], [(40, some ⟨.row 5 (.ints .u8 h40), false⟩), (0, some ⟨.box 116 [.v (.int .i64 h0_0), .arr .u64 8 h0_1, .sl (.ints .u8 h0_2), .v (.int .u64 h0_3)], false⟩)], 41, 77⟩ => some (v3, v4, h40, h0_0, h0_1, h0_2, h0_3)
 | _ => none
theorem V4_ok (st) (x) (h : V4 st = some x) : st = S4 x := by
 unfold V4 at h
 split at h
 · cases h; rfl
 · cases h
abbrev Y4 := X4
noncomputable def T4 : X4 → (X4 → Option R) → (Y4 → Option R) → Option R := fun (v3, v4, h40, h0_0, h0_1, h0_2, h0_3) next ex => P.R07_End_r4 v3 v4 h40 h0_0 h0_1 h0_2 h0_3 (fun v3 v4 h40 h0_0 h0_1 h0_2 h0_3 => next (v3, v4, h40, h0_0, h0_1, h0_2, h0_3)) (fun v3 v4 h40 h0_0 h0_1 h0_2 h0_3 => ex (v3, v4, h40, h0_0, h0_1, h0_2, h0_3))
abbrev X8 := Int × Int × (List Int) × Int × (List Int) × (List Int) × Int
def S8 : X8 → ASt := fun (v3, v4, h80, h0_0, h0_1, h0_2, h0_3) => ⟨[(5, .own 80), (1, .ptr 0 0), (3, .v (.int .i64 v3)), (4, .v (.int .u64 v4))], [(80, some ⟨.row 5 (.ints .u8 h80), false⟩), (0, some ⟨.box 116 [.v (.int .i64 h0_0), .arr .u64 8 h0_1, .sl (.ints .u8 h0_2), .v (.int .u64 h0_3)], false⟩)], 81, 77⟩
def V8 : ASt → Option X8
 | ⟨[(5, .own 80), (1, .ptr 0 0), (3, .v (.int .i64 v3)), (4, .v (.int .u64 v4))], [(80, some ⟨.row 5 (.ints .u8 h80), false⟩), (0, some ⟨.box 116 [.v (.int .i64 h0_0), .arr .u64 8 h0_1, .sl (.ints .u8 h0_2), .v (.int .u64 h0_3)], false⟩)], 81, 77⟩ => some (v3, v4, h80, h0_0, h0_1, h0_2, h0_3)
 | _ => none
theorem V8_ok (st) (x) (h : V8 st = some x) : st = S8 x := by
 unfold V8 at h
 split at h
 · cases h; rfl
 · cases h
abbrev Y8 := X8
noncomputable def T8 : X8 → (X8 → Option R) → (Y8 → Option R) → Option R := fun (v3, v4, h80, h0_0, h0_1, h0_2, h0_3) next ex => P.R07_End_r8 v3 v4 h80 h0_0 h0_1 h0_2 h0_3 (fun v3 v4 h80 h0_0 h0_1 h0_2 h0_3 => next (v3, v4, h80, h0_0, h0_1, h0_2, h0_3)) (fun v3 v4 h80 h0_0 h0_1 h0_2 h0_3 => ex (v3, v4, h80, h0_0, h0_1, h0_2, h0_3))
abbrev X14 := Int × Int × (List Int) × Int × (List Int) × (List Int) × Int
def S14 : X14 → ASt := fun (v3, v7, h120, h0_0, h0_1, h0_2, h0_3) => ⟨[(6, .own 120), (1, .ptr 0 0), (3, .v (.int .i64 v3)), (7, .v (.int .i64 v7))], [(120, some ⟨.row 5 (.ints .u8 h120), false⟩), (0, some ⟨.box 116 [.v (.int .i64 h0_0), .arr .u64 8 h0_1, .sl (.ints .u8 h0_2), .v (.int .u64 h0_3)], false⟩)], 121, 77⟩
def V14 : ASt → Option X14
 | ⟨[(6, .own 120), (1, .ptr 0 0), (3, .v (.int .i64 v3)), (7, .v (.int .i64 v7))], [(120, some ⟨.row 5 (.ints .u8 h120), false⟩), (0, some ⟨.box 116 [.v (.int .i64 h0_0), .arr .u64 8 h0_1, .sl (.ints .u8 h0_2), .v (.int .u64 h0_3)], false⟩)], 121, 77⟩ => some (v3, v7, h120, h0_0, h0_1, h0_2, h0_3)
 | _ => none
theorem V14_ok (st) (x) (h : V14 st = some x) : st = S14 x := by
 unfold V14 at h
 split at h
 · cases h; rfl
 · cases h
abbrev Y14 := X14
noncomputable def T14 : X14 → (X14 → Option R) → (Y14 → Option R) → Option R := fun (v3, v7, h120, h0_0, h0_1, h0_2, h0_3) next ex => P.R07_End_r14 v3 v7 h120 h0_0 h0_1 h0_2 h0_3 (fun v3 v7 h120 h0_0 h0_1 h0_2 h0_3 => next (v3, v7, h120, h0_0, h0_1, h0_2, h0_3)) (fun v3 v7 h120 h0_0 h0_1 h0_2 h0_3 => ex (v3, v7, h120, h0_0, h0_1, h0_2, h0_3))
def E4 (K : AExit → ASt → Option R) : Y4 → Option R := (fun x => K (.exit 0) (S4 x))
noncomputable def L4 : LSpec := fun st K => vMap (V4 st) fun (v3, v4, h40, h0_0, h0_1, h0_2, h0_3) => P.R07_End_l4 v3 v4 h40 h0_0 h0_1 h0_2 h0_3 (fun v3 v4 h40 h0_0 h0_1 h0_2 h0_3 => K (.exit 0) (S4 (v3, v4, h40, h0_0, h0_1, h0_2, h0_3)))
def E8 (K : AExit → ASt → Option R) : Y8 → Option R := (fun x => K (.exit 2) (S8 x))
noncomputable def L8 : LSpec := fun st K => vMap (V8 st) fun (v3, v4, h80, h0_0, h0_1, h0_2, h0_3) => P.R07_End_l8 v3 v4 h80 h0_0 h0_1 h0_2 h0_3 (fun v3 v4 h80 h0_0 h0_1 h0_2 h0_3 => K (.exit 2) (S8 (v3, v4, h80, h0_0, h0_1, h0_2, h0_3)))
def E14 (K : AExit → ASt → Option R) : Y14 → Option R := (fun x => K (.exit 4) (S14 x))
noncomputable def L14 : LSpec := fun st K => vMap (V14 st) fun (v3, v7, h120, h0_0, h0_1, h0_2, h0_3) => P.R07_End_l14 v3 v7 h120 h0_0 h0_1 h0_2 h0_3 (fun v3 v7 h120 h0_0 h0_1 h0_2 h0_3 => K (.exit 4) (S14 (v3, v7, h120, h0_0, h0_1, h0_2, h0_3)))
noncomputable def D : Ctx := ({ P := Tryd.prog, G := [(61, R01_Be.spec), (94, R07_Add.spec), (100, R07_Block.spec)], globs := [(1, [AVal.arr .u64 24 P.kcon]), (2, [AVal.arr .u32 64 P.roots256]), (3, [AVal.arr .u64 80 P.roots512]), (4, [AVal.arr .i64 24 P.kpla]), (5, [AVal.arr .i64 24 P.ktur])], hints := [(14, ⟨[1, 3, 7], [(6, 5, .ints .u8 [])], [2], [], some (120, [0]), [0]⟩), (8, ⟨[1, 3, 4], [(5, 5, .ints .u8 [])], [2], [], some (80, [0]), [0]⟩), (4, ⟨[1, 3, 4], [(5, 5, .ints .u8 [])], [2], [], some (40, [0]), [0]⟩)], loops := [(4, L4), (8, L8), (14, L14)], inl := [] } : Ctx)
theorem round4 (K) (next) (x) : roundA D (loopAt Tryd.f93 4) K next (S4 x) = T4 x (fun x => next (S4 x)) (E4 K) := by kernel_rfl
theorem lq4 (st) (K) : L4 st K = vMap (V4 st) (fun x => lp T4 x (E4 K)) := by
 unfold L4
 cases V4 st with
 | none => rfl
 | some x => rw [P.R07_End_l4_eq]; kernel_rfl
theorem loop4 : LoopOk D (loopAt Tryd.f93 4) := loopOk_lp S4 V4_ok (by kernel_rfl) lq4 round4
theorem round8 (K) (next) (x) : roundA D (loopAt Tryd.f93 8) K next (S8 x) = T8 x (fun x => next (S8 x)) (E8 K) := by kernel_rfl
theorem lq8 (st) (K) : L8 st K = vMap (V8 st) (fun x => lp T8 x (E8 K)) := by
 unfold L8
 cases V8 st with
 | none => rfl
 | some x => rw [P.R07_End_l8_eq]; kernel_rfl
theorem loop8 : LoopOk D (loopAt Tryd.f93 8) := loopOk_lp S8 V8_ok (by kernel_rfl) lq8 round8
theorem round14 (K) (next) (x) : roundA D (loopAt Tryd.f93 14) K next (S14 x) = T14 x (fun x => next (S14 x)) (E14 K) := by kernel_rfl
theorem lq14 (st) (K) : L14 st K = vMap (V14 st) (fun x => lp T14 x (E14 K)) := by
 unfold L14
 cases V14 st with
 | none => rfl
 | some x => rw [P.R07_End_l14_eq]; kernel_rfl
theorem loop14 : LoopOk D (loopAt Tryd.f93 14) := loopOk_lp S14 V14_ok (by kernel_rfl) lq14 round14
theorem body (a0_Kind : Int) (a0_Words : List Int) (a0_Tail : List Int) (a0_Size : Int) (K : AVal → Option R) : bodyW D Tryd.f93 5 (.ints .u8 []) [.agg [.v (.int .i64 a0_Kind), .arr .u64 8 a0_Words, .sl (.ints .u8 a0_Tail), .v (.int .u64 a0_Size)]] K = P.R07_End a0_Kind a0_Words a0_Tail a0_Size (fun r0 => K (.fr 5 (.ints .u8 r0))) := by
 rw [P.R07_End_eq]
 kernel_rfl
theorem loops : loopsOf (Tryd.f93.body.getD .skip) = [loopAt Tryd.f93 4, loopAt Tryd.f93 8, loopAt Tryd.f93 14] := by kernel_rfl
noncomputable def spec0 : Abs.Spec := fun args K => match args with
 | [.agg [.v (.int .i64 a0_Kind), .arr .u64 8 a0_Words, .sl (.ints .u8 a0_Tail), .v (.int .u64 a0_Size)]] => P.R07_End a0_Kind a0_Words a0_Tail a0_Size (fun r0 => K (.fr 5 (.ints .u8 r0)))
 | _ => none
noncomputable def spec : Abs.Spec := fun args K => spec0 (coerL [.agg [.any, .any, .sl (.ints .u8 []), .any]] args) K
theorem ok0 : Proved Tryd.prog [(1, [AVal.arr .u64 24 P.kcon]), (2, [AVal.arr .u32 64 P.roots256]), (3, [AVal.arr .u64 80 P.roots512]), (4, [AVal.arr .i64 24 P.kpla]), (5, [AVal.arr .i64 24 P.ktur])] 93 spec0 := by
 refine provedW_of (D := D) (fn := Tryd.f93) (c := Tryd.f93.body.getD .skip) 5 (.ints .u8 []) (by kernel_rfl) (globsPlain_of (by kernel_rfl)) (by kernel_rfl) (by kernel_rfl) (by kernel_rfl) ⟨R01_Be.ok, R07_Add.ok, R07_Block.ok, trivial⟩ trivial ?_ ?_
 · rw [loops]; exact ⟨loop4, loop8, loop14, trivial⟩
 · intro args K r h
   unfold spec0 at h
   split at h
   · rw [body]; exact h
   · cases h
theorem ok : Proved Tryd.prog [(1, [AVal.arr .u64 24 P.kcon]), (2, [AVal.arr .u32 64 P.roots256]), (3, [AVal.arr .u64 80 P.roots512]), (4, [AVal.arr .i64 24 P.kpla]), (5, [AVal.arr .i64 24 P.ktur])] 93 spec := proved_coer _ ok0
end R07_End
end

section
open Go Go.Abs Go.Proofs
set_option maxRecDepth 100000
set_option maxHeartbeats 0
set_option linter.unusedVariables false
namespace R07_New
noncomputable def D : Ctx := ({ P := Tryd.prog, G := [], globs := [(1, [AVal.arr .u64 24 P.kcon]), (2, [AVal.arr .u32 64 P.roots256]), (3, [AVal.arr .u64 80 P.roots512]), (4, [AVal.arr .i64 24 P.kpla]), (5, [AVal.arr .i64 24 P.ktur])], hints := [], loops := [], inl := [] } : Ctx)
theorem body (a0 : Int) (K : AVal → Option R) : bodyA D Tryd.f92 [.agg [.any, .any, .fr 5 (.ints .u8 []), .any], .any] [.v (.int .i64 a0)] K = P.R07_New a0 (fun r0_Kind r0_Words r0_Tail r0_Size r1 => K (.tuple [.agg [.v (.int .i64 r0_Kind), .arr .u64 8 r0_Words, .fr 5 (.ints .u8 r0_Tail), .v (.int .u64 r0_Size)], .v (.int .i64 r1)])) := by
 rw [P.R07_New_eq]
 kernel_rfl
theorem loops : loopsOf (Tryd.f92.body.getD .skip) = [] := by kernel_rfl
noncomputable def spec0 : Abs.Spec := fun args K => match args with
 | [.v (.int .i64 a0)] => P.R07_New a0 (fun r0_Kind r0_Words r0_Tail r0_Size r1 => K (.tuple [.agg [.v (.int .i64 r0_Kind), .arr .u64 8 r0_Words, .fr 5 (.ints .u8 r0_Tail), .v (.int .u64 r0_Size)], .v (.int .i64 r1)]))
 | _ => none
noncomputable def spec : Abs.Spec := spec0
theorem ok0 : Proved Tryd.prog [(1, [AVal.arr .u64 24 P.kcon]), (2, [AVal.arr .u32 64 P.roots256]), (3, [AVal.arr .u64 80 P.roots512]), (4, [AVal.arr .i64 24 P.kpla]), (5, [AVal.arr .i64 24 P.ktur])] 92 spec0 := by
 refine proved_of (D := D) (fn := Tryd.f92) (c := Tryd.f92.body.getD .skip) [.agg [.any, .any, .fr 5 (.ints .u8 []), .any], .any] (by kernel_rfl) (globsPlain_of (by kernel_rfl)) (by kernel_rfl) (by kernel_rfl) (by kernel_rfl) trivial trivial ?_ ?_
 · rw [loops]; exact trivial
 · intro args K r h
   unfold spec0 at h
   split at h
   · rw [body]; exact h
   · cases h
theorem ok : Proved Tryd.prog [(1, [AVal.arr .u64 24 P.kcon]), (2, [AVal.arr .u32 64 P.roots256]), (3, [AVal.arr .u64 80 P.roots512]), (4, [AVal.arr .i64 24 P.kpla]), (5, [AVal.arr .i64 24 P.ktur])] 92 spec := ok0
end R07_New
end

section
open Go Go.Abs Go.Proofs
set_option maxRecDepth 100000
set_option maxHeartbeats 0
set_option linter.unusedVariables false
namespace R07_Sum
noncomputable def D : Ctx := ({ P := Tryd.prog, G := [(92, R07_New.spec), (93, R07_End.spec), (94, R07_Add.spec)], globs := [(1, [AVal.arr .u64 24 P.kcon]), (2, [AVal.arr .u32 64 P.roots256]), (3, [AVal.arr .u64 80 P.roots512]), (4, [AVal.arr .i64 24 P.kpla]), (5, [AVal.arr .i64 24 P.ktur])], hints := [], loops := [], inl := [] } : Ctx)
theorem body (a0 : Int) (a1 : List Int) (K : AVal → Option R) : bodyA D Tryd.f53 [.fr 5 (.ints .u8 []), .any] [.v (.int .i64 a0), .sl (.ints .u8 a1)] K = P.R07_Sum a0 a1 (fun r0 r1 => K (.tuple [.fr 5 (.ints .u8 r0), .v (.int .i64 r1)])) := by
 rw [P.R07_Sum_eq]
 kernel_rfl
theorem loops : loopsOf (Tryd.f53.body.getD .skip) = [] := by kernel_rfl
noncomputable def spec0 : Abs.Spec := fun args K => match args with
 | [.v (.int .i64 a0), .sl (.ints .u8 a1)] => P.R07_Sum a0 a1 (fun r0 r1 => K (.tuple [.fr 5 (.ints .u8 r0), .v (.int .i64 r1)]))
 | _ => none
noncomputable def spec : Abs.Spec := fun args K => spec0 (coerL [.any, .sl (.ints .u8 [])] args) K
theorem ok0 : Proved Tryd.prog [(1, [AVal.arr .u64 24 P.kcon]), (2, [AVal.arr .u32 64 P.roots256]), (3, [AVal.arr .u64 80 P.roots512]), (4, [AVal.arr .i64 24 P.kpla]), (5, [AVal.arr .i64 24 P.ktur])] 53 spec0 := by
 refine proved_of (D := D) (fn := Tryd.f53) (c := Tryd.f53.body.getD .skip) [.fr 5 (.ints .u8 []), .any] (by kernel_rfl) (globsPlain_of (by kernel_rfl)) (by kernel_rfl) (by kernel_rfl) (by kernel_rfl) ⟨R07_New.ok, R07_End.ok, R07_Add.ok, trivial⟩ trivial ?_ ?_
 · rw [loops]; exact trivial
 · intro args K r h
   unfold spec0 at h
   split at h
   · rw [body]; exact h
   · cases h
theorem ok : Proved Tryd.prog [(1, [AVal.arr .u64 24 P.kcon]), (2, [AVal.arr .u32 64 P.roots256]), (3, [AVal.arr .u64 80 P.roots512]), (4, [AVal.arr .i64 24 P.kpla]), (5, [AVal.arr .i64 24 P.ktur])] 53 spec := proved_coer _ ok0
end R07_Sum
end

section
open Go Go.Abs Go.Proofs
set_option maxRecDepth 100000
set_option maxHeartbeats 0
set_option linter.unusedVariables false
namespace R08_constants
abbrev X4 := Int × Int × (List Int) × (List Int)
def S4 : X4 → ASt := fun (v2, v3, h0_0, h1_0) => ⟨[(0, .ptr 0 0), (1, .ptr 1 0), (2, .v (.int .u64 v2)), (3, .v (.int .i64 v3))], [(0, some ⟨.box 173 [.arr .u64 24 h0_0], false⟩), (1, some ⟨.box 173 [.arr .u64 24 h1_0], false⟩)], 2, 32⟩
def V4 : ASt → Option X4
 | ⟨[(0, .ptr 0 0), (1, .ptr 1 0), (2, .v (.int .u64 v2)), (3, .v (.int .i64 v3))], [(0, some ⟨.box 173 [.arr .u64 24 h0_0], false⟩), (1, some ⟨.box 173 [.arr .u64 24 h1_0], false⟩)], 2, 32⟩ => some (v2, v3, h0_0, h1_0)
 | _ => none
theorem V4_ok (st) (x) (h : V4 st = some x) : st = S4 x := by
 unfold V4 at h
 split at h
 · cases h; rfl
 · cases h
abbrev Y4 := X4
noncomputable def T4 : X4 → (X4 → Option R) → (Y4 → Option R) → Option R := fun (v2, v3, h0_0, h1_0) next ex => P.R08_constants_r4 v2 v3 h0_0 h1_0 (fun v2 v3 h0_0 h1_0 => next (v2, v3, h0_0, h1_0)) (fun v2 v3 h0_0 h1_0 => ex (v2, v3, h0_0, h1_0))
def E4 (K : AExit → ASt → Option R) : Y4 → Option R := (fun x => K (.exit 0) (S4 x))
noncomputable def L4 : LSpec := fun st K => vMap (V4 st) fun (v2, v3, h0_0, h1_0) => P.R08_constants_l4 v2 v3 h0_0 h1_0 (fun v2 v3 h0_0 h1_0 => K (.exit 0) (S4 (v2, v3, h0_0, h1_0)))
noncomputable def D : Ctx := ({ P := Tryd.prog, G := [], globs := [(1, [AVal.arr .u64 24 P.kcon]), (2, [AVal.arr .u32 64 P.roots256]), (3, [AVal.arr .u64 80 P.roots512]), (4, [AVal.arr .i64 24 P.kpla]), (5, [AVal.arr .i64 24 P.ktur])], hints := [(4, ⟨[0, 1, 2, 3], [], [0], [], none, []⟩)], loops := [(4, L4)], inl := [] } : Ctx)
theorem round4 (K) (next) (x) : roundA D (loopAt Tryd.f145 4) K next (S4 x) = T4 x (fun x => next (S4 x)) (E4 K) := by kernel_rfl
theorem lq4 (st) (K) : L4 st K = vMap (V4 st) (fun x => lp T4 x (E4 K)) := by
 unfold L4
 cases V4 st with
 | none => rfl
 | some x => rw [P.R08_constants_l4_eq]; kernel_rfl
theorem loop4 : LoopOk D (loopAt Tryd.f145 4) := loopOk_lp S4 V4_ok (by kernel_rfl) lq4 round4
theorem body  (K : AVal → Option R) : bodyA D Tryd.f145 [.any] [] K = P.R08_constants (fun r0 => K (.arr .u64 24 r0)) := by
 rw [P.R08_constants_eq]
 kernel_rfl
theorem loops : loopsOf (Tryd.f145.body.getD .skip) = [loopAt Tryd.f145 4] := by kernel_rfl
noncomputable def spec0 : Abs.Spec := fun args K => match args with
 | [] => P.R08_constants (fun r0 => K (.arr .u64 24 r0))
 | _ => none
noncomputable def spec : Abs.Spec := spec0
theorem ok0 : Proved Tryd.prog [(1, [AVal.arr .u64 24 P.kcon]), (2, [AVal.arr .u32 64 P.roots256]), (3, [AVal.arr .u64 80 P.roots512]), (4, [AVal.arr .i64 24 P.kpla]), (5, [AVal.arr .i64 24 P.ktur])] 145 spec0 := by
 refine proved_of (D := D) (fn := Tryd.f145) (c := Tryd.f145.body.getD .skip) [.any] (by kernel_rfl) (globsPlain_of (by kernel_rfl)) (by kernel_rfl) (by kernel_rfl) (by kernel_rfl) trivial trivial ?_ ?_
 · rw [loops]; exact ⟨loop4, trivial⟩
 · intro args K r h
   unfold spec0 at h
   split at h
   · rw [body]; exact h
   · cases h
theorem ok : Proved Tryd.prog [(1, [AVal.arr .u64 24 P.kcon]), (2, [AVal.arr .u32 64 P.roots256]), (3, [AVal.arr .u64 80 P.roots512]), (4, [AVal.arr .i64 24 P.kpla]), (5, [AVal.arr .i64 24 P.ktur])] 145 spec := ok0
end R08_constants
end

section
open Go Go.Abs Go.Proofs
set_option maxRecDepth 100000
set_option maxHeartbeats 0
set_option linter.unusedVariables false
namespace R08_left
noncomputable def D : Ctx := ({ P := Tryd.prog, G := [], globs := [(1, [AVal.arr .u64 24 P.kcon]), (2, [AVal.arr .u32 64 P.roots256]), (3, [AVal.arr .u64 80 P.roots512]), (4, [AVal.arr .i64 24 P.kpla]), (5, [AVal.arr .i64 24 P.ktur])], hints := [], loops := [], inl := [] } : Ctx)
theorem body (a0 : Int) (a1 : Int) (K : AVal → Option R) : bodyA D Tryd.f156 [.any] [.v (.int .u64 a0), .v (.int .i64 a1)] K = P.R08_left a0 a1 (fun r0 => K (.v (.int .u64 r0))) := by
 rw [P.R08_left_eq]
 kernel_rfl
theorem loops : loopsOf (Tryd.f156.body.getD .skip) = [] := by kernel_rfl
noncomputable def spec0 : Abs.Spec := fun args K => match args with
 | [.v (.int .u64 a0), .v (.int .i64 a1)] => P.R08_left a0 a1 (fun r0 => K (.v (.int .u64 r0)))
 | _ => none
noncomputable def spec : Abs.Spec := spec0
theorem ok0 : Proved Tryd.prog [(1, [AVal.arr .u64 24 P.kcon]), (2, [AVal.arr .u32 64 P.roots256]), (3, [AVal.arr .u64 80 P.roots512]), (4, [AVal.arr .i64 24 P.kpla]), (5, [AVal.arr .i64 24 P.ktur])] 156 spec0 := by
 refine proved_of (D := D) (fn := Tryd.f156) (c := Tryd.f156.body.getD .skip) [.any] (by kernel_rfl) (globsPlain_of (by kernel_rfl)) (by kernel_rfl) (by kernel_rfl) (by kernel_rfl) trivial trivial ?_ ?_
 · rw [loops]; exact trivial
 · intro args K r h
   unfold spec0 at h
   split at h
   · rw [body]; exact h
   · cases h
theorem ok : Proved Tryd.prog [(1, [AVal.arr .u64 24 P.kcon]), (2, [AVal.arr .u32 64 P.roots256]), (3, [AVal.arr .u64 80 P.roots512]), (4, [AVal.arr .i64 24 P.kpla]), (5, [AVal.arr .i64 24 P.ktur])] 156 spec := ok0
end R08_left
end
