/-
  MacTells, part K: an interpreter of my own over abstract values, the pure functions, the walks and the plain law.
-/

import Derived.Test.YtjhnljhjpnjieaaDoorMacTellsG
import Derived.Test.YtjhnljhjpnjieaaDoorMacTellsF
import Derived.Test.YtjhnljhjpnjieaaDoorMacTellsJ
import Derived.Test.YtjhnljhjpnjieaaDoorProg
import Derived.KernelRfl
import Derived.Test.YtjhnljhjpnjieaaDoorMacTellsH

section
open Go Go.Abs Go.Proofs
set_option maxRecDepth 100000
set_option linter.unusedVariables false
namespace slices_Grow_byte
noncomputable def D : Ctx := ({ P := Tryd.prog, G := [], globs := GLO.gC, hints := [], loops := [], inl := [] } : Ctx)
theorem body (a1 : Int) (K : AVal → Option R) : bodyW D Tryd.f129 5 (.ints .u8 []) [.v (.slice none 0 0), .v (.int .i64 a1)] K = P.slices_Grow_byte a1 (fun r0 => K (.fr 5 (.ints .u8 r0))) := by
 rw [P.slices_Grow_byte_eq]
 kernel_rfl
theorem loops : loopsOf (Tryd.f129.body.getD .skip) = [] := by kernel_rfl
noncomputable def spec0 : Abs.Spec := fun args K => match args with
 | [.v (.slice none 0 0), .v (.int .i64 a1)] => P.slices_Grow_byte a1 (fun r0 => K (.fr 5 (.ints .u8 r0)))
 | _ => none
noncomputable def spec : Abs.Spec := spec0
theorem ok0 : Proved Tryd.prog GLO.gC 129 spec0 := by
 refine provedW_of (D := D) (fn := Tryd.f129) (c := Tryd.f129.body.getD .skip) 5 (.ints .u8 []) (by kernel_rfl) (globsPlain_of (by kernel_rfl)) (by kernel_rfl) (by kernel_rfl) (by kernel_rfl) trivial trivial ?_ ?_
 · rw [loops]; exact trivial
 · intro args K r h
   unfold spec0 at h
   split at h
   · rw [body]; exact h
   · cases h
theorem ok : Proved Tryd.prog GLO.gC 129 spec := ok0
end slices_Grow_byte
end

section
open Go Go.Abs Go.Proofs
set_option maxRecDepth 100000
set_option linter.unusedVariables false
namespace slices_Concat_byte
abbrev X3 := (List (List Int)) × Int × (List (List Int)) × Int × Int
def S3 : X3 → ASt := fun (v0, v3, v9, v10, v11) => ⟨[(0, .sl (.rows .u8 v0)), (3, .v (.int .i64 v3)), (9, .sl (.rows .u8 v9)), (10, .v (.int .i64 v10)), (11, .v (.int .i64 v11))], [], 0, 36⟩
def V3 : ASt → Option X3
 | ⟨[(0, .sl (.rows .u8 v0)), (3, .v (.int .i64 v3)), (9, .sl (.rows .u8 v9)), (10, .v (.int .i64 v10)), (11, .v (.int .i64 v11))], [], 0, 36⟩ => some (v0, v3, v9, v10, v11)
 | _ => none
theorem V3_ok (st) (x) (h : V3 st = some x) : st = S3 x := by
 unfold V3 at h
 split at h
 · cases h; rfl
 · cases h
abbrev Y3 := X3
noncomputable def T3 : X3 → (X3 → Option R) → (Y3 → Option R) → Option R := fun (v0, v3, v9, v10, v11) next ex => P.slices_Concat_byte_r3 v0 v3 v9 v10 v11 (fun v0 v3 v9 v10 v11 => next (v0, v3, v9, v10, v11)) (fun v0 v3 v9 v10 v11 => ex (v0, v3, v9, v10, v11))
abbrev X11 := (List (List Int)) × Int × Int × (List Int)
def S11 : X11 → ASt := fun (v25, v26, v27, h1) => ⟨[(6, .own 1), (25, .sl (.rows .u8 v25)), (26, .v (.int .i64 v26)), (27, .v (.int .i64 v27))], [(1, some ⟨.row 5 (.ints .u8 h1), false⟩), (0, none)], 2, 36⟩
def V11 : ASt → Option X11
 | ⟨[(6, .own 1), (25, .sl (.rows .u8 v25)), (26, .v (.int .i64 v26)), (27, .v (.int .i64 v27))], [(1, some ⟨.row 5 (.ints .u8 h1), false⟩), (0, none)], 2, 36⟩ => some (v25, v26, v27, h1)
 | _ => none
theorem V11_ok (st) (x) (h : V11 st = some x) : st = S11 x := by
 unfold V11 at h
 split at h
 · cases h; rfl
 · cases h
abbrev Y11 := X11
noncomputable def T11 : X11 → (X11 → Option R) → (Y11 → Option R) → Option R := fun (v25, v26, v27, h1) next ex => P.slices_Concat_byte_r11 v25 v26 v27 h1 (fun v25 v26 v27 h1 => next (v25, v26, v27, h1)) (fun v25 v26 v27 h1 => ex (v25, v26, v27, h1))
def E3 (K : AExit → ASt → Option R) : Y3 → Option R := (fun x => K (.exit 0) (S3 x))
noncomputable def L3 : LSpec := fun st K => vMap (V3 st) fun (v0, v3, v9, v10, v11) => P.slices_Concat_byte_l3 v0 v3 v9 v10 v11 (fun v0 v3 v9 v10 v11 => K (.exit 0) (S3 (v0, v3, v9, v10, v11)))
def E11 (K : AExit → ASt → Option R) : Y11 → Option R := (fun x => K (.exit 2) (S11 x))
noncomputable def L11 : LSpec := fun st K => vMap (V11 st) fun (v25, v26, v27, h1) => P.slices_Concat_byte_l11 v25 v26 v27 h1 (fun v25 v26 v27 h1 => K (.exit 2) (S11 (v25, v26, v27, h1)))
noncomputable def D : Ctx := ({ P := Tryd.prog, G := [(129, slices_Grow_byte.spec)], globs := GLO.gC, hints := [(11, ⟨[25, 26, 27], [(6, 5, .ints .u8 [])], [2], [], none, []⟩), (3, ⟨[0, 3, 9, 10, 11], [], [2], [], none, []⟩)], loops := [(3, L3), (11, L11)], inl := [] } : Ctx)
theorem round3 (K) (next) (x) : roundA D (loopAt Tryd.f105 3) K next (S3 x) = T3 x (fun x => next (S3 x)) (E3 K) := by kernel_rfl
theorem lq3 (st) (K) : L3 st K = vMap (V3 st) (fun x => lp T3 x (E3 K)) := by
 unfold L3
 cases V3 st with
 | none => rfl
 | some x => rw [P.slices_Concat_byte_l3_eq]; kernel_rfl
theorem loop3 : LoopOk D (loopAt Tryd.f105 3) := loopOk_lp S3 V3_ok (by kernel_rfl) lq3 round3
theorem round11 (K) (next) (x) : roundA D (loopAt Tryd.f105 11) K next (S11 x) = T11 x (fun x => next (S11 x)) (E11 K) := by kernel_rfl
theorem lq11 (st) (K) : L11 st K = vMap (V11 st) (fun x => lp T11 x (E11 K)) := by
 unfold L11
 cases V11 st with
 | none => rfl
 | some x => rw [P.slices_Concat_byte_l11_eq]; kernel_rfl
theorem loop11 : LoopOk D (loopAt Tryd.f105 11) := loopOk_lp S11 V11_ok (by kernel_rfl) lq11 round11
theorem body (a0 : List (List Int)) (K : AVal → Option R) : bodyA D Tryd.f105 [.fr 5 (.ints .u8 [])] [.sl (.rows .u8 a0)] K = P.slices_Concat_byte a0 (fun r0 => K (.fr 5 (.ints .u8 r0))) := by
 rw [P.slices_Concat_byte_eq]
 kernel_rfl
theorem loops : loopsOf (Tryd.f105.body.getD .skip) = [loopAt Tryd.f105 3, loopAt Tryd.f105 11] := by kernel_rfl
noncomputable def spec0 : Abs.Spec := fun args K => match args with
 | [.sl (.rows .u8 a0)] => P.slices_Concat_byte a0 (fun r0 => K (.fr 5 (.ints .u8 r0)))
 | _ => none
noncomputable def spec : Abs.Spec := fun args K => spec0 (coerL [.sl (.rows .u8 [])] args) K
theorem ok0 : Proved Tryd.prog GLO.gC 105 spec0 := by
 refine proved_of (D := D) (fn := Tryd.f105) (c := Tryd.f105.body.getD .skip) [.fr 5 (.ints .u8 [])] (by kernel_rfl) (globsPlain_of (by kernel_rfl)) (by kernel_rfl) (by kernel_rfl) (by kernel_rfl) ⟨slices_Grow_byte.ok, trivial⟩ trivial ?_ ?_
 · rw [loops]; exact ⟨loop3, loop11, trivial⟩
 · intro args K r h
   unfold spec0 at h
   split at h
   · rw [body]; exact h
   · cases h
theorem ok : Proved Tryd.prog GLO.gC 105 spec := proved_coer _ ok0
end slices_Concat_byte
end

section
open Go Go.Abs Go.Proofs
set_option maxRecDepth 100000
set_option linter.unusedVariables false
namespace bits_Join
noncomputable def D : Ctx := ({ P := Tryd.prog, G := [(105, slices_Concat_byte.spec)], globs := GLO.gC, hints := [], loops := [], inl := [] } : Ctx)
theorem body (a0 : List (List Int)) (K : AVal → Option R) : bodyA D Tryd.f62 [.fr 5 (.ints .u8 [])] [.sl (.rows .u8 a0)] K = P.bits_Join a0 (fun r0 => K (.fr 5 (.ints .u8 r0))) := by
 rw [P.bits_Join_eq]
 kernel_rfl
theorem loops : loopsOf (Tryd.f62.body.getD .skip) = [] := by kernel_rfl
noncomputable def spec0 : Abs.Spec := fun args K => match args with
 | [.sl (.rows .u8 a0)] => P.bits_Join a0 (fun r0 => K (.fr 5 (.ints .u8 r0)))
 | _ => none
noncomputable def spec : Abs.Spec := fun args K => spec0 (coerL [.sl (.rows .u8 [])] args) K
theorem ok0 : Proved Tryd.prog GLO.gC 62 spec0 := by
 refine proved_of (D := D) (fn := Tryd.f62) (c := Tryd.f62.body.getD .skip) [.fr 5 (.ints .u8 [])] (by kernel_rfl) (globsPlain_of (by kernel_rfl)) (by kernel_rfl) (by kernel_rfl) (by kernel_rfl) ⟨slices_Concat_byte.ok, trivial⟩ trivial ?_ ?_
 · rw [loops]; exact trivial
 · intro args K r h
   unfold spec0 at h
   split at h
   · rw [body]; exact h
   · cases h
theorem ok : Proved Tryd.prog GLO.gC 62 spec := proved_coer _ ok0
end bits_Join
end

section
open Go Go.Abs Go.Proofs
set_option maxRecDepth 100000
set_option linter.unusedVariables false
namespace math_bits_RotateLeft64
noncomputable def D : Ctx := ({ P := Tryd.prog, G := [], globs := GLO.gC, hints := [], loops := [], inl := [] } : Ctx)
theorem body (a0 : Int) (a1 : Int) (K : AVal → Option R) : bodyA D Tryd.f153 [.any] [.v (.int .u64 a0), .v (.int .i64 a1)] K = P.math_bits_RotateLeft64 a0 a1 (fun r0 => K (.v (.int .u64 r0))) := by
 rw [P.math_bits_RotateLeft64_eq]
 kernel_rfl
theorem loops : loopsOf (Tryd.f153.body.getD .skip) = [] := by kernel_rfl
noncomputable def spec0 : Abs.Spec := fun args K => match args with
 | [.v (.int .u64 a0), .v (.int .i64 a1)] => P.math_bits_RotateLeft64 a0 a1 (fun r0 => K (.v (.int .u64 r0)))
 | _ => none
noncomputable def spec : Abs.Spec := spec0
theorem ok0 : Proved Tryd.prog GLO.gC 153 spec0 := by
 refine proved_of (D := D) (fn := Tryd.f153) (c := Tryd.f153.body.getD .skip) [.any] (by kernel_rfl) (globsPlain_of (by kernel_rfl)) (by kernel_rfl) (by kernel_rfl) (by kernel_rfl) trivial trivial ?_ ?_
 · rw [loops]; exact trivial
 · intro args K r h
   unfold spec0 at h
   split at h
   · rw [body]; exact h
   · cases h
theorem ok : Proved Tryd.prog GLO.gC 153 spec := ok0
end math_bits_RotateLeft64
end

section
open Go Go.Abs Go.Proofs
set_option maxRecDepth 100000
set_option linter.unusedVariables false
namespace keccak_Permute
abbrev X2_2 := Int × (List Int) × (List Int) × (List Int)
def S2_2 : X2_2 → ASt := fun (v4, h1_0, h0_0, h2_0) => ⟨[(0, .ptr 0 0), (2, .ptr 2 0), (4, .v (.int .i64 v4))], [(1, some ⟨.box 121 [.arr .u64 25 h1_0], false⟩), (0, some ⟨.box 121 [.arr .u64 25 h0_0], false⟩), (2, some ⟨.box 189 [.arr .u64 5 h2_0], false⟩)], 3, 44⟩
def V2_2 : ASt → Option X2_2
 | ⟨[(0, .ptr 0 0), (2, .ptr 2 0), (4, .v (.int .i64 v4))], [(1, some ⟨.box 121 [.arr .u64 25 h1_0], false⟩), (0, some ⟨.box 121 [.arr .u64 25 h0_0], false⟩), (2, some ⟨.box 189 [.arr .u64 5 h2_0], false⟩)], 3, 44⟩ => some (v4, h1_0, h0_0, h2_0)
 | _ => none
theorem V2_2_ok (st) (x) (h : V2_2 st = some x) : st = S2_2 x := by
 unfold V2_2 at h
 split at h
 · cases h; rfl
 · cases h
abbrev Y2_2 := X2_2
noncomputable def T2_2 : X2_2 → (X2_2 → Option R) → (Y2_2 → Option R) → Option R := fun (v4, h1_0, h0_0, h2_0) next ex => P.keccak_Permute_r2_2 v4 h1_0 h0_0 h2_0 (fun v4 h1_0 h0_0 h2_0 => next (v4, h1_0, h0_0, h2_0)) (fun v4 h1_0 h0_0 h2_0 => ex (v4, h1_0, h0_0, h2_0))
abbrev X1_6 := Int × Int × Int × Int × Int × (List Int) × (List Int) × (List Int) × (List Int)
def S1_6 : X1_6 → ASt := fun (v1, v5, v6, v7, v16, h3_0, h2_0, h1_0, h0_0) => ⟨[(0, .ptr 0 0), (1, .v (.int .u64 v1)), (4, .ptr 3 0), (5, .v (.int .i64 v5)), (6, .v (.int .u64 v6)), (7, .v (.int .i64 v7)), (16, .v (.int .i64 v16))], [(3, some ⟨.box 189 [.arr .u64 5 h3_0], false⟩), (2, some ⟨.box 189 [.arr .u64 5 h2_0], false⟩), (1, some ⟨.box 121 [.arr .u64 25 h1_0], false⟩), (0, some ⟨.box 121 [.arr .u64 25 h0_0], false⟩)], 4, 116⟩
def V1_6 : ASt → Option X1_6
 | ⟨[(0, .ptr 0 0), (1, .v (.int .u64 v1)), (4, .ptr 3 0), (5, .v (.int .i64 v5)), (6, .v (.int .u64 v6)), (7, .v (.int .i64 v7)), (16, .v (.int .i64 v16))], [(3, some ⟨.box 189 [.arr .u64 5 h3_0], false⟩), (2, some ⟨.box 189 [.arr .u64 5 h2_0], false⟩), (1, some ⟨.box 121 [.arr .u64 25 h1_0], false⟩), (0, some ⟨.box 121 [.arr .u64 25 h0_0], false⟩)], 4, 116⟩ => some (v1, v5, v6, v7, v16, h3_0, h2_0, h1_0, h0_0)
 | _ => none
theorem V1_6_ok (st) (x) (h : V1_6 st = some x) : st = S1_6 x := by
 unfold V1_6 at h
 split at h
 · cases h; rfl
 · cases h
abbrev Y1_6 := X1_6
noncomputable def T1_6 : X1_6 → (X1_6 → Option R) → (Y1_6 → Option R) → Option R := fun (v1, v5, v6, v7, v16, h3_0, h2_0, h1_0, h0_0) next ex => P.keccak_Permute_r1_6 v1 v5 v6 v7 v16 h3_0 h2_0 h1_0 h0_0 (fun v1 v5 v6 v7 v16 h3_0 h2_0 h1_0 h0_0 => next (v1, v5, v6, v7, v16, h3_0, h2_0, h1_0, h0_0)) (fun v1 v5 v6 v7 v16 h3_0 h2_0 h1_0 h0_0 => ex (v1, v5, v6, v7, v16, h3_0, h2_0, h1_0, h0_0))
abbrev X1_2 := Int × Int × (List Int) × (List Int) × (List Int) × (List Int)
def S1_2 : X1_2 → ASt := fun (v1, v16, h0_0, h1_0, h2_0, h3_0) => ⟨[(0, .ptr 0 0), (1, .v (.int .u64 v1)), (4, .ptr 3 0), (16, .v (.int .i64 v16))], [(0, some ⟨.box 121 [.arr .u64 25 h0_0], false⟩), (1, some ⟨.box 121 [.arr .u64 25 h1_0], false⟩), (2, some ⟨.box 189 [.arr .u64 5 h2_0], false⟩), (3, some ⟨.box 189 [.arr .u64 5 h3_0], false⟩)], 4, 116⟩
def V1_2 : ASt → Option X1_2
 | ⟨[(0, .ptr 0 0), (1, .v (.int .u64 v1)), (4, .ptr 3 0), (16, .v (.int .i64 v16))], [(0, some ⟨.box 121 [.arr .u64 25 h0_0], false⟩), (1, some ⟨.box 121 [.arr .u64 25 h1_0], false⟩), (2, some ⟨.box 189 [.arr .u64 5 h2_0], false⟩), (3, some ⟨.box 189 [.arr .u64 5 h3_0], false⟩)], 4, 116⟩ => some (v1, v16, h0_0, h1_0, h2_0, h3_0)
 | _ => none
theorem V1_2_ok (st) (x) (h : V1_2 st = some x) : st = S1_2 x := by
 unfold V1_2 at h
 split at h
 · cases h; rfl
 · cases h
abbrev Y1_2 := X1_2
noncomputable def T1_2 : X1_2 → (X1_2 → Option R) → (Y1_2 → Option R) → Option R := fun (v1, v16, h0_0, h1_0, h2_0, h3_0) next ex => P.keccak_Permute_r1_2 v1 v16 h0_0 h1_0 h2_0 h3_0 (fun v1 v16 h0_0 h1_0 h2_0 h3_0 => next (v1, v16, h0_0, h1_0, h2_0, h3_0)) (fun v1 v16 h0_0 h1_0 h2_0 h3_0 => ex (v1, v16, h0_0, h1_0, h2_0, h3_0))
abbrev X1_12 := Int × Int × (List Int) × Int × (List Int) × (List Int) × (List Int) × (List Int)
def S1_12 : X1_12 → ASt := fun (v1, v8, v51, v52, h3_0, h2_0, h1_0, h0_0) => ⟨[(0, .ptr 0 0), (1, .v (.int .u64 v1)), (8, .v (.int .u64 v8)), (51, .arr .i64 24 v51), (52, .v (.int .i64 v52))], [(3, some ⟨.box 189 [.arr .u64 5 h3_0], false⟩), (2, some ⟨.box 189 [.arr .u64 5 h2_0], false⟩), (1, some ⟨.box 121 [.arr .u64 25 h1_0], false⟩), (0, some ⟨.box 121 [.arr .u64 25 h0_0], false⟩)], 4, 116⟩
def V1_12 : ASt → Option X1_12
 | ⟨[(0, .ptr 0 0), (1, .v (.int .u64 v1)), (8, .v (.int .u64 v8)), (51, .arr .i64 24 v51), (52, .v (.int .i64 v52))], [(3, some ⟨.box 189 [.arr .u64 5 h3_0], false⟩), (2, some ⟨.box 189 [.arr .u64 5 h2_0], false⟩), (1, some ⟨.box 121 [.arr .u64 25 h1_0], false⟩), (0, some ⟨.box 121 [.arr .u64 25 h0_0], false⟩)], 4, 116⟩ => some (v1, v8, v51, v52, h3_0, h2_0, h1_0, h0_0)
 | _ => none
theorem V1_12_ok (st) (x) (h : V1_12 st = some x) : st = S1_12 x := by
 unfold V1_12 at h
 split at h
 · cases h; rfl
 · cases h
abbrev Y1_12 := X1_12
noncomputable def T1_12 : X1_12 → (X1_12 → Option R) → (Y1_12 → Option R) → Option R := fun (v1, v8, v51, v52, h3_0, h2_0, h1_0, h0_0) next ex => P.keccak_Permute_r1_12 v1 v8 v51 v52 h3_0 h2_0 h1_0 h0_0 (fun v1 v8 v51 v52 h3_0 h2_0 h1_0 h0_0 => next (v1, v8, v51, v52, h3_0, h2_0, h1_0, h0_0)) (fun v1 v8 v51 v52 h3_0 h2_0 h1_0 h0_0 => ex (v1, v8, v51, v52, h3_0, h2_0, h1_0, h0_0))
abbrev X1_21 := Int × Int × Int × (List Int) × (List Int) × (List Int) × (List Int) × (List Int)
def S1_21 : X1_21 → ASt := fun (v1, v11, v83, h3_0, h2_0, h1_0, h0_0, h4_0) => ⟨[(0, .ptr 0 0), (1, .v (.int .u64 v1)), (11, .v (.int .i64 v11)), (12, .ptr 4 0), (83, .v (.int .i64 v83))], [(3, some ⟨.box 189 [.arr .u64 5 h3_0], false⟩), (2, some ⟨.box 189 [.arr .u64 5 h2_0], false⟩), (1, some ⟨.box 121 [.arr .u64 25 h1_0], false⟩), (0, some ⟨.box 121 [.arr .u64 25 h0_0], false⟩), (4, some ⟨.box 189 [.arr .u64 5 h4_0], false⟩)], 5, 116⟩
def V1_21 : ASt → Option X1_21
 | ⟨[(0, .ptr 0 0), (1, .v (.int .u64 v1)), (11, .v (.int .i64 v11)), (12, .ptr 4 0), (83, .v (.int .i64 v83))], [(3, some ⟨.box 189 [.arr .u64 5 h3_0], false⟩), (2, some ⟨.box 189 [.arr .u64 5 h2_0], false⟩), (1, some ⟨.box 121 [.arr .u64 25 h1_0], false⟩), (0, some ⟨.box 121 [.arr .u64 25 h0_0], false⟩), (4, some ⟨.box 189 [.arr .u64 5 h4_0], false⟩)], 5, 116⟩ => some (v1, v11, v83, h3_0, h2_0, h1_0, h0_0, h4_0)
 | _ => none
theorem V1_21_ok (st) (x) (h : V1_21 st = some x) : st = S1_21 x := by
 unfold V1_21 at h
 split at h
 · cases h; rfl
 · cases h
abbrev Y1_21 := X1_21
noncomputable def T1_21 : X1_21 → (X1_21 → Option R) → (Y1_21 → Option R) → Option R := fun (v1, v11, v83, h3_0, h2_0, h1_0, h0_0, h4_0) next ex => P.keccak_Permute_r1_21 v1 v11 v83 h3_0 h2_0 h1_0 h0_0 h4_0 (fun v1 v11 v83 h3_0 h2_0 h1_0 h0_0 h4_0 => next (v1, v11, v83, h3_0, h2_0, h1_0, h0_0, h4_0)) (fun v1 v11 v83 h3_0 h2_0 h1_0 h0_0 h4_0 => ex (v1, v11, v83, h3_0, h2_0, h1_0, h0_0, h4_0))
abbrev X1_17 := Int × Int × (List Int) × (List Int) × (List Int) × (List Int)
def S1_17 : X1_17 → ASt := fun (v1, v11, h0_0, h1_0, h2_0, h3_0) => ⟨[(0, .ptr 0 0), (1, .v (.int .u64 v1)), (11, .v (.int .i64 v11))], [(0, some ⟨.box 121 [.arr .u64 25 h0_0], false⟩), (1, some ⟨.box 121 [.arr .u64 25 h1_0], false⟩), (2, some ⟨.box 189 [.arr .u64 5 h2_0], false⟩), (3, some ⟨.box 189 [.arr .u64 5 h3_0], false⟩)], 4, 116⟩
def V1_17 : ASt → Option X1_17
 | ⟨[(0, .ptr 0 0), (1, .v (.int .u64 v1)), (11, .v (.int .i64 v11))], [(0, some ⟨.box 121 [.arr .u64 25 h0_0], false⟩), (1, some ⟨.box 121 [.arr .u64 25 h1_0], false⟩), (2, some ⟨.box 189 [.arr .u64 5 h2_0], false⟩), (3, some ⟨.box 189 [.arr .u64 5 h3_0], false⟩)], 4, 116⟩ => some (v1, v11, h0_0, h1_0, h2_0, h3_0)
 | _ => none
theorem V1_17_ok (st) (x) (h : V1_17 st = some x) : st = S1_17 x := by
 unfold V1_17 at h
 split at h
 · cases h; rfl
 · cases h
abbrev Y1_17 := X1_17
noncomputable def T1_17 : X1_17 → (X1_17 → Option R) → (Y1_17 → Option R) → Option R := fun (v1, v11, h0_0, h1_0, h2_0, h3_0) next ex => P.keccak_Permute_r1_17 v1 v11 h0_0 h1_0 h2_0 h3_0 (fun v1 v11 h0_0 h1_0 h2_0 h3_0 => next (v1, v11, h0_0, h1_0, h2_0, h3_0)) (fun v1 v11 h0_0 h1_0 h2_0 h3_0 => ex (v1, v11, h0_0, h1_0, h2_0, h3_0))
abbrev X2 := (List Int) × Int × (List Int) × (List Int)
def S2 : X2 → ASt := fun (v5, v6, h0_0, h1_0) => ⟨[(1, .ptr 0 0), (2, .ptr 1 0), (5, .arr .u64 24 v5), (6, .v (.int .i64 v6))], [(0, some ⟨.box 121 [.arr .u64 25 h0_0], false⟩), (1, some ⟨.box 121 [.arr .u64 25 h1_0], false⟩)], 2, 13⟩
def V2 : ASt → Option X2
 | ⟨[(1, .ptr 0 0), (2, .ptr 1 0), (5, .arr .u64 24 v5), (6, .v (.int .i64 v6))], [(0, some ⟨.box 121 [.arr .u64 25 h0_0], false⟩), (1, some ⟨.box 121 [.arr .u64 25 h1_0], false⟩)], 2, 13⟩ => some (v5, v6, h0_0, h1_0)
 | _ => none
theorem V2_ok (st) (x) (h : V2 st = some x) : st = S2 x := by
 unfold V2 at h
 split at h
 · cases h; rfl
 · cases h
abbrev Y2 := X2
noncomputable def T2 : X2 → (X2 → Option R) → (Y2 → Option R) → Option R := fun (v5, v6, h0_0, h1_0) next ex => P.keccak_Permute_r2 v5 v6 h0_0 h1_0 (fun v5 v6 h0_0 h1_0 => next (v5, v6, h0_0, h1_0)) (fun v5 v6 h0_0 h1_0 => ex (v5, v6, h0_0, h1_0))
def E2_2 (K : AExit → ASt → Option R) : Y2_2 → Option R := (fun x => K (.exit 0) (S2_2 x))
noncomputable def L2_2 : LSpec := fun st K => vMap (V2_2 st) fun (v4, h1_0, h0_0, h2_0) => P.keccak_Permute_l2_2 v4 h1_0 h0_0 h2_0 (fun v4 h1_0 h0_0 h2_0 => K (.exit 0) (S2_2 (v4, h1_0, h0_0, h2_0)))
def E1_6 (K : AExit → ASt → Option R) : Y1_6 → Option R := (fun x => K (.exit 2) (S1_6 x))
noncomputable def L1_6 : LSpec := fun st K => vMap (V1_6 st) fun (v1, v5, v6, v7, v16, h3_0, h2_0, h1_0, h0_0) => P.keccak_Permute_l1_6 v1 v5 v6 v7 v16 h3_0 h2_0 h1_0 h0_0 (fun v1 v5 v6 v7 v16 h3_0 h2_0 h1_0 h0_0 => K (.exit 2) (S1_6 (v1, v5, v6, v7, v16, h3_0, h2_0, h1_0, h0_0)))
def E1_2 (K : AExit → ASt → Option R) : Y1_2 → Option R := (fun x => K (.exit 0) (S1_2 x))
noncomputable def L1_2 : LSpec := fun st K => vMap (V1_2 st) fun (v1, v16, h0_0, h1_0, h2_0, h3_0) => P.keccak_Permute_l1_2 v1 v16 h0_0 h1_0 h2_0 h3_0 (fun v1 v16 h0_0 h1_0 h2_0 h3_0 => K (.exit 0) (S1_2 (v1, v16, h0_0, h1_0, h2_0, h3_0)))
def E1_12 (K : AExit → ASt → Option R) : Y1_12 → Option R := (fun x => K (.exit 4) (S1_12 x))
noncomputable def L1_12 : LSpec := fun st K => vMap (V1_12 st) fun (v1, v8, v51, v52, h3_0, h2_0, h1_0, h0_0) => P.keccak_Permute_l1_12 v1 v8 v51 v52 h3_0 h2_0 h1_0 h0_0 (fun v1 v8 v51 v52 h3_0 h2_0 h1_0 h0_0 => K (.exit 4) (S1_12 (v1, v8, v51, v52, h3_0, h2_0, h1_0, h0_0)))
def E1_21 (K : AExit → ASt → Option R) : Y1_21 → Option R := (fun x => K (.exit 8) (S1_21 x))
noncomputable def L1_21 : LSpec := fun st K => vMap (V1_21 st) fun (v1, v11, v83, h3_0, h2_0, h1_0, h0_0, h4_0) => P.keccak_Permute_l1_21 v1 v11 v83 h3_0 h2_0 h1_0 h0_0 h4_0 (fun v1 v11 v83 h3_0 h2_0 h1_0 h0_0 h4_0 => K (.exit 8) (S1_21 (v1, v11, v83, h3_0, h2_0, h1_0, h0_0, h4_0)))
def E1_17 (K : AExit → ASt → Option R) : Y1_17 → Option R := (fun x => K (.exit 6) (S1_17 x))
noncomputable def L1_17 : LSpec := fun st K => vMap (V1_17 st) fun (v1, v11, h0_0, h1_0, h2_0, h3_0) => P.keccak_Permute_l1_17 v1 v11 h0_0 h1_0 h2_0 h3_0 (fun v1 v11 h0_0 h1_0 h2_0 h3_0 => K (.exit 6) (S1_17 (v1, v11, h0_0, h1_0, h2_0, h3_0)))
def E2 (K : AExit → ASt → Option R) : Y2 → Option R := (fun x => K (.exit 0) (S2 x))
noncomputable def L2 : LSpec := fun st K => vMap (V2 st) fun (v5, v6, h0_0, h1_0) => P.keccak_Permute_l2 v5 v6 h0_0 h1_0 (fun v5 v6 h0_0 h1_0 => K (.exit 0) (S2 (v5, v6, h0_0, h1_0)))
noncomputable def D2 : Ctx := ({ P := Tryd.prog, G := [(153, math_bits_RotateLeft64.spec)], globs := GLO.gC, hints := [(2, ⟨[0, 2, 4], [], [2], [], none, []⟩)], loops := [(2, L2_2)], inl := [] } : Ctx)
noncomputable def D1 : Ctx := ({ P := Tryd.prog, G := [(153, math_bits_RotateLeft64.spec)], globs := GLO.gC, hints := [(21, ⟨[0, 1, 11, 12, 83], [], [], [], none, []⟩), (17, ⟨[0, 1, 11], [], [], [], none, []⟩), (12, ⟨[0, 1, 8, 51, 52], [], [], [], none, []⟩), (6, ⟨[0, 1, 4, 5, 6, 7, 16], [], [], [], none, []⟩), (2, ⟨[0, 1, 4, 16], [], [], [], none, []⟩)], loops := [(6, L1_6), (2, L1_2), (12, L1_12), (21, L1_21), (17, L1_17)], inl := [(152, bodyIn D2 Tryd.f152)] } : Ctx)
noncomputable def D : Ctx := ({ P := Tryd.prog, G := [(153, math_bits_RotateLeft64.spec)], globs := GLO.gC, hints := [(2, ⟨[1, 2, 5, 6], [], [2], [], none, []⟩)], loops := [(2, L2)], inl := [(140, bodyIn D1 Tryd.f140)] } : Ctx)
theorem round2_2 (K) (next) (x) : roundA D2 (loopAt Tryd.f152 2) K next (S2_2 x) = T2_2 x (fun x => next (S2_2 x)) (E2_2 K) := by kernel_rfl
theorem lq2_2 (st) (K) : L2_2 st K = vMap (V2_2 st) (fun x => lp T2_2 x (E2_2 K)) := by
 unfold L2_2
 cases V2_2 st with
 | none => rfl
 | some x => rw [P.keccak_Permute_l2_2_eq]; kernel_rfl
theorem loop2_2 : LoopOk D2 (loopAt Tryd.f152 2) := loopOk_lp S2_2 V2_2_ok (by kernel_rfl) lq2_2 round2_2
theorem round1_6 (K) (next) (x) : roundA D1 (loopAt Tryd.f140 6) K next (S1_6 x) = T1_6 x (fun x => next (S1_6 x)) (E1_6 K) := by kernel_rfl
theorem lq1_6 (st) (K) : L1_6 st K = vMap (V1_6 st) (fun x => lp T1_6 x (E1_6 K)) := by
 unfold L1_6
 cases V1_6 st with
 | none => rfl
 | some x => rw [P.keccak_Permute_l1_6_eq]; kernel_rfl
theorem loop1_6 : LoopOk D1 (loopAt Tryd.f140 6) := loopOk_lp S1_6 V1_6_ok (by kernel_rfl) lq1_6 round1_6
theorem round1_2 (K) (next) (x) : roundA D1 (loopAt Tryd.f140 2) K next (S1_2 x) = T1_2 x (fun x => next (S1_2 x)) (E1_2 K) := by kernel_rfl
theorem lq1_2 (st) (K) : L1_2 st K = vMap (V1_2 st) (fun x => lp T1_2 x (E1_2 K)) := by
 unfold L1_2
 cases V1_2 st with
 | none => rfl
 | some x => rw [P.keccak_Permute_l1_2_eq]; kernel_rfl
theorem loop1_2 : LoopOk D1 (loopAt Tryd.f140 2) := loopOk_lp S1_2 V1_2_ok (by kernel_rfl) lq1_2 round1_2
theorem round1_12 (K) (next) (x) : roundA D1 (loopAt Tryd.f140 12) K next (S1_12 x) = T1_12 x (fun x => next (S1_12 x)) (E1_12 K) := by kernel_rfl
theorem lq1_12 (st) (K) : L1_12 st K = vMap (V1_12 st) (fun x => lp T1_12 x (E1_12 K)) := by
 unfold L1_12
 cases V1_12 st with
 | none => rfl
 | some x => rw [P.keccak_Permute_l1_12_eq]; kernel_rfl
theorem loop1_12 : LoopOk D1 (loopAt Tryd.f140 12) := loopOk_lp S1_12 V1_12_ok (by kernel_rfl) lq1_12 round1_12
theorem round1_21 (K) (next) (x) : roundA D1 (loopAt Tryd.f140 21) K next (S1_21 x) = T1_21 x (fun x => next (S1_21 x)) (E1_21 K) := by kernel_rfl
theorem lq1_21 (st) (K) : L1_21 st K = vMap (V1_21 st) (fun x => lp T1_21 x (E1_21 K)) := by
 unfold L1_21
 cases V1_21 st with
 | none => rfl
 | some x => rw [P.keccak_Permute_l1_21_eq]; kernel_rfl
theorem loop1_21 : LoopOk D1 (loopAt Tryd.f140 21) := loopOk_lp S1_21 V1_21_ok (by kernel_rfl) lq1_21 round1_21
theorem round1_17 (K) (next) (x) : roundA D1 (loopAt Tryd.f140 17) K next (S1_17 x) = T1_17 x (fun x => next (S1_17 x)) (E1_17 K) := by kernel_rfl
theorem lq1_17 (st) (K) : L1_17 st K = vMap (V1_17 st) (fun x => lp T1_17 x (E1_17 K)) := by
 unfold L1_17
 cases V1_17 st with
 | none => rfl
 | some x => rw [P.keccak_Permute_l1_17_eq]; kernel_rfl
theorem loop1_17 : LoopOk D1 (loopAt Tryd.f140 17) := loopOk_lp S1_17 V1_17_ok (by kernel_rfl) lq1_17 round1_17
theorem round2 (K) (next) (x) : roundA D (loopAt Tryd.f124 2) K next (S2 x) = T2 x (fun x => next (S2 x)) (E2 K) := by kernel_rfl
theorem lq2 (st) (K) : L2 st K = vMap (V2 st) (fun x => lp T2 x (E2 K)) := by
 unfold L2
 cases V2 st with
 | none => rfl
 | some x => rw [P.keccak_Permute_l2_eq]; kernel_rfl
theorem loop2 : LoopOk D (loopAt Tryd.f124 2) := loopOk_lp S2 V2_ok (by kernel_rfl) lq2 round2
theorem body (a0 : List Int) (K : AVal → Option R) : bodyA D Tryd.f124 [.any] [.arr .u64 25 a0] K = P.keccak_Permute a0 (fun r0 => K (.arr .u64 25 r0)) := by
 rw [P.keccak_Permute_eq]
 kernel_rfl
theorem loops : loopsOf (Tryd.f124.body.getD .skip) = [loopAt Tryd.f124 2] := by kernel_rfl
theorem loops1 : loopsOf (Tryd.f140.body.getD .skip) = [loopAt Tryd.f140 2, loopAt Tryd.f140 6, loopAt Tryd.f140 12, loopAt Tryd.f140 17, loopAt Tryd.f140 21] := by kernel_rfl
theorem loops2 : loopsOf (Tryd.f152.body.getD .skip) = [loopAt Tryd.f152 2] := by kernel_rfl
noncomputable def spec0 : Abs.Spec := fun args K => match args with
 | [.arr .u64 25 a0] => P.keccak_Permute a0 (fun r0 => K (.arr .u64 25 r0))
 | _ => none
noncomputable def spec : Abs.Spec := spec0
theorem ok0 : Proved Tryd.prog GLO.gC 124 spec0 := by
 refine proved_of (D := D) (fn := Tryd.f124) (c := Tryd.f124.body.getD .skip) [.any] (by kernel_rfl) (globsPlain_of (by kernel_rfl)) (by kernel_rfl) (by kernel_rfl) (by kernel_rfl) ⟨math_bits_RotateLeft64.ok, trivial⟩ ⟨run_of (D := D1) (D' := D) (fn := Tryd.f140) (c := Tryd.f140.body.getD .skip) rfl rfl (by kernel_rfl) (globsPlain_of (by kernel_rfl)) (by kernel_rfl) (by kernel_rfl) (by kernel_rfl) ⟨math_bits_RotateLeft64.ok, trivial⟩ ⟨run_of (D := D2) (D' := D1) (fn := Tryd.f152) (c := Tryd.f152.body.getD .skip) rfl rfl (by kernel_rfl) (globsPlain_of (by kernel_rfl)) (by kernel_rfl) (by kernel_rfl) (by kernel_rfl) ⟨math_bits_RotateLeft64.ok, trivial⟩ trivial (by rw [loops2]; exact ⟨loop2_2, trivial⟩) (fun _ _ _ _ _ h => h), trivial⟩ (by rw [loops1]; exact ⟨loop1_2, loop1_6, loop1_12, loop1_17, loop1_21, trivial⟩) (fun _ _ _ _ _ h => h), trivial⟩ ?_ ?_
 · rw [loops]; exact ⟨loop2, trivial⟩
 · intro args K r h
   unfold spec0 at h
   split at h
   · rw [body]; exact h
   · cases h
theorem ok : Proved Tryd.prog GLO.gC 124 spec := ok0
end keccak_Permute
end

section
open Go Go.Abs Go.Proofs
set_option maxRecDepth 100000
set_option linter.unusedVariables false
namespace keccak_rate
noncomputable def D : Ctx := ({ P := Tryd.prog, G := [], globs := GLO.gC, hints := [], loops := [], inl := [] } : Ctx)
theorem body (a0 : Int) (K : AVal → Option R) : bodyA D Tryd.f122 [.any] [.v (.int .i64 a0)] K = P.keccak_rate a0 (fun r0 => K (.v (.int .i64 r0))) := by
 rw [P.keccak_rate_eq]
 kernel_rfl
theorem loops : loopsOf (Tryd.f122.body.getD .skip) = [] := by kernel_rfl
noncomputable def spec0 : Abs.Spec := fun args K => match args with
 | [.v (.int .i64 a0)] => P.keccak_rate a0 (fun r0 => K (.v (.int .i64 r0)))
 | _ => none
noncomputable def spec : Abs.Spec := spec0
theorem ok0 : Proved Tryd.prog GLO.gC 122 spec0 := by
 refine proved_of (D := D) (fn := Tryd.f122) (c := Tryd.f122.body.getD .skip) [.any] (by kernel_rfl) (globsPlain_of (by kernel_rfl)) (by kernel_rfl) (by kernel_rfl) (by kernel_rfl) trivial trivial ?_ ?_
 · rw [loops]; exact trivial
 · intro args K r h
   unfold spec0 at h
   split at h
   · rw [body]; exact h
   · cases h
theorem ok : Proved Tryd.prog GLO.gC 122 spec := ok0
end keccak_rate
end

section
open Go Go.Abs Go.Proofs
set_option maxRecDepth 100000
set_option linter.unusedVariables false
namespace keccak_Absorb
abbrev X5 := (List Int) × Int × Int × Int × Int × (List Int) × Int × Bool × Int × (List Int) × Int × Bool
def S5 : X5 → ASt := fun (v1, v5, v14, v15, h0_0, h0_1, h0_2, h0_3, h1_0, h1_1, h1_2, h1_3) => ⟨[(1, .sl (.ints .u8 v1)), (2, .ptr 0 0), (4, .ptr 1 0), (5, .v (.int .i64 v5)), (14, .v (.int .i64 v14)), (15, .v (.int .i64 v15))], [(0, some ⟨.box 123 [.v (.int .i64 h0_0), .arr .u64 25 h0_1, .v (.int .i64 h0_2), .v (.bool h0_3)], false⟩), (1, some ⟨.box 123 [.v (.int .i64 h1_0), .arr .u64 25 h1_1, .v (.int .i64 h1_2), .v (.bool h1_3)], false⟩)], 40, 40⟩
def V5 : ASt → Option X5
 | ⟨[(1, .sl (.ints .u8 v1)), (2, .ptr 0 0), (4, .ptr 1 0), (5, .v (.int .i64 v5)), (14, .v (.int .i64 v14)), (15, .v (.int .i64 v15))], [(0, some ⟨.box 123 [.v (.int .i64 h0_0), .arr .u64 25 h0_1, .v (.int .i64 h0_2), .v (.bool h0_3)], false⟩), (1, some ⟨.box 123 [.v (.int .i64 h1_0), .arr .u64 25 h1_1, .v (.int .i64 h1_2), .v (.bool h1_3)], false⟩)], 40, 40⟩ => some (v1, v5, v14, v15, h0_0, h0_1, h0_2, h0_3, h1_0, h1_1, h1_2, h1_3)
 | _ => none
theorem V5_ok (st) (x) (h : V5 st = some x) : st = S5 x := by
 unfold V5 at h
 split at h
 · cases h; rfl
 · cases h
abbrev Y5 := X5
noncomputable def T5 : X5 → (X5 → Option R) → (Y5 → Option R) → Option R := fun (v1, v5, v14, v15, h0_0, h0_1, h0_2, h0_3, h1_0, h1_1, h1_2, h1_3) next ex => P.keccak_Absorb_r5 v1 v5 v14 v15 h0_0 h0_1 h0_2 h0_3 h1_0 h1_1 h1_2 h1_3 (fun v1 v5 v14 v15 h0_0 h0_1 h0_2 h0_3 h1_0 h1_1 h1_2 h1_3 => next (v1, v5, v14, v15, h0_0, h0_1, h0_2, h0_3, h1_0, h1_1, h1_2, h1_3)) (fun v1 v5 v14 v15 h0_0 h0_1 h0_2 h0_3 h1_0 h1_1 h1_2 h1_3 => ex (v1, v5, v14, v15, h0_0, h0_1, h0_2, h0_3, h1_0, h1_1, h1_2, h1_3))
def E5 (K : AExit → ASt → Option R) : Y5 → Option R := (fun x => K (.exit 0) (S5 x))
noncomputable def L5 : LSpec := fun st K => vMap (V5 st) fun (v1, v5, v14, v15, h0_0, h0_1, h0_2, h0_3, h1_0, h1_1, h1_2, h1_3) => P.keccak_Absorb_l5 v1 v5 v14 v15 h0_0 h0_1 h0_2 h0_3 h1_0 h1_1 h1_2 h1_3 (fun v1 v5 v14 v15 h0_0 h0_1 h0_2 h0_3 h1_0 h1_1 h1_2 h1_3 => K (.exit 0) (S5 (v1, v5, v14, v15, h0_0, h0_1, h0_2, h0_3, h1_0, h1_1, h1_2, h1_3)))
noncomputable def D1 : Ctx := ({ P := Tryd.prog, G := [(122, keccak_rate.spec), (124, keccak_Permute.spec)], globs := GLO.gC, hints := [], loops := [], inl := [] } : Ctx)
noncomputable def D : Ctx := ({ P := Tryd.prog, G := [(122, keccak_rate.spec), (124, keccak_Permute.spec)], globs := GLO.gC, hints := [(5, ⟨[1, 2, 4, 5, 14, 15], [], [4], [], some (40, [0, 1]), []⟩)], loops := [(5, L5)], inl := [(125, bodyIn D1 Tryd.f125)] } : Ctx)
theorem round5 (K) (next) (x) : roundA D (loopAt Tryd.f91 5) K next (S5 x) = T5 x (fun x => next (S5 x)) (E5 K) := by kernel_rfl
theorem lq5 (st) (K) : L5 st K = vMap (V5 st) (fun x => lp T5 x (E5 K)) := by
 unfold L5
 cases V5 st with
 | none => rfl
 | some x => rw [P.keccak_Absorb_l5_eq]; kernel_rfl
theorem loop5 : LoopOk D (loopAt Tryd.f91 5) := loopOk_lp S5 V5_ok (by kernel_rfl) lq5 round5
theorem body (a0_Kind : Int) (a0_Words : List Int) (a0_At : Int) (a0_Out : Bool) (a1 : List Int) (K : AVal → Option R) : bodyA D Tryd.f91 [.any] [.agg [.v (.int .i64 a0_Kind), .arr .u64 25 a0_Words, .v (.int .i64 a0_At), .v (.bool a0_Out)], .sl (.ints .u8 a1)] K = P.keccak_Absorb a0_Kind a0_Words a0_At a0_Out a1 (fun r0_Kind r0_Words r0_At r0_Out => K (.agg [.v (.int .i64 r0_Kind), .arr .u64 25 r0_Words, .v (.int .i64 r0_At), .v (.bool r0_Out)])) := by
 rw [P.keccak_Absorb_eq]
 kernel_rfl
theorem loops : loopsOf (Tryd.f91.body.getD .skip) = [loopAt Tryd.f91 5] := by kernel_rfl
theorem loops1 : loopsOf (Tryd.f125.body.getD .skip) = [] := by kernel_rfl
noncomputable def spec0 : Abs.Spec := fun args K => match args with
 | [.agg [.v (.int .i64 a0_Kind), .arr .u64 25 a0_Words, .v (.int .i64 a0_At), .v (.bool a0_Out)], .sl (.ints .u8 a1)] => P.keccak_Absorb a0_Kind a0_Words a0_At a0_Out a1 (fun r0_Kind r0_Words r0_At r0_Out => K (.agg [.v (.int .i64 r0_Kind), .arr .u64 25 r0_Words, .v (.int .i64 r0_At), .v (.bool r0_Out)]))
 | _ => none
noncomputable def spec : Abs.Spec := fun args K => spec0 (coerL [.any, .sl (.ints .u8 [])] args) K
theorem ok0 : Proved Tryd.prog GLO.gC 91 spec0 := by
 refine proved_of (D := D) (fn := Tryd.f91) (c := Tryd.f91.body.getD .skip) [.any] (by kernel_rfl) (globsPlain_of (by kernel_rfl)) (by kernel_rfl) (by kernel_rfl) (by kernel_rfl) ⟨keccak_rate.ok, keccak_Permute.ok, trivial⟩ ⟨run_of (D := D1) (D' := D) (fn := Tryd.f125) (c := Tryd.f125.body.getD .skip) rfl rfl (by kernel_rfl) (globsPlain_of (by kernel_rfl)) (by kernel_rfl) (by kernel_rfl) (by kernel_rfl) ⟨keccak_rate.ok, keccak_Permute.ok, trivial⟩ trivial (by rw [loops1]; exact trivial) (fun _ _ _ _ _ h => h), trivial⟩ ?_ ?_
 · rw [loops]; exact ⟨loop5, trivial⟩
 · intro args K r h
   unfold spec0 at h
   split at h
   · rw [body]; exact h
   · cases h
theorem ok : Proved Tryd.prog GLO.gC 91 spec := proved_coer _ ok0
end keccak_Absorb
end

section
open Go Go.Abs Go.Proofs
set_option maxRecDepth 100000
set_option linter.unusedVariables false
namespace keccak_New
noncomputable def D : Ctx := ({ P := Tryd.prog, G := [(122, keccak_rate.spec)], globs := GLO.gC, hints := [], loops := [], inl := [] } : Ctx)
theorem body (a0 : Int) (K : AVal → Option R) : bodyA D Tryd.f89 [.any, .any] [.v (.int .i64 a0)] K = P.keccak_New a0 (fun r0_Kind r0_Words r0_At r0_Out r1 => K (.tuple [.agg [.v (.int .i64 r0_Kind), .arr .u64 25 r0_Words, .v (.int .i64 r0_At), .v (.bool r0_Out)], .v (.int .i64 r1)])) := by
 rw [P.keccak_New_eq]
 kernel_rfl
theorem loops : loopsOf (Tryd.f89.body.getD .skip) = [] := by kernel_rfl
noncomputable def spec0 : Abs.Spec := fun args K => match args with
 | [.v (.int .i64 a0)] => P.keccak_New a0 (fun r0_Kind r0_Words r0_At r0_Out r1 => K (.tuple [.agg [.v (.int .i64 r0_Kind), .arr .u64 25 r0_Words, .v (.int .i64 r0_At), .v (.bool r0_Out)], .v (.int .i64 r1)]))
 | _ => none
noncomputable def spec : Abs.Spec := spec0
theorem ok0 : Proved Tryd.prog GLO.gC 89 spec0 := by
 refine proved_of (D := D) (fn := Tryd.f89) (c := Tryd.f89.body.getD .skip) [.any, .any] (by kernel_rfl) (globsPlain_of (by kernel_rfl)) (by kernel_rfl) (by kernel_rfl) (by kernel_rfl) ⟨keccak_rate.ok, trivial⟩ trivial ?_ ?_
 · rw [loops]; exact trivial
 · intro args K r h
   unfold spec0 at h
   split at h
   · rw [body]; exact h
   · cases h
theorem ok : Proved Tryd.prog GLO.gC 89 spec := ok0
end keccak_New
end

section
open Go Go.Abs Go.Proofs
set_option maxRecDepth 100000
set_option linter.unusedVariables false
namespace keccak_turned
noncomputable def D1 : Ctx := ({ P := Tryd.prog, G := [(122, keccak_rate.spec), (124, keccak_Permute.spec)], globs := GLO.gC, hints := [], loops := [], inl := [] } : Ctx)
noncomputable def D : Ctx := ({ P := Tryd.prog, G := [(122, keccak_rate.spec), (124, keccak_Permute.spec)], globs := GLO.gC, hints := [], loops := [], inl := [(125, bodyIn D1 Tryd.f125)] } : Ctx)
theorem body (a0_Kind : Int) (a0_Words : List Int) (a0_At : Int) (a0_Out : Bool) (K : AVal → Option R) : bodyA D Tryd.f123 [.any] [.agg [.v (.int .i64 a0_Kind), .arr .u64 25 a0_Words, .v (.int .i64 a0_At), .v (.bool a0_Out)]] K = P.keccak_turned a0_Kind a0_Words a0_At a0_Out (fun r0_Kind r0_Words r0_At r0_Out => K (.agg [.v (.int .i64 r0_Kind), .arr .u64 25 r0_Words, .v (.int .i64 r0_At), .v (.bool r0_Out)])) := by
 rw [P.keccak_turned_eq]
 kernel_rfl
theorem loops : loopsOf (Tryd.f123.body.getD .skip) = [] := by kernel_rfl
theorem loops1 : loopsOf (Tryd.f125.body.getD .skip) = [] := by kernel_rfl
noncomputable def spec0 : Abs.Spec := fun args K => match args with
 | [.agg [.v (.int .i64 a0_Kind), .arr .u64 25 a0_Words, .v (.int .i64 a0_At), .v (.bool a0_Out)]] => P.keccak_turned a0_Kind a0_Words a0_At a0_Out (fun r0_Kind r0_Words r0_At r0_Out => K (.agg [.v (.int .i64 r0_Kind), .arr .u64 25 r0_Words, .v (.int .i64 r0_At), .v (.bool r0_Out)]))
 | _ => none
noncomputable def spec : Abs.Spec := spec0
theorem ok0 : Proved Tryd.prog GLO.gC 123 spec0 := by
 refine proved_of (D := D) (fn := Tryd.f123) (c := Tryd.f123.body.getD .skip) [.any] (by kernel_rfl) (globsPlain_of (by kernel_rfl)) (by kernel_rfl) (by kernel_rfl) (by kernel_rfl) ⟨keccak_rate.ok, keccak_Permute.ok, trivial⟩ ⟨run_of (D := D1) (D' := D) (fn := Tryd.f125) (c := Tryd.f125.body.getD .skip) rfl rfl (by kernel_rfl) (globsPlain_of (by kernel_rfl)) (by kernel_rfl) (by kernel_rfl) (by kernel_rfl) ⟨keccak_rate.ok, keccak_Permute.ok, trivial⟩ trivial (by rw [loops1]; exact trivial) (fun _ _ _ _ _ h => h), trivial⟩ ?_ ?_
 · rw [loops]; exact trivial
 · intro args K r h
   unfold spec0 at h
   split at h
   · rw [body]; exact h
   · cases h
theorem ok : Proved Tryd.prog GLO.gC 123 spec := ok0
end keccak_turned
end

section
open Go Go.Abs Go.Proofs
set_option maxRecDepth 100000
set_option linter.unusedVariables false
namespace keccak_Squeeze
abbrev X7 := Int × Int × Int × (List Int) × Int × Bool × Int × (List Int) × Int × Bool × (List Int)
def S7 : X7 → ASt := fun (v19, v20, h0_0, h0_1, h0_2, h0_3, h1_0, h1_1, h1_2, h1_3, h2) => ⟨[(2, .ptr 0 0), (4, .ptr 1 0), (6, .own 2), (19, .v (.int .i64 v19)), (20, .v (.int .i64 v20))], [(0, some ⟨.box 123 [.v (.int .i64 h0_0), .arr .u64 25 h0_1, .v (.int .i64 h0_2), .v (.bool h0_3)], false⟩), (1, some ⟨.box 123 [.v (.int .i64 h1_0), .arr .u64 25 h1_1, .v (.int .i64 h1_2), .v (.bool h1_3)], false⟩), (2, some ⟨.row 5 (.ints .u8 h2), false⟩)], 40, 56⟩
def V7 : ASt → Option X7
 | ⟨[(2, .ptr 0 0), (4, .ptr 1 0), (6, .own 2), (19, .v (.int .i64 v19)), (20, .v (.int .i64 v20))], [(0, some ⟨.box 123 [.v (.int .i64 h0_0), .arr .u64 25 h0_1, .v (.int .i64 h0_2), .v (.bool h0_3)], false⟩), (1, some ⟨.box 123 [.v (.int .i64 h1_0), .arr .u64 25 h1_1, .v (.int .i64 h1_2), .v (.bool h1_3)], false⟩), (2, some ⟨.row 5 (.ints .u8 h2), false⟩)], 40, 56⟩ => some (v19, v20, h0_0, h0_1, h0_2, h0_3, h1_0, h1_1, h1_2, h1_3, h2)
 | _ => none
theorem V7_ok (st) (x) (h : V7 st = some x) : st = S7 x := by
 unfold V7 at h
 split at h
 · cases h; rfl
 · cases h
abbrev Y7 := X7
noncomputable def T7 : X7 → (X7 → Option R) → (Y7 → Option R) → Option R := fun (v19, v20, h0_0, h0_1, h0_2, h0_3, h1_0, h1_1, h1_2, h1_3, h2) next ex => P.keccak_Squeeze_r7 v19 v20 h0_0 h0_1 h0_2 h0_3 h1_0 h1_1 h1_2 h1_3 h2 (fun v19 v20 h0_0 h0_1 h0_2 h0_3 h1_0 h1_1 h1_2 h1_3 h2 => next (v19, v20, h0_0, h0_1, h0_2, h0_3, h1_0, h1_1, h1_2, h1_3, h2)) (fun v19 v20 h0_0 h0_1 h0_2 h0_3 h1_0 h1_1 h1_2 h1_3 h2 => ex (v19, v20, h0_0, h0_1, h0_2, h0_3, h1_0, h1_1, h1_2, h1_3, h2))
def E7 (K : AExit → ASt → Option R) : Y7 → Option R := (fun x => K (.exit 0) (S7 x))
noncomputable def L7 : LSpec := fun st K => vMap (V7 st) fun (v19, v20, h0_0, h0_1, h0_2, h0_3, h1_0, h1_1, h1_2, h1_3, h2) => P.keccak_Squeeze_l7 v19 v20 h0_0 h0_1 h0_2 h0_3 h1_0 h1_1 h1_2 h1_3 h2 (fun v19 v20 h0_0 h0_1 h0_2 h0_3 h1_0 h1_1 h1_2 h1_3 h2 => K (.exit 0) (S7 (v19, v20, h0_0, h0_1, h0_2, h0_3, h1_0, h1_1, h1_2, h1_3, h2)))
noncomputable def D : Ctx := ({ P := Tryd.prog, G := [(122, keccak_rate.spec), (123, keccak_turned.spec), (124, keccak_Permute.spec)], globs := GLO.gC, hints := [(7, ⟨[2, 4, 6, 19, 20], [], [4, 5], [], some (40, [0, 1, 2]), []⟩)], loops := [(7, L7)], inl := [] } : Ctx)
theorem round7 (K) (next) (x) : roundA D (loopAt Tryd.f90 7) K next (S7 x) = T7 x (fun x => next (S7 x)) (E7 K) := by kernel_rfl
theorem lq7 (st) (K) : L7 st K = vMap (V7 st) (fun x => lp T7 x (E7 K)) := by
 unfold L7
 cases V7 st with
 | none => rfl
 | some x => rw [P.keccak_Squeeze_l7_eq]; kernel_rfl
theorem loop7 : LoopOk D (loopAt Tryd.f90 7) := loopOk_lp S7 V7_ok (by kernel_rfl) lq7 round7
theorem body (a0_Kind : Int) (a0_Words : List Int) (a0_At : Int) (a0_Out : Bool) (a1 : Int) (K : AVal → Option R) : bodyA D Tryd.f90 [.any, .fr 5 (.ints .u8 [])] [.agg [.v (.int .i64 a0_Kind), .arr .u64 25 a0_Words, .v (.int .i64 a0_At), .v (.bool a0_Out)], .v (.int .i64 a1)] K = P.keccak_Squeeze a0_Kind a0_Words a0_At a0_Out a1 (fun r0_Kind r0_Words r0_At r0_Out r1 => K (.tuple [.agg [.v (.int .i64 r0_Kind), .arr .u64 25 r0_Words, .v (.int .i64 r0_At), .v (.bool r0_Out)], .fr 5 (.ints .u8 r1)])) := by
 rw [P.keccak_Squeeze_eq]
 kernel_rfl
theorem loops : loopsOf (Tryd.f90.body.getD .skip) = [loopAt Tryd.f90 7] := by kernel_rfl
noncomputable def spec0 : Abs.Spec := fun args K => match args with
 | [.agg [.v (.int .i64 a0_Kind), .arr .u64 25 a0_Words, .v (.int .i64 a0_At), .v (.bool a0_Out)], .v (.int .i64 a1)] => P.keccak_Squeeze a0_Kind a0_Words a0_At a0_Out a1 (fun r0_Kind r0_Words r0_At r0_Out r1 => K (.tuple [.agg [.v (.int .i64 r0_Kind), .arr .u64 25 r0_Words, .v (.int .i64 r0_At), .v (.bool r0_Out)], .fr 5 (.ints .u8 r1)]))
 | _ => none
noncomputable def spec : Abs.Spec := spec0
theorem ok0 : Proved Tryd.prog GLO.gC 90 spec0 := by
 refine proved_of (D := D) (fn := Tryd.f90) (c := Tryd.f90.body.getD .skip) [.any, .fr 5 (.ints .u8 [])] (by kernel_rfl) (globsPlain_of (by kernel_rfl)) (by kernel_rfl) (by kernel_rfl) (by kernel_rfl) ⟨keccak_rate.ok, keccak_turned.ok, keccak_Permute.ok, trivial⟩ trivial ?_ ?_
 · rw [loops]; exact ⟨loop7, trivial⟩
 · intro args K r h
   unfold spec0 at h
   split at h
   · rw [body]; exact h
   · cases h
theorem ok : Proved Tryd.prog GLO.gC 90 spec := ok0
end keccak_Squeeze
end

section
open Go Go.Abs Go.Proofs
set_option maxRecDepth 100000
set_option linter.unusedVariables false
namespace keccak_Sum
noncomputable def D : Ctx := ({ P := Tryd.prog, G := [(89, keccak_New.spec), (90, keccak_Squeeze.spec), (91, keccak_Absorb.spec)], globs := GLO.gC, hints := [], loops := [], inl := [] } : Ctx)
theorem body (a0 : Int) (a1 : List Int) (a2 : Int) (K : AVal → Option R) : bodyA D Tryd.f52 [.fr 5 (.ints .u8 []), .any] [.v (.int .i64 a0), .sl (.ints .u8 a1), .v (.int .i64 a2)] K = P.keccak_Sum a0 a1 a2 (fun r0 r1 => K (.tuple [.fr 5 (.ints .u8 r0), .v (.int .i64 r1)])) := by
 rw [P.keccak_Sum_eq]
 kernel_rfl
theorem loops : loopsOf (Tryd.f52.body.getD .skip) = [] := by kernel_rfl
noncomputable def spec0 : Abs.Spec := fun args K => match args with
 | [.v (.int .i64 a0), .sl (.ints .u8 a1), .v (.int .i64 a2)] => P.keccak_Sum a0 a1 a2 (fun r0 r1 => K (.tuple [.fr 5 (.ints .u8 r0), .v (.int .i64 r1)]))
 | _ => none
noncomputable def spec : Abs.Spec := fun args K => spec0 (coerL [.any, .sl (.ints .u8 []), .any] args) K
theorem ok0 : Proved Tryd.prog GLO.gC 52 spec0 := by
 refine proved_of (D := D) (fn := Tryd.f52) (c := Tryd.f52.body.getD .skip) [.fr 5 (.ints .u8 []), .any] (by kernel_rfl) (globsPlain_of (by kernel_rfl)) (by kernel_rfl) (by kernel_rfl) (by kernel_rfl) ⟨keccak_New.ok, keccak_Squeeze.ok, keccak_Absorb.ok, trivial⟩ trivial ?_ ?_
 · rw [loops]; exact trivial
 · intro args K r h
   unfold spec0 at h
   split at h
   · rw [body]; exact h
   · cases h
theorem ok : Proved Tryd.prog GLO.gC 52 spec := proved_coer _ ok0
end keccak_Sum
end

section
open Go Go.Abs Go.Proofs
set_option maxRecDepth 100000
set_option linter.unusedVariables false
namespace sha_root512
noncomputable def D : Ctx := ({ P := Tryd.prog, G := [], globs := GLO.gC, hints := [], loops := [], inl := [] } : Ctx)
theorem body (a0 : Int) (K : AVal → Option R) : bodyA D Tryd.f139 [.any] [.v (.int .i64 a0)] K = P.sha_root512 a0 (fun r0 => K (.v (.int .u64 r0))) := by
 rw [P.sha_root512_eq]
 kernel_rfl
theorem loops : loopsOf (Tryd.f139.body.getD .skip) = [] := by kernel_rfl
noncomputable def spec0 : Abs.Spec := fun args K => match args with
 | [.v (.int .i64 a0)] => P.sha_root512 a0 (fun r0 => K (.v (.int .u64 r0)))
 | _ => none
noncomputable def spec : Abs.Spec := spec0
theorem ok0 : Proved Tryd.prog GLO.gC 139 spec0 := by
 refine proved_of (D := D) (fn := Tryd.f139) (c := Tryd.f139.body.getD .skip) [.any] (by kernel_rfl) (globsPlain_of (by kernel_rfl)) (by kernel_rfl) (by kernel_rfl) (by kernel_rfl) trivial trivial ?_ ?_
 · rw [loops]; exact trivial
 · intro args K r h
   unfold spec0 at h
   split at h
   · rw [body]; exact h
   · cases h
theorem ok : Proved Tryd.prog GLO.gC 139 spec := ok0
end sha_root512
end

section
open Go Go.Abs Go.Proofs
set_option maxRecDepth 100000
set_option linter.unusedVariables false
namespace sha_great
noncomputable def D : Ctx := ({ P := Tryd.prog, G := [(139, sha_root512.spec)], globs := GLO.gC, hints := [], loops := [], inl := [] } : Ctx)
theorem body  (K : AVal → Option R) : bodyA D Tryd.f120 [.any] [] K = P.sha_great (fun r0_bits r0_rounds r0_turns_0 r0_turns_1 r0_turns_2 r0_turns_3 => K (.agg [.v (.int .i64 r0_bits), .v (.int .i64 r0_rounds), .arr .i64 3 r0_turns_0, .arr .i64 3 r0_turns_1, .arr .i64 3 r0_turns_2, .arr .i64 3 r0_turns_3, .fn (.func 139) [] []])) := by
 rw [P.sha_great_eq]
 kernel_rfl
theorem loops : loopsOf (Tryd.f120.body.getD .skip) = [] := by kernel_rfl
noncomputable def spec0 : Abs.Spec := fun args K => match args with
 | [] => P.sha_great (fun r0_bits r0_rounds r0_turns_0 r0_turns_1 r0_turns_2 r0_turns_3 => K (.agg [.v (.int .i64 r0_bits), .v (.int .i64 r0_rounds), .arr .i64 3 r0_turns_0, .arr .i64 3 r0_turns_1, .arr .i64 3 r0_turns_2, .arr .i64 3 r0_turns_3, .fn (.func 139) [] []]))
 | _ => none
noncomputable def spec : Abs.Spec := spec0
theorem ok0 : Proved Tryd.prog GLO.gC 120 spec0 := by
 refine proved_of (D := D) (fn := Tryd.f120) (c := Tryd.f120.body.getD .skip) [.any] (by kernel_rfl) (globsPlain_of (by kernel_rfl)) (by kernel_rfl) (by kernel_rfl) (by kernel_rfl) ⟨sha_root512.ok, trivial⟩ trivial ?_ ?_
 · rw [loops]; exact trivial
 · intro args K r h
   unfold spec0 at h
   split at h
   · rw [body]; exact h
   · cases h
theorem ok : Proved Tryd.prog GLO.gC 120 spec := ok0
end sha_great
end

section
open Go Go.Abs Go.Proofs
set_option maxRecDepth 100000
set_option linter.unusedVariables false
namespace sha_root256
noncomputable def D : Ctx := ({ P := Tryd.prog, G := [], globs := GLO.gC, hints := [], loops := [], inl := [] } : Ctx)
theorem body (a0 : Int) (K : AVal → Option R) : bodyA D Tryd.f137 [.any] [.v (.int .i64 a0)] K = P.sha_root256 a0 (fun r0 => K (.v (.int .u32 r0))) := by
 rw [P.sha_root256_eq]
 kernel_rfl
theorem loops : loopsOf (Tryd.f137.body.getD .skip) = [] := by kernel_rfl
noncomputable def spec0 : Abs.Spec := fun args K => match args with
 | [.v (.int .i64 a0)] => P.sha_root256 a0 (fun r0 => K (.v (.int .u32 r0)))
 | _ => none
noncomputable def spec : Abs.Spec := spec0
theorem ok0 : Proved Tryd.prog GLO.gC 137 spec0 := by
 refine proved_of (D := D) (fn := Tryd.f137) (c := Tryd.f137.body.getD .skip) [.any] (by kernel_rfl) (globsPlain_of (by kernel_rfl)) (by kernel_rfl) (by kernel_rfl) (by kernel_rfl) trivial trivial ?_ ?_
 · rw [loops]; exact trivial
 · intro args K r h
   unfold spec0 at h
   split at h
   · rw [body]; exact h
   · cases h
theorem ok : Proved Tryd.prog GLO.gC 137 spec := ok0
end sha_root256
end

section
open Go Go.Abs Go.Proofs
set_option maxRecDepth 100000
set_option linter.unusedVariables false
namespace sha_small
noncomputable def D : Ctx := ({ P := Tryd.prog, G := [(137, sha_root256.spec)], globs := GLO.gC, hints := [], loops := [], inl := [] } : Ctx)
theorem body  (K : AVal → Option R) : bodyA D Tryd.f118 [.any] [] K = P.sha_small (fun r0_bits r0_rounds r0_turns_0 r0_turns_1 r0_turns_2 r0_turns_3 => K (.agg [.v (.int .i64 r0_bits), .v (.int .i64 r0_rounds), .arr .i64 3 r0_turns_0, .arr .i64 3 r0_turns_1, .arr .i64 3 r0_turns_2, .arr .i64 3 r0_turns_3, .fn (.func 137) [] []])) := by
 rw [P.sha_small_eq]
 kernel_rfl
theorem loops : loopsOf (Tryd.f118.body.getD .skip) = [] := by kernel_rfl
noncomputable def spec0 : Abs.Spec := fun args K => match args with
 | [] => P.sha_small (fun r0_bits r0_rounds r0_turns_0 r0_turns_1 r0_turns_2 r0_turns_3 => K (.agg [.v (.int .i64 r0_bits), .v (.int .i64 r0_rounds), .arr .i64 3 r0_turns_0, .arr .i64 3 r0_turns_1, .arr .i64 3 r0_turns_2, .arr .i64 3 r0_turns_3, .fn (.func 137) [] []]))
 | _ => none
noncomputable def spec : Abs.Spec := spec0
theorem ok0 : Proved Tryd.prog GLO.gC 118 spec0 := by
 refine proved_of (D := D) (fn := Tryd.f118) (c := Tryd.f118.body.getD .skip) [.any] (by kernel_rfl) (globsPlain_of (by kernel_rfl)) (by kernel_rfl) (by kernel_rfl) (by kernel_rfl) ⟨sha_root256.ok, trivial⟩ trivial ?_ ?_
 · rw [loops]; exact trivial
 · intro args K r h
   unfold spec0 at h
   split at h
   · rw [body]; exact h
   · cases h
theorem ok : Proved Tryd.prog GLO.gC 118 spec := ok0
end sha_small
end

section
open Go Go.Abs Go.Proofs
set_option maxRecDepth 100000
set_option linter.unusedVariables false
namespace bits_Num
abbrev X3 := Int × (List Int) × Int × Int
def S3 : X3 → ASt := fun (v3, v6, v7, v8) => ⟨[(3, .v (.int .u64 v3)), (6, .sl (.ints .u8 v6)), (7, .v (.int .i64 v7)), (8, .v (.int .i64 v8))], [], 0, 19⟩
def V3 : ASt → Option X3
 | ⟨[(3, .v (.int .u64 v3)), (6, .sl (.ints .u8 v6)), (7, .v (.int .i64 v7)), (8, .v (.int .i64 v8))], [], 0, 19⟩ => some (v3, v6, v7, v8)
 | _ => none
theorem V3_ok (st) (x) (h : V3 st = some x) : st = S3 x := by
 unfold V3 at h
 split at h
 · cases h; rfl
 · cases h
abbrev Y3 := X3
noncomputable def T3 : X3 → (X3 → Option R) → (Y3 → Option R) → Option R := fun (v3, v6, v7, v8) next ex => P.bits_Num_r3 v3 v6 v7 v8 (fun v3 v6 v7 v8 => next (v3, v6, v7, v8)) (fun v3 v6 v7 v8 => ex (v3, v6, v7, v8))
def E3 (K : AExit → ASt → Option R) : Y3 → Option R := (fun x => K (.exit 0) (S3 x))
noncomputable def L3 : LSpec := fun st K => vMap (V3 st) fun (v3, v6, v7, v8) => P.bits_Num_l3 v3 v6 v7 v8 (fun v3 v6 v7 v8 => K (.exit 0) (S3 (v3, v6, v7, v8)))
noncomputable def D : Ctx := ({ P := Tryd.prog, G := [], globs := GLO.gC, hints := [(3, ⟨[3, 6, 7, 8], [], [2], [], none, []⟩)], loops := [(3, L3)], inl := [] } : Ctx)
theorem round3 (K) (next) (x) : roundA D (loopAt Tryd.f134 3) K next (S3 x) = T3 x (fun x => next (S3 x)) (E3 K) := by kernel_rfl
theorem lq3 (st) (K) : L3 st K = vMap (V3 st) (fun x => lp T3 x (E3 K)) := by
 unfold L3
 cases V3 st with
 | none => rfl
 | some x => rw [P.bits_Num_l3_eq]; kernel_rfl
theorem loop3 : LoopOk D (loopAt Tryd.f134 3) := loopOk_lp S3 V3_ok (by kernel_rfl) lq3 round3
theorem body (a0 : List Int) (K : AVal → Option R) : bodyA D Tryd.f134 [.any] [.sl (.ints .u8 a0)] K = P.bits_Num a0 (fun r0 => K (.v (.int .u64 r0))) := by
 rw [P.bits_Num_eq]
 kernel_rfl
theorem loops : loopsOf (Tryd.f134.body.getD .skip) = [loopAt Tryd.f134 3] := by kernel_rfl
noncomputable def spec0 : Abs.Spec := fun args K => match args with
 | [.sl (.ints .u8 a0)] => P.bits_Num a0 (fun r0 => K (.v (.int .u64 r0)))
 | _ => none
noncomputable def spec : Abs.Spec := fun args K => spec0 (coerL [.sl (.ints .u8 [])] args) K
theorem ok0 : Proved Tryd.prog GLO.gC 134 spec0 := by
 refine proved_of (D := D) (fn := Tryd.f134) (c := Tryd.f134.body.getD .skip) [.any] (by kernel_rfl) (globsPlain_of (by kernel_rfl)) (by kernel_rfl) (by kernel_rfl) (by kernel_rfl) trivial trivial ?_ ?_
 · rw [loops]; exact ⟨loop3, trivial⟩
 · intro args K r h
   unfold spec0 at h
   split at h
   · rw [body]; exact h
   · cases h
theorem ok : Proved Tryd.prog GLO.gC 134 spec := proved_coer _ ok0
end bits_Num
end

section
open Go Go.Abs Go.Proofs
set_option maxRecDepth 100000
set_option linter.unusedVariables false
namespace sha_engine_uint32_rotated
noncomputable def D : Ctx := ({ P := Tryd.prog, G := [(137, sha_root256.spec)], globs := GLO.gC, hints := [], loops := [], inl := [] } : Ctx)
theorem body (a0_bits : Int) (a0_rounds : Int) (a0_turns_0 : List Int) (a0_turns_1 : List Int) (a0_turns_2 : List Int) (a0_turns_3 : List Int) (a1 : Int) (a2 : Int) (K : AVal → Option R) : bodyA D Tryd.f157 [.any] [.agg [.v (.int .i64 a0_bits), .v (.int .i64 a0_rounds), .arr .i64 3 a0_turns_0, .arr .i64 3 a0_turns_1, .arr .i64 3 a0_turns_2, .arr .i64 3 a0_turns_3, .fn (.func 137) [] []], .v (.int .u32 a1), .v (.int .i64 a2)] K = P.sha_engine_uint32_rotated a0_bits a0_rounds a0_turns_0 a0_turns_1 a0_turns_2 a0_turns_3 a1 a2 (fun r0 => K (.v (.int .u32 r0))) := by
 rw [P.sha_engine_uint32_rotated_eq]
 kernel_rfl
theorem loops : loopsOf (Tryd.f157.body.getD .skip) = [] := by kernel_rfl
noncomputable def spec0 : Abs.Spec := fun args K => match args with
 | [.agg [.v (.int .i64 a0_bits), .v (.int .i64 a0_rounds), .arr .i64 3 a0_turns_0, .arr .i64 3 a0_turns_1, .arr .i64 3 a0_turns_2, .arr .i64 3 a0_turns_3, .fn (.func 137) [] []], .v (.int .u32 a1), .v (.int .i64 a2)] => P.sha_engine_uint32_rotated a0_bits a0_rounds a0_turns_0 a0_turns_1 a0_turns_2 a0_turns_3 a1 a2 (fun r0 => K (.v (.int .u32 r0)))
 | _ => none
noncomputable def spec : Abs.Spec := spec0
theorem ok0 : Proved Tryd.prog GLO.gC 157 spec0 := by
 refine proved_of (D := D) (fn := Tryd.f157) (c := Tryd.f157.body.getD .skip) [.any] (by kernel_rfl) (globsPlain_of (by kernel_rfl)) (by kernel_rfl) (by kernel_rfl) (by kernel_rfl) ⟨sha_root256.ok, trivial⟩ trivial ?_ ?_
 · rw [loops]; exact trivial
 · intro args K r h
   unfold spec0 at h
   split at h
   · rw [body]; exact h
   · cases h
theorem ok : Proved Tryd.prog GLO.gC 157 spec := ok0
end sha_engine_uint32_rotated
end

section
open Go Go.Abs Go.Proofs
set_option maxRecDepth 100000
set_option linter.unusedVariables false
namespace sha_engine_uint32_high
noncomputable def D : Ctx := ({ P := Tryd.prog, G := [(137, sha_root256.spec), (157, sha_engine_uint32_rotated.spec)], globs := GLO.gC, hints := [], loops := [], inl := [] } : Ctx)
theorem body (a0_bits : Int) (a0_rounds : Int) (a0_turns_0 : List Int) (a0_turns_1 : List Int) (a0_turns_2 : List Int) (a0_turns_3 : List Int) (a1 : Int) (a2 : Int) (K : AVal → Option R) : bodyA D Tryd.f148 [.any] [.agg [.v (.int .i64 a0_bits), .v (.int .i64 a0_rounds), .arr .i64 3 a0_turns_0, .arr .i64 3 a0_turns_1, .arr .i64 3 a0_turns_2, .arr .i64 3 a0_turns_3, .fn (.func 137) [] []], .v (.int .u32 a1), .v (.int .i64 a2)] K = P.sha_engine_uint32_high a0_bits a0_rounds a0_turns_0 a0_turns_1 a0_turns_2 a0_turns_3 a1 a2 (fun r0 => K (.v (.int .u32 r0))) := by
 rw [P.sha_engine_uint32_high_eq]
 kernel_rfl
theorem loops : loopsOf (Tryd.f148.body.getD .skip) = [] := by kernel_rfl
noncomputable def spec0 : Abs.Spec := fun args K => match args with
 | [.agg [.v (.int .i64 a0_bits), .v (.int .i64 a0_rounds), .arr .i64 3 a0_turns_0, .arr .i64 3 a0_turns_1, .arr .i64 3 a0_turns_2, .arr .i64 3 a0_turns_3, .fn (.func 137) [] []], .v (.int .u32 a1), .v (.int .i64 a2)] => P.sha_engine_uint32_high a0_bits a0_rounds a0_turns_0 a0_turns_1 a0_turns_2 a0_turns_3 a1 a2 (fun r0 => K (.v (.int .u32 r0)))
 | _ => none
noncomputable def spec : Abs.Spec := spec0
theorem ok0 : Proved Tryd.prog GLO.gC 148 spec0 := by
 refine proved_of (D := D) (fn := Tryd.f148) (c := Tryd.f148.body.getD .skip) [.any] (by kernel_rfl) (globsPlain_of (by kernel_rfl)) (by kernel_rfl) (by kernel_rfl) (by kernel_rfl) ⟨sha_root256.ok, sha_engine_uint32_rotated.ok, trivial⟩ trivial ?_ ?_
 · rw [loops]; exact trivial
 · intro args K r h
   unfold spec0 at h
   split at h
   · rw [body]; exact h
   · cases h
theorem ok : Proved Tryd.prog GLO.gC 148 spec := ok0
end sha_engine_uint32_high
end

section
open Go Go.Abs Go.Proofs
set_option maxRecDepth 100000
set_option linter.unusedVariables false
namespace sha_engine_uint32_low
noncomputable def D : Ctx := ({ P := Tryd.prog, G := [(137, sha_root256.spec), (157, sha_engine_uint32_rotated.spec)], globs := GLO.gC, hints := [], loops := [], inl := [] } : Ctx)
theorem body (a0_bits : Int) (a0_rounds : Int) (a0_turns_0 : List Int) (a0_turns_1 : List Int) (a0_turns_2 : List Int) (a0_turns_3 : List Int) (a1 : Int) (a2 : Int) (K : AVal → Option R) : bodyA D Tryd.f149 [.any] [.agg [.v (.int .i64 a0_bits), .v (.int .i64 a0_rounds), .arr .i64 3 a0_turns_0, .arr .i64 3 a0_turns_1, .arr .i64 3 a0_turns_2, .arr .i64 3 a0_turns_3, .fn (.func 137) [] []], .v (.int .u32 a1), .v (.int .i64 a2)] K = P.sha_engine_uint32_low a0_bits a0_rounds a0_turns_0 a0_turns_1 a0_turns_2 a0_turns_3 a1 a2 (fun r0 => K (.v (.int .u32 r0))) := by
 rw [P.sha_engine_uint32_low_eq]
 kernel_rfl
theorem loops : loopsOf (Tryd.f149.body.getD .skip) = [] := by kernel_rfl
noncomputable def spec0 : Abs.Spec := fun args K => match args with
 | [.agg [.v (.int .i64 a0_bits), .v (.int .i64 a0_rounds), .arr .i64 3 a0_turns_0, .arr .i64 3 a0_turns_1, .arr .i64 3 a0_turns_2, .arr .i64 3 a0_turns_3, .fn (.func 137) [] []], .v (.int .u32 a1), .v (.int .i64 a2)] => P.sha_engine_uint32_low a0_bits a0_rounds a0_turns_0 a0_turns_1 a0_turns_2 a0_turns_3 a1 a2 (fun r0 => K (.v (.int .u32 r0)))
 | _ => none
noncomputable def spec : Abs.Spec := spec0
theorem ok0 : Proved Tryd.prog GLO.gC 149 spec0 := by
 refine proved_of (D := D) (fn := Tryd.f149) (c := Tryd.f149.body.getD .skip) [.any] (by kernel_rfl) (globsPlain_of (by kernel_rfl)) (by kernel_rfl) (by kernel_rfl) (by kernel_rfl) ⟨sha_root256.ok, sha_engine_uint32_rotated.ok, trivial⟩ trivial ?_ ?_
 · rw [loops]; exact trivial
 · intro args K r h
   unfold spec0 at h
   split at h
   · rw [body]; exact h
   · cases h
theorem ok : Proved Tryd.prog GLO.gC 149 spec := ok0
end sha_engine_uint32_low
end

section
open Go Go.Abs Go.Proofs
set_option maxRecDepth 100000
set_option linter.unusedVariables false
namespace sha_engine_uint32_block
abbrev X4 := (List Int) × Int × Int × Int × Int × (List Int) × (List Int) × (List Int) × (List Int) × (List Int) × (List Int) × (List Int)
def S4 : X4 → ASt := fun (v2, v8, v19, h0_0, h0_1, h0_2, h0_3, h0_4, h0_5, h1_0, h2_0, h3_0) => ⟨[(2, .sl (.ints .u8 v2)), (3, .ptr 0 0), (4, .ptr 1 0), (6, .ptr 2 0), (7, .ptr 3 0), (8, .v (.int .i64 v8)), (19, .v (.int .i64 v19))], [(0, some ⟨.box 153 [.v (.int .i64 h0_0), .v (.int .i64 h0_1), .arr .i64 3 h0_2, .arr .i64 3 h0_3, .arr .i64 3 h0_4, .arr .i64 3 h0_5, .fn (.func 137) [] []], false⟩), (1, some ⟨.box 170 [.arr .u32 8 h1_0], false⟩), (2, some ⟨.box 170 [.arr .u32 8 h2_0], false⟩), (3, some ⟨.box 184 [.arr .u32 16 h3_0], false⟩)], 4, 143⟩
def V4 : ASt → Option X4
 | ⟨[(2, .sl (.ints .u8 v2)), (3, .ptr 0 0), (4, .ptr 1 0), (6, .ptr 2 0), (7, .ptr 3 0), (8, .v (.int .i64 v8)), (19, .v (.int .i64 v19))], [(0, some ⟨.box 153 [.v (.int .i64 h0_0), .v (.int .i64 h0_1), .arr .i64 3 h0_2, .arr .i64 3 h0_3, .arr .i64 3 h0_4, .arr .i64 3 h0_5, .fn (.func 137) [] []], false⟩), (1, some ⟨.box 170 [.arr .u32 8 h1_0], false⟩), (2, some ⟨.box 170 [.arr .u32 8 h2_0], false⟩), (3, some ⟨.box 184 [.arr .u32 16 h3_0], false⟩)], 4, 143⟩ => some (v2, v8, v19, h0_0, h0_1, h0_2, h0_3, h0_4, h0_5, h1_0, h2_0, h3_0)
 | _ => none
theorem V4_ok (st) (x) (h : V4 st = some x) : st = S4 x := by
 unfold V4 at h
 split at h
 · cases h; rfl
 · cases h
abbrev Y4 := X4
noncomputable def T4 : X4 → (X4 → Option R) → (Y4 → Option R) → Option R := fun (v2, v8, v19, h0_0, h0_1, h0_2, h0_3, h0_4, h0_5, h1_0, h2_0, h3_0) next ex => P.sha_engine_uint32_block_r4 v2 v8 v19 h0_0 h0_1 h0_2 h0_3 h0_4 h0_5 h1_0 h2_0 h3_0 (fun v2 v8 v19 h0_0 h0_1 h0_2 h0_3 h0_4 h0_5 h1_0 h2_0 h3_0 => next (v2, v8, v19, h0_0, h0_1, h0_2, h0_3, h0_4, h0_5, h1_0, h2_0, h3_0)) (fun v2 v8 v19 h0_0 h0_1 h0_2 h0_3 h0_4 h0_5 h1_0 h2_0 h3_0 => ex (v2, v8, v19, h0_0, h0_1, h0_2, h0_3, h0_4, h0_5, h1_0, h2_0, h3_0))
abbrev X10 := Int × Int × (List Int) × (List Int) × (List Int) × Int × Int × (List Int) × (List Int) × (List Int) × (List Int) × (List Int)
def S10 : X10 → ASt := fun (v38, v39, h3_0, h2_0, h1_0, h0_0, h0_1, h0_2, h0_3, h0_4, h0_5, h4_0) => ⟨[(3, .ptr 0 0), (4, .ptr 1 0), (6, .ptr 2 0), (7, .ptr 3 0), (10, .ptr 4 0), (38, .v (.int .i64 v38)), (39, .v (.int .i64 v39))], [(3, some ⟨.box 184 [.arr .u32 16 h3_0], false⟩), (2, some ⟨.box 170 [.arr .u32 8 h2_0], false⟩), (1, some ⟨.box 170 [.arr .u32 8 h1_0], false⟩), (0, some ⟨.box 153 [.v (.int .i64 h0_0), .v (.int .i64 h0_1), .arr .i64 3 h0_2, .arr .i64 3 h0_3, .arr .i64 3 h0_4, .arr .i64 3 h0_5, .fn (.func 137) [] []], false⟩), (4, some ⟨.box 170 [.arr .u32 8 h4_0], false⟩)], 5, 143⟩
def V10 : ASt → Option X10
 | ⟨[(3, .ptr 0 0), (4, .ptr 1 0), (6, .ptr 2 0), (7, .ptr 3 0), (10, .ptr 4 0), (38, .v (.int .i64 v38)), (39, .v (.int .i64 v39))], [(3, some ⟨.box 184 [.arr .u32 16 h3_0], false⟩), (2, some ⟨.box 170 [.arr .u32 8 h2_0], false⟩), (1, some ⟨.box 170 [.arr .u32 8 h1_0], false⟩), (0, some ⟨.box 153 [.v (.int .i64 h0_0), .v (.int .i64 h0_1), .arr .i64 3 h0_2, .arr .i64 3 h0_3, .arr .i64 3 h0_4, .arr .i64 3 h0_5, .fn (.func 137) [] []], false⟩), (4, some ⟨.box 170 [.arr .u32 8 h4_0], false⟩)], 5, 143⟩ => some (v38, v39, h3_0, h2_0, h1_0, h0_0, h0_1, h0_2, h0_3, h0_4, h0_5, h4_0)
 | _ => none
theorem V10_ok (st) (x) (h : V10 st = some x) : st = S10 x := by
 unfold V10 at h
 split at h
 · cases h; rfl
 · cases h
abbrev Y10 := X10
noncomputable def T10 : X10 → (X10 → Option R) → (Y10 → Option R) → Option R := fun (v38, v39, h3_0, h2_0, h1_0, h0_0, h0_1, h0_2, h0_3, h0_4, h0_5, h4_0) next ex => P.sha_engine_uint32_block_r10 v38 v39 h3_0 h2_0 h1_0 h0_0 h0_1 h0_2 h0_3 h0_4 h0_5 h4_0 (fun v38 v39 h3_0 h2_0 h1_0 h0_0 h0_1 h0_2 h0_3 h0_4 h0_5 h4_0 => next (v38, v39, h3_0, h2_0, h1_0, h0_0, h0_1, h0_2, h0_3, h0_4, h0_5, h4_0)) (fun v38 v39 h3_0 h2_0 h1_0 h0_0 h0_1 h0_2 h0_3 h0_4 h0_5 h4_0 => ex (v38, v39, h3_0, h2_0, h1_0, h0_0, h0_1, h0_2, h0_3, h0_4, h0_5, h4_0))
abbrev X21 := Int × (List Int) × (List Int) × (List Int)
def S21 : X21 → ASt := fun (v130, h1_0, h2_0, h4_0) => ⟨[(4, .ptr 1 0), (6, .ptr 2 0), (10, .ptr 4 0), (130, .v (.int .i64 v130))], [(1, some ⟨.box 170 [.arr .u32 8 h1_0], false⟩), (2, some ⟨.box 170 [.arr .u32 8 h2_0], false⟩), (4, some ⟨.box 170 [.arr .u32 8 h4_0], false⟩)], 120, 143⟩
def V21 : ASt → Option X21
 | ⟨[(4, .ptr 1 0), (6, .ptr 2 0), (10, .ptr 4 0), (130, .v (.int .i64 v130))], [(1, some ⟨.box 170 [.arr .u32 8 h1_0], false⟩), (2, some ⟨.box 170 [.arr .u32 8 h2_0], false⟩), (4, some ⟨.box 170 [.arr .u32 8 h4_0], false⟩)], 120, 143⟩ => some (v130, h1_0, h2_0, h4_0)
 | _ => none
theorem V21_ok (st) (x) (h : V21 st = some x) : st = S21 x := by
 unfold V21 at h
 split at h
 · cases h; rfl
 · cases h
abbrev Y21 := X21
noncomputable def T21 : X21 → (X21 → Option R) → (Y21 → Option R) → Option R := fun (v130, h1_0, h2_0, h4_0) next ex => P.sha_engine_uint32_block_r21 v130 h1_0 h2_0 h4_0 (fun v130 h1_0 h2_0 h4_0 => next (v130, h1_0, h2_0, h4_0)) (fun v130 h1_0 h2_0 h4_0 => ex (v130, h1_0, h2_0, h4_0))
def E4 (K : AExit → ASt → Option R) : Y4 → Option R := (fun x => K (.exit 0) (S4 x))
noncomputable def L4 : LSpec := fun st K => vMap (V4 st) fun (v2, v8, v19, h0_0, h0_1, h0_2, h0_3, h0_4, h0_5, h1_0, h2_0, h3_0) => P.sha_engine_uint32_block_l4 v2 v8 v19 h0_0 h0_1 h0_2 h0_3 h0_4 h0_5 h1_0 h2_0 h3_0 (fun v2 v8 v19 h0_0 h0_1 h0_2 h0_3 h0_4 h0_5 h1_0 h2_0 h3_0 => K (.exit 0) (S4 (v2, v8, v19, h0_0, h0_1, h0_2, h0_3, h0_4, h0_5, h1_0, h2_0, h3_0)))
def E10 (K : AExit → ASt → Option R) : Y10 → Option R := (fun x => K (.exit 2) (S10 x))
noncomputable def L10 : LSpec := fun st K => vMap (V10 st) fun (v38, v39, h3_0, h2_0, h1_0, h0_0, h0_1, h0_2, h0_3, h0_4, h0_5, h4_0) => P.sha_engine_uint32_block_l10 v38 v39 h3_0 h2_0 h1_0 h0_0 h0_1 h0_2 h0_3 h0_4 h0_5 h4_0 (fun v38 v39 h3_0 h2_0 h1_0 h0_0 h0_1 h0_2 h0_3 h0_4 h0_5 h4_0 => K (.exit 2) (S10 (v38, v39, h3_0, h2_0, h1_0, h0_0, h0_1, h0_2, h0_3, h0_4, h0_5, h4_0)))
def E21 (K : AExit → ASt → Option R) : Y21 → Option R := (fun x => K (.exit 4) (S21 x))
noncomputable def L21 : LSpec := fun st K => vMap (V21 st) fun (v130, h1_0, h2_0, h4_0) => P.sha_engine_uint32_block_l21 v130 h1_0 h2_0 h4_0 (fun v130 h1_0 h2_0 h4_0 => K (.exit 4) (S21 (v130, h1_0, h2_0, h4_0)))
noncomputable def D : Ctx := ({ P := Tryd.prog, G := [(134, bits_Num.spec), (137, sha_root256.spec), (148, sha_engine_uint32_high.spec), (149, sha_engine_uint32_low.spec)], globs := GLO.gC, hints := [(21, ⟨[4, 6, 10, 130], [], [6], [], some (120, [1, 2, 4]), []⟩), (10, ⟨[3, 4, 6, 7, 10, 38, 39], [], [6], [], none, []⟩), (4, ⟨[2, 3, 4, 6, 7, 8, 19], [], [6], [], none, []⟩)], loops := [(4, L4), (10, L10), (21, L21)], inl := [] } : Ctx)
theorem round4 (K) (next) (x) : roundA D (loopAt Tryd.f136 4) K next (S4 x) = T4 x (fun x => next (S4 x)) (E4 K) := by kernel_rfl
theorem lq4 (st) (K) : L4 st K = vMap (V4 st) (fun x => lp T4 x (E4 K)) := by
 unfold L4
 cases V4 st with
 | none => rfl
 | some x => rw [P.sha_engine_uint32_block_l4_eq]; kernel_rfl
theorem loop4 : LoopOk D (loopAt Tryd.f136 4) := loopOk_lp S4 V4_ok (by kernel_rfl) lq4 round4
theorem round10 (K) (next) (x) : roundA D (loopAt Tryd.f136 10) K next (S10 x) = T10 x (fun x => next (S10 x)) (E10 K) := by kernel_rfl
theorem lq10 (st) (K) : L10 st K = vMap (V10 st) (fun x => lp T10 x (E10 K)) := by
 unfold L10
 cases V10 st with
 | none => rfl
 | some x => rw [P.sha_engine_uint32_block_l10_eq]; kernel_rfl
theorem loop10 : LoopOk D (loopAt Tryd.f136 10) := loopOk_lp S10 V10_ok (by kernel_rfl) lq10 round10
theorem round21 (K) (next) (x) : roundA D (loopAt Tryd.f136 21) K next (S21 x) = T21 x (fun x => next (S21 x)) (E21 K) := by kernel_rfl
theorem lq21 (st) (K) : L21 st K = vMap (V21 st) (fun x => lp T21 x (E21 K)) := by
 unfold L21
 cases V21 st with
 | none => rfl
 | some x => rw [P.sha_engine_uint32_block_l21_eq]; kernel_rfl
theorem loop21 : LoopOk D (loopAt Tryd.f136 21) := loopOk_lp S21 V21_ok (by kernel_rfl) lq21 round21
theorem body (a0_bits : Int) (a0_rounds : Int) (a0_turns_0 : List Int) (a0_turns_1 : List Int) (a0_turns_2 : List Int) (a0_turns_3 : List Int) (a1 : List Int) (a2 : List Int) (K : AVal → Option R) : bodyA D Tryd.f136 [.any] [.agg [.v (.int .i64 a0_bits), .v (.int .i64 a0_rounds), .arr .i64 3 a0_turns_0, .arr .i64 3 a0_turns_1, .arr .i64 3 a0_turns_2, .arr .i64 3 a0_turns_3, .fn (.func 137) [] []], .arr .u32 8 a1, .sl (.ints .u8 a2)] K = P.sha_engine_uint32_block a0_bits a0_rounds a0_turns_0 a0_turns_1 a0_turns_2 a0_turns_3 a1 a2 (fun r0 => K (.arr .u32 8 r0)) := by
 rw [P.sha_engine_uint32_block_eq]
 kernel_rfl
theorem loops : loopsOf (Tryd.f136.body.getD .skip) = [loopAt Tryd.f136 4, loopAt Tryd.f136 10, loopAt Tryd.f136 21] := by kernel_rfl
noncomputable def spec0 : Abs.Spec := fun args K => match args with
 | [.agg [.v (.int .i64 a0_bits), .v (.int .i64 a0_rounds), .arr .i64 3 a0_turns_0, .arr .i64 3 a0_turns_1, .arr .i64 3 a0_turns_2, .arr .i64 3 a0_turns_3, .fn (.func 137) [] []], .arr .u32 8 a1, .sl (.ints .u8 a2)] => P.sha_engine_uint32_block a0_bits a0_rounds a0_turns_0 a0_turns_1 a0_turns_2 a0_turns_3 a1 a2 (fun r0 => K (.arr .u32 8 r0))
 | _ => none
noncomputable def spec : Abs.Spec := fun args K => spec0 (coerL [.any, .any, .sl (.ints .u8 [])] args) K
theorem ok0 : Proved Tryd.prog GLO.gC 136 spec0 := by
 refine proved_of (D := D) (fn := Tryd.f136) (c := Tryd.f136.body.getD .skip) [.any] (by kernel_rfl) (globsPlain_of (by kernel_rfl)) (by kernel_rfl) (by kernel_rfl) (by kernel_rfl) ⟨bits_Num.ok, sha_root256.ok, sha_engine_uint32_high.ok, sha_engine_uint32_low.ok, trivial⟩ trivial ?_ ?_
 · rw [loops]; exact ⟨loop4, loop10, loop21, trivial⟩
 · intro args K r h
   unfold spec0 at h
   split at h
   · rw [body]; exact h
   · cases h
theorem ok : Proved Tryd.prog GLO.gC 136 spec := proved_coer _ ok0
end sha_engine_uint32_block
end

section
open Go Go.Abs Go.Proofs
set_option maxRecDepth 100000
set_option linter.unusedVariables false
namespace sha_through_uint32
abbrev X3 := (List Int) × (List Int) × Int × Int × Int × (List Int) × (List Int) × (List Int) × (List Int) × (List Int) × (List Int) × (List Int)
def S3 : X3 → ASt := fun (v2, v14, v15, h0_0, h0_1, h0_2, h0_3, h0_4, h0_5, h1_0, h2_0, h3_0) => ⟨[(2, .sl (.ints .u8 v2)), (3, .ptr 0 0), (4, .ptr 1 0), (6, .ptr 2 0), (8, .ptr 3 0), (14, .arr .u64 8 v14), (15, .v (.int .i64 v15))], [(0, some ⟨.box 153 [.v (.int .i64 h0_0), .v (.int .i64 h0_1), .arr .i64 3 h0_2, .arr .i64 3 h0_3, .arr .i64 3 h0_4, .arr .i64 3 h0_5, .fn (.func 137) [] []], false⟩), (1, some ⟨.box 114 [.arr .u64 8 h1_0], false⟩), (2, some ⟨.box 114 [.arr .u64 8 h2_0], false⟩), (3, some ⟨.box 170 [.arr .u32 8 h3_0], false⟩)], 4, 52⟩
def V3 : ASt → Option X3
 | ⟨[(2, .sl (.ints .u8 v2)), (3, .ptr 0 0), (4, .ptr 1 0), (6, .ptr 2 0), (8, .ptr 3 0), (14, .arr .u64 8 v14), (15, .v (.int .i64 v15))], [(0, some ⟨.box 153 [.v (.int .i64 h0_0), .v (.int .i64 h0_1), .arr .i64 3 h0_2, .arr .i64 3 h0_3, .arr .i64 3 h0_4, .arr .i64 3 h0_5, .fn (.func 137) [] []], false⟩), (1, some ⟨.box 114 [.arr .u64 8 h1_0], false⟩), (2, some ⟨.box 114 [.arr .u64 8 h2_0], false⟩), (3, some ⟨.box 170 [.arr .u32 8 h3_0], false⟩)], 4, 52⟩ => some (v2, v14, v15, h0_0, h0_1, h0_2, h0_3, h0_4, h0_5, h1_0, h2_0, h3_0)
 | _ => none
theorem V3_ok (st) (x) (h : V3 st = some x) : st = S3 x := by
 unfold V3 at h
 split at h
 · cases h; rfl
 · cases h
abbrev Y3 := X3
noncomputable def T3 : X3 → (X3 → Option R) → (Y3 → Option R) → Option R := fun (v2, v14, v15, h0_0, h0_1, h0_2, h0_3, h0_4, h0_5, h1_0, h2_0, h3_0) next ex => P.sha_through_uint32_r3 v2 v14 v15 h0_0 h0_1 h0_2 h0_3 h0_4 h0_5 h1_0 h2_0 h3_0 (fun v2 v14 v15 h0_0 h0_1 h0_2 h0_3 h0_4 h0_5 h1_0 h2_0 h3_0 => next (v2, v14, v15, h0_0, h0_1, h0_2, h0_3, h0_4, h0_5, h1_0, h2_0, h3_0)) (fun v2 v14 v15 h0_0 h0_1 h0_2 h0_3 h0_4 h0_5 h1_0 h2_0 h3_0 => ex (v2, v14, v15, h0_0, h0_1, h0_2, h0_3, h0_4, h0_5, h1_0, h2_0, h3_0))
abbrev X8 := (List Int) × Int × (List Int) × (List Int) × (List Int) × Int × Int × (List Int) × (List Int) × (List Int) × (List Int)
def S8 : X8 → ASt := fun (v2, v11, h3_0, h2_0, h1_0, h0_0, h0_1, h0_2, h0_3, h0_4, h0_5) => ⟨[(2, .sl (.ints .u8 v2)), (3, .ptr 0 0), (4, .ptr 1 0), (6, .ptr 2 0), (8, .ptr 3 0), (11, .v (.int .i64 v11))], [(3, some ⟨.box 170 [.arr .u32 8 h3_0], false⟩), (2, some ⟨.box 114 [.arr .u64 8 h2_0], false⟩), (1, some ⟨.box 114 [.arr .u64 8 h1_0], false⟩), (0, some ⟨.box 153 [.v (.int .i64 h0_0), .v (.int .i64 h0_1), .arr .i64 3 h0_2, .arr .i64 3 h0_3, .arr .i64 3 h0_4, .arr .i64 3 h0_5, .fn (.func 137) [] []], false⟩)], 4, 52⟩
def V8 : ASt → Option X8
 | ⟨[(2, .sl (.ints .u8 v2)), (3, .ptr 0 0), (4, .ptr 1 0), (6, .ptr 2 0), (8, .ptr 3 0), (11, .v (.int .i64 v11))], [(3, some ⟨.box 170 [.arr .u32 8 h3_0], false⟩), (2, some ⟨.box 114 [.arr .u64 8 h2_0], false⟩), (1, some ⟨.box 114 [.arr .u64 8 h1_0], false⟩), (0, some ⟨.box 153 [.v (.int .i64 h0_0), .v (.int .i64 h0_1), .arr .i64 3 h0_2, .arr .i64 3 h0_3, .arr .i64 3 h0_4, .arr .i64 3 h0_5, .fn (.func 137) [] []], false⟩)], 4, 52⟩ => some (v2, v11, h3_0, h2_0, h1_0, h0_0, h0_1, h0_2, h0_3, h0_4, h0_5)
 | _ => none
theorem V8_ok (st) (x) (h : V8 st = some x) : st = S8 x := by
 unfold V8 at h
 split at h
 · cases h; rfl
 · cases h
abbrev Y8 := X8
noncomputable def T8 : X8 → (X8 → Option R) → (Y8 → Option R) → Option R := fun (v2, v11, h3_0, h2_0, h1_0, h0_0, h0_1, h0_2, h0_3, h0_4, h0_5) next ex => P.sha_through_uint32_r8 v2 v11 h3_0 h2_0 h1_0 h0_0 h0_1 h0_2 h0_3 h0_4 h0_5 (fun v2 v11 h3_0 h2_0 h1_0 h0_0 h0_1 h0_2 h0_3 h0_4 h0_5 => next (v2, v11, h3_0, h2_0, h1_0, h0_0, h0_1, h0_2, h0_3, h0_4, h0_5)) (fun v2 v11 h3_0 h2_0 h1_0 h0_0 h0_1 h0_2 h0_3 h0_4 h0_5 => ex (v2, v11, h3_0, h2_0, h1_0, h0_0, h0_1, h0_2, h0_3, h0_4, h0_5))
abbrev X12 := (List Int) × (List Int) × Int × (List Int) × (List Int)
def S12 : X12 → ASt := fun (v2, v40, v41, h1_0, h2_0) => ⟨[(2, .sl (.ints .u8 v2)), (4, .ptr 1 0), (6, .ptr 2 0), (40, .arr .u32 8 v40), (41, .v (.int .i64 v41))], [(1, some ⟨.box 114 [.arr .u64 8 h1_0], false⟩), (2, some ⟨.box 114 [.arr .u64 8 h2_0], false⟩)], 120, 52⟩
def V12 : ASt → Option X12
 | ⟨[(2, .sl (.ints .u8 v2)), (4, .ptr 1 0), (6, .ptr 2 0), (40, .arr .u32 8 v40), (41, .v (.int .i64 v41))], [(1, some ⟨.box 114 [.arr .u64 8 h1_0], false⟩), (2, some ⟨.box 114 [.arr .u64 8 h2_0], false⟩)], 120, 52⟩ => some (v2, v40, v41, h1_0, h2_0)
 | _ => none
theorem V12_ok (st) (x) (h : V12 st = some x) : st = S12 x := by
 unfold V12 at h
 split at h
 · cases h; rfl
 · cases h
abbrev Y12 := X12
noncomputable def T12 : X12 → (X12 → Option R) → (Y12 → Option R) → Option R := fun (v2, v40, v41, h1_0, h2_0) next ex => P.sha_through_uint32_r12 v2 v40 v41 h1_0 h2_0 (fun v2 v40 v41 h1_0 h2_0 => next (v2, v40, v41, h1_0, h2_0)) (fun v2 v40 v41 h1_0 h2_0 => ex (v2, v40, v41, h1_0, h2_0))
def E3 (K : AExit → ASt → Option R) : Y3 → Option R := (fun x => K (.exit 0) (S3 x))
noncomputable def L3 : LSpec := fun st K => vMap (V3 st) fun (v2, v14, v15, h0_0, h0_1, h0_2, h0_3, h0_4, h0_5, h1_0, h2_0, h3_0) => P.sha_through_uint32_l3 v2 v14 v15 h0_0 h0_1 h0_2 h0_3 h0_4 h0_5 h1_0 h2_0 h3_0 (fun v2 v14 v15 h0_0 h0_1 h0_2 h0_3 h0_4 h0_5 h1_0 h2_0 h3_0 => K (.exit 0) (S3 (v2, v14, v15, h0_0, h0_1, h0_2, h0_3, h0_4, h0_5, h1_0, h2_0, h3_0)))
def E8 (K : AExit → ASt → Option R) : Y8 → Option R := (fun x => K (.exit 2) (S8 x))
noncomputable def L8 : LSpec := fun st K => vMap (V8 st) fun (v2, v11, h3_0, h2_0, h1_0, h0_0, h0_1, h0_2, h0_3, h0_4, h0_5) => P.sha_through_uint32_l8 v2 v11 h3_0 h2_0 h1_0 h0_0 h0_1 h0_2 h0_3 h0_4 h0_5 (fun v2 v11 h3_0 h2_0 h1_0 h0_0 h0_1 h0_2 h0_3 h0_4 h0_5 => K (.exit 2) (S8 (v2, v11, h3_0, h2_0, h1_0, h0_0, h0_1, h0_2, h0_3, h0_4, h0_5)))
def E12 (K : AExit → ASt → Option R) : Y12 → Option R := (fun x => K (.exit 4) (S12 x))
noncomputable def L12 : LSpec := fun st K => vMap (V12 st) fun (v2, v40, v41, h1_0, h2_0) => P.sha_through_uint32_l12 v2 v40 v41 h1_0 h2_0 (fun v2 v40 v41 h1_0 h2_0 => K (.exit 4) (S12 (v2, v40, v41, h1_0, h2_0)))
noncomputable def D : Ctx := ({ P := Tryd.prog, G := [(136, sha_engine_uint32_block.spec), (137, sha_root256.spec)], globs := GLO.gC, hints := [(12, ⟨[2, 4, 6, 40, 41], [], [6, 7], [], some (120, [1, 2]), []⟩), (8, ⟨[2, 3, 4, 6, 8, 11], [], [6, 7], [(2, .sl (.ints .u8 []))], none, []⟩), (3, ⟨[2, 3, 4, 6, 8, 14, 15], [], [6, 7], [], none, []⟩)], loops := [(3, L3), (8, L8), (12, L12)], inl := [] } : Ctx)
theorem round3 (K) (next) (x) : roundA D (loopAt Tryd.f117 3) K next (S3 x) = T3 x (fun x => next (S3 x)) (E3 K) := by kernel_rfl
theorem lq3 (st) (K) : L3 st K = vMap (V3 st) (fun x => lp T3 x (E3 K)) := by
 unfold L3
 cases V3 st with
 | none => rfl
 | some x => rw [P.sha_through_uint32_l3_eq]; kernel_rfl
theorem loop3 : LoopOk D (loopAt Tryd.f117 3) := loopOk_lp S3 V3_ok (by kernel_rfl) lq3 round3
theorem round8 (K) (next) (x) : roundA D (loopAt Tryd.f117 8) K next (S8 x) = T8 x (fun x => next (S8 x)) (E8 K) := by kernel_rfl
theorem lq8 (st) (K) : L8 st K = vMap (V8 st) (fun x => lp T8 x (E8 K)) := by
 unfold L8
 cases V8 st with
 | none => rfl
 | some x => rw [P.sha_through_uint32_l8_eq]; kernel_rfl
theorem loop8 : LoopOk D (loopAt Tryd.f117 8) := loopOk_lp S8 V8_ok (by kernel_rfl) lq8 round8
theorem round12 (K) (next) (x) : roundA D (loopAt Tryd.f117 12) K next (S12 x) = T12 x (fun x => next (S12 x)) (E12 K) := by kernel_rfl
theorem lq12 (st) (K) : L12 st K = vMap (V12 st) (fun x => lp T12 x (E12 K)) := by
 unfold L12
 cases V12 st with
 | none => rfl
 | some x => rw [P.sha_through_uint32_l12_eq]; kernel_rfl
theorem loop12 : LoopOk D (loopAt Tryd.f117 12) := loopOk_lp S12 V12_ok (by kernel_rfl) lq12 round12
theorem body (a0_bits : Int) (a0_rounds : Int) (a0_turns_0 : List Int) (a0_turns_1 : List Int) (a0_turns_2 : List Int) (a0_turns_3 : List Int) (a1 : List Int) (a2 : List Int) (K : AVal → Option R) : bodyA D Tryd.f117 [.any, .sl (.ints .u8 [])] [.agg [.v (.int .i64 a0_bits), .v (.int .i64 a0_rounds), .arr .i64 3 a0_turns_0, .arr .i64 3 a0_turns_1, .arr .i64 3 a0_turns_2, .arr .i64 3 a0_turns_3, .fn (.func 137) [] []], .arr .u64 8 a1, .sl (.ints .u8 a2)] K = P.sha_through_uint32 a0_bits a0_rounds a0_turns_0 a0_turns_1 a0_turns_2 a0_turns_3 a1 a2 (fun r0 r1 => K (.tuple [.arr .u64 8 r0, .sl (.ints .u8 r1)])) := by
 rw [P.sha_through_uint32_eq]
 kernel_rfl
theorem loops : loopsOf (Tryd.f117.body.getD .skip) = [loopAt Tryd.f117 3, loopAt Tryd.f117 8, loopAt Tryd.f117 12] := by kernel_rfl
noncomputable def spec0 : Abs.Spec := fun args K => match args with
 | [.agg [.v (.int .i64 a0_bits), .v (.int .i64 a0_rounds), .arr .i64 3 a0_turns_0, .arr .i64 3 a0_turns_1, .arr .i64 3 a0_turns_2, .arr .i64 3 a0_turns_3, .fn (.func 137) [] []], .arr .u64 8 a1, .sl (.ints .u8 a2)] => P.sha_through_uint32 a0_bits a0_rounds a0_turns_0 a0_turns_1 a0_turns_2 a0_turns_3 a1 a2 (fun r0 r1 => K (.tuple [.arr .u64 8 r0, .sl (.ints .u8 r1)]))
 | _ => none
noncomputable def spec : Abs.Spec := fun args K => spec0 (coerL [.any, .any, .sl (.ints .u8 [])] args) K
theorem ok0 : Proved Tryd.prog GLO.gC 117 spec0 := by
 refine proved_of (D := D) (fn := Tryd.f117) (c := Tryd.f117.body.getD .skip) [.any, .sl (.ints .u8 [])] (by kernel_rfl) (globsPlain_of (by kernel_rfl)) (by kernel_rfl) (by kernel_rfl) (by kernel_rfl) ⟨sha_engine_uint32_block.ok, sha_root256.ok, trivial⟩ trivial ?_ ?_
 · rw [loops]; exact ⟨loop3, loop8, loop12, trivial⟩
 · intro args K r h
   unfold spec0 at h
   split at h
   · rw [body]; exact h
   · cases h
theorem ok : Proved Tryd.prog GLO.gC 117 spec := proved_coer _ ok0
end sha_through_uint32
end

section
open Go Go.Abs Go.Proofs
set_option maxRecDepth 100000
set_option linter.unusedVariables false
namespace sha_engine_uint64_rotated
noncomputable def D : Ctx := ({ P := Tryd.prog, G := [(139, sha_root512.spec)], globs := GLO.gC, hints := [], loops := [], inl := [] } : Ctx)
theorem body (a0_bits : Int) (a0_rounds : Int) (a0_turns_0 : List Int) (a0_turns_1 : List Int) (a0_turns_2 : List Int) (a0_turns_3 : List Int) (a1 : Int) (a2 : Int) (K : AVal → Option R) : bodyA D Tryd.f158 [.any] [.agg [.v (.int .i64 a0_bits), .v (.int .i64 a0_rounds), .arr .i64 3 a0_turns_0, .arr .i64 3 a0_turns_1, .arr .i64 3 a0_turns_2, .arr .i64 3 a0_turns_3, .fn (.func 139) [] []], .v (.int .u64 a1), .v (.int .i64 a2)] K = P.sha_engine_uint64_rotated a0_bits a0_rounds a0_turns_0 a0_turns_1 a0_turns_2 a0_turns_3 a1 a2 (fun r0 => K (.v (.int .u64 r0))) := by
 rw [P.sha_engine_uint64_rotated_eq]
 kernel_rfl
theorem loops : loopsOf (Tryd.f158.body.getD .skip) = [] := by kernel_rfl
noncomputable def spec0 : Abs.Spec := fun args K => match args with
 | [.agg [.v (.int .i64 a0_bits), .v (.int .i64 a0_rounds), .arr .i64 3 a0_turns_0, .arr .i64 3 a0_turns_1, .arr .i64 3 a0_turns_2, .arr .i64 3 a0_turns_3, .fn (.func 139) [] []], .v (.int .u64 a1), .v (.int .i64 a2)] => P.sha_engine_uint64_rotated a0_bits a0_rounds a0_turns_0 a0_turns_1 a0_turns_2 a0_turns_3 a1 a2 (fun r0 => K (.v (.int .u64 r0)))
 | _ => none
noncomputable def spec : Abs.Spec := spec0
theorem ok0 : Proved Tryd.prog GLO.gC 158 spec0 := by
 refine proved_of (D := D) (fn := Tryd.f158) (c := Tryd.f158.body.getD .skip) [.any] (by kernel_rfl) (globsPlain_of (by kernel_rfl)) (by kernel_rfl) (by kernel_rfl) (by kernel_rfl) ⟨sha_root512.ok, trivial⟩ trivial ?_ ?_
 · rw [loops]; exact trivial
 · intro args K r h
   unfold spec0 at h
   split at h
   · rw [body]; exact h
   · cases h
theorem ok : Proved Tryd.prog GLO.gC 158 spec := ok0
end sha_engine_uint64_rotated
end

section
open Go Go.Abs Go.Proofs
set_option maxRecDepth 100000
set_option linter.unusedVariables false
namespace sha_engine_uint64_high
noncomputable def D : Ctx := ({ P := Tryd.prog, G := [(139, sha_root512.spec), (158, sha_engine_uint64_rotated.spec)], globs := GLO.gC, hints := [], loops := [], inl := [] } : Ctx)
theorem body (a0_bits : Int) (a0_rounds : Int) (a0_turns_0 : List Int) (a0_turns_1 : List Int) (a0_turns_2 : List Int) (a0_turns_3 : List Int) (a1 : Int) (a2 : Int) (K : AVal → Option R) : bodyA D Tryd.f150 [.any] [.agg [.v (.int .i64 a0_bits), .v (.int .i64 a0_rounds), .arr .i64 3 a0_turns_0, .arr .i64 3 a0_turns_1, .arr .i64 3 a0_turns_2, .arr .i64 3 a0_turns_3, .fn (.func 139) [] []], .v (.int .u64 a1), .v (.int .i64 a2)] K = P.sha_engine_uint64_high a0_bits a0_rounds a0_turns_0 a0_turns_1 a0_turns_2 a0_turns_3 a1 a2 (fun r0 => K (.v (.int .u64 r0))) := by
 rw [P.sha_engine_uint64_high_eq]
 kernel_rfl
theorem loops : loopsOf (Tryd.f150.body.getD .skip) = [] := by kernel_rfl
noncomputable def spec0 : Abs.Spec := fun args K => match args with
 | [.agg [.v (.int .i64 a0_bits), .v (.int .i64 a0_rounds), .arr .i64 3 a0_turns_0, .arr .i64 3 a0_turns_1, .arr .i64 3 a0_turns_2, .arr .i64 3 a0_turns_3, .fn (.func 139) [] []], .v (.int .u64 a1), .v (.int .i64 a2)] => P.sha_engine_uint64_high a0_bits a0_rounds a0_turns_0 a0_turns_1 a0_turns_2 a0_turns_3 a1 a2 (fun r0 => K (.v (.int .u64 r0)))
 | _ => none
noncomputable def spec : Abs.Spec := spec0
theorem ok0 : Proved Tryd.prog GLO.gC 150 spec0 := by
 refine proved_of (D := D) (fn := Tryd.f150) (c := Tryd.f150.body.getD .skip) [.any] (by kernel_rfl) (globsPlain_of (by kernel_rfl)) (by kernel_rfl) (by kernel_rfl) (by kernel_rfl) ⟨sha_root512.ok, sha_engine_uint64_rotated.ok, trivial⟩ trivial ?_ ?_
 · rw [loops]; exact trivial
 · intro args K r h
   unfold spec0 at h
   split at h
   · rw [body]; exact h
   · cases h
theorem ok : Proved Tryd.prog GLO.gC 150 spec := ok0
end sha_engine_uint64_high
end

section
open Go Go.Abs Go.Proofs
set_option maxRecDepth 100000
set_option linter.unusedVariables false
namespace sha_engine_uint64_low
noncomputable def D : Ctx := ({ P := Tryd.prog, G := [(139, sha_root512.spec), (158, sha_engine_uint64_rotated.spec)], globs := GLO.gC, hints := [], loops := [], inl := [] } : Ctx)
theorem body (a0_bits : Int) (a0_rounds : Int) (a0_turns_0 : List Int) (a0_turns_1 : List Int) (a0_turns_2 : List Int) (a0_turns_3 : List Int) (a1 : Int) (a2 : Int) (K : AVal → Option R) : bodyA D Tryd.f151 [.any] [.agg [.v (.int .i64 a0_bits), .v (.int .i64 a0_rounds), .arr .i64 3 a0_turns_0, .arr .i64 3 a0_turns_1, .arr .i64 3 a0_turns_2, .arr .i64 3 a0_turns_3, .fn (.func 139) [] []], .v (.int .u64 a1), .v (.int .i64 a2)] K = P.sha_engine_uint64_low a0_bits a0_rounds a0_turns_0 a0_turns_1 a0_turns_2 a0_turns_3 a1 a2 (fun r0 => K (.v (.int .u64 r0))) := by
 rw [P.sha_engine_uint64_low_eq]
 kernel_rfl
theorem loops : loopsOf (Tryd.f151.body.getD .skip) = [] := by kernel_rfl
noncomputable def spec0 : Abs.Spec := fun args K => match args with
 | [.agg [.v (.int .i64 a0_bits), .v (.int .i64 a0_rounds), .arr .i64 3 a0_turns_0, .arr .i64 3 a0_turns_1, .arr .i64 3 a0_turns_2, .arr .i64 3 a0_turns_3, .fn (.func 139) [] []], .v (.int .u64 a1), .v (.int .i64 a2)] => P.sha_engine_uint64_low a0_bits a0_rounds a0_turns_0 a0_turns_1 a0_turns_2 a0_turns_3 a1 a2 (fun r0 => K (.v (.int .u64 r0)))
 | _ => none
noncomputable def spec : Abs.Spec := spec0
theorem ok0 : Proved Tryd.prog GLO.gC 151 spec0 := by
 refine proved_of (D := D) (fn := Tryd.f151) (c := Tryd.f151.body.getD .skip) [.any] (by kernel_rfl) (globsPlain_of (by kernel_rfl)) (by kernel_rfl) (by kernel_rfl) (by kernel_rfl) ⟨sha_root512.ok, sha_engine_uint64_rotated.ok, trivial⟩ trivial ?_ ?_
 · rw [loops]; exact trivial
 · intro args K r h
   unfold spec0 at h
   split at h
   · rw [body]; exact h
   · cases h
theorem ok : Proved Tryd.prog GLO.gC 151 spec := ok0
end sha_engine_uint64_low
end

section
open Go Go.Abs Go.Proofs
set_option maxRecDepth 100000
set_option linter.unusedVariables false
namespace sha_engine_uint64_block
abbrev X4 := (List Int) × Int × Int × Int × Int × (List Int) × (List Int) × (List Int) × (List Int) × (List Int) × (List Int) × (List Int)
def S4 : X4 → ASt := fun (v2, v8, v19, h0_0, h0_1, h0_2, h0_3, h0_4, h0_5, h1_0, h2_0, h3_0) => ⟨[(2, .sl (.ints .u8 v2)), (3, .ptr 0 0), (4, .ptr 1 0), (6, .ptr 2 0), (7, .ptr 3 0), (8, .v (.int .i64 v8)), (19, .v (.int .i64 v19))], [(0, some ⟨.box 158 [.v (.int .i64 h0_0), .v (.int .i64 h0_1), .arr .i64 3 h0_2, .arr .i64 3 h0_3, .arr .i64 3 h0_4, .arr .i64 3 h0_5, .fn (.func 139) [] []], false⟩), (1, some ⟨.box 114 [.arr .u64 8 h1_0], false⟩), (2, some ⟨.box 114 [.arr .u64 8 h2_0], false⟩), (3, some ⟨.box 187 [.arr .u64 16 h3_0], false⟩)], 4, 142⟩
def V4 : ASt → Option X4
 | ⟨[(2, .sl (.ints .u8 v2)), (3, .ptr 0 0), (4, .ptr 1 0), (6, .ptr 2 0), (7, .ptr 3 0), (8, .v (.int .i64 v8)), (19, .v (.int .i64 v19))], [(0, some ⟨.box 158 [.v (.int .i64 h0_0), .v (.int .i64 h0_1), .arr .i64 3 h0_2, .arr .i64 3 h0_3, .arr .i64 3 h0_4, .arr .i64 3 h0_5, .fn (.func 139) [] []], false⟩), (1, some ⟨.box 114 [.arr .u64 8 h1_0], false⟩), (2, some ⟨.box 114 [.arr .u64 8 h2_0], false⟩), (3, some ⟨.box 187 [.arr .u64 16 h3_0], false⟩)], 4, 142⟩ => some (v2, v8, v19, h0_0, h0_1, h0_2, h0_3, h0_4, h0_5, h1_0, h2_0, h3_0)
 | _ => none
theorem V4_ok (st) (x) (h : V4 st = some x) : st = S4 x := by
 unfold V4 at h
 split at h
 · cases h; rfl
 · cases h
abbrev Y4 := X4
noncomputable def T4 : X4 → (X4 → Option R) → (Y4 → Option R) → Option R := fun (v2, v8, v19, h0_0, h0_1, h0_2, h0_3, h0_4, h0_5, h1_0, h2_0, h3_0) next ex => P.sha_engine_uint64_block_r4 v2 v8 v19 h0_0 h0_1 h0_2 h0_3 h0_4 h0_5 h1_0 h2_0 h3_0 (fun v2 v8 v19 h0_0 h0_1 h0_2 h0_3 h0_4 h0_5 h1_0 h2_0 h3_0 => next (v2, v8, v19, h0_0, h0_1, h0_2, h0_3, h0_4, h0_5, h1_0, h2_0, h3_0)) (fun v2 v8 v19 h0_0 h0_1 h0_2 h0_3 h0_4 h0_5 h1_0 h2_0 h3_0 => ex (v2, v8, v19, h0_0, h0_1, h0_2, h0_3, h0_4, h0_5, h1_0, h2_0, h3_0))
abbrev X10 := Int × Int × (List Int) × (List Int) × (List Int) × Int × Int × (List Int) × (List Int) × (List Int) × (List Int) × (List Int)
def S10 : X10 → ASt := fun (v37, v38, h3_0, h2_0, h1_0, h0_0, h0_1, h0_2, h0_3, h0_4, h0_5, h4_0) => ⟨[(3, .ptr 0 0), (4, .ptr 1 0), (6, .ptr 2 0), (7, .ptr 3 0), (10, .ptr 4 0), (37, .v (.int .i64 v37)), (38, .v (.int .i64 v38))], [(3, some ⟨.box 187 [.arr .u64 16 h3_0], false⟩), (2, some ⟨.box 114 [.arr .u64 8 h2_0], false⟩), (1, some ⟨.box 114 [.arr .u64 8 h1_0], false⟩), (0, some ⟨.box 158 [.v (.int .i64 h0_0), .v (.int .i64 h0_1), .arr .i64 3 h0_2, .arr .i64 3 h0_3, .arr .i64 3 h0_4, .arr .i64 3 h0_5, .fn (.func 139) [] []], false⟩), (4, some ⟨.box 114 [.arr .u64 8 h4_0], false⟩)], 5, 142⟩
def V10 : ASt → Option X10
 | ⟨[(3, .ptr 0 0), (4, .ptr 1 0), (6, .ptr 2 0), (7, .ptr 3 0), (10, .ptr 4 0), (37, .v (.int .i64 v37)), (38, .v (.int .i64 v38))], [(3, some ⟨.box 187 [.arr .u64 16 h3_0], false⟩), (2, some ⟨.box 114 [.arr .u64 8 h2_0], false⟩), (1, some ⟨.box 114 [.arr .u64 8 h1_0], false⟩), (0, some ⟨.box 158 [.v (.int .i64 h0_0), .v (.int .i64 h0_1), .arr .i64 3 h0_2, .arr .i64 3 h0_3, .arr .i64 3 h0_4, .arr .i64 3 h0_5, .fn (.func 139) [] []], false⟩), (4, some ⟨.box 114 [.arr .u64 8 h4_0], false⟩)], 5, 142⟩ => some (v37, v38, h3_0, h2_0, h1_0, h0_0, h0_1, h0_2, h0_3, h0_4, h0_5, h4_0)
 | _ => none
theorem V10_ok (st) (x) (h : V10 st = some x) : st = S10 x := by
 unfold V10 at h
 split at h
 · cases h; rfl
 · cases h
abbrev Y10 := X10
noncomputable def T10 : X10 → (X10 → Option R) → (Y10 → Option R) → Option R := fun (v37, v38, h3_0, h2_0, h1_0, h0_0, h0_1, h0_2, h0_3, h0_4, h0_5, h4_0) next ex => P.sha_engine_uint64_block_r10 v37 v38 h3_0 h2_0 h1_0 h0_0 h0_1 h0_2 h0_3 h0_4 h0_5 h4_0 (fun v37 v38 h3_0 h2_0 h1_0 h0_0 h0_1 h0_2 h0_3 h0_4 h0_5 h4_0 => next (v37, v38, h3_0, h2_0, h1_0, h0_0, h0_1, h0_2, h0_3, h0_4, h0_5, h4_0)) (fun v37 v38 h3_0 h2_0 h1_0 h0_0 h0_1 h0_2 h0_3 h0_4 h0_5 h4_0 => ex (v37, v38, h3_0, h2_0, h1_0, h0_0, h0_1, h0_2, h0_3, h0_4, h0_5, h4_0))
abbrev X21 := Int × (List Int) × (List Int) × (List Int)
def S21 : X21 → ASt := fun (v129, h1_0, h2_0, h4_0) => ⟨[(4, .ptr 1 0), (6, .ptr 2 0), (10, .ptr 4 0), (129, .v (.int .i64 v129))], [(1, some ⟨.box 114 [.arr .u64 8 h1_0], false⟩), (2, some ⟨.box 114 [.arr .u64 8 h2_0], false⟩), (4, some ⟨.box 114 [.arr .u64 8 h4_0], false⟩)], 120, 142⟩
def V21 : ASt → Option X21
 | ⟨[(4, .ptr 1 0), (6, .ptr 2 0), (10, .ptr 4 0), (129, .v (.int .i64 v129))], [(1, some ⟨.box 114 [.arr .u64 8 h1_0], false⟩), (2, some ⟨.box 114 [.arr .u64 8 h2_0], false⟩), (4, some ⟨.box 114 [.arr .u64 8 h4_0], false⟩)], 120, 142⟩ => some (v129, h1_0, h2_0, h4_0)
 | _ => none
theorem V21_ok (st) (x) (h : V21 st = some x) : st = S21 x := by
 unfold V21 at h
 split at h
 · cases h; rfl
 · cases h
abbrev Y21 := X21
noncomputable def T21 : X21 → (X21 → Option R) → (Y21 → Option R) → Option R := fun (v129, h1_0, h2_0, h4_0) next ex => P.sha_engine_uint64_block_r21 v129 h1_0 h2_0 h4_0 (fun v129 h1_0 h2_0 h4_0 => next (v129, h1_0, h2_0, h4_0)) (fun v129 h1_0 h2_0 h4_0 => ex (v129, h1_0, h2_0, h4_0))
def E4 (K : AExit → ASt → Option R) : Y4 → Option R := (fun x => K (.exit 0) (S4 x))
noncomputable def L4 : LSpec := fun st K => vMap (V4 st) fun (v2, v8, v19, h0_0, h0_1, h0_2, h0_3, h0_4, h0_5, h1_0, h2_0, h3_0) => P.sha_engine_uint64_block_l4 v2 v8 v19 h0_0 h0_1 h0_2 h0_3 h0_4 h0_5 h1_0 h2_0 h3_0 (fun v2 v8 v19 h0_0 h0_1 h0_2 h0_3 h0_4 h0_5 h1_0 h2_0 h3_0 => K (.exit 0) (S4 (v2, v8, v19, h0_0, h0_1, h0_2, h0_3, h0_4, h0_5, h1_0, h2_0, h3_0)))
def E10 (K : AExit → ASt → Option R) : Y10 → Option R := (fun x => K (.exit 2) (S10 x))
noncomputable def L10 : LSpec := fun st K => vMap (V10 st) fun (v37, v38, h3_0, h2_0, h1_0, h0_0, h0_1, h0_2, h0_3, h0_4, h0_5, h4_0) => P.sha_engine_uint64_block_l10 v37 v38 h3_0 h2_0 h1_0 h0_0 h0_1 h0_2 h0_3 h0_4 h0_5 h4_0 (fun v37 v38 h3_0 h2_0 h1_0 h0_0 h0_1 h0_2 h0_3 h0_4 h0_5 h4_0 => K (.exit 2) (S10 (v37, v38, h3_0, h2_0, h1_0, h0_0, h0_1, h0_2, h0_3, h0_4, h0_5, h4_0)))
def E21 (K : AExit → ASt → Option R) : Y21 → Option R := (fun x => K (.exit 4) (S21 x))
noncomputable def L21 : LSpec := fun st K => vMap (V21 st) fun (v129, h1_0, h2_0, h4_0) => P.sha_engine_uint64_block_l21 v129 h1_0 h2_0 h4_0 (fun v129 h1_0 h2_0 h4_0 => K (.exit 4) (S21 (v129, h1_0, h2_0, h4_0)))
noncomputable def D : Ctx := ({ P := Tryd.prog, G := [(134, bits_Num.spec), (139, sha_root512.spec), (150, sha_engine_uint64_high.spec), (151, sha_engine_uint64_low.spec)], globs := GLO.gC, hints := [(21, ⟨[4, 6, 10, 129], [], [6], [], some (120, [1, 2, 4]), []⟩), (10, ⟨[3, 4, 6, 7, 10, 37, 38], [], [6], [], none, []⟩), (4, ⟨[2, 3, 4, 6, 7, 8, 19], [], [6], [], none, []⟩)], loops := [(4, L4), (10, L10), (21, L21)], inl := [] } : Ctx)
theorem round4 (K) (next) (x) : roundA D (loopAt Tryd.f138 4) K next (S4 x) = T4 x (fun x => next (S4 x)) (E4 K) := by kernel_rfl
theorem lq4 (st) (K) : L4 st K = vMap (V4 st) (fun x => lp T4 x (E4 K)) := by
 unfold L4
 cases V4 st with
 | none => rfl
 | some x => rw [P.sha_engine_uint64_block_l4_eq]; kernel_rfl
theorem loop4 : LoopOk D (loopAt Tryd.f138 4) := loopOk_lp S4 V4_ok (by kernel_rfl) lq4 round4
theorem round10 (K) (next) (x) : roundA D (loopAt Tryd.f138 10) K next (S10 x) = T10 x (fun x => next (S10 x)) (E10 K) := by kernel_rfl
theorem lq10 (st) (K) : L10 st K = vMap (V10 st) (fun x => lp T10 x (E10 K)) := by
 unfold L10
 cases V10 st with
 | none => rfl
 | some x => rw [P.sha_engine_uint64_block_l10_eq]; kernel_rfl
theorem loop10 : LoopOk D (loopAt Tryd.f138 10) := loopOk_lp S10 V10_ok (by kernel_rfl) lq10 round10
theorem round21 (K) (next) (x) : roundA D (loopAt Tryd.f138 21) K next (S21 x) = T21 x (fun x => next (S21 x)) (E21 K) := by kernel_rfl
theorem lq21 (st) (K) : L21 st K = vMap (V21 st) (fun x => lp T21 x (E21 K)) := by
 unfold L21
 cases V21 st with
 | none => rfl
 | some x => rw [P.sha_engine_uint64_block_l21_eq]; kernel_rfl
theorem loop21 : LoopOk D (loopAt Tryd.f138 21) := loopOk_lp S21 V21_ok (by kernel_rfl) lq21 round21
theorem body (a0_bits : Int) (a0_rounds : Int) (a0_turns_0 : List Int) (a0_turns_1 : List Int) (a0_turns_2 : List Int) (a0_turns_3 : List Int) (a1 : List Int) (a2 : List Int) (K : AVal → Option R) : bodyA D Tryd.f138 [.any] [.agg [.v (.int .i64 a0_bits), .v (.int .i64 a0_rounds), .arr .i64 3 a0_turns_0, .arr .i64 3 a0_turns_1, .arr .i64 3 a0_turns_2, .arr .i64 3 a0_turns_3, .fn (.func 139) [] []], .arr .u64 8 a1, .sl (.ints .u8 a2)] K = P.sha_engine_uint64_block a0_bits a0_rounds a0_turns_0 a0_turns_1 a0_turns_2 a0_turns_3 a1 a2 (fun r0 => K (.arr .u64 8 r0)) := by
 rw [P.sha_engine_uint64_block_eq]
 kernel_rfl
theorem loops : loopsOf (Tryd.f138.body.getD .skip) = [loopAt Tryd.f138 4, loopAt Tryd.f138 10, loopAt Tryd.f138 21] := by kernel_rfl
noncomputable def spec0 : Abs.Spec := fun args K => match args with
 | [.agg [.v (.int .i64 a0_bits), .v (.int .i64 a0_rounds), .arr .i64 3 a0_turns_0, .arr .i64 3 a0_turns_1, .arr .i64 3 a0_turns_2, .arr .i64 3 a0_turns_3, .fn (.func 139) [] []], .arr .u64 8 a1, .sl (.ints .u8 a2)] => P.sha_engine_uint64_block a0_bits a0_rounds a0_turns_0 a0_turns_1 a0_turns_2 a0_turns_3 a1 a2 (fun r0 => K (.arr .u64 8 r0))
 | _ => none
noncomputable def spec : Abs.Spec := fun args K => spec0 (coerL [.any, .any, .sl (.ints .u8 [])] args) K
theorem ok0 : Proved Tryd.prog GLO.gC 138 spec0 := by
 refine proved_of (D := D) (fn := Tryd.f138) (c := Tryd.f138.body.getD .skip) [.any] (by kernel_rfl) (globsPlain_of (by kernel_rfl)) (by kernel_rfl) (by kernel_rfl) (by kernel_rfl) ⟨bits_Num.ok, sha_root512.ok, sha_engine_uint64_high.ok, sha_engine_uint64_low.ok, trivial⟩ trivial ?_ ?_
 · rw [loops]; exact ⟨loop4, loop10, loop21, trivial⟩
 · intro args K r h
   unfold spec0 at h
   split at h
   · rw [body]; exact h
   · cases h
theorem ok : Proved Tryd.prog GLO.gC 138 spec := proved_coer _ ok0
end sha_engine_uint64_block
end

section
open Go Go.Abs Go.Proofs
set_option maxRecDepth 100000
set_option linter.unusedVariables false
namespace sha_through_uint64
abbrev X3 := (List Int) × (List Int) × Int × Int × Int × (List Int) × (List Int) × (List Int) × (List Int) × (List Int) × (List Int) × (List Int)
def S3 : X3 → ASt := fun (v2, v14, v15, h0_0, h0_1, h0_2, h0_3, h0_4, h0_5, h1_0, h2_0, h3_0) => ⟨[(2, .sl (.ints .u8 v2)), (3, .ptr 0 0), (4, .ptr 1 0), (6, .ptr 2 0), (8, .ptr 3 0), (14, .arr .u64 8 v14), (15, .v (.int .i64 v15))], [(0, some ⟨.box 158 [.v (.int .i64 h0_0), .v (.int .i64 h0_1), .arr .i64 3 h0_2, .arr .i64 3 h0_3, .arr .i64 3 h0_4, .arr .i64 3 h0_5, .fn (.func 139) [] []], false⟩), (1, some ⟨.box 114 [.arr .u64 8 h1_0], false⟩), (2, some ⟨.box 114 [.arr .u64 8 h2_0], false⟩), (3, some ⟨.box 114 [.arr .u64 8 h3_0], false⟩)], 4, 50⟩
def V3 : ASt → Option X3
 | ⟨[(2, .sl (.ints .u8 v2)), (3, .ptr 0 0), (4, .ptr 1 0), (6, .ptr 2 0), (8, .ptr 3 0), (14, .arr .u64 8 v14), (15, .v (.int .i64 v15))], [(0, some ⟨.box 158 [.v (.int .i64 h0_0), .v (.int .i64 h0_1), .arr .i64 3 h0_2, .arr .i64 3 h0_3, .arr .i64 3 h0_4, .arr .i64 3 h0_5, .fn (.func 139) [] []], false⟩), (1, some ⟨.box 114 [.arr .u64 8 h1_0], false⟩), (2, some ⟨.box 114 [.arr .u64 8 h2_0], false⟩), (3, some ⟨.box 114 [.arr .u64 8 h3_0], false⟩)], 4, 50⟩ => some (v2, v14, v15, h0_0, h0_1, h0_2, h0_3, h0_4, h0_5, h1_0, h2_0, h3_0)
 | _ => none
theorem V3_ok (st) (x) (h : V3 st = some x) : st = S3 x := by
 unfold V3 at h
 split at h
 · cases h; rfl
 · cases h
abbrev Y3 := X3
noncomputable def T3 : X3 → (X3 → Option R) → (Y3 → Option R) → Option R := fun (v2, v14, v15, h0_0, h0_1, h0_2, h0_3, h0_4, h0_5, h1_0, h2_0, h3_0) next ex => P.sha_through_uint64_r3 v2 v14 v15 h0_0 h0_1 h0_2 h0_3 h0_4 h0_5 h1_0 h2_0 h3_0 (fun v2 v14 v15 h0_0 h0_1 h0_2 h0_3 h0_4 h0_5 h1_0 h2_0 h3_0 => next (v2, v14, v15, h0_0, h0_1, h0_2, h0_3, h0_4, h0_5, h1_0, h2_0, h3_0)) (fun v2 v14 v15 h0_0 h0_1 h0_2 h0_3 h0_4 h0_5 h1_0 h2_0 h3_0 => ex (v2, v14, v15, h0_0, h0_1, h0_2, h0_3, h0_4, h0_5, h1_0, h2_0, h3_0))
abbrev X8 := (List Int) × Int × (List Int) × (List Int) × (List Int) × Int × Int × (List Int) × (List Int) × (List Int) × (List Int)
def S8 : X8 → ASt := fun (v2, v11, h3_0, h2_0, h1_0, h0_0, h0_1, h0_2, h0_3, h0_4, h0_5) => ⟨[(2, .sl (.ints .u8 v2)), (3, .ptr 0 0), (4, .ptr 1 0), (6, .ptr 2 0), (8, .ptr 3 0), (11, .v (.int .i64 v11))], [(3, some ⟨.box 114 [.arr .u64 8 h3_0], false⟩), (2, some ⟨.box 114 [.arr .u64 8 h2_0], false⟩), (1, some ⟨.box 114 [.arr .u64 8 h1_0], false⟩), (0, some ⟨.box 158 [.v (.int .i64 h0_0), .v (.int .i64 h0_1), .arr .i64 3 h0_2, .arr .i64 3 h0_3, .arr .i64 3 h0_4, .arr .i64 3 h0_5, .fn (.func 139) [] []], false⟩)], 4, 50⟩
def V8 : ASt → Option X8
 | ⟨[(2, .sl (.ints .u8 v2)), (3, .ptr 0 0), (4, .ptr 1 0), (6, .ptr 2 0), (8, .ptr 3 0), (11, .v (.int .i64 v11))], [(3, some ⟨.box 114 [.arr .u64 8 h3_0], false⟩), (2, some ⟨.box 114 [.arr .u64 8 h2_0], false⟩), (1, some ⟨.box 114 [.arr .u64 8 h1_0], false⟩), (0, some ⟨.box 158 [.v (.int .i64 h0_0), .v (.int .i64 h0_1), .arr .i64 3 h0_2, .arr .i64 3 h0_3, .arr .i64 3 h0_4, .arr .i64 3 h0_5, .fn (.func 139) [] []], false⟩)], 4, 50⟩ => some (v2, v11, h3_0, h2_0, h1_0, h0_0, h0_1, h0_2, h0_3, h0_4, h0_5)
 | _ => none
theorem V8_ok (st) (x) (h : V8 st = some x) : st = S8 x := by
 unfold V8 at h
 split at h
 · cases h; rfl
 · cases h
abbrev Y8 := X8
noncomputable def T8 : X8 → (X8 → Option R) → (Y8 → Option R) → Option R := fun (v2, v11, h3_0, h2_0, h1_0, h0_0, h0_1, h0_2, h0_3, h0_4, h0_5) next ex => P.sha_through_uint64_r8 v2 v11 h3_0 h2_0 h1_0 h0_0 h0_1 h0_2 h0_3 h0_4 h0_5 (fun v2 v11 h3_0 h2_0 h1_0 h0_0 h0_1 h0_2 h0_3 h0_4 h0_5 => next (v2, v11, h3_0, h2_0, h1_0, h0_0, h0_1, h0_2, h0_3, h0_4, h0_5)) (fun v2 v11 h3_0 h2_0 h1_0 h0_0 h0_1 h0_2 h0_3 h0_4 h0_5 => ex (v2, v11, h3_0, h2_0, h1_0, h0_0, h0_1, h0_2, h0_3, h0_4, h0_5))
abbrev X12 := (List Int) × (List Int) × Int × (List Int) × (List Int)
def S12 : X12 → ASt := fun (v2, v39, v40, h1_0, h2_0) => ⟨[(2, .sl (.ints .u8 v2)), (4, .ptr 1 0), (6, .ptr 2 0), (39, .arr .u64 8 v39), (40, .v (.int .i64 v40))], [(1, some ⟨.box 114 [.arr .u64 8 h1_0], false⟩), (2, some ⟨.box 114 [.arr .u64 8 h2_0], false⟩)], 120, 50⟩
def V12 : ASt → Option X12
 | ⟨[(2, .sl (.ints .u8 v2)), (4, .ptr 1 0), (6, .ptr 2 0), (39, .arr .u64 8 v39), (40, .v (.int .i64 v40))], [(1, some ⟨.box 114 [.arr .u64 8 h1_0], false⟩), (2, some ⟨.box 114 [.arr .u64 8 h2_0], false⟩)], 120, 50⟩ => some (v2, v39, v40, h1_0, h2_0)
 | _ => none
theorem V12_ok (st) (x) (h : V12 st = some x) : st = S12 x := by
 unfold V12 at h
 split at h
 · cases h; rfl
 · cases h
abbrev Y12 := X12
noncomputable def T12 : X12 → (X12 → Option R) → (Y12 → Option R) → Option R := fun (v2, v39, v40, h1_0, h2_0) next ex => P.sha_through_uint64_r12 v2 v39 v40 h1_0 h2_0 (fun v2 v39 v40 h1_0 h2_0 => next (v2, v39, v40, h1_0, h2_0)) (fun v2 v39 v40 h1_0 h2_0 => ex (v2, v39, v40, h1_0, h2_0))
def E3 (K : AExit → ASt → Option R) : Y3 → Option R := (fun x => K (.exit 0) (S3 x))
noncomputable def L3 : LSpec := fun st K => vMap (V3 st) fun (v2, v14, v15, h0_0, h0_1, h0_2, h0_3, h0_4, h0_5, h1_0, h2_0, h3_0) => P.sha_through_uint64_l3 v2 v14 v15 h0_0 h0_1 h0_2 h0_3 h0_4 h0_5 h1_0 h2_0 h3_0 (fun v2 v14 v15 h0_0 h0_1 h0_2 h0_3 h0_4 h0_5 h1_0 h2_0 h3_0 => K (.exit 0) (S3 (v2, v14, v15, h0_0, h0_1, h0_2, h0_3, h0_4, h0_5, h1_0, h2_0, h3_0)))
def E8 (K : AExit → ASt → Option R) : Y8 → Option R := (fun x => K (.exit 2) (S8 x))
noncomputable def L8 : LSpec := fun st K => vMap (V8 st) fun (v2, v11, h3_0, h2_0, h1_0, h0_0, h0_1, h0_2, h0_3, h0_4, h0_5) => P.sha_through_uint64_l8 v2 v11 h3_0 h2_0 h1_0 h0_0 h0_1 h0_2 h0_3 h0_4 h0_5 (fun v2 v11 h3_0 h2_0 h1_0 h0_0 h0_1 h0_2 h0_3 h0_4 h0_5 => K (.exit 2) (S8 (v2, v11, h3_0, h2_0, h1_0, h0_0, h0_1, h0_2, h0_3, h0_4, h0_5)))
def E12 (K : AExit → ASt → Option R) : Y12 → Option R := (fun x => K (.exit 4) (S12 x))
noncomputable def L12 : LSpec := fun st K => vMap (V12 st) fun (v2, v39, v40, h1_0, h2_0) => P.sha_through_uint64_l12 v2 v39 v40 h1_0 h2_0 (fun v2 v39 v40 h1_0 h2_0 => K (.exit 4) (S12 (v2, v39, v40, h1_0, h2_0)))
noncomputable def D : Ctx := ({ P := Tryd.prog, G := [(138, sha_engine_uint64_block.spec), (139, sha_root512.spec)], globs := GLO.gC, hints := [(12, ⟨[2, 4, 6, 39, 40], [], [6, 7], [], some (120, [1, 2]), []⟩), (8, ⟨[2, 3, 4, 6, 8, 11], [], [6, 7], [(2, .sl (.ints .u8 []))], none, []⟩), (3, ⟨[2, 3, 4, 6, 8, 14, 15], [], [6, 7], [], none, []⟩)], loops := [(3, L3), (8, L8), (12, L12)], inl := [] } : Ctx)
theorem round3 (K) (next) (x) : roundA D (loopAt Tryd.f119 3) K next (S3 x) = T3 x (fun x => next (S3 x)) (E3 K) := by kernel_rfl
theorem lq3 (st) (K) : L3 st K = vMap (V3 st) (fun x => lp T3 x (E3 K)) := by
 unfold L3
 cases V3 st with
 | none => rfl
 | some x => rw [P.sha_through_uint64_l3_eq]; kernel_rfl
theorem loop3 : LoopOk D (loopAt Tryd.f119 3) := loopOk_lp S3 V3_ok (by kernel_rfl) lq3 round3
theorem round8 (K) (next) (x) : roundA D (loopAt Tryd.f119 8) K next (S8 x) = T8 x (fun x => next (S8 x)) (E8 K) := by kernel_rfl
theorem lq8 (st) (K) : L8 st K = vMap (V8 st) (fun x => lp T8 x (E8 K)) := by
 unfold L8
 cases V8 st with
 | none => rfl
 | some x => rw [P.sha_through_uint64_l8_eq]; kernel_rfl
theorem loop8 : LoopOk D (loopAt Tryd.f119 8) := loopOk_lp S8 V8_ok (by kernel_rfl) lq8 round8
theorem round12 (K) (next) (x) : roundA D (loopAt Tryd.f119 12) K next (S12 x) = T12 x (fun x => next (S12 x)) (E12 K) := by kernel_rfl
theorem lq12 (st) (K) : L12 st K = vMap (V12 st) (fun x => lp T12 x (E12 K)) := by
 unfold L12
 cases V12 st with
 | none => rfl
 | some x => rw [P.sha_through_uint64_l12_eq]; kernel_rfl
theorem loop12 : LoopOk D (loopAt Tryd.f119 12) := loopOk_lp S12 V12_ok (by kernel_rfl) lq12 round12
theorem body (a0_bits : Int) (a0_rounds : Int) (a0_turns_0 : List Int) (a0_turns_1 : List Int) (a0_turns_2 : List Int) (a0_turns_3 : List Int) (a1 : List Int) (a2 : List Int) (K : AVal → Option R) : bodyA D Tryd.f119 [.any, .sl (.ints .u8 [])] [.agg [.v (.int .i64 a0_bits), .v (.int .i64 a0_rounds), .arr .i64 3 a0_turns_0, .arr .i64 3 a0_turns_1, .arr .i64 3 a0_turns_2, .arr .i64 3 a0_turns_3, .fn (.func 139) [] []], .arr .u64 8 a1, .sl (.ints .u8 a2)] K = P.sha_through_uint64 a0_bits a0_rounds a0_turns_0 a0_turns_1 a0_turns_2 a0_turns_3 a1 a2 (fun r0 r1 => K (.tuple [.arr .u64 8 r0, .sl (.ints .u8 r1)])) := by
 rw [P.sha_through_uint64_eq]
 kernel_rfl
theorem loops : loopsOf (Tryd.f119.body.getD .skip) = [loopAt Tryd.f119 3, loopAt Tryd.f119 8, loopAt Tryd.f119 12] := by kernel_rfl
noncomputable def spec0 : Abs.Spec := fun args K => match args with
 | [.agg [.v (.int .i64 a0_bits), .v (.int .i64 a0_rounds), .arr .i64 3 a0_turns_0, .arr .i64 3 a0_turns_1, .arr .i64 3 a0_turns_2, .arr .i64 3 a0_turns_3, .fn (.func 139) [] []], .arr .u64 8 a1, .sl (.ints .u8 a2)] => P.sha_through_uint64 a0_bits a0_rounds a0_turns_0 a0_turns_1 a0_turns_2 a0_turns_3 a1 a2 (fun r0 r1 => K (.tuple [.arr .u64 8 r0, .sl (.ints .u8 r1)]))
 | _ => none
noncomputable def spec : Abs.Spec := fun args K => spec0 (coerL [.any, .any, .sl (.ints .u8 [])] args) K
theorem ok0 : Proved Tryd.prog GLO.gC 119 spec0 := by
 refine proved_of (D := D) (fn := Tryd.f119) (c := Tryd.f119.body.getD .skip) [.any, .sl (.ints .u8 [])] (by kernel_rfl) (globsPlain_of (by kernel_rfl)) (by kernel_rfl) (by kernel_rfl) (by kernel_rfl) ⟨sha_engine_uint64_block.ok, sha_root512.ok, trivial⟩ trivial ?_ ?_
 · rw [loops]; exact ⟨loop3, loop8, loop12, trivial⟩
 · intro args K r h
   unfold spec0 at h
   split at h
   · rw [body]; exact h
   · cases h
theorem ok : Proved Tryd.prog GLO.gC 119 spec := proved_coer _ ok0
end sha_through_uint64
end

section
open Go Go.Abs Go.Proofs
set_option maxRecDepth 100000
set_option linter.unusedVariables false
namespace slices_Clone_byte
noncomputable def D : Ctx := { P := Tryd.prog, G := [], globs := GLO.gC, hints := [], loops := [] }
noncomputable def c : Code := Tryd.f121.body.getD .skip
noncomputable def o0 : Oper := (regOps (sq1 c)).getD 0 anOper
noncomputable def o1 : Oper := (regOps (sq1 (sq1 (sq2 c)))).getD 0 anOper
noncomputable def o2 : Oper := (regOps (sq1 (sq1 (sq2 c)))).getD 1 anOper
noncomputable def X : Code := condX (sq2 (sq1 (sq2 c)))
noncomputable def rest : Code := sq2 (sq2 c)
noncomputable def ox : Oper := (regOps (sq1 X)).getD 0 anOper
theorem rest_eq (a0 : List Int) : codeA D rest ⟨[(0, .sl (.ints .u8 a0)), (2, .v (.slice none 0 0))], [], 0, Tryd.f121.ntmps⟩ (outK D [.fr 5 (.ints .u8 a0)] Tryd.f121) = br (decide ((0 + a0.length) * 1 ≤ 140737488355328)) (some (.fr 5 (.ints .u8 a0))) none := by kernel_rfl
noncomputable def spec0 : Abs.Spec := fun args K => match args with
  | [.sl (.ints .u8 a0)] => P.slices_Clone_byte a0 (fun a0 => K (.fr 5 (.ints .u8 a0)))
  | _ => none
theorem body_eq : Tryd.f121.body = some (.seq (.region 0 #[o0] false) (.seq (.seq (.region 1 #[o1, o2] false) (.cond (.tmp 4) X .skip)) rest)) := by kernel_rfl
theorem ok0 : Proved Tryd.prog GLO.gC 121 spec0 := by
  refine ⟨⟨Tryd.f121, by kernel_rfl, by kernel_rfl, by kernel_rfl⟩, fun args K r h => ?_⟩
  unfold spec0 at h
  split at h
  · rename_i a0
    unfold P.slices_Clone_byte at h
    obtain ⟨hp, hK⟩ := pre_some h
    refine ⟨_, hK, clone_ok (D := D) (fn := Tryd.f121) (t := 22) (e := 5) trivial (globsPlain_of (by kernel_rfl)) trivial (by kernel_rfl) (by kernel_rfl) body_eq ⟨by kernel_rfl, by kernel_rfl, by kernel_rfl⟩ ⟨by kernel_rfl, by kernel_rfl, by kernel_rfl⟩ ⟨by kernel_rfl, by kernel_rfl, by kernel_rfl⟩ (by kernel_rfl) (by decide +kernel) (by kernel_rfl) (by kernel_rfl) ⟨2, ox, by kernel_rfl, by kernel_rfl, by kernel_rfl, by kernel_rfl⟩ (by kernel_rfl) rfl rfl rfl ?_⟩
    rw [rest_eq, br_pos (by omega)]
  · cases h
noncomputable def spec : Abs.Spec := fun args K => spec0 (coerL [.sl (.ints .u8 [])] args) K
theorem ok : Proved Tryd.prog GLO.gC 121 spec := proved_coer _ ok0
end slices_Clone_byte
end
