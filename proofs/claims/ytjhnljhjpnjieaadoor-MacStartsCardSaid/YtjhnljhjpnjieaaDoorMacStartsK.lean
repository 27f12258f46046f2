/-
  MacStarts, part K: an interpreter of my own over abstract values, the pure functions, the walks and the plain law.
-/

import Derived.Test.YtjhnljhjpnjieaaDoorMacStartsG
import Derived.Test.YtjhnljhjpnjieaaDoorMacStartsF
import Derived.Test.YtjhnljhjpnjieaaDoorMacStartsJ
import Derived.Test.YtjhnljhjpnjieaaDoorProg
import Derived.KernelRfl
import Derived.Test.YtjhnljhjpnjieaaDoorMacStartsH

section
open Go Go.Abs Go.Proofs
set_option maxRecDepth 100000
set_option linter.unusedVariables false
namespace slices_Grow_byte
noncomputable def D : Ctx := ({ P := Tryd.prog, G := [], globs := GLO.gC, hints := [], loops := [], inl := [] } : Ctx)
theorem body (a1 : Int) (K : AVal → Option R) : bodyW D Tryd.f129 5 (.ints .u8 []) [.v (.slice none 0 0), .v (.int .i64 a1)] K = P.slices_Grow_byte a1 (fun r0 => K (.fr 5 (.ints .u8 r0))) := by
 rw [P.slices_Grow_byte_eq]
 kernel_rfl
theorem loops : loopsOf (Tryd.f129.body.getD .skip) = [] := by kernel_rfl
noncomputable def spec0 : Abs.Spec := fun args K => match args with
 | [.v (.slice none 0 0), .v (.int .i64 a1)] => P.slices_Grow_byte a1 (fun r0 => K (.fr 5 (.ints .u8 r0)))
 | _ => none
noncomputable def spec : Abs.Spec := spec0
theorem ok0 : Proved Tryd.prog GLO.gC 129 spec0 := by
 refine provedW_of (D := D) (fn := Tryd.f129) (c := Tryd.f129.body.getD .skip) 5 (.ints .u8 []) (by kernel_rfl) (globsPlain_of (by kernel_rfl)) (by kernel_rfl) (by kernel_rfl) (by kernel_rfl) trivial trivial ?_ ?_
 · rw [loops]; exact trivial
 · intro args K r h
   unfold spec0 at h
   split at h
   · rw [body]; exact h
   · cases h
theorem ok : Proved Tryd.prog GLO.gC 129 spec := ok0
end slices_Grow_byte
end

section
open Go Go.Abs Go.Proofs
set_option maxRecDepth 100000
set_option linter.unusedVariables false
namespace slices_Concat_byte
abbrev X3 := (List (List Int)) × Int × (List (List Int)) × Int × Int
def S3 : X3 → ASt := fun (v0, v3, v9, v10, v11) => ⟨[(0, .sl (.rows .u8 v0)), (3, .v (.int .i64 v3)), (9, .sl (.rows .u8 v9)), (10, .v (.int .i64 v10)), (11, .v (.int .i64 v11))], [], 0, 36⟩
def V3 : ASt → Option X3
 | ⟨[(0, .sl (.rows .u8 v0)), (3, .v (.int .i64 v3)), (9, .sl (.rows .u8 v9)), (10, .v (.int .i64 v10)), (11, .v (.int .i64 v11))], [], 0, 36⟩ => some (v0, v3, v9, v10, v11)
 | _ => none
theorem V3_ok (st) (x) (h : V3 st = some x) : st = S3 x := by
 unfold V3 at h
 split at h
 · cases h; rfl
 · cases h
abbrev Y3 := X3
noncomputable def T3 : X3 → (X3 → Option R) → (Y3 → Option R) → Option R := fun (v0, v3, v9, v10, v11) next ex => P.slices_Concat_byte_r3 v0 v3 v9 v10 v11 (fun v0 v3 v9 v10 v11 => next (v0, v3, v9, v10, v11)) (fun v0 v3 v9 v10 v11 => ex (v0, v3, v9, v10, v11))
abbrev X11 := (List (List Int)) × Int × Int × (List Int)
def S11 : X11 → ASt := fun (v25, v26, v27, h1) => ⟨[(6, .own 1), (25, .sl (.rows .u8 v25)), (26, .v (.int .i64 v26)), (27, .v (.int .i64 v27))], [(1, some ⟨.row 5 (.ints .u8 h1), false⟩), (0, none)], 2, 36⟩
def V11 : ASt → Option X11
 | ⟨[(6, .own 1), (25, .sl (.rows .u8 v25)), (26, .v (.int .i64 v26)), (27, .v (.int .i64 v27))], [(1, some ⟨.row 5 (.ints .u8 h1), false⟩), (0, none)], 2, 36⟩ => some (v25, v26, v27, h1)
 | _ => none
theorem V11_ok (st) (x) (h : V11 st = some x) : st = S11 x := by
 unfold V11 at h
 split at h
 · cases h; rfl
 · cases h
abbrev Y11 := X11
noncomputable def T11 : X11 → (X11 → Option R) → (Y11 → Option R) → Option R := fun (v25, v26, v27, h1) next ex => P.slices_Concat_byte_r11 v25 v26 v27 h1 (fun v25 v26 v27 h1 => next (v25, v26, v27, h1)) (fun v25 v26 v27 h1 => ex (v25, v26, v27, h1))
def E3 (K : AExit → ASt → Option R) : Y3 → Option R := (fun x => K (.exit 0) (S3 x))
noncomputable def L3 : LSpec := fun st K => vMap (V3 st) fun (v0, v3, v9, v10, v11) => P.slices_Concat_byte_l3 v0 v3 v9 v10 v11 (fun v0 v3 v9 v10 v11 => K (.exit 0) (S3 (v0, v3, v9, v10, v11)))
def E11 (K : AExit → ASt → Option R) : Y11 → Option R := (fun x => K (.exit 2) (S11 x))
noncomputable def L11 : LSpec := fun st K => vMap (V11 st) fun (v25, v26, v27, h1) => P.slices_Concat_byte_l11 v25 v26 v27 h1 (fun v25 v26 v27 h1 => K (.exit 2) (S11 (v25, v26, v27, h1)))
noncomputable def D : Ctx := ({ P := Tryd.prog, G := [(129, slices_Grow_byte.spec)], globs := GLO.gC, hints := [(11, ⟨[25, 26, 27], [(6, 5, .ints .u8 [])], [2], [], none, []⟩), (3, ⟨[0, 3, 9, 10, 11], [], [2], [], none, []⟩)], loops := [(3, L3), (11, L11)], inl := [] } : Ctx)
theorem round3 (K) (next) (x) : roundA D (loopAt Tryd.f105 3) K next (S3 x) = T3 x (fun x => next (S3 x)) (E3 K) := by kernel_rfl
theorem lq3 (st) (K) : L3 st K = vMap (V3 st) (fun x => lp T3 x (E3 K)) := by
 unfold L3
 cases V3 st with
 | none => rfl
 | some x => rw [P.slices_Concat_byte_l3_eq]; kernel_rfl
theorem loop3 : LoopOk D (loopAt Tryd.f105 3) := loopOk_lp S3 V3_ok (by kernel_rfl) lq3 round3
theorem round11 (K) (next) (x) : roundA D (loopAt Tryd.f105 11) K next (S11 x) = T11 x (fun x => next (S11 x)) (E11 K) := by kernel_rfl
theorem lq11 (st) (K) : L11 st K = vMap (V11 st) (fun x => lp T11 x (E11 K)) := by
 unfold L11
 cases V11 st with
 | none => rfl
 | some x => rw [P.slices_Concat_byte_l11_eq]; kernel_rfl
theorem loop11 : LoopOk D (loopAt Tryd.f105 11) := loopOk_lp S11 V11_ok (by kernel_rfl) lq11 round11
theorem body (a0 : List (List Int)) (K : AVal → Option R) : bodyA D Tryd.f105 [.fr 5 (.ints .u8 [])] [.sl (.rows .u8 a0)] K = P.slices_Concat_byte a0 (fun r0 => K (.fr 5 (.ints .u8 r0))) := by
 rw [P.slices_Concat_byte_eq]
 kernel_rfl
theorem loops : loopsOf (Tryd.f105.body.getD .skip) = [loopAt Tryd.f105 3, loopAt Tryd.f105 11] := by kernel_rfl
noncomputable def spec0 : Abs.Spec := fun args K => match args with
 | [.sl (.rows .u8 a0)] => P.slices_Concat_byte a0 (fun r0 => K (.fr 5 (.ints .u8 r0)))
 | _ => none
noncomputable def spec : Abs.Spec := fun args K => spec0 (coerL [.sl (.rows .u8 [])] args) K
theorem ok0 : Proved Tryd.prog GLO.gC 105 spec0 := by
 refine proved_of (D := D) (fn := Tryd.f105) (c := Tryd.f105.body.getD .skip) [.fr 5 (.ints .u8 [])] (by kernel_rfl) (globsPlain_of (by kernel_rfl)) (by kernel_rfl) (by kernel_rfl) (by kernel_rfl) ⟨slices_Grow_byte.ok, trivial⟩ trivial ?_ ?_
 · rw [loops]; exact ⟨loop3, loop11, trivial⟩
 · intro args K r h
   unfold spec0 at h
   split at h
   · rw [body]; exact h
   · cases h
theorem ok : Proved Tryd.prog GLO.gC 105 spec := proved_coer _ ok0
end slices_Concat_byte
end

section
open Go Go.Abs Go.Proofs
set_option maxRecDepth 100000
set_option linter.unusedVariables false
namespace bits_Join
noncomputable def D : Ctx := ({ P := Tryd.prog, G := [(105, slices_Concat_byte.spec)], globs := GLO.gC, hints := [], loops := [], inl := [] } : Ctx)
theorem body (a0 : List (List Int)) (K : AVal → Option R) : bodyA D Tryd.f62 [.fr 5 (.ints .u8 [])] [.sl (.rows .u8 a0)] K = P.bits_Join a0 (fun r0 => K (.fr 5 (.ints .u8 r0))) := by
 rw [P.bits_Join_eq]
 kernel_rfl
theorem loops : loopsOf (Tryd.f62.body.getD .skip) = [] := by kernel_rfl
noncomputable def spec0 : Abs.Spec := fun args K => match args with
 | [.sl (.rows .u8 a0)] => P.bits_Join a0 (fun r0 => K (.fr 5 (.ints .u8 r0)))
 | _ => none
noncomputable def spec : Abs.Spec := fun args K => spec0 (coerL [.sl (.rows .u8 [])] args) K
theorem ok0 : Proved Tryd.prog GLO.gC 62 spec0 := by
 refine proved_of (D := D) (fn := Tryd.f62) (c := Tryd.f62.body.getD .skip) [.fr 5 (.ints .u8 [])] (by kernel_rfl) (globsPlain_of (by kernel_rfl)) (by kernel_rfl) (by kernel_rfl) (by kernel_rfl) ⟨slices_Concat_byte.ok, trivial⟩ trivial ?_ ?_
 · rw [loops]; exact trivial
 · intro args K r h
   unfold spec0 at h
   split at h
   · rw [body]; exact h
   · cases h
theorem ok : Proved Tryd.prog GLO.gC 62 spec := proved_coer _ ok0
end bits_Join
end

section
open Go Go.Abs Go.Proofs
set_option maxRecDepth 100000
set_option linter.unusedVariables false
namespace math_bits_RotateLeft64
noncomputable def D : Ctx := ({ P := Tryd.prog, G := [], globs := GLO.gC, hints := [], loops := [], inl := [] } : Ctx)
theorem body (a0 : Int) (a1 : Int) (K : AVal → Option R) : bodyA D Tryd.f153 [.any] [.v (.int .u64 a0), .v (.int .i64 a1)] K = P.math_bits_RotateLeft64 a0 a1 (fun r0 => K (.v (.int .u64 r0))) := by
 rw [P.math_bits_RotateLeft64_eq]
 kernel_rfl
theorem loops : loopsOf (Tryd.f153.body.getD .skip) = [] := by kernel_rfl
noncomputable def spec0 : Abs.Spec := fun args K => match args with
 | [.v (.int .u64 a0), .v (.int .i64 a1)] => P.math_bits_RotateLeft64 a0 a1 (fun r0 => K (.v (.int .u64 r0)))
 | _ => none
noncomputable def spec : Abs.Spec := spec0
theorem ok0 : Proved Tryd.prog GLO.gC 153 spec0 := by
 refine proved_of (D := D) (fn := Tryd.f153) (c := Tryd.f153.body.getD .skip) [.any] (by kernel_rfl) (globsPlain_of (by kernel_rfl)) (by kernel_rfl) (by kernel_rfl) (by kernel_rfl) trivial trivial ?_ ?_
 · rw [loops]; exact trivial
 · intro args K r h
   unfold spec0 at h
   split at h
   · rw [body]; exact h
   · cases h
theorem ok : Proved Tryd.prog GLO.gC 153 spec := ok0
end math_bits_RotateLeft64
end

section
open Go Go.Abs Go.Proofs
set_option maxRecDepth 100000
set_option linter.unusedVariables false
namespace keccak_Permute
abbrev X2_2 := Int × (List Int) × (List Int) × (List Int)
def S2_2 : X2_2 → ASt := fun (v4, h1_0, h0_0, h2_0) => ⟨[(0, .ptr 0 0), (2, .ptr 2 0), (4, .v (.int .i64 v4))], [(1, some ⟨.box 121 [.arr .u64 25 h1_0], false⟩), (0, some ⟨.box 121 [.arr .u64 25 h0_0], false⟩), (2, some ⟨.box 189 [.arr .u64 5 h2_0], false⟩)], 3, 44⟩
def V2_2 : ASt → Option X2_2
 | ⟨[(0, .ptr 0 0), (2, .ptr 2 0), (4, .v (.int .i64 v4))], [(1, some ⟨.box 121 [.arr .u64 25 h1_0], false⟩), (0, some ⟨.box 121 [.arr .u64 25 h0_0], false⟩), (2, some ⟨.box 189 [.arr .u64 5 h2_0], false⟩)], 3, 44⟩ => some (v4, h1_0, h0_0, h2_0)
 | _ => none
theorem V2_2_ok (st) (x) (h : V2_2 st = some x) : st = S2_2 x := by
 unfold V2_2 at h
 split at h
 · cases h; rfl
 · cases h
abbrev Y2_2 := X2_2
noncomputable def T2_2 : X2_2 → (X2_2 → Option R) → (Y2_2 → Option R) → Option R := fun (v4, h1_0, h0_0, h2_0) next ex => P.keccak_Permute_r2_2 v4 h1_0 h0_0 h2_0 (fun v4 h1_0 h0_0 h2_0 => next (v4, h1_0, h0_0, h2_0)) (fun v4 h1_0 h0_0 h2_0 => ex (v4, h1_0, h0_0, h2_0))
abbrev X1_6 := Int × Int × Int × Int × Int × (List Int) × (List Int) × (List Int) × (List Int)
def S1_6 : X1_6 → ASt := fun (v1, v5, v6, v7, v16, h3_0, h2_0, h1_0, h0_0) => ⟨[(0, .ptr 0 0), (1, .v (.int .u64 v1)), (4, .ptr 3 0), (5, .v (.int .i64 v5)), (6, .v (.int .u64 v6)), (7, .v (.int .i64 v7)), (16, .v (.int .i64 v16))], [(3, some ⟨.box 189 [.arr .u64 5 h3_0], false⟩), (2, some ⟨.box 189 [.arr .u64 5 h2_0], false⟩), (1, some ⟨.box 121 [.arr .u64 25 h1_0], false⟩), (0, some ⟨.box 121 [.arr .u64 25 h0_0], false⟩)], 4, 116⟩
def V1_6 : ASt → Option X1_6
 | ⟨[(0, .ptr 0 0), (1, .v (.int .u64 v1)), (4, .ptr 3 0), (5, .v (.int .i64 v5)), (6, .v (.int .u64 v6)), (7, .v (.int .i64 v7)), (16, .v (.int .i64 v16))], [(3, some ⟨.box 189 [.arr .u64 5 h3_0], false⟩), (2, some ⟨.box 189 [.arr .u64 5 h2_0], false⟩), (1, some ⟨.box 121 [.arr .u64 25 h1_0], false⟩), (0, some ⟨.box 121 [.arr .u64 25 h0_0], false⟩)], 4, 116⟩ => some (v1, v5, v6, v7, v16, h3_0, h2_0, h1_0, h0_0)
 | _ => none
theorem V1_6_ok (st) (x) (h : V1_6 st = some x) : st = S1_6 x := by
 unfold V1_6 at h
 split at h
 · cases h; rfl
 · cases h
abbrev Y1_6 := X1_6
noncomputable def T1_6 : X1_6 → (X1_6 → Option R) → (Y1_6 → Option R) → Option R := fun (v1, v5, v6, v7, v16, h3_0, h2_0, h1_0, h0_0) next ex => P.keccak_Permute_r1_6 v1 v5 v6 v7 v16 h3_0 h2_0 h1_0 h0_0 (fun v1 v5 v6 v7 v16 h3_0 h2_0 h1_0 h0_0 => next (v1, v5, v6, v7, v16, h3_0, h2_0, h1_0, h0_0)) (fun v1 v5 v6 v7 v16 h3_0 h2_0 h1_0 h0_0 => ex (v1, v5, v6, v7, v16, h3_0, h2_0, h1_0, h0_0))
abbrev X1_2 := Int × Int × (List Int) × (List Int) × (List Int) × (List Int)
def S1_2 : X1_2 → ASt := fun (v1, v16, h0_0, h1_0, h2_0, h3_0) => ⟨[(0, .ptr 0 0), (1, .v (.int .u64 v1)), (4, .ptr 3 0), (16, .v (.int .i64 v16))], [(0, some ⟨.box 121 [.arr .u64 25 h0_0], false⟩), (1, some ⟨.box 121 [.arr .u64 25 h1_0], false⟩), (2, some ⟨.box 189 [.arr .u64 5 h2_0], false⟩), (3, some ⟨.box 189 [.arr .u64 5 h3_0], false⟩)], 4, 116⟩
def V1_2 : ASt → Option X1_2
 | ⟨[(0, .ptr 0 0), (1, .v (.int .u64 v1)), (4, .ptr 3 0), (16, .v (.int .i64 v16))], [(0, some ⟨.box 121 [.arr .u64 25 h0_0], false⟩), (1, some ⟨.box 121 [.arr .u64 25 h1_0], false⟩), (2, some ⟨.box 189 [.arr .u64 5 h2_0], false⟩), (3, some ⟨.box 189 [.arr .u64 5 h3_0], false⟩)], 4, 116⟩ => some (v1, v16, h0_0, h1_0, h2_0, h3_0)
 | _ => none
theorem V1_2_ok (st) (x) (h : V1_2 st = some x) : st = S1_2 x := by
 unfold V1_2 at h
 split at h
 · cases h; rfl
 · cases h
abbrev Y1_2 := X1_2
noncomputable def T1_2 : X1_2 → (X1_2 → Option R) → (Y1_2 → Option R) → Option R := fun (v1, v16, h0_0, h1_0, h2_0, h3_0) next ex => P.keccak_Permute_r1_2 v1 v16 h0_0 h1_0 h2_0 h3_0 (fun v1 v16 h0_0 h1_0 h2_0 h3_0 => next (v1, v16, h0_0, h1_0, h2_0, h3_0)) (fun v1 v16 h0_0 h1_0 h2_0 h3_0 => ex (v1, v16, h0_0, h1_0, h2_0, h3_0))
abbrev X1_12 := Int × Int × (List Int) × Int × (List Int) × (List Int) × (List Int) × (List Int)
def S1_12 : X1_12 → ASt := fun (v1, v8, v51, v52, h3_0, h2_0, h1_0, h0_0) => ⟨[(0, .ptr 0 0), (1, .v (.int .u64 v1)), (8, .v (.int .u64 v8)), (51, .arr .i64 24 v51), (52, .v (.int .i64 v52))], [(3, some ⟨.box 189 [.arr .u64 5 h3_0], false⟩), (2, some ⟨.box 189 [.arr .u64 5 h2_0], false⟩), (1, some ⟨.box 121 [.arr .u64 25 h1_0], false⟩), (0, some ⟨.box 121 [.arr .u64 25 h0_0], false⟩)], 4, 116⟩
def V1_12 : ASt → Option X1_12
 | ⟨[(0, .ptr 0 0), (1, .v (.int .u64 v1)), (8, .v (.int .u64 v8)), (51, .arr .i64 24 v51), (52, .v (.int .i64 v52))], [(3, some ⟨.box 189 [.arr .u64 5 h3_0], false⟩), (2, some ⟨.box 189 [.arr .u64 5 h2_0], false⟩), (1, some ⟨.box 121 [.arr .u64 25 h1_0], false⟩), (0, some ⟨.box 121 [.arr .u64 25 h0_0], false⟩)], 4, 116⟩ => some (v1, v8, v51, v52, h3_0, h2_0, h1_0, h0_0)
 | _ => none
theorem V1_12_ok (st) (x) (h : V1_12 st = some x) : st = S1_12 x := by
 unfold V1_12 at h
 split at h
 · cases h; rfl
 · cases h
abbrev Y1_12 := X1_12
noncomputable def T1_12 : X1_12 → (X1_12 → Option R) → (Y1_12 → Option R) → Option R := fun (v1, v8, v51, v52, h3_0, h2_0, h1_0, h0_0) next ex => P.keccak_Permute_r1_12 v1 v8 v51 v52 h3_0 h2_0 h1_0 h0_0 (fun v1 v8 v51 v52 h3_0 h2_0 h1_0 h0_0 => next (v1, v8, v51, v52, h3_0, h2_0, h1_0, h0_0)) (fun v1 v8 v51 v52 h3_0 h2_0 h1_0 h0_0 => ex (v1, v8, v51, v52, h3_0, h2_0, h1_0, h0_0))
abbrev X1_21 := Int × Int × Int × (List Int) × (List Int) × (List Int) × (List Int) × (List Int)
def S1_21 : X1_21 → ASt := fun (v1, v11, v83, h3_0, h2_0, h1_0, h0_0, h4_0) => ⟨[(0, .ptr 0 0), (1, .v (.int .u64 v1)), (11, .v (.int .i64 v11)), (12, .ptr 4 0), (83, .v (.int .i64 v83))], [(3, some ⟨.box 189 [.arr .u64 5 h3_0], false⟩), (2, some ⟨.box 189 [.arr .u64 5 h2_0], false⟩), (1, some ⟨.box 121 [.arr .u64 25 h1_0], false⟩), (0, some ⟨.box 121 [.arr .u64 25 h0_0], false⟩), (4, some ⟨.box 189 [.arr .u64 5 h4_0], false⟩)], 5, 116⟩
def V1_21 : ASt → Option X1_21
 | ⟨[(0, .ptr 0 0), (1, .v (.int .u64 v1)), (11, .v (.int .i64 v11)), (12, .ptr 4 0), (83, .v (.int .i64 v83))], [(3, some ⟨.box 189 [.arr .u64 5 h3_0], false⟩), (2, some ⟨.box 189 [.arr .u64 5 h2_0], false⟩), (1, some ⟨.box 121 [.arr .u64 25 h1_0], false⟩), (0, some ⟨.box 121 [.arr .u64 25 h0_0], false⟩), (4, some ⟨.box 189 [.arr .u64 5 h4_0], false⟩)], 5, 116⟩ => some (v1, v11, v83, h3_0, h2_0, h1_0, h0_0, h4_0)
 | _ => none
theorem V1_21_ok (st) (x) (h : V1_21 st = some x) : st = S1_21 x := by
 unfold V1_21 at h
 split at h
 · cases h; rfl
 · cases h
abbrev Y1_21 := X1_21
noncomputable def T1_21 : X1_21 → (X1_21 → Option R) → (Y1_21 → Option R) → Option R := fun (v1, v11, v83, h3_0, h2_0, h1_0, h0_0, h4_0) next ex => P.keccak_Permute_r1_21 v1 v11 v83 h3_0 h2_0 h1_0 h0_0 h4_0 (fun v1 v11 v83 h3_0 h2_0 h1_0 h0_0 h4_0 => next (v1, v11, v83, h3_0, h2_0, h1_0, h0_0, h4_0)) (fun v1 v11 v83 h3_0 h2_0 h1_0 h0_0 h4_0 => ex (v1, v11, v83, h3_0, h2_0, h1_0, h0_0, h4_0))
abbrev X1_17 := Int × Int × (List Int) × (List Int) × (List Int) × (List Int)
def S1_17 : X1_17 → ASt := fun (v1, v11, h0_0, h1_0, h2_0, h3_0) => ⟨[(0, .ptr 0 0), (1, .v (.int .u64 v1)), (11, .v (.int .i64 v11))], [(0, some ⟨.box 121 [.arr .u64 25 h0_0], false⟩), (1, some ⟨.box 121 [.arr .u64 25 h1_0], false⟩), (2, some ⟨.box 189 [.arr .u64 5 h2_0], false⟩), (3, some ⟨.box 189 [.arr .u64 5 h3_0], false⟩)], 4, 116⟩
def V1_17 : ASt → Option X1_17
 | ⟨[(0, .ptr 0 0), (1, .v (.int .u64 v1)), (11, .v (.int .i64 v11))], [(0, some ⟨.box 121 [.arr .u64 25 h0_0], false⟩), (1, some ⟨.box 121 [.arr .u64 25 h1_0], false⟩), (2, some ⟨.box 189 [.arr .u64 5 h2_0], false⟩), (3, some ⟨.box 189 [.arr .u64 5 h3_0], false⟩)], 4, 116⟩ => some (v1, v11, h0_0, h1_0, h2_0, h3_0)
 | _ => none
theorem V1_17_ok (st) (x) (h : V1_17 st = some x) : st = S1_17 x := by
 unfold V1_17 at h
 split at h
 · cases h; rfl
 · cases h
abbrev Y1_17 := X1_17
noncomputable def T1_17 : X1_17 → (X1_17 → Option R) → (Y1_17 → Option R) → Option R := fun (v1, v11, h0_0, h1_0, h2_0, h3_0) next ex => P.keccak_Permute_r1_17 v1 v11 h0_0 h1_0 h2_0 h3_0 (fun v1 v11 h0_0 h1_0 h2_0 h3_0 => next (v1, v11, h0_0, h1_0, h2_0, h3_0)) (fun v1 v11 h0_0 h1_0 h2_0 h3_0 => ex (v1, v11, h0_0, h1_0, h2_0, h3_0))
abbrev X2 := (List Int) × Int × (List Int) × (List Int)
def S2 : X2 → ASt := fun (v5, v6, h0_0, h1_0) => ⟨[(1, .ptr 0 0), (2, .ptr 1 0), (5, .arr .u64 24 v5), (6, .v (.int .i64 v6))], [(0, some ⟨.box 121 [.arr .u64 25 h0_0], false⟩), (1, some ⟨.box 121 [.arr .u64 25 h1_0], false⟩)], 2, 13⟩
def V2 : ASt → Option X2
 | ⟨[(1, .ptr 0 0), (2, .ptr 1 0), (5, .arr .u64 24 v5), (6, .v (.int .i64 v6))], [(0, some ⟨.box 121 [.arr .u64 25 h0_0], false⟩), (1, some ⟨.box 121 [.arr .u64 25 h1_0], false⟩)], 2, 13⟩ => some (v5, v6, h0_0, h1_0)
 | _ => none
theorem V2_ok (st) (x) (h : V2 st = some x) : st = S2 x := by
 unfold V2 at h
 split at h
 · cases h; rfl
 · cases h
abbrev Y2 := X2
noncomputable def T2 : X2 → (X2 → Option R) → (Y2 → Option R) → Option R := fun (v5, v6, h0_0, h1_0) next ex => P.keccak_Permute_r2 v5 v6 h0_0 h1_0 (fun v5 v6 h0_0 h1_0 => next (v5, v6, h0_0, h1_0)) (fun v5 v6 h0_0 h1_0 => ex (v5, v6, h0_0, h1_0))
def E2_2 (K : AExit → ASt → Option R) : Y2_2 → Option R := (fun x => K (.exit 0) (S2_2 x))
noncomputable def L2_2 : LSpec := fun st K => vMap (V2_2 st) fun (v4, h1_0, h0_0, h2_0) => P.keccak_Permute_l2_2 v4 h1_0 h0_0 h2_0 (fun v4 h1_0 h0_0 h2_0 => K (.exit 0) (S2_2 (v4, h1_0, h0_0, h2_0)))
def E1_6 (K : AExit → ASt → Option R) : Y1_6 → Option R := (fun x => K (.exit 2) (S1_6 x))
noncomputable def L1_6 : LSpec := fun st K => vMap (V1_6 st) fun (v1, v5, v6, v7, v16, h3_0, h2_0, h1_0, h0_0) => P.keccak_Permute_l1_6 v1 v5 v6 v7 v16 h3_0 h2_0 h1_0 h0_0 (fun v1 v5 v6 v7 v16 h3_0 h2_0 h1_0 h0_0 => K (.exit 2) (S1_6 (v1, v5, v6, v7, v16, h3_0, h2_0, h1_0, h0_0)))
def E1_2 (K : AExit → ASt → Option R) : Y1_2 → Option R := (fun x => K (.exit 0) (S1_2 x))
noncomputable def L1_2 : LSpec := fun st K => vMap (V1_2 st) fun (v1, v16, h0_0, h1_0, h2_0, h3_0) => P.keccak_Permute_l1_2 v1 v16 h0_0 h1_0 h2_0 h3_0 (fun v1 v16 h0_0 h1_0 h2_0 h3_0 => K (.exit 0) (S1_2 (v1, v16, h0_0, h1_0, h2_0, h3_0)))
def E1_12 (K : AExit → ASt → Option R) : Y1_12 → Option R := (fun x => K (.exit 4) (S1_12 x))
noncomputable def L1_12 : LSpec := fun st K => vMap (V1_12 st) fun (v1, v8, v51, v52, h3_0, h2_0, h1_0, h0_0) => P.keccak_Permute_l1_12 v1 v8 v51 v52 h3_0 h2_0 h1_0 h0_0 (fun v1 v8 v51 v52 h3_0 h2_0 h1_0 h0_0 => K (.exit 4) (S1_12 (v1, v8, v51, v52, h3_0, h2_0, h1_0, h0_0)))
def E1_21 (K : AExit → ASt → Option R) : Y1_21 → Option R := (fun x => K (.exit 8) (S1_21 x))
noncomputable def L1_21 : LSpec := fun st K => vMap (V1_21 st) fun (v1, v11, v83, h3_0, h2_0, h1_0, h0_0, h4_0) => P.keccak_Permute_l1_21 v1 v11 v83 h3_0 h2_0 h1_0 h0_0 h4_0 (fun v1 v11 v83 h3_0 h2_0 h1_0 h0_0 h4_0 => K (.exit 8) (S1_21 (v1, v11, v83, h3_0, h2_0, h1_0, h0_0, h4_0)))
def E1_17 (K : AExit → ASt → Option R) : Y1_17 → Option R := (fun x => K (.exit 6) (S1_17 x))
noncomputable def L1_17 : LSpec := fun st K => vMap (V1_17 st) fun (v1, v11, h0_0, h1_0, h2_0, h3_0) => P.keccak_Permute_l1_17 v1 v11 h0_0 h1_0 h2_0 h3_0 (fun v1 v11 h0_0 h1_0 h2_0 h3_0 => K (.exit 6) (S1_17 (v1, v11, h0_0, h1_0, h2_0, h3_0)))
def E2 (K : AExit → ASt → Option R) : Y2 → Option R := (fun x => K (.exit 0) (S2 x))
noncomputable def L2 : LSpec := fun st K => vMap (V2 st) fun (v5, v6, h0_0, h1_0) => P.keccak_Permute_l2 v5 v6 h0_0 h1_0 (fun v5 v6 h0_0 h1_0 => K (.exit 0) (S2 (v5, v6, h0_0, h1_0)))
noncomputable def D2 : Ctx := ({ P := Tryd.prog, G := [(153, math_bits_RotateLeft64.spec)], globs := GLO.gC, hints := [(2, ⟨[0, 2, 4], [], [2], [], none, []⟩)], loops := [(2, L2_2)], inl := [] } : Ctx)
noncomputable def D1 : Ctx := ({ P := Tryd.prog, G := [(153, math_bits_RotateLeft64.spec)], globs := GLO.gC, hints := [(21, ⟨[0, 1, 11, 12, 83], [], [], [], none, []⟩), (17, ⟨[0, 1, 11], [], [], [], none, []⟩), (12, ⟨[0, 1, 8, 51, 52], [], [], [], none, []⟩), (6, ⟨[0, 1, 4, 5, 6, 7, 16], [], [], [], none, []⟩), (2, ⟨[0, 1, 4, 16], [], [], [], none, []⟩)], loops := [(6, L1_6), (2, L1_2), (12, L1_12), (21, L1_21), (17, L1_17)], inl := [(152, bodyIn D2 Tryd.f152)] } : Ctx)
noncomputable def D : Ctx := ({ P := Tryd.prog, G := [(153, math_bits_RotateLeft64.spec)], globs := GLO.gC, hints := [(2, ⟨[1, 2, 5, 6], [], [2], [], none, []⟩)], loops := [(2, L2)], inl := [(140, bodyIn D1 Tryd.f140)] } : Ctx)
theorem round2_2 (K) (next) (x) : roundA D2 (loopAt Tryd.f152 2) K next (S2_2 x) = T2_2 x (fun x => next (S2_2 x)) (E2_2 K) := by kernel_rfl
theorem lq2_2 (st) (K) : L2_2 st K = vMap (V2_2 st) (fun x => lp T2_2 x (E2_2 K)) := by
 unfold L2_2
 cases V2_2 st with
 | none => rfl
 | some x => rw [P.keccak_Permute_l2_2_eq]; kernel_rfl
theorem loop2_2 : LoopOk D2 (loopAt Tryd.f152 2) := loopOk_lp S2_2 V2_2_ok (by kernel_rfl) lq2_2 round2_2
theorem round1_6 (K) (next) (x) : roundA D1 (loopAt Tryd.f140 6) K next (S1_6 x) = T1_6 x (fun x => next (S1_6 x)) (E1_6 K) := by kernel_rfl
theorem lq1_6 (st) (K) : L1_6 st K = vMap (V1_6 st) (fun x => lp T1_6 x (E1_6 K)) := by
 unfold L1_6
 cases V1_6 st with
 | none => rfl
 | some x => rw [P.keccak_Permute_l1_6_eq]; kernel_rfl
theorem loop1_6 : LoopOk D1 (loopAt Tryd.f140 6) := loopOk_lp S1_6 V1_6_ok (by kernel_rfl) lq1_6 round1_6
theorem round1_2 (K) (next) (x) : roundA D1 (loopAt Tryd.f140 2) K next (S1_2 x) = T1_2 x (fun x => next (S1_2 x)) (E1_2 K) := by kernel_rfl
theorem lq1_2 (st) (K) : L1_2 st K = vMap (V1_2 st) (fun x => lp T1_2 x (E1_2 K)) := by
 unfold L1_2
 cases V1_2 st with
 | none => rfl
 | some x => rw [P.keccak_Permute_l1_2_eq]; kernel_rfl
theorem loop1_2 : LoopOk D1 (loopAt Tryd.f140 2) := loopOk_lp S1_2 V1_2_ok (by kernel_rfl) lq1_2 round1_2
theorem round1_12 (K) (next) (x) : roundA D1 (loopAt Tryd.f140 12) K next (S1_12 x) = T1_12 x (fun x => next (S1_12 x)) (E1_12 K) := by kernel_rfl
theorem lq1_12 (st) (K) : L1_12 st K = vMap (V1_12 st) (fun x => lp T1_12 x (E1_12 K)) := by
 unfold L1_12
 cases V1_12 st with
 | none => rfl
 | some x => rw [P.keccak_Permute_l1_12_eq]; kernel_rfl
theorem loop1_12 : LoopOk D1 (loopAt Tryd.f140 12) := loopOk_lp S1_12 V1_12_ok (by kernel_rfl) lq1_12 round1_12
theorem round1_21 (K) (next) (x) : roundA D1 (loopAt Tryd.f140 21) K next (S1_21 x) = T1_21 x (fun x => next (S1_21 x)) (E1_21 K) := by kernel_rfl
theorem lq1_21 (st) (K) : L1_21 st K = vMap (V1_21 st) (fun x => lp T1_21 x (E1_21 K)) := by
 unfold L1_21
 cases V1_21 st with
 | none => rfl
 | some x => rw [P.keccak_Permute_l1_21_eq]; kernel_rfl
theorem loop1_21 : LoopOk D1 (loopAt Tryd.f140 21) := loopOk_lp S1_21 V1_21_ok (by kernel_rfl) lq1_21 round1_21
theorem round1_17 (K) (next) (x) : roundA D1 (loopAt Tryd.f140 17) K next (S1_17 x) = T1_17 x (fun x => next (S1_17 x)) (E1_17 K) := by kernel_rfl
theorem lq1_17 (st) (K) : L1_17 st K = vMap (V1_17 st) (fun x => lp T1_17 x (E1_17 K)) := by
 unfold L1_17
 cases V1_17 st with
 | none => rfl
 | some x => rw [P.keccak_Permute_l1_17_eq]; kernel_rfl
theorem loop1_17 : LoopOk D1 (loopAt Tryd.f140 17) := loopOk_lp S1_17 V1_17_ok (by kernel_rfl) lq1_17 round1_17
theorem round2 (K) (next) (x) : roundA D (loopAt Tryd.f124 2) K next (S2 x) = T2 x (fun x => next (S2 x)) (E2 K) := by kernel_rfl
theorem lq2 (st) (K) : L2 st K = vMap (V2 st) (fun x => lp T2 x (E2 K)) := by
 unfold L2
 cases V2 st with
 | none => rfl
 | some x => rw [P.keccak_Permute_l2_eq]; kernel_rfl
theorem loop2 : LoopOk D (loopAt Tryd.f124 2) := loopOk_lp S2 V2_ok (by kernel_rfl) lq2 round2
theorem body (a0 : List Int) (K : AVal → Option R) : bodyA D Tryd.f124 [.any] [.arr .u64 25 a0] K = P.keccak_Permute a0 (fun r0 => K (.arr .u64 25 r0)) := by
 rw [P.keccak_Permute_eq]
 kernel_rfl
theorem loops : loopsOf (Tryd.f124.body.getD .skip) = [loopAt Tryd.f124 2] := by kernel_rfl
theorem loops1 : loopsOf (Tryd.f140.body.getD .skip) = [loopAt Tryd.f140 2, loopAt Tryd.f140 6, loopAt Tryd.f140 12, loopAt Tryd.f140 17, loopAt Tryd.f140 21] := by kernel_rfl
theorem loops2 : loopsOf (Tryd.f152.body.getD .skip) = [loopAt Tryd.f152 2] := by kernel_rfl
noncomputable def spec0 : Abs.Spec := fun args K => match args with
 | [.arr .u64 25 a0] => P.keccak_Permute a0 (fun r0 => K (.arr .u64 25 r0))
 | _ => none
noncomputable def spec : Abs.Spec := spec0
theorem ok0 : Proved Tryd.prog GLO.gC 124 spec0 := by
 refine proved_of (D := D) (fn := Tryd.f124) (c := Tryd.f124.body.getD .skip) [.any] (by kernel_rfl) (globsPlain_of (by kernel_rfl)) (by kernel_rfl) (by kernel_rfl) (by kernel_rfl) ⟨math_bits_RotateLeft64.ok, trivial⟩ ⟨run_of (D := D1) (D' := D) (fn := Tryd.f140) (c := Tryd.f140.body.getD .skip) rfl rfl (by kernel_rfl) (globsPlain_of (by kernel_rfl)) (by kernel_rfl) (by kernel_rfl) (by kernel_rfl) ⟨math_bits_RotateLeft64.ok, trivial⟩ ⟨run_of (D := D2) (D' := D1) (fn := Tryd.f152) (c := Tryd.f152.body.getD .skip) rfl rfl (by kernel_rfl) (globsPlain_of (by kernel_rfl)) (by kernel_rfl) (by kernel_rfl) (by kernel_rfl) ⟨math_bits_RotateLeft64.ok, trivial⟩ trivial (by rw [loops2]; exact ⟨loop2_2, trivial⟩) (fun _ _ _ _ _ h => h), trivial⟩ (by rw [loops1]; exact ⟨loop1_2, loop1_6, loop1_12, loop1_17, loop1_21, trivial⟩) (fun _ _ _ _ _ h => h), trivial⟩ ?_ ?_
 · rw [loops]; exact ⟨loop2, trivial⟩
 · intro args K r h
   unfold spec0 at h
   split at h
   · rw [body]; exact h
   · cases h
theorem ok : Proved Tryd.prog GLO.gC 124 spec := ok0
end keccak_Permute
end

section
open Go Go.Abs Go.Proofs
set_option maxRecDepth 100000
set_option linter.unusedVariables false
namespace keccak_rate
noncomputable def D : Ctx := ({ P := Tryd.prog, G := [], globs := GLO.gC, hints := [], loops := [], inl := [] } : Ctx)
theorem body (a0 : Int) (K : AVal → Option R) : bodyA D Tryd.f122 [.any] [.v (.int .i64 a0)] K = P.keccak_rate a0 (fun r0 => K (.v (.int .i64 r0))) := by
 rw [P.keccak_rate_eq]
 kernel_rfl
theorem loops : loopsOf (Tryd.f122.body.getD .skip) = [] := by kernel_rfl
noncomputable def spec0 : Abs.Spec := fun args K => match args with
 | [.v (.int .i64 a0)] => P.keccak_rate a0 (fun r0 => K (.v (.int .i64 r0)))
 | _ => none
noncomputable def spec : Abs.Spec := spec0
theorem ok0 : Proved Tryd.prog GLO.gC 122 spec0 := by
 refine proved_of (D := D) (fn := Tryd.f122) (c := Tryd.f122.body.getD .skip) [.any] (by kernel_rfl) (globsPlain_of (by kernel_rfl)) (by kernel_rfl) (by kernel_rfl) (by kernel_rfl) trivial trivial ?_ ?_
 · rw [loops]; exact trivial
 · intro args K r h
   unfold spec0 at h
   split at h
   · rw [body]; exact h
   · cases h
theorem ok : Proved Tryd.prog GLO.gC 122 spec := ok0
end keccak_rate
end
