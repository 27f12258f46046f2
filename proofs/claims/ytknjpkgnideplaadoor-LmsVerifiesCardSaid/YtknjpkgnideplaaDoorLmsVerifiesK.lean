/-
  LmsVerifies, part K: an interpreter of my own over abstract values, the pure functions, the walks and the plain law.
-/

import Derived.Test.YtknjpkgnideplaaDoorLmsVerifiesG
import Derived.Test.YtknjpkgnideplaaDoorLmsVerifiesF
import Derived.Test.YtknjpkgnideplaaDoorLmsVerifiesJ
import Derived.Test.YtknjpkgnideplaaDoorProg
import Derived.KernelRfl
import Derived.Test.YtknjpkgnideplaaDoorLmsVerifiesI
import Derived.Test.YtknjpkgnideplaaDoorLmsVerifiesH

section
open Go Go.Abs Go.Proofs
set_option maxRecDepth 100000
set_option linter.unusedVariables false
namespace slices_Grow_byte
noncomputable def D : Ctx := ({ P := Tryd.prog, G := [], globs := GLO.gB, hints := [], loops := [], inl := [] } : Ctx)
theorem body (a1 : Int) (K : AVal → Option R) : bodyW D Tryd.f109 5 (.ints .u8 []) [.v (.slice none 0 0), .v (.int .i64 a1)] K = P.slices_Grow_byte a1 (fun r0 => K (.fr 5 (.ints .u8 r0))) := by
 rw [P.slices_Grow_byte_eq]
 kernel_rfl
theorem loops : loopsOf (Tryd.f109.body.getD .skip) = [] := by kernel_rfl
noncomputable def spec0 : Abs.Spec := fun args K => match args with
 | [.v (.slice none 0 0), .v (.int .i64 a1)] => P.slices_Grow_byte a1 (fun r0 => K (.fr 5 (.ints .u8 r0)))
 | _ => none
noncomputable def spec : Abs.Spec := spec0
theorem ok0 : Proved Tryd.prog GLO.gB 109 spec0 := by
 refine provedW_of (D := D) (fn := Tryd.f109) (c := Tryd.f109.body.getD .skip) 5 (.ints .u8 []) (by kernel_rfl) (globsPlain_of (by kernel_rfl)) (by kernel_rfl) (by kernel_rfl) (by kernel_rfl) trivial trivial ?_ ?_
 · rw [loops]; exact trivial
 · intro args K r h
   unfold spec0 at h
   split at h
   · rw [body]; exact h
   · cases h
theorem ok : Proved Tryd.prog GLO.gB 109 spec := ok0
end slices_Grow_byte
end

section
open Go Go.Abs Go.Proofs
set_option maxRecDepth 100000
set_option linter.unusedVariables false
namespace slices_Concat_byte
abbrev X3 := (List (List Int)) × Int × (List (List Int)) × Int × Int
def S3 : X3 → ASt := fun (v0, v3, v9, v10, v11) => ⟨[(0, .sl (.rows .u8 v0)), (3, .v (.int .i64 v3)), (9, .sl (.rows .u8 v9)), (10, .v (.int .i64 v10)), (11, .v (.int .i64 v11))], [], 0, 36⟩
def V3 : ASt → Option X3
 | ⟨[(0, .sl (.rows .u8 v0)), (3, .v (.int .i64 v3)), (9, .sl (.rows .u8 v9)), (10, .v (.int .i64 v10)), (11, .v (.int .i64 v11))], [], 0, 36⟩ => some (v0, v3, v9, v10, v11)
 | _ => none
theorem V3_ok (st) (x) (h : V3 st = some x) : st = S3 x := by
 unfold V3 at h
 split at h
 · cases h; rfl
 · cases h
abbrev Y3 := X3
noncomputable def T3 : X3 → (X3 → Option R) → (Y3 → Option R) → Option R := fun (v0, v3, v9, v10, v11) next ex => P.slices_Concat_byte_r3 v0 v3 v9 v10 v11 (fun v0 v3 v9 v10 v11 => next (v0, v3, v9, v10, v11)) (fun v0 v3 v9 v10 v11 => ex (v0, v3, v9, v10, v11))
abbrev X11 := (List (List Int)) × Int × Int × (List Int)
def S11 : X11 → ASt := fun (v25, v26, v27, h1) => ⟨[(6, .own 1), (25, .sl (.rows .u8 v25)), (26, .v (.int .i64 v26)), (27, .v (.int .i64 v27))], [(1, some ⟨.row 5 (.ints .u8 h1), false⟩), (0, none)], 2, 36⟩
def V11 : ASt → Option X11
 | ⟨[(6, .own 1), (25, .sl (.rows .u8 v25)), (26, .v (.int .i64 v26)), (27, .v (.int .i64 v27))], [(1, some ⟨.row 5 (.ints .u8 h1), false⟩), (0, none)], 2, 36⟩ => some (v25, v26, v27, h1)
 | _ => none
theorem V11_ok (st) (x) (h : V11 st = some x) : st = S11 x := by
 unfold V11 at h
 split at h
 · cases h; rfl
 · cases h
abbrev Y11 := X11
noncomputable def T11 : X11 → (X11 → Option R) → (Y11 → Option R) → Option R := fun (v25, v26, v27, h1) next ex => P.slices_Concat_byte_r11 v25 v26 v27 h1 (fun v25 v26 v27 h1 => next (v25, v26, v27, h1)) (fun v25 v26 v27 h1 => ex (v25, v26, v27, h1))
def E3 (K : AExit → ASt → Option R) : Y3 → Option R := (fun x => K (.exit 0) (S3 x))
noncomputable def L3 : LSpec := fun st K => vMap (V3 st) fun (v0, v3, v9, v10, v11) => P.slices_Concat_byte_l3 v0 v3 v9 v10 v11 (fun v0 v3 v9 v10 v11 => K (.exit 0) (S3 (v0, v3, v9, v10, v11)))
def E11 (K : AExit → ASt → Option R) : Y11 → Option R := (fun x => K (.exit 2) (S11 x))
noncomputable def L11 : LSpec := fun st K => vMap (V11 st) fun (v25, v26, v27, h1) => P.slices_Concat_byte_l11 v25 v26 v27 h1 (fun v25 v26 v27 h1 => K (.exit 2) (S11 (v25, v26, v27, h1)))
noncomputable def D : Ctx := ({ P := Tryd.prog, G := [(109, slices_Grow_byte.spec)], globs := GLO.gB, hints := [(11, ⟨[25, 26, 27], [(6, 5, .ints .u8 [])], [2], [], none, []⟩), (3, ⟨[0, 3, 9, 10, 11], [], [2], [], none, []⟩)], loops := [(3, L3), (11, L11)], inl := [] } : Ctx)
theorem round3 (K) (next) (x) : roundA D (loopAt Tryd.f59 3) K next (S3 x) = T3 x (fun x => next (S3 x)) (E3 K) := by kernel_rfl
theorem lq3 (st) (K) : L3 st K = vMap (V3 st) (fun x => lp T3 x (E3 K)) := by
 unfold L3
 cases V3 st with
 | none => rfl
 | some x => rw [P.slices_Concat_byte_l3_eq]; kernel_rfl
theorem loop3 : LoopOk D (loopAt Tryd.f59 3) := loopOk_lp S3 V3_ok (by kernel_rfl) lq3 round3
theorem round11 (K) (next) (x) : roundA D (loopAt Tryd.f59 11) K next (S11 x) = T11 x (fun x => next (S11 x)) (E11 K) := by kernel_rfl
theorem lq11 (st) (K) : L11 st K = vMap (V11 st) (fun x => lp T11 x (E11 K)) := by
 unfold L11
 cases V11 st with
 | none => rfl
 | some x => rw [P.slices_Concat_byte_l11_eq]; kernel_rfl
theorem loop11 : LoopOk D (loopAt Tryd.f59 11) := loopOk_lp S11 V11_ok (by kernel_rfl) lq11 round11
theorem body (a0 : List (List Int)) (K : AVal → Option R) : bodyA D Tryd.f59 [.fr 5 (.ints .u8 [])] [.sl (.rows .u8 a0)] K = P.slices_Concat_byte a0 (fun r0 => K (.fr 5 (.ints .u8 r0))) := by
 rw [P.slices_Concat_byte_eq]
 kernel_rfl
theorem loops : loopsOf (Tryd.f59.body.getD .skip) = [loopAt Tryd.f59 3, loopAt Tryd.f59 11] := by kernel_rfl
noncomputable def spec0 : Abs.Spec := fun args K => match args with
 | [.sl (.rows .u8 a0)] => P.slices_Concat_byte a0 (fun r0 => K (.fr 5 (.ints .u8 r0)))
 | _ => none
noncomputable def spec : Abs.Spec := fun args K => spec0 (coerL [.sl (.rows .u8 [])] args) K
theorem ok0 : Proved Tryd.prog GLO.gB 59 spec0 := by
 refine proved_of (D := D) (fn := Tryd.f59) (c := Tryd.f59.body.getD .skip) [.fr 5 (.ints .u8 [])] (by kernel_rfl) (globsPlain_of (by kernel_rfl)) (by kernel_rfl) (by kernel_rfl) (by kernel_rfl) ⟨slices_Grow_byte.ok, trivial⟩ trivial ?_ ?_
 · rw [loops]; exact ⟨loop3, loop11, trivial⟩
 · intro args K r h
   unfold spec0 at h
   split at h
   · rw [body]; exact h
   · cases h
theorem ok : Proved Tryd.prog GLO.gB 59 spec := proved_coer _ ok0
end slices_Concat_byte
end

section
open Go Go.Abs Go.Proofs
set_option maxRecDepth 100000
set_option linter.unusedVariables false
namespace bits_Join
noncomputable def D : Ctx := ({ P := Tryd.prog, G := [(59, slices_Concat_byte.spec)], globs := GLO.gB, hints := [], loops := [], inl := [] } : Ctx)
theorem body (a0 : List (List Int)) (K : AVal → Option R) : bodyA D Tryd.f76 [.fr 5 (.ints .u8 [])] [.sl (.rows .u8 a0)] K = P.bits_Join a0 (fun r0 => K (.fr 5 (.ints .u8 r0))) := by
 rw [P.bits_Join_eq]
 kernel_rfl
theorem loops : loopsOf (Tryd.f76.body.getD .skip) = [] := by kernel_rfl
noncomputable def spec0 : Abs.Spec := fun args K => match args with
 | [.sl (.rows .u8 a0)] => P.bits_Join a0 (fun r0 => K (.fr 5 (.ints .u8 r0)))
 | _ => none
noncomputable def spec : Abs.Spec := fun args K => spec0 (coerL [.sl (.rows .u8 [])] args) K
theorem ok0 : Proved Tryd.prog GLO.gB 76 spec0 := by
 refine proved_of (D := D) (fn := Tryd.f76) (c := Tryd.f76.body.getD .skip) [.fr 5 (.ints .u8 [])] (by kernel_rfl) (globsPlain_of (by kernel_rfl)) (by kernel_rfl) (by kernel_rfl) (by kernel_rfl) ⟨slices_Concat_byte.ok, trivial⟩ trivial ?_ ?_
 · rw [loops]; exact trivial
 · intro args K r h
   unfold spec0 at h
   split at h
   · rw [body]; exact h
   · cases h
theorem ok : Proved Tryd.prog GLO.gB 76 spec := proved_coer _ ok0
end bits_Join
end

section
open Go Go.Abs Go.Proofs
set_option maxRecDepth 100000
set_option linter.unusedVariables false
namespace lms_digit
noncomputable def D : Ctx := ({ P := Tryd.prog, G := [], globs := GLO.gB, hints := [], loops := [], inl := [] } : Ctx)
theorem body (a0 : Int) (K : AVal → Option R) : bodyA D Tryd.f100 [.any] [.v (.int .u64 a0)] K = P.lms_digit a0 (fun r0 => K (.v (.int .i64 r0))) := by
 rw [P.lms_digit_eq]
 kernel_rfl
theorem loops : loopsOf (Tryd.f100.body.getD .skip) = [] := by kernel_rfl
noncomputable def spec0 : Abs.Spec := fun args K => match args with
 | [.v (.int .u64 a0)] => P.lms_digit a0 (fun r0 => K (.v (.int .i64 r0)))
 | _ => none
noncomputable def spec : Abs.Spec := spec0
theorem ok0 : Proved Tryd.prog GLO.gB 100 spec0 := by
 refine proved_of (D := D) (fn := Tryd.f100) (c := Tryd.f100.body.getD .skip) [.any] (by kernel_rfl) (globsPlain_of (by kernel_rfl)) (by kernel_rfl) (by kernel_rfl) (by kernel_rfl) trivial trivial ?_ ?_
 · rw [loops]; exact trivial
 · intro args K r h
   unfold spec0 at h
   split at h
   · rw [body]; exact h
   · cases h
theorem ok : Proved Tryd.prog GLO.gB 100 spec := ok0
end lms_digit
end

section
open Go Go.Abs Go.Proofs
set_option maxRecDepth 100000
set_option linter.unusedVariables false
namespace lms_height
noncomputable def D : Ctx := ({ P := Tryd.prog, G := [], globs := GLO.gB, hints := [], loops := [], inl := [] } : Ctx)
theorem body (a0 : Int) (K : AVal → Option R) : bodyA D Tryd.f101 [.any] [.v (.int .u64 a0)] K = P.lms_height a0 (fun r0 => K (.v (.int .i64 r0))) := by
 rw [P.lms_height_eq]
 kernel_rfl
theorem loops : loopsOf (Tryd.f101.body.getD .skip) = [] := by kernel_rfl
noncomputable def spec0 : Abs.Spec := fun args K => match args with
 | [.v (.int .u64 a0)] => P.lms_height a0 (fun r0 => K (.v (.int .i64 r0)))
 | _ => none
noncomputable def spec : Abs.Spec := spec0
theorem ok0 : Proved Tryd.prog GLO.gB 101 spec0 := by
 refine proved_of (D := D) (fn := Tryd.f101) (c := Tryd.f101.body.getD .skip) [.any] (by kernel_rfl) (globsPlain_of (by kernel_rfl)) (by kernel_rfl) (by kernel_rfl) (by kernel_rfl) trivial trivial ?_ ?_
 · rw [loops]; exact trivial
 · intro args K r h
   unfold spec0 at h
   split at h
   · rw [body]; exact h
   · cases h
theorem ok : Proved Tryd.prog GLO.gB 101 spec := ok0
end lms_height
end

section
open Go Go.Abs Go.Proofs
set_option maxRecDepth 100000
set_option linter.unusedVariables false
namespace lms_Cut
noncomputable def D : Ctx := ({ P := Tryd.prog, G := [(51, lmots_Size.spec), (75, bits_Num.spec), (76, bits_Join.spec), (98, lms_Size.spec), (100, lms_digit.spec), (101, lms_height.spec)], globs := GLO.gB, hints := [], loops := [], inl := [] } : Ctx)
theorem body (a0 : List Int) (K : AVal → Option R) : bodyA D Tryd.f54 [.fr 5 (.ints .u8 []), .any, .fr 5 (.ints .u8 []), .any] [.sl (.ints .u8 a0)] K = P.lms_Cut a0 (fun r0 r1_H r1_W r2 r3 => K (.tuple [.fr 5 (.ints .u8 r0), .agg [.v (.int .i64 r1_H), .v (.int .i64 r1_W)], .fr 5 (.ints .u8 r2), .v (.int .i64 r3)])) := by
 rw [P.lms_Cut_eq]
 kernel_rfl
theorem loops : loopsOf (Tryd.f54.body.getD .skip) = [] := by kernel_rfl
noncomputable def spec0 : Abs.Spec := fun args K => match args with
 | [.sl (.ints .u8 a0)] => P.lms_Cut a0 (fun r0 r1_H r1_W r2 r3 => K (.tuple [.fr 5 (.ints .u8 r0), .agg [.v (.int .i64 r1_H), .v (.int .i64 r1_W)], .fr 5 (.ints .u8 r2), .v (.int .i64 r3)]))
 | _ => none
noncomputable def spec : Abs.Spec := fun args K => spec0 (coerL [.sl (.ints .u8 [])] args) K
theorem ok0 : Proved Tryd.prog GLO.gB 54 spec0 := by
 refine proved_of (D := D) (fn := Tryd.f54) (c := Tryd.f54.body.getD .skip) [.fr 5 (.ints .u8 []), .any, .fr 5 (.ints .u8 []), .any] (by kernel_rfl) (globsPlain_of (by kernel_rfl)) (by kernel_rfl) (by kernel_rfl) (by kernel_rfl) ⟨lmots_Size.ok, bits_Num.ok, bits_Join.ok, lms_Size.ok, lms_digit.ok, lms_height.ok, trivial⟩ trivial ?_ ?_
 · rw [loops]; exact trivial
 · intro args K r h
   unfold spec0 at h
   split at h
   · rw [body]; exact h
   · cases h
theorem ok : Proved Tryd.prog GLO.gB 54 spec := proved_coer _ ok0
end lms_Cut
end

section
open Go Go.Abs Go.Proofs
set_option maxRecDepth 100000
set_option linter.unusedVariables false
namespace bits_Le
abbrev X5 := Int × Int × Int × (List Int)
def S5 : X5 → ASt := fun (v0, v16, v17, h0) => ⟨[(0, .v (.int .u64 v0)), (5, .own 0), (16, .v (.int .i64 v16)), (17, .v (.int .i64 v17))], [(0, some ⟨.row 5 (.ints .u8 h0), false⟩)], 1, 30⟩
def V5 : ASt → Option X5
 | ⟨[(0, .v (.int .u64 v0)), (5, .own 0), (16, .v (.int .i64 v16)), (17, .v (.int .i64 v17))], [(0, some ⟨.row 5 (.ints .u8 h0), false⟩)], 1, 30⟩ => some (v0, v16, v17, h0)
 | _ => none
theorem V5_ok (st) (x) (h : V5 st = some x) : st = S5 x := by
 unfold V5 at h
 split at h
 · cases h; rfl
 · cases h
abbrev Y5 := X5
noncomputable def T5 : X5 → (X5 → Option R) → (Y5 → Option R) → Option R := fun (v0, v16, v17, h0) next ex => P.bits_Le_r5 v0 v16 v17 h0 (fun v0 v16 v17 h0 => next (v0, v16, v17, h0)) (fun v0 v16 v17 h0 => ex (v0, v16, v17, h0))
def E5 (K : AExit → ASt → Option R) : Y5 → Option R := (fun x => K (.exit 0) (S5 x))
noncomputable def L5 : LSpec := fun st K => vMap (V5 st) fun (v0, v16, v17, h0) => P.bits_Le_l5 v0 v16 v17 h0 (fun v0 v16 v17 h0 => K (.exit 0) (S5 (v0, v16, v17, h0)))
noncomputable def D : Ctx := ({ P := Tryd.prog, G := [], globs := [(0, [.arr .u32 64 P.roots256]), (1, [.arr .u64 80 P.roots512])], hints := [(5, ⟨[0, 5, 16, 17], [], [4], [], none, []⟩)], loops := [(5, L5)], inl := [] } : Ctx)
theorem round5 (K) (next) (x) : roundA D (loopAt Tryd.f118 5) K next (S5 x) = T5 x (fun x => next (S5 x)) (E5 K) := by kernel_rfl
theorem lq5 (st) (K) : L5 st K = vMap (V5 st) (fun x => lp T5 x (E5 K)) := by
 unfold L5
 cases V5 st with
 | none => rfl
 | some x => rw [P.bits_Le_l5_eq]; kernel_rfl
theorem loop5 : LoopOk D (loopAt Tryd.f118 5) := loopOk_lp S5 V5_ok (by kernel_rfl) lq5 round5
theorem body (a0 : Int) (a1 : Int) (K : AVal → Option R) : bodyA D Tryd.f118 [.fr 5 (.ints .u8 [])] [.v (.int .u64 a0), .v (.int .i64 a1)] K = P.bits_Le a0 a1 (fun r0 => K (.fr 5 (.ints .u8 r0))) := by
 rw [P.bits_Le_eq]
 kernel_rfl
theorem loops : loopsOf (Tryd.f118.body.getD .skip) = [loopAt Tryd.f118 5] := by kernel_rfl
noncomputable def spec0 : Abs.Spec := fun args K => match args with
 | [.v (.int .u64 a0), .v (.int .i64 a1)] => P.bits_Le a0 a1 (fun r0 => K (.fr 5 (.ints .u8 r0)))
 | _ => none
noncomputable def spec : Abs.Spec := spec0
theorem ok0 : Proved Tryd.prog [(0, [.arr .u32 64 P.roots256]), (1, [.arr .u64 80 P.roots512])] 118 spec0 := by
 refine proved_of (D := D) (fn := Tryd.f118) (c := Tryd.f118.body.getD .skip) [.fr 5 (.ints .u8 [])] (by kernel_rfl) (globsPlain_of (by kernel_rfl)) (by kernel_rfl) (by kernel_rfl) (by kernel_rfl) trivial trivial ?_ ?_
 · rw [loops]; exact ⟨loop5, trivial⟩
 · intro args K r h
   unfold spec0 at h
   split at h
   · rw [body]; exact h
   · cases h
theorem ok : Proved Tryd.prog [(0, [.arr .u32 64 P.roots256]), (1, [.arr .u64 80 P.roots512])] 118 spec := ok0
end bits_Le
end

section
open Go Go.Abs Go.Proofs
set_option maxRecDepth 100000
set_option linter.unusedVariables false
namespace bits_Be
abbrev X1_1 := Int × Int × (List Int)
def S1_1 : X1_1 → ASt := fun (v2, v3, h0) => ⟨[(0, .own 0), (2, .v (.int .i64 v2)), (3, .v (.int .i64 v3))], [(0, some ⟨.row 5 (.ints .u8 h0), false⟩)], 1, 28⟩
def V1_1 : ASt → Option X1_1
 | ⟨[(0, .own 0), (2, .v (.int .i64 v2)), (3, .v (.int .i64 v3))], [(0, some ⟨.row 5 (.ints .u8 h0), false⟩)], 1, 28⟩ => some (v2, v3, h0)
 | _ => none
theorem V1_1_ok (st) (x) (h : V1_1 st = some x) : st = S1_1 x := by
 unfold V1_1 at h
 split at h
 · cases h; rfl
 · cases h
abbrev Y1_1 := X1_1
noncomputable def T1_1 : X1_1 → (X1_1 → Option R) → (Y1_1 → Option R) → Option R := fun (v2, v3, h0) next ex => P.bits_Be_r1_1 v2 v3 h0 (fun v2 v3 h0 => next (v2, v3, h0)) (fun v2 v3 h0 => ex (v2, v3, h0))
def E1_1 (K : AExit → ASt → Option R) : Y1_1 → Option R := (fun x => K (.exit 0) (S1_1 x))
noncomputable def L1_1 : LSpec := fun st K => vMap (V1_1 st) fun (v2, v3, h0) => P.bits_Be_l1_1 v2 v3 h0 (fun v2 v3 h0 => K (.exit 0) (S1_1 (v2, v3, h0)))
noncomputable def D1 : Ctx := ({ P := Tryd.prog, G := [(118, bits_Le.spec)], globs := [(0, [.arr .u32 64 P.roots256]), (1, [.arr .u64 80 P.roots512])], hints := [(1, ⟨[0, 2, 3], [], [], [], none, []⟩)], loops := [(1, L1_1)], inl := [] } : Ctx)
noncomputable def D : Ctx := ({ P := Tryd.prog, G := [(118, bits_Le.spec)], globs := [(0, [.arr .u32 64 P.roots256]), (1, [.arr .u64 80 P.roots512])], hints := [], loops := [], inl := [(119, bodyIn D1 Tryd.f119)] } : Ctx)
theorem round1_1 (K) (next) (x) : roundA D1 (loopAt Tryd.f119 1) K next (S1_1 x) = T1_1 x (fun x => next (S1_1 x)) (E1_1 K) := by kernel_rfl
theorem lq1_1 (st) (K) : L1_1 st K = vMap (V1_1 st) (fun x => lp T1_1 x (E1_1 K)) := by
 unfold L1_1
 cases V1_1 st with
 | none => rfl
 | some x => rw [P.bits_Be_l1_1_eq]; kernel_rfl
theorem loop1_1 : LoopOk D1 (loopAt Tryd.f119 1) := loopOk_lp S1_1 V1_1_ok (by kernel_rfl) lq1_1 round1_1
theorem body (a0 : Int) (a1 : Int) (K : AVal → Option R) : bodyA D Tryd.f68 [.fr 5 (.ints .u8 [])] [.v (.int .u64 a0), .v (.int .i64 a1)] K = P.bits_Be a0 a1 (fun r0 => K (.fr 5 (.ints .u8 r0))) := by
 rw [P.bits_Be_eq]
 kernel_rfl
theorem loops : loopsOf (Tryd.f68.body.getD .skip) = [] := by kernel_rfl
theorem loops1 : loopsOf (Tryd.f119.body.getD .skip) = [loopAt Tryd.f119 1] := by kernel_rfl
noncomputable def spec0 : Abs.Spec := fun args K => match args with
 | [.v (.int .u64 a0), .v (.int .i64 a1)] => P.bits_Be a0 a1 (fun r0 => K (.fr 5 (.ints .u8 r0)))
 | _ => none
noncomputable def spec : Abs.Spec := spec0
theorem ok0 : Proved Tryd.prog [(0, [.arr .u32 64 P.roots256]), (1, [.arr .u64 80 P.roots512])] 68 spec0 := by
 refine proved_of (D := D) (fn := Tryd.f68) (c := Tryd.f68.body.getD .skip) [.fr 5 (.ints .u8 [])] (by kernel_rfl) (globsPlain_of (by kernel_rfl)) (by kernel_rfl) (by kernel_rfl) (by kernel_rfl) ⟨bits_Le.ok, trivial⟩ ⟨run_of (D := D1) (D' := D) (fn := Tryd.f119) (c := Tryd.f119.body.getD .skip) rfl rfl (by kernel_rfl) (globsPlain_of (by kernel_rfl)) (by kernel_rfl) (by kernel_rfl) (by kernel_rfl) ⟨bits_Le.ok, trivial⟩ trivial (by rw [loops1]; exact ⟨loop1_1, trivial⟩) (fun _ _ _ _ _ h => h), trivial⟩ ?_ ?_
 · rw [loops]; exact trivial
 · intro args K r h
   unfold spec0 at h
   split at h
   · rw [body]; exact h
   · cases h
theorem ok : Proved Tryd.prog [(0, [.arr .u32 64 P.roots256]), (1, [.arr .u64 80 P.roots512])] 68 spec := ok0
end bits_Be
end

section
open Go Go.Abs Go.Proofs
set_option maxRecDepth 100000
set_option linter.unusedVariables false
namespace lms_head
noncomputable def D : Ctx := ({ P := Tryd.prog, G := [(68, bits_Be.spec), (76, bits_Join.spec), (125, lms_code.spec), (126, lms_leafCode.spec)], globs := GLO.gB, hints := [], loops := [], inl := [] } : Ctx)
theorem body (a0_H : Int) (a0_W : Int) (K : AVal → Option R) : bodyA D Tryd.f104 [.fr 5 (.ints .u8 [])] [.agg [.v (.int .i64 a0_H), .v (.int .i64 a0_W)]] K = P.lms_head a0_H a0_W (fun r0 => K (.fr 5 (.ints .u8 r0))) := by
 rw [P.lms_head_eq]
 kernel_rfl
theorem loops : loopsOf (Tryd.f104.body.getD .skip) = [] := by kernel_rfl
noncomputable def spec0 : Abs.Spec := fun args K => match args with
 | [.agg [.v (.int .i64 a0_H), .v (.int .i64 a0_W)]] => P.lms_head a0_H a0_W (fun r0 => K (.fr 5 (.ints .u8 r0)))
 | _ => none
noncomputable def spec : Abs.Spec := spec0
theorem ok0 : Proved Tryd.prog GLO.gB 104 spec0 := by
 refine proved_of (D := D) (fn := Tryd.f104) (c := Tryd.f104.body.getD .skip) [.fr 5 (.ints .u8 [])] (by kernel_rfl) (globsPlain_of (by kernel_rfl)) (by kernel_rfl) (by kernel_rfl) (by kernel_rfl) ⟨bits_Be.ok, bits_Join.ok, lms_code.ok, lms_leafCode.ok, trivial⟩ trivial ?_ ?_
 · rw [loops]; exact trivial
 · intro args K r h
   unfold spec0 at h
   split at h
   · rw [body]; exact h
   · cases h
theorem ok : Proved Tryd.prog GLO.gB 104 spec := ok0
end lms_head
end

section
open Go Go.Abs Go.Proofs
set_option maxRecDepth 100000
set_option linter.unusedVariables false
namespace lmots_began
noncomputable def D : Ctx := ({ P := Tryd.prog, G := [(97, lmots_known.spec)], globs := GLO.gB, hints := [], loops := [], inl := [] } : Ctx)
theorem body (a0 : Int) (a1 : List Int) (a2 : Int) (K : AVal → Option R) : bodyA D Tryd.f95 [.agg [.any, .sl (.ints .u8 []), .any, .any, .any, .any], .any] [.v (.int .i64 a0), .sl (.ints .u8 a1), .v (.int .u32 a2)] K = P.lmots_began a0 a1 a2 (fun r0_w r0_id r0_q r0_kind_digits r0_kind_shift r0_kind_code r1 => K (.tuple [.agg [.v (.int .i64 r0_w), .sl (.ints .u8 r0_id), .v (.int .u32 r0_q), .v (.int .i64 r0_kind_digits), .v (.int .i64 r0_kind_shift), .v (.int .i64 r0_kind_code)], .v (.int .i64 r1)])) := by
 rw [P.lmots_began_eq]
 kernel_rfl
theorem loops : loopsOf (Tryd.f95.body.getD .skip) = [] := by kernel_rfl
noncomputable def spec0 : Abs.Spec := fun args K => match args with
 | [.v (.int .i64 a0), .sl (.ints .u8 a1), .v (.int .u32 a2)] => P.lmots_began a0 a1 a2 (fun r0_w r0_id r0_q r0_kind_digits r0_kind_shift r0_kind_code r1 => K (.tuple [.agg [.v (.int .i64 r0_w), .sl (.ints .u8 r0_id), .v (.int .u32 r0_q), .v (.int .i64 r0_kind_digits), .v (.int .i64 r0_kind_shift), .v (.int .i64 r0_kind_code)], .v (.int .i64 r1)]))
 | _ => none
noncomputable def spec : Abs.Spec := fun args K => spec0 (coerL [.any, .sl (.ints .u8 []), .any] args) K
theorem ok0 : Proved Tryd.prog GLO.gB 95 spec0 := by
 refine proved_of (D := D) (fn := Tryd.f95) (c := Tryd.f95.body.getD .skip) [.agg [.any, .sl (.ints .u8 []), .any, .any, .any, .any], .any] (by kernel_rfl) (globsPlain_of (by kernel_rfl)) (by kernel_rfl) (by kernel_rfl) (by kernel_rfl) ⟨lmots_known.ok, trivial⟩ trivial ?_ ?_
 · rw [loops]; exact trivial
 · intro args K r h
   unfold spec0 at h
   split at h
   · rw [body]; exact h
   · cases h
theorem ok : Proved Tryd.prog GLO.gB 95 spec := proved_coer _ ok0
end lmots_began
end

section
open Go Go.Abs Go.Proofs
set_option maxRecDepth 100000
set_option linter.unusedVariables false
namespace sha_root512
noncomputable def D : Ctx := ({ P := Tryd.prog, G := [], globs := GLO.gB, hints := [], loops := [], inl := [] } : Ctx)
theorem body (a0 : Int) (K : AVal → Option R) : bodyA D Tryd.f113 [.any] [.v (.int .i64 a0)] K = P.sha_root512 a0 (fun r0 => K (.v (.int .u64 r0))) := by
 rw [P.sha_root512_eq]
 kernel_rfl
theorem loops : loopsOf (Tryd.f113.body.getD .skip) = [] := by kernel_rfl
noncomputable def spec0 : Abs.Spec := fun args K => match args with
 | [.v (.int .i64 a0)] => P.sha_root512 a0 (fun r0 => K (.v (.int .u64 r0)))
 | _ => none
noncomputable def spec : Abs.Spec := spec0
theorem ok0 : Proved Tryd.prog GLO.gB 113 spec0 := by
 refine proved_of (D := D) (fn := Tryd.f113) (c := Tryd.f113.body.getD .skip) [.any] (by kernel_rfl) (globsPlain_of (by kernel_rfl)) (by kernel_rfl) (by kernel_rfl) (by kernel_rfl) trivial trivial ?_ ?_
 · rw [loops]; exact trivial
 · intro args K r h
   unfold spec0 at h
   split at h
   · rw [body]; exact h
   · cases h
theorem ok : Proved Tryd.prog GLO.gB 113 spec := ok0
end sha_root512
end

section
open Go Go.Abs Go.Proofs
set_option maxRecDepth 100000
set_option linter.unusedVariables false
namespace sha_great
noncomputable def D : Ctx := ({ P := Tryd.prog, G := [(113, sha_root512.spec)], globs := GLO.gB, hints := [], loops := [], inl := [] } : Ctx)
theorem body  (K : AVal → Option R) : bodyA D Tryd.f63 [.any] [] K = P.sha_great (fun r0_bits r0_rounds r0_turns_0 r0_turns_1 r0_turns_2 r0_turns_3 => K (.agg [.v (.int .i64 r0_bits), .v (.int .i64 r0_rounds), .arr .i64 3 r0_turns_0, .arr .i64 3 r0_turns_1, .arr .i64 3 r0_turns_2, .arr .i64 3 r0_turns_3, .fn (.func 113) [] []])) := by
 rw [P.sha_great_eq]
 kernel_rfl
theorem loops : loopsOf (Tryd.f63.body.getD .skip) = [] := by kernel_rfl
noncomputable def spec0 : Abs.Spec := fun args K => match args with
 | [] => P.sha_great (fun r0_bits r0_rounds r0_turns_0 r0_turns_1 r0_turns_2 r0_turns_3 => K (.agg [.v (.int .i64 r0_bits), .v (.int .i64 r0_rounds), .arr .i64 3 r0_turns_0, .arr .i64 3 r0_turns_1, .arr .i64 3 r0_turns_2, .arr .i64 3 r0_turns_3, .fn (.func 113) [] []]))
 | _ => none
noncomputable def spec : Abs.Spec := spec0
theorem ok0 : Proved Tryd.prog GLO.gB 63 spec0 := by
 refine proved_of (D := D) (fn := Tryd.f63) (c := Tryd.f63.body.getD .skip) [.any] (by kernel_rfl) (globsPlain_of (by kernel_rfl)) (by kernel_rfl) (by kernel_rfl) (by kernel_rfl) ⟨sha_root512.ok, trivial⟩ trivial ?_ ?_
 · rw [loops]; exact trivial
 · intro args K r h
   unfold spec0 at h
   split at h
   · rw [body]; exact h
   · cases h
theorem ok : Proved Tryd.prog GLO.gB 63 spec := ok0
end sha_great
end

section
open Go Go.Abs Go.Proofs
set_option maxRecDepth 100000
set_option linter.unusedVariables false
namespace sha_root256
noncomputable def D : Ctx := ({ P := Tryd.prog, G := [], globs := GLO.gB, hints := [], loops := [], inl := [] } : Ctx)
theorem body (a0 : Int) (K : AVal → Option R) : bodyA D Tryd.f111 [.any] [.v (.int .i64 a0)] K = P.sha_root256 a0 (fun r0 => K (.v (.int .u32 r0))) := by
 rw [P.sha_root256_eq]
 kernel_rfl
theorem loops : loopsOf (Tryd.f111.body.getD .skip) = [] := by kernel_rfl
noncomputable def spec0 : Abs.Spec := fun args K => match args with
 | [.v (.int .i64 a0)] => P.sha_root256 a0 (fun r0 => K (.v (.int .u32 r0)))
 | _ => none
noncomputable def spec : Abs.Spec := spec0
theorem ok0 : Proved Tryd.prog GLO.gB 111 spec0 := by
 refine proved_of (D := D) (fn := Tryd.f111) (c := Tryd.f111.body.getD .skip) [.any] (by kernel_rfl) (globsPlain_of (by kernel_rfl)) (by kernel_rfl) (by kernel_rfl) (by kernel_rfl) trivial trivial ?_ ?_
 · rw [loops]; exact trivial
 · intro args K r h
   unfold spec0 at h
   split at h
   · rw [body]; exact h
   · cases h
theorem ok : Proved Tryd.prog GLO.gB 111 spec := ok0
end sha_root256
end

section
open Go Go.Abs Go.Proofs
set_option maxRecDepth 100000
set_option linter.unusedVariables false
namespace sha_small
noncomputable def D : Ctx := ({ P := Tryd.prog, G := [(111, sha_root256.spec)], globs := GLO.gB, hints := [], loops := [], inl := [] } : Ctx)
theorem body  (K : AVal → Option R) : bodyA D Tryd.f61 [.any] [] K = P.sha_small (fun r0_bits r0_rounds r0_turns_0 r0_turns_1 r0_turns_2 r0_turns_3 => K (.agg [.v (.int .i64 r0_bits), .v (.int .i64 r0_rounds), .arr .i64 3 r0_turns_0, .arr .i64 3 r0_turns_1, .arr .i64 3 r0_turns_2, .arr .i64 3 r0_turns_3, .fn (.func 111) [] []])) := by
 rw [P.sha_small_eq]
 kernel_rfl
theorem loops : loopsOf (Tryd.f61.body.getD .skip) = [] := by kernel_rfl
noncomputable def spec0 : Abs.Spec := fun args K => match args with
 | [] => P.sha_small (fun r0_bits r0_rounds r0_turns_0 r0_turns_1 r0_turns_2 r0_turns_3 => K (.agg [.v (.int .i64 r0_bits), .v (.int .i64 r0_rounds), .arr .i64 3 r0_turns_0, .arr .i64 3 r0_turns_1, .arr .i64 3 r0_turns_2, .arr .i64 3 r0_turns_3, .fn (.func 111) [] []]))
 | _ => none
noncomputable def spec : Abs.Spec := spec0
theorem ok0 : Proved Tryd.prog GLO.gB 61 spec0 := by
 refine proved_of (D := D) (fn := Tryd.f61) (c := Tryd.f61.body.getD .skip) [.any] (by kernel_rfl) (globsPlain_of (by kernel_rfl)) (by kernel_rfl) (by kernel_rfl) (by kernel_rfl) ⟨sha_root256.ok, trivial⟩ trivial ?_ ?_
 · rw [loops]; exact trivial
 · intro args K r h
   unfold spec0 at h
   split at h
   · rw [body]; exact h
   · cases h
theorem ok : Proved Tryd.prog GLO.gB 61 spec := ok0
end sha_small
end

section
open Go Go.Abs Go.Proofs
set_option maxRecDepth 100000
set_option linter.unusedVariables false
namespace sha_engine_uint32_rotated
noncomputable def D : Ctx := ({ P := Tryd.prog, G := [(111, sha_root256.spec)], globs := GLO.gB, hints := [], loops := [], inl := [] } : Ctx)
theorem body (a0_bits : Int) (a0_rounds : Int) (a0_turns_0 : List Int) (a0_turns_1 : List Int) (a0_turns_2 : List Int) (a0_turns_3 : List Int) (a1 : Int) (a2 : Int) (K : AVal → Option R) : bodyA D Tryd.f138 [.any] [.agg [.v (.int .i64 a0_bits), .v (.int .i64 a0_rounds), .arr .i64 3 a0_turns_0, .arr .i64 3 a0_turns_1, .arr .i64 3 a0_turns_2, .arr .i64 3 a0_turns_3, .fn (.func 111) [] []], .v (.int .u32 a1), .v (.int .i64 a2)] K = P.sha_engine_uint32_rotated a0_bits a0_rounds a0_turns_0 a0_turns_1 a0_turns_2 a0_turns_3 a1 a2 (fun r0 => K (.v (.int .u32 r0))) := by
 rw [P.sha_engine_uint32_rotated_eq]
 kernel_rfl
theorem loops : loopsOf (Tryd.f138.body.getD .skip) = [] := by kernel_rfl
noncomputable def spec0 : Abs.Spec := fun args K => match args with
 | [.agg [.v (.int .i64 a0_bits), .v (.int .i64 a0_rounds), .arr .i64 3 a0_turns_0, .arr .i64 3 a0_turns_1, .arr .i64 3 a0_turns_2, .arr .i64 3 a0_turns_3, .fn (.func 111) [] []], .v (.int .u32 a1), .v (.int .i64 a2)] => P.sha_engine_uint32_rotated a0_bits a0_rounds a0_turns_0 a0_turns_1 a0_turns_2 a0_turns_3 a1 a2 (fun r0 => K (.v (.int .u32 r0)))
 | _ => none
noncomputable def spec : Abs.Spec := spec0
theorem ok0 : Proved Tryd.prog GLO.gB 138 spec0 := by
 refine proved_of (D := D) (fn := Tryd.f138) (c := Tryd.f138.body.getD .skip) [.any] (by kernel_rfl) (globsPlain_of (by kernel_rfl)) (by kernel_rfl) (by kernel_rfl) (by kernel_rfl) ⟨sha_root256.ok, trivial⟩ trivial ?_ ?_
 · rw [loops]; exact trivial
 · intro args K r h
   unfold spec0 at h
   split at h
   · rw [body]; exact h
   · cases h
theorem ok : Proved Tryd.prog GLO.gB 138 spec := ok0
end sha_engine_uint32_rotated
end

section
open Go Go.Abs Go.Proofs
set_option maxRecDepth 100000
set_option linter.unusedVariables false
namespace sha_engine_uint32_high
noncomputable def D : Ctx := ({ P := Tryd.prog, G := [(111, sha_root256.spec), (138, sha_engine_uint32_rotated.spec)], globs := GLO.gB, hints := [], loops := [], inl := [] } : Ctx)
theorem body (a0_bits : Int) (a0_rounds : Int) (a0_turns_0 : List Int) (a0_turns_1 : List Int) (a0_turns_2 : List Int) (a0_turns_3 : List Int) (a1 : Int) (a2 : Int) (K : AVal → Option R) : bodyA D Tryd.f130 [.any] [.agg [.v (.int .i64 a0_bits), .v (.int .i64 a0_rounds), .arr .i64 3 a0_turns_0, .arr .i64 3 a0_turns_1, .arr .i64 3 a0_turns_2, .arr .i64 3 a0_turns_3, .fn (.func 111) [] []], .v (.int .u32 a1), .v (.int .i64 a2)] K = P.sha_engine_uint32_high a0_bits a0_rounds a0_turns_0 a0_turns_1 a0_turns_2 a0_turns_3 a1 a2 (fun r0 => K (.v (.int .u32 r0))) := by
 rw [P.sha_engine_uint32_high_eq]
 kernel_rfl
theorem loops : loopsOf (Tryd.f130.body.getD .skip) = [] := by kernel_rfl
noncomputable def spec0 : Abs.Spec := fun args K => match args with
 | [.agg [.v (.int .i64 a0_bits), .v (.int .i64 a0_rounds), .arr .i64 3 a0_turns_0, .arr .i64 3 a0_turns_1, .arr .i64 3 a0_turns_2, .arr .i64 3 a0_turns_3, .fn (.func 111) [] []], .v (.int .u32 a1), .v (.int .i64 a2)] => P.sha_engine_uint32_high a0_bits a0_rounds a0_turns_0 a0_turns_1 a0_turns_2 a0_turns_3 a1 a2 (fun r0 => K (.v (.int .u32 r0)))
 | _ => none
noncomputable def spec : Abs.Spec := spec0
theorem ok0 : Proved Tryd.prog GLO.gB 130 spec0 := by
 refine proved_of (D := D) (fn := Tryd.f130) (c := Tryd.f130.body.getD .skip) [.any] (by kernel_rfl) (globsPlain_of (by kernel_rfl)) (by kernel_rfl) (by kernel_rfl) (by kernel_rfl) ⟨sha_root256.ok, sha_engine_uint32_rotated.ok, trivial⟩ trivial ?_ ?_
 · rw [loops]; exact trivial
 · intro args K r h
   unfold spec0 at h
   split at h
   · rw [body]; exact h
   · cases h
theorem ok : Proved Tryd.prog GLO.gB 130 spec := ok0
end sha_engine_uint32_high
end

section
open Go Go.Abs Go.Proofs
set_option maxRecDepth 100000
set_option linter.unusedVariables false
namespace sha_engine_uint32_low
noncomputable def D : Ctx := ({ P := Tryd.prog, G := [(111, sha_root256.spec), (138, sha_engine_uint32_rotated.spec)], globs := GLO.gB, hints := [], loops := [], inl := [] } : Ctx)
theorem body (a0_bits : Int) (a0_rounds : Int) (a0_turns_0 : List Int) (a0_turns_1 : List Int) (a0_turns_2 : List Int) (a0_turns_3 : List Int) (a1 : Int) (a2 : Int) (K : AVal → Option R) : bodyA D Tryd.f131 [.any] [.agg [.v (.int .i64 a0_bits), .v (.int .i64 a0_rounds), .arr .i64 3 a0_turns_0, .arr .i64 3 a0_turns_1, .arr .i64 3 a0_turns_2, .arr .i64 3 a0_turns_3, .fn (.func 111) [] []], .v (.int .u32 a1), .v (.int .i64 a2)] K = P.sha_engine_uint32_low a0_bits a0_rounds a0_turns_0 a0_turns_1 a0_turns_2 a0_turns_3 a1 a2 (fun r0 => K (.v (.int .u32 r0))) := by
 rw [P.sha_engine_uint32_low_eq]
 kernel_rfl
theorem loops : loopsOf (Tryd.f131.body.getD .skip) = [] := by kernel_rfl
noncomputable def spec0 : Abs.Spec := fun args K => match args with
 | [.agg [.v (.int .i64 a0_bits), .v (.int .i64 a0_rounds), .arr .i64 3 a0_turns_0, .arr .i64 3 a0_turns_1, .arr .i64 3 a0_turns_2, .arr .i64 3 a0_turns_3, .fn (.func 111) [] []], .v (.int .u32 a1), .v (.int .i64 a2)] => P.sha_engine_uint32_low a0_bits a0_rounds a0_turns_0 a0_turns_1 a0_turns_2 a0_turns_3 a1 a2 (fun r0 => K (.v (.int .u32 r0)))
 | _ => none
noncomputable def spec : Abs.Spec := spec0
theorem ok0 : Proved Tryd.prog GLO.gB 131 spec0 := by
 refine proved_of (D := D) (fn := Tryd.f131) (c := Tryd.f131.body.getD .skip) [.any] (by kernel_rfl) (globsPlain_of (by kernel_rfl)) (by kernel_rfl) (by kernel_rfl) (by kernel_rfl) ⟨sha_root256.ok, sha_engine_uint32_rotated.ok, trivial⟩ trivial ?_ ?_
 · rw [loops]; exact trivial
 · intro args K r h
   unfold spec0 at h
   split at h
   · rw [body]; exact h
   · cases h
theorem ok : Proved Tryd.prog GLO.gB 131 spec := ok0
end sha_engine_uint32_low
end

section
open Go Go.Abs Go.Proofs
set_option maxRecDepth 100000
set_option linter.unusedVariables false
namespace sha_engine_uint32_block
abbrev X4 := (List Int) × Int × Int × Int × Int × (List Int) × (List Int) × (List Int) × (List Int) × (List Int) × (List Int) × (List Int)
def S4 : X4 → ASt := fun (v2, v8, v19, h0_0, h0_1, h0_2, h0_3, h0_4, h0_5, h1_0, h2_0, h3_0) => ⟨[(2, .sl (.ints .u8 v2)), (3, .ptr 0 0), (4, .ptr 1 0), (6, .ptr 2 0), (7, .ptr 3 0), (8, .v (.int .i64 v8)), (19, .v (.int .i64 v19))], [(0, some ⟨.box 100 [.v (.int .i64 h0_0), .v (.int .i64 h0_1), .arr .i64 3 h0_2, .arr .i64 3 h0_3, .arr .i64 3 h0_4, .arr .i64 3 h0_5, .fn (.func 111) [] []], false⟩), (1, some ⟨.box 158 [.arr .u32 8 h1_0], false⟩), (2, some ⟨.box 158 [.arr .u32 8 h2_0], false⟩), (3, some ⟨.box 175 [.arr .u32 16 h3_0], false⟩)], 4, 143⟩
def V4 : ASt → Option X4
 | ⟨[(2, .sl (.ints .u8 v2)), (3, .ptr 0 0), (4, .ptr 1 0), (6, .ptr 2 0), (7, .ptr 3 0), (8, .v (.int .i64 v8)), (19, .v (.int .i64 v19))], [(0, some ⟨.box 100 [.v (.int .i64 h0_0), .v (.int .i64 h0_1), .arr .i64 3 h0_2, .arr .i64 3 h0_3, .arr .i64 3 h0_4, .arr .i64 3 h0_5, .fn (.func 111) [] []], false⟩), (1, some ⟨.box 158 [.arr .u32 8 h1_0], false⟩), (2, some ⟨.box 158 [.arr .u32 8 h2_0], false⟩), (3, some ⟨.box 175 [.arr .u32 16 h3_0], false⟩)], 4, 143⟩ => some (v2, v8, v19, h0_0, h0_1, h0_2, h0_3, h0_4, h0_5, h1_0, h2_0, h3_0)
 | _ => none
theorem V4_ok (st) (x) (h : V4 st = some x) : st = S4 x := by
 unfold V4 at h
 split at h
 · cases h; rfl
 · cases h
abbrev Y4 := X4
noncomputable def T4 : X4 → (X4 → Option R) → (Y4 → Option R) → Option R := fun (v2, v8, v19, h0_0, h0_1, h0_2, h0_3, h0_4, h0_5, h1_0, h2_0, h3_0) next ex => P.sha_engine_uint32_block_r4 v2 v8 v19 h0_0 h0_1 h0_2 h0_3 h0_4 h0_5 h1_0 h2_0 h3_0 (fun v2 v8 v19 h0_0 h0_1 h0_2 h0_3 h0_4 h0_5 h1_0 h2_0 h3_0 => next (v2, v8, v19, h0_0, h0_1, h0_2, h0_3, h0_4, h0_5, h1_0, h2_0, h3_0)) (fun v2 v8 v19 h0_0 h0_1 h0_2 h0_3 h0_4 h0_5 h1_0 h2_0 h3_0 => ex (v2, v8, v19, h0_0, h0_1, h0_2, h0_3, h0_4, h0_5, h1_0, h2_0, h3_0))
abbrev X10 := Int × Int × (List Int) × (List Int) × (List Int) × Int × Int × (List Int) × (List Int) × (List Int) × (List Int) × (List Int)
def S10 : X10 → ASt := fun (v38, v39, h3_0, h2_0, h1_0, h0_0, h0_1, h0_2, h0_3, h0_4, h0_5, h4_0) => ⟨[(3, .ptr 0 0), (4, .ptr 1 0), (6, .ptr 2 0), (7, .ptr 3 0), (10, .ptr 4 0), (38, .v (.int .i64 v38)), (39, .v (.int .i64 v39))], [(3, some ⟨.box 175 [.arr .u32 16 h3_0], false⟩), (2, some ⟨.box 158 [.arr .u32 8 h2_0], false⟩), (1, some ⟨.box 158 [.arr .u32 8 h1_0], false⟩), (0, some ⟨.box 100 [.v (.int .i64 h0_0), .v (.int .i64 h0_1), .arr .i64 3 h0_2, .arr .i64 3 h0_3, .arr .i64 3 h0_4, .arr .i64 3 h0_5, .fn (.func 111) [] []], false⟩), (4, some ⟨.box 158 [.arr .u32 8 h4_0], false⟩)], 5, 143⟩
def V10 : ASt → Option X10
 | ⟨[(3, .ptr 0 0), (4, .ptr 1 0), (6, .ptr 2 0), (7, .ptr 3 0), (10, .ptr 4 0), (38, .v (.int .i64 v38)), (39, .v (.int .i64 v39))], [(3, some ⟨.box 175 [.arr .u32 16 h3_0], false⟩), (2, some ⟨.box 158 [.arr .u32 8 h2_0], false⟩), (1, some ⟨.box 158 [.arr .u32 8 h1_0], false⟩), (0, some ⟨.box 100 [.v (.int .i64 h0_0), .v (.int .i64 h0_1), .arr .i64 3 h0_2, .arr .i64 3 h0_3, .arr .i64 3 h0_4, .arr .i64 3 h0_5, .fn (.func 111) [] []], false⟩), (4, some ⟨.box 158 [.arr .u32 8 h4_0], false⟩)], 5, 143⟩ => some (v38, v39, h3_0, h2_0, h1_0, h0_0, h0_1, h0_2, h0_3, h0_4, h0_5, h4_0)
 | _ => none
theorem V10_ok (st) (x) (h : V10 st = some x) : st = S10 x := by
 unfold V10 at h
 split at h
 · cases h; rfl
 · cases h
abbrev Y10 := X10
noncomputable def T10 : X10 → (X10 → Option R) → (Y10 → Option R) → Option R := fun (v38, v39, h3_0, h2_0, h1_0, h0_0, h0_1, h0_2, h0_3, h0_4, h0_5, h4_0) next ex => P.sha_engine_uint32_block_r10 v38 v39 h3_0 h2_0 h1_0 h0_0 h0_1 h0_2 h0_3 h0_4 h0_5 h4_0 (fun v38 v39 h3_0 h2_0 h1_0 h0_0 h0_1 h0_2 h0_3 h0_4 h0_5 h4_0 => next (v38, v39, h3_0, h2_0, h1_0, h0_0, h0_1, h0_2, h0_3, h0_4, h0_5, h4_0)) (fun v38 v39 h3_0 h2_0 h1_0 h0_0 h0_1 h0_2 h0_3 h0_4 h0_5 h4_0 => ex (v38, v39, h3_0, h2_0, h1_0, h0_0, h0_1, h0_2, h0_3, h0_4, h0_5, h4_0))
abbrev X21 := Int × (List Int) × (List Int) × (List Int)
def S21 : X21 → ASt := fun (v130, h1_0, h2_0, h4_0) => ⟨[(4, .ptr 1 0), (6, .ptr 2 0), (10, .ptr 4 0), (130, .v (.int .i64 v130))], [(1, some ⟨.box 158 [.arr .u32 8 h1_0], false⟩), (2, some ⟨.box 158 [.arr .u32 8 h2_0], false⟩), (4, some ⟨.box 158 [.arr .u32 8 h4_0], false⟩)], 120, 143⟩
def V21 : ASt → Option X21
 | ⟨[(4, .ptr 1 0), (6, .ptr 2 0), (10, .ptr 4 0), (130, .v (.int .i64 v130))], [(1, some ⟨.box 158 [.arr .u32 8 h1_0], false⟩), (2, some ⟨.box 158 [.arr .u32 8 h2_0], false⟩), (4, some ⟨.box 158 [.arr .u32 8 h4_0], false⟩)], 120, 143⟩ => some (v130, h1_0, h2_0, h4_0)
 | _ => none
theorem V21_ok (st) (x) (h : V21 st = some x) : st = S21 x := by
 unfold V21 at h
 split at h
 · cases h; rfl
 · cases h
abbrev Y21 := X21
noncomputable def T21 : X21 → (X21 → Option R) → (Y21 → Option R) → Option R := fun (v130, h1_0, h2_0, h4_0) next ex => P.sha_engine_uint32_block_r21 v130 h1_0 h2_0 h4_0 (fun v130 h1_0 h2_0 h4_0 => next (v130, h1_0, h2_0, h4_0)) (fun v130 h1_0 h2_0 h4_0 => ex (v130, h1_0, h2_0, h4_0))
def E4 (K : AExit → ASt → Option R) : Y4 → Option R := (fun x => K (.exit 0) (S4 x))
noncomputable def L4 : LSpec := fun st K => vMap (V4 st) fun (v2, v8, v19, h0_0, h0_1, h0_2, h0_3, h0_4, h0_5, h1_0, h2_0, h3_0) => P.sha_engine_uint32_block_l4 v2 v8 v19 h0_0 h0_1 h0_2 h0_3 h0_4 h0_5 h1_0 h2_0 h3_0 (fun v2 v8 v19 h0_0 h0_1 h0_2 h0_3 h0_4 h0_5 h1_0 h2_0 h3_0 => K (.exit 0) (S4 (v2, v8, v19, h0_0, h0_1, h0_2, h0_3, h0_4, h0_5, h1_0, h2_0, h3_0)))
def E10 (K : AExit → ASt → Option R) : Y10 → Option R := (fun x => K (.exit 2) (S10 x))
noncomputable def L10 : LSpec := fun st K => vMap (V10 st) fun (v38, v39, h3_0, h2_0, h1_0, h0_0, h0_1, h0_2, h0_3, h0_4, h0_5, h4_0) => P.sha_engine_uint32_block_l10 v38 v39 h3_0 h2_0 h1_0 h0_0 h0_1 h0_2 h0_3 h0_4 h0_5 h4_0 (fun v38 v39 h3_0 h2_0 h1_0 h0_0 h0_1 h0_2 h0_3 h0_4 h0_5 h4_0 => K (.exit 2) (S10 (v38, v39, h3_0, h2_0, h1_0, h0_0, h0_1, h0_2, h0_3, h0_4, h0_5, h4_0)))
def E21 (K : AExit → ASt → Option R) : Y21 → Option R := (fun x => K (.exit 4) (S21 x))
noncomputable def L21 : LSpec := fun st K => vMap (V21 st) fun (v130, h1_0, h2_0, h4_0) => P.sha_engine_uint32_block_l21 v130 h1_0 h2_0 h4_0 (fun v130 h1_0 h2_0 h4_0 => K (.exit 4) (S21 (v130, h1_0, h2_0, h4_0)))
noncomputable def D : Ctx := ({ P := Tryd.prog, G := [(75, bits_Num.spec), (111, sha_root256.spec), (130, sha_engine_uint32_high.spec), (131, sha_engine_uint32_low.spec)], globs := GLO.gB, hints := [(21, ⟨[4, 6, 10, 130], [], [6], [], some (120, [1, 2, 4]), []⟩), (10, ⟨[3, 4, 6, 7, 10, 38, 39], [], [6], [], none, []⟩), (4, ⟨[2, 3, 4, 6, 7, 8, 19], [], [6], [], none, []⟩)], loops := [(4, L4), (10, L10), (21, L21)], inl := [] } : Ctx)
theorem round4 (K) (next) (x) : roundA D (loopAt Tryd.f110 4) K next (S4 x) = T4 x (fun x => next (S4 x)) (E4 K) := by kernel_rfl
theorem lq4 (st) (K) : L4 st K = vMap (V4 st) (fun x => lp T4 x (E4 K)) := by
 unfold L4
 cases V4 st with
 | none => rfl
 | some x => rw [P.sha_engine_uint32_block_l4_eq]; kernel_rfl
theorem loop4 : LoopOk D (loopAt Tryd.f110 4) := loopOk_lp S4 V4_ok (by kernel_rfl) lq4 round4
theorem round10 (K) (next) (x) : roundA D (loopAt Tryd.f110 10) K next (S10 x) = T10 x (fun x => next (S10 x)) (E10 K) := by kernel_rfl
theorem lq10 (st) (K) : L10 st K = vMap (V10 st) (fun x => lp T10 x (E10 K)) := by
 unfold L10
 cases V10 st with
 | none => rfl
 | some x => rw [P.sha_engine_uint32_block_l10_eq]; kernel_rfl
theorem loop10 : LoopOk D (loopAt Tryd.f110 10) := loopOk_lp S10 V10_ok (by kernel_rfl) lq10 round10
theorem round21 (K) (next) (x) : roundA D (loopAt Tryd.f110 21) K next (S21 x) = T21 x (fun x => next (S21 x)) (E21 K) := by kernel_rfl
theorem lq21 (st) (K) : L21 st K = vMap (V21 st) (fun x => lp T21 x (E21 K)) := by
 unfold L21
 cases V21 st with
 | none => rfl
 | some x => rw [P.sha_engine_uint32_block_l21_eq]; kernel_rfl
theorem loop21 : LoopOk D (loopAt Tryd.f110 21) := loopOk_lp S21 V21_ok (by kernel_rfl) lq21 round21
theorem body (a0_bits : Int) (a0_rounds : Int) (a0_turns_0 : List Int) (a0_turns_1 : List Int) (a0_turns_2 : List Int) (a0_turns_3 : List Int) (a1 : List Int) (a2 : List Int) (K : AVal → Option R) : bodyA D Tryd.f110 [.any] [.agg [.v (.int .i64 a0_bits), .v (.int .i64 a0_rounds), .arr .i64 3 a0_turns_0, .arr .i64 3 a0_turns_1, .arr .i64 3 a0_turns_2, .arr .i64 3 a0_turns_3, .fn (.func 111) [] []], .arr .u32 8 a1, .sl (.ints .u8 a2)] K = P.sha_engine_uint32_block a0_bits a0_rounds a0_turns_0 a0_turns_1 a0_turns_2 a0_turns_3 a1 a2 (fun r0 => K (.arr .u32 8 r0)) := by
 rw [P.sha_engine_uint32_block_eq]
 kernel_rfl
theorem loops : loopsOf (Tryd.f110.body.getD .skip) = [loopAt Tryd.f110 4, loopAt Tryd.f110 10, loopAt Tryd.f110 21] := by kernel_rfl
noncomputable def spec0 : Abs.Spec := fun args K => match args with
 | [.agg [.v (.int .i64 a0_bits), .v (.int .i64 a0_rounds), .arr .i64 3 a0_turns_0, .arr .i64 3 a0_turns_1, .arr .i64 3 a0_turns_2, .arr .i64 3 a0_turns_3, .fn (.func 111) [] []], .arr .u32 8 a1, .sl (.ints .u8 a2)] => P.sha_engine_uint32_block a0_bits a0_rounds a0_turns_0 a0_turns_1 a0_turns_2 a0_turns_3 a1 a2 (fun r0 => K (.arr .u32 8 r0))
 | _ => none
noncomputable def spec : Abs.Spec := fun args K => spec0 (coerL [.any, .any, .sl (.ints .u8 [])] args) K
theorem ok0 : Proved Tryd.prog GLO.gB 110 spec0 := by
 refine proved_of (D := D) (fn := Tryd.f110) (c := Tryd.f110.body.getD .skip) [.any] (by kernel_rfl) (globsPlain_of (by kernel_rfl)) (by kernel_rfl) (by kernel_rfl) (by kernel_rfl) ⟨bits_Num.ok, sha_root256.ok, sha_engine_uint32_high.ok, sha_engine_uint32_low.ok, trivial⟩ trivial ?_ ?_
 · rw [loops]; exact ⟨loop4, loop10, loop21, trivial⟩
 · intro args K r h
   unfold spec0 at h
   split at h
   · rw [body]; exact h
   · cases h
theorem ok : Proved Tryd.prog GLO.gB 110 spec := proved_coer _ ok0
end sha_engine_uint32_block
end

section
open Go Go.Abs Go.Proofs
set_option maxRecDepth 100000
set_option linter.unusedVariables false
namespace sha_through_uint32
abbrev X3 := (List Int) × (List Int) × Int × Int × Int × (List Int) × (List Int) × (List Int) × (List Int) × (List Int) × (List Int) × (List Int)
def S3 : X3 → ASt := fun (v2, v14, v15, h0_0, h0_1, h0_2, h0_3, h0_4, h0_5, h1_0, h2_0, h3_0) => ⟨[(2, .sl (.ints .u8 v2)), (3, .ptr 0 0), (4, .ptr 1 0), (6, .ptr 2 0), (8, .ptr 3 0), (14, .arr .u64 8 v14), (15, .v (.int .i64 v15))], [(0, some ⟨.box 100 [.v (.int .i64 h0_0), .v (.int .i64 h0_1), .arr .i64 3 h0_2, .arr .i64 3 h0_3, .arr .i64 3 h0_4, .arr .i64 3 h0_5, .fn (.func 111) [] []], false⟩), (1, some ⟨.box 23 [.arr .u64 8 h1_0], false⟩), (2, some ⟨.box 23 [.arr .u64 8 h2_0], false⟩), (3, some ⟨.box 158 [.arr .u32 8 h3_0], false⟩)], 4, 52⟩
def V3 : ASt → Option X3
 | ⟨[(2, .sl (.ints .u8 v2)), (3, .ptr 0 0), (4, .ptr 1 0), (6, .ptr 2 0), (8, .ptr 3 0), (14, .arr .u64 8 v14), (15, .v (.int .i64 v15))], [(0, some ⟨.box 100 [.v (.int .i64 h0_0), .v (.int .i64 h0_1), .arr .i64 3 h0_2, .arr .i64 3 h0_3, .arr .i64 3 h0_4, .arr .i64 3 h0_5, .fn (.func 111) [] []], false⟩), (1, some ⟨.box 23 [.arr .u64 8 h1_0], false⟩), (2, some ⟨.box 23 [.arr .u64 8 h2_0], false⟩), (3, some ⟨.box 158 [.arr .u32 8 h3_0], false⟩)], 4, 52⟩ => some (v2, v14, v15, h0_0, h0_1, h0_2, h0_3, h0_4, h0_5, h1_0, h2_0, h3_0)
 | _ => none
theorem V3_ok (st) (x) (h : V3 st = some x) : st = S3 x := by
 unfold V3 at h
 split at h
 · cases h; rfl
 · cases h
abbrev Y3 := X3
noncomputable def T3 : X3 → (X3 → Option R) → (Y3 → Option R) → Option R := fun (v2, v14, v15, h0_0, h0_1, h0_2, h0_3, h0_4, h0_5, h1_0, h2_0, h3_0) next ex => P.sha_through_uint32_r3 v2 v14 v15 h0_0 h0_1 h0_2 h0_3 h0_4 h0_5 h1_0 h2_0 h3_0 (fun v2 v14 v15 h0_0 h0_1 h0_2 h0_3 h0_4 h0_5 h1_0 h2_0 h3_0 => next (v2, v14, v15, h0_0, h0_1, h0_2, h0_3, h0_4, h0_5, h1_0, h2_0, h3_0)) (fun v2 v14 v15 h0_0 h0_1 h0_2 h0_3 h0_4 h0_5 h1_0 h2_0 h3_0 => ex (v2, v14, v15, h0_0, h0_1, h0_2, h0_3, h0_4, h0_5, h1_0, h2_0, h3_0))
abbrev X8 := (List Int) × Int × (List Int) × (List Int) × (List Int) × Int × Int × (List Int) × (List Int) × (List Int) × (List Int)
def S8 : X8 → ASt := fun (v2, v11, h3_0, h2_0, h1_0, h0_0, h0_1, h0_2, h0_3, h0_4, h0_5) => ⟨[(2, .sl (.ints .u8 v2)), (3, .ptr 0 0), (4, .ptr 1 0), (6, .ptr 2 0), (8, .ptr 3 0), (11, .v (.int .i64 v11))], [(3, some ⟨.box 158 [.arr .u32 8 h3_0], false⟩), (2, some ⟨.box 23 [.arr .u64 8 h2_0], false⟩), (1, some ⟨.box 23 [.arr .u64 8 h1_0], false⟩), (0, some ⟨.box 100 [.v (.int .i64 h0_0), .v (.int .i64 h0_1), .arr .i64 3 h0_2, .arr .i64 3 h0_3, .arr .i64 3 h0_4, .arr .i64 3 h0_5, .fn (.func 111) [] []], false⟩)], 4, 52⟩
def V8 : ASt → Option X8
 | ⟨[(2, .sl (.ints .u8 v2)), (3, .ptr 0 0), (4, .ptr 1 0), (6, .ptr 2 0), (8, .ptr 3 0), (11, .v (.int .i64 v11))], [(3, some ⟨.box 158 [.arr .u32 8 h3_0], false⟩), (2, some ⟨.box 23 [.arr .u64 8 h2_0], false⟩), (1, some ⟨.box 23 [.arr .u64 8 h1_0], false⟩), (0, some ⟨.box 100 [.v (.int .i64 h0_0), .v (.int .i64 h0_1), .arr .i64 3 h0_2, .arr .i64 3 h0_3, .arr .i64 3 h0_4, .arr .i64 3 h0_5, .fn (.func 111) [] []], false⟩)], 4, 52⟩ => some (v2, v11, h3_0, h2_0, h1_0, h0_0, h0_1, h0_2, h0_3, h0_4, h0_5)
 | _ => none
theorem V8_ok (st) (x) (h : V8 st = some x) : st = S8 x := by
 unfold V8 at h
 split at h
 · cases h; rfl
 · cases h
abbrev Y8 := X8
noncomputable def T8 : X8 → (X8 → Option R) → (Y8 → Option R) → Option R := fun (v2, v11, h3_0, h2_0, h1_0, h0_0, h0_1, h0_2, h0_3, h0_4, h0_5) next ex => P.sha_through_uint32_r8 v2 v11 h3_0 h2_0 h1_0 h0_0 h0_1 h0_2 h0_3 h0_4 h0_5 (fun v2 v11 h3_0 h2_0 h1_0 h0_0 h0_1 h0_2 h0_3 h0_4 h0_5 => next (v2, v11, h3_0, h2_0, h1_0, h0_0, h0_1, h0_2, h0_3, h0_4, h0_5)) (fun v2 v11 h3_0 h2_0 h1_0 h0_0 h0_1 h0_2 h0_3 h0_4 h0_5 => ex (v2, v11, h3_0, h2_0, h1_0, h0_0, h0_1, h0_2, h0_3, h0_4, h0_5))
abbrev X12 := (List Int) × (List Int) × Int × (List Int) × (List Int)
def S12 : X12 → ASt := fun (v2, v40, v41, h1_0, h2_0) => ⟨[(2, .sl (.ints .u8 v2)), (4, .ptr 1 0), (6, .ptr 2 0), (40, .arr .u32 8 v40), (41, .v (.int .i64 v41))], [(1, some ⟨.box 23 [.arr .u64 8 h1_0], false⟩), (2, some ⟨.box 23 [.arr .u64 8 h2_0], false⟩)], 120, 52⟩
def V12 : ASt → Option X12
 | ⟨[(2, .sl (.ints .u8 v2)), (4, .ptr 1 0), (6, .ptr 2 0), (40, .arr .u32 8 v40), (41, .v (.int .i64 v41))], [(1, some ⟨.box 23 [.arr .u64 8 h1_0], false⟩), (2, some ⟨.box 23 [.arr .u64 8 h2_0], false⟩)], 120, 52⟩ => some (v2, v40, v41, h1_0, h2_0)
 | _ => none
theorem V12_ok (st) (x) (h : V12 st = some x) : st = S12 x := by
 unfold V12 at h
 split at h
 · cases h; rfl
 · cases h
abbrev Y12 := X12
noncomputable def T12 : X12 → (X12 → Option R) → (Y12 → Option R) → Option R := fun (v2, v40, v41, h1_0, h2_0) next ex => P.sha_through_uint32_r12 v2 v40 v41 h1_0 h2_0 (fun v2 v40 v41 h1_0 h2_0 => next (v2, v40, v41, h1_0, h2_0)) (fun v2 v40 v41 h1_0 h2_0 => ex (v2, v40, v41, h1_0, h2_0))
def E3 (K : AExit → ASt → Option R) : Y3 → Option R := (fun x => K (.exit 0) (S3 x))
noncomputable def L3 : LSpec := fun st K => vMap (V3 st) fun (v2, v14, v15, h0_0, h0_1, h0_2, h0_3, h0_4, h0_5, h1_0, h2_0, h3_0) => P.sha_through_uint32_l3 v2 v14 v15 h0_0 h0_1 h0_2 h0_3 h0_4 h0_5 h1_0 h2_0 h3_0 (fun v2 v14 v15 h0_0 h0_1 h0_2 h0_3 h0_4 h0_5 h1_0 h2_0 h3_0 => K (.exit 0) (S3 (v2, v14, v15, h0_0, h0_1, h0_2, h0_3, h0_4, h0_5, h1_0, h2_0, h3_0)))
def E8 (K : AExit → ASt → Option R) : Y8 → Option R := (fun x => K (.exit 2) (S8 x))
noncomputable def L8 : LSpec := fun st K => vMap (V8 st) fun (v2, v11, h3_0, h2_0, h1_0, h0_0, h0_1, h0_2, h0_3, h0_4, h0_5) => P.sha_through_uint32_l8 v2 v11 h3_0 h2_0 h1_0 h0_0 h0_1 h0_2 h0_3 h0_4 h0_5 (fun v2 v11 h3_0 h2_0 h1_0 h0_0 h0_1 h0_2 h0_3 h0_4 h0_5 => K (.exit 2) (S8 (v2, v11, h3_0, h2_0, h1_0, h0_0, h0_1, h0_2, h0_3, h0_4, h0_5)))
def E12 (K : AExit → ASt → Option R) : Y12 → Option R := (fun x => K (.exit 4) (S12 x))
noncomputable def L12 : LSpec := fun st K => vMap (V12 st) fun (v2, v40, v41, h1_0, h2_0) => P.sha_through_uint32_l12 v2 v40 v41 h1_0 h2_0 (fun v2 v40 v41 h1_0 h2_0 => K (.exit 4) (S12 (v2, v40, v41, h1_0, h2_0)))
noncomputable def D : Ctx := ({ P := Tryd.prog, G := [(110, sha_engine_uint32_block.spec), (111, sha_root256.spec)], globs := GLO.gB, hints := [(12, ⟨[2, 4, 6, 40, 41], [], [6, 7], [], some (120, [1, 2]), []⟩), (8, ⟨[2, 3, 4, 6, 8, 11], [], [6, 7], [(2, .sl (.ints .u8 []))], none, []⟩), (3, ⟨[2, 3, 4, 6, 8, 14, 15], [], [6, 7], [], none, []⟩)], loops := [(3, L3), (8, L8), (12, L12)], inl := [] } : Ctx)
theorem round3 (K) (next) (x) : roundA D (loopAt Tryd.f60 3) K next (S3 x) = T3 x (fun x => next (S3 x)) (E3 K) := by kernel_rfl
theorem lq3 (st) (K) : L3 st K = vMap (V3 st) (fun x => lp T3 x (E3 K)) := by
 unfold L3
 cases V3 st with
 | none => rfl
 | some x => rw [P.sha_through_uint32_l3_eq]; kernel_rfl
theorem loop3 : LoopOk D (loopAt Tryd.f60 3) := loopOk_lp S3 V3_ok (by kernel_rfl) lq3 round3
theorem round8 (K) (next) (x) : roundA D (loopAt Tryd.f60 8) K next (S8 x) = T8 x (fun x => next (S8 x)) (E8 K) := by kernel_rfl
theorem lq8 (st) (K) : L8 st K = vMap (V8 st) (fun x => lp T8 x (E8 K)) := by
 unfold L8
 cases V8 st with
 | none => rfl
 | some x => rw [P.sha_through_uint32_l8_eq]; kernel_rfl
theorem loop8 : LoopOk D (loopAt Tryd.f60 8) := loopOk_lp S8 V8_ok (by kernel_rfl) lq8 round8
theorem round12 (K) (next) (x) : roundA D (loopAt Tryd.f60 12) K next (S12 x) = T12 x (fun x => next (S12 x)) (E12 K) := by kernel_rfl
theorem lq12 (st) (K) : L12 st K = vMap (V12 st) (fun x => lp T12 x (E12 K)) := by
 unfold L12
 cases V12 st with
 | none => rfl
 | some x => rw [P.sha_through_uint32_l12_eq]; kernel_rfl
theorem loop12 : LoopOk D (loopAt Tryd.f60 12) := loopOk_lp S12 V12_ok (by kernel_rfl) lq12 round12
theorem body (a0_bits : Int) (a0_rounds : Int) (a0_turns_0 : List Int) (a0_turns_1 : List Int) (a0_turns_2 : List Int) (a0_turns_3 : List Int) (a1 : List Int) (a2 : List Int) (K : AVal → Option R) : bodyA D Tryd.f60 [.any, .sl (.ints .u8 [])] [.agg [.v (.int .i64 a0_bits), .v (.int .i64 a0_rounds), .arr .i64 3 a0_turns_0, .arr .i64 3 a0_turns_1, .arr .i64 3 a0_turns_2, .arr .i64 3 a0_turns_3, .fn (.func 111) [] []], .arr .u64 8 a1, .sl (.ints .u8 a2)] K = P.sha_through_uint32 a0_bits a0_rounds a0_turns_0 a0_turns_1 a0_turns_2 a0_turns_3 a1 a2 (fun r0 r1 => K (.tuple [.arr .u64 8 r0, .sl (.ints .u8 r1)])) := by
 rw [P.sha_through_uint32_eq]
 kernel_rfl
theorem loops : loopsOf (Tryd.f60.body.getD .skip) = [loopAt Tryd.f60 3, loopAt Tryd.f60 8, loopAt Tryd.f60 12] := by kernel_rfl
noncomputable def spec0 : Abs.Spec := fun args K => match args with
 | [.agg [.v (.int .i64 a0_bits), .v (.int .i64 a0_rounds), .arr .i64 3 a0_turns_0, .arr .i64 3 a0_turns_1, .arr .i64 3 a0_turns_2, .arr .i64 3 a0_turns_3, .fn (.func 111) [] []], .arr .u64 8 a1, .sl (.ints .u8 a2)] => P.sha_through_uint32 a0_bits a0_rounds a0_turns_0 a0_turns_1 a0_turns_2 a0_turns_3 a1 a2 (fun r0 r1 => K (.tuple [.arr .u64 8 r0, .sl (.ints .u8 r1)]))
 | _ => none
noncomputable def spec : Abs.Spec := fun args K => spec0 (coerL [.any, .any, .sl (.ints .u8 [])] args) K
theorem ok0 : Proved Tryd.prog GLO.gB 60 spec0 := by
 refine proved_of (D := D) (fn := Tryd.f60) (c := Tryd.f60.body.getD .skip) [.any, .sl (.ints .u8 [])] (by kernel_rfl) (globsPlain_of (by kernel_rfl)) (by kernel_rfl) (by kernel_rfl) (by kernel_rfl) ⟨sha_engine_uint32_block.ok, sha_root256.ok, trivial⟩ trivial ?_ ?_
 · rw [loops]; exact ⟨loop3, loop8, loop12, trivial⟩
 · intro args K r h
   unfold spec0 at h
   split at h
   · rw [body]; exact h
   · cases h
theorem ok : Proved Tryd.prog GLO.gB 60 spec := proved_coer _ ok0
end sha_through_uint32
end

section
open Go Go.Abs Go.Proofs
set_option maxRecDepth 100000
set_option linter.unusedVariables false
namespace sha_engine_uint64_rotated
noncomputable def D : Ctx := ({ P := Tryd.prog, G := [(113, sha_root512.spec)], globs := GLO.gB, hints := [], loops := [], inl := [] } : Ctx)
theorem body (a0_bits : Int) (a0_rounds : Int) (a0_turns_0 : List Int) (a0_turns_1 : List Int) (a0_turns_2 : List Int) (a0_turns_3 : List Int) (a1 : Int) (a2 : Int) (K : AVal → Option R) : bodyA D Tryd.f139 [.any] [.agg [.v (.int .i64 a0_bits), .v (.int .i64 a0_rounds), .arr .i64 3 a0_turns_0, .arr .i64 3 a0_turns_1, .arr .i64 3 a0_turns_2, .arr .i64 3 a0_turns_3, .fn (.func 113) [] []], .v (.int .u64 a1), .v (.int .i64 a2)] K = P.sha_engine_uint64_rotated a0_bits a0_rounds a0_turns_0 a0_turns_1 a0_turns_2 a0_turns_3 a1 a2 (fun r0 => K (.v (.int .u64 r0))) := by
 rw [P.sha_engine_uint64_rotated_eq]
 kernel_rfl
theorem loops : loopsOf (Tryd.f139.body.getD .skip) = [] := by kernel_rfl
noncomputable def spec0 : Abs.Spec := fun args K => match args with
 | [.agg [.v (.int .i64 a0_bits), .v (.int .i64 a0_rounds), .arr .i64 3 a0_turns_0, .arr .i64 3 a0_turns_1, .arr .i64 3 a0_turns_2, .arr .i64 3 a0_turns_3, .fn (.func 113) [] []], .v (.int .u64 a1), .v (.int .i64 a2)] => P.sha_engine_uint64_rotated a0_bits a0_rounds a0_turns_0 a0_turns_1 a0_turns_2 a0_turns_3 a1 a2 (fun r0 => K (.v (.int .u64 r0)))
 | _ => none
noncomputable def spec : Abs.Spec := spec0
theorem ok0 : Proved Tryd.prog GLO.gB 139 spec0 := by
 refine proved_of (D := D) (fn := Tryd.f139) (c := Tryd.f139.body.getD .skip) [.any] (by kernel_rfl) (globsPlain_of (by kernel_rfl)) (by kernel_rfl) (by kernel_rfl) (by kernel_rfl) ⟨sha_root512.ok, trivial⟩ trivial ?_ ?_
 · rw [loops]; exact trivial
 · intro args K r h
   unfold spec0 at h
   split at h
   · rw [body]; exact h
   · cases h
theorem ok : Proved Tryd.prog GLO.gB 139 spec := ok0
end sha_engine_uint64_rotated
end

section
open Go Go.Abs Go.Proofs
set_option maxRecDepth 100000
set_option linter.unusedVariables false
namespace sha_engine_uint64_high
noncomputable def D : Ctx := ({ P := Tryd.prog, G := [(113, sha_root512.spec), (139, sha_engine_uint64_rotated.spec)], globs := GLO.gB, hints := [], loops := [], inl := [] } : Ctx)
theorem body (a0_bits : Int) (a0_rounds : Int) (a0_turns_0 : List Int) (a0_turns_1 : List Int) (a0_turns_2 : List Int) (a0_turns_3 : List Int) (a1 : Int) (a2 : Int) (K : AVal → Option R) : bodyA D Tryd.f132 [.any] [.agg [.v (.int .i64 a0_bits), .v (.int .i64 a0_rounds), .arr .i64 3 a0_turns_0, .arr .i64 3 a0_turns_1, .arr .i64 3 a0_turns_2, .arr .i64 3 a0_turns_3, .fn (.func 113) [] []], .v (.int .u64 a1), .v (.int .i64 a2)] K = P.sha_engine_uint64_high a0_bits a0_rounds a0_turns_0 a0_turns_1 a0_turns_2 a0_turns_3 a1 a2 (fun r0 => K (.v (.int .u64 r0))) := by
 rw [P.sha_engine_uint64_high_eq]
 kernel_rfl
theorem loops : loopsOf (Tryd.f132.body.getD .skip) = [] := by kernel_rfl
noncomputable def spec0 : Abs.Spec := fun args K => match args with
 | [.agg [.v (.int .i64 a0_bits), .v (.int .i64 a0_rounds), .arr .i64 3 a0_turns_0, .arr .i64 3 a0_turns_1, .arr .i64 3 a0_turns_2, .arr .i64 3 a0_turns_3, .fn (.func 113) [] []], .v (.int .u64 a1), .v (.int .i64 a2)] => P.sha_engine_uint64_high a0_bits a0_rounds a0_turns_0 a0_turns_1 a0_turns_2 a0_turns_3 a1 a2 (fun r0 => K (.v (.int .u64 r0)))
 | _ => none
noncomputable def spec : Abs.Spec := spec0
theorem ok0 : Proved Tryd.prog GLO.gB 132 spec0 := by
 refine proved_of (D := D) (fn := Tryd.f132) (c := Tryd.f132.body.getD .skip) [.any] (by kernel_rfl) (globsPlain_of (by kernel_rfl)) (by kernel_rfl) (by kernel_rfl) (by kernel_rfl) ⟨sha_root512.ok, sha_engine_uint64_rotated.ok, trivial⟩ trivial ?_ ?_
 · rw [loops]; exact trivial
 · intro args K r h
   unfold spec0 at h
   split at h
   · rw [body]; exact h
   · cases h
theorem ok : Proved Tryd.prog GLO.gB 132 spec := ok0
end sha_engine_uint64_high
end

section
open Go Go.Abs Go.Proofs
set_option maxRecDepth 100000
set_option linter.unusedVariables false
namespace sha_engine_uint64_low
noncomputable def D : Ctx := ({ P := Tryd.prog, G := [(113, sha_root512.spec), (139, sha_engine_uint64_rotated.spec)], globs := GLO.gB, hints := [], loops := [], inl := [] } : Ctx)
theorem body (a0_bits : Int) (a0_rounds : Int) (a0_turns_0 : List Int) (a0_turns_1 : List Int) (a0_turns_2 : List Int) (a0_turns_3 : List Int) (a1 : Int) (a2 : Int) (K : AVal → Option R) : bodyA D Tryd.f133 [.any] [.agg [.v (.int .i64 a0_bits), .v (.int .i64 a0_rounds), .arr .i64 3 a0_turns_0, .arr .i64 3 a0_turns_1, .arr .i64 3 a0_turns_2, .arr .i64 3 a0_turns_3, .fn (.func 113) [] []], .v (.int .u64 a1), .v (.int .i64 a2)] K = P.sha_engine_uint64_low a0_bits a0_rounds a0_turns_0 a0_turns_1 a0_turns_2 a0_turns_3 a1 a2 (fun r0 => K (.v (.int .u64 r0))) := by
 rw [P.sha_engine_uint64_low_eq]
 kernel_rfl
theorem loops : loopsOf (Tryd.f133.body.getD .skip) = [] := by kernel_rfl
noncomputable def spec0 : Abs.Spec := fun args K => match args with
 | [.agg [.v (.int .i64 a0_bits), .v (.int .i64 a0_rounds), .arr .i64 3 a0_turns_0, .arr .i64 3 a0_turns_1, .arr .i64 3 a0_turns_2, .arr .i64 3 a0_turns_3, .fn (.func 113) [] []], .v (.int .u64 a1), .v (.int .i64 a2)] => P.sha_engine_uint64_low a0_bits a0_rounds a0_turns_0 a0_turns_1 a0_turns_2 a0_turns_3 a1 a2 (fun r0 => K (.v (.int .u64 r0)))
 | _ => none
noncomputable def spec : Abs.Spec := spec0
theorem ok0 : Proved Tryd.prog GLO.gB 133 spec0 := by
 refine proved_of (D := D) (fn := Tryd.f133) (c := Tryd.f133.body.getD .skip) [.any] (by kernel_rfl) (globsPlain_of (by kernel_rfl)) (by kernel_rfl) (by kernel_rfl) (by kernel_rfl) ⟨sha_root512.ok, sha_engine_uint64_rotated.ok, trivial⟩ trivial ?_ ?_
 · rw [loops]; exact trivial
 · intro args K r h
   unfold spec0 at h
   split at h
   · rw [body]; exact h
   · cases h
theorem ok : Proved Tryd.prog GLO.gB 133 spec := ok0
end sha_engine_uint64_low
end

section
open Go Go.Abs Go.Proofs
set_option maxRecDepth 100000
set_option linter.unusedVariables false
namespace sha_engine_uint64_block
abbrev X4 := (List Int) × Int × Int × Int × Int × (List Int) × (List Int) × (List Int) × (List Int) × (List Int) × (List Int) × (List Int)
def S4 : X4 → ASt := fun (v2, v8, v19, h0_0, h0_1, h0_2, h0_3, h0_4, h0_5, h1_0, h2_0, h3_0) => ⟨[(2, .sl (.ints .u8 v2)), (3, .ptr 0 0), (4, .ptr 1 0), (6, .ptr 2 0), (7, .ptr 3 0), (8, .v (.int .i64 v8)), (19, .v (.int .i64 v19))], [(0, some ⟨.box 105 [.v (.int .i64 h0_0), .v (.int .i64 h0_1), .arr .i64 3 h0_2, .arr .i64 3 h0_3, .arr .i64 3 h0_4, .arr .i64 3 h0_5, .fn (.func 113) [] []], false⟩), (1, some ⟨.box 23 [.arr .u64 8 h1_0], false⟩), (2, some ⟨.box 23 [.arr .u64 8 h2_0], false⟩), (3, some ⟨.box 178 [.arr .u64 16 h3_0], false⟩)], 4, 142⟩
def V4 : ASt → Option X4
 | ⟨[(2, .sl (.ints .u8 v2)), (3, .ptr 0 0), (4, .ptr 1 0), (6, .ptr 2 0), (7, .ptr 3 0), (8, .v (.int .i64 v8)), (19, .v (.int .i64 v19))], [(0, some ⟨.box 105 [.v (.int .i64 h0_0), .v (.int .i64 h0_1), .arr .i64 3 h0_2, .arr .i64 3 h0_3, .arr .i64 3 h0_4, .arr .i64 3 h0_5, .fn (.func 113) [] []], false⟩), (1, some ⟨.box 23 [.arr .u64 8 h1_0], false⟩), (2, some ⟨.box 23 [.arr .u64 8 h2_0], false⟩), (3, some ⟨.box 178 [.arr .u64 16 h3_0], false⟩)], 4, 142⟩ => some (v2, v8, v19, h0_0, h0_1, h0_2, h0_3, h0_4, h0_5, h1_0, h2_0, h3_0)
 | _ => none
theorem V4_ok (st) (x) (h : V4 st = some x) : st = S4 x := by
 unfold V4 at h
 split at h
 · cases h; rfl
 · cases h
abbrev Y4 := X4
noncomputable def T4 : X4 → (X4 → Option R) → (Y4 → Option R) → Option R := fun (v2, v8, v19, h0_0, h0_1, h0_2, h0_3, h0_4, h0_5, h1_0, h2_0, h3_0) next ex => P.sha_engine_uint64_block_r4 v2 v8 v19 h0_0 h0_1 h0_2 h0_3 h0_4 h0_5 h1_0 h2_0 h3_0 (fun v2 v8 v19 h0_0 h0_1 h0_2 h0_3 h0_4 h0_5 h1_0 h2_0 h3_0 => next (v2, v8, v19, h0_0, h0_1, h0_2, h0_3, h0_4, h0_5, h1_0, h2_0, h3_0)) (fun v2 v8 v19 h0_0 h0_1 h0_2 h0_3 h0_4 h0_5 h1_0 h2_0 h3_0 => ex (v2, v8, v19, h0_0, h0_1, h0_2, h0_3, h0_4, h0_5, h1_0, h2_0, h3_0))
abbrev X10 := Int × Int × (List Int) × (List Int) × (List Int) × Int × Int × (List Int) × (List Int) × (List Int) × (List Int) × (List Int)
def S10 : X10 → ASt := fun (v37, v38, h3_0, h2_0, h1_0, h0_0, h0_1, h0_2, h0_3, h0_4, h0_5, h4_0) => ⟨[(3, .ptr 0 0), (4, .ptr 1 0), (6, .ptr 2 0), (7, .ptr 3 0), (10, .ptr 4 0), (37, .v (.int .i64 v37)), (38, .v (.int .i64 v38))], [(3, some ⟨.box 178 [.arr .u64 16 h3_0], false⟩), (2, some ⟨.box 23 [.arr .u64 8 h2_0], false⟩), (1, some ⟨.box 23 [.arr .u64 8 h1_0], false⟩), (0, some ⟨.box 105 [.v (.int .i64 h0_0), .v (.int .i64 h0_1), .arr .i64 3 h0_2, .arr .i64 3 h0_3, .arr .i64 3 h0_4, .arr .i64 3 h0_5, .fn (.func 113) [] []], false⟩), (4, some ⟨.box 23 [.arr .u64 8 h4_0], false⟩)], 5, 142⟩
def V10 : ASt → Option X10
 | ⟨[(3, .ptr 0 0), (4, .ptr 1 0), (6, .ptr 2 0), (7, .ptr 3 0), (10, .ptr 4 0), (37, .v (.int .i64 v37)), (38, .v (.int .i64 v38))], [(3, some ⟨.box 178 [.arr .u64 16 h3_0], false⟩), (2, some ⟨.box 23 [.arr .u64 8 h2_0], false⟩), (1, some ⟨.box 23 [.arr .u64 8 h1_0], false⟩), (0, some ⟨.box 105 [.v (.int .i64 h0_0), .v (.int .i64 h0_1), .arr .i64 3 h0_2, .arr .i64 3 h0_3, .arr .i64 3 h0_4, .arr .i64 3 h0_5, .fn (.func 113) [] []], false⟩), (4, some ⟨.box 23 [.arr .u64 8 h4_0], false⟩)], 5, 142⟩ => some (v37, v38, h3_0, h2_0, h1_0, h0_0, h0_1, h0_2, h0_3, h0_4, h0_5, h4_0)
 | _ => none
theorem V10_ok (st) (x) (h : V10 st = some x) : st = S10 x := by
 unfold V10 at h
 split at h
 · cases h; rfl
 · cases h
abbrev Y10 := X10
noncomputable def T10 : X10 → (X10 → Option R) → (Y10 → Option R) → Option R := fun (v37, v38, h3_0, h2_0, h1_0, h0_0, h0_1, h0_2, h0_3, h0_4, h0_5, h4_0) next ex => P.sha_engine_uint64_block_r10 v37 v38 h3_0 h2_0 h1_0 h0_0 h0_1 h0_2 h0_3 h0_4 h0_5 h4_0 (fun v37 v38 h3_0 h2_0 h1_0 h0_0 h0_1 h0_2 h0_3 h0_4 h0_5 h4_0 => next (v37, v38, h3_0, h2_0, h1_0, h0_0, h0_1, h0_2, h0_3, h0_4, h0_5, h4_0)) (fun v37 v38 h3_0 h2_0 h1_0 h0_0 h0_1 h0_2 h0_3 h0_4 h0_5 h4_0 => ex (v37, v38, h3_0, h2_0, h1_0, h0_0, h0_1, h0_2, h0_3, h0_4, h0_5, h4_0))
abbrev X21 := Int × (List Int) × (List Int) × (List Int)
def S21 : X21 → ASt := fun (v129, h1_0, h2_0, h4_0) => ⟨[(4, .ptr 1 0), (6, .ptr 2 0), (10, .ptr 4 0), (129, .v (.int .i64 v129))], [(1, some ⟨.box 23 [.arr .u64 8 h1_0], false⟩), (2, some ⟨.box 23 [.arr .u64 8 h2_0], false⟩), (4, some ⟨.box 23 [.arr .u64 8 h4_0], false⟩)], 120, 142⟩
def V21 : ASt → Option X21
 | ⟨[(4, .ptr 1 0), (6, .ptr 2 0), (10, .ptr 4 0), (129, .v (.int .i64 v129))], [(1, some ⟨.box 23 [.arr .u64 8 h1_0], false⟩), (2, some ⟨.box 23 [.arr .u64 8 h2_0], false⟩), (4, some ⟨.box 23 [.arr .u64 8 h4_0], false⟩)], 120, 142⟩ => some (v129, h1_0, h2_0, h4_0)
 | _ => none
theorem V21_ok (st) (x) (h : V21 st = some x) : st = S21 x := by
 unfold V21 at h
 split at h
 · cases h; rfl
 · cases h
abbrev Y21 := X21
noncomputable def T21 : X21 → (X21 → Option R) → (Y21 → Option R) → Option R := fun (v129, h1_0, h2_0, h4_0) next ex => P.sha_engine_uint64_block_r21 v129 h1_0 h2_0 h4_0 (fun v129 h1_0 h2_0 h4_0 => next (v129, h1_0, h2_0, h4_0)) (fun v129 h1_0 h2_0 h4_0 => ex (v129, h1_0, h2_0, h4_0))
def E4 (K : AExit → ASt → Option R) : Y4 → Option R := (fun x => K (.exit 0) (S4 x))
noncomputable def L4 : LSpec := fun st K => vMap (V4 st) fun (v2, v8, v19, h0_0, h0_1, h0_2, h0_3, h0_4, h0_5, h1_0, h2_0, h3_0) => P.sha_engine_uint64_block_l4 v2 v8 v19 h0_0 h0_1 h0_2 h0_3 h0_4 h0_5 h1_0 h2_0 h3_0 (fun v2 v8 v19 h0_0 h0_1 h0_2 h0_3 h0_4 h0_5 h1_0 h2_0 h3_0 => K (.exit 0) (S4 (v2, v8, v19, h0_0, h0_1, h0_2, h0_3, h0_4, h0_5, h1_0, h2_0, h3_0)))
def E10 (K : AExit → ASt → Option R) : Y10 → Option R := (fun x => K (.exit 2) (S10 x))
noncomputable def L10 : LSpec := fun st K => vMap (V10 st) fun (v37, v38, h3_0, h2_0, h1_0, h0_0, h0_1, h0_2, h0_3, h0_4, h0_5, h4_0) => P.sha_engine_uint64_block_l10 v37 v38 h3_0 h2_0 h1_0 h0_0 h0_1 h0_2 h0_3 h0_4 h0_5 h4_0 (fun v37 v38 h3_0 h2_0 h1_0 h0_0 h0_1 h0_2 h0_3 h0_4 h0_5 h4_0 => K (.exit 2) (S10 (v37, v38, h3_0, h2_0, h1_0, h0_0, h0_1, h0_2, h0_3, h0_4, h0_5, h4_0)))
def E21 (K : AExit → ASt → Option R) : Y21 → Option R := (fun x => K (.exit 4) (S21 x))
noncomputable def L21 : LSpec := fun st K => vMap (V21 st) fun (v129, h1_0, h2_0, h4_0) => P.sha_engine_uint64_block_l21 v129 h1_0 h2_0 h4_0 (fun v129 h1_0 h2_0 h4_0 => K (.exit 4) (S21 (v129, h1_0, h2_0, h4_0)))
noncomputable def D : Ctx := ({ P := Tryd.prog, G := [(75, bits_Num.spec), (113, sha_root512.spec), (132, sha_engine_uint64_high.spec), (133, sha_engine_uint64_low.spec)], globs := GLO.gB, hints := [(21, ⟨[4, 6, 10, 129], [], [6], [], some (120, [1, 2, 4]), []⟩), (10, ⟨[3, 4, 6, 7, 10, 37, 38], [], [6], [], none, []⟩), (4, ⟨[2, 3, 4, 6, 7, 8, 19], [], [6], [], none, []⟩)], loops := [(4, L4), (10, L10), (21, L21)], inl := [] } : Ctx)
theorem round4 (K) (next) (x) : roundA D (loopAt Tryd.f112 4) K next (S4 x) = T4 x (fun x => next (S4 x)) (E4 K) := by kernel_rfl
theorem lq4 (st) (K) : L4 st K = vMap (V4 st) (fun x => lp T4 x (E4 K)) := by
 unfold L4
 cases V4 st with
 | none => rfl
 | some x => rw [P.sha_engine_uint64_block_l4_eq]; kernel_rfl
theorem loop4 : LoopOk D (loopAt Tryd.f112 4) := loopOk_lp S4 V4_ok (by kernel_rfl) lq4 round4
theorem round10 (K) (next) (x) : roundA D (loopAt Tryd.f112 10) K next (S10 x) = T10 x (fun x => next (S10 x)) (E10 K) := by kernel_rfl
theorem lq10 (st) (K) : L10 st K = vMap (V10 st) (fun x => lp T10 x (E10 K)) := by
 unfold L10
 cases V10 st with
 | none => rfl
 | some x => rw [P.sha_engine_uint64_block_l10_eq]; kernel_rfl
theorem loop10 : LoopOk D (loopAt Tryd.f112 10) := loopOk_lp S10 V10_ok (by kernel_rfl) lq10 round10
theorem round21 (K) (next) (x) : roundA D (loopAt Tryd.f112 21) K next (S21 x) = T21 x (fun x => next (S21 x)) (E21 K) := by kernel_rfl
theorem lq21 (st) (K) : L21 st K = vMap (V21 st) (fun x => lp T21 x (E21 K)) := by
 unfold L21
 cases V21 st with
 | none => rfl
 | some x => rw [P.sha_engine_uint64_block_l21_eq]; kernel_rfl
theorem loop21 : LoopOk D (loopAt Tryd.f112 21) := loopOk_lp S21 V21_ok (by kernel_rfl) lq21 round21
theorem body (a0_bits : Int) (a0_rounds : Int) (a0_turns_0 : List Int) (a0_turns_1 : List Int) (a0_turns_2 : List Int) (a0_turns_3 : List Int) (a1 : List Int) (a2 : List Int) (K : AVal → Option R) : bodyA D Tryd.f112 [.any] [.agg [.v (.int .i64 a0_bits), .v (.int .i64 a0_rounds), .arr .i64 3 a0_turns_0, .arr .i64 3 a0_turns_1, .arr .i64 3 a0_turns_2, .arr .i64 3 a0_turns_3, .fn (.func 113) [] []], .arr .u64 8 a1, .sl (.ints .u8 a2)] K = P.sha_engine_uint64_block a0_bits a0_rounds a0_turns_0 a0_turns_1 a0_turns_2 a0_turns_3 a1 a2 (fun r0 => K (.arr .u64 8 r0)) := by
 rw [P.sha_engine_uint64_block_eq]
 kernel_rfl
theorem loops : loopsOf (Tryd.f112.body.getD .skip) = [loopAt Tryd.f112 4, loopAt Tryd.f112 10, loopAt Tryd.f112 21] := by kernel_rfl
noncomputable def spec0 : Abs.Spec := fun args K => match args with
 | [.agg [.v (.int .i64 a0_bits), .v (.int .i64 a0_rounds), .arr .i64 3 a0_turns_0, .arr .i64 3 a0_turns_1, .arr .i64 3 a0_turns_2, .arr .i64 3 a0_turns_3, .fn (.func 113) [] []], .arr .u64 8 a1, .sl (.ints .u8 a2)] => P.sha_engine_uint64_block a0_bits a0_rounds a0_turns_0 a0_turns_1 a0_turns_2 a0_turns_3 a1 a2 (fun r0 => K (.arr .u64 8 r0))
 | _ => none
noncomputable def spec : Abs.Spec := fun args K => spec0 (coerL [.any, .any, .sl (.ints .u8 [])] args) K
theorem ok0 : Proved Tryd.prog GLO.gB 112 spec0 := by
 refine proved_of (D := D) (fn := Tryd.f112) (c := Tryd.f112.body.getD .skip) [.any] (by kernel_rfl) (globsPlain_of (by kernel_rfl)) (by kernel_rfl) (by kernel_rfl) (by kernel_rfl) ⟨bits_Num.ok, sha_root512.ok, sha_engine_uint64_high.ok, sha_engine_uint64_low.ok, trivial⟩ trivial ?_ ?_
 · rw [loops]; exact ⟨loop4, loop10, loop21, trivial⟩
 · intro args K r h
   unfold spec0 at h
   split at h
   · rw [body]; exact h
   · cases h
theorem ok : Proved Tryd.prog GLO.gB 112 spec := proved_coer _ ok0
end sha_engine_uint64_block
end

section
open Go Go.Abs Go.Proofs
set_option maxRecDepth 100000
set_option linter.unusedVariables false
namespace sha_through_uint64
abbrev X3 := (List Int) × (List Int) × Int × Int × Int × (List Int) × (List Int) × (List Int) × (List Int) × (List Int) × (List Int) × (List Int)
def S3 : X3 → ASt := fun (v2, v14, v15, h0_0, h0_1, h0_2, h0_3, h0_4, h0_5, h1_0, h2_0, h3_0) => ⟨[(2, .sl (.ints .u8 v2)), (3, .ptr 0 0), (4, .ptr 1 0), (6, .ptr 2 0), (8, .ptr 3 0), (14, .arr .u64 8 v14), (15, .v (.int .i64 v15))], [(0, some ⟨.box 105 [.v (.int .i64 h0_0), .v (.int .i64 h0_1), .arr .i64 3 h0_2, .arr .i64 3 h0_3, .arr .i64 3 h0_4, .arr .i64 3 h0_5, .fn (.func 113) [] []], false⟩), (1, some ⟨.box 23 [.arr .u64 8 h1_0], false⟩), (2, some ⟨.box 23 [.arr .u64 8 h2_0], false⟩), (3, some ⟨.box 23 [.arr .u64 8 h3_0], false⟩)], 4, 50⟩
def V3 : ASt → Option X3
 | ⟨[(2, .sl (.ints .u8 v2)), (3, .ptr 0 0), (4, .ptr 1 0), (6, .ptr 2 0), (8, .ptr 3 0), (14, .arr .u64 8 v14), (15, .v (.int .i64 v15))], [(0, some ⟨.box 105 [.v (.int .i64 h0_0), .v (.int .i64 h0_1), .arr .i64 3 h0_2, .arr .i64 3 h0_3, .arr .i64 3 h0_4, .arr .i64 3 h0_5, .fn (.func 113) [] []], false⟩), (1, some ⟨.box 23 [.arr .u64 8 h1_0], false⟩), (2, some ⟨.box 23 [.arr .u64 8 h2_0], false⟩), (3, some ⟨.box 23 [.arr .u64 8 h3_0], false⟩)], 4, 50⟩ => some (v2, v14, v15, h0_0, h0_1, h0_2, h0_3, h0_4, h0_5, h1_0, h2_0, h3_0)
 | _ => none
theorem V3_ok (st) (x) (h : V3 st = some x) : st = S3 x := by
 unfold V3 at h
 split at h
 · cases h; rfl
 · cases h
abbrev Y3 := X3
noncomputable def T3 : X3 → (X3 → Option R) → (Y3 → Option R) → Option R := fun (v2, v14, v15, h0_0, h0_1, h0_2, h0_3, h0_4, h0_5, h1_0, h2_0, h3_0) next ex => P.sha_through_uint64_r3 v2 v14 v15 h0_0 h0_1 h0_2 h0_3 h0_4 h0_5 h1_0 h2_0 h3_0 (fun v2 v14 v15 h0_0 h0_1 h0_2 h0_3 h0_4 h0_5 h1_0 h2_0 h3_0 => next (v2, v14, v15, h0_0, h0_1, h0_2, h0_3, h0_4, h0_5, h1_0, h2_0, h3_0)) (fun v2 v14 v15 h0_0 h0_1 h0_2 h0_3 h0_4 h0_5 h1_0 h2_0 h3_0 => ex (v2, v14, v15, h0_0, h0_1, h0_2, h0_3, h0_4, h0_5, h1_0, h2_0, h3_0))
abbrev X8 := (List Int) × Int × (List Int) × (List Int) × (List Int) × Int × Int × (List Int) × (List Int) × (List Int) × (List Int)
def S8 : X8 → ASt := fun (v2, v11, h3_0, h2_0, h1_0, h0_0, h0_1, h0_2, h0_3, h0_4, h0_5) => ⟨[(2, .sl (.ints .u8 v2)), (3, .ptr 0 0), (4, .ptr 1 0), (6, .ptr 2 0), (8, .ptr 3 0), (11, .v (.int .i64 v11))], [(3, some ⟨.box 23 [.arr .u64 8 h3_0], false⟩), (2, some ⟨.box 23 [.arr .u64 8 h2_0], false⟩), (1, some ⟨.box 23 [.arr .u64 8 h1_0], false⟩), (0, some ⟨.box 105 [.v (.int .i64 h0_0), .v (.int .i64 h0_1), .arr .i64 3 h0_2, .arr .i64 3 h0_3, .arr .i64 3 h0_4, .arr .i64 3 h0_5, .fn (.func 113) [] []], false⟩)], 4, 50⟩
def V8 : ASt → Option X8
 | ⟨[(2, .sl (.ints .u8 v2)), (3, .ptr 0 0), (4, .ptr 1 0), (6, .ptr 2 0), (8, .ptr 3 0), (11, .v (.int .i64 v11))], [(3, some ⟨.box 23 [.arr .u64 8 h3_0], false⟩), (2, some ⟨.box 23 [.arr .u64 8 h2_0], false⟩), (1, some ⟨.box 23 [.arr .u64 8 h1_0], false⟩), (0, some ⟨.box 105 [.v (.int .i64 h0_0), .v (.int .i64 h0_1), .arr .i64 3 h0_2, .arr .i64 3 h0_3, .arr .i64 3 h0_4, .arr .i64 3 h0_5, .fn (.func 113) [] []], false⟩)], 4, 50⟩ => some (v2, v11, h3_0, h2_0, h1_0, h0_0, h0_1, h0_2, h0_3, h0_4, h0_5)
 | _ => none
theorem V8_ok (st) (x) (h : V8 st = some x) : st = S8 x := by
 unfold V8 at h
 split at h
 · cases h; rfl
 · cases h
abbrev Y8 := X8
noncomputable def T8 : X8 → (X8 → Option R) → (Y8 → Option R) → Option R := fun (v2, v11, h3_0, h2_0, h1_0, h0_0, h0_1, h0_2, h0_3, h0_4, h0_5) next ex => P.sha_through_uint64_r8 v2 v11 h3_0 h2_0 h1_0 h0_0 h0_1 h0_2 h0_3 h0_4 h0_5 (fun v2 v11 h3_0 h2_0 h1_0 h0_0 h0_1 h0_2 h0_3 h0_4 h0_5 => next (v2, v11, h3_0, h2_0, h1_0, h0_0, h0_1, h0_2, h0_3, h0_4, h0_5)) (fun v2 v11 h3_0 h2_0 h1_0 h0_0 h0_1 h0_2 h0_3 h0_4 h0_5 => ex (v2, v11, h3_0, h2_0, h1_0, h0_0, h0_1, h0_2, h0_3, h0_4, h0_5))
abbrev X12 := (List Int) × (List Int) × Int × (List Int) × (List Int)
def S12 : X12 → ASt := fun (v2, v39, v40, h1_0, h2_0) => ⟨[(2, .sl (.ints .u8 v2)), (4, .ptr 1 0), (6, .ptr 2 0), (39, .arr .u64 8 v39), (40, .v (.int .i64 v40))], [(1, some ⟨.box 23 [.arr .u64 8 h1_0], false⟩), (2, some ⟨.box 23 [.arr .u64 8 h2_0], false⟩)], 120, 50⟩
def V12 : ASt → Option X12
 | ⟨[(2, .sl (.ints .u8 v2)), (4, .ptr 1 0), (6, .ptr 2 0), (39, .arr .u64 8 v39), (40, .v (.int .i64 v40))], [(1, some ⟨.box 23 [.arr .u64 8 h1_0], false⟩), (2, some ⟨.box 23 [.arr .u64 8 h2_0], false⟩)], 120, 50⟩ => some (v2, v39, v40, h1_0, h2_0)
 | _ => none
theorem V12_ok (st) (x) (h : V12 st = some x) : st = S12 x := by
 unfold V12 at h
 split at h
 · cases h; rfl
 · cases h
abbrev Y12 := X12
noncomputable def T12 : X12 → (X12 → Option R) → (Y12 → Option R) → Option R := fun (v2, v39, v40, h1_0, h2_0) next ex => P.sha_through_uint64_r12 v2 v39 v40 h1_0 h2_0 (fun v2 v39 v40 h1_0 h2_0 => next (v2, v39, v40, h1_0, h2_0)) (fun v2 v39 v40 h1_0 h2_0 => ex (v2, v39, v40, h1_0, h2_0))
def E3 (K : AExit → ASt → Option R) : Y3 → Option R := (fun x => K (.exit 0) (S3 x))
noncomputable def L3 : LSpec := fun st K => vMap (V3 st) fun (v2, v14, v15, h0_0, h0_1, h0_2, h0_3, h0_4, h0_5, h1_0, h2_0, h3_0) => P.sha_through_uint64_l3 v2 v14 v15 h0_0 h0_1 h0_2 h0_3 h0_4 h0_5 h1_0 h2_0 h3_0 (fun v2 v14 v15 h0_0 h0_1 h0_2 h0_3 h0_4 h0_5 h1_0 h2_0 h3_0 => K (.exit 0) (S3 (v2, v14, v15, h0_0, h0_1, h0_2, h0_3, h0_4, h0_5, h1_0, h2_0, h3_0)))
def E8 (K : AExit → ASt → Option R) : Y8 → Option R := (fun x => K (.exit 2) (S8 x))
noncomputable def L8 : LSpec := fun st K => vMap (V8 st) fun (v2, v11, h3_0, h2_0, h1_0, h0_0, h0_1, h0_2, h0_3, h0_4, h0_5) => P.sha_through_uint64_l8 v2 v11 h3_0 h2_0 h1_0 h0_0 h0_1 h0_2 h0_3 h0_4 h0_5 (fun v2 v11 h3_0 h2_0 h1_0 h0_0 h0_1 h0_2 h0_3 h0_4 h0_5 => K (.exit 2) (S8 (v2, v11, h3_0, h2_0, h1_0, h0_0, h0_1, h0_2, h0_3, h0_4, h0_5)))
def E12 (K : AExit → ASt → Option R) : Y12 → Option R := (fun x => K (.exit 4) (S12 x))
noncomputable def L12 : LSpec := fun st K => vMap (V12 st) fun (v2, v39, v40, h1_0, h2_0) => P.sha_through_uint64_l12 v2 v39 v40 h1_0 h2_0 (fun v2 v39 v40 h1_0 h2_0 => K (.exit 4) (S12 (v2, v39, v40, h1_0, h2_0)))
noncomputable def D : Ctx := ({ P := Tryd.prog, G := [(112, sha_engine_uint64_block.spec), (113, sha_root512.spec)], globs := GLO.gB, hints := [(12, ⟨[2, 4, 6, 39, 40], [], [6, 7], [], some (120, [1, 2]), []⟩), (8, ⟨[2, 3, 4, 6, 8, 11], [], [6, 7], [(2, .sl (.ints .u8 []))], none, []⟩), (3, ⟨[2, 3, 4, 6, 8, 14, 15], [], [6, 7], [], none, []⟩)], loops := [(3, L3), (8, L8), (12, L12)], inl := [] } : Ctx)
theorem round3 (K) (next) (x) : roundA D (loopAt Tryd.f62 3) K next (S3 x) = T3 x (fun x => next (S3 x)) (E3 K) := by kernel_rfl
theorem lq3 (st) (K) : L3 st K = vMap (V3 st) (fun x => lp T3 x (E3 K)) := by
 unfold L3
 cases V3 st with
 | none => rfl
 | some x => rw [P.sha_through_uint64_l3_eq]; kernel_rfl
theorem loop3 : LoopOk D (loopAt Tryd.f62 3) := loopOk_lp S3 V3_ok (by kernel_rfl) lq3 round3
theorem round8 (K) (next) (x) : roundA D (loopAt Tryd.f62 8) K next (S8 x) = T8 x (fun x => next (S8 x)) (E8 K) := by kernel_rfl
theorem lq8 (st) (K) : L8 st K = vMap (V8 st) (fun x => lp T8 x (E8 K)) := by
 unfold L8
 cases V8 st with
 | none => rfl
 | some x => rw [P.sha_through_uint64_l8_eq]; kernel_rfl
theorem loop8 : LoopOk D (loopAt Tryd.f62 8) := loopOk_lp S8 V8_ok (by kernel_rfl) lq8 round8
theorem round12 (K) (next) (x) : roundA D (loopAt Tryd.f62 12) K next (S12 x) = T12 x (fun x => next (S12 x)) (E12 K) := by kernel_rfl
theorem lq12 (st) (K) : L12 st K = vMap (V12 st) (fun x => lp T12 x (E12 K)) := by
 unfold L12
 cases V12 st with
 | none => rfl
 | some x => rw [P.sha_through_uint64_l12_eq]; kernel_rfl
theorem loop12 : LoopOk D (loopAt Tryd.f62 12) := loopOk_lp S12 V12_ok (by kernel_rfl) lq12 round12
theorem body (a0_bits : Int) (a0_rounds : Int) (a0_turns_0 : List Int) (a0_turns_1 : List Int) (a0_turns_2 : List Int) (a0_turns_3 : List Int) (a1 : List Int) (a2 : List Int) (K : AVal → Option R) : bodyA D Tryd.f62 [.any, .sl (.ints .u8 [])] [.agg [.v (.int .i64 a0_bits), .v (.int .i64 a0_rounds), .arr .i64 3 a0_turns_0, .arr .i64 3 a0_turns_1, .arr .i64 3 a0_turns_2, .arr .i64 3 a0_turns_3, .fn (.func 113) [] []], .arr .u64 8 a1, .sl (.ints .u8 a2)] K = P.sha_through_uint64 a0_bits a0_rounds a0_turns_0 a0_turns_1 a0_turns_2 a0_turns_3 a1 a2 (fun r0 r1 => K (.tuple [.arr .u64 8 r0, .sl (.ints .u8 r1)])) := by
 rw [P.sha_through_uint64_eq]
 kernel_rfl
theorem loops : loopsOf (Tryd.f62.body.getD .skip) = [loopAt Tryd.f62 3, loopAt Tryd.f62 8, loopAt Tryd.f62 12] := by kernel_rfl
noncomputable def spec0 : Abs.Spec := fun args K => match args with
 | [.agg [.v (.int .i64 a0_bits), .v (.int .i64 a0_rounds), .arr .i64 3 a0_turns_0, .arr .i64 3 a0_turns_1, .arr .i64 3 a0_turns_2, .arr .i64 3 a0_turns_3, .fn (.func 113) [] []], .arr .u64 8 a1, .sl (.ints .u8 a2)] => P.sha_through_uint64 a0_bits a0_rounds a0_turns_0 a0_turns_1 a0_turns_2 a0_turns_3 a1 a2 (fun r0 r1 => K (.tuple [.arr .u64 8 r0, .sl (.ints .u8 r1)]))
 | _ => none
noncomputable def spec : Abs.Spec := fun args K => spec0 (coerL [.any, .any, .sl (.ints .u8 [])] args) K
theorem ok0 : Proved Tryd.prog GLO.gB 62 spec0 := by
 refine proved_of (D := D) (fn := Tryd.f62) (c := Tryd.f62.body.getD .skip) [.any, .sl (.ints .u8 [])] (by kernel_rfl) (globsPlain_of (by kernel_rfl)) (by kernel_rfl) (by kernel_rfl) (by kernel_rfl) ⟨sha_engine_uint64_block.ok, sha_root512.ok, trivial⟩ trivial ?_ ?_
 · rw [loops]; exact ⟨loop3, loop8, loop12, trivial⟩
 · intro args K r h
   unfold spec0 at h
   split at h
   · rw [body]; exact h
   · cases h
theorem ok : Proved Tryd.prog GLO.gB 62 spec := proved_coer _ ok0
end sha_through_uint64
end

section
open Go Go.Abs Go.Proofs
set_option maxRecDepth 100000
set_option linter.unusedVariables false
namespace slices_Clone_byte
noncomputable def D : Ctx := { P := Tryd.prog, G := [], globs := GLO.gB, hints := [], loops := [] }
noncomputable def c : Code := Tryd.f64.body.getD .skip
noncomputable def o0 : Oper := (regOps (sq1 c)).getD 0 anOper
noncomputable def o1 : Oper := (regOps (sq1 (sq1 (sq2 c)))).getD 0 anOper
noncomputable def o2 : Oper := (regOps (sq1 (sq1 (sq2 c)))).getD 1 anOper
noncomputable def X : Code := condX (sq2 (sq1 (sq2 c)))
noncomputable def rest : Code := sq2 (sq2 c)
noncomputable def ox : Oper := (regOps (sq1 X)).getD 0 anOper
theorem rest_eq (a0 : List Int) : codeA D rest ⟨[(0, .sl (.ints .u8 a0)), (2, .v (.slice none 0 0))], [], 0, Tryd.f64.ntmps⟩ (outK D [.fr 5 (.ints .u8 a0)] Tryd.f64) = br (decide ((0 + a0.length) * 1 ≤ 140737488355328)) (some (.fr 5 (.ints .u8 a0))) none := by kernel_rfl
noncomputable def spec0 : Abs.Spec := fun args K => match args with
  | [.sl (.ints .u8 a0)] => P.slices_Clone_byte a0 (fun a0 => K (.fr 5 (.ints .u8 a0)))
  | _ => none
theorem body_eq : Tryd.f64.body = some (.seq (.region 0 #[o0] false) (.seq (.seq (.region 1 #[o1, o2] false) (.cond (.tmp 4) X .skip)) rest)) := by kernel_rfl
theorem ok0 : Proved Tryd.prog GLO.gB 64 spec0 := by
  refine ⟨⟨Tryd.f64, by kernel_rfl, by kernel_rfl, by kernel_rfl⟩, fun args K r h => ?_⟩
  unfold spec0 at h
  split at h
  · rename_i a0
    unfold P.slices_Clone_byte at h
    obtain ⟨hp, hK⟩ := pre_some h
    refine ⟨_, hK, clone_ok (D := D) (fn := Tryd.f64) (t := 24) (e := 5) trivial (globsPlain_of (by kernel_rfl)) trivial (by kernel_rfl) (by kernel_rfl) body_eq ⟨by kernel_rfl, by kernel_rfl, by kernel_rfl⟩ ⟨by kernel_rfl, by kernel_rfl, by kernel_rfl⟩ ⟨by kernel_rfl, by kernel_rfl, by kernel_rfl⟩ (by kernel_rfl) (by decide +kernel) (by kernel_rfl) (by kernel_rfl) ⟨2, ox, by kernel_rfl, by kernel_rfl, by kernel_rfl, by kernel_rfl⟩ (by kernel_rfl) rfl rfl rfl ?_⟩
    rw [rest_eq, br_pos (by omega)]
  · cases h
noncomputable def spec : Abs.Spec := fun args K => spec0 (coerL [.sl (.ints .u8 [])] args) K
theorem ok : Proved Tryd.prog GLO.gB 64 spec := proved_coer _ ok0
end slices_Clone_byte
end

section
open Go Go.Abs Go.Proofs
set_option maxRecDepth 100000
set_option linter.unusedVariables false
namespace sha_Add
noncomputable def D : Ctx := ({ P := Tryd.prog, G := [(59, slices_Concat_byte.spec), (60, sha_through_uint32.spec), (61, sha_small.spec), (62, sha_through_uint64.spec), (63, sha_great.spec), (64, slices_Clone_byte.spec)], globs := GLO.gB, hints := [], loops := [], inl := [] } : Ctx)
theorem body (a0_Kind : Int) (a0_Words : List Int) (a0_Tail : List Int) (a0_Size : Int) (a1 : List Int) (K : AVal → Option R) : bodyA D Tryd.f15 [.agg [.any, .any, .fr 5 (.ints .u8 []), .any]] [.agg [.v (.int .i64 a0_Kind), .arr .u64 8 a0_Words, .sl (.ints .u8 a0_Tail), .v (.int .u64 a0_Size)], .sl (.ints .u8 a1)] K = P.sha_Add a0_Kind a0_Words a0_Tail a0_Size a1 (fun r0_Kind r0_Words r0_Tail r0_Size => K (.agg [.v (.int .i64 r0_Kind), .arr .u64 8 r0_Words, .fr 5 (.ints .u8 r0_Tail), .v (.int .u64 r0_Size)])) := by
 rw [P.sha_Add_eq]
 kernel_rfl
theorem loops : loopsOf (Tryd.f15.body.getD .skip) = [] := by kernel_rfl
noncomputable def spec0 : Abs.Spec := fun args K => match args with
 | [.agg [.v (.int .i64 a0_Kind), .arr .u64 8 a0_Words, .sl (.ints .u8 a0_Tail), .v (.int .u64 a0_Size)], .sl (.ints .u8 a1)] => P.sha_Add a0_Kind a0_Words a0_Tail a0_Size a1 (fun r0_Kind r0_Words r0_Tail r0_Size => K (.agg [.v (.int .i64 r0_Kind), .arr .u64 8 r0_Words, .fr 5 (.ints .u8 r0_Tail), .v (.int .u64 r0_Size)]))
 | _ => none
noncomputable def spec : Abs.Spec := fun args K => spec0 (coerL [.agg [.any, .any, .sl (.ints .u8 []), .any], .sl (.ints .u8 [])] args) K
theorem ok0 : Proved Tryd.prog GLO.gB 15 spec0 := by
 refine proved_of (D := D) (fn := Tryd.f15) (c := Tryd.f15.body.getD .skip) [.agg [.any, .any, .fr 5 (.ints .u8 []), .any]] (by kernel_rfl) (globsPlain_of (by kernel_rfl)) (by kernel_rfl) (by kernel_rfl) (by kernel_rfl) ⟨slices_Concat_byte.ok, sha_through_uint32.ok, sha_small.ok, sha_through_uint64.ok, sha_great.ok, slices_Clone_byte.ok, trivial⟩ trivial ?_ ?_
 · rw [loops]; exact trivial
 · intro args K r h
   unfold spec0 at h
   split at h
   · rw [body]; exact h
   · cases h
theorem ok : Proved Tryd.prog GLO.gB 15 spec := proved_coer _ ok0
end sha_Add
end

section
open Go Go.Abs Go.Proofs
set_option maxRecDepth 100000
set_option linter.unusedVariables false
namespace sha_blockSize
noncomputable def D : Ctx := ({ P := Tryd.prog, G := [], globs := GLO.gB, hints := [], loops := [], inl := [] } : Ctx)
theorem body (a0 : Int) (K : AVal → Option R) : bodyA D Tryd.f67 [.any] [.v (.int .i64 a0)] K = P.sha_blockSize a0 (fun r0 => K (.v (.int .i64 r0))) := by
 rw [P.sha_blockSize_eq]
 kernel_rfl
theorem loops : loopsOf (Tryd.f67.body.getD .skip) = [] := by kernel_rfl
noncomputable def spec0 : Abs.Spec := fun args K => match args with
 | [.v (.int .i64 a0)] => P.sha_blockSize a0 (fun r0 => K (.v (.int .i64 r0)))
 | _ => none
noncomputable def spec : Abs.Spec := spec0
theorem ok0 : Proved Tryd.prog GLO.gB 67 spec0 := by
 refine proved_of (D := D) (fn := Tryd.f67) (c := Tryd.f67.body.getD .skip) [.any] (by kernel_rfl) (globsPlain_of (by kernel_rfl)) (by kernel_rfl) (by kernel_rfl) (by kernel_rfl) trivial trivial ?_ ?_
 · rw [loops]; exact trivial
 · intro args K r h
   unfold spec0 at h
   split at h
   · rw [body]; exact h
   · cases h
theorem ok : Proved Tryd.prog GLO.gB 67 spec := ok0
end sha_blockSize
end

section
open Go Go.Abs Go.Proofs
set_option maxRecDepth 100000
set_option linter.unusedVariables false
namespace sha_End
abbrev X10 := Int × (List Int) × Int × (List Int) × Int × (List Int) × Int × (List Int)
def S10 : X10 → ASt := fun (v3, v45, v46, h40, h0_0, h0_1, h0_3, h5) => ⟨[(7, .own 40), (1, .ptr 0 0), (3, .v (.int .i64 v3)), (45, .arr .u64 8 v45), (46, .v (.int .i64 v46))], [(40, some ⟨.row 5 (.ints .u8 h40), false⟩), (0, some ⟨.box 26 [.v (.int .i64 h0_0), .arr .u64 8 h0_1, .own 5, .v (.int .u64 h0_3)], false⟩), (5, some ⟨.row 5 (.ints .u8 h5), false⟩)], 41, 62⟩
def V10 : ASt → Option X10
 | ⟨[(7, .own 40), (1, .ptr 0 0), (3, .v (.int .i64 v3)), (45, .arr .u64 8 v45), (46, .v (.int .i64 v46))], [(40, some ⟨.row 5 (.ints .u8 h40), false⟩), (0, some ⟨.box 26 [.v (.int .i64 h0_0), .arr .u64 8 h0_1, .own 5, .v (.int .u64 h0_3)], false⟩), (5, some ⟨.row 5 (.ints .u8 h5), false⟩)], 41, 62⟩ => some (v3, v45, v46, h40, h0_0, h0_1, h0_3, h5)
 | _ => none
theorem V10_ok (st) (x) (h : V10 st = some x) : st = S10 x := by
 unfold V10 at h
 split at h
 · cases h; rfl
 · cases h
abbrev Y10 := X10
noncomputable def T10 : X10 → (X10 → Option R) → (Y10 → Option R) → Option R := fun (v3, v45, v46, h40, h0_0, h0_1, h0_3, h5) next ex => P.sha_End_r10 v3 v45 v46 h40 h0_0 h0_1 h0_3 h5 (fun v3 v45 v46 h40 h0_0 h0_1 h0_3 h5 => next (v3, v45, v46, h40, h0_0, h0_1, h0_3, h5)) (fun v3 v45 v46 h40 h0_0 h0_1 h0_3 h5 => ex (v3, v45, v46, h40, h0_0, h0_1, h0_3, h5))
def E10 (K : AExit → ASt → Option R) : Y10 → Option R := (fun x => K (.exit 0) (S10 x))
noncomputable def L10 : LSpec := fun st K => vMap (V10 st) fun (v3, v45, v46, h40, h0_0, h0_1, h0_3, h5) => P.sha_End_l10 v3 v45 v46 h40 h0_0 h0_1 h0_3 h5 (fun v3 v45 v46 h40 h0_0 h0_1 h0_3 h5 => K (.exit 0) (S10 (v3, v45, v46, h40, h0_0, h0_1, h0_3, h5)))
noncomputable def D : Ctx := ({ P := Tryd.prog, G := [(15, sha_Add.spec), (67, sha_blockSize.spec), (68, bits_Be.spec)], globs := GLO.gB, hints := [(10, ⟨[1, 3, 45, 46], [(7, 5, .ints .u8 [])], [2], [], some (40, [0, 5]), []⟩)], loops := [(10, L10)], inl := [] } : Ctx)
theorem round10 (K) (next) (x) : roundA D (loopAt Tryd.f19 10) K next (S10 x) = T10 x (fun x => next (S10 x)) (E10 K) := by kernel_rfl
theorem lq10 (st) (K) : L10 st K = vMap (V10 st) (fun x => lp T10 x (E10 K)) := by
 unfold L10
 cases V10 st with
 | none => rfl
 | some x => rw [P.sha_End_l10_eq]; kernel_rfl
theorem loop10 : LoopOk D (loopAt Tryd.f19 10) := loopOk_lp S10 V10_ok (by kernel_rfl) lq10 round10
theorem body (a0_Kind : Int) (a0_Words : List Int) (a0_Tail : List Int) (a0_Size : Int) (K : AVal → Option R) : bodyW D Tryd.f19 5 (.ints .u8 []) [.agg [.v (.int .i64 a0_Kind), .arr .u64 8 a0_Words, .sl (.ints .u8 a0_Tail), .v (.int .u64 a0_Size)]] K = P.sha_End a0_Kind a0_Words a0_Tail a0_Size (fun r0 => K (.fr 5 (.ints .u8 r0))) := by
 rw [P.sha_End_eq]
 kernel_rfl
theorem loops : loopsOf (Tryd.f19.body.getD .skip) = [loopAt Tryd.f19 10] := by kernel_rfl
noncomputable def spec0 : Abs.Spec := fun args K => match args with
 | [.agg [.v (.int .i64 a0_Kind), .arr .u64 8 a0_Words, .sl (.ints .u8 a0_Tail), .v (.int .u64 a0_Size)]] => P.sha_End a0_Kind a0_Words a0_Tail a0_Size (fun r0 => K (.fr 5 (.ints .u8 r0)))
 | _ => none
noncomputable def spec : Abs.Spec := fun args K => spec0 (coerL [.agg [.any, .any, .sl (.ints .u8 []), .any]] args) K
theorem ok0 : Proved Tryd.prog GLO.gB 19 spec0 := by
 refine provedW_of (D := D) (fn := Tryd.f19) (c := Tryd.f19.body.getD .skip) 5 (.ints .u8 []) (by kernel_rfl) (globsPlain_of (by kernel_rfl)) (by kernel_rfl) (by kernel_rfl) (by kernel_rfl) ⟨sha_Add.ok, sha_blockSize.ok, bits_Be.ok, trivial⟩ trivial ?_ ?_
 · rw [loops]; exact ⟨loop10, trivial⟩
 · intro args K r h
   unfold spec0 at h
   split at h
   · rw [body]; exact h
   · cases h
theorem ok : Proved Tryd.prog GLO.gB 19 spec := proved_coer _ ok0
end sha_End
end

section
open Go Go.Abs Go.Proofs
set_option maxRecDepth 100000
set_option linter.unusedVariables false
namespace sha_begin
noncomputable def D : Ctx := ({ P := Tryd.prog, G := [], globs := GLO.gB, hints := [], loops := [], inl := [] } : Ctx)
theorem body (a0 : Int) (K : AVal → Option R) : bodyA D Tryd.f69 [.any, .any] [.v (.int .i64 a0)] K = P.sha_begin a0 (fun r0 r1 => K (.tuple [.arr .u64 8 r0, .v (.bool r1)])) := by
 rw [P.sha_begin_eq]
 kernel_rfl
theorem loops : loopsOf (Tryd.f69.body.getD .skip) = [] := by kernel_rfl
noncomputable def spec0 : Abs.Spec := fun args K => match args with
 | [.v (.int .i64 a0)] => P.sha_begin a0 (fun r0 r1 => K (.tuple [.arr .u64 8 r0, .v (.bool r1)]))
 | _ => none
noncomputable def spec : Abs.Spec := spec0
theorem ok0 : Proved Tryd.prog GLO.gB 69 spec0 := by
 refine proved_of (D := D) (fn := Tryd.f69) (c := Tryd.f69.body.getD .skip) [.any, .any] (by kernel_rfl) (globsPlain_of (by kernel_rfl)) (by kernel_rfl) (by kernel_rfl) (by kernel_rfl) trivial trivial ?_ ?_
 · rw [loops]; exact trivial
 · intro args K r h
   unfold spec0 at h
   split at h
   · rw [body]; exact h
   · cases h
theorem ok : Proved Tryd.prog GLO.gB 69 spec := ok0
end sha_begin
end

section
open Go Go.Abs Go.Proofs
set_option maxRecDepth 100000
set_option linter.unusedVariables false
namespace sha_New
noncomputable def D : Ctx := ({ P := Tryd.prog, G := [(69, sha_begin.spec)], globs := GLO.gB, hints := [], loops := [], inl := [] } : Ctx)
theorem body (a0 : Int) (K : AVal → Option R) : bodyA D Tryd.f21 [.agg [.any, .any, .fr 5 (.ints .u8 []), .any], .any] [.v (.int .i64 a0)] K = P.sha_New a0 (fun r0_Kind r0_Words r0_Tail r0_Size r1 => K (.tuple [.agg [.v (.int .i64 r0_Kind), .arr .u64 8 r0_Words, .fr 5 (.ints .u8 r0_Tail), .v (.int .u64 r0_Size)], .v (.int .i64 r1)])) := by
 rw [P.sha_New_eq]
 kernel_rfl
theorem loops : loopsOf (Tryd.f21.body.getD .skip) = [] := by kernel_rfl
noncomputable def spec0 : Abs.Spec := fun args K => match args with
 | [.v (.int .i64 a0)] => P.sha_New a0 (fun r0_Kind r0_Words r0_Tail r0_Size r1 => K (.tuple [.agg [.v (.int .i64 r0_Kind), .arr .u64 8 r0_Words, .fr 5 (.ints .u8 r0_Tail), .v (.int .u64 r0_Size)], .v (.int .i64 r1)]))
 | _ => none
noncomputable def spec : Abs.Spec := spec0
theorem ok0 : Proved Tryd.prog GLO.gB 21 spec0 := by
 refine proved_of (D := D) (fn := Tryd.f21) (c := Tryd.f21.body.getD .skip) [.agg [.any, .any, .fr 5 (.ints .u8 []), .any], .any] (by kernel_rfl) (globsPlain_of (by kernel_rfl)) (by kernel_rfl) (by kernel_rfl) (by kernel_rfl) ⟨sha_begin.ok, trivial⟩ trivial ?_ ?_
 · rw [loops]; exact trivial
 · intro args K r h
   unfold spec0 at h
   split at h
   · rw [body]; exact h
   · cases h
theorem ok : Proved Tryd.prog GLO.gB 21 spec := ok0
end sha_New
end

section
open Go Go.Abs Go.Proofs
set_option maxRecDepth 100000
set_option linter.unusedVariables false
namespace lmots_leaf_sum
noncomputable def D : Ctx := ({ P := Tryd.prog, G := [(15, sha_Add.spec), (19, sha_End.spec), (21, sha_New.spec), (68, bits_Be.spec), (76, bits_Join.spec)], globs := GLO.gB, hints := [], loops := [], inl := [] } : Ctx)
theorem body (a0_w : Int) (a0_id : List Int) (a0_q : Int) (a0_kind_digits : Int) (a0_kind_shift : Int) (a0_kind_code : Int) (a1 : Int) (a2 : List (List Int)) (K : AVal → Option R) : bodyA D Tryd.f86 [.fr 5 (.ints .u8 [])] [.agg [.v (.int .i64 a0_w), .sl (.ints .u8 a0_id), .v (.int .u32 a0_q), .v (.int .i64 a0_kind_digits), .v (.int .i64 a0_kind_shift), .v (.int .i64 a0_kind_code)], .v (.int .u64 a1), .sl (.rows .u8 a2)] K = P.lmots_leaf_sum a0_w a0_id a0_q a0_kind_digits a0_kind_shift a0_kind_code a1 a2 (fun r0 => K (.fr 5 (.ints .u8 r0))) := by
 rw [P.lmots_leaf_sum_eq]
 kernel_rfl
theorem loops : loopsOf (Tryd.f86.body.getD .skip) = [] := by kernel_rfl
noncomputable def spec0 : Abs.Spec := fun args K => match args with
 | [.agg [.v (.int .i64 a0_w), .sl (.ints .u8 a0_id), .v (.int .u32 a0_q), .v (.int .i64 a0_kind_digits), .v (.int .i64 a0_kind_shift), .v (.int .i64 a0_kind_code)], .v (.int .u64 a1), .sl (.rows .u8 a2)] => P.lmots_leaf_sum a0_w a0_id a0_q a0_kind_digits a0_kind_shift a0_kind_code a1 a2 (fun r0 => K (.fr 5 (.ints .u8 r0)))
 | _ => none
noncomputable def spec : Abs.Spec := fun args K => spec0 (coerL [.agg [.any, .sl (.ints .u8 []), .any, .any, .any, .any], .any, .sl (.rows .u8 [])] args) K
theorem ok0 : Proved Tryd.prog GLO.gB 86 spec0 := by
 refine proved_of (D := D) (fn := Tryd.f86) (c := Tryd.f86.body.getD .skip) [.fr 5 (.ints .u8 [])] (by kernel_rfl) (globsPlain_of (by kernel_rfl)) (by kernel_rfl) (by kernel_rfl) (by kernel_rfl) ⟨sha_Add.ok, sha_End.ok, sha_New.ok, bits_Be.ok, bits_Join.ok, trivial⟩ trivial ?_ ?_
 · rw [loops]; exact trivial
 · intro args K r h
   unfold spec0 at h
   split at h
   · rw [body]; exact h
   · cases h
theorem ok : Proved Tryd.prog GLO.gB 86 spec := proved_coer _ ok0
end lmots_leaf_sum
end

section
open Go Go.Abs Go.Proofs
set_option maxRecDepth 100000
set_option linter.unusedVariables false
namespace lmots_leaf_along
abbrev X2 := Int × Int × (List Int) × Int × Int × Int × (List Int) × Int × Int × Int × Int
def S2 : X2 → ASt := fun (v1, v2, v4, v12, v13, h0_0, h0_1, h0_2, h0_3, h0_4, h0_5) => ⟨[(1, .v (.int .i64 v1)), (2, .v (.int .u32 v2)), (4, .sl (.ints .u8 v4)), (5, .ptr 0 0), (12, .v (.int .u32 v12)), (13, .v (.int .u32 v13))], [(0, some ⟨.box 130 [.v (.int .i64 h0_0), .sl (.ints .u8 h0_1), .v (.int .u32 h0_2), .v (.int .i64 h0_3), .v (.int .i64 h0_4), .v (.int .i64 h0_5)], false⟩)], 1, 29⟩
def V2 : ASt → Option X2
 | ⟨[(1, .v (.int .i64 v1)), (2, .v (.int .u32 v2)), (4, .sl (.ints .u8 v4)), (5, .ptr 0 0), (12, .v (.int .u32 v12)), (13, .v (.int .u32 v13))], [(0, some ⟨.box 130 [.v (.int .i64 h0_0), .sl (.ints .u8 h0_1), .v (.int .u32 h0_2), .v (.int .i64 h0_3), .v (.int .i64 h0_4), .v (.int .i64 h0_5)], false⟩)], 1, 29⟩ => some (v1, v2, v4, v12, v13, h0_0, h0_1, h0_2, h0_3, h0_4, h0_5)
 | _ => none
theorem V2_ok (st) (x) (h : V2 st = some x) : st = S2 x := by
 unfold V2 at h
 split at h
 · cases h; rfl
 · cases h
abbrev Y2 := X2
noncomputable def T2 : X2 → (X2 → Option R) → (Y2 → Option R) → Option R := fun (v1, v2, v4, v12, v13, h0_0, h0_1, h0_2, h0_3, h0_4, h0_5) next ex => P.lmots_leaf_along_r2 v1 v2 v4 v12 v13 h0_0 h0_1 h0_2 h0_3 h0_4 h0_5 (fun v1 v2 v4 v12 v13 h0_0 h0_1 h0_2 h0_3 h0_4 h0_5 => next (v1, v2, v4, v12, v13, h0_0, h0_1, h0_2, h0_3, h0_4, h0_5)) (fun v1 v2 v4 v12 v13 h0_0 h0_1 h0_2 h0_3 h0_4 h0_5 => ex (v1, v2, v4, v12, v13, h0_0, h0_1, h0_2, h0_3, h0_4, h0_5))
def E2 (K : AExit → ASt → Option R) : Y2 → Option R := (fun x => K (.exit 0) (S2 x))
noncomputable def L2 : LSpec := fun st K => vMap (V2 st) fun (v1, v2, v4, v12, v13, h0_0, h0_1, h0_2, h0_3, h0_4, h0_5) => P.lmots_leaf_along_l2 v1 v2 v4 v12 v13 h0_0 h0_1 h0_2 h0_3 h0_4 h0_5 (fun v1 v2 v4 v12 v13 h0_0 h0_1 h0_2 h0_3 h0_4 h0_5 => K (.exit 0) (S2 (v1, v2, v4, v12, v13, h0_0, h0_1, h0_2, h0_3, h0_4, h0_5)))
noncomputable def D : Ctx := ({ P := Tryd.prog, G := [(86, lmots_leaf_sum.spec)], globs := GLO.gB, hints := [(2, ⟨[1, 2, 4, 5, 12, 13], [], [10], [(4, .sl (.ints .u8 []))], none, []⟩)], loops := [(2, L2)], inl := [] } : Ctx)
theorem round2 (K) (next) (x) : roundA D (loopAt Tryd.f83 2) K next (S2 x) = T2 x (fun x => next (S2 x)) (E2 K) := by kernel_rfl
theorem lq2 (st) (K) : L2 st K = vMap (V2 st) (fun x => lp T2 x (E2 K)) := by
 unfold L2
 cases V2 st with
 | none => rfl
 | some x => rw [P.lmots_leaf_along_l2_eq]; kernel_rfl
theorem loop2 : LoopOk D (loopAt Tryd.f83 2) := loopOk_lp S2 V2_ok (by kernel_rfl) lq2 round2
theorem body (a0_w : Int) (a0_id : List Int) (a0_q : Int) (a0_kind_digits : Int) (a0_kind_shift : Int) (a0_kind_code : Int) (a1 : Int) (a2 : Int) (a3 : Int) (a4 : List Int) (K : AVal → Option R) : bodyA D Tryd.f83 [.sl (.ints .u8 [])] [.agg [.v (.int .i64 a0_w), .sl (.ints .u8 a0_id), .v (.int .u32 a0_q), .v (.int .i64 a0_kind_digits), .v (.int .i64 a0_kind_shift), .v (.int .i64 a0_kind_code)], .v (.int .i64 a1), .v (.int .u32 a2), .v (.int .u32 a3), .sl (.ints .u8 a4)] K = P.lmots_leaf_along a0_w a0_id a0_q a0_kind_digits a0_kind_shift a0_kind_code a1 a2 a3 a4 (fun r0 => K (.sl (.ints .u8 r0))) := by
 rw [P.lmots_leaf_along_eq]
 kernel_rfl
theorem loops : loopsOf (Tryd.f83.body.getD .skip) = [loopAt Tryd.f83 2] := by kernel_rfl
noncomputable def spec0 : Abs.Spec := fun args K => match args with
 | [.agg [.v (.int .i64 a0_w), .sl (.ints .u8 a0_id), .v (.int .u32 a0_q), .v (.int .i64 a0_kind_digits), .v (.int .i64 a0_kind_shift), .v (.int .i64 a0_kind_code)], .v (.int .i64 a1), .v (.int .u32 a2), .v (.int .u32 a3), .sl (.ints .u8 a4)] => P.lmots_leaf_along a0_w a0_id a0_q a0_kind_digits a0_kind_shift a0_kind_code a1 a2 a3 a4 (fun r0 => K (.sl (.ints .u8 r0)))
 | _ => none
noncomputable def spec : Abs.Spec := fun args K => spec0 (coerL [.agg [.any, .sl (.ints .u8 []), .any, .any, .any, .any], .any, .any, .any, .sl (.ints .u8 [])] args) K
theorem ok0 : Proved Tryd.prog GLO.gB 83 spec0 := by
 refine proved_of (D := D) (fn := Tryd.f83) (c := Tryd.f83.body.getD .skip) [.sl (.ints .u8 [])] (by kernel_rfl) (globsPlain_of (by kernel_rfl)) (by kernel_rfl) (by kernel_rfl) (by kernel_rfl) ⟨lmots_leaf_sum.ok, trivial⟩ trivial ?_ ?_
 · rw [loops]; exact ⟨loop2, trivial⟩
 · intro args K r h
   unfold spec0 at h
   split at h
   · rw [body]; exact h
   · cases h
theorem ok : Proved Tryd.prog GLO.gB 83 spec := proved_coer _ ok0
end lmots_leaf_along
end

section
open Go Go.Abs Go.Proofs
set_option maxRecDepth 100000
set_option linter.unusedVariables false
namespace bits_such
noncomputable def D : Ctx := ({ P := Tryd.prog, G := [], globs := GLO.gB, hints := [], loops := [], inl := [] } : Ctx)
theorem body (a0 : List Int) (a1 : Int) (a2 : Int) (K : AVal → Option R) : bodyA D Tryd.f135 [.any] [.sl (.ints .u8 a0), .v (.int .i64 a1), .v (.int .i64 a2)] K = P.bits_such a0 a1 a2 (fun r0 => K (.v (.bool r0))) := by
 rw [P.bits_such_eq]
 kernel_rfl
theorem loops : loopsOf (Tryd.f135.body.getD .skip) = [] := by kernel_rfl
noncomputable def spec0 : Abs.Spec := fun args K => match args with
 | [.sl (.ints .u8 a0), .v (.int .i64 a1), .v (.int .i64 a2)] => P.bits_such a0 a1 a2 (fun r0 => K (.v (.bool r0)))
 | _ => none
noncomputable def spec : Abs.Spec := fun args K => spec0 (coerL [.sl (.ints .u8 []), .any, .any] args) K
theorem ok0 : Proved Tryd.prog GLO.gB 135 spec0 := by
 refine proved_of (D := D) (fn := Tryd.f135) (c := Tryd.f135.body.getD .skip) [.any] (by kernel_rfl) (globsPlain_of (by kernel_rfl)) (by kernel_rfl) (by kernel_rfl) (by kernel_rfl) trivial trivial ?_ ?_
 · rw [loops]; exact trivial
 · intro args K r h
   unfold spec0 at h
   split at h
   · rw [body]; exact h
   · cases h
theorem ok : Proved Tryd.prog GLO.gB 135 spec := proved_coer _ ok0
end bits_such
end

section
open Go Go.Abs Go.Proofs
set_option maxRecDepth 100000
set_option linter.unusedVariables false
namespace bits_Digits
abbrev X8 := (List Int) × Int × Int × Int × Int × Int × Int × (List Int)
def S8 : X8 → ASt := fun (v0, v1, v8, v9, v10, v19, v20, h0) => ⟨[(0, .sl (.ints .u8 v0)), (1, .v (.int .i64 v1)), (7, .own 0), (8, .v (.int .u64 v8)), (9, .v (.int .i64 v9)), (10, .v (.int .i64 v10)), (19, .v (.int .i64 v19)), (20, .v (.int .i64 v20))], [(0, some ⟨.row 71 (.ints .u32 h0), false⟩)], 1, 53⟩
def V8 : ASt → Option X8
 | ⟨[(0, .sl (.ints .u8 v0)), (1, .v (.int .i64 v1)), (7, .own 0), (8, .v (.int .u64 v8)), (9, .v (.int .i64 v9)), (10, .v (.int .i64 v10)), (19, .v (.int .i64 v19)), (20, .v (.int .i64 v20))], [(0, some ⟨.row 71 (.ints .u32 h0), false⟩)], 1, 53⟩ => some (v0, v1, v8, v9, v10, v19, v20, h0)
 | _ => none
theorem V8_ok (st) (x) (h : V8 st = some x) : st = S8 x := by
 unfold V8 at h
 split at h
 · cases h; rfl
 · cases h
abbrev Y8 := X8
noncomputable def T8 : X8 → (X8 → Option R) → (Y8 → Option R) → Option R := fun (v0, v1, v8, v9, v10, v19, v20, h0) next ex => P.bits_Digits_r8 v0 v1 v8 v9 v10 v19 v20 h0 (fun v0 v1 v8 v9 v10 v19 v20 h0 => next (v0, v1, v8, v9, v10, v19, v20, h0)) (fun v0 v1 v8 v9 v10 v19 v20 h0 => ex (v0, v1, v8, v9, v10, v19, v20, h0))
abbrev X6 := (List Int) × Int × Int × Int × Int × Int × (List Int)
def S6 : X6 → ASt := fun (v0, v1, v8, v9, v19, v20, h0) => ⟨[(0, .sl (.ints .u8 v0)), (1, .v (.int .i64 v1)), (7, .own 0), (8, .v (.int .u64 v8)), (9, .v (.int .i64 v9)), (19, .v (.int .i64 v19)), (20, .v (.int .i64 v20))], [(0, some ⟨.row 71 (.ints .u32 h0), false⟩)], 1, 53⟩
def V6 : ASt → Option X6
 | ⟨[(0, .sl (.ints .u8 v0)), (1, .v (.int .i64 v1)), (7, .own 0), (8, .v (.int .u64 v8)), (9, .v (.int .i64 v9)), (19, .v (.int .i64 v19)), (20, .v (.int .i64 v20))], [(0, some ⟨.row 71 (.ints .u32 h0), false⟩)], 1, 53⟩ => some (v0, v1, v8, v9, v19, v20, h0)
 | _ => none
theorem V6_ok (st) (x) (h : V6 st = some x) : st = S6 x := by
 unfold V6 at h
 split at h
 · cases h; rfl
 · cases h
abbrev Y6 := X6
noncomputable def T6 : X6 → (X6 → Option R) → (Y6 → Option R) → Option R := fun (v0, v1, v8, v9, v19, v20, h0) next ex => P.bits_Digits_r6 v0 v1 v8 v9 v19 v20 h0 (fun v0 v1 v8 v9 v19 v20 h0 => next (v0, v1, v8, v9, v19, v20, h0)) (fun v0 v1 v8 v9 v19 v20 h0 => ex (v0, v1, v8, v9, v19, v20, h0))
def E8 (K : AExit → ASt → Option R) : Y8 → Option R := (fun x => K (.exit 2) (S8 x))
noncomputable def L8 : LSpec := fun st K => vMap (V8 st) fun (v0, v1, v8, v9, v10, v19, v20, h0) => P.bits_Digits_l8 v0 v1 v8 v9 v10 v19 v20 h0 (fun v0 v1 v8 v9 v10 v19 v20 h0 => K (.exit 2) (S8 (v0, v1, v8, v9, v10, v19, v20, h0)))
def E6 (K : AExit → ASt → Option R) : Y6 → Option R := (fun x => K (.exit 0) (S6 x))
noncomputable def L6 : LSpec := fun st K => vMap (V6 st) fun (v0, v1, v8, v9, v19, v20, h0) => P.bits_Digits_l6 v0 v1 v8 v9 v19 v20 h0 (fun v0 v1 v8 v9 v19 v20 h0 => K (.exit 0) (S6 (v0, v1, v8, v9, v19, v20, h0)))
noncomputable def D : Ctx := ({ P := Tryd.prog, G := [(135, bits_such.spec)], globs := GLO.gB, hints := [(8, ⟨[0, 1, 7, 8, 9, 10, 19, 20], [], [6], [(0, .sl (.ints .u8 []))], none, []⟩), (6, ⟨[0, 1, 7, 8, 9, 19, 20], [], [6], [(0, .sl (.ints .u8 []))], none, []⟩)], loops := [(8, L8), (6, L6)], inl := [] } : Ctx)
theorem round8 (K) (next) (x) : roundA D (loopAt Tryd.f122 8) K next (S8 x) = T8 x (fun x => next (S8 x)) (E8 K) := by kernel_rfl
theorem lq8 (st) (K) : L8 st K = vMap (V8 st) (fun x => lp T8 x (E8 K)) := by
 unfold L8
 cases V8 st with
 | none => rfl
 | some x => rw [P.bits_Digits_l8_eq]; kernel_rfl
theorem loop8 : LoopOk D (loopAt Tryd.f122 8) := loopOk_lp S8 V8_ok (by kernel_rfl) lq8 round8
theorem round6 (K) (next) (x) : roundA D (loopAt Tryd.f122 6) K next (S6 x) = T6 x (fun x => next (S6 x)) (E6 K) := by kernel_rfl
theorem lq6 (st) (K) : L6 st K = vMap (V6 st) (fun x => lp T6 x (E6 K)) := by
 unfold L6
 cases V6 st with
 | none => rfl
 | some x => rw [P.bits_Digits_l6_eq]; kernel_rfl
theorem loop6 : LoopOk D (loopAt Tryd.f122 6) := loopOk_lp S6 V6_ok (by kernel_rfl) lq6 round6
theorem body (a0 : List Int) (a1 : Int) (a2 : Int) (K : AVal → Option R) : bodyA D Tryd.f122 [.fr 71 (.ints .u32 [])] [.sl (.ints .u8 a0), .v (.int .i64 a1), .v (.int .i64 a2)] K = P.bits_Digits a0 a1 a2 (fun r0 => K (.fr 71 (.ints .u32 r0))) := by
 rw [P.bits_Digits_eq]
 kernel_rfl
theorem loops : loopsOf (Tryd.f122.body.getD .skip) = [loopAt Tryd.f122 6, loopAt Tryd.f122 8] := by kernel_rfl
noncomputable def spec0 : Abs.Spec := fun args K => match args with
 | [.sl (.ints .u8 a0), .v (.int .i64 a1), .v (.int .i64 a2)] => P.bits_Digits a0 a1 a2 (fun r0 => K (.fr 71 (.ints .u32 r0)))
 | _ => none
noncomputable def spec : Abs.Spec := fun args K => spec0 (coerL [.sl (.ints .u8 []), .any, .any] args) K
theorem ok0 : Proved Tryd.prog GLO.gB 122 spec0 := by
 refine proved_of (D := D) (fn := Tryd.f122) (c := Tryd.f122.body.getD .skip) [.fr 71 (.ints .u32 [])] (by kernel_rfl) (globsPlain_of (by kernel_rfl)) (by kernel_rfl) (by kernel_rfl) (by kernel_rfl) ⟨bits_such.ok, trivial⟩ trivial ?_ ?_
 · rw [loops]; exact ⟨loop6, loop8, trivial⟩
 · intro args K r h
   unfold spec0 at h
   split at h
   · rw [body]; exact h
   · cases h
theorem ok : Proved Tryd.prog GLO.gB 122 spec := proved_coer _ ok0
end bits_Digits
end
