/-
  WotsCheck, part I: an interpreter of my own over abstract values, the pure functions, the walks and the plain law.
-/

import Derived.Test.YtknjpkgnideplaaWotsCheckG
import Derived.Test.YtknjpkgnideplaaWotsCheckF
import Derived.Test.YtknjpkgnideplaaWotsCheckH
import Derived.Test.YtknjpkgnideplaaProg
import Derived.KernelRfl

section
open Go Go.Abs Go.Proofs
set_option maxRecDepth 100000
set_option linter.unusedVariables false
namespace slices_Grow_byte
noncomputable def D : Ctx := ({ P := Try.prog, G := [], globs := [], hints := [], loops := [], inl := [] } : Ctx)
theorem body (a1 : Int) (K : AVal → Option R) : bodyW D Try.f15 5 (.ints .u8 []) [.v (.slice none 0 0), .v (.int .i64 a1)] K = P.slices_Grow_byte a1 (fun r0 => K (.fr 5 (.ints .u8 r0))) := by
  rw [P.slices_Grow_byte_eq]
  kernel_rfl
theorem loops : loopsOf (Try.f15.body.getD .skip) = [] := by kernel_rfl
noncomputable def spec0 : Abs.Spec := fun args K => match args with
  | [.v (.slice none 0 0), .v (.int .i64 a1)] => P.slices_Grow_byte a1 (fun r0 => K (.fr 5 (.ints .u8 r0)))
  | _ => none
noncomputable def spec : Abs.Spec := spec0
theorem ok0 : Proved Try.prog [] 15 spec0 := by
  refine provedW_of (D := D) (fn := Try.f15) (c := Try.f15.body.getD .skip) 5 (.ints .u8 []) (by kernel_rfl) (globsPlain_of (by kernel_rfl)) (by kernel_rfl) (by kernel_rfl) (by kernel_rfl) trivial trivial ?_ ?_
  · rw [loops]; exact trivial
  · intro args K r h
    unfold spec0 at h
    split at h
    · rw [body]; exact h
    · cases h
theorem ok : Proved Try.prog [] 15 spec := ok0
end slices_Grow_byte
end

section
open Go Go.Abs Go.Proofs
set_option maxRecDepth 100000
set_option linter.unusedVariables false
namespace slices_Concat_byte
def S3 (v0 : List (List Int)) (v3 : Int) (v9 : List (List Int)) (v10 : Int) (v11 : Int) : ASt := ⟨[(0, .sl (.rows .u8 v0)), (3, .v (.int .i64 v3)), (9, .sl (.rows .u8 v9)), (10, .v (.int .i64 v10)), (11, .v (.int .i64 v11))], [], 0, 36⟩
def V3 : ASt → Option ((List (List Int)) × Int × (List (List Int)) × Int × Int)
  | ⟨[(0, .sl (.rows .u8 v0)), (3, .v (.int .i64 v3)), (9, .sl (.rows .u8 v9)), (10, .v (.int .i64 v10)), (11, .v (.int .i64 v11))], [], 0, 36⟩ => some (v0, v3, v9, v10, v11)
  | _ => none
theorem V3_ok (st : ASt) (x : (List (List Int)) × Int × (List (List Int)) × Int × Int) (h : V3 st = some x) : st = S3 x.1 x.2.1 x.2.2.1 x.2.2.2.1 x.2.2.2.2 := by
  unfold V3 at h
  split at h
  · cases h; rfl
  · cases h
def S11 (v25 : List (List Int)) (v26 : Int) (v27 : Int) (h1 : List Int) : ASt := ⟨[(6, .own 1), (25, .sl (.rows .u8 v25)), (26, .v (.int .i64 v26)), (27, .v (.int .i64 v27))], [(1, some ⟨.row 5 (.ints .u8 h1), false⟩), (0, none)], 2, 36⟩
def V11 : ASt → Option ((List (List Int)) × Int × Int × (List Int))
  | ⟨[(6, .own 1), (25, .sl (.rows .u8 v25)), (26, .v (.int .i64 v26)), (27, .v (.int .i64 v27))], [(1, some ⟨.row 5 (.ints .u8 h1), false⟩), (0, none)], 2, 36⟩ => some (v25, v26, v27, h1)
  | _ => none
theorem V11_ok (st : ASt) (x : (List (List Int)) × Int × Int × (List Int)) (h : V11 st = some x) : st = S11 x.1 x.2.1 x.2.2.1 x.2.2.2 := by
  unfold V11 at h
  split at h
  · cases h; rfl
  · cases h
noncomputable def L3 : LSpec := fun st K => match V3 st with
  | some x => P.slices_Concat_byte_l3 x.1 x.2.1 x.2.2.1 x.2.2.2.1 x.2.2.2.2 (fun v0 v3 v9 v10 v11 => K (.exit 0) (S3 v0 v3 v9 v10 v11))
  | none => none
noncomputable def L11 : LSpec := fun st K => match V11 st with
  | some x => P.slices_Concat_byte_l11 x.1 x.2.1 x.2.2.1 x.2.2.2 (fun v25 v26 v27 h1 => K (.exit 2) (S11 v25 v26 v27 h1))
  | none => none
noncomputable def D : Ctx := ({ P := Try.prog, G := [(15, slices_Grow_byte.spec)], globs := [], hints := [(11, ⟨[25, 26, 27], [(6, 5, .ints .u8 [])], [2], [], none, []⟩), (3, ⟨[0, 3, 9, 10, 11], [], [2], [], none, []⟩)], loops := [(3, L3), (11, L11)], inl := [] } : Ctx)
def E3 (K : AExit → ASt → Option R) : (((List (List Int)) × Int × (List (List Int)) × Int × Int)) → Option R := (fun x => K (.exit 0) (S3 x.1 x.2.1 x.2.2.1 x.2.2.2.1 x.2.2.2.2))
theorem round3 (K : AExit → ASt → Option R) (next : ASt → Option R) (x : (List (List Int)) × Int × (List (List Int)) × Int × Int) : roundA D (loopAt Try.f14 3) K next (S3 x.1 x.2.1 x.2.2.1 x.2.2.2.1 x.2.2.2.2) = (fun (x : (List (List Int)) × Int × (List (List Int)) × Int × Int) (next : ((List (List Int)) × Int × (List (List Int)) × Int × Int) → Option R) (ex : (((List (List Int)) × Int × (List (List Int)) × Int × Int)) → Option R) => P.slices_Concat_byte_r3 x.1 x.2.1 x.2.2.1 x.2.2.2.1 x.2.2.2.2 (fun v0 v3 v9 v10 v11 => next (v0, v3, v9, v10, v11)) (fun v0 v3 v9 v10 v11 => ex ((v0, v3, v9, v10, v11)))) x (fun x => next (S3 x.1 x.2.1 x.2.2.1 x.2.2.2.1 x.2.2.2.2)) (E3 K) := by kernel_rfl
theorem lq3 (st : ASt) (K : AExit → ASt → Option R) : L3 st K = vMap (V3 st) (fun x => lp (fun (x : (List (List Int)) × Int × (List (List Int)) × Int × Int) (next : ((List (List Int)) × Int × (List (List Int)) × Int × Int) → Option R) (ex : (((List (List Int)) × Int × (List (List Int)) × Int × Int)) → Option R) => P.slices_Concat_byte_r3 x.1 x.2.1 x.2.2.1 x.2.2.2.1 x.2.2.2.2 (fun v0 v3 v9 v10 v11 => next (v0, v3, v9, v10, v11)) (fun v0 v3 v9 v10 v11 => ex ((v0, v3, v9, v10, v11)))) x (E3 K)) := by
  unfold L3
  cases V3 st with
  | none => rfl
  | some x => simp only [P.slices_Concat_byte_l3_eq]; rfl
theorem loop3 : LoopOk D (loopAt Try.f14 3) := loopOk_lp (X := (List (List Int)) × Int × (List (List Int)) × Int × Int) (Y := ((List (List Int)) × Int × (List (List Int)) × Int × Int)) (fun x => S3 x.1 x.2.1 x.2.2.1 x.2.2.2.1 x.2.2.2.2) V3_ok (stp := (fun (x : (List (List Int)) × Int × (List (List Int)) × Int × Int) (next : ((List (List Int)) × Int × (List (List Int)) × Int × Int) → Option R) (ex : (((List (List Int)) × Int × (List (List Int)) × Int × Int)) → Option R) => P.slices_Concat_byte_r3 x.1 x.2.1 x.2.2.1 x.2.2.2.1 x.2.2.2.2 (fun v0 v3 v9 v10 v11 => next (v0, v3, v9, v10, v11)) (fun v0 v3 v9 v10 v11 => ex ((v0, v3, v9, v10, v11))))) (enc := E3) (L := L3) (by kernel_rfl) lq3 round3
def E11 (K : AExit → ASt → Option R) : (((List (List Int)) × Int × Int × (List Int))) → Option R := (fun x => K (.exit 2) (S11 x.1 x.2.1 x.2.2.1 x.2.2.2))
theorem round11 (K : AExit → ASt → Option R) (next : ASt → Option R) (x : (List (List Int)) × Int × Int × (List Int)) : roundA D (loopAt Try.f14 11) K next (S11 x.1 x.2.1 x.2.2.1 x.2.2.2) = (fun (x : (List (List Int)) × Int × Int × (List Int)) (next : ((List (List Int)) × Int × Int × (List Int)) → Option R) (ex : (((List (List Int)) × Int × Int × (List Int))) → Option R) => P.slices_Concat_byte_r11 x.1 x.2.1 x.2.2.1 x.2.2.2 (fun v25 v26 v27 h1 => next (v25, v26, v27, h1)) (fun v25 v26 v27 h1 => ex ((v25, v26, v27, h1)))) x (fun x => next (S11 x.1 x.2.1 x.2.2.1 x.2.2.2)) (E11 K) := by kernel_rfl
theorem lq11 (st : ASt) (K : AExit → ASt → Option R) : L11 st K = vMap (V11 st) (fun x => lp (fun (x : (List (List Int)) × Int × Int × (List Int)) (next : ((List (List Int)) × Int × Int × (List Int)) → Option R) (ex : (((List (List Int)) × Int × Int × (List Int))) → Option R) => P.slices_Concat_byte_r11 x.1 x.2.1 x.2.2.1 x.2.2.2 (fun v25 v26 v27 h1 => next (v25, v26, v27, h1)) (fun v25 v26 v27 h1 => ex ((v25, v26, v27, h1)))) x (E11 K)) := by
  unfold L11
  cases V11 st with
  | none => rfl
  | some x => simp only [P.slices_Concat_byte_l11_eq]; rfl
theorem loop11 : LoopOk D (loopAt Try.f14 11) := loopOk_lp (X := (List (List Int)) × Int × Int × (List Int)) (Y := ((List (List Int)) × Int × Int × (List Int))) (fun x => S11 x.1 x.2.1 x.2.2.1 x.2.2.2) V11_ok (stp := (fun (x : (List (List Int)) × Int × Int × (List Int)) (next : ((List (List Int)) × Int × Int × (List Int)) → Option R) (ex : (((List (List Int)) × Int × Int × (List Int))) → Option R) => P.slices_Concat_byte_r11 x.1 x.2.1 x.2.2.1 x.2.2.2 (fun v25 v26 v27 h1 => next (v25, v26, v27, h1)) (fun v25 v26 v27 h1 => ex ((v25, v26, v27, h1))))) (enc := E11) (L := L11) (by kernel_rfl) lq11 round11
theorem body (a0 : List (List Int)) (K : AVal → Option R) : bodyA D Try.f14 [.fr 5 (.ints .u8 [])] [.sl (.rows .u8 a0)] K = P.slices_Concat_byte a0 (fun r0 => K (.fr 5 (.ints .u8 r0))) := by
  rw [P.slices_Concat_byte_eq]
  kernel_rfl
theorem loops : loopsOf (Try.f14.body.getD .skip) = [loopAt Try.f14 3, loopAt Try.f14 11] := by kernel_rfl
noncomputable def spec0 : Abs.Spec := fun args K => match args with
  | [.sl (.rows .u8 a0)] => P.slices_Concat_byte a0 (fun r0 => K (.fr 5 (.ints .u8 r0)))
  | _ => none
noncomputable def spec : Abs.Spec := fun args K => spec0 (coerL [.sl (.rows .u8 [])] args) K
theorem ok0 : Proved Try.prog [] 14 spec0 := by
  refine proved_of (D := D) (fn := Try.f14) (c := Try.f14.body.getD .skip) [.fr 5 (.ints .u8 [])] (by kernel_rfl) (globsPlain_of (by kernel_rfl)) (by kernel_rfl) (by kernel_rfl) (by kernel_rfl) ⟨slices_Grow_byte.ok, trivial⟩ trivial ?_ ?_
  · rw [loops]; exact ⟨loop3, loop11, trivial⟩
  · intro args K r h
    unfold spec0 at h
    split at h
    · rw [body]; exact h
    · cases h
theorem ok : Proved Try.prog [] 14 spec := proved_coer _ ok0
end slices_Concat_byte
end

section
open Go Go.Abs Go.Proofs
set_option maxRecDepth 100000
set_option linter.unusedVariables false
namespace bits_Join
noncomputable def D : Ctx := ({ P := Try.prog, G := [(14, slices_Concat_byte.spec)], globs := [], hints := [], loops := [], inl := [] } : Ctx)
theorem body (a0 : List (List Int)) (K : AVal → Option R) : bodyA D Try.f11 [.fr 5 (.ints .u8 [])] [.sl (.rows .u8 a0)] K = P.bits_Join a0 (fun r0 => K (.fr 5 (.ints .u8 r0))) := by
  rw [P.bits_Join_eq]
  kernel_rfl
theorem loops : loopsOf (Try.f11.body.getD .skip) = [] := by kernel_rfl
noncomputable def spec0 : Abs.Spec := fun args K => match args with
  | [.sl (.rows .u8 a0)] => P.bits_Join a0 (fun r0 => K (.fr 5 (.ints .u8 r0)))
  | _ => none
noncomputable def spec : Abs.Spec := fun args K => spec0 (coerL [.sl (.rows .u8 [])] args) K
theorem ok0 : Proved Try.prog [] 11 spec0 := by
  refine proved_of (D := D) (fn := Try.f11) (c := Try.f11.body.getD .skip) [.fr 5 (.ints .u8 [])] (by kernel_rfl) (globsPlain_of (by kernel_rfl)) (by kernel_rfl) (by kernel_rfl) (by kernel_rfl) ⟨slices_Concat_byte.ok, trivial⟩ trivial ?_ ?_
  · rw [loops]; exact trivial
  · intro args K r h
    unfold spec0 at h
    split at h
    · rw [body]; exact h
    · cases h
theorem ok : Proved Try.prog [] 11 spec := proved_coer _ ok0
end bits_Join
end

section
open Go Go.Abs Go.Proofs
set_option maxRecDepth 100000
set_option linter.unusedVariables false
namespace wots_Put
noncomputable def D : Ctx := ({ P := Try.prog, G := [(10, bits_Be.spec), (11, bits_Join.spec)], globs := [], hints := [], loops := [], inl := [] } : Ctx)
theorem body (a0 : List Int) (a1 : Int) (a2 : Int) (K : AVal → Option R) : bodyA D Try.f8 [.any] [.arr .u8 32 a0, .v (.int .i64 a1), .v (.int .u64 a2)] K = P.wots_Put a0 a1 a2 (fun r0 => K (.arr .u8 32 r0)) := by
  rw [P.wots_Put_eq]
  kernel_rfl
theorem loops : loopsOf (Try.f8.body.getD .skip) = [] := by kernel_rfl
noncomputable def spec0 : Abs.Spec := fun args K => match args with
  | [.arr .u8 32 a0, .v (.int .i64 a1), .v (.int .u64 a2)] => P.wots_Put a0 a1 a2 (fun r0 => K (.arr .u8 32 r0))
  | _ => none
noncomputable def spec : Abs.Spec := spec0
theorem ok0 : Proved Try.prog [] 8 spec0 := by
  refine proved_of (D := D) (fn := Try.f8) (c := Try.f8.body.getD .skip) [.any] (by kernel_rfl) (globsPlain_of (by kernel_rfl)) (by kernel_rfl) (by kernel_rfl) (by kernel_rfl) ⟨bits_Be.ok, bits_Join.ok, trivial⟩ trivial ?_ ?_
  · rw [loops]; exact trivial
  · intro args K r h
    unfold spec0 at h
    split at h
    · rw [body]; exact h
    · cases h
theorem ok : Proved Try.prog [] 8 spec := ok0
end wots_Put
end

section
open Go Go.Abs Go.Proofs
set_option maxRecDepth 100000
set_option linter.unusedVariables false
namespace L17_awake
noncomputable def D : Ctx := ({ P := Try.prog, G := [(4, wots_Digits.spec), (8, wots_Put.spec)], globs := [], hints := [], loops := [], inl := [] } : Ctx)
theorem body  (K : AVal → Option R) : bodyA D Try.f6 [.any] [] K = P.L17_awake (fun r0 => K (.v (.bool r0))) := by
  rw [P.L17_awake_eq]
  kernel_rfl
theorem loops : loopsOf (Try.f6.body.getD .skip) = [] := by kernel_rfl
noncomputable def spec0 : Abs.Spec := fun args K => match args with
  | [] => P.L17_awake (fun r0 => K (.v (.bool r0)))
  | _ => none
noncomputable def spec : Abs.Spec := spec0
theorem ok0 : Proved Try.prog [] 6 spec0 := by
  refine proved_of (D := D) (fn := Try.f6) (c := Try.f6.body.getD .skip) [.any] (by kernel_rfl) (globsPlain_of (by kernel_rfl)) (by kernel_rfl) (by kernel_rfl) (by kernel_rfl) ⟨wots_Digits.ok, wots_Put.ok, trivial⟩ trivial ?_ ?_
  · rw [loops]; exact trivial
  · intro args K r h
    unfold spec0 at h
    split at h
    · rw [body]; exact h
    · cases h
theorem ok : Proved Try.prog [] 6 spec := ok0
end L17_awake
end

section
open Go Go.Abs Go.Proofs
set_option maxRecDepth 100000
set_option linter.unusedVariables false
namespace R01_Same
def S4 (v0 : List Int) (v1 : List Int) (v5 : Int) : ASt := ⟨[(0, .sl (.ints .u8 v0)), (1, .sl (.ints .u8 v1)), (5, .v (.int .i64 v5))], [], 0, 26⟩
def V4 : ASt → Option ((List Int) × (List Int) × Int)
  | ⟨[(0, .sl (.ints .u8 v0)), (1, .sl (.ints .u8 v1)), (5, .v (.int .i64 v5))], [], 0, 26⟩ => some (v0, v1, v5)
  | _ => none
theorem V4_ok (st : ASt) (x : (List Int) × (List Int) × Int) (h : V4 st = some x) : st = S4 x.1 x.2.1 x.2.2 := by
  unfold V4 at h
  split at h
  · cases h; rfl
  · cases h
noncomputable def L4 : LSpec := fun st K => match V4 st with
  | some x => P.R01_Same_l4 x.1 x.2.1 x.2.2 (fun v0 v1 v5 => K (.exit 0) (S4 v0 v1 v5)) (fun v4 => K .ret ⟨[(4, .v (.bool v4))], [], 0, 26⟩)
  | none => none
noncomputable def D : Ctx := ({ P := Try.prog, G := [], globs := [], hints := [(4, ⟨[0, 1, 5], [], [4], [], none, []⟩)], loops := [(4, L4)], inl := [] } : Ctx)
def E4 (K : AExit → ASt → Option R) : (((List Int) × (List Int) × Int) ⊕ ((Bool))) → Option R := (Sum.elim (fun x => K (.exit 0) (S4 x.1 x.2.1 x.2.2)) (fun x => K .ret ⟨[(4, .v (.bool x))], [], 0, 26⟩))
theorem round4 (K : AExit → ASt → Option R) (next : ASt → Option R) (x : (List Int) × (List Int) × Int) : roundA D (loopAt Try.f5 4) K next (S4 x.1 x.2.1 x.2.2) = (fun (x : (List Int) × (List Int) × Int) (next : ((List Int) × (List Int) × Int) → Option R) (ex : (((List Int) × (List Int) × Int) ⊕ ((Bool))) → Option R) => P.R01_Same_r4 x.1 x.2.1 x.2.2 (fun v0 v1 v5 => next (v0, v1, v5)) (fun v0 v1 v5 => ex (.inl (v0, v1, v5))) (fun v4 => ex (.inr v4))) x (fun x => next (S4 x.1 x.2.1 x.2.2)) (E4 K) := by kernel_rfl
theorem lq4 (st : ASt) (K : AExit → ASt → Option R) : L4 st K = vMap (V4 st) (fun x => lp (fun (x : (List Int) × (List Int) × Int) (next : ((List Int) × (List Int) × Int) → Option R) (ex : (((List Int) × (List Int) × Int) ⊕ ((Bool))) → Option R) => P.R01_Same_r4 x.1 x.2.1 x.2.2 (fun v0 v1 v5 => next (v0, v1, v5)) (fun v0 v1 v5 => ex (.inl (v0, v1, v5))) (fun v4 => ex (.inr v4))) x (E4 K)) := by
  unfold L4
  cases V4 st with
  | none => rfl
  | some x => simp only [P.R01_Same_l4_eq]; rfl
theorem loop4 : LoopOk D (loopAt Try.f5 4) := loopOk_lp (X := (List Int) × (List Int) × Int) (Y := ((List Int) × (List Int) × Int) ⊕ ((Bool))) (fun x => S4 x.1 x.2.1 x.2.2) V4_ok (stp := (fun (x : (List Int) × (List Int) × Int) (next : ((List Int) × (List Int) × Int) → Option R) (ex : (((List Int) × (List Int) × Int) ⊕ ((Bool))) → Option R) => P.R01_Same_r4 x.1 x.2.1 x.2.2 (fun v0 v1 v5 => next (v0, v1, v5)) (fun v0 v1 v5 => ex (.inl (v0, v1, v5))) (fun v4 => ex (.inr v4)))) (enc := E4) (L := L4) (by kernel_rfl) lq4 round4
theorem body (a0 : List Int) (a1 : List Int) (K : AVal → Option R) : bodyA D Try.f5 [.any] [.sl (.ints .u8 a0), .sl (.ints .u8 a1)] K = P.R01_Same a0 a1 (fun r0 => K (.v (.bool r0))) := by
  rw [P.R01_Same_eq]
  kernel_rfl
theorem loops : loopsOf (Try.f5.body.getD .skip) = [loopAt Try.f5 4] := by kernel_rfl
noncomputable def spec0 : Abs.Spec := fun args K => match args with
  | [.sl (.ints .u8 a0), .sl (.ints .u8 a1)] => P.R01_Same a0 a1 (fun r0 => K (.v (.bool r0)))
  | _ => none
noncomputable def spec : Abs.Spec := fun args K => spec0 (coerL [.sl (.ints .u8 []), .sl (.ints .u8 [])] args) K
theorem ok0 : Proved Try.prog [] 5 spec0 := by
  refine proved_of (D := D) (fn := Try.f5) (c := Try.f5.body.getD .skip) [.any] (by kernel_rfl) (globsPlain_of (by kernel_rfl)) (by kernel_rfl) (by kernel_rfl) (by kernel_rfl) trivial trivial ?_ ?_
  · rw [loops]; exact ⟨loop4, trivial⟩
  · intro args K r h
    unfold spec0 at h
    split at h
    · rw [body]; exact h
    · cases h
theorem ok : Proved Try.prog [] 5 spec := proved_coer _ ok0
end R01_Same
end

section
open Go Go.Abs Go.Proofs
set_option maxRecDepth 100000
set_option linter.unusedVariables false
namespace L17_WotsCheck
def S7 (v7 : Int) (v10 : Bool) (v11 : Bool) (v41 : Int) (v42 : Int) (h0_0 : List Int) (h1_0 : List Int) (h2 : List Int) (h3 : List Int) : ASt := ⟨[(4, .ptr 0 0), (5, .ptr 1 0), (7, .v (.int .i64 v7)), (8, .own 2), (9, .own 3), (10, .v (.bool v10)), (11, .v (.bool v11)), (41, .v (.int .i64 v41)), (42, .v (.int .i64 v42))], [(0, some ⟨.box 22 [.arr .u8 32 h0_0], false⟩), (1, some ⟨.box 22 [.arr .u8 32 h1_0], false⟩), (2, some ⟨.row 26 (.ints .u32 h2), false⟩), (3, some ⟨.row 26 (.ints .u32 h3), false⟩)], 4, 92⟩
def V7 : ASt → Option (Int × Bool × Bool × Int × Int × (List Int) × (List Int) × (List Int) × (List Int))
  | ⟨[(4, .ptr 0 0), (5, .ptr 1 0), (7, .v (.int .i64 v7)), (8, .own 2), (9, .own 3), (10, .v (.bool v10)), (11, .v (.bool v11)), (41, .v (.int .i64 v41)), (42, .v (.int .i64 v42))], [(0, some ⟨.box 22 [.arr .u8 32 h0_0], false⟩), (1, some ⟨.box 22 [.arr .u8 32 h1_0], false⟩), (2, some ⟨.row 26 (.ints .u32 h2), false⟩), (3, some ⟨.row 26 (.ints .u32 h3), false⟩)], 4, 92⟩ => some (v7, v10, v11, v41, v42, h0_0, h1_0, h2, h3)
  | _ => none
theorem V7_ok (st : ASt) (x : Int × Bool × Bool × Int × Int × (List Int) × (List Int) × (List Int) × (List Int)) (h : V7 st = some x) : st = S7 x.1 x.2.1 x.2.2.1 x.2.2.2.1 x.2.2.2.2.1 x.2.2.2.2.2.1 x.2.2.2.2.2.2.1 x.2.2.2.2.2.2.2.1 x.2.2.2.2.2.2.2.2 := by
  unfold V7 at h
  split at h
  · cases h; rfl
  · cases h
noncomputable def L7 : LSpec := fun st K => match V7 st with
  | some x => P.L17_WotsCheck_l7 x.1 x.2.1 x.2.2.1 x.2.2.2.1 x.2.2.2.2.1 x.2.2.2.2.2.1 x.2.2.2.2.2.2.1 x.2.2.2.2.2.2.2.1 x.2.2.2.2.2.2.2.2 (fun v7 v10 v11 v41 v42 h0_0 h1_0 h2 h3 => K (.exit 0) (S7 v7 v10 v11 v41 v42 h0_0 h1_0 h2 h3)) (fun v6 h0_0 h1_0 h2 h3 => K .ret ⟨[(6, .v (.bool v6))], [(0, some ⟨.box 22 [.arr .u8 32 h0_0], false⟩), (1, some ⟨.box 22 [.arr .u8 32 h1_0], false⟩), (2, some ⟨.row 26 (.ints .u32 h2), false⟩), (3, some ⟨.row 26 (.ints .u32 h3), false⟩)], 4, 92⟩)
  | none => none
noncomputable def D : Ctx := ({ P := Try.prog, G := [(4, wots_Digits.spec), (5, R01_Same.spec), (6, L17_awake.spec)], globs := [], hints := [(7, ⟨[4, 5, 7, 8, 9, 10, 11, 41, 42], [], [6], [], none, []⟩)], loops := [(7, L7)], inl := [] } : Ctx)
def E7 (K : AExit → ASt → Option R) : ((Int × Bool × Bool × Int × Int × (List Int) × (List Int) × (List Int) × (List Int)) ⊕ ((Bool × (List Int) × (List Int) × (List Int) × (List Int)))) → Option R := (Sum.elim (fun x => K (.exit 0) (S7 x.1 x.2.1 x.2.2.1 x.2.2.2.1 x.2.2.2.2.1 x.2.2.2.2.2.1 x.2.2.2.2.2.2.1 x.2.2.2.2.2.2.2.1 x.2.2.2.2.2.2.2.2)) (fun x => K .ret ⟨[(6, .v (.bool x.1))], [(0, some ⟨.box 22 [.arr .u8 32 x.2.1], false⟩), (1, some ⟨.box 22 [.arr .u8 32 x.2.2.1], false⟩), (2, some ⟨.row 26 (.ints .u32 x.2.2.2.1), false⟩), (3, some ⟨.row 26 (.ints .u32 x.2.2.2.2), false⟩)], 4, 92⟩))
theorem round7 (K : AExit → ASt → Option R) (next : ASt → Option R) (x : Int × Bool × Bool × Int × Int × (List Int) × (List Int) × (List Int) × (List Int)) : roundA D (loopAt Try.f3 7) K next (S7 x.1 x.2.1 x.2.2.1 x.2.2.2.1 x.2.2.2.2.1 x.2.2.2.2.2.1 x.2.2.2.2.2.2.1 x.2.2.2.2.2.2.2.1 x.2.2.2.2.2.2.2.2) = (fun (x : Int × Bool × Bool × Int × Int × (List Int) × (List Int) × (List Int) × (List Int)) (next : (Int × Bool × Bool × Int × Int × (List Int) × (List Int) × (List Int) × (List Int)) → Option R) (ex : ((Int × Bool × Bool × Int × Int × (List Int) × (List Int) × (List Int) × (List Int)) ⊕ ((Bool × (List Int) × (List Int) × (List Int) × (List Int)))) → Option R) => P.L17_WotsCheck_r7 x.1 x.2.1 x.2.2.1 x.2.2.2.1 x.2.2.2.2.1 x.2.2.2.2.2.1 x.2.2.2.2.2.2.1 x.2.2.2.2.2.2.2.1 x.2.2.2.2.2.2.2.2 (fun v7 v10 v11 v41 v42 h0_0 h1_0 h2 h3 => next (v7, v10, v11, v41, v42, h0_0, h1_0, h2, h3)) (fun v7 v10 v11 v41 v42 h0_0 h1_0 h2 h3 => ex (.inl (v7, v10, v11, v41, v42, h0_0, h1_0, h2, h3))) (fun v6 h0_0 h1_0 h2 h3 => ex (.inr (v6, h0_0, h1_0, h2, h3)))) x (fun x => next (S7 x.1 x.2.1 x.2.2.1 x.2.2.2.1 x.2.2.2.2.1 x.2.2.2.2.2.1 x.2.2.2.2.2.2.1 x.2.2.2.2.2.2.2.1 x.2.2.2.2.2.2.2.2)) (E7 K) := by kernel_rfl
theorem lq7 (st : ASt) (K : AExit → ASt → Option R) : L7 st K = vMap (V7 st) (fun x => lp (fun (x : Int × Bool × Bool × Int × Int × (List Int) × (List Int) × (List Int) × (List Int)) (next : (Int × Bool × Bool × Int × Int × (List Int) × (List Int) × (List Int) × (List Int)) → Option R) (ex : ((Int × Bool × Bool × Int × Int × (List Int) × (List Int) × (List Int) × (List Int)) ⊕ ((Bool × (List Int) × (List Int) × (List Int) × (List Int)))) → Option R) => P.L17_WotsCheck_r7 x.1 x.2.1 x.2.2.1 x.2.2.2.1 x.2.2.2.2.1 x.2.2.2.2.2.1 x.2.2.2.2.2.2.1 x.2.2.2.2.2.2.2.1 x.2.2.2.2.2.2.2.2 (fun v7 v10 v11 v41 v42 h0_0 h1_0 h2 h3 => next (v7, v10, v11, v41, v42, h0_0, h1_0, h2, h3)) (fun v7 v10 v11 v41 v42 h0_0 h1_0 h2 h3 => ex (.inl (v7, v10, v11, v41, v42, h0_0, h1_0, h2, h3))) (fun v6 h0_0 h1_0 h2 h3 => ex (.inr (v6, h0_0, h1_0, h2, h3)))) x (E7 K)) := by
  unfold L7
  cases V7 st with
  | none => rfl
  | some x => simp only [P.L17_WotsCheck_l7_eq]; rfl
theorem loop7 : LoopOk D (loopAt Try.f3 7) := loopOk_lp (X := Int × Bool × Bool × Int × Int × (List Int) × (List Int) × (List Int) × (List Int)) (Y := (Int × Bool × Bool × Int × Int × (List Int) × (List Int) × (List Int) × (List Int)) ⊕ ((Bool × (List Int) × (List Int) × (List Int) × (List Int)))) (fun x => S7 x.1 x.2.1 x.2.2.1 x.2.2.2.1 x.2.2.2.2.1 x.2.2.2.2.2.1 x.2.2.2.2.2.2.1 x.2.2.2.2.2.2.2.1 x.2.2.2.2.2.2.2.2) V7_ok (stp := (fun (x : Int × Bool × Bool × Int × Int × (List Int) × (List Int) × (List Int) × (List Int)) (next : (Int × Bool × Bool × Int × Int × (List Int) × (List Int) × (List Int) × (List Int)) → Option R) (ex : ((Int × Bool × Bool × Int × Int × (List Int) × (List Int) × (List Int) × (List Int)) ⊕ ((Bool × (List Int) × (List Int) × (List Int) × (List Int)))) → Option R) => P.L17_WotsCheck_r7 x.1 x.2.1 x.2.2.1 x.2.2.2.1 x.2.2.2.2.1 x.2.2.2.2.2.1 x.2.2.2.2.2.2.1 x.2.2.2.2.2.2.2.1 x.2.2.2.2.2.2.2.2 (fun v7 v10 v11 v41 v42 h0_0 h1_0 h2 h3 => next (v7, v10, v11, v41, v42, h0_0, h1_0, h2, h3)) (fun v7 v10 v11 v41 v42 h0_0 h1_0 h2 h3 => ex (.inl (v7, v10, v11, v41, v42, h0_0, h1_0, h2, h3))) (fun v6 h0_0 h1_0 h2 h3 => ex (.inr (v6, h0_0, h1_0, h2, h3))))) (enc := E7) (L := L7) (by kernel_rfl) lq7 round7
theorem body (a0 : Int) (a1 : List Int) (a2 : List Int) (K : AVal → Option R) : bodyA D Try.f3 [.any] [.v (.int .u8 a0), .arr .u8 32 a1, .arr .u8 32 a2] K = P.L17_WotsCheck a0 a1 a2 (fun r0 => K (.v (.bool r0))) := by
  rw [P.L17_WotsCheck_eq]
  kernel_rfl
theorem loops : loopsOf (Try.f3.body.getD .skip) = [loopAt Try.f3 7] := by kernel_rfl
noncomputable def spec0 : Abs.Spec := fun args K => match args with
  | [.v (.int .u8 a0), .arr .u8 32 a1, .arr .u8 32 a2] => P.L17_WotsCheck a0 a1 a2 (fun r0 => K (.v (.bool r0)))
  | _ => none
noncomputable def spec : Abs.Spec := spec0
theorem ok0 : Proved Try.prog [] 3 spec0 := by
  refine proved_of (D := D) (fn := Try.f3) (c := Try.f3.body.getD .skip) [.any] (by kernel_rfl) (globsPlain_of (by kernel_rfl)) (by kernel_rfl) (by kernel_rfl) (by kernel_rfl) ⟨wots_Digits.ok, R01_Same.ok, L17_awake.ok, trivial⟩ trivial ?_ ?_
  · rw [loops]; exact ⟨loop7, trivial⟩
  · intro args K r h
    unfold spec0 at h
    split at h
    · rw [body]; exact h
    · cases h
theorem ok : Proved Try.prog [] 3 spec := ok0
end L17_WotsCheck
end
