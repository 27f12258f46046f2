/-
  LmotsSigns, part L: an interpreter of my own over abstract values, the pure functions, the walks and the plain law.
-/

import Derived.Test.YtknjpkgnideplaaDoorLmotsSignsH
import Derived.Test.YtknjpkgnideplaaDoorLmotsSignsF
import Derived.Test.YtknjpkgnideplaaDoorLmotsSignsK
import Derived.Test.YtknjpkgnideplaaDoorProg
import Derived.Test.YtknjpkgnideplaaDoorLmotsSignsG
import Derived.Test.YtknjpkgnideplaaDoorLmotsSignsI
import Derived.Test.YtknjpkgnideplaaDoorLmotsSignsJ
import Derived.KernelRfl

section
open Go Go.Abs Go.Proofs
set_option maxRecDepth 100000
set_option linter.unusedVariables false
namespace R07_End
def S4 (v3 : Int) (v4 : Int) (h40 : List Int) (h0_0 : Int) (h0_1 : List Int) (h0_2 : List Int) (h0_3 : Int) : ASt := ⟨[(5, .own 40), (1, .ptr 0 0), (3, .v (.int .i64 v3)), (4, .v (.int .u64 v4))], [(40, some ⟨.row 5 (.ints .u8 h40), false⟩), (0, some ⟨.box 26 [.v (.int .i64 h0_0), .arr .u64 8 h0_1, .sl (.ints .u8 h0_2), .v (.int .u64 h0_3)], false⟩)], 41, 77⟩
def V4 : ASt → Option (Int × Int × (List Int) × Int × (List Int) × (List Int) × Int)
  | ⟨[(5, .own 40), (1, .ptr 0 0), (3, .v (.int .i64 v3)), (4, .v (.int .u64 v4))], [(40, some ⟨.row 5 (.ints .u8 h40), false⟩), (0, some ⟨.box 26 [.v (.int .i64 h0_0), .arr .u64 8 h0_1, .sl (.ints .u8 h0_2), .v (.int .u64 h0_3)], false⟩)], 41, 77⟩ => some (v3, v4, h40, h0_0, h0_1, h0_2, h0_3)
  | _ => none
theorem V4_ok (st : ASt) (x : Int × Int × (List Int) × Int × (List Int) × (List Int) × Int) (h : V4 st = some x) : st = S4 x.1 x.2.1 x.2.2.1 x.2.2.2.1 x.2.2.2.2.1 x.2.2.2.2.2.1 x.2.2.2.2.2.2 := by
  unfold V4 at h
  split at h
  · cases h; rfl
  · cases h
def S8 (v3 : Int) (v4 : Int) (h80 : List Int) (h0_0 : Int) (h0_1 : List Int) (h0_2 : List Int) (h0_3 : Int) : ASt := ⟨[(5, .own 80), (1, .ptr 0 0), (3, .v (.int .i64 v3)), (4, .v (.int .u64 v4))], [(80, some ⟨.row 5 (.ints .u8 h80), false⟩), (0, some ⟨.box 26 [.v (.int .i64 h0_0), .arr .u64 8 h0_1, .sl (.ints .u8 h0_2), .v (.int .u64 h0_3)], false⟩)], 81, 77⟩
def V8 : ASt → Option (Int × Int × (List Int) × Int × (List Int) × (List Int) × Int)
  | ⟨[(5, .own 80), (1, .ptr 0 0), (3, .v (.int .i64 v3)), (4, .v (.int .u64 v4))], [(80, some ⟨.row 5 (.ints .u8 h80), false⟩), (0, some ⟨.box 26 [.v (.int .i64 h0_0), .arr .u64 8 h0_1, .sl (.ints .u8 h0_2), .v (.int .u64 h0_3)], false⟩)], 81, 77⟩ => some (v3, v4, h80, h0_0, h0_1, h0_2, h0_3)
  | _ => none
theorem V8_ok (st : ASt) (x : Int × Int × (List Int) × Int × (List Int) × (List Int) × Int) (h : V8 st = some x) : st = S8 x.1 x.2.1 x.2.2.1 x.2.2.2.1 x.2.2.2.2.1 x.2.2.2.2.2.1 x.2.2.2.2.2.2 := by
  unfold V8 at h
  split at h
  · cases h; rfl
  · cases h
def S14 (v3 : Int) (v7 : Int) (h120 : List Int) (h0_0 : Int) (h0_1 : List Int) (h0_2 : List Int) (h0_3 : Int) : ASt := ⟨[(6, .own 120), (1, .ptr 0 0), (3, .v (.int .i64 v3)), (7, .v (.int .i64 v7))], [(120, some ⟨.row 5 (.ints .u8 h120), false⟩), (0, some ⟨.box 26 [.v (.int .i64 h0_0), .arr .u64 8 h0_1, .sl (.ints .u8 h0_2), .v (.int .u64 h0_3)], false⟩)], 121, 77⟩
def V14 : ASt → Option (Int × Int × (List Int) × Int × (List Int) × (List Int) × Int)
  | ⟨[(6, .own 120), (1, .ptr 0 0), (3, .v (.int .i64 v3)), (7, .v (.int .i64 v7))], [(120, some ⟨.row 5 (.ints .u8 h120), false⟩), (0, some ⟨.box 26 [.v (.int .i64 h0_0), .arr .u64 8 h0_1, .sl (.ints .u8 h0_2), .v (.int .u64 h0_3)], false⟩)], 121, 77⟩ => some (v3, v7, h120, h0_0, h0_1, h0_2, h0_3)
  | _ => none
theorem V14_ok (st : ASt) (x : Int × Int × (List Int) × Int × (List Int) × (List Int) × Int) (h : V14 st = some x) : st = S14 x.1 x.2.1 x.2.2.1 x.2.2.2.1 x.2.2.2.2.1 x.2.2.2.2.2.1 x.2.2.2.2.2.2 := by
  unfold V14 at h
  split at h
  · cases h; rfl
  · cases h
noncomputable def L4 : LSpec := fun st K => match V4 st with
  | some x => P.R07_End_l4 x.1 x.2.1 x.2.2.1 x.2.2.2.1 x.2.2.2.2.1 x.2.2.2.2.2.1 x.2.2.2.2.2.2 (fun v3 v4 h40 h0_0 h0_1 h0_2 h0_3 => K (.exit 0) (S4 v3 v4 h40 h0_0 h0_1 h0_2 h0_3))
  | none => none
noncomputable def L8 : LSpec := fun st K => match V8 st with
  | some x => P.R07_End_l8 x.1 x.2.1 x.2.2.1 x.2.2.2.1 x.2.2.2.2.1 x.2.2.2.2.2.1 x.2.2.2.2.2.2 (fun v3 v4 h80 h0_0 h0_1 h0_2 h0_3 => K (.exit 2) (S8 v3 v4 h80 h0_0 h0_1 h0_2 h0_3))
  | none => none
noncomputable def L14 : LSpec := fun st K => match V14 st with
  | some x => P.R07_End_l14 x.1 x.2.1 x.2.2.1 x.2.2.2.1 x.2.2.2.2.1 x.2.2.2.2.2.1 x.2.2.2.2.2.2 (fun v3 v7 h120 h0_0 h0_1 h0_2 h0_3 => K (.exit 4) (S14 v3 v7 h120 h0_0 h0_1 h0_2 h0_3))
  | none => none
noncomputable def D : Ctx := ({ P := Tryd.prog, G := [(17, R07_Add.spec), (22, R01_Be.spec), (58, R07_Block.spec)], globs := [(0, [.arr .u32 64 P.roots256]), (1, [.arr .u64 80 P.roots512])], hints := [(14, ⟨[1, 3, 7], [(6, 5, .ints .u8 [])], [2], [], some (120, [0]), [0]⟩), (8, ⟨[1, 3, 4], [(5, 5, .ints .u8 [])], [2], [], some (80, [0]), [0]⟩), (4, ⟨[1, 3, 4], [(5, 5, .ints .u8 [])], [2], [], some (40, [0]), [0]⟩)], loops := [(4, L4), (8, L8), (14, L14)], inl := [] } : Ctx)
def E4 (K : AExit → ASt → Option R) : ((Int × Int × (List Int) × Int × (List Int) × (List Int) × Int)) → Option R := (fun x => K (.exit 0) (S4 x.1 x.2.1 x.2.2.1 x.2.2.2.1 x.2.2.2.2.1 x.2.2.2.2.2.1 x.2.2.2.2.2.2))
theorem round4 (K : AExit → ASt → Option R) (next : ASt → Option R) (x : Int × Int × (List Int) × Int × (List Int) × (List Int) × Int) : roundA D (loopAt Tryd.f20 4) K next (S4 x.1 x.2.1 x.2.2.1 x.2.2.2.1 x.2.2.2.2.1 x.2.2.2.2.2.1 x.2.2.2.2.2.2) = (fun (x : Int × Int × (List Int) × Int × (List Int) × (List Int) × Int) (next : (Int × Int × (List Int) × Int × (List Int) × (List Int) × Int) → Option R) (ex : ((Int × Int × (List Int) × Int × (List Int) × (List Int) × Int)) → Option R) => P.R07_End_r4 x.1 x.2.1 x.2.2.1 x.2.2.2.1 x.2.2.2.2.1 x.2.2.2.2.2.1 x.2.2.2.2.2.2 (fun v3 v4 h40 h0_0 h0_1 h0_2 h0_3 => next (v3, v4, h40, h0_0, h0_1, h0_2, h0_3)) (fun v3 v4 h40 h0_0 h0_1 h0_2 h0_3 => ex ((v3, v4, h40, h0_0, h0_1, h0_2, h0_3)))) x (fun x => next (S4 x.1 x.2.1 x.2.2.1 x.2.2.2.1 x.2.2.2.2.1 x.2.2.2.2.2.1 x.2.2.2.2.2.2)) (E4 K) := by kernel_rfl
theorem lq4 (st : ASt) (K : AExit → ASt → Option R) : L4 st K = vMap (V4 st) (fun x => lp (fun (x : Int × Int × (List Int) × Int × (List Int) × (List Int) × Int) (next : (Int × Int × (List Int) × Int × (List Int) × (List Int) × Int) → Option R) (ex : ((Int × Int × (List Int) × Int × (List Int) × (List Int) × Int)) → Option R) => P.R07_End_r4 x.1 x.2.1 x.2.2.1 x.2.2.2.1 x.2.2.2.2.1 x.2.2.2.2.2.1 x.2.2.2.2.2.2 (fun v3 v4 h40 h0_0 h0_1 h0_2 h0_3 => next (v3, v4, h40, h0_0, h0_1, h0_2, h0_3)) (fun v3 v4 h40 h0_0 h0_1 h0_2 h0_3 => ex ((v3, v4, h40, h0_0, h0_1, h0_2, h0_3)))) x (E4 K)) := by
  unfold L4
  cases V4 st with
  | none => rfl
  | some x => simp only [P.R07_End_l4_eq]; rfl
theorem loop4 : LoopOk D (loopAt Tryd.f20 4) := loopOk_lp (X := Int × Int × (List Int) × Int × (List Int) × (List Int) × Int) (Y := (Int × Int × (List Int) × Int × (List Int) × (List Int) × Int)) (fun x => S4 x.1 x.2.1 x.2.2.1 x.2.2.2.1 x.2.2.2.2.1 x.2.2.2.2.2.1 x.2.2.2.2.2.2) V4_ok (stp := (fun (x : Int × Int × (List Int) × Int × (List Int) × (List Int) × Int) (next : (Int × Int × (List Int) × Int × (List Int) × (List Int) × Int) → Option R) (ex : ((Int × Int × (List Int) × Int × (List Int) × (List Int) × Int)) → Option R) => P.R07_End_r4 x.1 x.2.1 x.2.2.1 x.2.2.2.1 x.2.2.2.2.1 x.2.2.2.2.2.1 x.2.2.2.2.2.2 (fun v3 v4 h40 h0_0 h0_1 h0_2 h0_3 => next (v3, v4, h40, h0_0, h0_1, h0_2, h0_3)) (fun v3 v4 h40 h0_0 h0_1 h0_2 h0_3 => ex ((v3, v4, h40, h0_0, h0_1, h0_2, h0_3))))) (enc := E4) (L := L4) (by kernel_rfl) lq4 round4
def E8 (K : AExit → ASt → Option R) : ((Int × Int × (List Int) × Int × (List Int) × (List Int) × Int)) → Option R := (fun x => K (.exit 2) (S8 x.1 x.2.1 x.2.2.1 x.2.2.2.1 x.2.2.2.2.1 x.2.2.2.2.2.1 x.2.2.2.2.2.2))
theorem round8 (K : AExit → ASt → Option R) (next : ASt → Option R) (x : Int × Int × (List Int) × Int × (List Int) × (List Int) × Int) : roundA D (loopAt Tryd.f20 8) K next (S8 x.1 x.2.1 x.2.2.1 x.2.2.2.1 x.2.2.2.2.1 x.2.2.2.2.2.1 x.2.2.2.2.2.2) = (fun (x : Int × Int × (List Int) × Int × (List Int) × (List Int) × Int) (next : (Int × Int × (List Int) × Int × (List Int) × (List Int) × Int) → Option R) (ex : ((Int × Int × (List Int) × Int × (List Int) × (List Int) × Int)) → Option R) => P.R07_End_r8 x.1 x.2.1 x.2.2.1 x.2.2.2.1 x.2.2.2.2.1 x.2.2.2.2.2.1 x.2.2.2.2.2.2 (fun v3 v4 h80 h0_0 h0_1 h0_2 h0_3 => next (v3, v4, h80, h0_0, h0_1, h0_2, h0_3)) (fun v3 v4 h80 h0_0 h0_1 h0_2 h0_3 => ex ((v3, v4, h80, h0_0, h0_1, h0_2, h0_3)))) x (fun x => next (S8 x.1 x.2.1 x.2.2.1 x.2.2.2.1 x.2.2.2.2.1 x.2.2.2.2.2.1 x.2.2.2.2.2.2)) (E8 K) := by kernel_rfl
theorem lq8 (st : ASt) (K : AExit → ASt → Option R) : L8 st K = vMap (V8 st) (fun x => lp (fun (x : Int × Int × (List Int) × Int × (List Int) × (List Int) × Int) (next : (Int × Int × (List Int) × Int × (List Int) × (List Int) × Int) → Option R) (ex : ((Int × Int × (List Int) × Int × (List Int) × (List Int) × Int)) → Option R) => P.R07_End_r8 x.1 x.2.1 x.2.2.1 x.2.2.2.1 x.2.2.2.2.1 x.2.2.2.2.2.1 x.2.2.2.2.2.2 (fun v3 v4 h80 h0_0 h0_1 h0_2 h0_3 => next (v3, v4, h80, h0_0, h0_1, h0_2, h0_3)) (fun v3 v4 h80 h0_0 h0_1 h0_2 h0_3 => ex ((v3, v4, h80, h0_0, h0_1, h0_2, h0_3)))) x (E8 K)) := by
  unfold L8
  cases V8 st with
  | none => rfl
  | some x => simp only [P.R07_End_l8_eq]; rfl
theorem loop8 : LoopOk D (loopAt Tryd.f20 8) := loopOk_lp (X := Int × Int × (List Int) × Int × (List Int) × (List Int) × Int) (Y := (Int × Int × (List Int) × Int × (List Int) × (List Int) × Int)) (fun x => S8 x.1 x.2.1 x.2.2.1 x.2.2.2.1 x.2.2.2.2.1 x.2.2.2.2.2.1 x.2.2.2.2.2.2) V8_ok (stp := (fun (x : Int × Int × (List Int) × Int × (List Int) × (List Int) × Int) (next : (Int × Int × (List Int) × Int × (List Int) × (List Int) × Int) → Option R) (ex : ((Int × Int × (List Int) × Int × (List Int) × (List Int) × Int)) → Option R) => P.R07_End_r8 x.1 x.2.1 x.2.2.1 x.2.2.2.1 x.2.2.2.2.1 x.2.2.2.2.2.1 x.2.2.2.2.2.2 (fun v3 v4 h80 h0_0 h0_1 h0_2 h0_3 => next (v3, v4, h80, h0_0, h0_1, h0_2, h0_3)) (fun v3 v4 h80 h0_0 h0_1 h0_2 h0_3 => ex ((v3, v4, h80, h0_0, h0_1, h0_2, h0_3))))) (enc := E8) (L := L8) (by kernel_rfl) lq8 round8
def E14 (K : AExit → ASt → Option R) : ((Int × Int × (List Int) × Int × (List Int) × (List Int) × Int)) → Option R := (fun x => K (.exit 4) (S14 x.1 x.2.1 x.2.2.1 x.2.2.2.1 x.2.2.2.2.1 x.2.2.2.2.2.1 x.2.2.2.2.2.2))
theorem round14 (K : AExit → ASt → Option R) (next : ASt → Option R) (x : Int × Int × (List Int) × Int × (List Int) × (List Int) × Int) : roundA D (loopAt Tryd.f20 14) K next (S14 x.1 x.2.1 x.2.2.1 x.2.2.2.1 x.2.2.2.2.1 x.2.2.2.2.2.1 x.2.2.2.2.2.2) = (fun (x : Int × Int × (List Int) × Int × (List Int) × (List Int) × Int) (next : (Int × Int × (List Int) × Int × (List Int) × (List Int) × Int) → Option R) (ex : ((Int × Int × (List Int) × Int × (List Int) × (List Int) × Int)) → Option R) => P.R07_End_r14 x.1 x.2.1 x.2.2.1 x.2.2.2.1 x.2.2.2.2.1 x.2.2.2.2.2.1 x.2.2.2.2.2.2 (fun v3 v7 h120 h0_0 h0_1 h0_2 h0_3 => next (v3, v7, h120, h0_0, h0_1, h0_2, h0_3)) (fun v3 v7 h120 h0_0 h0_1 h0_2 h0_3 => ex ((v3, v7, h120, h0_0, h0_1, h0_2, h0_3)))) x (fun x => next (S14 x.1 x.2.1 x.2.2.1 x.2.2.2.1 x.2.2.2.2.1 x.2.2.2.2.2.1 x.2.2.2.2.2.2)) (E14 K) := by kernel_rfl
theorem lq14 (st : ASt) (K : AExit → ASt → Option R) : L14 st K = vMap (V14 st) (fun x => lp (fun (x : Int × Int × (List Int) × Int × (List Int) × (List Int) × Int) (next : (Int × Int × (List Int) × Int × (List Int) × (List Int) × Int) → Option R) (ex : ((Int × Int × (List Int) × Int × (List Int) × (List Int) × Int)) → Option R) => P.R07_End_r14 x.1 x.2.1 x.2.2.1 x.2.2.2.1 x.2.2.2.2.1 x.2.2.2.2.2.1 x.2.2.2.2.2.2 (fun v3 v7 h120 h0_0 h0_1 h0_2 h0_3 => next (v3, v7, h120, h0_0, h0_1, h0_2, h0_3)) (fun v3 v7 h120 h0_0 h0_1 h0_2 h0_3 => ex ((v3, v7, h120, h0_0, h0_1, h0_2, h0_3)))) x (E14 K)) := by
  unfold L14
  cases V14 st with
  | none => rfl
  | some x => simp only [P.R07_End_l14_eq]; rfl
theorem loop14 : LoopOk D (loopAt Tryd.f20 14) := loopOk_lp (X := Int × Int × (List Int) × Int × (List Int) × (List Int) × Int) (Y := (Int × Int × (List Int) × Int × (List Int) × (List Int) × Int)) (fun x => S14 x.1 x.2.1 x.2.2.1 x.2.2.2.1 x.2.2.2.2.1 x.2.2.2.2.2.1 x.2.2.2.2.2.2) V14_ok (stp := (fun (x : Int × Int × (List Int) × Int × (List Int) × (List Int) × Int) (next : (Int × Int × (List Int) × Int × (List Int) × (List Int) × Int) → Option R) (ex : ((Int × Int × (List Int) × Int × (List Int) × (List Int) × Int)) → Option R) => P.R07_End_r14 x.1 x.2.1 x.2.2.1 x.2.2.2.1 x.2.2.2.2.1 x.2.2.2.2.2.1 x.2.2.2.2.2.2 (fun v3 v7 h120 h0_0 h0_1 h0_2 h0_3 => next (v3, v7, h120, h0_0, h0_1, h0_2, h0_3)) (fun v3 v7 h120 h0_0 h0_1 h0_2 h0_3 => ex ((v3, v7, h120, h0_0, h0_1, h0_2, h0_3))))) (enc := E14) (L := L14) (by kernel_rfl) lq14 round14
theorem body (a0_Kind : Int) (a0_Words : List Int) (a0_Tail : List Int) (a0_Size : Int) (K : AVal → Option R) : bodyW D Tryd.f20 5 (.ints .u8 []) [.agg [.v (.int .i64 a0_Kind), .arr .u64 8 a0_Words, .sl (.ints .u8 a0_Tail), .v (.int .u64 a0_Size)]] K = P.R07_End a0_Kind a0_Words a0_Tail a0_Size (fun r0 => K (.fr 5 (.ints .u8 r0))) := by
  rw [P.R07_End_eq]
  kernel_rfl
theorem loops : loopsOf (Tryd.f20.body.getD .skip) = [loopAt Tryd.f20 4, loopAt Tryd.f20 8, loopAt Tryd.f20 14] := by kernel_rfl
noncomputable def spec0 : Abs.Spec := fun args K => match args with
  | [.agg [.v (.int .i64 a0_Kind), .arr .u64 8 a0_Words, .sl (.ints .u8 a0_Tail), .v (.int .u64 a0_Size)]] => P.R07_End a0_Kind a0_Words a0_Tail a0_Size (fun r0 => K (.fr 5 (.ints .u8 r0)))
  | _ => none
noncomputable def spec : Abs.Spec := fun args K => spec0 (coerL [.agg [.any, .any, .sl (.ints .u8 []), .any]] args) K
theorem ok0 : Proved Tryd.prog [(0, [.arr .u32 64 P.roots256]), (1, [.arr .u64 80 P.roots512])] 20 spec0 := by
  refine provedW_of (D := D) (fn := Tryd.f20) (c := Tryd.f20.body.getD .skip) 5 (.ints .u8 []) (by kernel_rfl) (globsPlain_of (by kernel_rfl)) (by kernel_rfl) (by kernel_rfl) (by kernel_rfl) ⟨R07_Add.ok, R01_Be.ok, R07_Block.ok, trivial⟩ trivial ?_ ?_
  · rw [loops]; exact ⟨loop4, loop8, loop14, trivial⟩
  · intro args K r h
    unfold spec0 at h
    split at h
    · rw [body]; exact h
    · cases h
theorem ok : Proved Tryd.prog [(0, [.arr .u32 64 P.roots256]), (1, [.arr .u64 80 P.roots512])] 20 spec := proved_coer _ ok0
end R07_End
end

section
open Go Go.Abs Go.Proofs
set_option maxRecDepth 100000
set_option linter.unusedVariables false
namespace R07_New
noncomputable def D : Ctx := ({ P := Tryd.prog, G := [], globs := [(0, [.arr .u32 64 P.roots256]), (1, [.arr .u64 80 P.roots512])], hints := [], loops := [], inl := [] } : Ctx)
theorem body (a0 : Int) (K : AVal → Option R) : bodyA D Tryd.f26 [.agg [.any, .any, .fr 5 (.ints .u8 []), .any], .any] [.v (.int .i64 a0)] K = P.R07_New a0 (fun r0_Kind r0_Words r0_Tail r0_Size r1 => K (.tuple [.agg [.v (.int .i64 r0_Kind), .arr .u64 8 r0_Words, .fr 5 (.ints .u8 r0_Tail), .v (.int .u64 r0_Size)], .v (.int .i64 r1)])) := by
  rw [P.R07_New_eq]
  kernel_rfl
theorem loops : loopsOf (Tryd.f26.body.getD .skip) = [] := by kernel_rfl
noncomputable def spec0 : Abs.Spec := fun args K => match args with
  | [.v (.int .i64 a0)] => P.R07_New a0 (fun r0_Kind r0_Words r0_Tail r0_Size r1 => K (.tuple [.agg [.v (.int .i64 r0_Kind), .arr .u64 8 r0_Words, .fr 5 (.ints .u8 r0_Tail), .v (.int .u64 r0_Size)], .v (.int .i64 r1)]))
  | _ => none
noncomputable def spec : Abs.Spec := spec0
theorem ok0 : Proved Tryd.prog [(0, [.arr .u32 64 P.roots256]), (1, [.arr .u64 80 P.roots512])] 26 spec0 := by
  refine proved_of (D := D) (fn := Tryd.f26) (c := Tryd.f26.body.getD .skip) [.agg [.any, .any, .fr 5 (.ints .u8 []), .any], .any] (by kernel_rfl) (globsPlain_of (by kernel_rfl)) (by kernel_rfl) (by kernel_rfl) (by kernel_rfl) trivial trivial ?_ ?_
  · rw [loops]; exact trivial
  · intro args K r h
    unfold spec0 at h
    split at h
    · rw [body]; exact h
    · cases h
theorem ok : Proved Tryd.prog [(0, [.arr .u32 64 P.roots256]), (1, [.arr .u64 80 P.roots512])] 26 spec := ok0
end R07_New
end

section
open Go Go.Abs Go.Proofs
set_option maxRecDepth 100000
set_option linter.unusedVariables false
namespace R07_Sum
noncomputable def D : Ctx := ({ P := Tryd.prog, G := [(17, R07_Add.spec), (20, R07_End.spec), (26, R07_New.spec)], globs := [(0, [.arr .u32 64 P.roots256]), (1, [.arr .u64 80 P.roots512])], hints := [], loops := [], inl := [] } : Ctx)
theorem body (a0 : Int) (a1 : List Int) (K : AVal → Option R) : bodyA D Tryd.f25 [.fr 5 (.ints .u8 []), .any] [.v (.int .i64 a0), .sl (.ints .u8 a1)] K = P.R07_Sum a0 a1 (fun r0 r1 => K (.tuple [.fr 5 (.ints .u8 r0), .v (.int .i64 r1)])) := by
  rw [P.R07_Sum_eq]
  kernel_rfl
theorem loops : loopsOf (Tryd.f25.body.getD .skip) = [] := by kernel_rfl
noncomputable def spec0 : Abs.Spec := fun args K => match args with
  | [.v (.int .i64 a0), .sl (.ints .u8 a1)] => P.R07_Sum a0 a1 (fun r0 r1 => K (.tuple [.fr 5 (.ints .u8 r0), .v (.int .i64 r1)]))
  | _ => none
noncomputable def spec : Abs.Spec := fun args K => spec0 (coerL [.any, .sl (.ints .u8 [])] args) K
theorem ok0 : Proved Tryd.prog [(0, [.arr .u32 64 P.roots256]), (1, [.arr .u64 80 P.roots512])] 25 spec0 := by
  refine proved_of (D := D) (fn := Tryd.f25) (c := Tryd.f25.body.getD .skip) [.fr 5 (.ints .u8 []), .any] (by kernel_rfl) (globsPlain_of (by kernel_rfl)) (by kernel_rfl) (by kernel_rfl) (by kernel_rfl) ⟨R07_Add.ok, R07_End.ok, R07_New.ok, trivial⟩ trivial ?_ ?_
  · rw [loops]; exact trivial
  · intro args K r h
    unfold spec0 at h
    split at h
    · rw [body]; exact h
    · cases h
theorem ok : Proved Tryd.prog [(0, [.arr .u32 64 P.roots256]), (1, [.arr .u64 80 P.roots512])] 25 spec := proved_coer _ ok0
end R07_Sum
end

section
open Go Go.Abs Go.Proofs
set_option maxRecDepth 100000
set_option linter.unusedVariables false
namespace R14_H
noncomputable def D : Ctx := ({ P := Tryd.prog, G := [(25, R07_Sum.spec), (65, R01_Join.spec)], globs := [(0, [.arr .u32 64 P.roots256]), (1, [.arr .u64 80 P.roots512])], hints := [], loops := [], inl := [] } : Ctx)
theorem body (a0 : List (List Int)) (K : AVal → Option R) : bodyA D Tryd.f123 [.fr 5 (.ints .u8 [])] [.sl (.rows .u8 a0)] K = P.R14_H a0 (fun r0 => K (.fr 5 (.ints .u8 r0))) := by
  rw [P.R14_H_eq]
  kernel_rfl
theorem loops : loopsOf (Tryd.f123.body.getD .skip) = [] := by kernel_rfl
noncomputable def spec0 : Abs.Spec := fun args K => match args with
  | [.sl (.rows .u8 a0)] => P.R14_H a0 (fun r0 => K (.fr 5 (.ints .u8 r0)))
  | _ => none
noncomputable def spec : Abs.Spec := fun args K => spec0 (coerL [.sl (.rows .u8 [])] args) K
theorem ok0 : Proved Tryd.prog [(0, [.arr .u32 64 P.roots256]), (1, [.arr .u64 80 P.roots512])] 123 spec0 := by
  refine proved_of (D := D) (fn := Tryd.f123) (c := Tryd.f123.body.getD .skip) [.fr 5 (.ints .u8 [])] (by kernel_rfl) (globsPlain_of (by kernel_rfl)) (by kernel_rfl) (by kernel_rfl) (by kernel_rfl) ⟨R07_Sum.ok, R01_Join.ok, trivial⟩ trivial ?_ ?_
  · rw [loops]; exact trivial
  · intro args K r h
    unfold spec0 at h
    split at h
    · rw [body]; exact h
    · cases h
theorem ok : Proved Tryd.prog [(0, [.arr .u32 64 P.roots256]), (1, [.arr .u64 80 P.roots512])] 123 spec := proved_coer _ ok0
end R14_H
end

section
open Go Go.Abs Go.Proofs
set_option maxRecDepth 100000
set_option linter.unusedVariables false
namespace R14_chain
def S2 (v0 : List Int) (v1 : Int) (v2 : Int) (v4 : Int) (v5 : List Int) (v13 : Int) : ASt := ⟨[(0, .sl (.ints .u8 v0)), (1, .v (.int .u32 v1)), (2, .v (.int .i64 v2)), (4, .v (.int .i64 v4)), (5, .sl (.ints .u8 v5)), (13, .v (.int .i64 v13))], [], 0, 34⟩
def V2 : ASt → Option ((List Int) × Int × Int × Int × (List Int) × Int)
  | ⟨[(0, .sl (.ints .u8 v0)), (1, .v (.int .u32 v1)), (2, .v (.int .i64 v2)), (4, .v (.int .i64 v4)), (5, .sl (.ints .u8 v5)), (13, .v (.int .i64 v13))], [], 0, 34⟩ => some (v0, v1, v2, v4, v5, v13)
  | _ => none
theorem V2_ok (st : ASt) (x : (List Int) × Int × Int × Int × (List Int) × Int) (h : V2 st = some x) : st = S2 x.1 x.2.1 x.2.2.1 x.2.2.2.1 x.2.2.2.2.1 x.2.2.2.2.2 := by
  unfold V2 at h
  split at h
  · cases h; rfl
  · cases h
noncomputable def L2 : LSpec := fun st K => match V2 st with
  | some x => P.R14_chain_l2 x.1 x.2.1 x.2.2.1 x.2.2.2.1 x.2.2.2.2.1 x.2.2.2.2.2 (fun v0 v1 v2 v4 v5 v13 => K (.exit 0) (S2 v0 v1 v2 v4 v5 v13))
  | none => none
noncomputable def D : Ctx := ({ P := Tryd.prog, G := [(22, R01_Be.spec), (123, R14_H.spec)], globs := [(0, [.arr .u32 64 P.roots256]), (1, [.arr .u64 80 P.roots512])], hints := [(2, ⟨[0, 1, 2, 4, 5, 13], [], [12], [(5, .sl (.ints .u8 []))], none, []⟩)], loops := [(2, L2)], inl := [] } : Ctx)
def E2 (K : AExit → ASt → Option R) : (((List Int) × Int × Int × Int × (List Int) × Int)) → Option R := (fun x => K (.exit 0) (S2 x.1 x.2.1 x.2.2.1 x.2.2.2.1 x.2.2.2.2.1 x.2.2.2.2.2))
theorem round2 (K : AExit → ASt → Option R) (next : ASt → Option R) (x : (List Int) × Int × Int × Int × (List Int) × Int) : roundA D (loopAt Tryd.f89 2) K next (S2 x.1 x.2.1 x.2.2.1 x.2.2.2.1 x.2.2.2.2.1 x.2.2.2.2.2) = (fun (x : (List Int) × Int × Int × Int × (List Int) × Int) (next : ((List Int) × Int × Int × Int × (List Int) × Int) → Option R) (ex : (((List Int) × Int × Int × Int × (List Int) × Int)) → Option R) => P.R14_chain_r2 x.1 x.2.1 x.2.2.1 x.2.2.2.1 x.2.2.2.2.1 x.2.2.2.2.2 (fun v0 v1 v2 v4 v5 v13 => next (v0, v1, v2, v4, v5, v13)) (fun v0 v1 v2 v4 v5 v13 => ex ((v0, v1, v2, v4, v5, v13)))) x (fun x => next (S2 x.1 x.2.1 x.2.2.1 x.2.2.2.1 x.2.2.2.2.1 x.2.2.2.2.2)) (E2 K) := by kernel_rfl
theorem lq2 (st : ASt) (K : AExit → ASt → Option R) : L2 st K = vMap (V2 st) (fun x => lp (fun (x : (List Int) × Int × Int × Int × (List Int) × Int) (next : ((List Int) × Int × Int × Int × (List Int) × Int) → Option R) (ex : (((List Int) × Int × Int × Int × (List Int) × Int)) → Option R) => P.R14_chain_r2 x.1 x.2.1 x.2.2.1 x.2.2.2.1 x.2.2.2.2.1 x.2.2.2.2.2 (fun v0 v1 v2 v4 v5 v13 => next (v0, v1, v2, v4, v5, v13)) (fun v0 v1 v2 v4 v5 v13 => ex ((v0, v1, v2, v4, v5, v13)))) x (E2 K)) := by
  unfold L2
  cases V2 st with
  | none => rfl
  | some x => simp only [P.R14_chain_l2_eq]; rfl
theorem loop2 : LoopOk D (loopAt Tryd.f89 2) := loopOk_lp (X := (List Int) × Int × Int × Int × (List Int) × Int) (Y := ((List Int) × Int × Int × Int × (List Int) × Int)) (fun x => S2 x.1 x.2.1 x.2.2.1 x.2.2.2.1 x.2.2.2.2.1 x.2.2.2.2.2) V2_ok (stp := (fun (x : (List Int) × Int × Int × Int × (List Int) × Int) (next : ((List Int) × Int × Int × Int × (List Int) × Int) → Option R) (ex : (((List Int) × Int × Int × Int × (List Int) × Int)) → Option R) => P.R14_chain_r2 x.1 x.2.1 x.2.2.1 x.2.2.2.1 x.2.2.2.2.1 x.2.2.2.2.2 (fun v0 v1 v2 v4 v5 v13 => next (v0, v1, v2, v4, v5, v13)) (fun v0 v1 v2 v4 v5 v13 => ex ((v0, v1, v2, v4, v5, v13))))) (enc := E2) (L := L2) (by kernel_rfl) lq2 round2
theorem body (a0 : List Int) (a1 : Int) (a2 : Int) (a3 : Int) (a4 : Int) (a5 : List Int) (K : AVal → Option R) : bodyA D Tryd.f89 [.sl (.ints .u8 [])] [.sl (.ints .u8 a0), .v (.int .u32 a1), .v (.int .i64 a2), .v (.int .i64 a3), .v (.int .i64 a4), .sl (.ints .u8 a5)] K = P.R14_chain a0 a1 a2 a3 a4 a5 (fun r0 => K (.sl (.ints .u8 r0))) := by
  rw [P.R14_chain_eq]
  kernel_rfl
theorem loops : loopsOf (Tryd.f89.body.getD .skip) = [loopAt Tryd.f89 2] := by kernel_rfl
noncomputable def spec0 : Abs.Spec := fun args K => match args with
  | [.sl (.ints .u8 a0), .v (.int .u32 a1), .v (.int .i64 a2), .v (.int .i64 a3), .v (.int .i64 a4), .sl (.ints .u8 a5)] => P.R14_chain a0 a1 a2 a3 a4 a5 (fun r0 => K (.sl (.ints .u8 r0)))
  | _ => none
noncomputable def spec : Abs.Spec := fun args K => spec0 (coerL [.sl (.ints .u8 []), .any, .any, .any, .any, .sl (.ints .u8 [])] args) K
theorem ok0 : Proved Tryd.prog [(0, [.arr .u32 64 P.roots256]), (1, [.arr .u64 80 P.roots512])] 89 spec0 := by
  refine proved_of (D := D) (fn := Tryd.f89) (c := Tryd.f89.body.getD .skip) [.sl (.ints .u8 [])] (by kernel_rfl) (globsPlain_of (by kernel_rfl)) (by kernel_rfl) (by kernel_rfl) (by kernel_rfl) ⟨R01_Be.ok, R14_H.ok, trivial⟩ trivial ?_ ?_
  · rw [loops]; exact ⟨loop2, trivial⟩
  · intro args K r h
    unfold spec0 at h
    split at h
    · rw [body]; exact h
    · cases h
theorem ok : Proved Tryd.prog [(0, [.arr .u32 64 P.roots256]), (1, [.arr .u64 80 P.roots512])] 89 spec := proved_coer _ ok0
end R14_chain
end

section
open Go Go.Abs Go.Proofs
set_option maxRecDepth 100000
set_option linter.unusedVariables false
namespace R14_digest
noncomputable def D : Ctx := ({ P := Tryd.prog, G := [(22, R01_Be.spec), (123, R14_H.spec)], globs := [(0, [.arr .u32 64 P.roots256]), (1, [.arr .u64 80 P.roots512])], hints := [], loops := [], inl := [] } : Ctx)
theorem body (a0 : List Int) (a1 : Int) (a2 : List Int) (a3 : List Int) (K : AVal → Option R) : bodyA D Tryd.f94 [.fr 5 (.ints .u8 [])] [.sl (.ints .u8 a0), .v (.int .u32 a1), .sl (.ints .u8 a2), .sl (.ints .u8 a3)] K = P.R14_digest a0 a1 a2 a3 (fun r0 => K (.fr 5 (.ints .u8 r0))) := by
  rw [P.R14_digest_eq]
  kernel_rfl
theorem loops : loopsOf (Tryd.f94.body.getD .skip) = [] := by kernel_rfl
noncomputable def spec0 : Abs.Spec := fun args K => match args with
  | [.sl (.ints .u8 a0), .v (.int .u32 a1), .sl (.ints .u8 a2), .sl (.ints .u8 a3)] => P.R14_digest a0 a1 a2 a3 (fun r0 => K (.fr 5 (.ints .u8 r0)))
  | _ => none
noncomputable def spec : Abs.Spec := fun args K => spec0 (coerL [.sl (.ints .u8 []), .any, .sl (.ints .u8 []), .sl (.ints .u8 [])] args) K
theorem ok0 : Proved Tryd.prog [(0, [.arr .u32 64 P.roots256]), (1, [.arr .u64 80 P.roots512])] 94 spec0 := by
  refine proved_of (D := D) (fn := Tryd.f94) (c := Tryd.f94.body.getD .skip) [.fr 5 (.ints .u8 [])] (by kernel_rfl) (globsPlain_of (by kernel_rfl)) (by kernel_rfl) (by kernel_rfl) (by kernel_rfl) ⟨R01_Be.ok, R14_H.ok, trivial⟩ trivial ?_ ?_
  · rw [loops]; exact trivial
  · intro args K r h
    unfold spec0 at h
    split at h
    · rw [body]; exact h
    · cases h
theorem ok : Proved Tryd.prog [(0, [.arr .u32 64 P.roots256]), (1, [.arr .u64 80 P.roots512])] 94 spec := proved_coer _ ok0
end R14_digest
end

section
open Go Go.Abs Go.Proofs
set_option maxRecDepth 100000
set_option linter.unusedVariables false
namespace R14_key
noncomputable def D : Ctx := ({ P := Tryd.prog, G := [(22, R01_Be.spec), (65, R01_Join.spec), (123, R14_H.spec)], globs := [(0, [.arr .u32 64 P.roots256]), (1, [.arr .u64 80 P.roots512])], hints := [], loops := [], inl := [] } : Ctx)
theorem body (a0 : List Int) (a1 : Int) (a2 : List (List Int)) (K : AVal → Option R) : bodyA D Tryd.f91 [.fr 5 (.ints .u8 [])] [.sl (.ints .u8 a0), .v (.int .u32 a1), .sl (.rows .u8 a2)] K = P.R14_key a0 a1 a2 (fun r0 => K (.fr 5 (.ints .u8 r0))) := by
  rw [P.R14_key_eq]
  kernel_rfl
theorem loops : loopsOf (Tryd.f91.body.getD .skip) = [] := by kernel_rfl
noncomputable def spec0 : Abs.Spec := fun args K => match args with
  | [.sl (.ints .u8 a0), .v (.int .u32 a1), .sl (.rows .u8 a2)] => P.R14_key a0 a1 a2 (fun r0 => K (.fr 5 (.ints .u8 r0)))
  | _ => none
noncomputable def spec : Abs.Spec := fun args K => spec0 (coerL [.sl (.ints .u8 []), .any, .sl (.rows .u8 [])] args) K
theorem ok0 : Proved Tryd.prog [(0, [.arr .u32 64 P.roots256]), (1, [.arr .u64 80 P.roots512])] 91 spec0 := by
  refine proved_of (D := D) (fn := Tryd.f91) (c := Tryd.f91.body.getD .skip) [.fr 5 (.ints .u8 [])] (by kernel_rfl) (globsPlain_of (by kernel_rfl)) (by kernel_rfl) (by kernel_rfl) (by kernel_rfl) ⟨R01_Be.ok, R01_Join.ok, R14_H.ok, trivial⟩ trivial ?_ ?_
  · rw [loops]; exact trivial
  · intro args K r h
    unfold spec0 at h
    split at h
    · rw [body]; exact h
    · cases h
theorem ok : Proved Tryd.prog [(0, [.arr .u32 64 P.roots256]), (1, [.arr .u64 80 P.roots512])] 91 spec := proved_coer _ ok0
end R14_key
end

section
open Go Go.Abs Go.Proofs
set_option maxRecDepth 100000
set_option linter.unusedVariables false
namespace R14_Candidate
def S11 (v0 : Int) (v1 : List Int) (v2 : Int) (v4 : List Int) (v12 : Int) (v18 : Int) (h40 : List (List Int)) (h1 : List Int) : ASt := ⟨[(17, .own 40), (0, .v (.int .i64 v0)), (1, .sl (.ints .u8 v1)), (2, .v (.int .u32 v2)), (4, .sl (.ints .u8 v4)), (12, .v (.int .i64 v12)), (15, .own 1), (18, .v (.int .i64 v18))], [(40, some ⟨.row 24 (.rows .u8 h40), false⟩), (1, some ⟨.row 71 (.ints .u32 h1), false⟩)], 41, 85⟩
def V11 : ASt → Option (Int × (List Int) × Int × (List Int) × Int × Int × (List (List Int)) × (List Int))
  | ⟨[(17, .own 40), (0, .v (.int .i64 v0)), (1, .sl (.ints .u8 v1)), (2, .v (.int .u32 v2)), (4, .sl (.ints .u8 v4)), (12, .v (.int .i64 v12)), (15, .own 1), (18, .v (.int .i64 v18))], [(40, some ⟨.row 24 (.rows .u8 h40), false⟩), (1, some ⟨.row 71 (.ints .u32 h1), false⟩)], 41, 85⟩ => some (v0, v1, v2, v4, v12, v18, h40, h1)
  | _ => none
theorem V11_ok (st : ASt) (x : Int × (List Int) × Int × (List Int) × Int × Int × (List (List Int)) × (List Int)) (h : V11 st = some x) : st = S11 x.1 x.2.1 x.2.2.1 x.2.2.2.1 x.2.2.2.2.1 x.2.2.2.2.2.1 x.2.2.2.2.2.2.1 x.2.2.2.2.2.2.2 := by
  unfold V11 at h
  split at h
  · cases h; rfl
  · cases h
noncomputable def L11 : LSpec := fun st K => match V11 st with
  | some x => P.R14_Candidate_l11 x.1 x.2.1 x.2.2.1 x.2.2.2.1 x.2.2.2.2.1 x.2.2.2.2.2.1 x.2.2.2.2.2.2.1 x.2.2.2.2.2.2.2 (fun v0 v1 v2 v4 v12 v18 h40 h1 => K (.exit 0) (S11 v0 v1 v2 v4 v12 v18 h40 h1))
  | none => none
noncomputable def D : Ctx := ({ P := Tryd.prog, G := [(24, R01_Num.spec), (88, R14_Kind.spec), (89, R14_chain.spec), (91, R14_key.spec), (93, R14_Digits.spec), (94, R14_digest.spec), (96, R14_Size.spec)], globs := [(0, [.arr .u32 64 P.roots256]), (1, [.arr .u64 80 P.roots512])], hints := [(11, ⟨[0, 1, 2, 4, 12, 15, 18], [(17, 24, .rows .u8 [])], [10, 11], [], some (40, [1]), []⟩)], loops := [(11, L11)], inl := [] } : Ctx)
def E11 (K : AExit → ASt → Option R) : ((Int × (List Int) × Int × (List Int) × Int × Int × (List (List Int)) × (List Int))) → Option R := (fun x => K (.exit 0) (S11 x.1 x.2.1 x.2.2.1 x.2.2.2.1 x.2.2.2.2.1 x.2.2.2.2.2.1 x.2.2.2.2.2.2.1 x.2.2.2.2.2.2.2))
theorem round11 (K : AExit → ASt → Option R) (next : ASt → Option R) (x : Int × (List Int) × Int × (List Int) × Int × Int × (List (List Int)) × (List Int)) : roundA D (loopAt Tryd.f50 11) K next (S11 x.1 x.2.1 x.2.2.1 x.2.2.2.1 x.2.2.2.2.1 x.2.2.2.2.2.1 x.2.2.2.2.2.2.1 x.2.2.2.2.2.2.2) = (fun (x : Int × (List Int) × Int × (List Int) × Int × Int × (List (List Int)) × (List Int)) (next : (Int × (List Int) × Int × (List Int) × Int × Int × (List (List Int)) × (List Int)) → Option R) (ex : ((Int × (List Int) × Int × (List Int) × Int × Int × (List (List Int)) × (List Int))) → Option R) => P.R14_Candidate_r11 x.1 x.2.1 x.2.2.1 x.2.2.2.1 x.2.2.2.2.1 x.2.2.2.2.2.1 x.2.2.2.2.2.2.1 x.2.2.2.2.2.2.2 (fun v0 v1 v2 v4 v12 v18 h40 h1 => next (v0, v1, v2, v4, v12, v18, h40, h1)) (fun v0 v1 v2 v4 v12 v18 h40 h1 => ex ((v0, v1, v2, v4, v12, v18, h40, h1)))) x (fun x => next (S11 x.1 x.2.1 x.2.2.1 x.2.2.2.1 x.2.2.2.2.1 x.2.2.2.2.2.1 x.2.2.2.2.2.2.1 x.2.2.2.2.2.2.2)) (E11 K) := by kernel_rfl
theorem lq11 (st : ASt) (K : AExit → ASt → Option R) : L11 st K = vMap (V11 st) (fun x => lp (fun (x : Int × (List Int) × Int × (List Int) × Int × Int × (List (List Int)) × (List Int)) (next : (Int × (List Int) × Int × (List Int) × Int × Int × (List (List Int)) × (List Int)) → Option R) (ex : ((Int × (List Int) × Int × (List Int) × Int × Int × (List (List Int)) × (List Int))) → Option R) => P.R14_Candidate_r11 x.1 x.2.1 x.2.2.1 x.2.2.2.1 x.2.2.2.2.1 x.2.2.2.2.2.1 x.2.2.2.2.2.2.1 x.2.2.2.2.2.2.2 (fun v0 v1 v2 v4 v12 v18 h40 h1 => next (v0, v1, v2, v4, v12, v18, h40, h1)) (fun v0 v1 v2 v4 v12 v18 h40 h1 => ex ((v0, v1, v2, v4, v12, v18, h40, h1)))) x (E11 K)) := by
  unfold L11
  cases V11 st with
  | none => rfl
  | some x => simp only [P.R14_Candidate_l11_eq]; rfl
theorem loop11 : LoopOk D (loopAt Tryd.f50 11) := loopOk_lp (X := Int × (List Int) × Int × (List Int) × Int × Int × (List (List Int)) × (List Int)) (Y := (Int × (List Int) × Int × (List Int) × Int × Int × (List (List Int)) × (List Int))) (fun x => S11 x.1 x.2.1 x.2.2.1 x.2.2.2.1 x.2.2.2.2.1 x.2.2.2.2.2.1 x.2.2.2.2.2.2.1 x.2.2.2.2.2.2.2) V11_ok (stp := (fun (x : Int × (List Int) × Int × (List Int) × Int × Int × (List (List Int)) × (List Int)) (next : (Int × (List Int) × Int × (List Int) × Int × Int × (List (List Int)) × (List Int)) → Option R) (ex : ((Int × (List Int) × Int × (List Int) × Int × Int × (List (List Int)) × (List Int))) → Option R) => P.R14_Candidate_r11 x.1 x.2.1 x.2.2.1 x.2.2.2.1 x.2.2.2.2.1 x.2.2.2.2.2.1 x.2.2.2.2.2.2.1 x.2.2.2.2.2.2.2 (fun v0 v1 v2 v4 v12 v18 h40 h1 => next (v0, v1, v2, v4, v12, v18, h40, h1)) (fun v0 v1 v2 v4 v12 v18 h40 h1 => ex ((v0, v1, v2, v4, v12, v18, h40, h1))))) (enc := E11) (L := L11) (by kernel_rfl) lq11 round11
theorem body (a0 : Int) (a1 : List Int) (a2 : Int) (a3 : List Int) (a4 : List Int) (K : AVal → Option R) : bodyA D Tryd.f50 [.fr 5 (.ints .u8 []), .any] [.v (.int .i64 a0), .sl (.ints .u8 a1), .v (.int .u32 a2), .sl (.ints .u8 a3), .sl (.ints .u8 a4)] K = P.R14_Candidate a0 a1 a2 a3 a4 (fun r0 r1 => K (.tuple [.fr 5 (.ints .u8 r0), .v (.int .i64 r1)])) := by
  rw [P.R14_Candidate_eq]
  kernel_rfl
theorem loops : loopsOf (Tryd.f50.body.getD .skip) = [loopAt Tryd.f50 11] := by kernel_rfl
noncomputable def spec0 : Abs.Spec := fun args K => match args with
  | [.v (.int .i64 a0), .sl (.ints .u8 a1), .v (.int .u32 a2), .sl (.ints .u8 a3), .sl (.ints .u8 a4)] => P.R14_Candidate a0 a1 a2 a3 a4 (fun r0 r1 => K (.tuple [.fr 5 (.ints .u8 r0), .v (.int .i64 r1)]))
  | _ => none
noncomputable def spec : Abs.Spec := fun args K => spec0 (coerL [.any, .sl (.ints .u8 []), .any, .sl (.ints .u8 []), .sl (.ints .u8 [])] args) K
theorem ok0 : Proved Tryd.prog [(0, [.arr .u32 64 P.roots256]), (1, [.arr .u64 80 P.roots512])] 50 spec0 := by
  refine proved_of (D := D) (fn := Tryd.f50) (c := Tryd.f50.body.getD .skip) [.fr 5 (.ints .u8 []), .any] (by kernel_rfl) (globsPlain_of (by kernel_rfl)) (by kernel_rfl) (by kernel_rfl) (by kernel_rfl) ⟨R01_Num.ok, R14_Kind.ok, R14_chain.ok, R14_key.ok, R14_Digits.ok, R14_digest.ok, R14_Size.ok, trivial⟩ trivial ?_ ?_
  · rw [loops]; exact ⟨loop11, trivial⟩
  · intro args K r h
    unfold spec0 at h
    split at h
    · rw [body]; exact h
    · cases h
theorem ok : Proved Tryd.prog [(0, [.arr .u32 64 P.roots256]), (1, [.arr .u64 80 P.roots512])] 50 spec := proved_coer _ ok0
end R14_Candidate
end

section
open Go Go.Abs Go.Proofs
set_option maxRecDepth 100000
set_option linter.unusedVariables false
namespace R14_part
noncomputable def D : Ctx := ({ P := Tryd.prog, G := [(22, R01_Be.spec), (123, R14_H.spec)], globs := [(0, [.arr .u32 64 P.roots256]), (1, [.arr .u64 80 P.roots512])], hints := [], loops := [], inl := [] } : Ctx)
theorem body (a0 : List Int) (a1 : Int) (a2 : Int) (a3 : List Int) (K : AVal → Option R) : bodyA D Tryd.f90 [.fr 5 (.ints .u8 [])] [.sl (.ints .u8 a0), .v (.int .u32 a1), .v (.int .i64 a2), .sl (.ints .u8 a3)] K = P.R14_part a0 a1 a2 a3 (fun r0 => K (.fr 5 (.ints .u8 r0))) := by
  rw [P.R14_part_eq]
  kernel_rfl
theorem loops : loopsOf (Tryd.f90.body.getD .skip) = [] := by kernel_rfl
noncomputable def spec0 : Abs.Spec := fun args K => match args with
  | [.sl (.ints .u8 a0), .v (.int .u32 a1), .v (.int .i64 a2), .sl (.ints .u8 a3)] => P.R14_part a0 a1 a2 a3 (fun r0 => K (.fr 5 (.ints .u8 r0)))
  | _ => none
noncomputable def spec : Abs.Spec := fun args K => spec0 (coerL [.sl (.ints .u8 []), .any, .any, .sl (.ints .u8 [])] args) K
theorem ok0 : Proved Tryd.prog [(0, [.arr .u32 64 P.roots256]), (1, [.arr .u64 80 P.roots512])] 90 spec0 := by
  refine proved_of (D := D) (fn := Tryd.f90) (c := Tryd.f90.body.getD .skip) [.fr 5 (.ints .u8 [])] (by kernel_rfl) (globsPlain_of (by kernel_rfl)) (by kernel_rfl) (by kernel_rfl) (by kernel_rfl) ⟨R01_Be.ok, R14_H.ok, trivial⟩ trivial ?_ ?_
  · rw [loops]; exact trivial
  · intro args K r h
    unfold spec0 at h
    split at h
    · rw [body]; exact h
    · cases h
theorem ok : Proved Tryd.prog [(0, [.arr .u32 64 P.roots256]), (1, [.arr .u64 80 P.roots512])] 90 spec := proved_coer _ ok0
end R14_part
end

section
open Go Go.Abs Go.Proofs
set_option maxRecDepth 100000
set_option linter.unusedVariables false
namespace R14_wrong
noncomputable def D : Ctx := ({ P := Tryd.prog, G := [(88, R14_Kind.spec)], globs := [(0, [.arr .u32 64 P.roots256]), (1, [.arr .u64 80 P.roots512])], hints := [], loops := [], inl := [] } : Ctx)
theorem body (a0 : Int) (a1 : List Int) (a2 : List Int) (K : AVal → Option R) : bodyA D Tryd.f87 [.any] [.v (.int .i64 a0), .sl (.ints .u8 a1), .sl (.ints .u8 a2)] K = P.R14_wrong a0 a1 a2 (fun r0 => K (.v (.int .i64 r0))) := by
  rw [P.R14_wrong_eq]
  kernel_rfl
theorem loops : loopsOf (Tryd.f87.body.getD .skip) = [] := by kernel_rfl
noncomputable def spec0 : Abs.Spec := fun args K => match args with
  | [.v (.int .i64 a0), .sl (.ints .u8 a1), .sl (.ints .u8 a2)] => P.R14_wrong a0 a1 a2 (fun r0 => K (.v (.int .i64 r0)))
  | _ => none
noncomputable def spec : Abs.Spec := fun args K => spec0 (coerL [.any, .sl (.ints .u8 []), .sl (.ints .u8 [])] args) K
theorem ok0 : Proved Tryd.prog [(0, [.arr .u32 64 P.roots256]), (1, [.arr .u64 80 P.roots512])] 87 spec0 := by
  refine proved_of (D := D) (fn := Tryd.f87) (c := Tryd.f87.body.getD .skip) [.any] (by kernel_rfl) (globsPlain_of (by kernel_rfl)) (by kernel_rfl) (by kernel_rfl) (by kernel_rfl) ⟨R14_Kind.ok, trivial⟩ trivial ?_ ?_
  · rw [loops]; exact trivial
  · intro args K r h
    unfold spec0 at h
    split at h
    · rw [body]; exact h
    · cases h
theorem ok : Proved Tryd.prog [(0, [.arr .u32 64 P.roots256]), (1, [.arr .u64 80 P.roots512])] 87 spec := proved_coer _ ok0
end R14_wrong
end

section
open Go Go.Abs Go.Proofs
set_option maxRecDepth 100000
set_option linter.unusedVariables false
namespace R14_Public
def S7 (v0 : Int) (v1 : List Int) (v2 : Int) (v3 : List Int) (v11 : Int) (v15 : Int) (h0 : List (List Int)) : ASt := ⟨[(14, .own 0), (0, .v (.int .i64 v0)), (1, .sl (.ints .u8 v1)), (2, .v (.int .u32 v2)), (3, .sl (.ints .u8 v3)), (11, .v (.int .i64 v11)), (15, .v (.int .i64 v15))], [(0, some ⟨.row 24 (.rows .u8 h0), false⟩)], 1, 53⟩
def V7 : ASt → Option (Int × (List Int) × Int × (List Int) × Int × Int × (List (List Int)))
  | ⟨[(14, .own 0), (0, .v (.int .i64 v0)), (1, .sl (.ints .u8 v1)), (2, .v (.int .u32 v2)), (3, .sl (.ints .u8 v3)), (11, .v (.int .i64 v11)), (15, .v (.int .i64 v15))], [(0, some ⟨.row 24 (.rows .u8 h0), false⟩)], 1, 53⟩ => some (v0, v1, v2, v3, v11, v15, h0)
  | _ => none
theorem V7_ok (st : ASt) (x : Int × (List Int) × Int × (List Int) × Int × Int × (List (List Int))) (h : V7 st = some x) : st = S7 x.1 x.2.1 x.2.2.1 x.2.2.2.1 x.2.2.2.2.1 x.2.2.2.2.2.1 x.2.2.2.2.2.2 := by
  unfold V7 at h
  split at h
  · cases h; rfl
  · cases h
noncomputable def L7 : LSpec := fun st K => match V7 st with
  | some x => P.R14_Public_l7 x.1 x.2.1 x.2.2.1 x.2.2.2.1 x.2.2.2.2.1 x.2.2.2.2.2.1 x.2.2.2.2.2.2 (fun v0 v1 v2 v3 v11 v15 h0 => K (.exit 0) (S7 v0 v1 v2 v3 v11 v15 h0))
  | none => none
noncomputable def D : Ctx := ({ P := Tryd.prog, G := [(87, R14_wrong.spec), (88, R14_Kind.spec), (89, R14_chain.spec), (90, R14_part.spec), (91, R14_key.spec)], globs := [(0, [.arr .u32 64 P.roots256]), (1, [.arr .u64 80 P.roots512])], hints := [(7, ⟨[0, 1, 2, 3, 11, 15], [(14, 24, .rows .u8 [])], [8, 9], [], none, []⟩)], loops := [(7, L7)], inl := [] } : Ctx)
def E7 (K : AExit → ASt → Option R) : ((Int × (List Int) × Int × (List Int) × Int × Int × (List (List Int)))) → Option R := (fun x => K (.exit 0) (S7 x.1 x.2.1 x.2.2.1 x.2.2.2.1 x.2.2.2.2.1 x.2.2.2.2.2.1 x.2.2.2.2.2.2))
theorem round7 (K : AExit → ASt → Option R) (next : ASt → Option R) (x : Int × (List Int) × Int × (List Int) × Int × Int × (List (List Int))) : roundA D (loopAt Tryd.f46 7) K next (S7 x.1 x.2.1 x.2.2.1 x.2.2.2.1 x.2.2.2.2.1 x.2.2.2.2.2.1 x.2.2.2.2.2.2) = (fun (x : Int × (List Int) × Int × (List Int) × Int × Int × (List (List Int))) (next : (Int × (List Int) × Int × (List Int) × Int × Int × (List (List Int))) → Option R) (ex : ((Int × (List Int) × Int × (List Int) × Int × Int × (List (List Int)))) → Option R) => P.R14_Public_r7 x.1 x.2.1 x.2.2.1 x.2.2.2.1 x.2.2.2.2.1 x.2.2.2.2.2.1 x.2.2.2.2.2.2 (fun v0 v1 v2 v3 v11 v15 h0 => next (v0, v1, v2, v3, v11, v15, h0)) (fun v0 v1 v2 v3 v11 v15 h0 => ex ((v0, v1, v2, v3, v11, v15, h0)))) x (fun x => next (S7 x.1 x.2.1 x.2.2.1 x.2.2.2.1 x.2.2.2.2.1 x.2.2.2.2.2.1 x.2.2.2.2.2.2)) (E7 K) := by kernel_rfl
theorem lq7 (st : ASt) (K : AExit → ASt → Option R) : L7 st K = vMap (V7 st) (fun x => lp (fun (x : Int × (List Int) × Int × (List Int) × Int × Int × (List (List Int))) (next : (Int × (List Int) × Int × (List Int) × Int × Int × (List (List Int))) → Option R) (ex : ((Int × (List Int) × Int × (List Int) × Int × Int × (List (List Int)))) → Option R) => P.R14_Public_r7 x.1 x.2.1 x.2.2.1 x.2.2.2.1 x.2.2.2.2.1 x.2.2.2.2.2.1 x.2.2.2.2.2.2 (fun v0 v1 v2 v3 v11 v15 h0 => next (v0, v1, v2, v3, v11, v15, h0)) (fun v0 v1 v2 v3 v11 v15 h0 => ex ((v0, v1, v2, v3, v11, v15, h0)))) x (E7 K)) := by
  unfold L7
  cases V7 st with
  | none => rfl
  | some x => simp only [P.R14_Public_l7_eq]; rfl
theorem loop7 : LoopOk D (loopAt Tryd.f46 7) := loopOk_lp (X := Int × (List Int) × Int × (List Int) × Int × Int × (List (List Int))) (Y := (Int × (List Int) × Int × (List Int) × Int × Int × (List (List Int)))) (fun x => S7 x.1 x.2.1 x.2.2.1 x.2.2.2.1 x.2.2.2.2.1 x.2.2.2.2.2.1 x.2.2.2.2.2.2) V7_ok (stp := (fun (x : Int × (List Int) × Int × (List Int) × Int × Int × (List (List Int))) (next : (Int × (List Int) × Int × (List Int) × Int × Int × (List (List Int))) → Option R) (ex : ((Int × (List Int) × Int × (List Int) × Int × Int × (List (List Int)))) → Option R) => P.R14_Public_r7 x.1 x.2.1 x.2.2.1 x.2.2.2.1 x.2.2.2.2.1 x.2.2.2.2.2.1 x.2.2.2.2.2.2 (fun v0 v1 v2 v3 v11 v15 h0 => next (v0, v1, v2, v3, v11, v15, h0)) (fun v0 v1 v2 v3 v11 v15 h0 => ex ((v0, v1, v2, v3, v11, v15, h0))))) (enc := E7) (L := L7) (by kernel_rfl) lq7 round7
theorem body (a0 : Int) (a1 : List Int) (a2 : Int) (a3 : List Int) (K : AVal → Option R) : bodyA D Tryd.f46 [.fr 5 (.ints .u8 []), .any] [.v (.int .i64 a0), .sl (.ints .u8 a1), .v (.int .u32 a2), .sl (.ints .u8 a3)] K = P.R14_Public a0 a1 a2 a3 (fun r0 r1 => K (.tuple [.fr 5 (.ints .u8 r0), .v (.int .i64 r1)])) := by
  rw [P.R14_Public_eq]
  kernel_rfl
theorem loops : loopsOf (Tryd.f46.body.getD .skip) = [loopAt Tryd.f46 7] := by kernel_rfl
noncomputable def spec0 : Abs.Spec := fun args K => match args with
  | [.v (.int .i64 a0), .sl (.ints .u8 a1), .v (.int .u32 a2), .sl (.ints .u8 a3)] => P.R14_Public a0 a1 a2 a3 (fun r0 r1 => K (.tuple [.fr 5 (.ints .u8 r0), .v (.int .i64 r1)]))
  | _ => none
noncomputable def spec : Abs.Spec := fun args K => spec0 (coerL [.any, .sl (.ints .u8 []), .any, .sl (.ints .u8 [])] args) K
theorem ok0 : Proved Tryd.prog [(0, [.arr .u32 64 P.roots256]), (1, [.arr .u64 80 P.roots512])] 46 spec0 := by
  refine proved_of (D := D) (fn := Tryd.f46) (c := Tryd.f46.body.getD .skip) [.fr 5 (.ints .u8 []), .any] (by kernel_rfl) (globsPlain_of (by kernel_rfl)) (by kernel_rfl) (by kernel_rfl) (by kernel_rfl) ⟨R14_wrong.ok, R14_Kind.ok, R14_chain.ok, R14_part.ok, R14_key.ok, trivial⟩ trivial ?_ ?_
  · rw [loops]; exact ⟨loop7, trivial⟩
  · intro args K r h
    unfold spec0 at h
    split at h
    · rw [body]; exact h
    · cases h
theorem ok : Proved Tryd.prog [(0, [.arr .u32 64 P.roots256]), (1, [.arr .u64 80 P.roots512])] 46 spec := proved_coer _ ok0
end R14_Public
end

section
open Go Go.Abs Go.Proofs
set_option maxRecDepth 100000
set_option linter.unusedVariables false
namespace R14_Sign
def S9 (v1 : List Int) (v2 : Int) (v3 : List Int) (v20 : Int) (h40 : List (List Int)) (h2 : List Int) : ASt := ⟨[(19, .own 40), (1, .sl (.ints .u8 v1)), (2, .v (.int .u32 v2)), (3, .sl (.ints .u8 v3)), (17, .own 2), (20, .v (.int .i64 v20))], [(40, some ⟨.row 24 (.rows .u8 h40), false⟩), (2, some ⟨.row 71 (.ints .u32 h2), false⟩)], 41, 77⟩
def V9 : ASt → Option ((List Int) × Int × (List Int) × Int × (List (List Int)) × (List Int))
  | ⟨[(19, .own 40), (1, .sl (.ints .u8 v1)), (2, .v (.int .u32 v2)), (3, .sl (.ints .u8 v3)), (17, .own 2), (20, .v (.int .i64 v20))], [(40, some ⟨.row 24 (.rows .u8 h40), false⟩), (2, some ⟨.row 71 (.ints .u32 h2), false⟩)], 41, 77⟩ => some (v1, v2, v3, v20, h40, h2)
  | _ => none
theorem V9_ok (st : ASt) (x : (List Int) × Int × (List Int) × Int × (List (List Int)) × (List Int)) (h : V9 st = some x) : st = S9 x.1 x.2.1 x.2.2.1 x.2.2.2.1 x.2.2.2.2.1 x.2.2.2.2.2 := by
  unfold V9 at h
  split at h
  · cases h; rfl
  · cases h
noncomputable def L9 : LSpec := fun st K => match V9 st with
  | some x => P.R14_Sign_l9 x.1 x.2.1 x.2.2.1 x.2.2.2.1 x.2.2.2.2.1 x.2.2.2.2.2 (fun v1 v2 v3 v20 h40 h2 => K (.exit 0) (S9 v1 v2 v3 v20 h40 h2))
  | none => none
noncomputable def D : Ctx := ({ P := Tryd.prog, G := [(22, R01_Be.spec), (65, R01_Join.spec), (87, R14_wrong.spec), (88, R14_Kind.spec), (89, R14_chain.spec), (90, R14_part.spec), (93, R14_Digits.spec), (94, R14_digest.spec)], globs := [(0, [.arr .u32 64 P.roots256]), (1, [.arr .u64 80 P.roots512])], hints := [(9, ⟨[1, 2, 3, 17, 20], [(19, 24, .rows .u8 [])], [10, 11], [], some (40, [2]), []⟩)], loops := [(9, L9)], inl := [] } : Ctx)
def E9 (K : AExit → ASt → Option R) : (((List Int) × Int × (List Int) × Int × (List (List Int)) × (List Int))) → Option R := (fun x => K (.exit 0) (S9 x.1 x.2.1 x.2.2.1 x.2.2.2.1 x.2.2.2.2.1 x.2.2.2.2.2))
theorem round9 (K : AExit → ASt → Option R) (next : ASt → Option R) (x : (List Int) × Int × (List Int) × Int × (List (List Int)) × (List Int)) : roundA D (loopAt Tryd.f48 9) K next (S9 x.1 x.2.1 x.2.2.1 x.2.2.2.1 x.2.2.2.2.1 x.2.2.2.2.2) = (fun (x : (List Int) × Int × (List Int) × Int × (List (List Int)) × (List Int)) (next : ((List Int) × Int × (List Int) × Int × (List (List Int)) × (List Int)) → Option R) (ex : (((List Int) × Int × (List Int) × Int × (List (List Int)) × (List Int))) → Option R) => P.R14_Sign_r9 x.1 x.2.1 x.2.2.1 x.2.2.2.1 x.2.2.2.2.1 x.2.2.2.2.2 (fun v1 v2 v3 v20 h40 h2 => next (v1, v2, v3, v20, h40, h2)) (fun v1 v2 v3 v20 h40 h2 => ex ((v1, v2, v3, v20, h40, h2)))) x (fun x => next (S9 x.1 x.2.1 x.2.2.1 x.2.2.2.1 x.2.2.2.2.1 x.2.2.2.2.2)) (E9 K) := by kernel_rfl
theorem lq9 (st : ASt) (K : AExit → ASt → Option R) : L9 st K = vMap (V9 st) (fun x => lp (fun (x : (List Int) × Int × (List Int) × Int × (List (List Int)) × (List Int)) (next : ((List Int) × Int × (List Int) × Int × (List (List Int)) × (List Int)) → Option R) (ex : (((List Int) × Int × (List Int) × Int × (List (List Int)) × (List Int))) → Option R) => P.R14_Sign_r9 x.1 x.2.1 x.2.2.1 x.2.2.2.1 x.2.2.2.2.1 x.2.2.2.2.2 (fun v1 v2 v3 v20 h40 h2 => next (v1, v2, v3, v20, h40, h2)) (fun v1 v2 v3 v20 h40 h2 => ex ((v1, v2, v3, v20, h40, h2)))) x (E9 K)) := by
  unfold L9
  cases V9 st with
  | none => rfl
  | some x => simp only [P.R14_Sign_l9_eq]; rfl
theorem loop9 : LoopOk D (loopAt Tryd.f48 9) := loopOk_lp (X := (List Int) × Int × (List Int) × Int × (List (List Int)) × (List Int)) (Y := ((List Int) × Int × (List Int) × Int × (List (List Int)) × (List Int))) (fun x => S9 x.1 x.2.1 x.2.2.1 x.2.2.2.1 x.2.2.2.2.1 x.2.2.2.2.2) V9_ok (stp := (fun (x : (List Int) × Int × (List Int) × Int × (List (List Int)) × (List Int)) (next : ((List Int) × Int × (List Int) × Int × (List (List Int)) × (List Int)) → Option R) (ex : (((List Int) × Int × (List Int) × Int × (List (List Int)) × (List Int))) → Option R) => P.R14_Sign_r9 x.1 x.2.1 x.2.2.1 x.2.2.2.1 x.2.2.2.2.1 x.2.2.2.2.2 (fun v1 v2 v3 v20 h40 h2 => next (v1, v2, v3, v20, h40, h2)) (fun v1 v2 v3 v20 h40 h2 => ex ((v1, v2, v3, v20, h40, h2))))) (enc := E9) (L := L9) (by kernel_rfl) lq9 round9
theorem body (a0 : Int) (a1 : List Int) (a2 : Int) (a3 : List Int) (a4 : List Int) (K : AVal → Option R) : bodyA D Tryd.f48 [.fr 5 (.ints .u8 []), .any] [.v (.int .i64 a0), .sl (.ints .u8 a1), .v (.int .u32 a2), .sl (.ints .u8 a3), .sl (.ints .u8 a4)] K = P.R14_Sign a0 a1 a2 a3 a4 (fun r0 r1 => K (.tuple [.fr 5 (.ints .u8 r0), .v (.int .i64 r1)])) := by
  rw [P.R14_Sign_eq]
  kernel_rfl
theorem loops : loopsOf (Tryd.f48.body.getD .skip) = [loopAt Tryd.f48 9] := by kernel_rfl
noncomputable def spec0 : Abs.Spec := fun args K => match args with
  | [.v (.int .i64 a0), .sl (.ints .u8 a1), .v (.int .u32 a2), .sl (.ints .u8 a3), .sl (.ints .u8 a4)] => P.R14_Sign a0 a1 a2 a3 a4 (fun r0 r1 => K (.tuple [.fr 5 (.ints .u8 r0), .v (.int .i64 r1)]))
  | _ => none
noncomputable def spec : Abs.Spec := fun args K => spec0 (coerL [.any, .sl (.ints .u8 []), .any, .sl (.ints .u8 []), .sl (.ints .u8 [])] args) K
theorem ok0 : Proved Tryd.prog [(0, [.arr .u32 64 P.roots256]), (1, [.arr .u64 80 P.roots512])] 48 spec0 := by
  refine proved_of (D := D) (fn := Tryd.f48) (c := Tryd.f48.body.getD .skip) [.fr 5 (.ints .u8 []), .any] (by kernel_rfl) (globsPlain_of (by kernel_rfl)) (by kernel_rfl) (by kernel_rfl) (by kernel_rfl) ⟨R01_Be.ok, R01_Join.ok, R14_wrong.ok, R14_Kind.ok, R14_chain.ok, R14_part.ok, R14_Digits.ok, R14_digest.ok, trivial⟩ trivial ?_ ?_
  · rw [loops]; exact ⟨loop9, trivial⟩
  · intro args K r h
    unfold spec0 at h
    split at h
    · rw [body]; exact h
    · cases h
theorem ok : Proved Tryd.prog [(0, [.arr .u32 64 P.roots256]), (1, [.arr .u64 80 P.roots512])] 48 spec := proved_coer _ ok0
end R14_Sign
end

section
open Go Go.Abs Go.Proofs
set_option maxRecDepth 100000
set_option linter.unusedVariables false
namespace bits_Num
def S3 (v3 : Int) (v6 : List Int) (v7 : Int) (v8 : Int) : ASt := ⟨[(3, .v (.int .u64 v3)), (6, .sl (.ints .u8 v6)), (7, .v (.int .i64 v7)), (8, .v (.int .i64 v8))], [], 0, 19⟩
def V3 : ASt → Option (Int × (List Int) × Int × Int)
  | ⟨[(3, .v (.int .u64 v3)), (6, .sl (.ints .u8 v6)), (7, .v (.int .i64 v7)), (8, .v (.int .i64 v8))], [], 0, 19⟩ => some (v3, v6, v7, v8)
  | _ => none
theorem V3_ok (st : ASt) (x : Int × (List Int) × Int × Int) (h : V3 st = some x) : st = S3 x.1 x.2.1 x.2.2.1 x.2.2.2 := by
  unfold V3 at h
  split at h
  · cases h; rfl
  · cases h
noncomputable def L3 : LSpec := fun st K => match V3 st with
  | some x => P.bits_Num_l3 x.1 x.2.1 x.2.2.1 x.2.2.2 (fun v3 v6 v7 v8 => K (.exit 0) (S3 v3 v6 v7 v8))
  | none => none
noncomputable def D : Ctx := ({ P := Tryd.prog, G := [], globs := [(0, [.arr .u32 64 P.roots256]), (1, [.arr .u64 80 P.roots512])], hints := [(3, ⟨[3, 6, 7, 8], [], [2], [], none, []⟩)], loops := [(3, L3)], inl := [] } : Ctx)
def E3 (K : AExit → ASt → Option R) : ((Int × (List Int) × Int × Int)) → Option R := (fun x => K (.exit 0) (S3 x.1 x.2.1 x.2.2.1 x.2.2.2))
theorem round3 (K : AExit → ASt → Option R) (next : ASt → Option R) (x : Int × (List Int) × Int × Int) : roundA D (loopAt Tryd.f75 3) K next (S3 x.1 x.2.1 x.2.2.1 x.2.2.2) = (fun (x : Int × (List Int) × Int × Int) (next : (Int × (List Int) × Int × Int) → Option R) (ex : ((Int × (List Int) × Int × Int)) → Option R) => P.bits_Num_r3 x.1 x.2.1 x.2.2.1 x.2.2.2 (fun v3 v6 v7 v8 => next (v3, v6, v7, v8)) (fun v3 v6 v7 v8 => ex ((v3, v6, v7, v8)))) x (fun x => next (S3 x.1 x.2.1 x.2.2.1 x.2.2.2)) (E3 K) := by kernel_rfl
theorem lq3 (st : ASt) (K : AExit → ASt → Option R) : L3 st K = vMap (V3 st) (fun x => lp (fun (x : Int × (List Int) × Int × Int) (next : (Int × (List Int) × Int × Int) → Option R) (ex : ((Int × (List Int) × Int × Int)) → Option R) => P.bits_Num_r3 x.1 x.2.1 x.2.2.1 x.2.2.2 (fun v3 v6 v7 v8 => next (v3, v6, v7, v8)) (fun v3 v6 v7 v8 => ex ((v3, v6, v7, v8)))) x (E3 K)) := by
  unfold L3
  cases V3 st with
  | none => rfl
  | some x => simp only [P.bits_Num_l3_eq]; rfl
theorem loop3 : LoopOk D (loopAt Tryd.f75 3) := loopOk_lp (X := Int × (List Int) × Int × Int) (Y := (Int × (List Int) × Int × Int)) (fun x => S3 x.1 x.2.1 x.2.2.1 x.2.2.2) V3_ok (stp := (fun (x : Int × (List Int) × Int × Int) (next : (Int × (List Int) × Int × Int) → Option R) (ex : ((Int × (List Int) × Int × Int)) → Option R) => P.bits_Num_r3 x.1 x.2.1 x.2.2.1 x.2.2.2 (fun v3 v6 v7 v8 => next (v3, v6, v7, v8)) (fun v3 v6 v7 v8 => ex ((v3, v6, v7, v8))))) (enc := E3) (L := L3) (by kernel_rfl) lq3 round3
theorem body (a0 : List Int) (K : AVal → Option R) : bodyA D Tryd.f75 [.any] [.sl (.ints .u8 a0)] K = P.bits_Num a0 (fun r0 => K (.v (.int .u64 r0))) := by
  rw [P.bits_Num_eq]
  kernel_rfl
theorem loops : loopsOf (Tryd.f75.body.getD .skip) = [loopAt Tryd.f75 3] := by kernel_rfl
noncomputable def spec0 : Abs.Spec := fun args K => match args with
  | [.sl (.ints .u8 a0)] => P.bits_Num a0 (fun r0 => K (.v (.int .u64 r0)))
  | _ => none
noncomputable def spec : Abs.Spec := fun args K => spec0 (coerL [.sl (.ints .u8 [])] args) K
theorem ok0 : Proved Tryd.prog [(0, [.arr .u32 64 P.roots256]), (1, [.arr .u64 80 P.roots512])] 75 spec0 := by
  refine proved_of (D := D) (fn := Tryd.f75) (c := Tryd.f75.body.getD .skip) [.any] (by kernel_rfl) (globsPlain_of (by kernel_rfl)) (by kernel_rfl) (by kernel_rfl) (by kernel_rfl) trivial trivial ?_ ?_
  · rw [loops]; exact ⟨loop3, trivial⟩
  · intro args K r h
    unfold spec0 at h
    split at h
    · rw [body]; exact h
    · cases h
theorem ok : Proved Tryd.prog [(0, [.arr .u32 64 P.roots256]), (1, [.arr .u64 80 P.roots512])] 75 spec := proved_coer _ ok0
end bits_Num
end

section
open Go Go.Abs Go.Proofs
set_option maxRecDepth 100000
set_option linter.unusedVariables false
namespace lmots_began
noncomputable def D : Ctx := ({ P := Tryd.prog, G := [(97, lmots_known.spec)], globs := [(0, [.arr .u32 64 P.roots256]), (1, [.arr .u64 80 P.roots512])], hints := [], loops := [], inl := [] } : Ctx)
theorem body (a0 : Int) (a1 : List Int) (a2 : Int) (K : AVal → Option R) : bodyA D Tryd.f95 [.agg [.any, .sl (.ints .u8 []), .any, .any, .any, .any], .any] [.v (.int .i64 a0), .sl (.ints .u8 a1), .v (.int .u32 a2)] K = P.lmots_began a0 a1 a2 (fun r0_w r0_id r0_q r0_kind_digits r0_kind_shift r0_kind_code r1 => K (.tuple [.agg [.v (.int .i64 r0_w), .sl (.ints .u8 r0_id), .v (.int .u32 r0_q), .v (.int .i64 r0_kind_digits), .v (.int .i64 r0_kind_shift), .v (.int .i64 r0_kind_code)], .v (.int .i64 r1)])) := by
  rw [P.lmots_began_eq]
  kernel_rfl
theorem loops : loopsOf (Tryd.f95.body.getD .skip) = [] := by kernel_rfl
noncomputable def spec0 : Abs.Spec := fun args K => match args with
  | [.v (.int .i64 a0), .sl (.ints .u8 a1), .v (.int .u32 a2)] => P.lmots_began a0 a1 a2 (fun r0_w r0_id r0_q r0_kind_digits r0_kind_shift r0_kind_code r1 => K (.tuple [.agg [.v (.int .i64 r0_w), .sl (.ints .u8 r0_id), .v (.int .u32 r0_q), .v (.int .i64 r0_kind_digits), .v (.int .i64 r0_kind_shift), .v (.int .i64 r0_kind_code)], .v (.int .i64 r1)]))
  | _ => none
noncomputable def spec : Abs.Spec := fun args K => spec0 (coerL [.any, .sl (.ints .u8 []), .any] args) K
theorem ok0 : Proved Tryd.prog [(0, [.arr .u32 64 P.roots256]), (1, [.arr .u64 80 P.roots512])] 95 spec0 := by
  refine proved_of (D := D) (fn := Tryd.f95) (c := Tryd.f95.body.getD .skip) [.agg [.any, .sl (.ints .u8 []), .any, .any, .any, .any], .any] (by kernel_rfl) (globsPlain_of (by kernel_rfl)) (by kernel_rfl) (by kernel_rfl) (by kernel_rfl) ⟨lmots_known.ok, trivial⟩ trivial ?_ ?_
  · rw [loops]; exact trivial
  · intro args K r h
    unfold spec0 at h
    split at h
    · rw [body]; exact h
    · cases h
theorem ok : Proved Tryd.prog [(0, [.arr .u32 64 P.roots256]), (1, [.arr .u64 80 P.roots512])] 95 spec := proved_coer _ ok0
end lmots_began
end

section
open Go Go.Abs Go.Proofs
set_option maxRecDepth 100000
set_option linter.unusedVariables false
namespace slices_Grow_byte
noncomputable def D : Ctx := ({ P := Tryd.prog, G := [], globs := [(0, [.arr .u32 64 P.roots256]), (1, [.arr .u64 80 P.roots512])], hints := [], loops := [], inl := [] } : Ctx)
theorem body (a1 : Int) (K : AVal → Option R) : bodyW D Tryd.f109 5 (.ints .u8 []) [.v (.slice none 0 0), .v (.int .i64 a1)] K = P.slices_Grow_byte a1 (fun r0 => K (.fr 5 (.ints .u8 r0))) := by
  rw [P.slices_Grow_byte_eq]
  kernel_rfl
theorem loops : loopsOf (Tryd.f109.body.getD .skip) = [] := by kernel_rfl
noncomputable def spec0 : Abs.Spec := fun args K => match args with
  | [.v (.slice none 0 0), .v (.int .i64 a1)] => P.slices_Grow_byte a1 (fun r0 => K (.fr 5 (.ints .u8 r0)))
  | _ => none
noncomputable def spec : Abs.Spec := spec0
theorem ok0 : Proved Tryd.prog [(0, [.arr .u32 64 P.roots256]), (1, [.arr .u64 80 P.roots512])] 109 spec0 := by
  refine provedW_of (D := D) (fn := Tryd.f109) (c := Tryd.f109.body.getD .skip) 5 (.ints .u8 []) (by kernel_rfl) (globsPlain_of (by kernel_rfl)) (by kernel_rfl) (by kernel_rfl) (by kernel_rfl) trivial trivial ?_ ?_
  · rw [loops]; exact trivial
  · intro args K r h
    unfold spec0 at h
    split at h
    · rw [body]; exact h
    · cases h
theorem ok : Proved Tryd.prog [(0, [.arr .u32 64 P.roots256]), (1, [.arr .u64 80 P.roots512])] 109 spec := ok0
end slices_Grow_byte
end

section
open Go Go.Abs Go.Proofs
set_option maxRecDepth 100000
set_option linter.unusedVariables false
namespace slices_Concat_byte
def S3 (v0 : List (List Int)) (v3 : Int) (v9 : List (List Int)) (v10 : Int) (v11 : Int) : ASt := ⟨[(0, .sl (.rows .u8 v0)), (3, .v (.int .i64 v3)), (9, .sl (.rows .u8 v9)), (10, .v (.int .i64 v10)), (11, .v (.int .i64 v11))], [], 0, 36⟩
def V3 : ASt → Option ((List (List Int)) × Int × (List (List Int)) × Int × Int)
  | ⟨[(0, .sl (.rows .u8 v0)), (3, .v (.int .i64 v3)), (9, .sl (.rows .u8 v9)), (10, .v (.int .i64 v10)), (11, .v (.int .i64 v11))], [], 0, 36⟩ => some (v0, v3, v9, v10, v11)
  | _ => none
theorem V3_ok (st : ASt) (x : (List (List Int)) × Int × (List (List Int)) × Int × Int) (h : V3 st = some x) : st = S3 x.1 x.2.1 x.2.2.1 x.2.2.2.1 x.2.2.2.2 := by
  unfold V3 at h
  split at h
  · cases h; rfl
  · cases h
def S11 (v25 : List (List Int)) (v26 : Int) (v27 : Int) (h1 : List Int) : ASt := ⟨[(6, .own 1), (25, .sl (.rows .u8 v25)), (26, .v (.int .i64 v26)), (27, .v (.int .i64 v27))], [(1, some ⟨.row 5 (.ints .u8 h1), false⟩), (0, none)], 2, 36⟩
def V11 : ASt → Option ((List (List Int)) × Int × Int × (List Int))
  | ⟨[(6, .own 1), (25, .sl (.rows .u8 v25)), (26, .v (.int .i64 v26)), (27, .v (.int .i64 v27))], [(1, some ⟨.row 5 (.ints .u8 h1), false⟩), (0, none)], 2, 36⟩ => some (v25, v26, v27, h1)
  | _ => none
theorem V11_ok (st : ASt) (x : (List (List Int)) × Int × Int × (List Int)) (h : V11 st = some x) : st = S11 x.1 x.2.1 x.2.2.1 x.2.2.2 := by
  unfold V11 at h
  split at h
  · cases h; rfl
  · cases h
noncomputable def L3 : LSpec := fun st K => match V3 st with
  | some x => P.slices_Concat_byte_l3 x.1 x.2.1 x.2.2.1 x.2.2.2.1 x.2.2.2.2 (fun v0 v3 v9 v10 v11 => K (.exit 0) (S3 v0 v3 v9 v10 v11))
  | none => none
noncomputable def L11 : LSpec := fun st K => match V11 st with
  | some x => P.slices_Concat_byte_l11 x.1 x.2.1 x.2.2.1 x.2.2.2 (fun v25 v26 v27 h1 => K (.exit 2) (S11 v25 v26 v27 h1))
  | none => none
noncomputable def D : Ctx := ({ P := Tryd.prog, G := [(109, slices_Grow_byte.spec)], globs := [(0, [.arr .u32 64 P.roots256]), (1, [.arr .u64 80 P.roots512])], hints := [(11, ⟨[25, 26, 27], [(6, 5, .ints .u8 [])], [2], [], none, []⟩), (3, ⟨[0, 3, 9, 10, 11], [], [2], [], none, []⟩)], loops := [(3, L3), (11, L11)], inl := [] } : Ctx)
def E3 (K : AExit → ASt → Option R) : (((List (List Int)) × Int × (List (List Int)) × Int × Int)) → Option R := (fun x => K (.exit 0) (S3 x.1 x.2.1 x.2.2.1 x.2.2.2.1 x.2.2.2.2))
theorem round3 (K : AExit → ASt → Option R) (next : ASt → Option R) (x : (List (List Int)) × Int × (List (List Int)) × Int × Int) : roundA D (loopAt Tryd.f59 3) K next (S3 x.1 x.2.1 x.2.2.1 x.2.2.2.1 x.2.2.2.2) = (fun (x : (List (List Int)) × Int × (List (List Int)) × Int × Int) (next : ((List (List Int)) × Int × (List (List Int)) × Int × Int) → Option R) (ex : (((List (List Int)) × Int × (List (List Int)) × Int × Int)) → Option R) => P.slices_Concat_byte_r3 x.1 x.2.1 x.2.2.1 x.2.2.2.1 x.2.2.2.2 (fun v0 v3 v9 v10 v11 => next (v0, v3, v9, v10, v11)) (fun v0 v3 v9 v10 v11 => ex ((v0, v3, v9, v10, v11)))) x (fun x => next (S3 x.1 x.2.1 x.2.2.1 x.2.2.2.1 x.2.2.2.2)) (E3 K) := by kernel_rfl
theorem lq3 (st : ASt) (K : AExit → ASt → Option R) : L3 st K = vMap (V3 st) (fun x => lp (fun (x : (List (List Int)) × Int × (List (List Int)) × Int × Int) (next : ((List (List Int)) × Int × (List (List Int)) × Int × Int) → Option R) (ex : (((List (List Int)) × Int × (List (List Int)) × Int × Int)) → Option R) => P.slices_Concat_byte_r3 x.1 x.2.1 x.2.2.1 x.2.2.2.1 x.2.2.2.2 (fun v0 v3 v9 v10 v11 => next (v0, v3, v9, v10, v11)) (fun v0 v3 v9 v10 v11 => ex ((v0, v3, v9, v10, v11)))) x (E3 K)) := by
  unfold L3
  cases V3 st with
  | none => rfl
  | some x => simp only [P.slices_Concat_byte_l3_eq]; rfl
theorem loop3 : LoopOk D (loopAt Tryd.f59 3) := loopOk_lp (X := (List (List Int)) × Int × (List (List Int)) × Int × Int) (Y := ((List (List Int)) × Int × (List (List Int)) × Int × Int)) (fun x => S3 x.1 x.2.1 x.2.2.1 x.2.2.2.1 x.2.2.2.2) V3_ok (stp := (fun (x : (List (List Int)) × Int × (List (List Int)) × Int × Int) (next : ((List (List Int)) × Int × (List (List Int)) × Int × Int) → Option R) (ex : (((List (List Int)) × Int × (List (List Int)) × Int × Int)) → Option R) => P.slices_Concat_byte_r3 x.1 x.2.1 x.2.2.1 x.2.2.2.1 x.2.2.2.2 (fun v0 v3 v9 v10 v11 => next (v0, v3, v9, v10, v11)) (fun v0 v3 v9 v10 v11 => ex ((v0, v3, v9, v10, v11))))) (enc := E3) (L := L3) (by kernel_rfl) lq3 round3
def E11 (K : AExit → ASt → Option R) : (((List (List Int)) × Int × Int × (List Int))) → Option R := (fun x => K (.exit 2) (S11 x.1 x.2.1 x.2.2.1 x.2.2.2))
theorem round11 (K : AExit → ASt → Option R) (next : ASt → Option R) (x : (List (List Int)) × Int × Int × (List Int)) : roundA D (loopAt Tryd.f59 11) K next (S11 x.1 x.2.1 x.2.2.1 x.2.2.2) = (fun (x : (List (List Int)) × Int × Int × (List Int)) (next : ((List (List Int)) × Int × Int × (List Int)) → Option R) (ex : (((List (List Int)) × Int × Int × (List Int))) → Option R) => P.slices_Concat_byte_r11 x.1 x.2.1 x.2.2.1 x.2.2.2 (fun v25 v26 v27 h1 => next (v25, v26, v27, h1)) (fun v25 v26 v27 h1 => ex ((v25, v26, v27, h1)))) x (fun x => next (S11 x.1 x.2.1 x.2.2.1 x.2.2.2)) (E11 K) := by kernel_rfl
theorem lq11 (st : ASt) (K : AExit → ASt → Option R) : L11 st K = vMap (V11 st) (fun x => lp (fun (x : (List (List Int)) × Int × Int × (List Int)) (next : ((List (List Int)) × Int × Int × (List Int)) → Option R) (ex : (((List (List Int)) × Int × Int × (List Int))) → Option R) => P.slices_Concat_byte_r11 x.1 x.2.1 x.2.2.1 x.2.2.2 (fun v25 v26 v27 h1 => next (v25, v26, v27, h1)) (fun v25 v26 v27 h1 => ex ((v25, v26, v27, h1)))) x (E11 K)) := by
  unfold L11
  cases V11 st with
  | none => rfl
  | some x => simp only [P.slices_Concat_byte_l11_eq]; rfl
theorem loop11 : LoopOk D (loopAt Tryd.f59 11) := loopOk_lp (X := (List (List Int)) × Int × Int × (List Int)) (Y := ((List (List Int)) × Int × Int × (List Int))) (fun x => S11 x.1 x.2.1 x.2.2.1 x.2.2.2) V11_ok (stp := (fun (x : (List (List Int)) × Int × Int × (List Int)) (next : ((List (List Int)) × Int × Int × (List Int)) → Option R) (ex : (((List (List Int)) × Int × Int × (List Int))) → Option R) => P.slices_Concat_byte_r11 x.1 x.2.1 x.2.2.1 x.2.2.2 (fun v25 v26 v27 h1 => next (v25, v26, v27, h1)) (fun v25 v26 v27 h1 => ex ((v25, v26, v27, h1))))) (enc := E11) (L := L11) (by kernel_rfl) lq11 round11
theorem body (a0 : List (List Int)) (K : AVal → Option R) : bodyA D Tryd.f59 [.fr 5 (.ints .u8 [])] [.sl (.rows .u8 a0)] K = P.slices_Concat_byte a0 (fun r0 => K (.fr 5 (.ints .u8 r0))) := by
  rw [P.slices_Concat_byte_eq]
  kernel_rfl
theorem loops : loopsOf (Tryd.f59.body.getD .skip) = [loopAt Tryd.f59 3, loopAt Tryd.f59 11] := by kernel_rfl
noncomputable def spec0 : Abs.Spec := fun args K => match args with
  | [.sl (.rows .u8 a0)] => P.slices_Concat_byte a0 (fun r0 => K (.fr 5 (.ints .u8 r0)))
  | _ => none
noncomputable def spec : Abs.Spec := fun args K => spec0 (coerL [.sl (.rows .u8 [])] args) K
theorem ok0 : Proved Tryd.prog [(0, [.arr .u32 64 P.roots256]), (1, [.arr .u64 80 P.roots512])] 59 spec0 := by
  refine proved_of (D := D) (fn := Tryd.f59) (c := Tryd.f59.body.getD .skip) [.fr 5 (.ints .u8 [])] (by kernel_rfl) (globsPlain_of (by kernel_rfl)) (by kernel_rfl) (by kernel_rfl) (by kernel_rfl) ⟨slices_Grow_byte.ok, trivial⟩ trivial ?_ ?_
  · rw [loops]; exact ⟨loop3, loop11, trivial⟩
  · intro args K r h
    unfold spec0 at h
    split at h
    · rw [body]; exact h
    · cases h
theorem ok : Proved Tryd.prog [(0, [.arr .u32 64 P.roots256]), (1, [.arr .u64 80 P.roots512])] 59 spec := proved_coer _ ok0
end slices_Concat_byte
end

section
open Go Go.Abs Go.Proofs
set_option maxRecDepth 100000
set_option linter.unusedVariables false
namespace bits_Join
noncomputable def D : Ctx := ({ P := Tryd.prog, G := [(59, slices_Concat_byte.spec)], globs := [(0, [.arr .u32 64 P.roots256]), (1, [.arr .u64 80 P.roots512])], hints := [], loops := [], inl := [] } : Ctx)
theorem body (a0 : List (List Int)) (K : AVal → Option R) : bodyA D Tryd.f76 [.fr 5 (.ints .u8 [])] [.sl (.rows .u8 a0)] K = P.bits_Join a0 (fun r0 => K (.fr 5 (.ints .u8 r0))) := by
  rw [P.bits_Join_eq]
  kernel_rfl
theorem loops : loopsOf (Tryd.f76.body.getD .skip) = [] := by kernel_rfl
noncomputable def spec0 : Abs.Spec := fun args K => match args with
  | [.sl (.rows .u8 a0)] => P.bits_Join a0 (fun r0 => K (.fr 5 (.ints .u8 r0)))
  | _ => none
noncomputable def spec : Abs.Spec := fun args K => spec0 (coerL [.sl (.rows .u8 [])] args) K
theorem ok0 : Proved Tryd.prog [(0, [.arr .u32 64 P.roots256]), (1, [.arr .u64 80 P.roots512])] 76 spec0 := by
  refine proved_of (D := D) (fn := Tryd.f76) (c := Tryd.f76.body.getD .skip) [.fr 5 (.ints .u8 [])] (by kernel_rfl) (globsPlain_of (by kernel_rfl)) (by kernel_rfl) (by kernel_rfl) (by kernel_rfl) ⟨slices_Concat_byte.ok, trivial⟩ trivial ?_ ?_
  · rw [loops]; exact trivial
  · intro args K r h
    unfold spec0 at h
    split at h
    · rw [body]; exact h
    · cases h
theorem ok : Proved Tryd.prog [(0, [.arr .u32 64 P.roots256]), (1, [.arr .u64 80 P.roots512])] 76 spec := proved_coer _ ok0
end bits_Join
end

section
open Go Go.Abs Go.Proofs
set_option maxRecDepth 100000
set_option linter.unusedVariables false
namespace sha_root512
noncomputable def D : Ctx := ({ P := Tryd.prog, G := [], globs := [(0, [.arr .u32 64 P.roots256]), (1, [.arr .u64 80 P.roots512])], hints := [], loops := [], inl := [] } : Ctx)
theorem body (a0 : Int) (K : AVal → Option R) : bodyA D Tryd.f113 [.any] [.v (.int .i64 a0)] K = P.sha_root512 a0 (fun r0 => K (.v (.int .u64 r0))) := by
  rw [P.sha_root512_eq]
  kernel_rfl
theorem loops : loopsOf (Tryd.f113.body.getD .skip) = [] := by kernel_rfl
noncomputable def spec0 : Abs.Spec := fun args K => match args with
  | [.v (.int .i64 a0)] => P.sha_root512 a0 (fun r0 => K (.v (.int .u64 r0)))
  | _ => none
noncomputable def spec : Abs.Spec := spec0
theorem ok0 : Proved Tryd.prog [(0, [.arr .u32 64 P.roots256]), (1, [.arr .u64 80 P.roots512])] 113 spec0 := by
  refine proved_of (D := D) (fn := Tryd.f113) (c := Tryd.f113.body.getD .skip) [.any] (by kernel_rfl) (globsPlain_of (by kernel_rfl)) (by kernel_rfl) (by kernel_rfl) (by kernel_rfl) trivial trivial ?_ ?_
  · rw [loops]; exact trivial
  · intro args K r h
    unfold spec0 at h
    split at h
    · rw [body]; exact h
    · cases h
theorem ok : Proved Tryd.prog [(0, [.arr .u32 64 P.roots256]), (1, [.arr .u64 80 P.roots512])] 113 spec := ok0
end sha_root512
end

section
open Go Go.Abs Go.Proofs
set_option maxRecDepth 100000
set_option linter.unusedVariables false
namespace sha_great
noncomputable def D : Ctx := ({ P := Tryd.prog, G := [(113, sha_root512.spec)], globs := [(0, [.arr .u32 64 P.roots256]), (1, [.arr .u64 80 P.roots512])], hints := [], loops := [], inl := [] } : Ctx)
theorem body  (K : AVal → Option R) : bodyA D Tryd.f63 [.any] [] K = P.sha_great (fun r0_bits r0_rounds r0_turns_0 r0_turns_1 r0_turns_2 r0_turns_3 => K (.agg [.v (.int .i64 r0_bits), .v (.int .i64 r0_rounds), .arr .i64 3 r0_turns_0, .arr .i64 3 r0_turns_1, .arr .i64 3 r0_turns_2, .arr .i64 3 r0_turns_3, .fn (.func 113) [] []])) := by
  rw [P.sha_great_eq]
  kernel_rfl
theorem loops : loopsOf (Tryd.f63.body.getD .skip) = [] := by kernel_rfl
noncomputable def spec0 : Abs.Spec := fun args K => match args with
  | [] => P.sha_great (fun r0_bits r0_rounds r0_turns_0 r0_turns_1 r0_turns_2 r0_turns_3 => K (.agg [.v (.int .i64 r0_bits), .v (.int .i64 r0_rounds), .arr .i64 3 r0_turns_0, .arr .i64 3 r0_turns_1, .arr .i64 3 r0_turns_2, .arr .i64 3 r0_turns_3, .fn (.func 113) [] []]))
  | _ => none
noncomputable def spec : Abs.Spec := spec0
theorem ok0 : Proved Tryd.prog [(0, [.arr .u32 64 P.roots256]), (1, [.arr .u64 80 P.roots512])] 63 spec0 := by
  refine proved_of (D := D) (fn := Tryd.f63) (c := Tryd.f63.body.getD .skip) [.any] (by kernel_rfl) (globsPlain_of (by kernel_rfl)) (by kernel_rfl) (by kernel_rfl) (by kernel_rfl) ⟨sha_root512.ok, trivial⟩ trivial ?_ ?_
  · rw [loops]; exact trivial
  · intro args K r h
    unfold spec0 at h
    split at h
    · rw [body]; exact h
    · cases h
theorem ok : Proved Tryd.prog [(0, [.arr .u32 64 P.roots256]), (1, [.arr .u64 80 P.roots512])] 63 spec := ok0
end sha_great
end

section
open Go Go.Abs Go.Proofs
set_option maxRecDepth 100000
set_option linter.unusedVariables false
namespace sha_root256
noncomputable def D : Ctx := ({ P := Tryd.prog, G := [], globs := [(0, [.arr .u32 64 P.roots256]), (1, [.arr .u64 80 P.roots512])], hints := [], loops := [], inl := [] } : Ctx)
theorem body (a0 : Int) (K : AVal → Option R) : bodyA D Tryd.f111 [.any] [.v (.int .i64 a0)] K = P.sha_root256 a0 (fun r0 => K (.v (.int .u32 r0))) := by
  rw [P.sha_root256_eq]
  kernel_rfl
theorem loops : loopsOf (Tryd.f111.body.getD .skip) = [] := by kernel_rfl
noncomputable def spec0 : Abs.Spec := fun args K => match args with
  | [.v (.int .i64 a0)] => P.sha_root256 a0 (fun r0 => K (.v (.int .u32 r0)))
  | _ => none
noncomputable def spec : Abs.Spec := spec0
theorem ok0 : Proved Tryd.prog [(0, [.arr .u32 64 P.roots256]), (1, [.arr .u64 80 P.roots512])] 111 spec0 := by
  refine proved_of (D := D) (fn := Tryd.f111) (c := Tryd.f111.body.getD .skip) [.any] (by kernel_rfl) (globsPlain_of (by kernel_rfl)) (by kernel_rfl) (by kernel_rfl) (by kernel_rfl) trivial trivial ?_ ?_
  · rw [loops]; exact trivial
  · intro args K r h
    unfold spec0 at h
    split at h
    · rw [body]; exact h
    · cases h
theorem ok : Proved Tryd.prog [(0, [.arr .u32 64 P.roots256]), (1, [.arr .u64 80 P.roots512])] 111 spec := ok0
end sha_root256
end

section
open Go Go.Abs Go.Proofs
set_option maxRecDepth 100000
set_option linter.unusedVariables false
namespace sha_small
noncomputable def D : Ctx := ({ P := Tryd.prog, G := [(111, sha_root256.spec)], globs := [(0, [.arr .u32 64 P.roots256]), (1, [.arr .u64 80 P.roots512])], hints := [], loops := [], inl := [] } : Ctx)
theorem body  (K : AVal → Option R) : bodyA D Tryd.f61 [.any] [] K = P.sha_small (fun r0_bits r0_rounds r0_turns_0 r0_turns_1 r0_turns_2 r0_turns_3 => K (.agg [.v (.int .i64 r0_bits), .v (.int .i64 r0_rounds), .arr .i64 3 r0_turns_0, .arr .i64 3 r0_turns_1, .arr .i64 3 r0_turns_2, .arr .i64 3 r0_turns_3, .fn (.func 111) [] []])) := by
  rw [P.sha_small_eq]
  kernel_rfl
theorem loops : loopsOf (Tryd.f61.body.getD .skip) = [] := by kernel_rfl
noncomputable def spec0 : Abs.Spec := fun args K => match args with
  | [] => P.sha_small (fun r0_bits r0_rounds r0_turns_0 r0_turns_1 r0_turns_2 r0_turns_3 => K (.agg [.v (.int .i64 r0_bits), .v (.int .i64 r0_rounds), .arr .i64 3 r0_turns_0, .arr .i64 3 r0_turns_1, .arr .i64 3 r0_turns_2, .arr .i64 3 r0_turns_3, .fn (.func 111) [] []]))
  | _ => none
noncomputable def spec : Abs.Spec := spec0
theorem ok0 : Proved Tryd.prog [(0, [.arr .u32 64 P.roots256]), (1, [.arr .u64 80 P.roots512])] 61 spec0 := by
  refine proved_of (D := D) (fn := Tryd.f61) (c := Tryd.f61.body.getD .skip) [.any] (by kernel_rfl) (globsPlain_of (by kernel_rfl)) (by kernel_rfl) (by kernel_rfl) (by kernel_rfl) ⟨sha_root256.ok, trivial⟩ trivial ?_ ?_
  · rw [loops]; exact trivial
  · intro args K r h
    unfold spec0 at h
    split at h
    · rw [body]; exact h
    · cases h
theorem ok : Proved Tryd.prog [(0, [.arr .u32 64 P.roots256]), (1, [.arr .u64 80 P.roots512])] 61 spec := ok0
end sha_small
end

section
open Go Go.Abs Go.Proofs
set_option maxRecDepth 100000
set_option linter.unusedVariables false
namespace sha_engine_uint32_rotated
noncomputable def D : Ctx := ({ P := Tryd.prog, G := [(111, sha_root256.spec)], globs := [(0, [.arr .u32 64 P.roots256]), (1, [.arr .u64 80 P.roots512])], hints := [], loops := [], inl := [] } : Ctx)
theorem body (a0_bits : Int) (a0_rounds : Int) (a0_turns_0 : List Int) (a0_turns_1 : List Int) (a0_turns_2 : List Int) (a0_turns_3 : List Int) (a1 : Int) (a2 : Int) (K : AVal → Option R) : bodyA D Tryd.f138 [.any] [.agg [.v (.int .i64 a0_bits), .v (.int .i64 a0_rounds), .arr .i64 3 a0_turns_0, .arr .i64 3 a0_turns_1, .arr .i64 3 a0_turns_2, .arr .i64 3 a0_turns_3, .fn (.func 111) [] []], .v (.int .u32 a1), .v (.int .i64 a2)] K = P.sha_engine_uint32_rotated a0_bits a0_rounds a0_turns_0 a0_turns_1 a0_turns_2 a0_turns_3 a1 a2 (fun r0 => K (.v (.int .u32 r0))) := by
  rw [P.sha_engine_uint32_rotated_eq]
  kernel_rfl
theorem loops : loopsOf (Tryd.f138.body.getD .skip) = [] := by kernel_rfl
noncomputable def spec0 : Abs.Spec := fun args K => match args with
  | [.agg [.v (.int .i64 a0_bits), .v (.int .i64 a0_rounds), .arr .i64 3 a0_turns_0, .arr .i64 3 a0_turns_1, .arr .i64 3 a0_turns_2, .arr .i64 3 a0_turns_3, .fn (.func 111) [] []], .v (.int .u32 a1), .v (.int .i64 a2)] => P.sha_engine_uint32_rotated a0_bits a0_rounds a0_turns_0 a0_turns_1 a0_turns_2 a0_turns_3 a1 a2 (fun r0 => K (.v (.int .u32 r0)))
  | _ => none
noncomputable def spec : Abs.Spec := spec0
theorem ok0 : Proved Tryd.prog [(0, [.arr .u32 64 P.roots256]), (1, [.arr .u64 80 P.roots512])] 138 spec0 := by
  refine proved_of (D := D) (fn := Tryd.f138) (c := Tryd.f138.body.getD .skip) [.any] (by kernel_rfl) (globsPlain_of (by kernel_rfl)) (by kernel_rfl) (by kernel_rfl) (by kernel_rfl) ⟨sha_root256.ok, trivial⟩ trivial ?_ ?_
  · rw [loops]; exact trivial
  · intro args K r h
    unfold spec0 at h
    split at h
    · rw [body]; exact h
    · cases h
theorem ok : Proved Tryd.prog [(0, [.arr .u32 64 P.roots256]), (1, [.arr .u64 80 P.roots512])] 138 spec := ok0
end sha_engine_uint32_rotated
end

section
open Go Go.Abs Go.Proofs
set_option maxRecDepth 100000
set_option linter.unusedVariables false
namespace sha_engine_uint32_high
noncomputable def D : Ctx := ({ P := Tryd.prog, G := [(111, sha_root256.spec), (138, sha_engine_uint32_rotated.spec)], globs := [(0, [.arr .u32 64 P.roots256]), (1, [.arr .u64 80 P.roots512])], hints := [], loops := [], inl := [] } : Ctx)
theorem body (a0_bits : Int) (a0_rounds : Int) (a0_turns_0 : List Int) (a0_turns_1 : List Int) (a0_turns_2 : List Int) (a0_turns_3 : List Int) (a1 : Int) (a2 : Int) (K : AVal → Option R) : bodyA D Tryd.f130 [.any] [.agg [.v (.int .i64 a0_bits), .v (.int .i64 a0_rounds), .arr .i64 3 a0_turns_0, .arr .i64 3 a0_turns_1, .arr .i64 3 a0_turns_2, .arr .i64 3 a0_turns_3, .fn (.func 111) [] []], .v (.int .u32 a1), .v (.int .i64 a2)] K = P.sha_engine_uint32_high a0_bits a0_rounds a0_turns_0 a0_turns_1 a0_turns_2 a0_turns_3 a1 a2 (fun r0 => K (.v (.int .u32 r0))) := by
  rw [P.sha_engine_uint32_high_eq]
  kernel_rfl
theorem loops : loopsOf (Tryd.f130.body.getD .skip) = [] := by kernel_rfl
noncomputable def spec0 : Abs.Spec := fun args K => match args with
  | [.agg [.v (.int .i64 a0_bits), .v (.int .i64 a0_rounds), .arr .i64 3 a0_turns_0, .arr .i64 3 a0_turns_1, .arr .i64 3 a0_turns_2, .arr .i64 3 a0_turns_3, .fn (.func 111) [] []], .v (.int .u32 a1), .v (.int .i64 a2)] => P.sha_engine_uint32_high a0_bits a0_rounds a0_turns_0 a0_turns_1 a0_turns_2 a0_turns_3 a1 a2 (fun r0 => K (.v (.int .u32 r0)))
  | _ => none
noncomputable def spec : Abs.Spec := spec0
theorem ok0 : Proved Tryd.prog [(0, [.arr .u32 64 P.roots256]), (1, [.arr .u64 80 P.roots512])] 130 spec0 := by
  refine proved_of (D := D) (fn := Tryd.f130) (c := Tryd.f130.body.getD .skip) [.any] (by kernel_rfl) (globsPlain_of (by kernel_rfl)) (by kernel_rfl) (by kernel_rfl) (by kernel_rfl) ⟨sha_root256.ok, sha_engine_uint32_rotated.ok, trivial⟩ trivial ?_ ?_
  · rw [loops]; exact trivial
  · intro args K r h
    unfold spec0 at h
    split at h
    · rw [body]; exact h
    · cases h
theorem ok : Proved Tryd.prog [(0, [.arr .u32 64 P.roots256]), (1, [.arr .u64 80 P.roots512])] 130 spec := ok0
end sha_engine_uint32_high
end

section
open Go Go.Abs Go.Proofs
set_option maxRecDepth 100000
set_option linter.unusedVariables false
namespace sha_engine_uint32_low
noncomputable def D : Ctx := ({ P := Tryd.prog, G := [(111, sha_root256.spec), (138, sha_engine_uint32_rotated.spec)], globs := [(0, [.arr .u32 64 P.roots256]), (1, [.arr .u64 80 P.roots512])], hints := [], loops := [], inl := [] } : Ctx)
theorem body (a0_bits : Int) (a0_rounds : Int) (a0_turns_0 : List Int) (a0_turns_1 : List Int) (a0_turns_2 : List Int) (a0_turns_3 : List Int) (a1 : Int) (a2 : Int) (K : AVal → Option R) : bodyA D Tryd.f131 [.any] [.agg [.v (.int .i64 a0_bits), .v (.int .i64 a0_rounds), .arr .i64 3 a0_turns_0, .arr .i64 3 a0_turns_1, .arr .i64 3 a0_turns_2, .arr .i64 3 a0_turns_3, .fn (.func 111) [] []], .v (.int .u32 a1), .v (.int .i64 a2)] K = P.sha_engine_uint32_low a0_bits a0_rounds a0_turns_0 a0_turns_1 a0_turns_2 a0_turns_3 a1 a2 (fun r0 => K (.v (.int .u32 r0))) := by
  rw [P.sha_engine_uint32_low_eq]
  kernel_rfl
theorem loops : loopsOf (Tryd.f131.body.getD .skip) = [] := by kernel_rfl
noncomputable def spec0 : Abs.Spec := fun args K => match args with
  | [.agg [.v (.int .i64 a0_bits), .v (.int .i64 a0_rounds), .arr .i64 3 a0_turns_0, .arr .i64 3 a0_turns_1, .arr .i64 3 a0_turns_2, .arr .i64 3 a0_turns_3, .fn (.func 111) [] []], .v (.int .u32 a1), .v (.int .i64 a2)] => P.sha_engine_uint32_low a0_bits a0_rounds a0_turns_0 a0_turns_1 a0_turns_2 a0_turns_3 a1 a2 (fun r0 => K (.v (.int .u32 r0)))
  | _ => none
noncomputable def spec : Abs.Spec := spec0
theorem ok0 : Proved Tryd.prog [(0, [.arr .u32 64 P.roots256]), (1, [.arr .u64 80 P.roots512])] 131 spec0 := by
  refine proved_of (D := D) (fn := Tryd.f131) (c := Tryd.f131.body.getD .skip) [.any] (by kernel_rfl) (globsPlain_of (by kernel_rfl)) (by kernel_rfl) (by kernel_rfl) (by kernel_rfl) ⟨sha_root256.ok, sha_engine_uint32_rotated.ok, trivial⟩ trivial ?_ ?_
  · rw [loops]; exact trivial
  · intro args K r h
    unfold spec0 at h
    split at h
    · rw [body]; exact h
    · cases h
theorem ok : Proved Tryd.prog [(0, [.arr .u32 64 P.roots256]), (1, [.arr .u64 80 P.roots512])] 131 spec := ok0
end sha_engine_uint32_low
end

section
open Go Go.Abs Go.Proofs
set_option maxRecDepth 100000
set_option linter.unusedVariables false
namespace sha_engine_uint32_block
def S4 (v2 : List Int) (v8 : Int) (v19 : Int) (h0_0 : Int) (h0_1 : Int) (h0_2 : List Int) (h0_3 : List Int) (h0_4 : List Int) (h0_5 : List Int) (h1_0 : List Int) (h2_0 : List Int) (h3_0 : List Int) : ASt := ⟨[(2, .sl (.ints .u8 v2)), (3, .ptr 0 0), (4, .ptr 1 0), (6, .ptr 2 0), (7, .ptr 3 0), (8, .v (.int .i64 v8)), (19, .v (.int .i64 v19))], [(0, some ⟨.box 100 [.v (.int .i64 h0_0), .v (.int .i64 h0_1), .arr .i64 3 h0_2, .arr .i64 3 h0_3, .arr .i64 3 h0_4, .arr .i64 3 h0_5, .fn (.func 111) [] []], false⟩), (1, some ⟨.box 158 [.arr .u32 8 h1_0], false⟩), (2, some ⟨.box 158 [.arr .u32 8 h2_0], false⟩), (3, some ⟨.box 175 [.arr .u32 16 h3_0], false⟩)], 4, 143⟩
def V4 : ASt → Option ((List Int) × Int × Int × Int × Int × (List Int) × (List Int) × (List Int) × (List Int) × (List Int) × (List Int) × (List Int))
  | ⟨[(2, .sl (.ints .u8 v2)), (3, .ptr 0 0), (4, .ptr 1 0), (6, .ptr 2 0), (7, .ptr 3 0), (8, .v (.int .i64 v8)), (19, .v (.int .i64 v19))], [(0, some ⟨.box 100 [.v (.int .i64 h0_0), .v (.int .i64 h0_1), .arr .i64 3 h0_2, .arr .i64 3 h0_3, .arr .i64 3 h0_4, .arr .i64 3 h0_5, .fn (.func 111) [] []], false⟩), (1, some ⟨.box 158 [.arr .u32 8 h1_0], false⟩), (2, some ⟨.box 158 [.arr .u32 8 h2_0], false⟩), (3, some ⟨.box 175 [.arr .u32 16 h3_0], false⟩)], 4, 143⟩ => some (v2, v8, v19, h0_0, h0_1, h0_2, h0_3, h0_4, h0_5, h1_0, h2_0, h3_0)
  | _ => none
theorem V4_ok (st : ASt) (x : (List Int) × Int × Int × Int × Int × (List Int) × (List Int) × (List Int) × (List Int) × (List Int) × (List Int) × (List Int)) (h : V4 st = some x) : st = S4 x.1 x.2.1 x.2.2.1 x.2.2.2.1 x.2.2.2.2.1 x.2.2.2.2.2.1 x.2.2.2.2.2.2.1 x.2.2.2.2.2.2.2.1 x.2.2.2.2.2.2.2.2.1 x.2.2.2.2.2.2.2.2.2.1 x.2.2.2.2.2.2.2.2.2.2.1 x.2.2.2.2.2.2.2.2.2.2.2 := by
  unfold V4 at h
  split at h
  · cases h; rfl
  · cases h
def S10 (v38 : Int) (v39 : Int) (h3_0 : List Int) (h2_0 : List Int) (h1_0 : List Int) (h0_0 : Int) (h0_1 : Int) (h0_2 : List Int) (h0_3 : List Int) (h0_4 : List Int) (h0_5 : List Int) (h4_0 : List Int) : ASt := ⟨[(3, .ptr 0 0), (4, .ptr 1 0), (6, .ptr 2 0), (7, .ptr 3 0), (10, .ptr 4 0), (38, .v (.int .i64 v38)), (39, .v (.int .i64 v39))], [(3, some ⟨.box 175 [.arr .u32 16 h3_0], false⟩), (2, some ⟨.box 158 [.arr .u32 8 h2_0], false⟩), (1, some ⟨.box 158 [.arr .u32 8 h1_0], false⟩), (0, some ⟨.box 100 [.v (.int .i64 h0_0), .v (.int .i64 h0_1), .arr .i64 3 h0_2, .arr .i64 3 h0_3, .arr .i64 3 h0_4, .arr .i64 3 h0_5, .fn (.func 111) [] []], false⟩), (4, some ⟨.box 158 [.arr .u32 8 h4_0], false⟩)], 5, 143⟩
def V10 : ASt → Option (Int × Int × (List Int) × (List Int) × (List Int) × Int × Int × (List Int) × (List Int) × (List Int) × (List Int) × (List Int))
  | ⟨[(3, .ptr 0 0), (4, .ptr 1 0), (6, .ptr 2 0), (7, .ptr 3 0), (10, .ptr 4 0), (38, .v (.int .i64 v38)), (39, .v (.int .i64 v39))], [(3, some ⟨.box 175 [.arr .u32 16 h3_0], false⟩), (2, some ⟨.box 158 [.arr .u32 8 h2_0], false⟩), (1, some ⟨.box 158 [.arr .u32 8 h1_0], false⟩), (0, some ⟨.box 100 [.v (.int .i64 h0_0), .v (.int .i64 h0_1), .arr .i64 3 h0_2, .arr .i64 3 h0_3, .arr .i64 3 h0_4, .arr .i64 3 h0_5, .fn (.func 111) [] []], false⟩), (4, some ⟨.box 158 [.arr .u32 8 h4_0], false⟩)], 5, 143⟩ => some (v38, v39, h3_0, h2_0, h1_0, h0_0, h0_1, h0_2, h0_3, h0_4, h0_5, h4_0)
  | _ => none
theorem V10_ok (st : ASt) (x : Int × Int × (List Int) × (List Int) × (List Int) × Int × Int × (List Int) × (List Int) × (List Int) × (List Int) × (List Int)) (h : V10 st = some x) : st = S10 x.1 x.2.1 x.2.2.1 x.2.2.2.1 x.2.2.2.2.1 x.2.2.2.2.2.1 x.2.2.2.2.2.2.1 x.2.2.2.2.2.2.2.1 x.2.2.2.2.2.2.2.2.1 x.2.2.2.2.2.2.2.2.2.1 x.2.2.2.2.2.2.2.2.2.2.1 x.2.2.2.2.2.2.2.2.2.2.2 := by
  unfold V10 at h
  split at h
  · cases h; rfl
  · cases h
def S21 (v130 : Int) (h1_0 : List Int) (h2_0 : List Int) (h4_0 : List Int) : ASt := ⟨[(4, .ptr 1 0), (6, .ptr 2 0), (10, .ptr 4 0), (130, .v (.int .i64 v130))], [(1, some ⟨.box 158 [.arr .u32 8 h1_0], false⟩), (2, some ⟨.box 158 [.arr .u32 8 h2_0], false⟩), (4, some ⟨.box 158 [.arr .u32 8 h4_0], false⟩)], 120, 143⟩
def V21 : ASt → Option (Int × (List Int) × (List Int) × (List Int))
  | ⟨[(4, .ptr 1 0), (6, .ptr 2 0), (10, .ptr 4 0), (130, .v (.int .i64 v130))], [(1, some ⟨.box 158 [.arr .u32 8 h1_0], false⟩), (2, some ⟨.box 158 [.arr .u32 8 h2_0], false⟩), (4, some ⟨.box 158 [.arr .u32 8 h4_0], false⟩)], 120, 143⟩ => some (v130, h1_0, h2_0, h4_0)
  | _ => none
theorem V21_ok (st : ASt) (x : Int × (List Int) × (List Int) × (List Int)) (h : V21 st = some x) : st = S21 x.1 x.2.1 x.2.2.1 x.2.2.2 := by
  unfold V21 at h
  split at h
  · cases h; rfl
  · cases h
noncomputable def L4 : LSpec := fun st K => match V4 st with
  | some x => P.sha_engine_uint32_block_l4 x.1 x.2.1 x.2.2.1 x.2.2.2.1 x.2.2.2.2.1 x.2.2.2.2.2.1 x.2.2.2.2.2.2.1 x.2.2.2.2.2.2.2.1 x.2.2.2.2.2.2.2.2.1 x.2.2.2.2.2.2.2.2.2.1 x.2.2.2.2.2.2.2.2.2.2.1 x.2.2.2.2.2.2.2.2.2.2.2 (fun v2 v8 v19 h0_0 h0_1 h0_2 h0_3 h0_4 h0_5 h1_0 h2_0 h3_0 => K (.exit 0) (S4 v2 v8 v19 h0_0 h0_1 h0_2 h0_3 h0_4 h0_5 h1_0 h2_0 h3_0))
  | none => none
noncomputable def L10 : LSpec := fun st K => match V10 st with
  | some x => P.sha_engine_uint32_block_l10 x.1 x.2.1 x.2.2.1 x.2.2.2.1 x.2.2.2.2.1 x.2.2.2.2.2.1 x.2.2.2.2.2.2.1 x.2.2.2.2.2.2.2.1 x.2.2.2.2.2.2.2.2.1 x.2.2.2.2.2.2.2.2.2.1 x.2.2.2.2.2.2.2.2.2.2.1 x.2.2.2.2.2.2.2.2.2.2.2 (fun v38 v39 h3_0 h2_0 h1_0 h0_0 h0_1 h0_2 h0_3 h0_4 h0_5 h4_0 => K (.exit 2) (S10 v38 v39 h3_0 h2_0 h1_0 h0_0 h0_1 h0_2 h0_3 h0_4 h0_5 h4_0))
  | none => none
noncomputable def L21 : LSpec := fun st K => match V21 st with
  | some x => P.sha_engine_uint32_block_l21 x.1 x.2.1 x.2.2.1 x.2.2.2 (fun v130 h1_0 h2_0 h4_0 => K (.exit 4) (S21 v130 h1_0 h2_0 h4_0))
  | none => none
noncomputable def D : Ctx := ({ P := Tryd.prog, G := [(75, bits_Num.spec), (111, sha_root256.spec), (130, sha_engine_uint32_high.spec), (131, sha_engine_uint32_low.spec)], globs := [(0, [.arr .u32 64 P.roots256]), (1, [.arr .u64 80 P.roots512])], hints := [(21, ⟨[4, 6, 10, 130], [], [6], [], some (120, [1, 2, 4]), []⟩), (10, ⟨[3, 4, 6, 7, 10, 38, 39], [], [6], [], none, []⟩), (4, ⟨[2, 3, 4, 6, 7, 8, 19], [], [6], [], none, []⟩)], loops := [(4, L4), (10, L10), (21, L21)], inl := [] } : Ctx)
def E4 (K : AExit → ASt → Option R) : (((List Int) × Int × Int × Int × Int × (List Int) × (List Int) × (List Int) × (List Int) × (List Int) × (List Int) × (List Int))) → Option R := (fun x => K (.exit 0) (S4 x.1 x.2.1 x.2.2.1 x.2.2.2.1 x.2.2.2.2.1 x.2.2.2.2.2.1 x.2.2.2.2.2.2.1 x.2.2.2.2.2.2.2.1 x.2.2.2.2.2.2.2.2.1 x.2.2.2.2.2.2.2.2.2.1 x.2.2.2.2.2.2.2.2.2.2.1 x.2.2.2.2.2.2.2.2.2.2.2))
theorem round4 (K : AExit → ASt → Option R) (next : ASt → Option R) (x : (List Int) × Int × Int × Int × Int × (List Int) × (List Int) × (List Int) × (List Int) × (List Int) × (List Int) × (List Int)) : roundA D (loopAt Tryd.f110 4) K next (S4 x.1 x.2.1 x.2.2.1 x.2.2.2.1 x.2.2.2.2.1 x.2.2.2.2.2.1 x.2.2.2.2.2.2.1 x.2.2.2.2.2.2.2.1 x.2.2.2.2.2.2.2.2.1 x.2.2.2.2.2.2.2.2.2.1 x.2.2.2.2.2.2.2.2.2.2.1 x.2.2.2.2.2.2.2.2.2.2.2) = (fun (x : (List Int) × Int × Int × Int × Int × (List Int) × (List Int) × (List Int) × (List Int) × (List Int) × (List Int) × (List Int)) (next : ((List Int) × Int × Int × Int × Int × (List Int) × (List Int) × (List Int) × (List Int) × (List Int) × (List Int) × (List Int)) → Option R) (ex : (((List Int) × Int × Int × Int × Int × (List Int) × (List Int) × (List Int) × (List Int) × (List Int) × (List Int) × (List Int))) → Option R) => P.sha_engine_uint32_block_r4 x.1 x.2.1 x.2.2.1 x.2.2.2.1 x.2.2.2.2.1 x.2.2.2.2.2.1 x.2.2.2.2.2.2.1 x.2.2.2.2.2.2.2.1 x.2.2.2.2.2.2.2.2.1 x.2.2.2.2.2.2.2.2.2.1 x.2.2.2.2.2.2.2.2.2.2.1 x.2.2.2.2.2.2.2.2.2.2.2 (fun v2 v8 v19 h0_0 h0_1 h0_2 h0_3 h0_4 h0_5 h1_0 h2_0 h3_0 => next (v2, v8, v19, h0_0, h0_1, h0_2, h0_3, h0_4, h0_5, h1_0, h2_0, h3_0)) (fun v2 v8 v19 h0_0 h0_1 h0_2 h0_3 h0_4 h0_5 h1_0 h2_0 h3_0 => ex ((v2, v8, v19, h0_0, h0_1, h0_2, h0_3, h0_4, h0_5, h1_0, h2_0, h3_0)))) x (fun x => next (S4 x.1 x.2.1 x.2.2.1 x.2.2.2.1 x.2.2.2.2.1 x.2.2.2.2.2.1 x.2.2.2.2.2.2.1 x.2.2.2.2.2.2.2.1 x.2.2.2.2.2.2.2.2.1 x.2.2.2.2.2.2.2.2.2.1 x.2.2.2.2.2.2.2.2.2.2.1 x.2.2.2.2.2.2.2.2.2.2.2)) (E4 K) := by kernel_rfl
theorem lq4 (st : ASt) (K : AExit → ASt → Option R) : L4 st K = vMap (V4 st) (fun x => lp (fun (x : (List Int) × Int × Int × Int × Int × (List Int) × (List Int) × (List Int) × (List Int) × (List Int) × (List Int) × (List Int)) (next : ((List Int) × Int × Int × Int × Int × (List Int) × (List Int) × (List Int) × (List Int) × (List Int) × (List Int) × (List Int)) → Option R) (ex : (((List Int) × Int × Int × Int × Int × (List Int) × (List Int) × (List Int) × (List Int) × (List Int) × (List Int) × (List Int))) → Option R) => P.sha_engine_uint32_block_r4 x.1 x.2.1 x.2.2.1 x.2.2.2.1 x.2.2.2.2.1 x.2.2.2.2.2.1 x.2.2.2.2.2.2.1 x.2.2.2.2.2.2.2.1 x.2.2.2.2.2.2.2.2.1 x.2.2.2.2.2.2.2.2.2.1 x.2.2.2.2.2.2.2.2.2.2.1 x.2.2.2.2.2.2.2.2.2.2.2 (fun v2 v8 v19 h0_0 h0_1 h0_2 h0_3 h0_4 h0_5 h1_0 h2_0 h3_0 => next (v2, v8, v19, h0_0, h0_1, h0_2, h0_3, h0_4, h0_5, h1_0, h2_0, h3_0)) (fun v2 v8 v19 h0_0 h0_1 h0_2 h0_3 h0_4 h0_5 h1_0 h2_0 h3_0 => ex ((v2, v8, v19, h0_0, h0_1, h0_2, h0_3, h0_4, h0_5, h1_0, h2_0, h3_0)))) x (E4 K)) := by
  unfold L4
  cases V4 st with
  | none => rfl
  | some x => simp only [P.sha_engine_uint32_block_l4_eq]; rfl
theorem loop4 : LoopOk D (loopAt Tryd.f110 4) := loopOk_lp (X := (List Int) × Int × Int × Int × Int × (List Int) × (List Int) × (List Int) × (List Int) × (List Int) × (List Int) × (List Int)) (Y := ((List Int) × Int × Int × Int × Int × (List Int) × (List Int) × (List Int) × (List Int) × (List Int) × (List Int) × (List Int))) (fun x => S4 x.1 x.2.1 x.2.2.1 x.2.2.2.1 x.2.2.2.2.1 x.2.2.2.2.2.1 x.2.2.2.2.2.2.1 x.2.2.2.2.2.2.2.1 x.2.2.2.2.2.2.2.2.1 x.2.2.2.2.2.2.2.2.2.1 x.2.2.2.2.2.2.2.2.2.2.1 x.2.2.2.2.2.2.2.2.2.2.2) V4_ok (stp := (fun (x : (List Int) × Int × Int × Int × Int × (List Int) × (List Int) × (List Int) × (List Int) × (List Int) × (List Int) × (List Int)) (next : ((List Int) × Int × Int × Int × Int × (List Int) × (List Int) × (List Int) × (List Int) × (List Int) × (List Int) × (List Int)) → Option R) (ex : (((List Int) × Int × Int × Int × Int × (List Int) × (List Int) × (List Int) × (List Int) × (List Int) × (List Int) × (List Int))) → Option R) => P.sha_engine_uint32_block_r4 x.1 x.2.1 x.2.2.1 x.2.2.2.1 x.2.2.2.2.1 x.2.2.2.2.2.1 x.2.2.2.2.2.2.1 x.2.2.2.2.2.2.2.1 x.2.2.2.2.2.2.2.2.1 x.2.2.2.2.2.2.2.2.2.1 x.2.2.2.2.2.2.2.2.2.2.1 x.2.2.2.2.2.2.2.2.2.2.2 (fun v2 v8 v19 h0_0 h0_1 h0_2 h0_3 h0_4 h0_5 h1_0 h2_0 h3_0 => next (v2, v8, v19, h0_0, h0_1, h0_2, h0_3, h0_4, h0_5, h1_0, h2_0, h3_0)) (fun v2 v8 v19 h0_0 h0_1 h0_2 h0_3 h0_4 h0_5 h1_0 h2_0 h3_0 => ex ((v2, v8, v19, h0_0, h0_1, h0_2, h0_3, h0_4, h0_5, h1_0, h2_0, h3_0))))) (enc := E4) (L := L4) (by kernel_rfl) lq4 round4
def E10 (K : AExit → ASt → Option R) : ((Int × Int × (List Int) × (List Int) × (List Int) × Int × Int × (List Int) × (List Int) × (List Int) × (List Int) × (List Int))) → Option R := (fun x => K (.exit 2) (S10 x.1 x.2.1 x.2.2.1 x.2.2.2.1 x.2.2.2.2.1 x.2.2.2.2.2.1 x.2.2.2.2.2.2.1 x.2.2.2.2.2.2.2.1 x.2.2.2.2.2.2.2.2.1 x.2.2.2.2.2.2.2.2.2.1 x.2.2.2.2.2.2.2.2.2.2.1 x.2.2.2.2.2.2.2.2.2.2.2))
theorem round10 (K : AExit → ASt → Option R) (next : ASt → Option R) (x : Int × Int × (List Int) × (List Int) × (List Int) × Int × Int × (List Int) × (List Int) × (List Int) × (List Int) × (List Int)) : roundA D (loopAt Tryd.f110 10) K next (S10 x.1 x.2.1 x.2.2.1 x.2.2.2.1 x.2.2.2.2.1 x.2.2.2.2.2.1 x.2.2.2.2.2.2.1 x.2.2.2.2.2.2.2.1 x.2.2.2.2.2.2.2.2.1 x.2.2.2.2.2.2.2.2.2.1 x.2.2.2.2.2.2.2.2.2.2.1 x.2.2.2.2.2.2.2.2.2.2.2) = (fun (x : Int × Int × (List Int) × (List Int) × (List Int) × Int × Int × (List Int) × (List Int) × (List Int) × (List Int) × (List Int)) (next : (Int × Int × (List Int) × (List Int) × (List Int) × Int × Int × (List Int) × (List Int) × (List Int) × (List Int) × (List Int)) → Option R) (ex : ((Int × Int × (List Int) × (List Int) × (List Int) × Int × Int × (List Int) × (List Int) × (List Int) × (List Int) × (List Int))) → Option R) => P.sha_engine_uint32_block_r10 x.1 x.2.1 x.2.2.1 x.2.2.2.1 x.2.2.2.2.1 x.2.2.2.2.2.1 x.2.2.2.2.2.2.1 x.2.2.2.2.2.2.2.1 x.2.2.2.2.2.2.2.2.1 x.2.2.2.2.2.2.2.2.2.1 x.2.2.2.2.2.2.2.2.2.2.1 x.2.2.2.2.2.2.2.2.2.2.2 (fun v38 v39 h3_0 h2_0 h1_0 h0_0 h0_1 h0_2 h0_3 h0_4 h0_5 h4_0 => next (v38, v39, h3_0, h2_0, h1_0, h0_0, h0_1, h0_2, h0_3, h0_4, h0_5, h4_0)) (fun v38 v39 h3_0 h2_0 h1_0 h0_0 h0_1 h0_2 h0_3 h0_4 h0_5 h4_0 => ex ((v38, v39, h3_0, h2_0, h1_0, h0_0, h0_1, h0_2, h0_3, h0_4, h0_5, h4_0)))) x (fun x => next (S10 x.1 x.2.1 x.2.2.1 x.2.2.2.1 x.2.2.2.2.1 x.2.2.2.2.2.1 x.2.2.2.2.2.2.1 x.2.2.2.2.2.2.2.1 x.2.2.2.2.2.2.2.2.1 x.2.2.2.2.2.2.2.2.2.1 x.2.2.2.2.2.2.2.2.2.2.1 x.2.2.2.2.2.2.2.2.2.2.2)) (E10 K) := by kernel_rfl
theorem lq10 (st : ASt) (K : AExit → ASt → Option R) : L10 st K = vMap (V10 st) (fun x => lp (fun (x : Int × Int × (List Int) × (List Int) × (List Int) × Int × Int × (List Int) × (List Int) × (List Int) × (List Int) × (List Int)) (next : (Int × Int × (List Int) × (List Int) × (List Int) × Int × Int × (List Int) × (List Int) × (List Int) × (List Int) × (List Int)) → Option R) (ex : ((Int × Int × (List Int) × (List Int) × (List Int) × Int × Int × (List Int) × (List Int) × (List Int) × (List Int) × (List Int))) → Option R) => P.sha_engine_uint32_block_r10 x.1 x.2.1 x.2.2.1 x.2.2.2.1 x.2.2.2.2.1 x.2.2.2.2.2.1 x.2.2.2.2.2.2.1 x.2.2.2.2.2.2.2.1 x.2.2.2.2.2.2.2.2.1 x.2.2.2.2.2.2.2.2.2.1 x.2.2.2.2.2.2.2.2.2.2.1 x.2.2.2.2.2.2.2.2.2.2.2 (fun v38 v39 h3_0 h2_0 h1_0 h0_0 h0_1 h0_2 h0_3 h0_4 h0_5 h4_0 => next (v38, v39, h3_0, h2_0, h1_0, h0_0, h0_1, h0_2, h0_3, h0_4, h0_5, h4_0)) (fun v38 v39 h3_0 h2_0 h1_0 h0_0 h0_1 h0_2 h0_3 h0_4 h0_5 h4_0 => ex ((v38, v39, h3_0, h2_0, h1_0, h0_0, h0_1, h0_2, h0_3, h0_4, h0_5, h4_0)))) x (E10 K)) := by
  unfold L10
  cases V10 st with
  | none => rfl
  | some x => simp only [P.sha_engine_uint32_block_l10_eq]; rfl
theorem loop10 : LoopOk D (loopAt Tryd.f110 10) := loopOk_lp (X := Int × Int × (List Int) × (List Int) × (List Int) × Int × Int × (List Int) × (List Int) × (List Int) × (List Int) × (List Int)) (Y := (Int × Int × (List Int) × (List Int) × (List Int) × Int × Int × (List Int) × (List Int) × (List Int) × (List Int) × (List Int))) (fun x => S10 x.1 x.2.1 x.2.2.1 x.2.2.2.1 x.2.2.2.2.1 x.2.2.2.2.2.1 x.2.2.2.2.2.2.1 x.2.2.2.2.2.2.2.1 x.2.2.2.2.2.2.2.2.1 x.2.2.2.2.2.2.2.2.2.1 x.2.2.2.2.2.2.2.2.2.2.1 x.2.2.2.2.2.2.2.2.2.2.2) V10_ok (stp := (fun (x : Int × Int × (List Int) × (List Int) × (List Int) × Int × Int × (List Int) × (List Int) × (List Int) × (List Int) × (List Int)) (next : (Int × Int × (List Int) × (List Int) × (List Int) × Int × Int × (List Int) × (List Int) × (List Int) × (List Int) × (List Int)) → Option R) (ex : ((Int × Int × (List Int) × (List Int) × (List Int) × Int × Int × (List Int) × (List Int) × (List Int) × (List Int) × (List Int))) → Option R) => P.sha_engine_uint32_block_r10 x.1 x.2.1 x.2.2.1 x.2.2.2.1 x.2.2.2.2.1 x.2.2.2.2.2.1 x.2.2.2.2.2.2.1 x.2.2.2.2.2.2.2.1 x.2.2.2.2.2.2.2.2.1 x.2.2.2.2.2.2.2.2.2.1 x.2.2.2.2.2.2.2.2.2.2.1 x.2.2.2.2.2.2.2.2.2.2.2 (fun v38 v39 h3_0 h2_0 h1_0 h0_0 h0_1 h0_2 h0_3 h0_4 h0_5 h4_0 => next (v38, v39, h3_0, h2_0, h1_0, h0_0, h0_1, h0_2, h0_3, h0_4, h0_5, h4_0)) (fun v38 v39 h3_0 h2_0 h1_0 h0_0 h0_1 h0_2 h0_3 h0_4 h0_5 h4_0 => ex ((v38, v39, h3_0, h2_0, h1_0, h0_0, h0_1, h0_2, h0_3, h0_4, h0_5, h4_0))))) (enc := E10) (L := L10) (by kernel_rfl) lq10 round10
def E21 (K : AExit → ASt → Option R) : ((Int × (List Int) × (List Int) × (List Int))) → Option R := (fun x => K (.exit 4) (S21 x.1 x.2.1 x.2.2.1 x.2.2.2))
theorem round21 (K : AExit → ASt → Option R) (next : ASt → Option R) (x : Int × (List Int) × (List Int) × (List Int)) : roundA D (loopAt Tryd.f110 21) K next (S21 x.1 x.2.1 x.2.2.1 x.2.2.2) = (fun (x : Int × (List Int) × (List Int) × (List Int)) (next : (Int × (List Int) × (List Int) × (List Int)) → Option R) (ex : ((Int × (List Int) × (List Int) × (List Int))) → Option R) => P.sha_engine_uint32_block_r21 x.1 x.2.1 x.2.2.1 x.2.2.2 (fun v130 h1_0 h2_0 h4_0 => next (v130, h1_0, h2_0, h4_0)) (fun v130 h1_0 h2_0 h4_0 => ex ((v130, h1_0, h2_0, h4_0)))) x (fun x => next (S21 x.1 x.2.1 x.2.2.1 x.2.2.2)) (E21 K) := by kernel_rfl
theorem lq21 (st : ASt) (K : AExit → ASt → Option R) : L21 st K = vMap (V21 st) (fun x => lp (fun (x : Int × (List Int) × (List Int) × (List Int)) (next : (Int × (List Int) × (List Int) × (List Int)) → Option R) (ex : ((Int × (List Int) × (List Int) × (List Int))) → Option R) => P.sha_engine_uint32_block_r21 x.1 x.2.1 x.2.2.1 x.2.2.2 (fun v130 h1_0 h2_0 h4_0 => next (v130, h1_0, h2_0, h4_0)) (fun v130 h1_0 h2_0 h4_0 => ex ((v130, h1_0, h2_0, h4_0)))) x (E21 K)) := by
  unfold L21
  cases V21 st with
  | none => rfl
  | some x => simp only [P.sha_engine_uint32_block_l21_eq]; rfl
theorem loop21 : LoopOk D (loopAt Tryd.f110 21) := loopOk_lp (X := Int × (List Int) × (List Int) × (List Int)) (Y := (Int × (List Int) × (List Int) × (List Int))) (fun x => S21 x.1 x.2.1 x.2.2.1 x.2.2.2) V21_ok (stp := (fun (x : Int × (List Int) × (List Int) × (List Int)) (next : (Int × (List Int) × (List Int) × (List Int)) → Option R) (ex : ((Int × (List Int) × (List Int) × (List Int))) → Option R) => P.sha_engine_uint32_block_r21 x.1 x.2.1 x.2.2.1 x.2.2.2 (fun v130 h1_0 h2_0 h4_0 => next (v130, h1_0, h2_0, h4_0)) (fun v130 h1_0 h2_0 h4_0 => ex ((v130, h1_0, h2_0, h4_0))))) (enc := E21) (L := L21) (by kernel_rfl) lq21 round21
theorem body (a0_bits : Int) (a0_rounds : Int) (a0_turns_0 : List Int) (a0_turns_1 : List Int) (a0_turns_2 : List Int) (a0_turns_3 : List Int) (a1 : List Int) (a2 : List Int) (K : AVal → Option R) : bodyA D Tryd.f110 [.any] [.agg [.v (.int .i64 a0_bits), .v (.int .i64 a0_rounds), .arr .i64 3 a0_turns_0, .arr .i64 3 a0_turns_1, .arr .i64 3 a0_turns_2, .arr .i64 3 a0_turns_3, .fn (.func 111) [] []], .arr .u32 8 a1, .sl (.ints .u8 a2)] K = P.sha_engine_uint32_block a0_bits a0_rounds a0_turns_0 a0_turns_1 a0_turns_2 a0_turns_3 a1 a2 (fun r0 => K (.arr .u32 8 r0)) := by
  rw [P.sha_engine_uint32_block_eq]
  kernel_rfl
theorem loops : loopsOf (Tryd.f110.body.getD .skip) = [loopAt Tryd.f110 4, loopAt Tryd.f110 10, loopAt Tryd.f110 21] := by kernel_rfl
noncomputable def spec0 : Abs.Spec := fun args K => match args with
  | [.agg [.v (.int .i64 a0_bits), .v (.int .i64 a0_rounds), .arr .i64 3 a0_turns_0, .arr .i64 3 a0_turns_1, .arr .i64 3 a0_turns_2, .arr .i64 3 a0_turns_3, .fn (.func 111) [] []], .arr .u32 8 a1, .sl (.ints .u8 a2)] => P.sha_engine_uint32_block a0_bits a0_rounds a0_turns_0 a0_turns_1 a0_turns_2 a0_turns_3 a1 a2 (fun r0 => K (.arr .u32 8 r0))
  | _ => none
noncomputable def spec : Abs.Spec := fun args K => spec0 (coerL [.any, .any, .sl (.ints .u8 [])] args) K
theorem ok0 : Proved Tryd.prog [(0, [.arr .u32 64 P.roots256]), (1, [.arr .u64 80 P.roots512])] 110 spec0 := by
  refine proved_of (D := D) (fn := Tryd.f110) (c := Tryd.f110.body.getD .skip) [.any] (by kernel_rfl) (globsPlain_of (by kernel_rfl)) (by kernel_rfl) (by kernel_rfl) (by kernel_rfl) ⟨bits_Num.ok, sha_root256.ok, sha_engine_uint32_high.ok, sha_engine_uint32_low.ok, trivial⟩ trivial ?_ ?_
  · rw [loops]; exact ⟨loop4, loop10, loop21, trivial⟩
  · intro args K r h
    unfold spec0 at h
    split at h
    · rw [body]; exact h
    · cases h
theorem ok : Proved Tryd.prog [(0, [.arr .u32 64 P.roots256]), (1, [.arr .u64 80 P.roots512])] 110 spec := proved_coer _ ok0
end sha_engine_uint32_block
end
