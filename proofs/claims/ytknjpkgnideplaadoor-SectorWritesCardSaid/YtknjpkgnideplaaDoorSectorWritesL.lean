/-
  SectorWrites, part L: an interpreter of my own over abstract values, the pure functions, the walks and the plain law.
-/

import Derived.Test.YtknjpkgnideplaaDoorSectorWritesH
import Derived.Test.YtknjpkgnideplaaDoorSectorWritesF
import Derived.Test.YtknjpkgnideplaaDoorSectorWritesJ
import Derived.Test.YtknjpkgnideplaaDoorProg
import Derived.Test.YtknjpkgnideplaaDoorSectorWritesG
import Derived.Test.YtknjpkgnideplaaDoorSectorWritesK
import Derived.KernelRfl

section
open Go Go.Abs Go.Proofs
set_option maxRecDepth 100000
set_option linter.unusedVariables false
namespace R07_End
def S4 (v3 : Int) (v4 : Int) (h40 : List Int) (h0_0 : Int) (h0_1 : List Int) (h0_2 : List Int) (h0_3 : Int) : ASt := ⟨[(5, .own 40), (1, .ptr 0 0), (3, .v (.int .i64 v3)), (4, .v (.int .u64 v4))], [(40, some ⟨.row 5 (.ints .u8 h40), false⟩), (0, some ⟨.box 26 [.v (.int .i64 h0_0), .arr .u64 8 h0_1, .sl (.ints .u8 h0_2), .v (.int .u64 h0_3)], false⟩)], 41, 77⟩
def V4 : ASt → Option (Int × Int × (List Int) × Int × (List Int) × (List Int) × Int)
  | ⟨[(5, .own 40), (1, .ptr 0 0), (3, .v (.int .i64 v3)), (4, .v (.int .u64 v4))], [(40, some ⟨.row 5 (.ints .u8 h40), false⟩), (0, some ⟨.box 26 [.v (.int .i64 h0_0), .arr .u64 8 h0_1, .sl (.ints .u8 h0_2), .v (.int .u64 h0_3)], false⟩)], 41, 77⟩ => some (v3, v4, h40, h0_0, h0_1, h0_2, h0_3)
  | _ => none
theorem V4_ok (st : ASt) (x : Int × Int × (List Int) × Int × (List Int) × (List Int) × Int) (h : V4 st = some x) : st = S4 x.1 x.2.1 x.2.2.1 x.2.2.2.1 x.2.2.2.2.1 x.2.2.2.2.2.1 x.2.2.2.2.2.2 := by
  unfold V4 at h
  split at h
  · cases h; rfl
  · cases h
def S8 (v3 : Int) (v4 : Int) (h80 : List Int) (h0_0 : Int) (h0_1 : List Int) (h0_2 : List Int) (h0_3 : Int) : ASt := ⟨[(5, .own 80), (1, .ptr 0 0), (3, .v (.int .i64 v3)), (4, .v (.int .u64 v4))], [(80, some ⟨.row 5 (.ints .u8 h80), false⟩), (0, some ⟨.box 26 [.v (.int .i64 h0_0), .arr .u64 8 h0_1, .sl (.ints .u8 h0_2), .v (.int .u64 h0_3)], false⟩)], 81, 77⟩
def V8 : ASt → Option (Int × Int × (List Int) × Int × (List Int) × (List Int) × Int)
  | ⟨[(5, .own 80), (1, .ptr 0 0), (3, .v (.int .i64 v3)), (4, .v (.int .u64 v4))], [(80, some ⟨.row 5 (.ints .u8 h80), false⟩), (0, some ⟨.box 26 [.v (.int .i64 h0_0), .arr .u64 8 h0_1, .sl (.ints .u8 h0_2), .v (.int .u64 h0_3)], false⟩)], 81, 77⟩ => some (v3, v4, h80, h0_0, h0_1, h0_2, h0_3)
  | _ => none
theorem V8_ok (st : ASt) (x : Int × Int × (List Int) × Int × (List Int) × (List Int) × Int) (h : V8 st = some x) : st = S8 x.1 x.2.1 x.2.2.1 x.2.2.2.1 x.2.2.2.2.1 x.2.2.2.2.2.1 x.2.2.2.2.2.2 := by
  unfold V8 at h
  split at h
  · cases h; rfl
  · cases h
def S14 (v3 : Int) (v7 : Int) (h120 : List Int) (h0_0 : Int) (h0_1 : List Int) (h0_2 : List Int) (h0_3 : Int) : ASt := ⟨[(6, .own 120), (1, .ptr 0 0), (3, .v (.int .i64 v3)), (7, .v (.int .i64 v7))], [(120, some ⟨.row 5 (.ints .u8 h120), false⟩), (0, some ⟨.box 26 [.v (.int .i64 h0_0), .arr .u64 8 h0_1, .sl (.ints .u8 h0_2), .v (.int .u64 h0_3)], false⟩)], 121, 77⟩
def V14 : ASt → Option (Int × Int × (List Int) × Int × (List Int) × (List Int) × Int)
  | ⟨[(6, .own 120), (1, .ptr 0 0), (3, .v (.int .i64 v3)), (7, .v (.int .i64 v7))], [(120, some ⟨.row 5 (.ints .u8 h120), false⟩), (0, some ⟨.box 26 [.v (.int .i64 h0_0), .arr .u64 8 h0_1, .sl (.ints .u8 h0_2), .v (.int .u64 h0_3)], false⟩)], 121, 77⟩ => some (v3, v7, h120, h0_0, h0_1, h0_2, h0_3)
  | _ => none
theorem V14_ok (st : ASt) (x : Int × Int × (List Int) × Int × (List Int) × (List Int) × Int) (h : V14 st = some x) : st = S14 x.1 x.2.1 x.2.2.1 x.2.2.2.1 x.2.2.2.2.1 x.2.2.2.2.2.1 x.2.2.2.2.2.2 := by
  unfold V14 at h
  split at h
  · cases h; rfl
  · cases h
noncomputable def L4 : LSpec := fun st K => match V4 st with
  | some x => P.R07_End_l4 x.1 x.2.1 x.2.2.1 x.2.2.2.1 x.2.2.2.2.1 x.2.2.2.2.2.1 x.2.2.2.2.2.2 (fun v3 v4 h40 h0_0 h0_1 h0_2 h0_3 => K (.exit 0) (S4 v3 v4 h40 h0_0 h0_1 h0_2 h0_3))
  | none => none
noncomputable def L8 : LSpec := fun st K => match V8 st with
  | some x => P.R07_End_l8 x.1 x.2.1 x.2.2.1 x.2.2.2.1 x.2.2.2.2.1 x.2.2.2.2.2.1 x.2.2.2.2.2.2 (fun v3 v4 h80 h0_0 h0_1 h0_2 h0_3 => K (.exit 2) (S8 v3 v4 h80 h0_0 h0_1 h0_2 h0_3))
  | none => none
noncomputable def L14 : LSpec := fun st K => match V14 st with
  | some x => P.R07_End_l14 x.1 x.2.1 x.2.2.1 x.2.2.2.1 x.2.2.2.2.1 x.2.2.2.2.2.1 x.2.2.2.2.2.2 (fun v3 v7 h120 h0_0 h0_1 h0_2 h0_3 => K (.exit 4) (S14 v3 v7 h120 h0_0 h0_1 h0_2 h0_3))
  | none => none
noncomputable def D : Ctx := ({ P := Tryd.prog, G := [(17, R07_Add.spec), (22, R01_Be.spec), (58, R07_Block.spec)], globs := [(0, [.arr .u32 64 P.roots256]), (1, [.arr .u64 80 P.roots512])], hints := [(14, ⟨[1, 3, 7], [(6, 5, .ints .u8 [])], [2], [], some (120, [0]), [0]⟩), (8, ⟨[1, 3, 4], [(5, 5, .ints .u8 [])], [2], [], some (80, [0]), [0]⟩), (4, ⟨[1, 3, 4], [(5, 5, .ints .u8 [])], [2], [], some (40, [0]), [0]⟩)], loops := [(4, L4), (8, L8), (14, L14)], inl := [] } : Ctx)
def E4 (K : AExit → ASt → Option R) : ((Int × Int × (List Int) × Int × (List Int) × (List Int) × Int)) → Option R := (fun x => K (.exit 0) (S4 x.1 x.2.1 x.2.2.1 x.2.2.2.1 x.2.2.2.2.1 x.2.2.2.2.2.1 x.2.2.2.2.2.2))
theorem round4 (K : AExit → ASt → Option R) (next : ASt → Option R) (x : Int × Int × (List Int) × Int × (List Int) × (List Int) × Int) : roundA D (loopAt Tryd.f20 4) K next (S4 x.1 x.2.1 x.2.2.1 x.2.2.2.1 x.2.2.2.2.1 x.2.2.2.2.2.1 x.2.2.2.2.2.2) = (fun (x : Int × Int × (List Int) × Int × (List Int) × (List Int) × Int) (next : (Int × Int × (List Int) × Int × (List Int) × (List Int) × Int) → Option R) (ex : ((Int × Int × (List Int) × Int × (List Int) × (List Int) × Int)) → Option R) => P.R07_End_r4 x.1 x.2.1 x.2.2.1 x.2.2.2.1 x.2.2.2.2.1 x.2.2.2.2.2.1 x.2.2.2.2.2.2 (fun v3 v4 h40 h0_0 h0_1 h0_2 h0_3 => next (v3, v4, h40, h0_0, h0_1, h0_2, h0_3)) (fun v3 v4 h40 h0_0 h0_1 h0_2 h0_3 => ex ((v3, v4, h40, h0_0, h0_1, h0_2, h0_3)))) x (fun x => next (S4 x.1 x.2.1 x.2.2.1 x.2.2.2.1 x.2.2.2.2.1 x.2.2.2.2.2.1 x.2.2.2.2.2.2)) (E4 K) := by kernel_rfl
theorem lq4 (st : ASt) (K : AExit → ASt → Option R) : L4 st K = vMap (V4 st) (fun x => lp (fun (x : Int × Int × (List Int) × Int × (List Int) × (List Int) × Int) (next : (Int × Int × (List Int) × Int × (List Int) × (List Int) × Int) → Option R) (ex : ((Int × Int × (List Int) × Int × (List Int) × (List Int) × Int)) → Option R) => P.R07_End_r4 x.1 x.2.1 x.2.2.1 x.2.2.2.1 x.2.2.2.2.1 x.2.2.2.2.2.1 x.2.2.2.2.2.2 (fun v3 v4 h40 h0_0 h0_1 h0_2 h0_3 => next (v3, v4, h40, h0_0, h0_1, h0_2, h0_3)) (fun v3 v4 h40 h0_0 h0_1 h0_2 h0_3 => ex ((v3, v4, h40, h0_0, h0_1, h0_2, h0_3)))) x (E4 K)) := by
  unfold L4
  cases V4 st with
  | none => rfl
  | some x => simp only [P.R07_End_l4_eq]; rfl
theorem loop4 : LoopOk D (loopAt Tryd.f20 4) := loopOk_lp (X := Int × Int × (List Int) × Int × (List Int) × (List Int) × Int) (Y := (Int × Int × (List Int) × Int × (List Int) × (List Int) × Int)) (fun x => S4 x.1 x.2.1 x.2.2.1 x.2.2.2.1 x.2.2.2.2.1 x.2.2.2.2.2.1 x.2.2.2.2.2.2) V4_ok (stp := (fun (x : Int × Int × (List Int) × Int × (List Int) × (List Int) × Int) (next : (Int × Int × (List Int) × Int × (List Int) × (List Int) × Int) → Option R) (ex : ((Int × Int × (List Int) × Int × (List Int) × (List Int) × Int)) → Option R) => P.R07_End_r4 x.1 x.2.1 x.2.2.1 x.2.2.2.1 x.2.2.2.2.1 x.2.2.2.2.2.1 x.2.2.2.2.2.2 (fun v3 v4 h40 h0_0 h0_1 h0_2 h0_3 => next (v3, v4, h40, h0_0, h0_1, h0_2, h0_3)) (fun v3 v4 h40 h0_0 h0_1 h0_2 h0_3 => ex ((v3, v4, h40, h0_0, h0_1, h0_2, h0_3))))) (enc := E4) (L := L4) (by kernel_rfl) lq4 round4
def E8 (K : AExit → ASt → Option R) : ((Int × Int × (List Int) × Int × (List Int) × (List Int) × Int)) → Option R := (fun x => K (.exit 2) (S8 x.1 x.2.1 x.2.2.1 x.2.2.2.1 x.2.2.2.2.1 x.2.2.2.2.2.1 x.2.2.2.2.2.2))
theorem round8 (K : AExit → ASt → Option R) (next : ASt → Option R) (x : Int × Int × (List Int) × Int × (List Int) × (List Int) × Int) : roundA D (loopAt Tryd.f20 8) K next (S8 x.1 x.2.1 x.2.2.1 x.2.2.2.1 x.2.2.2.2.1 x.2.2.2.2.2.1 x.2.2.2.2.2.2) = (fun (x : Int × Int × (List Int) × Int × (List Int) × (List Int) × Int) (next : (Int × Int × (List Int) × Int × (List Int) × (List Int) × Int) → Option R) (ex : ((Int × Int × (List Int) × Int × (List Int) × (List Int) × Int)) → Option R) => P.R07_End_r8 x.1 x.2.1 x.2.2.1 x.2.2.2.1 x.2.2.2.2.1 x.2.2.2.2.2.1 x.2.2.2.2.2.2 (fun v3 v4 h80 h0_0 h0_1 h0_2 h0_3 => next (v3, v4, h80, h0_0, h0_1, h0_2, h0_3)) (fun v3 v4 h80 h0_0 h0_1 h0_2 h0_3 => ex ((v3, v4, h80, h0_0, h0_1, h0_2, h0_3)))) x (fun x => next (S8 x.1 x.2.1 x.2.2.1 x.2.2.2.1 x.2.2.2.2.1 x.2.2.2.2.2.1 x.2.2.2.2.2.2)) (E8 K) := by kernel_rfl
theorem lq8 (st : ASt) (K : AExit → ASt → Option R) : L8 st K = vMap (V8 st) (fun x => lp (fun (x : Int × Int × (List Int) × Int × (List Int) × (List Int) × Int) (next : (Int × Int × (List Int) × Int × (List Int) × (List Int) × Int) → Option R) (ex : ((Int × Int × (List Int) × Int × (List Int) × (List Int) × Int)) → Option R) => P.R07_End_r8 x.1 x.2.1 x.2.2.1 x.2.2.2.1 x.2.2.2.2.1 x.2.2.2.2.2.1 x.2.2.2.2.2.2 (fun v3 v4 h80 h0_0 h0_1 h0_2 h0_3 => next (v3, v4, h80, h0_0, h0_1, h0_2, h0_3)) (fun v3 v4 h80 h0_0 h0_1 h0_2 h0_3 => ex ((v3, v4, h80, h0_0, h0_1, h0_2, h0_3)))) x (E8 K)) := by
  unfold L8
  cases V8 st with
  | none => rfl
  | some x => simp only [P.R07_End_l8_eq]; rfl
theorem loop8 : LoopOk D (loopAt Tryd.f20 8) := loopOk_lp (X := Int × Int × (List Int) × Int × (List Int) × (List Int) × Int) (Y := (Int × Int × (List Int) × Int × (List Int) × (List Int) × Int)) (fun x => S8 x.1 x.2.1 x.2.2.1 x.2.2.2.1 x.2.2.2.2.1 x.2.2.2.2.2.1 x.2.2.2.2.2.2) V8_ok (stp := (fun (x : Int × Int × (List Int) × Int × (List Int) × (List Int) × Int) (next : (Int × Int × (List Int) × Int × (List Int) × (List Int) × Int) → Option R) (ex : ((Int × Int × (List Int) × Int × (List Int) × (List Int) × Int)) → Option R) => P.R07_End_r8 x.1 x.2.1 x.2.2.1 x.2.2.2.1 x.2.2.2.2.1 x.2.2.2.2.2.1 x.2.2.2.2.2.2 (fun v3 v4 h80 h0_0 h0_1 h0_2 h0_3 => next (v3, v4, h80, h0_0, h0_1, h0_2, h0_3)) (fun v3 v4 h80 h0_0 h0_1 h0_2 h0_3 => ex ((v3, v4, h80, h0_0, h0_1, h0_2, h0_3))))) (enc := E8) (L := L8) (by kernel_rfl) lq8 round8
def E14 (K : AExit → ASt → Option R) : ((Int × Int × (List Int) × Int × (List Int) × (List Int) × Int)) → Option R := (fun x => K (.exit 4) (S14 x.1 x.2.1 x.2.2.1 x.2.2.2.1 x.2.2.2.2.1 x.2.2.2.2.2.1 x.2.2.2.2.2.2))
theorem round14 (K : AExit → ASt → Option R) (next : ASt → Option R) (x : Int × Int × (List Int) × Int × (List Int) × (List Int) × Int) : roundA D (loopAt Tryd.f20 14) K next (S14 x.1 x.2.1 x.2.2.1 x.2.2.2.1 x.2.2.2.2.1 x.2.2.2.2.2.1 x.2.2.2.2.2.2) = (fun (x : Int × Int × (List Int) × Int × (List Int) × (List Int) × Int) (next : (Int × Int × (List Int) × Int × (List Int) × (List Int) × Int) → Option R) (ex : ((Int × Int × (List Int) × Int × (List Int) × (List Int) × Int)) → Option R) => P.R07_End_r14 x.1 x.2.1 x.2.2.1 x.2.2.2.1 x.2.2.2.2.1 x.2.2.2.2.2.1 x.2.2.2.2.2.2 (fun v3 v7 h120 h0_0 h0_1 h0_2 h0_3 => next (v3, v7, h120, h0_0, h0_1, h0_2, h0_3)) (fun v3 v7 h120 h0_0 h0_1 h0_2 h0_3 => ex ((v3, v7, h120, h0_0, h0_1, h0_2, h0_3)))) x (fun x => next (S14 x.1 x.2.1 x.2.2.1 x.2.2.2.1 x.2.2.2.2.1 x.2.2.2.2.2.1 x.2.2.2.2.2.2)) (E14 K) := by kernel_rfl
theorem lq14 (st : ASt) (K : AExit → ASt → Option R) : L14 st K = vMap (V14 st) (fun x => lp (fun (x : Int × Int × (List Int) × Int × (List Int) × (List Int) × Int) (next : (Int × Int × (List Int) × Int × (List Int) × (List Int) × Int) → Option R) (ex : ((Int × Int × (List Int) × Int × (List Int) × (List Int) × Int)) → Option R) => P.R07_End_r14 x.1 x.2.1 x.2.2.1 x.2.2.2.1 x.2.2.2.2.1 x.2.2.2.2.2.1 x.2.2.2.2.2.2 (fun v3 v7 h120 h0_0 h0_1 h0_2 h0_3 => next (v3, v7, h120, h0_0, h0_1, h0_2, h0_3)) (fun v3 v7 h120 h0_0 h0_1 h0_2 h0_3 => ex ((v3, v7, h120, h0_0, h0_1, h0_2, h0_3)))) x (E14 K)) := by
  unfold L14
  cases V14 st with
  | none => rfl
  | some x => simp only [P.R07_End_l14_eq]; rfl
theorem loop14 : LoopOk D (loopAt Tryd.f20 14) := loopOk_lp (X := Int × Int × (List Int) × Int × (List Int) × (List Int) × Int) (Y := (Int × Int × (List Int) × Int × (List Int) × (List Int) × Int)) (fun x => S14 x.1 x.2.1 x.2.2.1 x.2.2.2.1 x.2.2.2.2.1 x.2.2.2.2.2.1 x.2.2.2.2.2.2) V14_ok (stp := (fun (x : Int × Int × (List Int) × Int × (List Int) × (List Int) × Int) (next : (Int × Int × (List Int) × Int × (List Int) × (List Int) × Int) → Option R) (ex : ((Int × Int × (List Int) × Int × (List Int) × (List Int) × Int)) → Option R) => P.R07_End_r14 x.1 x.2.1 x.2.2.1 x.2.2.2.1 x.2.2.2.2.1 x.2.2.2.2.2.1 x.2.2.2.2.2.2 (fun v3 v7 h120 h0_0 h0_1 h0_2 h0_3 => next (v3, v7, h120, h0_0, h0_1, h0_2, h0_3)) (fun v3 v7 h120 h0_0 h0_1 h0_2 h0_3 => ex ((v3, v7, h120, h0_0, h0_1, h0_2, h0_3))))) (enc := E14) (L := L14) (by kernel_rfl) lq14 round14
theorem body (a0_Kind : Int) (a0_Words : List Int) (a0_Tail : List Int) (a0_Size : Int) (K : AVal → Option R) : bodyW D Tryd.f20 5 (.ints .u8 []) [.agg [.v (.int .i64 a0_Kind), .arr .u64 8 a0_Words, .sl (.ints .u8 a0_Tail), .v (.int .u64 a0_Size)]] K = P.R07_End a0_Kind a0_Words a0_Tail a0_Size (fun r0 => K (.fr 5 (.ints .u8 r0))) := by
  rw [P.R07_End_eq]
  kernel_rfl
theorem loops : loopsOf (Tryd.f20.body.getD .skip) = [loopAt Tryd.f20 4, loopAt Tryd.f20 8, loopAt Tryd.f20 14] := by kernel_rfl
noncomputable def spec0 : Abs.Spec := fun args K => match args with
  | [.agg [.v (.int .i64 a0_Kind), .arr .u64 8 a0_Words, .sl (.ints .u8 a0_Tail), .v (.int .u64 a0_Size)]] => P.R07_End a0_Kind a0_Words a0_Tail a0_Size (fun r0 => K (.fr 5 (.ints .u8 r0)))
  | _ => none
noncomputable def spec : Abs.Spec := fun args K => spec0 (coerL [.agg [.any, .any, .sl (.ints .u8 []), .any]] args) K
theorem ok0 : Proved Tryd.prog [(0, [.arr .u32 64 P.roots256]), (1, [.arr .u64 80 P.roots512])] 20 spec0 := by
  refine provedW_of (D := D) (fn := Tryd.f20) (c := Tryd.f20.body.getD .skip) 5 (.ints .u8 []) (by kernel_rfl) (globsPlain_of (by kernel_rfl)) (by kernel_rfl) (by kernel_rfl) (by kernel_rfl) ⟨R07_Add.ok, R01_Be.ok, R07_Block.ok, trivial⟩ trivial ?_ ?_
  · rw [loops]; exact ⟨loop4, loop8, loop14, trivial⟩
  · intro args K r h
    unfold spec0 at h
    split at h
    · rw [body]; exact h
    · cases h
theorem ok : Proved Tryd.prog [(0, [.arr .u32 64 P.roots256]), (1, [.arr .u64 80 P.roots512])] 20 spec := proved_coer _ ok0
end R07_End
end

section
open Go Go.Abs Go.Proofs
set_option maxRecDepth 100000
set_option linter.unusedVariables false
namespace R07_New
noncomputable def D : Ctx := ({ P := Tryd.prog, G := [], globs := [(0, [.arr .u32 64 P.roots256]), (1, [.arr .u64 80 P.roots512])], hints := [], loops := [], inl := [] } : Ctx)
theorem body (a0 : Int) (K : AVal → Option R) : bodyA D Tryd.f26 [.agg [.any, .any, .fr 5 (.ints .u8 []), .any], .any] [.v (.int .i64 a0)] K = P.R07_New a0 (fun r0_Kind r0_Words r0_Tail r0_Size r1 => K (.tuple [.agg [.v (.int .i64 r0_Kind), .arr .u64 8 r0_Words, .fr 5 (.ints .u8 r0_Tail), .v (.int .u64 r0_Size)], .v (.int .i64 r1)])) := by
  rw [P.R07_New_eq]
  kernel_rfl
theorem loops : loopsOf (Tryd.f26.body.getD .skip) = [] := by kernel_rfl
noncomputable def spec0 : Abs.Spec := fun args K => match args with
  | [.v (.int .i64 a0)] => P.R07_New a0 (fun r0_Kind r0_Words r0_Tail r0_Size r1 => K (.tuple [.agg [.v (.int .i64 r0_Kind), .arr .u64 8 r0_Words, .fr 5 (.ints .u8 r0_Tail), .v (.int .u64 r0_Size)], .v (.int .i64 r1)]))
  | _ => none
noncomputable def spec : Abs.Spec := spec0
theorem ok0 : Proved Tryd.prog [(0, [.arr .u32 64 P.roots256]), (1, [.arr .u64 80 P.roots512])] 26 spec0 := by
  refine proved_of (D := D) (fn := Tryd.f26) (c := Tryd.f26.body.getD .skip) [.agg [.any, .any, .fr 5 (.ints .u8 []), .any], .any] (by kernel_rfl) (globsPlain_of (by kernel_rfl)) (by kernel_rfl) (by kernel_rfl) (by kernel_rfl) trivial trivial ?_ ?_
  · rw [loops]; exact trivial
  · intro args K r h
    unfold spec0 at h
    split at h
    · rw [body]; exact h
    · cases h
theorem ok : Proved Tryd.prog [(0, [.arr .u32 64 P.roots256]), (1, [.arr .u64 80 P.roots512])] 26 spec := ok0
end R07_New
end

section
open Go Go.Abs Go.Proofs
set_option maxRecDepth 100000
set_option linter.unusedVariables false
namespace R07_Sum
noncomputable def D : Ctx := ({ P := Tryd.prog, G := [(17, R07_Add.spec), (20, R07_End.spec), (26, R07_New.spec)], globs := [(0, [.arr .u32 64 P.roots256]), (1, [.arr .u64 80 P.roots512])], hints := [], loops := [], inl := [] } : Ctx)
theorem body (a0 : Int) (a1 : List Int) (K : AVal → Option R) : bodyA D Tryd.f25 [.fr 5 (.ints .u8 []), .any] [.v (.int .i64 a0), .sl (.ints .u8 a1)] K = P.R07_Sum a0 a1 (fun r0 r1 => K (.tuple [.fr 5 (.ints .u8 r0), .v (.int .i64 r1)])) := by
  rw [P.R07_Sum_eq]
  kernel_rfl
theorem loops : loopsOf (Tryd.f25.body.getD .skip) = [] := by kernel_rfl
noncomputable def spec0 : Abs.Spec := fun args K => match args with
  | [.v (.int .i64 a0), .sl (.ints .u8 a1)] => P.R07_Sum a0 a1 (fun r0 r1 => K (.tuple [.fr 5 (.ints .u8 r0), .v (.int .i64 r1)]))
  | _ => none
noncomputable def spec : Abs.Spec := fun args K => spec0 (coerL [.any, .sl (.ints .u8 [])] args) K
theorem ok0 : Proved Tryd.prog [(0, [.arr .u32 64 P.roots256]), (1, [.arr .u64 80 P.roots512])] 25 spec0 := by
  refine proved_of (D := D) (fn := Tryd.f25) (c := Tryd.f25.body.getD .skip) [.fr 5 (.ints .u8 []), .any] (by kernel_rfl) (globsPlain_of (by kernel_rfl)) (by kernel_rfl) (by kernel_rfl) (by kernel_rfl) ⟨R07_Add.ok, R07_End.ok, R07_New.ok, trivial⟩ trivial ?_ ?_
  · rw [loops]; exact trivial
  · intro args K r h
    unfold spec0 at h
    split at h
    · rw [body]; exact h
    · cases h
theorem ok : Proved Tryd.prog [(0, [.arr .u32 64 P.roots256]), (1, [.arr .u64 80 P.roots512])] 25 spec := proved_coer _ ok0
end R07_Sum
end

section
open Go Go.Abs Go.Proofs
set_option maxRecDepth 100000
set_option linter.unusedVariables false
namespace R28_Bytes
noncomputable def D : Ctx := ({ P := Tryd.prog, G := [(22, R01_Be.spec), (25, R07_Sum.spec), (65, R01_Join.spec)], globs := [(0, [.arr .u32 64 P.roots256]), (1, [.arr .u64 80 P.roots512])], hints := [], loops := [], inl := [] } : Ctx)
theorem body (a0_Epoch : Int) (a0_Bound : Int) (K : AVal → Option R) : bodyA D Tryd.f38 [.fr 5 (.ints .u8 [])] [.agg [.v (.int .u64 a0_Epoch), .v (.int .u64 a0_Bound)]] K = P.R28_Bytes a0_Epoch a0_Bound (fun r0 => K (.fr 5 (.ints .u8 r0))) := by
  rw [P.R28_Bytes_eq]
  kernel_rfl
theorem loops : loopsOf (Tryd.f38.body.getD .skip) = [] := by kernel_rfl
noncomputable def spec0 : Abs.Spec := fun args K => match args with
  | [.agg [.v (.int .u64 a0_Epoch), .v (.int .u64 a0_Bound)]] => P.R28_Bytes a0_Epoch a0_Bound (fun r0 => K (.fr 5 (.ints .u8 r0)))
  | _ => none
noncomputable def spec : Abs.Spec := spec0
theorem ok0 : Proved Tryd.prog [(0, [.arr .u32 64 P.roots256]), (1, [.arr .u64 80 P.roots512])] 38 spec0 := by
  refine proved_of (D := D) (fn := Tryd.f38) (c := Tryd.f38.body.getD .skip) [.fr 5 (.ints .u8 [])] (by kernel_rfl) (globsPlain_of (by kernel_rfl)) (by kernel_rfl) (by kernel_rfl) (by kernel_rfl) ⟨R01_Be.ok, R07_Sum.ok, R01_Join.ok, trivial⟩ trivial ?_ ?_
  · rw [loops]; exact trivial
  · intro args K r h
    unfold spec0 at h
    split at h
    · rw [body]; exact h
    · cases h
theorem ok : Proved Tryd.prog [(0, [.arr .u32 64 P.roots256]), (1, [.arr .u64 80 P.roots512])] 38 spec := ok0
end R28_Bytes
end

section
open Go Go.Abs Go.Proofs
set_option maxRecDepth 100000
set_option linter.unusedVariables false
namespace R28_Read
noncomputable def D : Ctx := ({ P := Tryd.prog, G := [(18, R01_Same.spec), (24, R01_Num.spec), (38, R28_Bytes.spec)], globs := [(0, [.arr .u32 64 P.roots256]), (1, [.arr .u64 80 P.roots512])], hints := [], loops := [], inl := [] } : Ctx)
theorem body (a0 : List Int) (K : AVal → Option R) : bodyA D Tryd.f36 [.any, .any] [.sl (.ints .u8 a0)] K = P.R28_Read a0 (fun r0_Epoch r0_Bound r1 => K (.tuple [.agg [.v (.int .u64 r0_Epoch), .v (.int .u64 r0_Bound)], .v (.bool r1)])) := by
  rw [P.R28_Read_eq]
  kernel_rfl
theorem loops : loopsOf (Tryd.f36.body.getD .skip) = [] := by kernel_rfl
noncomputable def spec0 : Abs.Spec := fun args K => match args with
  | [.sl (.ints .u8 a0)] => P.R28_Read a0 (fun r0_Epoch r0_Bound r1 => K (.tuple [.agg [.v (.int .u64 r0_Epoch), .v (.int .u64 r0_Bound)], .v (.bool r1)]))
  | _ => none
noncomputable def spec : Abs.Spec := fun args K => spec0 (coerL [.sl (.ints .u8 [])] args) K
theorem ok0 : Proved Tryd.prog [(0, [.arr .u32 64 P.roots256]), (1, [.arr .u64 80 P.roots512])] 36 spec0 := by
  refine proved_of (D := D) (fn := Tryd.f36) (c := Tryd.f36.body.getD .skip) [.any, .any] (by kernel_rfl) (globsPlain_of (by kernel_rfl)) (by kernel_rfl) (by kernel_rfl) (by kernel_rfl) ⟨R01_Same.ok, R01_Num.ok, R28_Bytes.ok, trivial⟩ trivial ?_ ?_
  · rw [loops]; exact trivial
  · intro args K r h
    unfold spec0 at h
    split at h
    · rw [body]; exact h
    · cases h
theorem ok : Proved Tryd.prog [(0, [.arr .u32 64 P.roots256]), (1, [.arr .u64 80 P.roots512])] 36 spec := proved_coer _ ok0
end R28_Read
end

section
open Go Go.Abs Go.Proofs
set_option maxRecDepth 100000
set_option linter.unusedVariables false
namespace R28_Best
noncomputable def D : Ctx := ({ P := Tryd.prog, G := [(36, R28_Read.spec)], globs := [(0, [.arr .u32 64 P.roots256]), (1, [.arr .u64 80 P.roots512])], hints := [], loops := [], inl := [] } : Ctx)
theorem body (a0_0 : List Int) (a0_1 : List Int) (K : AVal → Option R) : bodyA D Tryd.f37 [.any, .any, .any] [.agg [.sl (.ints .u8 a0_0), .sl (.ints .u8 a0_1)]] K = P.R28_Best a0_0 a0_1 (fun r0_Epoch r0_Bound r1 r2 => K (.tuple [.agg [.v (.int .u64 r0_Epoch), .v (.int .u64 r0_Bound)], .v (.int .i64 r1), .v (.int .i64 r2)])) := by
  rw [P.R28_Best_eq]
  kernel_rfl
theorem loops : loopsOf (Tryd.f37.body.getD .skip) = [] := by kernel_rfl
noncomputable def spec0 : Abs.Spec := fun args K => match args with
  | [.agg [.sl (.ints .u8 a0_0), .sl (.ints .u8 a0_1)]] => P.R28_Best a0_0 a0_1 (fun r0_Epoch r0_Bound r1 r2 => K (.tuple [.agg [.v (.int .u64 r0_Epoch), .v (.int .u64 r0_Bound)], .v (.int .i64 r1), .v (.int .i64 r2)]))
  | _ => none
noncomputable def spec : Abs.Spec := fun args K => spec0 (coerL [.agg [.sl (.ints .u8 []), .sl (.ints .u8 [])]] args) K
theorem ok0 : Proved Tryd.prog [(0, [.arr .u32 64 P.roots256]), (1, [.arr .u64 80 P.roots512])] 37 spec0 := by
  refine proved_of (D := D) (fn := Tryd.f37) (c := Tryd.f37.body.getD .skip) [.any, .any, .any] (by kernel_rfl) (globsPlain_of (by kernel_rfl)) (by kernel_rfl) (by kernel_rfl) (by kernel_rfl) ⟨R28_Read.ok, trivial⟩ trivial ?_ ?_
  · rw [loops]; exact trivial
  · intro args K r h
    unfold spec0 at h
    split at h
    · rw [body]; exact h
    · cases h
theorem ok : Proved Tryd.prog [(0, [.arr .u32 64 P.roots256]), (1, [.arr .u64 80 P.roots512])] 37 spec := proved_coer _ ok0
end R28_Best
end

section
open Go Go.Abs Go.Proofs
set_option maxRecDepth 100000
set_option linter.unusedVariables false
namespace R28_with
noncomputable def D : Ctx := ({ P := Tryd.prog, G := [], globs := [(0, [.arr .u32 64 P.roots256]), (1, [.arr .u64 80 P.roots512])], hints := [], loops := [], inl := [] } : Ctx)
theorem body (a0_0 : List Int) (a0_1 : List Int) (a1 : Int) (a2 : List Int) (K : AVal → Option R) : bodyA D Tryd.f79 [.agg [.sl (.ints .u8 []), .sl (.ints .u8 [])]] [.agg [.sl (.ints .u8 a0_0), .sl (.ints .u8 a0_1)], .v (.int .i64 a1), .sl (.ints .u8 a2)] K = P.R28_with a0_0 a0_1 a1 a2 (fun r0_0 r0_1 => K (.agg [.sl (.ints .u8 r0_0), .sl (.ints .u8 r0_1)])) := by
  rw [P.R28_with_eq]
  kernel_rfl
theorem loops : loopsOf (Tryd.f79.body.getD .skip) = [] := by kernel_rfl
noncomputable def spec0 : Abs.Spec := fun args K => match args with
  | [.agg [.sl (.ints .u8 a0_0), .sl (.ints .u8 a0_1)], .v (.int .i64 a1), .sl (.ints .u8 a2)] => P.R28_with a0_0 a0_1 a1 a2 (fun r0_0 r0_1 => K (.agg [.sl (.ints .u8 r0_0), .sl (.ints .u8 r0_1)]))
  | _ => none
noncomputable def spec : Abs.Spec := fun args K => spec0 (coerL [.agg [.sl (.ints .u8 []), .sl (.ints .u8 [])], .any, .sl (.ints .u8 [])] args) K
theorem ok0 : Proved Tryd.prog [(0, [.arr .u32 64 P.roots256]), (1, [.arr .u64 80 P.roots512])] 79 spec0 := by
  refine proved_of (D := D) (fn := Tryd.f79) (c := Tryd.f79.body.getD .skip) [.agg [.sl (.ints .u8 []), .sl (.ints .u8 [])]] (by kernel_rfl) (globsPlain_of (by kernel_rfl)) (by kernel_rfl) (by kernel_rfl) (by kernel_rfl) trivial trivial ?_ ?_
  · rw [loops]; exact trivial
  · intro args K r h
    unfold spec0 at h
    split at h
    · rw [body]; exact h
    · cases h
theorem ok : Proved Tryd.prog [(0, [.arr .u32 64 P.roots256]), (1, [.arr .u64 80 P.roots512])] 79 spec := proved_coer _ ok0
end R28_with
end

section
open Go Go.Abs Go.Proofs
set_option maxRecDepth 100000
set_option linter.unusedVariables false
namespace R28_Tear
noncomputable def D : Ctx := ({ P := Tryd.prog, G := [(37, R28_Best.spec), (38, R28_Bytes.spec), (79, R28_with.spec)], globs := [(0, [.arr .u32 64 P.roots256]), (1, [.arr .u64 80 P.roots512])], hints := [], loops := [], inl := [] } : Ctx)
theorem body (a0_0 : List Int) (a0_1 : List Int) (a1_Epoch : Int) (a1_Bound : Int) (a2 : Int) (a3 : List Int) (K : AVal → Option R) : bodyA D Tryd.f42 [.agg [.sl (.ints .u8 []), .sl (.ints .u8 [])], .any] [.agg [.sl (.ints .u8 a0_0), .sl (.ints .u8 a0_1)], .agg [.v (.int .u64 a1_Epoch), .v (.int .u64 a1_Bound)], .v (.int .i64 a2), .sl (.ints .u8 a3)] K = P.R28_Tear a0_0 a0_1 a1_Epoch a1_Bound a2 a3 (fun r0_0 r0_1 r1 => K (.tuple [.agg [.sl (.ints .u8 r0_0), .sl (.ints .u8 r0_1)], .v (.int .i64 r1)])) := by
  rw [P.R28_Tear_eq]
  kernel_rfl
theorem loops : loopsOf (Tryd.f42.body.getD .skip) = [] := by kernel_rfl
noncomputable def spec0 : Abs.Spec := fun args K => match args with
  | [.agg [.sl (.ints .u8 a0_0), .sl (.ints .u8 a0_1)], .agg [.v (.int .u64 a1_Epoch), .v (.int .u64 a1_Bound)], .v (.int .i64 a2), .sl (.ints .u8 a3)] => P.R28_Tear a0_0 a0_1 a1_Epoch a1_Bound a2 a3 (fun r0_0 r0_1 r1 => K (.tuple [.agg [.sl (.ints .u8 r0_0), .sl (.ints .u8 r0_1)], .v (.int .i64 r1)]))
  | _ => none
noncomputable def spec : Abs.Spec := fun args K => spec0 (coerL [.agg [.sl (.ints .u8 []), .sl (.ints .u8 [])], .any, .any, .sl (.ints .u8 [])] args) K
theorem ok0 : Proved Tryd.prog [(0, [.arr .u32 64 P.roots256]), (1, [.arr .u64 80 P.roots512])] 42 spec0 := by
  refine proved_of (D := D) (fn := Tryd.f42) (c := Tryd.f42.body.getD .skip) [.agg [.sl (.ints .u8 []), .sl (.ints .u8 [])], .any] (by kernel_rfl) (globsPlain_of (by kernel_rfl)) (by kernel_rfl) (by kernel_rfl) (by kernel_rfl) ⟨R28_Best.ok, R28_Bytes.ok, R28_with.ok, trivial⟩ trivial ?_ ?_
  · rw [loops]; exact trivial
  · intro args K r h
    unfold spec0 at h
    split at h
    · rw [body]; exact h
    · cases h
theorem ok : Proved Tryd.prog [(0, [.arr .u32 64 P.roots256]), (1, [.arr .u64 80 P.roots512])] 42 spec := proved_coer _ ok0
end R28_Tear
end

section
open Go Go.Abs Go.Proofs
set_option maxRecDepth 100000
set_option linter.unusedVariables false
namespace R28_Write
noncomputable def D : Ctx := ({ P := Tryd.prog, G := [(37, R28_Best.spec), (38, R28_Bytes.spec), (79, R28_with.spec)], globs := [(0, [.arr .u32 64 P.roots256]), (1, [.arr .u64 80 P.roots512])], hints := [], loops := [], inl := [] } : Ctx)
theorem body (a0_0 : List Int) (a0_1 : List Int) (a1_Epoch : Int) (a1_Bound : Int) (K : AVal → Option R) : bodyA D Tryd.f40 [.agg [.sl (.ints .u8 []), .sl (.ints .u8 [])], .any, .any] [.agg [.sl (.ints .u8 a0_0), .sl (.ints .u8 a0_1)], .agg [.v (.int .u64 a1_Epoch), .v (.int .u64 a1_Bound)]] K = P.R28_Write a0_0 a0_1 a1_Epoch a1_Bound (fun r0_0 r0_1 r1 r2 => K (.tuple [.agg [.sl (.ints .u8 r0_0), .sl (.ints .u8 r0_1)], .v (.int .i64 r1), .v (.int .i64 r2)])) := by
  rw [P.R28_Write_eq]
  kernel_rfl
theorem loops : loopsOf (Tryd.f40.body.getD .skip) = [] := by kernel_rfl
noncomputable def spec0 : Abs.Spec := fun args K => match args with
  | [.agg [.sl (.ints .u8 a0_0), .sl (.ints .u8 a0_1)], .agg [.v (.int .u64 a1_Epoch), .v (.int .u64 a1_Bound)]] => P.R28_Write a0_0 a0_1 a1_Epoch a1_Bound (fun r0_0 r0_1 r1 r2 => K (.tuple [.agg [.sl (.ints .u8 r0_0), .sl (.ints .u8 r0_1)], .v (.int .i64 r1), .v (.int .i64 r2)]))
  | _ => none
noncomputable def spec : Abs.Spec := fun args K => spec0 (coerL [.agg [.sl (.ints .u8 []), .sl (.ints .u8 [])], .any] args) K
theorem ok0 : Proved Tryd.prog [(0, [.arr .u32 64 P.roots256]), (1, [.arr .u64 80 P.roots512])] 40 spec0 := by
  refine proved_of (D := D) (fn := Tryd.f40) (c := Tryd.f40.body.getD .skip) [.agg [.sl (.ints .u8 []), .sl (.ints .u8 [])], .any, .any] (by kernel_rfl) (globsPlain_of (by kernel_rfl)) (by kernel_rfl) (by kernel_rfl) (by kernel_rfl) ⟨R28_Best.ok, R28_Bytes.ok, R28_with.ok, trivial⟩ trivial ?_ ?_
  · rw [loops]; exact trivial
  · intro args K r h
    unfold spec0 at h
    split at h
    · rw [body]; exact h
    · cases h
theorem ok : Proved Tryd.prog [(0, [.arr .u32 64 P.roots256]), (1, [.arr .u64 80 P.roots512])] 40 spec := proved_coer _ ok0
end R28_Write
end

section
open Go Go.Abs Go.Proofs
set_option maxRecDepth 100000
set_option linter.unusedVariables false
namespace sector_copied
noncomputable def D : Ctx := ({ P := Tryd.prog, G := [(64, slices_Clone_byte.spec)], globs := [(0, [.arr .u32 64 P.roots256]), (1, [.arr .u64 80 P.roots512])], hints := [], loops := [], inl := [] } : Ctx)
theorem body (a0_0 : List Int) (a0_1 : List Int) (K : AVal → Option R) : bodyA D Tryd.f80 [.agg [.fr 5 (.ints .u8 []), .fr 5 (.ints .u8 [])]] [.agg [.sl (.ints .u8 a0_0), .sl (.ints .u8 a0_1)]] K = P.sector_copied a0_0 a0_1 (fun r0_0 r0_1 => K (.agg [.fr 5 (.ints .u8 r0_0), .fr 5 (.ints .u8 r0_1)])) := by
  rw [P.sector_copied_eq]
  kernel_rfl
theorem loops : loopsOf (Tryd.f80.body.getD .skip) = [] := by kernel_rfl
noncomputable def spec0 : Abs.Spec := fun args K => match args with
  | [.agg [.sl (.ints .u8 a0_0), .sl (.ints .u8 a0_1)]] => P.sector_copied a0_0 a0_1 (fun r0_0 r0_1 => K (.agg [.fr 5 (.ints .u8 r0_0), .fr 5 (.ints .u8 r0_1)]))
  | _ => none
noncomputable def spec : Abs.Spec := fun args K => spec0 (coerL [.agg [.sl (.ints .u8 []), .sl (.ints .u8 [])]] args) K
theorem ok0 : Proved Tryd.prog [(0, [.arr .u32 64 P.roots256]), (1, [.arr .u64 80 P.roots512])] 80 spec0 := by
  refine proved_of (D := D) (fn := Tryd.f80) (c := Tryd.f80.body.getD .skip) [.agg [.fr 5 (.ints .u8 []), .fr 5 (.ints .u8 [])]] (by kernel_rfl) (globsPlain_of (by kernel_rfl)) (by kernel_rfl) (by kernel_rfl) (by kernel_rfl) ⟨slices_Clone_byte.ok, trivial⟩ trivial ?_ ?_
  · rw [loops]; exact trivial
  · intro args K r h
    unfold spec0 at h
    split at h
    · rw [body]; exact h
    · cases h
theorem ok : Proved Tryd.prog [(0, [.arr .u32 64 P.roots256]), (1, [.arr .u64 80 P.roots512])] 80 spec := proved_coer _ ok0
end sector_copied
end

section
open Go Go.Abs Go.Proofs
set_option maxRecDepth 100000
set_option linter.unusedVariables false
namespace sector_laid
noncomputable def D : Ctx := ({ P := Tryd.prog, G := [(33, sector_Best.spec), (64, slices_Clone_byte.spec), (80, sector_copied.spec)], globs := [(0, [.arr .u32 64 P.roots256]), (1, [.arr .u64 80 P.roots512])], hints := [], loops := [], inl := [] } : Ctx)
theorem body (a0_0 : List Int) (a0_1 : List Int) (a1 : List Int) (K : AVal → Option R) : bodyA D Tryd.f78 [.agg [.fr 5 (.ints .u8 []), .fr 5 (.ints .u8 [])], .any, .any] [.agg [.sl (.ints .u8 a0_0), .sl (.ints .u8 a0_1)], .sl (.ints .u8 a1)] K = P.sector_laid a0_0 a0_1 a1 (fun r0_0 r0_1 r1 r2 => K (.tuple [.agg [.fr 5 (.ints .u8 r0_0), .fr 5 (.ints .u8 r0_1)], .v (.int .i64 r1), .v (.int .i64 r2)])) := by
  rw [P.sector_laid_eq]
  kernel_rfl
theorem loops : loopsOf (Tryd.f78.body.getD .skip) = [] := by kernel_rfl
noncomputable def spec0 : Abs.Spec := fun args K => match args with
  | [.agg [.sl (.ints .u8 a0_0), .sl (.ints .u8 a0_1)], .sl (.ints .u8 a1)] => P.sector_laid a0_0 a0_1 a1 (fun r0_0 r0_1 r1 r2 => K (.tuple [.agg [.fr 5 (.ints .u8 r0_0), .fr 5 (.ints .u8 r0_1)], .v (.int .i64 r1), .v (.int .i64 r2)]))
  | _ => none
noncomputable def spec : Abs.Spec := fun args K => spec0 (coerL [.agg [.sl (.ints .u8 []), .sl (.ints .u8 [])], .sl (.ints .u8 [])] args) K
theorem ok0 : Proved Tryd.prog [(0, [.arr .u32 64 P.roots256]), (1, [.arr .u64 80 P.roots512])] 78 spec0 := by
  refine proved_of (D := D) (fn := Tryd.f78) (c := Tryd.f78.body.getD .skip) [.agg [.fr 5 (.ints .u8 []), .fr 5 (.ints .u8 [])], .any, .any] (by kernel_rfl) (globsPlain_of (by kernel_rfl)) (by kernel_rfl) (by kernel_rfl) (by kernel_rfl) ⟨sector_Best.ok, slices_Clone_byte.ok, sector_copied.ok, trivial⟩ trivial ?_ ?_
  · rw [loops]; exact trivial
  · intro args K r h
    unfold spec0 at h
    split at h
    · rw [body]; exact h
    · cases h
theorem ok : Proved Tryd.prog [(0, [.arr .u32 64 P.roots256]), (1, [.arr .u64 80 P.roots512])] 78 spec := proved_coer _ ok0
end sector_laid
end

section
open Go Go.Abs Go.Proofs
set_option maxRecDepth 100000
set_option linter.unusedVariables false
namespace sector_Write
noncomputable def D : Ctx := ({ P := Tryd.prog, G := [(32, sector_Bytes.spec), (78, sector_laid.spec)], globs := [(0, [.arr .u32 64 P.roots256]), (1, [.arr .u64 80 P.roots512])], hints := [], loops := [], inl := [] } : Ctx)
theorem body (a0_0 : List Int) (a0_1 : List Int) (a1_Epoch : Int) (a1_Bound : Int) (K : AVal → Option R) : bodyA D Tryd.f34 [.agg [.fr 5 (.ints .u8 []), .fr 5 (.ints .u8 [])], .any, .any] [.agg [.sl (.ints .u8 a0_0), .sl (.ints .u8 a0_1)], .agg [.v (.int .u64 a1_Epoch), .v (.int .u64 a1_Bound)]] K = P.sector_Write a0_0 a0_1 a1_Epoch a1_Bound (fun r0_0 r0_1 r1 r2 => K (.tuple [.agg [.fr 5 (.ints .u8 r0_0), .fr 5 (.ints .u8 r0_1)], .v (.int .i64 r1), .v (.int .i64 r2)])) := by
  rw [P.sector_Write_eq]
  kernel_rfl
theorem loops : loopsOf (Tryd.f34.body.getD .skip) = [] := by kernel_rfl
noncomputable def spec0 : Abs.Spec := fun args K => match args with
  | [.agg [.sl (.ints .u8 a0_0), .sl (.ints .u8 a0_1)], .agg [.v (.int .u64 a1_Epoch), .v (.int .u64 a1_Bound)]] => P.sector_Write a0_0 a0_1 a1_Epoch a1_Bound (fun r0_0 r0_1 r1 r2 => K (.tuple [.agg [.fr 5 (.ints .u8 r0_0), .fr 5 (.ints .u8 r0_1)], .v (.int .i64 r1), .v (.int .i64 r2)]))
  | _ => none
noncomputable def spec : Abs.Spec := fun args K => spec0 (coerL [.agg [.sl (.ints .u8 []), .sl (.ints .u8 [])], .any] args) K
theorem ok0 : Proved Tryd.prog [(0, [.arr .u32 64 P.roots256]), (1, [.arr .u64 80 P.roots512])] 34 spec0 := by
  refine proved_of (D := D) (fn := Tryd.f34) (c := Tryd.f34.body.getD .skip) [.agg [.fr 5 (.ints .u8 []), .fr 5 (.ints .u8 [])], .any, .any] (by kernel_rfl) (globsPlain_of (by kernel_rfl)) (by kernel_rfl) (by kernel_rfl) (by kernel_rfl) ⟨sector_Bytes.ok, sector_laid.ok, trivial⟩ trivial ?_ ?_
  · rw [loops]; exact trivial
  · intro args K r h
    unfold spec0 at h
    split at h
    · rw [body]; exact h
    · cases h
theorem ok : Proved Tryd.prog [(0, [.arr .u32 64 P.roots256]), (1, [.arr .u64 80 P.roots512])] 34 spec := proved_coer _ ok0
end sector_Write
end

section
open Go Go.Abs Go.Proofs
set_option maxRecDepth 100000
set_option linter.unusedVariables false
namespace sector_Tear
noncomputable def D : Ctx := ({ P := Tryd.prog, G := [(33, sector_Best.spec), (34, sector_Write.spec), (78, sector_laid.spec), (80, sector_copied.spec)], globs := [(0, [.arr .u32 64 P.roots256]), (1, [.arr .u64 80 P.roots512])], hints := [], loops := [], inl := [] } : Ctx)
theorem body (a0_0 : List Int) (a0_1 : List Int) (a1_Epoch : Int) (a1_Bound : Int) (a2 : Int) (a3 : List Int) (K : AVal → Option R) : bodyA D Tryd.f41 [.agg [.fr 5 (.ints .u8 []), .fr 5 (.ints .u8 [])], .any] [.agg [.sl (.ints .u8 a0_0), .sl (.ints .u8 a0_1)], .agg [.v (.int .u64 a1_Epoch), .v (.int .u64 a1_Bound)], .v (.int .i64 a2), .sl (.ints .u8 a3)] K = P.sector_Tear a0_0 a0_1 a1_Epoch a1_Bound a2 a3 (fun r0_0 r0_1 r1 => K (.tuple [.agg [.fr 5 (.ints .u8 r0_0), .fr 5 (.ints .u8 r0_1)], .v (.int .i64 r1)])) := by
  rw [P.sector_Tear_eq]
  kernel_rfl
theorem loops : loopsOf (Tryd.f41.body.getD .skip) = [] := by kernel_rfl
noncomputable def spec0 : Abs.Spec := fun args K => match args with
  | [.agg [.sl (.ints .u8 a0_0), .sl (.ints .u8 a0_1)], .agg [.v (.int .u64 a1_Epoch), .v (.int .u64 a1_Bound)], .v (.int .i64 a2), .sl (.ints .u8 a3)] => P.sector_Tear a0_0 a0_1 a1_Epoch a1_Bound a2 a3 (fun r0_0 r0_1 r1 => K (.tuple [.agg [.fr 5 (.ints .u8 r0_0), .fr 5 (.ints .u8 r0_1)], .v (.int .i64 r1)]))
  | _ => none
noncomputable def spec : Abs.Spec := fun args K => spec0 (coerL [.agg [.sl (.ints .u8 []), .sl (.ints .u8 [])], .any, .any, .sl (.ints .u8 [])] args) K
theorem ok0 : Proved Tryd.prog [(0, [.arr .u32 64 P.roots256]), (1, [.arr .u64 80 P.roots512])] 41 spec0 := by
  refine proved_of (D := D) (fn := Tryd.f41) (c := Tryd.f41.body.getD .skip) [.agg [.fr 5 (.ints .u8 []), .fr 5 (.ints .u8 [])], .any] (by kernel_rfl) (globsPlain_of (by kernel_rfl)) (by kernel_rfl) (by kernel_rfl) (by kernel_rfl) ⟨sector_Best.ok, sector_Write.ok, sector_laid.ok, sector_copied.ok, trivial⟩ trivial ?_ ?_
  · rw [loops]; exact trivial
  · intro args K r h
    unfold spec0 at h
    split at h
    · rw [body]; exact h
    · cases h
theorem ok : Proved Tryd.prog [(0, [.arr .u32 64 P.roots256]), (1, [.arr .u64 80 P.roots512])] 41 spec := proved_coer _ ok0
end sector_Tear
end

section
open Go Go.Abs Go.Proofs
set_option maxRecDepth 100000
set_option linter.unusedVariables false
namespace L28_SectorWrites
noncomputable def D : Ctx := ({ P := Tryd.prog, G := [(29, L28_few.spec), (30, L28_awake.spec), (34, sector_Write.spec), (35, R28_Same.spec), (40, R28_Write.spec), (41, sector_Tear.spec), (42, R28_Tear.spec)], globs := [(0, [.arr .u32 64 P.roots256]), (1, [.arr .u64 80 P.roots512])], hints := [], loops := [], inl := [] } : Ctx)
theorem body (a0_0 : List Int) (a0_1 : List Int) (a1_Epoch : Int) (a1_Bound : Int) (a2 : Int) (a3 : List Int) (K : AVal → Option R) : bodyA D Tryd.f8 [.any] [.agg [.sl (.ints .u8 a0_0), .sl (.ints .u8 a0_1)], .agg [.v (.int .u64 a1_Epoch), .v (.int .u64 a1_Bound)], .v (.int .i64 a2), .sl (.ints .u8 a3)] K = P.L28_SectorWrites a0_0 a0_1 a1_Epoch a1_Bound a2 a3 (fun r0 => K (.v (.bool r0))) := by
  rw [P.L28_SectorWrites_eq]
  kernel_rfl
theorem loops : loopsOf (Tryd.f8.body.getD .skip) = [] := by kernel_rfl
noncomputable def spec0 : Abs.Spec := fun args K => match args with
  | [.agg [.sl (.ints .u8 a0_0), .sl (.ints .u8 a0_1)], .agg [.v (.int .u64 a1_Epoch), .v (.int .u64 a1_Bound)], .v (.int .i64 a2), .sl (.ints .u8 a3)] => P.L28_SectorWrites a0_0 a0_1 a1_Epoch a1_Bound a2 a3 (fun r0 => K (.v (.bool r0)))
  | _ => none
noncomputable def spec : Abs.Spec := fun args K => spec0 (coerL [.agg [.sl (.ints .u8 []), .sl (.ints .u8 [])], .any, .any, .sl (.ints .u8 [])] args) K
theorem ok0 : Proved Tryd.prog [(0, [.arr .u32 64 P.roots256]), (1, [.arr .u64 80 P.roots512])] 8 spec0 := by
  refine proved_of (D := D) (fn := Tryd.f8) (c := Tryd.f8.body.getD .skip) [.any] (by kernel_rfl) (globsPlain_of (by kernel_rfl)) (by kernel_rfl) (by kernel_rfl) (by kernel_rfl) ⟨L28_few.ok, L28_awake.ok, sector_Write.ok, R28_Same.ok, R28_Write.ok, sector_Tear.ok, R28_Tear.ok, trivial⟩ trivial ?_ ?_
  · rw [loops]; exact trivial
  · intro args K r h
    unfold spec0 at h
    split at h
    · rw [body]; exact h
    · cases h
theorem ok : Proved Tryd.prog [(0, [.arr .u32 64 P.roots256]), (1, [.arr .u64 80 P.roots512])] 8 spec := proved_coer _ ok0
end L28_SectorWrites
end
