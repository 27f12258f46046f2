/-
  BitsPacks, part H: an interpreter of my own over abstract values, the pure functions, the walks and the plain law.
-/

import Derived.Test.YtmaoicbiekgmhaaBitsPacksG
import Derived.Test.YtmaoicbiekgmhaaBitsPacksF
import Derived.Test.YtmaoicbiekgmhaaProg
import Derived.KernelRfl

section
open Go Go.Abs Go.Proofs
set_option maxRecDepth 100000
set_option linter.unusedVariables false
namespace R01_Unpack
def S5 (v0 : List Int) (v1 : Int) (v2 : Int) (v8 : Int) (h0 : List Int) : ASt := ⟨[(7, .own 0), (0, .sl (.ints .u8 v0)), (1, .v (.int .i64 v1)), (2, .v (.int .i64 v2)), (8, .v (.int .i64 v8))], [(0, some ⟨.row 62 (.ints .u32 h0), false⟩)], 1, 51⟩
def V5 : ASt → Option ((List Int) × Int × Int × Int × (List Int))
  | ⟨[(7, .own 0), (0, .sl (.ints .u8 v0)), (1, .v (.int .i64 v1)), (2, .v (.int .i64 v2)), (8, .v (.int .i64 v8))], [(0, some ⟨.row 62 (.ints .u32 h0), false⟩)], 1, 51⟩ => some (v0, v1, v2, v8, h0)
  | _ => none
theorem V5_ok (st : ASt) (x : (List Int) × Int × Int × Int × (List Int)) (h : V5 st = some x) : st = S5 x.1 x.2.1 x.2.2.1 x.2.2.2.1 x.2.2.2.2 := by
  unfold V5 at h
  split at h
  · cases h; rfl
  · cases h
def S9 (v0 : List Int) (v1 : Int) (v2 : Int) (v8 : Int) (v9 : Int) (v10 : Int) (h0 : List Int) : ASt := ⟨[(0, .sl (.ints .u8 v0)), (1, .v (.int .i64 v1)), (2, .v (.int .i64 v2)), (7, .own 0), (8, .v (.int .i64 v8)), (9, .v (.int .u32 v9)), (10, .v (.int .i64 v10))], [(0, some ⟨.row 62 (.ints .u32 h0), false⟩)], 1, 51⟩
def V9 : ASt → Option ((List Int) × Int × Int × Int × Int × Int × (List Int))
  | ⟨[(0, .sl (.ints .u8 v0)), (1, .v (.int .i64 v1)), (2, .v (.int .i64 v2)), (7, .own 0), (8, .v (.int .i64 v8)), (9, .v (.int .u32 v9)), (10, .v (.int .i64 v10))], [(0, some ⟨.row 62 (.ints .u32 h0), false⟩)], 1, 51⟩ => some (v0, v1, v2, v8, v9, v10, h0)
  | _ => none
theorem V9_ok (st : ASt) (x : (List Int) × Int × Int × Int × Int × Int × (List Int)) (h : V9 st = some x) : st = S9 x.1 x.2.1 x.2.2.1 x.2.2.2.1 x.2.2.2.2.1 x.2.2.2.2.2.1 x.2.2.2.2.2.2 := by
  unfold V9 at h
  split at h
  · cases h; rfl
  · cases h
noncomputable def L9 : LSpec := fun st K => match V9 st with
  | some x => P.R01_Unpack_l9 x.1 x.2.1 x.2.2.1 x.2.2.2.1 x.2.2.2.2.1 x.2.2.2.2.2.1 x.2.2.2.2.2.2 (fun v0 v1 v2 v8 v9 v10 h0 => K (.exit 2) (S9 v0 v1 v2 v8 v9 v10 h0))
  | none => none
noncomputable def L5 : LSpec := fun st K => match V5 st with
  | some x => P.R01_Unpack_l5 x.1 x.2.1 x.2.2.1 x.2.2.2.1 x.2.2.2.2 (fun v0 v1 v2 v8 h0 => K (.exit 0) (S5 v0 v1 v2 v8 h0))
  | none => none
noncomputable def D : Ctx := ({ P := Try.prog, G := [(73, R01_such.spec)], globs := [], hints := [(9, ⟨[0, 1, 2, 7, 8, 9, 10], [], [6], []⟩), (5, ⟨[0, 1, 2, 8], [(7, 62, .ints .u32 [])], [6], []⟩)], loops := [(9, L9), (5, L5)], inl := [] } : Ctx)
def E9 (K : AExit → ASt → Option R) : (((List Int) × Int × Int × Int × Int × Int × (List Int))) → Option R := (fun x => K (.exit 2) (S9 x.1 x.2.1 x.2.2.1 x.2.2.2.1 x.2.2.2.2.1 x.2.2.2.2.2.1 x.2.2.2.2.2.2))
theorem round9 (K : AExit → ASt → Option R) (next : ASt → Option R) (x : (List Int) × Int × Int × Int × Int × Int × (List Int)) : roundA D (loopAt Try.f44 9) K next (S9 x.1 x.2.1 x.2.2.1 x.2.2.2.1 x.2.2.2.2.1 x.2.2.2.2.2.1 x.2.2.2.2.2.2) = (fun (x : (List Int) × Int × Int × Int × Int × Int × (List Int)) (next : ((List Int) × Int × Int × Int × Int × Int × (List Int)) → Option R) (ex : (((List Int) × Int × Int × Int × Int × Int × (List Int))) → Option R) => P.R01_Unpack_r9 x.1 x.2.1 x.2.2.1 x.2.2.2.1 x.2.2.2.2.1 x.2.2.2.2.2.1 x.2.2.2.2.2.2 (fun v0 v1 v2 v8 v9 v10 h0 => next (v0, v1, v2, v8, v9, v10, h0)) (fun v0 v1 v2 v8 v9 v10 h0 => ex ((v0, v1, v2, v8, v9, v10, h0)))) x (fun x => next (S9 x.1 x.2.1 x.2.2.1 x.2.2.2.1 x.2.2.2.2.1 x.2.2.2.2.2.1 x.2.2.2.2.2.2)) (E9 K) := by kernel_rfl
theorem lq9 (st : ASt) (K : AExit → ASt → Option R) : L9 st K = vMap (V9 st) (fun x => lp (fun (x : (List Int) × Int × Int × Int × Int × Int × (List Int)) (next : ((List Int) × Int × Int × Int × Int × Int × (List Int)) → Option R) (ex : (((List Int) × Int × Int × Int × Int × Int × (List Int))) → Option R) => P.R01_Unpack_r9 x.1 x.2.1 x.2.2.1 x.2.2.2.1 x.2.2.2.2.1 x.2.2.2.2.2.1 x.2.2.2.2.2.2 (fun v0 v1 v2 v8 v9 v10 h0 => next (v0, v1, v2, v8, v9, v10, h0)) (fun v0 v1 v2 v8 v9 v10 h0 => ex ((v0, v1, v2, v8, v9, v10, h0)))) x (E9 K)) := by
  unfold L9
  cases V9 st with
  | none => rfl
  | some x => simp only [P.R01_Unpack_l9_eq]; rfl
theorem loop9 : LoopOk D (loopAt Try.f44 9) := loopOk_lp (X := (List Int) × Int × Int × Int × Int × Int × (List Int)) (Y := ((List Int) × Int × Int × Int × Int × Int × (List Int))) (fun x => S9 x.1 x.2.1 x.2.2.1 x.2.2.2.1 x.2.2.2.2.1 x.2.2.2.2.2.1 x.2.2.2.2.2.2) V9_ok (stp := (fun (x : (List Int) × Int × Int × Int × Int × Int × (List Int)) (next : ((List Int) × Int × Int × Int × Int × Int × (List Int)) → Option R) (ex : (((List Int) × Int × Int × Int × Int × Int × (List Int))) → Option R) => P.R01_Unpack_r9 x.1 x.2.1 x.2.2.1 x.2.2.2.1 x.2.2.2.2.1 x.2.2.2.2.2.1 x.2.2.2.2.2.2 (fun v0 v1 v2 v8 v9 v10 h0 => next (v0, v1, v2, v8, v9, v10, h0)) (fun v0 v1 v2 v8 v9 v10 h0 => ex ((v0, v1, v2, v8, v9, v10, h0))))) (enc := E9) (L := L9) (by kernel_rfl) lq9 round9
def E5 (K : AExit → ASt → Option R) : (((List Int) × Int × Int × Int × (List Int))) → Option R := (fun x => K (.exit 0) (S5 x.1 x.2.1 x.2.2.1 x.2.2.2.1 x.2.2.2.2))
theorem round5 (K : AExit → ASt → Option R) (next : ASt → Option R) (x : (List Int) × Int × Int × Int × (List Int)) : roundA D (loopAt Try.f44 5) K next (S5 x.1 x.2.1 x.2.2.1 x.2.2.2.1 x.2.2.2.2) = (fun (x : (List Int) × Int × Int × Int × (List Int)) (next : ((List Int) × Int × Int × Int × (List Int)) → Option R) (ex : (((List Int) × Int × Int × Int × (List Int))) → Option R) => P.R01_Unpack_r5 x.1 x.2.1 x.2.2.1 x.2.2.2.1 x.2.2.2.2 (fun v0 v1 v2 v8 h0 => next (v0, v1, v2, v8, h0)) (fun v0 v1 v2 v8 h0 => ex ((v0, v1, v2, v8, h0)))) x (fun x => next (S5 x.1 x.2.1 x.2.2.1 x.2.2.2.1 x.2.2.2.2)) (E5 K) := by kernel_rfl
theorem lq5 (st : ASt) (K : AExit → ASt → Option R) : L5 st K = vMap (V5 st) (fun x => lp (fun (x : (List Int) × Int × Int × Int × (List Int)) (next : ((List Int) × Int × Int × Int × (List Int)) → Option R) (ex : (((List Int) × Int × Int × Int × (List Int))) → Option R) => P.R01_Unpack_r5 x.1 x.2.1 x.2.2.1 x.2.2.2.1 x.2.2.2.2 (fun v0 v1 v2 v8 h0 => next (v0, v1, v2, v8, h0)) (fun v0 v1 v2 v8 h0 => ex ((v0, v1, v2, v8, h0)))) x (E5 K)) := by
  unfold L5
  cases V5 st with
  | none => rfl
  | some x => simp only [P.R01_Unpack_l5_eq]; rfl
theorem loop5 : LoopOk D (loopAt Try.f44 5) := loopOk_lp (X := (List Int) × Int × Int × Int × (List Int)) (Y := ((List Int) × Int × Int × Int × (List Int))) (fun x => S5 x.1 x.2.1 x.2.2.1 x.2.2.2.1 x.2.2.2.2) V5_ok (stp := (fun (x : (List Int) × Int × Int × Int × (List Int)) (next : ((List Int) × Int × Int × Int × (List Int)) → Option R) (ex : (((List Int) × Int × Int × Int × (List Int))) → Option R) => P.R01_Unpack_r5 x.1 x.2.1 x.2.2.1 x.2.2.2.1 x.2.2.2.2 (fun v0 v1 v2 v8 h0 => next (v0, v1, v2, v8, h0)) (fun v0 v1 v2 v8 h0 => ex ((v0, v1, v2, v8, h0))))) (enc := E5) (L := L5) (by kernel_rfl) lq5 round5
theorem body (a0 : List Int) (a1 : Int) (a2 : Int) (K : AVal → Option R) : bodyA D Try.f44 [.fr 62 (.ints .u32 [])] [.sl (.ints .u8 a0), .v (.int .i64 a1), .v (.int .i64 a2)] K = P.R01_Unpack a0 a1 a2 (fun r0 => K (.fr 62 (.ints .u32 r0))) := by
  rw [P.R01_Unpack_eq]
  kernel_rfl
theorem loops : loopsOf (Try.f44.body.getD .skip) = [loopAt Try.f44 5, loopAt Try.f44 9] := by kernel_rfl
noncomputable def spec0 : Abs.Spec := fun args K => match args with
  | [.sl (.ints .u8 a0), .v (.int .i64 a1), .v (.int .i64 a2)] => P.R01_Unpack a0 a1 a2 (fun r0 => K (.fr 62 (.ints .u32 r0)))
  | _ => none
noncomputable def spec : Abs.Spec := fun args K => spec0 (coerL [.sl (.ints .u8 []), .any, .any] args) K
theorem ok0 : Proved Try.prog [] 44 spec0 := by
  refine proved_of (D := D) (fn := Try.f44) (c := Try.f44.body.getD .skip) [.fr 62 (.ints .u32 [])] (by kernel_rfl) (globsPlain_of (by kernel_rfl)) (by kernel_rfl) (by kernel_rfl) (by kernel_rfl) ⟨R01_such.ok, trivial⟩ trivial ?_ ?_
  · rw [loops]; exact ⟨loop5, loop9, trivial⟩
  · intro args K r h
    unfold spec0 at h
    split at h
    · rw [body]; exact h
    · cases h
theorem ok : Proved Try.prog [] 44 spec := proved_coer _ ok0
end R01_Unpack
end

section
open Go Go.Abs Go.Proofs
set_option maxRecDepth 100000
set_option linter.unusedVariables false
namespace bits_Unpack
def S6 (v0 : List Int) (v1 : Int) (v8 : Int) (v9 : Int) (v19 : Int) (v20 : Int) (h0 : List Int) : ASt := ⟨[(0, .sl (.ints .u8 v0)), (1, .v (.int .i64 v1)), (7, .own 0), (8, .v (.int .u64 v8)), (9, .v (.int .i64 v9)), (19, .v (.int .i64 v19)), (20, .v (.int .i64 v20))], [(0, some ⟨.row 62 (.ints .u32 h0), false⟩)], 1, 55⟩
def V6 : ASt → Option ((List Int) × Int × Int × Int × Int × Int × (List Int))
  | ⟨[(0, .sl (.ints .u8 v0)), (1, .v (.int .i64 v1)), (7, .own 0), (8, .v (.int .u64 v8)), (9, .v (.int .i64 v9)), (19, .v (.int .i64 v19)), (20, .v (.int .i64 v20))], [(0, some ⟨.row 62 (.ints .u32 h0), false⟩)], 1, 55⟩ => some (v0, v1, v8, v9, v19, v20, h0)
  | _ => none
theorem V6_ok (st : ASt) (x : (List Int) × Int × Int × Int × Int × Int × (List Int)) (h : V6 st = some x) : st = S6 x.1 x.2.1 x.2.2.1 x.2.2.2.1 x.2.2.2.2.1 x.2.2.2.2.2.1 x.2.2.2.2.2.2 := by
  unfold V6 at h
  split at h
  · cases h; rfl
  · cases h
def S8 (v0 : List Int) (v1 : Int) (v8 : Int) (v9 : Int) (v10 : Int) (v19 : Int) (v20 : Int) (h0 : List Int) : ASt := ⟨[(0, .sl (.ints .u8 v0)), (1, .v (.int .i64 v1)), (7, .own 0), (8, .v (.int .u64 v8)), (9, .v (.int .i64 v9)), (10, .v (.int .i64 v10)), (19, .v (.int .i64 v19)), (20, .v (.int .i64 v20))], [(0, some ⟨.row 62 (.ints .u32 h0), false⟩)], 1, 55⟩
def V8 : ASt → Option ((List Int) × Int × Int × Int × Int × Int × Int × (List Int))
  | ⟨[(0, .sl (.ints .u8 v0)), (1, .v (.int .i64 v1)), (7, .own 0), (8, .v (.int .u64 v8)), (9, .v (.int .i64 v9)), (10, .v (.int .i64 v10)), (19, .v (.int .i64 v19)), (20, .v (.int .i64 v20))], [(0, some ⟨.row 62 (.ints .u32 h0), false⟩)], 1, 55⟩ => some (v0, v1, v8, v9, v10, v19, v20, h0)
  | _ => none
theorem V8_ok (st : ASt) (x : (List Int) × Int × Int × Int × Int × Int × Int × (List Int)) (h : V8 st = some x) : st = S8 x.1 x.2.1 x.2.2.1 x.2.2.2.1 x.2.2.2.2.1 x.2.2.2.2.2.1 x.2.2.2.2.2.2.1 x.2.2.2.2.2.2.2 := by
  unfold V8 at h
  split at h
  · cases h; rfl
  · cases h
noncomputable def L8 : LSpec := fun st K => match V8 st with
  | some x => P.bits_Unpack_l8 x.1 x.2.1 x.2.2.1 x.2.2.2.1 x.2.2.2.2.1 x.2.2.2.2.2.1 x.2.2.2.2.2.2.1 x.2.2.2.2.2.2.2 (fun v0 v1 v8 v9 v10 v19 v20 h0 => K (.exit 2) (S8 v0 v1 v8 v9 v10 v19 v20 h0))
  | none => none
noncomputable def L6 : LSpec := fun st K => match V6 st with
  | some x => P.bits_Unpack_l6 x.1 x.2.1 x.2.2.1 x.2.2.2.1 x.2.2.2.2.1 x.2.2.2.2.2.1 x.2.2.2.2.2.2 (fun v0 v1 v8 v9 v19 v20 h0 => K (.exit 0) (S6 v0 v1 v8 v9 v19 v20 h0))
  | none => none
noncomputable def D : Ctx := ({ P := Try.prog, G := [(72, bits_such.spec)], globs := [], hints := [(8, ⟨[0, 1, 7, 8, 9, 10, 19, 20], [], [6], [(0, .sl (.ints .u8 []))]⟩), (6, ⟨[0, 1, 7, 8, 9, 19, 20], [], [6], [(0, .sl (.ints .u8 []))]⟩)], loops := [(8, L8), (6, L6)], inl := [] } : Ctx)
def E8 (K : AExit → ASt → Option R) : (((List Int) × Int × Int × Int × Int × Int × Int × (List Int))) → Option R := (fun x => K (.exit 2) (S8 x.1 x.2.1 x.2.2.1 x.2.2.2.1 x.2.2.2.2.1 x.2.2.2.2.2.1 x.2.2.2.2.2.2.1 x.2.2.2.2.2.2.2))
theorem round8 (K : AExit → ASt → Option R) (next : ASt → Option R) (x : (List Int) × Int × Int × Int × Int × Int × Int × (List Int)) : roundA D (loopAt Try.f43 8) K next (S8 x.1 x.2.1 x.2.2.1 x.2.2.2.1 x.2.2.2.2.1 x.2.2.2.2.2.1 x.2.2.2.2.2.2.1 x.2.2.2.2.2.2.2) = (fun (x : (List Int) × Int × Int × Int × Int × Int × Int × (List Int)) (next : ((List Int) × Int × Int × Int × Int × Int × Int × (List Int)) → Option R) (ex : (((List Int) × Int × Int × Int × Int × Int × Int × (List Int))) → Option R) => P.bits_Unpack_r8 x.1 x.2.1 x.2.2.1 x.2.2.2.1 x.2.2.2.2.1 x.2.2.2.2.2.1 x.2.2.2.2.2.2.1 x.2.2.2.2.2.2.2 (fun v0 v1 v8 v9 v10 v19 v20 h0 => next (v0, v1, v8, v9, v10, v19, v20, h0)) (fun v0 v1 v8 v9 v10 v19 v20 h0 => ex ((v0, v1, v8, v9, v10, v19, v20, h0)))) x (fun x => next (S8 x.1 x.2.1 x.2.2.1 x.2.2.2.1 x.2.2.2.2.1 x.2.2.2.2.2.1 x.2.2.2.2.2.2.1 x.2.2.2.2.2.2.2)) (E8 K) := by kernel_rfl
theorem lq8 (st : ASt) (K : AExit → ASt → Option R) : L8 st K = vMap (V8 st) (fun x => lp (fun (x : (List Int) × Int × Int × Int × Int × Int × Int × (List Int)) (next : ((List Int) × Int × Int × Int × Int × Int × Int × (List Int)) → Option R) (ex : (((List Int) × Int × Int × Int × Int × Int × Int × (List Int))) → Option R) => P.bits_Unpack_r8 x.1 x.2.1 x.2.2.1 x.2.2.2.1 x.2.2.2.2.1 x.2.2.2.2.2.1 x.2.2.2.2.2.2.1 x.2.2.2.2.2.2.2 (fun v0 v1 v8 v9 v10 v19 v20 h0 => next (v0, v1, v8, v9, v10, v19, v20, h0)) (fun v0 v1 v8 v9 v10 v19 v20 h0 => ex ((v0, v1, v8, v9, v10, v19, v20, h0)))) x (E8 K)) := by
  unfold L8
  cases V8 st with
  | none => rfl
  | some x => simp only [P.bits_Unpack_l8_eq]; rfl
theorem loop8 : LoopOk D (loopAt Try.f43 8) := loopOk_lp (X := (List Int) × Int × Int × Int × Int × Int × Int × (List Int)) (Y := ((List Int) × Int × Int × Int × Int × Int × Int × (List Int))) (fun x => S8 x.1 x.2.1 x.2.2.1 x.2.2.2.1 x.2.2.2.2.1 x.2.2.2.2.2.1 x.2.2.2.2.2.2.1 x.2.2.2.2.2.2.2) V8_ok (stp := (fun (x : (List Int) × Int × Int × Int × Int × Int × Int × (List Int)) (next : ((List Int) × Int × Int × Int × Int × Int × Int × (List Int)) → Option R) (ex : (((List Int) × Int × Int × Int × Int × Int × Int × (List Int))) → Option R) => P.bits_Unpack_r8 x.1 x.2.1 x.2.2.1 x.2.2.2.1 x.2.2.2.2.1 x.2.2.2.2.2.1 x.2.2.2.2.2.2.1 x.2.2.2.2.2.2.2 (fun v0 v1 v8 v9 v10 v19 v20 h0 => next (v0, v1, v8, v9, v10, v19, v20, h0)) (fun v0 v1 v8 v9 v10 v19 v20 h0 => ex ((v0, v1, v8, v9, v10, v19, v20, h0))))) (enc := E8) (L := L8) (by kernel_rfl) lq8 round8
def E6 (K : AExit → ASt → Option R) : (((List Int) × Int × Int × Int × Int × Int × (List Int))) → Option R := (fun x => K (.exit 0) (S6 x.1 x.2.1 x.2.2.1 x.2.2.2.1 x.2.2.2.2.1 x.2.2.2.2.2.1 x.2.2.2.2.2.2))
theorem round6 (K : AExit → ASt → Option R) (next : ASt → Option R) (x : (List Int) × Int × Int × Int × Int × Int × (List Int)) : roundA D (loopAt Try.f43 6) K next (S6 x.1 x.2.1 x.2.2.1 x.2.2.2.1 x.2.2.2.2.1 x.2.2.2.2.2.1 x.2.2.2.2.2.2) = (fun (x : (List Int) × Int × Int × Int × Int × Int × (List Int)) (next : ((List Int) × Int × Int × Int × Int × Int × (List Int)) → Option R) (ex : (((List Int) × Int × Int × Int × Int × Int × (List Int))) → Option R) => P.bits_Unpack_r6 x.1 x.2.1 x.2.2.1 x.2.2.2.1 x.2.2.2.2.1 x.2.2.2.2.2.1 x.2.2.2.2.2.2 (fun v0 v1 v8 v9 v19 v20 h0 => next (v0, v1, v8, v9, v19, v20, h0)) (fun v0 v1 v8 v9 v19 v20 h0 => ex ((v0, v1, v8, v9, v19, v20, h0)))) x (fun x => next (S6 x.1 x.2.1 x.2.2.1 x.2.2.2.1 x.2.2.2.2.1 x.2.2.2.2.2.1 x.2.2.2.2.2.2)) (E6 K) := by kernel_rfl
theorem lq6 (st : ASt) (K : AExit → ASt → Option R) : L6 st K = vMap (V6 st) (fun x => lp (fun (x : (List Int) × Int × Int × Int × Int × Int × (List Int)) (next : ((List Int) × Int × Int × Int × Int × Int × (List Int)) → Option R) (ex : (((List Int) × Int × Int × Int × Int × Int × (List Int))) → Option R) => P.bits_Unpack_r6 x.1 x.2.1 x.2.2.1 x.2.2.2.1 x.2.2.2.2.1 x.2.2.2.2.2.1 x.2.2.2.2.2.2 (fun v0 v1 v8 v9 v19 v20 h0 => next (v0, v1, v8, v9, v19, v20, h0)) (fun v0 v1 v8 v9 v19 v20 h0 => ex ((v0, v1, v8, v9, v19, v20, h0)))) x (E6 K)) := by
  unfold L6
  cases V6 st with
  | none => rfl
  | some x => simp only [P.bits_Unpack_l6_eq]; rfl
theorem loop6 : LoopOk D (loopAt Try.f43 6) := loopOk_lp (X := (List Int) × Int × Int × Int × Int × Int × (List Int)) (Y := ((List Int) × Int × Int × Int × Int × Int × (List Int))) (fun x => S6 x.1 x.2.1 x.2.2.1 x.2.2.2.1 x.2.2.2.2.1 x.2.2.2.2.2.1 x.2.2.2.2.2.2) V6_ok (stp := (fun (x : (List Int) × Int × Int × Int × Int × Int × (List Int)) (next : ((List Int) × Int × Int × Int × Int × Int × (List Int)) → Option R) (ex : (((List Int) × Int × Int × Int × Int × Int × (List Int))) → Option R) => P.bits_Unpack_r6 x.1 x.2.1 x.2.2.1 x.2.2.2.1 x.2.2.2.2.1 x.2.2.2.2.2.1 x.2.2.2.2.2.2 (fun v0 v1 v8 v9 v19 v20 h0 => next (v0, v1, v8, v9, v19, v20, h0)) (fun v0 v1 v8 v9 v19 v20 h0 => ex ((v0, v1, v8, v9, v19, v20, h0))))) (enc := E6) (L := L6) (by kernel_rfl) lq6 round6
theorem body (a0 : List Int) (a1 : Int) (a2 : Int) (K : AVal → Option R) : bodyA D Try.f43 [.fr 62 (.ints .u32 [])] [.sl (.ints .u8 a0), .v (.int .i64 a1), .v (.int .i64 a2)] K = P.bits_Unpack a0 a1 a2 (fun r0 => K (.fr 62 (.ints .u32 r0))) := by
  rw [P.bits_Unpack_eq]
  kernel_rfl
theorem loops : loopsOf (Try.f43.body.getD .skip) = [loopAt Try.f43 6, loopAt Try.f43 8] := by kernel_rfl
noncomputable def spec0 : Abs.Spec := fun args K => match args with
  | [.sl (.ints .u8 a0), .v (.int .i64 a1), .v (.int .i64 a2)] => P.bits_Unpack a0 a1 a2 (fun r0 => K (.fr 62 (.ints .u32 r0)))
  | _ => none
noncomputable def spec : Abs.Spec := fun args K => spec0 (coerL [.sl (.ints .u8 []), .any, .any] args) K
theorem ok0 : Proved Try.prog [] 43 spec0 := by
  refine proved_of (D := D) (fn := Try.f43) (c := Try.f43.body.getD .skip) [.fr 62 (.ints .u32 [])] (by kernel_rfl) (globsPlain_of (by kernel_rfl)) (by kernel_rfl) (by kernel_rfl) (by kernel_rfl) ⟨bits_such.ok, trivial⟩ trivial ?_ ?_
  · rw [loops]; exact ⟨loop6, loop8, trivial⟩
  · intro args K r h
    unfold spec0 at h
    split at h
    · rw [body]; exact h
    · cases h
theorem ok : Proved Try.prog [] 43 spec := proved_coer _ ok0
end bits_Unpack
end

section
open Go Go.Abs Go.Proofs
set_option maxRecDepth 100000
set_option linter.unusedVariables false
namespace L01_BitsPacks
noncomputable def D : Ctx := ({ P := Try.prog, G := [(19, R01_Same.spec), (29, L01_awake.spec), (38, R01_SameNums.spec), (39, bits_Digits.spec), (40, R01_Digits.spec), (41, bits_Pack.spec), (42, R01_Pack.spec), (43, bits_Unpack.spec), (44, R01_Unpack.spec)], globs := [], hints := [], loops := [], inl := [] } : Ctx)
theorem body (a0 : List Int) (a1 : List Int) (a2 : Int) (a3 : Int) (K : AVal → Option R) : bodyA D Try.f6 [.any] [.sl (.ints .u32 a0), .sl (.ints .u8 a1), .v (.int .i64 a2), .v (.int .i64 a3)] K = P.L01_BitsPacks a0 a1 a2 a3 (fun r0 => K (.v (.bool r0))) := by
  rw [P.L01_BitsPacks_eq]
  kernel_rfl
theorem loops : loopsOf (Try.f6.body.getD .skip) = [] := by kernel_rfl
noncomputable def spec0 : Abs.Spec := fun args K => match args with
  | [.sl (.ints .u32 a0), .sl (.ints .u8 a1), .v (.int .i64 a2), .v (.int .i64 a3)] => P.L01_BitsPacks a0 a1 a2 a3 (fun r0 => K (.v (.bool r0)))
  | _ => none
noncomputable def spec : Abs.Spec := fun args K => spec0 (coerL [.sl (.ints .u32 []), .sl (.ints .u8 []), .any, .any] args) K
theorem ok0 : Proved Try.prog [] 6 spec0 := by
  refine proved_of (D := D) (fn := Try.f6) (c := Try.f6.body.getD .skip) [.any] (by kernel_rfl) (globsPlain_of (by kernel_rfl)) (by kernel_rfl) (by kernel_rfl) (by kernel_rfl) ⟨R01_Same.ok, L01_awake.ok, R01_SameNums.ok, bits_Digits.ok, R01_Digits.ok, bits_Pack.ok, R01_Pack.ok, bits_Unpack.ok, R01_Unpack.ok, trivial⟩ trivial ?_ ?_
  · rw [loops]; exact trivial
  · intro args K r h
    unfold spec0 at h
    split at h
    · rw [body]; exact h
    · cases h
theorem ok : Proved Try.prog [] 6 spec := proved_coer _ ok0
end L01_BitsPacks
end
