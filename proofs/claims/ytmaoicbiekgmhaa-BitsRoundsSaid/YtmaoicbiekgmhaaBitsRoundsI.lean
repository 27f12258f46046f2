/-
  BitsRounds, part I: an interpreter of my own over abstract values, the pure functions, the walks and the plain law.
-/

import Derived.Test.YtmaoicbiekgmhaaBitsRoundsG
import Derived.Test.YtmaoicbiekgmhaaBitsRoundsF
import Derived.Test.YtmaoicbiekgmhaaBitsRoundsH
import Derived.Test.YtmaoicbiekgmhaaProg
import Derived.KernelRfl

section
open Go Go.Abs Go.Proofs
set_option maxRecDepth 100000
set_option linter.unusedVariables false
namespace slices_Grow_byte
noncomputable def D : Ctx := ({ P := Try.prog, G := [], globs := [], hints := [], loops := [], inl := [] } : Ctx)
theorem body (a1 : Int) (K : AVal → Option R) : bodyW D Try.f87 5 (.ints .u8 []) [.v (.slice none 0 0), .v (.int .i64 a1)] K = P.slices_Grow_byte a1 (fun r0 => K (.fr 5 (.ints .u8 r0))) := by
  rw [P.slices_Grow_byte_eq]
  kernel_rfl
theorem loops : loopsOf (Try.f87.body.getD .skip) = [] := by kernel_rfl
noncomputable def spec0 : Abs.Spec := fun args K => match args with
  | [.v (.slice none 0 0), .v (.int .i64 a1)] => P.slices_Grow_byte a1 (fun r0 => K (.fr 5 (.ints .u8 r0)))
  | _ => none
noncomputable def spec : Abs.Spec := spec0
theorem ok0 : Proved Try.prog [] 87 spec0 := by
  refine provedW_of (D := D) (fn := Try.f87) (c := Try.f87.body.getD .skip) 5 (.ints .u8 []) (by kernel_rfl) (globsPlain_of (by kernel_rfl)) (by kernel_rfl) (by kernel_rfl) (by kernel_rfl) trivial trivial ?_ ?_
  · rw [loops]; exact trivial
  · intro args K r h
    unfold spec0 at h
    split at h
    · rw [body]; exact h
    · cases h
theorem ok : Proved Try.prog [] 87 spec := ok0
end slices_Grow_byte
end

section
open Go Go.Abs Go.Proofs
set_option maxRecDepth 100000
set_option linter.unusedVariables false
namespace slices_Concat_byte
def S3 (v0 : List (List Int)) (v3 : Int) (v9 : List (List Int)) (v10 : Int) (v11 : Int) : ASt := ⟨[(0, .sl (.rows .u8 v0)), (3, .v (.int .i64 v3)), (9, .sl (.rows .u8 v9)), (10, .v (.int .i64 v10)), (11, .v (.int .i64 v11))], [], 0, 36⟩
def V3 : ASt → Option ((List (List Int)) × Int × (List (List Int)) × Int × Int)
  | ⟨[(0, .sl (.rows .u8 v0)), (3, .v (.int .i64 v3)), (9, .sl (.rows .u8 v9)), (10, .v (.int .i64 v10)), (11, .v (.int .i64 v11))], [], 0, 36⟩ => some (v0, v3, v9, v10, v11)
  | _ => none
theorem V3_ok (st : ASt) (x : (List (List Int)) × Int × (List (List Int)) × Int × Int) (h : V3 st = some x) : st = S3 x.1 x.2.1 x.2.2.1 x.2.2.2.1 x.2.2.2.2 := by
  unfold V3 at h
  split at h
  · cases h; rfl
  · cases h
def S11 (v25 : List (List Int)) (v26 : Int) (v27 : Int) (h1 : List Int) : ASt := ⟨[(6, .own 1), (25, .sl (.rows .u8 v25)), (26, .v (.int .i64 v26)), (27, .v (.int .i64 v27))], [(1, some ⟨.row 5 (.ints .u8 h1), false⟩), (0, none)], 2, 36⟩
def V11 : ASt → Option ((List (List Int)) × Int × Int × (List Int))
  | ⟨[(6, .own 1), (25, .sl (.rows .u8 v25)), (26, .v (.int .i64 v26)), (27, .v (.int .i64 v27))], [(1, some ⟨.row 5 (.ints .u8 h1), false⟩), (0, none)], 2, 36⟩ => some (v25, v26, v27, h1)
  | _ => none
theorem V11_ok (st : ASt) (x : (List (List Int)) × Int × Int × (List Int)) (h : V11 st = some x) : st = S11 x.1 x.2.1 x.2.2.1 x.2.2.2 := by
  unfold V11 at h
  split at h
  · cases h; rfl
  · cases h
noncomputable def L3 : LSpec := fun st K => match V3 st with
  | some x => P.slices_Concat_byte_l3 x.1 x.2.1 x.2.2.1 x.2.2.2.1 x.2.2.2.2 (fun v0 v3 v9 v10 v11 => K (.exit 0) (S3 v0 v3 v9 v10 v11))
  | none => none
noncomputable def L11 : LSpec := fun st K => match V11 st with
  | some x => P.slices_Concat_byte_l11 x.1 x.2.1 x.2.2.1 x.2.2.2 (fun v25 v26 v27 h1 => K (.exit 2) (S11 v25 v26 v27 h1))
  | none => none
noncomputable def D : Ctx := ({ P := Try.prog, G := [(87, slices_Grow_byte.spec)], globs := [], hints := [(11, ⟨[25, 26, 27], [(6, 5, .ints .u8 [])], [2], []⟩), (3, ⟨[0, 3, 9, 10, 11], [], [2], []⟩)], loops := [(3, L3), (11, L11)], inl := [] } : Ctx)
def E3 (K : AExit → ASt → Option R) : (((List (List Int)) × Int × (List (List Int)) × Int × Int)) → Option R := (fun x => K (.exit 0) (S3 x.1 x.2.1 x.2.2.1 x.2.2.2.1 x.2.2.2.2))
theorem round3 (K : AExit → ASt → Option R) (next : ASt → Option R) (x : (List (List Int)) × Int × (List (List Int)) × Int × Int) : roundA D (loopAt Try.f77 3) K next (S3 x.1 x.2.1 x.2.2.1 x.2.2.2.1 x.2.2.2.2) = (fun (x : (List (List Int)) × Int × (List (List Int)) × Int × Int) (next : ((List (List Int)) × Int × (List (List Int)) × Int × Int) → Option R) (ex : (((List (List Int)) × Int × (List (List Int)) × Int × Int)) → Option R) => P.slices_Concat_byte_r3 x.1 x.2.1 x.2.2.1 x.2.2.2.1 x.2.2.2.2 (fun v0 v3 v9 v10 v11 => next (v0, v3, v9, v10, v11)) (fun v0 v3 v9 v10 v11 => ex ((v0, v3, v9, v10, v11)))) x (fun x => next (S3 x.1 x.2.1 x.2.2.1 x.2.2.2.1 x.2.2.2.2)) (E3 K) := by kernel_rfl
theorem lq3 (st : ASt) (K : AExit → ASt → Option R) : L3 st K = vMap (V3 st) (fun x => lp (fun (x : (List (List Int)) × Int × (List (List Int)) × Int × Int) (next : ((List (List Int)) × Int × (List (List Int)) × Int × Int) → Option R) (ex : (((List (List Int)) × Int × (List (List Int)) × Int × Int)) → Option R) => P.slices_Concat_byte_r3 x.1 x.2.1 x.2.2.1 x.2.2.2.1 x.2.2.2.2 (fun v0 v3 v9 v10 v11 => next (v0, v3, v9, v10, v11)) (fun v0 v3 v9 v10 v11 => ex ((v0, v3, v9, v10, v11)))) x (E3 K)) := by
  unfold L3
  cases V3 st with
  | none => rfl
  | some x => simp only [P.slices_Concat_byte_l3_eq]; rfl
theorem loop3 : LoopOk D (loopAt Try.f77 3) := loopOk_lp (X := (List (List Int)) × Int × (List (List Int)) × Int × Int) (Y := ((List (List Int)) × Int × (List (List Int)) × Int × Int)) (fun x => S3 x.1 x.2.1 x.2.2.1 x.2.2.2.1 x.2.2.2.2) V3_ok (stp := (fun (x : (List (List Int)) × Int × (List (List Int)) × Int × Int) (next : ((List (List Int)) × Int × (List (List Int)) × Int × Int) → Option R) (ex : (((List (List Int)) × Int × (List (List Int)) × Int × Int)) → Option R) => P.slices_Concat_byte_r3 x.1 x.2.1 x.2.2.1 x.2.2.2.1 x.2.2.2.2 (fun v0 v3 v9 v10 v11 => next (v0, v3, v9, v10, v11)) (fun v0 v3 v9 v10 v11 => ex ((v0, v3, v9, v10, v11))))) (enc := E3) (L := L3) (by kernel_rfl) lq3 round3
def E11 (K : AExit → ASt → Option R) : (((List (List Int)) × Int × Int × (List Int))) → Option R := (fun x => K (.exit 2) (S11 x.1 x.2.1 x.2.2.1 x.2.2.2))
theorem round11 (K : AExit → ASt → Option R) (next : ASt → Option R) (x : (List (List Int)) × Int × Int × (List Int)) : roundA D (loopAt Try.f77 11) K next (S11 x.1 x.2.1 x.2.2.1 x.2.2.2) = (fun (x : (List (List Int)) × Int × Int × (List Int)) (next : ((List (List Int)) × Int × Int × (List Int)) → Option R) (ex : (((List (List Int)) × Int × Int × (List Int))) → Option R) => P.slices_Concat_byte_r11 x.1 x.2.1 x.2.2.1 x.2.2.2 (fun v25 v26 v27 h1 => next (v25, v26, v27, h1)) (fun v25 v26 v27 h1 => ex ((v25, v26, v27, h1)))) x (fun x => next (S11 x.1 x.2.1 x.2.2.1 x.2.2.2)) (E11 K) := by kernel_rfl
theorem lq11 (st : ASt) (K : AExit → ASt → Option R) : L11 st K = vMap (V11 st) (fun x => lp (fun (x : (List (List Int)) × Int × Int × (List Int)) (next : ((List (List Int)) × Int × Int × (List Int)) → Option R) (ex : (((List (List Int)) × Int × Int × (List Int))) → Option R) => P.slices_Concat_byte_r11 x.1 x.2.1 x.2.2.1 x.2.2.2 (fun v25 v26 v27 h1 => next (v25, v26, v27, h1)) (fun v25 v26 v27 h1 => ex ((v25, v26, v27, h1)))) x (E11 K)) := by
  unfold L11
  cases V11 st with
  | none => rfl
  | some x => simp only [P.slices_Concat_byte_l11_eq]; rfl
theorem loop11 : LoopOk D (loopAt Try.f77 11) := loopOk_lp (X := (List (List Int)) × Int × Int × (List Int)) (Y := ((List (List Int)) × Int × Int × (List Int))) (fun x => S11 x.1 x.2.1 x.2.2.1 x.2.2.2) V11_ok (stp := (fun (x : (List (List Int)) × Int × Int × (List Int)) (next : ((List (List Int)) × Int × Int × (List Int)) → Option R) (ex : (((List (List Int)) × Int × Int × (List Int))) → Option R) => P.slices_Concat_byte_r11 x.1 x.2.1 x.2.2.1 x.2.2.2 (fun v25 v26 v27 h1 => next (v25, v26, v27, h1)) (fun v25 v26 v27 h1 => ex ((v25, v26, v27, h1))))) (enc := E11) (L := L11) (by kernel_rfl) lq11 round11
theorem body (a0 : List (List Int)) (K : AVal → Option R) : bodyA D Try.f77 [.fr 5 (.ints .u8 [])] [.sl (.rows .u8 a0)] K = P.slices_Concat_byte a0 (fun r0 => K (.fr 5 (.ints .u8 r0))) := by
  rw [P.slices_Concat_byte_eq]
  kernel_rfl
theorem loops : loopsOf (Try.f77.body.getD .skip) = [loopAt Try.f77 3, loopAt Try.f77 11] := by kernel_rfl
noncomputable def spec0 : Abs.Spec := fun args K => match args with
  | [.sl (.rows .u8 a0)] => P.slices_Concat_byte a0 (fun r0 => K (.fr 5 (.ints .u8 r0)))
  | _ => none
noncomputable def spec : Abs.Spec := fun args K => spec0 (coerL [.sl (.rows .u8 [])] args) K
theorem ok0 : Proved Try.prog [] 77 spec0 := by
  refine proved_of (D := D) (fn := Try.f77) (c := Try.f77.body.getD .skip) [.fr 5 (.ints .u8 [])] (by kernel_rfl) (globsPlain_of (by kernel_rfl)) (by kernel_rfl) (by kernel_rfl) (by kernel_rfl) ⟨slices_Grow_byte.ok, trivial⟩ trivial ?_ ?_
  · rw [loops]; exact ⟨loop3, loop11, trivial⟩
  · intro args K r h
    unfold spec0 at h
    split at h
    · rw [body]; exact h
    · cases h
theorem ok : Proved Try.prog [] 77 spec := proved_coer _ ok0
end slices_Concat_byte
end

section
open Go Go.Abs Go.Proofs
set_option maxRecDepth 100000
set_option linter.unusedVariables false
namespace bits_Join
noncomputable def D : Ctx := ({ P := Try.prog, G := [(77, slices_Concat_byte.spec)], globs := [], hints := [], loops := [], inl := [] } : Ctx)
theorem body (a0 : List (List Int)) (K : AVal → Option R) : bodyA D Try.f53 [.fr 5 (.ints .u8 [])] [.sl (.rows .u8 a0)] K = P.bits_Join a0 (fun r0 => K (.fr 5 (.ints .u8 r0))) := by
  rw [P.bits_Join_eq]
  kernel_rfl
theorem loops : loopsOf (Try.f53.body.getD .skip) = [] := by kernel_rfl
noncomputable def spec0 : Abs.Spec := fun args K => match args with
  | [.sl (.rows .u8 a0)] => P.bits_Join a0 (fun r0 => K (.fr 5 (.ints .u8 r0)))
  | _ => none
noncomputable def spec : Abs.Spec := fun args K => spec0 (coerL [.sl (.rows .u8 [])] args) K
theorem ok0 : Proved Try.prog [] 53 spec0 := by
  refine proved_of (D := D) (fn := Try.f53) (c := Try.f53.body.getD .skip) [.fr 5 (.ints .u8 [])] (by kernel_rfl) (globsPlain_of (by kernel_rfl)) (by kernel_rfl) (by kernel_rfl) (by kernel_rfl) ⟨slices_Concat_byte.ok, trivial⟩ trivial ?_ ?_
  · rw [loops]; exact trivial
  · intro args K r h
    unfold spec0 at h
    split at h
    · rw [body]; exact h
    · cases h
theorem ok : Proved Try.prog [] 53 spec := proved_coer _ ok0
end bits_Join
end

section
open Go Go.Abs Go.Proofs
set_option maxRecDepth 100000
set_option linter.unusedVariables false
namespace bits_Num
def S3 (v3 : Int) (v6 : List Int) (v7 : Int) (v8 : Int) : ASt := ⟨[(3, .v (.int .u64 v3)), (6, .sl (.ints .u8 v6)), (7, .v (.int .i64 v7)), (8, .v (.int .i64 v8))], [], 0, 19⟩
def V3 : ASt → Option (Int × (List Int) × Int × Int)
  | ⟨[(3, .v (.int .u64 v3)), (6, .sl (.ints .u8 v6)), (7, .v (.int .i64 v7)), (8, .v (.int .i64 v8))], [], 0, 19⟩ => some (v3, v6, v7, v8)
  | _ => none
theorem V3_ok (st : ASt) (x : Int × (List Int) × Int × Int) (h : V3 st = some x) : st = S3 x.1 x.2.1 x.2.2.1 x.2.2.2 := by
  unfold V3 at h
  split at h
  · cases h; rfl
  · cases h
noncomputable def L3 : LSpec := fun st K => match V3 st with
  | some x => P.bits_Num_l3 x.1 x.2.1 x.2.2.1 x.2.2.2 (fun v3 v6 v7 v8 => K (.exit 0) (S3 v3 v6 v7 v8))
  | none => none
noncomputable def D : Ctx := ({ P := Try.prog, G := [], globs := [], hints := [(3, ⟨[3, 6, 7, 8], [], [2], []⟩)], loops := [(3, L3)], inl := [] } : Ctx)
def E3 (K : AExit → ASt → Option R) : ((Int × (List Int) × Int × Int)) → Option R := (fun x => K (.exit 0) (S3 x.1 x.2.1 x.2.2.1 x.2.2.2))
theorem round3 (K : AExit → ASt → Option R) (next : ASt → Option R) (x : Int × (List Int) × Int × Int) : roundA D (loopAt Try.f34 3) K next (S3 x.1 x.2.1 x.2.2.1 x.2.2.2) = (fun (x : Int × (List Int) × Int × Int) (next : (Int × (List Int) × Int × Int) → Option R) (ex : ((Int × (List Int) × Int × Int)) → Option R) => P.bits_Num_r3 x.1 x.2.1 x.2.2.1 x.2.2.2 (fun v3 v6 v7 v8 => next (v3, v6, v7, v8)) (fun v3 v6 v7 v8 => ex ((v3, v6, v7, v8)))) x (fun x => next (S3 x.1 x.2.1 x.2.2.1 x.2.2.2)) (E3 K) := by kernel_rfl
theorem lq3 (st : ASt) (K : AExit → ASt → Option R) : L3 st K = vMap (V3 st) (fun x => lp (fun (x : Int × (List Int) × Int × Int) (next : (Int × (List Int) × Int × Int) → Option R) (ex : ((Int × (List Int) × Int × Int)) → Option R) => P.bits_Num_r3 x.1 x.2.1 x.2.2.1 x.2.2.2 (fun v3 v6 v7 v8 => next (v3, v6, v7, v8)) (fun v3 v6 v7 v8 => ex ((v3, v6, v7, v8)))) x (E3 K)) := by
  unfold L3
  cases V3 st with
  | none => rfl
  | some x => simp only [P.bits_Num_l3_eq]; rfl
theorem loop3 : LoopOk D (loopAt Try.f34 3) := loopOk_lp (X := Int × (List Int) × Int × Int) (Y := (Int × (List Int) × Int × Int)) (fun x => S3 x.1 x.2.1 x.2.2.1 x.2.2.2) V3_ok (stp := (fun (x : Int × (List Int) × Int × Int) (next : (Int × (List Int) × Int × Int) → Option R) (ex : ((Int × (List Int) × Int × Int)) → Option R) => P.bits_Num_r3 x.1 x.2.1 x.2.2.1 x.2.2.2 (fun v3 v6 v7 v8 => next (v3, v6, v7, v8)) (fun v3 v6 v7 v8 => ex ((v3, v6, v7, v8))))) (enc := E3) (L := L3) (by kernel_rfl) lq3 round3
theorem body (a0 : List Int) (K : AVal → Option R) : bodyA D Try.f34 [.any] [.sl (.ints .u8 a0)] K = P.bits_Num a0 (fun r0 => K (.v (.int .u64 r0))) := by
  rw [P.bits_Num_eq]
  kernel_rfl
theorem loops : loopsOf (Try.f34.body.getD .skip) = [loopAt Try.f34 3] := by kernel_rfl
noncomputable def spec0 : Abs.Spec := fun args K => match args with
  | [.sl (.ints .u8 a0)] => P.bits_Num a0 (fun r0 => K (.v (.int .u64 r0)))
  | _ => none
noncomputable def spec : Abs.Spec := fun args K => spec0 (coerL [.sl (.ints .u8 [])] args) K
theorem ok0 : Proved Try.prog [] 34 spec0 := by
  refine proved_of (D := D) (fn := Try.f34) (c := Try.f34.body.getD .skip) [.any] (by kernel_rfl) (globsPlain_of (by kernel_rfl)) (by kernel_rfl) (by kernel_rfl) (by kernel_rfl) trivial trivial ?_ ?_
  · rw [loops]; exact ⟨loop3, trivial⟩
  · intro args K r h
    unfold spec0 at h
    split at h
    · rw [body]; exact h
    · cases h
theorem ok : Proved Try.prog [] 34 spec := proved_coer _ ok0
end bits_Num
end

section
open Go Go.Abs Go.Proofs
set_option maxRecDepth 100000
set_option linter.unusedVariables false
namespace bits_NumLe
def S3 (v0 : List Int) (v3 : Int) (v7 : Int) (v8 : Int) : ASt := ⟨[(0, .sl (.ints .u8 v0)), (3, .v (.int .u64 v3)), (7, .v (.int .i64 v7)), (8, .v (.int .i64 v8))], [], 0, 23⟩
def V3 : ASt → Option ((List Int) × Int × Int × Int)
  | ⟨[(0, .sl (.ints .u8 v0)), (3, .v (.int .u64 v3)), (7, .v (.int .i64 v7)), (8, .v (.int .i64 v8))], [], 0, 23⟩ => some (v0, v3, v7, v8)
  | _ => none
theorem V3_ok (st : ASt) (x : (List Int) × Int × Int × Int) (h : V3 st = some x) : st = S3 x.1 x.2.1 x.2.2.1 x.2.2.2 := by
  unfold V3 at h
  split at h
  · cases h; rfl
  · cases h
noncomputable def L3 : LSpec := fun st K => match V3 st with
  | some x => P.bits_NumLe_l3 x.1 x.2.1 x.2.2.1 x.2.2.2 (fun v0 v3 v7 v8 => K (.exit 0) (S3 v0 v3 v7 v8))
  | none => none
noncomputable def D : Ctx := ({ P := Try.prog, G := [], globs := [], hints := [(3, ⟨[0, 3, 7, 8], [], [2], []⟩)], loops := [(3, L3)], inl := [] } : Ctx)
def E3 (K : AExit → ASt → Option R) : (((List Int) × Int × Int × Int)) → Option R := (fun x => K (.exit 0) (S3 x.1 x.2.1 x.2.2.1 x.2.2.2))
theorem round3 (K : AExit → ASt → Option R) (next : ASt → Option R) (x : (List Int) × Int × Int × Int) : roundA D (loopAt Try.f36 3) K next (S3 x.1 x.2.1 x.2.2.1 x.2.2.2) = (fun (x : (List Int) × Int × Int × Int) (next : ((List Int) × Int × Int × Int) → Option R) (ex : (((List Int) × Int × Int × Int)) → Option R) => P.bits_NumLe_r3 x.1 x.2.1 x.2.2.1 x.2.2.2 (fun v0 v3 v7 v8 => next (v0, v3, v7, v8)) (fun v0 v3 v7 v8 => ex ((v0, v3, v7, v8)))) x (fun x => next (S3 x.1 x.2.1 x.2.2.1 x.2.2.2)) (E3 K) := by kernel_rfl
theorem lq3 (st : ASt) (K : AExit → ASt → Option R) : L3 st K = vMap (V3 st) (fun x => lp (fun (x : (List Int) × Int × Int × Int) (next : ((List Int) × Int × Int × Int) → Option R) (ex : (((List Int) × Int × Int × Int)) → Option R) => P.bits_NumLe_r3 x.1 x.2.1 x.2.2.1 x.2.2.2 (fun v0 v3 v7 v8 => next (v0, v3, v7, v8)) (fun v0 v3 v7 v8 => ex ((v0, v3, v7, v8)))) x (E3 K)) := by
  unfold L3
  cases V3 st with
  | none => rfl
  | some x => simp only [P.bits_NumLe_l3_eq]; rfl
theorem loop3 : LoopOk D (loopAt Try.f36 3) := loopOk_lp (X := (List Int) × Int × Int × Int) (Y := ((List Int) × Int × Int × Int)) (fun x => S3 x.1 x.2.1 x.2.2.1 x.2.2.2) V3_ok (stp := (fun (x : (List Int) × Int × Int × Int) (next : ((List Int) × Int × Int × Int) → Option R) (ex : (((List Int) × Int × Int × Int)) → Option R) => P.bits_NumLe_r3 x.1 x.2.1 x.2.2.1 x.2.2.2 (fun v0 v3 v7 v8 => next (v0, v3, v7, v8)) (fun v0 v3 v7 v8 => ex ((v0, v3, v7, v8))))) (enc := E3) (L := L3) (by kernel_rfl) lq3 round3
theorem body (a0 : List Int) (K : AVal → Option R) : bodyA D Try.f36 [.any] [.sl (.ints .u8 a0)] K = P.bits_NumLe a0 (fun r0 => K (.v (.int .u64 r0))) := by
  rw [P.bits_NumLe_eq]
  kernel_rfl
theorem loops : loopsOf (Try.f36.body.getD .skip) = [loopAt Try.f36 3] := by kernel_rfl
noncomputable def spec0 : Abs.Spec := fun args K => match args with
  | [.sl (.ints .u8 a0)] => P.bits_NumLe a0 (fun r0 => K (.v (.int .u64 r0)))
  | _ => none
noncomputable def spec : Abs.Spec := fun args K => spec0 (coerL [.sl (.ints .u8 [])] args) K
theorem ok0 : Proved Try.prog [] 36 spec0 := by
  refine proved_of (D := D) (fn := Try.f36) (c := Try.f36.body.getD .skip) [.any] (by kernel_rfl) (globsPlain_of (by kernel_rfl)) (by kernel_rfl) (by kernel_rfl) (by kernel_rfl) trivial trivial ?_ ?_
  · rw [loops]; exact ⟨loop3, trivial⟩
  · intro args K r h
    unfold spec0 at h
    split at h
    · rw [body]; exact h
    · cases h
theorem ok : Proved Try.prog [] 36 spec := proved_coer _ ok0
end bits_NumLe
end

section
open Go Go.Abs Go.Proofs
set_option maxRecDepth 100000
set_option linter.unusedVariables false
namespace L01_BitsRounds
def S7 (v0 : Int) (v1 : List Int) (v27 : Int) (h0 : List Int) (h1 : List Int) : ASt := ⟨[(0, .v (.int .u64 v0)), (1, .sl (.ints .u8 v1)), (5, .own 0), (6, .own 1), (27, .v (.int .i64 v27))], [(0, some ⟨.row 5 (.ints .u8 h0), false⟩), (1, some ⟨.row 5 (.ints .u8 h1), false⟩)], 2, 106⟩
def V7 : ASt → Option (Int × (List Int) × Int × (List Int) × (List Int))
  | ⟨[(0, .v (.int .u64 v0)), (1, .sl (.ints .u8 v1)), (5, .own 0), (6, .own 1), (27, .v (.int .i64 v27))], [(0, some ⟨.row 5 (.ints .u8 h0), false⟩), (1, some ⟨.row 5 (.ints .u8 h1), false⟩)], 2, 106⟩ => some (v0, v1, v27, h0, h1)
  | _ => none
theorem V7_ok (st : ASt) (x : Int × (List Int) × Int × (List Int) × (List Int)) (h : V7 st = some x) : st = S7 x.1 x.2.1 x.2.2.1 x.2.2.2.1 x.2.2.2.2 := by
  unfold V7 at h
  split at h
  · cases h; rfl
  · cases h
def S16 (v0 : Int) (v1 : List Int) (v64 : Int) (v65 : Int) (h1 : List Int) (h0 : List Int) (h2 : List Int) (h3 : List Int) : ASt := ⟨[(0, .v (.int .u64 v0)), (1, .sl (.ints .u8 v1)), (5, .own 0), (6, .own 1), (8, .own 2), (9, .own 3), (64, .v (.int .i64 v64)), (65, .v (.int .i64 v65))], [(1, some ⟨.row 5 (.ints .u8 h1), false⟩), (0, some ⟨.row 5 (.ints .u8 h0), false⟩), (2, some ⟨.row 62 (.ints .u32 h2), false⟩), (3, some ⟨.row 62 (.ints .u32 h3), false⟩)], 4, 106⟩
def V16 : ASt → Option (Int × (List Int) × Int × Int × (List Int) × (List Int) × (List Int) × (List Int))
  | ⟨[(0, .v (.int .u64 v0)), (1, .sl (.ints .u8 v1)), (5, .own 0), (6, .own 1), (8, .own 2), (9, .own 3), (64, .v (.int .i64 v64)), (65, .v (.int .i64 v65))], [(1, some ⟨.row 5 (.ints .u8 h1), false⟩), (0, some ⟨.row 5 (.ints .u8 h0), false⟩), (2, some ⟨.row 62 (.ints .u32 h2), false⟩), (3, some ⟨.row 62 (.ints .u32 h3), false⟩)], 4, 106⟩ => some (v0, v1, v64, v65, h1, h0, h2, h3)
  | _ => none
theorem V16_ok (st : ASt) (x : Int × (List Int) × Int × Int × (List Int) × (List Int) × (List Int) × (List Int)) (h : V16 st = some x) : st = S16 x.1 x.2.1 x.2.2.1 x.2.2.2.1 x.2.2.2.2.1 x.2.2.2.2.2.1 x.2.2.2.2.2.2.1 x.2.2.2.2.2.2.2 := by
  unfold V16 at h
  split at h
  · cases h; rfl
  · cases h
noncomputable def L7 : LSpec := fun st K => match V7 st with
  | some x => P.L01_BitsRounds_l7 x.1 x.2.1 x.2.2.1 x.2.2.2.1 x.2.2.2.2 (fun v0 v1 v27 h0 h1 => K (.exit 0) (S7 v0 v1 v27 h0 h1)) (fun v4 h0 h1 => K .ret ⟨[(4, .v (.bool v4))], [(0, some ⟨.row 5 (.ints .u8 h0), false⟩), (1, some ⟨.row 5 (.ints .u8 h1), false⟩)], 2, 106⟩)
  | none => none
noncomputable def L16 : LSpec := fun st K => match V16 st with
  | some x => P.L01_BitsRounds_l16 x.1 x.2.1 x.2.2.1 x.2.2.2.1 x.2.2.2.2.1 x.2.2.2.2.2.1 x.2.2.2.2.2.2.1 x.2.2.2.2.2.2.2 (fun v0 v1 v64 v65 h1 h0 h2 h3 => K (.exit 2) (S16 v0 v1 v64 v65 h1 h0 h2 h3)) (fun v4 h1 h0 h2 h3 => K .ret ⟨[(4, .v (.bool v4))], [(1, some ⟨.row 5 (.ints .u8 h1), false⟩), (0, some ⟨.row 5 (.ints .u8 h0), false⟩), (2, some ⟨.row 62 (.ints .u32 h2), false⟩), (3, some ⟨.row 62 (.ints .u32 h3), false⟩)], 4, 106⟩)
  | none => none
noncomputable def D : Ctx := ({ P := Try.prog, G := [(29, L01_awake.spec), (30, bits_Be.spec), (32, bits_Le.spec), (34, bits_Num.spec), (36, bits_NumLe.spec), (39, bits_Digits.spec), (53, bits_Join.spec)], globs := [], hints := [(16, ⟨[0, 1, 5, 6, 8, 9, 64, 65], [], [4], []⟩), (7, ⟨[0, 1, 5, 6, 27], [], [4], []⟩)], loops := [(7, L7), (16, L16)], inl := [] } : Ctx)
def E7 (K : AExit → ASt → Option R) : ((Int × (List Int) × Int × (List Int) × (List Int)) ⊕ ((Bool × (List Int) × (List Int)))) → Option R := (Sum.elim (fun x => K (.exit 0) (S7 x.1 x.2.1 x.2.2.1 x.2.2.2.1 x.2.2.2.2)) (fun x => K .ret ⟨[(4, .v (.bool x.1))], [(0, some ⟨.row 5 (.ints .u8 x.2.1), false⟩), (1, some ⟨.row 5 (.ints .u8 x.2.2), false⟩)], 2, 106⟩))
theorem round7 (K : AExit → ASt → Option R) (next : ASt → Option R) (x : Int × (List Int) × Int × (List Int) × (List Int)) : roundA D (loopAt Try.f10 7) K next (S7 x.1 x.2.1 x.2.2.1 x.2.2.2.1 x.2.2.2.2) = (fun (x : Int × (List Int) × Int × (List Int) × (List Int)) (next : (Int × (List Int) × Int × (List Int) × (List Int)) → Option R) (ex : ((Int × (List Int) × Int × (List Int) × (List Int)) ⊕ ((Bool × (List Int) × (List Int)))) → Option R) => P.L01_BitsRounds_r7 x.1 x.2.1 x.2.2.1 x.2.2.2.1 x.2.2.2.2 (fun v0 v1 v27 h0 h1 => next (v0, v1, v27, h0, h1)) (fun v0 v1 v27 h0 h1 => ex (.inl (v0, v1, v27, h0, h1))) (fun v4 h0 h1 => ex (.inr (v4, h0, h1)))) x (fun x => next (S7 x.1 x.2.1 x.2.2.1 x.2.2.2.1 x.2.2.2.2)) (E7 K) := by kernel_rfl
theorem lq7 (st : ASt) (K : AExit → ASt → Option R) : L7 st K = vMap (V7 st) (fun x => lp (fun (x : Int × (List Int) × Int × (List Int) × (List Int)) (next : (Int × (List Int) × Int × (List Int) × (List Int)) → Option R) (ex : ((Int × (List Int) × Int × (List Int) × (List Int)) ⊕ ((Bool × (List Int) × (List Int)))) → Option R) => P.L01_BitsRounds_r7 x.1 x.2.1 x.2.2.1 x.2.2.2.1 x.2.2.2.2 (fun v0 v1 v27 h0 h1 => next (v0, v1, v27, h0, h1)) (fun v0 v1 v27 h0 h1 => ex (.inl (v0, v1, v27, h0, h1))) (fun v4 h0 h1 => ex (.inr (v4, h0, h1)))) x (E7 K)) := by
  unfold L7
  cases V7 st with
  | none => rfl
  | some x => simp only [P.L01_BitsRounds_l7_eq]; rfl
theorem loop7 : LoopOk D (loopAt Try.f10 7) := loopOk_lp (X := Int × (List Int) × Int × (List Int) × (List Int)) (Y := (Int × (List Int) × Int × (List Int) × (List Int)) ⊕ ((Bool × (List Int) × (List Int)))) (fun x => S7 x.1 x.2.1 x.2.2.1 x.2.2.2.1 x.2.2.2.2) V7_ok (stp := (fun (x : Int × (List Int) × Int × (List Int) × (List Int)) (next : (Int × (List Int) × Int × (List Int) × (List Int)) → Option R) (ex : ((Int × (List Int) × Int × (List Int) × (List Int)) ⊕ ((Bool × (List Int) × (List Int)))) → Option R) => P.L01_BitsRounds_r7 x.1 x.2.1 x.2.2.1 x.2.2.2.1 x.2.2.2.2 (fun v0 v1 v27 h0 h1 => next (v0, v1, v27, h0, h1)) (fun v0 v1 v27 h0 h1 => ex (.inl (v0, v1, v27, h0, h1))) (fun v4 h0 h1 => ex (.inr (v4, h0, h1))))) (enc := E7) (L := L7) (by kernel_rfl) lq7 round7
def E16 (K : AExit → ASt → Option R) : ((Int × (List Int) × Int × Int × (List Int) × (List Int) × (List Int) × (List Int)) ⊕ ((Bool × (List Int) × (List Int) × (List Int) × (List Int)))) → Option R := (Sum.elim (fun x => K (.exit 2) (S16 x.1 x.2.1 x.2.2.1 x.2.2.2.1 x.2.2.2.2.1 x.2.2.2.2.2.1 x.2.2.2.2.2.2.1 x.2.2.2.2.2.2.2)) (fun x => K .ret ⟨[(4, .v (.bool x.1))], [(1, some ⟨.row 5 (.ints .u8 x.2.1), false⟩), (0, some ⟨.row 5 (.ints .u8 x.2.2.1), false⟩), (2, some ⟨.row 62 (.ints .u32 x.2.2.2.1), false⟩), (3, some ⟨.row 62 (.ints .u32 x.2.2.2.2), false⟩)], 4, 106⟩))
theorem round16 (K : AExit → ASt → Option R) (next : ASt → Option R) (x : Int × (List Int) × Int × Int × (List Int) × (List Int) × (List Int) × (List Int)) : roundA D (loopAt Try.f10 16) K next (S16 x.1 x.2.1 x.2.2.1 x.2.2.2.1 x.2.2.2.2.1 x.2.2.2.2.2.1 x.2.2.2.2.2.2.1 x.2.2.2.2.2.2.2) = (fun (x : Int × (List Int) × Int × Int × (List Int) × (List Int) × (List Int) × (List Int)) (next : (Int × (List Int) × Int × Int × (List Int) × (List Int) × (List Int) × (List Int)) → Option R) (ex : ((Int × (List Int) × Int × Int × (List Int) × (List Int) × (List Int) × (List Int)) ⊕ ((Bool × (List Int) × (List Int) × (List Int) × (List Int)))) → Option R) => P.L01_BitsRounds_r16 x.1 x.2.1 x.2.2.1 x.2.2.2.1 x.2.2.2.2.1 x.2.2.2.2.2.1 x.2.2.2.2.2.2.1 x.2.2.2.2.2.2.2 (fun v0 v1 v64 v65 h1 h0 h2 h3 => next (v0, v1, v64, v65, h1, h0, h2, h3)) (fun v0 v1 v64 v65 h1 h0 h2 h3 => ex (.inl (v0, v1, v64, v65, h1, h0, h2, h3))) (fun v4 h1 h0 h2 h3 => ex (.inr (v4, h1, h0, h2, h3)))) x (fun x => next (S16 x.1 x.2.1 x.2.2.1 x.2.2.2.1 x.2.2.2.2.1 x.2.2.2.2.2.1 x.2.2.2.2.2.2.1 x.2.2.2.2.2.2.2)) (E16 K) := by kernel_rfl
theorem lq16 (st : ASt) (K : AExit → ASt → Option R) : L16 st K = vMap (V16 st) (fun x => lp (fun (x : Int × (List Int) × Int × Int × (List Int) × (List Int) × (List Int) × (List Int)) (next : (Int × (List Int) × Int × Int × (List Int) × (List Int) × (List Int) × (List Int)) → Option R) (ex : ((Int × (List Int) × Int × Int × (List Int) × (List Int) × (List Int) × (List Int)) ⊕ ((Bool × (List Int) × (List Int) × (List Int) × (List Int)))) → Option R) => P.L01_BitsRounds_r16 x.1 x.2.1 x.2.2.1 x.2.2.2.1 x.2.2.2.2.1 x.2.2.2.2.2.1 x.2.2.2.2.2.2.1 x.2.2.2.2.2.2.2 (fun v0 v1 v64 v65 h1 h0 h2 h3 => next (v0, v1, v64, v65, h1, h0, h2, h3)) (fun v0 v1 v64 v65 h1 h0 h2 h3 => ex (.inl (v0, v1, v64, v65, h1, h0, h2, h3))) (fun v4 h1 h0 h2 h3 => ex (.inr (v4, h1, h0, h2, h3)))) x (E16 K)) := by
  unfold L16
  cases V16 st with
  | none => rfl
  | some x => simp only [P.L01_BitsRounds_l16_eq]; rfl
theorem loop16 : LoopOk D (loopAt Try.f10 16) := loopOk_lp (X := Int × (List Int) × Int × Int × (List Int) × (List Int) × (List Int) × (List Int)) (Y := (Int × (List Int) × Int × Int × (List Int) × (List Int) × (List Int) × (List Int)) ⊕ ((Bool × (List Int) × (List Int) × (List Int) × (List Int)))) (fun x => S16 x.1 x.2.1 x.2.2.1 x.2.2.2.1 x.2.2.2.2.1 x.2.2.2.2.2.1 x.2.2.2.2.2.2.1 x.2.2.2.2.2.2.2) V16_ok (stp := (fun (x : Int × (List Int) × Int × Int × (List Int) × (List Int) × (List Int) × (List Int)) (next : (Int × (List Int) × Int × Int × (List Int) × (List Int) × (List Int) × (List Int)) → Option R) (ex : ((Int × (List Int) × Int × Int × (List Int) × (List Int) × (List Int) × (List Int)) ⊕ ((Bool × (List Int) × (List Int) × (List Int) × (List Int)))) → Option R) => P.L01_BitsRounds_r16 x.1 x.2.1 x.2.2.1 x.2.2.2.1 x.2.2.2.2.1 x.2.2.2.2.2.1 x.2.2.2.2.2.2.1 x.2.2.2.2.2.2.2 (fun v0 v1 v64 v65 h1 h0 h2 h3 => next (v0, v1, v64, v65, h1, h0, h2, h3)) (fun v0 v1 v64 v65 h1 h0 h2 h3 => ex (.inl (v0, v1, v64, v65, h1, h0, h2, h3))) (fun v4 h1 h0 h2 h3 => ex (.inr (v4, h1, h0, h2, h3))))) (enc := E16) (L := L16) (by kernel_rfl) lq16 round16
theorem body (a0 : Int) (a1 : List Int) (K : AVal → Option R) : bodyA D Try.f10 [.any] [.v (.int .u64 a0), .sl (.ints .u8 a1)] K = P.L01_BitsRounds a0 a1 (fun r0 => K (.v (.bool r0))) := by
  rw [P.L01_BitsRounds_eq]
  kernel_rfl
theorem loops : loopsOf (Try.f10.body.getD .skip) = [loopAt Try.f10 7, loopAt Try.f10 16] := by kernel_rfl
noncomputable def spec0 : Abs.Spec := fun args K => match args with
  | [.v (.int .u64 a0), .sl (.ints .u8 a1)] => P.L01_BitsRounds a0 a1 (fun r0 => K (.v (.bool r0)))
  | _ => none
noncomputable def spec : Abs.Spec := fun args K => spec0 (coerL [.any, .sl (.ints .u8 [])] args) K
theorem ok0 : Proved Try.prog [] 10 spec0 := by
  refine proved_of (D := D) (fn := Try.f10) (c := Try.f10.body.getD .skip) [.any] (by kernel_rfl) (globsPlain_of (by kernel_rfl)) (by kernel_rfl) (by kernel_rfl) (by kernel_rfl) ⟨L01_awake.ok, bits_Be.ok, bits_Le.ok, bits_Num.ok, bits_NumLe.ok, bits_Digits.ok, bits_Join.ok, trivial⟩ trivial ?_ ?_
  · rw [loops]; exact ⟨loop7, loop16, trivial⟩
  · intro args K r h
    unfold spec0 at h
    split at h
    · rw [body]; exact h
    · cases h
theorem ok : Proved Try.prog [] 10 spec := proved_coer _ ok0
end L01_BitsRounds
end
