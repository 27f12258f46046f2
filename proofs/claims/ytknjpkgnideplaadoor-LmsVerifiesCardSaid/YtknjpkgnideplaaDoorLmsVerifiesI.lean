/-
  LmsVerifies, part I: an interpreter of my own over abstract values, the pure functions, the walks and the plain law.
-/

import Derived.Test.YtknjpkgnideplaaDoorLmsVerifiesG
import Derived.Test.YtknjpkgnideplaaDoorLmsVerifiesF
import Derived.Test.YtknjpkgnideplaaDoorProg
import Derived.Test.YtknjpkgnideplaaDoorLmsVerifiesH
import Derived.KernelRfl

section
open Go Go.Abs Go.Proofs
set_option maxRecDepth 100000
set_option linter.unusedVariables false
namespace lmots_Size
noncomputable def D : Ctx := ({ P := Tryd.prog, G := [(97, lmots_known.spec)], globs := GLO.gB, hints := [], loops := [], inl := [] } : Ctx)
theorem body (a0 : Int) (K : AVal → Option R) : bodyA D Tryd.f51 [.any] [.v (.int .i64 a0)] K = P.lmots_Size a0 (fun r0 => K (.v (.int .i64 r0))) := by
 rw [P.lmots_Size_eq]
 kernel_rfl
theorem loops : loopsOf (Tryd.f51.body.getD .skip) = [] := by kernel_rfl
noncomputable def spec0 : Abs.Spec := fun args K => match args with
 | [.v (.int .i64 a0)] => P.lmots_Size a0 (fun r0 => K (.v (.int .i64 r0)))
 | _ => none
noncomputable def spec : Abs.Spec := spec0
theorem ok0 : Proved Tryd.prog GLO.gB 51 spec0 := by
 refine proved_of (D := D) (fn := Tryd.f51) (c := Tryd.f51.body.getD .skip) [.any] (by kernel_rfl) (globsPlain_of (by kernel_rfl)) (by kernel_rfl) (by kernel_rfl) (by kernel_rfl) ⟨lmots_known.ok, trivial⟩ trivial ?_ ?_
 · rw [loops]; exact trivial
 · intro args K r h
   unfold spec0 at h
   split at h
   · rw [body]; exact h
   · cases h
theorem ok : Proved Tryd.prog GLO.gB 51 spec := ok0
end lmots_Size
end

section
open Go Go.Abs Go.Proofs
set_option maxRecDepth 100000
set_option linter.unusedVariables false
namespace lms_Size
noncomputable def D : Ctx := ({ P := Tryd.prog, G := [(51, lmots_Size.spec), (99, lms_Fit.spec)], globs := GLO.gB, hints := [], loops := [], inl := [] } : Ctx)
theorem body (a0_H : Int) (a0_W : Int) (K : AVal → Option R) : bodyA D Tryd.f98 [.any] [.agg [.v (.int .i64 a0_H), .v (.int .i64 a0_W)]] K = P.lms_Size a0_H a0_W (fun r0 => K (.v (.int .i64 r0))) := by
 rw [P.lms_Size_eq]
 kernel_rfl
theorem loops : loopsOf (Tryd.f98.body.getD .skip) = [] := by kernel_rfl
noncomputable def spec0 : Abs.Spec := fun args K => match args with
 | [.agg [.v (.int .i64 a0_H), .v (.int .i64 a0_W)]] => P.lms_Size a0_H a0_W (fun r0 => K (.v (.int .i64 r0)))
 | _ => none
noncomputable def spec : Abs.Spec := spec0
theorem ok0 : Proved Tryd.prog GLO.gB 98 spec0 := by
 refine proved_of (D := D) (fn := Tryd.f98) (c := Tryd.f98.body.getD .skip) [.any] (by kernel_rfl) (globsPlain_of (by kernel_rfl)) (by kernel_rfl) (by kernel_rfl) (by kernel_rfl) ⟨lmots_Size.ok, lms_Fit.ok, trivial⟩ trivial ?_ ?_
 · rw [loops]; exact trivial
 · intro args K r h
   unfold spec0 at h
   split at h
   · rw [body]; exact h
   · cases h
theorem ok : Proved Tryd.prog GLO.gB 98 spec := ok0
end lms_Size
end

section
open Go Go.Abs Go.Proofs
set_option maxRecDepth 100000
set_option linter.unusedVariables false
namespace bits_Num
abbrev X3 := Int × (List Int) × Int × Int
def S3 : X3 → ASt := fun (v3, v6, v7, v8) => ⟨[(3, .v (.int .u64 v3)), (6, .sl (.ints .u8 v6)), (7, .v (.int .i64 v7)), (8, .v (.int .i64 v8))], [], 0, 19⟩
def V3 : ASt → Option X3
 | ⟨[(3, .v (.int .u64 v3)), (6, .sl (.ints .u8 v6)), (7, .v (.int .i64 v7)), (8, .v (.int .i64 v8))], [], 0, 19⟩ => some (v3, v6, v7, v8)
 | _ => none
theorem V3_ok (st) (x) (h : V3 st = some x) : st = S3 x := by
 unfold V3 at h
 split at h
 · cases h; rfl
 · cases h
abbrev Y3 := X3
noncomputable def T3 : X3 → (X3 → Option R) → (Y3 → Option R) → Option R := fun (v3, v6, v7, v8) next ex => P.bits_Num_r3 v3 v6 v7 v8 (fun v3 v6 v7 v8 => next (v3, v6, v7, v8)) (fun v3 v6 v7 v8 => ex (v3, v6, v7, v8))
def E3 (K : AExit → ASt → Option R) : Y3 → Option R := (fun x => K (.exit 0) (S3 x))
noncomputable def L3 : LSpec := fun st K => vMap (V3 st) fun (v3, v6, v7, v8) => P.bits_Num_l3 v3 v6 v7 v8 (fun v3 v6 v7 v8 => K (.exit 0) (S3 (v3, v6, v7, v8)))
noncomputable def D : Ctx := ({ P := Tryd.prog, G := [], globs := GLO.gB, hints := [(3, ⟨[3, 6, 7, 8], [], [2], [], none, []⟩)], loops := [(3, L3)], inl := [] } : Ctx)
theorem round3 (K) (next) (x) : roundA D (loopAt Tryd.f75 3) K next (S3 x) = T3 x (fun x => next (S3 x)) (E3 K) := by kernel_rfl
theorem lq3 (st) (K) : L3 st K = vMap (V3 st) (fun x => lp T3 x (E3 K)) := by
 unfold L3
 cases V3 st with
 | none => rfl
 | some x => rw [P.bits_Num_l3_eq]; kernel_rfl
theorem loop3 : LoopOk D (loopAt Tryd.f75 3) := loopOk_lp S3 V3_ok (by kernel_rfl) lq3 round3
theorem body (a0 : List Int) (K : AVal → Option R) : bodyA D Tryd.f75 [.any] [.sl (.ints .u8 a0)] K = P.bits_Num a0 (fun r0 => K (.v (.int .u64 r0))) := by
 rw [P.bits_Num_eq]
 kernel_rfl
theorem loops : loopsOf (Tryd.f75.body.getD .skip) = [loopAt Tryd.f75 3] := by kernel_rfl
noncomputable def spec0 : Abs.Spec := fun args K => match args with
 | [.sl (.ints .u8 a0)] => P.bits_Num a0 (fun r0 => K (.v (.int .u64 r0)))
 | _ => none
noncomputable def spec : Abs.Spec := fun args K => spec0 (coerL [.sl (.ints .u8 [])] args) K
theorem ok0 : Proved Tryd.prog GLO.gB 75 spec0 := by
 refine proved_of (D := D) (fn := Tryd.f75) (c := Tryd.f75.body.getD .skip) [.any] (by kernel_rfl) (globsPlain_of (by kernel_rfl)) (by kernel_rfl) (by kernel_rfl) (by kernel_rfl) trivial trivial ?_ ?_
 · rw [loops]; exact ⟨loop3, trivial⟩
 · intro args K r h
   unfold spec0 at h
   split at h
   · rw [body]; exact h
   · cases h
theorem ok : Proved Tryd.prog GLO.gB 75 spec := proved_coer _ ok0
end bits_Num
end

section
open Go Go.Abs Go.Proofs
set_option maxRecDepth 100000
set_option linter.unusedVariables false
namespace bits_Same
abbrev X5 := (List Int) × (List Int) × Int × Int × Int
def S5 : X5 → ASt := fun (v0, v1, v5, v13, v14) => ⟨[(0, .sl (.ints .u8 v0)), (1, .sl (.ints .u8 v1)), (5, .v (.int .u8 v5)), (13, .v (.int .i64 v13)), (14, .v (.int .i64 v14))], [], 0, 31⟩
def V5 : ASt → Option X5
 | ⟨[(0, .sl (.ints .u8 v0)), (1, .sl (.ints .u8 v1)), (5, .v (.int .u8 v5)), (13, .v (.int .i64 v13)), (14, .v (.int .i64 v14))], [], 0, 31⟩ => some (v0, v1, v5, v13, v14)
 | _ => none
theorem V5_ok (st) (x) (h : V5 st = some x) : st = S5 x := by
 unfold V5 at h
 split at h
 · cases h; rfl
 · cases h
abbrev Y5 := X5
noncomputable def T5 : X5 → (X5 → Option R) → (Y5 → Option R) → Option R := fun (v0, v1, v5, v13, v14) next ex => P.bits_Same_r5 v0 v1 v5 v13 v14 (fun v0 v1 v5 v13 v14 => next (v0, v1, v5, v13, v14)) (fun v0 v1 v5 v13 v14 => ex (v0, v1, v5, v13, v14))
def E5 (K : AExit → ASt → Option R) : Y5 → Option R := (fun x => K (.exit 0) (S5 x))
noncomputable def L5 : LSpec := fun st K => vMap (V5 st) fun (v0, v1, v5, v13, v14) => P.bits_Same_l5 v0 v1 v5 v13 v14 (fun v0 v1 v5 v13 v14 => K (.exit 0) (S5 (v0, v1, v5, v13, v14)))
noncomputable def D : Ctx := ({ P := Tryd.prog, G := [], globs := GLO.gB, hints := [(5, ⟨[0, 1, 5, 13, 14], [], [4], [], none, []⟩)], loops := [(5, L5)], inl := [] } : Ctx)
theorem round5 (K) (next) (x) : roundA D (loopAt Tryd.f74 5) K next (S5 x) = T5 x (fun x => next (S5 x)) (E5 K) := by kernel_rfl
theorem lq5 (st) (K) : L5 st K = vMap (V5 st) (fun x => lp T5 x (E5 K)) := by
 unfold L5
 cases V5 st with
 | none => rfl
 | some x => rw [P.bits_Same_l5_eq]; kernel_rfl
theorem loop5 : LoopOk D (loopAt Tryd.f74 5) := loopOk_lp S5 V5_ok (by kernel_rfl) lq5 round5
theorem body (a0 : List Int) (a1 : List Int) (K : AVal → Option R) : bodyA D Tryd.f74 [.any] [.sl (.ints .u8 a0), .sl (.ints .u8 a1)] K = P.bits_Same a0 a1 (fun r0 => K (.v (.bool r0))) := by
 rw [P.bits_Same_eq]
 kernel_rfl
theorem loops : loopsOf (Tryd.f74.body.getD .skip) = [loopAt Tryd.f74 5] := by kernel_rfl
noncomputable def spec0 : Abs.Spec := fun args K => match args with
 | [.sl (.ints .u8 a0), .sl (.ints .u8 a1)] => P.bits_Same a0 a1 (fun r0 => K (.v (.bool r0)))
 | _ => none
noncomputable def spec : Abs.Spec := fun args K => spec0 (coerL [.sl (.ints .u8 []), .sl (.ints .u8 [])] args) K
theorem ok0 : Proved Tryd.prog GLO.gB 74 spec0 := by
 refine proved_of (D := D) (fn := Tryd.f74) (c := Tryd.f74.body.getD .skip) [.any] (by kernel_rfl) (globsPlain_of (by kernel_rfl)) (by kernel_rfl) (by kernel_rfl) (by kernel_rfl) trivial trivial ?_ ?_
 · rw [loops]; exact ⟨loop5, trivial⟩
 · intro args K r h
   unfold spec0 at h
   split at h
   · rw [body]; exact h
   · cases h
theorem ok : Proved Tryd.prog GLO.gB 74 spec := proved_coer _ ok0
end bits_Same
end
