/-
  MacGrows, part M: an interpreter of my own over abstract values, the pure functions, the walks and the plain law.
-/

import Derived.Test.YtjhnljhjpnjieaaDoorMacGrowsH
import Derived.Test.YtjhnljhjpnjieaaDoorMacGrowsF
import Derived.Test.YtjhnljhjpnjieaaDoorProg
import Derived.Test.YtjhnljhjpnjieaaDoorMacGrowsG
import Derived.Test.YtjhnljhjpnjieaaDoorMacGrowsL
import Derived.KernelRfl
import Derived.Test.YtjhnljhjpnjieaaDoorMacGrowsI

section
open Go Go.Abs Go.Proofs
set_option maxRecDepth 100000
set_option linter.unusedVariables false
namespace R08_Squeeze
abbrev X12 := Int × Int × (List Int) × Int × (List Int) × Int × Bool × Int × (List Int) × Int × Bool
def S12 : X12 → ASt := fun (v1, v6, h40, h0_0, h0_1, h0_2, h0_3, h1_0, h1_1, h1_2, h1_3) => ⟨[(8, .own 40), (1, .v (.int .i64 v1)), (2, .ptr 0 0), (4, .ptr 1 0), (6, .v (.int .i64 v6))], [(40, some ⟨.row 5 (.ints .u8 h40), false⟩), (0, some ⟨.box 123 [.v (.int .i64 h0_0), .arr .u64 25 h0_1, .v (.int .i64 h0_2), .v (.bool h0_3)], false⟩), (1, some ⟨.box 123 [.v (.int .i64 h1_0), .arr .u64 25 h1_1, .v (.int .i64 h1_2), .v (.bool h1_3)], false⟩)], 41, 73⟩
def V12 : ASt → Option X12
 | ⟨[(8, .own 40), (1, .v (.int .i64 v1)), (2, .ptr 0 0), (4, .ptr 1 0), (6, .v (.int .i64 v6))], [(40, some ⟨.row 5 (.ints .u8 h40), false⟩), (0, some ⟨.box 123 [.v (.int .i64 h0_0), .arr .u64 25 h0_1, .v (.int .i64 h0_2), .v (.bool h0_3)], false⟩), (1, some ⟨.box 123 [.v (.int .i64 h1_0), .arr .u64 25 h1_1, .v (.int .i64 h1_2), .v (.bool h1_3)], false⟩)], 41, 73⟩ => some (v1, v6, h40, h0_0, h0_1, h0_2, h0_3, h1_0, h1_1, h1_2, h1_3)
 | _ => none
theorem V12_ok (st) (x) (h : V12 st = some x) : st = S12 x := by
 unfold V12 at h
 split at h
 · cases h; rfl
 · cases h
abbrev Y12 := X12
noncomputable def T12 : X12 → (X12 → Option R) → (Y12 → Option R) → Option R := fun (v1, v6, h40, h0_0, h0_1, h0_2, h0_3, h1_0, h1_1, h1_2, h1_3) next ex => P.R08_Squeeze_r12 v1 v6 h40 h0_0 h0_1 h0_2 h0_3 h1_0 h1_1 h1_2 h1_3 (fun v1 v6 h40 h0_0 h0_1 h0_2 h0_3 h1_0 h1_1 h1_2 h1_3 => next (v1, v6, h40, h0_0, h0_1, h0_2, h0_3, h1_0, h1_1, h1_2, h1_3)) (fun v1 v6 h40 h0_0 h0_1 h0_2 h0_3 h1_0 h1_1 h1_2 h1_3 => ex (v1, v6, h40, h0_0, h0_1, h0_2, h0_3, h1_0, h1_1, h1_2, h1_3))
def E12 (K : AExit → ASt → Option R) : Y12 → Option R := (fun x => K (.exit 0) (S12 x))
noncomputable def L12 : LSpec := fun st K => vMap (V12 st) fun (v1, v6, h40, h0_0, h0_1, h0_2, h0_3, h1_0, h1_1, h1_2, h1_3) => P.R08_Squeeze_l12 v1 v6 h40 h0_0 h0_1 h0_2 h0_3 h1_0 h1_1 h1_2 h1_3 (fun v1 v6 h40 h0_0 h0_1 h0_2 h0_3 h1_0 h1_1 h1_2 h1_3 => K (.exit 0) (S12 (v1, v6, h40, h0_0, h0_1, h0_2, h0_3, h1_0, h1_1, h1_2, h1_3)))
noncomputable def D : Ctx := ({ P := Tryd.prog, G := [(101, R08_Rate.spec), (127, R08_Permute.spec), (128, R08_put.spec)], globs := GLO.gC, hints := [(12, ⟨[1, 2, 4, 6], [(8, 5, .ints .u8 [])], [4, 5], [], some (40, [0, 1]), []⟩)], loops := [(12, L12)], inl := [] } : Ctx)
theorem round12 (K) (next) (x) : roundA D (loopAt Tryd.f96 12) K next (S12 x) = T12 x (fun x => next (S12 x)) (E12 K) := by kernel_rfl
theorem lq12 (st) (K) : L12 st K = vMap (V12 st) (fun x => lp T12 x (E12 K)) := by
 unfold L12
 cases V12 st with
 | none => rfl
 | some x => rw [P.R08_Squeeze_l12_eq]; kernel_rfl
theorem loop12 : LoopOk D (loopAt Tryd.f96 12) := loopOk_lp S12 V12_ok (by kernel_rfl) lq12 round12
theorem body (a0_Kind : Int) (a0_Words : List Int) (a0_At : Int) (a0_Out : Bool) (a1 : Int) (K : AVal → Option R) : bodyA D Tryd.f96 [.any, .fr 5 (.ints .u8 [])] [.agg [.v (.int .i64 a0_Kind), .arr .u64 25 a0_Words, .v (.int .i64 a0_At), .v (.bool a0_Out)], .v (.int .i64 a1)] K = P.R08_Squeeze a0_Kind a0_Words a0_At a0_Out a1 (fun r0_Kind r0_Words r0_At r0_Out r1 => K (.tuple [.agg [.v (.int .i64 r0_Kind), .arr .u64 25 r0_Words, .v (.int .i64 r0_At), .v (.bool r0_Out)], .fr 5 (.ints .u8 r1)])) := by
 rw [P.R08_Squeeze_eq]
 kernel_rfl
theorem loops : loopsOf (Tryd.f96.body.getD .skip) = [loopAt Tryd.f96 12] := by kernel_rfl
noncomputable def spec0 : Abs.Spec := fun args K => match args with
 | [.agg [.v (.int .i64 a0_Kind), .arr .u64 25 a0_Words, .v (.int .i64 a0_At), .v (.bool a0_Out)], .v (.int .i64 a1)] => P.R08_Squeeze a0_Kind a0_Words a0_At a0_Out a1 (fun r0_Kind r0_Words r0_At r0_Out r1 => K (.tuple [.agg [.v (.int .i64 r0_Kind), .arr .u64 25 r0_Words, .v (.int .i64 r0_At), .v (.bool r0_Out)], .fr 5 (.ints .u8 r1)]))
 | _ => none
noncomputable def spec : Abs.Spec := spec0
theorem ok0 : Proved Tryd.prog GLO.gC 96 spec0 := by
 refine proved_of (D := D) (fn := Tryd.f96) (c := Tryd.f96.body.getD .skip) [.any, .fr 5 (.ints .u8 [])] (by kernel_rfl) (globsPlain_of (by kernel_rfl)) (by kernel_rfl) (by kernel_rfl) (by kernel_rfl) ⟨R08_Rate.ok, R08_Permute.ok, R08_put.ok, trivial⟩ trivial ?_ ?_
 · rw [loops]; exact ⟨loop12, trivial⟩
 · intro args K r h
   unfold spec0 at h
   split at h
   · rw [body]; exact h
   · cases h
theorem ok : Proved Tryd.prog GLO.gC 96 spec := ok0
end R08_Squeeze
end

section
open Go Go.Abs Go.Proofs
set_option maxRecDepth 100000
set_option linter.unusedVariables false
namespace R08_Sum
noncomputable def D : Ctx := ({ P := Tryd.prog, G := [(95, R08_New.spec), (96, R08_Squeeze.spec), (97, R08_Absorb.spec)], globs := GLO.gC, hints := [], loops := [], inl := [] } : Ctx)
theorem body (a0 : Int) (a1 : List Int) (a2 : Int) (K : AVal → Option R) : bodyA D Tryd.f54 [.fr 5 (.ints .u8 []), .any] [.v (.int .i64 a0), .sl (.ints .u8 a1), .v (.int .i64 a2)] K = P.R08_Sum a0 a1 a2 (fun r0 r1 => K (.tuple [.fr 5 (.ints .u8 r0), .v (.int .i64 r1)])) := by
 rw [P.R08_Sum_eq]
 kernel_rfl
theorem loops : loopsOf (Tryd.f54.body.getD .skip) = [] := by kernel_rfl
noncomputable def spec0 : Abs.Spec := fun args K => match args with
 | [.v (.int .i64 a0), .sl (.ints .u8 a1), .v (.int .i64 a2)] => P.R08_Sum a0 a1 a2 (fun r0 r1 => K (.tuple [.fr 5 (.ints .u8 r0), .v (.int .i64 r1)]))
 | _ => none
noncomputable def spec : Abs.Spec := fun args K => spec0 (coerL [.any, .sl (.ints .u8 []), .any] args) K
theorem ok0 : Proved Tryd.prog GLO.gC 54 spec0 := by
 refine proved_of (D := D) (fn := Tryd.f54) (c := Tryd.f54.body.getD .skip) [.fr 5 (.ints .u8 []), .any] (by kernel_rfl) (globsPlain_of (by kernel_rfl)) (by kernel_rfl) (by kernel_rfl) (by kernel_rfl) ⟨R08_New.ok, R08_Squeeze.ok, R08_Absorb.ok, trivial⟩ trivial ?_ ?_
 · rw [loops]; exact trivial
 · intro args K r h
   unfold spec0 at h
   split at h
   · rw [body]; exact h
   · cases h
theorem ok : Proved Tryd.prog GLO.gC 54 spec := proved_coer _ ok0
end R08_Sum
end

section
open Go Go.Abs Go.Proofs
set_option maxRecDepth 100000
set_option linter.unusedVariables false
namespace R09_Size
noncomputable def D : Ctx := ({ P := Tryd.prog, G := [], globs := GLO.gC, hints := [], loops := [], inl := [] } : Ctx)
theorem body (a0 : Int) (K : AVal → Option R) : bodyA D Tryd.f17 [.any] [.v (.int .i64 a0)] K = P.R09_Size a0 (fun r0 => K (.v (.int .i64 r0))) := by
 rw [P.R09_Size_eq]
 kernel_rfl
theorem loops : loopsOf (Tryd.f17.body.getD .skip) = [] := by kernel_rfl
noncomputable def spec0 : Abs.Spec := fun args K => match args with
 | [.v (.int .i64 a0)] => P.R09_Size a0 (fun r0 => K (.v (.int .i64 r0)))
 | _ => none
noncomputable def spec : Abs.Spec := spec0
theorem ok0 : Proved Tryd.prog GLO.gC 17 spec0 := by
 refine proved_of (D := D) (fn := Tryd.f17) (c := Tryd.f17.body.getD .skip) [.any] (by kernel_rfl) (globsPlain_of (by kernel_rfl)) (by kernel_rfl) (by kernel_rfl) (by kernel_rfl) trivial trivial ?_ ?_
 · rw [loops]; exact trivial
 · intro args K r h
   unfold spec0 at h
   split at h
   · rw [body]; exact h
   · cases h
theorem ok : Proved Tryd.prog GLO.gC 17 spec := ok0
end R09_Size
end

section
open Go Go.Abs Go.Proofs
set_option maxRecDepth 100000
set_option linter.unusedVariables false
namespace R09_Digest
noncomputable def D : Ctx := ({ P := Tryd.prog, G := [(17, R09_Size.spec), (53, R07_Sum.spec), (54, R08_Sum.spec)], globs := GLO.gC, hints := [], loops := [], inl := [] } : Ctx)
theorem body (a0 : Int) (a1 : List Int) (K : AVal → Option R) : bodyA D Tryd.f12 [.fr 5 (.ints .u8 []), .any] [.v (.int .i64 a0), .sl (.ints .u8 a1)] K = P.R09_Digest a0 a1 (fun r0 r1 => K (.tuple [.fr 5 (.ints .u8 r0), .v (.int .i64 r1)])) := by
 rw [P.R09_Digest_eq]
 kernel_rfl
theorem loops : loopsOf (Tryd.f12.body.getD .skip) = [] := by kernel_rfl
noncomputable def spec0 : Abs.Spec := fun args K => match args with
 | [.v (.int .i64 a0), .sl (.ints .u8 a1)] => P.R09_Digest a0 a1 (fun r0 r1 => K (.tuple [.fr 5 (.ints .u8 r0), .v (.int .i64 r1)]))
 | _ => none
noncomputable def spec : Abs.Spec := fun args K => spec0 (coerL [.any, .sl (.ints .u8 [])] args) K
theorem ok0 : Proved Tryd.prog GLO.gC 12 spec0 := by
 refine proved_of (D := D) (fn := Tryd.f12) (c := Tryd.f12.body.getD .skip) [.fr 5 (.ints .u8 []), .any] (by kernel_rfl) (globsPlain_of (by kernel_rfl)) (by kernel_rfl) (by kernel_rfl) (by kernel_rfl) ⟨R09_Size.ok, R07_Sum.ok, R08_Sum.ok, trivial⟩ trivial ?_ ?_
 · rw [loops]; exact trivial
 · intro args K r h
   unfold spec0 at h
   split at h
   · rw [body]; exact h
   · cases h
theorem ok : Proved Tryd.prog GLO.gC 12 spec := proved_coer _ ok0
end R09_Digest
end

section
open Go Go.Abs Go.Proofs
set_option maxRecDepth 100000
set_option linter.unusedVariables false
namespace R09_block
noncomputable def D : Ctx := ({ P := Tryd.prog, G := [(100, R07_Block.spec), (101, R08_Rate.spec)], globs := GLO.gC, hints := [], loops := [], inl := [] } : Ctx)
theorem body (a0 : Int) (K : AVal → Option R) : bodyA D Tryd.f57 [.any] [.v (.int .i64 a0)] K = P.R09_block a0 (fun r0 => K (.v (.int .i64 r0))) := by
 rw [P.R09_block_eq]
 kernel_rfl
theorem loops : loopsOf (Tryd.f57.body.getD .skip) = [] := by kernel_rfl
noncomputable def spec0 : Abs.Spec := fun args K => match args with
 | [.v (.int .i64 a0)] => P.R09_block a0 (fun r0 => K (.v (.int .i64 r0)))
 | _ => none
noncomputable def spec : Abs.Spec := spec0
theorem ok0 : Proved Tryd.prog GLO.gC 57 spec0 := by
 refine proved_of (D := D) (fn := Tryd.f57) (c := Tryd.f57.body.getD .skip) [.any] (by kernel_rfl) (globsPlain_of (by kernel_rfl)) (by kernel_rfl) (by kernel_rfl) (by kernel_rfl) ⟨R07_Block.ok, R08_Rate.ok, trivial⟩ trivial ?_ ?_
 · rw [loops]; exact trivial
 · intro args K r h
   unfold spec0 at h
   split at h
   · rw [body]; exact h
   · cases h
theorem ok : Proved Tryd.prog GLO.gC 57 spec := ok0
end R09_block
end

section
open Go Go.Abs Go.Proofs
set_option maxRecDepth 100000
set_option linter.unusedVariables false
namespace R09_Hmac
abbrev X10 := Int × (List Int) × Int × (List Int) × Int × (List Int) × (List Int)
def S10 : X10 → ASt := fun (v0, v2, v8, v9, v12, h40, h41) => ⟨[(10, .own 40), (11, .own 41), (0, .v (.int .i64 v0)), (2, .sl (.ints .u8 v2)), (8, .v (.int .i64 v8)), (9, .sl (.ints .u8 v9)), (12, .v (.int .i64 v12))], [(40, some ⟨.row 5 (.ints .u8 h40), false⟩), (41, some ⟨.row 5 (.ints .u8 h41), false⟩)], 42, 73⟩
def V10 : ASt → Option X10
 | ⟨[(10, .own 40), (11, .own 41), (0, .v (.int .i64 v0)), (2, .sl (.ints .u8 v2)), (8, .v (.int .i64 v8)), (9, .sl (.ints .u8 v9)), (12, .v (.int .i64 v12))], [(40, some ⟨.row 5 (.ints .u8 h40), false⟩), (41, some ⟨.row 5 (.ints .u8 h41), false⟩)], 42, 73⟩ => some (v0, v2, v8, v9, v12, h40, h41)
 | _ => none
theorem V10_ok (st) (x) (h : V10 st = some x) : st = S10 x := by
 unfold V10 at h
 split at h
 · cases h; rfl
 · cases h
abbrev Y10 := X10
noncomputable def T10 : X10 → (X10 → Option R) → (Y10 → Option R) → Option R := fun (v0, v2, v8, v9, v12, h40, h41) next ex => P.R09_Hmac_r10 v0 v2 v8 v9 v12 h40 h41 (fun v0 v2 v8 v9 v12 h40 h41 => next (v0, v2, v8, v9, v12, h40, h41)) (fun v0 v2 v8 v9 v12 h40 h41 => ex (v0, v2, v8, v9, v12, h40, h41))
def E10 (K : AExit → ASt → Option R) : Y10 → Option R := (fun x => K (.exit 0) (S10 x))
noncomputable def L10 : LSpec := fun st K => vMap (V10 st) fun (v0, v2, v8, v9, v12, h40, h41) => P.R09_Hmac_l10 v0 v2 v8 v9 v12 h40 h41 (fun v0 v2 v8 v9 v12 h40 h41 => K (.exit 0) (S10 (v0, v2, v8, v9, v12, h40, h41)))
noncomputable def D : Ctx := ({ P := Tryd.prog, G := [(12, R09_Digest.spec), (57, R09_block.spec)], globs := GLO.gC, hints := [(10, ⟨[0, 2, 8, 9, 12], [(10, 5, .ints .u8 []), (11, 5, .ints .u8 [])], [6, 7], [(9, .sl (.ints .u8 []))], some (40, []), []⟩)], loops := [(10, L10)], inl := [] } : Ctx)
theorem round10 (K) (next) (x) : roundA D (loopAt Tryd.f14 10) K next (S10 x) = T10 x (fun x => next (S10 x)) (E10 K) := by kernel_rfl
theorem lq10 (st) (K) : L10 st K = vMap (V10 st) (fun x => lp T10 x (E10 K)) := by
 unfold L10
 cases V10 st with
 | none => rfl
 | some x => rw [P.R09_Hmac_l10_eq]; kernel_rfl
theorem loop10 : LoopOk D (loopAt Tryd.f14 10) := loopOk_lp S10 V10_ok (by kernel_rfl) lq10 round10
theorem body (a0 : Int) (a1 : List Int) (a2 : List Int) (K : AVal → Option R) : bodyA D Tryd.f14 [.fr 5 (.ints .u8 []), .any] [.v (.int .i64 a0), .sl (.ints .u8 a1), .sl (.ints .u8 a2)] K = P.R09_Hmac a0 a1 a2 (fun r0 r1 => K (.tuple [.fr 5 (.ints .u8 r0), .v (.int .i64 r1)])) := by
 rw [P.R09_Hmac_eq]
 kernel_rfl
theorem loops : loopsOf (Tryd.f14.body.getD .skip) = [loopAt Tryd.f14 10] := by kernel_rfl
noncomputable def spec0 : Abs.Spec := fun args K => match args with
 | [.v (.int .i64 a0), .sl (.ints .u8 a1), .sl (.ints .u8 a2)] => P.R09_Hmac a0 a1 a2 (fun r0 r1 => K (.tuple [.fr 5 (.ints .u8 r0), .v (.int .i64 r1)]))
 | _ => none
noncomputable def spec : Abs.Spec := fun args K => spec0 (coerL [.any, .sl (.ints .u8 []), .sl (.ints .u8 [])] args) K
theorem ok0 : Proved Tryd.prog GLO.gC 14 spec0 := by
 refine proved_of (D := D) (fn := Tryd.f14) (c := Tryd.f14.body.getD .skip) [.fr 5 (.ints .u8 []), .any] (by kernel_rfl) (globsPlain_of (by kernel_rfl)) (by kernel_rfl) (by kernel_rfl) (by kernel_rfl) ⟨R09_Digest.ok, R09_block.ok, trivial⟩ trivial ?_ ?_
 · rw [loops]; exact ⟨loop10, trivial⟩
 · intro args K r h
   unfold spec0 at h
   split at h
   · rw [body]; exact h
   · cases h
theorem ok : Proved Tryd.prog GLO.gC 14 spec := proved_coer _ ok0
end R09_Hmac
end

section
open Go Go.Abs Go.Proofs
set_option maxRecDepth 100000
set_option linter.unusedVariables false
namespace R09_Expand
abbrev X8 := Int × (List Int) × (List Int) × Int × (List Int) × Int × (List Int)
def S8 : X8 → ASt := fun (v0, v1, v2, v3, v11, v12, h0) => ⟨[(10, .own 0), (0, .v (.int .i64 v0)), (1, .sl (.ints .u8 v1)), (2, .sl (.ints .u8 v2)), (3, .v (.int .i64 v3)), (11, .sl (.ints .u8 v11)), (12, .v (.int .i64 v12))], [(0, some ⟨.row 5 (.ints .u8 h0), false⟩)], 1, 53⟩
def V8 : ASt → Option X8
 | ⟨[(10, .own 0), (0, .v (.int .i64 v0)), (1, .sl (.ints .u8 v1)), (2, .sl (.ints .u8 v2)), (3, .v (.int .i64 v3)), (11, .sl (.ints .u8 v11)), (12, .v (.int .i64 v12))], [(0, some ⟨.row 5 (.ints .u8 h0), false⟩)], 1, 53⟩ => some (v0, v1, v2, v3, v11, v12, h0)
 | _ => none
theorem V8_ok (st) (x) (h : V8 st = some x) : st = S8 x := by
 unfold V8 at h
 split at h
 · cases h; rfl
 · cases h
abbrev Y8 := X8
noncomputable def T8 : X8 → (X8 → Option R) → (Y8 → Option R) → Option R := fun (v0, v1, v2, v3, v11, v12, h0) next ex => P.R09_Expand_r8 v0 v1 v2 v3 v11 v12 h0 (fun v0 v1 v2 v3 v11 v12 h0 => next (v0, v1, v2, v3, v11, v12, h0)) (fun v0 v1 v2 v3 v11 v12 h0 => ex (v0, v1, v2, v3, v11, v12, h0))
def E8 (K : AExit → ASt → Option R) : Y8 → Option R := (fun x => K (.exit 0) (S8 x))
noncomputable def L8 : LSpec := fun st K => vMap (V8 st) fun (v0, v1, v2, v3, v11, v12, h0) => P.R09_Expand_l8 v0 v1 v2 v3 v11 v12 h0 (fun v0 v1 v2 v3 v11 v12 h0 => K (.exit 0) (S8 (v0, v1, v2, v3, v11, v12, h0)))
noncomputable def D : Ctx := ({ P := Tryd.prog, G := [(14, R09_Hmac.spec), (17, R09_Size.spec), (58, R01_Join.spec)], globs := GLO.gC, hints := [(8, ⟨[0, 1, 2, 3, 11, 12], [(10, 5, .ints .u8 [])], [8, 9], [(11, .sl (.ints .u8 []))], none, []⟩)], loops := [(8, L8)], inl := [] } : Ctx)
theorem round8 (K) (next) (x) : roundA D (loopAt Tryd.f20 8) K next (S8 x) = T8 x (fun x => next (S8 x)) (E8 K) := by kernel_rfl
theorem lq8 (st) (K) : L8 st K = vMap (V8 st) (fun x => lp T8 x (E8 K)) := by
 unfold L8
 cases V8 st with
 | none => rfl
 | some x => rw [P.R09_Expand_l8_eq]; kernel_rfl
theorem loop8 : LoopOk D (loopAt Tryd.f20 8) := loopOk_lp S8 V8_ok (by kernel_rfl) lq8 round8
theorem body (a0 : Int) (a1 : List Int) (a2 : List Int) (a3 : Int) (K : AVal → Option R) : bodyA D Tryd.f20 [.sl (.ints .u8 []), .any] [.v (.int .i64 a0), .sl (.ints .u8 a1), .sl (.ints .u8 a2), .v (.int .i64 a3)] K = P.R09_Expand a0 a1 a2 a3 (fun r0 r1 => K (.tuple [.sl (.ints .u8 r0), .v (.int .i64 r1)])) := by
 rw [P.R09_Expand_eq]
 kernel_rfl
theorem loops : loopsOf (Tryd.f20.body.getD .skip) = [loopAt Tryd.f20 8] := by kernel_rfl
noncomputable def spec0 : Abs.Spec := fun args K => match args with
 | [.v (.int .i64 a0), .sl (.ints .u8 a1), .sl (.ints .u8 a2), .v (.int .i64 a3)] => P.R09_Expand a0 a1 a2 a3 (fun r0 r1 => K (.tuple [.sl (.ints .u8 r0), .v (.int .i64 r1)]))
 | _ => none
noncomputable def spec : Abs.Spec := fun args K => spec0 (coerL [.any, .sl (.ints .u8 []), .sl (.ints .u8 []), .any] args) K
theorem ok0 : Proved Tryd.prog GLO.gC 20 spec0 := by
 refine proved_of (D := D) (fn := Tryd.f20) (c := Tryd.f20.body.getD .skip) [.sl (.ints .u8 []), .any] (by kernel_rfl) (globsPlain_of (by kernel_rfl)) (by kernel_rfl) (by kernel_rfl) (by kernel_rfl) ⟨R09_Hmac.ok, R09_Size.ok, R01_Join.ok, trivial⟩ trivial ?_ ?_
 · rw [loops]; exact ⟨loop8, trivial⟩
 · intro args K r h
   unfold spec0 at h
   split at h
   · rw [body]; exact h
   · cases h
theorem ok : Proved Tryd.prog GLO.gC 20 spec := proved_coer _ ok0
end R09_Expand
end

section
open Go Go.Abs Go.Proofs
set_option maxRecDepth 100000
set_option linter.unusedVariables false
namespace R09_Mask
abbrev X7 := Int × (List Int) × Int × Int × (List Int)
def S7 : X7 → ASt := fun (v0, v1, v2, v9, h0) => ⟨[(8, .own 0), (0, .v (.int .i64 v0)), (1, .sl (.ints .u8 v1)), (2, .v (.int .i64 v2)), (9, .v (.int .u64 v9))], [(0, some ⟨.row 5 (.ints .u8 h0), false⟩)], 1, 46⟩
def V7 : ASt → Option X7
 | ⟨[(8, .own 0), (0, .v (.int .i64 v0)), (1, .sl (.ints .u8 v1)), (2, .v (.int .i64 v2)), (9, .v (.int .u64 v9))], [(0, some ⟨.row 5 (.ints .u8 h0), false⟩)], 1, 46⟩ => some (v0, v1, v2, v9, h0)
 | _ => none
theorem V7_ok (st) (x) (h : V7 st = some x) : st = S7 x := by
 unfold V7 at h
 split at h
 · cases h; rfl
 · cases h
abbrev Y7 := X7
noncomputable def T7 : X7 → (X7 → Option R) → (Y7 → Option R) → Option R := fun (v0, v1, v2, v9, h0) next ex => P.R09_Mask_r7 v0 v1 v2 v9 h0 (fun v0 v1 v2 v9 h0 => next (v0, v1, v2, v9, h0)) (fun v0 v1 v2 v9 h0 => ex (v0, v1, v2, v9, h0))
def E7 (K : AExit → ASt → Option R) : Y7 → Option R := (fun x => K (.exit 0) (S7 x))
noncomputable def L7 : LSpec := fun st K => vMap (V7 st) fun (v0, v1, v2, v9, h0) => P.R09_Mask_l7 v0 v1 v2 v9 h0 (fun v0 v1 v2 v9 h0 => K (.exit 0) (S7 (v0, v1, v2, v9, h0)))
noncomputable def D : Ctx := ({ P := Tryd.prog, G := [(12, R09_Digest.spec), (58, R01_Join.spec), (61, R01_Be.spec)], globs := GLO.gC, hints := [(7, ⟨[0, 1, 2, 9], [(8, 5, .ints .u8 [])], [6, 7], [], none, []⟩)], loops := [(7, L7)], inl := [] } : Ctx)
theorem round7 (K) (next) (x) : roundA D (loopAt Tryd.f22 7) K next (S7 x) = T7 x (fun x => next (S7 x)) (E7 K) := by kernel_rfl
theorem lq7 (st) (K) : L7 st K = vMap (V7 st) (fun x => lp T7 x (E7 K)) := by
 unfold L7
 cases V7 st with
 | none => rfl
 | some x => rw [P.R09_Mask_l7_eq]; kernel_rfl
theorem loop7 : LoopOk D (loopAt Tryd.f22 7) := loopOk_lp S7 V7_ok (by kernel_rfl) lq7 round7
theorem body (a0 : Int) (a1 : List Int) (a2 : Int) (K : AVal → Option R) : bodyA D Tryd.f22 [.sl (.ints .u8 []), .any] [.v (.int .i64 a0), .sl (.ints .u8 a1), .v (.int .i64 a2)] K = P.R09_Mask a0 a1 a2 (fun r0 r1 => K (.tuple [.sl (.ints .u8 r0), .v (.int .i64 r1)])) := by
 rw [P.R09_Mask_eq]
 kernel_rfl
theorem loops : loopsOf (Tryd.f22.body.getD .skip) = [loopAt Tryd.f22 7] := by kernel_rfl
noncomputable def spec0 : Abs.Spec := fun args K => match args with
 | [.v (.int .i64 a0), .sl (.ints .u8 a1), .v (.int .i64 a2)] => P.R09_Mask a0 a1 a2 (fun r0 r1 => K (.tuple [.sl (.ints .u8 r0), .v (.int .i64 r1)]))
 | _ => none
noncomputable def spec : Abs.Spec := fun args K => spec0 (coerL [.any, .sl (.ints .u8 []), .any] args) K
theorem ok0 : Proved Tryd.prog GLO.gC 22 spec0 := by
 refine proved_of (D := D) (fn := Tryd.f22) (c := Tryd.f22.body.getD .skip) [.sl (.ints .u8 []), .any] (by kernel_rfl) (globsPlain_of (by kernel_rfl)) (by kernel_rfl) (by kernel_rfl) (by kernel_rfl) ⟨R09_Digest.ok, R01_Join.ok, R01_Be.ok, trivial⟩ trivial ?_ ?_
 · rw [loops]; exact ⟨loop7, trivial⟩
 · intro args K r h
   unfold spec0 at h
   split at h
   · rw [body]; exact h
   · cases h
theorem ok : Proved Tryd.prog GLO.gC 22 spec := proved_coer _ ok0
end R09_Mask
end

section
open Go Go.Abs Go.Proofs
set_option maxRecDepth 100000
set_option linter.unusedVariables false
namespace mac_Mask
abbrev X8 := (List Int) × Int × Int × Int × (List Int)
def S8 : X8 → ASt := fun (v1, v2, v8_c0_0, v10, h0) => ⟨[(9, .own 0), (1, .sl (.ints .u8 v1)), (2, .v (.int .i64 v2)), (8, .fn (.func 102) [] [.sta [.v (.int .i64 v8_c0_0)]]), (10, .v (.int .u64 v10))], [(0, some ⟨.row 5 (.ints .u8 h0), false⟩)], 1, 45⟩
def V8 : ASt → Option X8
 | ⟨[(9, .own 0), (1, .sl (.ints .u8 v1)), (2, .v (.int .i64 v2)), (8, .fn (.func 102) [] [.sta [.v (.int .i64 v8_c0_0)]]), (10, .v (.int .u64 v10))], [(0, some ⟨.row 5 (.ints .u8 h0), false⟩)], 1, 45⟩ => some (v1, v2, v8_c0_0, v10, h0)
 | _ => none
theorem V8_ok (st) (x) (h : V8 st = some x) : st = S8 x := by
 unfold V8 at h
 split at h
 · cases h; rfl
 · cases h
abbrev Y8 := X8
noncomputable def T8 : X8 → (X8 → Option R) → (Y8 → Option R) → Option R := fun (v1, v2, v8_c0_0, v10, h0) next ex => P.mac_Mask_r8 v1 v2 v8_c0_0 v10 h0 (fun v1 v2 v8_c0_0 v10 h0 => next (v1, v2, v8_c0_0, v10, h0)) (fun v1 v2 v8_c0_0 v10 h0 => ex (v1, v2, v8_c0_0, v10, h0))
def E8 (K : AExit → ASt → Option R) : Y8 → Option R := (fun x => K (.exit 1) (S8 x))
noncomputable def L8 : LSpec := fun st K => vMap (V8 st) fun (v1, v2, v8_c0_0, v10, h0) => P.mac_Mask_l8 v1 v2 v8_c0_0 v10 h0 (fun v1 v2 v8_c0_0 v10 h0 => K (.exit 1) (S8 (v1, v2, v8_c0_0, v10, h0)))
noncomputable def D : Ctx := ({ P := Tryd.prog, G := [(59, mac_digests.spec), (60, bits_Be.spec), (102, mac_digests_f1.spec)], globs := GLO.gC, hints := [(8, ⟨[1, 2, 8, 10], [(9, 5, .ints .u8 [])], [6, 7], [], none, []⟩)], loops := [(8, L8)], inl := [] } : Ctx)
theorem round8 (K) (next) (x) : roundA D (loopAt Tryd.f21 8) K next (S8 x) = T8 x (fun x => next (S8 x)) (E8 K) := by kernel_rfl
theorem lq8 (st) (K) : L8 st K = vMap (V8 st) (fun x => lp T8 x (E8 K)) := by
 unfold L8
 cases V8 st with
 | none => rfl
 | some x => rw [P.mac_Mask_l8_eq]; kernel_rfl
theorem loop8 : LoopOk D (loopAt Tryd.f21 8) := loopOk_lp S8 V8_ok (by kernel_rfl) lq8 round8
theorem body (a0 : Int) (a1 : List Int) (a2 : Int) (K : AVal → Option R) : bodyA D Tryd.f21 [.sl (.ints .u8 []), .any] [.v (.int .i64 a0), .sl (.ints .u8 a1), .v (.int .i64 a2)] K = P.mac_Mask a0 a1 a2 (fun r0 r1 => K (.tuple [.sl (.ints .u8 r0), .v (.int .i64 r1)])) := by
 rw [P.mac_Mask_eq]
 kernel_rfl
theorem loops : loopsOf (Tryd.f21.body.getD .skip) = [loopAt Tryd.f21 8] := by kernel_rfl
noncomputable def spec0 : Abs.Spec := fun args K => match args with
 | [.v (.int .i64 a0), .sl (.ints .u8 a1), .v (.int .i64 a2)] => P.mac_Mask a0 a1 a2 (fun r0 r1 => K (.tuple [.sl (.ints .u8 r0), .v (.int .i64 r1)]))
 | _ => none
noncomputable def spec : Abs.Spec := fun args K => spec0 (coerL [.any, .sl (.ints .u8 []), .any] args) K
theorem ok0 : Proved Tryd.prog GLO.gC 21 spec0 := by
 refine proved_of (D := D) (fn := Tryd.f21) (c := Tryd.f21.body.getD .skip) [.sl (.ints .u8 []), .any] (by kernel_rfl) (globsPlain_of (by kernel_rfl)) (by kernel_rfl) (by kernel_rfl) (by kernel_rfl) ⟨mac_digests.ok, bits_Be.ok, mac_digests_f1.ok, trivial⟩ trivial ?_ ?_
 · rw [loops]; exact ⟨loop8, trivial⟩
 · intro args K r h
   unfold spec0 at h
   split at h
   · rw [body]; exact h
   · cases h
theorem ok : Proved Tryd.prog GLO.gC 21 spec := proved_coer _ ok0
end mac_Mask
end

section
open Go Go.Abs Go.Proofs
set_option maxRecDepth 100000
set_option linter.unusedVariables false
namespace L09_MacGrows
noncomputable def D : Ctx := ({ P := Tryd.prog, G := [(10, L09_awake.spec), (18, R01_Same.spec), (19, mac_Expand.spec), (20, R09_Expand.spec), (21, mac_Mask.spec), (22, R09_Mask.spec)], globs := GLO.gC, hints := [], loops := [], inl := [] } : Ctx)
theorem body (a0 : Int) (a1 : List Int) (a2 : List Int) (a3 : Int) (K : AVal → Option R) : bodyA D Tryd.f4 [.any] [.v (.int .i64 a0), .sl (.ints .u8 a1), .sl (.ints .u8 a2), .v (.int .i64 a3)] K = P.L09_MacGrows a0 a1 a2 a3 (fun r0 => K (.v (.bool r0))) := by
 rw [P.L09_MacGrows_eq]
 kernel_rfl
theorem loops : loopsOf (Tryd.f4.body.getD .skip) = [] := by kernel_rfl
noncomputable def spec0 : Abs.Spec := fun args K => match args with
 | [.v (.int .i64 a0), .sl (.ints .u8 a1), .sl (.ints .u8 a2), .v (.int .i64 a3)] => P.L09_MacGrows a0 a1 a2 a3 (fun r0 => K (.v (.bool r0)))
 | _ => none
noncomputable def spec : Abs.Spec := fun args K => spec0 (coerL [.any, .sl (.ints .u8 []), .sl (.ints .u8 []), .any] args) K
theorem ok0 : Proved Tryd.prog GLO.gC 4 spec0 := by
 refine proved_of (D := D) (fn := Tryd.f4) (c := Tryd.f4.body.getD .skip) [.any] (by kernel_rfl) (globsPlain_of (by kernel_rfl)) (by kernel_rfl) (by kernel_rfl) (by kernel_rfl) ⟨L09_awake.ok, R01_Same.ok, mac_Expand.ok, R09_Expand.ok, mac_Mask.ok, R09_Mask.ok, trivial⟩ trivial ?_ ?_
 · rw [loops]; exact trivial
 · intro args K r h
   unfold spec0 at h
   split at h
   · rw [body]; exact h
   · cases h
theorem ok : Proved Tryd.prog GLO.gC 4 spec := proved_coer _ ok0
end L09_MacGrows
end
