/-
  MacTells, part M: an interpreter of my own over abstract values, the pure functions, the walks and the plain law.
-/

import Derived.Test.YtjhnljhjpnjieaaDoorMacTellsH
import Derived.Test.YtjhnljhjpnjieaaDoorMacTellsF
import Derived.Test.YtjhnljhjpnjieaaDoorProg
import Derived.Test.YtjhnljhjpnjieaaDoorMacTellsG
import Derived.Test.YtjhnljhjpnjieaaDoorMacTellsL
import Derived.KernelRfl
import Derived.Test.YtjhnljhjpnjieaaDoorMacTellsI

section
open Go Go.Abs Go.Proofs
set_option maxRecDepth 100000
set_option linter.unusedVariables false
namespace R08_Squeeze
abbrev X12 := Int × Int × (List Int) × Int × (List Int) × Int × Bool × Int × (List Int) × Int × Bool
def S12 : X12 → ASt := fun (v1, v6, h40, h0_0, h0_1, h0_2, h0_3, h1_0, h1_1, h1_2, h1_3) => ⟨[(8, .own 40), (1, .v (.int .i64 v1)), (2, .ptr 0 0), (4, .ptr 1 0), (6, .v (.int .i64 v6))], [(40, some ⟨.row 5 (.ints .u8 h40), false⟩), (0, some ⟨.box 123 [.v (.int .i64 h0_0), .arr .u64 25 h0_1, .v (.int .i64 h0_2), .v (.bool h0_3)], false⟩), (1, some ⟨.box 123 [.v (.int .i64 h1_0), .arr .u64 25 h1_1, .v (.int .i64 h1_2), .v (.bool h1_3)], false⟩)], 41, 73⟩
def V12 : ASt → Option X12
 | ⟨[(8, .own 40), (1, .v (.int .i64 v1)), (2, .ptr 0 0), (4, .ptr 1 0), (6, .v (.int .i64 v6))], [(40, some ⟨.row 5 (.ints .u8 h40), false⟩), (0, some ⟨.box 123 [.v (.int .i64 h0_0), .arr .u64 25 h0_1, .v (.int .i64 h0_2), .v (.bool h0_3)], false⟩), (1, some ⟨.box 123 [.v (.int .i64 h1_0), .arr .u64 25 h1_1, .v (.int .i64 h1_2), .v (.bool h1_3)], false⟩)], 41, 73⟩ => some (v1, v6, h40, h0_0, h0_1, h0_2, h0_3, h1_0, h1_1, h1_2, h1_3)
 | _ => none
theorem V12_ok (st) (x) (h : V12 st = some x) : st = S12 x := by
 unfold V12 at h
 split at h
 · cases h; rfl
 · cases h
abbrev Y12 := X12
noncomputable def T12 : X12 → (X12 → Option R) → (Y12 → Option R) → Option R := fun (v1, v6, h40, h0_0, h0_1, h0_2, h0_3, h1_0, h1_1, h1_2, h1_3) next ex => P.R08_Squeeze_r12 v1 v6 h40 h0_0 h0_1 h0_2 h0_3 h1_0 h1_1 h1_2 h1_3 (fun v1 v6 h40 h0_0 h0_1 h0_2 h0_3 h1_0 h1_1 h1_2 h1_3 => next (v1, v6, h40, h0_0, h0_1, h0_2, h0_3, h1_0, h1_1, h1_2, h1_3)) (fun v1 v6 h40 h0_0 h0_1 h0_2 h0_3 h1_0 h1_1 h1_2 h1_3 => ex (v1, v6, h40, h0_0, h0_1, h0_2, h0_3, h1_0, h1_1, h1_2, h1_3))
def E12 (K : AExit → ASt → Option R) : Y12 → Option R := (fun x => K (.exit 0) (S12 x))
noncomputable def L12 : LSpec := fun st K => vMap (V12 st) fun (v1, v6, h40, h0_0, h0_1, h0_2, h0_3, h1_0, h1_1, h1_2, h1_3) => P.R08_Squeeze_l12 v1 v6 h40 h0_0 h0_1 h0_2 h0_3 h1_0 h1_1 h1_2 h1_3 (fun v1 v6 h40 h0_0 h0_1 h0_2 h0_3 h1_0 h1_1 h1_2 h1_3 => K (.exit 0) (S12 (v1, v6, h40, h0_0, h0_1, h0_2, h0_3, h1_0, h1_1, h1_2, h1_3)))
noncomputable def D : Ctx := ({ P := Tryd.prog, G := [(101, R08_Rate.spec), (127, R08_Permute.spec), (128, R08_put.spec)], globs := GLO.gC, hints := [(12, ⟨[1, 2, 4, 6], [(8, 5, .ints .u8 [])], [4, 5], [], some (40, [0, 1]), []⟩)], loops := [(12, L12)], inl := [] } : Ctx)
theorem round12 (K) (next) (x) : roundA D (loopAt Tryd.f96 12) K next (S12 x) = T12 x (fun x => next (S12 x)) (E12 K) := by kernel_rfl
theorem lq12 (st) (K) : L12 st K = vMap (V12 st) (fun x => lp T12 x (E12 K)) := by
 unfold L12
 cases V12 st with
 | none => rfl
 | some x => rw [P.R08_Squeeze_l12_eq]; kernel_rfl
theorem loop12 : LoopOk D (loopAt Tryd.f96 12) := loopOk_lp S12 V12_ok (by kernel_rfl) lq12 round12
theorem body (a0_Kind : Int) (a0_Words : List Int) (a0_At : Int) (a0_Out : Bool) (a1 : Int) (K : AVal → Option R) : bodyA D Tryd.f96 [.any, .fr 5 (.ints .u8 [])] [.agg [.v (.int .i64 a0_Kind), .arr .u64 25 a0_Words, .v (.int .i64 a0_At), .v (.bool a0_Out)], .v (.int .i64 a1)] K = P.R08_Squeeze a0_Kind a0_Words a0_At a0_Out a1 (fun r0_Kind r0_Words r0_At r0_Out r1 => K (.tuple [.agg [.v (.int .i64 r0_Kind), .arr .u64 25 r0_Words, .v (.int .i64 r0_At), .v (.bool r0_Out)], .fr 5 (.ints .u8 r1)])) := by
 rw [P.R08_Squeeze_eq]
 kernel_rfl
theorem loops : loopsOf (Tryd.f96.body.getD .skip) = [loopAt Tryd.f96 12] := by kernel_rfl
noncomputable def spec0 : Abs.Spec := fun args K => match args with
 | [.agg [.v (.int .i64 a0_Kind), .arr .u64 25 a0_Words, .v (.int .i64 a0_At), .v (.bool a0_Out)], .v (.int .i64 a1)] => P.R08_Squeeze a0_Kind a0_Words a0_At a0_Out a1 (fun r0_Kind r0_Words r0_At r0_Out r1 => K (.tuple [.agg [.v (.int .i64 r0_Kind), .arr .u64 25 r0_Words, .v (.int .i64 r0_At), .v (.bool r0_Out)], .fr 5 (.ints .u8 r1)]))
 | _ => none
noncomputable def spec : Abs.Spec := spec0
theorem ok0 : Proved Tryd.prog GLO.gC 96 spec0 := by
 refine proved_of (D := D) (fn := Tryd.f96) (c := Tryd.f96.body.getD .skip) [.any, .fr 5 (.ints .u8 [])] (by kernel_rfl) (globsPlain_of (by kernel_rfl)) (by kernel_rfl) (by kernel_rfl) (by kernel_rfl) ⟨R08_Rate.ok, R08_Permute.ok, R08_put.ok, trivial⟩ trivial ?_ ?_
 · rw [loops]; exact ⟨loop12, trivial⟩
 · intro args K r h
   unfold spec0 at h
   split at h
   · rw [body]; exact h
   · cases h
theorem ok : Proved Tryd.prog GLO.gC 96 spec := ok0
end R08_Squeeze
end

section
open Go Go.Abs Go.Proofs
set_option maxRecDepth 100000
set_option linter.unusedVariables false
namespace R08_Sum
noncomputable def D : Ctx := ({ P := Tryd.prog, G := [(95, R08_New.spec), (96, R08_Squeeze.spec), (97, R08_Absorb.spec)], globs := GLO.gC, hints := [], loops := [], inl := [] } : Ctx)
theorem body (a0 : Int) (a1 : List Int) (a2 : Int) (K : AVal → Option R) : bodyA D Tryd.f54 [.fr 5 (.ints .u8 []), .any] [.v (.int .i64 a0), .sl (.ints .u8 a1), .v (.int .i64 a2)] K = P.R08_Sum a0 a1 a2 (fun r0 r1 => K (.tuple [.fr 5 (.ints .u8 r0), .v (.int .i64 r1)])) := by
 rw [P.R08_Sum_eq]
 kernel_rfl
theorem loops : loopsOf (Tryd.f54.body.getD .skip) = [] := by kernel_rfl
noncomputable def spec0 : Abs.Spec := fun args K => match args with
 | [.v (.int .i64 a0), .sl (.ints .u8 a1), .v (.int .i64 a2)] => P.R08_Sum a0 a1 a2 (fun r0 r1 => K (.tuple [.fr 5 (.ints .u8 r0), .v (.int .i64 r1)]))
 | _ => none
noncomputable def spec : Abs.Spec := fun args K => spec0 (coerL [.any, .sl (.ints .u8 []), .any] args) K
theorem ok0 : Proved Tryd.prog GLO.gC 54 spec0 := by
 refine proved_of (D := D) (fn := Tryd.f54) (c := Tryd.f54.body.getD .skip) [.fr 5 (.ints .u8 []), .any] (by kernel_rfl) (globsPlain_of (by kernel_rfl)) (by kernel_rfl) (by kernel_rfl) (by kernel_rfl) ⟨R08_New.ok, R08_Squeeze.ok, R08_Absorb.ok, trivial⟩ trivial ?_ ?_
 · rw [loops]; exact trivial
 · intro args K r h
   unfold spec0 at h
   split at h
   · rw [body]; exact h
   · cases h
theorem ok : Proved Tryd.prog GLO.gC 54 spec := proved_coer _ ok0
end R08_Sum
end

section
open Go Go.Abs Go.Proofs
set_option maxRecDepth 100000
set_option linter.unusedVariables false
namespace R09_Size
noncomputable def D : Ctx := ({ P := Tryd.prog, G := [], globs := GLO.gC, hints := [], loops := [], inl := [] } : Ctx)
theorem body (a0 : Int) (K : AVal → Option R) : bodyA D Tryd.f17 [.any] [.v (.int .i64 a0)] K = P.R09_Size a0 (fun r0 => K (.v (.int .i64 r0))) := by
 rw [P.R09_Size_eq]
 kernel_rfl
theorem loops : loopsOf (Tryd.f17.body.getD .skip) = [] := by kernel_rfl
noncomputable def spec0 : Abs.Spec := fun args K => match args with
 | [.v (.int .i64 a0)] => P.R09_Size a0 (fun r0 => K (.v (.int .i64 r0)))
 | _ => none
noncomputable def spec : Abs.Spec := spec0
theorem ok0 : Proved Tryd.prog GLO.gC 17 spec0 := by
 refine proved_of (D := D) (fn := Tryd.f17) (c := Tryd.f17.body.getD .skip) [.any] (by kernel_rfl) (globsPlain_of (by kernel_rfl)) (by kernel_rfl) (by kernel_rfl) (by kernel_rfl) trivial trivial ?_ ?_
 · rw [loops]; exact trivial
 · intro args K r h
   unfold spec0 at h
   split at h
   · rw [body]; exact h
   · cases h
theorem ok : Proved Tryd.prog GLO.gC 17 spec := ok0
end R09_Size
end

section
open Go Go.Abs Go.Proofs
set_option maxRecDepth 100000
set_option linter.unusedVariables false
namespace R09_Digest
noncomputable def D : Ctx := ({ P := Tryd.prog, G := [(17, R09_Size.spec), (53, R07_Sum.spec), (54, R08_Sum.spec)], globs := GLO.gC, hints := [], loops := [], inl := [] } : Ctx)
theorem body (a0 : Int) (a1 : List Int) (K : AVal → Option R) : bodyA D Tryd.f12 [.fr 5 (.ints .u8 []), .any] [.v (.int .i64 a0), .sl (.ints .u8 a1)] K = P.R09_Digest a0 a1 (fun r0 r1 => K (.tuple [.fr 5 (.ints .u8 r0), .v (.int .i64 r1)])) := by
 rw [P.R09_Digest_eq]
 kernel_rfl
theorem loops : loopsOf (Tryd.f12.body.getD .skip) = [] := by kernel_rfl
noncomputable def spec0 : Abs.Spec := fun args K => match args with
 | [.v (.int .i64 a0), .sl (.ints .u8 a1)] => P.R09_Digest a0 a1 (fun r0 r1 => K (.tuple [.fr 5 (.ints .u8 r0), .v (.int .i64 r1)]))
 | _ => none
noncomputable def spec : Abs.Spec := fun args K => spec0 (coerL [.any, .sl (.ints .u8 [])] args) K
theorem ok0 : Proved Tryd.prog GLO.gC 12 spec0 := by
 refine proved_of (D := D) (fn := Tryd.f12) (c := Tryd.f12.body.getD .skip) [.fr 5 (.ints .u8 []), .any] (by kernel_rfl) (globsPlain_of (by kernel_rfl)) (by kernel_rfl) (by kernel_rfl) (by kernel_rfl) ⟨R09_Size.ok, R07_Sum.ok, R08_Sum.ok, trivial⟩ trivial ?_ ?_
 · rw [loops]; exact trivial
 · intro args K r h
   unfold spec0 at h
   split at h
   · rw [body]; exact h
   · cases h
theorem ok : Proved Tryd.prog GLO.gC 12 spec := proved_coer _ ok0
end R09_Digest
end

section
open Go Go.Abs Go.Proofs
set_option maxRecDepth 100000
set_option linter.unusedVariables false
namespace R09_block
noncomputable def D : Ctx := ({ P := Tryd.prog, G := [(100, R07_Block.spec), (101, R08_Rate.spec)], globs := GLO.gC, hints := [], loops := [], inl := [] } : Ctx)
theorem body (a0 : Int) (K : AVal → Option R) : bodyA D Tryd.f57 [.any] [.v (.int .i64 a0)] K = P.R09_block a0 (fun r0 => K (.v (.int .i64 r0))) := by
 rw [P.R09_block_eq]
 kernel_rfl
theorem loops : loopsOf (Tryd.f57.body.getD .skip) = [] := by kernel_rfl
noncomputable def spec0 : Abs.Spec := fun args K => match args with
 | [.v (.int .i64 a0)] => P.R09_block a0 (fun r0 => K (.v (.int .i64 r0)))
 | _ => none
noncomputable def spec : Abs.Spec := spec0
theorem ok0 : Proved Tryd.prog GLO.gC 57 spec0 := by
 refine proved_of (D := D) (fn := Tryd.f57) (c := Tryd.f57.body.getD .skip) [.any] (by kernel_rfl) (globsPlain_of (by kernel_rfl)) (by kernel_rfl) (by kernel_rfl) (by kernel_rfl) ⟨R07_Block.ok, R08_Rate.ok, trivial⟩ trivial ?_ ?_
 · rw [loops]; exact trivial
 · intro args K r h
   unfold spec0 at h
   split at h
   · rw [body]; exact h
   · cases h
theorem ok : Proved Tryd.prog GLO.gC 57 spec := ok0
end R09_block
end

section
open Go Go.Abs Go.Proofs
set_option maxRecDepth 100000
set_option linter.unusedVariables false
namespace R09_Hmac
abbrev X10 := Int × (List Int) × Int × (List Int) × Int × (List Int) × (List Int)
def S10 : X10 → ASt := fun (v0, v2, v8, v9, v12, h40, h41) => ⟨[(10, .own 40), (11, .own 41), (0, .v (.int .i64 v0)), (2, .sl (.ints .u8 v2)), (8, .v (.int .i64 v8)), (9, .sl (.ints .u8 v9)), (12, .v (.int .i64 v12))], [(40, some ⟨.row 5 (.ints .u8 h40), false⟩), (41, some ⟨.row 5 (.ints .u8 h41), false⟩)], 42, 73⟩
def V10 : ASt → Option X10
 | ⟨[(10, .own 40), (11, .own 41), (0, .v (.int .i64 v0)), (2, .sl (.ints .u8 v2)), (8, .v (.int .i64 v8)), (9, .sl (.ints .u8 v9)), (12, .v (.int .i64 v12))], [(40, some ⟨.row 5 (.ints .u8 h40), false⟩), (41, some ⟨.row 5 (.ints .u8 h41), false⟩)], 42, 73⟩ => some (v0, v2, v8, v9, v12, h40, h41)
 | _ => none
theorem V10_ok (st) (x) (h : V10 st = some x) : st = S10 x := by
 unfold V10 at h
 split at h
 · cases h; rfl
 · cases h
abbrev Y10 := X10
noncomputable def T10 : X10 → (X10 → Option R) → (Y10 → Option R) → Option R := fun (v0, v2, v8, v9, v12, h40, h41) next ex => P.R09_Hmac_r10 v0 v2 v8 v9 v12 h40 h41 (fun v0 v2 v8 v9 v12 h40 h41 => next (v0, v2, v8, v9, v12, h40, h41)) (fun v0 v2 v8 v9 v12 h40 h41 => ex (v0, v2, v8, v9, v12, h40, h41))
def E10 (K : AExit → ASt → Option R) : Y10 → Option R := (fun x => K (.exit 0) (S10 x))
noncomputable def L10 : LSpec := fun st K => vMap (V10 st) fun (v0, v2, v8, v9, v12, h40, h41) => P.R09_Hmac_l10 v0 v2 v8 v9 v12 h40 h41 (fun v0 v2 v8 v9 v12 h40 h41 => K (.exit 0) (S10 (v0, v2, v8, v9, v12, h40, h41)))
noncomputable def D : Ctx := ({ P := Tryd.prog, G := [(12, R09_Digest.spec), (57, R09_block.spec)], globs := GLO.gC, hints := [(10, ⟨[0, 2, 8, 9, 12], [(10, 5, .ints .u8 []), (11, 5, .ints .u8 [])], [6, 7], [(9, .sl (.ints .u8 []))], some (40, []), []⟩)], loops := [(10, L10)], inl := [] } : Ctx)
theorem round10 (K) (next) (x) : roundA D (loopAt Tryd.f14 10) K next (S10 x) = T10 x (fun x => next (S10 x)) (E10 K) := by kernel_rfl
theorem lq10 (st) (K) : L10 st K = vMap (V10 st) (fun x => lp T10 x (E10 K)) := by
 unfold L10
 cases V10 st with
 | none => rfl
 | some x => rw [P.R09_Hmac_l10_eq]; kernel_rfl
theorem loop10 : LoopOk D (loopAt Tryd.f14 10) := loopOk_lp S10 V10_ok (by kernel_rfl) lq10 round10
theorem body (a0 : Int) (a1 : List Int) (a2 : List Int) (K : AVal → Option R) : bodyA D Tryd.f14 [.fr 5 (.ints .u8 []), .any] [.v (.int .i64 a0), .sl (.ints .u8 a1), .sl (.ints .u8 a2)] K = P.R09_Hmac a0 a1 a2 (fun r0 r1 => K (.tuple [.fr 5 (.ints .u8 r0), .v (.int .i64 r1)])) := by
 rw [P.R09_Hmac_eq]
 kernel_rfl
theorem loops : loopsOf (Tryd.f14.body.getD .skip) = [loopAt Tryd.f14 10] := by kernel_rfl
noncomputable def spec0 : Abs.Spec := fun args K => match args with
 | [.v (.int .i64 a0), .sl (.ints .u8 a1), .sl (.ints .u8 a2)] => P.R09_Hmac a0 a1 a2 (fun r0 r1 => K (.tuple [.fr 5 (.ints .u8 r0), .v (.int .i64 r1)]))
 | _ => none
noncomputable def spec : Abs.Spec := fun args K => spec0 (coerL [.any, .sl (.ints .u8 []), .sl (.ints .u8 [])] args) K
theorem ok0 : Proved Tryd.prog GLO.gC 14 spec0 := by
 refine proved_of (D := D) (fn := Tryd.f14) (c := Tryd.f14.body.getD .skip) [.fr 5 (.ints .u8 []), .any] (by kernel_rfl) (globsPlain_of (by kernel_rfl)) (by kernel_rfl) (by kernel_rfl) (by kernel_rfl) ⟨R09_Digest.ok, R09_block.ok, trivial⟩ trivial ?_ ?_
 · rw [loops]; exact ⟨loop10, trivial⟩
 · intro args K r h
   unfold spec0 at h
   split at h
   · rw [body]; exact h
   · cases h
theorem ok : Proved Tryd.prog GLO.gC 14 spec := proved_coer _ ok0
end R09_Hmac
end

section
open Go Go.Abs Go.Proofs
set_option maxRecDepth 100000
set_option linter.unusedVariables false
namespace mac_Extract
noncomputable def D : Ctx := ({ P := Tryd.prog, G := [(13, mac_Hmac.spec)], globs := GLO.gC, hints := [], loops := [], inl := [] } : Ctx)
theorem body (a0 : Int) (a1 : List Int) (a2 : List Int) (K : AVal → Option R) : bodyA D Tryd.f15 [.fr 5 (.ints .u8 []), .any] [.v (.int .i64 a0), .sl (.ints .u8 a1), .sl (.ints .u8 a2)] K = P.mac_Extract a0 a1 a2 (fun r0 r1 => K (.tuple [.fr 5 (.ints .u8 r0), .v (.int .i64 r1)])) := by
 rw [P.mac_Extract_eq]
 kernel_rfl
theorem loops : loopsOf (Tryd.f15.body.getD .skip) = [] := by kernel_rfl
noncomputable def spec0 : Abs.Spec := fun args K => match args with
 | [.v (.int .i64 a0), .sl (.ints .u8 a1), .sl (.ints .u8 a2)] => P.mac_Extract a0 a1 a2 (fun r0 r1 => K (.tuple [.fr 5 (.ints .u8 r0), .v (.int .i64 r1)]))
 | _ => none
noncomputable def spec : Abs.Spec := fun args K => spec0 (coerL [.any, .sl (.ints .u8 []), .sl (.ints .u8 [])] args) K
theorem ok0 : Proved Tryd.prog GLO.gC 15 spec0 := by
 refine proved_of (D := D) (fn := Tryd.f15) (c := Tryd.f15.body.getD .skip) [.fr 5 (.ints .u8 []), .any] (by kernel_rfl) (globsPlain_of (by kernel_rfl)) (by kernel_rfl) (by kernel_rfl) (by kernel_rfl) ⟨mac_Hmac.ok, trivial⟩ trivial ?_ ?_
 · rw [loops]; exact trivial
 · intro args K r h
   unfold spec0 at h
   split at h
   · rw [body]; exact h
   · cases h
theorem ok : Proved Tryd.prog GLO.gC 15 spec := proved_coer _ ok0
end mac_Extract
end

section
open Go Go.Abs Go.Proofs
set_option maxRecDepth 100000
set_option linter.unusedVariables false
namespace L09_MacTells
noncomputable def D : Ctx := ({ P := Tryd.prog, G := [(10, L09_awake.spec), (11, mac_Digest.spec), (12, R09_Digest.spec), (13, mac_Hmac.spec), (14, R09_Hmac.spec), (15, mac_Extract.spec), (16, mac_Size.spec), (17, R09_Size.spec), (18, R01_Same.spec)], globs := GLO.gC, hints := [], loops := [], inl := [] } : Ctx)
theorem body (a0 : Int) (a1 : List Int) (a2 : List Int) (K : AVal → Option R) : bodyA D Tryd.f3 [.any] [.v (.int .i64 a0), .sl (.ints .u8 a1), .sl (.ints .u8 a2)] K = P.L09_MacTells a0 a1 a2 (fun r0 => K (.v (.bool r0))) := by
 rw [P.L09_MacTells_eq]
 kernel_rfl
theorem loops : loopsOf (Tryd.f3.body.getD .skip) = [] := by kernel_rfl
noncomputable def spec0 : Abs.Spec := fun args K => match args with
 | [.v (.int .i64 a0), .sl (.ints .u8 a1), .sl (.ints .u8 a2)] => P.L09_MacTells a0 a1 a2 (fun r0 => K (.v (.bool r0)))
 | _ => none
noncomputable def spec : Abs.Spec := fun args K => spec0 (coerL [.any, .sl (.ints .u8 []), .sl (.ints .u8 [])] args) K
theorem ok0 : Proved Tryd.prog GLO.gC 3 spec0 := by
 refine proved_of (D := D) (fn := Tryd.f3) (c := Tryd.f3.body.getD .skip) [.any] (by kernel_rfl) (globsPlain_of (by kernel_rfl)) (by kernel_rfl) (by kernel_rfl) (by kernel_rfl) ⟨L09_awake.ok, mac_Digest.ok, R09_Digest.ok, mac_Hmac.ok, R09_Hmac.ok, mac_Extract.ok, mac_Size.ok, R09_Size.ok, R01_Same.ok, trivial⟩ trivial ?_ ?_
 · rw [loops]; exact trivial
 · intro args K r h
   unfold spec0 at h
   split at h
   · rw [body]; exact h
   · cases h
theorem ok : Proved Tryd.prog GLO.gC 3 spec := proved_coer _ ok0
end L09_MacTells
end
