/-
  MacTells, part L: an interpreter of my own over abstract values, the pure functions, the walks and the plain law.
-/

import Derived.Test.YtjhnljhjpnjieaaDoorMacTellsG
import Derived.Test.YtjhnljhjpnjieaaDoorMacTellsF
import Derived.Test.YtjhnljhjpnjieaaDoorProg
import Derived.Test.YtjhnljhjpnjieaaDoorMacTellsK
import Derived.KernelRfl
import Derived.Test.YtjhnljhjpnjieaaDoorMacTellsJ
import Derived.Test.YtjhnljhjpnjieaaDoorMacTellsH
import Derived.Test.YtjhnljhjpnjieaaDoorMacTellsI

section
open Go Go.Abs Go.Proofs
set_option maxRecDepth 100000
set_option linter.unusedVariables false
namespace sha_Add
noncomputable def D : Ctx := ({ P := Tryd.prog, G := [(105, slices_Concat_byte.spec), (117, sha_through_uint32.spec), (118, sha_small.spec), (119, sha_through_uint64.spec), (120, sha_great.spec), (121, slices_Clone_byte.spec)], globs := GLO.gC, hints := [], loops := [], inl := [] } : Ctx)
theorem body (a0_Kind : Int) (a0_Words : List Int) (a0_Tail : List Int) (a0_Size : Int) (a1 : List Int) (K : AVal → Option R) : bodyA D Tryd.f88 [.agg [.any, .any, .fr 5 (.ints .u8 []), .any]] [.agg [.v (.int .i64 a0_Kind), .arr .u64 8 a0_Words, .sl (.ints .u8 a0_Tail), .v (.int .u64 a0_Size)], .sl (.ints .u8 a1)] K = P.sha_Add a0_Kind a0_Words a0_Tail a0_Size a1 (fun r0_Kind r0_Words r0_Tail r0_Size => K (.agg [.v (.int .i64 r0_Kind), .arr .u64 8 r0_Words, .fr 5 (.ints .u8 r0_Tail), .v (.int .u64 r0_Size)])) := by
 rw [P.sha_Add_eq]
 kernel_rfl
theorem loops : loopsOf (Tryd.f88.body.getD .skip) = [] := by kernel_rfl
noncomputable def spec0 : Abs.Spec := fun args K => match args with
 | [.agg [.v (.int .i64 a0_Kind), .arr .u64 8 a0_Words, .sl (.ints .u8 a0_Tail), .v (.int .u64 a0_Size)], .sl (.ints .u8 a1)] => P.sha_Add a0_Kind a0_Words a0_Tail a0_Size a1 (fun r0_Kind r0_Words r0_Tail r0_Size => K (.agg [.v (.int .i64 r0_Kind), .arr .u64 8 r0_Words, .fr 5 (.ints .u8 r0_Tail), .v (.int .u64 r0_Size)]))
 | _ => none
noncomputable def spec : Abs.Spec := fun args K => spec0 (coerL [.agg [.any, .any, .sl (.ints .u8 []), .any], .sl (.ints .u8 [])] args) K
theorem ok0 : Proved Tryd.prog GLO.gC 88 spec0 := by
 refine proved_of (D := D) (fn := Tryd.f88) (c := Tryd.f88.body.getD .skip) [.agg [.any, .any, .fr 5 (.ints .u8 []), .any]] (by kernel_rfl) (globsPlain_of (by kernel_rfl)) (by kernel_rfl) (by kernel_rfl) (by kernel_rfl) ⟨slices_Concat_byte.ok, sha_through_uint32.ok, sha_small.ok, sha_through_uint64.ok, sha_great.ok, slices_Clone_byte.ok, trivial⟩ trivial ?_ ?_
 · rw [loops]; exact trivial
 · intro args K r h
   unfold spec0 at h
   split at h
   · rw [body]; exact h
   · cases h
theorem ok : Proved Tryd.prog GLO.gC 88 spec := proved_coer _ ok0
end sha_Add
end

section
open Go Go.Abs Go.Proofs
set_option maxRecDepth 100000
set_option linter.unusedVariables false
namespace bits_Le
abbrev X5 := Int × Int × Int × (List Int)
def S5 : X5 → ASt := fun (v0, v16, v17, h0) => ⟨[(0, .v (.int .u64 v0)), (5, .own 0), (16, .v (.int .i64 v16)), (17, .v (.int .i64 v17))], [(0, some ⟨.row 5 (.ints .u8 h0), false⟩)], 1, 30⟩
def V5 : ASt → Option X5
 | ⟨[(0, .v (.int .u64 v0)), (5, .own 0), (16, .v (.int .i64 v16)), (17, .v (.int .i64 v17))], [(0, some ⟨.row 5 (.ints .u8 h0), false⟩)], 1, 30⟩ => some (v0, v16, v17, h0)
 | _ => none
theorem V5_ok (st) (x) (h : V5 st = some x) : st = S5 x := by
 unfold V5 at h
 split at h
 · cases h; rfl
 · cases h
abbrev Y5 := X5
noncomputable def T5 : X5 → (X5 → Option R) → (Y5 → Option R) → Option R := fun (v0, v16, v17, h0) next ex => P.bits_Le_r5 v0 v16 v17 h0 (fun v0 v16 v17 h0 => next (v0, v16, v17, h0)) (fun v0 v16 v17 h0 => ex (v0, v16, v17, h0))
def E5 (K : AExit → ASt → Option R) : Y5 → Option R := (fun x => K (.exit 0) (S5 x))
noncomputable def L5 : LSpec := fun st K => vMap (V5 st) fun (v0, v16, v17, h0) => P.bits_Le_l5 v0 v16 v17 h0 (fun v0 v16 v17 h0 => K (.exit 0) (S5 (v0, v16, v17, h0)))
noncomputable def D : Ctx := ({ P := Tryd.prog, G := [], globs := GLO.gC, hints := [(5, ⟨[0, 5, 16, 17], [], [4], [], none, []⟩)], loops := [(5, L5)], inl := [] } : Ctx)
theorem round5 (K) (next) (x) : roundA D (loopAt Tryd.f103 5) K next (S5 x) = T5 x (fun x => next (S5 x)) (E5 K) := by kernel_rfl
theorem lq5 (st) (K) : L5 st K = vMap (V5 st) (fun x => lp T5 x (E5 K)) := by
 unfold L5
 cases V5 st with
 | none => rfl
 | some x => rw [P.bits_Le_l5_eq]; kernel_rfl
theorem loop5 : LoopOk D (loopAt Tryd.f103 5) := loopOk_lp S5 V5_ok (by kernel_rfl) lq5 round5
theorem body (a0 : Int) (a1 : Int) (K : AVal → Option R) : bodyA D Tryd.f103 [.fr 5 (.ints .u8 [])] [.v (.int .u64 a0), .v (.int .i64 a1)] K = P.bits_Le a0 a1 (fun r0 => K (.fr 5 (.ints .u8 r0))) := by
 rw [P.bits_Le_eq]
 kernel_rfl
theorem loops : loopsOf (Tryd.f103.body.getD .skip) = [loopAt Tryd.f103 5] := by kernel_rfl
noncomputable def spec0 : Abs.Spec := fun args K => match args with
 | [.v (.int .u64 a0), .v (.int .i64 a1)] => P.bits_Le a0 a1 (fun r0 => K (.fr 5 (.ints .u8 r0)))
 | _ => none
noncomputable def spec : Abs.Spec := spec0
theorem ok0 : Proved Tryd.prog GLO.gC 103 spec0 := by
 refine proved_of (D := D) (fn := Tryd.f103) (c := Tryd.f103.body.getD .skip) [.fr 5 (.ints .u8 [])] (by kernel_rfl) (globsPlain_of (by kernel_rfl)) (by kernel_rfl) (by kernel_rfl) (by kernel_rfl) trivial trivial ?_ ?_
 · rw [loops]; exact ⟨loop5, trivial⟩
 · intro args K r h
   unfold spec0 at h
   split at h
   · rw [body]; exact h
   · cases h
theorem ok : Proved Tryd.prog GLO.gC 103 spec := ok0
end bits_Le
end

section
open Go Go.Abs Go.Proofs
set_option maxRecDepth 100000
set_option linter.unusedVariables false
namespace bits_Be
abbrev X1_1 := Int × Int × (List Int)
def S1_1 : X1_1 → ASt := fun (v2, v3, h0) => ⟨[(0, .own 0), (2, .v (.int .i64 v2)), (3, .v (.int .i64 v3))], [(0, some ⟨.row 5 (.ints .u8 h0), false⟩)], 1, 28⟩
def V1_1 : ASt → Option X1_1
 | ⟨[(0, .own 0), (2, .v (.int .i64 v2)), (3, .v (.int .i64 v3))], [(0, some ⟨.row 5 (.ints .u8 h0), false⟩)], 1, 28⟩ => some (v2, v3, h0)
 | _ => none
theorem V1_1_ok (st) (x) (h : V1_1 st = some x) : st = S1_1 x := by
 unfold V1_1 at h
 split at h
 · cases h; rfl
 · cases h
abbrev Y1_1 := X1_1
noncomputable def T1_1 : X1_1 → (X1_1 → Option R) → (Y1_1 → Option R) → Option R := fun (v2, v3, h0) next ex => P.bits_Be_r1_1 v2 v3 h0 (fun v2 v3 h0 => next (v2, v3, h0)) (fun v2 v3 h0 => ex (v2, v3, h0))
def E1_1 (K : AExit → ASt → Option R) : Y1_1 → Option R := (fun x => K (.exit 0) (S1_1 x))
noncomputable def L1_1 : LSpec := fun st K => vMap (V1_1 st) fun (v2, v3, h0) => P.bits_Be_l1_1 v2 v3 h0 (fun v2 v3 h0 => K (.exit 0) (S1_1 (v2, v3, h0)))
noncomputable def D1 : Ctx := ({ P := Tryd.prog, G := [(103, bits_Le.spec)], globs := GLO.gC, hints := [(1, ⟨[0, 2, 3], [], [], [], none, []⟩)], loops := [(1, L1_1)], inl := [] } : Ctx)
noncomputable def D : Ctx := ({ P := Tryd.prog, G := [(103, bits_Le.spec)], globs := GLO.gC, hints := [], loops := [], inl := [(104, bodyIn D1 Tryd.f104)] } : Ctx)
theorem round1_1 (K) (next) (x) : roundA D1 (loopAt Tryd.f104 1) K next (S1_1 x) = T1_1 x (fun x => next (S1_1 x)) (E1_1 K) := by kernel_rfl
theorem lq1_1 (st) (K) : L1_1 st K = vMap (V1_1 st) (fun x => lp T1_1 x (E1_1 K)) := by
 unfold L1_1
 cases V1_1 st with
 | none => rfl
 | some x => rw [P.bits_Be_l1_1_eq]; kernel_rfl
theorem loop1_1 : LoopOk D1 (loopAt Tryd.f104 1) := loopOk_lp S1_1 V1_1_ok (by kernel_rfl) lq1_1 round1_1
theorem body (a0 : Int) (a1 : Int) (K : AVal → Option R) : bodyA D Tryd.f60 [.fr 5 (.ints .u8 [])] [.v (.int .u64 a0), .v (.int .i64 a1)] K = P.bits_Be a0 a1 (fun r0 => K (.fr 5 (.ints .u8 r0))) := by
 rw [P.bits_Be_eq]
 kernel_rfl
theorem loops : loopsOf (Tryd.f60.body.getD .skip) = [] := by kernel_rfl
theorem loops1 : loopsOf (Tryd.f104.body.getD .skip) = [loopAt Tryd.f104 1] := by kernel_rfl
noncomputable def spec0 : Abs.Spec := fun args K => match args with
 | [.v (.int .u64 a0), .v (.int .i64 a1)] => P.bits_Be a0 a1 (fun r0 => K (.fr 5 (.ints .u8 r0)))
 | _ => none
noncomputable def spec : Abs.Spec := spec0
theorem ok0 : Proved Tryd.prog GLO.gC 60 spec0 := by
 refine proved_of (D := D) (fn := Tryd.f60) (c := Tryd.f60.body.getD .skip) [.fr 5 (.ints .u8 [])] (by kernel_rfl) (globsPlain_of (by kernel_rfl)) (by kernel_rfl) (by kernel_rfl) (by kernel_rfl) ⟨bits_Le.ok, trivial⟩ ⟨run_of (D := D1) (D' := D) (fn := Tryd.f104) (c := Tryd.f104.body.getD .skip) rfl rfl (by kernel_rfl) (globsPlain_of (by kernel_rfl)) (by kernel_rfl) (by kernel_rfl) (by kernel_rfl) ⟨bits_Le.ok, trivial⟩ trivial (by rw [loops1]; exact ⟨loop1_1, trivial⟩) (fun _ _ _ _ _ h => h), trivial⟩ ?_ ?_
 · rw [loops]; exact trivial
 · intro args K r h
   unfold spec0 at h
   split at h
   · rw [body]; exact h
   · cases h
theorem ok : Proved Tryd.prog GLO.gC 60 spec := ok0
end bits_Be
end

section
open Go Go.Abs Go.Proofs
set_option maxRecDepth 100000
set_option linter.unusedVariables false
namespace sha_blockSize
noncomputable def D : Ctx := ({ P := Tryd.prog, G := [], globs := GLO.gC, hints := [], loops := [], inl := [] } : Ctx)
theorem body (a0 : Int) (K : AVal → Option R) : bodyA D Tryd.f116 [.any] [.v (.int .i64 a0)] K = P.sha_blockSize a0 (fun r0 => K (.v (.int .i64 r0))) := by
 rw [P.sha_blockSize_eq]
 kernel_rfl
theorem loops : loopsOf (Tryd.f116.body.getD .skip) = [] := by kernel_rfl
noncomputable def spec0 : Abs.Spec := fun args K => match args with
 | [.v (.int .i64 a0)] => P.sha_blockSize a0 (fun r0 => K (.v (.int .i64 r0)))
 | _ => none
noncomputable def spec : Abs.Spec := spec0
theorem ok0 : Proved Tryd.prog GLO.gC 116 spec0 := by
 refine proved_of (D := D) (fn := Tryd.f116) (c := Tryd.f116.body.getD .skip) [.any] (by kernel_rfl) (globsPlain_of (by kernel_rfl)) (by kernel_rfl) (by kernel_rfl) (by kernel_rfl) trivial trivial ?_ ?_
 · rw [loops]; exact trivial
 · intro args K r h
   unfold spec0 at h
   split at h
   · rw [body]; exact h
   · cases h
theorem ok : Proved Tryd.prog GLO.gC 116 spec := ok0
end sha_blockSize
end

section
open Go Go.Abs Go.Proofs
set_option maxRecDepth 100000
set_option linter.unusedVariables false
namespace sha_End
abbrev X10 := Int × (List Int) × Int × (List Int) × Int × (List Int) × Int × (List Int)
def S10 : X10 → ASt := fun (v3, v45, v46, h40, h0_0, h0_1, h0_3, h5) => ⟨[(7, .own 40), (1, .ptr 0 0), (3, .v (.int .i64 v3)), (45, .arr .u64 8 v45), (46, .v (.int .i64 v46))], [(40, some ⟨.row 5 (.ints .u8 h40), false⟩), (0, some ⟨.box 116 [.v (.int .i64 h0_0), .arr .u64 8 h0_1, .own 5, .v (.int .u64 h0_3)], false⟩), (5, some ⟨.row 5 (.ints .u8 h5), false⟩)], 41, 62⟩
def V10 : ASt → Option X10
 | ⟨[(7, .own 40), (1, .ptr 0 0), (3, .v (.int .i64 v3)), (45, .arr .u64 8 v45), (46, .v (.int .i64 v46))], [(40, some ⟨.row 5 (.ints .u8 h40), false⟩), (0, some ⟨.box 116 [.v (.int .i64 h0_0), .arr .u64 8 h0_1, .own 5, .v (.int .u64 h0_3)], false⟩), (5, some ⟨.row 5 (.ints .u8 h5), false⟩)], 41, 62⟩ => some (v3, v45, v46, h40, h0_0, h0_1, h0_3, h5)
 | _ => none
theorem V10_ok (st) (x) (h : V10 st = some x) : st = S10 x := by
 unfold V10 at h
 split at h
 · cases h; rfl
 · cases h
abbrev Y10 := X10
noncomputable def T10 : X10 → (X10 → Option R) → (Y10 → Option R) → Option R := fun (v3, v45, v46, h40, h0_0, h0_1, h0_3, h5) next ex => P.sha_End_r10 v3 v45 v46 h40 h0_0 h0_1 h0_3 h5 (fun v3 v45 v46 h40 h0_0 h0_1 h0_3 h5 => next (v3, v45, v46, h40, h0_0, h0_1, h0_3, h5)) (fun v3 v45 v46 h40 h0_0 h0_1 h0_3 h5 => ex (v3, v45, v46, h40, h0_0, h0_1, h0_3, h5))
def E10 (K : AExit → ASt → Option R) : Y10 → Option R := (fun x => K (.exit 0) (S10 x))
noncomputable def L10 : LSpec := fun st K => vMap (V10 st) fun (v3, v45, v46, h40, h0_0, h0_1, h0_3, h5) => P.sha_End_l10 v3 v45 v46 h40 h0_0 h0_1 h0_3 h5 (fun v3 v45 v46 h40 h0_0 h0_1 h0_3 h5 => K (.exit 0) (S10 (v3, v45, v46, h40, h0_0, h0_1, h0_3, h5)))
noncomputable def D : Ctx := ({ P := Tryd.prog, G := [(60, bits_Be.spec), (88, sha_Add.spec), (116, sha_blockSize.spec)], globs := GLO.gC, hints := [(10, ⟨[1, 3, 45, 46], [(7, 5, .ints .u8 [])], [2], [], some (40, [0, 5]), []⟩)], loops := [(10, L10)], inl := [] } : Ctx)
theorem round10 (K) (next) (x) : roundA D (loopAt Tryd.f87 10) K next (S10 x) = T10 x (fun x => next (S10 x)) (E10 K) := by kernel_rfl
theorem lq10 (st) (K) : L10 st K = vMap (V10 st) (fun x => lp T10 x (E10 K)) := by
 unfold L10
 cases V10 st with
 | none => rfl
 | some x => rw [P.sha_End_l10_eq]; kernel_rfl
theorem loop10 : LoopOk D (loopAt Tryd.f87 10) := loopOk_lp S10 V10_ok (by kernel_rfl) lq10 round10
theorem body (a0_Kind : Int) (a0_Words : List Int) (a0_Tail : List Int) (a0_Size : Int) (K : AVal → Option R) : bodyW D Tryd.f87 5 (.ints .u8 []) [.agg [.v (.int .i64 a0_Kind), .arr .u64 8 a0_Words, .sl (.ints .u8 a0_Tail), .v (.int .u64 a0_Size)]] K = P.sha_End a0_Kind a0_Words a0_Tail a0_Size (fun r0 => K (.fr 5 (.ints .u8 r0))) := by
 rw [P.sha_End_eq]
 kernel_rfl
theorem loops : loopsOf (Tryd.f87.body.getD .skip) = [loopAt Tryd.f87 10] := by kernel_rfl
noncomputable def spec0 : Abs.Spec := fun args K => match args with
 | [.agg [.v (.int .i64 a0_Kind), .arr .u64 8 a0_Words, .sl (.ints .u8 a0_Tail), .v (.int .u64 a0_Size)]] => P.sha_End a0_Kind a0_Words a0_Tail a0_Size (fun r0 => K (.fr 5 (.ints .u8 r0)))
 | _ => none
noncomputable def spec : Abs.Spec := fun args K => spec0 (coerL [.agg [.any, .any, .sl (.ints .u8 []), .any]] args) K
theorem ok0 : Proved Tryd.prog GLO.gC 87 spec0 := by
 refine provedW_of (D := D) (fn := Tryd.f87) (c := Tryd.f87.body.getD .skip) 5 (.ints .u8 []) (by kernel_rfl) (globsPlain_of (by kernel_rfl)) (by kernel_rfl) (by kernel_rfl) (by kernel_rfl) ⟨bits_Be.ok, sha_Add.ok, sha_blockSize.ok, trivial⟩ trivial ?_ ?_
 · rw [loops]; exact ⟨loop10, trivial⟩
 · intro args K r h
   unfold spec0 at h
   split at h
   · rw [body]; exact h
   · cases h
theorem ok : Proved Tryd.prog GLO.gC 87 spec := proved_coer _ ok0
end sha_End
end

section
open Go Go.Abs Go.Proofs
set_option maxRecDepth 100000
set_option linter.unusedVariables false
namespace sha_begin
noncomputable def D : Ctx := ({ P := Tryd.prog, G := [], globs := GLO.gC, hints := [], loops := [], inl := [] } : Ctx)
theorem body (a0 : Int) (K : AVal → Option R) : bodyA D Tryd.f115 [.any, .any] [.v (.int .i64 a0)] K = P.sha_begin a0 (fun r0 r1 => K (.tuple [.arr .u64 8 r0, .v (.bool r1)])) := by
 rw [P.sha_begin_eq]
 kernel_rfl
theorem loops : loopsOf (Tryd.f115.body.getD .skip) = [] := by kernel_rfl
noncomputable def spec0 : Abs.Spec := fun args K => match args with
 | [.v (.int .i64 a0)] => P.sha_begin a0 (fun r0 r1 => K (.tuple [.arr .u64 8 r0, .v (.bool r1)]))
 | _ => none
noncomputable def spec : Abs.Spec := spec0
theorem ok0 : Proved Tryd.prog GLO.gC 115 spec0 := by
 refine proved_of (D := D) (fn := Tryd.f115) (c := Tryd.f115.body.getD .skip) [.any, .any] (by kernel_rfl) (globsPlain_of (by kernel_rfl)) (by kernel_rfl) (by kernel_rfl) (by kernel_rfl) trivial trivial ?_ ?_
 · rw [loops]; exact trivial
 · intro args K r h
   unfold spec0 at h
   split at h
   · rw [body]; exact h
   · cases h
theorem ok : Proved Tryd.prog GLO.gC 115 spec := ok0
end sha_begin
end

section
open Go Go.Abs Go.Proofs
set_option maxRecDepth 100000
set_option linter.unusedVariables false
namespace sha_New
noncomputable def D : Ctx := ({ P := Tryd.prog, G := [(115, sha_begin.spec)], globs := GLO.gC, hints := [], loops := [], inl := [] } : Ctx)
theorem body (a0 : Int) (K : AVal → Option R) : bodyA D Tryd.f86 [.agg [.any, .any, .fr 5 (.ints .u8 []), .any], .any] [.v (.int .i64 a0)] K = P.sha_New a0 (fun r0_Kind r0_Words r0_Tail r0_Size r1 => K (.tuple [.agg [.v (.int .i64 r0_Kind), .arr .u64 8 r0_Words, .fr 5 (.ints .u8 r0_Tail), .v (.int .u64 r0_Size)], .v (.int .i64 r1)])) := by
 rw [P.sha_New_eq]
 kernel_rfl
theorem loops : loopsOf (Tryd.f86.body.getD .skip) = [] := by kernel_rfl
noncomputable def spec0 : Abs.Spec := fun args K => match args with
 | [.v (.int .i64 a0)] => P.sha_New a0 (fun r0_Kind r0_Words r0_Tail r0_Size r1 => K (.tuple [.agg [.v (.int .i64 r0_Kind), .arr .u64 8 r0_Words, .fr 5 (.ints .u8 r0_Tail), .v (.int .u64 r0_Size)], .v (.int .i64 r1)]))
 | _ => none
noncomputable def spec : Abs.Spec := spec0
theorem ok0 : Proved Tryd.prog GLO.gC 86 spec0 := by
 refine proved_of (D := D) (fn := Tryd.f86) (c := Tryd.f86.body.getD .skip) [.agg [.any, .any, .fr 5 (.ints .u8 []), .any], .any] (by kernel_rfl) (globsPlain_of (by kernel_rfl)) (by kernel_rfl) (by kernel_rfl) (by kernel_rfl) ⟨sha_begin.ok, trivial⟩ trivial ?_ ?_
 · rw [loops]; exact trivial
 · intro args K r h
   unfold spec0 at h
   split at h
   · rw [body]; exact h
   · cases h
theorem ok : Proved Tryd.prog GLO.gC 86 spec := ok0
end sha_New
end

section
open Go Go.Abs Go.Proofs
set_option maxRecDepth 100000
set_option linter.unusedVariables false
namespace sha_Sum
noncomputable def D : Ctx := ({ P := Tryd.prog, G := [(86, sha_New.spec), (87, sha_End.spec), (88, sha_Add.spec)], globs := GLO.gC, hints := [], loops := [], inl := [] } : Ctx)
theorem body (a0 : Int) (a1 : List Int) (K : AVal → Option R) : bodyA D Tryd.f51 [.fr 5 (.ints .u8 []), .any] [.v (.int .i64 a0), .sl (.ints .u8 a1)] K = P.sha_Sum a0 a1 (fun r0 r1 => K (.tuple [.fr 5 (.ints .u8 r0), .v (.int .i64 r1)])) := by
 rw [P.sha_Sum_eq]
 kernel_rfl
theorem loops : loopsOf (Tryd.f51.body.getD .skip) = [] := by kernel_rfl
noncomputable def spec0 : Abs.Spec := fun args K => match args with
 | [.v (.int .i64 a0), .sl (.ints .u8 a1)] => P.sha_Sum a0 a1 (fun r0 r1 => K (.tuple [.fr 5 (.ints .u8 r0), .v (.int .i64 r1)]))
 | _ => none
noncomputable def spec : Abs.Spec := fun args K => spec0 (coerL [.any, .sl (.ints .u8 [])] args) K
theorem ok0 : Proved Tryd.prog GLO.gC 51 spec0 := by
 refine proved_of (D := D) (fn := Tryd.f51) (c := Tryd.f51.body.getD .skip) [.fr 5 (.ints .u8 []), .any] (by kernel_rfl) (globsPlain_of (by kernel_rfl)) (by kernel_rfl) (by kernel_rfl) (by kernel_rfl) ⟨sha_New.ok, sha_End.ok, sha_Add.ok, trivial⟩ trivial ?_ ?_
 · rw [loops]; exact trivial
 · intro args K r h
   unfold spec0 at h
   split at h
   · rw [body]; exact h
   · cases h
theorem ok : Proved Tryd.prog GLO.gC 51 spec := proved_coer _ ok0
end sha_Sum
end

section
open Go Go.Abs Go.Proofs
set_option maxRecDepth 100000
set_option linter.unusedVariables false
namespace mac_Digest
noncomputable def D : Ctx := ({ P := Tryd.prog, G := [(16, mac_Size.spec), (51, sha_Sum.spec), (52, keccak_Sum.spec)], globs := GLO.gC, hints := [], loops := [], inl := [] } : Ctx)
theorem body (a0 : Int) (a1 : List Int) (K : AVal → Option R) : bodyA D Tryd.f11 [.fr 5 (.ints .u8 []), .any] [.v (.int .i64 a0), .sl (.ints .u8 a1)] K = P.mac_Digest a0 a1 (fun r0 r1 => K (.tuple [.fr 5 (.ints .u8 r0), .v (.int .i64 r1)])) := by
 rw [P.mac_Digest_eq]
 kernel_rfl
theorem loops : loopsOf (Tryd.f11.body.getD .skip) = [] := by kernel_rfl
noncomputable def spec0 : Abs.Spec := fun args K => match args with
 | [.v (.int .i64 a0), .sl (.ints .u8 a1)] => P.mac_Digest a0 a1 (fun r0 r1 => K (.tuple [.fr 5 (.ints .u8 r0), .v (.int .i64 r1)]))
 | _ => none
noncomputable def spec : Abs.Spec := fun args K => spec0 (coerL [.any, .sl (.ints .u8 [])] args) K
theorem ok0 : Proved Tryd.prog GLO.gC 11 spec0 := by
 refine proved_of (D := D) (fn := Tryd.f11) (c := Tryd.f11.body.getD .skip) [.fr 5 (.ints .u8 []), .any] (by kernel_rfl) (globsPlain_of (by kernel_rfl)) (by kernel_rfl) (by kernel_rfl) (by kernel_rfl) ⟨mac_Size.ok, sha_Sum.ok, keccak_Sum.ok, trivial⟩ trivial ?_ ?_
 · rw [loops]; exact trivial
 · intro args K r h
   unfold spec0 at h
   split at h
   · rw [body]; exact h
   · cases h
theorem ok : Proved Tryd.prog GLO.gC 11 spec := proved_coer _ ok0
end mac_Digest
end

section
open Go Go.Abs Go.Proofs
set_option maxRecDepth 100000
set_option linter.unusedVariables false
namespace mac_digests_f1
noncomputable def D : Ctx := ({ P := Tryd.prog, G := [(11, mac_Digest.spec), (62, bits_Join.spec)], globs := GLO.gC, hints := [], loops := [], inl := [] } : Ctx)
theorem body (a0 : List (List Int)) (a1 : Int) (K : AVal → Option R) : bodyA D Tryd.f102 [.fr 5 (.ints .u8 [])] [.sl (.rows .u8 a0), .sta [.v (.int .i64 a1)]] K = P.mac_digests_f1 a0 a1 (fun r0 => K (.fr 5 (.ints .u8 r0))) := by
 rw [P.mac_digests_f1_eq]
 kernel_rfl
theorem loops : loopsOf (Tryd.f102.body.getD .skip) = [] := by kernel_rfl
noncomputable def spec0 : Abs.Spec := fun args K => match args with
 | [.sl (.rows .u8 a0), .sta [.v (.int .i64 a1)]] => P.mac_digests_f1 a0 a1 (fun r0 => K (.fr 5 (.ints .u8 r0)))
 | _ => none
noncomputable def spec : Abs.Spec := fun args K => spec0 (coerL [.sl (.rows .u8 []), .any] args) K
theorem ok0 : Proved Tryd.prog GLO.gC 102 spec0 := by
 refine proved_of (D := D) (fn := Tryd.f102) (c := Tryd.f102.body.getD .skip) [.fr 5 (.ints .u8 [])] (by kernel_rfl) (globsPlain_of (by kernel_rfl)) (by kernel_rfl) (by kernel_rfl) (by kernel_rfl) ⟨mac_Digest.ok, bits_Join.ok, trivial⟩ trivial ?_ ?_
 · rw [loops]; exact trivial
 · intro args K r h
   unfold spec0 at h
   split at h
   · rw [body]; exact h
   · cases h
theorem ok : Proved Tryd.prog GLO.gC 102 spec := proved_coer _ ok0
end mac_digests_f1
end

section
open Go Go.Abs Go.Proofs
set_option maxRecDepth 100000
set_option linter.unusedVariables false
namespace mac_digests
noncomputable def D : Ctx := ({ P := Tryd.prog, G := [(102, mac_digests_f1.spec)], globs := GLO.gC, hints := [], loops := [], inl := [], sta := true } : Ctx)
theorem body (a0 : Int) (K : AVal → Option R) : bodyA D Tryd.f59 [.any] [.v (.int .i64 a0)] K = P.mac_digests a0 (fun r0_c0 => K (.fn (.func 102) [] [.sta [.v (.int .i64 r0_c0)]])) := by
 rw [P.mac_digests_eq]
 kernel_rfl
theorem loops : loopsOf (Tryd.f59.body.getD .skip) = [] := by kernel_rfl
noncomputable def spec0 : Abs.Spec := fun args K => match args with
 | [.v (.int .i64 a0)] => P.mac_digests a0 (fun r0_c0 => K (.fn (.func 102) [] [.sta [.v (.int .i64 r0_c0)]]))
 | _ => none
noncomputable def spec : Abs.Spec := spec0
theorem ok0 : Proved Tryd.prog GLO.gC 59 spec0 := by
 refine proved_of (D := D) (fn := Tryd.f59) (c := Tryd.f59.body.getD .skip) [.any] (by kernel_rfl) (globsPlain_of (by kernel_rfl)) (by kernel_rfl) (by kernel_rfl) (by kernel_rfl) ⟨mac_digests_f1.ok, trivial⟩ trivial ?_ ?_
 · rw [loops]; exact trivial
 · intro args K r h
   unfold spec0 at h
   split at h
   · rw [body]; exact h
   · cases h
theorem ok : Proved Tryd.prog GLO.gC 59 spec := ok0
end mac_digests
end

section
open Go Go.Abs Go.Proofs
set_option maxRecDepth 100000
set_option linter.unusedVariables false
namespace mac_stirred
abbrev X4 := Int × Int × Int × (List Int)
def S4 : X4 → ASt := fun (v2, v15, v16, h0) => ⟨[(2, .v (.int .u8 v2)), (7, .own 0), (15, .v (.int .i64 v15)), (16, .v (.int .i64 v16))], [(0, some ⟨.row 5 (.ints .u8 h0), false⟩)], 1, 28⟩
def V4 : ASt → Option X4
 | ⟨[(2, .v (.int .u8 v2)), (7, .own 0), (15, .v (.int .i64 v15)), (16, .v (.int .i64 v16))], [(0, some ⟨.row 5 (.ints .u8 h0), false⟩)], 1, 28⟩ => some (v2, v15, v16, h0)
 | _ => none
theorem V4_ok (st) (x) (h : V4 st = some x) : st = S4 x := by
 unfold V4 at h
 split at h
 · cases h; rfl
 · cases h
abbrev Y4 := X4
noncomputable def T4 : X4 → (X4 → Option R) → (Y4 → Option R) → Option R := fun (v2, v15, v16, h0) next ex => P.mac_stirred_r4 v2 v15 v16 h0 (fun v2 v15 v16 h0 => next (v2, v15, v16, h0)) (fun v2 v15 v16 h0 => ex (v2, v15, v16, h0))
def E4 (K : AExit → ASt → Option R) : Y4 → Option R := (fun x => K (.exit 0) (S4 x))
noncomputable def L4 : LSpec := fun st K => vMap (V4 st) fun (v2, v15, v16, h0) => P.mac_stirred_l4 v2 v15 v16 h0 (fun v2 v15 v16 h0 => K (.exit 0) (S4 (v2, v15, v16, h0)))
noncomputable def D : Ctx := ({ P := Tryd.prog, G := [], globs := GLO.gC, hints := [(4, ⟨[2, 7, 15, 16], [], [6], [], none, []⟩)], loops := [(4, L4)], inl := [] } : Ctx)
theorem round4 (K) (next) (x) : roundA D (loopAt Tryd.f98 4) K next (S4 x) = T4 x (fun x => next (S4 x)) (E4 K) := by kernel_rfl
theorem lq4 (st) (K) : L4 st K = vMap (V4 st) (fun x => lp T4 x (E4 K)) := by
 unfold L4
 cases V4 st with
 | none => rfl
 | some x => rw [P.mac_stirred_l4_eq]; kernel_rfl
theorem loop4 : LoopOk D (loopAt Tryd.f98 4) := loopOk_lp S4 V4_ok (by kernel_rfl) lq4 round4
theorem body (a0 : List Int) (a1 : Int) (a2 : Int) (K : AVal → Option R) : bodyA D Tryd.f98 [.fr 5 (.ints .u8 [])] [.sl (.ints .u8 a0), .v (.int .i64 a1), .v (.int .u8 a2)] K = P.mac_stirred a0 a1 a2 (fun r0 => K (.fr 5 (.ints .u8 r0))) := by
 rw [P.mac_stirred_eq]
 kernel_rfl
theorem loops : loopsOf (Tryd.f98.body.getD .skip) = [loopAt Tryd.f98 4] := by kernel_rfl
noncomputable def spec0 : Abs.Spec := fun args K => match args with
 | [.sl (.ints .u8 a0), .v (.int .i64 a1), .v (.int .u8 a2)] => P.mac_stirred a0 a1 a2 (fun r0 => K (.fr 5 (.ints .u8 r0)))
 | _ => none
noncomputable def spec : Abs.Spec := fun args K => spec0 (coerL [.sl (.ints .u8 []), .any, .any] args) K
theorem ok0 : Proved Tryd.prog GLO.gC 98 spec0 := by
 refine proved_of (D := D) (fn := Tryd.f98) (c := Tryd.f98.body.getD .skip) [.fr 5 (.ints .u8 [])] (by kernel_rfl) (globsPlain_of (by kernel_rfl)) (by kernel_rfl) (by kernel_rfl) (by kernel_rfl) trivial trivial ?_ ?_
 · rw [loops]; exact ⟨loop4, trivial⟩
 · intro args K r h
   unfold spec0 at h
   split at h
   · rw [body]; exact h
   · cases h
theorem ok : Proved Tryd.prog GLO.gC 98 spec := proved_coer _ ok0
end mac_stirred
end

section
open Go Go.Abs Go.Proofs
set_option maxRecDepth 100000
set_option linter.unusedVariables false
namespace mac_with_f1
noncomputable def D : Ctx := ({ P := Tryd.prog, G := [(62, bits_Join.spec), (102, mac_digests_f1.spec)], globs := GLO.gC, hints := [], loops := [], inl := [] } : Ctx)
theorem body (a0 : List (List Int)) (a1_c0 : Int) (a2 : List Int) (a3 : List Int) (K : AVal → Option R) : bodyA D Tryd.f99 [.fr 5 (.ints .u8 [])] [.sl (.rows .u8 a0), .sta [.fn (.func 102) [] [.sta [.v (.int .i64 a1_c0)]]], .sta [.sl (.ints .u8 a2)], .sta [.sl (.ints .u8 a3)]] K = P.mac_with_f1 a0 a1_c0 a2 a3 (fun r0 => K (.fr 5 (.ints .u8 r0))) := by
 rw [P.mac_with_f1_eq]
 kernel_rfl
theorem loops : loopsOf (Tryd.f99.body.getD .skip) = [] := by kernel_rfl
noncomputable def spec0 : Abs.Spec := fun args K => match args with
 | [.sl (.rows .u8 a0), .sta [.fn (.func 102) [] [.sta [.v (.int .i64 a1_c0)]]], .sta [.sl (.ints .u8 a2)], .sta [.sl (.ints .u8 a3)]] => P.mac_with_f1 a0 a1_c0 a2 a3 (fun r0 => K (.fr 5 (.ints .u8 r0)))
 | _ => none
noncomputable def spec : Abs.Spec := fun args K => spec0 (coerL [.sl (.rows .u8 []), .any, .agg [.sl (.ints .u8 [])], .agg [.sl (.ints .u8 [])]] args) K
theorem ok0 : Proved Tryd.prog GLO.gC 99 spec0 := by
 refine proved_of (D := D) (fn := Tryd.f99) (c := Tryd.f99.body.getD .skip) [.fr 5 (.ints .u8 [])] (by kernel_rfl) (globsPlain_of (by kernel_rfl)) (by kernel_rfl) (by kernel_rfl) (by kernel_rfl) ⟨bits_Join.ok, mac_digests_f1.ok, trivial⟩ trivial ?_ ?_
 · rw [loops]; exact trivial
 · intro args K r h
   unfold spec0 at h
   split at h
   · rw [body]; exact h
   · cases h
theorem ok : Proved Tryd.prog GLO.gC 99 spec := proved_coer _ ok0
end mac_with_f1
end

section
open Go Go.Abs Go.Proofs
set_option maxRecDepth 100000
set_option linter.unusedVariables false
namespace mac_with
noncomputable def D : Ctx := ({ P := Tryd.prog, G := [(59, mac_digests.spec), (98, mac_stirred.spec), (99, mac_with_f1.spec), (102, mac_digests_f1.spec)], globs := GLO.gC, hints := [], loops := [], inl := [], sta := true } : Ctx)
theorem body (a0 : Int) (a1 : List Int) (K : AVal → Option R) : bodyA D Tryd.f56 [.agg [.any, .agg [.sl (.ints .u8 [])], .agg [.sl (.ints .u8 [])]]] [.v (.int .i64 a0), .sl (.ints .u8 a1)] K = P.mac_with a0 a1 (fun r0_c0_c0 r0_c1 r0_c2 => K (.fn (.func 99) [] [.sta [.fn (.func 102) [] [.sta [.v (.int .i64 r0_c0_c0)]]], .sta [.sl (.ints .u8 r0_c1)], .sta [.sl (.ints .u8 r0_c2)]])) := by
 rw [P.mac_with_eq]
 kernel_rfl
theorem loops : loopsOf (Tryd.f56.body.getD .skip) = [] := by kernel_rfl
noncomputable def spec0 : Abs.Spec := fun args K => match args with
 | [.v (.int .i64 a0), .sl (.ints .u8 a1)] => P.mac_with a0 a1 (fun r0_c0_c0 r0_c1 r0_c2 => K (.fn (.func 99) [] [.sta [.fn (.func 102) [] [.sta [.v (.int .i64 r0_c0_c0)]]], .sta [.sl (.ints .u8 r0_c1)], .sta [.sl (.ints .u8 r0_c2)]]))
 | _ => none
noncomputable def spec : Abs.Spec := fun args K => spec0 (coerL [.any, .sl (.ints .u8 [])] args) K
theorem ok0 : Proved Tryd.prog GLO.gC 56 spec0 := by
 refine proved_of (D := D) (fn := Tryd.f56) (c := Tryd.f56.body.getD .skip) [.agg [.any, .agg [.sl (.ints .u8 [])], .agg [.sl (.ints .u8 [])]]] (by kernel_rfl) (globsPlain_of (by kernel_rfl)) (by kernel_rfl) (by kernel_rfl) (by kernel_rfl) ⟨mac_digests.ok, mac_stirred.ok, mac_with_f1.ok, mac_digests_f1.ok, trivial⟩ trivial ?_ ?_
 · rw [loops]; exact trivial
 · intro args K r h
   unfold spec0 at h
   split at h
   · rw [body]; exact h
   · cases h
theorem ok : Proved Tryd.prog GLO.gC 56 spec := proved_coer _ ok0
end mac_with
end

section
open Go Go.Abs Go.Proofs
set_option maxRecDepth 100000
set_option linter.unusedVariables false
namespace mac_Expand
abbrev X8 := (List Int) × Int × Int × (List Int) × (List Int) × (List Int) × Int × (List Int)
def S8 : X8 → ASt := fun (v2, v3, v10_c0_0_c0_0, v10_c1_0, v10_c2_0, v12, v13, h0) => ⟨[(11, .own 0), (2, .sl (.ints .u8 v2)), (3, .v (.int .i64 v3)), (10, .fn (.func 99) [] [.sta [.fn (.func 102) [] [.sta [.v (.int .i64 v10_c0_0_c0_0)]]], .sta [.sl (.ints .u8 v10_c1_0)], .sta [.sl (.ints .u8 v10_c2_0)]]), (12, .sl (.ints .u8 v12)), (13, .v (.int .u8 v13))], [(0, some ⟨.row 5 (.ints .u8 h0), false⟩)], 1, 51⟩
def V8 : ASt → Option X8
 | ⟨[(11, .own 0), (2, .sl (.ints .u8 v2)), (3, .v (.int .i64 v3)), (10, .fn (.func 99) [] [.sta [.fn (.func 102) [] [.sta [.v (.int .i64 v10_c0_0_c0_0)]]], .sta [.sl (.ints .u8 v10_c1_0)], .sta [.sl (.ints .u8 v10_c2_0)]]), (12, .sl (.ints .u8 v12)), (13, .v (.int .u8 v13))], [(0, some ⟨.row 5 (.ints .u8 h0), false⟩)], 1, 51⟩ => some (v2, v3, v10_c0_0_c0_0, v10_c1_0, v10_c2_0, v12, v13, h0)
 | _ => none
theorem V8_ok (st) (x) (h : V8 st = some x) : st = S8 x := by
 unfold V8 at h
 split at h
 · cases h; rfl
 · cases h
abbrev Y8 := X8
noncomputable def T8 : X8 → (X8 → Option R) → (Y8 → Option R) → Option R := fun (v2, v3, v10_c0_0_c0_0, v10_c1_0, v10_c2_0, v12, v13, h0) next ex => P.mac_Expand_r8 v2 v3 v10_c0_0_c0_0 v10_c1_0 v10_c2_0 v12 v13 h0 (fun v2 v3 v10_c0_0_c0_0 v10_c1_0 v10_c2_0 v12 v13 h0 => next (v2, v3, v10_c0_0_c0_0, v10_c1_0, v10_c2_0, v12, v13, h0)) (fun v2 v3 v10_c0_0_c0_0 v10_c1_0 v10_c2_0 v12 v13 h0 => ex (v2, v3, v10_c0_0_c0_0, v10_c1_0, v10_c2_0, v12, v13, h0))
def E8 (K : AExit → ASt → Option R) : Y8 → Option R := (fun x => K (.exit 1) (S8 x))
noncomputable def L8 : LSpec := fun st K => vMap (V8 st) fun (v2, v3, v10_c0_0_c0_0, v10_c1_0, v10_c2_0, v12, v13, h0) => P.mac_Expand_l8 v2 v3 v10_c0_0_c0_0 v10_c1_0 v10_c2_0 v12 v13 h0 (fun v2 v3 v10_c0_0_c0_0 v10_c1_0 v10_c2_0 v12 v13 h0 => K (.exit 1) (S8 (v2, v3, v10_c0_0_c0_0, v10_c1_0, v10_c2_0, v12, v13, h0)))
noncomputable def D : Ctx := ({ P := Tryd.prog, G := [(16, mac_Size.spec), (55, mac_keyed.spec), (56, mac_with.spec), (99, mac_with_f1.spec)], globs := GLO.gC, hints := [(8, ⟨[2, 3, 10, 12, 13], [(11, 5, .ints .u8 [])], [8, 9], [(12, .sl (.ints .u8 []))], none, []⟩)], loops := [(8, L8)], inl := [] } : Ctx)
theorem round8 (K) (next) (x) : roundA D (loopAt Tryd.f19 8) K next (S8 x) = T8 x (fun x => next (S8 x)) (E8 K) := by kernel_rfl
theorem lq8 (st) (K) : L8 st K = vMap (V8 st) (fun x => lp T8 x (E8 K)) := by
 unfold L8
 cases V8 st with
 | none => rfl
 | some x => rw [P.mac_Expand_l8_eq]; kernel_rfl
theorem loop8 : LoopOk D (loopAt Tryd.f19 8) := loopOk_lp S8 V8_ok (by kernel_rfl) lq8 round8
theorem body (a0 : Int) (a1 : List Int) (a2 : List Int) (a3 : Int) (K : AVal → Option R) : bodyA D Tryd.f19 [.sl (.ints .u8 []), .any] [.v (.int .i64 a0), .sl (.ints .u8 a1), .sl (.ints .u8 a2), .v (.int .i64 a3)] K = P.mac_Expand a0 a1 a2 a3 (fun r0 r1 => K (.tuple [.sl (.ints .u8 r0), .v (.int .i64 r1)])) := by
 rw [P.mac_Expand_eq]
 kernel_rfl
theorem loops : loopsOf (Tryd.f19.body.getD .skip) = [loopAt Tryd.f19 8] := by kernel_rfl
noncomputable def spec0 : Abs.Spec := fun args K => match args with
 | [.v (.int .i64 a0), .sl (.ints .u8 a1), .sl (.ints .u8 a2), .v (.int .i64 a3)] => P.mac_Expand a0 a1 a2 a3 (fun r0 r1 => K (.tuple [.sl (.ints .u8 r0), .v (.int .i64 r1)]))
 | _ => none
noncomputable def spec : Abs.Spec := fun args K => spec0 (coerL [.any, .sl (.ints .u8 []), .sl (.ints .u8 []), .any] args) K
theorem ok0 : Proved Tryd.prog GLO.gC 19 spec0 := by
 refine proved_of (D := D) (fn := Tryd.f19) (c := Tryd.f19.body.getD .skip) [.sl (.ints .u8 []), .any] (by kernel_rfl) (globsPlain_of (by kernel_rfl)) (by kernel_rfl) (by kernel_rfl) (by kernel_rfl) ⟨mac_Size.ok, mac_keyed.ok, mac_with.ok, mac_with_f1.ok, trivial⟩ trivial ?_ ?_
 · rw [loops]; exact ⟨loop8, trivial⟩
 · intro args K r h
   unfold spec0 at h
   split at h
   · rw [body]; exact h
   · cases h
theorem ok : Proved Tryd.prog GLO.gC 19 spec := proved_coer _ ok0
end mac_Expand
end

section
open Go Go.Abs Go.Proofs
set_option maxRecDepth 100000
set_option linter.unusedVariables false
namespace mac_Hmac
noncomputable def D : Ctx := ({ P := Tryd.prog, G := [(55, mac_keyed.spec), (56, mac_with.spec), (99, mac_with_f1.spec)], globs := GLO.gC, hints := [], loops := [], inl := [] } : Ctx)
theorem body (a0 : Int) (a1 : List Int) (a2 : List Int) (K : AVal → Option R) : bodyA D Tryd.f13 [.fr 5 (.ints .u8 []), .any] [.v (.int .i64 a0), .sl (.ints .u8 a1), .sl (.ints .u8 a2)] K = P.mac_Hmac a0 a1 a2 (fun r0 r1 => K (.tuple [.fr 5 (.ints .u8 r0), .v (.int .i64 r1)])) := by
 rw [P.mac_Hmac_eq]
 kernel_rfl
theorem loops : loopsOf (Tryd.f13.body.getD .skip) = [] := by kernel_rfl
noncomputable def spec0 : Abs.Spec := fun args K => match args with
 | [.v (.int .i64 a0), .sl (.ints .u8 a1), .sl (.ints .u8 a2)] => P.mac_Hmac a0 a1 a2 (fun r0 r1 => K (.tuple [.fr 5 (.ints .u8 r0), .v (.int .i64 r1)]))
 | _ => none
noncomputable def spec : Abs.Spec := fun args K => spec0 (coerL [.any, .sl (.ints .u8 []), .sl (.ints .u8 [])] args) K
theorem ok0 : Proved Tryd.prog GLO.gC 13 spec0 := by
 refine proved_of (D := D) (fn := Tryd.f13) (c := Tryd.f13.body.getD .skip) [.fr 5 (.ints .u8 []), .any] (by kernel_rfl) (globsPlain_of (by kernel_rfl)) (by kernel_rfl) (by kernel_rfl) (by kernel_rfl) ⟨mac_keyed.ok, mac_with.ok, mac_with_f1.ok, trivial⟩ trivial ?_ ?_
 · rw [loops]; exact trivial
 · intro args K r h
   unfold spec0 at h
   split at h
   · rw [body]; exact h
   · cases h
theorem ok : Proved Tryd.prog GLO.gC 13 spec := proved_coer _ ok0
end mac_Hmac
end

section
open Go Go.Abs Go.Proofs
set_option maxRecDepth 100000
set_option linter.unusedVariables false
namespace L09_awake
noncomputable def D : Ctx := ({ P := Tryd.prog, G := [(13, mac_Hmac.spec), (16, mac_Size.spec), (18, R01_Same.spec), (19, mac_Expand.spec)], globs := GLO.gC, hints := [], loops := [], inl := [] } : Ctx)
theorem body  (K : AVal → Option R) : bodyA D Tryd.f10 [.any] [] K = P.L09_awake (fun r0 => K (.v (.bool r0))) := by
 rw [P.L09_awake_eq]
 kernel_rfl
theorem loops : loopsOf (Tryd.f10.body.getD .skip) = [] := by kernel_rfl
noncomputable def spec0 : Abs.Spec := fun args K => match args with
 | [] => P.L09_awake (fun r0 => K (.v (.bool r0)))
 | _ => none
noncomputable def spec : Abs.Spec := spec0
theorem ok0 : Proved Tryd.prog GLO.gC 10 spec0 := by
 refine proved_of (D := D) (fn := Tryd.f10) (c := Tryd.f10.body.getD .skip) [.any] (by kernel_rfl) (globsPlain_of (by kernel_rfl)) (by kernel_rfl) (by kernel_rfl) (by kernel_rfl) ⟨mac_Hmac.ok, mac_Size.ok, R01_Same.ok, mac_Expand.ok, trivial⟩ trivial ?_ ?_
 · rw [loops]; exact trivial
 · intro args K r h
   unfold spec0 at h
   split at h
   · rw [body]; exact h
   · cases h
theorem ok : Proved Tryd.prog GLO.gC 10 spec := ok0
end L09_awake
end

section
open Go Go.Abs Go.Proofs
set_option maxRecDepth 100000
set_option linter.unusedVariables false
namespace R01_Join
abbrev X3 := (List (List Int)) × Int × (List Int)
def S3 : X3 → ASt := fun (v0, v4, h0) => ⟨[(3, .own 0), (0, .sl (.rows .u8 v0)), (4, .v (.int .i64 v4))], [(0, some ⟨.row 5 (.ints .u8 h0), false⟩)], 1, 18⟩
def V3 : ASt → Option X3
 | ⟨[(3, .own 0), (0, .sl (.rows .u8 v0)), (4, .v (.int .i64 v4))], [(0, some ⟨.row 5 (.ints .u8 h0), false⟩)], 1, 18⟩ => some (v0, v4, h0)
 | _ => none
theorem V3_ok (st) (x) (h : V3 st = some x) : st = S3 x := by
 unfold V3 at h
 split at h
 · cases h; rfl
 · cases h
abbrev Y3 := X3
noncomputable def T3 : X3 → (X3 → Option R) → (Y3 → Option R) → Option R := fun (v0, v4, h0) next ex => P.R01_Join_r3 v0 v4 h0 (fun v0 v4 h0 => next (v0, v4, h0)) (fun v0 v4 h0 => ex (v0, v4, h0))
def E3 (K : AExit → ASt → Option R) : Y3 → Option R := (fun x => K (.exit 0) (S3 x))
noncomputable def L3 : LSpec := fun st K => vMap (V3 st) fun (v0, v4, h0) => P.R01_Join_l3 v0 v4 h0 (fun v0 v4 h0 => K (.exit 0) (S3 (v0, v4, h0)))
noncomputable def D : Ctx := ({ P := Tryd.prog, G := [], globs := GLO.gC, hints := [(3, ⟨[0, 4], [(3, 5, .ints .u8 [])], [2], [], none, []⟩)], loops := [(3, L3)], inl := [] } : Ctx)
theorem round3 (K) (next) (x) : roundA D (loopAt Tryd.f58 3) K next (S3 x) = T3 x (fun x => next (S3 x)) (E3 K) := by kernel_rfl
theorem lq3 (st) (K) : L3 st K = vMap (V3 st) (fun x => lp T3 x (E3 K)) := by
 unfold L3
 cases V3 st with
 | none => rfl
 | some x => rw [P.R01_Join_l3_eq]; kernel_rfl
theorem loop3 : LoopOk D (loopAt Tryd.f58 3) := loopOk_lp S3 V3_ok (by kernel_rfl) lq3 round3
theorem body (a0 : List (List Int)) (K : AVal → Option R) : bodyA D Tryd.f58 [.fr 5 (.ints .u8 [])] [.sl (.rows .u8 a0)] K = P.R01_Join a0 (fun r0 => K (.fr 5 (.ints .u8 r0))) := by
 rw [P.R01_Join_eq]
 kernel_rfl
theorem loops : loopsOf (Tryd.f58.body.getD .skip) = [loopAt Tryd.f58 3] := by kernel_rfl
noncomputable def spec0 : Abs.Spec := fun args K => match args with
 | [.sl (.rows .u8 a0)] => P.R01_Join a0 (fun r0 => K (.fr 5 (.ints .u8 r0)))
 | _ => none
noncomputable def spec : Abs.Spec := fun args K => spec0 (coerL [.sl (.rows .u8 [])] args) K
theorem ok0 : Proved Tryd.prog GLO.gC 58 spec0 := by
 refine proved_of (D := D) (fn := Tryd.f58) (c := Tryd.f58.body.getD .skip) [.fr 5 (.ints .u8 [])] (by kernel_rfl) (globsPlain_of (by kernel_rfl)) (by kernel_rfl) (by kernel_rfl) (by kernel_rfl) trivial trivial ?_ ?_
 · rw [loops]; exact ⟨loop3, trivial⟩
 · intro args K r h
   unfold spec0 at h
   split at h
   · rw [body]; exact h
   · cases h
theorem ok : Proved Tryd.prog GLO.gC 58 spec := proved_coer _ ok0
end R01_Join
end

section
open Go Go.Abs Go.Proofs
set_option maxRecDepth 100000
set_option linter.unusedVariables false
namespace R07_Block
noncomputable def D : Ctx := ({ P := Tryd.prog, G := [], globs := GLO.gC, hints := [], loops := [], inl := [] } : Ctx)
theorem body (a0 : Int) (K : AVal → Option R) : bodyA D Tryd.f100 [.any] [.v (.int .i64 a0)] K = P.R07_Block a0 (fun r0 => K (.v (.int .i64 r0))) := by
 rw [P.R07_Block_eq]
 kernel_rfl
theorem loops : loopsOf (Tryd.f100.body.getD .skip) = [] := by kernel_rfl
noncomputable def spec0 : Abs.Spec := fun args K => match args with
 | [.v (.int .i64 a0)] => P.R07_Block a0 (fun r0 => K (.v (.int .i64 r0)))
 | _ => none
noncomputable def spec : Abs.Spec := spec0
theorem ok0 : Proved Tryd.prog GLO.gC 100 spec0 := by
 refine proved_of (D := D) (fn := Tryd.f100) (c := Tryd.f100.body.getD .skip) [.any] (by kernel_rfl) (globsPlain_of (by kernel_rfl)) (by kernel_rfl) (by kernel_rfl) (by kernel_rfl) trivial trivial ?_ ?_
 · rw [loops]; exact trivial
 · intro args K r h
   unfold spec0 at h
   split at h
   · rw [body]; exact h
   · cases h
theorem ok : Proved Tryd.prog GLO.gC 100 spec := ok0
end R07_Block
end

section
open Go Go.Abs Go.Proofs
set_option maxRecDepth 100000
set_option linter.unusedVariables false
namespace R07_right
noncomputable def D : Ctx := ({ P := Tryd.prog, G := [], globs := GLO.gC, hints := [], loops := [], inl := [] } : Ctx)
theorem body (a0 : Int) (a1 : Int) (a2 : Bool) (K : AVal → Option R) : bodyA D Tryd.f155 [.any] [.v (.int .u64 a0), .v (.int .i64 a1), .v (.bool a2)] K = P.R07_right a0 a1 a2 (fun r0 => K (.v (.int .u64 r0))) := by
 rw [P.R07_right_eq]
 kernel_rfl
theorem loops : loopsOf (Tryd.f155.body.getD .skip) = [] := by kernel_rfl
noncomputable def spec0 : Abs.Spec := fun args K => match args with
 | [.v (.int .u64 a0), .v (.int .i64 a1), .v (.bool a2)] => P.R07_right a0 a1 a2 (fun r0 => K (.v (.int .u64 r0)))
 | _ => none
noncomputable def spec : Abs.Spec := spec0
theorem ok0 : Proved Tryd.prog GLO.gC 155 spec0 := by
 refine proved_of (D := D) (fn := Tryd.f155) (c := Tryd.f155.body.getD .skip) [.any] (by kernel_rfl) (globsPlain_of (by kernel_rfl)) (by kernel_rfl) (by kernel_rfl) (by kernel_rfl) trivial trivial ?_ ?_
 · rw [loops]; exact trivial
 · intro args K r h
   unfold spec0 at h
   split at h
   · rw [body]; exact h
   · cases h
theorem ok : Proved Tryd.prog GLO.gC 155 spec := ok0
end R07_right
end

section
open Go Go.Abs Go.Proofs
set_option maxRecDepth 100000
set_option linter.unusedVariables false
namespace R07_mix
noncomputable def D : Ctx := ({ P := Tryd.prog, G := [(155, R07_right.spec)], globs := GLO.gC, hints := [], loops := [], inl := [] } : Ctx)
theorem body (a0 : Int) (a1 : Int) (a2 : Int) (a3 : Int) (a4 : Bool) (a5 : Bool) (K : AVal → Option R) : bodyA D Tryd.f144 [.any] [.v (.int .u64 a0), .v (.int .i64 a1), .v (.int .i64 a2), .v (.int .i64 a3), .v (.bool a4), .v (.bool a5)] K = P.R07_mix a0 a1 a2 a3 a4 a5 (fun r0 => K (.v (.int .u64 r0))) := by
 rw [P.R07_mix_eq]
 kernel_rfl
theorem loops : loopsOf (Tryd.f144.body.getD .skip) = [] := by kernel_rfl
noncomputable def spec0 : Abs.Spec := fun args K => match args with
 | [.v (.int .u64 a0), .v (.int .i64 a1), .v (.int .i64 a2), .v (.int .i64 a3), .v (.bool a4), .v (.bool a5)] => P.R07_mix a0 a1 a2 a3 a4 a5 (fun r0 => K (.v (.int .u64 r0)))
 | _ => none
noncomputable def spec : Abs.Spec := spec0
theorem ok0 : Proved Tryd.prog GLO.gC 144 spec0 := by
 refine proved_of (D := D) (fn := Tryd.f144) (c := Tryd.f144.body.getD .skip) [.any] (by kernel_rfl) (globsPlain_of (by kernel_rfl)) (by kernel_rfl) (by kernel_rfl) (by kernel_rfl) ⟨R07_right.ok, trivial⟩ trivial ?_ ?_
 · rw [loops]; exact trivial
 · intro args K r h
   unfold spec0 at h
   split at h
   · rw [body]; exact h
   · cases h
theorem ok : Proved Tryd.prog GLO.gC 144 spec := ok0
end R07_mix
end

section
open Go Go.Abs Go.Proofs
set_option maxRecDepth 100000
set_option linter.unusedVariables false
namespace R07_roots256
noncomputable def D : Ctx := ({ P := Tryd.prog, G := [], globs := GLO.gC, hints := [], loops := [], inl := [] } : Ctx)
theorem body  (K : AVal → Option R) : bodyA D Tryd.f141 [.any] [] K = P.R07_roots256 (fun r0 => K (.arr .u64 64 r0)) := by
 rw [P.R07_roots256_eq]
 kernel_rfl
theorem loops : loopsOf (Tryd.f141.body.getD .skip) = [] := by kernel_rfl
noncomputable def spec0 : Abs.Spec := fun args K => match args with
 | [] => P.R07_roots256 (fun r0 => K (.arr .u64 64 r0))
 | _ => none
noncomputable def spec : Abs.Spec := spec0
theorem ok0 : Proved Tryd.prog GLO.gC 141 spec0 := by
 refine proved_of (D := D) (fn := Tryd.f141) (c := Tryd.f141.body.getD .skip) [.any] (by kernel_rfl) (globsPlain_of (by kernel_rfl)) (by kernel_rfl) (by kernel_rfl) (by kernel_rfl) trivial trivial ?_ ?_
 · rw [loops]; exact trivial
 · intro args K r h
   unfold spec0 at h
   split at h
   · rw [body]; exact h
   · cases h
theorem ok : Proved Tryd.prog GLO.gC 141 spec := ok0
end R07_roots256
end

section
open Go Go.Abs Go.Proofs
set_option maxRecDepth 100000
set_option linter.unusedVariables false
namespace R07_roots512
noncomputable def D : Ctx := ({ P := Tryd.prog, G := [], globs := GLO.gC, hints := [], loops := [], inl := [] } : Ctx)
theorem body  (K : AVal → Option R) : bodyA D Tryd.f142 [.any] [] K = P.R07_roots512 (fun r0 => K (.arr .u64 80 r0)) := by
 rw [P.R07_roots512_eq]
 kernel_rfl
theorem loops : loopsOf (Tryd.f142.body.getD .skip) = [] := by kernel_rfl
noncomputable def spec0 : Abs.Spec := fun args K => match args with
 | [] => P.R07_roots512 (fun r0 => K (.arr .u64 80 r0))
 | _ => none
noncomputable def spec : Abs.Spec := spec0
theorem ok0 : Proved Tryd.prog GLO.gC 142 spec0 := by
 refine proved_of (D := D) (fn := Tryd.f142) (c := Tryd.f142.body.getD .skip) [.any] (by kernel_rfl) (globsPlain_of (by kernel_rfl)) (by kernel_rfl) (by kernel_rfl) (by kernel_rfl) trivial trivial ?_ ?_
 · rw [loops]; exact trivial
 · intro args K r h
   unfold spec0 at h
   split at h
   · rw [body]; exact h
   · cases h
theorem ok : Proved Tryd.prog GLO.gC 142 spec := ok0
end R07_roots512
end

section
open Go Go.Abs Go.Proofs
set_option maxRecDepth 100000
set_option linter.unusedVariables false
namespace R01_Num
abbrev X3 := (List Int) × Int × Int
def S3 : X3 → ASt := fun (v0, v3, v4) => ⟨[(0, .sl (.ints .u8 v0)), (3, .v (.int .u64 v3)), (4, .v (.int .i64 v4))], [], 0, 20⟩
def V3 : ASt → Option X3
 | ⟨[(0, .sl (.ints .u8 v0)), (3, .v (.int .u64 v3)), (4, .v (.int .i64 v4))], [], 0, 20⟩ => some (v0, v3, v4)
 | _ => none
theorem V3_ok (st) (x) (h : V3 st = some x) : st = S3 x := by
 unfold V3 at h
 split at h
 · cases h; rfl
 · cases h
abbrev Y3 := X3
noncomputable def T3 : X3 → (X3 → Option R) → (Y3 → Option R) → Option R := fun (v0, v3, v4) next ex => P.R01_Num_r3 v0 v3 v4 (fun v0 v3 v4 => next (v0, v3, v4)) (fun v0 v3 v4 => ex (v0, v3, v4))
def E3 (K : AExit → ASt → Option R) : Y3 → Option R := (fun x => K (.exit 0) (S3 x))
noncomputable def L3 : LSpec := fun st K => vMap (V3 st) fun (v0, v3, v4) => P.R01_Num_l3 v0 v3 v4 (fun v0 v3 v4 => K (.exit 0) (S3 (v0, v3, v4)))
noncomputable def D : Ctx := ({ P := Tryd.prog, G := [], globs := GLO.gC, hints := [(3, ⟨[0, 3, 4], [], [2], [], none, []⟩)], loops := [(3, L3)], inl := [] } : Ctx)
theorem round3 (K) (next) (x) : roundA D (loopAt Tryd.f154 3) K next (S3 x) = T3 x (fun x => next (S3 x)) (E3 K) := by kernel_rfl
theorem lq3 (st) (K) : L3 st K = vMap (V3 st) (fun x => lp T3 x (E3 K)) := by
 unfold L3
 cases V3 st with
 | none => rfl
 | some x => rw [P.R01_Num_l3_eq]; kernel_rfl
theorem loop3 : LoopOk D (loopAt Tryd.f154 3) := loopOk_lp S3 V3_ok (by kernel_rfl) lq3 round3
theorem body (a0 : List Int) (K : AVal → Option R) : bodyA D Tryd.f154 [.any] [.sl (.ints .u8 a0)] K = P.R01_Num a0 (fun r0 => K (.v (.int .u64 r0))) := by
 rw [P.R01_Num_eq]
 kernel_rfl
theorem loops : loopsOf (Tryd.f154.body.getD .skip) = [loopAt Tryd.f154 3] := by kernel_rfl
noncomputable def spec0 : Abs.Spec := fun args K => match args with
 | [.sl (.ints .u8 a0)] => P.R01_Num a0 (fun r0 => K (.v (.int .u64 r0)))
 | _ => none
noncomputable def spec : Abs.Spec := fun args K => spec0 (coerL [.sl (.ints .u8 [])] args) K
theorem ok0 : Proved Tryd.prog GLO.gC 154 spec0 := by
 refine proved_of (D := D) (fn := Tryd.f154) (c := Tryd.f154.body.getD .skip) [.any] (by kernel_rfl) (globsPlain_of (by kernel_rfl)) (by kernel_rfl) (by kernel_rfl) (by kernel_rfl) trivial trivial ?_ ?_
 · rw [loops]; exact ⟨loop3, trivial⟩
 · intro args K r h
   unfold spec0 at h
   split at h
   · rw [body]; exact h
   · cases h
theorem ok : Proved Tryd.prog GLO.gC 154 spec := proved_coer _ ok0
end R01_Num
end

section
open Go Go.Abs Go.Proofs
set_option maxRecDepth 100000
set_option linter.unusedVariables false
namespace R07_words
abbrev X6 := (List Int) × Bool × Int × Int × Int × Int × (List Int)
def S6 : X6 → ASt := fun (v0, v1, v2, v3, v9, v11, h0) => ⟨[(10, .own 0), (0, .sl (.ints .u8 v0)), (1, .v (.bool v1)), (2, .v (.int .i64 v2)), (3, .v (.int .u64 v3)), (9, .v (.int .i64 v9)), (11, .v (.int .i64 v11))], [(0, some ⟨.row 44 (.ints .u64 h0), false⟩)], 1, 82⟩
def V6 : ASt → Option X6
 | ⟨[(10, .own 0), (0, .sl (.ints .u8 v0)), (1, .v (.bool v1)), (2, .v (.int .i64 v2)), (3, .v (.int .u64 v3)), (9, .v (.int .i64 v9)), (11, .v (.int .i64 v11))], [(0, some ⟨.row 44 (.ints .u64 h0), false⟩)], 1, 82⟩ => some (v0, v1, v2, v3, v9, v11, h0)
 | _ => none
theorem V6_ok (st) (x) (h : V6 st = some x) : st = S6 x := by
 unfold V6 at h
 split at h
 · cases h; rfl
 · cases h
abbrev Y6 := X6
noncomputable def T6 : X6 → (X6 → Option R) → (Y6 → Option R) → Option R := fun (v0, v1, v2, v3, v9, v11, h0) next ex => P.R07_words_r6 v0 v1 v2 v3 v9 v11 h0 (fun v0 v1 v2 v3 v9 v11 h0 => next (v0, v1, v2, v3, v9, v11, h0)) (fun v0 v1 v2 v3 v9 v11 h0 => ex (v0, v1, v2, v3, v9, v11, h0))
def E6 (K : AExit → ASt → Option R) : Y6 → Option R := (fun x => K (.exit 0) (S6 x))
noncomputable def L6 : LSpec := fun st K => vMap (V6 st) fun (v0, v1, v2, v3, v9, v11, h0) => P.R07_words_l6 v0 v1 v2 v3 v9 v11 h0 (fun v0 v1 v2 v3 v9 v11 h0 => K (.exit 0) (S6 (v0, v1, v2, v3, v9, v11, h0)))
noncomputable def D : Ctx := ({ P := Tryd.prog, G := [(144, R07_mix.spec), (154, R01_Num.spec)], globs := GLO.gC, hints := [(6, ⟨[0, 1, 2, 3, 9, 11], [(10, 44, .ints .u64 [])], [8], [], none, []⟩)], loops := [(6, L6)], inl := [] } : Ctx)
theorem round6 (K) (next) (x) : roundA D (loopAt Tryd.f143 6) K next (S6 x) = T6 x (fun x => next (S6 x)) (E6 K) := by kernel_rfl
theorem lq6 (st) (K) : L6 st K = vMap (V6 st) (fun x => lp T6 x (E6 K)) := by
 unfold L6
 cases V6 st with
 | none => rfl
 | some x => rw [P.R07_words_l6_eq]; kernel_rfl
theorem loop6 : LoopOk D (loopAt Tryd.f143 6) := loopOk_lp S6 V6_ok (by kernel_rfl) lq6 round6
theorem body (a0 : List Int) (a1 : Bool) (a2 : Int) (a3 : Int) (K : AVal → Option R) : bodyA D Tryd.f143 [.fr 44 (.ints .u64 [])] [.sl (.ints .u8 a0), .v (.bool a1), .v (.int .i64 a2), .v (.int .u64 a3)] K = P.R07_words a0 a1 a2 a3 (fun r0 => K (.fr 44 (.ints .u64 r0))) := by
 rw [P.R07_words_eq]
 kernel_rfl
theorem loops : loopsOf (Tryd.f143.body.getD .skip) = [loopAt Tryd.f143 6] := by kernel_rfl
noncomputable def spec0 : Abs.Spec := fun args K => match args with
 | [.sl (.ints .u8 a0), .v (.bool a1), .v (.int .i64 a2), .v (.int .u64 a3)] => P.R07_words a0 a1 a2 a3 (fun r0 => K (.fr 44 (.ints .u64 r0)))
 | _ => none
noncomputable def spec : Abs.Spec := fun args K => spec0 (coerL [.sl (.ints .u8 []), .any, .any, .any] args) K
theorem ok0 : Proved Tryd.prog GLO.gC 143 spec0 := by
 refine proved_of (D := D) (fn := Tryd.f143) (c := Tryd.f143.body.getD .skip) [.fr 44 (.ints .u64 [])] (by kernel_rfl) (globsPlain_of (by kernel_rfl)) (by kernel_rfl) (by kernel_rfl) (by kernel_rfl) ⟨R07_mix.ok, R01_Num.ok, trivial⟩ trivial ?_ ?_
 · rw [loops]; exact ⟨loop6, trivial⟩
 · intro args K r h
   unfold spec0 at h
   split at h
   · rw [body]; exact h
   · cases h
theorem ok : Proved Tryd.prog GLO.gC 143 spec := proved_coer _ ok0
end R07_words
end

section
open Go Go.Abs Go.Proofs
set_option maxRecDepth 100000
set_option linter.unusedVariables false
namespace R07_block
abbrev X11 := Bool × Int × Int × Int × (List Int) × (List Int) × (List Int) × (List Int) × (List Int) × (List Int)
def S11 : X11 → ASt := fun (v2, v7, v8, v13, h0_0, h1_0, h2_0, h3_0, h4, h5_0) => ⟨[(2, .v (.bool v2)), (3, .ptr 0 0), (6, .ptr 1 0), (7, .v (.int .i64 v7)), (8, .v (.int .u64 v8)), (9, .ptr 2 0), (10, .ptr 3 0), (11, .own 4), (12, .ptr 5 0), (13, .v (.int .i64 v13))], [(0, some ⟨.box 114 [.arr .u64 8 h0_0], false⟩), (1, some ⟨.box 114 [.arr .u64 8 h1_0], false⟩), (2, some ⟨.box 176 [.arr .u64 64 h2_0], false⟩), (3, some ⟨.box 178 [.arr .u64 80 h3_0], false⟩), (4, some ⟨.row 44 (.ints .u64 h4), false⟩), (5, some ⟨.box 114 [.arr .u64 8 h5_0], false⟩)], 6, 137⟩
def V11 : ASt → Option X11
 | ⟨[(2, .v (.bool v2)), (3, .ptr 0 0), (6, .ptr 1 0), (7, .v (.int .i64 v7)), (8, .v (.int .u64 v8)), (9, .ptr 2 0), (10, .ptr 3 0), (11, .own 4), (12, .ptr 5 0), (13, .v (.int .i64 v13))], [(0, some ⟨.box 114 [.arr .u64 8 h0_0], false⟩), (1, some ⟨.box 114 [.arr .u64 8 h1_0], false⟩), (2, some ⟨.box 176 [.arr .u64 64 h2_0], false⟩), (3, some ⟨.box 178 [.arr .u64 80 h3_0], false⟩), (4, some ⟨.row 44 (.ints .u64 h4), false⟩), (5, some ⟨.box 114 [.arr .u64 8 h5_0], false⟩)], 6, 137⟩ => some (v2, v7, v8, v13, h0_0, h1_0, h2_0, h3_0, h4, h5_0)
 | _ => none
theorem V11_ok (st) (x) (h : V11 st = some x) : st = S11 x := by
 unfold V11 at h
 split at h
 · cases h; rfl
 · cases h
abbrev Y11 := X11
noncomputable def T11 : X11 → (X11 → Option R) → (Y11 → Option R) → Option R := fun (v2, v7, v8, v13, h0_0, h1_0, h2_0, h3_0, h4, h5_0) next ex => P.R07_block_r11 v2 v7 v8 v13 h0_0 h1_0 h2_0 h3_0 h4 h5_0 (fun v2 v7 v8 v13 h0_0 h1_0 h2_0 h3_0 h4 h5_0 => next (v2, v7, v8, v13, h0_0, h1_0, h2_0, h3_0, h4, h5_0)) (fun v2 v7 v8 v13 h0_0 h1_0 h2_0 h3_0 h4 h5_0 => ex (v2, v7, v8, v13, h0_0, h1_0, h2_0, h3_0, h4, h5_0))
abbrev X25 := Int × Int × (List Int) × (List Int) × (List Int)
def S25 : X25 → ASt := fun (v8, v19, h0_0, h1_0, h5_0) => ⟨[(3, .ptr 0 0), (6, .ptr 1 0), (8, .v (.int .u64 v8)), (12, .ptr 5 0), (19, .v (.int .i64 v19))], [(0, some ⟨.box 114 [.arr .u64 8 h0_0], false⟩), (1, some ⟨.box 114 [.arr .u64 8 h1_0], false⟩), (5, some ⟨.box 114 [.arr .u64 8 h5_0], false⟩)], 80, 137⟩
def V25 : ASt → Option X25
 | ⟨[(3, .ptr 0 0), (6, .ptr 1 0), (8, .v (.int .u64 v8)), (12, .ptr 5 0), (19, .v (.int .i64 v19))], [(0, some ⟨.box 114 [.arr .u64 8 h0_0], false⟩), (1, some ⟨.box 114 [.arr .u64 8 h1_0], false⟩), (5, some ⟨.box 114 [.arr .u64 8 h5_0], false⟩)], 80, 137⟩ => some (v8, v19, h0_0, h1_0, h5_0)
 | _ => none
theorem V25_ok (st) (x) (h : V25 st = some x) : st = S25 x := by
 unfold V25 at h
 split at h
 · cases h; rfl
 · cases h
abbrev Y25 := X25
noncomputable def T25 : X25 → (X25 → Option R) → (Y25 → Option R) → Option R := fun (v8, v19, h0_0, h1_0, h5_0) next ex => P.R07_block_r25 v8 v19 h0_0 h1_0 h5_0 (fun v8 v19 h0_0 h1_0 h5_0 => next (v8, v19, h0_0, h1_0, h5_0)) (fun v8 v19 h0_0 h1_0 h5_0 => ex (v8, v19, h0_0, h1_0, h5_0))
def E11 (K : AExit → ASt → Option R) : Y11 → Option R := (fun x => K (.exit 0) (S11 x))
noncomputable def L11 : LSpec := fun st K => vMap (V11 st) fun (v2, v7, v8, v13, h0_0, h1_0, h2_0, h3_0, h4, h5_0) => P.R07_block_l11 v2 v7 v8 v13 h0_0 h1_0 h2_0 h3_0 h4 h5_0 (fun v2 v7 v8 v13 h0_0 h1_0 h2_0 h3_0 h4 h5_0 => K (.exit 0) (S11 (v2, v7, v8, v13, h0_0, h1_0, h2_0, h3_0, h4, h5_0)))
def E25 (K : AExit → ASt → Option R) : Y25 → Option R := (fun x => K (.exit 2) (S25 x))
noncomputable def L25 : LSpec := fun st K => vMap (V25 st) fun (v8, v19, h0_0, h1_0, h5_0) => P.R07_block_l25 v8 v19 h0_0 h1_0 h5_0 (fun v8 v19 h0_0 h1_0 h5_0 => K (.exit 2) (S25 (v8, v19, h0_0, h1_0, h5_0)))
noncomputable def D : Ctx := ({ P := Tryd.prog, G := [(141, R07_roots256.spec), (142, R07_roots512.spec), (143, R07_words.spec), (144, R07_mix.spec)], globs := GLO.gC, hints := [(25, ⟨[3, 6, 8, 12, 19], [], [6], [], some (80, [0, 1, 5]), []⟩), (11, ⟨[2, 3, 6, 7, 8, 9, 10, 11, 12, 13], [], [6], [], none, []⟩)], loops := [(11, L11), (25, L25)], inl := [] } : Ctx)
theorem round11 (K) (next) (x) : roundA D (loopAt Tryd.f126 11) K next (S11 x) = T11 x (fun x => next (S11 x)) (E11 K) := by kernel_rfl
theorem lq11 (st) (K) : L11 st K = vMap (V11 st) (fun x => lp T11 x (E11 K)) := by
 unfold L11
 cases V11 st with
 | none => rfl
 | some x => rw [P.R07_block_l11_eq]; kernel_rfl
theorem loop11 : LoopOk D (loopAt Tryd.f126 11) := loopOk_lp S11 V11_ok (by kernel_rfl) lq11 round11
theorem round25 (K) (next) (x) : roundA D (loopAt Tryd.f126 25) K next (S25 x) = T25 x (fun x => next (S25 x)) (E25 K) := by kernel_rfl
theorem lq25 (st) (K) : L25 st K = vMap (V25 st) (fun x => lp T25 x (E25 K)) := by
 unfold L25
 cases V25 st with
 | none => rfl
 | some x => rw [P.R07_block_l25_eq]; kernel_rfl
theorem loop25 : LoopOk D (loopAt Tryd.f126 25) := loopOk_lp S25 V25_ok (by kernel_rfl) lq25 round25
theorem body (a0 : List Int) (a1 : List Int) (a2 : Bool) (K : AVal → Option R) : bodyA D Tryd.f126 [.any] [.arr .u64 8 a0, .sl (.ints .u8 a1), .v (.bool a2)] K = P.R07_block a0 a1 a2 (fun r0 => K (.arr .u64 8 r0)) := by
 rw [P.R07_block_eq]
 kernel_rfl
theorem loops : loopsOf (Tryd.f126.body.getD .skip) = [loopAt Tryd.f126 11, loopAt Tryd.f126 25] := by kernel_rfl
noncomputable def spec0 : Abs.Spec := fun args K => match args with
 | [.arr .u64 8 a0, .sl (.ints .u8 a1), .v (.bool a2)] => P.R07_block a0 a1 a2 (fun r0 => K (.arr .u64 8 r0))
 | _ => none
noncomputable def spec : Abs.Spec := fun args K => spec0 (coerL [.any, .sl (.ints .u8 []), .any] args) K
theorem ok0 : Proved Tryd.prog GLO.gC 126 spec0 := by
 refine proved_of (D := D) (fn := Tryd.f126) (c := Tryd.f126.body.getD .skip) [.any] (by kernel_rfl) (globsPlain_of (by kernel_rfl)) (by kernel_rfl) (by kernel_rfl) (by kernel_rfl) ⟨R07_roots256.ok, R07_roots512.ok, R07_words.ok, R07_mix.ok, trivial⟩ trivial ?_ ?_
 · rw [loops]; exact ⟨loop11, loop25, trivial⟩
 · intro args K r h
   unfold spec0 at h
   split at h
   · rw [body]; exact h
   · cases h
theorem ok : Proved Tryd.prog GLO.gC 126 spec := proved_coer _ ok0
end R07_block
end

section
open Go Go.Abs Go.Proofs
set_option maxRecDepth 100000
set_option linter.unusedVariables false
namespace R07_Add
abbrev X4 := Int × (List Int) × Int × (List Int) × (List Int) × Int × Int × (List Int) × Int
def S4 : X4 → ASt := fun (v5, v6, h0_0, h0_1, h0_2, h0_3, h1_0, h1_1, h1_3) => ⟨[(2, .ptr 0 0), (4, .ptr 1 0), (5, .v (.int .i64 v5)), (6, .sl (.ints .u8 v6))], [(0, some ⟨.box 116 [.v (.int .i64 h0_0), .arr .u64 8 h0_1, .sl (.ints .u8 h0_2), .v (.int .u64 h0_3)], false⟩), (1, some ⟨.box 116 [.v (.int .i64 h1_0), .arr .u64 8 h1_1, .v (.slice none 0 0), .v (.int .u64 h1_3)], false⟩)], 40, 41⟩
def V4 : ASt → Option X4
 | ⟨[(2, .ptr 0 0), (4, .ptr 1 0), (5, .v (.int .i64 v5)), (6, .sl (.ints .u8 v6))], [(0, some ⟨.box 116 [.v (.int .i64 h0_0), .arr .u64 8 h0_1, .sl (.ints .u8 h0_2), .v (.int .u64 h0_3)], false⟩), (1, some ⟨.box 116 [.v (.int .i64 h1_0), .arr .u64 8 h1_1, .v (.slice none 0 0), .v (.int .u64 h1_3)], false⟩)], 40, 41⟩ => some (v5, v6, h0_0, h0_1, h0_2, h0_3, h1_0, h1_1, h1_3)
 | _ => none
theorem V4_ok (st) (x) (h : V4 st = some x) : st = S4 x := by
 unfold V4 at h
 split at h
 · cases h; rfl
 · cases h
abbrev Y4 := X4
noncomputable def T4 : X4 → (X4 → Option R) → (Y4 → Option R) → Option R := fun (v5, v6, h0_0, h0_1, h0_2, h0_3, h1_0, h1_1, h1_3) next ex => P.R07_Add_r4 v5 v6 h0_0 h0_1 h0_2 h0_3 h1_0 h1_1 h1_3 (fun v5 v6 h0_0 h0_1 h0_2 h0_3 h1_0 h1_1 h1_3 => next (v5, v6, h0_0, h0_1, h0_2, h0_3, h1_0, h1_1, h1_3)) (fun v5 v6 h0_0 h0_1 h0_2 h0_3 h1_0 h1_1 h1_3 => ex (v5, v6, h0_0, h0_1, h0_2, h0_3, h1_0, h1_1, h1_3))
def E4 (K : AExit → ASt → Option R) : Y4 → Option R := (fun x => K (.exit 0) (S4 x))
noncomputable def L4 : LSpec := fun st K => vMap (V4 st) fun (v5, v6, h0_0, h0_1, h0_2, h0_3, h1_0, h1_1, h1_3) => P.R07_Add_l4 v5 v6 h0_0 h0_1 h0_2 h0_3 h1_0 h1_1 h1_3 (fun v5 v6 h0_0 h0_1 h0_2 h0_3 h1_0 h1_1 h1_3 => K (.exit 0) (S4 (v5, v6, h0_0, h0_1, h0_2, h0_3, h1_0, h1_1, h1_3)))
noncomputable def D : Ctx := ({ P := Tryd.prog, G := [(58, R01_Join.spec), (100, R07_Block.spec), (126, R07_block.spec)], globs := GLO.gC, hints := [(4, ⟨[2, 4, 5, 6], [], [4], [(6, .sl (.ints .u8 []))], some (40, [0, 1]), []⟩)], loops := [(4, L4)], inl := [] } : Ctx)
theorem round4 (K) (next) (x) : roundA D (loopAt Tryd.f94 4) K next (S4 x) = T4 x (fun x => next (S4 x)) (E4 K) := by kernel_rfl
theorem lq4 (st) (K) : L4 st K = vMap (V4 st) (fun x => lp T4 x (E4 K)) := by
 unfold L4
 cases V4 st with
 | none => rfl
 | some x => rw [P.R07_Add_l4_eq]; kernel_rfl
theorem loop4 : LoopOk D (loopAt Tryd.f94 4) := loopOk_lp S4 V4_ok (by kernel_rfl) lq4 round4
theorem body (a0_Kind : Int) (a0_Words : List Int) (a0_Tail : List Int) (a0_Size : Int) (a1 : List Int) (K : AVal → Option R) : bodyA D Tryd.f94 [.agg [.any, .any, .sl (.ints .u8 []), .any]] [.agg [.v (.int .i64 a0_Kind), .arr .u64 8 a0_Words, .sl (.ints .u8 a0_Tail), .v (.int .u64 a0_Size)], .sl (.ints .u8 a1)] K = P.R07_Add a0_Kind a0_Words a0_Tail a0_Size a1 (fun r0_Kind r0_Words r0_Tail r0_Size => K (.agg [.v (.int .i64 r0_Kind), .arr .u64 8 r0_Words, .sl (.ints .u8 r0_Tail), .v (.int .u64 r0_Size)])) := by
 rw [P.R07_Add_eq]
 kernel_rfl
theorem loops : loopsOf (Tryd.f94.body.getD .skip) = [loopAt Tryd.f94 4] := by kernel_rfl
noncomputable def spec0 : Abs.Spec := fun args K => match args with
 | [.agg [.v (.int .i64 a0_Kind), .arr .u64 8 a0_Words, .sl (.ints .u8 a0_Tail), .v (.int .u64 a0_Size)], .sl (.ints .u8 a1)] => P.R07_Add a0_Kind a0_Words a0_Tail a0_Size a1 (fun r0_Kind r0_Words r0_Tail r0_Size => K (.agg [.v (.int .i64 r0_Kind), .arr .u64 8 r0_Words, .sl (.ints .u8 r0_Tail), .v (.int .u64 r0_Size)]))
 | _ => none
noncomputable def spec : Abs.Spec := fun args K => spec0 (coerL [.agg [.any, .any, .sl (.ints .u8 []), .any], .sl (.ints .u8 [])] args) K
theorem ok0 : Proved Tryd.prog GLO.gC 94 spec0 := by
 refine proved_of (D := D) (fn := Tryd.f94) (c := Tryd.f94.body.getD .skip) [.agg [.any, .any, .sl (.ints .u8 []), .any]] (by kernel_rfl) (globsPlain_of (by kernel_rfl)) (by kernel_rfl) (by kernel_rfl) (by kernel_rfl) ⟨R01_Join.ok, R07_Block.ok, R07_block.ok, trivial⟩ trivial ?_ ?_
 · rw [loops]; exact ⟨loop4, trivial⟩
 · intro args K r h
   unfold spec0 at h
   split at h
   · rw [body]; exact h
   · cases h
theorem ok : Proved Tryd.prog GLO.gC 94 spec := proved_coer _ ok0
end R07_Add
end

section
open Go Go.Abs Go.Proofs
set_option maxRecDepth 100000
set_option linter.unusedVariables false
namespace R01_Be
abbrev X5 := Int × Int × (List Int)
def S5 : X5 → ASt := fun (v0, v6, h0) => ⟨[(0, .v (.int .u64 v0)), (5, .own 0), (6, .v (.int .i64 v6))], [(0, some ⟨.row 5 (.ints .u8 h0), false⟩)], 1, 30⟩
def V5 : ASt → Option X5
 | ⟨[(0, .v (.int .u64 v0)), (5, .own 0), (6, .v (.int .i64 v6))], [(0, some ⟨.row 5 (.ints .u8 h0), false⟩)], 1, 30⟩ => some (v0, v6, h0)
 | _ => none
theorem V5_ok (st) (x) (h : V5 st = some x) : st = S5 x := by
 unfold V5 at h
 split at h
 · cases h; rfl
 · cases h
abbrev Y5 := X5
noncomputable def T5 : X5 → (X5 → Option R) → (Y5 → Option R) → Option R := fun (v0, v6, h0) next ex => P.R01_Be_r5 v0 v6 h0 (fun v0 v6 h0 => next (v0, v6, h0)) (fun v0 v6 h0 => ex (v0, v6, h0))
def E5 (K : AExit → ASt → Option R) : Y5 → Option R := (fun x => K (.exit 0) (S5 x))
noncomputable def L5 : LSpec := fun st K => vMap (V5 st) fun (v0, v6, h0) => P.R01_Be_l5 v0 v6 h0 (fun v0 v6 h0 => K (.exit 0) (S5 (v0, v6, h0)))
noncomputable def D : Ctx := ({ P := Tryd.prog, G := [], globs := GLO.gC, hints := [(5, ⟨[0, 5, 6], [], [4], [], none, []⟩)], loops := [(5, L5)], inl := [] } : Ctx)
theorem round5 (K) (next) (x) : roundA D (loopAt Tryd.f61 5) K next (S5 x) = T5 x (fun x => next (S5 x)) (E5 K) := by kernel_rfl
theorem lq5 (st) (K) : L5 st K = vMap (V5 st) (fun x => lp T5 x (E5 K)) := by
 unfold L5
 cases V5 st with
 | none => rfl
 | some x => rw [P.R01_Be_l5_eq]; kernel_rfl
theorem loop5 : LoopOk D (loopAt Tryd.f61 5) := loopOk_lp S5 V5_ok (by kernel_rfl) lq5 round5
theorem body (a0 : Int) (a1 : Int) (K : AVal → Option R) : bodyA D Tryd.f61 [.fr 5 (.ints .u8 [])] [.v (.int .u64 a0), .v (.int .i64 a1)] K = P.R01_Be a0 a1 (fun r0 => K (.fr 5 (.ints .u8 r0))) := by
 rw [P.R01_Be_eq]
 kernel_rfl
theorem loops : loopsOf (Tryd.f61.body.getD .skip) = [loopAt Tryd.f61 5] := by kernel_rfl
noncomputable def spec0 : Abs.Spec := fun args K => match args with
 | [.v (.int .u64 a0), .v (.int .i64 a1)] => P.R01_Be a0 a1 (fun r0 => K (.fr 5 (.ints .u8 r0)))
 | _ => none
noncomputable def spec : Abs.Spec := spec0
theorem ok0 : Proved Tryd.prog GLO.gC 61 spec0 := by
 refine proved_of (D := D) (fn := Tryd.f61) (c := Tryd.f61.body.getD .skip) [.fr 5 (.ints .u8 [])] (by kernel_rfl) (globsPlain_of (by kernel_rfl)) (by kernel_rfl) (by kernel_rfl) (by kernel_rfl) trivial trivial ?_ ?_
 · rw [loops]; exact ⟨loop5, trivial⟩
 · intro args K r h
   unfold spec0 at h
   split at h
   · rw [body]; exact h
   · cases h
theorem ok : Proved Tryd.prog GLO.gC 61 spec := ok0
end R01_Be
end

section
open Go Go.Abs Go.Proofs
set_option maxRecDepth 100000
set_option linter.unusedVariables false
namespace R07_End
abbrev X4 := Int × Int × (List Int) × Int × (List Int) × (List Int) × Int
def S4 : X4 → ASt := fun (v3, v4, h40, h0_0, h0_1, h0_2, h0_3) => ⟨[(5, .own 40), (1, .ptr 0 0), (3, .v (.int .i64 v3)), (4, .v (.int .u64 v4))], [(40, some ⟨.row 5 (.ints .u8 h40), false⟩), (0, some ⟨.box 116 [.v (.int .i64 h0_0), .arr .u64 8 h0_1, .sl (.ints .u8 h0_2), .v (.int .u64 h0_3)], false⟩)], 41, 77⟩
def V4 : ASt → Option X4
 | ⟨[(5, .own 40), (1, .ptr 0 0), (3, .v (.int .i64 v3)), (4, .v (.int .u64 v4))], [(40, some ⟨.row 5 (.ints .u8 h40), false⟩), (0, some ⟨.box 116 [.v (.int .i64 h0_0), .arr .u64 8 h0_1, .sl (.ints .u8 h0_2), .v (.int .u64 h0_3)], false⟩)], 41, 77⟩ => some (v3, v4, h40, h0_0, h0_1, h0_2, h0_3)
 | _ => none
theorem V4_ok (st) (x) (h : V4 st = some x) : st = S4 x := by
 unfold V4 at h
 split at h
 · cases h; rfl
 · cases h
abbrev Y4 := X4
noncomputable def T4 : X4 → (X4 → Option R) → (Y4 → Option R) → Option R := fun (v3, v4, h40, h0_0, h0_1, h0_2, h0_3) next ex => P.R07_End_r4 v3 v4 h40 h0_0 h0_1 h0_2 h0_3 (fun v3 v4 h40 h0_0 h0_1 h0_2 h0_3 => next (v3, v4, h40, h0_0, h0_1, h0_2, h0_3)) (fun v3 v4 h40 h0_0 h0_1 h0_2 h0_3 => ex (v3, v4, h40, h0_0, h0_1, h0_2, h0_3))
abbrev X8 := Int × Int × (List Int) × Int × (List Int) × (List Int) × Int
def S8 : X8 → ASt := fun (v3, v4, h80, h0_0, h0_1, h0_2, h0_3) => ⟨[(5, .own 80), (1, .ptr 0 0), (3, .v (.int .i64 v3)), (4, .v (.int .u64 v4))], [(80, some ⟨.row 5 (.ints .u8 h80), false⟩), (0, some ⟨.box 116 [.v (.int .i64 h0_0), .arr .u64 8 h0_1, .sl (.ints .u8 h0_2), .v (.int .u64 h0_3)], false⟩)], 81, 77⟩
def V8 : ASt → Option X8
 | ⟨[(5, .own 80), (1, .ptr 0 0), (3, .v (.int .i64 v3)), (4, .v (.int .u64 v4))], [(80, some ⟨.row 5 (.ints .u8 h80), false⟩), (0, some ⟨.box 116 [.v (.int .i64 h0_0), .arr .u64 8 h0_1, .sl (.ints .u8 h0_2), .v (.int .u64 h0_3)], false⟩)], 81, 77⟩ => some (v3, v4, h80, h0_0, h0_1, h0_2, h0_3)
 | _ => none
theorem V8_ok (st) (x) (h : V8 st = some x) : st = S8 x := by
 unfold V8 at h
 split at h
 · cases h; rfl
 · cases h
abbrev Y8 := X8
noncomputable def T8 : X8 → (X8 → Option R) → (Y8 → Option R) → Option R := fun (v3, v4, h80, h0_0, h0_1, h0_2, h0_3) next ex => P.R07_End_r8 v3 v4 h80 h0_0 h0_1 h0_2 h0_3 (fun v3 v4 h80 h0_0 h0_1 h0_2 h0_3 => next (v3, v4, h80, h0_0, h0_1, h0_2, h0_3)) (fun v3 v4 h80 h0_0 h0_1 h0_2 h0_3 => ex (v3, v4, h80, h0_0, h0_1, h0_2, h0_3))
abbrev X14 := Int × Int × (List Int) × Int × (List Int) × (List Int) × Int
def S14 : X14 → ASt := fun (v3, v7, h120, h0_0, h0_1, h0_2, h0_3) => ⟨[(6, .own 120), (1, .ptr 0 0), (3, .v (.int .i64 v3)), (7, .v (.int .i64 v7))], [(120, some ⟨.row 5 (.ints .u8 h120), false⟩), (0, some ⟨.box 116 [.v (.int .i64 h0_0), .arr .u64 8 h0_1, .sl (.ints .u8 h0_2), .v (.int .u64 h0_3)], false⟩)], 121, 77⟩
def V14 : ASt → Option X14
 | ⟨[(6, .own 120), (1, .ptr 0 0), (3, .v (.int .i64 v3)), (7, .v (.int .i64 v7))], [(120, some ⟨.row 5 (.ints .u8 h120), false⟩), (0, some ⟨.box 116 [.v (.int .i64 h0_0), .arr .u64 8 h0_1, .sl (.ints .u8 h0_2), .v (.int .u64 h0_3)], false⟩)], 121, 77⟩ => some (v3, v7, h120, h0_0, h0_1, h0_2, h0_3)
 | _ => none
theorem V14_ok (st) (x) (h : V14 st = some x) : st = S14 x := by
 unfold V14 at h
 split at h
 · cases h; rfl
 · cases h
abbrev Y14 := X14
noncomputable def T14 : X14 → (X14 → Option R) → (Y14 → Option R) → Option R := fun (v3, v7, h120, h0_0, h0_1, h0_2, h0_3) next ex => P.R07_End_r14 v3 v7 h120 h0_0 h0_1 h0_2 h0_3 (fun v3 v7 h120 h0_0 h0_1 h0_2 h0_3 => next (v3, v7, h120, h0_0, h0_1, h0_2, h0_3)) (fun v3 v7 h120 h0_0 h0_1 h0_2 h0_3 => ex (v3, v7, h120, h0_0, h0_1, h0_2, h0_3))
def E4 (K : AExit → ASt → Option R) : Y4 → Option R := (fun x => K (.exit 0) (S4 x))
noncomputable def L4 : LSpec := fun st K => vMap (V4 st) fun (v3, v4, h40, h0_0, h0_1, h0_2, h0_3) => P.R07_End_l4 v3 v4 h40 h0_0 h0_1 h0_2 h0_3 (fun v3 v4 h40 h0_0 h0_1 h0_2 h0_3 => K (.exit 0) (S4 (v3, v4, h40, h0_0, h0_1, h0_2, h0_3)))
def E8 (K : AExit → ASt → Option R) : Y8 → Option R := (fun x => K (.exit 2) (S8 x))
noncomputable def L8 : LSpec := fun st K => vMap (V8 st) fun (v3, v4, h80, h0_0, h0_1, h0_2, h0_3) => P.R07_End_l8 v3 v4 h80 h0_0 h0_1 h0_2 h0_3 (fun v3 v4 h80 h0_0 h0_1 h0_2 h0_3 => K (.exit 2) (S8 (v3, v4, h80, h0_0, h0_1, h0_2, h0_3)))
def E14 (K : AExit → ASt → Option R) : Y14 → Option R := (fun x => K (.exit 4) (S14 x))
noncomputable def L14 : LSpec := fun st K => vMap (V14 st) fun (v3, v7, h120, h0_0, h0_1, h0_2, h0_3) => P.R07_End_l14 v3 v7 h120 h0_0 h0_1 h0_2 h0_3 (fun v3 v7 h120 h0_0 h0_1 h0_2 h0_3 => K (.exit 4) (S14 (v3, v7, h120, h0_0, h0_1, h0_2, h0_3)))
noncomputable def D : Ctx := ({ P := Tryd.prog, G := [(61, R01_Be.spec), (94, R07_Add.spec), (100, R07_Block.spec)], globs := GLO.gC, hints := [(14, ⟨[1, 3, 7], [(6, 5, .ints .u8 [])], [2], [], some (120, [0]), [0]⟩), (8, ⟨[1, 3, 4], [(5, 5, .ints .u8 [])], [2], [], some (80, [0]), [0]⟩), (4, ⟨[1, 3, 4], [(5, 5, .ints .u8 [])], [2], [], some (40, [0]), [0]⟩)], loops := [(4, L4), (8, L8), (14, L14)], inl := [] } : Ctx)
theorem round4 (K) (next) (x) : roundA D (loopAt Tryd.f93 4) K next (S4 x) = T4 x (fun x => next (S4 x)) (E4 K) := by kernel_rfl
theorem lq4 (st) (K) : L4 st K = vMap (V4 st) (fun x => lp T4 x (E4 K)) := by
 unfold L4
 cases V4 st with
 | none => rfl
 | some x => rw [P.R07_End_l4_eq]; kernel_rfl
theorem loop4 : LoopOk D (loopAt Tryd.f93 4) := loopOk_lp S4 V4_ok (by kernel_rfl) lq4 round4
theorem round8 (K) (next) (x) : roundA D (loopAt Tryd.f93 8) K next (S8 x) = T8 x (fun x => next (S8 x)) (E8 K) := by kernel_rfl
theorem lq8 (st) (K) : L8 st K = vMap (V8 st) (fun x => lp T8 x (E8 K)) := by
 unfold L8
 cases V8 st with
 | none => rfl
 | some x => rw [P.R07_End_l8_eq]; kernel_rfl
theorem loop8 : LoopOk D (loopAt Tryd.f93 8) := loopOk_lp S8 V8_ok (by kernel_rfl) lq8 round8
theorem round14 (K) (next) (x) : roundA D (loopAt Tryd.f93 14) K next (S14 x) = T14 x (fun x => next (S14 x)) (E14 K) := by kernel_rfl
theorem lq14 (st) (K) : L14 st K = vMap (V14 st) (fun x => lp T14 x (E14 K)) := by
 unfold L14
 cases V14 st with
 | none => rfl
 | some x => rw [P.R07_End_l14_eq]; kernel_rfl
theorem loop14 : LoopOk D (loopAt Tryd.f93 14) := loopOk_lp S14 V14_ok (by kernel_rfl) lq14 round14
theorem body (a0_Kind : Int) (a0_Words : List Int) (a0_Tail : List Int) (a0_Size : Int) (K : AVal → Option R) : bodyW D Tryd.f93 5 (.ints .u8 []) [.agg [.v (.int .i64 a0_Kind), .arr .u64 8 a0_Words, .sl (.ints .u8 a0_Tail), .v (.int .u64 a0_Size)]] K = P.R07_End a0_Kind a0_Words a0_Tail a0_Size (fun r0 => K (.fr 5 (.ints .u8 r0))) := by
 rw [P.R07_End_eq]
 kernel_rfl
theorem loops : loopsOf (Tryd.f93.body.getD .skip) = [loopAt Tryd.f93 4, loopAt Tryd.f93 8, loopAt Tryd.f93 14] := by kernel_rfl
noncomputable def spec0 : Abs.Spec := fun args K => match args with
 | [.agg [.v (.int .i64 a0_Kind), .arr .u64 8 a0_Words, .sl (.ints .u8 a0_Tail), .v (.int .u64 a0_Size)]] => P.R07_End a0_Kind a0_Words a0_Tail a0_Size (fun r0 => K (.fr 5 (.ints .u8 r0)))
 | _ => none
noncomputable def spec : Abs.Spec := fun args K => spec0 (coerL [.agg [.any, .any, .sl (.ints .u8 []), .any]] args) K
theorem ok0 : Proved Tryd.prog GLO.gC 93 spec0 := by
 refine provedW_of (D := D) (fn := Tryd.f93) (c := Tryd.f93.body.getD .skip) 5 (.ints .u8 []) (by kernel_rfl) (globsPlain_of (by kernel_rfl)) (by kernel_rfl) (by kernel_rfl) (by kernel_rfl) ⟨R01_Be.ok, R07_Add.ok, R07_Block.ok, trivial⟩ trivial ?_ ?_
 · rw [loops]; exact ⟨loop4, loop8, loop14, trivial⟩
 · intro args K r h
   unfold spec0 at h
   split at h
   · rw [body]; exact h
   · cases h
theorem ok : Proved Tryd.prog GLO.gC 93 spec := proved_coer _ ok0
end R07_End
end

section
open Go Go.Abs Go.Proofs
set_option maxRecDepth 100000
set_option linter.unusedVariables false
namespace R07_New
noncomputable def D : Ctx := ({ P := Tryd.prog, G := [], globs := GLO.gC, hints := [], loops := [], inl := [] } : Ctx)
theorem body (a0 : Int) (K : AVal → Option R) : bodyA D Tryd.f92 [.agg [.any, .any, .fr 5 (.ints .u8 []), .any], .any] [.v (.int .i64 a0)] K = P.R07_New a0 (fun r0_Kind r0_Words r0_Tail r0_Size r1 => K (.tuple [.agg [.v (.int .i64 r0_Kind), .arr .u64 8 r0_Words, .fr 5 (.ints .u8 r0_Tail), .v (.int .u64 r0_Size)], .v (.int .i64 r1)])) := by
 rw [P.R07_New_eq]
 kernel_rfl
theorem loops : loopsOf (Tryd.f92.body.getD .skip) = [] := by kernel_rfl
noncomputable def spec0 : Abs.Spec := fun args K => match args with
 | [.v (.int .i64 a0)] => P.R07_New a0 (fun r0_Kind r0_Words r0_Tail r0_Size r1 => K (.tuple [.agg [.v (.int .i64 r0_Kind), .arr .u64 8 r0_Words, .fr 5 (.ints .u8 r0_Tail), .v (.int .u64 r0_Size)], .v (.int .i64 r1)]))
 | _ => none
noncomputable def spec : Abs.Spec := spec0
theorem ok0 : Proved Tryd.prog GLO.gC 92 spec0 := by
 refine proved_of (D := D) (fn := Tryd.f92) (c := Tryd.f92.body.getD .skip) [.agg [.any, .any, .fr 5 (.ints .u8 []), .any], .any] (by kernel_rfl) (globsPlain_of (by kernel_rfl)) (by kernel_rfl) (by kernel_rfl) (by kernel_rfl) trivial trivial ?_ ?_
 · rw [loops]; exact trivial
 · intro args K r h
   unfold spec0 at h
   split at h
   · rw [body]; exact h
   · cases h
theorem ok : Proved Tryd.prog GLO.gC 92 spec := ok0
end R07_New
end

section
open Go Go.Abs Go.Proofs
set_option maxRecDepth 100000
set_option linter.unusedVariables false
namespace R07_Sum
noncomputable def D : Ctx := ({ P := Tryd.prog, G := [(92, R07_New.spec), (93, R07_End.spec), (94, R07_Add.spec)], globs := GLO.gC, hints := [], loops := [], inl := [] } : Ctx)
theorem body (a0 : Int) (a1 : List Int) (K : AVal → Option R) : bodyA D Tryd.f53 [.fr 5 (.ints .u8 []), .any] [.v (.int .i64 a0), .sl (.ints .u8 a1)] K = P.R07_Sum a0 a1 (fun r0 r1 => K (.tuple [.fr 5 (.ints .u8 r0), .v (.int .i64 r1)])) := by
 rw [P.R07_Sum_eq]
 kernel_rfl
theorem loops : loopsOf (Tryd.f53.body.getD .skip) = [] := by kernel_rfl
noncomputable def spec0 : Abs.Spec := fun args K => match args with
 | [.v (.int .i64 a0), .sl (.ints .u8 a1)] => P.R07_Sum a0 a1 (fun r0 r1 => K (.tuple [.fr 5 (.ints .u8 r0), .v (.int .i64 r1)]))
 | _ => none
noncomputable def spec : Abs.Spec := fun args K => spec0 (coerL [.any, .sl (.ints .u8 [])] args) K
theorem ok0 : Proved Tryd.prog GLO.gC 53 spec0 := by
 refine proved_of (D := D) (fn := Tryd.f53) (c := Tryd.f53.body.getD .skip) [.fr 5 (.ints .u8 []), .any] (by kernel_rfl) (globsPlain_of (by kernel_rfl)) (by kernel_rfl) (by kernel_rfl) (by kernel_rfl) ⟨R07_New.ok, R07_End.ok, R07_Add.ok, trivial⟩ trivial ?_ ?_
 · rw [loops]; exact trivial
 · intro args K r h
   unfold spec0 at h
   split at h
   · rw [body]; exact h
   · cases h
theorem ok : Proved Tryd.prog GLO.gC 53 spec := proved_coer _ ok0
end R07_Sum
end

section
open Go Go.Abs Go.Proofs
set_option maxRecDepth 100000
set_option linter.unusedVariables false
namespace R08_constants
abbrev X4 := Int × Int × (List Int) × (List Int)
def S4 : X4 → ASt := fun (v2, v3, h0_0, h1_0) => ⟨[(0, .ptr 0 0), (1, .ptr 1 0), (2, .v (.int .u64 v2)), (3, .v (.int .i64 v3))], [(0, some ⟨.box 173 [.arr .u64 24 h0_0], false⟩), (1, some ⟨.box 173 [.arr .u64 24 h1_0], false⟩)], 2, 32⟩
def V4 : ASt → Option X4
 | ⟨[(0, .ptr 0 0), (1, .ptr 1 0), (2, .v (.int .u64 v2)), (3, .v (.int .i64 v3))], [(0, some ⟨.box 173 [.arr .u64 24 h0_0], false⟩), (1, some ⟨.box 173 [.arr .u64 24 h1_0], false⟩)], 2, 32⟩ => some (v2, v3, h0_0, h1_0)
 | _ => none
theorem V4_ok (st) (x) (h : V4 st = some x) : st = S4 x := by
 unfold V4 at h
 split at h
 · cases h; rfl
 · cases h
abbrev Y4 := X4
noncomputable def T4 : X4 → (X4 → Option R) → (Y4 → Option R) → Option R := fun (v2, v3, h0_0, h1_0) next ex => P.R08_constants_r4 v2 v3 h0_0 h1_0 (fun v2 v3 h0_0 h1_0 => next (v2, v3, h0_0, h1_0)) (fun v2 v3 h0_0 h1_0 => ex (v2, v3, h0_0, h1_0))
def E4 (K : AExit → ASt → Option R) : Y4 → Option R := (fun x => K (.exit 0) (S4 x))
noncomputable def L4 : LSpec := fun st K => vMap (V4 st) fun (v2, v3, h0_0, h1_0) => P.R08_constants_l4 v2 v3 h0_0 h1_0 (fun v2 v3 h0_0 h1_0 => K (.exit 0) (S4 (v2, v3, h0_0, h1_0)))
noncomputable def D : Ctx := ({ P := Tryd.prog, G := [], globs := GLO.gC, hints := [(4, ⟨[0, 1, 2, 3], [], [0], [], none, []⟩)], loops := [(4, L4)], inl := [] } : Ctx)
theorem round4 (K) (next) (x) : roundA D (loopAt Tryd.f145 4) K next (S4 x) = T4 x (fun x => next (S4 x)) (E4 K) := by kernel_rfl
theorem lq4 (st) (K) : L4 st K = vMap (V4 st) (fun x => lp T4 x (E4 K)) := by
 unfold L4
 cases V4 st with
 | none => rfl
 | some x => rw [P.R08_constants_l4_eq]; kernel_rfl
theorem loop4 : LoopOk D (loopAt Tryd.f145 4) := loopOk_lp S4 V4_ok (by kernel_rfl) lq4 round4
theorem body  (K : AVal → Option R) : bodyA D Tryd.f145 [.any] [] K = P.R08_constants (fun r0 => K (.arr .u64 24 r0)) := by
 rw [P.R08_constants_eq]
 kernel_rfl
theorem loops : loopsOf (Tryd.f145.body.getD .skip) = [loopAt Tryd.f145 4] := by kernel_rfl
noncomputable def spec0 : Abs.Spec := fun args K => match args with
 | [] => P.R08_constants (fun r0 => K (.arr .u64 24 r0))
 | _ => none
noncomputable def spec : Abs.Spec := spec0
theorem ok0 : Proved Tryd.prog GLO.gC 145 spec0 := by
 refine proved_of (D := D) (fn := Tryd.f145) (c := Tryd.f145.body.getD .skip) [.any] (by kernel_rfl) (globsPlain_of (by kernel_rfl)) (by kernel_rfl) (by kernel_rfl) (by kernel_rfl) trivial trivial ?_ ?_
 · rw [loops]; exact ⟨loop4, trivial⟩
 · intro args K r h
   unfold spec0 at h
   split at h
   · rw [body]; exact h
   · cases h
theorem ok : Proved Tryd.prog GLO.gC 145 spec := ok0
end R08_constants
end

section
open Go Go.Abs Go.Proofs
set_option maxRecDepth 100000
set_option linter.unusedVariables false
namespace R08_left
noncomputable def D : Ctx := ({ P := Tryd.prog, G := [], globs := GLO.gC, hints := [], loops := [], inl := [] } : Ctx)
theorem body (a0 : Int) (a1 : Int) (K : AVal → Option R) : bodyA D Tryd.f156 [.any] [.v (.int .u64 a0), .v (.int .i64 a1)] K = P.R08_left a0 a1 (fun r0 => K (.v (.int .u64 r0))) := by
 rw [P.R08_left_eq]
 kernel_rfl
theorem loops : loopsOf (Tryd.f156.body.getD .skip) = [] := by kernel_rfl
noncomputable def spec0 : Abs.Spec := fun args K => match args with
 | [.v (.int .u64 a0), .v (.int .i64 a1)] => P.R08_left a0 a1 (fun r0 => K (.v (.int .u64 r0)))
 | _ => none
noncomputable def spec : Abs.Spec := spec0
theorem ok0 : Proved Tryd.prog GLO.gC 156 spec0 := by
 refine proved_of (D := D) (fn := Tryd.f156) (c := Tryd.f156.body.getD .skip) [.any] (by kernel_rfl) (globsPlain_of (by kernel_rfl)) (by kernel_rfl) (by kernel_rfl) (by kernel_rfl) trivial trivial ?_ ?_
 · rw [loops]; exact trivial
 · intro args K r h
   unfold spec0 at h
   split at h
   · rw [body]; exact h
   · cases h
theorem ok : Proved Tryd.prog GLO.gC 156 spec := ok0
end R08_left
end

section
open Go Go.Abs Go.Proofs
set_option maxRecDepth 100000
set_option linter.unusedVariables false
namespace R08_move
abbrev X6 := Int × Int × Int × (List Int) × (List Int) × (List Int)
def S6 : X6 → ASt := fun (v4, v5, v6, h0_0, h1_0, h2_0) => ⟨[(1, .ptr 0 0), (2, .ptr 1 0), (3, .ptr 2 0), (4, .v (.int .i64 v4)), (5, .v (.int .i64 v5)), (6, .v (.int .i64 v6))], [(0, some ⟨.box 121 [.arr .u64 25 h0_0], false⟩), (1, some ⟨.box 121 [.arr .u64 25 h1_0], false⟩), (2, some ⟨.box 121 [.arr .u64 25 h2_0], false⟩)], 3, 44⟩
def V6 : ASt → Option X6
 | ⟨[(1, .ptr 0 0), (2, .ptr 1 0), (3, .ptr 2 0), (4, .v (.int .i64 v4)), (5, .v (.int .i64 v5)), (6, .v (.int .i64 v6))], [(0, some ⟨.box 121 [.arr .u64 25 h0_0], false⟩), (1, some ⟨.box 121 [.arr .u64 25 h1_0], false⟩), (2, some ⟨.box 121 [.arr .u64 25 h2_0], false⟩)], 3, 44⟩ => some (v4, v5, v6, h0_0, h1_0, h2_0)
 | _ => none
theorem V6_ok (st) (x) (h : V6 st = some x) : st = S6 x := by
 unfold V6 at h
 split at h
 · cases h; rfl
 · cases h
abbrev Y6 := X6
noncomputable def T6 : X6 → (X6 → Option R) → (Y6 → Option R) → Option R := fun (v4, v5, v6, h0_0, h1_0, h2_0) next ex => P.R08_move_r6 v4 v5 v6 h0_0 h1_0 h2_0 (fun v4 v5 v6 h0_0 h1_0 h2_0 => next (v4, v5, v6, h0_0, h1_0, h2_0)) (fun v4 v5 v6 h0_0 h1_0 h2_0 => ex (v4, v5, v6, h0_0, h1_0, h2_0))
def E6 (K : AExit → ASt → Option R) : Y6 → Option R := (fun x => K (.exit 0) (S6 x))
noncomputable def L6 : LSpec := fun st K => vMap (V6 st) fun (v4, v5, v6, h0_0, h1_0, h2_0) => P.R08_move_l6 v4 v5 v6 h0_0 h1_0 h2_0 (fun v4 v5 v6 h0_0 h1_0 h2_0 => K (.exit 0) (S6 (v4, v5, v6, h0_0, h1_0, h2_0)))
noncomputable def D : Ctx := ({ P := Tryd.prog, G := [(156, R08_left.spec)], globs := GLO.gC, hints := [(6, ⟨[1, 2, 3, 4, 5, 6], [], [2], [], none, []⟩)], loops := [(6, L6)], inl := [] } : Ctx)
theorem round6 (K) (next) (x) : roundA D (loopAt Tryd.f146 6) K next (S6 x) = T6 x (fun x => next (S6 x)) (E6 K) := by kernel_rfl
theorem lq6 (st) (K) : L6 st K = vMap (V6 st) (fun x => lp T6 x (E6 K)) := by
 unfold L6
 cases V6 st with
 | none => rfl
 | some x => rw [P.R08_move_l6_eq]; kernel_rfl
theorem loop6 : LoopOk D (loopAt Tryd.f146 6) := loopOk_lp S6 V6_ok (by kernel_rfl) lq6 round6
theorem body (a0 : List Int) (K : AVal → Option R) : bodyA D Tryd.f146 [.any] [.arr .u64 25 a0] K = P.R08_move a0 (fun r0 => K (.arr .u64 25 r0)) := by
 rw [P.R08_move_eq]
 kernel_rfl
theorem loops : loopsOf (Tryd.f146.body.getD .skip) = [loopAt Tryd.f146 6] := by kernel_rfl
noncomputable def spec0 : Abs.Spec := fun args K => match args with
 | [.arr .u64 25 a0] => P.R08_move a0 (fun r0 => K (.arr .u64 25 r0))
 | _ => none
noncomputable def spec : Abs.Spec := spec0
theorem ok0 : Proved Tryd.prog GLO.gC 146 spec0 := by
 refine proved_of (D := D) (fn := Tryd.f146) (c := Tryd.f146.body.getD .skip) [.any] (by kernel_rfl) (globsPlain_of (by kernel_rfl)) (by kernel_rfl) (by kernel_rfl) (by kernel_rfl) ⟨R08_left.ok, trivial⟩ trivial ?_ ?_
 · rw [loops]; exact ⟨loop6, trivial⟩
 · intro args K r h
   unfold spec0 at h
   split at h
   · rw [body]; exact h
   · cases h
theorem ok : Proved Tryd.prog GLO.gC 146 spec := ok0
end R08_move
end

section
open Go Go.Abs Go.Proofs
set_option maxRecDepth 100000
set_option linter.unusedVariables false
namespace R08_spread
abbrev X3 := Int × (List Int) × (List Int) × (List Int)
def S3 : X3 → ASt := fun (v4, h0_0, h1_0, h2_0) => ⟨[(1, .ptr 0 0), (2, .ptr 1 0), (3, .ptr 2 0), (4, .v (.int .i64 v4))], [(0, some ⟨.box 121 [.arr .u64 25 h0_0], false⟩), (1, some ⟨.box 121 [.arr .u64 25 h1_0], false⟩), (2, some ⟨.box 189 [.arr .u64 5 h2_0], false⟩)], 3, 44⟩
def V3 : ASt → Option X3
 | ⟨[(1, .ptr 0 0), (2, .ptr 1 0), (3, .ptr 2 0), (4, .v (.int .i64 v4))], [(0, some ⟨.box 121 [.arr .u64 25 h0_0], false⟩), (1, some ⟨.box 121 [.arr .u64 25 h1_0], false⟩), (2, some ⟨.box 189 [.arr .u64 5 h2_0], false⟩)], 3, 44⟩ => some (v4, h0_0, h1_0, h2_0)
 | _ => none
theorem V3_ok (st) (x) (h : V3 st = some x) : st = S3 x := by
 unfold V3 at h
 split at h
 · cases h; rfl
 · cases h
abbrev Y3 := X3
noncomputable def T3 : X3 → (X3 → Option R) → (Y3 → Option R) → Option R := fun (v4, h0_0, h1_0, h2_0) next ex => P.R08_spread_r3 v4 h0_0 h1_0 h2_0 (fun v4 h0_0 h1_0 h2_0 => next (v4, h0_0, h1_0, h2_0)) (fun v4 h0_0 h1_0 h2_0 => ex (v4, h0_0, h1_0, h2_0))
abbrev X7 := Int × (List Int) × (List Int) × (List Int)
def S7 : X7 → ASt := fun (v5, h2_0, h1_0, h0_0) => ⟨[(1, .ptr 0 0), (2, .ptr 1 0), (3, .ptr 2 0), (5, .v (.int .i64 v5))], [(2, some ⟨.box 189 [.arr .u64 5 h2_0], false⟩), (1, some ⟨.box 121 [.arr .u64 25 h1_0], false⟩), (0, some ⟨.box 121 [.arr .u64 25 h0_0], false⟩)], 3, 44⟩
def V7 : ASt → Option X7
 | ⟨[(1, .ptr 0 0), (2, .ptr 1 0), (3, .ptr 2 0), (5, .v (.int .i64 v5))], [(2, some ⟨.box 189 [.arr .u64 5 h2_0], false⟩), (1, some ⟨.box 121 [.arr .u64 25 h1_0], false⟩), (0, some ⟨.box 121 [.arr .u64 25 h0_0], false⟩)], 3, 44⟩ => some (v5, h2_0, h1_0, h0_0)
 | _ => none
theorem V7_ok (st) (x) (h : V7 st = some x) : st = S7 x := by
 unfold V7 at h
 split at h
 · cases h; rfl
 · cases h
abbrev Y7 := X7
noncomputable def T7 : X7 → (X7 → Option R) → (Y7 → Option R) → Option R := fun (v5, h2_0, h1_0, h0_0) next ex => P.R08_spread_r7 v5 h2_0 h1_0 h0_0 (fun v5 h2_0 h1_0 h0_0 => next (v5, h2_0, h1_0, h0_0)) (fun v5 h2_0 h1_0 h0_0 => ex (v5, h2_0, h1_0, h0_0))
def E3 (K : AExit → ASt → Option R) : Y3 → Option R := (fun x => K (.exit 0) (S3 x))
noncomputable def L3 : LSpec := fun st K => vMap (V3 st) fun (v4, h0_0, h1_0, h2_0) => P.R08_spread_l3 v4 h0_0 h1_0 h2_0 (fun v4 h0_0 h1_0 h2_0 => K (.exit 0) (S3 (v4, h0_0, h1_0, h2_0)))
def E7 (K : AExit → ASt → Option R) : Y7 → Option R := (fun x => K (.exit 2) (S7 x))
noncomputable def L7 : LSpec := fun st K => vMap (V7 st) fun (v5, h2_0, h1_0, h0_0) => P.R08_spread_l7 v5 h2_0 h1_0 h0_0 (fun v5 h2_0 h1_0 h0_0 => K (.exit 2) (S7 (v5, h2_0, h1_0, h0_0)))
noncomputable def D : Ctx := ({ P := Tryd.prog, G := [(156, R08_left.spec)], globs := GLO.gC, hints := [(7, ⟨[1, 2, 3, 5], [], [2], [], none, []⟩), (3, ⟨[1, 2, 3, 4], [], [2], [], none, []⟩)], loops := [(3, L3), (7, L7)], inl := [] } : Ctx)
theorem round3 (K) (next) (x) : roundA D (loopAt Tryd.f147 3) K next (S3 x) = T3 x (fun x => next (S3 x)) (E3 K) := by kernel_rfl
theorem lq3 (st) (K) : L3 st K = vMap (V3 st) (fun x => lp T3 x (E3 K)) := by
 unfold L3
 cases V3 st with
 | none => rfl
 | some x => rw [P.R08_spread_l3_eq]; kernel_rfl
theorem loop3 : LoopOk D (loopAt Tryd.f147 3) := loopOk_lp S3 V3_ok (by kernel_rfl) lq3 round3
theorem round7 (K) (next) (x) : roundA D (loopAt Tryd.f147 7) K next (S7 x) = T7 x (fun x => next (S7 x)) (E7 K) := by kernel_rfl
theorem lq7 (st) (K) : L7 st K = vMap (V7 st) (fun x => lp T7 x (E7 K)) := by
 unfold L7
 cases V7 st with
 | none => rfl
 | some x => rw [P.R08_spread_l7_eq]; kernel_rfl
theorem loop7 : LoopOk D (loopAt Tryd.f147 7) := loopOk_lp S7 V7_ok (by kernel_rfl) lq7 round7
theorem body (a0 : List Int) (K : AVal → Option R) : bodyA D Tryd.f147 [.any] [.arr .u64 25 a0] K = P.R08_spread a0 (fun r0 => K (.arr .u64 25 r0)) := by
 rw [P.R08_spread_eq]
 kernel_rfl
theorem loops : loopsOf (Tryd.f147.body.getD .skip) = [loopAt Tryd.f147 3, loopAt Tryd.f147 7] := by kernel_rfl
noncomputable def spec0 : Abs.Spec := fun args K => match args with
 | [.arr .u64 25 a0] => P.R08_spread a0 (fun r0 => K (.arr .u64 25 r0))
 | _ => none
noncomputable def spec : Abs.Spec := spec0
theorem ok0 : Proved Tryd.prog GLO.gC 147 spec0 := by
 refine proved_of (D := D) (fn := Tryd.f147) (c := Tryd.f147.body.getD .skip) [.any] (by kernel_rfl) (globsPlain_of (by kernel_rfl)) (by kernel_rfl) (by kernel_rfl) (by kernel_rfl) ⟨R08_left.ok, trivial⟩ trivial ?_ ?_
 · rw [loops]; exact ⟨loop3, loop7, trivial⟩
 · intro args K r h
   unfold spec0 at h
   split at h
   · rw [body]; exact h
   · cases h
theorem ok : Proved Tryd.prog GLO.gC 147 spec := ok0
end R08_spread
end

section
open Go Go.Abs Go.Proofs
set_option maxRecDepth 100000
set_option linter.unusedVariables false
namespace R08_Permute
abbrev X7 := Int × Int × (List Int) × (List Int) × (List Int) × (List Int)
def S7 : X7 → ASt := fun (v4, v6, h2_0, h1_0, h0_0, h3_0) => ⟨[(1, .ptr 0 0), (2, .ptr 1 0), (3, .ptr 2 0), (4, .v (.int .i64 v4)), (5, .ptr 3 0), (6, .v (.int .i64 v6))], [(2, some ⟨.box 173 [.arr .u64 24 h2_0], false⟩), (1, some ⟨.box 121 [.arr .u64 25 h1_0], false⟩), (0, some ⟨.box 121 [.arr .u64 25 h0_0], false⟩), (3, some ⟨.box 121 [.arr .u64 25 h3_0], false⟩)], 4, 53⟩
def V7 : ASt → Option X7
 | ⟨[(1, .ptr 0 0), (2, .ptr 1 0), (3, .ptr 2 0), (4, .v (.int .i64 v4)), (5, .ptr 3 0), (6, .v (.int .i64 v6))], [(2, some ⟨.box 173 [.arr .u64 24 h2_0], false⟩), (1, some ⟨.box 121 [.arr .u64 25 h1_0], false⟩), (0, some ⟨.box 121 [.arr .u64 25 h0_0], false⟩), (3, some ⟨.box 121 [.arr .u64 25 h3_0], false⟩)], 4, 53⟩ => some (v4, v6, h2_0, h1_0, h0_0, h3_0)
 | _ => none
theorem V7_ok (st) (x) (h : V7 st = some x) : st = S7 x := by
 unfold V7 at h
 split at h
 · cases h; rfl
 · cases h
abbrev Y7 := X7
noncomputable def T7 : X7 → (X7 → Option R) → (Y7 → Option R) → Option R := fun (v4, v6, h2_0, h1_0, h0_0, h3_0) next ex => P.R08_Permute_r7 v4 v6 h2_0 h1_0 h0_0 h3_0 (fun v4 v6 h2_0 h1_0 h0_0 h3_0 => next (v4, v6, h2_0, h1_0, h0_0, h3_0)) (fun v4 v6 h2_0 h1_0 h0_0 h3_0 => ex (v4, v6, h2_0, h1_0, h0_0, h3_0))
abbrev X3 := Int × (List Int) × (List Int) × (List Int)
def S3 : X3 → ASt := fun (v4, h0_0, h1_0, h2_0) => ⟨[(1, .ptr 0 0), (2, .ptr 1 0), (3, .ptr 2 0), (4, .v (.int .i64 v4))], [(0, some ⟨.box 121 [.arr .u64 25 h0_0], false⟩), (1, some ⟨.box 121 [.arr .u64 25 h1_0], false⟩), (2, some ⟨.box 173 [.arr .u64 24 h2_0], false⟩)], 3, 53⟩
def V3 : ASt → Option X3
 | ⟨[(1, .ptr 0 0), (2, .ptr 1 0), (3, .ptr 2 0), (4, .v (.int .i64 v4))], [(0, some ⟨.box 121 [.arr .u64 25 h0_0], false⟩), (1, some ⟨.box 121 [.arr .u64 25 h1_0], false⟩), (2, some ⟨.box 173 [.arr .u64 24 h2_0], false⟩)], 3, 53⟩ => some (v4, h0_0, h1_0, h2_0)
 | _ => none
theorem V3_ok (st) (x) (h : V3 st = some x) : st = S3 x := by
 unfold V3 at h
 split at h
 · cases h; rfl
 · cases h
abbrev Y3 := X3
noncomputable def T3 : X3 → (X3 → Option R) → (Y3 → Option R) → Option R := fun (v4, h0_0, h1_0, h2_0) next ex => P.R08_Permute_r3 v4 h0_0 h1_0 h2_0 (fun v4 h0_0 h1_0 h2_0 => next (v4, h0_0, h1_0, h2_0)) (fun v4 h0_0 h1_0 h2_0 => ex (v4, h0_0, h1_0, h2_0))
def E7 (K : AExit → ASt → Option R) : Y7 → Option R := (fun x => K (.exit 2) (S7 x))
noncomputable def L7 : LSpec := fun st K => vMap (V7 st) fun (v4, v6, h2_0, h1_0, h0_0, h3_0) => P.R08_Permute_l7 v4 v6 h2_0 h1_0 h0_0 h3_0 (fun v4 v6 h2_0 h1_0 h0_0 h3_0 => K (.exit 2) (S7 (v4, v6, h2_0, h1_0, h0_0, h3_0)))
def E3 (K : AExit → ASt → Option R) : Y3 → Option R := (fun x => K (.exit 0) (S3 x))
noncomputable def L3 : LSpec := fun st K => vMap (V3 st) fun (v4, h0_0, h1_0, h2_0) => P.R08_Permute_l3 v4 h0_0 h1_0 h2_0 (fun v4 h0_0 h1_0 h2_0 => K (.exit 0) (S3 (v4, h0_0, h1_0, h2_0)))
noncomputable def D : Ctx := ({ P := Tryd.prog, G := [(145, R08_constants.spec), (146, R08_move.spec), (147, R08_spread.spec)], globs := GLO.gC, hints := [(7, ⟨[1, 2, 3, 4, 5, 6], [], [2], [], none, []⟩), (3, ⟨[1, 2, 3, 4], [], [2], [], none, []⟩)], loops := [(7, L7), (3, L3)], inl := [] } : Ctx)
theorem round7 (K) (next) (x) : roundA D (loopAt Tryd.f127 7) K next (S7 x) = T7 x (fun x => next (S7 x)) (E7 K) := by kernel_rfl
theorem lq7 (st) (K) : L7 st K = vMap (V7 st) (fun x => lp T7 x (E7 K)) := by
 unfold L7
 cases V7 st with
 | none => rfl
 | some x => rw [P.R08_Permute_l7_eq]; kernel_rfl
theorem loop7 : LoopOk D (loopAt Tryd.f127 7) := loopOk_lp S7 V7_ok (by kernel_rfl) lq7 round7
theorem round3 (K) (next) (x) : roundA D (loopAt Tryd.f127 3) K next (S3 x) = T3 x (fun x => next (S3 x)) (E3 K) := by kernel_rfl
theorem lq3 (st) (K) : L3 st K = vMap (V3 st) (fun x => lp T3 x (E3 K)) := by
 unfold L3
 cases V3 st with
 | none => rfl
 | some x => rw [P.R08_Permute_l3_eq]; kernel_rfl
theorem loop3 : LoopOk D (loopAt Tryd.f127 3) := loopOk_lp S3 V3_ok (by kernel_rfl) lq3 round3
theorem body (a0 : List Int) (K : AVal → Option R) : bodyA D Tryd.f127 [.any] [.arr .u64 25 a0] K = P.R08_Permute a0 (fun r0 => K (.arr .u64 25 r0)) := by
 rw [P.R08_Permute_eq]
 kernel_rfl
theorem loops : loopsOf (Tryd.f127.body.getD .skip) = [loopAt Tryd.f127 3, loopAt Tryd.f127 7] := by kernel_rfl
noncomputable def spec0 : Abs.Spec := fun args K => match args with
 | [.arr .u64 25 a0] => P.R08_Permute a0 (fun r0 => K (.arr .u64 25 r0))
 | _ => none
noncomputable def spec : Abs.Spec := spec0
theorem ok0 : Proved Tryd.prog GLO.gC 127 spec0 := by
 refine proved_of (D := D) (fn := Tryd.f127) (c := Tryd.f127.body.getD .skip) [.any] (by kernel_rfl) (globsPlain_of (by kernel_rfl)) (by kernel_rfl) (by kernel_rfl) (by kernel_rfl) ⟨R08_constants.ok, R08_move.ok, R08_spread.ok, trivial⟩ trivial ?_ ?_
 · rw [loops]; exact ⟨loop3, loop7, trivial⟩
 · intro args K r h
   unfold spec0 at h
   split at h
   · rw [body]; exact h
   · cases h
theorem ok : Proved Tryd.prog GLO.gC 127 spec := ok0
end R08_Permute
end

section
open Go Go.Abs Go.Proofs
set_option maxRecDepth 100000
set_option linter.unusedVariables false
namespace R08_Rate
noncomputable def D : Ctx := ({ P := Tryd.prog, G := [], globs := GLO.gC, hints := [], loops := [], inl := [] } : Ctx)
theorem body (a0 : Int) (K : AVal → Option R) : bodyA D Tryd.f101 [.any] [.v (.int .i64 a0)] K = P.R08_Rate a0 (fun r0 => K (.v (.int .i64 r0))) := by
 rw [P.R08_Rate_eq]
 kernel_rfl
theorem loops : loopsOf (Tryd.f101.body.getD .skip) = [] := by kernel_rfl
noncomputable def spec0 : Abs.Spec := fun args K => match args with
 | [.v (.int .i64 a0)] => P.R08_Rate a0 (fun r0 => K (.v (.int .i64 r0)))
 | _ => none
noncomputable def spec : Abs.Spec := spec0
theorem ok0 : Proved Tryd.prog GLO.gC 101 spec0 := by
 refine proved_of (D := D) (fn := Tryd.f101) (c := Tryd.f101.body.getD .skip) [.any] (by kernel_rfl) (globsPlain_of (by kernel_rfl)) (by kernel_rfl) (by kernel_rfl) (by kernel_rfl) trivial trivial ?_ ?_
 · rw [loops]; exact trivial
 · intro args K r h
   unfold spec0 at h
   split at h
   · rw [body]; exact h
   · cases h
theorem ok : Proved Tryd.prog GLO.gC 101 spec := ok0
end R08_Rate
end

section
open Go Go.Abs Go.Proofs
set_option maxRecDepth 100000
set_option linter.unusedVariables false
namespace R08_put
noncomputable def D : Ctx := ({ P := Tryd.prog, G := [], globs := GLO.gC, hints := [], loops := [], inl := [] } : Ctx)
theorem body (a0 : List Int) (a1 : Int) (a2 : Int) (K : AVal → Option R) : bodyA D Tryd.f128 [.any] [.arr .u64 25 a0, .v (.int .i64 a1), .v (.int .u8 a2)] K = P.R08_put a0 a1 a2 (fun r0 => K (.arr .u64 25 r0)) := by
 rw [P.R08_put_eq]
 kernel_rfl
theorem loops : loopsOf (Tryd.f128.body.getD .skip) = [] := by kernel_rfl
noncomputable def spec0 : Abs.Spec := fun args K => match args with
 | [.arr .u64 25 a0, .v (.int .i64 a1), .v (.int .u8 a2)] => P.R08_put a0 a1 a2 (fun r0 => K (.arr .u64 25 r0))
 | _ => none
noncomputable def spec : Abs.Spec := spec0
theorem ok0 : Proved Tryd.prog GLO.gC 128 spec0 := by
 refine proved_of (D := D) (fn := Tryd.f128) (c := Tryd.f128.body.getD .skip) [.any] (by kernel_rfl) (globsPlain_of (by kernel_rfl)) (by kernel_rfl) (by kernel_rfl) (by kernel_rfl) trivial trivial ?_ ?_
 · rw [loops]; exact trivial
 · intro args K r h
   unfold spec0 at h
   split at h
   · rw [body]; exact h
   · cases h
theorem ok : Proved Tryd.prog GLO.gC 128 spec := ok0
end R08_put
end

section
open Go Go.Abs Go.Proofs
set_option maxRecDepth 100000
set_option linter.unusedVariables false
namespace R08_Absorb
abbrev X4 := (List Int) × Int × Int × (List Int) × Int × Bool × Int × (List Int) × Int × Bool
def S4 : X4 → ASt := fun (v1, v5, h0_0, h0_1, h0_2, h0_3, h1_0, h1_1, h1_2, h1_3) => ⟨[(1, .sl (.ints .u8 v1)), (2, .ptr 0 0), (4, .ptr 1 0), (5, .v (.int .i64 v5))], [(0, some ⟨.box 123 [.v (.int .i64 h0_0), .arr .u64 25 h0_1, .v (.int .i64 h0_2), .v (.bool h0_3)], false⟩), (1, some ⟨.box 123 [.v (.int .i64 h1_0), .arr .u64 25 h1_1, .v (.int .i64 h1_2), .v (.bool h1_3)], false⟩)], 40, 41⟩
def V4 : ASt → Option X4
 | ⟨[(1, .sl (.ints .u8 v1)), (2, .ptr 0 0), (4, .ptr 1 0), (5, .v (.int .i64 v5))], [(0, some ⟨.box 123 [.v (.int .i64 h0_0), .arr .u64 25 h0_1, .v (.int .i64 h0_2), .v (.bool h0_3)], false⟩), (1, some ⟨.box 123 [.v (.int .i64 h1_0), .arr .u64 25 h1_1, .v (.int .i64 h1_2), .v (.bool h1_3)], false⟩)], 40, 41⟩ => some (v1, v5, h0_0, h0_1, h0_2, h0_3, h1_0, h1_1, h1_2, h1_3)
 | _ => none
theorem V4_ok (st) (x) (h : V4 st = some x) : st = S4 x := by
 unfold V4 at h
 split at h
 · cases h; rfl
 · cases h
abbrev Y4 := X4
noncomputable def T4 : X4 → (X4 → Option R) → (Y4 → Option R) → Option R := fun (v1, v5, h0_0, h0_1, h0_2, h0_3, h1_0, h1_1, h1_2, h1_3) next ex => P.R08_Absorb_r4 v1 v5 h0_0 h0_1 h0_2 h0_3 h1_0 h1_1 h1_2 h1_3 (fun v1 v5 h0_0 h0_1 h0_2 h0_3 h1_0 h1_1 h1_2 h1_3 => next (v1, v5, h0_0, h0_1, h0_2, h0_3, h1_0, h1_1, h1_2, h1_3)) (fun v1 v5 h0_0 h0_1 h0_2 h0_3 h1_0 h1_1 h1_2 h1_3 => ex (v1, v5, h0_0, h0_1, h0_2, h0_3, h1_0, h1_1, h1_2, h1_3))
def E4 (K : AExit → ASt → Option R) : Y4 → Option R := (fun x => K (.exit 0) (S4 x))
noncomputable def L4 : LSpec := fun st K => vMap (V4 st) fun (v1, v5, h0_0, h0_1, h0_2, h0_3, h1_0, h1_1, h1_2, h1_3) => P.R08_Absorb_l4 v1 v5 h0_0 h0_1 h0_2 h0_3 h1_0 h1_1 h1_2 h1_3 (fun v1 v5 h0_0 h0_1 h0_2 h0_3 h1_0 h1_1 h1_2 h1_3 => K (.exit 0) (S4 (v1, v5, h0_0, h0_1, h0_2, h0_3, h1_0, h1_1, h1_2, h1_3)))
noncomputable def D : Ctx := ({ P := Tryd.prog, G := [(101, R08_Rate.spec), (127, R08_Permute.spec), (128, R08_put.spec)], globs := GLO.gC, hints := [(4, ⟨[1, 2, 4, 5], [], [4], [], some (40, [0, 1]), []⟩)], loops := [(4, L4)], inl := [] } : Ctx)
theorem round4 (K) (next) (x) : roundA D (loopAt Tryd.f97 4) K next (S4 x) = T4 x (fun x => next (S4 x)) (E4 K) := by kernel_rfl
theorem lq4 (st) (K) : L4 st K = vMap (V4 st) (fun x => lp T4 x (E4 K)) := by
 unfold L4
 cases V4 st with
 | none => rfl
 | some x => rw [P.R08_Absorb_l4_eq]; kernel_rfl
theorem loop4 : LoopOk D (loopAt Tryd.f97 4) := loopOk_lp S4 V4_ok (by kernel_rfl) lq4 round4
theorem body (a0_Kind : Int) (a0_Words : List Int) (a0_At : Int) (a0_Out : Bool) (a1 : List Int) (K : AVal → Option R) : bodyA D Tryd.f97 [.any] [.agg [.v (.int .i64 a0_Kind), .arr .u64 25 a0_Words, .v (.int .i64 a0_At), .v (.bool a0_Out)], .sl (.ints .u8 a1)] K = P.R08_Absorb a0_Kind a0_Words a0_At a0_Out a1 (fun r0_Kind r0_Words r0_At r0_Out => K (.agg [.v (.int .i64 r0_Kind), .arr .u64 25 r0_Words, .v (.int .i64 r0_At), .v (.bool r0_Out)])) := by
 rw [P.R08_Absorb_eq]
 kernel_rfl
theorem loops : loopsOf (Tryd.f97.body.getD .skip) = [loopAt Tryd.f97 4] := by kernel_rfl
noncomputable def spec0 : Abs.Spec := fun args K => match args with
 | [.agg [.v (.int .i64 a0_Kind), .arr .u64 25 a0_Words, .v (.int .i64 a0_At), .v (.bool a0_Out)], .sl (.ints .u8 a1)] => P.R08_Absorb a0_Kind a0_Words a0_At a0_Out a1 (fun r0_Kind r0_Words r0_At r0_Out => K (.agg [.v (.int .i64 r0_Kind), .arr .u64 25 r0_Words, .v (.int .i64 r0_At), .v (.bool r0_Out)]))
 | _ => none
noncomputable def spec : Abs.Spec := fun args K => spec0 (coerL [.any, .sl (.ints .u8 [])] args) K
theorem ok0 : Proved Tryd.prog GLO.gC 97 spec0 := by
 refine proved_of (D := D) (fn := Tryd.f97) (c := Tryd.f97.body.getD .skip) [.any] (by kernel_rfl) (globsPlain_of (by kernel_rfl)) (by kernel_rfl) (by kernel_rfl) (by kernel_rfl) ⟨R08_Rate.ok, R08_Permute.ok, R08_put.ok, trivial⟩ trivial ?_ ?_
 · rw [loops]; exact ⟨loop4, trivial⟩
 · intro args K r h
   unfold spec0 at h
   split at h
   · rw [body]; exact h
   · cases h
theorem ok : Proved Tryd.prog GLO.gC 97 spec := proved_coer _ ok0
end R08_Absorb
end

section
open Go Go.Abs Go.Proofs
set_option maxRecDepth 100000
set_option linter.unusedVariables false
namespace R08_New
noncomputable def D : Ctx := ({ P := Tryd.prog, G := [(101, R08_Rate.spec)], globs := GLO.gC, hints := [], loops := [], inl := [] } : Ctx)
theorem body (a0 : Int) (K : AVal → Option R) : bodyA D Tryd.f95 [.any, .any] [.v (.int .i64 a0)] K = P.R08_New a0 (fun r0_Kind r0_Words r0_At r0_Out r1 => K (.tuple [.agg [.v (.int .i64 r0_Kind), .arr .u64 25 r0_Words, .v (.int .i64 r0_At), .v (.bool r0_Out)], .v (.int .i64 r1)])) := by
 rw [P.R08_New_eq]
 kernel_rfl
theorem loops : loopsOf (Tryd.f95.body.getD .skip) = [] := by kernel_rfl
noncomputable def spec0 : Abs.Spec := fun args K => match args with
 | [.v (.int .i64 a0)] => P.R08_New a0 (fun r0_Kind r0_Words r0_At r0_Out r1 => K (.tuple [.agg [.v (.int .i64 r0_Kind), .arr .u64 25 r0_Words, .v (.int .i64 r0_At), .v (.bool r0_Out)], .v (.int .i64 r1)]))
 | _ => none
noncomputable def spec : Abs.Spec := spec0
theorem ok0 : Proved Tryd.prog GLO.gC 95 spec0 := by
 refine proved_of (D := D) (fn := Tryd.f95) (c := Tryd.f95.body.getD .skip) [.any, .any] (by kernel_rfl) (globsPlain_of (by kernel_rfl)) (by kernel_rfl) (by kernel_rfl) (by kernel_rfl) ⟨R08_Rate.ok, trivial⟩ trivial ?_ ?_
 · rw [loops]; exact trivial
 · intro args K r h
   unfold spec0 at h
   split at h
   · rw [body]; exact h
   · cases h
theorem ok : Proved Tryd.prog GLO.gC 95 spec := ok0
end R08_New
end
