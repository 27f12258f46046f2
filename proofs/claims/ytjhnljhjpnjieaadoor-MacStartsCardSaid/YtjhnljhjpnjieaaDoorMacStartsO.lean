/-
  MacStarts, part O: an interpreter of my own over abstract values, the pure functions, the walks and the plain law.
-/

import Derived.Test.YtjhnljhjpnjieaaDoorMacStartsG
import Derived.Test.YtjhnljhjpnjieaaDoorMacStartsF
import Derived.Test.YtjhnljhjpnjieaaDoorProg
import Derived.KernelRfl
import Derived.Test.YtjhnljhjpnjieaaDoorMacStartsJ
import Derived.Test.YtjhnljhjpnjieaaDoorMacStartsN
import Derived.Test.YtjhnljhjpnjieaaDoorMacStartsH
import Derived.Test.YtjhnljhjpnjieaaDoorMacStartsL
import Derived.Test.YtjhnljhjpnjieaaDoorMacStartsI
import Derived.Test.YtjhnljhjpnjieaaDoorMacStartsK

section
open Go Go.Abs Go.Proofs
set_option maxRecDepth 100000
set_option linter.unusedVariables false
namespace sha_blockSize
noncomputable def D : Ctx := ({ P := Tryd.prog, G := [], globs := GLO.gC, hints := [], loops := [], inl := [] } : Ctx)
theorem body (a0 : Int) (K : AVal → Option R) : bodyA D Tryd.f116 [.any] [.v (.int .i64 a0)] K = P.sha_blockSize a0 (fun r0 => K (.v (.int .i64 r0))) := by
 rw [P.sha_blockSize_eq]
 kernel_rfl
theorem loops : loopsOf (Tryd.f116.body.getD .skip) = [] := by kernel_rfl
noncomputable def spec0 : Abs.Spec := fun args K => match args with
 | [.v (.int .i64 a0)] => P.sha_blockSize a0 (fun r0 => K (.v (.int .i64 r0)))
 | _ => none
noncomputable def spec : Abs.Spec := spec0
theorem ok0 : Proved Tryd.prog GLO.gC 116 spec0 := by
 refine proved_of (D := D) (fn := Tryd.f116) (c := Tryd.f116.body.getD .skip) [.any] (by kernel_rfl) (globsPlain_of (by kernel_rfl)) (by kernel_rfl) (by kernel_rfl) (by kernel_rfl) trivial trivial ?_ ?_
 · rw [loops]; exact trivial
 · intro args K r h
   unfold spec0 at h
   split at h
   · rw [body]; exact h
   · cases h
theorem ok : Proved Tryd.prog GLO.gC 116 spec := ok0
end sha_blockSize
end

section
open Go Go.Abs Go.Proofs
set_option maxRecDepth 100000
set_option linter.unusedVariables false
namespace sha_End
abbrev X10 := Int × (List Int) × Int × (List Int) × Int × (List Int) × Int × (List Int)
def S10 : X10 → ASt := fun (v3, v45, v46, h40, h0_0, h0_1, h0_3, h5) => ⟨[(7, .own 40), (1, .ptr 0 0), (3, .v (.int .i64 v3)), (45, .arr .u64 8 v45), (46, .v (.int .i64 v46))], [(40, some ⟨.row 5 (.ints .u8 h40), false⟩), (0, some ⟨.box 116 [.v (.int .i64 h0_0), .arr .u64 8 h0_1, .own 5, .v (.int .u64 h0_3)], false⟩), (5, some ⟨.row 5 (.ints .u8 h5), false⟩)], 41, 62⟩
def V10 : ASt → Option X10
 | ⟨[(7, .own 40), (1, .ptr 0 0), (3, .v (.int .i64 v3)), (45, .arr .u64 8 v45), (46, .v (.int .i64 v46))], [(40, some ⟨.row 5 (.ints .u8 h40), false⟩), (0, some ⟨.box 116 [.v (.int .i64 h0_0), .arr .u64 8 h0_1, .own 5, .v (.int .u64 h0_3)], false⟩), (5, some ⟨.row 5 (.ints .u8 h5), false⟩)], 41, 62⟩ => some (v3, v45, v46, h40, h0_0, h0_1, h0_3, h5)
 | _ => none
theorem V10_ok (st) (x) (h : V10 st = some x) : st = S10 x := by
 unfold V10 at h
 split at h
 · cases h; rfl
 · cases h
abbrev Y10 := X10
noncomputable def T10 : X10 → (X10 → Option R) → (Y10 → Option R) → Option R := fun (v3, v45, v46, h40, h0_0, h0_1, h0_3, h5) next ex => P.sha_End_r10 v3 v45 v46 h40 h0_0 h0_1 h0_3 h5 (fun v3 v45 v46 h40 h0_0 h0_1 h0_3 h5 => next (v3, v45, v46, h40, h0_0, h0_1, h0_3, h5)) (fun v3 v45 v46 h40 h0_0 h0_1 h0_3 h5 => ex (v3, v45, v46, h40, h0_0, h0_1, h0_3, h5))
def E10 (K : AExit → ASt → Option R) : Y10 → Option R := (fun x => K (.exit 0) (S10 x))
noncomputable def L10 : LSpec := fun st K => vMap (V10 st) fun (v3, v45, v46, h40, h0_0, h0_1, h0_3, h5) => P.sha_End_l10 v3 v45 v46 h40 h0_0 h0_1 h0_3 h5 (fun v3 v45 v46 h40 h0_0 h0_1 h0_3 h5 => K (.exit 0) (S10 (v3, v45, v46, h40, h0_0, h0_1, h0_3, h5)))
noncomputable def D : Ctx := ({ P := Tryd.prog, G := [(60, bits_Be.spec), (88, sha_Add.spec), (116, sha_blockSize.spec)], globs := GLO.gC, hints := [(10, ⟨[1, 3, 45, 46], [(7, 5, .ints .u8 [])], [2], [], some (40, [0, 5]), []⟩)], loops := [(10, L10)], inl := [] } : Ctx)
theorem round10 (K) (next) (x) : roundA D (loopAt Tryd.f87 10) K next (S10 x) = T10 x (fun x => next (S10 x)) (E10 K) := by kernel_rfl
theorem lq10 (st) (K) : L10 st K = vMap (V10 st) (fun x => lp T10 x (E10 K)) := by
 unfold L10
 cases V10 st with
 | none => rfl
 | some x => rw [P.sha_End_l10_eq]; kernel_rfl
theorem loop10 : LoopOk D (loopAt Tryd.f87 10) := loopOk_lp S10 V10_ok (by kernel_rfl) lq10 round10
theorem body (a0_Kind : Int) (a0_Words : List Int) (a0_Tail : List Int) (a0_Size : Int) (K : AVal → Option R) : bodyW D Tryd.f87 5 (.ints .u8 []) [.agg [.v (.int .i64 a0_Kind), .arr .u64 8 a0_Words, .sl (.ints .u8 a0_Tail), .v (.int .u64 a0_Size)]] K = P.sha_End a0_Kind a0_Words a0_Tail a0_Size (fun r0 => K (.fr 5 (.ints .u8 r0))) := by
 rw [P.sha_End_eq]
 kernel_rfl
theorem loops : loopsOf (Tryd.f87.body.getD .skip) = [loopAt Tryd.f87 10] := by kernel_rfl
noncomputable def spec0 : Abs.Spec := fun args K => match args with
 | [.agg [.v (.int .i64 a0_Kind), .arr .u64 8 a0_Words, .sl (.ints .u8 a0_Tail), .v (.int .u64 a0_Size)]] => P.sha_End a0_Kind a0_Words a0_Tail a0_Size (fun r0 => K (.fr 5 (.ints .u8 r0)))
 | _ => none
noncomputable def spec : Abs.Spec := fun args K => spec0 (coerL [.agg [.any, .any, .sl (.ints .u8 []), .any]] args) K
theorem ok0 : Proved Tryd.prog GLO.gC 87 spec0 := by
 refine provedW_of (D := D) (fn := Tryd.f87) (c := Tryd.f87.body.getD .skip) 5 (.ints .u8 []) (by kernel_rfl) (globsPlain_of (by kernel_rfl)) (by kernel_rfl) (by kernel_rfl) (by kernel_rfl) ⟨bits_Be.ok, sha_Add.ok, sha_blockSize.ok, trivial⟩ trivial ?_ ?_
 · rw [loops]; exact ⟨loop10, trivial⟩
 · intro args K r h
   unfold spec0 at h
   split at h
   · rw [body]; exact h
   · cases h
theorem ok : Proved Tryd.prog GLO.gC 87 spec := proved_coer _ ok0
end sha_End
end

section
open Go Go.Abs Go.Proofs
set_option maxRecDepth 100000
set_option linter.unusedVariables false
namespace sha_begin
noncomputable def D : Ctx := ({ P := Tryd.prog, G := [], globs := GLO.gC, hints := [], loops := [], inl := [] } : Ctx)
theorem body (a0 : Int) (K : AVal → Option R) : bodyA D Tryd.f115 [.any, .any] [.v (.int .i64 a0)] K = P.sha_begin a0 (fun r0 r1 => K (.tuple [.arr .u64 8 r0, .v (.bool r1)])) := by
 rw [P.sha_begin_eq]
 kernel_rfl
theorem loops : loopsOf (Tryd.f115.body.getD .skip) = [] := by kernel_rfl
noncomputable def spec0 : Abs.Spec := fun args K => match args with
 | [.v (.int .i64 a0)] => P.sha_begin a0 (fun r0 r1 => K (.tuple [.arr .u64 8 r0, .v (.bool r1)]))
 | _ => none
noncomputable def spec : Abs.Spec := spec0
theorem ok0 : Proved Tryd.prog GLO.gC 115 spec0 := by
 refine proved_of (D := D) (fn := Tryd.f115) (c := Tryd.f115.body.getD .skip) [.any, .any] (by kernel_rfl) (globsPlain_of (by kernel_rfl)) (by kernel_rfl) (by kernel_rfl) (by kernel_rfl) trivial trivial ?_ ?_
 · rw [loops]; exact trivial
 · intro args K r h
   unfold spec0 at h
   split at h
   · rw [body]; exact h
   · cases h
theorem ok : Proved Tryd.prog GLO.gC 115 spec := ok0
end sha_begin
end

section
open Go Go.Abs Go.Proofs
set_option maxRecDepth 100000
set_option linter.unusedVariables false
namespace sha_New
noncomputable def D : Ctx := ({ P := Tryd.prog, G := [(115, sha_begin.spec)], globs := GLO.gC, hints := [], loops := [], inl := [] } : Ctx)
theorem body (a0 : Int) (K : AVal → Option R) : bodyA D Tryd.f86 [.agg [.any, .any, .fr 5 (.ints .u8 []), .any], .any] [.v (.int .i64 a0)] K = P.sha_New a0 (fun r0_Kind r0_Words r0_Tail r0_Size r1 => K (.tuple [.agg [.v (.int .i64 r0_Kind), .arr .u64 8 r0_Words, .fr 5 (.ints .u8 r0_Tail), .v (.int .u64 r0_Size)], .v (.int .i64 r1)])) := by
 rw [P.sha_New_eq]
 kernel_rfl
theorem loops : loopsOf (Tryd.f86.body.getD .skip) = [] := by kernel_rfl
noncomputable def spec0 : Abs.Spec := fun args K => match args with
 | [.v (.int .i64 a0)] => P.sha_New a0 (fun r0_Kind r0_Words r0_Tail r0_Size r1 => K (.tuple [.agg [.v (.int .i64 r0_Kind), .arr .u64 8 r0_Words, .fr 5 (.ints .u8 r0_Tail), .v (.int .u64 r0_Size)], .v (.int .i64 r1)]))
 | _ => none
noncomputable def spec : Abs.Spec := spec0
theorem ok0 : Proved Tryd.prog GLO.gC 86 spec0 := by
 refine proved_of (D := D) (fn := Tryd.f86) (c := Tryd.f86.body.getD .skip) [.agg [.any, .any, .fr 5 (.ints .u8 []), .any], .any] (by kernel_rfl) (globsPlain_of (by kernel_rfl)) (by kernel_rfl) (by kernel_rfl) (by kernel_rfl) ⟨sha_begin.ok, trivial⟩ trivial ?_ ?_
 · rw [loops]; exact trivial
 · intro args K r h
   unfold spec0 at h
   split at h
   · rw [body]; exact h
   · cases h
theorem ok : Proved Tryd.prog GLO.gC 86 spec := ok0
end sha_New
end

section
open Go Go.Abs Go.Proofs
set_option maxRecDepth 100000
set_option linter.unusedVariables false
namespace sha_Sum
noncomputable def D : Ctx := ({ P := Tryd.prog, G := [(86, sha_New.spec), (87, sha_End.spec), (88, sha_Add.spec)], globs := GLO.gC, hints := [], loops := [], inl := [] } : Ctx)
theorem body (a0 : Int) (a1 : List Int) (K : AVal → Option R) : bodyA D Tryd.f51 [.fr 5 (.ints .u8 []), .any] [.v (.int .i64 a0), .sl (.ints .u8 a1)] K = P.sha_Sum a0 a1 (fun r0 r1 => K (.tuple [.fr 5 (.ints .u8 r0), .v (.int .i64 r1)])) := by
 rw [P.sha_Sum_eq]
 kernel_rfl
theorem loops : loopsOf (Tryd.f51.body.getD .skip) = [] := by kernel_rfl
noncomputable def spec0 : Abs.Spec := fun args K => match args with
 | [.v (.int .i64 a0), .sl (.ints .u8 a1)] => P.sha_Sum a0 a1 (fun r0 r1 => K (.tuple [.fr 5 (.ints .u8 r0), .v (.int .i64 r1)]))
 | _ => none
noncomputable def spec : Abs.Spec := fun args K => spec0 (coerL [.any, .sl (.ints .u8 [])] args) K
theorem ok0 : Proved Tryd.prog GLO.gC 51 spec0 := by
 refine proved_of (D := D) (fn := Tryd.f51) (c := Tryd.f51.body.getD .skip) [.fr 5 (.ints .u8 []), .any] (by kernel_rfl) (globsPlain_of (by kernel_rfl)) (by kernel_rfl) (by kernel_rfl) (by kernel_rfl) ⟨sha_New.ok, sha_End.ok, sha_Add.ok, trivial⟩ trivial ?_ ?_
 · rw [loops]; exact trivial
 · intro args K r h
   unfold spec0 at h
   split at h
   · rw [body]; exact h
   · cases h
theorem ok : Proved Tryd.prog GLO.gC 51 spec := proved_coer _ ok0
end sha_Sum
end

section
open Go Go.Abs Go.Proofs
set_option maxRecDepth 100000
set_option linter.unusedVariables false
namespace mac_Digest
noncomputable def D : Ctx := ({ P := Tryd.prog, G := [(16, mac_Size.spec), (51, sha_Sum.spec), (52, keccak_Sum.spec)], globs := GLO.gC, hints := [], loops := [], inl := [] } : Ctx)
theorem body (a0 : Int) (a1 : List Int) (K : AVal → Option R) : bodyA D Tryd.f11 [.fr 5 (.ints .u8 []), .any] [.v (.int .i64 a0), .sl (.ints .u8 a1)] K = P.mac_Digest a0 a1 (fun r0 r1 => K (.tuple [.fr 5 (.ints .u8 r0), .v (.int .i64 r1)])) := by
 rw [P.mac_Digest_eq]
 kernel_rfl
theorem loops : loopsOf (Tryd.f11.body.getD .skip) = [] := by kernel_rfl
noncomputable def spec0 : Abs.Spec := fun args K => match args with
 | [.v (.int .i64 a0), .sl (.ints .u8 a1)] => P.mac_Digest a0 a1 (fun r0 r1 => K (.tuple [.fr 5 (.ints .u8 r0), .v (.int .i64 r1)]))
 | _ => none
noncomputable def spec : Abs.Spec := fun args K => spec0 (coerL [.any, .sl (.ints .u8 [])] args) K
theorem ok0 : Proved Tryd.prog GLO.gC 11 spec0 := by
 refine proved_of (D := D) (fn := Tryd.f11) (c := Tryd.f11.body.getD .skip) [.fr 5 (.ints .u8 []), .any] (by kernel_rfl) (globsPlain_of (by kernel_rfl)) (by kernel_rfl) (by kernel_rfl) (by kernel_rfl) ⟨mac_Size.ok, sha_Sum.ok, keccak_Sum.ok, trivial⟩ trivial ?_ ?_
 · rw [loops]; exact trivial
 · intro args K r h
   unfold spec0 at h
   split at h
   · rw [body]; exact h
   · cases h
theorem ok : Proved Tryd.prog GLO.gC 11 spec := proved_coer _ ok0
end mac_Digest
end

section
open Go Go.Abs Go.Proofs
set_option maxRecDepth 100000
set_option linter.unusedVariables false
namespace mac_digests_f1
noncomputable def D : Ctx := ({ P := Tryd.prog, G := [(11, mac_Digest.spec), (62, bits_Join.spec)], globs := GLO.gC, hints := [], loops := [], inl := [] } : Ctx)
theorem body (a0 : List (List Int)) (a1 : Int) (K : AVal → Option R) : bodyA D Tryd.f102 [.fr 5 (.ints .u8 [])] [.sl (.rows .u8 a0), .sta [.v (.int .i64 a1)]] K = P.mac_digests_f1 a0 a1 (fun r0 => K (.fr 5 (.ints .u8 r0))) := by
 rw [P.mac_digests_f1_eq]
 kernel_rfl
theorem loops : loopsOf (Tryd.f102.body.getD .skip) = [] := by kernel_rfl
noncomputable def spec0 : Abs.Spec := fun args K => match args with
 | [.sl (.rows .u8 a0), .sta [.v (.int .i64 a1)]] => P.mac_digests_f1 a0 a1 (fun r0 => K (.fr 5 (.ints .u8 r0)))
 | _ => none
noncomputable def spec : Abs.Spec := fun args K => spec0 (coerL [.sl (.rows .u8 []), .any] args) K
theorem ok0 : Proved Tryd.prog GLO.gC 102 spec0 := by
 refine proved_of (D := D) (fn := Tryd.f102) (c := Tryd.f102.body.getD .skip) [.fr 5 (.ints .u8 [])] (by kernel_rfl) (globsPlain_of (by kernel_rfl)) (by kernel_rfl) (by kernel_rfl) (by kernel_rfl) ⟨mac_Digest.ok, bits_Join.ok, trivial⟩ trivial ?_ ?_
 · rw [loops]; exact trivial
 · intro args K r h
   unfold spec0 at h
   split at h
   · rw [body]; exact h
   · cases h
theorem ok : Proved Tryd.prog GLO.gC 102 spec := proved_coer _ ok0
end mac_digests_f1
end

section
open Go Go.Abs Go.Proofs
set_option maxRecDepth 100000
set_option linter.unusedVariables false
namespace mac_digests
noncomputable def D : Ctx := ({ P := Tryd.prog, G := [(102, mac_digests_f1.spec)], globs := GLO.gC, hints := [], loops := [], inl := [], sta := true } : Ctx)
theorem body (a0 : Int) (K : AVal → Option R) : bodyA D Tryd.f59 [.any] [.v (.int .i64 a0)] K = P.mac_digests a0 (fun r0_c0 => K (.fn (.func 102) [] [.sta [.v (.int .i64 r0_c0)]])) := by
 rw [P.mac_digests_eq]
 kernel_rfl
theorem loops : loopsOf (Tryd.f59.body.getD .skip) = [] := by kernel_rfl
noncomputable def spec0 : Abs.Spec := fun args K => match args with
 | [.v (.int .i64 a0)] => P.mac_digests a0 (fun r0_c0 => K (.fn (.func 102) [] [.sta [.v (.int .i64 r0_c0)]]))
 | _ => none
noncomputable def spec : Abs.Spec := spec0
theorem ok0 : Proved Tryd.prog GLO.gC 59 spec0 := by
 refine proved_of (D := D) (fn := Tryd.f59) (c := Tryd.f59.body.getD .skip) [.any] (by kernel_rfl) (globsPlain_of (by kernel_rfl)) (by kernel_rfl) (by kernel_rfl) (by kernel_rfl) ⟨mac_digests_f1.ok, trivial⟩ trivial ?_ ?_
 · rw [loops]; exact trivial
 · intro args K r h
   unfold spec0 at h
   split at h
   · rw [body]; exact h
   · cases h
theorem ok : Proved Tryd.prog GLO.gC 59 spec := ok0
end mac_digests
end

section
open Go Go.Abs Go.Proofs
set_option maxRecDepth 100000
set_option linter.unusedVariables false
namespace mac_stirred
abbrev X4 := Int × Int × Int × (List Int)
def S4 : X4 → ASt := fun (v2, v15, v16, h0) => ⟨[(2, .v (.int .u8 v2)), (7, .own 0), (15, .v (.int .i64 v15)), (16, .v (.int .i64 v16))], [(0, some ⟨.row 5 (.ints .u8 h0), false⟩)], 1, 28⟩
def V4 : ASt → Option X4
 | ⟨[(2, .v (.int .u8 v2)), (7, .own 0), (15, .v (.int .i64 v15)), (16, .v (.int .i64 v16))], [(0, some ⟨.row 5 (.ints .u8 h0), false⟩)], 1, 28⟩ => some (v2, v15, v16, h0)
 | _ => none
theorem V4_ok (st) (x) (h : V4 st = some x) : st = S4 x := by
 unfold V4 at h
 split at h
 · cases h; rfl
 · cases h
abbrev Y4 := X4
noncomputable def T4 : X4 → (X4 → Option R) → (Y4 → Option R) → Option R := fun (v2, v15, v16, h0) next ex => P.mac_stirred_r4 v2 v15 v16 h0 (fun v2 v15 v16 h0 => next (v2, v15, v16, h0)) (fun v2 v15 v16 h0 => ex (v2, v15, v16, h0))
def E4 (K : AExit → ASt → Option R) : Y4 → Option R := (fun x => K (.exit 0) (S4 x))
noncomputable def L4 : LSpec := fun st K => vMap (V4 st) fun (v2, v15, v16, h0) => P.mac_stirred_l4 v2 v15 v16 h0 (fun v2 v15 v16 h0 => K (.exit 0) (S4 (v2, v15, v16, h0)))
noncomputable def D : Ctx := ({ P := Tryd.prog, G := [], globs := GLO.gC, hints := [(4, ⟨[2, 7, 15, 16], [], [6], [], none, []⟩)], loops := [(4, L4)], inl := [] } : Ctx)
theorem round4 (K) (next) (x) : roundA D (loopAt Tryd.f98 4) K next (S4 x) = T4 x (fun x => next (S4 x)) (E4 K) := by kernel_rfl
theorem lq4 (st) (K) : L4 st K = vMap (V4 st) (fun x => lp T4 x (E4 K)) := by
 unfold L4
 cases V4 st with
 | none => rfl
 | some x => rw [P.mac_stirred_l4_eq]; kernel_rfl
theorem loop4 : LoopOk D (loopAt Tryd.f98 4) := loopOk_lp S4 V4_ok (by kernel_rfl) lq4 round4
theorem body (a0 : List Int) (a1 : Int) (a2 : Int) (K : AVal → Option R) : bodyA D Tryd.f98 [.fr 5 (.ints .u8 [])] [.sl (.ints .u8 a0), .v (.int .i64 a1), .v (.int .u8 a2)] K = P.mac_stirred a0 a1 a2 (fun r0 => K (.fr 5 (.ints .u8 r0))) := by
 rw [P.mac_stirred_eq]
 kernel_rfl
theorem loops : loopsOf (Tryd.f98.body.getD .skip) = [loopAt Tryd.f98 4] := by kernel_rfl
noncomputable def spec0 : Abs.Spec := fun args K => match args with
 | [.sl (.ints .u8 a0), .v (.int .i64 a1), .v (.int .u8 a2)] => P.mac_stirred a0 a1 a2 (fun r0 => K (.fr 5 (.ints .u8 r0)))
 | _ => none
noncomputable def spec : Abs.Spec := fun args K => spec0 (coerL [.sl (.ints .u8 []), .any, .any] args) K
theorem ok0 : Proved Tryd.prog GLO.gC 98 spec0 := by
 refine proved_of (D := D) (fn := Tryd.f98) (c := Tryd.f98.body.getD .skip) [.fr 5 (.ints .u8 [])] (by kernel_rfl) (globsPlain_of (by kernel_rfl)) (by kernel_rfl) (by kernel_rfl) (by kernel_rfl) trivial trivial ?_ ?_
 · rw [loops]; exact ⟨loop4, trivial⟩
 · intro args K r h
   unfold spec0 at h
   split at h
   · rw [body]; exact h
   · cases h
theorem ok : Proved Tryd.prog GLO.gC 98 spec := proved_coer _ ok0
end mac_stirred
end

section
open Go Go.Abs Go.Proofs
set_option maxRecDepth 100000
set_option linter.unusedVariables false
namespace mac_with_f1
noncomputable def D : Ctx := ({ P := Tryd.prog, G := [(62, bits_Join.spec), (102, mac_digests_f1.spec)], globs := GLO.gC, hints := [], loops := [], inl := [] } : Ctx)
theorem body (a0 : List (List Int)) (a1_c0 : Int) (a2 : List Int) (a3 : List Int) (K : AVal → Option R) : bodyA D Tryd.f99 [.fr 5 (.ints .u8 [])] [.sl (.rows .u8 a0), .sta [.fn (.func 102) [] [.sta [.v (.int .i64 a1_c0)]]], .sta [.sl (.ints .u8 a2)], .sta [.sl (.ints .u8 a3)]] K = P.mac_with_f1 a0 a1_c0 a2 a3 (fun r0 => K (.fr 5 (.ints .u8 r0))) := by
 rw [P.mac_with_f1_eq]
 kernel_rfl
theorem loops : loopsOf (Tryd.f99.body.getD .skip) = [] := by kernel_rfl
noncomputable def spec0 : Abs.Spec := fun args K => match args with
 | [.sl (.rows .u8 a0), .sta [.fn (.func 102) [] [.sta [.v (.int .i64 a1_c0)]]], .sta [.sl (.ints .u8 a2)], .sta [.sl (.ints .u8 a3)]] => P.mac_with_f1 a0 a1_c0 a2 a3 (fun r0 => K (.fr 5 (.ints .u8 r0)))
 | _ => none
noncomputable def spec : Abs.Spec := fun args K => spec0 (coerL [.sl (.rows .u8 []), .any, .agg [.sl (.ints .u8 [])], .agg [.sl (.ints .u8 [])]] args) K
theorem ok0 : Proved Tryd.prog GLO.gC 99 spec0 := by
 refine proved_of (D := D) (fn := Tryd.f99) (c := Tryd.f99.body.getD .skip) [.fr 5 (.ints .u8 [])] (by kernel_rfl) (globsPlain_of (by kernel_rfl)) (by kernel_rfl) (by kernel_rfl) (by kernel_rfl) ⟨bits_Join.ok, mac_digests_f1.ok, trivial⟩ trivial ?_ ?_
 · rw [loops]; exact trivial
 · intro args K r h
   unfold spec0 at h
   split at h
   · rw [body]; exact h
   · cases h
theorem ok : Proved Tryd.prog GLO.gC 99 spec := proved_coer _ ok0
end mac_with_f1
end

section
open Go Go.Abs Go.Proofs
set_option maxRecDepth 100000
set_option linter.unusedVariables false
namespace mac_with
noncomputable def D : Ctx := ({ P := Tryd.prog, G := [(59, mac_digests.spec), (98, mac_stirred.spec), (99, mac_with_f1.spec), (102, mac_digests_f1.spec)], globs := GLO.gC, hints := [], loops := [], inl := [], sta := true } : Ctx)
theorem body (a0 : Int) (a1 : List Int) (K : AVal → Option R) : bodyA D Tryd.f56 [.agg [.any, .agg [.sl (.ints .u8 [])], .agg [.sl (.ints .u8 [])]]] [.v (.int .i64 a0), .sl (.ints .u8 a1)] K = P.mac_with a0 a1 (fun r0_c0_c0 r0_c1 r0_c2 => K (.fn (.func 99) [] [.sta [.fn (.func 102) [] [.sta [.v (.int .i64 r0_c0_c0)]]], .sta [.sl (.ints .u8 r0_c1)], .sta [.sl (.ints .u8 r0_c2)]])) := by
 rw [P.mac_with_eq]
 kernel_rfl
theorem loops : loopsOf (Tryd.f56.body.getD .skip) = [] := by kernel_rfl
noncomputable def spec0 : Abs.Spec := fun args K => match args with
 | [.v (.int .i64 a0), .sl (.ints .u8 a1)] => P.mac_with a0 a1 (fun r0_c0_c0 r0_c1 r0_c2 => K (.fn (.func 99) [] [.sta [.fn (.func 102) [] [.sta [.v (.int .i64 r0_c0_c0)]]], .sta [.sl (.ints .u8 r0_c1)], .sta [.sl (.ints .u8 r0_c2)]]))
 | _ => none
noncomputable def spec : Abs.Spec := fun args K => spec0 (coerL [.any, .sl (.ints .u8 [])] args) K
theorem ok0 : Proved Tryd.prog GLO.gC 56 spec0 := by
 refine proved_of (D := D) (fn := Tryd.f56) (c := Tryd.f56.body.getD .skip) [.agg [.any, .agg [.sl (.ints .u8 [])], .agg [.sl (.ints .u8 [])]]] (by kernel_rfl) (globsPlain_of (by kernel_rfl)) (by kernel_rfl) (by kernel_rfl) (by kernel_rfl) ⟨mac_digests.ok, mac_stirred.ok, mac_with_f1.ok, mac_digests_f1.ok, trivial⟩ trivial ?_ ?_
 · rw [loops]; exact trivial
 · intro args K r h
   unfold spec0 at h
   split at h
   · rw [body]; exact h
   · cases h
theorem ok : Proved Tryd.prog GLO.gC 56 spec := proved_coer _ ok0
end mac_with
end

section
open Go Go.Abs Go.Proofs
set_option maxRecDepth 100000
set_option linter.unusedVariables false
namespace mac_Expand
abbrev X8 := (List Int) × Int × Int × (List Int) × (List Int) × (List Int) × Int × (List Int)
def S8 : X8 → ASt := fun (v2, v3, v10_c0_0_c0_0, v10_c1_0, v10_c2_0, v12, v13, h0) => ⟨[(11, .own 0), (2, .sl (.ints .u8 v2)), (3, .v (.int .i64 v3)), (10, .fn (.func 99) [] [.sta [.fn (.func 102) [] [.sta [.v (.int .i64 v10_c0_0_c0_0)]]], .sta [.sl (.ints .u8 v10_c1_0)], .sta [.sl (.ints .u8 v10_c2_0)]]), (12, .sl (.ints .u8 v12)), (13, .v (.int .u8 v13))], [(0, some ⟨.row 5 (.ints .u8 h0), false⟩)], 1, 51⟩
def V8 : ASt → Option X8
 | ⟨[(11, .own 0), (2, .sl (.ints .u8 v2)), (3, .v (.int .i64 v3)), (10, .fn (.func 99) [] [.sta [.fn (.func 102) [] [.sta [.v (.int .i64 v10_c0_0_c0_0)]]], .sta [.sl (.ints .u8 v10_c1_0)], .sta [.sl (.ints .u8 v10_c2_0)]]), (12, .sl (.ints .u8 v12)), (13, .v (.int .u8 v13))], [(0, some ⟨.row 5 (.ints .u8 h0), false⟩)], 1, 51⟩ => some (v2, v3, v10_c0_0_c0_0, v10_c1_0, v10_c2_0, v12, v13, h0)
 | _ => none
theorem V8_ok (st) (x) (h : V8 st = some x) : st = S8 x := by
 unfold V8 at h
 split at h
 · cases h; rfl
 · cases h
abbrev Y8 := X8
noncomputable def T8 : X8 → (X8 → Option R) → (Y8 → Option R) → Option R := fun (v2, v3, v10_c0_0_c0_0, v10_c1_0, v10_c2_0, v12, v13, h0) next ex => P.mac_Expand_r8 v2 v3 v10_c0_0_c0_0 v10_c1_0 v10_c2_0 v12 v13 h0 (fun v2 v3 v10_c0_0_c0_0 v10_c1_0 v10_c2_0 v12 v13 h0 => next (v2, v3, v10_c0_0_c0_0, v10_c1_0, v10_c2_0, v12, v13, h0)) (fun v2 v3 v10_c0_0_c0_0 v10_c1_0 v10_c2_0 v12 v13 h0 => ex (v2, v3, v10_c0_0_c0_0, v10_c1_0, v10_c2_0, v12, v13, h0))
def E8 (K : AExit → ASt → Option R) : Y8 → Option R := (fun x => K (.exit 1) (S8 x))
noncomputable def L8 : LSpec := fun st K => vMap (V8 st) fun (v2, v3, v10_c0_0_c0_0, v10_c1_0, v10_c2_0, v12, v13, h0) => P.mac_Expand_l8 v2 v3 v10_c0_0_c0_0 v10_c1_0 v10_c2_0 v12 v13 h0 (fun v2 v3 v10_c0_0_c0_0 v10_c1_0 v10_c2_0 v12 v13 h0 => K (.exit 1) (S8 (v2, v3, v10_c0_0_c0_0, v10_c1_0, v10_c2_0, v12, v13, h0)))
noncomputable def D : Ctx := ({ P := Tryd.prog, G := [(16, mac_Size.spec), (55, mac_keyed.spec), (56, mac_with.spec), (99, mac_with_f1.spec)], globs := GLO.gC, hints := [(8, ⟨[2, 3, 10, 12, 13], [(11, 5, .ints .u8 [])], [8, 9], [(12, .sl (.ints .u8 []))], none, []⟩)], loops := [(8, L8)], inl := [] } : Ctx)
theorem round8 (K) (next) (x) : roundA D (loopAt Tryd.f19 8) K next (S8 x) = T8 x (fun x => next (S8 x)) (E8 K) := by kernel_rfl
theorem lq8 (st) (K) : L8 st K = vMap (V8 st) (fun x => lp T8 x (E8 K)) := by
 unfold L8
 cases V8 st with
 | none => rfl
 | some x => rw [P.mac_Expand_l8_eq]; kernel_rfl
theorem loop8 : LoopOk D (loopAt Tryd.f19 8) := loopOk_lp S8 V8_ok (by kernel_rfl) lq8 round8
theorem body (a0 : Int) (a1 : List Int) (a2 : List Int) (a3 : Int) (K : AVal → Option R) : bodyA D Tryd.f19 [.sl (.ints .u8 []), .any] [.v (.int .i64 a0), .sl (.ints .u8 a1), .sl (.ints .u8 a2), .v (.int .i64 a3)] K = P.mac_Expand a0 a1 a2 a3 (fun r0 r1 => K (.tuple [.sl (.ints .u8 r0), .v (.int .i64 r1)])) := by
 rw [P.mac_Expand_eq]
 kernel_rfl
theorem loops : loopsOf (Tryd.f19.body.getD .skip) = [loopAt Tryd.f19 8] := by kernel_rfl
noncomputable def spec0 : Abs.Spec := fun args K => match args with
 | [.v (.int .i64 a0), .sl (.ints .u8 a1), .sl (.ints .u8 a2), .v (.int .i64 a3)] => P.mac_Expand a0 a1 a2 a3 (fun r0 r1 => K (.tuple [.sl (.ints .u8 r0), .v (.int .i64 r1)]))
 | _ => none
noncomputable def spec : Abs.Spec := fun args K => spec0 (coerL [.any, .sl (.ints .u8 []), .sl (.ints .u8 []), .any] args) K
theorem ok0 : Proved Tryd.prog GLO.gC 19 spec0 := by
 refine proved_of (D := D) (fn := Tryd.f19) (c := Tryd.f19.body.getD .skip) [.sl (.ints .u8 []), .any] (by kernel_rfl) (globsPlain_of (by kernel_rfl)) (by kernel_rfl) (by kernel_rfl) (by kernel_rfl) ⟨mac_Size.ok, mac_keyed.ok, mac_with.ok, mac_with_f1.ok, trivial⟩ trivial ?_ ?_
 · rw [loops]; exact ⟨loop8, trivial⟩
 · intro args K r h
   unfold spec0 at h
   split at h
   · rw [body]; exact h
   · cases h
theorem ok : Proved Tryd.prog GLO.gC 19 spec := proved_coer _ ok0
end mac_Expand
end

section
open Go Go.Abs Go.Proofs
set_option maxRecDepth 100000
set_option linter.unusedVariables false
namespace mac_Hmac
noncomputable def D : Ctx := ({ P := Tryd.prog, G := [(55, mac_keyed.spec), (56, mac_with.spec), (99, mac_with_f1.spec)], globs := GLO.gC, hints := [], loops := [], inl := [] } : Ctx)
theorem body (a0 : Int) (a1 : List Int) (a2 : List Int) (K : AVal → Option R) : bodyA D Tryd.f13 [.fr 5 (.ints .u8 []), .any] [.v (.int .i64 a0), .sl (.ints .u8 a1), .sl (.ints .u8 a2)] K = P.mac_Hmac a0 a1 a2 (fun r0 r1 => K (.tuple [.fr 5 (.ints .u8 r0), .v (.int .i64 r1)])) := by
 rw [P.mac_Hmac_eq]
 kernel_rfl
theorem loops : loopsOf (Tryd.f13.body.getD .skip) = [] := by kernel_rfl
noncomputable def spec0 : Abs.Spec := fun args K => match args with
 | [.v (.int .i64 a0), .sl (.ints .u8 a1), .sl (.ints .u8 a2)] => P.mac_Hmac a0 a1 a2 (fun r0 r1 => K (.tuple [.fr 5 (.ints .u8 r0), .v (.int .i64 r1)]))
 | _ => none
noncomputable def spec : Abs.Spec := fun args K => spec0 (coerL [.any, .sl (.ints .u8 []), .sl (.ints .u8 [])] args) K
theorem ok0 : Proved Tryd.prog GLO.gC 13 spec0 := by
 refine proved_of (D := D) (fn := Tryd.f13) (c := Tryd.f13.body.getD .skip) [.fr 5 (.ints .u8 []), .any] (by kernel_rfl) (globsPlain_of (by kernel_rfl)) (by kernel_rfl) (by kernel_rfl) (by kernel_rfl) ⟨mac_keyed.ok, mac_with.ok, mac_with_f1.ok, trivial⟩ trivial ?_ ?_
 · rw [loops]; exact trivial
 · intro args K r h
   unfold spec0 at h
   split at h
   · rw [body]; exact h
   · cases h
theorem ok : Proved Tryd.prog GLO.gC 13 spec := proved_coer _ ok0
end mac_Hmac
end

section
open Go Go.Abs Go.Proofs
set_option maxRecDepth 100000
set_option linter.unusedVariables false
namespace L09_awake
noncomputable def D : Ctx := ({ P := Tryd.prog, G := [(13, mac_Hmac.spec), (16, mac_Size.spec), (18, R01_Same.spec), (19, mac_Expand.spec)], globs := GLO.gC, hints := [], loops := [], inl := [] } : Ctx)
theorem body  (K : AVal → Option R) : bodyA D Tryd.f10 [.any] [] K = P.L09_awake (fun r0 => K (.v (.bool r0))) := by
 rw [P.L09_awake_eq]
 kernel_rfl
theorem loops : loopsOf (Tryd.f10.body.getD .skip) = [] := by kernel_rfl
noncomputable def spec0 : Abs.Spec := fun args K => match args with
 | [] => P.L09_awake (fun r0 => K (.v (.bool r0)))
 | _ => none
noncomputable def spec : Abs.Spec := spec0
theorem ok0 : Proved Tryd.prog GLO.gC 10 spec0 := by
 refine proved_of (D := D) (fn := Tryd.f10) (c := Tryd.f10.body.getD .skip) [.any] (by kernel_rfl) (globsPlain_of (by kernel_rfl)) (by kernel_rfl) (by kernel_rfl) (by kernel_rfl) ⟨mac_Hmac.ok, mac_Size.ok, R01_Same.ok, mac_Expand.ok, trivial⟩ trivial ?_ ?_
 · rw [loops]; exact trivial
 · intro args K r h
   unfold spec0 at h
   split at h
   · rw [body]; exact h
   · cases h
theorem ok : Proved Tryd.prog GLO.gC 10 spec := ok0
end L09_awake
end

section
open Go Go.Abs Go.Proofs
set_option maxRecDepth 100000
set_option linter.unusedVariables false
namespace R09_Size
noncomputable def D : Ctx := ({ P := Tryd.prog, G := [], globs := GLO.gC, hints := [], loops := [], inl := [] } : Ctx)
theorem body (a0 : Int) (K : AVal → Option R) : bodyA D Tryd.f17 [.any] [.v (.int .i64 a0)] K = P.R09_Size a0 (fun r0 => K (.v (.int .i64 r0))) := by
 rw [P.R09_Size_eq]
 kernel_rfl
theorem loops : loopsOf (Tryd.f17.body.getD .skip) = [] := by kernel_rfl
noncomputable def spec0 : Abs.Spec := fun args K => match args with
 | [.v (.int .i64 a0)] => P.R09_Size a0 (fun r0 => K (.v (.int .i64 r0)))
 | _ => none
noncomputable def spec : Abs.Spec := spec0
theorem ok0 : Proved Tryd.prog GLO.gC 17 spec0 := by
 refine proved_of (D := D) (fn := Tryd.f17) (c := Tryd.f17.body.getD .skip) [.any] (by kernel_rfl) (globsPlain_of (by kernel_rfl)) (by kernel_rfl) (by kernel_rfl) (by kernel_rfl) trivial trivial ?_ ?_
 · rw [loops]; exact trivial
 · intro args K r h
   unfold spec0 at h
   split at h
   · rw [body]; exact h
   · cases h
theorem ok : Proved Tryd.prog GLO.gC 17 spec := ok0
end R09_Size
end
