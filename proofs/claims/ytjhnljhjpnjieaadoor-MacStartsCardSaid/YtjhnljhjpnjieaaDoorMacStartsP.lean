/-
  MacStarts, part P: an interpreter of my own over abstract values, the pure functions, the walks and the plain law.
-/

import Derived.Test.YtjhnljhjpnjieaaDoorMacStartsH
import Derived.Test.YtjhnljhjpnjieaaDoorMacStartsF
import Derived.Test.YtjhnljhjpnjieaaDoorProg
import Derived.Test.YtjhnljhjpnjieaaDoorMacStartsG
import Derived.Test.YtjhnljhjpnjieaaDoorMacStartsN
import Derived.Test.YtjhnljhjpnjieaaDoorMacStartsO
import Derived.KernelRfl
import Derived.Test.YtjhnljhjpnjieaaDoorMacStartsI

section
open Go Go.Abs Go.Proofs
set_option maxRecDepth 100000
set_option linter.unusedVariables false
namespace mac_Mask
abbrev X8 := (List Int) × Int × Int × Int × (List Int)
def S8 : X8 → ASt := fun (v1, v2, v8_c0_0, v10, h0) => ⟨[(9, .own 0), (1, .sl (.ints .u8 v1)), (2, .v (.int .i64 v2)), (8, .fn (.func 102) [] [.sta [.v (.int .i64 v8_c0_0)]]), (10, .v (.int .u64 v10))], [(0, some ⟨.row 5 (.ints .u8 h0), false⟩)], 1, 45⟩
def V8 : ASt → Option X8
 | ⟨[(9, .own 0), (1, .sl (.ints .u8 v1)), (2, .v (.int .i64 v2)), (8, .fn (.func 102) [] [.sta [.v (.int .i64 v8_c0_0)]]), (10, .v (.int .u64 v10))], [(0, some ⟨.row 5 (.ints .u8 h0), false⟩)], 1, 45⟩ => some (v1, v2, v8_c0_0, v10, h0)
 | _ => none
theorem V8_ok (st) (x) (h : V8 st = some x) : st = S8 x := by
 unfold V8 at h
 split at h
 · cases h; rfl
 · cases h
abbrev Y8 := X8
noncomputable def T8 : X8 → (X8 → Option R) → (Y8 → Option R) → Option R := fun (v1, v2, v8_c0_0, v10, h0) next ex => P.mac_Mask_r8 v1 v2 v8_c0_0 v10 h0 (fun v1 v2 v8_c0_0 v10 h0 => next (v1, v2, v8_c0_0, v10, h0)) (fun v1 v2 v8_c0_0 v10 h0 => ex (v1, v2, v8_c0_0, v10, h0))
def E8 (K : AExit → ASt → Option R) : Y8 → Option R := (fun x => K (.exit 1) (S8 x))
noncomputable def L8 : LSpec := fun st K => vMap (V8 st) fun (v1, v2, v8_c0_0, v10, h0) => P.mac_Mask_l8 v1 v2 v8_c0_0 v10 h0 (fun v1 v2 v8_c0_0 v10 h0 => K (.exit 1) (S8 (v1, v2, v8_c0_0, v10, h0)))
noncomputable def D : Ctx := ({ P := Tryd.prog, G := [(59, mac_digests.spec), (60, bits_Be.spec), (102, mac_digests_f1.spec)], globs := GLO.gC, hints := [(8, ⟨[1, 2, 8, 10], [(9, 5, .ints .u8 [])], [6, 7], [], none, []⟩)], loops := [(8, L8)], inl := [] } : Ctx)
theorem round8 (K) (next) (x) : roundA D (loopAt Tryd.f21 8) K next (S8 x) = T8 x (fun x => next (S8 x)) (E8 K) := by kernel_rfl
theorem lq8 (st) (K) : L8 st K = vMap (V8 st) (fun x => lp T8 x (E8 K)) := by
 unfold L8
 cases V8 st with
 | none => rfl
 | some x => rw [P.mac_Mask_l8_eq]; kernel_rfl
theorem loop8 : LoopOk D (loopAt Tryd.f21 8) := loopOk_lp S8 V8_ok (by kernel_rfl) lq8 round8
theorem body (a0 : Int) (a1 : List Int) (a2 : Int) (K : AVal → Option R) : bodyA D Tryd.f21 [.sl (.ints .u8 []), .any] [.v (.int .i64 a0), .sl (.ints .u8 a1), .v (.int .i64 a2)] K = P.mac_Mask a0 a1 a2 (fun r0 r1 => K (.tuple [.sl (.ints .u8 r0), .v (.int .i64 r1)])) := by
 rw [P.mac_Mask_eq]
 kernel_rfl
theorem loops : loopsOf (Tryd.f21.body.getD .skip) = [loopAt Tryd.f21 8] := by kernel_rfl
noncomputable def spec0 : Abs.Spec := fun args K => match args with
 | [.v (.int .i64 a0), .sl (.ints .u8 a1), .v (.int .i64 a2)] => P.mac_Mask a0 a1 a2 (fun r0 r1 => K (.tuple [.sl (.ints .u8 r0), .v (.int .i64 r1)]))
 | _ => none
noncomputable def spec : Abs.Spec := fun args K => spec0 (coerL [.any, .sl (.ints .u8 []), .any] args) K
theorem ok0 : Proved Tryd.prog GLO.gC 21 spec0 := by
 refine proved_of (D := D) (fn := Tryd.f21) (c := Tryd.f21.body.getD .skip) [.sl (.ints .u8 []), .any] (by kernel_rfl) (globsPlain_of (by kernel_rfl)) (by kernel_rfl) (by kernel_rfl) (by kernel_rfl) ⟨mac_digests.ok, bits_Be.ok, mac_digests_f1.ok, trivial⟩ trivial ?_ ?_
 · rw [loops]; exact ⟨loop8, trivial⟩
 · intro args K r h
   unfold spec0 at h
   split at h
   · rw [body]; exact h
   · cases h
theorem ok : Proved Tryd.prog GLO.gC 21 spec := proved_coer _ ok0
end mac_Mask
end

section
open Go Go.Abs Go.Proofs
set_option maxRecDepth 100000
set_option linter.unusedVariables false
namespace L09_MacStarts
noncomputable def D : Ctx := ({ P := Tryd.prog, G := [(10, L09_awake.spec), (11, mac_Digest.spec), (13, mac_Hmac.spec), (17, R09_Size.spec), (18, R01_Same.spec), (19, mac_Expand.spec), (21, mac_Mask.spec)], globs := GLO.gC, hints := [], loops := [], inl := [] } : Ctx)
theorem body (a0 : Int) (a1 : List Int) (a2 : List Int) (a3 : Int) (a4 : Int) (K : AVal → Option R) : bodyA D Tryd.f5 [.any] [.v (.int .u8 a0), .sl (.ints .u8 a1), .sl (.ints .u8 a2), .v (.int .u8 a3), .v (.int .u8 a4)] K = P.L09_MacStarts a0 a1 a2 a3 a4 (fun r0 => K (.v (.bool r0))) := by
 rw [P.L09_MacStarts_eq]
 kernel_rfl
theorem loops : loopsOf (Tryd.f5.body.getD .skip) = [] := by kernel_rfl
noncomputable def spec0 : Abs.Spec := fun args K => match args with
 | [.v (.int .u8 a0), .sl (.ints .u8 a1), .sl (.ints .u8 a2), .v (.int .u8 a3), .v (.int .u8 a4)] => P.L09_MacStarts a0 a1 a2 a3 a4 (fun r0 => K (.v (.bool r0)))
 | _ => none
noncomputable def spec : Abs.Spec := fun args K => spec0 (coerL [.any, .sl (.ints .u8 []), .sl (.ints .u8 []), .any, .any] args) K
theorem ok0 : Proved Tryd.prog GLO.gC 5 spec0 := by
 refine proved_of (D := D) (fn := Tryd.f5) (c := Tryd.f5.body.getD .skip) [.any] (by kernel_rfl) (globsPlain_of (by kernel_rfl)) (by kernel_rfl) (by kernel_rfl) (by kernel_rfl) ⟨L09_awake.ok, mac_Digest.ok, mac_Hmac.ok, R09_Size.ok, R01_Same.ok, mac_Expand.ok, mac_Mask.ok, trivial⟩ trivial ?_ ?_
 · rw [loops]; exact trivial
 · intro args K r h
   unfold spec0 at h
   split at h
   · rw [body]; exact h
   · cases h
theorem ok : Proved Tryd.prog GLO.gC 5 spec := proved_coer _ ok0
end L09_MacStarts
end
