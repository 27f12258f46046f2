/-
  WotsRight, part K: an interpreter of my own over abstract values, the pure functions, the walks and the plain law.
-/

import Derived.Test.YtjhnljhjpnjieaaDoorWotsRightG
import Derived.Test.YtjhnljhjpnjieaaDoorWotsRightF
import Derived.Test.YtjhnljhjpnjieaaDoorWotsRightJ
import Derived.Test.YtjhnljhjpnjieaaDoorProg
import Derived.KernelRfl
import Derived.Test.YtjhnljhjpnjieaaDoorWotsRightI
import Derived.Test.YtjhnljhjpnjieaaDoorWotsRightH

section
open Go Go.Abs Go.Proofs
set_option maxRecDepth 100000
set_option maxHeartbeats 0
set_option linter.unusedVariables false
namespace slices_Grow_byte
noncomputable def D : Ctx := ({ P := Tryd.prog, G := [], globs := [(1, [AVal.arr .u64 24 P.kcon]), (2, [AVal.arr .u32 64 P.roots256]), (3, [AVal.arr .u64 80 P.roots512]), (4, [AVal.arr .i64 24 P.kpla]), (5, [AVal.arr .i64 24 P.ktur])], hints := [], loops := [], inl := [] } : Ctx)
theorem body (a1 : Int) (K : AVal → Option R) : bodyW D Tryd.f129 5 (.ints .u8 []) [.v (.slice none 0 0), .v (.int .i64 a1)] K = P.slices_Grow_byte a1 (fun r0 => K (.fr 5 (.ints .u8 r0))) := by
 rw [P.slices_Grow_byte_eq]
 kernel_rfl
theorem loops : loopsOf (Tryd.f129.body.getD .skip) = [] := by kernel_rfl
noncomputable def spec0 : Abs.Spec := fun args K => match args with
 | [.v (.slice none 0 0), .v (.int .i64 a1)] => P.slices_Grow_byte a1 (fun r0 => K (.fr 5 (.ints .u8 r0)))
 | _ => none
noncomputable def spec : Abs.Spec := spec0
theorem ok0 : Proved Tryd.prog [(1, [AVal.arr .u64 24 P.kcon]), (2, [AVal.arr .u32 64 P.roots256]), (3, [AVal.arr .u64 80 P.roots512]), (4, [AVal.arr .i64 24 P.kpla]), (5, [AVal.arr .i64 24 P.ktur])] 129 spec0 := by
 refine provedW_of (D := D) (fn := Tryd.f129) (c := Tryd.f129.body.getD .skip) 5 (.ints .u8 []) (by kernel_rfl) (globsPlain_of (by kernel_rfl)) (by kernel_rfl) (by kernel_rfl) (by kernel_rfl) trivial trivial ?_ ?_
 · rw [loops]; exact trivial
 · intro args K r h
   unfold spec0 at h
   split at h
   · rw [body]; exact h
   · cases h
theorem ok : Proved Tryd.prog [(1, [AVal.arr .u64 24 P.kcon]), (2, [AVal.arr .u32 64 P.roots256]), (3, [AVal.arr .u64 80 P.roots512]), (4, [AVal.arr .i64 24 P.kpla]), (5, [AVal.arr .i64 24 P.ktur])] 129 spec := ok0
end slices_Grow_byte
end

section
open Go Go.Abs Go.Proofs
set_option maxRecDepth 100000
set_option maxHeartbeats 0
set_option linter.unusedVariables false
namespace slices_Concat_byte
abbrev X3 := (List (List Int)) × Int × (List (List Int)) × Int × Int
def S3 : X3 → ASt := fun (v0, v3, v9, v10, v11) => ⟨[(0, .sl (.rows .u8 v0)), (3, .v (.int .i64 v3)), (9, .sl (.rows .u8 v9)), (10, .v (.int .i64 v10)), (11, .v (.int .i64 v11))], [], 0, 36⟩
def V3 : ASt → Option X3
 | ⟨[(0, .sl (.rows .u8 v0)), (3, .v (.int .i64 v3)), (9, .sl (.rows .u8 v9)), (10, .v (.int .i64 v10)), (11, .v (.int .i64 v11))], [], 0, 36⟩ => some (v0, v3, v9, v10, v11)
 | _ => none
theorem V3_ok (st) (x) (h : V3 st = some x) : st = S3 x := by
 unfold V3 at h
 split at h
 · cases h; rfl
 · cases h
abbrev Y3 := X3
noncomputable def T3 : X3 → (X3 → Option R) → (Y3 → Option R) → Option R := fun (v0, v3, v9, v10, v11) next ex => P.slices_Concat_byte_r3 v0 v3 v9 v10 v11 (fun v0 v3 v9 v10 v11 => next (v0, v3, v9, v10, v11)) (fun v0 v3 v9 v10 v11 => ex (v0, v3, v9, v10, v11))
abbrev X11 := (List (List Int)) × Int × Int × (List Int)
def S11 : X11 → ASt := fun (v25, v26, v27, h1) => ⟨[(6, .own 1), (25, .sl (.rows .u8 v25)), (26, .v (.int .i64 v26)), (27, .v (.int .i64 v27))], [(1, some ⟨.row 5 (.ints .u8 h1), false⟩), (0, none)], 2, 36⟩
def V11 : ASt → Option X11
 | ⟨[(6, .own 1), (25, .sl (.rows .u8 v25)), (26, .v (.int .i64 v26)), (27, .v (.int .i64 v27))], [(1, some ⟨.row 5 (.ints .u8 h1), false⟩), (0, none)], 2, 36⟩ => some (v25, v26, v27, h1)
 | _ => none
theorem V11_ok (st) (x) (h : V11 st = some x) : st = S11 x := by
 unfold V11 at h
 split at h
 · cases h; rfl
 · cases h
abbrev Y11 := X11
noncomputable def T11 : X11 → (X11 → Option R) → (Y11 → Option R) → Option R := fun (v25, v26, v27, h1) next ex => P.slices_Concat_byte_r11 v25 v26 v27 h1 (fun v25 v26 v27 h1 => next (v25, v26, v27, h1)) (fun v25 v26 v27 h1 => ex (v25, v26, v27, h1))
def E3 (K : AExit → ASt → Option R) : Y3 → Option R := (fun x => K (.exit 0) (S3 x))
noncomputable def L3 : LSpec := fun st K => vMap (V3 st) fun (v0, v3, v9, v10, v11) => P.slices_Concat_byte_l3 v0 v3 v9 v10 v11 (fun v0 v3 v9 v10 v11 => K (.exit 0) (S3 (v0, v3, v9, v10, v11)))
def E11 (K : AExit → ASt → Option R) : Y11 → Option R := (fun x => K (.exit 2) (S11 x))
noncomputable def L11 : LSpec := fun st K => vMap (V11 st) fun (v25, v26, v27, h1) => P.slices_Concat_byte_l11 v25 v26 v27 h1 (fun v25 v26 v27 h1 => K (.exit 2) (S11 (v25, v26, v27, h1)))
noncomputable def D : Ctx := ({ P := Tryd.prog, G := [(129, slices_Grow_byte.spec)], globs := [(1, [AVal.arr .u64 24 P.kcon]), (2, [AVal.arr .u32 64 P.roots256]), (3, [AVal.arr .u64 80 P.roots512]), (4, [AVal.arr .i64 24 P.kpla]), (5, [AVal.arr .i64 24 P.ktur])], hints := [(11, ⟨[25, 26, 27], [(6, 5, .ints .u8 [])], [2], [], none, []⟩), (3, ⟨[0, 3, 9, 10, 11], [], [2], [], none, []⟩)], loops := [(3, L3), (11, L11)], inl := [] } : Ctx)
theorem round3 (K) (next) (x) : roundA D (loopAt Tryd.f105 3) K next (S3 x) = T3 x (fun x => next (S3 x)) (E3 K) := by kernel_rfl
theorem lq3 (st) (K) : L3 st K = vMap (V3 st) (fun x => lp T3 x (E3 K)) := by
 unfold L3
 cases V3 st with
 | none => rfl
 | some x => rw [P.slices_Concat_byte_l3_eq]; kernel_rfl
theorem loop3 : LoopOk D (loopAt Tryd.f105 3) := loopOk_lp S3 V3_ok (by kernel_rfl) lq3 round3
theorem round11 (K) (next) (x) : roundA D (loopAt Tryd.f105 11) K next (S11 x) = T11 x (fun x => next (S11 x)) (E11 K) := by kernel_rfl
theorem lq11 (st) (K) : L11 st K = vMap (V11 st) (fun x => lp T11 x (E11 K)) := by
 unfold L11
 cases V11 st with
 | none => rfl
 | some x => rw [P.slices_Concat_byte_l11_eq]; kernel_rfl
theorem loop11 : LoopOk D (loopAt Tryd.f105 11) := loopOk_lp S11 V11_ok (by kernel_rfl) lq11 round11
theorem body (a0 : List (List Int)) (K : AVal → Option R) : bodyA D Tryd.f105 [.fr 5 (.ints .u8 [])] [.sl (.rows .u8 a0)] K = P.slices_Concat_byte a0 (fun r0 => K (.fr 5 (.ints .u8 r0))) := by
 rw [P.slices_Concat_byte_eq]
 kernel_rfl
theorem loops : loopsOf (Tryd.f105.body.getD .skip) = [loopAt Tryd.f105 3, loopAt Tryd.f105 11] := by kernel_rfl
noncomputable def spec0 : Abs.Spec := fun args K => match args with
 | [.sl (.rows .u8 a0)] => P.slices_Concat_byte a0 (fun r0 => K (.fr 5 (.ints .u8 r0)))
 | _ => none
noncomputable def spec : Abs.Spec := fun args K => spec0 (coerL [.sl (.rows .u8 [])] args) K
theorem ok0 : Proved Tryd.prog [(1, [AVal.arr .u64 24 P.kcon]), (2, [AVal.arr .u32 64 P.roots256]), (3, [AVal.arr .u64 80 P.roots512]), (4, [AVal.arr .i64 24 P.kpla]), (5, [AVal.arr .i64 24 P.ktur])] 105 spec0 := by
 refine proved_of (D := D) (fn := Tryd.f105) (c := Tryd.f105.body.getD .skip) [.fr 5 (.ints .u8 [])] (by kernel_rfl) (globsPlain_of (by kernel_rfl)) (by kernel_rfl) (by kernel_rfl) (by kernel_rfl) ⟨slices_Grow_byte.ok, trivial⟩ trivial ?_ ?_
 · rw [loops]; exact ⟨loop3, loop11, trivial⟩
 · intro args K r h
   unfold spec0 at h
   split at h
   · rw [body]; exact h
   · cases h
theorem ok : Proved Tryd.prog [(1, [AVal.arr .u64 24 P.kcon]), (2, [AVal.arr .u32 64 P.roots256]), (3, [AVal.arr .u64 80 P.roots512]), (4, [AVal.arr .i64 24 P.kpla]), (5, [AVal.arr .i64 24 P.ktur])] 105 spec := proved_coer _ ok0
end slices_Concat_byte
end

section
open Go Go.Abs Go.Proofs
set_option maxRecDepth 100000
set_option maxHeartbeats 0
set_option linter.unusedVariables false
namespace bits_Join
noncomputable def D : Ctx := ({ P := Tryd.prog, G := [(105, slices_Concat_byte.spec)], globs := [(1, [AVal.arr .u64 24 P.kcon]), (2, [AVal.arr .u32 64 P.roots256]), (3, [AVal.arr .u64 80 P.roots512]), (4, [AVal.arr .i64 24 P.kpla]), (5, [AVal.arr .i64 24 P.ktur])], hints := [], loops := [], inl := [] } : Ctx)
theorem body (a0 : List (List Int)) (K : AVal → Option R) : bodyA D Tryd.f62 [.fr 5 (.ints .u8 [])] [.sl (.rows .u8 a0)] K = P.bits_Join a0 (fun r0 => K (.fr 5 (.ints .u8 r0))) := by
 rw [P.bits_Join_eq]
 kernel_rfl
theorem loops : loopsOf (Tryd.f62.body.getD .skip) = [] := by kernel_rfl
noncomputable def spec0 : Abs.Spec := fun args K => match args with
 | [.sl (.rows .u8 a0)] => P.bits_Join a0 (fun r0 => K (.fr 5 (.ints .u8 r0)))
 | _ => none
noncomputable def spec : Abs.Spec := fun args K => spec0 (coerL [.sl (.rows .u8 [])] args) K
theorem ok0 : Proved Tryd.prog [(1, [AVal.arr .u64 24 P.kcon]), (2, [AVal.arr .u32 64 P.roots256]), (3, [AVal.arr .u64 80 P.roots512]), (4, [AVal.arr .i64 24 P.kpla]), (5, [AVal.arr .i64 24 P.ktur])] 62 spec0 := by
 refine proved_of (D := D) (fn := Tryd.f62) (c := Tryd.f62.body.getD .skip) [.fr 5 (.ints .u8 [])] (by kernel_rfl) (globsPlain_of (by kernel_rfl)) (by kernel_rfl) (by kernel_rfl) (by kernel_rfl) ⟨slices_Concat_byte.ok, trivial⟩ trivial ?_ ?_
 · rw [loops]; exact trivial
 · intro args K r h
   unfold spec0 at h
   split at h
   · rw [body]; exact h
   · cases h
theorem ok : Proved Tryd.prog [(1, [AVal.arr .u64 24 P.kcon]), (2, [AVal.arr .u32 64 P.roots256]), (3, [AVal.arr .u64 80 P.roots512]), (4, [AVal.arr .i64 24 P.kpla]), (5, [AVal.arr .i64 24 P.ktur])] 62 spec := proved_coer _ ok0
end bits_Join
end

section
open Go Go.Abs Go.Proofs
set_option maxRecDepth 100000
set_option maxHeartbeats 0
set_option linter.unusedVariables false
namespace wots_Put
noncomputable def D : Ctx := ({ P := Tryd.prog, G := [(60, bits_Be.spec), (62, bits_Join.spec)], globs := [(1, [AVal.arr .u64 24 P.kcon]), (2, [AVal.arr .u32 64 P.roots256]), (3, [AVal.arr .u64 80 P.roots512]), (4, [AVal.arr .i64 24 P.kpla]), (5, [AVal.arr .i64 24 P.ktur])], hints := [], loops := [], inl := [] } : Ctx)
theorem body (a0 : List Int) (a1 : Int) (a2 : Int) (K : AVal → Option R) : bodyA D Tryd.f27 [.any] [.arr .u8 32 a0, .v (.int .i64 a1), .v (.int .u64 a2)] K = P.wots_Put a0 a1 a2 (fun r0 => K (.arr .u8 32 r0)) := by
 rw [P.wots_Put_eq]
 kernel_rfl
theorem loops : loopsOf (Tryd.f27.body.getD .skip) = [] := by kernel_rfl
noncomputable def spec0 : Abs.Spec := fun args K => match args with
 | [.arr .u8 32 a0, .v (.int .i64 a1), .v (.int .u64 a2)] => P.wots_Put a0 a1 a2 (fun r0 => K (.arr .u8 32 r0))
 | _ => none
noncomputable def spec : Abs.Spec := spec0
theorem ok0 : Proved Tryd.prog [(1, [AVal.arr .u64 24 P.kcon]), (2, [AVal.arr .u32 64 P.roots256]), (3, [AVal.arr .u64 80 P.roots512]), (4, [AVal.arr .i64 24 P.kpla]), (5, [AVal.arr .i64 24 P.ktur])] 27 spec0 := by
 refine proved_of (D := D) (fn := Tryd.f27) (c := Tryd.f27.body.getD .skip) [.any] (by kernel_rfl) (globsPlain_of (by kernel_rfl)) (by kernel_rfl) (by kernel_rfl) (by kernel_rfl) ⟨bits_Be.ok, bits_Join.ok, trivial⟩ trivial ?_ ?_
 · rw [loops]; exact trivial
 · intro args K r h
   unfold spec0 at h
   split at h
   · rw [body]; exact h
   · cases h
theorem ok : Proved Tryd.prog [(1, [AVal.arr .u64 24 P.kcon]), (2, [AVal.arr .u32 64 P.roots256]), (3, [AVal.arr .u64 80 P.roots512]), (4, [AVal.arr .i64 24 P.kpla]), (5, [AVal.arr .i64 24 P.ktur])] 27 spec := ok0
end wots_Put
end

section
open Go Go.Abs Go.Proofs
set_option maxRecDepth 100000
set_option maxHeartbeats 0
set_option linter.unusedVariables false
namespace L17_awake
noncomputable def D : Ctx := ({ P := Tryd.prog, G := [(27, wots_Put.spec), (30, wots_Digits.spec)], globs := [(1, [AVal.arr .u64 24 P.kcon]), (2, [AVal.arr .u32 64 P.roots256]), (3, [AVal.arr .u64 80 P.roots512]), (4, [AVal.arr .i64 24 P.kpla]), (5, [AVal.arr .i64 24 P.ktur])], hints := [], loops := [], inl := [] } : Ctx)
theorem body  (K : AVal → Option R) : bodyA D Tryd.f24 [.any] [] K = P.L17_awake (fun r0 => K (.v (.bool r0))) := by
 rw [P.L17_awake_eq]
 kernel_rfl
theorem loops : loopsOf (Tryd.f24.body.getD .skip) = [] := by kernel_rfl
noncomputable def spec0 : Abs.Spec := fun args K => match args with
 | [] => P.L17_awake (fun r0 => K (.v (.bool r0)))
 | _ => none
noncomputable def spec : Abs.Spec := spec0
theorem ok0 : Proved Tryd.prog [(1, [AVal.arr .u64 24 P.kcon]), (2, [AVal.arr .u32 64 P.roots256]), (3, [AVal.arr .u64 80 P.roots512]), (4, [AVal.arr .i64 24 P.kpla]), (5, [AVal.arr .i64 24 P.ktur])] 24 spec0 := by
 refine proved_of (D := D) (fn := Tryd.f24) (c := Tryd.f24.body.getD .skip) [.any] (by kernel_rfl) (globsPlain_of (by kernel_rfl)) (by kernel_rfl) (by kernel_rfl) (by kernel_rfl) ⟨wots_Put.ok, wots_Digits.ok, trivial⟩ trivial ?_ ?_
 · rw [loops]; exact trivial
 · intro args K r h
   unfold spec0 at h
   split at h
   · rw [body]; exact h
   · cases h
theorem ok : Proved Tryd.prog [(1, [AVal.arr .u64 24 P.kcon]), (2, [AVal.arr .u32 64 P.roots256]), (3, [AVal.arr .u64 80 P.roots512]), (4, [AVal.arr .i64 24 P.kpla]), (5, [AVal.arr .i64 24 P.ktur])] 24 spec := ok0
end L17_awake
end

section
open Go Go.Abs Go.Proofs
set_option maxRecDepth 100000
set_option maxHeartbeats 0
set_option linter.unusedVariables false
namespace R01_Same
abbrev X4 := (List Int) × (List Int) × Int
def S4 : X4 → ASt := fun (v0, v1, v5) => ⟨[(0, .sl (.ints .u8 v0)), (1, .sl (.ints .u8 v1)), (5, .v (.int .i64 v5))], [], 0, 26⟩
def V4 : ASt → Option X4
 | ⟨[(0, .sl (.ints .u8 v0)), (1, .sl (.ints .u8 v1)), (5, .v (.int .i64 v5))], [], 0, 26⟩ => some (v0, v1, v5)
 | _ => none
theorem V4_ok (st) (x) (h : V4 st = some x) : st = S4 x := by
 unfold V4 at h
 split at h
 · cases h; rfl
 · cases h
abbrev Y4 := X4 ⊕ (Bool)
noncomputable def T4 : X4 → (X4 → Option R) → (Y4 → Option R) → Option R := fun (v0, v1, v5) next ex => P.R01_Same_r4 v0 v1 v5 (fun v0 v1 v5 => next (v0, v1, v5)) (fun v0 v1 v5 => ex (.inl (v0, v1, v5))) (fun v4 => ex (.inr v4))
def E4 (K : AExit → ASt → Option R) : Y4 → Option R := (Sum.elim (fun x => K (.exit 0) (S4 x)) (fun v4 => K .ret ⟨[(4, .v (.bool v4))], [], 0, 26⟩))
noncomputable def L4 : LSpec := fun st K => vMap (V4 st) fun (v0, v1, v5) => P.R01_Same_l4 v0 v1 v5 (fun v0 v1 v5 => K (.exit 0) (S4 (v0, v1, v5))) (fun v4 => K .ret ⟨[(4, .v (.bool v4))], [], 0, 26⟩)
noncomputable def D : Ctx := ({ P := Tryd.prog, G := [], globs := [(1, [AVal.arr .u64 24 P.kcon]), (2, [AVal.arr .u32 64 P.roots256]), (3, [AVal.arr .u64 80 P.roots512]), (4, [AVal.arr .i64 24 P.kpla]), (5, [AVal.arr .i64 24 P.ktur])], hints := [(4, ⟨[0, 1, 5], [], [4], [], none, []⟩)], loops := [(4, L4)], inl := [] } : Ctx)
theorem round4 (K) (next) (x) : roundA D (loopAt Tryd.f18 4) K next (S4 x) = T4 x (fun x => next (S4 x)) (E4 K) := by kernel_rfl
theorem lq4 (st) (K) : L4 st K = vMap (V4 st) (fun x => lp T4 x (E4 K)) := by
 unfold L4
 cases V4 st with
 | none => rfl
 | some x => rw [P.R01_Same_l4_eq]; kernel_rfl
theorem loop4 : LoopOk D (loopAt Tryd.f18 4) := loopOk_lp S4 V4_ok (by kernel_rfl) lq4 round4
theorem body (a0 : List Int) (a1 : List Int) (K : AVal → Option R) : bodyA D Tryd.f18 [.any] [.sl (.ints .u8 a0), .sl (.ints .u8 a1)] K = P.R01_Same a0 a1 (fun r0 => K (.v (.bool r0))) := by
 rw [P.R01_Same_eq]
 kernel_rfl
theorem loops : loopsOf (Tryd.f18.body.getD .skip) = [loopAt Tryd.f18 4] := by kernel_rfl
noncomputable def spec0 : Abs.Spec := fun args K => match args with
 | [.sl (.ints .u8 a0), .sl (.ints .u8 a1)] => P.R01_Same a0 a1 (fun r0 => K (.v (.bool r0)))
 | _ => none
noncomputable def spec : Abs.Spec := fun args K => spec0 (coerL [.sl (.ints .u8 []), .sl (.ints .u8 [])] args) K
theorem ok0 : Proved Tryd.prog [(1, [AVal.arr .u64 24 P.kcon]), (2, [AVal.arr .u32 64 P.roots256]), (3, [AVal.arr .u64 80 P.roots512]), (4, [AVal.arr .i64 24 P.kpla]), (5, [AVal.arr .i64 24 P.ktur])] 18 spec0 := by
 refine proved_of (D := D) (fn := Tryd.f18) (c := Tryd.f18.body.getD .skip) [.any] (by kernel_rfl) (globsPlain_of (by kernel_rfl)) (by kernel_rfl) (by kernel_rfl) (by kernel_rfl) trivial trivial ?_ ?_
 · rw [loops]; exact ⟨loop4, trivial⟩
 · intro args K r h
   unfold spec0 at h
   split at h
   · rw [body]; exact h
   · cases h
theorem ok : Proved Tryd.prog [(1, [AVal.arr .u64 24 P.kcon]), (2, [AVal.arr .u32 64 P.roots256]), (3, [AVal.arr .u64 80 P.roots512]), (4, [AVal.arr .i64 24 P.kpla]), (5, [AVal.arr .i64 24 P.ktur])] 18 spec := proved_coer _ ok0
end R01_Same
end

section
open Go Go.Abs Go.Proofs
set_option maxRecDepth 100000
set_option maxHeartbeats 0
set_option linter.unusedVariables false
namespace wots_Fit
noncomputable def D : Ctx := ({ P := Tryd.prog, G := [], globs := [(1, [AVal.arr .u64 24 P.kcon]), (2, [AVal.arr .u32 64 P.roots256]), (3, [AVal.arr .u64 80 P.roots512]), (4, [AVal.arr .i64 24 P.kpla]), (5, [AVal.arr .i64 24 P.ktur])], hints := [], loops := [], inl := [] } : Ctx)
theorem body (a0_N : Int) (a0_H : Int) (a0_D : Int) (a0_A : Int) (a0_K : Int) (a0_Shake : Bool) (K : AVal → Option R) : bodyA D Tryd.f25 [.any] [.agg [.v (.int .i64 a0_N), .v (.int .i64 a0_H), .v (.int .i64 a0_D), .v (.int .i64 a0_A), .v (.int .i64 a0_K), .v (.bool a0_Shake)]] K = P.wots_Fit a0_N a0_H a0_D a0_A a0_K a0_Shake (fun r0 => K (.v (.bool r0))) := by
 rw [P.wots_Fit_eq]
 kernel_rfl
theorem loops : loopsOf (Tryd.f25.body.getD .skip) = [] := by kernel_rfl
noncomputable def spec0 : Abs.Spec := fun args K => match args with
 | [.agg [.v (.int .i64 a0_N), .v (.int .i64 a0_H), .v (.int .i64 a0_D), .v (.int .i64 a0_A), .v (.int .i64 a0_K), .v (.bool a0_Shake)]] => P.wots_Fit a0_N a0_H a0_D a0_A a0_K a0_Shake (fun r0 => K (.v (.bool r0)))
 | _ => none
noncomputable def spec : Abs.Spec := spec0
theorem ok0 : Proved Tryd.prog [(1, [AVal.arr .u64 24 P.kcon]), (2, [AVal.arr .u32 64 P.roots256]), (3, [AVal.arr .u64 80 P.roots512]), (4, [AVal.arr .i64 24 P.kpla]), (5, [AVal.arr .i64 24 P.ktur])] 25 spec0 := by
 refine proved_of (D := D) (fn := Tryd.f25) (c := Tryd.f25.body.getD .skip) [.any] (by kernel_rfl) (globsPlain_of (by kernel_rfl)) (by kernel_rfl) (by kernel_rfl) (by kernel_rfl) trivial trivial ?_ ?_
 · rw [loops]; exact trivial
 · intro args K r h
   unfold spec0 at h
   split at h
   · rw [body]; exact h
   · cases h
theorem ok : Proved Tryd.prog [(1, [AVal.arr .u64 24 P.kcon]), (2, [AVal.arr .u32 64 P.roots256]), (3, [AVal.arr .u64 80 P.roots512]), (4, [AVal.arr .i64 24 P.kpla]), (5, [AVal.arr .i64 24 P.ktur])] 25 spec := ok0
end wots_Fit
end

section
open Go Go.Abs Go.Proofs
set_option maxRecDepth 100000
set_option maxHeartbeats 0
set_option linter.unusedVariables false
namespace sha_root512
noncomputable def D : Ctx := ({ P := Tryd.prog, G := [], globs := [(1, [AVal.arr .u64 24 P.kcon]), (2, [AVal.arr .u32 64 P.roots256]), (3, [AVal.arr .u64 80 P.roots512]), (4, [AVal.arr .i64 24 P.kpla]), (5, [AVal.arr .i64 24 P.ktur])], hints := [], loops := [], inl := [] } : Ctx)
theorem body (a0 : Int) (K : AVal → Option R) : bodyA D Tryd.f139 [.any] [.v (.int .i64 a0)] K = P.sha_root512 a0 (fun r0 => K (.v (.int .u64 r0))) := by
 rw [P.sha_root512_eq]
 kernel_rfl
theorem loops : loopsOf (Tryd.f139.body.getD .skip) = [] := by kernel_rfl
noncomputable def spec0 : Abs.Spec := fun args K => match args with
 | [.v (.int .i64 a0)] => P.sha_root512 a0 (fun r0 => K (.v (.int .u64 r0)))
 | _ => none
noncomputable def spec : Abs.Spec := spec0
theorem ok0 : Proved Tryd.prog [(1, [AVal.arr .u64 24 P.kcon]), (2, [AVal.arr .u32 64 P.roots256]), (3, [AVal.arr .u64 80 P.roots512]), (4, [AVal.arr .i64 24 P.kpla]), (5, [AVal.arr .i64 24 P.ktur])] 139 spec0 := by
 refine proved_of (D := D) (fn := Tryd.f139) (c := Tryd.f139.body.getD .skip) [.any] (by kernel_rfl) (globsPlain_of (by kernel_rfl)) (by kernel_rfl) (by kernel_rfl) (by kernel_rfl) trivial trivial ?_ ?_
 · rw [loops]; exact trivial
 · intro args K r h
   unfold spec0 at h
   split at h
   · rw [body]; exact h
   · cases h
theorem ok : Proved Tryd.prog [(1, [AVal.arr .u64 24 P.kcon]), (2, [AVal.arr .u32 64 P.roots256]), (3, [AVal.arr .u64 80 P.roots512]), (4, [AVal.arr .i64 24 P.kpla]), (5, [AVal.arr .i64 24 P.ktur])] 139 spec := ok0
end sha_root512
end

section
open Go Go.Abs Go.Proofs
set_option maxRecDepth 100000
set_option maxHeartbeats 0
set_option linter.unusedVariables false
namespace sha_great
noncomputable def D : Ctx := ({ P := Tryd.prog, G := [(139, sha_root512.spec)], globs := [(1, [AVal.arr .u64 24 P.kcon]), (2, [AVal.arr .u32 64 P.roots256]), (3, [AVal.arr .u64 80 P.roots512]), (4, [AVal.arr .i64 24 P.kpla]), (5, [AVal.arr .i64 24 P.ktur])], hints := [], loops := [], inl := [] } : Ctx)
theorem body  (K : AVal → Option R) : bodyA D Tryd.f120 [.any] [] K = P.sha_great (fun r0_bits r0_rounds r0_turns_0 r0_turns_1 r0_turns_2 r0_turns_3 => K (.agg [.v (.int .i64 r0_bits), .v (.int .i64 r0_rounds), .arr .i64 3 r0_turns_0, .arr .i64 3 r0_turns_1, .arr .i64 3 r0_turns_2, .arr .i64 3 r0_turns_3, .fn (.func 139) [] []])) := by
 rw [P.sha_great_eq]
 kernel_rfl
theorem loops : loopsOf (Tryd.f120.body.getD .skip) = [] := by kernel_rfl
noncomputable def spec0 : Abs.Spec := fun args K => match args with
 | [] => P.sha_great (fun r0_bits r0_rounds r0_turns_0 r0_turns_1 r0_turns_2 r0_turns_3 => K (.agg [.v (.int .i64 r0_bits), .v (.int .i64 r0_rounds), .arr .i64 3 r0_turns_0, .arr .i64 3 r0_turns_1, .arr .i64 3 r0_turns_2, .arr .i64 3 r0_turns_3, .fn (.func 139) [] []]))
 | _ => none
noncomputable def spec : Abs.Spec := spec0
theorem ok0 : Proved Tryd.prog [(1, [AVal.arr .u64 24 P.kcon]), (2, [AVal.arr .u32 64 P.roots256]), (3, [AVal.arr .u64 80 P.roots512]), (4, [AVal.arr .i64 24 P.kpla]), (5, [AVal.arr .i64 24 P.ktur])] 120 spec0 := by
 refine proved_of (D := D) (fn := Tryd.f120) (c := Tryd.f120.body.getD .skip) [.any] (by kernel_rfl) (globsPlain_of (by kernel_rfl)) (by kernel_rfl) (by kernel_rfl) (by kernel_rfl) ⟨sha_root512.ok, trivial⟩ trivial ?_ ?_
 · rw [loops]; exact trivial
 · intro args K r h
   unfold spec0 at h
   split at h
   · rw [body]; exact h
   · cases h
theorem ok : Proved Tryd.prog [(1, [AVal.arr .u64 24 P.kcon]), (2, [AVal.arr .u32 64 P.roots256]), (3, [AVal.arr .u64 80 P.roots512]), (4, [AVal.arr .i64 24 P.kpla]), (5, [AVal.arr .i64 24 P.ktur])] 120 spec := ok0
end sha_great
end

section
open Go Go.Abs Go.Proofs
set_option maxRecDepth 100000
set_option maxHeartbeats 0
set_option linter.unusedVariables false
namespace sha_root256
noncomputable def D : Ctx := ({ P := Tryd.prog, G := [], globs := [(1, [AVal.arr .u64 24 P.kcon]), (2, [AVal.arr .u32 64 P.roots256]), (3, [AVal.arr .u64 80 P.roots512]), (4, [AVal.arr .i64 24 P.kpla]), (5, [AVal.arr .i64 24 P.ktur])], hints := [], loops := [], inl := [] } : Ctx)
theorem body (a0 : Int) (K : AVal → Option R) : bodyA D Tryd.f137 [.any] [.v (.int .i64 a0)] K = P.sha_root256 a0 (fun r0 => K (.v (.int .u32 r0))) := by
 rw [P.sha_root256_eq]
 kernel_rfl
theorem loops : loopsOf (Tryd.f137.body.getD .skip) = [] := by kernel_rfl
noncomputable def spec0 : Abs.Spec := fun args K => match args with
 | [.v (.int .i64 a0)] => P.sha_root256 a0 (fun r0 => K (.v (.int .u32 r0)))
 | _ => none
noncomputable def spec : Abs.Spec := spec0
theorem ok0 : Proved Tryd.prog [(1, [AVal.arr .u64 24 P.kcon]), (2, [AVal.arr .u32 64 P.roots256]), (3, [AVal.arr .u64 80 P.roots512]), (4, [AVal.arr .i64 24 P.kpla]), (5, [AVal.arr .i64 24 P.ktur])] 137 spec0 := by
 refine proved_of (D := D) (fn := Tryd.f137) (c := Tryd.f137.body.getD .skip) [.any] (by kernel_rfl) (globsPlain_of (by kernel_rfl)) (by kernel_rfl) (by kernel_rfl) (by kernel_rfl) trivial trivial ?_ ?_
 · rw [loops]; exact trivial
 · intro args K r h
   unfold spec0 at h
   split at h
   · rw [body]; exact h
   · cases h
theorem ok : Proved Tryd.prog [(1, [AVal.arr .u64 24 P.kcon]), (2, [AVal.arr .u32 64 P.roots256]), (3, [AVal.arr .u64 80 P.roots512]), (4, [AVal.arr .i64 24 P.kpla]), (5, [AVal.arr .i64 24 P.ktur])] 137 spec := ok0
end sha_root256
end

section
open Go Go.Abs Go.Proofs
set_option maxRecDepth 100000
set_option maxHeartbeats 0
set_option linter.unusedVariables false
namespace sha_small
noncomputable def D : Ctx := ({ P := Tryd.prog, G := [(137, sha_root256.spec)], globs := [(1, [AVal.arr .u64 24 P.kcon]), (2, [AVal.arr .u32 64 P.roots256]), (3, [AVal.arr .u64 80 P.roots512]), (4, [AVal.arr .i64 24 P.kpla]), (5, [AVal.arr .i64 24 P.ktur])], hints := [], loops := [], inl := [] } : Ctx)
theorem body  (K : AVal → Option R) : bodyA D Tryd.f118 [.any] [] K = P.sha_small (fun r0_bits r0_rounds r0_turns_0 r0_turns_1 r0_turns_2 r0_turns_3 => K (.agg [.v (.int .i64 r0_bits), .v (.int .i64 r0_rounds), .arr .i64 3 r0_turns_0, .arr .i64 3 r0_turns_1, .arr .i64 3 r0_turns_2, .arr .i64 3 r0_turns_3, .fn (.func 137) [] []])) := by
 rw [P.sha_small_eq]
 kernel_rfl
theorem loops : loopsOf (Tryd.f118.body.getD .skip) = [] := by kernel_rfl
noncomputable def spec0 : Abs.Spec := fun args K => match args with
 | [] => P.sha_small (fun r0_bits r0_rounds r0_turns_0 r0_turns_1 r0_turns_2 r0_turns_3 => K (.agg [.v (.int .i64 r0_bits), .v (.int .i64 r0_rounds), .arr .i64 3 r0_turns_0, .arr .i64 3 r0_turns_1, .arr .i64 3 r0_turns_2, .arr .i64 3 r0_turns_3, .fn (.func 137) [] []]))
 | _ => none
noncomputable def spec : Abs.Spec := spec0
theorem ok0 : Proved Tryd.prog [(1, [AVal.arr .u64 24 P.kcon]), (2, [AVal.arr .u32 64 P.roots256]), (3, [AVal.arr .u64 80 P.roots512]), (4, [AVal.arr .i64 24 P.kpla]), (5, [AVal.arr .i64 24 P.ktur])] 118 spec0 := by
 refine proved_of (D := D) (fn := Tryd.f118) (c := Tryd.f118.body.getD .skip) [.any] (by kernel_rfl) (globsPlain_of (by kernel_rfl)) (by kernel_rfl) (by kernel_rfl) (by kernel_rfl) ⟨sha_root256.ok, trivial⟩ trivial ?_ ?_
 · rw [loops]; exact trivial
 · intro args K r h
   unfold spec0 at h
   split at h
   · rw [body]; exact h
   · cases h
theorem ok : Proved Tryd.prog [(1, [AVal.arr .u64 24 P.kcon]), (2, [AVal.arr .u32 64 P.roots256]), (3, [AVal.arr .u64 80 P.roots512]), (4, [AVal.arr .i64 24 P.kpla]), (5, [AVal.arr .i64 24 P.ktur])] 118 spec := ok0
end sha_small
end

section
open Go Go.Abs Go.Proofs
set_option maxRecDepth 100000
set_option maxHeartbeats 0
set_option linter.unusedVariables false
namespace bits_Num
abbrev X3 := Int × (List Int) × Int × Int
def S3 : X3 → ASt := fun (v3, v6, v7, v8) => ⟨[(3, .v (.int .u64 v3)), (6, .sl (.ints .u8 v6)), (7, .v (.int .i64 v7)), (8, .v (.int .i64 v8))], [], 0, 19⟩
def V3 : ASt → Option X3
 | ⟨[(3, .v (.int .u64 v3)), (6, .sl (.ints .u8 v6)), (7, .v (.int .i64 v7)), (8, .v (.int .i64 v8))], [], 0, 19⟩ => some (v3, v6, v7, v8)
 | _ => none
theorem V3_ok (st) (x) (h : V3 st = some x) : st = S3 x := by
 unfold V3 at h
 split at h
 · cases h; rfl
 · cases h
abbrev Y3 := X3
noncomputable def T3 : X3 → (X3 → Option R) → (Y3 → Option R) → Option R := fun (v3, v6, v7, v8) next ex => P.bits_Num_r3 v3 v6 v7 v8 (fun v3 v6 v7 v8 => next (v3, v6, v7, v8)) (fun v3 v6 v7 v8 => ex (v3, v6, v7, v8))
def E3 (K : AExit → ASt → Option R) : Y3 → Option R := (fun x => K (.exit 0) (S3 x))
noncomputable def L3 : LSpec := fun st K => vMap (V3 st) fun (v3, v6, v7, v8) => P.bits_Num_l3 v3 v6 v7 v8 (fun v3 v6 v7 v8 => K (.exit 0) (S3 (v3, v6, v7, v8)))
noncomputable def D : Ctx := ({ P := Tryd.prog, G := [], globs := [(1, [AVal.arr .u64 24 P.kcon]), (2, [AVal.arr .u32 64 P.roots256]), (3, [AVal.arr .u64 80 P.roots512]), (4, [AVal.arr .i64 24 P.kpla]), (5, [AVal.arr .i64 24 P.ktur])], hints := [(3, ⟨[3, 6, 7, 8], [], [2], [], none, []⟩)], loops := [(3, L3)], inl := [] } : Ctx)
theorem round3 (K) (next) (x) : roundA D (loopAt Tryd.f134 3) K next (S3 x) = T3 x (fun x => next (S3 x)) (E3 K) := by kernel_rfl
theorem lq3 (st) (K) : L3 st K = vMap (V3 st) (fun x => lp T3 x (E3 K)) := by
 unfold L3
 cases V3 st with
 | none => rfl
 | some x => rw [P.bits_Num_l3_eq]; kernel_rfl
theorem loop3 : LoopOk D (loopAt Tryd.f134 3) := loopOk_lp S3 V3_ok (by kernel_rfl) lq3 round3
theorem body (a0 : List Int) (K : AVal → Option R) : bodyA D Tryd.f134 [.any] [.sl (.ints .u8 a0)] K = P.bits_Num a0 (fun r0 => K (.v (.int .u64 r0))) := by
 rw [P.bits_Num_eq]
 kernel_rfl
theorem loops : loopsOf (Tryd.f134.body.getD .skip) = [loopAt Tryd.f134 3] := by kernel_rfl
noncomputable def spec0 : Abs.Spec := fun args K => match args with
 | [.sl (.ints .u8 a0)] => P.bits_Num a0 (fun r0 => K (.v (.int .u64 r0)))
 | _ => none
noncomputable def spec : Abs.Spec := fun args K => spec0 (coerL [.sl (.ints .u8 [])] args) K
theorem ok0 : Proved Tryd.prog [(1, [AVal.arr .u64 24 P.kcon]), (2, [AVal.arr .u32 64 P.roots256]), (3, [AVal.arr .u64 80 P.roots512]), (4, [AVal.arr .i64 24 P.kpla]), (5, [AVal.arr .i64 24 P.ktur])] 134 spec0 := by
 refine proved_of (D := D) (fn := Tryd.f134) (c := Tryd.f134.body.getD .skip) [.any] (by kernel_rfl) (globsPlain_of (by kernel_rfl)) (by kernel_rfl) (by kernel_rfl) (by kernel_rfl) trivial trivial ?_ ?_
 · rw [loops]; exact ⟨loop3, trivial⟩
 · intro args K r h
   unfold spec0 at h
   split at h
   · rw [body]; exact h
   · cases h
theorem ok : Proved Tryd.prog [(1, [AVal.arr .u64 24 P.kcon]), (2, [AVal.arr .u32 64 P.roots256]), (3, [AVal.arr .u64 80 P.roots512]), (4, [AVal.arr .i64 24 P.kpla]), (5, [AVal.arr .i64 24 P.ktur])] 134 spec := proved_coer _ ok0
end bits_Num
end
