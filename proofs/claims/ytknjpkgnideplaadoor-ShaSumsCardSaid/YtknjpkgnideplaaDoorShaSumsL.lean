/-
  ShaSums, part L: an interpreter of my own over abstract values, the pure functions, the walks and the plain law.
-/

import Derived.Test.YtknjpkgnideplaaDoorShaSumsH
import Derived.Test.YtknjpkgnideplaaDoorShaSumsF
import Derived.Test.YtknjpkgnideplaaDoorProg
import Derived.Test.YtknjpkgnideplaaDoorShaSumsG
import Derived.Test.YtknjpkgnideplaaDoorShaSumsK
import Derived.KernelRfl

section
open Go Go.Abs Go.Proofs
set_option maxRecDepth 100000
set_option linter.unusedVariables false
namespace sha_Fit
def S2_2 (v7 : Int) (v8 : Int) (h0_0 : Int) (h0_1 : List Int) (h0_2 : List Int) (h0_3 : Int) (h1_0 : List Int) : ASt := ⟨[(0, .awin 0 1 8 0 8), (1, .fn (.func 70) [] []), (7, .v (.int .i64 v7)), (8, .v (.int .i64 v8))], [(0, some ⟨.box 26 [.v (.int .i64 h0_0), .arr .u64 8 h0_1, .sl (.ints .u8 h0_2), .v (.int .u64 h0_3)], false⟩), (1, some ⟨.box 23 [.arr .u64 8 h1_0], false⟩)], 2, 19⟩
def V2_2 : ASt → Option (Int × Int × Int × (List Int) × (List Int) × Int × (List Int))
  | ⟨[(0, .awin 0 1 8 0 8), (1, .fn (.func 70) [] []), (7, .v (.int .i64 v7)), (8, .v (.int .i64 v8))], [(0, some ⟨.box 26 [.v (.int .i64 h0_0), .arr .u64 8 h0_1, .sl (.ints .u8 h0_2), .v (.int .u64 h0_3)], false⟩), (1, some ⟨.box 23 [.arr .u64 8 h1_0], false⟩)], 2, 19⟩ => some (v7, v8, h0_0, h0_1, h0_2, h0_3, h1_0)
  | _ => none
theorem V2_2_ok (st : ASt) (x : Int × Int × Int × (List Int) × (List Int) × Int × (List Int)) (h : V2_2 st = some x) : st = S2_2 x.1 x.2.1 x.2.2.1 x.2.2.2.1 x.2.2.2.2.1 x.2.2.2.2.2.1 x.2.2.2.2.2.2 := by
  unfold V2_2 at h
  split at h
  · cases h; rfl
  · cases h
noncomputable def L2_2 : LSpec := fun st K => match V2_2 st with
  | some x => P.sha_Fit_l2_2 x.1 x.2.1 x.2.2.1 x.2.2.2.1 x.2.2.2.2.1 x.2.2.2.2.2.1 x.2.2.2.2.2.2 (fun v7 v8 h0_0 h0_1 h0_2 h0_3 h1_0 => K (.exit 0) (S2_2 v7 v8 h0_0 h0_1 h0_2 h0_3 h1_0)) (fun v4 h0_0 h0_1 h0_2 h0_3 h1_0 => K .ret ⟨[(4, .v (.int .i64 v4))], [(0, some ⟨.box 26 [.v (.int .i64 h0_0), .arr .u64 8 h0_1, .sl (.ints .u8 h0_2), .v (.int .u64 h0_3)], false⟩), (1, some ⟨.box 23 [.arr .u64 8 h1_0], false⟩)], 2, 19⟩)
  | none => none
noncomputable def D2 : Ctx := ({ P := Tryd.prog, G := [(67, sha_blockSize.spec), (69, sha_begin.spec), (70, sha_Fit_f1.spec)], globs := [(0, [.arr .u32 64 P.roots256]), (1, [.arr .u64 80 P.roots512])], hints := [(2, ⟨[0, 1, 7, 8], [], [4], [], none, []⟩)], loops := [(2, L2_2)], inl := [] } : Ctx)
noncomputable def D1 : Ctx := ({ P := Tryd.prog, G := [(67, sha_blockSize.spec), (69, sha_begin.spec), (70, sha_Fit_f1.spec)], globs := [(0, [.arr .u32 64 P.roots256]), (1, [.arr .u64 80 P.roots512])], hints := [], loops := [], inl := [(120, bodyIn D2 Tryd.f120)] } : Ctx)
noncomputable def D : Ctx := ({ P := Tryd.prog, G := [(67, sha_blockSize.spec), (69, sha_begin.spec), (70, sha_Fit_f1.spec)], globs := [(0, [.arr .u32 64 P.roots256]), (1, [.arr .u64 80 P.roots512])], hints := [], loops := [], inl := [(71, bodyIn D1 Tryd.f71)] } : Ctx)
def E2_2 (K : AExit → ASt → Option R) : ((Int × Int × Int × (List Int) × (List Int) × Int × (List Int)) ⊕ ((Int × Int × (List Int) × (List Int) × Int × (List Int)))) → Option R := (Sum.elim (fun x => K (.exit 0) (S2_2 x.1 x.2.1 x.2.2.1 x.2.2.2.1 x.2.2.2.2.1 x.2.2.2.2.2.1 x.2.2.2.2.2.2)) (fun x => K .ret ⟨[(4, .v (.int .i64 x.1))], [(0, some ⟨.box 26 [.v (.int .i64 x.2.1), .arr .u64 8 x.2.2.1, .sl (.ints .u8 x.2.2.2.1), .v (.int .u64 x.2.2.2.2.1)], false⟩), (1, some ⟨.box 23 [.arr .u64 8 x.2.2.2.2.2], false⟩)], 2, 19⟩))
theorem round2_2 (K : AExit → ASt → Option R) (next : ASt → Option R) (x : Int × Int × Int × (List Int) × (List Int) × Int × (List Int)) : roundA D2 (loopAt Tryd.f120 2) K next (S2_2 x.1 x.2.1 x.2.2.1 x.2.2.2.1 x.2.2.2.2.1 x.2.2.2.2.2.1 x.2.2.2.2.2.2) = (fun (x : Int × Int × Int × (List Int) × (List Int) × Int × (List Int)) (next : (Int × Int × Int × (List Int) × (List Int) × Int × (List Int)) → Option R) (ex : ((Int × Int × Int × (List Int) × (List Int) × Int × (List Int)) ⊕ ((Int × Int × (List Int) × (List Int) × Int × (List Int)))) → Option R) => P.sha_Fit_r2_2 x.1 x.2.1 x.2.2.1 x.2.2.2.1 x.2.2.2.2.1 x.2.2.2.2.2.1 x.2.2.2.2.2.2 (fun v7 v8 h0_0 h0_1 h0_2 h0_3 h1_0 => next (v7, v8, h0_0, h0_1, h0_2, h0_3, h1_0)) (fun v7 v8 h0_0 h0_1 h0_2 h0_3 h1_0 => ex (.inl (v7, v8, h0_0, h0_1, h0_2, h0_3, h1_0))) (fun v4 h0_0 h0_1 h0_2 h0_3 h1_0 => ex (.inr (v4, h0_0, h0_1, h0_2, h0_3, h1_0)))) x (fun x => next (S2_2 x.1 x.2.1 x.2.2.1 x.2.2.2.1 x.2.2.2.2.1 x.2.2.2.2.2.1 x.2.2.2.2.2.2)) (E2_2 K) := by kernel_rfl
theorem lq2_2 (st : ASt) (K : AExit → ASt → Option R) : L2_2 st K = vMap (V2_2 st) (fun x => lp (fun (x : Int × Int × Int × (List Int) × (List Int) × Int × (List Int)) (next : (Int × Int × Int × (List Int) × (List Int) × Int × (List Int)) → Option R) (ex : ((Int × Int × Int × (List Int) × (List Int) × Int × (List Int)) ⊕ ((Int × Int × (List Int) × (List Int) × Int × (List Int)))) → Option R) => P.sha_Fit_r2_2 x.1 x.2.1 x.2.2.1 x.2.2.2.1 x.2.2.2.2.1 x.2.2.2.2.2.1 x.2.2.2.2.2.2 (fun v7 v8 h0_0 h0_1 h0_2 h0_3 h1_0 => next (v7, v8, h0_0, h0_1, h0_2, h0_3, h1_0)) (fun v7 v8 h0_0 h0_1 h0_2 h0_3 h1_0 => ex (.inl (v7, v8, h0_0, h0_1, h0_2, h0_3, h1_0))) (fun v4 h0_0 h0_1 h0_2 h0_3 h1_0 => ex (.inr (v4, h0_0, h0_1, h0_2, h0_3, h1_0)))) x (E2_2 K)) := by
  unfold L2_2
  cases V2_2 st with
  | none => rfl
  | some x => simp only [P.sha_Fit_l2_2_eq]; rfl
theorem loop2_2 : LoopOk D2 (loopAt Tryd.f120 2) := loopOk_lp (X := Int × Int × Int × (List Int) × (List Int) × Int × (List Int)) (Y := (Int × Int × Int × (List Int) × (List Int) × Int × (List Int)) ⊕ ((Int × Int × (List Int) × (List Int) × Int × (List Int)))) (fun x => S2_2 x.1 x.2.1 x.2.2.1 x.2.2.2.1 x.2.2.2.2.1 x.2.2.2.2.2.1 x.2.2.2.2.2.2) V2_2_ok (stp := (fun (x : Int × Int × Int × (List Int) × (List Int) × Int × (List Int)) (next : (Int × Int × Int × (List Int) × (List Int) × Int × (List Int)) → Option R) (ex : ((Int × Int × Int × (List Int) × (List Int) × Int × (List Int)) ⊕ ((Int × Int × (List Int) × (List Int) × Int × (List Int)))) → Option R) => P.sha_Fit_r2_2 x.1 x.2.1 x.2.2.1 x.2.2.2.1 x.2.2.2.2.1 x.2.2.2.2.2.1 x.2.2.2.2.2.2 (fun v7 v8 h0_0 h0_1 h0_2 h0_3 h1_0 => next (v7, v8, h0_0, h0_1, h0_2, h0_3, h1_0)) (fun v7 v8 h0_0 h0_1 h0_2 h0_3 h1_0 => ex (.inl (v7, v8, h0_0, h0_1, h0_2, h0_3, h1_0))) (fun v4 h0_0 h0_1 h0_2 h0_3 h1_0 => ex (.inr (v4, h0_0, h0_1, h0_2, h0_3, h1_0))))) (enc := E2_2) (L := L2_2) (by kernel_rfl) lq2_2 round2_2
theorem body (a0_Kind : Int) (a0_Words : List Int) (a0_Tail : List Int) (a0_Size : Int) (K : AVal → Option R) : bodyA D Tryd.f27 [.any] [.agg [.v (.int .i64 a0_Kind), .arr .u64 8 a0_Words, .sl (.ints .u8 a0_Tail), .v (.int .u64 a0_Size)]] K = P.sha_Fit a0_Kind a0_Words a0_Tail a0_Size (fun r0 => K (.v (.bool r0))) := by
  rw [P.sha_Fit_eq]
  kernel_rfl
theorem loops : loopsOf (Tryd.f27.body.getD .skip) = [] := by kernel_rfl
theorem loops1 : loopsOf (Tryd.f71.body.getD .skip) = [] := by kernel_rfl
theorem loops2 : loopsOf (Tryd.f120.body.getD .skip) = [loopAt Tryd.f120 2] := by kernel_rfl
noncomputable def spec0 : Abs.Spec := fun args K => match args with
  | [.agg [.v (.int .i64 a0_Kind), .arr .u64 8 a0_Words, .sl (.ints .u8 a0_Tail), .v (.int .u64 a0_Size)]] => P.sha_Fit a0_Kind a0_Words a0_Tail a0_Size (fun r0 => K (.v (.bool r0)))
  | _ => none
noncomputable def spec : Abs.Spec := fun args K => spec0 (coerL [.agg [.any, .any, .sl (.ints .u8 []), .any]] args) K
theorem ok0 : Proved Tryd.prog [(0, [.arr .u32 64 P.roots256]), (1, [.arr .u64 80 P.roots512])] 27 spec0 := by
  refine proved_of (D := D) (fn := Tryd.f27) (c := Tryd.f27.body.getD .skip) [.any] (by kernel_rfl) (globsPlain_of (by kernel_rfl)) (by kernel_rfl) (by kernel_rfl) (by kernel_rfl) ⟨sha_blockSize.ok, sha_begin.ok, sha_Fit_f1.ok, trivial⟩ ⟨run_of (D := D1) (D' := D) (fn := Tryd.f71) (c := Tryd.f71.body.getD .skip) rfl rfl (by kernel_rfl) (globsPlain_of (by kernel_rfl)) (by kernel_rfl) (by kernel_rfl) (by kernel_rfl) ⟨sha_blockSize.ok, sha_begin.ok, sha_Fit_f1.ok, trivial⟩ ⟨run_of (D := D2) (D' := D1) (fn := Tryd.f120) (c := Tryd.f120.body.getD .skip) rfl rfl (by kernel_rfl) (globsPlain_of (by kernel_rfl)) (by kernel_rfl) (by kernel_rfl) (by kernel_rfl) ⟨sha_blockSize.ok, sha_begin.ok, sha_Fit_f1.ok, trivial⟩ trivial (by rw [loops2]; exact ⟨loop2_2, trivial⟩) (fun _ _ _ _ _ h => h), trivial⟩ (by rw [loops1]; exact trivial) (fun _ _ _ _ _ h => h), trivial⟩ ?_ ?_
  · rw [loops]; exact trivial
  · intro args K r h
    unfold spec0 at h
    split at h
    · rw [body]; exact h
    · cases h
theorem ok : Proved Tryd.prog [(0, [.arr .u32 64 P.roots256]), (1, [.arr .u64 80 P.roots512])] 27 spec := proved_coer _ ok0
end sha_Fit
end

section
open Go Go.Abs Go.Proofs
set_option maxRecDepth 100000
set_option linter.unusedVariables false
namespace slices_Equal_byte
def S4 (v0 : List Int) (v1 : List Int) (v12 : Int) (v13 : Int) : ASt := ⟨[(0, .sl (.ints .u8 v0)), (1, .sl (.ints .u8 v1)), (12, .v (.int .i64 v12)), (13, .v (.int .i64 v13))], [], 0, 26⟩
def V4 : ASt → Option ((List Int) × (List Int) × Int × Int)
  | ⟨[(0, .sl (.ints .u8 v0)), (1, .sl (.ints .u8 v1)), (12, .v (.int .i64 v12)), (13, .v (.int .i64 v13))], [], 0, 26⟩ => some (v0, v1, v12, v13)
  | _ => none
theorem V4_ok (st : ASt) (x : (List Int) × (List Int) × Int × Int) (h : V4 st = some x) : st = S4 x.1 x.2.1 x.2.2.1 x.2.2.2 := by
  unfold V4 at h
  split at h
  · cases h; rfl
  · cases h
noncomputable def L4 : LSpec := fun st K => match V4 st with
  | some x => P.slices_Equal_byte_l4 x.1 x.2.1 x.2.2.1 x.2.2.2 (fun v0 v1 v12 v13 => K (.exit 0) (S4 v0 v1 v12 v13)) (fun v4 => K .ret ⟨[(4, .v (.bool v4))], [], 0, 26⟩)
  | none => none
noncomputable def D : Ctx := ({ P := Tryd.prog, G := [], globs := [(0, [.arr .u32 64 P.roots256]), (1, [.arr .u64 80 P.roots512])], hints := [(4, ⟨[0, 1, 12, 13], [], [4], [], none, []⟩)], loops := [(4, L4)], inl := [] } : Ctx)
def E4 (K : AExit → ASt → Option R) : (((List Int) × (List Int) × Int × Int) ⊕ ((Bool))) → Option R := (Sum.elim (fun x => K (.exit 0) (S4 x.1 x.2.1 x.2.2.1 x.2.2.2)) (fun x => K .ret ⟨[(4, .v (.bool x))], [], 0, 26⟩))
theorem round4 (K : AExit → ASt → Option R) (next : ASt → Option R) (x : (List Int) × (List Int) × Int × Int) : roundA D (loopAt Tryd.f72 4) K next (S4 x.1 x.2.1 x.2.2.1 x.2.2.2) = (fun (x : (List Int) × (List Int) × Int × Int) (next : ((List Int) × (List Int) × Int × Int) → Option R) (ex : (((List Int) × (List Int) × Int × Int) ⊕ ((Bool))) → Option R) => P.slices_Equal_byte_r4 x.1 x.2.1 x.2.2.1 x.2.2.2 (fun v0 v1 v12 v13 => next (v0, v1, v12, v13)) (fun v0 v1 v12 v13 => ex (.inl (v0, v1, v12, v13))) (fun v4 => ex (.inr v4))) x (fun x => next (S4 x.1 x.2.1 x.2.2.1 x.2.2.2)) (E4 K) := by kernel_rfl
theorem lq4 (st : ASt) (K : AExit → ASt → Option R) : L4 st K = vMap (V4 st) (fun x => lp (fun (x : (List Int) × (List Int) × Int × Int) (next : ((List Int) × (List Int) × Int × Int) → Option R) (ex : (((List Int) × (List Int) × Int × Int) ⊕ ((Bool))) → Option R) => P.slices_Equal_byte_r4 x.1 x.2.1 x.2.2.1 x.2.2.2 (fun v0 v1 v12 v13 => next (v0, v1, v12, v13)) (fun v0 v1 v12 v13 => ex (.inl (v0, v1, v12, v13))) (fun v4 => ex (.inr v4))) x (E4 K)) := by
  unfold L4
  cases V4 st with
  | none => rfl
  | some x => simp only [P.slices_Equal_byte_l4_eq]; rfl
theorem loop4 : LoopOk D (loopAt Tryd.f72 4) := loopOk_lp (X := (List Int) × (List Int) × Int × Int) (Y := ((List Int) × (List Int) × Int × Int) ⊕ ((Bool))) (fun x => S4 x.1 x.2.1 x.2.2.1 x.2.2.2) V4_ok (stp := (fun (x : (List Int) × (List Int) × Int × Int) (next : ((List Int) × (List Int) × Int × Int) → Option R) (ex : (((List Int) × (List Int) × Int × Int) ⊕ ((Bool))) → Option R) => P.slices_Equal_byte_r4 x.1 x.2.1 x.2.2.1 x.2.2.2 (fun v0 v1 v12 v13 => next (v0, v1, v12, v13)) (fun v0 v1 v12 v13 => ex (.inl (v0, v1, v12, v13))) (fun v4 => ex (.inr v4)))) (enc := E4) (L := L4) (by kernel_rfl) lq4 round4
theorem body (a0 : List Int) (a1 : List Int) (K : AVal → Option R) : bodyA D Tryd.f72 [.any] [.sl (.ints .u8 a0), .sl (.ints .u8 a1)] K = P.slices_Equal_byte a0 a1 (fun r0 => K (.v (.bool r0))) := by
  rw [P.slices_Equal_byte_eq]
  kernel_rfl
theorem loops : loopsOf (Tryd.f72.body.getD .skip) = [loopAt Tryd.f72 4] := by kernel_rfl
noncomputable def spec0 : Abs.Spec := fun args K => match args with
  | [.sl (.ints .u8 a0), .sl (.ints .u8 a1)] => P.slices_Equal_byte a0 a1 (fun r0 => K (.v (.bool r0)))
  | _ => none
noncomputable def spec : Abs.Spec := fun args K => spec0 (coerL [.sl (.ints .u8 []), .sl (.ints .u8 [])] args) K
theorem ok0 : Proved Tryd.prog [(0, [.arr .u32 64 P.roots256]), (1, [.arr .u64 80 P.roots512])] 72 spec0 := by
  refine proved_of (D := D) (fn := Tryd.f72) (c := Tryd.f72.body.getD .skip) [.any] (by kernel_rfl) (globsPlain_of (by kernel_rfl)) (by kernel_rfl) (by kernel_rfl) (by kernel_rfl) trivial trivial ?_ ?_
  · rw [loops]; exact ⟨loop4, trivial⟩
  · intro args K r h
    unfold spec0 at h
    split at h
    · rw [body]; exact h
    · cases h
theorem ok : Proved Tryd.prog [(0, [.arr .u32 64 P.roots256]), (1, [.arr .u64 80 P.roots512])] 72 spec := proved_coer _ ok0
end slices_Equal_byte
end

section
open Go Go.Abs Go.Proofs
set_option maxRecDepth 100000
set_option linter.unusedVariables false
namespace sha_Same
noncomputable def D : Ctx := ({ P := Tryd.prog, G := [(72, slices_Equal_byte.spec)], globs := [(0, [.arr .u32 64 P.roots256]), (1, [.arr .u64 80 P.roots512])], hints := [], loops := [], inl := [] } : Ctx)
theorem body (a0_Kind : Int) (a0_Words : List Int) (a0_Tail : List Int) (a0_Size : Int) (a1_Kind : Int) (a1_Words : List Int) (a1_Tail : List Int) (a1_Size : Int) (K : AVal → Option R) : bodyA D Tryd.f28 [.any] [.agg [.v (.int .i64 a0_Kind), .arr .u64 8 a0_Words, .sl (.ints .u8 a0_Tail), .v (.int .u64 a0_Size)], .agg [.v (.int .i64 a1_Kind), .arr .u64 8 a1_Words, .sl (.ints .u8 a1_Tail), .v (.int .u64 a1_Size)]] K = P.sha_Same a0_Kind a0_Words a0_Tail a0_Size a1_Kind a1_Words a1_Tail a1_Size (fun r0 => K (.v (.bool r0))) := by
  rw [P.sha_Same_eq]
  kernel_rfl
theorem loops : loopsOf (Tryd.f28.body.getD .skip) = [] := by kernel_rfl
noncomputable def spec0 : Abs.Spec := fun args K => match args with
  | [.agg [.v (.int .i64 a0_Kind), .arr .u64 8 a0_Words, .sl (.ints .u8 a0_Tail), .v (.int .u64 a0_Size)], .agg [.v (.int .i64 a1_Kind), .arr .u64 8 a1_Words, .sl (.ints .u8 a1_Tail), .v (.int .u64 a1_Size)]] => P.sha_Same a0_Kind a0_Words a0_Tail a0_Size a1_Kind a1_Words a1_Tail a1_Size (fun r0 => K (.v (.bool r0)))
  | _ => none
noncomputable def spec : Abs.Spec := fun args K => spec0 (coerL [.agg [.any, .any, .sl (.ints .u8 []), .any], .agg [.any, .any, .sl (.ints .u8 []), .any]] args) K
theorem ok0 : Proved Tryd.prog [(0, [.arr .u32 64 P.roots256]), (1, [.arr .u64 80 P.roots512])] 28 spec0 := by
  refine proved_of (D := D) (fn := Tryd.f28) (c := Tryd.f28.body.getD .skip) [.any] (by kernel_rfl) (globsPlain_of (by kernel_rfl)) (by kernel_rfl) (by kernel_rfl) (by kernel_rfl) ⟨slices_Equal_byte.ok, trivial⟩ trivial ?_ ?_
  · rw [loops]; exact trivial
  · intro args K r h
    unfold spec0 at h
    split at h
    · rw [body]; exact h
    · cases h
theorem ok : Proved Tryd.prog [(0, [.arr .u32 64 P.roots256]), (1, [.arr .u64 80 P.roots512])] 28 spec := proved_coer _ ok0
end sha_Same
end

section
open Go Go.Abs Go.Proofs
set_option maxRecDepth 100000
set_option linter.unusedVariables false
namespace L07_ShaSums
noncomputable def D : Ctx := ({ P := Tryd.prog, G := [(13, R07_Fit.spec), (14, L07_awake.spec), (16, R07_Same.spec), (18, R01_Same.spec), (21, sha_New.spec), (23, sha_Sum.spec), (25, R07_Sum.spec), (26, R07_New.spec), (27, sha_Fit.spec), (28, sha_Same.spec)], globs := [(0, [.arr .u32 64 P.roots256]), (1, [.arr .u64 80 P.roots512])], hints := [], loops := [], inl := [] } : Ctx)
theorem body (a0 : Int) (a1 : List Int) (a2_Kind : Int) (a2_Words : List Int) (a2_Tail : List Int) (a2_Size : Int) (a3_Kind : Int) (a3_Words : List Int) (a3_Tail : List Int) (a3_Size : Int) (K : AVal → Option R) : bodyA D Tryd.f5 [.any] [.v (.int .i64 a0), .sl (.ints .u8 a1), .agg [.v (.int .i64 a2_Kind), .arr .u64 8 a2_Words, .sl (.ints .u8 a2_Tail), .v (.int .u64 a2_Size)], .agg [.v (.int .i64 a3_Kind), .arr .u64 8 a3_Words, .sl (.ints .u8 a3_Tail), .v (.int .u64 a3_Size)]] K = P.L07_ShaSums a0 a1 a2_Kind a2_Words a2_Tail a2_Size a3_Kind a3_Words a3_Tail a3_Size (fun r0 => K (.v (.bool r0))) := by
  rw [P.L07_ShaSums_eq]
  kernel_rfl
theorem loops : loopsOf (Tryd.f5.body.getD .skip) = [] := by kernel_rfl
noncomputable def spec0 : Abs.Spec := fun args K => match args with
  | [.v (.int .i64 a0), .sl (.ints .u8 a1), .agg [.v (.int .i64 a2_Kind), .arr .u64 8 a2_Words, .sl (.ints .u8 a2_Tail), .v (.int .u64 a2_Size)], .agg [.v (.int .i64 a3_Kind), .arr .u64 8 a3_Words, .sl (.ints .u8 a3_Tail), .v (.int .u64 a3_Size)]] => P.L07_ShaSums a0 a1 a2_Kind a2_Words a2_Tail a2_Size a3_Kind a3_Words a3_Tail a3_Size (fun r0 => K (.v (.bool r0)))
  | _ => none
noncomputable def spec : Abs.Spec := fun args K => spec0 (coerL [.any, .sl (.ints .u8 []), .agg [.any, .any, .sl (.ints .u8 []), .any], .agg [.any, .any, .sl (.ints .u8 []), .any]] args) K
theorem ok0 : Proved Tryd.prog [(0, [.arr .u32 64 P.roots256]), (1, [.arr .u64 80 P.roots512])] 5 spec0 := by
  refine proved_of (D := D) (fn := Tryd.f5) (c := Tryd.f5.body.getD .skip) [.any] (by kernel_rfl) (globsPlain_of (by kernel_rfl)) (by kernel_rfl) (by kernel_rfl) (by kernel_rfl) ⟨R07_Fit.ok, L07_awake.ok, R07_Same.ok, R01_Same.ok, sha_New.ok, sha_Sum.ok, R07_Sum.ok, R07_New.ok, sha_Fit.ok, sha_Same.ok, trivial⟩ trivial ?_ ?_
  · rw [loops]; exact trivial
  · intro args K r h
    unfold spec0 at h
    split at h
    · rw [body]; exact h
    · cases h
theorem ok : Proved Tryd.prog [(0, [.arr .u32 64 P.roots256]), (1, [.arr .u64 80 P.roots512])] 5 spec := proved_coer _ ok0
end L07_ShaSums
end
