/-
  LmotsSigns, part N: an interpreter of my own over abstract values, the pure functions, the walks and the plain law.
-/

import Derived.Test.YtknjpkgnideplaaDoorLmotsSignsH
import Derived.Test.YtknjpkgnideplaaDoorLmotsSignsF
import Derived.Test.YtknjpkgnideplaaDoorProg
import Derived.Test.YtknjpkgnideplaaDoorLmotsSignsG
import Derived.Test.YtknjpkgnideplaaDoorLmotsSignsM
import Derived.KernelRfl
import Derived.Test.YtknjpkgnideplaaDoorLmotsSignsL
import Derived.Test.YtknjpkgnideplaaDoorLmotsSignsI

section
open Go Go.Abs Go.Proofs
set_option maxRecDepth 100000
set_option linter.unusedVariables false
namespace lmots_leaf_part
noncomputable def D : Ctx := ({ P := Tryd.prog, G := [(86, lmots_leaf_sum.spec)], globs := [(0, [.arr .u32 64 P.roots256]), (1, [.arr .u64 80 P.roots512])], hints := [], loops := [], inl := [] } : Ctx)
theorem body (a0_w : Int) (a0_id : List Int) (a0_q : Int) (a0_kind_digits : Int) (a0_kind_shift : Int) (a0_kind_code : Int) (a1 : Int) (a2 : List Int) (K : AVal → Option R) : bodyA D Tryd.f85 [.fr 5 (.ints .u8 [])] [.agg [.v (.int .i64 a0_w), .sl (.ints .u8 a0_id), .v (.int .u32 a0_q), .v (.int .i64 a0_kind_digits), .v (.int .i64 a0_kind_shift), .v (.int .i64 a0_kind_code)], .v (.int .u64 a1), .sl (.ints .u8 a2)] K = P.lmots_leaf_part a0_w a0_id a0_q a0_kind_digits a0_kind_shift a0_kind_code a1 a2 (fun r0 => K (.fr 5 (.ints .u8 r0))) := by
  rw [P.lmots_leaf_part_eq]
  kernel_rfl
theorem loops : loopsOf (Tryd.f85.body.getD .skip) = [] := by kernel_rfl
noncomputable def spec0 : Abs.Spec := fun args K => match args with
  | [.agg [.v (.int .i64 a0_w), .sl (.ints .u8 a0_id), .v (.int .u32 a0_q), .v (.int .i64 a0_kind_digits), .v (.int .i64 a0_kind_shift), .v (.int .i64 a0_kind_code)], .v (.int .u64 a1), .sl (.ints .u8 a2)] => P.lmots_leaf_part a0_w a0_id a0_q a0_kind_digits a0_kind_shift a0_kind_code a1 a2 (fun r0 => K (.fr 5 (.ints .u8 r0)))
  | _ => none
noncomputable def spec : Abs.Spec := fun args K => spec0 (coerL [.agg [.any, .sl (.ints .u8 []), .any, .any, .any, .any], .any, .sl (.ints .u8 [])] args) K
theorem ok0 : Proved Tryd.prog [(0, [.arr .u32 64 P.roots256]), (1, [.arr .u64 80 P.roots512])] 85 spec0 := by
  refine proved_of (D := D) (fn := Tryd.f85) (c := Tryd.f85.body.getD .skip) [.fr 5 (.ints .u8 [])] (by kernel_rfl) (globsPlain_of (by kernel_rfl)) (by kernel_rfl) (by kernel_rfl) (by kernel_rfl) ⟨lmots_leaf_sum.ok, trivial⟩ trivial ?_ ?_
  · rw [loops]; exact trivial
  · intro args K r h
    unfold spec0 at h
    split at h
    · rw [body]; exact h
    · cases h
theorem ok : Proved Tryd.prog [(0, [.arr .u32 64 P.roots256]), (1, [.arr .u64 80 P.roots512])] 85 spec := proved_coer _ ok0
end lmots_leaf_part
end

section
open Go Go.Abs Go.Proofs
set_option maxRecDepth 100000
set_option linter.unusedVariables false
namespace lmots_seeded
noncomputable def D : Ctx := ({ P := Tryd.prog, G := [(95, lmots_began.spec)], globs := [(0, [.arr .u32 64 P.roots256]), (1, [.arr .u64 80 P.roots512])], hints := [], loops := [], inl := [] } : Ctx)
theorem body (a0 : Int) (a1 : List Int) (a2 : Int) (a3 : List Int) (K : AVal → Option R) : bodyA D Tryd.f82 [.agg [.any, .sl (.ints .u8 []), .any, .any, .any, .any], .any] [.v (.int .i64 a0), .sl (.ints .u8 a1), .v (.int .u32 a2), .sl (.ints .u8 a3)] K = P.lmots_seeded a0 a1 a2 a3 (fun r0_w r0_id r0_q r0_kind_digits r0_kind_shift r0_kind_code r1 => K (.tuple [.agg [.v (.int .i64 r0_w), .sl (.ints .u8 r0_id), .v (.int .u32 r0_q), .v (.int .i64 r0_kind_digits), .v (.int .i64 r0_kind_shift), .v (.int .i64 r0_kind_code)], .v (.int .i64 r1)])) := by
  rw [P.lmots_seeded_eq]
  kernel_rfl
theorem loops : loopsOf (Tryd.f82.body.getD .skip) = [] := by kernel_rfl
noncomputable def spec0 : Abs.Spec := fun args K => match args with
  | [.v (.int .i64 a0), .sl (.ints .u8 a1), .v (.int .u32 a2), .sl (.ints .u8 a3)] => P.lmots_seeded a0 a1 a2 a3 (fun r0_w r0_id r0_q r0_kind_digits r0_kind_shift r0_kind_code r1 => K (.tuple [.agg [.v (.int .i64 r0_w), .sl (.ints .u8 r0_id), .v (.int .u32 r0_q), .v (.int .i64 r0_kind_digits), .v (.int .i64 r0_kind_shift), .v (.int .i64 r0_kind_code)], .v (.int .i64 r1)]))
  | _ => none
noncomputable def spec : Abs.Spec := fun args K => spec0 (coerL [.any, .sl (.ints .u8 []), .any, .sl (.ints .u8 [])] args) K
theorem ok0 : Proved Tryd.prog [(0, [.arr .u32 64 P.roots256]), (1, [.arr .u64 80 P.roots512])] 82 spec0 := by
  refine proved_of (D := D) (fn := Tryd.f82) (c := Tryd.f82.body.getD .skip) [.agg [.any, .sl (.ints .u8 []), .any, .any, .any, .any], .any] (by kernel_rfl) (globsPlain_of (by kernel_rfl)) (by kernel_rfl) (by kernel_rfl) (by kernel_rfl) ⟨lmots_began.ok, trivial⟩ trivial ?_ ?_
  · rw [loops]; exact trivial
  · intro args K r h
    unfold spec0 at h
    split at h
    · rw [body]; exact h
    · cases h
theorem ok : Proved Tryd.prog [(0, [.arr .u32 64 P.roots256]), (1, [.arr .u64 80 P.roots512])] 82 spec := proved_coer _ ok0
end lmots_seeded
end

section
open Go Go.Abs Go.Proofs
set_option maxRecDepth 100000
set_option linter.unusedVariables false
namespace lmots_Public
def S6 (v3 : List Int) (v27 : Int) (v28 : Int) (h1 : List Int) (h0_0 : Int) (h0_1 : List Int) (h0_2 : Int) (h0_3 : Int) (h0_4 : Int) (h0_5 : Int) : ASt := ⟨[(12, .own 1), (3, .sl (.ints .u8 v3)), (10, .ptr 0 0), (27, .v (.int .i64 v27)), (28, .v (.int .i64 v28))], [(1, some ⟨.row 5 (.ints .u8 h1), false⟩), (0, some ⟨.box 130 [.v (.int .i64 h0_0), .sl (.ints .u8 h0_1), .v (.int .u32 h0_2), .v (.int .i64 h0_3), .v (.int .i64 h0_4), .v (.int .i64 h0_5)], false⟩)], 2, 48⟩
def V6 : ASt → Option ((List Int) × Int × Int × (List Int) × Int × (List Int) × Int × Int × Int × Int)
  | ⟨[(12, .own 1), (3, .sl (.ints .u8 v3)), (10, .ptr 0 0), (27, .v (.int .i64 v27)), (28, .v (.int .i64 v28))], [(1, some ⟨.row 5 (.ints .u8 h1), false⟩), (0, some ⟨.box 130 [.v (.int .i64 h0_0), .sl (.ints .u8 h0_1), .v (.int .u32 h0_2), .v (.int .i64 h0_3), .v (.int .i64 h0_4), .v (.int .i64 h0_5)], false⟩)], 2, 48⟩ => some (v3, v27, v28, h1, h0_0, h0_1, h0_2, h0_3, h0_4, h0_5)
  | _ => none
theorem V6_ok (st : ASt) (x : (List Int) × Int × Int × (List Int) × Int × (List Int) × Int × Int × Int × Int) (h : V6 st = some x) : st = S6 x.1 x.2.1 x.2.2.1 x.2.2.2.1 x.2.2.2.2.1 x.2.2.2.2.2.1 x.2.2.2.2.2.2.1 x.2.2.2.2.2.2.2.1 x.2.2.2.2.2.2.2.2.1 x.2.2.2.2.2.2.2.2.2 := by
  unfold V6 at h
  split at h
  · cases h; rfl
  · cases h
noncomputable def L6 : LSpec := fun st K => match V6 st with
  | some x => P.lmots_Public_l6 x.1 x.2.1 x.2.2.1 x.2.2.2.1 x.2.2.2.2.1 x.2.2.2.2.2.1 x.2.2.2.2.2.2.1 x.2.2.2.2.2.2.2.1 x.2.2.2.2.2.2.2.2.1 x.2.2.2.2.2.2.2.2.2 (fun v3 v27 v28 h1 h0_0 h0_1 h0_2 h0_3 h0_4 h0_5 => K (.exit 0) (S6 v3 v27 v28 h1 h0_0 h0_1 h0_2 h0_3 h0_4 h0_5))
  | none => none
noncomputable def D : Ctx := ({ P := Tryd.prog, G := [(82, lmots_seeded.spec), (83, lmots_leaf_along.spec), (84, lmots_leaf_steps.spec), (85, lmots_leaf_part.spec), (86, lmots_leaf_sum.spec)], globs := [(0, [.arr .u32 64 P.roots256]), (1, [.arr .u64 80 P.roots512])], hints := [(6, ⟨[3, 10, 27, 28], [(12, 5, .ints .u8 [])], [8, 9], [], none, []⟩)], loops := [(6, L6)], inl := [] } : Ctx)
def E6 (K : AExit → ASt → Option R) : (((List Int) × Int × Int × (List Int) × Int × (List Int) × Int × Int × Int × Int)) → Option R := (fun x => K (.exit 0) (S6 x.1 x.2.1 x.2.2.1 x.2.2.2.1 x.2.2.2.2.1 x.2.2.2.2.2.1 x.2.2.2.2.2.2.1 x.2.2.2.2.2.2.2.1 x.2.2.2.2.2.2.2.2.1 x.2.2.2.2.2.2.2.2.2))
theorem round6 (K : AExit → ASt → Option R) (next : ASt → Option R) (x : (List Int) × Int × Int × (List Int) × Int × (List Int) × Int × Int × Int × Int) : roundA D (loopAt Tryd.f45 6) K next (S6 x.1 x.2.1 x.2.2.1 x.2.2.2.1 x.2.2.2.2.1 x.2.2.2.2.2.1 x.2.2.2.2.2.2.1 x.2.2.2.2.2.2.2.1 x.2.2.2.2.2.2.2.2.1 x.2.2.2.2.2.2.2.2.2) = (fun (x : (List Int) × Int × Int × (List Int) × Int × (List Int) × Int × Int × Int × Int) (next : ((List Int) × Int × Int × (List Int) × Int × (List Int) × Int × Int × Int × Int) → Option R) (ex : (((List Int) × Int × Int × (List Int) × Int × (List Int) × Int × Int × Int × Int)) → Option R) => P.lmots_Public_r6 x.1 x.2.1 x.2.2.1 x.2.2.2.1 x.2.2.2.2.1 x.2.2.2.2.2.1 x.2.2.2.2.2.2.1 x.2.2.2.2.2.2.2.1 x.2.2.2.2.2.2.2.2.1 x.2.2.2.2.2.2.2.2.2 (fun v3 v27 v28 h1 h0_0 h0_1 h0_2 h0_3 h0_4 h0_5 => next (v3, v27, v28, h1, h0_0, h0_1, h0_2, h0_3, h0_4, h0_5)) (fun v3 v27 v28 h1 h0_0 h0_1 h0_2 h0_3 h0_4 h0_5 => ex ((v3, v27, v28, h1, h0_0, h0_1, h0_2, h0_3, h0_4, h0_5)))) x (fun x => next (S6 x.1 x.2.1 x.2.2.1 x.2.2.2.1 x.2.2.2.2.1 x.2.2.2.2.2.1 x.2.2.2.2.2.2.1 x.2.2.2.2.2.2.2.1 x.2.2.2.2.2.2.2.2.1 x.2.2.2.2.2.2.2.2.2)) (E6 K) := by kernel_rfl
theorem lq6 (st : ASt) (K : AExit → ASt → Option R) : L6 st K = vMap (V6 st) (fun x => lp (fun (x : (List Int) × Int × Int × (List Int) × Int × (List Int) × Int × Int × Int × Int) (next : ((List Int) × Int × Int × (List Int) × Int × (List Int) × Int × Int × Int × Int) → Option R) (ex : (((List Int) × Int × Int × (List Int) × Int × (List Int) × Int × Int × Int × Int)) → Option R) => P.lmots_Public_r6 x.1 x.2.1 x.2.2.1 x.2.2.2.1 x.2.2.2.2.1 x.2.2.2.2.2.1 x.2.2.2.2.2.2.1 x.2.2.2.2.2.2.2.1 x.2.2.2.2.2.2.2.2.1 x.2.2.2.2.2.2.2.2.2 (fun v3 v27 v28 h1 h0_0 h0_1 h0_2 h0_3 h0_4 h0_5 => next (v3, v27, v28, h1, h0_0, h0_1, h0_2, h0_3, h0_4, h0_5)) (fun v3 v27 v28 h1 h0_0 h0_1 h0_2 h0_3 h0_4 h0_5 => ex ((v3, v27, v28, h1, h0_0, h0_1, h0_2, h0_3, h0_4, h0_5)))) x (E6 K)) := by
  unfold L6
  cases V6 st with
  | none => rfl
  | some x => simp only [P.lmots_Public_l6_eq]; rfl
theorem loop6 : LoopOk D (loopAt Tryd.f45 6) := loopOk_lp (X := (List Int) × Int × Int × (List Int) × Int × (List Int) × Int × Int × Int × Int) (Y := ((List Int) × Int × Int × (List Int) × Int × (List Int) × Int × Int × Int × Int)) (fun x => S6 x.1 x.2.1 x.2.2.1 x.2.2.2.1 x.2.2.2.2.1 x.2.2.2.2.2.1 x.2.2.2.2.2.2.1 x.2.2.2.2.2.2.2.1 x.2.2.2.2.2.2.2.2.1 x.2.2.2.2.2.2.2.2.2) V6_ok (stp := (fun (x : (List Int) × Int × Int × (List Int) × Int × (List Int) × Int × Int × Int × Int) (next : ((List Int) × Int × Int × (List Int) × Int × (List Int) × Int × Int × Int × Int) → Option R) (ex : (((List Int) × Int × Int × (List Int) × Int × (List Int) × Int × Int × Int × Int)) → Option R) => P.lmots_Public_r6 x.1 x.2.1 x.2.2.1 x.2.2.2.1 x.2.2.2.2.1 x.2.2.2.2.2.1 x.2.2.2.2.2.2.1 x.2.2.2.2.2.2.2.1 x.2.2.2.2.2.2.2.2.1 x.2.2.2.2.2.2.2.2.2 (fun v3 v27 v28 h1 h0_0 h0_1 h0_2 h0_3 h0_4 h0_5 => next (v3, v27, v28, h1, h0_0, h0_1, h0_2, h0_3, h0_4, h0_5)) (fun v3 v27 v28 h1 h0_0 h0_1 h0_2 h0_3 h0_4 h0_5 => ex ((v3, v27, v28, h1, h0_0, h0_1, h0_2, h0_3, h0_4, h0_5))))) (enc := E6) (L := L6) (by kernel_rfl) lq6 round6
theorem body (a0 : Int) (a1 : List Int) (a2 : Int) (a3 : List Int) (K : AVal → Option R) : bodyA D Tryd.f45 [.fr 5 (.ints .u8 []), .any] [.v (.int .i64 a0), .sl (.ints .u8 a1), .v (.int .u32 a2), .sl (.ints .u8 a3)] K = P.lmots_Public a0 a1 a2 a3 (fun r0 r1 => K (.tuple [.fr 5 (.ints .u8 r0), .v (.int .i64 r1)])) := by
  rw [P.lmots_Public_eq]
  kernel_rfl
theorem loops : loopsOf (Tryd.f45.body.getD .skip) = [loopAt Tryd.f45 6] := by kernel_rfl
noncomputable def spec0 : Abs.Spec := fun args K => match args with
  | [.v (.int .i64 a0), .sl (.ints .u8 a1), .v (.int .u32 a2), .sl (.ints .u8 a3)] => P.lmots_Public a0 a1 a2 a3 (fun r0 r1 => K (.tuple [.fr 5 (.ints .u8 r0), .v (.int .i64 r1)]))
  | _ => none
noncomputable def spec : Abs.Spec := fun args K => spec0 (coerL [.any, .sl (.ints .u8 []), .any, .sl (.ints .u8 [])] args) K
theorem ok0 : Proved Tryd.prog [(0, [.arr .u32 64 P.roots256]), (1, [.arr .u64 80 P.roots512])] 45 spec0 := by
  refine proved_of (D := D) (fn := Tryd.f45) (c := Tryd.f45.body.getD .skip) [.fr 5 (.ints .u8 []), .any] (by kernel_rfl) (globsPlain_of (by kernel_rfl)) (by kernel_rfl) (by kernel_rfl) (by kernel_rfl) ⟨lmots_seeded.ok, lmots_leaf_along.ok, lmots_leaf_steps.ok, lmots_leaf_part.ok, lmots_leaf_sum.ok, trivial⟩ trivial ?_ ?_
  · rw [loops]; exact ⟨loop6, trivial⟩
  · intro args K r h
    unfold spec0 at h
    split at h
    · rw [body]; exact h
    · cases h
theorem ok : Proved Tryd.prog [(0, [.arr .u32 64 P.roots256]), (1, [.arr .u64 80 P.roots512])] 45 spec := proved_coer _ ok0
end lmots_Public
end

section
open Go Go.Abs Go.Proofs
set_option maxRecDepth 100000
set_option linter.unusedVariables false
namespace lmots_Sign
def S7 (v3 : List Int) (v44 : Int) (v45 : Int) (h40 : List Int) (h0_0 : Int) (h0_1 : List Int) (h0_2 : Int) (h0_3 : Int) (h0_4 : Int) (h0_5 : Int) (h5 : List Int) : ASt := ⟨[(15, .own 40), (3, .sl (.ints .u8 v3)), (12, .ptr 0 0), (43, .own 5), (44, .v (.int .i64 v44)), (45, .v (.int .i64 v45))], [(40, some ⟨.row 5 (.ints .u8 h40), false⟩), (0, some ⟨.box 130 [.v (.int .i64 h0_0), .sl (.ints .u8 h0_1), .v (.int .u32 h0_2), .v (.int .i64 h0_3), .v (.int .i64 h0_4), .v (.int .i64 h0_5)], false⟩), (5, some ⟨.row 71 (.ints .u32 h5), false⟩)], 41, 63⟩
def V7 : ASt → Option ((List Int) × Int × Int × (List Int) × Int × (List Int) × Int × Int × Int × Int × (List Int))
  | ⟨[(15, .own 40), (3, .sl (.ints .u8 v3)), (12, .ptr 0 0), (43, .own 5), (44, .v (.int .i64 v44)), (45, .v (.int .i64 v45))], [(40, some ⟨.row 5 (.ints .u8 h40), false⟩), (0, some ⟨.box 130 [.v (.int .i64 h0_0), .sl (.ints .u8 h0_1), .v (.int .u32 h0_2), .v (.int .i64 h0_3), .v (.int .i64 h0_4), .v (.int .i64 h0_5)], false⟩), (5, some ⟨.row 71 (.ints .u32 h5), false⟩)], 41, 63⟩ => some (v3, v44, v45, h40, h0_0, h0_1, h0_2, h0_3, h0_4, h0_5, h5)
  | _ => none
theorem V7_ok (st : ASt) (x : (List Int) × Int × Int × (List Int) × Int × (List Int) × Int × Int × Int × Int × (List Int)) (h : V7 st = some x) : st = S7 x.1 x.2.1 x.2.2.1 x.2.2.2.1 x.2.2.2.2.1 x.2.2.2.2.2.1 x.2.2.2.2.2.2.1 x.2.2.2.2.2.2.2.1 x.2.2.2.2.2.2.2.2.1 x.2.2.2.2.2.2.2.2.2.1 x.2.2.2.2.2.2.2.2.2.2 := by
  unfold V7 at h
  split at h
  · cases h; rfl
  · cases h
noncomputable def L7 : LSpec := fun st K => match V7 st with
  | some x => P.lmots_Sign_l7 x.1 x.2.1 x.2.2.1 x.2.2.2.1 x.2.2.2.2.1 x.2.2.2.2.2.1 x.2.2.2.2.2.2.1 x.2.2.2.2.2.2.2.1 x.2.2.2.2.2.2.2.2.1 x.2.2.2.2.2.2.2.2.2.1 x.2.2.2.2.2.2.2.2.2.2 (fun v3 v44 v45 h40 h0_0 h0_1 h0_2 h0_3 h0_4 h0_5 h5 => K (.exit 0) (S7 v3 v44 v45 h40 h0_0 h0_1 h0_2 h0_3 h0_4 h0_5 h5))
  | none => none
noncomputable def D : Ctx := ({ P := Tryd.prog, G := [(68, bits_Be.spec), (76, bits_Join.spec), (82, lmots_seeded.spec), (83, lmots_leaf_along.spec), (85, lmots_leaf_part.spec), (92, lmots_leaf_digitsOf.spec)], globs := [(0, [.arr .u32 64 P.roots256]), (1, [.arr .u64 80 P.roots512])], hints := [(7, ⟨[3, 12, 43, 44, 45], [(15, 5, .ints .u8 [])], [10, 11], [], some (40, [0, 5]), []⟩)], loops := [(7, L7)], inl := [] } : Ctx)
def E7 (K : AExit → ASt → Option R) : (((List Int) × Int × Int × (List Int) × Int × (List Int) × Int × Int × Int × Int × (List Int))) → Option R := (fun x => K (.exit 0) (S7 x.1 x.2.1 x.2.2.1 x.2.2.2.1 x.2.2.2.2.1 x.2.2.2.2.2.1 x.2.2.2.2.2.2.1 x.2.2.2.2.2.2.2.1 x.2.2.2.2.2.2.2.2.1 x.2.2.2.2.2.2.2.2.2.1 x.2.2.2.2.2.2.2.2.2.2))
theorem round7 (K : AExit → ASt → Option R) (next : ASt → Option R) (x : (List Int) × Int × Int × (List Int) × Int × (List Int) × Int × Int × Int × Int × (List Int)) : roundA D (loopAt Tryd.f47 7) K next (S7 x.1 x.2.1 x.2.2.1 x.2.2.2.1 x.2.2.2.2.1 x.2.2.2.2.2.1 x.2.2.2.2.2.2.1 x.2.2.2.2.2.2.2.1 x.2.2.2.2.2.2.2.2.1 x.2.2.2.2.2.2.2.2.2.1 x.2.2.2.2.2.2.2.2.2.2) = (fun (x : (List Int) × Int × Int × (List Int) × Int × (List Int) × Int × Int × Int × Int × (List Int)) (next : ((List Int) × Int × Int × (List Int) × Int × (List Int) × Int × Int × Int × Int × (List Int)) → Option R) (ex : (((List Int) × Int × Int × (List Int) × Int × (List Int) × Int × Int × Int × Int × (List Int))) → Option R) => P.lmots_Sign_r7 x.1 x.2.1 x.2.2.1 x.2.2.2.1 x.2.2.2.2.1 x.2.2.2.2.2.1 x.2.2.2.2.2.2.1 x.2.2.2.2.2.2.2.1 x.2.2.2.2.2.2.2.2.1 x.2.2.2.2.2.2.2.2.2.1 x.2.2.2.2.2.2.2.2.2.2 (fun v3 v44 v45 h40 h0_0 h0_1 h0_2 h0_3 h0_4 h0_5 h5 => next (v3, v44, v45, h40, h0_0, h0_1, h0_2, h0_3, h0_4, h0_5, h5)) (fun v3 v44 v45 h40 h0_0 h0_1 h0_2 h0_3 h0_4 h0_5 h5 => ex ((v3, v44, v45, h40, h0_0, h0_1, h0_2, h0_3, h0_4, h0_5, h5)))) x (fun x => next (S7 x.1 x.2.1 x.2.2.1 x.2.2.2.1 x.2.2.2.2.1 x.2.2.2.2.2.1 x.2.2.2.2.2.2.1 x.2.2.2.2.2.2.2.1 x.2.2.2.2.2.2.2.2.1 x.2.2.2.2.2.2.2.2.2.1 x.2.2.2.2.2.2.2.2.2.2)) (E7 K) := by kernel_rfl
theorem lq7 (st : ASt) (K : AExit → ASt → Option R) : L7 st K = vMap (V7 st) (fun x => lp (fun (x : (List Int) × Int × Int × (List Int) × Int × (List Int) × Int × Int × Int × Int × (List Int)) (next : ((List Int) × Int × Int × (List Int) × Int × (List Int) × Int × Int × Int × Int × (List Int)) → Option R) (ex : (((List Int) × Int × Int × (List Int) × Int × (List Int) × Int × Int × Int × Int × (List Int))) → Option R) => P.lmots_Sign_r7 x.1 x.2.1 x.2.2.1 x.2.2.2.1 x.2.2.2.2.1 x.2.2.2.2.2.1 x.2.2.2.2.2.2.1 x.2.2.2.2.2.2.2.1 x.2.2.2.2.2.2.2.2.1 x.2.2.2.2.2.2.2.2.2.1 x.2.2.2.2.2.2.2.2.2.2 (fun v3 v44 v45 h40 h0_0 h0_1 h0_2 h0_3 h0_4 h0_5 h5 => next (v3, v44, v45, h40, h0_0, h0_1, h0_2, h0_3, h0_4, h0_5, h5)) (fun v3 v44 v45 h40 h0_0 h0_1 h0_2 h0_3 h0_4 h0_5 h5 => ex ((v3, v44, v45, h40, h0_0, h0_1, h0_2, h0_3, h0_4, h0_5, h5)))) x (E7 K)) := by
  unfold L7
  cases V7 st with
  | none => rfl
  | some x => simp only [P.lmots_Sign_l7_eq]; rfl
theorem loop7 : LoopOk D (loopAt Tryd.f47 7) := loopOk_lp (X := (List Int) × Int × Int × (List Int) × Int × (List Int) × Int × Int × Int × Int × (List Int)) (Y := ((List Int) × Int × Int × (List Int) × Int × (List Int) × Int × Int × Int × Int × (List Int))) (fun x => S7 x.1 x.2.1 x.2.2.1 x.2.2.2.1 x.2.2.2.2.1 x.2.2.2.2.2.1 x.2.2.2.2.2.2.1 x.2.2.2.2.2.2.2.1 x.2.2.2.2.2.2.2.2.1 x.2.2.2.2.2.2.2.2.2.1 x.2.2.2.2.2.2.2.2.2.2) V7_ok (stp := (fun (x : (List Int) × Int × Int × (List Int) × Int × (List Int) × Int × Int × Int × Int × (List Int)) (next : ((List Int) × Int × Int × (List Int) × Int × (List Int) × Int × Int × Int × Int × (List Int)) → Option R) (ex : (((List Int) × Int × Int × (List Int) × Int × (List Int) × Int × Int × Int × Int × (List Int))) → Option R) => P.lmots_Sign_r7 x.1 x.2.1 x.2.2.1 x.2.2.2.1 x.2.2.2.2.1 x.2.2.2.2.2.1 x.2.2.2.2.2.2.1 x.2.2.2.2.2.2.2.1 x.2.2.2.2.2.2.2.2.1 x.2.2.2.2.2.2.2.2.2.1 x.2.2.2.2.2.2.2.2.2.2 (fun v3 v44 v45 h40 h0_0 h0_1 h0_2 h0_3 h0_4 h0_5 h5 => next (v3, v44, v45, h40, h0_0, h0_1, h0_2, h0_3, h0_4, h0_5, h5)) (fun v3 v44 v45 h40 h0_0 h0_1 h0_2 h0_3 h0_4 h0_5 h5 => ex ((v3, v44, v45, h40, h0_0, h0_1, h0_2, h0_3, h0_4, h0_5, h5))))) (enc := E7) (L := L7) (by kernel_rfl) lq7 round7
theorem body (a0 : Int) (a1 : List Int) (a2 : Int) (a3 : List Int) (a4 : List Int) (K : AVal → Option R) : bodyA D Tryd.f47 [.fr 5 (.ints .u8 []), .any] [.v (.int .i64 a0), .sl (.ints .u8 a1), .v (.int .u32 a2), .sl (.ints .u8 a3), .sl (.ints .u8 a4)] K = P.lmots_Sign a0 a1 a2 a3 a4 (fun r0 r1 => K (.tuple [.fr 5 (.ints .u8 r0), .v (.int .i64 r1)])) := by
  rw [P.lmots_Sign_eq]
  kernel_rfl
theorem loops : loopsOf (Tryd.f47.body.getD .skip) = [loopAt Tryd.f47 7] := by kernel_rfl
noncomputable def spec0 : Abs.Spec := fun args K => match args with
  | [.v (.int .i64 a0), .sl (.ints .u8 a1), .v (.int .u32 a2), .sl (.ints .u8 a3), .sl (.ints .u8 a4)] => P.lmots_Sign a0 a1 a2 a3 a4 (fun r0 r1 => K (.tuple [.fr 5 (.ints .u8 r0), .v (.int .i64 r1)]))
  | _ => none
noncomputable def spec : Abs.Spec := fun args K => spec0 (coerL [.any, .sl (.ints .u8 []), .any, .sl (.ints .u8 []), .sl (.ints .u8 [])] args) K
theorem ok0 : Proved Tryd.prog [(0, [.arr .u32 64 P.roots256]), (1, [.arr .u64 80 P.roots512])] 47 spec0 := by
  refine proved_of (D := D) (fn := Tryd.f47) (c := Tryd.f47.body.getD .skip) [.fr 5 (.ints .u8 []), .any] (by kernel_rfl) (globsPlain_of (by kernel_rfl)) (by kernel_rfl) (by kernel_rfl) (by kernel_rfl) ⟨bits_Be.ok, bits_Join.ok, lmots_seeded.ok, lmots_leaf_along.ok, lmots_leaf_part.ok, lmots_leaf_digitsOf.ok, trivial⟩ trivial ?_ ?_
  · rw [loops]; exact ⟨loop7, trivial⟩
  · intro args K r h
    unfold spec0 at h
    split at h
    · rw [body]; exact h
    · cases h
theorem ok : Proved Tryd.prog [(0, [.arr .u32 64 P.roots256]), (1, [.arr .u64 80 P.roots512])] 47 spec := proved_coer _ ok0
end lmots_Sign
end

section
open Go Go.Abs Go.Proofs
set_option maxRecDepth 100000
set_option linter.unusedVariables false
namespace L14_LmotsSigns
noncomputable def D : Ctx := ({ P := Tryd.prog, G := [(18, R01_Same.spec), (43, L14_few.spec), (44, L14_awake.spec), (45, lmots_Public.spec), (46, R14_Public.spec), (47, lmots_Sign.spec), (48, R14_Sign.spec), (49, lmots_Candidate.spec), (50, R14_Candidate.spec)], globs := [(0, [.arr .u32 64 P.roots256]), (1, [.arr .u64 80 P.roots512])], hints := [], loops := [], inl := [] } : Ctx)
theorem body (a0 : Int) (a1 : List Int) (a2 : Int) (a3 : List Int) (a4 : List Int) (a5 : List Int) (K : AVal → Option R) : bodyA D Tryd.f10 [.any] [.v (.int .i64 a0), .sl (.ints .u8 a1), .v (.int .u32 a2), .sl (.ints .u8 a3), .sl (.ints .u8 a4), .sl (.ints .u8 a5)] K = P.L14_LmotsSigns a0 a1 a2 a3 a4 a5 (fun r0 => K (.v (.bool r0))) := by
  rw [P.L14_LmotsSigns_eq]
  kernel_rfl
theorem loops : loopsOf (Tryd.f10.body.getD .skip) = [] := by kernel_rfl
noncomputable def spec0 : Abs.Spec := fun args K => match args with
  | [.v (.int .i64 a0), .sl (.ints .u8 a1), .v (.int .u32 a2), .sl (.ints .u8 a3), .sl (.ints .u8 a4), .sl (.ints .u8 a5)] => P.L14_LmotsSigns a0 a1 a2 a3 a4 a5 (fun r0 => K (.v (.bool r0)))
  | _ => none
noncomputable def spec : Abs.Spec := fun args K => spec0 (coerL [.any, .sl (.ints .u8 []), .any, .sl (.ints .u8 []), .sl (.ints .u8 []), .sl (.ints .u8 [])] args) K
theorem ok0 : Proved Tryd.prog [(0, [.arr .u32 64 P.roots256]), (1, [.arr .u64 80 P.roots512])] 10 spec0 := by
  refine proved_of (D := D) (fn := Tryd.f10) (c := Tryd.f10.body.getD .skip) [.any] (by kernel_rfl) (globsPlain_of (by kernel_rfl)) (by kernel_rfl) (by kernel_rfl) (by kernel_rfl) ⟨R01_Same.ok, L14_few.ok, L14_awake.ok, lmots_Public.ok, R14_Public.ok, lmots_Sign.ok, R14_Sign.ok, lmots_Candidate.ok, R14_Candidate.ok, trivial⟩ trivial ?_ ?_
  · rw [loops]; exact trivial
  · intro args K r h
    unfold spec0 at h
    split at h
    · rw [body]; exact h
    · cases h
theorem ok : Proved Tryd.prog [(0, [.arr .u32 64 P.roots256]), (1, [.arr .u64 80 P.roots512])] 10 spec := proved_coer _ ok0
end L14_LmotsSigns
end
